import JvmDerived
import JvmDerived.Pilot.@@N@@Statement
import JvmDerived.Pilot.@@N@@Code
set_option linter.unusedVariables false
set_option linter.unusedSimpArgs false
namespace Jvm.Pilot.@@N@@.Own
open Jvm Jvm.ClassFile Sem Op Lib Jvm.Free Jvm.Stand Jvm.LawKit Jvm.RoadKit Bundle
/-! The walk's own logic: a judgement on a frame, one rule a step. -/
def Goes (p : Program) (e : Env) (below : List Frame) (PQ : Outcome → State → Prop) (t : State) : Prop :=
  ∃ s₂ o, Steps p.tables e below t s₂ ∧ s₂.status = .running ∧ Ended s₂ below o ∧ PQ o s₂
def EndP (wd : Bool) (s Z : State) (EL : List (String × Nat)) (n0 : Nat) (h0 : Heap) (ws : List Addr) (k n : Nat) (Q : Option Value → Heap → Prop) (o : Outcome) (u : State) : Prop :=
  ∃ v L, o = .returned v ∧ (Fr n0 L ∧ Old Z n0 u.heap ∧ Keep h0 u.heap ws ∧ Q v u.heap) ∧
    (match wd with | true => CHr Z EL s.vm s.heap u.vm u.heap ∧ ReturnedEndW s o u L k n | false => FrameEnd s o u L k n)
/-- the contract of one body: from the heap h0, with these arguments, it returns and Q holds; what lay in h0 stands but for ws -/
def Con (wd : Bool) (l : Launch) (Z : State) (EL : List (String × Nat)) (n0 : Nat) (y : MethodName) (bytes : ByteArray) (maxL : Nat) (ret : Option FieldType) (rm : Room) (as' : Array Value) (h0 : Heap) (ws : List Addr) (Q : Option Value → Heap → Prop) : Prop :=
  ∀ wds : List Jvm.Cond, MetFree l y (head1 (Jvm.Cond.code y bytes maxL ret :: wds) rm) (fun a U => a = as' ∧ Z.Warmed39 U.vm ∧ U.heap = h0 ∧ (wd = true → CHv Z EL U.vm h0)) (fun _ _ _ _ _ => True)
    (fun _ U o U' => EndP wd U Z EL n0 h0 ws rm.cells rm.slots Q o U')
def Good (p : Program) (meth : Method) (c : Code) (code : ByteArray) (maxL : Nat) (ret : Option FieldType) (nm : String) : Prop :=
  p.tables.exec = Jvm.exec ∧ c.code = code ∧ c.maxLocals = maxL ∧ meth.sig.returnType = ret ∧ meth.locks = false ∧ meth.name = nm
def Wk (p : Program) (l : Launch) (e : Env) (R : Room) (s : State) (m : MethodId) (args : Array Value) (below : List Frame) (meth : Method) (c : Code)
    (own : String) (Z : State) (a0 : Array Value) (EL : List (String × Nat)) (n0 : Nat) (h0 : Heap) (ws : List Addr) (wd : Bool)
    (sf : List Addr) (vm : Vm) (T : State) (h : Heap) (locs : List Loc) (cells slots : Nat) : Prop :=
  Stand p l e R (s.setVm vm) m args below meth c T locs cells slots ∧ T.heap = h ∧ Z.Warmed39 vm ∧ vm.findClass own = some m.cls ∧ s.Since vm h.size ∧ s.heap = h0 ∧
    Fr n0 locs ∧ Old Z n0 h ∧ Keep h0 h ws ∧ (wd = false → vm = s.vm) ∧
    (wd = true → EW Z a0 EL ∧ CHr Z EL s.vm h0 vm h ∧ ∀ x ∈ sf, x < h.size ∧ Safe Z EL vm h x)
def Ok (p : Program) (l : Launch) (e : Env) (R : Room) (s : State) (m : MethodId) (args : Array Value) (below : List Frame) (meth : Method) (c : Code)
    (own : String) (Z : State) (a0 : Array Value) (EL : List (String × Nat)) (n0 : Nat) (h0 : Heap) (ws : List Addr) (wd : Bool) (Q : Option Value → Heap → Prop)
    (sf : List Addr) (h : Heap) (cells slots : Nat) (g : JFrame) : Prop :=
  ∀ vm T locs, Wk p l e R s m args below meth c own Z a0 EL n0 h0 ws wd sf vm T h locs cells slots → Goes p e below (EndP wd s Z EL n0 h0 ws R.cells R.slots Q) (T.setTop g)
def SafeFor (wd : Bool) (Z : State) (EL : List (String × Nat)) (sf : List Addr) (h : Heap) (a : Addr) : Prop := wd = true → (a ∈ sf ∨ ∀ vm, Z.vm.Alike vm → Safe Z EL vm h a)
section Core
variable {p : Program} {l : Launch} {e : Env} {R : Room} {s : State} {m : MethodId} {args : Array Value} {below : List Frame} {meth : Method} {c : Code}
  {own : String} {Z : State} {a0 : Array Value} {EL : List (String × Nat)} {n0 : Nat} {h0 : Heap} {ws : List Addr} {wd : Bool} {Q : Option Value → Heap → Prop}
  {sf : List Addr} {h : Heap} {cells slots : Nat} {g g' : JFrame} {code : ByteArray} {maxL : Nat} {ret : Option FieldType} {nm : String} {a : Addr}
theorem SafeFor.narrow : SafeFor false Z EL sf h a := fun q => nomatch q
theorem SafeFor.mem (q : a ∈ sf) : SafeFor wd Z EL sf h a := fun _ => Or.inl q
theorem SafeFor.exa {C : String} (E : Exa Z h a C) (h1 : C ≠ "java/lang/String") (h2 : C ≠ "[B") : SafeFor wd Z EL sf h a := fun _ => Or.inr fun _ hal => Safe.exa hal E h1 h2
theorem SafeFor.arv {k : ClassId} {ty : FieldType} {z : Int32} {vs : List Value} {dv : Value} (F : Arv Z h a k ty z vs dv) (ht : ty ≠ .byte) : SafeFor wd Z EL sf h a := fun _ => Or.inr fun _ hal => Safe.arv hal F ht
/-- entering -/
theorem Con.intro {y : MethodName} {rm : Room} {as' : Array Value} (hp : plainFor y = true) (hO : Old Z n0 h0) (hE : wd = true → EW Z a0 EL)
    (body : ∀ (p : Program) (e : Env) (s : State) (m : MethodId) (below : List Frame) (meth : Method) (c : Code), Good p meth c code maxL ret y.name →
      Ok p l e rm s m as' below meth c y.cls Z a0 EL n0 h0 ws wd Q [] h0 0 0 (entryFrame m as' maxL)) : Con wd l Z EL n0 y code maxL ret rm as' h0 ws Q := by
  intro wds
  refine MetFree.of_bodySF hp hisR ?_
  intro p e s m args below meth c s₁ Bd hml hP hK
  obtain ⟨rfl, hZ, hh, hC⟩ := hP
  have hown := findClass_of_methodNamed Bd.named
  have hnm := (name_of_methodNamed Bd.named Bd.method).1
  have X0 : Stand p l e rm s m _ below meth c s₁ [] 0 0 := Stand.of_body Bd
  have e0 : s₁.heap = h0 := by rw [← hh, Bd.state]; rfl
  exact body p e s m below meth c ⟨Bd.exec, Bd.bytes, hml, Bd.returns, Bd.notSynchronized, hnm⟩ s.vm s₁ []
    ⟨X0, e0, hZ, hown, (State.WarmedH.refl s).since _, hh, Fr.nil _, hO, Keep.refl _ _, fun _ => rfl, fun q => ⟨hE q, CHr.refl (hC q), fun _ z => nomatch z⟩⟩
/-- a step that leaves tables and heap -/
theorem ok_step (st : ∀ T target, At T m c below → Steps p.tables e below (T.setTop g') target → Steps p.tables e below (T.setTop g) target)
    (k : Ok p l e R s m args below meth c own Z a0 EL n0 h0 ws wd Q sf h cells slots g') : Ok p l e R s m args below meth c own Z a0 EL n0 h0 ws wd Q sf h cells slots g := by
  intro vm T locs W
  obtain ⟨s₂, o, h1, h2⟩ := k vm T locs W
  exact ⟨s₂, o, st T s₂ W.1.here h1, h2⟩
/-- a step that leaves the heap and may warm the tables -/
theorem ok_stepT (st : ∀ vm T locs, Stand p l e R (s.setVm vm) m args below meth c T locs cells slots → T.heap = h → Z.Warmed39 vm → vm.findClass own = some m.cls → Old Z n0 h →
      ∃ T', Stand p l e R (s.setVm vm) m args below meth c T' locs cells slots ∧ T'.heap = h ∧ ∀ target, Steps p.tables e below (T'.setTop g') target → Steps p.tables e below (T.setTop g) target)
    (k : Ok p l e R s m args below meth c own Z a0 EL n0 h0 ws wd Q sf h cells slots g') : Ok p l e R s m args below meth c own Z a0 EL n0 h0 ws wd Q sf h cells slots g := by
  intro vm T locs W
  obtain ⟨X, e0, hZ, hown, hS, hh, N, O, K, r⟩ := W
  obtain ⟨T', X', e1, st'⟩ := st vm T locs X e0 hZ hown O
  obtain ⟨s₂, o, h1, h2⟩ := k vm T' locs ⟨X', e1, hZ, hown, hS, hh, N, O, K, r⟩
  exact ⟨s₂, o, st' s₂ h1, h2⟩
/-- a step that makes cells at the heap's end -/
theorem ok_stepE {cells' slots' : Nat} {sf' : List Addr} {P : Heap → Prop} (hg : ∀ x ∈ sf', x ∈ sf ∨ x = h.size)
    (st : ∀ vm T locs, Stand p l e R (s.setVm vm) m args below meth c T locs cells slots → T.heap = h → Z.Warmed39 vm → vm.findClass own = some m.cls → Old Z n0 h →
      ∃ T' h', Stand p l e R (s.setVm vm) m args below meth c T' locs cells' slots' ∧ T'.heap = h' ∧ Ext h h' ∧ h.size < h'.size ∧ P h' ∧ ∀ target, Steps p.tables e below (T'.setTop g') target → Steps p.tables e below (T.setTop g) target)
    (k : ∀ h', Keep h h' [] → n0 ≤ h.size → h0.size ≤ h.size → P h' → Ok p l e R s m args below meth c own Z a0 EL n0 h0 ws wd Q sf' h' cells' slots' g') :
    Ok p l e R s m args below meth c own Z a0 EL n0 h0 ws wd Q sf h cells slots g := by
  intro vm T locs W
  obtain ⟨X, e0, hZ, hown, hS, hh, N, O, K, r, r'⟩ := W
  obtain ⟨T', h', X', e1, E, hlt, hP, st'⟩ := st vm T locs X e0 hZ hown O
  have hsz : n0 ≤ h.size := O.1 ▸ O.2.1
  obtain ⟨s₂, o, h1, h2⟩ := k h' ((Keep.refl h []).ext E) hsz K.1 hP vm T' locs ⟨X', e1, hZ, hown, ⟨hS.1, fun j q hj hq => ⟨(hS.2 j q hj hq).1, Nat.lt_of_lt_of_le (hS.2 j q hj hq).2 E.1⟩⟩, hh, N, O.ext E, K.ext E, r, fun q => by
    obtain ⟨hE, hC, hs⟩ := r' q
    refine ⟨hE, hC.trans (CHr.ext E hC.1), fun x hx => ?_⟩
    rcases hg x hx with z | rfl
    · exact ⟨Nat.lt_of_lt_of_le (hs x z).1 E.1, Safe.ext E hC.1 (hs x z).2⟩
    · exact ⟨hlt, Safe.ext E hC.1 (Safe.new (Nat.le_refl _))⟩⟩
  exact ⟨s₂, o, st' s₂ h1, h2⟩
/-- a step that writes one place -/
theorem ok_stepW {sl : Nat} {v : Value} (hn : n0 ≤ a) (hw : a ∈ ws ∨ h0.size ≤ a) (hs : SafeFor wd Z EL sf h a)
    (st : ∀ vm T locs, Stand p l e R (s.setVm vm) m args below meth c T locs cells slots → T.heap = h → Z.Warmed39 vm → vm.findClass own = some m.cls → Old Z n0 h →
      ∃ T' h', Stand p l e R (s.setVm vm) m args below meth c T' (locs ++ [⟨a, sl⟩]) cells slots ∧ T'.heap = h' ∧ Wr h h' a sl v ∧ ∀ target, Steps p.tables e below (T'.setTop g') target → Steps p.tables e below (T.setTop g) target)
    (k : ∀ h', Keep h h' [a] → Wr h h' a sl v → Ok p l e R s m args below meth c own Z a0 EL n0 h0 ws wd Q sf h' cells slots g') :
    Ok p l e R s m args below meth c own Z a0 EL n0 h0 ws wd Q sf h cells slots g := by
  intro vm T locs W
  obtain ⟨X, e0, hZ, hown, hS, hh, N, O, K, r, r'⟩ := W
  obtain ⟨T', h', X', e1, Wr1, st'⟩ := st vm T locs X e0 hZ hown O
  have hsz := Wr1.size
  obtain ⟨s₂, o, h1, h2⟩ := k h' (Keep.of_wr Wr1) Wr1 vm T' _ ⟨X', e1, hZ, hown, by rw [hsz]; exact hS, hh, Fr.snoc X' N hn, O.wr Wr1 hn, K.wr Wr1 hw, r, fun q => by
    obtain ⟨hE, hC, hs'⟩ := r' q
    have hsa : Safe Z EL vm h a := by
      rcases hs q with z | z
      · exact (hs' a z).2
      · exact z vm hZ.alike
    exact ⟨hE, hC.trans (CHr.wr Wr1 hsa hC.1), fun x hx => ⟨by rw [hsz]; exact (hs' x hx).1, Safe.wr Wr1 hsa hC.1 (hs' x hx).2⟩⟩⟩
  exact ⟨s₂, o, st' s₂ h1, h2⟩
/-- the same frame, said otherwise -/
theorem ok_as (g' : JFrame) (q : g = g') (k : Ok p l e R s m args below meth c own Z a0 EL n0 h0 ws wd Q sf h cells slots g') : Ok p l e R s m args below meth c own Z a0 EL n0 h0 ws wd Q sf h cells slots g := q ▸ k
/-- more cells and slots booked -/
theorem ok_book (cells' slots' : Nat) (q1 : cells ≤ cells') (q2 : slots ≤ slots') (k : Ok p l e R s m args below meth c own Z a0 EL n0 h0 ws wd Q sf h cells' slots' g) : Ok p l e R s m args below meth c own Z a0 EL n0 h0 ws wd Q sf h cells slots g := by
  intro vm T locs W
  obtain ⟨X, r⟩ := W
  exact k vm T locs ⟨{ X with same := X.same.mono q1 q2 }, r⟩
/-- another list of safe places -/
theorem ok_sf (sf' : List Addr) (q : ∀ x ∈ sf', x < h.size ∧ SafeFor wd Z EL sf h x) (k : Ok p l e R s m args below meth c own Z a0 EL n0 h0 ws wd Q sf' h cells slots g) : Ok p l e R s m args below meth c own Z a0 EL n0 h0 ws wd Q sf h cells slots g := by
  intro vm T locs W
  obtain ⟨X, e0, hZ, hown, hS, hh, N, O, K, r, r'⟩ := W
  exact k vm T locs ⟨X, e0, hZ, hown, hS, hh, N, O, K, r, fun w => by
    obtain ⟨hE, hC, hs⟩ := r' w
    refine ⟨hE, hC, fun x hx => ⟨(q x hx).1, ?_⟩⟩
    rcases (q x hx).2 w with z | z
    · exact (hs x z).2
    · exact z vm hZ.alike⟩
theorem ok_old (k : Old Z n0 h → Ok p l e R s m args below meth c own Z a0 EL n0 h0 ws wd Q sf h cells slots g) : Ok p l e R s m args below meth c own Z a0 EL n0 h0 ws wd Q sf h cells slots g := by
  intro vm T locs W
  exact k W.2.2.2.2.2.2.2.1 vm T locs W
theorem ok_keep (k : Keep h0 h ws → Ok p l e R s m args below meth c own Z a0 EL n0 h0 ws wd Q sf h cells slots g) : Ok p l e R s m args below meth c own Z a0 EL n0 h0 ws wd Q sf h cells slots g := by
  intro vm T locs W
  exact k W.2.2.2.2.2.2.2.2.1 vm T locs W
/-- the end -/
theorem ok_end {v : Option Value} (G : Good p meth c code maxL ret nm) (hv : ret = none → v = none) (hq : Q v h)
    (st : ∀ vm T locs fs, Stand p l e R (s.setVm vm) m args below meth c T locs cells slots → (∀ (f : JFrame) (acts : List Action), f.method = m → f.locked = none → f.entered = [] → (doReturn e (T.setTop f) acts v).1 = T.setFrames fs) →
      Steps p.tables e below (T.setTop g) (T.setFrames fs)) (hc : cells ≤ R.cells) (hl : slots ≤ R.slots) : Ok p l e R s m args below meth c own Z a0 EL n0 h0 ws wd Q sf h cells slots g := by
  intro vm T locs W
  obtain ⟨X, e0, hZ, hown, hS, hh, N, O, K, r, r'⟩ := W
  have hlocks : meth.locks = false := G.2.2.2.2.1
  have hv' : meth.sig.returnType = none → v = none := by rw [G.2.2.2.1]; exact hv
  subst e0
  cases wd with
  | false =>
    have e1 : vm = s.vm := r rfl
    obtain ⟨fs, hr, hrun, hended, hW, hsame⟩ := X.leave (v := v) hv' hlocks
    refine ⟨_, _, st vm T locs fs X hr, hrun, hended, v, locs, rfl, ⟨N, O, K, hq⟩, ⟨v, rfl⟩, ?_, ?_⟩
    · rw [e1] at hW; exact hW
    · rw [e1] at hsame; exact hsame.mono hc hl
  | true =>
    obtain ⟨hE, hC, hs⟩ := r' rfl
    obtain ⟨fs, hr, hrun, hended, hEnd⟩ := X.leaveW hS (Nat.le_refl _) (v := v) hv' hlocks
    refine ⟨_, _, st vm T locs fs X hr, hrun, hended, v, locs, rfl, ⟨N, O, K, hq⟩, ?_, hEnd.1, hEnd.2.1, hEnd.2.2.1, hEnd.2.2.2.mono hc hl⟩
    have q := hC.trans (CHv.at X hZ hE hC.1)
    rw [← hh] at q
    exact q
theorem ok_return (G : Good p meth c code maxL ret nm) (hret : ret = none) {pc : Nat} {L : Array Slot} (hd : decode code pc = .ok (.return_, 1)) (hq : Q none h) (hc : cells ≤ R.cells) (hl : slots ≤ R.slots) :
    Ok p l e R s m args below meth c own Z a0 EL n0 h0 ws wd Q sf h cells slots (mkF m pc L []) :=
  ok_end G (fun _ => rfl) hq (fun vm T locs fs X hr => X.returnOut G.1 (by rw [G.2.2.2.1]; exact hret) (hb G.2.1 hd) hr) hc hl
theorem ok_ret {t : FieldType} {w : Value} {i : Instr} (G : Good p meth c code maxL ret nm) (hret : ret = some t) {pc : Nat} {L : Array Slot} {S : List Value}
    (hi : (i = .ireturn ∧ (t = .int ∨ t = .boolean ∨ t = .byte ∨ t = .char ∨ t = .short) ∧ ∃ z, w = .int z) ∨ (i = .lreturn ∧ t = .long ∧ ∃ z, w = .long z) ∨ (i = .dreturn ∧ t = .double ∧ ∃ z, w = .double z) ∨ (i = .freturn ∧ t = .float ∧ ∃ z, w = .float z) ∨ (i = .areturn ∧ t.isReference = true ∧ w.isRef = true))
    (hd : decode code pc = .ok (i, 1)) (hn : narrow t w = w) (hq : Q (some w) h) (hc : cells ≤ R.cells) (hl : slots ≤ R.slots) :
    Ok p l e R s m args below meth c own Z a0 EL n0 h0 ws wd Q sf h cells slots (mkF m pc L (w :: S)) :=
  ok_end G (fun q => by rw [hret] at q; cases q) hq (fun vm T locs fs X hr => retOut X G.1 (by rw [G.2.2.2.1]; exact hret) hn hi (hb G.2.1 hd) hr) hc hl
theorem ok_retI {z : Int32} (G : Good p meth c code maxL ret nm) (hret : ret = some .int) {pc : Nat} {L : Array Slot} {S : List Value} (hd : decode code pc = .ok (.ireturn, 1)) (hq : Q (some (.int z)) h) (hc : cells ≤ R.cells) (hl : slots ≤ R.slots) :
    Ok p l e R s m args below meth c own Z a0 EL n0 h0 ws wd Q sf h cells slots (mkF m pc L (.int z :: S)) := ok_ret G hret (Or.inl ⟨rfl, Or.inl rfl, z, rfl⟩) hd rfl hq hc hl
theorem ok_retN {z : Int32} {t : FieldType} (G : Good p meth c code maxL ret nm) (hret : ret = some t) (ht : t = .boolean ∨ t = .byte ∨ t = .char ∨ t = .short) {pc : Nat} {L : Array Slot} {S : List Value} (hd : decode code pc = .ok (.ireturn, 1)) (hn : narrow t (.int z) = .int z) (hq : Q (some (.int z)) h) (hc : cells ≤ R.cells) (hl : slots ≤ R.slots) :
    Ok p l e R s m args below meth c own Z a0 EL n0 h0 ws wd Q sf h cells slots (mkF m pc L (.int z :: S)) := ok_ret G hret (Or.inl ⟨rfl, Or.inr ht, z, rfl⟩) hd hn hq hc hl
theorem ok_retJ {z : Int64} (G : Good p meth c code maxL ret nm) (hret : ret = some .long) {pc : Nat} {L : Array Slot} {S : List Value} (hd : decode code pc = .ok (.lreturn, 1)) (hq : Q (some (.long z)) h) (hc : cells ≤ R.cells) (hl : slots ≤ R.slots) :
    Ok p l e R s m args below meth c own Z a0 EL n0 h0 ws wd Q sf h cells slots (mkF m pc L (.long z :: S)) := ok_ret G hret (Or.inr (Or.inl ⟨rfl, rfl, z, rfl⟩)) hd rfl hq hc hl
theorem ok_retA {w : Value} {t : FieldType} (G : Good p meth c code maxL ret nm) (hret : ret = some t) (ht : t.isReference = true) (hw : w.isRef = true) {pc : Nat} {L : Array Slot} {S : List Value} (hd : decode code pc = .ok (.areturn, 1)) (hn : narrow t w = w) (hq : Q (some w) h) (hc : cells ≤ R.cells) (hl : slots ≤ R.slots) :
    Ok p l e R s m args below meth c own Z a0 EL n0 h0 ws wd Q sf h cells slots (mkF m pc L (w :: S)) := ok_ret G hret (Or.inr (Or.inr (Or.inr (Or.inr ⟨rfl, ht, hw⟩)))) hd hn hq hc hl
end Core
end Jvm.Pilot.@@N@@.Own
namespace Jvm.Pilot.@@N@@.Own
open Jvm Jvm.ClassFile Sem Op Lib Jvm.Free Jvm.Stand Jvm.LawKit Jvm.RoadKit Bundle
section Plain
variable {p : Program} {l : Launch} {e : Env} {R : Room} {s : State} {m : MethodId} {args : Array Value} {below : List Frame} {meth : Method} {c : Code}
  {own : String} {Z : State} {a0 : Array Value} {EL : List (String × Nat)} {n0 : Nat} {h0 : Heap} {ws : List Addr} {wd : Bool} {Q : Option Value → Heap → Prop}
  {sf : List Addr} {h : Heap} {cells slots : Nat} {code : ByteArray} {maxL : Nat} {ret : Option FieldType} {nm : String} {a : Addr}
theorem ok_aload (G : Good p meth c code maxL ret nm) {pc : Nat} {L : Array Slot} {S : List Value} {k0 : Nat} {v : Value} (hd : decode code pc = .ok (.aload k0, 2)) (hl : L[k0]? = some (.val v)) (hv : v.isRef = true) (k : Ok p l e R s m args below meth c own Z a0 EL n0 h0 ws wd Q sf h cells slots (mkF m (pc + 2) L (v :: S))) : Ok p l e R s m args below meth c own Z a0 EL n0 h0 ws wd Q sf h cells slots (mkF m pc L S) :=
  ok_step (fun T t hA k => XS.aload hA G.1 rfl (hb G.2.1 hd) hl hv k) k
theorem ok_aloadN (G : Good p meth c code maxL ret nm) {pc : Nat} {L : Array Slot} {S : List Value} {k0 : Fin 4} {v : Value} (hd : decode code pc = .ok (.aload_n k0, 1)) (hl : L[k0.val]? = some (.val v)) (hv : v.isRef = true) (k : Ok p l e R s m args below meth c own Z a0 EL n0 h0 ws wd Q sf h cells slots (mkF m (pc + 1) L (v :: S))) : Ok p l e R s m args below meth c own Z a0 EL n0 h0 ws wd Q sf h cells slots (mkF m pc L S) :=
  ok_step (fun T t hA k => XS.aloadN hA G.1 rfl (hb G.2.1 hd) hl hv k) k
theorem ok_iload (G : Good p meth c code maxL ret nm) {pc : Nat} {L : Array Slot} {S : List Value} {k0 : Nat} {v : Int32} (hd : decode code pc = .ok (.iload k0, 2)) (hl : L[k0]? = some (.val (.int v))) (k : Ok p l e R s m args below meth c own Z a0 EL n0 h0 ws wd Q sf h cells slots (mkF m (pc + 2) L ((.int v) :: S))) : Ok p l e R s m args below meth c own Z a0 EL n0 h0 ws wd Q sf h cells slots (mkF m pc L S) :=
  ok_step (fun T t hA k => XS.iload hA G.1 rfl (hb G.2.1 hd) hl k) k
theorem ok_iloadN (G : Good p meth c code maxL ret nm) {pc : Nat} {L : Array Slot} {S : List Value} {k0 : Fin 4} {v : Int32} (hd : decode code pc = .ok (.iload_n k0, 1)) (hl : L[k0.val]? = some (.val (.int v))) (k : Ok p l e R s m args below meth c own Z a0 EL n0 h0 ws wd Q sf h cells slots (mkF m (pc + 1) L ((.int v) :: S))) : Ok p l e R s m args below meth c own Z a0 EL n0 h0 ws wd Q sf h cells slots (mkF m pc L S) :=
  ok_step (fun T t hA k => XS.iloadN hA G.1 rfl (hb G.2.1 hd) hl k) k
theorem ok_lload (G : Good p meth c code maxL ret nm) {pc : Nat} {L : Array Slot} {S : List Value} {k0 : Nat} {v : Int64} (hd : decode code pc = .ok (.lload k0, 2)) (hl : L[k0]? = some (.val (.long v))) (k : Ok p l e R s m args below meth c own Z a0 EL n0 h0 ws wd Q sf h cells slots (mkF m (pc + 2) L ((.long v) :: S))) : Ok p l e R s m args below meth c own Z a0 EL n0 h0 ws wd Q sf h cells slots (mkF m pc L S) :=
  ok_step (fun T t hA k => XS.lload hA G.1 rfl (hb G.2.1 hd) hl k) k
theorem ok_lloadN (G : Good p meth c code maxL ret nm) {pc : Nat} {L : Array Slot} {S : List Value} {k0 : Fin 4} {v : Int64} (hd : decode code pc = .ok (.lload_n k0, 1)) (hl : L[k0.val]? = some (.val (.long v))) (k : Ok p l e R s m args below meth c own Z a0 EL n0 h0 ws wd Q sf h cells slots (mkF m (pc + 1) L ((.long v) :: S))) : Ok p l e R s m args below meth c own Z a0 EL n0 h0 ws wd Q sf h cells slots (mkF m pc L S) :=
  ok_step (fun T t hA k => XS.lloadN hA G.1 rfl (hb G.2.1 hd) hl k) k
theorem ok_istore (G : Good p meth c code maxL ret nm) {pc : Nat} {L : Array Slot} {S : List Value} {k0 : Nat} {v : Int32} (L' : Array Slot) (hd : decode code pc = .ok (.istore k0, 2)) (hl : storeLocals L k0 (.int v) = some L') (k : Ok p l e R s m args below meth c own Z a0 EL n0 h0 ws wd Q sf h cells slots (mkF m (pc + 2) L' S)) : Ok p l e R s m args below meth c own Z a0 EL n0 h0 ws wd Q sf h cells slots (mkF m pc L ((.int v) :: S)) :=
  ok_step (fun T t hA k => XS.istore hA G.1 rfl (hb G.2.1 hd) rfl hl k) k
theorem ok_istoreN (G : Good p meth c code maxL ret nm) {pc : Nat} {L : Array Slot} {S : List Value} {k0 : Fin 4} {v : Int32} (L' : Array Slot) (hd : decode code pc = .ok (.istore_n k0, 1)) (hl : storeLocals L k0.val (.int v) = some L') (k : Ok p l e R s m args below meth c own Z a0 EL n0 h0 ws wd Q sf h cells slots (mkF m (pc + 1) L' S)) : Ok p l e R s m args below meth c own Z a0 EL n0 h0 ws wd Q sf h cells slots (mkF m pc L ((.int v) :: S)) :=
  ok_step (fun T t hA k => XS.istoreN hA G.1 rfl (hb G.2.1 hd) rfl hl k) k
theorem ok_lstore (G : Good p meth c code maxL ret nm) {pc : Nat} {L : Array Slot} {S : List Value} {k0 : Nat} {v : Int64} (L' : Array Slot) (hd : decode code pc = .ok (.lstore k0, 2)) (hl : storeLocals L k0 (.long v) = some L') (k : Ok p l e R s m args below meth c own Z a0 EL n0 h0 ws wd Q sf h cells slots (mkF m (pc + 2) L' S)) : Ok p l e R s m args below meth c own Z a0 EL n0 h0 ws wd Q sf h cells slots (mkF m pc L ((.long v) :: S)) :=
  ok_step (fun T t hA k => XS.lstore hA G.1 rfl (hb G.2.1 hd) rfl hl k) k
theorem ok_lstoreN (G : Good p meth c code maxL ret nm) {pc : Nat} {L : Array Slot} {S : List Value} {k0 : Fin 4} {v : Int64} (L' : Array Slot) (hd : decode code pc = .ok (.lstore_n k0, 1)) (hl : storeLocals L k0.val (.long v) = some L') (k : Ok p l e R s m args below meth c own Z a0 EL n0 h0 ws wd Q sf h cells slots (mkF m (pc + 1) L' S)) : Ok p l e R s m args below meth c own Z a0 EL n0 h0 ws wd Q sf h cells slots (mkF m pc L ((.long v) :: S)) :=
  ok_step (fun T t hA k => XS.lstoreN hA G.1 rfl (hb G.2.1 hd) rfl hl k) k
theorem ok_astore (G : Good p meth c code maxL ret nm) {pc : Nat} {L : Array Slot} {S : List Value} {k0 : Nat} {v : Value} (L' : Array Slot) (hd : decode code pc = .ok (.astore k0, 2)) (hv : v.isRef = true) (hl : storeLocals L k0 v = some L') (k : Ok p l e R s m args below meth c own Z a0 EL n0 h0 ws wd Q sf h cells slots (mkF m (pc + 2) L' S)) : Ok p l e R s m args below meth c own Z a0 EL n0 h0 ws wd Q sf h cells slots (mkF m pc L (v :: S)) :=
  ok_step (fun T t hA k => XS.astore hA G.1 rfl (hb G.2.1 hd) rfl hv hl k) k
theorem ok_astoreN (G : Good p meth c code maxL ret nm) {pc : Nat} {L : Array Slot} {S : List Value} {k0 : Fin 4} {v : Value} (L' : Array Slot) (hd : decode code pc = .ok (.astore_n k0, 1)) (hv : v.isRef = true) (hl : storeLocals L k0.val v = some L') (k : Ok p l e R s m args below meth c own Z a0 EL n0 h0 ws wd Q sf h cells slots (mkF m (pc + 1) L' S)) : Ok p l e R s m args below meth c own Z a0 EL n0 h0 ws wd Q sf h cells slots (mkF m pc L (v :: S)) :=
  ok_step (fun T t hA k => XS.astoreN hA G.1 rfl (hb G.2.1 hd) rfl hv hl k) k
theorem ok_iconst (G : Good p meth c code maxL ret nm) {pc : Nat} {L : Array Slot} {S : List Value} {i : Int} (v : Int32) (hd : decode code pc = .ok (.iconst i, 1)) (hv : Int32.ofInt i = v) (k : Ok p l e R s m args below meth c own Z a0 EL n0 h0 ws wd Q sf h cells slots (mkF m (pc + 1) L (.int v :: S))) : Ok p l e R s m args below meth c own Z a0 EL n0 h0 ws wd Q sf h cells slots (mkF m pc L S) :=
  ok_step (fun T t hA k => XS.iconst hA G.1 rfl (hb G.2.1 hd) (by rw [hv]; exact k)) k
theorem ok_bipush (G : Good p meth c code maxL ret nm) {pc : Nat} {L : Array Slot} {S : List Value} {i : Int} (v : Int32) (hd : decode code pc = .ok (.bipush i, 2)) (hv : (Int8.ofInt i).toInt32 = v) (k : Ok p l e R s m args below meth c own Z a0 EL n0 h0 ws wd Q sf h cells slots (mkF m (pc + 2) L (.int v :: S))) : Ok p l e R s m args below meth c own Z a0 EL n0 h0 ws wd Q sf h cells slots (mkF m pc L S) :=
  ok_step (fun T t hA k => XS.bipush hA G.1 rfl (hb G.2.1 hd) (by rw [hv]; exact k)) k
theorem ok_sipush (G : Good p meth c code maxL ret nm) {pc : Nat} {L : Array Slot} {S : List Value} {i : Int} (v : Int32) (hd : decode code pc = .ok (.sipush i, 3)) (hv : (Int16.ofInt i).toInt32 = v) (k : Ok p l e R s m args below meth c own Z a0 EL n0 h0 ws wd Q sf h cells slots (mkF m (pc + 3) L (.int v :: S))) : Ok p l e R s m args below meth c own Z a0 EL n0 h0 ws wd Q sf h cells slots (mkF m pc L S) :=
  ok_step (fun T t hA k => XS.sipush hA G.1 rfl (hb G.2.1 hd) (by rw [hv]; exact k)) k
theorem ok_lconst0 (G : Good p meth c code maxL ret nm) {pc : Nat} {L : Array Slot} {S : List Value}  (hd : decode code pc = .ok (.lconst 0, 1)) (k : Ok p l e R s m args below meth c own Z a0 EL n0 h0 ws wd Q sf h cells slots (mkF m (pc + 1) L (.long 0 :: S))) : Ok p l e R s m args below meth c own Z a0 EL n0 h0 ws wd Q sf h cells slots (mkF m pc L S) :=
  ok_step (fun T t hA k => XS.lconst hA G.1 rfl (hb G.2.1 hd) k) k
theorem ok_lconst1 (G : Good p meth c code maxL ret nm) {pc : Nat} {L : Array Slot} {S : List Value}  (hd : decode code pc = .ok (.lconst 1, 1)) (k : Ok p l e R s m args below meth c own Z a0 EL n0 h0 ws wd Q sf h cells slots (mkF m (pc + 1) L (.long 1 :: S))) : Ok p l e R s m args below meth c own Z a0 EL n0 h0 ws wd Q sf h cells slots (mkF m pc L S) :=
  ok_step (fun T t hA k => XS.lconst hA G.1 rfl (hb G.2.1 hd) k) k
theorem ok_aconst_null (G : Good p meth c code maxL ret nm) {pc : Nat} {L : Array Slot} {S : List Value}  (hd : decode code pc = .ok (.aconst_null, 1)) (k : Ok p l e R s m args below meth c own Z a0 EL n0 h0 ws wd Q sf h cells slots (mkF m (pc + 1) L (.null :: S))) : Ok p l e R s m args below meth c own Z a0 EL n0 h0 ws wd Q sf h cells slots (mkF m pc L S) :=
  ok_step (fun T t hA k => XS.aconstNull hA G.1 rfl (hb G.2.1 hd) k) k
theorem ok_iadd (G : Good p meth c code maxL ret nm) {pc : Nat} {L : Array Slot} {S : List Value} {x y : Int32} (hd : decode code pc = .ok (.iadd, 1)) (k : Ok p l e R s m args below meth c own Z a0 EL n0 h0 ws wd Q sf h cells slots (mkF m (pc + 1) L (.int (x + y) :: S))) : Ok p l e R s m args below meth c own Z a0 EL n0 h0 ws wd Q sf h cells slots (mkF m pc L (.int y :: .int x :: S)) :=
  ok_step (fun T t hA k => XS.iadd hA G.1 rfl (hb G.2.1 hd) rfl k) k
theorem ok_isub (G : Good p meth c code maxL ret nm) {pc : Nat} {L : Array Slot} {S : List Value} {x y : Int32} (hd : decode code pc = .ok (.isub, 1)) (k : Ok p l e R s m args below meth c own Z a0 EL n0 h0 ws wd Q sf h cells slots (mkF m (pc + 1) L (.int (x - y) :: S))) : Ok p l e R s m args below meth c own Z a0 EL n0 h0 ws wd Q sf h cells slots (mkF m pc L (.int y :: .int x :: S)) :=
  ok_step (fun T t hA k => XS.isub hA G.1 rfl (hb G.2.1 hd) rfl k) k
theorem ok_imul (G : Good p meth c code maxL ret nm) {pc : Nat} {L : Array Slot} {S : List Value} {x y : Int32} (hd : decode code pc = .ok (.imul, 1)) (k : Ok p l e R s m args below meth c own Z a0 EL n0 h0 ws wd Q sf h cells slots (mkF m (pc + 1) L (.int (x * y) :: S))) : Ok p l e R s m args below meth c own Z a0 EL n0 h0 ws wd Q sf h cells slots (mkF m pc L (.int y :: .int x :: S)) :=
  ok_step (fun T t hA k => XS.imul hA G.1 rfl (hb G.2.1 hd) rfl k) k
theorem ok_iand (G : Good p meth c code maxL ret nm) {pc : Nat} {L : Array Slot} {S : List Value} {x y : Int32} (hd : decode code pc = .ok (.iand, 1)) (k : Ok p l e R s m args below meth c own Z a0 EL n0 h0 ws wd Q sf h cells slots (mkF m (pc + 1) L (.int (x &&& y) :: S))) : Ok p l e R s m args below meth c own Z a0 EL n0 h0 ws wd Q sf h cells slots (mkF m pc L (.int y :: .int x :: S)) :=
  ok_step (fun T t hA k => XS.iand hA G.1 rfl (hb G.2.1 hd) rfl k) k
theorem ok_ior (G : Good p meth c code maxL ret nm) {pc : Nat} {L : Array Slot} {S : List Value} {x y : Int32} (hd : decode code pc = .ok (.ior, 1)) (k : Ok p l e R s m args below meth c own Z a0 EL n0 h0 ws wd Q sf h cells slots (mkF m (pc + 1) L (.int (x ||| y) :: S))) : Ok p l e R s m args below meth c own Z a0 EL n0 h0 ws wd Q sf h cells slots (mkF m pc L (.int y :: .int x :: S)) :=
  ok_step (fun T t hA k => XS.ior hA G.1 rfl (hb G.2.1 hd) rfl k) k
theorem ok_ixor (G : Good p meth c code maxL ret nm) {pc : Nat} {L : Array Slot} {S : List Value} {x y : Int32} (hd : decode code pc = .ok (.ixor, 1)) (k : Ok p l e R s m args below meth c own Z a0 EL n0 h0 ws wd Q sf h cells slots (mkF m (pc + 1) L (.int (x ^^^ y) :: S))) : Ok p l e R s m args below meth c own Z a0 EL n0 h0 ws wd Q sf h cells slots (mkF m pc L (.int y :: .int x :: S)) :=
  ok_step (fun T t hA k => XS.ixor hA G.1 rfl (hb G.2.1 hd) rfl k) k
theorem ok_ishl (G : Good p meth c code maxL ret nm) {pc : Nat} {L : Array Slot} {S : List Value} {x y : Int32} (hd : decode code pc = .ok (.ishl, 1)) (k : Ok p l e R s m args below meth c own Z a0 EL n0 h0 ws wd Q sf h cells slots (mkF m (pc + 1) L (.int (x <<< (y &&& 31)) :: S))) : Ok p l e R s m args below meth c own Z a0 EL n0 h0 ws wd Q sf h cells slots (mkF m pc L (.int y :: .int x :: S)) :=
  ok_step (fun T t hA k => XS.ishl hA G.1 rfl (hb G.2.1 hd) rfl k) k
theorem ok_ishr (G : Good p meth c code maxL ret nm) {pc : Nat} {L : Array Slot} {S : List Value} {x y : Int32} (hd : decode code pc = .ok (.ishr, 1)) (k : Ok p l e R s m args below meth c own Z a0 EL n0 h0 ws wd Q sf h cells slots (mkF m (pc + 1) L (.int (x >>> (y &&& 31)) :: S))) : Ok p l e R s m args below meth c own Z a0 EL n0 h0 ws wd Q sf h cells slots (mkF m pc L (.int y :: .int x :: S)) :=
  ok_step (fun T t hA k => XS.ishr hA G.1 rfl (hb G.2.1 hd) rfl k) k
theorem ok_iushr (G : Good p meth c code maxL ret nm) {pc : Nat} {L : Array Slot} {S : List Value} {x y : Int32} (hd : decode code pc = .ok (.iushr, 1)) (k : Ok p l e R s m args below meth c own Z a0 EL n0 h0 ws wd Q sf h cells slots (mkF m (pc + 1) L (.int ((x.toUInt32 >>> (y &&& 31).toUInt32).toInt32) :: S))) : Ok p l e R s m args below meth c own Z a0 EL n0 h0 ws wd Q sf h cells slots (mkF m pc L (.int y :: .int x :: S)) :=
  ok_step (fun T t hA k => XS.iushr hA G.1 rfl (hb G.2.1 hd) rfl k) k
theorem ok_ladd (G : Good p meth c code maxL ret nm) {pc : Nat} {L : Array Slot} {S : List Value} {x y : Int64} (hd : decode code pc = .ok (.ladd, 1)) (k : Ok p l e R s m args below meth c own Z a0 EL n0 h0 ws wd Q sf h cells slots (mkF m (pc + 1) L (.long (x + y) :: S))) : Ok p l e R s m args below meth c own Z a0 EL n0 h0 ws wd Q sf h cells slots (mkF m pc L (.long y :: .long x :: S)) :=
  ok_step (fun T t hA k => XS.ladd hA G.1 rfl (hb G.2.1 hd) rfl k) k
theorem ok_lsub (G : Good p meth c code maxL ret nm) {pc : Nat} {L : Array Slot} {S : List Value} {x y : Int64} (hd : decode code pc = .ok (.lsub, 1)) (k : Ok p l e R s m args below meth c own Z a0 EL n0 h0 ws wd Q sf h cells slots (mkF m (pc + 1) L (.long (x - y) :: S))) : Ok p l e R s m args below meth c own Z a0 EL n0 h0 ws wd Q sf h cells slots (mkF m pc L (.long y :: .long x :: S)) :=
  ok_step (fun T t hA k => XS.lsub hA G.1 rfl (hb G.2.1 hd) rfl k) k
theorem ok_lmul (G : Good p meth c code maxL ret nm) {pc : Nat} {L : Array Slot} {S : List Value} {x y : Int64} (hd : decode code pc = .ok (.lmul, 1)) (k : Ok p l e R s m args below meth c own Z a0 EL n0 h0 ws wd Q sf h cells slots (mkF m (pc + 1) L (.long (x * y) :: S))) : Ok p l e R s m args below meth c own Z a0 EL n0 h0 ws wd Q sf h cells slots (mkF m pc L (.long y :: .long x :: S)) :=
  ok_step (fun T t hA k => XS.lmul hA G.1 rfl (hb G.2.1 hd) rfl k) k
theorem ok_land (G : Good p meth c code maxL ret nm) {pc : Nat} {L : Array Slot} {S : List Value} {x y : Int64} (hd : decode code pc = .ok (.land, 1)) (k : Ok p l e R s m args below meth c own Z a0 EL n0 h0 ws wd Q sf h cells slots (mkF m (pc + 1) L (.long (x &&& y) :: S))) : Ok p l e R s m args below meth c own Z a0 EL n0 h0 ws wd Q sf h cells slots (mkF m pc L (.long y :: .long x :: S)) :=
  ok_step (fun T t hA k => XS.land hA G.1 rfl (hb G.2.1 hd) rfl k) k
theorem ok_lor (G : Good p meth c code maxL ret nm) {pc : Nat} {L : Array Slot} {S : List Value} {x y : Int64} (hd : decode code pc = .ok (.lor, 1)) (k : Ok p l e R s m args below meth c own Z a0 EL n0 h0 ws wd Q sf h cells slots (mkF m (pc + 1) L (.long (x ||| y) :: S))) : Ok p l e R s m args below meth c own Z a0 EL n0 h0 ws wd Q sf h cells slots (mkF m pc L (.long y :: .long x :: S)) :=
  ok_step (fun T t hA k => XS.lor hA G.1 rfl (hb G.2.1 hd) rfl k) k
theorem ok_lxor (G : Good p meth c code maxL ret nm) {pc : Nat} {L : Array Slot} {S : List Value} {x y : Int64} (hd : decode code pc = .ok (.lxor, 1)) (k : Ok p l e R s m args below meth c own Z a0 EL n0 h0 ws wd Q sf h cells slots (mkF m (pc + 1) L (.long (x ^^^ y) :: S))) : Ok p l e R s m args below meth c own Z a0 EL n0 h0 ws wd Q sf h cells slots (mkF m pc L (.long y :: .long x :: S)) :=
  ok_step (fun T t hA k => XS.lxor hA G.1 rfl (hb G.2.1 hd) rfl k) k
theorem ok_idiv (G : Good p meth c code maxL ret nm) {pc : Nat} {L : Array Slot} {S : List Value} {x y : Int32} (hd : decode code pc = .ok (.idiv, 1)) (hy : y ≠ 0) (k : Ok p l e R s m args below meth c own Z a0 EL n0 h0 ws wd Q sf h cells slots (mkF m (pc + 1) L (.int (x / y) :: S))) : Ok p l e R s m args below meth c own Z a0 EL n0 h0 ws wd Q sf h cells slots (mkF m pc L (.int y :: .int x :: S)) :=
  ok_step (fun T t hA k => XS.idiv hA G.1 rfl (hb G.2.1 hd) rfl hy k) k
theorem ok_irem (G : Good p meth c code maxL ret nm) {pc : Nat} {L : Array Slot} {S : List Value} {x y : Int32} (hd : decode code pc = .ok (.irem, 1)) (hy : y ≠ 0) (k : Ok p l e R s m args below meth c own Z a0 EL n0 h0 ws wd Q sf h cells slots (mkF m (pc + 1) L (.int (x % y) :: S))) : Ok p l e R s m args below meth c own Z a0 EL n0 h0 ws wd Q sf h cells slots (mkF m pc L (.int y :: .int x :: S)) :=
  ok_step (fun T t hA k => XS.irem hA G.1 rfl (hb G.2.1 hd) rfl hy (by rw [irem_eq_mod x y]; exact k)) k
theorem ok_ldiv (G : Good p meth c code maxL ret nm) {pc : Nat} {L : Array Slot} {S : List Value} {x y : Int64} (hd : decode code pc = .ok (.ldiv, 1)) (hy : y ≠ 0) (k : Ok p l e R s m args below meth c own Z a0 EL n0 h0 ws wd Q sf h cells slots (mkF m (pc + 1) L (.long (x / y) :: S))) : Ok p l e R s m args below meth c own Z a0 EL n0 h0 ws wd Q sf h cells slots (mkF m pc L (.long y :: .long x :: S)) :=
  ok_step (fun T t hA k => XS.ldiv hA G.1 rfl (hb G.2.1 hd) rfl hy k) k
theorem ok_lrem (G : Good p meth c code maxL ret nm) {pc : Nat} {L : Array Slot} {S : List Value} {x y : Int64} (hd : decode code pc = .ok (.lrem, 1)) (hy : y ≠ 0) (k : Ok p l e R s m args below meth c own Z a0 EL n0 h0 ws wd Q sf h cells slots (mkF m (pc + 1) L (.long (x - x / y * y) :: S))) : Ok p l e R s m args below meth c own Z a0 EL n0 h0 ws wd Q sf h cells slots (mkF m pc L (.long y :: .long x :: S)) :=
  ok_step (fun T t hA k => XS.lrem hA G.1 rfl (hb G.2.1 hd) rfl hy k) k
theorem ok_ineg (G : Good p meth c code maxL ret nm) {pc : Nat} {L : Array Slot} {S : List Value} {x : Int32} (hd : decode code pc = .ok (.ineg, 1)) (k : Ok p l e R s m args below meth c own Z a0 EL n0 h0 ws wd Q sf h cells slots (mkF m (pc + 1) L (.int (-x) :: S))) : Ok p l e R s m args below meth c own Z a0 EL n0 h0 ws wd Q sf h cells slots (mkF m pc L (.int x :: S)) :=
  ok_step (fun T t hA k => XS.ineg hA G.1 rfl (hb G.2.1 hd) rfl k) k
theorem ok_i2b (G : Good p meth c code maxL ret nm) {pc : Nat} {L : Array Slot} {S : List Value} {x : Int32} (hd : decode code pc = .ok (.i2b, 1)) (k : Ok p l e R s m args below meth c own Z a0 EL n0 h0 ws wd Q sf h cells slots (mkF m (pc + 1) L (.int x.toInt8.toInt32 :: S))) : Ok p l e R s m args below meth c own Z a0 EL n0 h0 ws wd Q sf h cells slots (mkF m pc L (.int x :: S)) :=
  ok_step (fun T t hA k => XS.i2b hA G.1 rfl (hb G.2.1 hd) rfl k) k
theorem ok_i2c (G : Good p meth c code maxL ret nm) {pc : Nat} {L : Array Slot} {S : List Value} {x : Int32} (hd : decode code pc = .ok (.i2c, 1)) (k : Ok p l e R s m args below meth c own Z a0 EL n0 h0 ws wd Q sf h cells slots (mkF m (pc + 1) L (.int x.toUInt32.toUInt16.toUInt32.toInt32 :: S))) : Ok p l e R s m args below meth c own Z a0 EL n0 h0 ws wd Q sf h cells slots (mkF m pc L (.int x :: S)) :=
  ok_step (fun T t hA k => XS.i2c hA G.1 rfl (hb G.2.1 hd) rfl k) k
theorem ok_i2l (G : Good p meth c code maxL ret nm) {pc : Nat} {L : Array Slot} {S : List Value} {x : Int32} (hd : decode code pc = .ok (.i2l, 1)) (k : Ok p l e R s m args below meth c own Z a0 EL n0 h0 ws wd Q sf h cells slots (mkF m (pc + 1) L (.long x.toInt64 :: S))) : Ok p l e R s m args below meth c own Z a0 EL n0 h0 ws wd Q sf h cells slots (mkF m pc L (.int x :: S)) :=
  ok_step (fun T t hA k => XS.i2l hA G.1 rfl (hb G.2.1 hd) rfl k) k
theorem ok_l2i (G : Good p meth c code maxL ret nm) {pc : Nat} {L : Array Slot} {S : List Value} {x : Int64} (hd : decode code pc = .ok (.l2i, 1)) (k : Ok p l e R s m args below meth c own Z a0 EL n0 h0 ws wd Q sf h cells slots (mkF m (pc + 1) L (.int x.toInt32 :: S))) : Ok p l e R s m args below meth c own Z a0 EL n0 h0 ws wd Q sf h cells slots (mkF m pc L (.long x :: S)) :=
  ok_step (fun T t hA k => XS.l2i hA G.1 rfl (hb G.2.1 hd) rfl k) k
theorem ok_lcmp (G : Good p meth c code maxL ret nm) {pc : Nat} {L : Array Slot} {S : List Value} {x y : Int64} (hd : decode code pc = .ok (.lcmp, 1)) (k : Ok p l e R s m args below meth c own Z a0 EL n0 h0 ws wd Q sf h cells slots (mkF m (pc + 1) L (.int (lcmpW x y) :: S))) : Ok p l e R s m args below meth c own Z a0 EL n0 h0 ws wd Q sf h cells slots (mkF m pc L (.long y :: .long x :: S)) :=
  ok_step (fun T t hA k => XS.lcmp hA G.1 rfl (hb G.2.1 hd) rfl k) k
theorem ok_dup (G : Good p meth c code maxL ret nm) {pc : Nat} {L : Array Slot} {S : List Value} {v : Value} (hd : decode code pc = .ok (.dup, 1)) (hc : v.category = 1) (k : Ok p l e R s m args below meth c own Z a0 EL n0 h0 ws wd Q sf h cells slots (mkF m (pc + 1) L (v :: v :: S))) : Ok p l e R s m args below meth c own Z a0 EL n0 h0 ws wd Q sf h cells slots (mkF m pc L (v :: S)) :=
  ok_step (fun T t hA k => XS.dup hA G.1 rfl (hb G.2.1 hd) rfl hc k) k
theorem ok_pop (G : Good p meth c code maxL ret nm) {pc : Nat} {L : Array Slot} {S : List Value} {v : Value} (hd : decode code pc = .ok (.pop, 1)) (hc : v.category = 1) (k : Ok p l e R s m args below meth c own Z a0 EL n0 h0 ws wd Q sf h cells slots (mkF m (pc + 1) L S)) : Ok p l e R s m args below meth c own Z a0 EL n0 h0 ws wd Q sf h cells slots (mkF m pc L (v :: S)) :=
  ok_step (fun T t hA k => XS.pop hA G.1 rfl (hb G.2.1 hd) rfl hc k) k
theorem ok_dup_x1 (G : Good p meth c code maxL ret nm) {pc : Nat} {L : Array Slot} {S : List Value} {v w : Value} (hd : decode code pc = .ok (.dup_x1, 1)) (hc : v.category = 1) (hc2 : w.category = 1) (k : Ok p l e R s m args below meth c own Z a0 EL n0 h0 ws wd Q sf h cells slots (mkF m (pc + 1) L (v :: w :: v :: S))) : Ok p l e R s m args below meth c own Z a0 EL n0 h0 ws wd Q sf h cells slots (mkF m pc L (v :: w :: S)) :=
  ok_step (fun T t hA k => XS.dupX1 hA G.1 rfl (hb G.2.1 hd) rfl hc hc2 k) k
theorem ok_iinc (G : Good p meth c code maxL ret nm) {pc : Nat} {L : Array Slot} {S : List Value} {k0 : Nat} {cst : Int} {x : Int32} (v : Int32) (L' : Array Slot) (hd : decode code pc = .ok (.iinc k0 cst, 3)) (hl : L[k0]? = some (.val (.int x))) (hv : x + Int32.ofInt cst = v) (hl' : storeLocals L k0 (.int v) = some L') (k : Ok p l e R s m args below meth c own Z a0 EL n0 h0 ws wd Q sf h cells slots (mkF m (pc + 3) L' S)) : Ok p l e R s m args below meth c own Z a0 EL n0 h0 ws wd Q sf h cells slots (mkF m pc L S) :=
  ok_step (fun T t hA k => XS.iinc hA G.1 rfl (hb G.2.1 hd) hl (by rw [hv]; exact hl') k) k
theorem ok_goto (G : Good p meth c code maxL ret nm) {pc : Nat} {L : Array Slot} {S : List Value} {o : Int} (pc' : Nat) (hd : decode code pc = .ok (.goto o, 3)) (ho : 0 ≤ (pc : Int) + o) (hp : ((pc : Int) + o).toNat = pc') (k : Ok p l e R s m args below meth c own Z a0 EL n0 h0 ws wd Q sf h cells slots (mkF m pc' L S)) : Ok p l e R s m args below meth c own Z a0 EL n0 h0 ws wd Q sf h cells slots (mkF m pc L S) :=
  ok_step (fun T t hA k => XS.goto hA G.1 rfl rfl (hb G.2.1 hd) ho hp k) k
theorem ok_ifeq (G : Good p meth c code maxL ret nm) {pc : Nat} {L : Array Slot} {S : List Value} {x : Int32} {o : Int} (pc' : Nat) (hd : decode code pc = .ok (.ifCond .eq o, 3)) (ho : 0 ≤ (pc : Int) + o) (hp : ((pc : Int) + o).toNat = pc') (ky : x = 0 → Ok p l e R s m args below meth c own Z a0 EL n0 h0 ws wd Q sf h cells slots (mkF m pc' L S)) (kn : ¬ x = 0 → Ok p l e R s m args below meth c own Z a0 EL n0 h0 ws wd Q sf h cells slots (mkF m (pc + 3) L S)) : Ok p l e R s m args below meth c own Z a0 EL n0 h0 ws wd Q sf h cells slots (mkF m pc L (.int x :: S)) := by
  by_cases q : x = 0
  · exact ok_step (fun T t hA k => XS.ifYes hA G.1 rfl rfl (hb G.2.1 hd) rfl ((if0 _ _).trans (teq q).1) ho hp k) (ky q)
  · exact ok_step (fun T t hA k => XS.ifNo hA G.1 rfl (hb G.2.1 hd) rfl ((if0 _ _).trans (feq q).1) k) (kn q)
theorem ok_ifeqY (G : Good p meth c code maxL ret nm) {pc : Nat} {L : Array Slot} {S : List Value} {x : Int32} {o : Int} (pc' : Nat) (hd : decode code pc = .ok (.ifCond .eq o, 3)) (ho : 0 ≤ (pc : Int) + o) (hp : ((pc : Int) + o).toNat = pc') (q : x = 0) (k : Ok p l e R s m args below meth c own Z a0 EL n0 h0 ws wd Q sf h cells slots (mkF m pc' L S)) : Ok p l e R s m args below meth c own Z a0 EL n0 h0 ws wd Q sf h cells slots (mkF m pc L (.int x :: S)) := ok_ifeq G pc' hd ho hp (fun _ => k) (fun q' => absurd q q')
theorem ok_ifeqN (G : Good p meth c code maxL ret nm) {pc : Nat} {L : Array Slot} {S : List Value} {x : Int32} {o : Int} (hd : decode code pc = .ok (.ifCond .eq o, 3)) (q : ¬ x = 0) (k : Ok p l e R s m args below meth c own Z a0 EL n0 h0 ws wd Q sf h cells slots (mkF m (pc + 3) L S)) : Ok p l e R s m args below meth c own Z a0 EL n0 h0 ws wd Q sf h cells slots (mkF m pc L (.int x :: S)) :=
  ok_step (fun T t hA k => XS.ifNo hA G.1 rfl (hb G.2.1 hd) rfl ((if0 _ _).trans (feq q).1) k) k
theorem ok_icmpeq (G : Good p meth c code maxL ret nm) {pc : Nat} {L : Array Slot} {S : List Value} {x y : Int32} {o : Int} (pc' : Nat) (hd : decode code pc = .ok (.if_icmp .eq o, 3)) (ho : 0 ≤ (pc : Int) + o) (hp : ((pc : Int) + o).toNat = pc') (ky : x = y → Ok p l e R s m args below meth c own Z a0 EL n0 h0 ws wd Q sf h cells slots (mkF m pc' L S)) (kn : ¬ x = y → Ok p l e R s m args below meth c own Z a0 EL n0 h0 ws wd Q sf h cells slots (mkF m (pc + 3) L S)) : Ok p l e R s m args below meth c own Z a0 EL n0 h0 ws wd Q sf h cells slots (mkF m pc L (.int y :: .int x :: S)) := by
  by_cases q : x = y
  · exact ok_step (fun T t hA k => XS.icmpYes hA G.1 rfl rfl (hb G.2.1 hd) rfl (teq q).1 ho hp k) (ky q)
  · exact ok_step (fun T t hA k => XS.icmpNo hA G.1 rfl (hb G.2.1 hd) rfl (feq q).1 k) (kn q)
theorem ok_icmpeqY (G : Good p meth c code maxL ret nm) {pc : Nat} {L : Array Slot} {S : List Value} {x y : Int32} {o : Int} (pc' : Nat) (hd : decode code pc = .ok (.if_icmp .eq o, 3)) (ho : 0 ≤ (pc : Int) + o) (hp : ((pc : Int) + o).toNat = pc') (q : x = y) (k : Ok p l e R s m args below meth c own Z a0 EL n0 h0 ws wd Q sf h cells slots (mkF m pc' L S)) : Ok p l e R s m args below meth c own Z a0 EL n0 h0 ws wd Q sf h cells slots (mkF m pc L (.int y :: .int x :: S)) := ok_icmpeq G pc' hd ho hp (fun _ => k) (fun q' => absurd q q')
theorem ok_icmpeqN (G : Good p meth c code maxL ret nm) {pc : Nat} {L : Array Slot} {S : List Value} {x y : Int32} {o : Int} (hd : decode code pc = .ok (.if_icmp .eq o, 3)) (q : ¬ x = y) (k : Ok p l e R s m args below meth c own Z a0 EL n0 h0 ws wd Q sf h cells slots (mkF m (pc + 3) L S)) : Ok p l e R s m args below meth c own Z a0 EL n0 h0 ws wd Q sf h cells slots (mkF m pc L (.int y :: .int x :: S)) :=
  ok_step (fun T t hA k => XS.icmpNo hA G.1 rfl (hb G.2.1 hd) rfl (feq q).1 k) k
theorem ok_ifne (G : Good p meth c code maxL ret nm) {pc : Nat} {L : Array Slot} {S : List Value} {x : Int32} {o : Int} (pc' : Nat) (hd : decode code pc = .ok (.ifCond .ne o, 3)) (ho : 0 ≤ (pc : Int) + o) (hp : ((pc : Int) + o).toNat = pc') (ky : ¬ x = 0 → Ok p l e R s m args below meth c own Z a0 EL n0 h0 ws wd Q sf h cells slots (mkF m pc' L S)) (kn : x = 0 → Ok p l e R s m args below meth c own Z a0 EL n0 h0 ws wd Q sf h cells slots (mkF m (pc + 3) L S)) : Ok p l e R s m args below meth c own Z a0 EL n0 h0 ws wd Q sf h cells slots (mkF m pc L (.int x :: S)) := by
  by_cases q : x = 0
  · exact ok_step (fun T t hA k => XS.ifNo hA G.1 rfl (hb G.2.1 hd) rfl ((if0 _ _).trans (teq q).2) k) (kn q)
  · exact ok_step (fun T t hA k => XS.ifYes hA G.1 rfl rfl (hb G.2.1 hd) rfl ((if0 _ _).trans (feq q).2) ho hp k) (ky q)
theorem ok_ifneY (G : Good p meth c code maxL ret nm) {pc : Nat} {L : Array Slot} {S : List Value} {x : Int32} {o : Int} (pc' : Nat) (hd : decode code pc = .ok (.ifCond .ne o, 3)) (ho : 0 ≤ (pc : Int) + o) (hp : ((pc : Int) + o).toNat = pc') (q : ¬ x = 0) (k : Ok p l e R s m args below meth c own Z a0 EL n0 h0 ws wd Q sf h cells slots (mkF m pc' L S)) : Ok p l e R s m args below meth c own Z a0 EL n0 h0 ws wd Q sf h cells slots (mkF m pc L (.int x :: S)) := ok_ifne G pc' hd ho hp (fun _ => k) (fun q' => absurd q' q)
theorem ok_ifneN (G : Good p meth c code maxL ret nm) {pc : Nat} {L : Array Slot} {S : List Value} {x : Int32} {o : Int} (hd : decode code pc = .ok (.ifCond .ne o, 3)) (q : x = 0) (k : Ok p l e R s m args below meth c own Z a0 EL n0 h0 ws wd Q sf h cells slots (mkF m (pc + 3) L S)) : Ok p l e R s m args below meth c own Z a0 EL n0 h0 ws wd Q sf h cells slots (mkF m pc L (.int x :: S)) :=
  ok_step (fun T t hA k => XS.ifNo hA G.1 rfl (hb G.2.1 hd) rfl ((if0 _ _).trans (teq q).2) k) k
theorem ok_icmpne (G : Good p meth c code maxL ret nm) {pc : Nat} {L : Array Slot} {S : List Value} {x y : Int32} {o : Int} (pc' : Nat) (hd : decode code pc = .ok (.if_icmp .ne o, 3)) (ho : 0 ≤ (pc : Int) + o) (hp : ((pc : Int) + o).toNat = pc') (ky : ¬ x = y → Ok p l e R s m args below meth c own Z a0 EL n0 h0 ws wd Q sf h cells slots (mkF m pc' L S)) (kn : x = y → Ok p l e R s m args below meth c own Z a0 EL n0 h0 ws wd Q sf h cells slots (mkF m (pc + 3) L S)) : Ok p l e R s m args below meth c own Z a0 EL n0 h0 ws wd Q sf h cells slots (mkF m pc L (.int y :: .int x :: S)) := by
  by_cases q : x = y
  · exact ok_step (fun T t hA k => XS.icmpNo hA G.1 rfl (hb G.2.1 hd) rfl (teq q).2 k) (kn q)
  · exact ok_step (fun T t hA k => XS.icmpYes hA G.1 rfl rfl (hb G.2.1 hd) rfl (feq q).2 ho hp k) (ky q)
theorem ok_icmpneY (G : Good p meth c code maxL ret nm) {pc : Nat} {L : Array Slot} {S : List Value} {x y : Int32} {o : Int} (pc' : Nat) (hd : decode code pc = .ok (.if_icmp .ne o, 3)) (ho : 0 ≤ (pc : Int) + o) (hp : ((pc : Int) + o).toNat = pc') (q : ¬ x = y) (k : Ok p l e R s m args below meth c own Z a0 EL n0 h0 ws wd Q sf h cells slots (mkF m pc' L S)) : Ok p l e R s m args below meth c own Z a0 EL n0 h0 ws wd Q sf h cells slots (mkF m pc L (.int y :: .int x :: S)) := ok_icmpne G pc' hd ho hp (fun _ => k) (fun q' => absurd q' q)
theorem ok_icmpneN (G : Good p meth c code maxL ret nm) {pc : Nat} {L : Array Slot} {S : List Value} {x y : Int32} {o : Int} (hd : decode code pc = .ok (.if_icmp .ne o, 3)) (q : x = y) (k : Ok p l e R s m args below meth c own Z a0 EL n0 h0 ws wd Q sf h cells slots (mkF m (pc + 3) L S)) : Ok p l e R s m args below meth c own Z a0 EL n0 h0 ws wd Q sf h cells slots (mkF m pc L (.int y :: .int x :: S)) :=
  ok_step (fun T t hA k => XS.icmpNo hA G.1 rfl (hb G.2.1 hd) rfl (teq q).2 k) k
theorem ok_iflt (G : Good p meth c code maxL ret nm) {pc : Nat} {L : Array Slot} {S : List Value} {x : Int32} {o : Int} (pc' : Nat) (hd : decode code pc = .ok (.ifCond .lt o, 3)) (ho : 0 ≤ (pc : Int) + o) (hp : ((pc : Int) + o).toNat = pc') (ky : x < 0 → Ok p l e R s m args below meth c own Z a0 EL n0 h0 ws wd Q sf h cells slots (mkF m pc' L S)) (kn : ¬ x < 0 → Ok p l e R s m args below meth c own Z a0 EL n0 h0 ws wd Q sf h cells slots (mkF m (pc + 3) L S)) : Ok p l e R s m args below meth c own Z a0 EL n0 h0 ws wd Q sf h cells slots (mkF m pc L (.int x :: S)) := by
  by_cases q : x < 0
  · exact ok_step (fun T t hA k => XS.ifYes hA G.1 rfl rfl (hb G.2.1 hd) rfl ((if0 _ _).trans (tlt q).1) ho hp k) (ky q)
  · exact ok_step (fun T t hA k => XS.ifNo hA G.1 rfl (hb G.2.1 hd) rfl ((if0 _ _).trans (flt q).1) k) (kn q)
theorem ok_ifltY (G : Good p meth c code maxL ret nm) {pc : Nat} {L : Array Slot} {S : List Value} {x : Int32} {o : Int} (pc' : Nat) (hd : decode code pc = .ok (.ifCond .lt o, 3)) (ho : 0 ≤ (pc : Int) + o) (hp : ((pc : Int) + o).toNat = pc') (q : x < 0) (k : Ok p l e R s m args below meth c own Z a0 EL n0 h0 ws wd Q sf h cells slots (mkF m pc' L S)) : Ok p l e R s m args below meth c own Z a0 EL n0 h0 ws wd Q sf h cells slots (mkF m pc L (.int x :: S)) := ok_iflt G pc' hd ho hp (fun _ => k) (fun q' => absurd q q')
theorem ok_ifltN (G : Good p meth c code maxL ret nm) {pc : Nat} {L : Array Slot} {S : List Value} {x : Int32} {o : Int} (hd : decode code pc = .ok (.ifCond .lt o, 3)) (q : ¬ x < 0) (k : Ok p l e R s m args below meth c own Z a0 EL n0 h0 ws wd Q sf h cells slots (mkF m (pc + 3) L S)) : Ok p l e R s m args below meth c own Z a0 EL n0 h0 ws wd Q sf h cells slots (mkF m pc L (.int x :: S)) :=
  ok_step (fun T t hA k => XS.ifNo hA G.1 rfl (hb G.2.1 hd) rfl ((if0 _ _).trans (flt q).1) k) k
theorem ok_icmplt (G : Good p meth c code maxL ret nm) {pc : Nat} {L : Array Slot} {S : List Value} {x y : Int32} {o : Int} (pc' : Nat) (hd : decode code pc = .ok (.if_icmp .lt o, 3)) (ho : 0 ≤ (pc : Int) + o) (hp : ((pc : Int) + o).toNat = pc') (ky : x < y → Ok p l e R s m args below meth c own Z a0 EL n0 h0 ws wd Q sf h cells slots (mkF m pc' L S)) (kn : ¬ x < y → Ok p l e R s m args below meth c own Z a0 EL n0 h0 ws wd Q sf h cells slots (mkF m (pc + 3) L S)) : Ok p l e R s m args below meth c own Z a0 EL n0 h0 ws wd Q sf h cells slots (mkF m pc L (.int y :: .int x :: S)) := by
  by_cases q : x < y
  · exact ok_step (fun T t hA k => XS.icmpYes hA G.1 rfl rfl (hb G.2.1 hd) rfl (tlt q).1 ho hp k) (ky q)
  · exact ok_step (fun T t hA k => XS.icmpNo hA G.1 rfl (hb G.2.1 hd) rfl (flt q).1 k) (kn q)
theorem ok_icmpltY (G : Good p meth c code maxL ret nm) {pc : Nat} {L : Array Slot} {S : List Value} {x y : Int32} {o : Int} (pc' : Nat) (hd : decode code pc = .ok (.if_icmp .lt o, 3)) (ho : 0 ≤ (pc : Int) + o) (hp : ((pc : Int) + o).toNat = pc') (q : x < y) (k : Ok p l e R s m args below meth c own Z a0 EL n0 h0 ws wd Q sf h cells slots (mkF m pc' L S)) : Ok p l e R s m args below meth c own Z a0 EL n0 h0 ws wd Q sf h cells slots (mkF m pc L (.int y :: .int x :: S)) := ok_icmplt G pc' hd ho hp (fun _ => k) (fun q' => absurd q q')
theorem ok_icmpltN (G : Good p meth c code maxL ret nm) {pc : Nat} {L : Array Slot} {S : List Value} {x y : Int32} {o : Int} (hd : decode code pc = .ok (.if_icmp .lt o, 3)) (q : ¬ x < y) (k : Ok p l e R s m args below meth c own Z a0 EL n0 h0 ws wd Q sf h cells slots (mkF m (pc + 3) L S)) : Ok p l e R s m args below meth c own Z a0 EL n0 h0 ws wd Q sf h cells slots (mkF m pc L (.int y :: .int x :: S)) :=
  ok_step (fun T t hA k => XS.icmpNo hA G.1 rfl (hb G.2.1 hd) rfl (flt q).1 k) k
theorem ok_ifge (G : Good p meth c code maxL ret nm) {pc : Nat} {L : Array Slot} {S : List Value} {x : Int32} {o : Int} (pc' : Nat) (hd : decode code pc = .ok (.ifCond .ge o, 3)) (ho : 0 ≤ (pc : Int) + o) (hp : ((pc : Int) + o).toNat = pc') (ky : ¬ x < 0 → Ok p l e R s m args below meth c own Z a0 EL n0 h0 ws wd Q sf h cells slots (mkF m pc' L S)) (kn : x < 0 → Ok p l e R s m args below meth c own Z a0 EL n0 h0 ws wd Q sf h cells slots (mkF m (pc + 3) L S)) : Ok p l e R s m args below meth c own Z a0 EL n0 h0 ws wd Q sf h cells slots (mkF m pc L (.int x :: S)) := by
  by_cases q : x < 0
  · exact ok_step (fun T t hA k => XS.ifNo hA G.1 rfl (hb G.2.1 hd) rfl ((if0 _ _).trans (tlt q).2.1) k) (kn q)
  · exact ok_step (fun T t hA k => XS.ifYes hA G.1 rfl rfl (hb G.2.1 hd) rfl ((if0 _ _).trans (flt q).2.1) ho hp k) (ky q)
theorem ok_ifgeY (G : Good p meth c code maxL ret nm) {pc : Nat} {L : Array Slot} {S : List Value} {x : Int32} {o : Int} (pc' : Nat) (hd : decode code pc = .ok (.ifCond .ge o, 3)) (ho : 0 ≤ (pc : Int) + o) (hp : ((pc : Int) + o).toNat = pc') (q : ¬ x < 0) (k : Ok p l e R s m args below meth c own Z a0 EL n0 h0 ws wd Q sf h cells slots (mkF m pc' L S)) : Ok p l e R s m args below meth c own Z a0 EL n0 h0 ws wd Q sf h cells slots (mkF m pc L (.int x :: S)) := ok_ifge G pc' hd ho hp (fun _ => k) (fun q' => absurd q' q)
theorem ok_ifgeN (G : Good p meth c code maxL ret nm) {pc : Nat} {L : Array Slot} {S : List Value} {x : Int32} {o : Int} (hd : decode code pc = .ok (.ifCond .ge o, 3)) (q : x < 0) (k : Ok p l e R s m args below meth c own Z a0 EL n0 h0 ws wd Q sf h cells slots (mkF m (pc + 3) L S)) : Ok p l e R s m args below meth c own Z a0 EL n0 h0 ws wd Q sf h cells slots (mkF m pc L (.int x :: S)) :=
  ok_step (fun T t hA k => XS.ifNo hA G.1 rfl (hb G.2.1 hd) rfl ((if0 _ _).trans (tlt q).2.1) k) k
theorem ok_icmpge (G : Good p meth c code maxL ret nm) {pc : Nat} {L : Array Slot} {S : List Value} {x y : Int32} {o : Int} (pc' : Nat) (hd : decode code pc = .ok (.if_icmp .ge o, 3)) (ho : 0 ≤ (pc : Int) + o) (hp : ((pc : Int) + o).toNat = pc') (ky : ¬ x < y → Ok p l e R s m args below meth c own Z a0 EL n0 h0 ws wd Q sf h cells slots (mkF m pc' L S)) (kn : x < y → Ok p l e R s m args below meth c own Z a0 EL n0 h0 ws wd Q sf h cells slots (mkF m (pc + 3) L S)) : Ok p l e R s m args below meth c own Z a0 EL n0 h0 ws wd Q sf h cells slots (mkF m pc L (.int y :: .int x :: S)) := by
  by_cases q : x < y
  · exact ok_step (fun T t hA k => XS.icmpNo hA G.1 rfl (hb G.2.1 hd) rfl (tlt q).2.1 k) (kn q)
  · exact ok_step (fun T t hA k => XS.icmpYes hA G.1 rfl rfl (hb G.2.1 hd) rfl (flt q).2.1 ho hp k) (ky q)
theorem ok_icmpgeY (G : Good p meth c code maxL ret nm) {pc : Nat} {L : Array Slot} {S : List Value} {x y : Int32} {o : Int} (pc' : Nat) (hd : decode code pc = .ok (.if_icmp .ge o, 3)) (ho : 0 ≤ (pc : Int) + o) (hp : ((pc : Int) + o).toNat = pc') (q : ¬ x < y) (k : Ok p l e R s m args below meth c own Z a0 EL n0 h0 ws wd Q sf h cells slots (mkF m pc' L S)) : Ok p l e R s m args below meth c own Z a0 EL n0 h0 ws wd Q sf h cells slots (mkF m pc L (.int y :: .int x :: S)) := ok_icmpge G pc' hd ho hp (fun _ => k) (fun q' => absurd q' q)
theorem ok_icmpgeN (G : Good p meth c code maxL ret nm) {pc : Nat} {L : Array Slot} {S : List Value} {x y : Int32} {o : Int} (hd : decode code pc = .ok (.if_icmp .ge o, 3)) (q : x < y) (k : Ok p l e R s m args below meth c own Z a0 EL n0 h0 ws wd Q sf h cells slots (mkF m (pc + 3) L S)) : Ok p l e R s m args below meth c own Z a0 EL n0 h0 ws wd Q sf h cells slots (mkF m pc L (.int y :: .int x :: S)) :=
  ok_step (fun T t hA k => XS.icmpNo hA G.1 rfl (hb G.2.1 hd) rfl (tlt q).2.1 k) k
theorem ok_ifgt (G : Good p meth c code maxL ret nm) {pc : Nat} {L : Array Slot} {S : List Value} {x : Int32} {o : Int} (pc' : Nat) (hd : decode code pc = .ok (.ifCond .gt o, 3)) (ho : 0 ≤ (pc : Int) + o) (hp : ((pc : Int) + o).toNat = pc') (ky : (0 : Int32) < x → Ok p l e R s m args below meth c own Z a0 EL n0 h0 ws wd Q sf h cells slots (mkF m pc' L S)) (kn : ¬ (0 : Int32) < x → Ok p l e R s m args below meth c own Z a0 EL n0 h0 ws wd Q sf h cells slots (mkF m (pc + 3) L S)) : Ok p l e R s m args below meth c own Z a0 EL n0 h0 ws wd Q sf h cells slots (mkF m pc L (.int x :: S)) := by
  by_cases q : (0 : Int32) < x
  · exact ok_step (fun T t hA k => XS.ifYes hA G.1 rfl rfl (hb G.2.1 hd) rfl ((if0 _ _).trans (tlt q).2.2.1) ho hp k) (ky q)
  · exact ok_step (fun T t hA k => XS.ifNo hA G.1 rfl (hb G.2.1 hd) rfl ((if0 _ _).trans (flt q).2.2.1) k) (kn q)
theorem ok_ifgtY (G : Good p meth c code maxL ret nm) {pc : Nat} {L : Array Slot} {S : List Value} {x : Int32} {o : Int} (pc' : Nat) (hd : decode code pc = .ok (.ifCond .gt o, 3)) (ho : 0 ≤ (pc : Int) + o) (hp : ((pc : Int) + o).toNat = pc') (q : (0 : Int32) < x) (k : Ok p l e R s m args below meth c own Z a0 EL n0 h0 ws wd Q sf h cells slots (mkF m pc' L S)) : Ok p l e R s m args below meth c own Z a0 EL n0 h0 ws wd Q sf h cells slots (mkF m pc L (.int x :: S)) := ok_ifgt G pc' hd ho hp (fun _ => k) (fun q' => absurd q q')
theorem ok_ifgtN (G : Good p meth c code maxL ret nm) {pc : Nat} {L : Array Slot} {S : List Value} {x : Int32} {o : Int} (hd : decode code pc = .ok (.ifCond .gt o, 3)) (q : ¬ (0 : Int32) < x) (k : Ok p l e R s m args below meth c own Z a0 EL n0 h0 ws wd Q sf h cells slots (mkF m (pc + 3) L S)) : Ok p l e R s m args below meth c own Z a0 EL n0 h0 ws wd Q sf h cells slots (mkF m pc L (.int x :: S)) :=
  ok_step (fun T t hA k => XS.ifNo hA G.1 rfl (hb G.2.1 hd) rfl ((if0 _ _).trans (flt q).2.2.1) k) k
theorem ok_icmpgt (G : Good p meth c code maxL ret nm) {pc : Nat} {L : Array Slot} {S : List Value} {x y : Int32} {o : Int} (pc' : Nat) (hd : decode code pc = .ok (.if_icmp .gt o, 3)) (ho : 0 ≤ (pc : Int) + o) (hp : ((pc : Int) + o).toNat = pc') (ky : y < x → Ok p l e R s m args below meth c own Z a0 EL n0 h0 ws wd Q sf h cells slots (mkF m pc' L S)) (kn : ¬ y < x → Ok p l e R s m args below meth c own Z a0 EL n0 h0 ws wd Q sf h cells slots (mkF m (pc + 3) L S)) : Ok p l e R s m args below meth c own Z a0 EL n0 h0 ws wd Q sf h cells slots (mkF m pc L (.int y :: .int x :: S)) := by
  by_cases q : y < x
  · exact ok_step (fun T t hA k => XS.icmpYes hA G.1 rfl rfl (hb G.2.1 hd) rfl (tlt q).2.2.1 ho hp k) (ky q)
  · exact ok_step (fun T t hA k => XS.icmpNo hA G.1 rfl (hb G.2.1 hd) rfl (flt q).2.2.1 k) (kn q)
theorem ok_icmpgtY (G : Good p meth c code maxL ret nm) {pc : Nat} {L : Array Slot} {S : List Value} {x y : Int32} {o : Int} (pc' : Nat) (hd : decode code pc = .ok (.if_icmp .gt o, 3)) (ho : 0 ≤ (pc : Int) + o) (hp : ((pc : Int) + o).toNat = pc') (q : y < x) (k : Ok p l e R s m args below meth c own Z a0 EL n0 h0 ws wd Q sf h cells slots (mkF m pc' L S)) : Ok p l e R s m args below meth c own Z a0 EL n0 h0 ws wd Q sf h cells slots (mkF m pc L (.int y :: .int x :: S)) := ok_icmpgt G pc' hd ho hp (fun _ => k) (fun q' => absurd q q')
theorem ok_icmpgtN (G : Good p meth c code maxL ret nm) {pc : Nat} {L : Array Slot} {S : List Value} {x y : Int32} {o : Int} (hd : decode code pc = .ok (.if_icmp .gt o, 3)) (q : ¬ y < x) (k : Ok p l e R s m args below meth c own Z a0 EL n0 h0 ws wd Q sf h cells slots (mkF m (pc + 3) L S)) : Ok p l e R s m args below meth c own Z a0 EL n0 h0 ws wd Q sf h cells slots (mkF m pc L (.int y :: .int x :: S)) :=
  ok_step (fun T t hA k => XS.icmpNo hA G.1 rfl (hb G.2.1 hd) rfl (flt q).2.2.1 k) k
theorem ok_ifle (G : Good p meth c code maxL ret nm) {pc : Nat} {L : Array Slot} {S : List Value} {x : Int32} {o : Int} (pc' : Nat) (hd : decode code pc = .ok (.ifCond .le o, 3)) (ho : 0 ≤ (pc : Int) + o) (hp : ((pc : Int) + o).toNat = pc') (ky : ¬ (0 : Int32) < x → Ok p l e R s m args below meth c own Z a0 EL n0 h0 ws wd Q sf h cells slots (mkF m pc' L S)) (kn : (0 : Int32) < x → Ok p l e R s m args below meth c own Z a0 EL n0 h0 ws wd Q sf h cells slots (mkF m (pc + 3) L S)) : Ok p l e R s m args below meth c own Z a0 EL n0 h0 ws wd Q sf h cells slots (mkF m pc L (.int x :: S)) := by
  by_cases q : (0 : Int32) < x
  · exact ok_step (fun T t hA k => XS.ifNo hA G.1 rfl (hb G.2.1 hd) rfl ((if0 _ _).trans (tlt q).2.2.2) k) (kn q)
  · exact ok_step (fun T t hA k => XS.ifYes hA G.1 rfl rfl (hb G.2.1 hd) rfl ((if0 _ _).trans (flt q).2.2.2) ho hp k) (ky q)
theorem ok_ifleY (G : Good p meth c code maxL ret nm) {pc : Nat} {L : Array Slot} {S : List Value} {x : Int32} {o : Int} (pc' : Nat) (hd : decode code pc = .ok (.ifCond .le o, 3)) (ho : 0 ≤ (pc : Int) + o) (hp : ((pc : Int) + o).toNat = pc') (q : ¬ (0 : Int32) < x) (k : Ok p l e R s m args below meth c own Z a0 EL n0 h0 ws wd Q sf h cells slots (mkF m pc' L S)) : Ok p l e R s m args below meth c own Z a0 EL n0 h0 ws wd Q sf h cells slots (mkF m pc L (.int x :: S)) := ok_ifle G pc' hd ho hp (fun _ => k) (fun q' => absurd q' q)
theorem ok_ifleN (G : Good p meth c code maxL ret nm) {pc : Nat} {L : Array Slot} {S : List Value} {x : Int32} {o : Int} (hd : decode code pc = .ok (.ifCond .le o, 3)) (q : (0 : Int32) < x) (k : Ok p l e R s m args below meth c own Z a0 EL n0 h0 ws wd Q sf h cells slots (mkF m (pc + 3) L S)) : Ok p l e R s m args below meth c own Z a0 EL n0 h0 ws wd Q sf h cells slots (mkF m pc L (.int x :: S)) :=
  ok_step (fun T t hA k => XS.ifNo hA G.1 rfl (hb G.2.1 hd) rfl ((if0 _ _).trans (tlt q).2.2.2) k) k
theorem ok_icmple (G : Good p meth c code maxL ret nm) {pc : Nat} {L : Array Slot} {S : List Value} {x y : Int32} {o : Int} (pc' : Nat) (hd : decode code pc = .ok (.if_icmp .le o, 3)) (ho : 0 ≤ (pc : Int) + o) (hp : ((pc : Int) + o).toNat = pc') (ky : ¬ y < x → Ok p l e R s m args below meth c own Z a0 EL n0 h0 ws wd Q sf h cells slots (mkF m pc' L S)) (kn : y < x → Ok p l e R s m args below meth c own Z a0 EL n0 h0 ws wd Q sf h cells slots (mkF m (pc + 3) L S)) : Ok p l e R s m args below meth c own Z a0 EL n0 h0 ws wd Q sf h cells slots (mkF m pc L (.int y :: .int x :: S)) := by
  by_cases q : y < x
  · exact ok_step (fun T t hA k => XS.icmpNo hA G.1 rfl (hb G.2.1 hd) rfl (tlt q).2.2.2 k) (kn q)
  · exact ok_step (fun T t hA k => XS.icmpYes hA G.1 rfl rfl (hb G.2.1 hd) rfl (flt q).2.2.2 ho hp k) (ky q)
theorem ok_icmpleY (G : Good p meth c code maxL ret nm) {pc : Nat} {L : Array Slot} {S : List Value} {x y : Int32} {o : Int} (pc' : Nat) (hd : decode code pc = .ok (.if_icmp .le o, 3)) (ho : 0 ≤ (pc : Int) + o) (hp : ((pc : Int) + o).toNat = pc') (q : ¬ y < x) (k : Ok p l e R s m args below meth c own Z a0 EL n0 h0 ws wd Q sf h cells slots (mkF m pc' L S)) : Ok p l e R s m args below meth c own Z a0 EL n0 h0 ws wd Q sf h cells slots (mkF m pc L (.int y :: .int x :: S)) := ok_icmple G pc' hd ho hp (fun _ => k) (fun q' => absurd q' q)
theorem ok_icmpleN (G : Good p meth c code maxL ret nm) {pc : Nat} {L : Array Slot} {S : List Value} {x y : Int32} {o : Int} (hd : decode code pc = .ok (.if_icmp .le o, 3)) (q : y < x) (k : Ok p l e R s m args below meth c own Z a0 EL n0 h0 ws wd Q sf h cells slots (mkF m (pc + 3) L S)) : Ok p l e R s m args below meth c own Z a0 EL n0 h0 ws wd Q sf h cells slots (mkF m pc L (.int y :: .int x :: S)) :=
  ok_step (fun T t hA k => XS.icmpNo hA G.1 rfl (hb G.2.1 hd) rfl (tlt q).2.2.2 k) k
theorem ok_ifnullY (G : Good p meth c code maxL ret nm) {pc : Nat} {L : Array Slot} {S : List Value} {o : Int} (pc' : Nat) (hd : decode code pc = .ok (.ifnull o, 3)) (ho : 0 ≤ (pc : Int) + o) (hp : ((pc : Int) + o).toNat = pc') (k : Ok p l e R s m args below meth c own Z a0 EL n0 h0 ws wd Q sf h cells slots (mkF m pc' L S)) : Ok p l e R s m args below meth c own Z a0 EL n0 h0 ws wd Q sf h cells slots (mkF m pc L (.null :: S)) := ok_step (fun T t hA k => XS.ifnullYes hA G.1 rfl rfl (hb G.2.1 hd) rfl ho hp k) k
theorem ok_ifnullN (G : Good p meth c code maxL ret nm) {pc : Nat} {L : Array Slot} {S : List Value} {o : Int} {b : Addr} (hd : decode code pc = .ok (.ifnull o, 3)) (k : Ok p l e R s m args below meth c own Z a0 EL n0 h0 ws wd Q sf h cells slots (mkF m (pc + 3) L S)) : Ok p l e R s m args below meth c own Z a0 EL n0 h0 ws wd Q sf h cells slots (mkF m pc L (.ref b :: S)) := ok_step (fun T t hA k => XS.ifnullNo hA G.1 rfl (hb G.2.1 hd) rfl k) k
theorem ok_ifnonnullY (G : Good p meth c code maxL ret nm) {pc : Nat} {L : Array Slot} {S : List Value} {o : Int} {b : Addr} (pc' : Nat) (hd : decode code pc = .ok (.ifnonnull o, 3)) (ho : 0 ≤ (pc : Int) + o) (hp : ((pc : Int) + o).toNat = pc') (k : Ok p l e R s m args below meth c own Z a0 EL n0 h0 ws wd Q sf h cells slots (mkF m pc' L S)) : Ok p l e R s m args below meth c own Z a0 EL n0 h0 ws wd Q sf h cells slots (mkF m pc L (.ref b :: S)) := ok_step (fun T t hA k => XS.ifnonnullYes hA G.1 rfl rfl (hb G.2.1 hd) rfl ho hp k) k
theorem ok_ifnonnullN (G : Good p meth c code maxL ret nm) {pc : Nat} {L : Array Slot} {S : List Value} {o : Int} (hd : decode code pc = .ok (.ifnonnull o, 3)) (k : Ok p l e R s m args below meth c own Z a0 EL n0 h0 ws wd Q sf h cells slots (mkF m (pc + 3) L S)) : Ok p l e R s m args below meth c own Z a0 EL n0 h0 ws wd Q sf h cells slots (mkF m pc L (.null :: S)) := ok_step (fun T t hA k => XS.ifnonnullNo hA G.1 rfl (hb G.2.1 hd) rfl k) k
theorem ok_acmp (G : Good p meth c code maxL ret nm) {pc : Nat} {L : Array Slot} {S : List Value} {o : Int} {cd : ClassFile.ACond} {v w : Value} (same : Bool) (pc' : Nat) (hd : decode code pc = .ok (.if_acmp cd o, 3)) (h1 : v.isRef = true) (h2 : w.isRef = true) (hq : decide (v = w) = same) (ho : 0 ≤ (pc : Int) + o) (hp : pc' = if acV cd same = true then ((pc : Int) + o).toNat else pc + 3) (k : Ok p l e R s m args below meth c own Z a0 EL n0 h0 ws wd Q sf h cells slots (mkF m pc' L S)) : Ok p l e R s m args below meth c own Z a0 EL n0 h0 ws wd Q sf h cells slots (mkF m pc L (w :: v :: S)) :=
  ok_stepT (fun vm T locs X e0 hZ hown O => ⟨T, X, e0, fun t k => Jvm.RoadKit.acmp X G.1 rfl h1 h2 rfl (hb G.2.1 hd) rfl hq ho hp k⟩) k
theorem ok_ldcI (G : Good p meth c code maxL ret nm) {pc : Nat} {L : Array Slot} {S : List Value} {i : Nat} {v : Int32} (w : (Jvm.Cond.constant own i v).before a0 Z = true) (hd : decode code pc = .ok (.ldc i, 2)) (k : Ok p l e R s m args below meth c own Z a0 EL n0 h0 ws wd Q sf h cells slots (mkF m (pc + 2) L (.int v :: S))) : Ok p l e R s m args below meth c own Z a0 EL n0 h0 ws wd Q sf h cells slots (mkF m pc L S) :=
  ok_stepT (fun vm T locs X e0 hZ hown O => ⟨T, X, e0, fun t k => X.ldcInt G.1 hown (mvT (s := s.setVm vm) hZ w) (g := mkF m pc L S) rfl (hb G.2.1 hd) t k⟩) k
theorem ok_ldcJ (G : Good p meth c code maxL ret nm) {pc : Nat} {L : Array Slot} {S : List Value} {i : Nat} {v : Int64} (w : (Jvm.Cond.constantLong own i v).before a0 Z = true) (hd : decode code pc = .ok (.ldc2_w i, 3)) (k : Ok p l e R s m args below meth c own Z a0 EL n0 h0 ws wd Q sf h cells slots (mkF m (pc + 3) L (.long v :: S))) : Ok p l e R s m args below meth c own Z a0 EL n0 h0 ws wd Q sf h cells slots (mkF m pc L S) :=
  ok_stepT (fun vm T locs X e0 hZ hown O => ⟨T, X, e0, fun t k => X.ldc2Long G.1 hown (mvT (s := s.setVm vm) hZ w) (g := mkF m pc L S) rfl (hb G.2.1 hd) t k⟩) k
theorem ok_nameI {pc : Nat} {L : Array Slot} {S : List Value} {x : Int32} (k : ∀ z, z = x → Ok p l e R s m args below meth c own Z a0 EL n0 h0 ws wd Q sf h cells slots (mkF m pc L (.int z :: S))) : Ok p l e R s m args below meth c own Z a0 EL n0 h0 ws wd Q sf h cells slots (mkF m pc L (.int x :: S)) := k x rfl
theorem ok_nameJ {pc : Nat} {L : Array Slot} {S : List Value} {x : Int64} (k : ∀ z, z = x → Ok p l e R s m args below meth c own Z a0 EL n0 h0 ws wd Q sf h cells slots (mkF m pc L (.long z :: S))) : Ok p l e R s m args below meth c own Z a0 EL n0 h0 ws wd Q sf h cells slots (mkF m pc L (.long x :: S)) := k x rfl
theorem ok_sayI {pc : Nat} {L : Array Slot} {S : List Value} {x : Int32} (z : Int32) (q : x = z) (k : Ok p l e R s m args below meth c own Z a0 EL n0 h0 ws wd Q sf h cells slots (mkF m pc L (.int z :: S))) : Ok p l e R s m args below meth c own Z a0 EL n0 h0 ws wd Q sf h cells slots (mkF m pc L (.int x :: S)) := q ▸ k
theorem ok_sayJ {pc : Nat} {L : Array Slot} {S : List Value} {x : Int64} (z : Int64) (q : x = z) (k : Ok p l e R s m args below meth c own Z a0 EL n0 h0 ws wd Q sf h cells slots (mkF m pc L (.long z :: S))) : Ok p l e R s m args below meth c own Z a0 EL n0 h0 ws wd Q sf h cells slots (mkF m pc L (.long x :: S)) := q ▸ k
end Plain
end Jvm.Pilot.@@N@@.Own
namespace Jvm.Pilot.@@N@@.Own
open Jvm Jvm.ClassFile Sem Op Lib Jvm.Free Jvm.Stand Jvm.LawKit Jvm.RoadKit Bundle
section Heaps
variable {p : Program} {l : Launch} {e : Env} {R : Room} {s : State} {m : MethodId} {args : Array Value} {below : List Frame} {meth : Method} {c : Code}
  {own : String} {Z : State} {a0 : Array Value} {EL : List (String × Nat)} {n0 : Nat} {h0 : Heap} {ws : List Addr} {wd : Bool} {Q : Option Value → Heap → Prop}
  {sf : List Addr} {h : Heap} {cells slots : Nat} {code : ByteArray} {maxL : Nat} {ret : Option FieldType} {nm : String} {a : Addr}
theorem ok_getF (G : Good p meth c code maxL ret nm) {pc : Nat} {L : Array Slot} {S : List Value} {R0 O n d host : String} {index : Nat} (w : (Jvm.Cond.fieldLink own index R0 n d).before a0 Z = true ∨ (Jvm.Cond.fieldLinkNest own index R0 n d host).before a0 Z = true) (via : Via Z R0 O n d) {v : Value} (F : Fld Z h a O n d v) (hd : decode code pc = .ok (.getfield index, 3))
    (k : Ok p l e R s m args below meth c own Z a0 EL n0 h0 ws wd Q sf h cells slots (mkF m (pc + 3) L (v :: S))) : Ok p l e R s m args below meth c own Z a0 EL n0 h0 ws wd Q sf h cells slots (mkF m pc L (.ref a :: S)) :=
  ok_stepT (fun vm T locs X e0 hZ hown O => getF X G.1 hZ hown w via e0 F (g := mkF m pc L (.ref a :: S)) rfl rfl (hb G.2.1 hd)) k
theorem ok_getS (G : Good p meth c code maxL ret nm) {pc : Nat} {L : Array Slot} {S : List Value} {R0 O n d host : String} {index : Nat} (w : (Jvm.Cond.fieldLink own index R0 n d).before a0 Z = true ∨ (Jvm.Cond.fieldLinkNest own index R0 n d host).before a0 Z = true) (via : Via Z R0 O n d) {v : Value} (F : Sta Z Z.heap O n d v) (hd : decode code pc = .ok (.getstatic index, 3))
    (k : Ok p l e R s m args below meth c own Z a0 EL n0 h0 ws wd Q sf h cells slots (mkF m (pc + 3) L (v :: S))) : Ok p l e R s m args below meth c own Z a0 EL n0 h0 ws wd Q sf h cells slots (mkF m pc L S) :=
  ok_stepT (fun vm T locs X e0 hZ hown O' => getS2 X G.1 hZ hown w via e0 (F.ext O'.2) (g := mkF m pc L S) rfl (hb G.2.1 hd)) k
theorem ok_putF (G : Good p meth c code maxL ret nm) {pc : Nat} {L : Array Slot} {S : List Value} {R0 O n d host C : String} {index kk : Nat} {ty : FieldType} (w : (Jvm.Cond.fieldLink own index R0 n d).before a0 Z = true ∨ (Jvm.Cond.fieldLinkNest own index R0 n d host).before a0 Z = true) (via : Via Z R0 O n d) {v old : Value} (F : Fld Z h a O n d old) (E : Exa Z h a C)
    (Lw : (Jvm.Cond.lays C O n d).before a0 Z = true ∨ ((Jvm.Cond.laysFinal C O n d).before a0 Z = true ∧ own = O ∧ nm = "<init>")) (wi : (Jvm.Cond.instantiable C kk).before a0 Z = true) (hty : parseFieldDescriptor d = some ty) (hn : narrow ty v = v) (hf : fits ty v = true) (hd : decode code pc = .ok (.putfield index, 3))
    (hg : n0 ≤ a) (hw : a ∈ ws ∨ h0.size ≤ a) (hs : SafeFor wd Z EL sf h a)
    (k : ∀ h', Keep h h' [a] → Wr h h' a (Jvm.RoadKit.slotOf Z O n d) v → Fld Z h' a O n d v → Ok p l e R s m args below meth c own Z a0 EL n0 h0 ws wd Q sf h' cells slots (mkF m (pc + 3) L S)) : Ok p l e R s m args below meth c own Z a0 EL n0 h0 ws wd Q sf h cells slots (mkF m pc L (v :: .ref a :: S)) :=
  ok_stepW hg hw hs (fun vm T locs X e0 hZ hown O => putF X G.1 hZ hown w via e0 F E (Lw.imp id fun q => ⟨q.1, q.2.1, G.2.2.2.2.2.trans q.2.2⟩) wi hty hn hf (g := mkF m pc L (v :: .ref a :: S)) rfl rfl (hb G.2.1 hd)) (fun h' K W => k h' K W (F.same W))
theorem ok_new (G : Good p meth c code maxL ret nm) {pc : Nat} {L : Array Slot} {S : List Value} {C : String} {index n : Nat} (w : (Jvm.Cond.classLink own index C).before a0 Z = true) (wi : (Jvm.Cond.instantiable C n).before a0 Z = true) (wz : (Jvm.Cond.initialized C).before a0 Z = true) (hd : decode code pc = .ok (.new index, 3)) (hc : cells + 1 ≤ R.cells) (hl : slots + n ≤ R.slots)
    (k : ∀ h' a, a = h.size → Keep h h' [] → n0 ≤ a → h0.size ≤ a → Exa Z h' a C → (∀ (O nm d : String) (ty : FieldType), Laid Z a0 C O nm d → parseFieldDescriptor d = some ty → Fld Z h' a O nm d (defaultValue ty)) → Ok p l e R s m args below meth c own Z a0 EL n0 h0 ws wd Q (a :: sf) h' (cells + 1) (slots + n) (mkF m (pc + 3) L (.ref a :: S))) :
    Ok p l e R s m args below meth c own Z a0 EL n0 h0 ws wd Q sf h cells slots (mkF m pc L S) :=
  ok_stepE (sf' := h.size :: sf) (P := fun h' => Exa Z h' h.size C ∧ ∀ (O nm d : String) (ty : FieldType), Laid Z a0 C O nm d → parseFieldDescriptor d = some ty → Fld Z h' h.size O nm d (defaultValue ty)) (fun x hx => (List.mem_cons.mp hx).elim Or.inr Or.inl)
    (fun vm T locs X e0 hZ hown O => by
      obtain ⟨T', h', X', e1, E, A, D, -, st⟩ := newO X G.1 hZ hown w wi wz e0 (g := mkF m pc L S) rfl (hb G.2.1 hd) hc hl
      exact ⟨T', h', X', e1, E, A.lt, ⟨A, fun O nm d ty q1 q2 => D q1 q2⟩, st⟩) (fun h' K q1 q2 P => k h' h.size rfl K q1 q2 P.1 P.2)
theorem ok_newP (G : Good p meth c code maxL ret nm) {pc : Nat} {L : Array Slot} {S : List Value} {aty : ArrayType} {n : Int32} (w : (Jvm.Cond.arrayClass (newarray.typeOf aty)).before a0 Z = true) (hd : decode code pc = .ok (.newarray aty, 2)) (hn : ¬ n < 0) (cap : Nat) (hcap : n.toNatClampNeg ≤ cap) (hbig : cap * 8 ≤ 536870912) (hc : cells + 1 ≤ R.cells) (hl : slots + cap ≤ R.slots)
    (k : ∀ h' a kA, a = h.size → Keep h h' [] → n0 ≤ a → h0.size ≤ a → Arv Z h' a kA (newarray.typeOf aty) n [] (defaultValue (newarray.typeOf aty)) → Ok p l e R s m args below meth c own Z a0 EL n0 h0 ws wd Q (a :: sf) h' (cells + 1) (slots + cap) (mkF m (pc + 2) L (.ref a :: S))) :
    Ok p l e R s m args below meth c own Z a0 EL n0 h0 ws wd Q sf h cells slots (mkF m pc L (.int n :: S)) :=
  ok_stepE (sf' := h.size :: sf) (P := fun h' => ∃ kA, Arv Z h' h.size kA (newarray.typeOf aty) n [] (defaultValue (newarray.typeOf aty))) (fun x hx => (List.mem_cons.mp hx).elim Or.inr Or.inl)
    (fun vm T locs X e0 hZ hown O => by
      obtain ⟨T', h', kA, X', e1, E, A, st⟩ := newP X G.1 hZ w e0 (g := mkF m pc L (.int n :: S)) rfl (hb G.2.1 hd) rfl hn hcap hbig hc hl
      exact ⟨T', h', X', e1, E, A.lt, ⟨kA, Arv.new A hn⟩, st⟩) (fun h' K q1 q2 P => by obtain ⟨kA, P⟩ := P; exact k h' h.size kA rfl K q1 q2 P)
theorem ok_castore (G : Good p meth c code maxL ret nm) {pc : Nat} {L : Array Slot} {S : List Value} {kA : ClassId} {z j : Int32} {x : Int32} (x' : Int32) {vs : List Value} {dv : Value} (i : Nat) (F : Arv Z h a kA .char z vs dv) (hj : ¬ j < 0 ∧ j < z) (hi : j.toNatClampNeg = i) (hi' : i < vs.length) (hv : nar .char x = x') (hd : decode code pc = .ok (.castore, 1))
    (hg : n0 ≤ a) (hw : a ∈ ws ∨ h0.size ≤ a) (hs : SafeFor wd Z EL sf h a)
    (k : ∀ h', Keep h h' [a] → Arv Z h' a kA .char z (vs.set i (.int x')) dv → Ok p l e R s m args below meth c own Z a0 EL n0 h0 ws wd Q sf h' cells slots (mkF m (pc + 1) L S)) : Ok p l e R s m args below meth c own Z a0 EL n0 h0 ws wd Q sf h cells slots (mkF m pc L (.int x :: .int j :: .ref a :: S)) := by
  subst hv
  obtain ⟨cl, A, q, Sz, N, H, U⟩ := F
  exact ok_stepW hg hw hs (fun vm T locs X e0 hZ hown O => stC X G.1 hZ e0 A (inb_of Sz hj) (g := mkF m pc L (.int x :: .int j :: .ref a :: S)) rfl rfl (hb G.2.1 hd)) (fun h' K W => k h' K (Arv.set A q Sz N H U (fits_nar_char _) W i hi hi'))
theorem ok_bastore (G : Good p meth c code maxL ret nm) {pc : Nat} {L : Array Slot} {S : List Value} {kA : ClassId} {z j : Int32} {x : Int32} (x' : Int32) {vs : List Value} {dv : Value} (i : Nat) (F : Arv Z h a kA .byte z vs dv) (hj : ¬ j < 0 ∧ j < z) (hi : j.toNatClampNeg = i) (hi' : i < vs.length) (hv : nar .byte x = x') (hd : decode code pc = .ok (.bastore, 1))
    (hg : n0 ≤ a) (hw : a ∈ ws ∨ h0.size ≤ a) (hs : SafeFor wd Z EL sf h a)
    (k : ∀ h', Keep h h' [a] → Arv Z h' a kA .byte z (vs.set i (.int x')) dv → Ok p l e R s m args below meth c own Z a0 EL n0 h0 ws wd Q sf h' cells slots (mkF m (pc + 1) L S)) : Ok p l e R s m args below meth c own Z a0 EL n0 h0 ws wd Q sf h cells slots (mkF m pc L (.int x :: .int j :: .ref a :: S)) := by
  subst hv
  obtain ⟨cl, A, q, Sz, N, H, U⟩ := F
  exact ok_stepW hg hw hs (fun vm T locs X e0 hZ hown O => stB X G.1 hZ e0 A (inb_of Sz hj) (g := mkF m pc L (.int x :: .int j :: .ref a :: S)) rfl rfl (hb G.2.1 hd)) (fun h' K W => k h' K (Arv.set A q Sz N H U (fits_nar_byte _) W i hi hi'))
theorem ok_iastore (G : Good p meth c code maxL ret nm) {pc : Nat} {L : Array Slot} {S : List Value} {kA : ClassId} {z j : Int32} {x : Int32} {vs : List Value} {dv : Value} (i : Nat) (F : Arv Z h a kA .int z vs dv) (hj : ¬ j < 0 ∧ j < z) (hi : j.toNatClampNeg = i) (hi' : i < vs.length) (hd : decode code pc = .ok (.iastore, 1))
    (hg : n0 ≤ a) (hw : a ∈ ws ∨ h0.size ≤ a) (hs : SafeFor wd Z EL sf h a)
    (k : ∀ h', Keep h h' [a] → Arv Z h' a kA .int z (vs.set i (.int x)) dv → Ok p l e R s m args below meth c own Z a0 EL n0 h0 ws wd Q sf h' cells slots (mkF m (pc + 1) L S)) : Ok p l e R s m args below meth c own Z a0 EL n0 h0 ws wd Q sf h cells slots (mkF m pc L (.int x :: .int j :: .ref a :: S)) := by
  skip
  obtain ⟨cl, A, q, Sz, N, H, U⟩ := F
  exact ok_stepW hg hw hs (fun vm T locs X e0 hZ hown O => stI X G.1 hZ e0 A (inb_of Sz hj) (g := mkF m pc L (.int x :: .int j :: .ref a :: S)) rfl rfl (hb G.2.1 hd)) (fun h' K W => k h' K (Arv.set A q Sz N H U rfl W i hi hi'))
theorem ok_caload (G : Good p meth c code maxL ret nm) {pc : Nat} {L : Array Slot} {S : List Value} {kA : ClassId} {z j : Int32} {vs : List Value} {dv : Value} (v : Int32) (F : Arv Z h a kA .char z vs dv) (hj : ¬ j < 0 ∧ j < z) (hv : vs.getD j.toNatClampNeg dv = .int v) (hd : decode code pc = .ok (.caload, 1))
    (k : Ok p l e R s m args below meth c own Z a0 EL n0 h0 ws wd Q sf h cells slots (mkF m (pc + 1) L (.int v :: S))) : Ok p l e R s m args below meth c own Z a0 EL n0 h0 ws wd Q sf h cells slots (mkF m pc L (.int j :: .ref a :: S)) := by
  obtain ⟨cl, A, q, Sz, N, H, U⟩ := F
  exact ok_stepT (fun vm T locs X e0 hZ hown O => ⟨T, X, e0, fun t k => X.caload G.1 (j := j) (v := .int v) (by rw [e0]; exact A.1) (State.isArrayOf_alike hZ.alike A.2.1) A.2.2 (inb_of Sz hj) (H.at (inb_of Sz hj) hv) (g := mkF m pc L (.int j :: .ref a :: S)) rfl rfl (hb G.2.1 hd) t k⟩) k
theorem ok_baload (G : Good p meth c code maxL ret nm) {pc : Nat} {L : Array Slot} {S : List Value} {kA : ClassId} {z j : Int32} {vs : List Value} {dv : Value} (v : Int32) (F : Arv Z h a kA .byte z vs dv) (hj : ¬ j < 0 ∧ j < z) (hv : vs.getD j.toNatClampNeg dv = .int v) (hd : decode code pc = .ok (.baload, 1))
    (k : Ok p l e R s m args below meth c own Z a0 EL n0 h0 ws wd Q sf h cells slots (mkF m (pc + 1) L (.int v :: S))) : Ok p l e R s m args below meth c own Z a0 EL n0 h0 ws wd Q sf h cells slots (mkF m pc L (.int j :: .ref a :: S)) := by
  obtain ⟨cl, A, q, Sz, N, H, U⟩ := F
  exact ok_stepT (fun vm T locs X e0 hZ hown O => ⟨T, X, e0, fun t k => X.baloadBytes G.1 (j := j) (v := .int v) (by rw [e0]; exact A.1) (State.isArrayOf_alike hZ.alike A.2.1) A.2.2 (inb_of Sz hj) (H.at (inb_of Sz hj) hv) (g := mkF m pc L (.int j :: .ref a :: S)) rfl rfl (hb G.2.1 hd) t k⟩) k
theorem ok_iaload (G : Good p meth c code maxL ret nm) {pc : Nat} {L : Array Slot} {S : List Value} {kA : ClassId} {z j : Int32} {vs : List Value} {dv : Value} (v : Int32) (F : Arv Z h a kA .int z vs dv) (hj : ¬ j < 0 ∧ j < z) (hv : vs.getD j.toNatClampNeg dv = .int v) (hd : decode code pc = .ok (.iaload, 1))
    (k : Ok p l e R s m args below meth c own Z a0 EL n0 h0 ws wd Q sf h cells slots (mkF m (pc + 1) L (.int v :: S))) : Ok p l e R s m args below meth c own Z a0 EL n0 h0 ws wd Q sf h cells slots (mkF m pc L (.int j :: .ref a :: S)) := by
  obtain ⟨cl, A, q, Sz, N, H, U⟩ := F
  exact ok_stepT (fun vm T locs X e0 hZ hown O => ⟨T, X, e0, fun t k => X.iaload G.1 (j := j) (v := .int v) (by rw [e0]; exact A.1) (State.isArrayOf_alike hZ.alike A.2.1) A.2.2 (inb_of Sz hj) (H.at (inb_of Sz hj) hv) (g := mkF m pc L (.int j :: .ref a :: S)) rfl rfl (hb G.2.1 hd) t k⟩) k
theorem ok_arraylength (G : Good p meth c code maxL ret nm) {pc : Nat} {L : Array Slot} {S : List Value} {kA : ClassId} {ty : FieldType} {z : Int32} {vs : List Value} {dv : Value} (F : Arv Z h a kA ty z vs dv) (hd : decode code pc = .ok (.arraylength, 1))
    (k : Ok p l e R s m args below meth c own Z a0 EL n0 h0 ws wd Q sf h cells slots (mkF m (pc + 1) L (.int z :: S))) : Ok p l e R s m args below meth c own Z a0 EL n0 h0 ws wd Q sf h cells slots (mkF m pc L (.ref a :: S)) := by
  obtain ⟨cl, A, q, Sz, N, H, U⟩ := F
  exact ok_stepT (fun vm T locs X e0 hZ hown O => ⟨T, X, e0, fun t k => X.arraylength G.1 (by rw [e0]; exact A.1) (State.isArrayOf_alike hZ.alike A.2.1) (g := mkF m pc L (.ref a :: S)) rfl rfl (hb G.2.1 hd) t (by rw [len_of Sz N]; exact k)⟩) k
theorem ok_checkcast (G : Good p meth c code maxL ret nm) {pc : Nat} {L : Array Slot} {S : List Value} {K : String} {index : Nat} (w : (Jvm.Cond.classLink own index K).before a0 Z = true) (F : Ins Z h a K true) (hd : decode code pc = .ok (.checkcast index, 3))
    (k : Ok p l e R s m args below meth c own Z a0 EL n0 h0 ws wd Q sf h cells slots (mkF m (pc + 3) L (.ref a :: S))) : Ok p l e R s m args below meth c own Z a0 EL n0 h0 ws wd Q sf h cells slots (mkF m pc L (.ref a :: S)) :=
  ok_stepT (fun vm T locs X e0 hZ hown O => castY X G.1 hZ hown w e0 F (g := mkF m pc L (.ref a :: S)) rfl rfl (hb G.2.1 hd)) k
theorem ok_instanceof (G : Good p meth c code maxL ret nm) {pc : Nat} {L : Array Slot} {S : List Value} {K : String} {index : Nat} (w : (Jvm.Cond.classLink own index K).before a0 Z = true) (F : Ins Z h a K true) (hd : decode code pc = .ok (.instanceof index, 3))
    (k : Ok p l e R s m args below meth c own Z a0 EL n0 h0 ws wd Q sf h cells slots (mkF m (pc + 3) L (.int 1 :: S))) : Ok p l e R s m args below meth c own Z a0 EL n0 h0 ws wd Q sf h cells slots (mkF m pc L (.ref a :: S)) :=
  ok_stepT (fun vm T locs X e0 hZ hown O => instY X G.1 hZ hown w e0 F (g := mkF m pc L (.ref a :: S)) rfl rfl (hb G.2.1 hd)) k
theorem ok_instanceofNo (G : Good p meth c code maxL ret nm) {pc : Nat} {L : Array Slot} {S : List Value} {K C : String} {index : Nat} (w : (Jvm.Cond.classLink own index K).before a0 Z = true) (E : Exa Z h a C) (F : ∃ c t, Z.vm.findClass C = some c ∧ Z.vm.findClass K = some t ∧ Z.vm.assignable c t = false) (hd : decode code pc = .ok (.instanceof index, 3))
    (k : Ok p l e R s m args below meth c own Z a0 EL n0 h0 ws wd Q sf h cells slots (mkF m (pc + 3) L (.int 0 :: S))) : Ok p l e R s m args below meth c own Z a0 EL n0 h0 ws wd Q sf h cells slots (mkF m pc L (.ref a :: S)) :=
  ok_stepT (fun vm T locs X e0 hZ hown O => instNo X G.1 hZ hown w e0 E F (g := mkF m pc L (.ref a :: S)) rfl rfl (hb G.2.1 hd)) k
theorem ok_checkcastNull (G : Good p meth c code maxL ret nm) {pc : Nat} {L : Array Slot} {S : List Value} {index : Nat} (hd : decode code pc = .ok (.checkcast index, 3)) (k : Ok p l e R s m args below meth c own Z a0 EL n0 h0 ws wd Q sf h cells slots (mkF m (pc + 3) L (.null :: S))) : Ok p l e R s m args below meth c own Z a0 EL n0 h0 ws wd Q sf h cells slots (mkF m pc L (.null :: S)) :=
  ok_stepT (fun vm T locs X e0 hZ hown O => ⟨T, X, e0, fun t k => X.checkcastNull G.1 (g := mkF m pc L (.null :: S)) rfl rfl (hb G.2.1 hd) t k⟩) k
theorem ok_instanceofNull (G : Good p meth c code maxL ret nm) {pc : Nat} {L : Array Slot} {S : List Value} {index : Nat} (hd : decode code pc = .ok (.instanceof index, 3)) (k : Ok p l e R s m args below meth c own Z a0 EL n0 h0 ws wd Q sf h cells slots (mkF m (pc + 3) L (.int 0 :: S))) : Ok p l e R s m args below meth c own Z a0 EL n0 h0 ws wd Q sf h cells slots (mkF m pc L (.null :: S)) :=
  ok_stepT (fun vm T locs X e0 hZ hown O => ⟨T, X, e0, fun t k => X.instanceofNull G.1 (g := mkF m pc L (.null :: S)) rfl rfl (hb G.2.1 hd) t k⟩) k
theorem ok_initO (G : Good p meth c code maxL ret nm) {pc : Nat} {L : Array Slot} {S : List Value} {idx : Nat} (w1 : (Jvm.Cond.methodLink own idx Lib.objectInit).before a0 Z = true) (w2 : (Jvm.Cond.instanceMethod Lib.objectInit).before a0 Z = true) (w3 : (Jvm.Cond.code Lib.objectInit ⟨#[0xb1]⟩ 1 none).before a0 Z = true) (hsz : L.size = maxL) (hd : decode code pc = .ok (.invokespecial idx, 3)) (hf : 1 ≤ R.frames) (hl : (S.map fun v => v.category).sum + 12 ≤ R.locals)
    (k : Ok p l e R s m args below meth c own Z a0 EL n0 h0 ws wd Q sf h cells slots (mkF m (pc + 3) L S)) : Ok p l e R s m args below meth c own Z a0 EL n0 h0 ws wd Q sf h cells slots (mkF m pc L (.ref a :: S)) :=
  ok_stepT (fun vm T locs X e0 hZ hown O => initO X G.1 hZ hown w1 w2 w3 e0 (g := mkF m pc L (.ref a :: S)) rfl (by rw [G.2.2.1]; exact hsz) rfl (hb G.2.1 hd) hf (W := (S.map fun v => v.category).sum) (by show 2 * 0 + _ ≤ _; omega) hl) k
/-- behind a call that interned nothing -/
theorem ok_stepC {gn : Option Value → JFrame} {g : JFrame} {rc rs : Nat} {ws' : List Addr} {Q' : Option Value → Heap → Prop} (hws : ∀ x ∈ ws', (x ∈ ws ∨ h0.size ≤ x) ∧ SafeFor wd Z EL sf h x)
    (st : ∀ vm T locs, Stand p l e R (s.setVm vm) m args below meth c T locs cells slots → T.heap = h → Z.Warmed39 vm → vm.findClass own = some m.cls → Old Z n0 h →
      ∃ v T' L, Stand p l e R (s.setVm vm) m args below meth c T' (locs ++ L) (cells + rc) (slots + rs) ∧ (Fr n0 L ∧ Old Z n0 T'.heap ∧ Keep h T'.heap ws' ∧ Q' v T'.heap) ∧ ∀ target, Steps p.tables e below (T'.setTop (gn v)) target → Steps p.tables e below (T.setTop g) target)
    (k : ∀ v h', Keep h h' ws' → Q' v h' → Ok p l e R s m args below meth c own Z a0 EL n0 h0 ws wd Q sf h' (cells + rc) (slots + rs) (gn v)) : Ok p l e R s m args below meth c own Z a0 EL n0 h0 ws wd Q sf h cells slots g := by
  intro vm T locs W
  obtain ⟨X, e0, hZ, hown, hS, hh, N, O, K, r, r'⟩ := W
  obtain ⟨v, T', Ls, X', ⟨N', O', K', q⟩, st'⟩ := st vm T locs X e0 hZ hown O
  obtain ⟨s₂, o, h1, h2⟩ := k v T'.heap K' q vm T' _ ⟨X', rfl, hZ, hown, ⟨hS.1, hS.2.mono K'.1⟩, hh, N.app N', O', K.trans K' (fun x hx => (hws x hx).1), r, fun w => by
    obtain ⟨hE, hC, hs⟩ := r' w
    have hsw : ∀ x ∈ ws', Safe Z EL vm h x := fun x hx => ((hws x hx).2 w).elim (fun z => (hs x z).2) (fun z => z vm hZ.alike)
    exact ⟨hE, hC.trans (CHr.keep K' hsw hC.1), fun x hx => ⟨Nat.lt_of_lt_of_le (hs x hx).1 K'.1, Safe.keep K' hsw hC.1 (hs x hx).2⟩⟩⟩
  exact ⟨s₂, o, st' s₂ h1, h2⟩
/-- behind a step that may have interned -/
theorem ok_stepCW {gn : Option Value → JFrame} {g : JFrame} {rc rs : Nat} {ws' : List Addr} {Q' : Option Value → Heap → Vm → Prop} (hwd : wd = true) (hws : ∀ x ∈ ws', x ∈ ws ∨ h0.size ≤ x)
    (st : ∀ vm T locs, Stand p l e R (s.setVm vm) m args below meth c T locs cells slots → T.heap = h → Z.Warmed39 vm → vm.findClass own = some m.cls → s.Since vm h.size → Old Z n0 h → EW Z a0 EL → CHv Z EL vm h →
      ∃ v T' L, Stand p l e R (s.setVm T'.vm) m args below meth c T' (locs ++ L) (cells + rc) (slots + rs) ∧ s.Since T'.vm T'.heap.size ∧ Z.Warmed39 T'.vm ∧ T'.vm.findClass own = some m.cls ∧ CHr Z EL vm h T'.vm T'.heap ∧ (Fr n0 L ∧ Old Z n0 T'.heap ∧ Keep h T'.heap ws' ∧ Q' v T'.heap T'.vm) ∧ ∀ target, Steps p.tables e below (T'.setTop (gn v)) target → Steps p.tables e below (T.setTop g) target)
    (k : ∀ v h' vm', Keep h h' ws' → (∀ x ∈ sf, Safe Z EL vm' h' x) → Q' v h' vm' → Ok p l e R s m args below meth c own Z a0 EL n0 h0 ws wd Q sf h' (cells + rc) (slots + rs) (gn v)) : Ok p l e R s m args below meth c own Z a0 EL n0 h0 ws wd Q sf h cells slots g := by
  intro vm T locs W
  obtain ⟨X, e0, hZ, hown, hS, hh, N, O, K, r, r'⟩ := W
  obtain ⟨hE, hC, hs⟩ := r' hwd
  obtain ⟨v, T', Ls, X', hS', hZ', hown', hR, ⟨N', O', K', q⟩, st'⟩ := st vm T locs X e0 hZ hown hS O hE hC.1
  have hs' : ∀ x ∈ sf, x < T'.heap.size ∧ Safe Z EL T'.vm T'.heap x := fun x hx => ⟨Nat.lt_of_lt_of_le (hs x hx).1 K'.1, hR.safe (hs x hx).1 (hs x hx).2⟩
  obtain ⟨s₂, o, h1, h2⟩ := k v T'.heap T'.vm K' (fun x hx => (hs' x hx).2) q T'.vm T' _ ⟨X', rfl, hZ', hown', hS', hh, N.app N', O', K.trans K' hws, (fun w => absurd (hwd.symm.trans w) (fun z => nomatch z)), fun _ => ⟨hE, hC.trans hR, hs'⟩⟩
  exact ⟨s₂, o, st' s₂ h1, h2⟩
theorem Con.free {y : MethodName} {bytes : ByteArray} {maxL' : Nat} {ret' : Option FieldType} {rm : Room} {as' : Array Value} {ws' : List Addr} {Q' : Option Value → Heap → Prop} (hM : Con false l Z EL n0 y bytes maxL' ret' rm as' h ws' Q') :
    MetFree l y (head1 [Jvm.Cond.code y bytes maxL' ret'] rm) (fun a U => a = as' ∧ Z.Warmed39 U.vm ∧ U.heap = h) (fun _ _ _ _ _ => True) (fun _ U o U' => ∃ v L, o = .returned v ∧ (Fr n0 L ∧ Old Z n0 U'.heap ∧ Keep h U'.heap ws' ∧ Q' v U'.heap) ∧ FrameEnd U o U' L rm.cells rm.slots) :=
  fun p e ha hc hk s m args below hf happ hP hK => hM [] p e ha hc hk s m args below hf happ ⟨hP.1, hP.2.1, hP.2.2, fun q => nomatch q⟩ hK
theorem Con.freeW {y : MethodName} {bytes : ByteArray} {maxL' : Nat} {ret' : Option FieldType} {rm : Room} {as' : Array Value} {ws' : List Addr} {Q' : Option Value → Heap → Prop} (hM : Con true l Z EL n0 y bytes maxL' ret' rm as' h ws' Q') :
    MetFree l y (head1 [Jvm.Cond.code y bytes maxL' ret'] rm) (fun a U => a = as' ∧ Z.Warmed39 U.vm ∧ U.heap = h ∧ CHv Z EL U.vm h) (fun _ _ _ _ _ => True) (fun _ U o U' => ∃ v L, o = .returned v ∧ (Fr n0 L ∧ Old Z n0 U'.heap ∧ Keep h U'.heap ws' ∧ Q' v U'.heap) ∧ CHr Z EL U.vm U.heap U'.vm U'.heap ∧ ReturnedEndW U o U' L rm.cells rm.slots) :=
  fun p e ha hc hk s m args below hf happ hP hK => hM [] p e ha hc hk s m args below hf happ ⟨hP.1, hP.2.1, hP.2.2.1, fun _ => hP.2.2.2⟩ hK
theorem ok_static (G : Good p meth c code maxL ret nm) {pc : Nat} {L : Array Slot} {S : List Value} {y : MethodName} {bytes : ByteArray} {maxL' : Nat} {ret' : Option FieldType} {rm : Room} {ws' : List Addr} {Q' : Option Value → Heap → Prop} {index : Nat} {ps : List FieldType} {r : Option FieldType} {EL' : List (String × Nat)} {argsL rest : List Value} (w1 : (Jvm.Cond.methodLink own index y).before a0 Z = true) (w2 : (Jvm.Cond.static y).before a0 Z = true) (w3 : (Jvm.Cond.initialized y.cls).before a0 Z = true) (w4 : (Jvm.Cond.code y bytes maxL' ret').before a0 Z = true) (hy : y.cls ≠ "java/lang/invoke/MethodHandle" ∧ y.cls ≠ "java/lang/invoke/VarHandle") (hdesc : parseMethodDescriptor y.desc = some ⟨ps, r⟩)
    (hM : Con false l Z EL' n0 y bytes maxL' ret' rm argsL.toArray h ws' Q') (hln : argsL.length = ps.length) (hS : S = argsL.reverse ++ rest) (hsz : L.size = maxL) (hd : decode code pc = .ok (.invokestatic index, 3)) (hf : rm.frames + 1 ≤ R.frames) (hl : (rest.map fun v => v.category).sum + (maxL' + 11) + rm.locals ≤ R.locals) (hc : cells + rm.cells ≤ R.cells) (hsl : slots + rm.slots ≤ R.slots) (hws : ∀ x ∈ ws', (x ∈ ws ∨ h0.size ≤ x) ∧ SafeFor wd Z EL sf h x)
    (k : ∀ v h', Keep h h' ws' → Q' v h' → Ok p l e R s m args below meth c own Z a0 EL n0 h0 ws wd Q sf h' (cells + rm.cells) (slots + rm.slots) (mkF m (pc + 3) L (v.toList ++ rest))) : Ok p l e R s m args below meth c own Z a0 EL n0 h0 ws wd Q sf h cells slots (mkF m pc L S) := by
  subst hS
  exact ok_stepC (gn := fun v => mkF m (pc + 3) L (v.toList ++ rest)) hws (fun vm T locs X e0 hZ hown O => by
      obtain ⟨v, _, ⟨T', L', k', n'⟩, -, X', ⟨Lc, hQ, l1, y1, z1⟩, st⟩ := Jvm.LawKit.callS X G.1 (y := y) hown (mvT (s := s.setVm vm) hZ w1) (mvT (s := s.setVm vm) hZ w2) (mvT (s := s.setVm vm) hZ w3) (mvT (s := s.setVm vm) hZ w4) hy (backOf (s := s.setVm vm) (Q := fun v h' L => Fr n0 L ∧ Old Z n0 h' ∧ Keep h h' ws' ∧ Q' v h') (W := (rest.map fun v => v.category).sum) hM.free hZ w4 w3 hf hl) (g := mkF m pc L (argsL.reverse ++ rest)) rfl (by rw [G.2.2.1]; exact hsz) (argsL := argsL) (rest := rest) (lenOf hdesc hln) rfl (by show 2 * 0 + _ ≤ _; omega) (hb G.2.1 hd) (fun _ _ => ⟨rfl, e0, hc, hsl⟩)
      dsimp only [Pt.U, Pt.locs, Pt.cells, Pt.slots] at X' l1 y1 z1 st hQ
      subst l1 y1 z1
      exact ⟨v, T', Lc, X', hQ, st⟩) k
theorem ok_init (G : Good p meth c code maxL ret nm) {pc : Nat} {L : Array Slot} {S : List Value} {y : MethodName} {bytes : ByteArray} {maxL' : Nat} {rm : Room} {ws' : List Addr} {Q' : Option Value → Heap → Prop} {index : Nat} {ps : List FieldType} {r : Option FieldType} {EL' : List (String × Nat)} {argsL rest : List Value} (hy1 : y.name = "<init>") (w1 : (Jvm.Cond.methodLink own index y).before a0 Z = true) (w2 : (Jvm.Cond.instanceMethod y).before a0 Z = true) (w3 : (Jvm.Cond.initialized y.cls).before a0 Z = true) (w4 : (Jvm.Cond.code y bytes maxL' none).before a0 Z = true) (hy : y.cls ≠ "java/lang/invoke/MethodHandle" ∧ y.cls ≠ "java/lang/invoke/VarHandle") (hdesc : parseMethodDescriptor y.desc = some ⟨ps, r⟩)
    (hM : Con false l Z EL' n0 y bytes maxL' none rm (.ref a :: argsL).toArray h ws' Q') (hln : argsL.length = ps.length) (hS : S = argsL.reverse ++ .ref a :: rest) (hsz : L.size = maxL) (hd : decode code pc = .ok (.invokespecial index, 3)) (hf : rm.frames + 1 ≤ R.frames) (hl : (rest.map fun v => v.category).sum + (maxL' + 11) + rm.locals ≤ R.locals) (hc : cells + rm.cells ≤ R.cells) (hsl : slots + rm.slots ≤ R.slots) (hws : ∀ x ∈ ws', (x ∈ ws ∨ h0.size ≤ x) ∧ SafeFor wd Z EL sf h x)
    (k : ∀ v h', Keep h h' ws' → Q' v h' → Ok p l e R s m args below meth c own Z a0 EL n0 h0 ws wd Q sf h' (cells + rm.cells) (slots + rm.slots) (mkF m (pc + 3) L (v.toList ++ rest))) : Ok p l e R s m args below meth c own Z a0 EL n0 h0 ws wd Q sf h cells slots (mkF m pc L S) := by
  subst hS
  exact ok_stepC (gn := fun v => mkF m (pc + 3) L (v.toList ++ rest)) hws (fun vm T locs X e0 hZ hown O => by
      obtain ⟨v, _, ⟨T', L', k', n'⟩, -, X', ⟨Lc, hQ, l1, y1, z1⟩, st⟩ := X.specialBack G.1 (y := y) hy1 hown (mvT (s := s.setVm vm) hZ w1) (mvT (s := s.setVm vm) hZ w2) (mvT (s := s.setVm vm) hZ w4) hy (backOf (s := s.setVm vm) (Q := fun v h' L => Fr n0 L ∧ Old Z n0 h' ∧ Keep h h' ws' ∧ Q' v h') (W := (rest.map fun v => v.category).sum) hM.free hZ w4 w3 hf hl) (g := mkF m pc L (argsL.reverse ++ .ref a :: rest)) rfl (by rw [G.2.2.1]; exact hsz) (Steps.refl _) (a := a) (argsL := argsL) (rest := rest) (lenOf hdesc hln) rfl (by show 2 * 0 + _ ≤ _; omega) (hb G.2.1 hd) (fun _ _ => ⟨rfl, e0, hc, hsl⟩)
      dsimp only [Pt.U, Pt.locs, Pt.cells, Pt.slots] at X' l1 y1 z1 st hQ
      subst l1 y1 z1
      exact ⟨v, T', Lc, X', hQ, fun t k => st.trans k⟩) k
theorem ok_virtual (G : Good p meth c code maxL ret nm) {pc : Nat} {L : Array Slot} {S : List Value} {y : MethodName} {bytes : ByteArray} {maxL' : Nat} {ret' : Option FieldType} {rm : Room} {ws' : List Addr} {Q' : Option Value → Heap → Prop} {index : Nat} {ps : List FieldType} {r : Option FieldType} {EL' : List (String × Nat)} {y0 : MethodName} {C : String} {argsL rest : List Value} (E : Exa Z h a C) (w1 : (Jvm.Cond.methodLink own index y0).before a0 Z = true) (w5 : (Jvm.Cond.declares y0).before a0 Z = true) (w6 : (Jvm.Cond.selects C y0 y).before a0 Z = true) (hnf : ∀ vm, Z.Warmed39 vm → NotFace (s.setVm vm) y0) (w2 : (Jvm.Cond.instanceMethod y).before a0 Z = true) (w3 : (Jvm.Cond.initialized y.cls).before a0 Z = true) (w4 : (Jvm.Cond.code y bytes maxL' ret').before a0 Z = true) (hy : y0.cls ≠ "java/lang/invoke/MethodHandle" ∧ y0.cls ≠ "java/lang/invoke/VarHandle") (hdesc : parseMethodDescriptor y0.desc = some ⟨ps, r⟩)
    (hM : Con false l Z EL' n0 y bytes maxL' ret' rm (.ref a :: argsL).toArray h ws' Q') (hln : argsL.length = ps.length) (hS : S = argsL.reverse ++ .ref a :: rest) (hsz : L.size = maxL) (hd : decode code pc = .ok (.invokevirtual index, 3)) (hf : rm.frames + 1 ≤ R.frames) (hl : (rest.map fun v => v.category).sum + (maxL' + 11) + rm.locals ≤ R.locals) (hc : cells + rm.cells ≤ R.cells) (hsl : slots + rm.slots ≤ R.slots) (hws : ∀ x ∈ ws', (x ∈ ws ∨ h0.size ≤ x) ∧ SafeFor wd Z EL sf h x)
    (k : ∀ v h', Keep h h' ws' → Q' v h' → Ok p l e R s m args below meth c own Z a0 EL n0 h0 ws wd Q sf h' (cells + rm.cells) (slots + rm.slots) (mkF m (pc + 3) L (v.toList ++ rest))) : Ok p l e R s m args below meth c own Z a0 EL n0 h0 ws wd Q sf h cells slots (mkF m pc L S) := by
  subst hS
  exact ok_stepC (gn := fun v => mkF m (pc + 3) L (v.toList ++ rest)) hws (fun vm T locs X e0 hZ hown O => by
      obtain ⟨cq, kq, qa, qb, qc⟩ := isOf (s := s.setVm vm) hZ e0 E
      obtain ⟨v, _, ⟨T', L', k', n'⟩, -, X', ⟨Lc, hQ, l1, y1, z1⟩, st⟩ := X.virtualBack G.1 (y := y0) (z := y) hown (mvT (s := s.setVm vm) hZ w1) (mvT (s := s.setVm vm) hZ w5) (hnf vm hZ) (mvT (s := s.setVm vm) hZ w6) (mvT (s := s.setVm vm) hZ w2) hy (backOf (s := s.setVm vm) (Q := fun v h' L => Fr n0 L ∧ Old Z n0 h' ∧ Keep h h' ws' ∧ Q' v h') (W := (rest.map fun v => v.category).sum) hM.free hZ w4 w3 hf hl) qa qc (g := mkF m pc L (argsL.reverse ++ .ref a :: rest)) rfl (by rw [G.2.2.1]; exact hsz) (Steps.refl _) (argsL := argsL) (rest := rest) (lenOf hdesc hln) rfl (by show 2 * 0 + _ ≤ _; omega) (hb G.2.1 hd) (fun _ _ => ⟨rfl, e0, hc, hsl⟩)
      dsimp only [Pt.U, Pt.locs, Pt.cells, Pt.slots] at X' l1 y1 z1 st hQ
      subst l1 y1 z1
      exact ⟨v, T', Lc, X', hQ, fun t k => st.trans k⟩) k
theorem ok_interface (G : Good p meth c code maxL ret nm) {pc : Nat} {L : Array Slot} {S : List Value} {y : MethodName} {bytes : ByteArray} {maxL' : Nat} {ret' : Option FieldType} {rm : Room} {ws' : List Addr} {Q' : Option Value → Heap → Prop} {index : Nat} {ps : List FieldType} {r : Option FieldType} {EL' : List (String × Nat)} {y0 : MethodName} {C : String} {count : Nat} {argsL rest : List Value} (E : Exa Z h a C) (w1 : (Jvm.Cond.methodLink own index y0).before a0 Z = true) (w5 : (Jvm.Cond.declares y0).before a0 Z = true) (w7 : (Jvm.Cond.interfaceMethod y0.cls y0.cls y0.name y0.desc).before a0 Z = true) (hfc : ((Jvm.Cond.interfaceMethod y0.cls y0.cls y0.name y0.desc).onTables && (Jvm.Cond.interfaceMethod y0.cls y0.cls y0.name y0.desc).keepsFace) = true) (w6 : (Jvm.Cond.selects C y0 y).before a0 Z = true) (w2 : (Jvm.Cond.instanceMethod y).before a0 Z = true) (w8 : (Jvm.Cond.publicMethod y).before a0 Z = true) (w9 : (Jvm.Cond.unhidden C y0.name y0.desc).before a0 Z = true) (w10 : (Jvm.Cond.castable C y0.cls).before a0 Z = true) (w3 : (Jvm.Cond.initialized y.cls).before a0 Z = true) (w4 : (Jvm.Cond.code y bytes maxL' ret').before a0 Z = true) (hy : y0.cls ≠ "java/lang/invoke/MethodHandle" ∧ y0.cls ≠ "java/lang/invoke/VarHandle") (hdesc : parseMethodDescriptor y0.desc = some ⟨ps, r⟩)
    (hM : Con false l Z EL' n0 y bytes maxL' ret' rm (.ref a :: argsL).toArray h ws' Q') (hln : argsL.length = ps.length) (hS : S = argsL.reverse ++ .ref a :: rest) (hsz : L.size = maxL) (hd : decode code pc = .ok (.invokeinterface index count, 5)) (hf : rm.frames + 1 ≤ R.frames) (hl : (rest.map fun v => v.category).sum + (maxL' + 11) + rm.locals ≤ R.locals) (hc : cells + rm.cells ≤ R.cells) (hsl : slots + rm.slots ≤ R.slots) (hws : ∀ x ∈ ws', (x ∈ ws ∨ h0.size ≤ x) ∧ SafeFor wd Z EL sf h x)
    (k : ∀ v h', Keep h h' ws' → Q' v h' → Ok p l e R s m args below meth c own Z a0 EL n0 h0 ws wd Q sf h' (cells + rm.cells) (slots + rm.slots) (mkF m (pc + 5) L (v.toList ++ rest))) : Ok p l e R s m args below meth c own Z a0 EL n0 h0 ws wd Q sf h cells slots (mkF m pc L S) := by
  subst hS
  exact ok_stepC (gn := fun v => mkF m (pc + 5) L (v.toList ++ rest)) hws (fun vm T locs X e0 hZ hown O => by
      obtain ⟨cq, kq, qa, qb, qc⟩ := isOf (s := s.setVm vm) hZ e0 E
      obtain ⟨v, _, ⟨T', L', k', n'⟩, -, X', ⟨Lc, hQ, l1, y1, z1⟩, st⟩ := X.interfaceBack G.1 (xi := y0) (y := y) hown (mvT (s := s.setVm vm) hZ w1) (mvT (s := s.setVm vm) hZ w5) (mvT (s := s.setVm vm) hZ w7 hfc) (mvT (s := s.setVm vm) hZ w6) (mvT (s := s.setVm vm) hZ w2) (mvT (s := s.setVm vm) hZ w8) (mvT (s := s.setVm vm) hZ w9) (mvT (s := s.setVm vm) hZ w10) hy (backOf (s := s.setVm vm) (Q := fun v h' L => Fr n0 L ∧ Old Z n0 h' ∧ Keep h h' ws' ∧ Q' v h') (W := (rest.map fun v => v.category).sum) hM.free hZ w4 w3 hf hl) qa qb qc (g := mkF m pc L (argsL.reverse ++ .ref a :: rest)) rfl (by rw [G.2.2.1]; exact hsz) (Steps.refl _) (argsL := argsL) (rest := rest) (lenOf hdesc hln) rfl (by show 2 * 0 + _ ≤ _; omega) (hb G.2.1 hd) (fun _ _ => ⟨rfl, e0, hc, hsl⟩)
      dsimp only [Pt.U, Pt.locs, Pt.cells, Pt.slots] at X' l1 y1 z1 st hQ
      subst l1 y1 z1
      exact ⟨v, T', Lc, X', hQ, fun t k => st.trans k⟩) k
theorem ok_staticW (G : Good p meth c code maxL ret nm) {pc : Nat} {L : Array Slot} {S : List Value} {y : MethodName} {bytes : ByteArray} {maxL' : Nat} {ret' : Option FieldType} {rm : Room} {ws' : List Addr} {Q' : Option Value → Heap → Prop} {index : Nat} {ps : List FieldType} {r : Option FieldType} {argsL rest : List Value} (w1 : (Jvm.Cond.methodLink own index y).before a0 Z = true) (w2 : (Jvm.Cond.static y).before a0 Z = true) (w3 : (Jvm.Cond.initialized y.cls).before a0 Z = true) (w4 : (Jvm.Cond.code y bytes maxL' ret').before a0 Z = true) (hy : y.cls ≠ "java/lang/invoke/MethodHandle" ∧ y.cls ≠ "java/lang/invoke/VarHandle") (hdesc : parseMethodDescriptor y.desc = some ⟨ps, r⟩)
    (hM : Con true l Z EL n0 y bytes maxL' ret' rm argsL.toArray h ws' Q') (hln : argsL.length = ps.length) (hS : S = argsL.reverse ++ rest) (hsz : L.size = maxL) (hd : decode code pc = .ok (.invokestatic index, 3)) (hf : rm.frames + 1 ≤ R.frames) (hl : (rest.map fun v => v.category).sum + (maxL' + 11) + rm.locals ≤ R.locals) (hc : cells + rm.cells ≤ R.cells) (hsl : slots + rm.slots ≤ R.slots) (hwd : wd = true) (hws : ∀ x ∈ ws', x ∈ ws ∨ h0.size ≤ x)
    (k : ∀ v h', Keep h h' ws' → Q' v h' → Ok p l e R s m args below meth c own Z a0 EL n0 h0 ws wd Q sf h' (cells + rm.cells) (slots + rm.slots) (mkF m (pc + 3) L (v.toList ++ rest))) : Ok p l e R s m args below meth c own Z a0 EL n0 h0 ws wd Q sf h cells slots (mkF m pc L S) := by
  subst hS
  exact ok_stepCW (Q' := fun v h' _ => Q' v h') (gn := fun v => mkF m (pc + 3) L (v.toList ++ rest)) hwd hws (fun vm T locs X e0 hZ hown hSi O hE hC => by
      obtain ⟨v, _, ⟨T', L', k', n'⟩, -, X', hS2, hgr, ⟨Lc, hQ, l1, y1, z1, hR⟩, st⟩ := callSS X G.1 (y := y) hown (mvT (s := s.setVm vm) hZ w1) (mvT (s := s.setVm vm) hZ w2) (mvT (s := s.setVm vm) hZ w3) (mvT (s := s.setVm vm) hZ w4) hy (backOfSH (s := s) (Q := fun v h' L => Fr n0 L ∧ Old Z n0 h' ∧ Keep h h' ws' ∧ Q' v h') (W := (rest.map fun v => v.category).sum) hM.freeW hZ w4 w3 hf hl hE hC) (g := mkF m pc L (argsL.reverse ++ rest)) rfl (by rw [G.2.2.1]; exact hsz) (argsL := argsL) (rest := rest) (lenOf hdesc hln) rfl (by show 2 * 0 + _ ≤ _; omega) (hb G.2.1 hd) (fun _ _ => ⟨rfl, e0, hc, hsl⟩)
      dsimp only [Pt.U, Pt.locs, Pt.cells, Pt.slots] at X' l1 y1 z1 st hQ hS2 hgr hR
      subst l1 y1 z1
      obtain ⟨X2, S2, Z2, o2⟩ := rebS hSi (by rw [← e0]; exact Nat.le_refl _) X' hS2 hgr hZ hown
      exact ⟨v, T', Lc, X2, S2, Z2, o2, hR, hQ, fun t k => st.trans k⟩) (fun v h' vm' K' _ q => k v h' K' q)
theorem ok_initW (G : Good p meth c code maxL ret nm) {pc : Nat} {L : Array Slot} {S : List Value} {y : MethodName} {bytes : ByteArray} {maxL' : Nat} {rm : Room} {ws' : List Addr} {Q' : Option Value → Heap → Prop} {index : Nat} {ps : List FieldType} {r : Option FieldType} {argsL rest : List Value} (hy1 : y.name = "<init>") (w1 : (Jvm.Cond.methodLink own index y).before a0 Z = true) (w2 : (Jvm.Cond.instanceMethod y).before a0 Z = true) (w3 : (Jvm.Cond.initialized y.cls).before a0 Z = true) (w4 : (Jvm.Cond.code y bytes maxL' none).before a0 Z = true) (hy : y.cls ≠ "java/lang/invoke/MethodHandle" ∧ y.cls ≠ "java/lang/invoke/VarHandle") (hdesc : parseMethodDescriptor y.desc = some ⟨ps, r⟩)
    (hM : Con true l Z EL n0 y bytes maxL' none rm (.ref a :: argsL).toArray h ws' Q') (hln : argsL.length = ps.length) (hS : S = argsL.reverse ++ .ref a :: rest) (hsz : L.size = maxL) (hd : decode code pc = .ok (.invokespecial index, 3)) (hf : rm.frames + 1 ≤ R.frames) (hl : (rest.map fun v => v.category).sum + (maxL' + 11) + rm.locals ≤ R.locals) (hc : cells + rm.cells ≤ R.cells) (hsl : slots + rm.slots ≤ R.slots) (hwd : wd = true) (hws : ∀ x ∈ ws', x ∈ ws ∨ h0.size ≤ x)
    (k : ∀ v h', Keep h h' ws' → Q' v h' → Ok p l e R s m args below meth c own Z a0 EL n0 h0 ws wd Q sf h' (cells + rm.cells) (slots + rm.slots) (mkF m (pc + 3) L (v.toList ++ rest))) : Ok p l e R s m args below meth c own Z a0 EL n0 h0 ws wd Q sf h cells slots (mkF m pc L S) := by
  subst hS
  exact ok_stepCW (Q' := fun v h' _ => Q' v h') (gn := fun v => mkF m (pc + 3) L (v.toList ++ rest)) hwd hws (fun vm T locs X e0 hZ hown hSi O hE hC => by
      obtain ⟨v, _, ⟨T', L', k', n'⟩, -, X', hS2, hgr, ⟨Lc, hQ, l1, y1, z1, hR⟩, st⟩ := X.specialBackS G.1 (y := y) hy1 hown (mvT (s := s.setVm vm) hZ w1) (mvT (s := s.setVm vm) hZ w2) (mvT (s := s.setVm vm) hZ w4) hy (backOfSH (s := s) (Q := fun v h' L => Fr n0 L ∧ Old Z n0 h' ∧ Keep h h' ws' ∧ Q' v h') (W := (rest.map fun v => v.category).sum) hM.freeW hZ w4 w3 hf hl hE hC) (g := mkF m pc L (argsL.reverse ++ .ref a :: rest)) rfl (by rw [G.2.2.1]; exact hsz) (Steps.refl _) (a := a) (argsL := argsL) (rest := rest) (lenOf hdesc hln) rfl (by show 2 * 0 + _ ≤ _; omega) (hb G.2.1 hd) (fun _ _ => ⟨rfl, e0, hc, hsl⟩)
      dsimp only [Pt.U, Pt.locs, Pt.cells, Pt.slots] at X' l1 y1 z1 st hQ hS2 hgr hR
      subst l1 y1 z1
      obtain ⟨X2, S2, Z2, o2⟩ := rebS hSi (by rw [← e0]; exact Nat.le_refl _) X' hS2 hgr hZ hown
      exact ⟨v, T', Lc, X2, S2, Z2, o2, hR, hQ, fun t k => st.trans k⟩) (fun v h' vm' K' _ q => k v h' K' q)
theorem ok_virtualW (G : Good p meth c code maxL ret nm) {pc : Nat} {L : Array Slot} {S : List Value} {y : MethodName} {bytes : ByteArray} {maxL' : Nat} {ret' : Option FieldType} {rm : Room} {ws' : List Addr} {Q' : Option Value → Heap → Prop} {index : Nat} {ps : List FieldType} {r : Option FieldType} {y0 : MethodName} {C : String} {argsL rest : List Value} (E : Exa Z h a C) (w1 : (Jvm.Cond.methodLink own index y0).before a0 Z = true) (w5 : (Jvm.Cond.declares y0).before a0 Z = true) (w6 : (Jvm.Cond.selects C y0 y).before a0 Z = true) (hnf : ∀ vm, Z.Warmed39 vm → NotFace (s.setVm vm) y0) (w2 : (Jvm.Cond.instanceMethod y).before a0 Z = true) (w3 : (Jvm.Cond.initialized y.cls).before a0 Z = true) (w4 : (Jvm.Cond.code y bytes maxL' ret').before a0 Z = true) (hy : y0.cls ≠ "java/lang/invoke/MethodHandle" ∧ y0.cls ≠ "java/lang/invoke/VarHandle") (hdesc : parseMethodDescriptor y0.desc = some ⟨ps, r⟩)
    (hM : Con true l Z EL n0 y bytes maxL' ret' rm (.ref a :: argsL).toArray h ws' Q') (hln : argsL.length = ps.length) (hS : S = argsL.reverse ++ .ref a :: rest) (hsz : L.size = maxL) (hd : decode code pc = .ok (.invokevirtual index, 3)) (hf : rm.frames + 1 ≤ R.frames) (hl : (rest.map fun v => v.category).sum + (maxL' + 11) + rm.locals ≤ R.locals) (hc : cells + rm.cells ≤ R.cells) (hsl : slots + rm.slots ≤ R.slots) (hwd : wd = true) (hws : ∀ x ∈ ws', x ∈ ws ∨ h0.size ≤ x)
    (k : ∀ v h', Keep h h' ws' → Q' v h' → Ok p l e R s m args below meth c own Z a0 EL n0 h0 ws wd Q sf h' (cells + rm.cells) (slots + rm.slots) (mkF m (pc + 3) L (v.toList ++ rest))) : Ok p l e R s m args below meth c own Z a0 EL n0 h0 ws wd Q sf h cells slots (mkF m pc L S) := by
  subst hS
  exact ok_stepCW (Q' := fun v h' _ => Q' v h') (gn := fun v => mkF m (pc + 3) L (v.toList ++ rest)) hwd hws (fun vm T locs X e0 hZ hown hSi O hE hC => by
      obtain ⟨cq, kq, qa, qb, qc⟩ := isOf (s := s.setVm vm) hZ e0 E
      obtain ⟨v, _, ⟨T', L', k', n'⟩, -, X', hS2, hgr, ⟨Lc, hQ, l1, y1, z1, hR⟩, st⟩ := X.virtualBackS G.1 (y := y0) (z := y) hown (mvT (s := s.setVm vm) hZ w1) (mvT (s := s.setVm vm) hZ w5) (hnf vm hZ) (mvT (s := s.setVm vm) hZ w6) (mvT (s := s.setVm vm) hZ w2) hy (backOfSH (s := s) (Q := fun v h' L => Fr n0 L ∧ Old Z n0 h' ∧ Keep h h' ws' ∧ Q' v h') (W := (rest.map fun v => v.category).sum) hM.freeW hZ w4 w3 hf hl hE hC) qa qc (g := mkF m pc L (argsL.reverse ++ .ref a :: rest)) rfl (by rw [G.2.2.1]; exact hsz) (Steps.refl _) (argsL := argsL) (rest := rest) (lenOf hdesc hln) rfl (by show 2 * 0 + _ ≤ _; omega) (hb G.2.1 hd) (fun _ _ => ⟨rfl, e0, hc, hsl⟩)
      dsimp only [Pt.U, Pt.locs, Pt.cells, Pt.slots] at X' l1 y1 z1 st hQ hS2 hgr hR
      subst l1 y1 z1
      obtain ⟨X2, S2, Z2, o2⟩ := rebS hSi (by rw [← e0]; exact Nat.le_refl _) X' hS2 hgr hZ hown
      exact ⟨v, T', Lc, X2, S2, Z2, o2, hR, hQ, fun t k => st.trans k⟩) (fun v h' vm' K' _ q => k v h' K' q)
theorem ok_interfaceW (G : Good p meth c code maxL ret nm) {pc : Nat} {L : Array Slot} {S : List Value} {y : MethodName} {bytes : ByteArray} {maxL' : Nat} {ret' : Option FieldType} {rm : Room} {ws' : List Addr} {Q' : Option Value → Heap → Prop} {index : Nat} {ps : List FieldType} {r : Option FieldType} {y0 : MethodName} {C : String} {count : Nat} {argsL rest : List Value} (E : Exa Z h a C) (w1 : (Jvm.Cond.methodLink own index y0).before a0 Z = true) (w5 : (Jvm.Cond.declares y0).before a0 Z = true) (w7 : (Jvm.Cond.interfaceMethod y0.cls y0.cls y0.name y0.desc).before a0 Z = true) (hfc : ((Jvm.Cond.interfaceMethod y0.cls y0.cls y0.name y0.desc).onTables && (Jvm.Cond.interfaceMethod y0.cls y0.cls y0.name y0.desc).keepsFace) = true) (w6 : (Jvm.Cond.selects C y0 y).before a0 Z = true) (w2 : (Jvm.Cond.instanceMethod y).before a0 Z = true) (w8 : (Jvm.Cond.publicMethod y).before a0 Z = true) (w9 : (Jvm.Cond.unhidden C y0.name y0.desc).before a0 Z = true) (w10 : (Jvm.Cond.castable C y0.cls).before a0 Z = true) (w3 : (Jvm.Cond.initialized y.cls).before a0 Z = true) (w4 : (Jvm.Cond.code y bytes maxL' ret').before a0 Z = true) (hy : y0.cls ≠ "java/lang/invoke/MethodHandle" ∧ y0.cls ≠ "java/lang/invoke/VarHandle") (hdesc : parseMethodDescriptor y0.desc = some ⟨ps, r⟩)
    (hM : Con true l Z EL n0 y bytes maxL' ret' rm (.ref a :: argsL).toArray h ws' Q') (hln : argsL.length = ps.length) (hS : S = argsL.reverse ++ .ref a :: rest) (hsz : L.size = maxL) (hd : decode code pc = .ok (.invokeinterface index count, 5)) (hf : rm.frames + 1 ≤ R.frames) (hl : (rest.map fun v => v.category).sum + (maxL' + 11) + rm.locals ≤ R.locals) (hc : cells + rm.cells ≤ R.cells) (hsl : slots + rm.slots ≤ R.slots) (hwd : wd = true) (hws : ∀ x ∈ ws', x ∈ ws ∨ h0.size ≤ x)
    (k : ∀ v h', Keep h h' ws' → Q' v h' → Ok p l e R s m args below meth c own Z a0 EL n0 h0 ws wd Q sf h' (cells + rm.cells) (slots + rm.slots) (mkF m (pc + 5) L (v.toList ++ rest))) : Ok p l e R s m args below meth c own Z a0 EL n0 h0 ws wd Q sf h cells slots (mkF m pc L S) := by
  subst hS
  exact ok_stepCW (Q' := fun v h' _ => Q' v h') (gn := fun v => mkF m (pc + 5) L (v.toList ++ rest)) hwd hws (fun vm T locs X e0 hZ hown hSi O hE hC => by
      obtain ⟨cq, kq, qa, qb, qc⟩ := isOf (s := s.setVm vm) hZ e0 E
      obtain ⟨v, _, ⟨T', L', k', n'⟩, -, X', hS2, hgr, ⟨Lc, hQ, l1, y1, z1, hR⟩, st⟩ := X.interfaceBackS G.1 (xi := y0) (y := y) hown (mvT (s := s.setVm vm) hZ w1) (mvT (s := s.setVm vm) hZ w5) (mvT (s := s.setVm vm) hZ w7 hfc) (mvT (s := s.setVm vm) hZ w6) (mvT (s := s.setVm vm) hZ w2) (mvT (s := s.setVm vm) hZ w8) (mvT (s := s.setVm vm) hZ w9) (mvT (s := s.setVm vm) hZ w10) hy (backOfSH (s := s) (Q := fun v h' L => Fr n0 L ∧ Old Z n0 h' ∧ Keep h h' ws' ∧ Q' v h') (W := (rest.map fun v => v.category).sum) hM.freeW hZ w4 w3 hf hl hE hC) qa qb qc (g := mkF m pc L (argsL.reverse ++ .ref a :: rest)) rfl (by rw [G.2.2.1]; exact hsz) (Steps.refl _) (argsL := argsL) (rest := rest) (lenOf hdesc hln) rfl (by show 2 * 0 + _ ≤ _; omega) (hb G.2.1 hd) (fun _ _ => ⟨rfl, e0, hc, hsl⟩)
      dsimp only [Pt.U, Pt.locs, Pt.cells, Pt.slots] at X' l1 y1 z1 st hQ hS2 hgr hR
      subst l1 y1 z1
      obtain ⟨X2, S2, Z2, o2⟩ := rebS hSi (by rw [← e0]; exact Nat.le_refl _) X' hS2 hgr hZ hown
      exact ⟨v, T', Lc, X2, S2, Z2, o2, hR, hQ, fun t k => st.trans k⟩) (fun v h' vm' K' _ q => k v h' K' q)
theorem ok_ldcO (G : Good p meth c code maxL ret nm) {pc : Nat} {L : Array Slot} {S : List Value} {index : Nat} {text : String} (hwd : wd = true) (w : (Jvm.Cond.stringLink own index text).before a0 Z = true) (wS : ∀ a ∈ Bundle.stringAtoms, a.before a0 Z = true) (hd : decode code pc = .ok (.ldc index, 2)) (n : Nat) (hn : 4 * text.toList.length ≤ n) (hbig : n ≤ 536870912) (hc : cells + 2 ≤ R.cells) (hl : slots + (n + 4) ≤ R.slots)
    (k : ∀ a h', Keep h h' [] → Ok p l e R s m args below meth c own Z a0 EL n0 h0 ws wd Q sf h' (cells + 2) (slots + (n + 4)) (mkF m (pc + 2) L (.ref a :: S))) : Ok p l e R s m args below meth c own Z a0 EL n0 h0 ws wd Q sf h cells slots (mkF m pc L S) :=
  ok_stepCW (ws' := []) (Q' := fun v _ _ => ∃ a, v = some (.ref a)) (gn := fun v => mkF m (pc + 2) L (v.toList ++ S)) hwd (fun _ q => nomatch q) (fun vm T locs X e0 hZ hown hSi O hE hC => by
      obtain ⟨a, T', h', k1, X', e1, E, S1, hk1, hZ', hown', hR, -, st⟩ := ldcOH X G.1 hZ hown w wS e0 hSi (Nat.le_refl _) hE hC (g := mkF m pc L S) rfl (hb G.2.1 hd) hn hbig hc hl
      subst e1
      exact ⟨some (.ref a), T', [], by rw [List.append_nil]; exact X', ⟨S1.1, S1.2.mono hk1⟩, hZ', hown', hR, ⟨Fr.nil _, O.ext E, (Keep.refl h []).ext E, a, rfl⟩, st⟩) (fun v h' vm' K' _ q => by obtain ⟨a, rfl⟩ := q; exact k a h' K')
theorem ok_ldcR (G : Good p meth c code maxL ret nm) {pc : Nat} {L : Array Slot} {S : List Value} {index : Nat} {text : String} (hwd : wd = true) (w : (Jvm.Cond.stringLink own index text).before a0 Z = true) (wS : ∀ a ∈ Bundle.stringAtoms, a.before a0 Z = true) (hmem : (own, index) ∈ EL) {vs : List Value} {z : Int32} (ht : (∀ c ∈ text.toList, c.toNat < 256) ∧ text.toList.map (fun c => Value.int (Jvm.Lit.byteI c.toNat.toUInt16)) = vs) (hz : ¬ z < 0) (hzl : z.toNatClampNeg = vs.length)
    (hd : decode code pc = .ok (.ldc index, 2)) (n : Nat) (hn : 4 * text.toList.length ≤ n) (hbig : n ≤ 536870912) (hc : cells + 2 ≤ R.cells) (hl : slots + (n + 4) ≤ R.slots)
    (k : ∀ a h' b kb, Keep h h' [] → Exa Z h' a "java/lang/String" → Fld Z h' a "java/lang/String" "coder" "B" (.int 0) → Fld Z h' a "java/lang/String" "value" "[B" (.ref b) → Arv Z h' b kb .byte z vs (.int 0) → (∀ x ∈ sf, x ≠ a ∧ x ≠ b) → Ok p l e R s m args below meth c own Z a0 EL n0 h0 ws wd Q sf h' (cells + 2) (slots + (n + 4)) (mkF m (pc + 2) L (.ref a :: S))) : Ok p l e R s m args below meth c own Z a0 EL n0 h0 ws wd Q sf h cells slots (mkF m pc L S) :=
  ok_stepCW (ws' := []) (Q' := fun v h' vm' => ∃ a b kb, v = some (.ref a) ∧ Exa Z h' a "java/lang/String" ∧ Fld Z h' a "java/lang/String" "coder" "B" (.int 0) ∧ Fld Z h' a "java/lang/String" "value" "[B" (.ref b) ∧ Arv Z h' b kb .byte z vs (.int 0) ∧ ∀ x, Safe Z EL vm' h' x → x ≠ a ∧ x ≠ b) (gn := fun v => mkF m (pc + 2) L (v.toList ++ S)) hwd (fun _ q => nomatch q) (fun vm T locs X e0 hZ hown hSi O hE hC => by
      obtain ⟨a, T', h', k1, b, kb, X', e1, E, S1, hk1, hZ', hown', F1, F2, F3, F4, -, -, hR, -, hne, st⟩ := ldcCH X G.1 hZ hown w wS e0 hSi (Nat.le_refl _) hE hmem hC ht hz hzl (g := mkF m pc L S) rfl (hb G.2.1 hd) hn hbig hc hl
      subst e1
      exact ⟨some (.ref a), T', [], by rw [List.append_nil]; exact X', ⟨S1.1, S1.2.mono hk1⟩, hZ', hown', hR, ⟨Fr.nil _, O.ext E, (Keep.refl h []).ext E, a, b, kb, rfl, F1, F2, F3, F4, hne⟩, st⟩) (fun v h' vm' K' hsf q => by obtain ⟨a, b, kb, rfl, F1, F2, F3, F4, hne⟩ := q; exact k a h' b kb K' F1 F2 F3 F4 (fun x hx => hne x (hsf x hx)))
end Heaps
end Jvm.Pilot.@@N@@.Own
namespace Jvm.Pilot.@@N@@.Own
open Jvm Jvm.ClassFile Sem Op Lib Jvm.Free Jvm.Stand Jvm.LawKit Jvm.RoadKit Bundle
section Loops
variable {p : Program} {l : Launch} {e : Env} {R : Room} {s : State} {m : MethodId} {args : Array Value} {below : List Frame} {meth : Method} {c : Code}
  {own : String} {Z : State} {a0 : Array Value} {EL : List (String × Nat)} {n0 : Nat} {h0 : Heap} {ws : List Addr} {wd : Bool} {Q : Option Value → Heap → Prop}
  {sf : List Addr} {h : Heap} {cells slots : Nat} {g : JFrame}
theorem ok_loop {A : Type} (μ : A → Nat) (P : A → Prop) (hh : A → Heap) (gg : A → JFrame)
    (st : ∀ x, P x → (∀ x', μ x' < μ x → P x' → Ok p l e R s m args below meth c own Z a0 EL n0 h0 ws wd Q sf (hh x') cells slots (gg x')) → Ok p l e R s m args below meth c own Z a0 EL n0 h0 ws wd Q sf (hh x) cells slots (gg x)) (x : A) (hx : P x) :
    Ok p l e R s m args below meth c own Z a0 EL n0 h0 ws wd Q sf (hh x) cells slots (gg x) := by
  have q : ∀ k x, μ x < k → P x → Ok p l e R s m args below meth c own Z a0 EL n0 h0 ws wd Q sf (hh x) cells slots (gg x) := by
    intro k
    induction k with
    | zero => intro x hk; exact absurd hk (Nat.not_lt_zero _)
    | succ k ih => intro x hk hx; exact st x hx (fun x' h1 h2 => ih x' (Nat.lt_of_lt_of_le h1 (Nat.le_of_lt_succ hk)) h2)
  exact q (μ x + 1) x (Nat.lt_succ_self _) hx
/-- several roads meet: what is behind is walked once -/
theorem ok_meet {A : Type} (P : A → Prop) (hh : A → Heap) (sfs : A → List Addr) (cells' slots' : Nat) (gg : A → JFrame) (hk : (∀ x, P x → Ok p l e R s m args below meth c own Z a0 EL n0 h0 ws wd Q (sfs x) (hh x) cells' slots' (gg x)) → Ok p l e R s m args below meth c own Z a0 EL n0 h0 ws wd Q sf h cells slots g)
    (k : ∀ x, P x → Ok p l e R s m args below meth c own Z a0 EL n0 h0 ws wd Q (sfs x) (hh x) cells' slots' (gg x)) : Ok p l e R s m args below meth c own Z a0 EL n0 h0 ws wd Q sf h cells slots g := hk k
/-- .. where nothing but a value tells them apart -/
theorem ok_meetV {A : Type} (P : A → Prop) (gg : A → JFrame) (hk : (∀ x, P x → Ok p l e R s m args below meth c own Z a0 EL n0 h0 ws wd Q sf h cells slots (gg x)) → Ok p l e R s m args below meth c own Z a0 EL n0 h0 ws wd Q sf h cells slots g)
    (k : ∀ x, P x → Ok p l e R s m args below meth c own Z a0 EL n0 h0 ws wd Q sf h cells slots (gg x)) : Ok p l e R s m args below meth c own Z a0 EL n0 h0 ws wd Q sf h cells slots g := hk k
end Loops
/-! ints that are small naturals -/
theorem i32_int {i : Nat} (h : i < 2147483648) : (Int32.ofNat i).toInt = i := Int32.toInt_ofNat_small h
theorem i32_lt {i j : Nat} (hi : i < 2147483648) (hj : j < 2147483648) : Int32.ofNat i < Int32.ofNat j ↔ i < j := by
  rw [Int32.lt_iff_toInt_lt, i32_int hi, i32_int hj]; omega
theorem i32_nn {i : Nat} (h : i < 2147483648) : ¬ Int32.ofNat i < 0 := by
  rw [Int32.lt_iff_toInt_lt, i32_int h]; show ¬ ((i : Int) < 0); omega
theorem i32_clamp {i : Nat} (h : i < 2147483648) : (Int32.ofNat i).toNatClampNeg = i := by
  rw [Int32.toNatClampNeg, i32_int h]; omega
theorem i32_eq {i j : Nat} (hi : i < 2147483648) (hj : j < 2147483648) : Int32.ofNat i = Int32.ofNat j ↔ i = j := by
  rw [← Int32.toInt_inj, i32_int hi, i32_int hj]; omega
theorem i32_succ (i : Nat) : Int32.ofNat i + (1 : Int32) = Int32.ofNat (i + 1) := by
  rw [Int32.ofNat_add]; rfl
theorem i32_sub {i j : Nat} (h : j ≤ i) : Int32.ofNat i - Int32.ofNat j = Int32.ofNat (i - j) := by
  have e : Int32.ofNat i = Int32.ofNat (i - j) + Int32.ofNat j := by rw [← Int32.ofNat_add]; congr 1; omega
  rw [e, Int32.add_sub_cancel]
/-! chars -/
abbrev lo8 (c : Int32) : Value := .int c.toInt8.toInt32
def Lat (c : Int32) : Prop := ¬ c < 0 ∧ ¬ (255 : Int32) < c
theorem Lat.int {c : Int32} (h : Lat c) : 0 ≤ c.toInt ∧ c.toInt ≤ 255 := by
  obtain ⟨h1, h2⟩ := h
  rw [Int32.lt_iff_toInt_lt] at h1 h2
  have e1 : (0 : Int32).toInt = 0 := rfl
  have e2 : (255 : Int32).toInt = 255 := rfl
  omega
theorem lat_mask (x : Int32) : Lat ((x &&& (255 : Int32)).toUInt32.toUInt16.toUInt32.toInt32) := by
  have t : ∀ k : Fin 256, ¬ (Int32.ofNat k.val).toUInt32.toUInt16.toUInt32.toInt32 < 0 ∧ ¬ (255 : Int32) < (Int32.ofNat k.val).toUInt32.toUInt16.toUInt32.toInt32 := by decide +kernel
  have h : (x &&& 255).toBitVec.toNat < 256 := by
    simp only [Int32.toBitVec_and, BitVec.toNat_and]
    exact Nat.lt_succ_of_le Nat.and_le_right
  have e : (x &&& 255) = Int32.ofNat (x &&& 255).toBitVec.toNat := by
    apply Int32.toBitVec_inj.mp
    show _ = BitVec.ofNat 32 _
    rw [BitVec.ofNat_toNat]; simp
  rw [e]
  exact t ⟨_, h⟩
theorem nar_char {c : Int32} (h : fits .char (.int c) = true) : nar .char c = c := by
  simp only [fits, Bool.and_eq_true, decide_eq_true_eq, Int32.le_iff_toInt_le] at h
  show c.toUInt32.toUInt16.toUInt32.toInt32 = c
  have e1 : (0 : Int32).toInt = 0 := rfl
  have e2 : (65535 : Int32).toInt = 65535 := rfl
  apply Int32.toBitVec_inj.mp
  have hn : c.toBitVec.toNat < 65536 := by
    have hi := h
    have : c.toInt = c.toBitVec.toInt := rfl
    rw [BitVec.toInt_eq_toNat_cond] at this
    split at this <;> omega
  apply BitVec.eq_of_toNat_eq
  show ((c.toUInt32.toUInt16.toUInt32.toInt32).toBitVec).toNat = _
  have : ((c.toUInt32.toUInt16.toUInt32.toInt32).toBitVec).toNat = c.toBitVec.toNat % 65536 := by
    show c.toUInt32.toUInt16.toUInt32.toNat = _
    simp
    rfl
  rw [this, Nat.mod_eq_of_lt hn]
theorem Lat.fits {c : Int32} (h : Lat c) : fits .char (.int c) = true := by
  have := h.int
  simp only [Jvm.fits, Bool.and_eq_true, decide_eq_true_eq, Int32.le_iff_toInt_le]
  have e1 : (0 : Int32).toInt = 0 := rfl
  have e2 : (65535 : Int32).toInt = 65535 := rfl
  omega
theorem Lat.nar {c : Int32} (h : Lat c) : nar .char c = c := nar_char h.fits
theorem Lat.back {c : Int32} (h : Lat c) : (c.toInt8.toInt32 &&& (255 : Int32)).toUInt32.toUInt16.toUInt32.toInt32 = c := by
  have t : ∀ k : Fin 256, ((Int32.ofNat k.val).toInt8.toInt32 &&& (255 : Int32)).toUInt32.toUInt16.toUInt32.toInt32 = Int32.ofNat k.val := by decide +kernel
  have hi := h.int
  have e : c = Int32.ofNat c.toInt.toNat := by
    rw [← Int32.toInt_inj, i32_int (by omega)]; omega
  rw [e]
  exact t ⟨c.toInt.toNat, by omega⟩
theorem Lat.inj {c d : Int32} (h : Lat c) (h' : Lat d) (e : c.toInt8.toInt32 = d.toInt8.toInt32) : c = d := by rw [← h.back, ← h'.back, e]
theorem own_mid {pre p1 p2 : List Int32} {c d : Int32} (h : pre ++ c :: p1 = pre ++ d :: p2) : c = d := by
  have := List.append_cancel_left h
  exact (List.cons.inj this).1
theorem own_bool {b : Int32} (h : b = 0 ∨ b = 1) : narrow .boolean (.int b) = .int b ∧ fits .boolean (.int b) = true := by rcases h with rfl | rfl <;> exact ⟨rfl, rfl⟩
theorem own_bit {b : Int32} {P R : Prop} (h : (b = 1 ∧ P) ∨ (b = 0 ∧ R)) : b = 0 ∨ b = 1 := h.elim (fun q => Or.inr q.1) (fun q => Or.inl q.1)
theorem own_bitT {b : Int32} {P R : Prop} (h : (b = 1 ∧ P) ∨ (b = 0 ∧ R)) (q : ¬ b = 0) : P := h.elim (fun z => z.2) (fun z => absurd z.1 q)
theorem own_bitF {b : Int32} {P R : Prop} (h : (b = 1 ∧ P) ∨ (b = 0 ∧ R)) (q : b = 0) : R := h.elim (fun z => by rw [z.1] at q; cases q) (fun z => z.2)
theorem own_if0 {P : Prop} [Decidable P] (h : (if P then (1 : Int32) else 0) = 0) : ¬ P := fun q => by rw [if_pos q] at h; cases h
theorem own_if1 {P : Prop} [Decidable P] (h : ¬ (if P then (1 : Int32) else 0) = 0) : P := by
  by_cases q : P
  · exact q
  · rw [if_neg q] at h; exact absurd rfl h
theorem getD_mem {cs : List Int32} {k : Nat} {d : Int32} (h : k < cs.length) : cs.getD k d ∈ cs := by
  rw [List.getD_eq_getElem?_getD, List.getElem?_eq_getElem h]; exact List.getElem_mem h
theorem getD_map {α : Type} {f : Int32 → α} {cs : List Int32} {k : Nat} {d : α} {e : Int32} (h : k < cs.length) : (cs.map f).getD k d = f (cs.getD k e) := by
  rw [List.getD_eq_getElem?_getD, List.getD_eq_getElem?_getD, List.getElem?_map, List.getElem?_eq_getElem h]; rfl
theorem getD_mid {α : Type} (d : α) (f : Int32 → α) (pre post : List Int32) (c : Int32) : ((pre ++ c :: post).map f).getD pre.length d = f c := by simp
theorem old_le {Z : State} {n0 : Nat} {h : Heap} (O : Old Z n0 h) : n0 ≤ h.size := O.1 ▸ O.2.1
theorem allL {α : Type} {P : α → Prop} {y : α} {L : List α} (q : P y) (r : ∀ x ∈ L, P x) : ∀ x ∈ y :: L, P x := fun x z => (List.mem_cons.mp z).elim (fun u => u ▸ q) (r x)
/-- a String of Latin-1 chars -/
def LStr (Z : State) (h : Heap) (x t : Addr) (cs : List Int32) : Prop :=
  Exa Z h x "java/lang/String" ∧ Fld Z h x "java/lang/String" "coder" "B" (.int 0) ∧ Fld Z h x "java/lang/String" "value" "[B" (.ref t) ∧
    (∃ kb, Arv Z h t kb .byte (Int32.ofNat cs.length) (cs.map lo8) (.int 0)) ∧ (∀ c ∈ cs, Lat c) ∧ cs.length ≤ 16
section StrF
variable {Z : State} {h h' : Heap} {x t : Addr} {cs : List Int32} {ws : List Addr} {a0 : Array Value}
theorem LStr.keep (F : LStr Z h x t cs) (K : Keep h h' ws) (q1 : x ∉ ws) (q2 : t ∉ ws) : LStr Z h' x t cs := by
  obtain ⟨F1, F2, F3, ⟨kb, F4⟩, F5⟩ := F
  exact ⟨F1.keep K, F2.keep K q1, F3.keep K q1, ⟨kb, F4.keep K q2⟩, F5⟩
theorem LStr.exa (F : LStr Z h x t cs) : Exa Z h x "java/lang/String" := F.1
theorem LStr.lt (F : LStr Z h x t cs) : x < h.size := F.1.lt
theorem LStr.ltT (F : LStr Z h x t cs) : t < h.size := by obtain ⟨-, -, -, ⟨_, F4⟩, -⟩ := F; exact F4.lt
theorem LStr.neT {a : Addr} {C : String} {n : Nat} (F : LStr Z h x t cs) (E : Exa Z h a C) (w : (Jvm.Cond.instantiable C n).before a0 Z = true) : a ≠ t := by
  obtain ⟨-, -, -, ⟨_, F4⟩, -⟩ := F; exact E.neArv F4 w
end StrF
/-- a String whose value is null yet is no booked one -/
theorem safe_null {Z : State} {h : Heap} {x : Addr} {EL : List (String × Nat)} {wd : Bool} {sf : List Addr} (E : Exa Z h x "java/lang/String") (FV : Fld Z h x "java/lang/String" "value" "[B" .null) : SafeFor wd Z EL sf h x := fun _ => Or.inr fun vm hal B => by
  obtain ⟨q0, hq0, u, a, hb, q, hqa, F, hx⟩ := B
  obtain ⟨cell, cf, k, i, f, f1, f2, f3, f4, f5, f6, f7⟩ := FV
  obtain ⟨cell', ke, e1, e2, e3, e4, e5⟩ := E
  cases f1.symm.trans e1
  obtain ⟨cS, ⟨⟨s1, s2, s3, ⟨cv, kv, iv, s4, s4'⟩, ⟨cc, kc, ic, s5, s5'⟩, s6, s7, s8, s9, s10, s11, s12, s13, s14, s15, s16⟩, hfS, hcS⟩, ⟨kS, k1, k2, k3⟩, hB, hbyt⟩ := F
  have s1 : h[q.sa]? = some q.sC := s1
  have s10 : h[q.sd]? = some q.SA := s10
  rcases hx with rfl | rfl
  · cases f1.symm.trans s1
    obtain ⟨kv', z4⟩ := ff_back (U := Wst Z vm h) hal s4
    cases f2.symm.trans z4
    rw [s8] at f7
    cases f7
  · cases f1.symm.trans s10
    obtain ⟨hst, k9, hk9, comp, hkind9⟩ := s11
    have hfS : vm.findClass "java/lang/String" = some cS := hfS
    have hk9 : vm.classes[q.SA.cls]? = some k9 := hk9
    have k1 : vm.classes[cS]? = some kS := k1
    rw [hal.findClass] at hfS
    have ec : cS = q.SA.cls := Option.some.inj (hfS.symm.trans e2)
    rw [ec] at k1
    cases k1.symm.trans hk9
    rw [k2] at hkind9
    cases hkind9
/-- an array written behind its first values -/
theorem Arv.push {Z : State} {h h' : Heap} {a : Addr} {k : ClassId} {ty : FieldType} {z j : Int32} {vs : List Value} {dv v : Value} (F : Arv Z h a k ty z vs dv) (hv : fits ty v = true) (W : Wr h h' a j.toNatClampNeg v) (hj : j.toNatClampNeg = vs.length) : Arv Z h' a k ty z (vs ++ [v]) dv := by
  have F' := F.pad (pad_rep vs dv 1)
  obtain ⟨c, A, q, S, N, H, U⟩ := F'
  have := Arv.set A q S N H U hv W vs.length hj (by simp)
  simpa using this
section PushR
variable {p : Program} {l : Launch} {e : Env} {R : Room} {s : State} {m : MethodId} {args : Array Value} {below : List Frame} {meth : Method} {c : Code}
  {own : String} {Z : State} {a0 : Array Value} {EL : List (String × Nat)} {n0 : Nat} {h0 : Heap} {ws : List Addr} {wd : Bool} {Q : Option Value → Heap → Prop}
  {sf : List Addr} {h : Heap} {cells slots : Nat} {code : ByteArray} {maxL : Nat} {ret : Option FieldType} {nm : String} {a : Addr}
theorem ok_bastoreA (G : Good p meth c code maxL ret nm) {pc : Nat} {L : Array Slot} {S : List Value} {kA : ClassId} {z j x : Int32} (x' : Int32) {vs : List Value} {dv : Value} (F : Arv Z h a kA .byte z vs dv) (hj : ¬ j < 0 ∧ j < z) (hi : j.toNatClampNeg = vs.length) (hv : nar .byte x = x') (hd : decode code pc = .ok (.bastore, 1))
    (hg : n0 ≤ a) (hw : a ∈ ws ∨ h0.size ≤ a) (hs : SafeFor wd Z EL sf h a)
    (k : ∀ h', Keep h h' [a] → Arv Z h' a kA .byte z (vs ++ [.int x']) dv → Ok p l e R s m args below meth c own Z a0 EL n0 h0 ws wd Q sf h' cells slots (mkF m (pc + 1) L S)) : Ok p l e R s m args below meth c own Z a0 EL n0 h0 ws wd Q sf h cells slots (mkF m pc L (.int x :: .int j :: .ref a :: S)) := by
  subst hv
  obtain ⟨cl, A, q, Sz, N, H, U⟩ := id F
  exact ok_stepW hg hw hs (fun vm T locs X e0 hZ hown O => stB X G.1 hZ e0 A (inb_of Sz hj) (g := mkF m pc L (.int x :: .int j :: .ref a :: S)) rfl rfl (hb G.2.1 hd)) (fun h' K W => k h' K (Arv.push F (fits_nar_byte _) W hi))
end PushR
end Jvm.Pilot.@@N@@.Own
namespace Jvm.Pilot.@@N@@.Own
open Jvm Jvm.ClassFile Sem Op Lib Jvm.Free Jvm.Stand Jvm.LawKit Jvm.RoadKit Bundle
section Copies
variable {p : Program} {l : Launch} {e : Env} {R : Room} {s : State} {m : MethodId} {args : Array Value} {below : List Frame} {meth : Method} {c : Code}
  {own : String} {Z : State} {a0 : Array Value} {EL : List (String × Nat)} {n0 : Nat} {h0 : Heap} {ws : List Addr} {wd : Bool} {Q : Option Value → Heap → Prop}
  {sf : List Addr} {h : Heap} {cells slots : Nat} {code : ByteArray} {maxL : Nat} {ret : Option FieldType} {nm : String} {a b : Addr}
/-- System.arraycopy between arrays of one primitive kind (or of references, each storable) -/
theorem ok_copy (G : Good p meth c code maxL ret nm) {pc : Nat} {L : Array Slot} {S : List Value} {index : Nat} {k k' : ClassId} {ty ty' : FieldType} {z z' sp dp nn : Int32} {vs vd : List Value} {dv dd : Value} (us : List Value)
    (w1 : (Jvm.Cond.methodLink own index Jvm.Stand.acN).before a0 Z = true) (w2 : (Jvm.Cond.native Jvm.Stand.acN).before a0 Z = true) (w3 : (Jvm.Cond.static Jvm.Stand.acN).before a0 Z = true) (w4 : (Jvm.Cond.initialized "java/lang/System").before a0 Z = true)
    (A : Arv Z h a k ty z vs dv) (B : Arv Z h b k' ty' z' vd dd) (hty : (ty = ty' ∧ refKind ty = false) ∨ (refKind ty = true ∧ refKind ty' = true ∧ StoL Z h b us))
    (h1 : ¬ sp < 0) (h2 : ¬ dp < 0) (h3 : ¬ nn < 0) (h4 : sp.toNatClampNeg + nn.toNatClampNeg ≤ z.toNatClampNeg) (h5 : dp.toNatClampNeg + nn.toNatClampNeg ≤ z'.toNatClampNeg)
    (hus : us = (List.range nn.toNatClampNeg).map fun i => vs.getD (sp.toNatClampNeg + i) dv) (hl : dp.toNatClampNeg + nn.toNatClampNeg ≤ vd.length)
    (hsz : L.size = maxL) (hd : decode code pc = .ok (.invokestatic index, 3)) (hf : 1 ≤ R.frames) (hlo : (S.map fun v => v.category).sum + 18 ≤ R.locals)
    (hg : n0 ≤ b) (hw : b ∈ ws ∨ h0.size ≤ b) (hs : SafeFor wd Z EL sf h b)
    (kk : ∀ h', Keep h h' [b] → Arv Z h' b k' ty' z' (vd.take dp.toNatClampNeg ++ us ++ vd.drop (dp.toNatClampNeg + nn.toNatClampNeg)) dd → Ok p l e R s m args below meth c own Z a0 EL n0 h0 ws wd Q sf h' cells slots (mkF m (pc + 3) L S)) :
    Ok p l e R s m args below meth c own Z a0 EL n0 h0 ws wd Q sf h cells slots (mkF m pc L (.int nn :: .int dp :: .ref b :: .int sp :: .ref a :: S)) := by
  intro vm T locs W
  obtain ⟨X, e0, hZ, hown, hS, hh, N, O, K, r, r'⟩ := W
  obtain ⟨T', h', L', X', e1, N', K', B', st⟩ := cpA X G.1 hZ hown w1 w2 w3 w4 e0 A B hty h1 h2 h3 h4 h5 hus hl N hg (g := mkF m pc L (.int nn :: .int dp :: .ref b :: .int sp :: .ref a :: S)) rfl (by rw [G.2.2.1]; exact hsz) rfl (hb G.2.1 hd) hf (W := (S.map fun v => v.category).sum) (by show 2 * 0 + _ ≤ _; omega) (by simpa [nativeFrameWords] using hlo)
  obtain ⟨s₂, o, g1, g2⟩ := kk h' K' B' vm T' L' ⟨X', e1, hZ, hown, ⟨hS.1, hS.2.mono K'.1⟩, hh, N', O.keep K' (fun x hx => by rw [List.mem_singleton.mp hx]; exact hg), K.trans K' (fun x hx => by rw [List.mem_singleton.mp hx]; exact hw), r, fun w => by
    obtain ⟨hE, hC, hsf⟩ := r' w
    have hsw : ∀ x ∈ [b], Safe Z EL vm h x := fun x hx => by
      rw [List.mem_singleton.mp hx]
      exact (hs w).elim (fun z => (hsf b z).2) (fun z => z vm hZ.alike)
    exact ⟨hE, hC.trans (CHr.keep K' hsw hC.1), fun x hx => ⟨Nat.lt_of_lt_of_le (hsf x hx).1 K'.1, Safe.keep K' hsw hC.1 (hsf x hx).2⟩⟩⟩
  exact ⟨s₂, o, st s₂ g1, g2⟩
end Copies
theorem own_snoc {α : Type} (l : List α) : l = [] ∨ ∃ p c, l = p ++ [c] := by
  rcases List.eq_nil_or_concat l with h | ⟨p, c, h⟩
  · exact Or.inl h
  · exact Or.inr ⟨p, c, by rw [h, List.concat_eq_append]⟩
theorem own_min {i j n : Nat} (h1 : i ≤ j) (h2 : j ≤ n) (hn : n ≤ 16) : (if Int32.ofNat (j - i) < Int32.ofNat n - Int32.ofNat i then Int32.ofNat (j - i) else Int32.ofNat n - Int32.ofNat i) = Int32.ofNat (j - i) := by
  rw [i32_sub (by omega)]
  by_cases q : Int32.ofNat (j - i) < Int32.ofNat (n - i)
  · rw [if_pos q]
  · rw [if_neg q]
    rw [i32_lt (by omega) (by omega)] at q
    congr 1
    omega
theorem range_mid {α : Type} (f : Int32 → α) (d : α) (cs : List Int32) (i n : Nat) (h : i + n ≤ cs.length) : ((cs.drop i).take n).map f = (List.range n).map fun j => (cs.map f).getD (i + j) d := by
  apply List.ext_getElem
  · simp; omega
  · intro k h1 h2
    simp at h1 h2
    have : i + k < cs.length := by omega
    simp [List.getD_eq_getElem?_getD, List.getElem?_eq_getElem this]
end Jvm.Pilot.@@N@@.Own
namespace Jvm.Pilot.@@N@@
open Jvm Jvm.ClassFile Sem Op Lib Jvm.Free Jvm.Stand Jvm.LawKit Jvm.RoadKit Bundle Jvm.Pilot.@@N@@.Jvm.D Jvm.Pilot.@@N@@.Own
def Cx (Z : State) (a0 : Array Value) : Prop := (∀ d ∈ tables_1, d.before a0 Z = true) ∧ (∃ cz : Int32, Sta Z Z.heap "java/lang/String" "COMPACT_STRINGS" "Z" (.int cz) ∧ ¬ cz = 0) ∧ (∃ fm : Value, Sta Z Z.heap "jdk/internal/util/Preconditions" "SIOOBE_FORMATTER" "Ljava/util/function/BiFunction;" fm ∧ (fm = .null ∨ ∃ fa, fm = .ref fa))
theorem Cx.w0 {Z : State} {a0 : Array Value} (C : Cx Z a0) : (Jvm.Cond.constant "com/example/loadstone/loadstone/LoadFileNamePinLaw" (7 : Nat) (2147483647 : Int32)).before a0 Z = true := C.1 _ (List.mem_of_getElem? (i := 0) rfl)
theorem Cx.w1 {Z : State} {a0 : Array Value} (C : Cx Z a0) : (Jvm.Cond.arrayClass Jvm.ClassFile.FieldType.char).before a0 Z = true := C.1 _ (List.mem_of_getElem? (i := 1) rfl)
theorem Cx.w2 {Z : State} {a0 : Array Value} (C : Cx Z a0) : (Jvm.Cond.methodLink "com/example/loadstone/loadstone/LoadFileNamePinLaw" (8 : Nat) ({ cls := "com/example/loadstone/loadstone/LoadFileNamePinLaw", name := "ch", desc := "(I)C" } : Jvm.MethodName)).before a0 Z = true := C.1 _ (List.mem_of_getElem? (i := 2) rfl)
theorem Cx.w3 {Z : State} {a0 : Array Value} (C : Cx Z a0) : (Jvm.Cond.static ({ cls := "com/example/loadstone/loadstone/LoadFileNamePinLaw", name := "ch", desc := "(I)C" } : Jvm.MethodName)).before a0 Z = true := C.1 _ (List.mem_of_getElem? (i := 3) rfl)
theorem Cx.w4 {Z : State} {a0 : Array Value} (C : Cx Z a0) : (Jvm.Cond.initialized "com/example/loadstone/loadstone/LoadFileNamePinLaw").before a0 Z = true := C.1 _ (List.mem_of_getElem? (i := 4) rfl)
theorem Cx.w5 {Z : State} {a0 : Array Value} (C : Cx Z a0) : (Jvm.Cond.code ({ cls := "com/example/loadstone/loadstone/LoadFileNamePinLaw", name := "ch", desc := "(I)C" } : Jvm.MethodName) method_3_code (1 : Nat) (Option.some Jvm.ClassFile.FieldType.char)).before a0 Z = true := C.1 _ (List.mem_of_getElem? (i := 5) rfl)
theorem Cx.w6 {Z : State} {a0 : Array Value} (C : Cx Z a0) : (Jvm.Cond.classLink "com/example/loadstone/loadstone/LoadFileNamePinLaw" (14 : Nat) "java/lang/String").before a0 Z = true := C.1 _ (List.mem_of_getElem? (i := 6) rfl)
theorem Cx.w7 {Z : State} {a0 : Array Value} (C : Cx Z a0) : (Jvm.Cond.instantiable "java/lang/String" (4 : Nat)).before a0 Z = true := C.1 _ (List.mem_of_getElem? (i := 7) rfl)
theorem Cx.w8 {Z : State} {a0 : Array Value} (C : Cx Z a0) : (Jvm.Cond.initialized "java/lang/String").before a0 Z = true := C.1 _ (List.mem_of_getElem? (i := 8) rfl)
theorem Cx.w9 {Z : State} {a0 : Array Value} (C : Cx Z a0) : (Jvm.Cond.methodLink "com/example/loadstone/loadstone/LoadFileNamePinLaw" (16 : Nat) ({ cls := "com/example/loadstone/loadstone/LoadFileNamePinLaw", name := "take", desc := "([CI)[C" } : Jvm.MethodName)).before a0 Z = true := C.1 _ (List.mem_of_getElem? (i := 9) rfl)
theorem Cx.w10 {Z : State} {a0 : Array Value} (C : Cx Z a0) : (Jvm.Cond.static ({ cls := "com/example/loadstone/loadstone/LoadFileNamePinLaw", name := "take", desc := "([CI)[C" } : Jvm.MethodName)).before a0 Z = true := C.1 _ (List.mem_of_getElem? (i := 10) rfl)
theorem Cx.w11 {Z : State} {a0 : Array Value} (C : Cx Z a0) : (Jvm.Cond.code ({ cls := "com/example/loadstone/loadstone/LoadFileNamePinLaw", name := "take", desc := "([CI)[C" } : Jvm.MethodName) method_4_code (2 : Nat) (Option.some (Jvm.ClassFile.FieldType.array Jvm.ClassFile.FieldType.char))).before a0 Z = true := C.1 _ (List.mem_of_getElem? (i := 11) rfl)
theorem Cx.w12 {Z : State} {a0 : Array Value} (C : Cx Z a0) : (Jvm.Cond.methodLink "com/example/loadstone/loadstone/LoadFileNamePinLaw" (20 : Nat) ({ cls := "java/lang/String", name := "<init>", desc := "([C)V" } : Jvm.MethodName)).before a0 Z = true := C.1 _ (List.mem_of_getElem? (i := 12) rfl)
theorem Cx.w13 {Z : State} {a0 : Array Value} (C : Cx Z a0) : (Jvm.Cond.instanceMethod ({ cls := "java/lang/String", name := "<init>", desc := "([C)V" } : Jvm.MethodName)).before a0 Z = true := C.1 _ (List.mem_of_getElem? (i := 13) rfl)
theorem Cx.w14 {Z : State} {a0 : Array Value} (C : Cx Z a0) : (Jvm.Cond.code ({ cls := "java/lang/String", name := "<init>", desc := "([C)V" } : Jvm.MethodName) jdk_42_method_3_code (2 : Nat) (Option.none : Option Jvm.ClassFile.FieldType)).before a0 Z = true := C.1 _ (List.mem_of_getElem? (i := 14) rfl)
theorem Cx.w15 {Z : State} {a0 : Array Value} (C : Cx Z a0) : (Jvm.Cond.methodLink "java/lang/String" (27 : Nat) ({ cls := "java/lang/String", name := "<init>", desc := "([CIILjava/lang/Void;)V" } : Jvm.MethodName)).before a0 Z = true := C.1 _ (List.mem_of_getElem? (i := 15) rfl)
theorem Cx.w16 {Z : State} {a0 : Array Value} (C : Cx Z a0) : (Jvm.Cond.instanceMethod ({ cls := "java/lang/String", name := "<init>", desc := "([CIILjava/lang/Void;)V" } : Jvm.MethodName)).before a0 Z = true := C.1 _ (List.mem_of_getElem? (i := 16) rfl)
theorem Cx.w18 {Z : State} {a0 : Array Value} (C : Cx Z a0) : (Jvm.Cond.code ({ cls := "java/lang/String", name := "<init>", desc := "([CIILjava/lang/Void;)V" } : Jvm.MethodName) jdk_42_method_149_code (6 : Nat) (Option.none : Option Jvm.ClassFile.FieldType)).before a0 Z = true := C.1 _ (List.mem_of_getElem? (i := 18) rfl)
theorem Cx.w19 {Z : State} {a0 : Array Value} (C : Cx Z a0) : (Jvm.Cond.methodLink "java/lang/String" (1 : Nat) ({ cls := "java/lang/Object", name := "<init>", desc := "()V" } : Jvm.MethodName)).before a0 Z = true := C.1 _ (List.mem_of_getElem? (i := 19) rfl)
theorem Cx.w20 {Z : State} {a0 : Array Value} (C : Cx Z a0) : (Jvm.Cond.instanceMethod ({ cls := "java/lang/Object", name := "<init>", desc := "()V" } : Jvm.MethodName)).before a0 Z = true := C.1 _ (List.mem_of_getElem? (i := 20) rfl)
theorem Cx.w21 {Z : State} {a0 : Array Value} (C : Cx Z a0) : (Jvm.Cond.code ({ cls := "java/lang/Object", name := "<init>", desc := "()V" } : Jvm.MethodName) object_method_1_code (1 : Nat) (Option.none : Option Jvm.ClassFile.FieldType)).before a0 Z = true := C.1 _ (List.mem_of_getElem? (i := 21) rfl)
theorem Cx.w22 {Z : State} {a0 : Array Value} (C : Cx Z a0) : (Jvm.Cond.stringLink "java/lang/String" (7 : Nat) "").before a0 Z = true := C.1 _ (List.mem_of_getElem? (i := 22) rfl)
theorem Cx.w23 {Z : State} {a0 : Array Value} (C : Cx Z a0) : (Jvm.Cond.arrayClass Jvm.ClassFile.FieldType.byte).before a0 Z = true := C.1 _ (List.mem_of_getElem? (i := 23) rfl)
theorem Cx.w24 {Z : State} {a0 : Array Value} (C : Cx Z a0) : (Jvm.Cond.laysFinal "java/lang/String" "java/lang/String" "value" "[B").before a0 Z = true := C.1 _ (List.mem_of_getElem? (i := 24) rfl)
theorem Cx.w25 {Z : State} {a0 : Array Value} (C : Cx Z a0) : (Jvm.Cond.laysFinal "java/lang/String" "java/lang/String" "coder" "B").before a0 Z = true := C.1 _ (List.mem_of_getElem? (i := 25) rfl)
theorem Cx.w28 {Z : State} {a0 : Array Value} (C : Cx Z a0) : (Jvm.Cond.fieldLink "java/lang/String" (9 : Nat) "java/lang/String" "value" "[B").before a0 Z = true := C.1 _ (List.mem_of_getElem? (i := 28) rfl)
theorem Cx.w29 {Z : State} {a0 : Array Value} (C : Cx Z a0) : (Jvm.Cond.fieldLink "java/lang/String" (15 : Nat) "java/lang/String" "coder" "B").before a0 Z = true := C.1 _ (List.mem_of_getElem? (i := 29) rfl)
theorem Cx.w30 {Z : State} {a0 : Array Value} (C : Cx Z a0) : (Jvm.Cond.methodLink "com/example/loadstone/loadstone/LoadFileNamePinLaw" (23 : Nat) ({ cls := "com/example/loadstone/loadstone/Load", name := "fileName", desc := "(Ljava/lang/String;)Ljava/lang/String;" } : Jvm.MethodName)).before a0 Z = true := C.1 _ (List.mem_of_getElem? (i := 30) rfl)
theorem Cx.w31 {Z : State} {a0 : Array Value} (C : Cx Z a0) : (Jvm.Cond.static ({ cls := "com/example/loadstone/loadstone/Load", name := "fileName", desc := "(Ljava/lang/String;)Ljava/lang/String;" } : Jvm.MethodName)).before a0 Z = true := C.1 _ (List.mem_of_getElem? (i := 31) rfl)
theorem Cx.w32 {Z : State} {a0 : Array Value} (C : Cx Z a0) : (Jvm.Cond.initialized "com/example/loadstone/loadstone/Load").before a0 Z = true := C.1 _ (List.mem_of_getElem? (i := 32) rfl)
theorem Cx.w33 {Z : State} {a0 : Array Value} (C : Cx Z a0) : (Jvm.Cond.code ({ cls := "com/example/loadstone/loadstone/Load", name := "fileName", desc := "(Ljava/lang/String;)Ljava/lang/String;" } : Jvm.MethodName) prog_19_method_12_code (1 : Nat) (Option.some (Jvm.ClassFile.FieldType.object "java/lang/String"))).before a0 Z = true := C.1 _ (List.mem_of_getElem? (i := 33) rfl)
theorem Cx.w34 {Z : State} {a0 : Array Value} (C : Cx Z a0) : (Jvm.Cond.methodLink "com/example/loadstone/loadstone/Load" (300 : Nat) ({ cls := "java/lang/String", name := "lastIndexOf", desc := "(I)I" } : Jvm.MethodName)).before a0 Z = true := C.1 _ (List.mem_of_getElem? (i := 34) rfl)
theorem Cx.w35 {Z : State} {a0 : Array Value} (C : Cx Z a0) : (Jvm.Cond.declares ({ cls := "java/lang/String", name := "lastIndexOf", desc := "(I)I" } : Jvm.MethodName)).before a0 Z = true := C.1 _ (List.mem_of_getElem? (i := 35) rfl)
theorem Cx.w36 {Z : State} {a0 : Array Value} (C : Cx Z a0) : (Jvm.Cond.instanceMethod ({ cls := "java/lang/String", name := "lastIndexOf", desc := "(I)I" } : Jvm.MethodName)).before a0 Z = true := C.1 _ (List.mem_of_getElem? (i := 36) rfl)
theorem Cx.w37 {Z : State} {a0 : Array Value} (C : Cx Z a0) : (Jvm.Cond.selects "java/lang/String" ({ cls := "java/lang/String", name := "lastIndexOf", desc := "(I)I" } : Jvm.MethodName) ({ cls := "java/lang/String", name := "lastIndexOf", desc := "(I)I" } : Jvm.MethodName)).before a0 Z = true := C.1 _ (List.mem_of_getElem? (i := 37) rfl)
theorem Cx.w38 {Z : State} {a0 : Array Value} (C : Cx Z a0) : (Jvm.Cond.code ({ cls := "java/lang/String", name := "lastIndexOf", desc := "(I)I" } : Jvm.MethodName) jdk_42_method_82_code (2 : Nat) (Option.some Jvm.ClassFile.FieldType.int)).before a0 Z = true := C.1 _ (List.mem_of_getElem? (i := 38) rfl)
theorem Cx.w39 {Z : State} {a0 : Array Value} (C : Cx Z a0) : (Jvm.Cond.methodLink "java/lang/String" (505 : Nat) ({ cls := "java/lang/String", name := "length", desc := "()I" } : Jvm.MethodName)).before a0 Z = true := C.1 _ (List.mem_of_getElem? (i := 39) rfl)
theorem Cx.w40 {Z : State} {a0 : Array Value} (C : Cx Z a0) : (Jvm.Cond.declares ({ cls := "java/lang/String", name := "length", desc := "()I" } : Jvm.MethodName)).before a0 Z = true := C.1 _ (List.mem_of_getElem? (i := 40) rfl)
theorem Cx.w41 {Z : State} {a0 : Array Value} (C : Cx Z a0) : (Jvm.Cond.instanceMethod ({ cls := "java/lang/String", name := "length", desc := "()I" } : Jvm.MethodName)).before a0 Z = true := C.1 _ (List.mem_of_getElem? (i := 41) rfl)
theorem Cx.w42 {Z : State} {a0 : Array Value} (C : Cx Z a0) : (Jvm.Cond.selects "java/lang/String" ({ cls := "java/lang/String", name := "length", desc := "()I" } : Jvm.MethodName) ({ cls := "java/lang/String", name := "length", desc := "()I" } : Jvm.MethodName)).before a0 Z = true := C.1 _ (List.mem_of_getElem? (i := 42) rfl)
theorem Cx.w43 {Z : State} {a0 : Array Value} (C : Cx Z a0) : (Jvm.Cond.code ({ cls := "java/lang/String", name := "length", desc := "()I" } : Jvm.MethodName) jdk_42_method_54_code (1 : Nat) (Option.some Jvm.ClassFile.FieldType.int)).before a0 Z = true := C.1 _ (List.mem_of_getElem? (i := 43) rfl)
theorem Cx.w44 {Z : State} {a0 : Array Value} (C : Cx Z a0) : (Jvm.Cond.methodLink "java/lang/String" (335 : Nat) ({ cls := "java/lang/String", name := "coder", desc := "()B" } : Jvm.MethodName)).before a0 Z = true := C.1 _ (List.mem_of_getElem? (i := 44) rfl)
theorem Cx.w45 {Z : State} {a0 : Array Value} (C : Cx Z a0) : (Jvm.Cond.declares ({ cls := "java/lang/String", name := "coder", desc := "()B" } : Jvm.MethodName)).before a0 Z = true := C.1 _ (List.mem_of_getElem? (i := 45) rfl)
theorem Cx.w46 {Z : State} {a0 : Array Value} (C : Cx Z a0) : (Jvm.Cond.instanceMethod ({ cls := "java/lang/String", name := "coder", desc := "()B" } : Jvm.MethodName)).before a0 Z = true := C.1 _ (List.mem_of_getElem? (i := 46) rfl)
theorem Cx.w47 {Z : State} {a0 : Array Value} (C : Cx Z a0) : (Jvm.Cond.selects "java/lang/String" ({ cls := "java/lang/String", name := "coder", desc := "()B" } : Jvm.MethodName) ({ cls := "java/lang/String", name := "coder", desc := "()B" } : Jvm.MethodName)).before a0 Z = true := C.1 _ (List.mem_of_getElem? (i := 47) rfl)
theorem Cx.w48 {Z : State} {a0 : Array Value} (C : Cx Z a0) : (Jvm.Cond.code ({ cls := "java/lang/String", name := "coder", desc := "()B" } : Jvm.MethodName) jdk_42_method_152_code (1 : Nat) (Option.some Jvm.ClassFile.FieldType.byte)).before a0 Z = true := C.1 _ (List.mem_of_getElem? (i := 48) rfl)
theorem Cx.w49 {Z : State} {a0 : Array Value} (C : Cx Z a0) : (Jvm.Cond.fieldLink "java/lang/String" (38 : Nat) "java/lang/String" "COMPACT_STRINGS" "Z").before a0 Z = true := C.1 _ (List.mem_of_getElem? (i := 49) rfl)
theorem Cx.w50 {Z : State} {a0 : Array Value} (C : Cx Z a0) : (Jvm.Cond.methodLink "java/lang/String" (641 : Nat) ({ cls := "java/lang/String", name := "lastIndexOf", desc := "(II)I" } : Jvm.MethodName)).before a0 Z = true := C.1 _ (List.mem_of_getElem? (i := 50) rfl)
theorem Cx.w51 {Z : State} {a0 : Array Value} (C : Cx Z a0) : (Jvm.Cond.declares ({ cls := "java/lang/String", name := "lastIndexOf", desc := "(II)I" } : Jvm.MethodName)).before a0 Z = true := C.1 _ (List.mem_of_getElem? (i := 51) rfl)
theorem Cx.w52 {Z : State} {a0 : Array Value} (C : Cx Z a0) : (Jvm.Cond.instanceMethod ({ cls := "java/lang/String", name := "lastIndexOf", desc := "(II)I" } : Jvm.MethodName)).before a0 Z = true := C.1 _ (List.mem_of_getElem? (i := 52) rfl)
theorem Cx.w53 {Z : State} {a0 : Array Value} (C : Cx Z a0) : (Jvm.Cond.selects "java/lang/String" ({ cls := "java/lang/String", name := "lastIndexOf", desc := "(II)I" } : Jvm.MethodName) ({ cls := "java/lang/String", name := "lastIndexOf", desc := "(II)I" } : Jvm.MethodName)).before a0 Z = true := C.1 _ (List.mem_of_getElem? (i := 53) rfl)
theorem Cx.w54 {Z : State} {a0 : Array Value} (C : Cx Z a0) : (Jvm.Cond.code ({ cls := "java/lang/String", name := "lastIndexOf", desc := "(II)I" } : Jvm.MethodName) jdk_42_method_83_code (3 : Nat) (Option.some Jvm.ClassFile.FieldType.int)).before a0 Z = true := C.1 _ (List.mem_of_getElem? (i := 54) rfl)
theorem Cx.w55 {Z : State} {a0 : Array Value} (C : Cx Z a0) : (Jvm.Cond.methodLink "java/lang/String" (492 : Nat) ({ cls := "java/lang/String", name := "isLatin1", desc := "()Z" } : Jvm.MethodName)).before a0 Z = true := C.1 _ (List.mem_of_getElem? (i := 55) rfl)
theorem Cx.w56 {Z : State} {a0 : Array Value} (C : Cx Z a0) : (Jvm.Cond.declares ({ cls := "java/lang/String", name := "isLatin1", desc := "()Z" } : Jvm.MethodName)).before a0 Z = true := C.1 _ (List.mem_of_getElem? (i := 56) rfl)
theorem Cx.w57 {Z : State} {a0 : Array Value} (C : Cx Z a0) : (Jvm.Cond.instanceMethod ({ cls := "java/lang/String", name := "isLatin1", desc := "()Z" } : Jvm.MethodName)).before a0 Z = true := C.1 _ (List.mem_of_getElem? (i := 57) rfl)
theorem Cx.w58 {Z : State} {a0 : Array Value} (C : Cx Z a0) : (Jvm.Cond.selects "java/lang/String" ({ cls := "java/lang/String", name := "isLatin1", desc := "()Z" } : Jvm.MethodName) ({ cls := "java/lang/String", name := "isLatin1", desc := "()Z" } : Jvm.MethodName)).before a0 Z = true := C.1 _ (List.mem_of_getElem? (i := 58) rfl)
theorem Cx.w59 {Z : State} {a0 : Array Value} (C : Cx Z a0) : (Jvm.Cond.code ({ cls := "java/lang/String", name := "isLatin1", desc := "()Z" } : Jvm.MethodName) jdk_42_method_154_code (1 : Nat) (Option.some Jvm.ClassFile.FieldType.boolean)).before a0 Z = true := C.1 _ (List.mem_of_getElem? (i := 59) rfl)
theorem Cx.w60 {Z : State} {a0 : Array Value} (C : Cx Z a0) : (Jvm.Cond.methodLink "java/lang/String" (644 : Nat) ({ cls := "java/lang/StringLatin1", name := "lastIndexOf", desc := "([BII)I" } : Jvm.MethodName)).before a0 Z = true := C.1 _ (List.mem_of_getElem? (i := 60) rfl)
theorem Cx.w61 {Z : State} {a0 : Array Value} (C : Cx Z a0) : (Jvm.Cond.static ({ cls := "java/lang/StringLatin1", name := "lastIndexOf", desc := "([BII)I" } : Jvm.MethodName)).before a0 Z = true := C.1 _ (List.mem_of_getElem? (i := 61) rfl)
theorem Cx.w62 {Z : State} {a0 : Array Value} (C : Cx Z a0) : (Jvm.Cond.initialized "java/lang/StringLatin1").before a0 Z = true := C.1 _ (List.mem_of_getElem? (i := 62) rfl)
theorem Cx.w63 {Z : State} {a0 : Array Value} (C : Cx Z a0) : (Jvm.Cond.code ({ cls := "java/lang/StringLatin1", name := "lastIndexOf", desc := "([BII)I" } : Jvm.MethodName) jdk_43_method_27_code (4 : Nat) (Option.some Jvm.ClassFile.FieldType.int)).before a0 Z = true := C.1 _ (List.mem_of_getElem? (i := 63) rfl)
theorem Cx.w64 {Z : State} {a0 : Array Value} (C : Cx Z a0) : (Jvm.Cond.methodLink "java/lang/StringLatin1" (88 : Nat) ({ cls := "java/lang/StringLatin1", name := "canEncode", desc := "(I)Z" } : Jvm.MethodName)).before a0 Z = true := C.1 _ (List.mem_of_getElem? (i := 64) rfl)
theorem Cx.w65 {Z : State} {a0 : Array Value} (C : Cx Z a0) : (Jvm.Cond.static ({ cls := "java/lang/StringLatin1", name := "canEncode", desc := "(I)Z" } : Jvm.MethodName)).before a0 Z = true := C.1 _ (List.mem_of_getElem? (i := 65) rfl)
theorem Cx.w66 {Z : State} {a0 : Array Value} (C : Cx Z a0) : (Jvm.Cond.code ({ cls := "java/lang/StringLatin1", name := "canEncode", desc := "(I)Z" } : Jvm.MethodName) jdk_43_method_4_code (1 : Nat) (Option.some Jvm.ClassFile.FieldType.boolean)).before a0 Z = true := C.1 _ (List.mem_of_getElem? (i := 66) rfl)
theorem Cx.w67 {Z : State} {a0 : Array Value} (C : Cx Z a0) : (Jvm.Cond.methodLink "java/lang/StringLatin1" (38 : Nat) ({ cls := "java/lang/Math", name := "min", desc := "(II)I" } : Jvm.MethodName)).before a0 Z = true := C.1 _ (List.mem_of_getElem? (i := 67) rfl)
theorem Cx.w68 {Z : State} {a0 : Array Value} (C : Cx Z a0) : (Jvm.Cond.static ({ cls := "java/lang/Math", name := "min", desc := "(II)I" } : Jvm.MethodName)).before a0 Z = true := C.1 _ (List.mem_of_getElem? (i := 68) rfl)
theorem Cx.w69 {Z : State} {a0 : Array Value} (C : Cx Z a0) : (Jvm.Cond.initialized "java/lang/Math").before a0 Z = true := C.1 _ (List.mem_of_getElem? (i := 69) rfl)
theorem Cx.w70 {Z : State} {a0 : Array Value} (C : Cx Z a0) : (Jvm.Cond.code ({ cls := "java/lang/Math", name := "min", desc := "(II)I" } : Jvm.MethodName) jdk_29_method_69_code (2 : Nat) (Option.some Jvm.ClassFile.FieldType.int)).before a0 Z = true := C.1 _ (List.mem_of_getElem? (i := 70) rfl)
theorem Cx.w71 {Z : State} {a0 : Array Value} (C : Cx Z a0) : (Jvm.Cond.methodLink "com/example/loadstone/loadstone/Load" (304 : Nat) ({ cls := "java/lang/String", name := "substring", desc := "(I)Ljava/lang/String;" } : Jvm.MethodName)).before a0 Z = true := C.1 _ (List.mem_of_getElem? (i := 71) rfl)
theorem Cx.w72 {Z : State} {a0 : Array Value} (C : Cx Z a0) : (Jvm.Cond.declares ({ cls := "java/lang/String", name := "substring", desc := "(I)Ljava/lang/String;" } : Jvm.MethodName)).before a0 Z = true := C.1 _ (List.mem_of_getElem? (i := 72) rfl)
theorem Cx.w73 {Z : State} {a0 : Array Value} (C : Cx Z a0) : (Jvm.Cond.instanceMethod ({ cls := "java/lang/String", name := "substring", desc := "(I)Ljava/lang/String;" } : Jvm.MethodName)).before a0 Z = true := C.1 _ (List.mem_of_getElem? (i := 73) rfl)
theorem Cx.w74 {Z : State} {a0 : Array Value} (C : Cx Z a0) : (Jvm.Cond.selects "java/lang/String" ({ cls := "java/lang/String", name := "substring", desc := "(I)Ljava/lang/String;" } : Jvm.MethodName) ({ cls := "java/lang/String", name := "substring", desc := "(I)Ljava/lang/String;" } : Jvm.MethodName)).before a0 Z = true := C.1 _ (List.mem_of_getElem? (i := 74) rfl)
theorem Cx.w75 {Z : State} {a0 : Array Value} (C : Cx Z a0) : (Jvm.Cond.code ({ cls := "java/lang/String", name := "substring", desc := "(I)Ljava/lang/String;" } : Jvm.MethodName) jdk_42_method_91_code (2 : Nat) (Option.some (Jvm.ClassFile.FieldType.object "java/lang/String"))).before a0 Z = true := C.1 _ (List.mem_of_getElem? (i := 75) rfl)
theorem Cx.w76 {Z : State} {a0 : Array Value} (C : Cx Z a0) : (Jvm.Cond.methodLink "java/lang/String" (681 : Nat) ({ cls := "java/lang/String", name := "substring", desc := "(II)Ljava/lang/String;" } : Jvm.MethodName)).before a0 Z = true := C.1 _ (List.mem_of_getElem? (i := 76) rfl)
theorem Cx.w77 {Z : State} {a0 : Array Value} (C : Cx Z a0) : (Jvm.Cond.declares ({ cls := "java/lang/String", name := "substring", desc := "(II)Ljava/lang/String;" } : Jvm.MethodName)).before a0 Z = true := C.1 _ (List.mem_of_getElem? (i := 77) rfl)
theorem Cx.w78 {Z : State} {a0 : Array Value} (C : Cx Z a0) : (Jvm.Cond.instanceMethod ({ cls := "java/lang/String", name := "substring", desc := "(II)Ljava/lang/String;" } : Jvm.MethodName)).before a0 Z = true := C.1 _ (List.mem_of_getElem? (i := 78) rfl)
theorem Cx.w79 {Z : State} {a0 : Array Value} (C : Cx Z a0) : (Jvm.Cond.selects "java/lang/String" ({ cls := "java/lang/String", name := "substring", desc := "(II)Ljava/lang/String;" } : Jvm.MethodName) ({ cls := "java/lang/String", name := "substring", desc := "(II)Ljava/lang/String;" } : Jvm.MethodName)).before a0 Z = true := C.1 _ (List.mem_of_getElem? (i := 79) rfl)
theorem Cx.w80 {Z : State} {a0 : Array Value} (C : Cx Z a0) : (Jvm.Cond.code ({ cls := "java/lang/String", name := "substring", desc := "(II)Ljava/lang/String;" } : Jvm.MethodName) jdk_42_method_92_code (5 : Nat) (Option.some (Jvm.ClassFile.FieldType.object "java/lang/String"))).before a0 Z = true := C.1 _ (List.mem_of_getElem? (i := 80) rfl)
theorem Cx.w81 {Z : State} {a0 : Array Value} (C : Cx Z a0) : (Jvm.Cond.methodLink "java/lang/String" (521 : Nat) ({ cls := "java/lang/String", name := "checkBoundsBeginEnd", desc := "(III)V" } : Jvm.MethodName)).before a0 Z = true := C.1 _ (List.mem_of_getElem? (i := 81) rfl)
theorem Cx.w82 {Z : State} {a0 : Array Value} (C : Cx Z a0) : (Jvm.Cond.static ({ cls := "java/lang/String", name := "checkBoundsBeginEnd", desc := "(III)V" } : Jvm.MethodName)).before a0 Z = true := C.1 _ (List.mem_of_getElem? (i := 82) rfl)
theorem Cx.w83 {Z : State} {a0 : Array Value} (C : Cx Z a0) : (Jvm.Cond.code ({ cls := "java/lang/String", name := "checkBoundsBeginEnd", desc := "(III)V" } : Jvm.MethodName) jdk_42_method_158_code (3 : Nat) (Option.none : Option Jvm.ClassFile.FieldType)).before a0 Z = true := C.1 _ (List.mem_of_getElem? (i := 83) rfl)
theorem Cx.w84 {Z : State} {a0 : Array Value} (C : Cx Z a0) : (Jvm.Cond.fieldLink "java/lang/String" (1053 : Nat) "jdk/internal/util/Preconditions" "SIOOBE_FORMATTER" "Ljava/util/function/BiFunction;").before a0 Z = true := C.1 _ (List.mem_of_getElem? (i := 84) rfl)
theorem Cx.w85 {Z : State} {a0 : Array Value} (C : Cx Z a0) : (Jvm.Cond.initialized "jdk/internal/util/Preconditions").before a0 Z = true := C.1 _ (List.mem_of_getElem? (i := 85) rfl)
theorem Cx.w86 {Z : State} {a0 : Array Value} (C : Cx Z a0) : (Jvm.Cond.methodLink "java/lang/String" (1062 : Nat) ({ cls := "jdk/internal/util/Preconditions", name := "checkFromToIndex", desc := "(IIILjava/util/function/BiFunction;)I" } : Jvm.MethodName)).before a0 Z = true := C.1 _ (List.mem_of_getElem? (i := 86) rfl)
theorem Cx.w87 {Z : State} {a0 : Array Value} (C : Cx Z a0) : (Jvm.Cond.static ({ cls := "jdk/internal/util/Preconditions", name := "checkFromToIndex", desc := "(IIILjava/util/function/BiFunction;)I" } : Jvm.MethodName)).before a0 Z = true := C.1 _ (List.mem_of_getElem? (i := 87) rfl)
theorem Cx.w88 {Z : State} {a0 : Array Value} (C : Cx Z a0) : (Jvm.Cond.code ({ cls := "jdk/internal/util/Preconditions", name := "checkFromToIndex", desc := "(IIILjava/util/function/BiFunction;)I" } : Jvm.MethodName) jdk_41_method_12_code (4 : Nat) (Option.some Jvm.ClassFile.FieldType.int)).before a0 Z = true := C.1 _ (List.mem_of_getElem? (i := 88) rfl)
theorem Cx.w89 {Z : State} {a0 : Array Value} (C : Cx Z a0) : (Jvm.Cond.methodLink "com/example/loadstone/loadstone/LoadFileNamePinLaw" (29 : Nat) ({ cls := "java/lang/String", name := "length", desc := "()I" } : Jvm.MethodName)).before a0 Z = true := C.1 _ (List.mem_of_getElem? (i := 89) rfl)
theorem Cx.w90 {Z : State} {a0 : Array Value} (C : Cx Z a0) : (Jvm.Cond.methodLink "com/example/loadstone/loadstone/LoadFileNamePinLaw" (33 : Nat) ({ cls := "com/example/loadstone/loadstone/LoadFileNamePinLaw", name := "same", desc := "(Ljava/lang/String;[CIII)Z" } : Jvm.MethodName)).before a0 Z = true := C.1 _ (List.mem_of_getElem? (i := 90) rfl)
theorem Cx.w91 {Z : State} {a0 : Array Value} (C : Cx Z a0) : (Jvm.Cond.static ({ cls := "com/example/loadstone/loadstone/LoadFileNamePinLaw", name := "same", desc := "(Ljava/lang/String;[CIII)Z" } : Jvm.MethodName)).before a0 Z = true := C.1 _ (List.mem_of_getElem? (i := 91) rfl)
theorem Cx.w92 {Z : State} {a0 : Array Value} (C : Cx Z a0) : (Jvm.Cond.code ({ cls := "com/example/loadstone/loadstone/LoadFileNamePinLaw", name := "same", desc := "(Ljava/lang/String;[CIII)Z" } : Jvm.MethodName) method_5_code (5 : Nat) (Option.some Jvm.ClassFile.FieldType.boolean)).before a0 Z = true := C.1 _ (List.mem_of_getElem? (i := 92) rfl)
theorem Cx.w93 {Z : State} {a0 : Array Value} (C : Cx Z a0) : (Jvm.Cond.methodLink "java/lang/String" (177 : Nat) ({ cls := "java/lang/StringUTF16", name := "compress", desc := "([CII)[B" } : Jvm.MethodName)).before a0 Z = true := C.1 _ (List.mem_of_getElem? (i := 93) rfl)
theorem Cx.w94 {Z : State} {a0 : Array Value} (C : Cx Z a0) : (Jvm.Cond.static ({ cls := "java/lang/StringUTF16", name := "compress", desc := "([CII)[B" } : Jvm.MethodName)).before a0 Z = true := C.1 _ (List.mem_of_getElem? (i := 94) rfl)
theorem Cx.w95 {Z : State} {a0 : Array Value} (C : Cx Z a0) : (Jvm.Cond.initialized "java/lang/StringUTF16").before a0 Z = true := C.1 _ (List.mem_of_getElem? (i := 95) rfl)
theorem Cx.w96 {Z : State} {a0 : Array Value} (C : Cx Z a0) : (Jvm.Cond.code ({ cls := "java/lang/StringUTF16", name := "compress", desc := "([CII)[B" } : Jvm.MethodName) jdk_52_method_16_code (6 : Nat) (Option.some (Jvm.ClassFile.FieldType.array Jvm.ClassFile.FieldType.byte))).before a0 Z = true := C.1 _ (List.mem_of_getElem? (i := 96) rfl)
theorem Cx.w97 {Z : State} {a0 : Array Value} (C : Cx Z a0) : (Jvm.Cond.methodLink "java/lang/StringUTF16" (115 : Nat) ({ cls := "java/lang/StringUTF16", name := "compress", desc := "([CI[BII)I" } : Jvm.MethodName)).before a0 Z = true := C.1 _ (List.mem_of_getElem? (i := 97) rfl)
theorem Cx.w98 {Z : State} {a0 : Array Value} (C : Cx Z a0) : (Jvm.Cond.static ({ cls := "java/lang/StringUTF16", name := "compress", desc := "([CI[BII)I" } : Jvm.MethodName)).before a0 Z = true := C.1 _ (List.mem_of_getElem? (i := 98) rfl)
theorem Cx.w99 {Z : State} {a0 : Array Value} (C : Cx Z a0) : (Jvm.Cond.code ({ cls := "java/lang/StringUTF16", name := "compress", desc := "([CI[BII)I" } : Jvm.MethodName) jdk_52_method_21_code (7 : Nat) (Option.some Jvm.ClassFile.FieldType.int)).before a0 Z = true := C.1 _ (List.mem_of_getElem? (i := 99) rfl)
theorem Cx.w100 {Z : State} {a0 : Array Value} (C : Cx Z a0) : (Jvm.Cond.methodLink "java/lang/String" (47 : Nat) ({ cls := "java/lang/StringUTF16", name := "coderFromArrayLen", desc := "([BI)B" } : Jvm.MethodName)).before a0 Z = true := C.1 _ (List.mem_of_getElem? (i := 100) rfl)
theorem Cx.w101 {Z : State} {a0 : Array Value} (C : Cx Z a0) : (Jvm.Cond.static ({ cls := "java/lang/StringUTF16", name := "coderFromArrayLen", desc := "([BI)B" } : Jvm.MethodName)).before a0 Z = true := C.1 _ (List.mem_of_getElem? (i := 101) rfl)
theorem Cx.w102 {Z : State} {a0 : Array Value} (C : Cx Z a0) : (Jvm.Cond.code ({ cls := "java/lang/StringUTF16", name := "coderFromArrayLen", desc := "([BI)B" } : Jvm.MethodName) jdk_52_method_15_code (2 : Nat) (Option.some Jvm.ClassFile.FieldType.byte)).before a0 Z = true := C.1 _ (List.mem_of_getElem? (i := 102) rfl)
theorem Cx.w103 {Z : State} {a0 : Array Value} (C : Cx Z a0) : (Jvm.Cond.methodLink "java/lang/String" (685 : Nat) ({ cls := "java/lang/StringLatin1", name := "newString", desc := "([BII)Ljava/lang/String;" } : Jvm.MethodName)).before a0 Z = true := C.1 _ (List.mem_of_getElem? (i := 103) rfl)
theorem Cx.w104 {Z : State} {a0 : Array Value} (C : Cx Z a0) : (Jvm.Cond.static ({ cls := "java/lang/StringLatin1", name := "newString", desc := "([BII)Ljava/lang/String;" } : Jvm.MethodName)).before a0 Z = true := C.1 _ (List.mem_of_getElem? (i := 104) rfl)
theorem Cx.w105 {Z : State} {a0 : Array Value} (C : Cx Z a0) : (Jvm.Cond.code ({ cls := "java/lang/StringLatin1", name := "newString", desc := "([BII)Ljava/lang/String;" } : Jvm.MethodName) jdk_43_method_47_code (3 : Nat) (Option.some (Jvm.ClassFile.FieldType.object "java/lang/String"))).before a0 Z = true := C.1 _ (List.mem_of_getElem? (i := 105) rfl)
theorem Cx.w106 {Z : State} {a0 : Array Value} (C : Cx Z a0) : (Jvm.Cond.classLink "java/lang/StringLatin1" (1 : Nat) "java/lang/String").before a0 Z = true := C.1 _ (List.mem_of_getElem? (i := 106) rfl)
theorem Cx.w107 {Z : State} {a0 : Array Value} (C : Cx Z a0) : (Jvm.Cond.methodLink "java/lang/StringLatin1" (232 : Nat) ({ cls := "java/util/Arrays", name := "copyOfRange", desc := "([BII)[B" } : Jvm.MethodName)).before a0 Z = true := C.1 _ (List.mem_of_getElem? (i := 107) rfl)
theorem Cx.w108 {Z : State} {a0 : Array Value} (C : Cx Z a0) : (Jvm.Cond.static ({ cls := "java/util/Arrays", name := "copyOfRange", desc := "([BII)[B" } : Jvm.MethodName)).before a0 Z = true := C.1 _ (List.mem_of_getElem? (i := 108) rfl)
theorem Cx.w109 {Z : State} {a0 : Array Value} (C : Cx Z a0) : (Jvm.Cond.initialized "java/util/Arrays").before a0 Z = true := C.1 _ (List.mem_of_getElem? (i := 109) rfl)
theorem Cx.w110 {Z : State} {a0 : Array Value} (C : Cx Z a0) : (Jvm.Cond.code ({ cls := "java/util/Arrays", name := "copyOfRange", desc := "([BII)[B" } : Jvm.MethodName) jdk_65_method_132_code (3 : Nat) (Option.some (Jvm.ClassFile.FieldType.array Jvm.ClassFile.FieldType.byte))).before a0 Z = true := C.1 _ (List.mem_of_getElem? (i := 110) rfl)
theorem Cx.w111 {Z : State} {a0 : Array Value} (C : Cx Z a0) : (Jvm.Cond.methodLink "java/util/Arrays" (339 : Nat) ({ cls := "java/util/Arrays", name := "copyOfRangeByte", desc := "([BII)[B" } : Jvm.MethodName)).before a0 Z = true := C.1 _ (List.mem_of_getElem? (i := 111) rfl)
theorem Cx.w112 {Z : State} {a0 : Array Value} (C : Cx Z a0) : (Jvm.Cond.static ({ cls := "java/util/Arrays", name := "copyOfRangeByte", desc := "([BII)[B" } : Jvm.MethodName)).before a0 Z = true := C.1 _ (List.mem_of_getElem? (i := 112) rfl)
theorem Cx.w113 {Z : State} {a0 : Array Value} (C : Cx Z a0) : (Jvm.Cond.code ({ cls := "java/util/Arrays", name := "copyOfRangeByte", desc := "([BII)[B" } : Jvm.MethodName) jdk_65_method_133_code (5 : Nat) (Option.some (Jvm.ClassFile.FieldType.array Jvm.ClassFile.FieldType.byte))).before a0 Z = true := C.1 _ (List.mem_of_getElem? (i := 113) rfl)
theorem Cx.w114 {Z : State} {a0 : Array Value} (C : Cx Z a0) : (Jvm.Cond.methodLink "java/util/Arrays" (343 : Nat) ({ cls := "java/util/Arrays", name := "checkLength", desc := "(II)V" } : Jvm.MethodName)).before a0 Z = true := C.1 _ (List.mem_of_getElem? (i := 114) rfl)
theorem Cx.w115 {Z : State} {a0 : Array Value} (C : Cx Z a0) : (Jvm.Cond.static ({ cls := "java/util/Arrays", name := "checkLength", desc := "(II)V" } : Jvm.MethodName)).before a0 Z = true := C.1 _ (List.mem_of_getElem? (i := 115) rfl)
theorem Cx.w116 {Z : State} {a0 : Array Value} (C : Cx Z a0) : (Jvm.Cond.code ({ cls := "java/util/Arrays", name := "checkLength", desc := "(II)V" } : Jvm.MethodName) jdk_65_method_131_code (2 : Nat) (Option.none : Option Jvm.ClassFile.FieldType)).before a0 Z = true := C.1 _ (List.mem_of_getElem? (i := 116) rfl)
theorem Cx.w117 {Z : State} {a0 : Array Value} (C : Cx Z a0) : (Jvm.Cond.methodLink "java/util/Arrays" (304 : Nat) ({ cls := "java/lang/Math", name := "min", desc := "(II)I" } : Jvm.MethodName)).before a0 Z = true := C.1 _ (List.mem_of_getElem? (i := 117) rfl)
theorem Cx.w118 {Z : State} {a0 : Array Value} (C : Cx Z a0) : (Jvm.Cond.methodLink "java/util/Arrays" (150 : Nat) ({ cls := "java/lang/System", name := "arraycopy", desc := "(Ljava/lang/Object;ILjava/lang/Object;II)V" } : Jvm.MethodName)).before a0 Z = true := C.1 _ (List.mem_of_getElem? (i := 118) rfl)
theorem Cx.w119 {Z : State} {a0 : Array Value} (C : Cx Z a0) : (Jvm.Cond.static ({ cls := "java/lang/System", name := "arraycopy", desc := "(Ljava/lang/Object;ILjava/lang/Object;II)V" } : Jvm.MethodName)).before a0 Z = true := C.1 _ (List.mem_of_getElem? (i := 119) rfl)
theorem Cx.w120 {Z : State} {a0 : Array Value} (C : Cx Z a0) : (Jvm.Cond.initialized "java/lang/System").before a0 Z = true := C.1 _ (List.mem_of_getElem? (i := 120) rfl)
theorem Cx.w121 {Z : State} {a0 : Array Value} (C : Cx Z a0) : (Jvm.Cond.native ({ cls := "java/lang/System", name := "arraycopy", desc := "(Ljava/lang/Object;ILjava/lang/Object;II)V" } : Jvm.MethodName)).before a0 Z = true := C.1 _ (List.mem_of_getElem? (i := 121) rfl)
theorem Cx.w122 {Z : State} {a0 : Array Value} (C : Cx Z a0) : (Jvm.Cond.methodLink "java/lang/StringLatin1" (112 : Nat) ({ cls := "java/lang/String", name := "<init>", desc := "([BB)V" } : Jvm.MethodName)).before a0 Z = true := C.1 _ (List.mem_of_getElem? (i := 122) rfl)
theorem Cx.w123 {Z : State} {a0 : Array Value} (C : Cx Z a0) : (Jvm.Cond.instanceMethod ({ cls := "java/lang/String", name := "<init>", desc := "([BB)V" } : Jvm.MethodName)).before a0 Z = true := C.1 _ (List.mem_of_getElem? (i := 123) rfl)
theorem Cx.w124 {Z : State} {a0 : Array Value} (C : Cx Z a0) : (Jvm.Cond.code ({ cls := "java/lang/String", name := "<init>", desc := "([BB)V" } : Jvm.MethodName) jdk_42_method_151_code (3 : Nat) (Option.none : Option Jvm.ClassFile.FieldType)).before a0 Z = true := C.1 _ (List.mem_of_getElem? (i := 124) rfl)
theorem Cx.w125 {Z : State} {a0 : Array Value} (C : Cx Z a0) : (Jvm.Cond.methodLink "com/example/loadstone/loadstone/LoadFileNamePinLaw" (37 : Nat) ({ cls := "java/lang/String", name := "charAt", desc := "(I)C" } : Jvm.MethodName)).before a0 Z = true := C.1 _ (List.mem_of_getElem? (i := 125) rfl)
theorem Cx.w126 {Z : State} {a0 : Array Value} (C : Cx Z a0) : (Jvm.Cond.declares ({ cls := "java/lang/String", name := "charAt", desc := "(I)C" } : Jvm.MethodName)).before a0 Z = true := C.1 _ (List.mem_of_getElem? (i := 126) rfl)
theorem Cx.w127 {Z : State} {a0 : Array Value} (C : Cx Z a0) : (Jvm.Cond.instanceMethod ({ cls := "java/lang/String", name := "charAt", desc := "(I)C" } : Jvm.MethodName)).before a0 Z = true := C.1 _ (List.mem_of_getElem? (i := 127) rfl)
theorem Cx.w128 {Z : State} {a0 : Array Value} (C : Cx Z a0) : (Jvm.Cond.selects "java/lang/String" ({ cls := "java/lang/String", name := "charAt", desc := "(I)C" } : Jvm.MethodName) ({ cls := "java/lang/String", name := "charAt", desc := "(I)C" } : Jvm.MethodName)).before a0 Z = true := C.1 _ (List.mem_of_getElem? (i := 128) rfl)
theorem Cx.w129 {Z : State} {a0 : Array Value} (C : Cx Z a0) : (Jvm.Cond.code ({ cls := "java/lang/String", name := "charAt", desc := "(I)C" } : Jvm.MethodName) jdk_42_method_56_code (2 : Nat) (Option.some Jvm.ClassFile.FieldType.char)).before a0 Z = true := C.1 _ (List.mem_of_getElem? (i := 129) rfl)
theorem Cx.w130 {Z : State} {a0 : Array Value} (C : Cx Z a0) : (Jvm.Cond.methodLink "java/lang/String" (495 : Nat) ({ cls := "java/lang/StringLatin1", name := "charAt", desc := "([BI)C" } : Jvm.MethodName)).before a0 Z = true := C.1 _ (List.mem_of_getElem? (i := 130) rfl)
theorem Cx.w131 {Z : State} {a0 : Array Value} (C : Cx Z a0) : (Jvm.Cond.static ({ cls := "java/lang/StringLatin1", name := "charAt", desc := "([BI)C" } : Jvm.MethodName)).before a0 Z = true := C.1 _ (List.mem_of_getElem? (i := 131) rfl)
theorem Cx.w132 {Z : State} {a0 : Array Value} (C : Cx Z a0) : (Jvm.Cond.code ({ cls := "java/lang/StringLatin1", name := "charAt", desc := "([BI)C" } : Jvm.MethodName) jdk_43_method_2_code (2 : Nat) (Option.some Jvm.ClassFile.FieldType.char)).before a0 Z = true := C.1 _ (List.mem_of_getElem? (i := 132) rfl)
theorem Cx.w133 {Z : State} {a0 : Array Value} (C : Cx Z a0) : (Jvm.Cond.methodLink "java/lang/StringLatin1" (9 : Nat) ({ cls := "java/lang/String", name := "checkIndex", desc := "(II)V" } : Jvm.MethodName)).before a0 Z = true := C.1 _ (List.mem_of_getElem? (i := 133) rfl)
theorem Cx.w134 {Z : State} {a0 : Array Value} (C : Cx Z a0) : (Jvm.Cond.static ({ cls := "java/lang/String", name := "checkIndex", desc := "(II)V" } : Jvm.MethodName)).before a0 Z = true := C.1 _ (List.mem_of_getElem? (i := 134) rfl)
theorem Cx.w135 {Z : State} {a0 : Array Value} (C : Cx Z a0) : (Jvm.Cond.code ({ cls := "java/lang/String", name := "checkIndex", desc := "(II)V" } : Jvm.MethodName) jdk_42_method_155_code (2 : Nat) (Option.none : Option Jvm.ClassFile.FieldType)).before a0 Z = true := C.1 _ (List.mem_of_getElem? (i := 135) rfl)
theorem Cx.w136 {Z : State} {a0 : Array Value} (C : Cx Z a0) : (Jvm.Cond.methodLink "java/lang/String" (1059 : Nat) ({ cls := "jdk/internal/util/Preconditions", name := "checkIndex", desc := "(IILjava/util/function/BiFunction;)I" } : Jvm.MethodName)).before a0 Z = true := C.1 _ (List.mem_of_getElem? (i := 136) rfl)
theorem Cx.w137 {Z : State} {a0 : Array Value} (C : Cx Z a0) : (Jvm.Cond.static ({ cls := "jdk/internal/util/Preconditions", name := "checkIndex", desc := "(IILjava/util/function/BiFunction;)I" } : Jvm.MethodName)).before a0 Z = true := C.1 _ (List.mem_of_getElem? (i := 137) rfl)
theorem Cx.w138 {Z : State} {a0 : Array Value} (C : Cx Z a0) : (Jvm.Cond.code ({ cls := "jdk/internal/util/Preconditions", name := "checkIndex", desc := "(IILjava/util/function/BiFunction;)I" } : Jvm.MethodName) jdk_41_method_11_code (3 : Nat) (Option.some Jvm.ClassFile.FieldType.int)).before a0 Z = true := C.1 _ (List.mem_of_getElem? (i := 138) rfl)
theorem Cx.w139 {Z : State} {a0 : Array Value} (C : Cx Z a0) : (Jvm.Cond.stringLink "java/lang/StringLatin1" (151 : Nat) "").before a0 Z = true := C.1 _ (List.mem_of_getElem? (i := 139) rfl)
theorem Cx.compact {Z : State} {a0 : Array Value} (C : Cx Z a0) : (∃ cz : Int32, Sta Z Z.heap "java/lang/String" "COMPACT_STRINGS" "Z" (.int cz) ∧ ¬ cz = 0) := C.2.1
theorem Cx.sio {Z : State} {a0 : Array Value} (C : Cx Z a0) : (∃ fm : Value, Sta Z Z.heap "jdk/internal/util/Preconditions" "SIOOBE_FORMATTER" "Ljava/util/function/BiFunction;" fm ∧ (fm = .null ∨ ∃ fa, fm = .ref fa)) := C.2.2
theorem Cx.strs {Z : State} {a0 : Array Value} (C : Cx Z a0) : ∀ a ∈ Bundle.stringAtoms, a.before a0 Z = true := fun d hd => C.1 d ((by decide +kernel : ∀ d ∈ Bundle.stringAtoms, d ∈ tables_1) d hd)
theorem own_rem5 (x : Int32) : ¬ (x &&& (2147483647 : Int32)) % (5 : Int32) < 0 ∧ (x &&& (2147483647 : Int32)) % (5 : Int32) < 5 := by
  have h0 : (x &&& (2147483647 : Int32)).toBitVec.toNat < 2147483648 := by
    simp only [Int32.toBitVec_and, BitVec.toNat_and]
    exact Nat.lt_succ_of_le Nat.and_le_right
  generalize x &&& (2147483647 : Int32) = y at h0
  have hy : 0 ≤ y.toInt := by
    have : y.toInt = y.toBitVec.toInt := rfl
    rw [this, BitVec.toInt_eq_toNat_cond]; split <;> omega
  have e5 : (5 : Int32).toInt = 5 := rfl
  have e0 : (0 : Int32).toInt = 0 := rfl
  have e : (y % (5 : Int32)).toInt = y.toInt.tmod 5 := by rw [Int32.toInt_mod, e5]
  have h1 := Int.tmod_nonneg 5 hy
  have h2 := Int.tmod_lt_of_pos y.toInt (show (0 : Int) < 5 by decide)
  rw [Int32.lt_iff_toInt_lt, Int32.lt_iff_toInt_lt, e, e0, e5]
  omega
theorem own_len4 {len : Int32} (hl : ¬ len < 0 ∧ len < 5) (h0 : ¬ len = 0) (h1 : ¬ len = 1) (h2 : ¬ len = 2) (h3 : ¬ len = 3) : len = 4 := by
  obtain ⟨a, b⟩ := hl
  rw [Int32.lt_iff_toInt_lt] at a b
  rw [← Int32.toInt_inj] at *
  have e0 : (0 : Int32).toInt = 0 := rfl
  have e1 : (1 : Int32).toInt = 1 := rfl
  have e2 : (2 : Int32).toInt = 2 := rfl
  have e3 : (3 : Int32).toInt = 3 := rfl
  have e4 : (4 : Int32).toInt = 4 := rfl
  have e5 : (5 : Int32).toInt = 5 := rfl
  omega
def cut (k : Int32) : List Int32 → List Int32
  | [] => []
  | c :: cs => if cut k cs = [] then (if c = k then [c] else []) else c :: cut k cs
theorem cut_no {k : Int32} : ∀ {cs : List Int32}, (∀ c ∈ cs, ¬ c = k) → cut k cs = []
  | [], _ => rfl
  | c :: cs, h => by
    have e : cut k (c :: cs) = if cut k cs = [] then (if c = k then [c] else []) else c :: cut k cs := rfl
    rw [e, if_pos (cut_no (fun d q => h d (List.mem_cons_of_mem _ q))), if_neg (h c (List.mem_cons_self ..))]
theorem cut_eq {k : Int32} : ∀ {pre post : List Int32}, (∀ c ∈ post, ¬ c = k) → (pre = [] ∨ ∃ p, pre = p ++ [k]) → cut k (pre ++ post) = pre
  | [], post, h, _ => cut_no h
  | c :: pre, post, h, hp => by
    have e : cut k (c :: (pre ++ post)) = if cut k (pre ++ post) = [] then (if c = k then [c] else []) else c :: cut k (pre ++ post) := rfl
    rw [List.cons_append, e]
    obtain ⟨p, hp⟩ : ∃ p, c :: pre = p ++ [k] := hp.elim (fun q => nomatch q) id
    cases p with
    | nil =>
      obtain ⟨rfl, rfl⟩ : c = k ∧ pre = [] := by simpa using hp
      rw [List.nil_append, if_pos (cut_no h), if_pos rfl]
    | cons d p =>
      obtain ⟨rfl, rfl⟩ : c = d ∧ pre = p ++ [k] := by simpa using hp
      rw [cut_eq h (Or.inr ⟨p, rfl⟩), if_neg (by simp)]
theorem own_five {len : Int32} (hl : ¬ len < 0 ∧ len < 5) : len = 0 ∨ len = 1 ∨ len = 2 ∨ len = 3 ∨ len = 4 := by
  by_cases h0 : len = 0
  · exact Or.inl h0
  by_cases h1 : len = 1
  · exact Or.inr (Or.inl h1)
  by_cases h2 : len = 2
  · exact Or.inr (Or.inr (Or.inl h2))
  by_cases h3 : len = 3
  · exact Or.inr (Or.inr (Or.inr (Or.inl h3)))
  exact Or.inr (Or.inr (Or.inr (Or.inr (own_len4 hl h0 h1 h2 h3))))
theorem d_jdk_52_method_21_code_0 : decode jdk_52_method_21_code 0 = .ok (.iconst 0, 1) := by decide +kernel
theorem d_jdk_52_method_21_code_1 : decode jdk_52_method_21_code 1 = .ok (.istore 5, 2) := by decide +kernel
theorem d_jdk_52_method_21_code_3 : decode jdk_52_method_21_code 3 = .ok (.iload 5, 2) := by decide +kernel
theorem d_jdk_52_method_21_code_5 : decode jdk_52_method_21_code 5 = .ok (.iload 4, 2) := by decide +kernel
theorem d_jdk_52_method_21_code_7 : decode jdk_52_method_21_code 7 = .ok (.if_icmp .ge 37, 3) := by decide +kernel
theorem d_jdk_52_method_21_code_44 : decode jdk_52_method_21_code 44 = .ok (.iload 4, 2) := by decide +kernel
theorem d_jdk_52_method_21_code_46 : decode jdk_52_method_21_code 46 = .ok (.ireturn, 1) := by decide +kernel
theorem d_jdk_52_method_21_code_10 : decode jdk_52_method_21_code 10 = .ok (.aload_n 0, 1) := by decide +kernel
theorem d_jdk_52_method_21_code_11 : decode jdk_52_method_21_code 11 = .ok (.iload_n 1, 1) := by decide +kernel
theorem d_jdk_52_method_21_code_12 : decode jdk_52_method_21_code 12 = .ok (.caload, 1) := by decide +kernel
theorem d_jdk_52_method_21_code_13 : decode jdk_52_method_21_code 13 = .ok (.istore 6, 2) := by decide +kernel
theorem d_jdk_52_method_21_code_15 : decode jdk_52_method_21_code 15 = .ok (.iload 6, 2) := by decide +kernel
theorem d_jdk_52_method_21_code_17 : decode jdk_52_method_21_code 17 = .ok (.sipush 255, 3) := by decide +kernel
theorem d_jdk_52_method_21_code_20 : decode jdk_52_method_21_code 20 = .ok (.if_icmp .le 6, 3) := by decide +kernel
theorem d_jdk_52_method_21_code_26 : decode jdk_52_method_21_code 26 = .ok (.aload_n 2, 1) := by decide +kernel
theorem d_jdk_52_method_21_code_27 : decode jdk_52_method_21_code 27 = .ok (.iload_n 3, 1) := by decide +kernel
theorem d_jdk_52_method_21_code_28 : decode jdk_52_method_21_code 28 = .ok (.iload 6, 2) := by decide +kernel
theorem d_jdk_52_method_21_code_30 : decode jdk_52_method_21_code 30 = .ok (.i2b, 1) := by decide +kernel
theorem d_jdk_52_method_21_code_31 : decode jdk_52_method_21_code 31 = .ok (.bastore, 1) := by decide +kernel
theorem d_jdk_52_method_21_code_32 : decode jdk_52_method_21_code 32 = .ok (.iinc 1 1, 3) := by decide +kernel
theorem d_jdk_52_method_21_code_35 : decode jdk_52_method_21_code 35 = .ok (.iinc 3 1, 3) := by decide +kernel
theorem d_jdk_52_method_21_code_38 : decode jdk_52_method_21_code 38 = .ok (.iinc 5 1, 3) := by decide +kernel
theorem d_jdk_52_method_21_code_41 : decode jdk_52_method_21_code 41 = .ok (.goto (-38), 3) := by decide +kernel
def R_c_comp5 : Room := { frames := 0, cells := 0, slots := 0, locals := 0 }
theorem pl_b21 : plainFor (⟨"java/lang/StringUTF16", "compress", "([CI[BII)I"⟩ : MethodName) = true := plainFor_of_name (by first | (simp [plainName, overriddenIn]; done) | decide +kernel)
set_option maxRecDepth 65536 in
set_option maxHeartbeats 40000000 in
theorem c_comp5 {l : Launch} {Z : State} {a0 : Array Value} {n0 : Nat} {h0 : Heap} (C : Cx Z a0) (hO : Old Z n0 h0) {a b : Addr} {ka kb : ClassId} {cs : List Int32} {dv : Value} (A : Arv Z h0 a ka .char (Int32.ofNat cs.length) (cs.map Value.int) dv) (B : Arv Z h0 b kb .byte (Int32.ofNat cs.length) [] (.int 0)) (hab : a ≠ b) (hl : cs.length ≤ 16) (hc : ∀ c ∈ cs, Lat c) (g_b : n0 ≤ b) :
    Con false l Z [] n0 (⟨"java/lang/StringUTF16", "compress", "([CI[BII)I"⟩ : MethodName) jdk_52_method_21_code 7 (some .int) R_c_comp5 #[(.ref a), (.int (0 : Int32)), (.ref b), (.int (0 : Int32)), (.int (Int32.ofNat cs.length))] h0 [b] (fun v h => v = some (.int (Int32.ofNat cs.length)) ∧ Arv Z h b kb .byte (Int32.ofNat cs.length) (cs.map lo8) (.int 0)) := by
  refine Con.intro (a0 := a0) pl_b21 hO (fun q => nomatch q) ?_
  intro p e s m below meth c G
  refine ok_as (mkF m 0 #[.val (.ref a), .val (.int (0 : Int32)), .val (.ref b), .val (.int (0 : Int32)), .val (.int (Int32.ofNat cs.length)), .unset, .unset] []) (by first | rfl | (simp [entryFrame, mkF, argsToLocals, Value.category]; done)) ?_
  refine ok_iconst G (0 : Int32) d_jdk_52_method_21_code_0 rfl ?_
  refine ok_istore G #[.val (.ref a), .val (.int (0 : Int32)), .val (.ref b), .val (.int (0 : Int32)), .val (.int (Int32.ofNat cs.length)), .val (.int (0 : Int32)), .unset] d_jdk_52_method_21_code_1 rfl ?_
  refine ok_loop (A := List Int32 × List Int32 × Heap × Slot) (fun q => q.2.1.length) (fun q => q.1 ++ q.2.1 = cs ∧ One q.2.2.2 ∧ Arv Z q.2.2.1 a ka .char (Int32.ofNat cs.length) (cs.map Value.int) dv ∧ Arv Z q.2.2.1 b kb .byte (Int32.ofNat cs.length) (q.1.map lo8) (.int 0)) (fun q => q.2.2.1) (fun q => mkF m 3 #[.val (.ref a), .val (.int (Int32.ofNat q.1.length)), .val (.ref b), .val (.int (Int32.ofNat q.1.length)), .val (.int (Int32.ofNat cs.length)), .val (.int (Int32.ofNat q.1.length)), q.2.2.2] []) ?_ ([], cs, h0, .unset) ⟨rfl, One.u, A, B⟩
  clear A B
  rintro ⟨pre, post, h, sl⟩ ⟨hcs, hsl, A, B⟩ ih
  dsimp only at hcs hsl A B ih ⊢
  cases post with
  | nil =>
    rw [List.append_nil] at hcs
    subst hcs
    refine ok_iload G d_jdk_52_method_21_code_3 rfl ?_
    refine ok_iload G d_jdk_52_method_21_code_5 rfl ?_
    refine ok_icmpgeY G 44 d_jdk_52_method_21_code_7 (by decide) (by decide) (by rw [i32_lt (by omega) (by omega)]; omega) ?_
    refine ok_iload G d_jdk_52_method_21_code_44 rfl ?_
    exact ok_retI G rfl d_jdk_52_method_21_code_46 ⟨rfl, B⟩ (Nat.le_of_ble_eq_true rfl) (Nat.le_of_ble_eq_true rfl)
  | cons ch post =>
    have hlt : pre.length < cs.length := by rw [← hcs]; simp
    have hch : Lat ch := hc ch (by rw [← hcs]; simp)
    refine ok_iload G d_jdk_52_method_21_code_3 rfl ?_
    refine ok_iload G d_jdk_52_method_21_code_5 rfl ?_
    refine ok_icmpgeN G d_jdk_52_method_21_code_7 ((i32_lt (by omega) (by omega)).mpr hlt) ?_
    refine ok_aloadN G d_jdk_52_method_21_code_10 rfl rfl ?_
    refine ok_iloadN G d_jdk_52_method_21_code_11 rfl ?_
    refine ok_caload G ch A ⟨i32_nn (by omega), (i32_lt (by omega) (by omega)).mpr hlt⟩ (by rw [i32_clamp (by omega), ← hcs]; exact getD_mid _ _ _ _ _) d_jdk_52_method_21_code_12 ?_
    refine ok_istore G #[.val (.ref a), .val (.int (Int32.ofNat pre.length)), .val (.ref b), .val (.int (Int32.ofNat pre.length)), .val (.int (Int32.ofNat cs.length)), .val (.int (Int32.ofNat pre.length)), .val (.int ch)] d_jdk_52_method_21_code_13 (XS.store1 rfl hsl rfl) ?_
    refine ok_iload G d_jdk_52_method_21_code_15 rfl ?_
    refine ok_sipush G (255 : Int32) d_jdk_52_method_21_code_17 rfl ?_
    refine ok_icmpleY G 26 d_jdk_52_method_21_code_20 (by decide) (by decide) hch.2 ?_
    refine ok_aloadN G d_jdk_52_method_21_code_26 rfl rfl ?_
    refine ok_iloadN G d_jdk_52_method_21_code_27 rfl ?_
    refine ok_iload G d_jdk_52_method_21_code_28 rfl ?_
    refine ok_i2b G d_jdk_52_method_21_code_30 ?_
    refine ok_bastoreA G ch.toInt8.toInt32 B ⟨i32_nn (by omega), (i32_lt (by omega) (by omega)).mpr hlt⟩ (by rw [i32_clamp (by omega)]; simp) (by simp [nar]) d_jdk_52_method_21_code_31 g_b (Or.inl (List.mem_of_getElem? (i := 0) rfl)) SafeFor.narrow ?_
    intro hp1 K2 Bn
    replace A := A.keep K2 (ninS hab nin0)
    replace B := Bn
    clear Bn
    refine ok_iinc G ((Int32.ofNat pre.length) + (1 : Int32)) #[.val (.ref a), .val (.int ((Int32.ofNat pre.length) + (1 : Int32))), .val (.ref b), .val (.int (Int32.ofNat pre.length)), .val (.int (Int32.ofNat cs.length)), .val (.int (Int32.ofNat pre.length)), .val (.int ch)] d_jdk_52_method_21_code_32 rfl rfl rfl ?_
    refine ok_iinc G ((Int32.ofNat pre.length) + (1 : Int32)) #[.val (.ref a), .val (.int ((Int32.ofNat pre.length) + (1 : Int32))), .val (.ref b), .val (.int ((Int32.ofNat pre.length) + (1 : Int32))), .val (.int (Int32.ofNat cs.length)), .val (.int (Int32.ofNat pre.length)), .val (.int ch)] d_jdk_52_method_21_code_35 rfl rfl rfl ?_
    refine ok_iinc G ((Int32.ofNat pre.length) + (1 : Int32)) #[.val (.ref a), .val (.int ((Int32.ofNat pre.length) + (1 : Int32))), .val (.ref b), .val (.int ((Int32.ofNat pre.length) + (1 : Int32))), .val (.int (Int32.ofNat cs.length)), .val (.int ((Int32.ofNat pre.length) + (1 : Int32))), .val (.int ch)] d_jdk_52_method_21_code_38 rfl rfl rfl ?_
    refine ok_goto G 3 d_jdk_52_method_21_code_41 (by decide) (by decide) ?_
    have e1 : Int32.ofNat pre.length + (1 : Int32) = Int32.ofNat (pre ++ [ch]).length := by rw [i32_succ]; simp
    rw [e1]
    exact ih (pre ++ [ch], post, hp1, .val (.int ch)) (by simp) ⟨by simpa using hcs, One.val rfl, A, by simpa using B⟩
theorem d_jdk_52_method_16_code_0 : decode jdk_52_method_16_code 0 = .ok (.iload_n 2, 1) := by decide +kernel
theorem d_jdk_52_method_16_code_1 : decode jdk_52_method_16_code 1 = .ok (.newarray .byte, 2) := by decide +kernel
theorem d_jdk_52_method_16_code_3 : decode jdk_52_method_16_code 3 = .ok (.astore_n 3, 1) := by decide +kernel
theorem d_jdk_52_method_16_code_4 : decode jdk_52_method_16_code 4 = .ok (.aload_n 0, 1) := by decide +kernel
theorem d_jdk_52_method_16_code_5 : decode jdk_52_method_16_code 5 = .ok (.iload_n 1, 1) := by decide +kernel
theorem d_jdk_52_method_16_code_6 : decode jdk_52_method_16_code 6 = .ok (.aload_n 3, 1) := by decide +kernel
theorem d_jdk_52_method_16_code_7 : decode jdk_52_method_16_code 7 = .ok (.iconst 0, 1) := by decide +kernel
theorem d_jdk_52_method_16_code_8 : decode jdk_52_method_16_code 8 = .ok (.iload_n 2, 1) := by decide +kernel
theorem d_jdk_52_method_16_code_9 : decode jdk_52_method_16_code 9 = .ok (.invokestatic 115, 3) := by decide +kernel
theorem pd0 : parseMethodDescriptor "([CI[BII)I" = some ⟨[(.array .char), .int, (.array .byte), .int, .int], some .int⟩ := by decide +kernel
theorem d_jdk_52_method_16_code_12 : decode jdk_52_method_16_code 12 = .ok (.istore 4, 2) := by decide +kernel
theorem d_jdk_52_method_16_code_14 : decode jdk_52_method_16_code 14 = .ok (.iload 4, 2) := by decide +kernel
theorem d_jdk_52_method_16_code_16 : decode jdk_52_method_16_code 16 = .ok (.iload_n 2, 1) := by decide +kernel
theorem d_jdk_52_method_16_code_17 : decode jdk_52_method_16_code 17 = .ok (.if_icmp .eq 40, 3) := by decide +kernel
theorem d_jdk_52_method_16_code_57 : decode jdk_52_method_16_code 57 = .ok (.aload_n 3, 1) := by decide +kernel
theorem d_jdk_52_method_16_code_58 : decode jdk_52_method_16_code 58 = .ok (.areturn, 1) := by decide +kernel
def R_c_comp3 : Room := { frames := 1, cells := 1, slots := 16, locals := 18 }
theorem pl_b20 : plainFor (⟨"java/lang/StringUTF16", "compress", "([CII)[B"⟩ : MethodName) = true := plainFor_of_name (by first | (simp [plainName, overriddenIn]; done) | decide +kernel)
set_option maxRecDepth 65536 in
set_option maxHeartbeats 40000000 in
theorem c_comp3 {l : Launch} {Z : State} {a0 : Array Value} {n0 : Nat} {h0 : Heap} (C : Cx Z a0) (hO : Old Z n0 h0) {a : Addr} {ka : ClassId} {cs : List Int32} {dv : Value} (A : Arv Z h0 a ka .char (Int32.ofNat cs.length) (cs.map Value.int) dv) (hl : cs.length ≤ 16) (hc : ∀ c ∈ cs, Lat c) :
    Con false l Z [] n0 (⟨"java/lang/StringUTF16", "compress", "([CII)[B"⟩ : MethodName) jdk_52_method_16_code 6 (some (.array .byte)) R_c_comp3 #[(.ref a), (.int (0 : Int32)), (.int (Int32.ofNat cs.length))] h0 [] (fun v h => ∃ t kb, v = some (.ref t) ∧ h0.size ≤ t ∧ Arv Z h t kb .byte (Int32.ofNat cs.length) (cs.map lo8) (.int 0)) := by
  refine Con.intro (a0 := a0) pl_b20 hO (fun q => nomatch q) ?_
  intro p e s m below meth c G
  refine ok_as (mkF m 0 #[.val (.ref a), .val (.int (0 : Int32)), .val (.int (Int32.ofNat cs.length)), .unset, .unset, .unset] []) (by first | rfl | (simp [entryFrame, mkF, argsToLocals, Value.category]; done)) ?_
  refine ok_iloadN G d_jdk_52_method_16_code_0 rfl ?_
  refine ok_newP G (aty := .byte) (C.w23) d_jdk_52_method_16_code_1 (i32_nn (by omega)) 16 (by rw [i32_clamp (by omega)]; exact hl) (by decide) (Nat.le_of_ble_eq_true rfl) (Nat.le_of_ble_eq_true rfl) ?_
  intro hp2 ob1 k_ob1 eq_ob1 K3 g_ob1 lb_ob1 V_ob1
  have ne_a_ob1 : a ≠ ob1 := Nat.ne_of_lt (Nat.lt_of_lt_of_le A.lt (Nat.le_of_eq eq_ob1.symm))
  replace A := A.keep K3 nin0
  refine ok_astoreN G #[.val (.ref a), .val (.int (0 : Int32)), .val (.int (Int32.ofNat cs.length)), .val (.ref ob1), .unset, .unset] d_jdk_52_method_16_code_3 rfl rfl ?_
  refine ok_aloadN G d_jdk_52_method_16_code_4 rfl rfl ?_
  refine ok_iloadN G d_jdk_52_method_16_code_5 rfl ?_
  refine ok_aloadN G d_jdk_52_method_16_code_6 rfl rfl ?_
  refine ok_iconst G (0 : Int32) d_jdk_52_method_16_code_7 rfl ?_
  refine ok_iloadN G d_jdk_52_method_16_code_8 rfl ?_
  refine ok_old (fun hO_hp2 => ?_)
  refine ok_static G (argsL := [(.ref a), (.int (0 : Int32)), (.ref ob1), (.int (0 : Int32)), (.int (Int32.ofNat cs.length))]) (rest := []) (C.w97) (C.w98) (C.w95) (C.w99) (by decide) pd0 (c_comp5 C hO_hp2 A V_ob1 ne_a_ob1 hl hc g_ob1) rfl rfl rfl d_jdk_52_method_16_code_9 (Nat.le_of_ble_eq_true rfl) (Nat.le_of_ble_eq_true rfl) (Nat.le_of_ble_eq_true rfl) (Nat.le_of_ble_eq_true rfl) (allS ⟨(Or.inr lb_ob1), SafeFor.narrow⟩ (fun _ q => nomatch q)) ?_
  rintro _ hp4 K5 ⟨rfl, V_ob1⟩
  replace A := A.keep K5 (ninS ne_a_ob1 nin0)
  refine ok_as (mkF m 12 #[.val (.ref a), .val (.int (0 : Int32)), .val (.int (Int32.ofNat cs.length)), .val (.ref ob1), .unset, .unset] [(.int (Int32.ofNat cs.length))]) rfl ?_
  refine ok_istore G #[.val (.ref a), .val (.int (0 : Int32)), .val (.int (Int32.ofNat cs.length)), .val (.ref ob1), .val (.int (Int32.ofNat cs.length)), .unset] d_jdk_52_method_16_code_12 rfl ?_
  refine ok_iload G d_jdk_52_method_16_code_14 rfl ?_
  refine ok_iloadN G d_jdk_52_method_16_code_16 rfl ?_
  refine ok_icmpeqY G 57 d_jdk_52_method_16_code_17 (by decide) (by decide) rfl ?_
  refine ok_aloadN G d_jdk_52_method_16_code_57 rfl rfl ?_
  exact ok_retA G rfl rfl rfl d_jdk_52_method_16_code_58 rfl ⟨_, _, rfl, lb_ob1, V_ob1⟩ (Nat.le_of_ble_eq_true rfl) (Nat.le_of_ble_eq_true rfl)
theorem d_jdk_52_method_15_code_0 : decode jdk_52_method_15_code 0 = .ok (.iload_n 1, 1) := by decide +kernel
theorem d_jdk_52_method_15_code_1 : decode jdk_52_method_15_code 1 = .ok (.aload_n 0, 1) := by decide +kernel
theorem d_jdk_52_method_15_code_2 : decode jdk_52_method_15_code 2 = .ok (.arraylength, 1) := by decide +kernel
theorem d_jdk_52_method_15_code_3 : decode jdk_52_method_15_code 3 = .ok (.isub, 1) := by decide +kernel
theorem d_jdk_52_method_15_code_4 : decode jdk_52_method_15_code 4 = .ok (.bipush 31, 2) := by decide +kernel
theorem d_jdk_52_method_15_code_6 : decode jdk_52_method_15_code 6 = .ok (.iushr, 1) := by decide +kernel
theorem d_jdk_52_method_15_code_7 : decode jdk_52_method_15_code 7 = .ok (.i2b, 1) := by decide +kernel
theorem d_jdk_52_method_15_code_8 : decode jdk_52_method_15_code 8 = .ok (.ireturn, 1) := by decide +kernel
def R_c_cod : Room := { frames := 0, cells := 0, slots := 0, locals := 0 }
theorem pl_b22 : plainFor (⟨"java/lang/StringUTF16", "coderFromArrayLen", "([BI)B"⟩ : MethodName) = true := plainFor_of_name (by first | (simp [plainName, overriddenIn]; done) | decide +kernel)
set_option maxRecDepth 65536 in
set_option maxHeartbeats 40000000 in
theorem c_cod {l : Launch} {Z : State} {a0 : Array Value} {n0 : Nat} {h0 : Heap} (C : Cx Z a0) (hO : Old Z n0 h0) {b : Addr} {kb : ClassId} {n : Int32} {vs : List Value} {dv : Value} (B : Arv Z h0 b kb .byte n vs dv) :
    Con false l Z [] n0 (⟨"java/lang/StringUTF16", "coderFromArrayLen", "([BI)B"⟩ : MethodName) jdk_52_method_15_code 2 (some .byte) R_c_cod #[(.ref b), (.int n)] h0 [] (fun v h => v = some (.int 0) ∧ h0 = h) := by
  refine Con.intro (a0 := a0) pl_b22 hO (fun q => nomatch q) ?_
  intro p e s m below meth c G
  refine ok_as (mkF m 0 #[.val (.ref b), .val (.int n)] []) (by first | rfl | (simp [entryFrame, mkF, argsToLocals, Value.category]; done)) ?_
  refine ok_iloadN G d_jdk_52_method_15_code_0 rfl ?_
  refine ok_aloadN G d_jdk_52_method_15_code_1 rfl rfl ?_
  refine ok_arraylength G B d_jdk_52_method_15_code_2 ?_
  refine ok_isub G d_jdk_52_method_15_code_3 ?_
  refine ok_bipush G (31 : Int32) d_jdk_52_method_15_code_4 rfl ?_
  refine ok_iushr G d_jdk_52_method_15_code_6 ?_
  refine ok_i2b G d_jdk_52_method_15_code_7 ?_
  refine ok_sayI (0 : Int32) (by rw [Int32.sub_self]; rfl) ?_
  exact ok_retN G rfl (by simp) d_jdk_52_method_15_code_8 rfl ⟨rfl, rfl⟩ (Nat.le_of_ble_eq_true rfl) (Nat.le_of_ble_eq_true rfl)
theorem d_jdk_42_method_149_code_0 : decode jdk_42_method_149_code 0 = .ok (.aload_n 0, 1) := by decide +kernel
theorem d_jdk_42_method_149_code_1 : decode jdk_42_method_149_code 1 = .ok (.invokespecial 1, 3) := by decide +kernel
theorem d_jdk_42_method_149_code_4 : decode jdk_42_method_149_code 4 = .ok (.iload_n 3, 1) := by decide +kernel
theorem d_jdk_42_method_149_code_5 : decode jdk_42_method_149_code 5 = .ok (.ifCond .ne 22, 3) := by decide +kernel
theorem d_jdk_42_method_149_code_27 : decode jdk_42_method_149_code 27 = .ok (.getstatic 38, 3) := by decide +kernel
theorem d_jdk_42_method_149_code_30 : decode jdk_42_method_149_code 30 = .ok (.ifCond .eq 28, 3) := by decide +kernel
theorem d_jdk_42_method_149_code_33 : decode jdk_42_method_149_code 33 = .ok (.aload_n 1, 1) := by decide +kernel
theorem d_jdk_42_method_149_code_34 : decode jdk_42_method_149_code 34 = .ok (.iload_n 2, 1) := by decide +kernel
theorem d_jdk_42_method_149_code_35 : decode jdk_42_method_149_code 35 = .ok (.iload_n 3, 1) := by decide +kernel
theorem d_jdk_42_method_149_code_36 : decode jdk_42_method_149_code 36 = .ok (.invokestatic 177, 3) := by decide +kernel
theorem pd1 : parseMethodDescriptor "([CII)[B" = some ⟨[(.array .char), .int, .int], some (.array .byte)⟩ := by decide +kernel
theorem d_jdk_42_method_149_code_39 : decode jdk_42_method_149_code 39 = .ok (.astore 5, 2) := by decide +kernel
theorem d_jdk_42_method_149_code_41 : decode jdk_42_method_149_code 41 = .ok (.aload_n 0, 1) := by decide +kernel
theorem d_jdk_42_method_149_code_42 : decode jdk_42_method_149_code 42 = .ok (.aload 5, 2) := by decide +kernel
theorem d_jdk_42_method_149_code_44 : decode jdk_42_method_149_code 44 = .ok (.iload_n 3, 1) := by decide +kernel
theorem d_jdk_42_method_149_code_45 : decode jdk_42_method_149_code 45 = .ok (.invokestatic 47, 3) := by decide +kernel
theorem pd2 : parseMethodDescriptor "([BI)B" = some ⟨[(.array .byte), .int], some .byte⟩ := by decide +kernel
theorem d_jdk_42_method_149_code_48 : decode jdk_42_method_149_code 48 = .ok (.putfield 15, 3) := by decide +kernel
theorem d_jdk_42_method_149_code_51 : decode jdk_42_method_149_code 51 = .ok (.aload_n 0, 1) := by decide +kernel
theorem d_jdk_42_method_149_code_52 : decode jdk_42_method_149_code 52 = .ok (.aload 5, 2) := by decide +kernel
theorem d_jdk_42_method_149_code_54 : decode jdk_42_method_149_code 54 = .ok (.putfield 9, 3) := by decide +kernel
theorem d_jdk_42_method_149_code_57 : decode jdk_42_method_149_code 57 = .ok (.return_, 1) := by decide +kernel
def R_c_init4 : Room := { frames := 2, cells := 1, slots := 16, locals := 35 }
theorem pl_b4 : plainFor (⟨"java/lang/String", "<init>", "([CIILjava/lang/Void;)V"⟩ : MethodName) = true := plainFor_of_name (by first | (simp [plainName, overriddenIn]; done) | decide +kernel)
set_option maxRecDepth 65536 in
set_option maxHeartbeats 40000000 in
theorem c_init4 {l : Launch} {Z : State} {a0 : Array Value} {n0 : Nat} {h0 : Heap} (C : Cx Z a0) (hO : Old Z n0 h0) {x a : Addr} {ka : ClassId} {cs : List Int32} {dv : Value} (E : Exa Z h0 x "java/lang/String") (FV : Fld Z h0 x "java/lang/String" "value" "[B" .null) (FC : Fld Z h0 x "java/lang/String" "coder" "B" (.int (0 : Int32))) (g_x : n0 ≤ x) (A : Arv Z h0 a ka .char (Int32.ofNat cs.length) (cs.map Value.int) dv) (h1 : 0 < cs.length) (hl : cs.length ≤ 16) (hc : ∀ c ∈ cs, Lat c) (hxa : x ≠ a) :
    Con false l Z [] n0 (⟨"java/lang/String", "<init>", "([CIILjava/lang/Void;)V"⟩ : MethodName) jdk_42_method_149_code 6 none R_c_init4 #[(.ref x), (.ref a), (.int (0 : Int32)), (.int (Int32.ofNat cs.length)), .null] h0 [x] (fun v h => v = none ∧ ∃ t, h0.size ≤ t ∧ LStr Z h x t cs) := by
  refine Con.intro (a0 := a0) pl_b4 hO (fun q => nomatch q) ?_
  intro p e s m below meth c G
  refine ok_as (mkF m 0 #[.val (.ref x), .val (.ref a), .val (.int (0 : Int32)), .val (.int (Int32.ofNat cs.length)), .val .null, .unset] []) (by first | rfl | (simp [entryFrame, mkF, argsToLocals, Value.category]; done)) ?_
  refine ok_aloadN G d_jdk_42_method_149_code_0 rfl rfl ?_
  refine ok_initO G (C.w19) (C.w20) (C.w21) rfl d_jdk_42_method_149_code_1 (Nat.le_of_ble_eq_true rfl) (Nat.le_of_ble_eq_true rfl) ?_
  refine ok_iloadN G d_jdk_42_method_149_code_4 rfl ?_
  refine ok_ifneY G 27 d_jdk_42_method_149_code_5 (by decide) (by decide) (by rw [show (0 : Int32) = Int32.ofNat 0 from rfl, i32_eq (by omega) (by omega)]; omega) ?_
  obtain ⟨cz, hCS, hcz⟩ := C.compact
  refine ok_getS G (host := "") (Or.inl (C.w49)) Via.refl hCS d_jdk_42_method_149_code_27 ?_
  refine ok_ifeqN G d_jdk_42_method_149_code_30 hcz ?_
  refine ok_aloadN G d_jdk_42_method_149_code_33 rfl rfl ?_
  refine ok_iloadN G d_jdk_42_method_149_code_34 rfl ?_
  refine ok_iloadN G d_jdk_42_method_149_code_35 rfl ?_
  refine ok_static G (argsL := [(.ref a), (.int (0 : Int32)), (.int (Int32.ofNat cs.length))]) (rest := []) (C.w93) (C.w94) (C.w95) (C.w96) (by decide) pd1 (c_comp3 C hO A hl hc) rfl rfl rfl d_jdk_42_method_149_code_36 (Nat.le_of_ble_eq_true rfl) (Nat.le_of_ble_eq_true rfl) (Nat.le_of_ble_eq_true rfl) (Nat.le_of_ble_eq_true rfl) (fun _ q => nomatch q) ?_
  rintro _ hp3 K4 ⟨tr1, kb2, rfl, lbq_tr1, V_tr1⟩
  have lbh_tr1 := lbq_tr1
  have ne_x_tr1 : x ≠ tr1 := Nat.ne_of_lt (Nat.lt_of_lt_of_le E.lt lbh_tr1)
  have ne_a_tr1 : a ≠ tr1 := Nat.ne_of_lt (Nat.lt_of_lt_of_le A.lt lbh_tr1)
  have lb_tr1 : h0.size ≤ tr1 := lbh_tr1
  have g_tr1 : n0 ≤ tr1 := Nat.le_trans (old_le hO) lbh_tr1
  replace E := E.keep K4
  replace FV := FV.keep K4 nin0
  replace FC := FC.keep K4 nin0
  replace A := A.keep K4 nin0
  refine ok_as (mkF m 39 #[.val (.ref x), .val (.ref a), .val (.int (0 : Int32)), .val (.int (Int32.ofNat cs.length)), .val .null, .unset] [(.ref tr1)]) rfl ?_
  refine ok_astore G #[.val (.ref x), .val (.ref a), .val (.int (0 : Int32)), .val (.int (Int32.ofNat cs.length)), .val .null, .val (.ref tr1)] d_jdk_42_method_149_code_39 rfl rfl ?_
  refine ok_aloadN G d_jdk_42_method_149_code_41 rfl rfl ?_
  refine ok_aload G d_jdk_42_method_149_code_42 rfl rfl ?_
  refine ok_iloadN G d_jdk_42_method_149_code_44 rfl ?_
  refine ok_old (fun hO_hp3 => ?_)
  refine ok_static G (argsL := [(.ref tr1), (.int (Int32.ofNat cs.length))]) (rest := [(.ref x)]) (C.w100) (C.w101) (C.w95) (C.w102) (by decide) pd2 (c_cod C hO_hp3 V_tr1) rfl rfl rfl d_jdk_42_method_149_code_45 (Nat.le_of_ble_eq_true rfl) (Nat.le_of_ble_eq_true rfl) (Nat.le_of_ble_eq_true rfl) (Nat.le_of_ble_eq_true rfl) (fun _ q => nomatch q) ?_
  rintro _ _ _ ⟨rfl, rfl⟩
  refine ok_as (mkF m 48 #[.val (.ref x), .val (.ref a), .val (.int (0 : Int32)), .val (.int (Int32.ofNat cs.length)), .val .null, .val (.ref tr1)] [(.int (0 : Int32)), (.ref x)]) rfl ?_
  refine ok_putF G (host := "") (Or.inl (C.w29)) Via.refl FC E (Or.inr ⟨(C.w25), rfl, rfl⟩) (C.w7) (ty := .byte) (by decide) rfl rfl d_jdk_42_method_149_code_48 g_x (Or.inl (List.mem_of_getElem? (i := 0) rfl)) SafeFor.narrow ?_
  intro hp7 K8 Wn Fn
  replace FV := FV.other Wn (Or.inr (slot_ne (Or.inr (C.w24)) (Or.inr (C.w25)) (by decide) (t := (.array .byte)) (t' := .byte) (by decide) (by decide)))
  replace E := E.keep K8
  replace A := A.keep K8 (ninS (Ne.symm hxa) nin0)
  replace V_tr1 := V_tr1.keep K8 (ninS (Ne.symm ne_x_tr1) nin0)
  replace FC : Fld Z hp7 x "java/lang/String" "coder" "B" (.int (0 : Int32)) := Fn
  clear Wn Fn
  refine ok_aloadN G d_jdk_42_method_149_code_51 rfl rfl ?_
  refine ok_aload G d_jdk_42_method_149_code_52 rfl rfl ?_
  refine ok_putF G (host := "") (Or.inl (C.w28)) Via.refl FV E (Or.inr ⟨(C.w24), rfl, rfl⟩) (C.w7) (ty := (.array .byte)) (by decide) rfl rfl d_jdk_42_method_149_code_54 g_x (Or.inl (List.mem_of_getElem? (i := 0) rfl)) SafeFor.narrow ?_
  intro hp9 K10 Wn Fn
  replace FC := FC.other Wn (Or.inr (slot_ne (Or.inr (C.w25)) (Or.inr (C.w24)) (by decide) (t := .byte) (t' := (.array .byte)) (by decide) (by decide)))
  replace E := E.keep K10
  replace A := A.keep K10 (ninS (Ne.symm hxa) nin0)
  replace V_tr1 := V_tr1.keep K10 (ninS (Ne.symm ne_x_tr1) nin0)
  replace FV : Fld Z hp9 x "java/lang/String" "value" "[B" (.ref tr1) := Fn
  clear Wn Fn
  exact ok_return G rfl d_jdk_42_method_149_code_57 ⟨rfl, _, lb_tr1, E, FC, FV, ⟨_, V_tr1⟩, hc, hl⟩ (Nat.le_of_ble_eq_true rfl) (Nat.le_of_ble_eq_true rfl)
theorem d_jdk_42_method_3_code_0 : decode jdk_42_method_3_code 0 = .ok (.aload_n 0, 1) := by decide +kernel
theorem d_jdk_42_method_3_code_1 : decode jdk_42_method_3_code 1 = .ok (.aload_n 1, 1) := by decide +kernel
theorem d_jdk_42_method_3_code_2 : decode jdk_42_method_3_code 2 = .ok (.iconst 0, 1) := by decide +kernel
theorem d_jdk_42_method_3_code_3 : decode jdk_42_method_3_code 3 = .ok (.aload_n 1, 1) := by decide +kernel
theorem d_jdk_42_method_3_code_4 : decode jdk_42_method_3_code 4 = .ok (.arraylength, 1) := by decide +kernel
theorem d_jdk_42_method_3_code_5 : decode jdk_42_method_3_code 5 = .ok (.aconst_null, 1) := by decide +kernel
theorem d_jdk_42_method_3_code_6 : decode jdk_42_method_3_code 6 = .ok (.invokespecial 27, 3) := by decide +kernel
theorem pd3 : parseMethodDescriptor "([CIILjava/lang/Void;)V" = some ⟨[(.array .char), .int, .int, (.object "java/lang/Void")], none⟩ := by decide +kernel
theorem d_jdk_42_method_3_code_9 : decode jdk_42_method_3_code 9 = .ok (.return_, 1) := by decide +kernel
def R_c_init1 : Room := { frames := 3, cells := 1, slots := 16, locals := 52 }
theorem pl_b3 : plainFor (⟨"java/lang/String", "<init>", "([C)V"⟩ : MethodName) = true := plainFor_of_name (by first | (simp [plainName, overriddenIn]; done) | decide +kernel)
set_option maxRecDepth 65536 in
set_option maxHeartbeats 40000000 in
theorem c_init1 {l : Launch} {Z : State} {a0 : Array Value} {n0 : Nat} {h0 : Heap} (C : Cx Z a0) (hO : Old Z n0 h0) {x a : Addr} {ka : ClassId} {cs : List Int32} {dv : Value} (E : Exa Z h0 x "java/lang/String") (FV : Fld Z h0 x "java/lang/String" "value" "[B" .null) (FC : Fld Z h0 x "java/lang/String" "coder" "B" (.int (0 : Int32))) (g_x : n0 ≤ x) (A : Arv Z h0 a ka .char (Int32.ofNat cs.length) (cs.map Value.int) dv) (h1 : 0 < cs.length) (hl : cs.length ≤ 16) (hc : ∀ c ∈ cs, Lat c) (hxa : x ≠ a) :
    Con false l Z [] n0 (⟨"java/lang/String", "<init>", "([C)V"⟩ : MethodName) jdk_42_method_3_code 2 none R_c_init1 #[(.ref x), (.ref a)] h0 [x] (fun v h => v = none ∧ ∃ t, h0.size ≤ t ∧ LStr Z h x t cs) := by
  refine Con.intro (a0 := a0) pl_b3 hO (fun q => nomatch q) ?_
  intro p e s m below meth c G
  refine ok_as (mkF m 0 #[.val (.ref x), .val (.ref a)] []) (by first | rfl | (simp [entryFrame, mkF, argsToLocals, Value.category]; done)) ?_
  refine ok_aloadN G d_jdk_42_method_3_code_0 rfl rfl ?_
  refine ok_aloadN G d_jdk_42_method_3_code_1 rfl rfl ?_
  refine ok_iconst G (0 : Int32) d_jdk_42_method_3_code_2 rfl ?_
  refine ok_aloadN G d_jdk_42_method_3_code_3 rfl rfl ?_
  refine ok_arraylength G A d_jdk_42_method_3_code_4 ?_
  refine ok_aconst_null G d_jdk_42_method_3_code_5 ?_
  refine ok_init G (a := x) (argsL := [(.ref a), (.int (0 : Int32)), (.int (Int32.ofNat cs.length)), .null]) (rest := []) rfl (C.w15) (C.w16) (C.w8) (C.w18) (by decide) pd3 (c_init4 C hO E FV FC g_x A h1 hl hc hxa) rfl rfl rfl d_jdk_42_method_3_code_6 (Nat.le_of_ble_eq_true rfl) (Nat.le_of_ble_eq_true rfl) (Nat.le_of_ble_eq_true rfl) (Nat.le_of_ble_eq_true rfl) (allS ⟨(Or.inl (List.mem_of_getElem? (i := 0) rfl)), SafeFor.narrow⟩ (fun _ q => nomatch q)) ?_
  rintro _ hp2 K3 ⟨rfl, tr1, lbq_tr1, S_x⟩
  have lbh_tr1 := lbq_tr1
  have ne_x_tr1 : x ≠ tr1 := Nat.ne_of_lt (Nat.lt_of_lt_of_le E.lt lbh_tr1)
  have ne_a_tr1 : a ≠ tr1 := Nat.ne_of_lt (Nat.lt_of_lt_of_le A.lt lbh_tr1)
  have lb_tr1 : h0.size ≤ tr1 := lbh_tr1
  have g_tr1 : n0 ≤ tr1 := Nat.le_trans (old_le hO) lbh_tr1
  replace E := E.keep K3
  replace A := A.keep K3 (ninS (Ne.symm hxa) nin0)
  refine ok_as (mkF m 9 #[.val (.ref x), .val (.ref a)] []) rfl ?_
  exact ok_return G rfl d_jdk_42_method_3_code_9 ⟨rfl, _, lb_tr1, S_x⟩ (Nat.le_of_ble_eq_true rfl) (Nat.le_of_ble_eq_true rfl)
theorem d_jdk_42_method_149_code_8 : decode jdk_42_method_149_code 8 = .ok (.aload_n 0, 1) := by decide +kernel
theorem d_jdk_42_method_149_code_9 : decode jdk_42_method_149_code 9 = .ok (.ldc 7, 2) := by decide +kernel
theorem d_jdk_42_method_149_code_11 : decode jdk_42_method_149_code 11 = .ok (.getfield 9, 3) := by decide +kernel
theorem d_jdk_42_method_149_code_14 : decode jdk_42_method_149_code 14 = .ok (.putfield 9, 3) := by decide +kernel
theorem d_jdk_42_method_149_code_17 : decode jdk_42_method_149_code 17 = .ok (.aload_n 0, 1) := by decide +kernel
theorem d_jdk_42_method_149_code_18 : decode jdk_42_method_149_code 18 = .ok (.ldc 7, 2) := by decide +kernel
theorem d_jdk_42_method_149_code_20 : decode jdk_42_method_149_code 20 = .ok (.getfield 15, 3) := by decide +kernel
theorem d_jdk_42_method_149_code_23 : decode jdk_42_method_149_code 23 = .ok (.putfield 15, 3) := by decide +kernel
theorem d_jdk_42_method_149_code_26 : decode jdk_42_method_149_code 26 = .ok (.return_, 1) := by decide +kernel
def R_c_init4e : Room := { frames := 1, cells := 4, slots := 8, locals := 12 }
set_option maxRecDepth 65536 in
set_option maxHeartbeats 40000000 in
theorem c_init4e {l : Launch} {Z : State} {a0 : Array Value} {n0 : Nat} {h0 : Heap} (C : Cx Z a0) (hO : Old Z n0 h0) (hE : EW Z a0 consts_1) {x a : Addr} (E : Exa Z h0 x "java/lang/String") (FV : Fld Z h0 x "java/lang/String" "value" "[B" .null) (FC : Fld Z h0 x "java/lang/String" "coder" "B" (.int (0 : Int32))) (g_x : n0 ≤ x) :
    Con true l Z consts_1 n0 (⟨"java/lang/String", "<init>", "([CIILjava/lang/Void;)V"⟩ : MethodName) jdk_42_method_149_code 6 none R_c_init4e #[(.ref x), (.ref a), (.int (0 : Int32)), (.int (0 : Int32)), .null] h0 [x] (fun v h => v = none ∧ ∃ t, LStr Z h x t []) := by
  refine Con.intro (a0 := a0) pl_b4 hO (fun _ => hE) ?_
  intro p e s m below meth c G
  refine ok_as (mkF m 0 #[.val (.ref x), .val (.ref a), .val (.int (0 : Int32)), .val (.int (0 : Int32)), .val .null, .unset] []) (by first | rfl | (simp [entryFrame, mkF, argsToLocals, Value.category]; done)) ?_
  refine ok_sf [x] (allS ⟨E.lt, safe_null E FV⟩ all0) ?_
  refine ok_aloadN G d_jdk_42_method_149_code_0 rfl rfl ?_
  refine ok_initO G (C.w19) (C.w20) (C.w21) rfl d_jdk_42_method_149_code_1 (Nat.le_of_ble_eq_true rfl) (Nat.le_of_ble_eq_true rfl) ?_
  refine ok_iloadN G d_jdk_42_method_149_code_4 rfl ?_
  refine ok_ifneN G d_jdk_42_method_149_code_5 (by decide) ?_
  refine ok_aloadN G d_jdk_42_method_149_code_8 rfl rfl ?_
  refine ok_ldcR G (vs := ([] : List Int32).map lo8) (z := (0 : Int32)) rfl (C.w22) C.strs (List.mem_of_getElem? (i := 0) rfl) ⟨by decide, rfl⟩ (by decide) rfl d_jdk_42_method_149_code_9 0 (by decide) (by decide) (Nat.le_of_ble_eq_true rfl) (Nat.le_of_ble_eq_true rfl) ?_
  intro yl3 hp1 tr4 kb5 K2 E_yl3 FC_yl3 FV_yl3 V_tr4 hne
  have ne_x_yl3 := (hne x (List.mem_of_getElem? (i := 0) rfl)).1
  have ne_x_tr4 := (hne x (List.mem_of_getElem? (i := 0) rfl)).2
  replace E := E.keep K2
  replace FV := FV.keep K2 nin0
  replace FC := FC.keep K2 nin0
  refine ok_getF G (host := "") (Or.inl (C.w28)) Via.refl FV_yl3 d_jdk_42_method_149_code_11 ?_
  refine ok_putF G (host := "") (Or.inl (C.w28)) Via.refl FV E (Or.inr ⟨(C.w24), rfl, rfl⟩) (C.w7) (ty := (.array .byte)) (by decide) rfl rfl d_jdk_42_method_149_code_14 g_x (Or.inl (List.mem_of_getElem? (i := 0) rfl)) (SafeFor.mem (List.mem_of_getElem? (i := 0) rfl)) ?_
  intro hp6 K7 Wn Fn
  replace FC := FC.other Wn (Or.inr (slot_ne (Or.inr (C.w25)) (Or.inr (C.w24)) (by decide) (t := .byte) (t' := (.array .byte)) (by decide) (by decide)))
  replace E := E.keep K7
  replace E_yl3 := E_yl3.keep K7
  replace FC_yl3 := FC_yl3.keep K7 (ninS (Ne.symm ne_x_yl3) nin0)
  replace FV_yl3 := FV_yl3.keep K7 (ninS (Ne.symm ne_x_yl3) nin0)
  replace V_tr4 := V_tr4.keep K7 (ninS (Ne.symm ne_x_tr4) nin0)
  replace FV : Fld Z hp6 x "java/lang/String" "value" "[B" (.ref tr4) := Fn
  clear Wn Fn
  refine ok_aloadN G d_jdk_42_method_149_code_17 rfl rfl ?_
  refine ok_ldcR G (vs := ([] : List Int32).map lo8) (z := (0 : Int32)) rfl (C.w22) C.strs (List.mem_of_getElem? (i := 0) rfl) ⟨by decide, rfl⟩ (by decide) rfl d_jdk_42_method_149_code_18 0 (by decide) (by decide) (Nat.le_of_ble_eq_true rfl) (Nat.le_of_ble_eq_true rfl) ?_
  intro yl10 hp8 tr11 kb12 K9 E_yl10 FC_yl10 FV_yl10 V_tr11 hne
  have ne_x_yl10 := (hne x (List.mem_of_getElem? (i := 0) rfl)).1
  have ne_x_tr11 := (hne x (List.mem_of_getElem? (i := 0) rfl)).2
  replace E := E.keep K9
  replace FV := FV.keep K9 nin0
  replace FC := FC.keep K9 nin0
  replace E_yl3 := E_yl3.keep K9
  replace FC_yl3 := FC_yl3.keep K9 nin0
  replace FV_yl3 := FV_yl3.keep K9 nin0
  replace V_tr4 := V_tr4.keep K9 nin0
  refine ok_getF G (host := "") (Or.inl (C.w29)) Via.refl FC_yl10 d_jdk_42_method_149_code_20 ?_
  refine ok_putF G (host := "") (Or.inl (C.w29)) Via.refl FC E (Or.inr ⟨(C.w25), rfl, rfl⟩) (C.w7) (ty := .byte) (by decide) rfl rfl d_jdk_42_method_149_code_23 g_x (Or.inl (List.mem_of_getElem? (i := 0) rfl)) (SafeFor.mem (List.mem_of_getElem? (i := 0) rfl)) ?_
  intro hp13 K14 Wn Fn
  replace FV := FV.other Wn (Or.inr (slot_ne (Or.inr (C.w24)) (Or.inr (C.w25)) (by decide) (t := (.array .byte)) (t' := .byte) (by decide) (by decide)))
  replace E := E.keep K14
  replace E_yl3 := E_yl3.keep K14
  replace FC_yl3 := FC_yl3.keep K14 (ninS (Ne.symm ne_x_yl3) nin0)
  replace FV_yl3 := FV_yl3.keep K14 (ninS (Ne.symm ne_x_yl3) nin0)
  replace V_tr4 := V_tr4.keep K14 (ninS (Ne.symm ne_x_tr4) nin0)
  replace E_yl10 := E_yl10.keep K14
  replace FC_yl10 := FC_yl10.keep K14 (ninS (Ne.symm ne_x_yl10) nin0)
  replace FV_yl10 := FV_yl10.keep K14 (ninS (Ne.symm ne_x_yl10) nin0)
  replace V_tr11 := V_tr11.keep K14 (ninS (Ne.symm ne_x_tr11) nin0)
  replace FC : Fld Z hp13 x "java/lang/String" "coder" "B" (.int (0 : Int32)) := Fn
  clear Wn Fn
  exact ok_return G rfl d_jdk_42_method_149_code_26 ⟨rfl, _, E, FC, FV, ⟨_, V_tr4⟩, (fun _ q => nomatch q), (Nat.le_of_ble_eq_true rfl)⟩ (Nat.le_of_ble_eq_true rfl) (Nat.le_of_ble_eq_true rfl)
def R_c_init1e : Room := { frames := 2, cells := 4, slots := 8, locals := 29 }
set_option maxRecDepth 65536 in
set_option maxHeartbeats 40000000 in
theorem c_init1e {l : Launch} {Z : State} {a0 : Array Value} {n0 : Nat} {h0 : Heap} (C : Cx Z a0) (hO : Old Z n0 h0) (hE : EW Z a0 consts_1) {x a : Addr} {ka : ClassId} {vs : List Value} {dv : Value} (E : Exa Z h0 x "java/lang/String") (FV : Fld Z h0 x "java/lang/String" "value" "[B" .null) (FC : Fld Z h0 x "java/lang/String" "coder" "B" (.int (0 : Int32))) (g_x : n0 ≤ x) (A : Arv Z h0 a ka .char (0 : Int32) vs dv) (hxa : x ≠ a) :
    Con true l Z consts_1 n0 (⟨"java/lang/String", "<init>", "([C)V"⟩ : MethodName) jdk_42_method_3_code 2 none R_c_init1e #[(.ref x), (.ref a)] h0 [x] (fun v h => v = none ∧ ∃ t, LStr Z h x t []) := by
  refine Con.intro (a0 := a0) pl_b3 hO (fun _ => hE) ?_
  intro p e s m below meth c G
  refine ok_as (mkF m 0 #[.val (.ref x), .val (.ref a)] []) (by first | rfl | (simp [entryFrame, mkF, argsToLocals, Value.category]; done)) ?_
  refine ok_aloadN G d_jdk_42_method_3_code_0 rfl rfl ?_
  refine ok_aloadN G d_jdk_42_method_3_code_1 rfl rfl ?_
  refine ok_iconst G (0 : Int32) d_jdk_42_method_3_code_2 rfl ?_
  refine ok_aloadN G d_jdk_42_method_3_code_3 rfl rfl ?_
  refine ok_arraylength G A d_jdk_42_method_3_code_4 ?_
  refine ok_aconst_null G d_jdk_42_method_3_code_5 ?_
  refine ok_initW G (a := x) (argsL := [(.ref a), (.int (0 : Int32)), (.int (0 : Int32)), .null]) (rest := []) rfl (C.w15) (C.w16) (C.w8) (C.w18) (by decide) pd3 (c_init4e (a := a) C hO hE E FV FC g_x) rfl rfl rfl d_jdk_42_method_3_code_6 (Nat.le_of_ble_eq_true rfl) (Nat.le_of_ble_eq_true rfl) (Nat.le_of_ble_eq_true rfl) (Nat.le_of_ble_eq_true rfl) rfl (allS (Or.inl (List.mem_of_getElem? (i := 0) rfl)) (fun _ q => nomatch q)) ?_
  rintro _ hp2 K3 ⟨rfl, tr1, S_x⟩
  replace E := E.keep K3
  replace A := A.keep K3 (ninS (Ne.symm hxa) nin0)
  refine ok_as (mkF m 9 #[.val (.ref x), .val (.ref a)] []) rfl ?_
  exact ok_return G rfl d_jdk_42_method_3_code_9 ⟨rfl, _, S_x⟩ (Nat.le_of_ble_eq_true rfl) (Nat.le_of_ble_eq_true rfl)
theorem d_jdk_42_method_152_code_0 : decode jdk_42_method_152_code 0 = .ok (.getstatic 38, 3) := by decide +kernel
theorem d_jdk_42_method_152_code_3 : decode jdk_42_method_152_code 3 = .ok (.ifCond .eq 10, 3) := by decide +kernel
theorem d_jdk_42_method_152_code_6 : decode jdk_42_method_152_code 6 = .ok (.aload_n 0, 1) := by decide +kernel
theorem d_jdk_42_method_152_code_7 : decode jdk_42_method_152_code 7 = .ok (.getfield 15, 3) := by decide +kernel
theorem d_jdk_42_method_152_code_10 : decode jdk_42_method_152_code 10 = .ok (.goto 4, 3) := by decide +kernel
theorem d_jdk_42_method_152_code_14 : decode jdk_42_method_152_code 14 = .ok (.ireturn, 1) := by decide +kernel
def R_c_coder : Room := { frames := 0, cells := 0, slots := 0, locals := 0 }
theorem pl_b9 : plainFor (⟨"java/lang/String", "coder", "()B"⟩ : MethodName) = true := plainFor_of_name (by first | (simp [plainName, overriddenIn]; done) | decide +kernel)
set_option maxRecDepth 65536 in
set_option maxHeartbeats 40000000 in
theorem c_coder {l : Launch} {Z : State} {a0 : Array Value} {n0 : Nat} {h0 : Heap} (C : Cx Z a0) (hO : Old Z n0 h0) {x t : Addr} {cs : List Int32} (S : LStr Z h0 x t cs) :
    Con false l Z [] n0 (⟨"java/lang/String", "coder", "()B"⟩ : MethodName) jdk_42_method_152_code 1 (some .byte) R_c_coder #[(.ref x)] h0 [] (fun v h => v = some (.int 0) ∧ h0 = h) := by
  refine Con.intro (a0 := a0) pl_b9 hO (fun q => nomatch q) ?_
  intro p e s m below meth c G
  refine ok_as (mkF m 0 #[.val (.ref x)] []) (by first | rfl | (simp [entryFrame, mkF, argsToLocals, Value.category]; done)) ?_
  obtain ⟨E, FC, FV, ⟨kb, V⟩, hla, hle⟩ := S
  obtain ⟨cz, hCS, hcz⟩ := C.compact
  refine ok_getS G (host := "") (Or.inl (C.w49)) Via.refl hCS d_jdk_42_method_152_code_0 ?_
  refine ok_ifeqN G d_jdk_42_method_152_code_3 hcz ?_
  refine ok_aloadN G d_jdk_42_method_152_code_6 rfl rfl ?_
  refine ok_getF G (host := "") (Or.inl (C.w29)) Via.refl FC d_jdk_42_method_152_code_7 ?_
  refine ok_goto G 14 d_jdk_42_method_152_code_10 (by decide) (by decide) ?_
  exact ok_retN G rfl (by simp) d_jdk_42_method_152_code_14 rfl ⟨rfl, rfl⟩ (Nat.le_of_ble_eq_true rfl) (Nat.le_of_ble_eq_true rfl)
theorem d_jdk_42_method_54_code_0 : decode jdk_42_method_54_code 0 = .ok (.aload_n 0, 1) := by decide +kernel
theorem d_jdk_42_method_54_code_1 : decode jdk_42_method_54_code 1 = .ok (.getfield 9, 3) := by decide +kernel
theorem d_jdk_42_method_54_code_4 : decode jdk_42_method_54_code 4 = .ok (.arraylength, 1) := by decide +kernel
theorem d_jdk_42_method_54_code_5 : decode jdk_42_method_54_code 5 = .ok (.aload_n 0, 1) := by decide +kernel
theorem d_jdk_42_method_54_code_6 : decode jdk_42_method_54_code 6 = .ok (.invokevirtual 335, 3) := by decide +kernel
theorem pd4 : parseMethodDescriptor "()B" = some ⟨[], some .byte⟩ := by decide +kernel
theorem d_jdk_42_method_54_code_9 : decode jdk_42_method_54_code 9 = .ok (.ishr, 1) := by decide +kernel
theorem d_jdk_42_method_54_code_10 : decode jdk_42_method_54_code 10 = .ok (.ireturn, 1) := by decide +kernel
def R_c_length : Room := { frames := 1, cells := 0, slots := 0, locals := 13 }
theorem pl_b8 : plainFor (⟨"java/lang/String", "length", "()I"⟩ : MethodName) = true := plainFor_of_name (by first | (simp [plainName, overriddenIn]; done) | decide +kernel)
set_option maxRecDepth 65536 in
set_option maxHeartbeats 40000000 in
theorem c_length {l : Launch} {Z : State} {a0 : Array Value} {n0 : Nat} {h0 : Heap} (C : Cx Z a0) (hO : Old Z n0 h0) {x t : Addr} {cs : List Int32} (S : LStr Z h0 x t cs) :
    Con false l Z [] n0 (⟨"java/lang/String", "length", "()I"⟩ : MethodName) jdk_42_method_54_code 1 (some .int) R_c_length #[(.ref x)] h0 [] (fun v h => v = some (.int (Int32.ofNat cs.length)) ∧ h0 = h) := by
  refine Con.intro (a0 := a0) pl_b8 hO (fun q => nomatch q) ?_
  intro p e s m below meth c G
  refine ok_as (mkF m 0 #[.val (.ref x)] []) (by first | rfl | (simp [entryFrame, mkF, argsToLocals, Value.category]; done)) ?_
  obtain ⟨E, FC, FV, ⟨kb, V⟩, hla, hle⟩ := id S
  refine ok_aloadN G d_jdk_42_method_54_code_0 rfl rfl ?_
  refine ok_getF G (host := "") (Or.inl (C.w28)) Via.refl FV d_jdk_42_method_54_code_1 ?_
  refine ok_arraylength G V d_jdk_42_method_54_code_4 ?_
  refine ok_aloadN G d_jdk_42_method_54_code_5 rfl rfl ?_
  refine ok_virtual G (a := x) (y0 := (⟨"java/lang/String", "coder", "()B"⟩ : MethodName)) (y := (⟨"java/lang/String", "coder", "()B"⟩ : MethodName)) (argsL := []) (rest := [(.int (Int32.ofNat cs.length))]) E (C.w44) (C.w45) (C.w47) (fun vm hZ => notFace_of_selects (args := #[]) (mvT (s := s.setVm vm) hZ (C.w47))) (C.w46) (C.w8) (C.w48) (by decide) pd4 (c_coder C hO S) rfl rfl rfl d_jdk_42_method_54_code_6 (Nat.le_of_ble_eq_true rfl) (Nat.le_of_ble_eq_true rfl) (Nat.le_of_ble_eq_true rfl) (Nat.le_of_ble_eq_true rfl) (fun _ q => nomatch q) ?_
  rintro _ _ _ ⟨rfl, rfl⟩
  refine ok_as (mkF m 9 #[.val (.ref x)] [(.int (0 : Int32)), (.int (Int32.ofNat cs.length))]) rfl ?_
  refine ok_ishr G d_jdk_42_method_54_code_9 ?_
  refine ok_sayI (Int32.ofNat cs.length) (by simp) ?_
  exact ok_retI G rfl d_jdk_42_method_54_code_10 ⟨rfl, rfl⟩ (Nat.le_of_ble_eq_true rfl) (Nat.le_of_ble_eq_true rfl)
theorem d_jdk_41_method_11_code_0 : decode jdk_41_method_11_code 0 = .ok (.iload_n 0, 1) := by decide +kernel
theorem d_jdk_41_method_11_code_1 : decode jdk_41_method_11_code 1 = .ok (.ifCond .lt 8, 3) := by decide +kernel
theorem d_jdk_41_method_11_code_4 : decode jdk_41_method_11_code 4 = .ok (.iload_n 0, 1) := by decide +kernel
theorem d_jdk_41_method_11_code_5 : decode jdk_41_method_11_code 5 = .ok (.iload_n 1, 1) := by decide +kernel
theorem d_jdk_41_method_11_code_6 : decode jdk_41_method_11_code 6 = .ok (.if_icmp .lt 10, 3) := by decide +kernel
theorem d_jdk_41_method_11_code_16 : decode jdk_41_method_11_code 16 = .ok (.iload_n 0, 1) := by decide +kernel
theorem d_jdk_41_method_11_code_17 : decode jdk_41_method_11_code 17 = .ok (.ireturn, 1) := by decide +kernel
def R_c_pci_n : Room := { frames := 0, cells := 0, slots := 0, locals := 0 }
theorem pl_b31 : plainFor (⟨"jdk/internal/util/Preconditions", "checkIndex", "(IILjava/util/function/BiFunction;)I"⟩ : MethodName) = true := plainFor_of_name (by first | (simp [plainName, overriddenIn]; done) | decide +kernel)
set_option maxRecDepth 65536 in
set_option maxHeartbeats 40000000 in
theorem c_pci_n {l : Launch} {Z : State} {a0 : Array Value} {n0 : Nat} {h0 : Heap} (C : Cx Z a0) (hO : Old Z n0 h0) {i n : Int32} (hi : ¬ i < 0 ∧ i < n) :
    Con false l Z [] n0 (⟨"jdk/internal/util/Preconditions", "checkIndex", "(IILjava/util/function/BiFunction;)I"⟩ : MethodName) jdk_41_method_11_code 3 (some .int) R_c_pci_n #[(.int i), (.int n), .null] h0 [] (fun v h => v = some (.int i) ∧ h0 = h) := by
  refine Con.intro (a0 := a0) pl_b31 hO (fun q => nomatch q) ?_
  intro p e s m below meth c G
  refine ok_as (mkF m 0 #[.val (.int i), .val (.int n), .val .null] []) (by first | rfl | (simp [entryFrame, mkF, argsToLocals, Value.category]; done)) ?_
  refine ok_iloadN G d_jdk_41_method_11_code_0 rfl ?_
  refine ok_ifltN G d_jdk_41_method_11_code_1 hi.1 ?_
  refine ok_iloadN G d_jdk_41_method_11_code_4 rfl ?_
  refine ok_iloadN G d_jdk_41_method_11_code_5 rfl ?_
  refine ok_icmpltY G 16 d_jdk_41_method_11_code_6 (by decide) (by decide) hi.2 ?_
  refine ok_iloadN G d_jdk_41_method_11_code_16 rfl ?_
  exact ok_retI G rfl d_jdk_41_method_11_code_17 ⟨rfl, rfl⟩ (Nat.le_of_ble_eq_true rfl) (Nat.le_of_ble_eq_true rfl)
def R_c_pci_r : Room := { frames := 0, cells := 0, slots := 0, locals := 0 }
set_option maxRecDepth 65536 in
set_option maxHeartbeats 40000000 in
theorem c_pci_r {l : Launch} {Z : State} {a0 : Array Value} {n0 : Nat} {h0 : Heap} (C : Cx Z a0) (hO : Old Z n0 h0) {i n : Int32} {fa : Addr} (hi : ¬ i < 0 ∧ i < n) :
    Con false l Z [] n0 (⟨"jdk/internal/util/Preconditions", "checkIndex", "(IILjava/util/function/BiFunction;)I"⟩ : MethodName) jdk_41_method_11_code 3 (some .int) R_c_pci_r #[(.int i), (.int n), (.ref fa)] h0 [] (fun v h => v = some (.int i) ∧ h0 = h) := by
  refine Con.intro (a0 := a0) pl_b31 hO (fun q => nomatch q) ?_
  intro p e s m below meth c G
  refine ok_as (mkF m 0 #[.val (.int i), .val (.int n), .val (.ref fa)] []) (by first | rfl | (simp [entryFrame, mkF, argsToLocals, Value.category]; done)) ?_
  refine ok_iloadN G d_jdk_41_method_11_code_0 rfl ?_
  refine ok_ifltN G d_jdk_41_method_11_code_1 hi.1 ?_
  refine ok_iloadN G d_jdk_41_method_11_code_4 rfl ?_
  refine ok_iloadN G d_jdk_41_method_11_code_5 rfl ?_
  refine ok_icmpltY G 16 d_jdk_41_method_11_code_6 (by decide) (by decide) hi.2 ?_
  refine ok_iloadN G d_jdk_41_method_11_code_16 rfl ?_
  exact ok_retI G rfl d_jdk_41_method_11_code_17 ⟨rfl, rfl⟩ (Nat.le_of_ble_eq_true rfl) (Nat.le_of_ble_eq_true rfl)
theorem d_jdk_42_method_155_code_0 : decode jdk_42_method_155_code 0 = .ok (.iload_n 0, 1) := by decide +kernel
theorem d_jdk_42_method_155_code_1 : decode jdk_42_method_155_code 1 = .ok (.iload_n 1, 1) := by decide +kernel
theorem d_jdk_42_method_155_code_2 : decode jdk_42_method_155_code 2 = .ok (.getstatic 1053, 3) := by decide +kernel
theorem d_jdk_42_method_155_code_5 : decode jdk_42_method_155_code 5 = .ok (.invokestatic 1059, 3) := by decide +kernel
theorem pd5 : parseMethodDescriptor "(IILjava/util/function/BiFunction;)I" = some ⟨[.int, .int, (.object "java/util/function/BiFunction")], some .int⟩ := by decide +kernel
theorem d_jdk_42_method_155_code_8 : decode jdk_42_method_155_code 8 = .ok (.pop, 1) := by decide +kernel
theorem d_jdk_42_method_155_code_9 : decode jdk_42_method_155_code 9 = .ok (.return_, 1) := by decide +kernel
def R_c_sci : Room := { frames := 1, cells := 0, slots := 0, locals := 14 }
theorem pl_b30 : plainFor (⟨"java/lang/String", "checkIndex", "(II)V"⟩ : MethodName) = true := plainFor_of_name (by first | (simp [plainName, overriddenIn]; done) | decide +kernel)
set_option maxRecDepth 65536 in
set_option maxHeartbeats 40000000 in
theorem c_sci {l : Launch} {Z : State} {a0 : Array Value} {n0 : Nat} {h0 : Heap} (C : Cx Z a0) (hO : Old Z n0 h0) {i n : Int32} (hi : ¬ i < 0 ∧ i < n) :
    Con false l Z [] n0 (⟨"java/lang/String", "checkIndex", "(II)V"⟩ : MethodName) jdk_42_method_155_code 2 none R_c_sci #[(.int i), (.int n)] h0 [] (fun v h => v = none ∧ h0 = h) := by
  refine Con.intro (a0 := a0) pl_b30 hO (fun q => nomatch q) ?_
  intro p e s m below meth c G
  refine ok_as (mkF m 0 #[.val (.int i), .val (.int n)] []) (by first | rfl | (simp [entryFrame, mkF, argsToLocals, Value.category]; done)) ?_
  refine ok_iloadN G d_jdk_42_method_155_code_0 rfl ?_
  refine ok_iloadN G d_jdk_42_method_155_code_1 rfl ?_
  obtain ⟨fm, hfm, hr⟩ := C.sio
  rcases hr with rfl | ⟨fa, rfl⟩
  · skip
    refine ok_getS G (host := "") (Or.inl (C.w84)) Via.refl hfm d_jdk_42_method_155_code_2 ?_
    refine ok_static G (argsL := [(.int i), (.int n), .null]) (rest := []) (C.w136) (C.w137) (C.w85) (C.w138) (by decide) pd5 (c_pci_n C hO hi) rfl rfl rfl d_jdk_42_method_155_code_5 (Nat.le_of_ble_eq_true rfl) (Nat.le_of_ble_eq_true rfl) (Nat.le_of_ble_eq_true rfl) (Nat.le_of_ble_eq_true rfl) (fun _ q => nomatch q) ?_
    rintro _ _ _ ⟨rfl, rfl⟩
    refine ok_as (mkF m 8 #[.val (.int i), .val (.int n)] [(.int i)]) rfl ?_
    refine ok_pop G d_jdk_42_method_155_code_8 rfl ?_
    exact ok_return G rfl d_jdk_42_method_155_code_9 ⟨rfl, rfl⟩ (Nat.le_of_ble_eq_true rfl) (Nat.le_of_ble_eq_true rfl)
  · skip
    refine ok_getS G (host := "") (Or.inl (C.w84)) Via.refl hfm d_jdk_42_method_155_code_2 ?_
    refine ok_static G (argsL := [(.int i), (.int n), (.ref fa)]) (rest := []) (C.w136) (C.w137) (C.w85) (C.w138) (by decide) pd5 (c_pci_r C hO hi) rfl rfl rfl d_jdk_42_method_155_code_5 (Nat.le_of_ble_eq_true rfl) (Nat.le_of_ble_eq_true rfl) (Nat.le_of_ble_eq_true rfl) (Nat.le_of_ble_eq_true rfl) (fun _ q => nomatch q) ?_
    rintro _ _ _ ⟨rfl, rfl⟩
    refine ok_as (mkF m 8 #[.val (.int i), .val (.int n)] [(.int i)]) rfl ?_
    refine ok_pop G d_jdk_42_method_155_code_8 rfl ?_
    exact ok_return G rfl d_jdk_42_method_155_code_9 ⟨rfl, rfl⟩ (Nat.le_of_ble_eq_true rfl) (Nat.le_of_ble_eq_true rfl)
theorem d_jdk_43_method_2_code_0 : decode jdk_43_method_2_code 0 = .ok (.iload_n 1, 1) := by decide +kernel
theorem d_jdk_43_method_2_code_1 : decode jdk_43_method_2_code 1 = .ok (.aload_n 0, 1) := by decide +kernel
theorem d_jdk_43_method_2_code_2 : decode jdk_43_method_2_code 2 = .ok (.arraylength, 1) := by decide +kernel
theorem d_jdk_43_method_2_code_3 : decode jdk_43_method_2_code 3 = .ok (.invokestatic 9, 3) := by decide +kernel
theorem pd6 : parseMethodDescriptor "(II)V" = some ⟨[.int, .int], none⟩ := by decide +kernel
theorem d_jdk_43_method_2_code_6 : decode jdk_43_method_2_code 6 = .ok (.aload_n 0, 1) := by decide +kernel
theorem d_jdk_43_method_2_code_7 : decode jdk_43_method_2_code 7 = .ok (.iload_n 1, 1) := by decide +kernel
theorem d_jdk_43_method_2_code_8 : decode jdk_43_method_2_code 8 = .ok (.baload, 1) := by decide +kernel
theorem d_jdk_43_method_2_code_9 : decode jdk_43_method_2_code 9 = .ok (.sipush 255, 3) := by decide +kernel
theorem d_jdk_43_method_2_code_12 : decode jdk_43_method_2_code 12 = .ok (.iand, 1) := by decide +kernel
theorem d_jdk_43_method_2_code_13 : decode jdk_43_method_2_code 13 = .ok (.i2c, 1) := by decide +kernel
theorem d_jdk_43_method_2_code_14 : decode jdk_43_method_2_code 14 = .ok (.ireturn, 1) := by decide +kernel
def R_c_l1at : Room := { frames := 2, cells := 0, slots := 0, locals := 27 }
theorem pl_b29 : plainFor (⟨"java/lang/StringLatin1", "charAt", "([BI)C"⟩ : MethodName) = true := plainFor_of_name (by first | (simp [plainName, overriddenIn]; done) | decide +kernel)
set_option maxRecDepth 65536 in
set_option maxHeartbeats 40000000 in
theorem c_l1at {l : Launch} {Z : State} {a0 : Array Value} {n0 : Nat} {h0 : Heap} (C : Cx Z a0) (hO : Old Z n0 h0) {t : Addr} {kb : ClassId} {i n ch : Int32} {vs : List Value} {dv : Value} (V : Arv Z h0 t kb .byte n vs dv) (hi : ¬ i < 0 ∧ i < n) (hv : vs.getD i.toNatClampNeg dv = lo8 ch) (hch : Lat ch) :
    Con false l Z [] n0 (⟨"java/lang/StringLatin1", "charAt", "([BI)C"⟩ : MethodName) jdk_43_method_2_code 2 (some .char) R_c_l1at #[(.ref t), (.int i)] h0 [] (fun v h => v = some (.int ch) ∧ h0 = h) := by
  refine Con.intro (a0 := a0) pl_b29 hO (fun q => nomatch q) ?_
  intro p e s m below meth c G
  refine ok_as (mkF m 0 #[.val (.ref t), .val (.int i)] []) (by first | rfl | (simp [entryFrame, mkF, argsToLocals, Value.category]; done)) ?_
  refine ok_iloadN G d_jdk_43_method_2_code_0 rfl ?_
  refine ok_aloadN G d_jdk_43_method_2_code_1 rfl rfl ?_
  refine ok_arraylength G V d_jdk_43_method_2_code_2 ?_
  refine ok_static G (argsL := [(.int i), (.int n)]) (rest := []) (C.w133) (C.w134) (C.w8) (C.w135) (by decide) pd6 (c_sci C hO hi) rfl rfl rfl d_jdk_43_method_2_code_3 (Nat.le_of_ble_eq_true rfl) (Nat.le_of_ble_eq_true rfl) (Nat.le_of_ble_eq_true rfl) (Nat.le_of_ble_eq_true rfl) (fun _ q => nomatch q) ?_
  rintro _ _ _ ⟨rfl, rfl⟩
  refine ok_as (mkF m 6 #[.val (.ref t), .val (.int i)] []) rfl ?_
  refine ok_aloadN G d_jdk_43_method_2_code_6 rfl rfl ?_
  refine ok_iloadN G d_jdk_43_method_2_code_7 rfl ?_
  refine ok_baload G ch.toInt8.toInt32 V hi hv d_jdk_43_method_2_code_8 ?_
  refine ok_sipush G (255 : Int32) d_jdk_43_method_2_code_9 rfl ?_
  refine ok_iand G d_jdk_43_method_2_code_12 ?_
  refine ok_i2c G d_jdk_43_method_2_code_13 ?_
  refine ok_sayI ch hch.back ?_
  exact ok_retN G rfl (by simp) d_jdk_43_method_2_code_14 (congrArg Value.int hch.nar) ⟨rfl, rfl⟩ (Nat.le_of_ble_eq_true rfl) (Nat.le_of_ble_eq_true rfl)
theorem d_jdk_42_method_154_code_0 : decode jdk_42_method_154_code 0 = .ok (.getstatic 38, 3) := by decide +kernel
theorem d_jdk_42_method_154_code_3 : decode jdk_42_method_154_code 3 = .ok (.ifCond .eq 14, 3) := by decide +kernel
theorem d_jdk_42_method_154_code_6 : decode jdk_42_method_154_code 6 = .ok (.aload_n 0, 1) := by decide +kernel
theorem d_jdk_42_method_154_code_7 : decode jdk_42_method_154_code 7 = .ok (.getfield 15, 3) := by decide +kernel
theorem d_jdk_42_method_154_code_10 : decode jdk_42_method_154_code 10 = .ok (.ifCond .ne 7, 3) := by decide +kernel
theorem d_jdk_42_method_154_code_13 : decode jdk_42_method_154_code 13 = .ok (.iconst 1, 1) := by decide +kernel
theorem d_jdk_42_method_154_code_14 : decode jdk_42_method_154_code 14 = .ok (.goto 4, 3) := by decide +kernel
theorem d_jdk_42_method_154_code_18 : decode jdk_42_method_154_code 18 = .ok (.ireturn, 1) := by decide +kernel
def R_c_isL1 : Room := { frames := 0, cells := 0, slots := 0, locals := 0 }
theorem pl_b11 : plainFor (⟨"java/lang/String", "isLatin1", "()Z"⟩ : MethodName) = true := plainFor_of_name (by first | (simp [plainName, overriddenIn]; done) | decide +kernel)
set_option maxRecDepth 65536 in
set_option maxHeartbeats 40000000 in
theorem c_isL1 {l : Launch} {Z : State} {a0 : Array Value} {n0 : Nat} {h0 : Heap} (C : Cx Z a0) (hO : Old Z n0 h0) {x t : Addr} {cs : List Int32} (S : LStr Z h0 x t cs) :
    Con false l Z [] n0 (⟨"java/lang/String", "isLatin1", "()Z"⟩ : MethodName) jdk_42_method_154_code 1 (some .boolean) R_c_isL1 #[(.ref x)] h0 [] (fun v h => v = some (.int 1) ∧ h0 = h) := by
  refine Con.intro (a0 := a0) pl_b11 hO (fun q => nomatch q) ?_
  intro p e s m below meth c G
  refine ok_as (mkF m 0 #[.val (.ref x)] []) (by first | rfl | (simp [entryFrame, mkF, argsToLocals, Value.category]; done)) ?_
  obtain ⟨E, FC, FV, ⟨kb, V⟩, hla, hle⟩ := S
  obtain ⟨cz, hCS, hcz⟩ := C.compact
  refine ok_getS G (host := "") (Or.inl (C.w49)) Via.refl hCS d_jdk_42_method_154_code_0 ?_
  refine ok_ifeqN G d_jdk_42_method_154_code_3 hcz ?_
  refine ok_aloadN G d_jdk_42_method_154_code_6 rfl rfl ?_
  refine ok_getF G (host := "") (Or.inl (C.w29)) Via.refl FC d_jdk_42_method_154_code_7 ?_
  refine ok_ifneN G d_jdk_42_method_154_code_10 (by decide) ?_
  refine ok_iconst G (1 : Int32) d_jdk_42_method_154_code_13 rfl ?_
  refine ok_goto G 18 d_jdk_42_method_154_code_14 (by decide) (by decide) ?_
  exact ok_retN G rfl (by simp) d_jdk_42_method_154_code_18 rfl ⟨rfl, rfl⟩ (Nat.le_of_ble_eq_true rfl) (Nat.le_of_ble_eq_true rfl)
theorem d_jdk_42_method_56_code_0 : decode jdk_42_method_56_code 0 = .ok (.aload_n 0, 1) := by decide +kernel
theorem d_jdk_42_method_56_code_1 : decode jdk_42_method_56_code 1 = .ok (.invokevirtual 492, 3) := by decide +kernel
theorem pd7 : parseMethodDescriptor "()Z" = some ⟨[], some .boolean⟩ := by decide +kernel
theorem d_jdk_42_method_56_code_4 : decode jdk_42_method_56_code 4 = .ok (.ifCond .eq 12, 3) := by decide +kernel
theorem d_jdk_42_method_56_code_7 : decode jdk_42_method_56_code 7 = .ok (.aload_n 0, 1) := by decide +kernel
theorem d_jdk_42_method_56_code_8 : decode jdk_42_method_56_code 8 = .ok (.getfield 9, 3) := by decide +kernel
theorem d_jdk_42_method_56_code_11 : decode jdk_42_method_56_code 11 = .ok (.iload_n 1, 1) := by decide +kernel
theorem d_jdk_42_method_56_code_12 : decode jdk_42_method_56_code 12 = .ok (.invokestatic 495, 3) := by decide +kernel
theorem pd8 : parseMethodDescriptor "([BI)C" = some ⟨[(.array .byte), .int], some .char⟩ := by decide +kernel
theorem d_jdk_42_method_56_code_15 : decode jdk_42_method_56_code 15 = .ok (.ireturn, 1) := by decide +kernel
def R_c_charAt : Room := { frames := 3, cells := 0, slots := 0, locals := 40 }
theorem pl_b28 : plainFor (⟨"java/lang/String", "charAt", "(I)C"⟩ : MethodName) = true := plainFor_of_name (by first | (simp [plainName, overriddenIn]; done) | decide +kernel)
set_option maxRecDepth 65536 in
set_option maxHeartbeats 40000000 in
theorem c_charAt {l : Launch} {Z : State} {a0 : Array Value} {n0 : Nat} {h0 : Heap} (C : Cx Z a0) (hO : Old Z n0 h0) {x t : Addr} {i ch : Int32} {cs : List Int32} (S : LStr Z h0 x t cs) (k : Nat) (hk : k < cs.length) (hki : i = Int32.ofNat k) (hck : cs.getD k 0 = ch) :
    Con false l Z [] n0 (⟨"java/lang/String", "charAt", "(I)C"⟩ : MethodName) jdk_42_method_56_code 2 (some .char) R_c_charAt #[(.ref x), (.int i)] h0 [] (fun v h => v = some (.int ch) ∧ h0 = h) := by
  refine Con.intro (a0 := a0) pl_b28 hO (fun q => nomatch q) ?_
  intro p e s m below meth c G
  refine ok_as (mkF m 0 #[.val (.ref x), .val (.int i)] []) (by first | rfl | (simp [entryFrame, mkF, argsToLocals, Value.category]; done)) ?_
  obtain ⟨E, FC, FV, ⟨kb, V⟩, hla, hle⟩ := id S
  have hch : Lat ch := by rw [← hck]; exact hla _ (getD_mem hk)
  have hi : ¬ i < 0 ∧ i < Int32.ofNat cs.length := by subst hki; exact ⟨i32_nn (by omega), (i32_lt (by omega) (by omega)).mpr hk⟩
  have hv : (cs.map lo8).getD i.toNatClampNeg (.int 0) = lo8 ch := by subst hki hck; rw [i32_clamp (by omega)]; exact getD_map hk
  refine ok_aloadN G d_jdk_42_method_56_code_0 rfl rfl ?_
  refine ok_virtual G (a := x) (y0 := (⟨"java/lang/String", "isLatin1", "()Z"⟩ : MethodName)) (y := (⟨"java/lang/String", "isLatin1", "()Z"⟩ : MethodName)) (argsL := []) (rest := []) E (C.w55) (C.w56) (C.w58) (fun vm hZ => notFace_of_selects (args := #[]) (mvT (s := s.setVm vm) hZ (C.w58))) (C.w57) (C.w8) (C.w59) (by decide) pd7 (c_isL1 C hO S) rfl rfl rfl d_jdk_42_method_56_code_1 (Nat.le_of_ble_eq_true rfl) (Nat.le_of_ble_eq_true rfl) (Nat.le_of_ble_eq_true rfl) (Nat.le_of_ble_eq_true rfl) (fun _ q => nomatch q) ?_
  rintro _ _ _ ⟨rfl, rfl⟩
  refine ok_as (mkF m 4 #[.val (.ref x), .val (.int i)] [(.int (1 : Int32))]) rfl ?_
  refine ok_ifeqN G d_jdk_42_method_56_code_4 (by decide) ?_
  refine ok_aloadN G d_jdk_42_method_56_code_7 rfl rfl ?_
  refine ok_getF G (host := "") (Or.inl (C.w28)) Via.refl FV d_jdk_42_method_56_code_8 ?_
  refine ok_iloadN G d_jdk_42_method_56_code_11 rfl ?_
  refine ok_static G (argsL := [(.ref t), (.int i)]) (rest := []) (C.w130) (C.w131) (C.w62) (C.w132) (by decide) pd8 (c_l1at (ch := ch) C hO V hi hv hch) rfl rfl rfl d_jdk_42_method_56_code_12 (Nat.le_of_ble_eq_true rfl) (Nat.le_of_ble_eq_true rfl) (Nat.le_of_ble_eq_true rfl) (Nat.le_of_ble_eq_true rfl) (fun _ q => nomatch q) ?_
  rintro _ _ _ ⟨rfl, rfl⟩
  refine ok_as (mkF m 15 #[.val (.ref x), .val (.int i)] [(.int ch)]) rfl ?_
  exact ok_retN G rfl (by simp) d_jdk_42_method_56_code_15 (congrArg Value.int hch.nar) ⟨rfl, rfl⟩ (Nat.le_of_ble_eq_true rfl) (Nat.le_of_ble_eq_true rfl)
theorem d_jdk_29_method_69_code_0 : decode jdk_29_method_69_code 0 = .ok (.iload_n 0, 1) := by decide +kernel
theorem d_jdk_29_method_69_code_1 : decode jdk_29_method_69_code 1 = .ok (.iload_n 1, 1) := by decide +kernel
theorem d_jdk_29_method_69_code_2 : decode jdk_29_method_69_code 2 = .ok (.if_icmp .gt 7, 3) := by decide +kernel
theorem d_jdk_29_method_69_code_9 : decode jdk_29_method_69_code 9 = .ok (.iload_n 1, 1) := by decide +kernel
theorem d_jdk_29_method_69_code_10 : decode jdk_29_method_69_code 10 = .ok (.ireturn, 1) := by decide +kernel
theorem d_jdk_29_method_69_code_5 : decode jdk_29_method_69_code 5 = .ok (.iload_n 0, 1) := by decide +kernel
theorem d_jdk_29_method_69_code_6 : decode jdk_29_method_69_code 6 = .ok (.goto 4, 3) := by decide +kernel
def R_c_min : Room := { frames := 0, cells := 0, slots := 0, locals := 0 }
theorem pl_b14 : plainFor (⟨"java/lang/Math", "min", "(II)I"⟩ : MethodName) = true := Jvm.Free.JP.mathPlain rfl (by decide +kernel)
set_option maxRecDepth 65536 in
set_option maxHeartbeats 40000000 in
theorem c_min {l : Launch} {Z : State} {a0 : Array Value} {n0 : Nat} {h0 : Heap} (C : Cx Z a0) (hO : Old Z n0 h0) {a b r : Int32} (hm : (if b < a then b else a) = r) :
    Con false l Z [] n0 (⟨"java/lang/Math", "min", "(II)I"⟩ : MethodName) jdk_29_method_69_code 2 (some .int) R_c_min #[(.int a), (.int b)] h0 [] (fun v h => v = some (.int r) ∧ h0 = h) := by
  refine Con.intro (a0 := a0) pl_b14 hO (fun q => nomatch q) ?_
  intro p e s m below meth c G
  refine ok_as (mkF m 0 #[.val (.int a), .val (.int b)] []) (by first | rfl | (simp [entryFrame, mkF, argsToLocals, Value.category]; done)) ?_
  refine ok_iloadN G d_jdk_29_method_69_code_0 rfl ?_
  refine ok_iloadN G d_jdk_29_method_69_code_1 rfl ?_
  refine ok_icmpgt G 9 d_jdk_29_method_69_code_2 (by decide) (by decide) (fun cq1 => ?_) (fun cq1 => ?_)
  · skip
    refine ok_iloadN G d_jdk_29_method_69_code_9 rfl ?_
    exact ok_retI G rfl d_jdk_29_method_69_code_10 ⟨by rw [← hm, if_pos cq1], rfl⟩ (Nat.le_of_ble_eq_true rfl) (Nat.le_of_ble_eq_true rfl)
  · skip
    refine ok_iloadN G d_jdk_29_method_69_code_5 rfl ?_
    refine ok_goto G 10 d_jdk_29_method_69_code_6 (by decide) (by decide) ?_
    exact ok_retI G rfl d_jdk_29_method_69_code_10 ⟨by rw [← hm, if_neg cq1], rfl⟩ (Nat.le_of_ble_eq_true rfl) (Nat.le_of_ble_eq_true rfl)
theorem d_jdk_43_method_4_code_0 : decode jdk_43_method_4_code 0 = .ok (.iload_n 0, 1) := by decide +kernel
theorem d_jdk_43_method_4_code_1 : decode jdk_43_method_4_code 1 = .ok (.ifCond .lt 14, 3) := by decide +kernel
theorem d_jdk_43_method_4_code_4 : decode jdk_43_method_4_code 4 = .ok (.iload_n 0, 1) := by decide +kernel
theorem d_jdk_43_method_4_code_5 : decode jdk_43_method_4_code 5 = .ok (.sipush 255, 3) := by decide +kernel
theorem d_jdk_43_method_4_code_8 : decode jdk_43_method_4_code 8 = .ok (.if_icmp .gt 7, 3) := by decide +kernel
theorem d_jdk_43_method_4_code_11 : decode jdk_43_method_4_code 11 = .ok (.iconst 1, 1) := by decide +kernel
theorem d_jdk_43_method_4_code_12 : decode jdk_43_method_4_code 12 = .ok (.goto 4, 3) := by decide +kernel
theorem d_jdk_43_method_4_code_16 : decode jdk_43_method_4_code 16 = .ok (.ireturn, 1) := by decide +kernel
def R_c_canI : Room := { frames := 0, cells := 0, slots := 0, locals := 0 }
theorem pl_b13 : plainFor (⟨"java/lang/StringLatin1", "canEncode", "(I)Z"⟩ : MethodName) = true := plainFor_of_name (by first | (simp [plainName, overriddenIn]; done) | decide +kernel)
set_option maxRecDepth 65536 in
set_option maxHeartbeats 40000000 in
theorem c_canI {l : Launch} {Z : State} {a0 : Array Value} {n0 : Nat} {h0 : Heap} (C : Cx Z a0) (hO : Old Z n0 h0) {k : Int32} (hk : Lat k) :
    Con false l Z [] n0 (⟨"java/lang/StringLatin1", "canEncode", "(I)Z"⟩ : MethodName) jdk_43_method_4_code 1 (some .boolean) R_c_canI #[(.int k)] h0 [] (fun v h => v = some (.int 1) ∧ h0 = h) := by
  refine Con.intro (a0 := a0) pl_b13 hO (fun q => nomatch q) ?_
  intro p e s m below meth c G
  refine ok_as (mkF m 0 #[.val (.int k)] []) (by first | rfl | (simp [entryFrame, mkF, argsToLocals, Value.category]; done)) ?_
  refine ok_iloadN G d_jdk_43_method_4_code_0 rfl ?_
  refine ok_ifltN G d_jdk_43_method_4_code_1 hk.1 ?_
  refine ok_iloadN G d_jdk_43_method_4_code_4 rfl ?_
  refine ok_sipush G (255 : Int32) d_jdk_43_method_4_code_5 rfl ?_
  refine ok_icmpgtN G d_jdk_43_method_4_code_8 hk.2 ?_
  refine ok_iconst G (1 : Int32) d_jdk_43_method_4_code_11 rfl ?_
  refine ok_goto G 16 d_jdk_43_method_4_code_12 (by decide) (by decide) ?_
  exact ok_retN G rfl (by simp) d_jdk_43_method_4_code_16 rfl ⟨rfl, rfl⟩ (Nat.le_of_ble_eq_true rfl) (Nat.le_of_ble_eq_true rfl)
theorem d_jdk_43_method_27_code_0 : decode jdk_43_method_27_code 0 = .ok (.iload_n 1, 1) := by decide +kernel
theorem d_jdk_43_method_27_code_1 : decode jdk_43_method_27_code 1 = .ok (.invokestatic 88, 3) := by decide +kernel
theorem pd9 : parseMethodDescriptor "(I)Z" = some ⟨[.int], some .boolean⟩ := by decide +kernel
theorem d_jdk_43_method_27_code_4 : decode jdk_43_method_27_code 4 = .ok (.ifCond .ne 5, 3) := by decide +kernel
theorem d_jdk_43_method_27_code_9 : decode jdk_43_method_27_code 9 = .ok (.iload_n 2, 1) := by decide +kernel
theorem d_jdk_43_method_27_code_10 : decode jdk_43_method_27_code 10 = .ok (.aload_n 0, 1) := by decide +kernel
theorem d_jdk_43_method_27_code_11 : decode jdk_43_method_27_code 11 = .ok (.arraylength, 1) := by decide +kernel
theorem d_jdk_43_method_27_code_12 : decode jdk_43_method_27_code 12 = .ok (.iconst 1, 1) := by decide +kernel
theorem d_jdk_43_method_27_code_13 : decode jdk_43_method_27_code 13 = .ok (.isub, 1) := by decide +kernel
theorem d_jdk_43_method_27_code_14 : decode jdk_43_method_27_code 14 = .ok (.invokestatic 38, 3) := by decide +kernel
theorem pd10 : parseMethodDescriptor "(II)I" = some ⟨[.int, .int], some .int⟩ := by decide +kernel
theorem d_jdk_43_method_27_code_17 : decode jdk_43_method_27_code 17 = .ok (.istore_n 3, 1) := by decide +kernel
theorem d_jdk_43_method_27_code_18 : decode jdk_43_method_27_code 18 = .ok (.iload_n 3, 1) := by decide +kernel
theorem d_jdk_43_method_27_code_19 : decode jdk_43_method_27_code 19 = .ok (.ifCond .lt 19, 3) := by decide +kernel
theorem d_jdk_43_method_27_code_38 : decode jdk_43_method_27_code 38 = .ok (.iconst (-1), 1) := by decide +kernel
theorem d_jdk_43_method_27_code_39 : decode jdk_43_method_27_code 39 = .ok (.ireturn, 1) := by decide +kernel
theorem d_jdk_43_method_27_code_22 : decode jdk_43_method_27_code 22 = .ok (.aload_n 0, 1) := by decide +kernel
theorem d_jdk_43_method_27_code_23 : decode jdk_43_method_27_code 23 = .ok (.iload_n 3, 1) := by decide +kernel
theorem d_jdk_43_method_27_code_24 : decode jdk_43_method_27_code 24 = .ok (.baload, 1) := by decide +kernel
theorem d_jdk_43_method_27_code_25 : decode jdk_43_method_27_code 25 = .ok (.iload_n 1, 1) := by decide +kernel
theorem d_jdk_43_method_27_code_26 : decode jdk_43_method_27_code 26 = .ok (.i2b, 1) := by decide +kernel
theorem d_jdk_43_method_27_code_27 : decode jdk_43_method_27_code 27 = .ok (.if_icmp .ne 5, 3) := by decide +kernel
theorem d_jdk_43_method_27_code_32 : decode jdk_43_method_27_code 32 = .ok (.iinc 3 (-1), 3) := by decide +kernel
theorem d_jdk_43_method_27_code_35 : decode jdk_43_method_27_code 35 = .ok (.goto (-17), 3) := by decide +kernel
theorem d_jdk_43_method_27_code_30 : decode jdk_43_method_27_code 30 = .ok (.iload_n 3, 1) := by decide +kernel
theorem d_jdk_43_method_27_code_31 : decode jdk_43_method_27_code 31 = .ok (.ireturn, 1) := by decide +kernel
def R_c_l1lix : Room := { frames := 1, cells := 0, slots := 0, locals := 13 }
theorem pl_b12 : plainFor (⟨"java/lang/StringLatin1", "lastIndexOf", "([BII)I"⟩ : MethodName) = true := plainFor_of_name (by first | (simp [plainName, overriddenIn]; done) | decide +kernel)
set_option maxRecDepth 65536 in
set_option maxHeartbeats 40000000 in
theorem c_l1lix {l : Launch} {Z : State} {a0 : Array Value} {n0 : Nat} {h0 : Heap} (C : Cx Z a0) (hO : Old Z n0 h0) {t : Addr} {kb : ClassId} {cs : List Int32} {k : Int32} (V : Arv Z h0 t kb .byte (Int32.ofNat cs.length) (cs.map lo8) (.int 0)) (hc : ∀ c ∈ cs, Lat c) (hle : cs.length ≤ 16) (hk : Lat k) :
    Con false l Z [] n0 (⟨"java/lang/StringLatin1", "lastIndexOf", "([BII)I"⟩ : MethodName) jdk_43_method_27_code 4 (some .int) R_c_l1lix #[(.ref t), (.int k), (.int ((Int32.ofNat cs.length) - (1 : Int32)))] h0 [] (fun v h => ∃ pre post, cs = pre ++ post ∧ (∀ c ∈ post, ¬ c = k) ∧ (pre = [] ∨ ∃ p, pre = p ++ [k]) ∧ v = some (.int (Int32.ofNat pre.length - 1)) ∧ h0 = h) := by
  refine Con.intro (a0 := a0) pl_b12 hO (fun q => nomatch q) ?_
  intro p e s m below meth c G
  refine ok_as (mkF m 0 #[.val (.ref t), .val (.int k), .val (.int ((Int32.ofNat cs.length) - (1 : Int32))), .unset] []) (by first | rfl | (simp [entryFrame, mkF, argsToLocals, Value.category]; done)) ?_
  refine ok_iloadN G d_jdk_43_method_27_code_0 rfl ?_
  refine ok_static G (argsL := [(.int k)]) (rest := []) (C.w64) (C.w65) (C.w62) (C.w66) (by decide) pd9 (c_canI C hO hk) rfl rfl rfl d_jdk_43_method_27_code_1 (Nat.le_of_ble_eq_true rfl) (Nat.le_of_ble_eq_true rfl) (Nat.le_of_ble_eq_true rfl) (Nat.le_of_ble_eq_true rfl) (fun _ q => nomatch q) ?_
  rintro _ _ _ ⟨rfl, rfl⟩
  refine ok_as (mkF m 4 #[.val (.ref t), .val (.int k), .val (.int ((Int32.ofNat cs.length) - (1 : Int32))), .unset] [(.int (1 : Int32))]) rfl ?_
  refine ok_ifneY G 9 d_jdk_43_method_27_code_4 (by decide) (by decide) (by decide) ?_
  refine ok_iloadN G d_jdk_43_method_27_code_9 rfl ?_
  refine ok_aloadN G d_jdk_43_method_27_code_10 rfl rfl ?_
  refine ok_arraylength G V d_jdk_43_method_27_code_11 ?_
  refine ok_iconst G (1 : Int32) d_jdk_43_method_27_code_12 rfl ?_
  refine ok_isub G d_jdk_43_method_27_code_13 ?_
  refine ok_static G (argsL := [(.int ((Int32.ofNat cs.length) - (1 : Int32))), (.int ((Int32.ofNat cs.length) - (1 : Int32)))]) (rest := []) (C.w67) (C.w68) (C.w69) (C.w70) (by decide) pd10 (c_min (r := ((Int32.ofNat cs.length) - (1 : Int32))) C hO (if_neg Int32.lt_irrefl)) rfl rfl rfl d_jdk_43_method_27_code_14 (Nat.le_of_ble_eq_true rfl) (Nat.le_of_ble_eq_true rfl) (Nat.le_of_ble_eq_true rfl) (Nat.le_of_ble_eq_true rfl) (fun _ q => nomatch q) ?_
  rintro _ _ _ ⟨rfl, rfl⟩
  refine ok_as (mkF m 17 #[.val (.ref t), .val (.int k), .val (.int ((Int32.ofNat cs.length) - (1 : Int32))), .unset] [(.int ((Int32.ofNat cs.length) - (1 : Int32)))]) rfl ?_
  refine ok_istoreN G #[.val (.ref t), .val (.int k), .val (.int ((Int32.ofNat cs.length) - (1 : Int32))), .val (.int ((Int32.ofNat cs.length) - (1 : Int32)))] d_jdk_43_method_27_code_17 rfl ?_
  refine ok_loop (A := List Int32 × List Int32) (fun q => q.1.length) (fun q => q.1 ++ q.2 = cs ∧ ∀ c ∈ q.2, ¬ c = k) (fun _ => h0) (fun q => mkF m 18 #[.val (.ref t), .val (.int k), .val (.int ((Int32.ofNat cs.length) - (1 : Int32))), .val (.int (Int32.ofNat q.1.length - (1 : Int32)))] []) ?_ (cs, []) ⟨List.append_nil _, fun _ q => nomatch q⟩
  rintro ⟨pre, post⟩ ⟨hcs, hpost⟩ ih
  dsimp only at hcs hpost ih ⊢
  rcases own_snoc pre with rfl | ⟨pp, ch, rfl⟩
  · skip
    refine ok_iloadN G d_jdk_43_method_27_code_18 rfl ?_
    refine ok_ifltY G 38 d_jdk_43_method_27_code_19 (by decide) (by decide) (by decide) ?_
    refine ok_iconst G (-1 : Int32) d_jdk_43_method_27_code_38 rfl ?_
    exact ok_retI G rfl d_jdk_43_method_27_code_39 ⟨[], post, hcs.symm, hpost, Or.inl rfl, rfl, rfl⟩ (Nat.le_of_ble_eq_true rfl) (Nat.le_of_ble_eq_true rfl)
  · skip
    have hcs2 : pp ++ ch :: post = cs := by rw [← hcs]; simp
    have hlt : pp.length < cs.length := by rw [← hcs2]; simp
    have hlc : Lat ch := hc ch (by rw [← hcs2]; simp)
    have e9 : Int32.ofNat (pp ++ [ch]).length - (1 : Int32) = Int32.ofNat pp.length := by rw [List.length_append, List.length_singleton, ← i32_succ, Int32.add_sub_cancel]
    rw [e9]
    refine ok_iloadN G d_jdk_43_method_27_code_18 rfl ?_
    refine ok_ifltN G d_jdk_43_method_27_code_19 (i32_nn (by omega)) ?_
    refine ok_aloadN G d_jdk_43_method_27_code_22 rfl rfl ?_
    refine ok_iloadN G d_jdk_43_method_27_code_23 rfl ?_
    refine ok_baload G ch.toInt8.toInt32 V ⟨i32_nn (by omega), (i32_lt (by omega) (by omega)).mpr hlt⟩ (by rw [i32_clamp (by omega), ← hcs2]; exact getD_mid _ _ _ _ _) d_jdk_43_method_27_code_24 ?_
    refine ok_iloadN G d_jdk_43_method_27_code_25 rfl ?_
    refine ok_i2b G d_jdk_43_method_27_code_26 ?_
    refine ok_icmpne G 32 d_jdk_43_method_27_code_27 (by decide) (by decide) (fun cq5 => ?_) (fun cq5 => ?_)
    · skip
      refine ok_iinc G ((Int32.ofNat pp.length) + (-1 : Int32)) #[.val (.ref t), .val (.int k), .val (.int ((Int32.ofNat cs.length) - (1 : Int32))), .val (.int ((Int32.ofNat pp.length) + (-1 : Int32)))] d_jdk_43_method_27_code_32 rfl rfl rfl ?_
      refine ok_goto G 18 d_jdk_43_method_27_code_35 (by decide) (by decide) ?_
      rw [show Int32.ofNat pp.length + (-1 : Int32) = Int32.ofNat pp.length - (1 : Int32) from (Int32.sub_eq_add_neg ..).symm]
      exact ih (pp, ch :: post) (by simp) ⟨hcs2, allL (fun q => cq5 (by rw [q])) hpost⟩
    · skip
      refine ok_iloadN G d_jdk_43_method_27_code_30 rfl ?_
      exact ok_retI G rfl d_jdk_43_method_27_code_31 ⟨pp ++ [ch], post, hcs.symm, hpost, Or.inr ⟨pp, by rw [hlc.inj hk cq5]⟩, by rw [e9], rfl⟩ (Nat.le_of_ble_eq_true rfl) (Nat.le_of_ble_eq_true rfl)
theorem d_jdk_42_method_83_code_0 : decode jdk_42_method_83_code 0 = .ok (.aload_n 0, 1) := by decide +kernel
theorem d_jdk_42_method_83_code_1 : decode jdk_42_method_83_code 1 = .ok (.invokevirtual 492, 3) := by decide +kernel
theorem d_jdk_42_method_83_code_4 : decode jdk_42_method_83_code 4 = .ok (.ifCond .eq 15, 3) := by decide +kernel
theorem d_jdk_42_method_83_code_7 : decode jdk_42_method_83_code 7 = .ok (.aload_n 0, 1) := by decide +kernel
theorem d_jdk_42_method_83_code_8 : decode jdk_42_method_83_code 8 = .ok (.getfield 9, 3) := by decide +kernel
theorem d_jdk_42_method_83_code_11 : decode jdk_42_method_83_code 11 = .ok (.iload_n 1, 1) := by decide +kernel
theorem d_jdk_42_method_83_code_12 : decode jdk_42_method_83_code 12 = .ok (.iload_n 2, 1) := by decide +kernel
theorem d_jdk_42_method_83_code_13 : decode jdk_42_method_83_code 13 = .ok (.invokestatic 644, 3) := by decide +kernel
theorem pd11 : parseMethodDescriptor "([BII)I" = some ⟨[(.array .byte), .int, .int], some .int⟩ := by decide +kernel
theorem d_jdk_42_method_83_code_16 : decode jdk_42_method_83_code 16 = .ok (.goto 12, 3) := by decide +kernel
theorem d_jdk_42_method_83_code_28 : decode jdk_42_method_83_code 28 = .ok (.ireturn, 1) := by decide +kernel
def R_c_lix2 : Room := { frames := 2, cells := 0, slots := 0, locals := 28 }
theorem pl_b10 : plainFor (⟨"java/lang/String", "lastIndexOf", "(II)I"⟩ : MethodName) = true := plainFor_of_name (by first | (simp [plainName, overriddenIn]; done) | decide +kernel)
set_option maxRecDepth 65536 in
set_option maxHeartbeats 40000000 in
theorem c_lix2 {l : Launch} {Z : State} {a0 : Array Value} {n0 : Nat} {h0 : Heap} (C : Cx Z a0) (hO : Old Z n0 h0) {x t : Addr} {cs : List Int32} {k : Int32} (S : LStr Z h0 x t cs) (hk : Lat k) :
    Con false l Z [] n0 (⟨"java/lang/String", "lastIndexOf", "(II)I"⟩ : MethodName) jdk_42_method_83_code 3 (some .int) R_c_lix2 #[(.ref x), (.int k), (.int ((Int32.ofNat cs.length) - (1 : Int32)))] h0 [] (fun v h => ∃ pre post, cs = pre ++ post ∧ (∀ c ∈ post, ¬ c = k) ∧ (pre = [] ∨ ∃ p, pre = p ++ [k]) ∧ v = some (.int (Int32.ofNat pre.length - 1)) ∧ h0 = h) := by
  refine Con.intro (a0 := a0) pl_b10 hO (fun q => nomatch q) ?_
  intro p e s m below meth c G
  refine ok_as (mkF m 0 #[.val (.ref x), .val (.int k), .val (.int ((Int32.ofNat cs.length) - (1 : Int32)))] []) (by first | rfl | (simp [entryFrame, mkF, argsToLocals, Value.category]; done)) ?_
  obtain ⟨E, FC, FV, ⟨kb, V⟩, hla, hle⟩ := id S
  refine ok_aloadN G d_jdk_42_method_83_code_0 rfl rfl ?_
  refine ok_virtual G (a := x) (y0 := (⟨"java/lang/String", "isLatin1", "()Z"⟩ : MethodName)) (y := (⟨"java/lang/String", "isLatin1", "()Z"⟩ : MethodName)) (argsL := []) (rest := []) E (C.w55) (C.w56) (C.w58) (fun vm hZ => notFace_of_selects (args := #[]) (mvT (s := s.setVm vm) hZ (C.w58))) (C.w57) (C.w8) (C.w59) (by decide) pd7 (c_isL1 C hO S) rfl rfl rfl d_jdk_42_method_83_code_1 (Nat.le_of_ble_eq_true rfl) (Nat.le_of_ble_eq_true rfl) (Nat.le_of_ble_eq_true rfl) (Nat.le_of_ble_eq_true rfl) (fun _ q => nomatch q) ?_
  rintro _ _ _ ⟨rfl, rfl⟩
  refine ok_as (mkF m 4 #[.val (.ref x), .val (.int k), .val (.int ((Int32.ofNat cs.length) - (1 : Int32)))] [(.int (1 : Int32))]) rfl ?_
  refine ok_ifeqN G d_jdk_42_method_83_code_4 (by decide) ?_
  refine ok_aloadN G d_jdk_42_method_83_code_7 rfl rfl ?_
  refine ok_getF G (host := "") (Or.inl (C.w28)) Via.refl FV d_jdk_42_method_83_code_8 ?_
  refine ok_iloadN G d_jdk_42_method_83_code_11 rfl ?_
  refine ok_iloadN G d_jdk_42_method_83_code_12 rfl ?_
  refine ok_static G (argsL := [(.ref t), (.int k), (.int ((Int32.ofNat cs.length) - (1 : Int32)))]) (rest := []) (C.w60) (C.w61) (C.w62) (C.w63) (by decide) pd11 (c_l1lix C hO V hla hle hk) rfl rfl rfl d_jdk_42_method_83_code_13 (Nat.le_of_ble_eq_true rfl) (Nat.le_of_ble_eq_true rfl) (Nat.le_of_ble_eq_true rfl) (Nat.le_of_ble_eq_true rfl) (fun _ q => nomatch q) ?_
  rintro _ _ _ ⟨pre, post, hcs, hpost, hpre, rfl, rfl⟩
  refine ok_as (mkF m 16 #[.val (.ref x), .val (.int k), .val (.int ((Int32.ofNat cs.length) - (1 : Int32)))] [(.int (Int32.ofNat pre.length - 1))]) rfl ?_
  refine ok_goto G 28 d_jdk_42_method_83_code_16 (by decide) (by decide) ?_
  exact ok_retI G rfl d_jdk_42_method_83_code_28 ⟨pre, post, hcs, hpost, hpre, rfl, rfl⟩ (Nat.le_of_ble_eq_true rfl) (Nat.le_of_ble_eq_true rfl)
theorem d_jdk_42_method_82_code_0 : decode jdk_42_method_82_code 0 = .ok (.aload_n 0, 1) := by decide +kernel
theorem d_jdk_42_method_82_code_1 : decode jdk_42_method_82_code 1 = .ok (.iload_n 1, 1) := by decide +kernel
theorem d_jdk_42_method_82_code_2 : decode jdk_42_method_82_code 2 = .ok (.aload_n 0, 1) := by decide +kernel
theorem d_jdk_42_method_82_code_3 : decode jdk_42_method_82_code 3 = .ok (.invokevirtual 505, 3) := by decide +kernel
theorem pd12 : parseMethodDescriptor "()I" = some ⟨[], some .int⟩ := by decide +kernel
theorem d_jdk_42_method_82_code_6 : decode jdk_42_method_82_code 6 = .ok (.iconst 1, 1) := by decide +kernel
theorem d_jdk_42_method_82_code_7 : decode jdk_42_method_82_code 7 = .ok (.isub, 1) := by decide +kernel
theorem d_jdk_42_method_82_code_8 : decode jdk_42_method_82_code 8 = .ok (.invokevirtual 641, 3) := by decide +kernel
theorem d_jdk_42_method_82_code_11 : decode jdk_42_method_82_code 11 = .ok (.ireturn, 1) := by decide +kernel
def R_c_lix1 : Room := { frames := 3, cells := 0, slots := 0, locals := 42 }
theorem pl_b7 : plainFor (⟨"java/lang/String", "lastIndexOf", "(I)I"⟩ : MethodName) = true := plainFor_of_name (by first | (simp [plainName, overriddenIn]; done) | decide +kernel)
set_option maxRecDepth 65536 in
set_option maxHeartbeats 40000000 in
theorem c_lix1 {l : Launch} {Z : State} {a0 : Array Value} {n0 : Nat} {h0 : Heap} (C : Cx Z a0) (hO : Old Z n0 h0) {x t : Addr} {cs : List Int32} {k : Int32} (S : LStr Z h0 x t cs) (hk : Lat k) :
    Con false l Z [] n0 (⟨"java/lang/String", "lastIndexOf", "(I)I"⟩ : MethodName) jdk_42_method_82_code 2 (some .int) R_c_lix1 #[(.ref x), (.int k)] h0 [] (fun v h => ∃ pre post, cs = pre ++ post ∧ (∀ c ∈ post, ¬ c = k) ∧ (pre = [] ∨ ∃ p, pre = p ++ [k]) ∧ v = some (.int (Int32.ofNat pre.length - 1)) ∧ h0 = h) := by
  refine Con.intro (a0 := a0) pl_b7 hO (fun q => nomatch q) ?_
  intro p e s m below meth c G
  refine ok_as (mkF m 0 #[.val (.ref x), .val (.int k)] []) (by first | rfl | (simp [entryFrame, mkF, argsToLocals, Value.category]; done)) ?_
  refine ok_aloadN G d_jdk_42_method_82_code_0 rfl rfl ?_
  refine ok_iloadN G d_jdk_42_method_82_code_1 rfl ?_
  refine ok_aloadN G d_jdk_42_method_82_code_2 rfl rfl ?_
  refine ok_virtual G (a := x) (y0 := (⟨"java/lang/String", "length", "()I"⟩ : MethodName)) (y := (⟨"java/lang/String", "length", "()I"⟩ : MethodName)) (argsL := []) (rest := [(.int k), (.ref x)]) S.exa (C.w39) (C.w40) (C.w42) (fun vm hZ => notFace_of_selects (args := #[]) (mvT (s := s.setVm vm) hZ (C.w42))) (C.w41) (C.w8) (C.w43) (by decide) pd12 (c_length C hO S) rfl rfl rfl d_jdk_42_method_82_code_3 (Nat.le_of_ble_eq_true rfl) (Nat.le_of_ble_eq_true rfl) (Nat.le_of_ble_eq_true rfl) (Nat.le_of_ble_eq_true rfl) (fun _ q => nomatch q) ?_
  rintro _ _ _ ⟨rfl, rfl⟩
  refine ok_as (mkF m 6 #[.val (.ref x), .val (.int k)] [(.int (Int32.ofNat cs.length)), (.int k), (.ref x)]) rfl ?_
  refine ok_iconst G (1 : Int32) d_jdk_42_method_82_code_6 rfl ?_
  refine ok_isub G d_jdk_42_method_82_code_7 ?_
  refine ok_virtual G (a := x) (y0 := (⟨"java/lang/String", "lastIndexOf", "(II)I"⟩ : MethodName)) (y := (⟨"java/lang/String", "lastIndexOf", "(II)I"⟩ : MethodName)) (argsL := [(.int k), (.int ((Int32.ofNat cs.length) - (1 : Int32)))]) (rest := []) S.exa (C.w50) (C.w51) (C.w53) (fun vm hZ => notFace_of_selects (args := #[]) (mvT (s := s.setVm vm) hZ (C.w53))) (C.w52) (C.w8) (C.w54) (by decide) pd10 (c_lix2 C hO S hk) rfl rfl rfl d_jdk_42_method_82_code_8 (Nat.le_of_ble_eq_true rfl) (Nat.le_of_ble_eq_true rfl) (Nat.le_of_ble_eq_true rfl) (Nat.le_of_ble_eq_true rfl) (fun _ q => nomatch q) ?_
  rintro _ _ _ ⟨pre, post, hcs, hpost, hpre, rfl, rfl⟩
  refine ok_as (mkF m 11 #[.val (.ref x), .val (.int k)] [(.int (Int32.ofNat pre.length - 1))]) rfl ?_
  exact ok_retI G rfl d_jdk_42_method_82_code_11 ⟨pre, post, hcs, hpost, hpre, rfl, rfl⟩ (Nat.le_of_ble_eq_true rfl) (Nat.le_of_ble_eq_true rfl)
theorem d_jdk_42_method_151_code_0 : decode jdk_42_method_151_code 0 = .ok (.aload_n 0, 1) := by decide +kernel
theorem d_jdk_42_method_151_code_1 : decode jdk_42_method_151_code 1 = .ok (.invokespecial 1, 3) := by decide +kernel
theorem d_jdk_42_method_151_code_4 : decode jdk_42_method_151_code 4 = .ok (.aload_n 0, 1) := by decide +kernel
theorem d_jdk_42_method_151_code_5 : decode jdk_42_method_151_code 5 = .ok (.aload_n 1, 1) := by decide +kernel
theorem d_jdk_42_method_151_code_6 : decode jdk_42_method_151_code 6 = .ok (.putfield 9, 3) := by decide +kernel
theorem d_jdk_42_method_151_code_9 : decode jdk_42_method_151_code 9 = .ok (.aload_n 0, 1) := by decide +kernel
theorem d_jdk_42_method_151_code_10 : decode jdk_42_method_151_code 10 = .ok (.iload_n 2, 1) := by decide +kernel
theorem d_jdk_42_method_151_code_11 : decode jdk_42_method_151_code 11 = .ok (.putfield 15, 3) := by decide +kernel
theorem d_jdk_42_method_151_code_14 : decode jdk_42_method_151_code 14 = .ok (.return_, 1) := by decide +kernel
def R_c_initBB : Room := { frames := 1, cells := 0, slots := 0, locals := 12 }
theorem pl_b27 : plainFor (⟨"java/lang/String", "<init>", "([BB)V"⟩ : MethodName) = true := plainFor_of_name (by first | (simp [plainName, overriddenIn]; done) | decide +kernel)
set_option maxRecDepth 65536 in
set_option maxHeartbeats 40000000 in
theorem c_initBB {l : Launch} {Z : State} {a0 : Array Value} {n0 : Nat} {h0 : Heap} (C : Cx Z a0) (hO : Old Z n0 h0) {x t : Addr} (E : Exa Z h0 x "java/lang/String") (FV : Fld Z h0 x "java/lang/String" "value" "[B" .null) (FC : Fld Z h0 x "java/lang/String" "coder" "B" (.int (0 : Int32))) (g_x : n0 ≤ x) :
    Con false l Z [] n0 (⟨"java/lang/String", "<init>", "([BB)V"⟩ : MethodName) jdk_42_method_151_code 3 none R_c_initBB #[(.ref x), (.ref t), (.int (0 : Int32))] h0 [x] (fun v h => v = none ∧ Fld Z h x "java/lang/String" "coder" "B" (.int 0) ∧ Fld Z h x "java/lang/String" "value" "[B" (.ref t)) := by
  refine Con.intro (a0 := a0) pl_b27 hO (fun q => nomatch q) ?_
  intro p e s m below meth c G
  refine ok_as (mkF m 0 #[.val (.ref x), .val (.ref t), .val (.int (0 : Int32))] []) (by first | rfl | (simp [entryFrame, mkF, argsToLocals, Value.category]; done)) ?_
  refine ok_aloadN G d_jdk_42_method_151_code_0 rfl rfl ?_
  refine ok_initO G (C.w19) (C.w20) (C.w21) rfl d_jdk_42_method_151_code_1 (Nat.le_of_ble_eq_true rfl) (Nat.le_of_ble_eq_true rfl) ?_
  refine ok_aloadN G d_jdk_42_method_151_code_4 rfl rfl ?_
  refine ok_aloadN G d_jdk_42_method_151_code_5 rfl rfl ?_
  refine ok_putF G (host := "") (Or.inl (C.w28)) Via.refl FV E (Or.inr ⟨(C.w24), rfl, rfl⟩) (C.w7) (ty := (.array .byte)) (by decide) rfl rfl d_jdk_42_method_151_code_6 g_x (Or.inl (List.mem_of_getElem? (i := 0) rfl)) SafeFor.narrow ?_
  intro hp1 K2 Wn Fn
  replace FC := FC.other Wn (Or.inr (slot_ne (Or.inr (C.w25)) (Or.inr (C.w24)) (by decide) (t := .byte) (t' := (.array .byte)) (by decide) (by decide)))
  replace E := E.keep K2
  replace FV : Fld Z hp1 x "java/lang/String" "value" "[B" (.ref t) := Fn
  clear Wn Fn
  refine ok_aloadN G d_jdk_42_method_151_code_9 rfl rfl ?_
  refine ok_iloadN G d_jdk_42_method_151_code_10 rfl ?_
  refine ok_putF G (host := "") (Or.inl (C.w29)) Via.refl FC E (Or.inr ⟨(C.w25), rfl, rfl⟩) (C.w7) (ty := .byte) (by decide) rfl rfl d_jdk_42_method_151_code_11 g_x (Or.inl (List.mem_of_getElem? (i := 0) rfl)) SafeFor.narrow ?_
  intro hp3 K4 Wn Fn
  replace FV := FV.other Wn (Or.inr (slot_ne (Or.inr (C.w24)) (Or.inr (C.w25)) (by decide) (t := (.array .byte)) (t' := .byte) (by decide) (by decide)))
  replace E := E.keep K4
  replace FC : Fld Z hp3 x "java/lang/String" "coder" "B" (.int (0 : Int32)) := Fn
  clear Wn Fn
  exact ok_return G rfl d_jdk_42_method_151_code_14 ⟨rfl, FC, FV⟩ (Nat.le_of_ble_eq_true rfl) (Nat.le_of_ble_eq_true rfl)
theorem d_jdk_41_method_12_code_0 : decode jdk_41_method_12_code 0 = .ok (.iload_n 0, 1) := by decide +kernel
theorem d_jdk_41_method_12_code_1 : decode jdk_41_method_12_code 1 = .ok (.ifCond .lt 13, 3) := by decide +kernel
theorem d_jdk_41_method_12_code_4 : decode jdk_41_method_12_code 4 = .ok (.iload_n 0, 1) := by decide +kernel
theorem d_jdk_41_method_12_code_5 : decode jdk_41_method_12_code 5 = .ok (.iload_n 1, 1) := by decide +kernel
theorem d_jdk_41_method_12_code_6 : decode jdk_41_method_12_code 6 = .ok (.if_icmp .gt 8, 3) := by decide +kernel
theorem d_jdk_41_method_12_code_9 : decode jdk_41_method_12_code 9 = .ok (.iload_n 1, 1) := by decide +kernel
theorem d_jdk_41_method_12_code_10 : decode jdk_41_method_12_code 10 = .ok (.iload_n 2, 1) := by decide +kernel
theorem d_jdk_41_method_12_code_11 : decode jdk_41_method_12_code 11 = .ok (.if_icmp .le 11, 3) := by decide +kernel
theorem d_jdk_41_method_12_code_22 : decode jdk_41_method_12_code 22 = .ok (.iload_n 0, 1) := by decide +kernel
theorem d_jdk_41_method_12_code_23 : decode jdk_41_method_12_code 23 = .ok (.ireturn, 1) := by decide +kernel
def R_c_cft_n : Room := { frames := 0, cells := 0, slots := 0, locals := 0 }
theorem pl_b18 : plainFor (⟨"jdk/internal/util/Preconditions", "checkFromToIndex", "(IIILjava/util/function/BiFunction;)I"⟩ : MethodName) = true := plainFor_of_name (by first | (simp [plainName, overriddenIn]; done) | decide +kernel)
set_option maxRecDepth 65536 in
set_option maxHeartbeats 40000000 in
theorem c_cft_n {l : Launch} {Z : State} {a0 : Array Value} {n0 : Nat} {h0 : Heap} (C : Cx Z a0) (hO : Old Z n0 h0) {bx ex n : Int32} (hi : ¬ bx < 0 ∧ ¬ ex < bx ∧ ¬ n < ex) :
    Con false l Z [] n0 (⟨"jdk/internal/util/Preconditions", "checkFromToIndex", "(IIILjava/util/function/BiFunction;)I"⟩ : MethodName) jdk_41_method_12_code 4 (some .int) R_c_cft_n #[(.int bx), (.int ex), (.int n), .null] h0 [] (fun v h => v = some (.int bx) ∧ h0 = h) := by
  refine Con.intro (a0 := a0) pl_b18 hO (fun q => nomatch q) ?_
  intro p e s m below meth c G
  refine ok_as (mkF m 0 #[.val (.int bx), .val (.int ex), .val (.int n), .val .null] []) (by first | rfl | (simp [entryFrame, mkF, argsToLocals, Value.category]; done)) ?_
  refine ok_iloadN G d_jdk_41_method_12_code_0 rfl ?_
  refine ok_ifltN G d_jdk_41_method_12_code_1 hi.1 ?_
  refine ok_iloadN G d_jdk_41_method_12_code_4 rfl ?_
  refine ok_iloadN G d_jdk_41_method_12_code_5 rfl ?_
  refine ok_icmpgtN G d_jdk_41_method_12_code_6 hi.2.1 ?_
  refine ok_iloadN G d_jdk_41_method_12_code_9 rfl ?_
  refine ok_iloadN G d_jdk_41_method_12_code_10 rfl ?_
  refine ok_icmpleY G 22 d_jdk_41_method_12_code_11 (by decide) (by decide) hi.2.2 ?_
  refine ok_iloadN G d_jdk_41_method_12_code_22 rfl ?_
  exact ok_retI G rfl d_jdk_41_method_12_code_23 ⟨rfl, rfl⟩ (Nat.le_of_ble_eq_true rfl) (Nat.le_of_ble_eq_true rfl)
def R_c_cft_r : Room := { frames := 0, cells := 0, slots := 0, locals := 0 }
set_option maxRecDepth 65536 in
set_option maxHeartbeats 40000000 in
theorem c_cft_r {l : Launch} {Z : State} {a0 : Array Value} {n0 : Nat} {h0 : Heap} (C : Cx Z a0) (hO : Old Z n0 h0) {bx ex n : Int32} {fa : Addr} (hi : ¬ bx < 0 ∧ ¬ ex < bx ∧ ¬ n < ex) :
    Con false l Z [] n0 (⟨"jdk/internal/util/Preconditions", "checkFromToIndex", "(IIILjava/util/function/BiFunction;)I"⟩ : MethodName) jdk_41_method_12_code 4 (some .int) R_c_cft_r #[(.int bx), (.int ex), (.int n), (.ref fa)] h0 [] (fun v h => v = some (.int bx) ∧ h0 = h) := by
  refine Con.intro (a0 := a0) pl_b18 hO (fun q => nomatch q) ?_
  intro p e s m below meth c G
  refine ok_as (mkF m 0 #[.val (.int bx), .val (.int ex), .val (.int n), .val (.ref fa)] []) (by first | rfl | (simp [entryFrame, mkF, argsToLocals, Value.category]; done)) ?_
  refine ok_iloadN G d_jdk_41_method_12_code_0 rfl ?_
  refine ok_ifltN G d_jdk_41_method_12_code_1 hi.1 ?_
  refine ok_iloadN G d_jdk_41_method_12_code_4 rfl ?_
  refine ok_iloadN G d_jdk_41_method_12_code_5 rfl ?_
  refine ok_icmpgtN G d_jdk_41_method_12_code_6 hi.2.1 ?_
  refine ok_iloadN G d_jdk_41_method_12_code_9 rfl ?_
  refine ok_iloadN G d_jdk_41_method_12_code_10 rfl ?_
  refine ok_icmpleY G 22 d_jdk_41_method_12_code_11 (by decide) (by decide) hi.2.2 ?_
  refine ok_iloadN G d_jdk_41_method_12_code_22 rfl ?_
  exact ok_retI G rfl d_jdk_41_method_12_code_23 ⟨rfl, rfl⟩ (Nat.le_of_ble_eq_true rfl) (Nat.le_of_ble_eq_true rfl)
theorem d_jdk_42_method_158_code_0 : decode jdk_42_method_158_code 0 = .ok (.iload_n 0, 1) := by decide +kernel
theorem d_jdk_42_method_158_code_1 : decode jdk_42_method_158_code 1 = .ok (.iload_n 1, 1) := by decide +kernel
theorem d_jdk_42_method_158_code_2 : decode jdk_42_method_158_code 2 = .ok (.iload_n 2, 1) := by decide +kernel
theorem d_jdk_42_method_158_code_3 : decode jdk_42_method_158_code 3 = .ok (.getstatic 1053, 3) := by decide +kernel
theorem d_jdk_42_method_158_code_6 : decode jdk_42_method_158_code 6 = .ok (.invokestatic 1062, 3) := by decide +kernel
theorem pd13 : parseMethodDescriptor "(IIILjava/util/function/BiFunction;)I" = some ⟨[.int, .int, .int, (.object "java/util/function/BiFunction")], some .int⟩ := by decide +kernel
theorem d_jdk_42_method_158_code_9 : decode jdk_42_method_158_code 9 = .ok (.pop, 1) := by decide +kernel
theorem d_jdk_42_method_158_code_10 : decode jdk_42_method_158_code 10 = .ok (.return_, 1) := by decide +kernel
def R_c_cbe : Room := { frames := 1, cells := 0, slots := 0, locals := 15 }
theorem pl_b17 : plainFor (⟨"java/lang/String", "checkBoundsBeginEnd", "(III)V"⟩ : MethodName) = true := plainFor_of_name (by first | (simp [plainName, overriddenIn]; done) | decide +kernel)
set_option maxRecDepth 65536 in
set_option maxHeartbeats 40000000 in
theorem c_cbe {l : Launch} {Z : State} {a0 : Array Value} {n0 : Nat} {h0 : Heap} (C : Cx Z a0) (hO : Old Z n0 h0) {bx ex n : Int32} (hi : ¬ bx < 0 ∧ ¬ ex < bx ∧ ¬ n < ex) :
    Con false l Z [] n0 (⟨"java/lang/String", "checkBoundsBeginEnd", "(III)V"⟩ : MethodName) jdk_42_method_158_code 3 none R_c_cbe #[(.int bx), (.int ex), (.int n)] h0 [] (fun v h => v = none ∧ h0 = h) := by
  refine Con.intro (a0 := a0) pl_b17 hO (fun q => nomatch q) ?_
  intro p e s m below meth c G
  refine ok_as (mkF m 0 #[.val (.int bx), .val (.int ex), .val (.int n)] []) (by first | rfl | (simp [entryFrame, mkF, argsToLocals, Value.category]; done)) ?_
  refine ok_iloadN G d_jdk_42_method_158_code_0 rfl ?_
  refine ok_iloadN G d_jdk_42_method_158_code_1 rfl ?_
  refine ok_iloadN G d_jdk_42_method_158_code_2 rfl ?_
  obtain ⟨fm, hfm, hr⟩ := C.sio
  rcases hr with rfl | ⟨fa, rfl⟩
  · skip
    refine ok_getS G (host := "") (Or.inl (C.w84)) Via.refl hfm d_jdk_42_method_158_code_3 ?_
    refine ok_static G (argsL := [(.int bx), (.int ex), (.int n), .null]) (rest := []) (C.w86) (C.w87) (C.w85) (C.w88) (by decide) pd13 (c_cft_n C hO hi) rfl rfl rfl d_jdk_42_method_158_code_6 (Nat.le_of_ble_eq_true rfl) (Nat.le_of_ble_eq_true rfl) (Nat.le_of_ble_eq_true rfl) (Nat.le_of_ble_eq_true rfl) (fun _ q => nomatch q) ?_
    rintro _ _ _ ⟨rfl, rfl⟩
    refine ok_as (mkF m 9 #[.val (.int bx), .val (.int ex), .val (.int n)] [(.int bx)]) rfl ?_
    refine ok_pop G d_jdk_42_method_158_code_9 rfl ?_
    exact ok_return G rfl d_jdk_42_method_158_code_10 ⟨rfl, rfl⟩ (Nat.le_of_ble_eq_true rfl) (Nat.le_of_ble_eq_true rfl)
  · skip
    refine ok_getS G (host := "") (Or.inl (C.w84)) Via.refl hfm d_jdk_42_method_158_code_3 ?_
    refine ok_static G (argsL := [(.int bx), (.int ex), (.int n), (.ref fa)]) (rest := []) (C.w86) (C.w87) (C.w85) (C.w88) (by decide) pd13 (c_cft_r C hO hi) rfl rfl rfl d_jdk_42_method_158_code_6 (Nat.le_of_ble_eq_true rfl) (Nat.le_of_ble_eq_true rfl) (Nat.le_of_ble_eq_true rfl) (Nat.le_of_ble_eq_true rfl) (fun _ q => nomatch q) ?_
    rintro _ _ _ ⟨rfl, rfl⟩
    refine ok_as (mkF m 9 #[.val (.int bx), .val (.int ex), .val (.int n)] [(.int bx)]) rfl ?_
    refine ok_pop G d_jdk_42_method_158_code_9 rfl ?_
    exact ok_return G rfl d_jdk_42_method_158_code_10 ⟨rfl, rfl⟩ (Nat.le_of_ble_eq_true rfl) (Nat.le_of_ble_eq_true rfl)
theorem d_jdk_65_method_131_code_0 : decode jdk_65_method_131_code 0 = .ok (.iload_n 1, 1) := by decide +kernel
theorem d_jdk_65_method_131_code_1 : decode jdk_65_method_131_code 1 = .ok (.iload_n 0, 1) := by decide +kernel
theorem d_jdk_65_method_131_code_2 : decode jdk_65_method_131_code 2 = .ok (.if_icmp .ge 35, 3) := by decide +kernel
theorem d_jdk_65_method_131_code_37 : decode jdk_65_method_131_code 37 = .ok (.return_, 1) := by decide +kernel
def R_c_ckl : Room := { frames := 0, cells := 0, slots := 0, locals := 0 }
theorem pl_b26 : plainFor (⟨"java/util/Arrays", "checkLength", "(II)V"⟩ : MethodName) = true := plainFor_of_name (by first | (simp [plainName, overriddenIn]; done) | decide +kernel)
set_option maxRecDepth 65536 in
set_option maxHeartbeats 40000000 in
theorem c_ckl {l : Launch} {Z : State} {a0 : Array Value} {n0 : Nat} {h0 : Heap} (C : Cx Z a0) (hO : Old Z n0 h0) {bx ex : Int32} (hbe : ¬ ex < bx) :
    Con false l Z [] n0 (⟨"java/util/Arrays", "checkLength", "(II)V"⟩ : MethodName) jdk_65_method_131_code 2 none R_c_ckl #[(.int bx), (.int ex)] h0 [] (fun v h => v = none ∧ h0 = h) := by
  refine Con.intro (a0 := a0) pl_b26 hO (fun q => nomatch q) ?_
  intro p e s m below meth c G
  refine ok_as (mkF m 0 #[.val (.int bx), .val (.int ex)] []) (by first | rfl | (simp [entryFrame, mkF, argsToLocals, Value.category]; done)) ?_
  refine ok_iloadN G d_jdk_65_method_131_code_0 rfl ?_
  refine ok_iloadN G d_jdk_65_method_131_code_1 rfl ?_
  refine ok_icmpgeY G 37 d_jdk_65_method_131_code_2 (by decide) (by decide) hbe ?_
  exact ok_return G rfl d_jdk_65_method_131_code_37 ⟨rfl, rfl⟩ (Nat.le_of_ble_eq_true rfl) (Nat.le_of_ble_eq_true rfl)
theorem d_jdk_65_method_133_code_0 : decode jdk_65_method_133_code 0 = .ok (.iload_n 1, 1) := by decide +kernel
theorem d_jdk_65_method_133_code_1 : decode jdk_65_method_133_code 1 = .ok (.iload_n 2, 1) := by decide +kernel
theorem d_jdk_65_method_133_code_2 : decode jdk_65_method_133_code 2 = .ok (.invokestatic 343, 3) := by decide +kernel
theorem d_jdk_65_method_133_code_5 : decode jdk_65_method_133_code 5 = .ok (.iload_n 2, 1) := by decide +kernel
theorem d_jdk_65_method_133_code_6 : decode jdk_65_method_133_code 6 = .ok (.iload_n 1, 1) := by decide +kernel
theorem d_jdk_65_method_133_code_7 : decode jdk_65_method_133_code 7 = .ok (.isub, 1) := by decide +kernel
theorem d_jdk_65_method_133_code_8 : decode jdk_65_method_133_code 8 = .ok (.istore_n 3, 1) := by decide +kernel
theorem d_jdk_65_method_133_code_9 : decode jdk_65_method_133_code 9 = .ok (.iload_n 3, 1) := by decide +kernel
theorem d_jdk_65_method_133_code_10 : decode jdk_65_method_133_code 10 = .ok (.newarray .byte, 2) := by decide +kernel
theorem d_jdk_65_method_133_code_12 : decode jdk_65_method_133_code 12 = .ok (.astore 4, 2) := by decide +kernel
theorem d_jdk_65_method_133_code_14 : decode jdk_65_method_133_code 14 = .ok (.aload_n 0, 1) := by decide +kernel
theorem d_jdk_65_method_133_code_15 : decode jdk_65_method_133_code 15 = .ok (.iload_n 1, 1) := by decide +kernel
theorem d_jdk_65_method_133_code_16 : decode jdk_65_method_133_code 16 = .ok (.aload 4, 2) := by decide +kernel
theorem d_jdk_65_method_133_code_18 : decode jdk_65_method_133_code 18 = .ok (.iconst 0, 1) := by decide +kernel
theorem d_jdk_65_method_133_code_19 : decode jdk_65_method_133_code 19 = .ok (.aload_n 0, 1) := by decide +kernel
theorem d_jdk_65_method_133_code_20 : decode jdk_65_method_133_code 20 = .ok (.arraylength, 1) := by decide +kernel
theorem d_jdk_65_method_133_code_21 : decode jdk_65_method_133_code 21 = .ok (.iload_n 1, 1) := by decide +kernel
theorem d_jdk_65_method_133_code_22 : decode jdk_65_method_133_code 22 = .ok (.isub, 1) := by decide +kernel
theorem d_jdk_65_method_133_code_23 : decode jdk_65_method_133_code 23 = .ok (.iload_n 3, 1) := by decide +kernel
theorem d_jdk_65_method_133_code_24 : decode jdk_65_method_133_code 24 = .ok (.invokestatic 304, 3) := by decide +kernel
theorem d_jdk_65_method_133_code_27 : decode jdk_65_method_133_code 27 = .ok (.invokestatic 150, 3) := by decide +kernel
theorem d_jdk_65_method_133_code_30 : decode jdk_65_method_133_code 30 = .ok (.aload 4, 2) := by decide +kernel
theorem d_jdk_65_method_133_code_32 : decode jdk_65_method_133_code 32 = .ok (.areturn, 1) := by decide +kernel
def R_c_corb : Room := { frames := 1, cells := 1, slots := 16, locals := 18 }
theorem pl_b25 : plainFor (⟨"java/util/Arrays", "copyOfRangeByte", "([BII)[B"⟩ : MethodName) = true := plainFor_of_name (by first | (simp [plainName, overriddenIn]; done) | decide +kernel)
set_option maxRecDepth 65536 in
set_option maxHeartbeats 40000000 in
theorem c_corb {l : Launch} {Z : State} {a0 : Array Value} {n0 : Nat} {h0 : Heap} (C : Cx Z a0) (hO : Old Z n0 h0) {t : Addr} {kb : ClassId} {cs : List Int32} {bx ex : Int32} {i j : Nat} (V : Arv Z h0 t kb .byte (Int32.ofNat cs.length) (cs.map lo8) (.int 0)) (hle : cs.length ≤ 16) (hbi : bx = Int32.ofNat i) (hej : ex = Int32.ofNat j) (hij : i ≤ j) (hjn : j ≤ cs.length) :
    Con false l Z [] n0 (⟨"java/util/Arrays", "copyOfRangeByte", "([BII)[B"⟩ : MethodName) jdk_65_method_133_code 5 (some (.array .byte)) R_c_corb #[(.ref t), (.int bx), (.int ex)] h0 [] (fun v h => ∃ u ku, v = some (.ref u) ∧ h0.size ≤ u ∧ Arv Z h u ku .byte (Int32.ofNat (j - i)) (((cs.drop i).take (j - i)).map lo8) (.int 0)) := by
  refine Con.intro (a0 := a0) pl_b25 hO (fun q => nomatch q) ?_
  intro p e s m below meth c G
  refine ok_as (mkF m 0 #[.val (.ref t), .val (.int bx), .val (.int ex), .unset, .unset] []) (by first | rfl | (simp [entryFrame, mkF, argsToLocals, Value.category]; done)) ?_
  subst hbi hej
  have hbe : ¬ Int32.ofNat j < Int32.ofNat i := by rw [i32_lt (by omega) (by omega)]; omega
  refine ok_iloadN G d_jdk_65_method_133_code_0 rfl ?_
  refine ok_iloadN G d_jdk_65_method_133_code_1 rfl ?_
  refine ok_static G (argsL := [(.int (Int32.ofNat i)), (.int (Int32.ofNat j))]) (rest := []) (C.w114) (C.w115) (C.w109) (C.w116) (by decide) pd6 (c_ckl C hO hbe) rfl rfl rfl d_jdk_65_method_133_code_2 (Nat.le_of_ble_eq_true rfl) (Nat.le_of_ble_eq_true rfl) (Nat.le_of_ble_eq_true rfl) (Nat.le_of_ble_eq_true rfl) (fun _ q => nomatch q) ?_
  rintro _ _ _ ⟨rfl, rfl⟩
  refine ok_as (mkF m 5 #[.val (.ref t), .val (.int (Int32.ofNat i)), .val (.int (Int32.ofNat j)), .unset, .unset] []) rfl ?_
  refine ok_iloadN G d_jdk_65_method_133_code_5 rfl ?_
  refine ok_iloadN G d_jdk_65_method_133_code_6 rfl ?_
  refine ok_isub G d_jdk_65_method_133_code_7 ?_
  refine ok_sayI (Int32.ofNat (j - i)) (i32_sub hij) ?_
  refine ok_istoreN G #[.val (.ref t), .val (.int (Int32.ofNat i)), .val (.int (Int32.ofNat j)), .val (.int (Int32.ofNat (j - i))), .unset] d_jdk_65_method_133_code_8 rfl ?_
  refine ok_iloadN G d_jdk_65_method_133_code_9 rfl ?_
  refine ok_newP G (aty := .byte) (C.w23) d_jdk_65_method_133_code_10 (i32_nn (by omega)) 16 (by rw [i32_clamp (by omega)]; omega) (by decide) (Nat.le_of_ble_eq_true rfl) (Nat.le_of_ble_eq_true rfl) ?_
  intro hp4 ob3 k_ob3 eq_ob3 K5 g_ob3 lb_ob3 V_ob3
  have ne_t_ob3 : t ≠ ob3 := Nat.ne_of_lt (Nat.lt_of_lt_of_le V.lt (Nat.le_of_eq eq_ob3.symm))
  replace V := V.keep K5 nin0
  refine ok_astore G #[.val (.ref t), .val (.int (Int32.ofNat i)), .val (.int (Int32.ofNat j)), .val (.int (Int32.ofNat (j - i))), .val (.ref ob3)] d_jdk_65_method_133_code_12 rfl rfl ?_
  refine ok_aloadN G d_jdk_65_method_133_code_14 rfl rfl ?_
  refine ok_iloadN G d_jdk_65_method_133_code_15 rfl ?_
  refine ok_aload G d_jdk_65_method_133_code_16 rfl rfl ?_
  refine ok_iconst G (0 : Int32) d_jdk_65_method_133_code_18 rfl ?_
  refine ok_aloadN G d_jdk_65_method_133_code_19 rfl rfl ?_
  refine ok_arraylength G V d_jdk_65_method_133_code_20 ?_
  refine ok_iloadN G d_jdk_65_method_133_code_21 rfl ?_
  refine ok_isub G d_jdk_65_method_133_code_22 ?_
  refine ok_iloadN G d_jdk_65_method_133_code_23 rfl ?_
  refine ok_old (fun hO_hp4 => ?_)
  refine ok_static G (argsL := [(.int ((Int32.ofNat cs.length) - (Int32.ofNat i))), (.int (Int32.ofNat (j - i)))]) (rest := [(.int (0 : Int32)), (.ref ob3), (.int (Int32.ofNat i)), (.ref t)]) (C.w117) (C.w68) (C.w69) (C.w70) (by decide) pd10 (c_min (r := (Int32.ofNat (j - i))) C hO_hp4 (own_min hij hjn hle)) rfl rfl rfl d_jdk_65_method_133_code_24 (Nat.le_of_ble_eq_true rfl) (Nat.le_of_ble_eq_true rfl) (Nat.le_of_ble_eq_true rfl) (Nat.le_of_ble_eq_true rfl) (fun _ q => nomatch q) ?_
  rintro _ _ _ ⟨rfl, rfl⟩
  refine ok_as (mkF m 27 #[.val (.ref t), .val (.int (Int32.ofNat i)), .val (.int (Int32.ofNat j)), .val (.int (Int32.ofNat (j - i))), .val (.ref ob3)] [(.int (Int32.ofNat (j - i))), (.int (0 : Int32)), (.ref ob3), (.int (Int32.ofNat i)), (.ref t)]) rfl ?_
  have Bp := V_ob3.pad (pad_rep [] (.int (0 : Int32)) (j - i))
  rw [List.nil_append] at Bp
  refine ok_copy G (((cs.drop i).take (j - i)).map lo8) (C.w118) (C.w121) (C.w119) (C.w120) V Bp (Or.inl ⟨rfl, rfl⟩) (i32_nn (by omega)) (by decide) (i32_nn (by omega)) (by rw [i32_clamp (by omega), i32_clamp (by omega), i32_clamp (by omega)]; omega) (by rw [i32_clamp (by omega)]; exact Nat.le_of_eq (Nat.zero_add _)) (by rw [i32_clamp (by omega), i32_clamp (by omega)]; exact range_mid _ _ _ _ _ (by omega)) (by rw [i32_clamp (by omega), List.length_replicate]; exact Nat.le_of_eq (Nat.zero_add _)) rfl d_jdk_65_method_133_code_27 (Nat.le_of_ble_eq_true rfl) (Nat.le_of_ble_eq_true rfl) g_ob3 (Or.inr lb_ob3) SafeFor.narrow ?_
  intro hp8 K9 Vn
  have Vr : Arv Z hp8 ob3 k_ob3 .byte (Int32.ofNat (j - i)) (((cs.drop i).take (j - i)).map lo8) (.int 0) := by
    rw [i32_clamp (show j - i < 2147483648 by omega)] at Vn
    have e8 : (0 : Int32).toNatClampNeg = 0 := rfl
    rw [e8, List.take_zero, List.nil_append, Nat.zero_add, List.drop_replicate, Nat.sub_self, List.replicate_zero, List.append_nil] at Vn
    exact Vn
  refine ok_aload G d_jdk_65_method_133_code_30 rfl rfl ?_
  exact ok_retA G rfl rfl rfl d_jdk_65_method_133_code_32 rfl ⟨_, _, rfl, lb_ob3, Vr⟩ (Nat.le_of_ble_eq_true rfl) (Nat.le_of_ble_eq_true rfl)
theorem d_jdk_65_method_132_code_0 : decode jdk_65_method_132_code 0 = .ok (.iload_n 1, 1) := by decide +kernel
theorem d_jdk_65_method_132_code_1 : decode jdk_65_method_132_code 1 = .ok (.ifCond .ne 9, 3) := by decide +kernel
theorem d_jdk_65_method_132_code_10 : decode jdk_65_method_132_code 10 = .ok (.aload_n 0, 1) := by decide +kernel
theorem d_jdk_65_method_132_code_11 : decode jdk_65_method_132_code 11 = .ok (.iload_n 1, 1) := by decide +kernel
theorem d_jdk_65_method_132_code_12 : decode jdk_65_method_132_code 12 = .ok (.iload_n 2, 1) := by decide +kernel
theorem d_jdk_65_method_132_code_13 : decode jdk_65_method_132_code 13 = .ok (.invokestatic 339, 3) := by decide +kernel
theorem pd14 : parseMethodDescriptor "([BII)[B" = some ⟨[(.array .byte), .int, .int], some (.array .byte)⟩ := by decide +kernel
theorem d_jdk_65_method_132_code_16 : decode jdk_65_method_132_code 16 = .ok (.areturn, 1) := by decide +kernel
theorem d_jdk_65_method_132_code_4 : decode jdk_65_method_132_code 4 = .ok (.iload_n 2, 1) := by decide +kernel
theorem d_jdk_65_method_132_code_5 : decode jdk_65_method_132_code 5 = .ok (.aload_n 0, 1) := by decide +kernel
theorem d_jdk_65_method_132_code_6 : decode jdk_65_method_132_code 6 = .ok (.arraylength, 1) := by decide +kernel
theorem d_jdk_65_method_132_code_7 : decode jdk_65_method_132_code 7 = .ok (.if_icmp .eq 10, 3) := by decide +kernel
def R_c_cor : Room := { frames := 2, cells := 1, slots := 16, locals := 34 }
theorem pl_b24 : plainFor (⟨"java/util/Arrays", "copyOfRange", "([BII)[B"⟩ : MethodName) = true := plainFor_of_name (by first | (simp [plainName, overriddenIn]; done) | decide +kernel)
set_option maxRecDepth 65536 in
set_option maxHeartbeats 40000000 in
theorem c_cor {l : Launch} {Z : State} {a0 : Array Value} {n0 : Nat} {h0 : Heap} (C : Cx Z a0) (hO : Old Z n0 h0) {t : Addr} {kb : ClassId} {cs : List Int32} {bx ex : Int32} {i j : Nat} (V : Arv Z h0 t kb .byte (Int32.ofNat cs.length) (cs.map lo8) (.int 0)) (hle : cs.length ≤ 16) (hbi : bx = Int32.ofNat i) (hej : ex = Int32.ofNat j) (hij : i ≤ j) (hjn : j ≤ cs.length) (hnf : ¬ (i = 0 ∧ j = cs.length)) :
    Con false l Z [] n0 (⟨"java/util/Arrays", "copyOfRange", "([BII)[B"⟩ : MethodName) jdk_65_method_132_code 3 (some (.array .byte)) R_c_cor #[(.ref t), (.int bx), (.int ex)] h0 [] (fun v h => ∃ u ku, v = some (.ref u) ∧ h0.size ≤ u ∧ Arv Z h u ku .byte (Int32.ofNat (j - i)) (((cs.drop i).take (j - i)).map lo8) (.int 0)) := by
  refine Con.intro (a0 := a0) pl_b24 hO (fun q => nomatch q) ?_
  intro p e s m below meth c G
  refine ok_as (mkF m 0 #[.val (.ref t), .val (.int bx), .val (.int ex)] []) (by first | rfl | (simp [entryFrame, mkF, argsToLocals, Value.category]; done)) ?_
  subst hbi hej
  refine ok_iloadN G d_jdk_65_method_132_code_0 rfl ?_
  refine ok_ifne G 10 d_jdk_65_method_132_code_1 (by decide) (by decide) (fun cq1 => ?_) (fun cq1 => ?_)
  · skip
    refine ok_aloadN G d_jdk_65_method_132_code_10 rfl rfl ?_
    refine ok_iloadN G d_jdk_65_method_132_code_11 rfl ?_
    refine ok_iloadN G d_jdk_65_method_132_code_12 rfl ?_
    refine ok_static G (argsL := [(.ref t), (.int (Int32.ofNat i)), (.int (Int32.ofNat j))]) (rest := []) (C.w111) (C.w112) (C.w109) (C.w113) (by decide) pd14 (c_corb (i := i) (j := j) C hO V hle rfl rfl hij hjn) rfl rfl rfl d_jdk_65_method_132_code_13 (Nat.le_of_ble_eq_true rfl) (Nat.le_of_ble_eq_true rfl) (Nat.le_of_ble_eq_true rfl) (Nat.le_of_ble_eq_true rfl) (fun _ q => nomatch q) ?_
    rintro _ hp4 K5 ⟨tr2, kb3, rfl, lbq_tr2, V_tr2⟩
    have lbh_tr2 := lbq_tr2
    have ne_t_tr2 : t ≠ tr2 := Nat.ne_of_lt (Nat.lt_of_lt_of_le V.lt lbh_tr2)
    have lb_tr2 : h0.size ≤ tr2 := lbh_tr2
    have g_tr2 : n0 ≤ tr2 := Nat.le_trans (old_le hO) lbh_tr2
    replace V := V.keep K5 nin0
    refine ok_as (mkF m 16 #[.val (.ref t), .val (.int (Int32.ofNat i)), .val (.int (Int32.ofNat j))] [(.ref tr2)]) rfl ?_
    exact ok_retA G rfl rfl rfl d_jdk_65_method_132_code_16 rfl ⟨_, _, rfl, lb_tr2, V_tr2⟩ (Nat.le_of_ble_eq_true rfl) (Nat.le_of_ble_eq_true rfl)
  · skip
    refine ok_iloadN G d_jdk_65_method_132_code_4 rfl ?_
    refine ok_aloadN G d_jdk_65_method_132_code_5 rfl rfl ?_
    refine ok_arraylength G V d_jdk_65_method_132_code_6 ?_
    refine ok_icmpeqN G d_jdk_65_method_132_code_7 (fun q => hnf ⟨(i32_eq (j := 0) (by omega) (by omega)).mp cq1, (i32_eq (by omega) (by omega)).mp q⟩) ?_
    refine ok_aloadN G d_jdk_65_method_132_code_10 rfl rfl ?_
    refine ok_iloadN G d_jdk_65_method_132_code_11 rfl ?_
    refine ok_iloadN G d_jdk_65_method_132_code_12 rfl ?_
    refine ok_static G (argsL := [(.ref t), (.int (Int32.ofNat i)), (.int (Int32.ofNat j))]) (rest := []) (C.w111) (C.w112) (C.w109) (C.w113) (by decide) pd14 (c_corb (i := i) (j := j) C hO V hle rfl rfl hij hjn) rfl rfl rfl d_jdk_65_method_132_code_13 (Nat.le_of_ble_eq_true rfl) (Nat.le_of_ble_eq_true rfl) (Nat.le_of_ble_eq_true rfl) (Nat.le_of_ble_eq_true rfl) (fun _ q => nomatch q) ?_
    rintro _ hp8 K9 ⟨tr6, kb7, rfl, lbq_tr6, V_tr6⟩
    have lbh_tr6 := lbq_tr6
    have ne_t_tr6 : t ≠ tr6 := Nat.ne_of_lt (Nat.lt_of_lt_of_le V.lt lbh_tr6)
    have lb_tr6 : h0.size ≤ tr6 := lbh_tr6
    have g_tr6 : n0 ≤ tr6 := Nat.le_trans (old_le hO) lbh_tr6
    replace V := V.keep K9 nin0
    refine ok_as (mkF m 16 #[.val (.ref t), .val (.int (Int32.ofNat i)), .val (.int (Int32.ofNat j))] [(.ref tr6)]) rfl ?_
    exact ok_retA G rfl rfl rfl d_jdk_65_method_132_code_16 rfl ⟨_, _, rfl, lb_tr6, V_tr6⟩ (Nat.le_of_ble_eq_true rfl) (Nat.le_of_ble_eq_true rfl)
theorem d_jdk_43_method_47_code_0 : decode jdk_43_method_47_code 0 = .ok (.iload_n 2, 1) := by decide +kernel
theorem d_jdk_43_method_47_code_1 : decode jdk_43_method_47_code 1 = .ok (.ifCond .ne 6, 3) := by decide +kernel
theorem d_jdk_43_method_47_code_7 : decode jdk_43_method_47_code 7 = .ok (.new 1, 3) := by decide +kernel
theorem d_jdk_43_method_47_code_10 : decode jdk_43_method_47_code 10 = .ok (.dup, 1) := by decide +kernel
theorem d_jdk_43_method_47_code_11 : decode jdk_43_method_47_code 11 = .ok (.aload_n 0, 1) := by decide +kernel
theorem d_jdk_43_method_47_code_12 : decode jdk_43_method_47_code 12 = .ok (.iload_n 1, 1) := by decide +kernel
theorem d_jdk_43_method_47_code_13 : decode jdk_43_method_47_code 13 = .ok (.iload_n 1, 1) := by decide +kernel
theorem d_jdk_43_method_47_code_14 : decode jdk_43_method_47_code 14 = .ok (.iload_n 2, 1) := by decide +kernel
theorem d_jdk_43_method_47_code_15 : decode jdk_43_method_47_code 15 = .ok (.iadd, 1) := by decide +kernel
theorem d_jdk_43_method_47_code_16 : decode jdk_43_method_47_code 16 = .ok (.invokestatic 232, 3) := by decide +kernel
theorem d_jdk_43_method_47_code_19 : decode jdk_43_method_47_code 19 = .ok (.iconst 0, 1) := by decide +kernel
theorem d_jdk_43_method_47_code_20 : decode jdk_43_method_47_code 20 = .ok (.invokespecial 112, 3) := by decide +kernel
theorem pd15 : parseMethodDescriptor "([BB)V" = some ⟨[(.array .byte), .byte], none⟩ := by decide +kernel
theorem d_jdk_43_method_47_code_23 : decode jdk_43_method_47_code 23 = .ok (.areturn, 1) := by decide +kernel
theorem d_jdk_43_method_47_code_4 : decode jdk_43_method_47_code 4 = .ok (.ldc 151, 2) := by decide +kernel
theorem d_jdk_43_method_47_code_6 : decode jdk_43_method_47_code 6 = .ok (.areturn, 1) := by decide +kernel
def R_c_nstr : Room := { frames := 3, cells := 2, slots := 20, locals := 50 }
theorem pl_b23 : plainFor (⟨"java/lang/StringLatin1", "newString", "([BII)Ljava/lang/String;"⟩ : MethodName) = true := plainFor_of_name (by first | (simp [plainName, overriddenIn]; done) | decide +kernel)
set_option maxRecDepth 65536 in
set_option maxHeartbeats 40000000 in
theorem c_nstr {l : Launch} {Z : State} {a0 : Array Value} {n0 : Nat} {h0 : Heap} (C : Cx Z a0) (hO : Old Z n0 h0) (hE : EW Z a0 consts_1) {t : Addr} {kb : ClassId} {cs : List Int32} {i j : Nat} (V : Arv Z h0 t kb .byte (Int32.ofNat cs.length) (cs.map lo8) (.int 0)) (hla : ∀ c ∈ cs, Lat c) (hle : cs.length ≤ 16) (hij : i ≤ j) (hjn : j ≤ cs.length) (hnf : ¬ (i = 0 ∧ j = cs.length)) :
    Con true l Z consts_1 n0 (⟨"java/lang/StringLatin1", "newString", "([BII)Ljava/lang/String;"⟩ : MethodName) jdk_43_method_47_code 3 (some (.object "java/lang/String")) R_c_nstr #[(.ref t), (.int (Int32.ofNat i)), (.int (Int32.ofNat (j - i)))] h0 [] (fun v h => ∃ x' t', v = some (.ref x') ∧ LStr Z h x' t' ((cs.drop i).take (j - i))) := by
  refine Con.intro (a0 := a0) pl_b23 hO (fun _ => hE) ?_
  intro p e s m below meth c G
  refine ok_as (mkF m 0 #[.val (.ref t), .val (.int (Int32.ofNat i)), .val (.int (Int32.ofNat (j - i)))] []) (by first | rfl | (simp [entryFrame, mkF, argsToLocals, Value.category]; done)) ?_
  refine ok_iloadN G d_jdk_43_method_47_code_0 rfl ?_
  refine ok_ifne G 7 d_jdk_43_method_47_code_1 (by decide) (by decide) (fun cq1 => ?_) (fun cq1 => ?_)
  · skip
    refine ok_new G (C.w106) (C.w7) (C.w8) d_jdk_43_method_47_code_7 (Nat.le_of_ble_eq_true rfl) (Nat.le_of_ble_eq_true rfl) ?_
    intro hp3 ob2 eq_ob2 K4 g_ob2 lb_ob2 E_ob2 D_ob2
    have ne_t_ob2 : t ≠ ob2 := Nat.ne_of_lt (Nat.lt_of_lt_of_le V.lt (Nat.le_of_eq eq_ob2.symm))
    replace V := V.keep K4 nin0
    have F_ob2_value : Fld Z hp3 ob2 "java/lang/String" "value" "[B" .null := D_ob2 _ _ _ (.array .byte) (Or.inr (C.w24)) (by decide)
    have F_ob2_coder : Fld Z hp3 ob2 "java/lang/String" "coder" "B" (.int (0 : Int32)) := D_ob2 _ _ _ .byte (Or.inr (C.w25)) (by decide)
    refine ok_dup G d_jdk_43_method_47_code_10 rfl ?_
    refine ok_aloadN G d_jdk_43_method_47_code_11 rfl rfl ?_
    refine ok_iloadN G d_jdk_43_method_47_code_12 rfl ?_
    refine ok_iloadN G d_jdk_43_method_47_code_13 rfl ?_
    refine ok_iloadN G d_jdk_43_method_47_code_14 rfl ?_
    refine ok_iadd G d_jdk_43_method_47_code_15 ?_
    refine ok_old (fun hO_hp3 => ?_)
    refine ok_keep (fun hKp_hp3 => ?_)
    refine ok_static G (argsL := [(.ref t), (.int (Int32.ofNat i)), (.int ((Int32.ofNat i) + (Int32.ofNat (j - i))))]) (rest := [(.ref ob2), (.ref ob2)]) (C.w107) (C.w108) (C.w109) (C.w110) (by decide) pd14 (c_cor (i := i) (j := j) C hO_hp3 V hle rfl (show Int32.ofNat i + Int32.ofNat (j - i) = Int32.ofNat j by rw [← Int32.ofNat_add]; congr 1; omega) hij hjn hnf) rfl rfl rfl d_jdk_43_method_47_code_16 (Nat.le_of_ble_eq_true rfl) (Nat.le_of_ble_eq_true rfl) (Nat.le_of_ble_eq_true rfl) (Nat.le_of_ble_eq_true rfl) (fun _ q => nomatch q) ?_
    rintro _ hp7 K8 ⟨tr5, kb6, rfl, lbq_tr5, V_tr5⟩
    have lbh_tr5 := lbq_tr5
    have ne_t_tr5 : t ≠ tr5 := Nat.ne_of_lt (Nat.lt_of_lt_of_le V.lt lbh_tr5)
    have ne_ob2_tr5 : ob2 ≠ tr5 := Nat.ne_of_lt (Nat.lt_of_lt_of_le E_ob2.lt lbh_tr5)
    have lb_tr5 : h0.size ≤ tr5 := Nat.le_trans hKp_hp3.1 lbh_tr5
    have g_tr5 : n0 ≤ tr5 := Nat.le_trans (old_le hO_hp3) lbh_tr5
    replace V := V.keep K8 nin0
    replace E_ob2 := E_ob2.keep K8
    replace F_ob2_value := F_ob2_value.keep K8 nin0
    replace F_ob2_coder := F_ob2_coder.keep K8 nin0
    refine ok_as (mkF m 19 #[.val (.ref t), .val (.int (Int32.ofNat i)), .val (.int (Int32.ofNat (j - i)))] [(.ref tr5), (.ref ob2), (.ref ob2)]) rfl ?_
    refine ok_iconst G (0 : Int32) d_jdk_43_method_47_code_19 rfl ?_
    refine ok_old (fun hO_hp7 => ?_)
    refine ok_init G (a := ob2) (argsL := [(.ref tr5), (.int (0 : Int32))]) (rest := [(.ref ob2)]) rfl (C.w122) (C.w123) (C.w8) (C.w124) (by decide) pd15 (c_initBB C hO_hp7 E_ob2 F_ob2_value F_ob2_coder g_ob2) rfl rfl rfl d_jdk_43_method_47_code_20 (Nat.le_of_ble_eq_true rfl) (Nat.le_of_ble_eq_true rfl) (Nat.le_of_ble_eq_true rfl) (Nat.le_of_ble_eq_true rfl) (allS ⟨(Or.inr lb_ob2), (SafeFor.mem (List.mem_of_getElem? (i := 0) rfl))⟩ (fun _ q => nomatch q)) ?_
    rintro _ hp9 K10 ⟨rfl, FC_ob2, FV_ob2⟩
    replace V := V.keep K10 (ninS ne_t_ob2 nin0)
    replace E_ob2 := E_ob2.keep K10
    replace V_tr5 := V_tr5.keep K10 (ninS (Ne.symm ne_ob2_tr5) nin0)
    refine ok_as (mkF m 23 #[.val (.ref t), .val (.int (Int32.ofNat i)), .val (.int (Int32.ofNat (j - i)))] [(.ref ob2)]) rfl ?_
    exact ok_retA G rfl rfl rfl d_jdk_43_method_47_code_23 rfl ⟨_, _, rfl, E_ob2, FC_ob2, FV_ob2, ⟨_, by rw [show ((cs.drop i).take (j - i)).length = j - i by rw [List.length_take, List.length_drop]; omega]; exact V_tr5⟩, fun c q => hla c (List.mem_of_mem_drop (List.mem_of_mem_take q)), by rw [List.length_take, List.length_drop]; omega⟩ (Nat.le_of_ble_eq_true rfl) (Nat.le_of_ble_eq_true rfl)
  · skip
    have hz : j - i = 0 := (i32_eq (j := 0) (by omega) (by omega)).mp cq1
    refine ok_ldcR G (vs := ([] : List Int32).map lo8) (z := (0 : Int32)) rfl (C.w139) C.strs (List.mem_of_getElem? (i := 1) rfl) ⟨by decide, rfl⟩ (by decide) rfl d_jdk_43_method_47_code_4 0 (by decide) (by decide) (Nat.le_of_ble_eq_true rfl) (Nat.le_of_ble_eq_true rfl) ?_
    intro yl13 hp11 tr14 kb15 K12 E_yl13 FC_yl13 FV_yl13 V_tr14 hne
    replace V := V.keep K12 nin0
    have S_yl13 : LStr Z hp11 yl13 tr14 [] := ⟨E_yl13, FC_yl13, FV_yl13, ⟨_, V_tr14⟩, (fun _ q => nomatch q), (Nat.le_of_ble_eq_true rfl)⟩
    exact ok_retA G rfl rfl rfl d_jdk_43_method_47_code_6 rfl ⟨_, _, rfl, by rw [show j - i = 0 by omega, List.take_zero]; exact S_yl13⟩ (Nat.le_of_ble_eq_true rfl) (Nat.le_of_ble_eq_true rfl)
theorem d_jdk_42_method_92_code_0 : decode jdk_42_method_92_code 0 = .ok (.aload_n 0, 1) := by decide +kernel
theorem d_jdk_42_method_92_code_1 : decode jdk_42_method_92_code 1 = .ok (.invokevirtual 505, 3) := by decide +kernel
theorem d_jdk_42_method_92_code_4 : decode jdk_42_method_92_code 4 = .ok (.istore_n 3, 1) := by decide +kernel
theorem d_jdk_42_method_92_code_5 : decode jdk_42_method_92_code 5 = .ok (.iload_n 1, 1) := by decide +kernel
theorem d_jdk_42_method_92_code_6 : decode jdk_42_method_92_code 6 = .ok (.iload_n 2, 1) := by decide +kernel
theorem d_jdk_42_method_92_code_7 : decode jdk_42_method_92_code 7 = .ok (.iload_n 3, 1) := by decide +kernel
theorem d_jdk_42_method_92_code_8 : decode jdk_42_method_92_code 8 = .ok (.invokestatic 521, 3) := by decide +kernel
theorem pd16 : parseMethodDescriptor "(III)V" = some ⟨[.int, .int, .int], none⟩ := by decide +kernel
theorem d_jdk_42_method_92_code_11 : decode jdk_42_method_92_code 11 = .ok (.iload_n 1, 1) := by decide +kernel
theorem d_jdk_42_method_92_code_12 : decode jdk_42_method_92_code 12 = .ok (.ifCond .ne 10, 3) := by decide +kernel
theorem d_jdk_42_method_92_code_22 : decode jdk_42_method_92_code 22 = .ok (.iload_n 2, 1) := by decide +kernel
theorem d_jdk_42_method_92_code_23 : decode jdk_42_method_92_code 23 = .ok (.iload_n 1, 1) := by decide +kernel
theorem d_jdk_42_method_92_code_24 : decode jdk_42_method_92_code 24 = .ok (.isub, 1) := by decide +kernel
theorem d_jdk_42_method_92_code_25 : decode jdk_42_method_92_code 25 = .ok (.istore 4, 2) := by decide +kernel
theorem d_jdk_42_method_92_code_27 : decode jdk_42_method_92_code 27 = .ok (.aload_n 0, 1) := by decide +kernel
theorem d_jdk_42_method_92_code_28 : decode jdk_42_method_92_code 28 = .ok (.invokevirtual 492, 3) := by decide +kernel
theorem d_jdk_42_method_92_code_31 : decode jdk_42_method_92_code 31 = .ok (.ifCond .eq 16, 3) := by decide +kernel
theorem d_jdk_42_method_92_code_34 : decode jdk_42_method_92_code 34 = .ok (.aload_n 0, 1) := by decide +kernel
theorem d_jdk_42_method_92_code_35 : decode jdk_42_method_92_code 35 = .ok (.getfield 9, 3) := by decide +kernel
theorem d_jdk_42_method_92_code_38 : decode jdk_42_method_92_code 38 = .ok (.iload_n 1, 1) := by decide +kernel
theorem d_jdk_42_method_92_code_39 : decode jdk_42_method_92_code 39 = .ok (.iload 4, 2) := by decide +kernel
theorem d_jdk_42_method_92_code_41 : decode jdk_42_method_92_code 41 = .ok (.invokestatic 685, 3) := by decide +kernel
theorem pd17 : parseMethodDescriptor "([BII)Ljava/lang/String;" = some ⟨[(.array .byte), .int, .int], some (.object "java/lang/String")⟩ := by decide +kernel
theorem d_jdk_42_method_92_code_44 : decode jdk_42_method_92_code 44 = .ok (.goto 13, 3) := by decide +kernel
theorem d_jdk_42_method_92_code_57 : decode jdk_42_method_92_code 57 = .ok (.areturn, 1) := by decide +kernel
theorem d_jdk_42_method_92_code_15 : decode jdk_42_method_92_code 15 = .ok (.iload_n 2, 1) := by decide +kernel
theorem d_jdk_42_method_92_code_16 : decode jdk_42_method_92_code 16 = .ok (.iload_n 3, 1) := by decide +kernel
theorem d_jdk_42_method_92_code_17 : decode jdk_42_method_92_code 17 = .ok (.if_icmp .ne 5, 3) := by decide +kernel
theorem d_jdk_42_method_92_code_20 : decode jdk_42_method_92_code 20 = .ok (.aload_n 0, 1) := by decide +kernel
theorem d_jdk_42_method_92_code_21 : decode jdk_42_method_92_code 21 = .ok (.areturn, 1) := by decide +kernel
def R_c_sub2 : Room := { frames := 4, cells := 2, slots := 20, locals := 64 }
theorem pl_b16 : plainFor (⟨"java/lang/String", "substring", "(II)Ljava/lang/String;"⟩ : MethodName) = true := plainFor_of_name (by first | (simp [plainName, overriddenIn]; done) | decide +kernel)
set_option maxRecDepth 65536 in
set_option maxHeartbeats 40000000 in
theorem c_sub2 {l : Launch} {Z : State} {a0 : Array Value} {n0 : Nat} {h0 : Heap} (C : Cx Z a0) (hO : Old Z n0 h0) (hE : EW Z a0 consts_1) {x t : Addr} {cs : List Int32} {bx ex : Int32} {i j : Nat} (S : LStr Z h0 x t cs) (hbi : bx = Int32.ofNat i) (hej : ex = Int32.ofNat j) (hij : i ≤ j) (hjn : j ≤ cs.length) :
    Con true l Z consts_1 n0 (⟨"java/lang/String", "substring", "(II)Ljava/lang/String;"⟩ : MethodName) jdk_42_method_92_code 5 (some (.object "java/lang/String")) R_c_sub2 #[(.ref x), (.int bx), (.int ex)] h0 [] (fun v h => ∃ x' t', v = some (.ref x') ∧ LStr Z h x' t' ((cs.drop i).take (j - i))) := by
  refine Con.intro (a0 := a0) pl_b16 hO (fun _ => hE) ?_
  intro p e s m below meth c G
  refine ok_as (mkF m 0 #[.val (.ref x), .val (.int bx), .val (.int ex), .unset, .unset] []) (by first | rfl | (simp [entryFrame, mkF, argsToLocals, Value.category]; done)) ?_
  subst hbi hej
  obtain ⟨E, FC, FV, ⟨kb, V⟩, hla, hle⟩ := id S
  have hi : ¬ Int32.ofNat i < 0 ∧ ¬ Int32.ofNat j < Int32.ofNat i ∧ ¬ Int32.ofNat cs.length < Int32.ofNat j := ⟨i32_nn (by omega), by rw [i32_lt (by omega) (by omega)]; omega, by rw [i32_lt (by omega) (by omega)]; omega⟩
  refine ok_aloadN G d_jdk_42_method_92_code_0 rfl rfl ?_
  refine ok_virtual G (a := x) (y0 := (⟨"java/lang/String", "length", "()I"⟩ : MethodName)) (y := (⟨"java/lang/String", "length", "()I"⟩ : MethodName)) (argsL := []) (rest := []) E (C.w39) (C.w40) (C.w42) (fun vm hZ => notFace_of_selects (args := #[]) (mvT (s := s.setVm vm) hZ (C.w42))) (C.w41) (C.w8) (C.w43) (by decide) pd12 (c_length C hO S) rfl rfl rfl d_jdk_42_method_92_code_1 (Nat.le_of_ble_eq_true rfl) (Nat.le_of_ble_eq_true rfl) (Nat.le_of_ble_eq_true rfl) (Nat.le_of_ble_eq_true rfl) (fun _ q => nomatch q) ?_
  rintro _ _ _ ⟨rfl, rfl⟩
  refine ok_as (mkF m 4 #[.val (.ref x), .val (.int (Int32.ofNat i)), .val (.int (Int32.ofNat j)), .unset, .unset] [(.int (Int32.ofNat cs.length))]) rfl ?_
  refine ok_istoreN G #[.val (.ref x), .val (.int (Int32.ofNat i)), .val (.int (Int32.ofNat j)), .val (.int (Int32.ofNat cs.length)), .unset] d_jdk_42_method_92_code_4 rfl ?_
  refine ok_iloadN G d_jdk_42_method_92_code_5 rfl ?_
  refine ok_iloadN G d_jdk_42_method_92_code_6 rfl ?_
  refine ok_iloadN G d_jdk_42_method_92_code_7 rfl ?_
  refine ok_static G (argsL := [(.int (Int32.ofNat i)), (.int (Int32.ofNat j)), (.int (Int32.ofNat cs.length))]) (rest := []) (C.w81) (C.w82) (C.w8) (C.w83) (by decide) pd16 (c_cbe C hO hi) rfl rfl rfl d_jdk_42_method_92_code_8 (Nat.le_of_ble_eq_true rfl) (Nat.le_of_ble_eq_true rfl) (Nat.le_of_ble_eq_true rfl) (Nat.le_of_ble_eq_true rfl) (fun _ q => nomatch q) ?_
  rintro _ _ _ ⟨rfl, rfl⟩
  refine ok_as (mkF m 11 #[.val (.ref x), .val (.int (Int32.ofNat i)), .val (.int (Int32.ofNat j)), .val (.int (Int32.ofNat cs.length)), .unset] []) rfl ?_
  refine ok_iloadN G d_jdk_42_method_92_code_11 rfl ?_
  refine ok_ifne G 22 d_jdk_42_method_92_code_12 (by decide) (by decide) (fun cq5 => ?_) (fun cq5 => ?_)
  · skip
    have hnf : ¬ (i = 0 ∧ j = cs.length) := fun q => cq5 (by rw [q.1]; rfl)
    refine ok_iloadN G d_jdk_42_method_92_code_22 rfl ?_
    refine ok_iloadN G d_jdk_42_method_92_code_23 rfl ?_
    refine ok_isub G d_jdk_42_method_92_code_24 ?_
    refine ok_sayI (Int32.ofNat (j - i)) (i32_sub hij) ?_
    refine ok_istore G #[.val (.ref x), .val (.int (Int32.ofNat i)), .val (.int (Int32.ofNat j)), .val (.int (Int32.ofNat cs.length)), .val (.int (Int32.ofNat (j - i)))] d_jdk_42_method_92_code_25 rfl ?_
    refine ok_aloadN G d_jdk_42_method_92_code_27 rfl rfl ?_
    refine ok_virtual G (a := x) (y0 := (⟨"java/lang/String", "isLatin1", "()Z"⟩ : MethodName)) (y := (⟨"java/lang/String", "isLatin1", "()Z"⟩ : MethodName)) (argsL := []) (rest := []) E (C.w55) (C.w56) (C.w58) (fun vm hZ => notFace_of_selects (args := #[]) (mvT (s := s.setVm vm) hZ (C.w58))) (C.w57) (C.w8) (C.w59) (by decide) pd7 (c_isL1 C hO S) rfl rfl rfl d_jdk_42_method_92_code_28 (Nat.le_of_ble_eq_true rfl) (Nat.le_of_ble_eq_true rfl) (Nat.le_of_ble_eq_true rfl) (Nat.le_of_ble_eq_true rfl) (fun _ q => nomatch q) ?_
    rintro _ _ _ ⟨rfl, rfl⟩
    refine ok_as (mkF m 31 #[.val (.ref x), .val (.int (Int32.ofNat i)), .val (.int (Int32.ofNat j)), .val (.int (Int32.ofNat cs.length)), .val (.int (Int32.ofNat (j - i)))] [(.int (1 : Int32))]) rfl ?_
    refine ok_ifeqN G d_jdk_42_method_92_code_31 (by decide) ?_
    refine ok_aloadN G d_jdk_42_method_92_code_34 rfl rfl ?_
    refine ok_getF G (host := "") (Or.inl (C.w28)) Via.refl FV d_jdk_42_method_92_code_35 ?_
    refine ok_iloadN G d_jdk_42_method_92_code_38 rfl ?_
    refine ok_iload G d_jdk_42_method_92_code_39 rfl ?_
    refine ok_staticW G (argsL := [(.ref t), (.int (Int32.ofNat i)), (.int (Int32.ofNat (j - i)))]) (rest := []) (C.w103) (C.w104) (C.w62) (C.w105) (by decide) pd17 (c_nstr (i := i) (j := j) C hO hE V hla hle hij hjn hnf) rfl rfl rfl d_jdk_42_method_92_code_41 (Nat.le_of_ble_eq_true rfl) (Nat.le_of_ble_eq_true rfl) (Nat.le_of_ble_eq_true rfl) (Nat.le_of_ble_eq_true rfl) rfl (fun _ q => nomatch q) ?_
    rintro _ hp8 K9 ⟨x', t', rfl, Sr⟩
    replace E := E.keep K9
    replace FC := FC.keep K9 nin0
    replace FV := FV.keep K9 nin0
    replace V := V.keep K9 nin0
    replace S := S.keep K9 nin0 nin0
    refine ok_as (mkF m 44 #[.val (.ref x), .val (.int (Int32.ofNat i)), .val (.int (Int32.ofNat j)), .val (.int (Int32.ofNat cs.length)), .val (.int (Int32.ofNat (j - i)))] [(.ref x')]) rfl ?_
    refine ok_goto G 57 d_jdk_42_method_92_code_44 (by decide) (by decide) ?_
    exact ok_retA G rfl rfl rfl d_jdk_42_method_92_code_57 rfl ⟨_, _, rfl, Sr⟩ (Nat.le_of_ble_eq_true rfl) (Nat.le_of_ble_eq_true rfl)
  · skip
    have hi0 : i = 0 := (i32_eq (j := 0) (by omega) (by omega)).mp cq5
    refine ok_iloadN G d_jdk_42_method_92_code_15 rfl ?_
    refine ok_iloadN G d_jdk_42_method_92_code_16 rfl ?_
    refine ok_icmpne G 22 d_jdk_42_method_92_code_17 (by decide) (by decide) (fun cq10 => ?_) (fun cq10 => ?_)
    · skip
      have hnf : ¬ (i = 0 ∧ j = cs.length) := fun q => cq10 (by rw [q.2])
      refine ok_iloadN G d_jdk_42_method_92_code_22 rfl ?_
      refine ok_iloadN G d_jdk_42_method_92_code_23 rfl ?_
      refine ok_isub G d_jdk_42_method_92_code_24 ?_
      refine ok_sayI (Int32.ofNat (j - i)) (i32_sub hij) ?_
      refine ok_istore G #[.val (.ref x), .val (.int (Int32.ofNat i)), .val (.int (Int32.ofNat j)), .val (.int (Int32.ofNat cs.length)), .val (.int (Int32.ofNat (j - i)))] d_jdk_42_method_92_code_25 rfl ?_
      refine ok_aloadN G d_jdk_42_method_92_code_27 rfl rfl ?_
      refine ok_virtual G (a := x) (y0 := (⟨"java/lang/String", "isLatin1", "()Z"⟩ : MethodName)) (y := (⟨"java/lang/String", "isLatin1", "()Z"⟩ : MethodName)) (argsL := []) (rest := []) E (C.w55) (C.w56) (C.w58) (fun vm hZ => notFace_of_selects (args := #[]) (mvT (s := s.setVm vm) hZ (C.w58))) (C.w57) (C.w8) (C.w59) (by decide) pd7 (c_isL1 C hO S) rfl rfl rfl d_jdk_42_method_92_code_28 (Nat.le_of_ble_eq_true rfl) (Nat.le_of_ble_eq_true rfl) (Nat.le_of_ble_eq_true rfl) (Nat.le_of_ble_eq_true rfl) (fun _ q => nomatch q) ?_
      rintro _ _ _ ⟨rfl, rfl⟩
      refine ok_as (mkF m 31 #[.val (.ref x), .val (.int (Int32.ofNat i)), .val (.int (Int32.ofNat j)), .val (.int (Int32.ofNat cs.length)), .val (.int (Int32.ofNat (j - i)))] [(.int (1 : Int32))]) rfl ?_
      refine ok_ifeqN G d_jdk_42_method_92_code_31 (by decide) ?_
      refine ok_aloadN G d_jdk_42_method_92_code_34 rfl rfl ?_
      refine ok_getF G (host := "") (Or.inl (C.w28)) Via.refl FV d_jdk_42_method_92_code_35 ?_
      refine ok_iloadN G d_jdk_42_method_92_code_38 rfl ?_
      refine ok_iload G d_jdk_42_method_92_code_39 rfl ?_
      refine ok_staticW G (argsL := [(.ref t), (.int (Int32.ofNat i)), (.int (Int32.ofNat (j - i)))]) (rest := []) (C.w103) (C.w104) (C.w62) (C.w105) (by decide) pd17 (c_nstr (i := i) (j := j) C hO hE V hla hle hij hjn hnf) rfl rfl rfl d_jdk_42_method_92_code_41 (Nat.le_of_ble_eq_true rfl) (Nat.le_of_ble_eq_true rfl) (Nat.le_of_ble_eq_true rfl) (Nat.le_of_ble_eq_true rfl) rfl (fun _ q => nomatch q) ?_
      rintro _ hp13 K14 ⟨x', t', rfl, Sr⟩
      replace E := E.keep K14
      replace FC := FC.keep K14 nin0
      replace FV := FV.keep K14 nin0
      replace V := V.keep K14 nin0
      replace S := S.keep K14 nin0 nin0
      refine ok_as (mkF m 44 #[.val (.ref x), .val (.int (Int32.ofNat i)), .val (.int (Int32.ofNat j)), .val (.int (Int32.ofNat cs.length)), .val (.int (Int32.ofNat (j - i)))] [(.ref x')]) rfl ?_
      refine ok_goto G 57 d_jdk_42_method_92_code_44 (by decide) (by decide) ?_
      exact ok_retA G rfl rfl rfl d_jdk_42_method_92_code_57 rfl ⟨_, _, rfl, Sr⟩ (Nat.le_of_ble_eq_true rfl) (Nat.le_of_ble_eq_true rfl)
    · skip
      have hjl : j = cs.length := (i32_eq (by omega) (by omega)).mp cq10
      refine ok_aloadN G d_jdk_42_method_92_code_20 rfl rfl ?_
      exact ok_retA G rfl rfl rfl d_jdk_42_method_92_code_21 rfl ⟨_, _, rfl, by rw [hi0, hjl, List.drop_zero, Nat.sub_zero, List.take_length]; exact S⟩ (Nat.le_of_ble_eq_true rfl) (Nat.le_of_ble_eq_true rfl)
theorem d_jdk_42_method_91_code_0 : decode jdk_42_method_91_code 0 = .ok (.aload_n 0, 1) := by decide +kernel
theorem d_jdk_42_method_91_code_1 : decode jdk_42_method_91_code 1 = .ok (.iload_n 1, 1) := by decide +kernel
theorem d_jdk_42_method_91_code_2 : decode jdk_42_method_91_code 2 = .ok (.aload_n 0, 1) := by decide +kernel
theorem d_jdk_42_method_91_code_3 : decode jdk_42_method_91_code 3 = .ok (.invokevirtual 505, 3) := by decide +kernel
theorem d_jdk_42_method_91_code_6 : decode jdk_42_method_91_code 6 = .ok (.invokevirtual 681, 3) := by decide +kernel
theorem pd18 : parseMethodDescriptor "(II)Ljava/lang/String;" = some ⟨[.int, .int], some (.object "java/lang/String")⟩ := by decide +kernel
theorem d_jdk_42_method_91_code_9 : decode jdk_42_method_91_code 9 = .ok (.areturn, 1) := by decide +kernel
def R_c_sub1 : Room := { frames := 5, cells := 2, slots := 20, locals := 80 }
theorem pl_b15 : plainFor (⟨"java/lang/String", "substring", "(I)Ljava/lang/String;"⟩ : MethodName) = true := plainFor_of_name (by first | (simp [plainName, overriddenIn]; done) | decide +kernel)
set_option maxRecDepth 65536 in
set_option maxHeartbeats 40000000 in
theorem c_sub1 {l : Launch} {Z : State} {a0 : Array Value} {n0 : Nat} {h0 : Heap} (C : Cx Z a0) (hO : Old Z n0 h0) (hE : EW Z a0 consts_1) {x t : Addr} {cs : List Int32} {bx : Int32} {i : Nat} (S : LStr Z h0 x t cs) (hbi : bx = Int32.ofNat i) (hij : i ≤ cs.length) :
    Con true l Z consts_1 n0 (⟨"java/lang/String", "substring", "(I)Ljava/lang/String;"⟩ : MethodName) jdk_42_method_91_code 2 (some (.object "java/lang/String")) R_c_sub1 #[(.ref x), (.int bx)] h0 [] (fun v h => ∃ x' t', v = some (.ref x') ∧ LStr Z h x' t' ((cs.drop i).take (cs.length - i))) := by
  refine Con.intro (a0 := a0) pl_b15 hO (fun _ => hE) ?_
  intro p e s m below meth c G
  refine ok_as (mkF m 0 #[.val (.ref x), .val (.int bx)] []) (by first | rfl | (simp [entryFrame, mkF, argsToLocals, Value.category]; done)) ?_
  refine ok_aloadN G d_jdk_42_method_91_code_0 rfl rfl ?_
  refine ok_iloadN G d_jdk_42_method_91_code_1 rfl ?_
  refine ok_aloadN G d_jdk_42_method_91_code_2 rfl rfl ?_
  refine ok_virtual G (a := x) (y0 := (⟨"java/lang/String", "length", "()I"⟩ : MethodName)) (y := (⟨"java/lang/String", "length", "()I"⟩ : MethodName)) (argsL := []) (rest := [(.int bx), (.ref x)]) S.exa (C.w39) (C.w40) (C.w42) (fun vm hZ => notFace_of_selects (args := #[]) (mvT (s := s.setVm vm) hZ (C.w42))) (C.w41) (C.w8) (C.w43) (by decide) pd12 (c_length C hO S) rfl rfl rfl d_jdk_42_method_91_code_3 (Nat.le_of_ble_eq_true rfl) (Nat.le_of_ble_eq_true rfl) (Nat.le_of_ble_eq_true rfl) (Nat.le_of_ble_eq_true rfl) (fun _ q => nomatch q) ?_
  rintro _ _ _ ⟨rfl, rfl⟩
  refine ok_as (mkF m 6 #[.val (.ref x), .val (.int bx)] [(.int (Int32.ofNat cs.length)), (.int bx), (.ref x)]) rfl ?_
  refine ok_virtualW G (a := x) (y0 := (⟨"java/lang/String", "substring", "(II)Ljava/lang/String;"⟩ : MethodName)) (y := (⟨"java/lang/String", "substring", "(II)Ljava/lang/String;"⟩ : MethodName)) (argsL := [(.int bx), (.int (Int32.ofNat cs.length))]) (rest := []) S.exa (C.w76) (C.w77) (C.w79) (fun vm hZ => notFace_of_selects (args := #[]) (mvT (s := s.setVm vm) hZ (C.w79))) (C.w78) (C.w8) (C.w80) (by decide) pd18 (c_sub2 (i := i) (j := cs.length) C hO hE S hbi rfl hij (Nat.le_refl _)) rfl rfl rfl d_jdk_42_method_91_code_6 (Nat.le_of_ble_eq_true rfl) (Nat.le_of_ble_eq_true rfl) (Nat.le_of_ble_eq_true rfl) (Nat.le_of_ble_eq_true rfl) rfl (fun _ q => nomatch q) ?_
  rintro _ hp3 K4 ⟨x', t', rfl, Sr⟩
  replace S := S.keep K4 nin0 nin0
  refine ok_as (mkF m 9 #[.val (.ref x), .val (.int bx)] [(.ref x')]) rfl ?_
  exact ok_retA G rfl rfl rfl d_jdk_42_method_91_code_9 rfl ⟨_, _, rfl, Sr⟩ (Nat.le_of_ble_eq_true rfl) (Nat.le_of_ble_eq_true rfl)
theorem d_prog_19_method_12_code_0 : decode prog_19_method_12_code 0 = .ok (.aload_n 0, 1) := by decide +kernel
theorem d_prog_19_method_12_code_1 : decode prog_19_method_12_code 1 = .ok (.aload_n 0, 1) := by decide +kernel
theorem d_prog_19_method_12_code_2 : decode prog_19_method_12_code 2 = .ok (.bipush 47, 2) := by decide +kernel
theorem d_prog_19_method_12_code_4 : decode prog_19_method_12_code 4 = .ok (.invokevirtual 300, 3) := by decide +kernel
theorem pd19 : parseMethodDescriptor "(I)I" = some ⟨[.int], some .int⟩ := by decide +kernel
theorem d_prog_19_method_12_code_7 : decode prog_19_method_12_code 7 = .ok (.iconst 1, 1) := by decide +kernel
theorem d_prog_19_method_12_code_8 : decode prog_19_method_12_code 8 = .ok (.iadd, 1) := by decide +kernel
theorem d_prog_19_method_12_code_9 : decode prog_19_method_12_code 9 = .ok (.invokevirtual 304, 3) := by decide +kernel
theorem pd20 : parseMethodDescriptor "(I)Ljava/lang/String;" = some ⟨[.int], some (.object "java/lang/String")⟩ := by decide +kernel
theorem d_prog_19_method_12_code_12 : decode prog_19_method_12_code 12 = .ok (.areturn, 1) := by decide +kernel
def R_c_fname : Room := { frames := 6, cells := 2, slots := 20, locals := 93 }
theorem pl_b6 : plainFor (⟨"com/example/loadstone/loadstone/Load", "fileName", "(Ljava/lang/String;)Ljava/lang/String;"⟩ : MethodName) = true := plainFor_of_name (by first | (simp [plainName, overriddenIn]; done) | decide +kernel)
set_option maxRecDepth 65536 in
set_option maxHeartbeats 40000000 in
theorem c_fname {l : Launch} {Z : State} {a0 : Array Value} {n0 : Nat} {h0 : Heap} (C : Cx Z a0) (hO : Old Z n0 h0) (hE : EW Z a0 consts_1) {x t : Addr} {cs : List Int32} (S : LStr Z h0 x t cs) :
    Con true l Z consts_1 n0 (⟨"com/example/loadstone/loadstone/Load", "fileName", "(Ljava/lang/String;)Ljava/lang/String;"⟩ : MethodName) prog_19_method_12_code 1 (some (.object "java/lang/String")) R_c_fname #[(.ref x)] h0 [] (fun v h => ∃ x' t', v = some (.ref x') ∧ LStr Z h x' t' (cs.drop (cut 47 cs).length)) := by
  refine Con.intro (a0 := a0) pl_b6 hO (fun _ => hE) ?_
  intro p e s m below meth c G
  refine ok_as (mkF m 0 #[.val (.ref x)] []) (by first | rfl | (simp [entryFrame, mkF, argsToLocals, Value.category]; done)) ?_
  refine ok_aloadN G d_prog_19_method_12_code_0 rfl rfl ?_
  refine ok_aloadN G d_prog_19_method_12_code_1 rfl rfl ?_
  refine ok_bipush G (47 : Int32) d_prog_19_method_12_code_2 rfl ?_
  refine ok_virtual G (a := x) (y0 := (⟨"java/lang/String", "lastIndexOf", "(I)I"⟩ : MethodName)) (y := (⟨"java/lang/String", "lastIndexOf", "(I)I"⟩ : MethodName)) (argsL := [(.int (47 : Int32))]) (rest := [(.ref x)]) S.exa (C.w34) (C.w35) (C.w37) (fun vm hZ => notFace_of_selects (args := #[]) (mvT (s := s.setVm vm) hZ (C.w37))) (C.w36) (C.w8) (C.w38) (by decide) pd19 (c_lix1 C hO S ⟨by decide, by decide⟩) rfl rfl rfl d_prog_19_method_12_code_4 (Nat.le_of_ble_eq_true rfl) (Nat.le_of_ble_eq_true rfl) (Nat.le_of_ble_eq_true rfl) (Nat.le_of_ble_eq_true rfl) (fun _ q => nomatch q) ?_
  rintro _ _ _ ⟨pre, post, hcs, hpost, hpre, rfl, rfl⟩
  refine ok_as (mkF m 7 #[.val (.ref x)] [(.int (Int32.ofNat pre.length - 1)), (.ref x)]) rfl ?_
  refine ok_iconst G (1 : Int32) d_prog_19_method_12_code_7 rfl ?_
  refine ok_iadd G d_prog_19_method_12_code_8 ?_
  refine ok_sayI (Int32.ofNat pre.length) (Int32.sub_add_cancel ..) ?_
  refine ok_virtualW G (a := x) (y0 := (⟨"java/lang/String", "substring", "(I)Ljava/lang/String;"⟩ : MethodName)) (y := (⟨"java/lang/String", "substring", "(I)Ljava/lang/String;"⟩ : MethodName)) (argsL := [(.int (Int32.ofNat pre.length))]) (rest := []) S.exa (C.w71) (C.w72) (C.w74) (fun vm hZ => notFace_of_selects (args := #[]) (mvT (s := s.setVm vm) hZ (C.w74))) (C.w73) (C.w8) (C.w75) (by decide) pd20 (c_sub1 (i := pre.length) C hO hE S rfl (by rw [hcs]; simp)) rfl rfl rfl d_prog_19_method_12_code_9 (Nat.le_of_ble_eq_true rfl) (Nat.le_of_ble_eq_true rfl) (Nat.le_of_ble_eq_true rfl) (Nat.le_of_ble_eq_true rfl) rfl (fun _ q => nomatch q) ?_
  rintro _ hp3 K4 ⟨x', t', rfl, Sr⟩
  replace S := S.keep K4 nin0 nin0
  refine ok_as (mkF m 12 #[.val (.ref x)] [(.ref x')]) rfl ?_
  exact ok_retA G rfl rfl rfl d_prog_19_method_12_code_12 rfl ⟨_, _, rfl, by rw [show (cs.drop pre.length).take (cs.length - pre.length) = cs.drop (cut 47 cs).length by rw [hcs, cut_eq hpost hpre]; simp] at Sr; exact Sr⟩ (Nat.le_of_ble_eq_true rfl) (Nat.le_of_ble_eq_true rfl)
theorem d_method_3_code_0 : decode method_3_code 0 = .ok (.iload_n 0, 1) := by decide +kernel
theorem d_method_3_code_1 : decode method_3_code 1 = .ok (.iconst 3, 1) := by decide +kernel
theorem d_method_3_code_2 : decode method_3_code 2 = .ok (.iand, 1) := by decide +kernel
theorem d_method_3_code_3 : decode method_3_code 3 = .ok (.ifCond .ne 8, 3) := by decide +kernel
theorem d_method_3_code_11 : decode method_3_code 11 = .ok (.iload_n 0, 1) := by decide +kernel
theorem d_method_3_code_12 : decode method_3_code 12 = .ok (.iconst 2, 1) := by decide +kernel
theorem d_method_3_code_13 : decode method_3_code 13 = .ok (.iushr, 1) := by decide +kernel
theorem d_method_3_code_14 : decode method_3_code 14 = .ok (.sipush 255, 3) := by decide +kernel
theorem d_method_3_code_17 : decode method_3_code 17 = .ok (.iand, 1) := by decide +kernel
theorem d_method_3_code_18 : decode method_3_code 18 = .ok (.i2c, 1) := by decide +kernel
theorem d_method_3_code_19 : decode method_3_code 19 = .ok (.ireturn, 1) := by decide +kernel
theorem d_method_3_code_6 : decode method_3_code 6 = .ok (.bipush 47, 2) := by decide +kernel
theorem d_method_3_code_8 : decode method_3_code 8 = .ok (.goto 11, 3) := by decide +kernel
def R_c_draw : Room := { frames := 0, cells := 0, slots := 0, locals := 0 }
theorem pl_b1 : plainFor (⟨"com/example/loadstone/loadstone/LoadFileNamePinLaw", "ch", "(I)C"⟩ : MethodName) = true := plainFor_of_name (by first | (simp [plainName, overriddenIn]; done) | decide +kernel)
set_option maxRecDepth 65536 in
set_option maxHeartbeats 40000000 in
theorem c_draw {l : Launch} {Z : State} {a0 : Array Value} {n0 : Nat} {h0 : Heap} (C : Cx Z a0) (hO : Old Z n0 h0) {k : Int32} :
    Con false l Z [] n0 (⟨"com/example/loadstone/loadstone/LoadFileNamePinLaw", "ch", "(I)C"⟩ : MethodName) method_3_code 1 (some .char) R_c_draw #[(.int k)] h0 [] (fun v h => ∃ ch, v = some (.int ch) ∧ Lat ch ∧ h0 = h) := by
  refine Con.intro (a0 := a0) pl_b1 hO (fun q => nomatch q) ?_
  intro p e s m below meth c G
  refine ok_as (mkF m 0 #[.val (.int k)] []) (by first | rfl | (simp [entryFrame, mkF, argsToLocals, Value.category]; done)) ?_
  refine ok_iloadN G d_method_3_code_0 rfl ?_
  refine ok_iconst G (3 : Int32) d_method_3_code_1 rfl ?_
  refine ok_iand G d_method_3_code_2 ?_
  refine ok_ifne G 11 d_method_3_code_3 (by decide) (by decide) (fun cq1 => ?_) (fun cq1 => ?_)
  · skip
    refine ok_iloadN G d_method_3_code_11 rfl ?_
    refine ok_iconst G (2 : Int32) d_method_3_code_12 rfl ?_
    refine ok_iushr G d_method_3_code_13 ?_
    refine ok_sipush G (255 : Int32) d_method_3_code_14 rfl ?_
    refine ok_iand G d_method_3_code_17 ?_
    refine ok_i2c G d_method_3_code_18 ?_
    refine ok_nameI ?_
    intro chr2 qchr2
    have lchr2 : Lat chr2 := by rw [qchr2]; exact lat_mask _
    exact ok_retN G rfl (by simp) d_method_3_code_19 (congrArg Value.int (Lat.nar lchr2)) ⟨_, rfl, lchr2, rfl⟩ (Nat.le_of_ble_eq_true rfl) (Nat.le_of_ble_eq_true rfl)
  · skip
    refine ok_bipush G (47 : Int32) d_method_3_code_6 rfl ?_
    refine ok_goto G 19 d_method_3_code_8 (by decide) (by decide) ?_
    exact ok_retN G rfl (by simp) d_method_3_code_19 rfl ⟨_, rfl, ⟨by decide, by decide⟩, rfl⟩ (Nat.le_of_ble_eq_true rfl) (Nat.le_of_ble_eq_true rfl)
theorem d_method_4_code_0 : decode method_4_code 0 = .ok (.iload_n 1, 1) := by decide +kernel
theorem d_method_4_code_1 : decode method_4_code 1 = .ok (.ifCond .ne 7, 3) := by decide +kernel
theorem d_method_4_code_4 : decode method_4_code 4 = .ok (.iconst 0, 1) := by decide +kernel
theorem d_method_4_code_5 : decode method_4_code 5 = .ok (.newarray .char, 2) := by decide +kernel
theorem d_method_4_code_7 : decode method_4_code 7 = .ok (.areturn, 1) := by decide +kernel
def R_c_take0 : Room := { frames := 0, cells := 1, slots := 0, locals := 0 }
theorem pl_b2 : plainFor (⟨"com/example/loadstone/loadstone/LoadFileNamePinLaw", "take", "([CI)[C"⟩ : MethodName) = true := plainFor_of_name (by first | (simp [plainName, overriddenIn]; done) | decide +kernel)
set_option maxRecDepth 65536 in
set_option maxHeartbeats 40000000 in
theorem c_take0 {l : Launch} {Z : State} {a0 : Array Value} {n0 : Nat} {h0 : Heap} (C : Cx Z a0) (hO : Old Z n0 h0) {a : Addr} {ka : ClassId} {c0 c1 c2 c3 : Int32} {dv : Value} (A : Arv Z h0 a ka .char (4 : Int32) [.int c0, .int c1, .int c2, .int c3] dv) (l0 : Lat c0) (l1 : Lat c1) (l2 : Lat c2) (l3 : Lat c3) :
    Con false l Z [] n0 (⟨"com/example/loadstone/loadstone/LoadFileNamePinLaw", "take", "([CI)[C"⟩ : MethodName) method_4_code 2 (some (.array .char)) R_c_take0 #[(.ref a), (.int (0 : Int32))] h0 [] (fun v h => ∃ u ku, v = some (.ref u) ∧ h0.size ≤ u ∧ Arv Z h u ku .char (0 : Int32) [] (.int (0 : Int32))) := by
  refine Con.intro (a0 := a0) pl_b2 hO (fun q => nomatch q) ?_
  intro p e s m below meth c G
  refine ok_as (mkF m 0 #[.val (.ref a), .val (.int (0 : Int32))] []) (by first | rfl | (simp [entryFrame, mkF, argsToLocals, Value.category]; done)) ?_
  refine ok_iloadN G d_method_4_code_0 rfl ?_
  refine ok_ifneN G d_method_4_code_1 (by decide) ?_
  refine ok_iconst G (0 : Int32) d_method_4_code_4 rfl ?_
  refine ok_newP G (aty := .char) (C.w1) d_method_4_code_5 (by decide) 0 (by decide) (by decide) (Nat.le_of_ble_eq_true rfl) (Nat.le_of_ble_eq_true rfl) ?_
  intro hp2 ob1 k_ob1 eq_ob1 K3 g_ob1 lb_ob1 V_ob1
  have ne_a_ob1 : a ≠ ob1 := Nat.ne_of_lt (Nat.lt_of_lt_of_le A.lt (Nat.le_of_eq eq_ob1.symm))
  replace A := A.keep K3 nin0
  replace V_ob1 : Arv Z hp2 ob1 k_ob1 .char (0 : Int32) [] (.int (0 : Int32)) := V_ob1.pad (pad_rep [] (.int (0 : Int32)) 0)
  exact ok_retA G rfl rfl rfl d_method_4_code_7 rfl ⟨_, _, rfl, lb_ob1, V_ob1⟩ (Nat.le_of_ble_eq_true rfl) (Nat.le_of_ble_eq_true rfl)
theorem d_method_4_code_8 : decode method_4_code 8 = .ok (.iload_n 1, 1) := by decide +kernel
theorem d_method_4_code_9 : decode method_4_code 9 = .ok (.iconst 1, 1) := by decide +kernel
theorem d_method_4_code_10 : decode method_4_code 10 = .ok (.if_icmp .ne 13, 3) := by decide +kernel
theorem d_method_4_code_13 : decode method_4_code 13 = .ok (.iconst 1, 1) := by decide +kernel
theorem d_method_4_code_14 : decode method_4_code 14 = .ok (.newarray .char, 2) := by decide +kernel
theorem d_method_4_code_16 : decode method_4_code 16 = .ok (.dup, 1) := by decide +kernel
theorem d_method_4_code_17 : decode method_4_code 17 = .ok (.iconst 0, 1) := by decide +kernel
theorem d_method_4_code_18 : decode method_4_code 18 = .ok (.aload_n 0, 1) := by decide +kernel
theorem d_method_4_code_19 : decode method_4_code 19 = .ok (.iconst 0, 1) := by decide +kernel
theorem d_method_4_code_20 : decode method_4_code 20 = .ok (.caload, 1) := by decide +kernel
theorem d_method_4_code_21 : decode method_4_code 21 = .ok (.castore, 1) := by decide +kernel
theorem d_method_4_code_22 : decode method_4_code 22 = .ok (.areturn, 1) := by decide +kernel
def R_c_take1 : Room := { frames := 0, cells := 1, slots := 1, locals := 0 }
set_option maxRecDepth 65536 in
set_option maxHeartbeats 40000000 in
theorem c_take1 {l : Launch} {Z : State} {a0 : Array Value} {n0 : Nat} {h0 : Heap} (C : Cx Z a0) (hO : Old Z n0 h0) {a : Addr} {ka : ClassId} {c0 c1 c2 c3 : Int32} {dv : Value} (A : Arv Z h0 a ka .char (4 : Int32) [.int c0, .int c1, .int c2, .int c3] dv) (l0 : Lat c0) (l1 : Lat c1) (l2 : Lat c2) (l3 : Lat c3) :
    Con false l Z [] n0 (⟨"com/example/loadstone/loadstone/LoadFileNamePinLaw", "take", "([CI)[C"⟩ : MethodName) method_4_code 2 (some (.array .char)) R_c_take1 #[(.ref a), (.int (1 : Int32))] h0 [] (fun v h => ∃ u ku, v = some (.ref u) ∧ h0.size ≤ u ∧ Arv Z h u ku .char (1 : Int32) [.int c0] (.int (0 : Int32))) := by
  refine Con.intro (a0 := a0) pl_b2 hO (fun q => nomatch q) ?_
  intro p e s m below meth c G
  refine ok_as (mkF m 0 #[.val (.ref a), .val (.int (1 : Int32))] []) (by first | rfl | (simp [entryFrame, mkF, argsToLocals, Value.category]; done)) ?_
  refine ok_iloadN G d_method_4_code_0 rfl ?_
  refine ok_ifneY G 8 d_method_4_code_1 (by decide) (by decide) (by decide) ?_
  refine ok_iloadN G d_method_4_code_8 rfl ?_
  refine ok_iconst G (1 : Int32) d_method_4_code_9 rfl ?_
  refine ok_icmpneN G d_method_4_code_10 (by decide) ?_
  refine ok_iconst G (1 : Int32) d_method_4_code_13 rfl ?_
  refine ok_newP G (aty := .char) (C.w1) d_method_4_code_14 (by decide) 1 (by decide) (by decide) (Nat.le_of_ble_eq_true rfl) (Nat.le_of_ble_eq_true rfl) ?_
  intro hp2 ob1 k_ob1 eq_ob1 K3 g_ob1 lb_ob1 V_ob1
  have ne_a_ob1 : a ≠ ob1 := Nat.ne_of_lt (Nat.lt_of_lt_of_le A.lt (Nat.le_of_eq eq_ob1.symm))
  replace A := A.keep K3 nin0
  replace V_ob1 : Arv Z hp2 ob1 k_ob1 .char (1 : Int32) [(.int (0 : Int32))] (.int (0 : Int32)) := V_ob1.pad (pad_rep [] (.int (0 : Int32)) 1)
  refine ok_dup G d_method_4_code_16 rfl ?_
  refine ok_iconst G (0 : Int32) d_method_4_code_17 rfl ?_
  refine ok_aloadN G d_method_4_code_18 rfl rfl ?_
  refine ok_iconst G (0 : Int32) d_method_4_code_19 rfl ?_
  refine ok_caload G c0 A ⟨by decide, by decide⟩ rfl d_method_4_code_20 ?_
  refine ok_castore G c0 0 V_ob1 ⟨by decide, by decide⟩ rfl (Nat.le_of_ble_eq_true rfl) (Lat.nar l0) d_method_4_code_21 g_ob1 (Or.inr lb_ob1) SafeFor.narrow ?_
  intro hp4 K5 Vn
  replace A := A.keep K5 (ninS ne_a_ob1 nin0)
  replace V_ob1 : Arv Z hp4 ob1 k_ob1 .char (1 : Int32) [(.int c0)] (.int (0 : Int32)) := Vn
  clear Vn
  exact ok_retA G rfl rfl rfl d_method_4_code_22 rfl ⟨_, _, rfl, lb_ob1, V_ob1⟩ (Nat.le_of_ble_eq_true rfl) (Nat.le_of_ble_eq_true rfl)
theorem d_method_4_code_23 : decode method_4_code 23 = .ok (.iload_n 1, 1) := by decide +kernel
theorem d_method_4_code_24 : decode method_4_code 24 = .ok (.iconst 2, 1) := by decide +kernel
theorem d_method_4_code_25 : decode method_4_code 25 = .ok (.if_icmp .ne 19, 3) := by decide +kernel
theorem d_method_4_code_28 : decode method_4_code 28 = .ok (.iconst 2, 1) := by decide +kernel
theorem d_method_4_code_29 : decode method_4_code 29 = .ok (.newarray .char, 2) := by decide +kernel
theorem d_method_4_code_31 : decode method_4_code 31 = .ok (.dup, 1) := by decide +kernel
theorem d_method_4_code_32 : decode method_4_code 32 = .ok (.iconst 0, 1) := by decide +kernel
theorem d_method_4_code_33 : decode method_4_code 33 = .ok (.aload_n 0, 1) := by decide +kernel
theorem d_method_4_code_34 : decode method_4_code 34 = .ok (.iconst 0, 1) := by decide +kernel
theorem d_method_4_code_35 : decode method_4_code 35 = .ok (.caload, 1) := by decide +kernel
theorem d_method_4_code_36 : decode method_4_code 36 = .ok (.castore, 1) := by decide +kernel
theorem d_method_4_code_37 : decode method_4_code 37 = .ok (.dup, 1) := by decide +kernel
theorem d_method_4_code_38 : decode method_4_code 38 = .ok (.iconst 1, 1) := by decide +kernel
theorem d_method_4_code_39 : decode method_4_code 39 = .ok (.aload_n 0, 1) := by decide +kernel
theorem d_method_4_code_40 : decode method_4_code 40 = .ok (.iconst 1, 1) := by decide +kernel
theorem d_method_4_code_41 : decode method_4_code 41 = .ok (.caload, 1) := by decide +kernel
theorem d_method_4_code_42 : decode method_4_code 42 = .ok (.castore, 1) := by decide +kernel
theorem d_method_4_code_43 : decode method_4_code 43 = .ok (.areturn, 1) := by decide +kernel
def R_c_take2 : Room := { frames := 0, cells := 1, slots := 2, locals := 0 }
set_option maxRecDepth 65536 in
set_option maxHeartbeats 40000000 in
theorem c_take2 {l : Launch} {Z : State} {a0 : Array Value} {n0 : Nat} {h0 : Heap} (C : Cx Z a0) (hO : Old Z n0 h0) {a : Addr} {ka : ClassId} {c0 c1 c2 c3 : Int32} {dv : Value} (A : Arv Z h0 a ka .char (4 : Int32) [.int c0, .int c1, .int c2, .int c3] dv) (l0 : Lat c0) (l1 : Lat c1) (l2 : Lat c2) (l3 : Lat c3) :
    Con false l Z [] n0 (⟨"com/example/loadstone/loadstone/LoadFileNamePinLaw", "take", "([CI)[C"⟩ : MethodName) method_4_code 2 (some (.array .char)) R_c_take2 #[(.ref a), (.int (2 : Int32))] h0 [] (fun v h => ∃ u ku, v = some (.ref u) ∧ h0.size ≤ u ∧ Arv Z h u ku .char (2 : Int32) [.int c0, .int c1] (.int (0 : Int32))) := by
  refine Con.intro (a0 := a0) pl_b2 hO (fun q => nomatch q) ?_
  intro p e s m below meth c G
  refine ok_as (mkF m 0 #[.val (.ref a), .val (.int (2 : Int32))] []) (by first | rfl | (simp [entryFrame, mkF, argsToLocals, Value.category]; done)) ?_
  refine ok_iloadN G d_method_4_code_0 rfl ?_
  refine ok_ifneY G 8 d_method_4_code_1 (by decide) (by decide) (by decide) ?_
  refine ok_iloadN G d_method_4_code_8 rfl ?_
  refine ok_iconst G (1 : Int32) d_method_4_code_9 rfl ?_
  refine ok_icmpneY G 23 d_method_4_code_10 (by decide) (by decide) (by decide) ?_
  refine ok_iloadN G d_method_4_code_23 rfl ?_
  refine ok_iconst G (2 : Int32) d_method_4_code_24 rfl ?_
  refine ok_icmpneN G d_method_4_code_25 (by decide) ?_
  refine ok_iconst G (2 : Int32) d_method_4_code_28 rfl ?_
  refine ok_newP G (aty := .char) (C.w1) d_method_4_code_29 (by decide) 2 (by decide) (by decide) (Nat.le_of_ble_eq_true rfl) (Nat.le_of_ble_eq_true rfl) ?_
  intro hp2 ob1 k_ob1 eq_ob1 K3 g_ob1 lb_ob1 V_ob1
  have ne_a_ob1 : a ≠ ob1 := Nat.ne_of_lt (Nat.lt_of_lt_of_le A.lt (Nat.le_of_eq eq_ob1.symm))
  replace A := A.keep K3 nin0
  replace V_ob1 : Arv Z hp2 ob1 k_ob1 .char (2 : Int32) [(.int (0 : Int32)), (.int (0 : Int32))] (.int (0 : Int32)) := V_ob1.pad (pad_rep [] (.int (0 : Int32)) 2)
  refine ok_dup G d_method_4_code_31 rfl ?_
  refine ok_iconst G (0 : Int32) d_method_4_code_32 rfl ?_
  refine ok_aloadN G d_method_4_code_33 rfl rfl ?_
  refine ok_iconst G (0 : Int32) d_method_4_code_34 rfl ?_
  refine ok_caload G c0 A ⟨by decide, by decide⟩ rfl d_method_4_code_35 ?_
  refine ok_castore G c0 0 V_ob1 ⟨by decide, by decide⟩ rfl (Nat.le_of_ble_eq_true rfl) (Lat.nar l0) d_method_4_code_36 g_ob1 (Or.inr lb_ob1) SafeFor.narrow ?_
  intro hp4 K5 Vn
  replace A := A.keep K5 (ninS ne_a_ob1 nin0)
  replace V_ob1 : Arv Z hp4 ob1 k_ob1 .char (2 : Int32) [(.int c0), (.int (0 : Int32))] (.int (0 : Int32)) := Vn
  clear Vn
  refine ok_dup G d_method_4_code_37 rfl ?_
  refine ok_iconst G (1 : Int32) d_method_4_code_38 rfl ?_
  refine ok_aloadN G d_method_4_code_39 rfl rfl ?_
  refine ok_iconst G (1 : Int32) d_method_4_code_40 rfl ?_
  refine ok_caload G c1 A ⟨by decide, by decide⟩ rfl d_method_4_code_41 ?_
  refine ok_castore G c1 1 V_ob1 ⟨by decide, by decide⟩ rfl (Nat.le_of_ble_eq_true rfl) (Lat.nar l1) d_method_4_code_42 g_ob1 (Or.inr lb_ob1) SafeFor.narrow ?_
  intro hp6 K7 Vn
  replace A := A.keep K7 (ninS ne_a_ob1 nin0)
  replace V_ob1 : Arv Z hp6 ob1 k_ob1 .char (2 : Int32) [(.int c0), (.int c1)] (.int (0 : Int32)) := Vn
  clear Vn
  exact ok_retA G rfl rfl rfl d_method_4_code_43 rfl ⟨_, _, rfl, lb_ob1, V_ob1⟩ (Nat.le_of_ble_eq_true rfl) (Nat.le_of_ble_eq_true rfl)
theorem d_method_4_code_44 : decode method_4_code 44 = .ok (.iload_n 1, 1) := by decide +kernel
theorem d_method_4_code_45 : decode method_4_code 45 = .ok (.iconst 3, 1) := by decide +kernel
theorem d_method_4_code_46 : decode method_4_code 46 = .ok (.if_icmp .ne 25, 3) := by decide +kernel
theorem d_method_4_code_49 : decode method_4_code 49 = .ok (.iconst 3, 1) := by decide +kernel
theorem d_method_4_code_50 : decode method_4_code 50 = .ok (.newarray .char, 2) := by decide +kernel
theorem d_method_4_code_52 : decode method_4_code 52 = .ok (.dup, 1) := by decide +kernel
theorem d_method_4_code_53 : decode method_4_code 53 = .ok (.iconst 0, 1) := by decide +kernel
theorem d_method_4_code_54 : decode method_4_code 54 = .ok (.aload_n 0, 1) := by decide +kernel
theorem d_method_4_code_55 : decode method_4_code 55 = .ok (.iconst 0, 1) := by decide +kernel
theorem d_method_4_code_56 : decode method_4_code 56 = .ok (.caload, 1) := by decide +kernel
theorem d_method_4_code_57 : decode method_4_code 57 = .ok (.castore, 1) := by decide +kernel
theorem d_method_4_code_58 : decode method_4_code 58 = .ok (.dup, 1) := by decide +kernel
theorem d_method_4_code_59 : decode method_4_code 59 = .ok (.iconst 1, 1) := by decide +kernel
theorem d_method_4_code_60 : decode method_4_code 60 = .ok (.aload_n 0, 1) := by decide +kernel
theorem d_method_4_code_61 : decode method_4_code 61 = .ok (.iconst 1, 1) := by decide +kernel
theorem d_method_4_code_62 : decode method_4_code 62 = .ok (.caload, 1) := by decide +kernel
theorem d_method_4_code_63 : decode method_4_code 63 = .ok (.castore, 1) := by decide +kernel
theorem d_method_4_code_64 : decode method_4_code 64 = .ok (.dup, 1) := by decide +kernel
theorem d_method_4_code_65 : decode method_4_code 65 = .ok (.iconst 2, 1) := by decide +kernel
theorem d_method_4_code_66 : decode method_4_code 66 = .ok (.aload_n 0, 1) := by decide +kernel
theorem d_method_4_code_67 : decode method_4_code 67 = .ok (.iconst 2, 1) := by decide +kernel
theorem d_method_4_code_68 : decode method_4_code 68 = .ok (.caload, 1) := by decide +kernel
theorem d_method_4_code_69 : decode method_4_code 69 = .ok (.castore, 1) := by decide +kernel
theorem d_method_4_code_70 : decode method_4_code 70 = .ok (.areturn, 1) := by decide +kernel
def R_c_take3 : Room := { frames := 0, cells := 1, slots := 3, locals := 0 }
set_option maxRecDepth 65536 in
set_option maxHeartbeats 40000000 in
theorem c_take3 {l : Launch} {Z : State} {a0 : Array Value} {n0 : Nat} {h0 : Heap} (C : Cx Z a0) (hO : Old Z n0 h0) {a : Addr} {ka : ClassId} {c0 c1 c2 c3 : Int32} {dv : Value} (A : Arv Z h0 a ka .char (4 : Int32) [.int c0, .int c1, .int c2, .int c3] dv) (l0 : Lat c0) (l1 : Lat c1) (l2 : Lat c2) (l3 : Lat c3) :
    Con false l Z [] n0 (⟨"com/example/loadstone/loadstone/LoadFileNamePinLaw", "take", "([CI)[C"⟩ : MethodName) method_4_code 2 (some (.array .char)) R_c_take3 #[(.ref a), (.int (3 : Int32))] h0 [] (fun v h => ∃ u ku, v = some (.ref u) ∧ h0.size ≤ u ∧ Arv Z h u ku .char (3 : Int32) [.int c0, .int c1, .int c2] (.int (0 : Int32))) := by
  refine Con.intro (a0 := a0) pl_b2 hO (fun q => nomatch q) ?_
  intro p e s m below meth c G
  refine ok_as (mkF m 0 #[.val (.ref a), .val (.int (3 : Int32))] []) (by first | rfl | (simp [entryFrame, mkF, argsToLocals, Value.category]; done)) ?_
  refine ok_iloadN G d_method_4_code_0 rfl ?_
  refine ok_ifneY G 8 d_method_4_code_1 (by decide) (by decide) (by decide) ?_
  refine ok_iloadN G d_method_4_code_8 rfl ?_
  refine ok_iconst G (1 : Int32) d_method_4_code_9 rfl ?_
  refine ok_icmpneY G 23 d_method_4_code_10 (by decide) (by decide) (by decide) ?_
  refine ok_iloadN G d_method_4_code_23 rfl ?_
  refine ok_iconst G (2 : Int32) d_method_4_code_24 rfl ?_
  refine ok_icmpneY G 44 d_method_4_code_25 (by decide) (by decide) (by decide) ?_
  refine ok_iloadN G d_method_4_code_44 rfl ?_
  refine ok_iconst G (3 : Int32) d_method_4_code_45 rfl ?_
  refine ok_icmpneN G d_method_4_code_46 (by decide) ?_
  refine ok_iconst G (3 : Int32) d_method_4_code_49 rfl ?_
  refine ok_newP G (aty := .char) (C.w1) d_method_4_code_50 (by decide) 3 (by decide) (by decide) (Nat.le_of_ble_eq_true rfl) (Nat.le_of_ble_eq_true rfl) ?_
  intro hp2 ob1 k_ob1 eq_ob1 K3 g_ob1 lb_ob1 V_ob1
  have ne_a_ob1 : a ≠ ob1 := Nat.ne_of_lt (Nat.lt_of_lt_of_le A.lt (Nat.le_of_eq eq_ob1.symm))
  replace A := A.keep K3 nin0
  replace V_ob1 : Arv Z hp2 ob1 k_ob1 .char (3 : Int32) [(.int (0 : Int32)), (.int (0 : Int32)), (.int (0 : Int32))] (.int (0 : Int32)) := V_ob1.pad (pad_rep [] (.int (0 : Int32)) 3)
  refine ok_dup G d_method_4_code_52 rfl ?_
  refine ok_iconst G (0 : Int32) d_method_4_code_53 rfl ?_
  refine ok_aloadN G d_method_4_code_54 rfl rfl ?_
  refine ok_iconst G (0 : Int32) d_method_4_code_55 rfl ?_
  refine ok_caload G c0 A ⟨by decide, by decide⟩ rfl d_method_4_code_56 ?_
  refine ok_castore G c0 0 V_ob1 ⟨by decide, by decide⟩ rfl (Nat.le_of_ble_eq_true rfl) (Lat.nar l0) d_method_4_code_57 g_ob1 (Or.inr lb_ob1) SafeFor.narrow ?_
  intro hp4 K5 Vn
  replace A := A.keep K5 (ninS ne_a_ob1 nin0)
  replace V_ob1 : Arv Z hp4 ob1 k_ob1 .char (3 : Int32) [(.int c0), (.int (0 : Int32)), (.int (0 : Int32))] (.int (0 : Int32)) := Vn
  clear Vn
  refine ok_dup G d_method_4_code_58 rfl ?_
  refine ok_iconst G (1 : Int32) d_method_4_code_59 rfl ?_
  refine ok_aloadN G d_method_4_code_60 rfl rfl ?_
  refine ok_iconst G (1 : Int32) d_method_4_code_61 rfl ?_
  refine ok_caload G c1 A ⟨by decide, by decide⟩ rfl d_method_4_code_62 ?_
  refine ok_castore G c1 1 V_ob1 ⟨by decide, by decide⟩ rfl (Nat.le_of_ble_eq_true rfl) (Lat.nar l1) d_method_4_code_63 g_ob1 (Or.inr lb_ob1) SafeFor.narrow ?_
  intro hp6 K7 Vn
  replace A := A.keep K7 (ninS ne_a_ob1 nin0)
  replace V_ob1 : Arv Z hp6 ob1 k_ob1 .char (3 : Int32) [(.int c0), (.int c1), (.int (0 : Int32))] (.int (0 : Int32)) := Vn
  clear Vn
  refine ok_dup G d_method_4_code_64 rfl ?_
  refine ok_iconst G (2 : Int32) d_method_4_code_65 rfl ?_
  refine ok_aloadN G d_method_4_code_66 rfl rfl ?_
  refine ok_iconst G (2 : Int32) d_method_4_code_67 rfl ?_
  refine ok_caload G c2 A ⟨by decide, by decide⟩ rfl d_method_4_code_68 ?_
  refine ok_castore G c2 2 V_ob1 ⟨by decide, by decide⟩ rfl (Nat.le_of_ble_eq_true rfl) (Lat.nar l2) d_method_4_code_69 g_ob1 (Or.inr lb_ob1) SafeFor.narrow ?_
  intro hp8 K9 Vn
  replace A := A.keep K9 (ninS ne_a_ob1 nin0)
  replace V_ob1 : Arv Z hp8 ob1 k_ob1 .char (3 : Int32) [(.int c0), (.int c1), (.int c2)] (.int (0 : Int32)) := Vn
  clear Vn
  exact ok_retA G rfl rfl rfl d_method_4_code_70 rfl ⟨_, _, rfl, lb_ob1, V_ob1⟩ (Nat.le_of_ble_eq_true rfl) (Nat.le_of_ble_eq_true rfl)
theorem d_method_4_code_71 : decode method_4_code 71 = .ok (.iconst 4, 1) := by decide +kernel
theorem d_method_4_code_72 : decode method_4_code 72 = .ok (.newarray .char, 2) := by decide +kernel
theorem d_method_4_code_74 : decode method_4_code 74 = .ok (.dup, 1) := by decide +kernel
theorem d_method_4_code_75 : decode method_4_code 75 = .ok (.iconst 0, 1) := by decide +kernel
theorem d_method_4_code_76 : decode method_4_code 76 = .ok (.aload_n 0, 1) := by decide +kernel
theorem d_method_4_code_77 : decode method_4_code 77 = .ok (.iconst 0, 1) := by decide +kernel
theorem d_method_4_code_78 : decode method_4_code 78 = .ok (.caload, 1) := by decide +kernel
theorem d_method_4_code_79 : decode method_4_code 79 = .ok (.castore, 1) := by decide +kernel
theorem d_method_4_code_80 : decode method_4_code 80 = .ok (.dup, 1) := by decide +kernel
theorem d_method_4_code_81 : decode method_4_code 81 = .ok (.iconst 1, 1) := by decide +kernel
theorem d_method_4_code_82 : decode method_4_code 82 = .ok (.aload_n 0, 1) := by decide +kernel
theorem d_method_4_code_83 : decode method_4_code 83 = .ok (.iconst 1, 1) := by decide +kernel
theorem d_method_4_code_84 : decode method_4_code 84 = .ok (.caload, 1) := by decide +kernel
theorem d_method_4_code_85 : decode method_4_code 85 = .ok (.castore, 1) := by decide +kernel
theorem d_method_4_code_86 : decode method_4_code 86 = .ok (.dup, 1) := by decide +kernel
theorem d_method_4_code_87 : decode method_4_code 87 = .ok (.iconst 2, 1) := by decide +kernel
theorem d_method_4_code_88 : decode method_4_code 88 = .ok (.aload_n 0, 1) := by decide +kernel
theorem d_method_4_code_89 : decode method_4_code 89 = .ok (.iconst 2, 1) := by decide +kernel
theorem d_method_4_code_90 : decode method_4_code 90 = .ok (.caload, 1) := by decide +kernel
theorem d_method_4_code_91 : decode method_4_code 91 = .ok (.castore, 1) := by decide +kernel
theorem d_method_4_code_92 : decode method_4_code 92 = .ok (.dup, 1) := by decide +kernel
theorem d_method_4_code_93 : decode method_4_code 93 = .ok (.iconst 3, 1) := by decide +kernel
theorem d_method_4_code_94 : decode method_4_code 94 = .ok (.aload_n 0, 1) := by decide +kernel
theorem d_method_4_code_95 : decode method_4_code 95 = .ok (.iconst 3, 1) := by decide +kernel
theorem d_method_4_code_96 : decode method_4_code 96 = .ok (.caload, 1) := by decide +kernel
theorem d_method_4_code_97 : decode method_4_code 97 = .ok (.castore, 1) := by decide +kernel
theorem d_method_4_code_98 : decode method_4_code 98 = .ok (.areturn, 1) := by decide +kernel
def R_c_take4 : Room := { frames := 0, cells := 1, slots := 4, locals := 0 }
set_option maxRecDepth 65536 in
set_option maxHeartbeats 40000000 in
theorem c_take4 {l : Launch} {Z : State} {a0 : Array Value} {n0 : Nat} {h0 : Heap} (C : Cx Z a0) (hO : Old Z n0 h0) {a : Addr} {ka : ClassId} {c0 c1 c2 c3 : Int32} {dv : Value} (A : Arv Z h0 a ka .char (4 : Int32) [.int c0, .int c1, .int c2, .int c3] dv) (l0 : Lat c0) (l1 : Lat c1) (l2 : Lat c2) (l3 : Lat c3) :
    Con false l Z [] n0 (⟨"com/example/loadstone/loadstone/LoadFileNamePinLaw", "take", "([CI)[C"⟩ : MethodName) method_4_code 2 (some (.array .char)) R_c_take4 #[(.ref a), (.int (4 : Int32))] h0 [] (fun v h => ∃ u ku, v = some (.ref u) ∧ h0.size ≤ u ∧ Arv Z h u ku .char (4 : Int32) [.int c0, .int c1, .int c2, .int c3] (.int (0 : Int32))) := by
  refine Con.intro (a0 := a0) pl_b2 hO (fun q => nomatch q) ?_
  intro p e s m below meth c G
  refine ok_as (mkF m 0 #[.val (.ref a), .val (.int (4 : Int32))] []) (by first | rfl | (simp [entryFrame, mkF, argsToLocals, Value.category]; done)) ?_
  refine ok_iloadN G d_method_4_code_0 rfl ?_
  refine ok_ifneY G 8 d_method_4_code_1 (by decide) (by decide) (by decide) ?_
  refine ok_iloadN G d_method_4_code_8 rfl ?_
  refine ok_iconst G (1 : Int32) d_method_4_code_9 rfl ?_
  refine ok_icmpneY G 23 d_method_4_code_10 (by decide) (by decide) (by decide) ?_
  refine ok_iloadN G d_method_4_code_23 rfl ?_
  refine ok_iconst G (2 : Int32) d_method_4_code_24 rfl ?_
  refine ok_icmpneY G 44 d_method_4_code_25 (by decide) (by decide) (by decide) ?_
  refine ok_iloadN G d_method_4_code_44 rfl ?_
  refine ok_iconst G (3 : Int32) d_method_4_code_45 rfl ?_
  refine ok_icmpneY G 71 d_method_4_code_46 (by decide) (by decide) (by decide) ?_
  refine ok_iconst G (4 : Int32) d_method_4_code_71 rfl ?_
  refine ok_newP G (aty := .char) (C.w1) d_method_4_code_72 (by decide) 4 (by decide) (by decide) (Nat.le_of_ble_eq_true rfl) (Nat.le_of_ble_eq_true rfl) ?_
  intro hp2 ob1 k_ob1 eq_ob1 K3 g_ob1 lb_ob1 V_ob1
  have ne_a_ob1 : a ≠ ob1 := Nat.ne_of_lt (Nat.lt_of_lt_of_le A.lt (Nat.le_of_eq eq_ob1.symm))
  replace A := A.keep K3 nin0
  replace V_ob1 : Arv Z hp2 ob1 k_ob1 .char (4 : Int32) [(.int (0 : Int32)), (.int (0 : Int32)), (.int (0 : Int32)), (.int (0 : Int32))] (.int (0 : Int32)) := V_ob1.pad (pad_rep [] (.int (0 : Int32)) 4)
  refine ok_dup G d_method_4_code_74 rfl ?_
  refine ok_iconst G (0 : Int32) d_method_4_code_75 rfl ?_
  refine ok_aloadN G d_method_4_code_76 rfl rfl ?_
  refine ok_iconst G (0 : Int32) d_method_4_code_77 rfl ?_
  refine ok_caload G c0 A ⟨by decide, by decide⟩ rfl d_method_4_code_78 ?_
  refine ok_castore G c0 0 V_ob1 ⟨by decide, by decide⟩ rfl (Nat.le_of_ble_eq_true rfl) (Lat.nar l0) d_method_4_code_79 g_ob1 (Or.inr lb_ob1) SafeFor.narrow ?_
  intro hp4 K5 Vn
  replace A := A.keep K5 (ninS ne_a_ob1 nin0)
  replace V_ob1 : Arv Z hp4 ob1 k_ob1 .char (4 : Int32) [(.int c0), (.int (0 : Int32)), (.int (0 : Int32)), (.int (0 : Int32))] (.int (0 : Int32)) := Vn
  clear Vn
  refine ok_dup G d_method_4_code_80 rfl ?_
  refine ok_iconst G (1 : Int32) d_method_4_code_81 rfl ?_
  refine ok_aloadN G d_method_4_code_82 rfl rfl ?_
  refine ok_iconst G (1 : Int32) d_method_4_code_83 rfl ?_
  refine ok_caload G c1 A ⟨by decide, by decide⟩ rfl d_method_4_code_84 ?_
  refine ok_castore G c1 1 V_ob1 ⟨by decide, by decide⟩ rfl (Nat.le_of_ble_eq_true rfl) (Lat.nar l1) d_method_4_code_85 g_ob1 (Or.inr lb_ob1) SafeFor.narrow ?_
  intro hp6 K7 Vn
  replace A := A.keep K7 (ninS ne_a_ob1 nin0)
  replace V_ob1 : Arv Z hp6 ob1 k_ob1 .char (4 : Int32) [(.int c0), (.int c1), (.int (0 : Int32)), (.int (0 : Int32))] (.int (0 : Int32)) := Vn
  clear Vn
  refine ok_dup G d_method_4_code_86 rfl ?_
  refine ok_iconst G (2 : Int32) d_method_4_code_87 rfl ?_
  refine ok_aloadN G d_method_4_code_88 rfl rfl ?_
  refine ok_iconst G (2 : Int32) d_method_4_code_89 rfl ?_
  refine ok_caload G c2 A ⟨by decide, by decide⟩ rfl d_method_4_code_90 ?_
  refine ok_castore G c2 2 V_ob1 ⟨by decide, by decide⟩ rfl (Nat.le_of_ble_eq_true rfl) (Lat.nar l2) d_method_4_code_91 g_ob1 (Or.inr lb_ob1) SafeFor.narrow ?_
  intro hp8 K9 Vn
  replace A := A.keep K9 (ninS ne_a_ob1 nin0)
  replace V_ob1 : Arv Z hp8 ob1 k_ob1 .char (4 : Int32) [(.int c0), (.int c1), (.int c2), (.int (0 : Int32))] (.int (0 : Int32)) := Vn
  clear Vn
  refine ok_dup G d_method_4_code_92 rfl ?_
  refine ok_iconst G (3 : Int32) d_method_4_code_93 rfl ?_
  refine ok_aloadN G d_method_4_code_94 rfl rfl ?_
  refine ok_iconst G (3 : Int32) d_method_4_code_95 rfl ?_
  refine ok_caload G c3 A ⟨by decide, by decide⟩ rfl d_method_4_code_96 ?_
  refine ok_castore G c3 3 V_ob1 ⟨by decide, by decide⟩ rfl (Nat.le_of_ble_eq_true rfl) (Lat.nar l3) d_method_4_code_97 g_ob1 (Or.inr lb_ob1) SafeFor.narrow ?_
  intro hp10 K11 Vn
  replace A := A.keep K11 (ninS ne_a_ob1 nin0)
  replace V_ob1 : Arv Z hp10 ob1 k_ob1 .char (4 : Int32) [(.int c0), (.int c1), (.int c2), (.int c3)] (.int (0 : Int32)) := Vn
  clear Vn
  exact ok_retA G rfl rfl rfl d_method_4_code_98 rfl ⟨_, _, rfl, lb_ob1, V_ob1⟩ (Nat.le_of_ble_eq_true rfl) (Nat.le_of_ble_eq_true rfl)
theorem d_method_5_code_0 : decode method_5_code 0 = .ok (.iload_n 3, 1) := by decide +kernel
theorem d_method_5_code_1 : decode method_5_code 1 = .ok (.iload 4, 2) := by decide +kernel
theorem d_method_5_code_3 : decode method_5_code 3 = .ok (.if_icmp .ge 16, 3) := by decide +kernel
theorem d_method_5_code_19 : decode method_5_code 19 = .ok (.iconst 1, 1) := by decide +kernel
theorem d_method_5_code_20 : decode method_5_code 20 = .ok (.goto 4, 3) := by decide +kernel
theorem d_method_5_code_24 : decode method_5_code 24 = .ok (.ireturn, 1) := by decide +kernel
def R_c_sameY : Room := { frames := 0, cells := 0, slots := 0, locals := 0 }
theorem pl_b19 : plainFor (⟨"com/example/loadstone/loadstone/LoadFileNamePinLaw", "same", "(Ljava/lang/String;[CIII)Z"⟩ : MethodName) = true := plainFor_of_name (by first | (simp [plainName, overriddenIn]; done) | decide +kernel)
set_option maxRecDepth 65536 in
set_option maxHeartbeats 40000000 in
theorem c_sameY {l : Launch} {Z : State} {a0 : Array Value} {n0 : Nat} {h0 : Heap} (C : Cx Z a0) (hO : Old Z n0 h0) {x a : Addr} {p0 i n : Int32} (hge : ¬ i < n) :
    Con false l Z [] n0 (⟨"com/example/loadstone/loadstone/LoadFileNamePinLaw", "same", "(Ljava/lang/String;[CIII)Z"⟩ : MethodName) method_5_code 5 (some .boolean) R_c_sameY #[(.ref x), (.ref a), (.int p0), (.int i), (.int n)] h0 [] (fun v h => v = some (.int 1) ∧ h0 = h) := by
  refine Con.intro (a0 := a0) pl_b19 hO (fun q => nomatch q) ?_
  intro p e s m below meth c G
  refine ok_as (mkF m 0 #[.val (.ref x), .val (.ref a), .val (.int p0), .val (.int i), .val (.int n)] []) (by first | rfl | (simp [entryFrame, mkF, argsToLocals, Value.category]; done)) ?_
  refine ok_iloadN G d_method_5_code_0 rfl ?_
  refine ok_iload G d_method_5_code_1 rfl ?_
  refine ok_icmpgeY G 19 d_method_5_code_3 (by decide) (by decide) hge ?_
  refine ok_iconst G (1 : Int32) d_method_5_code_19 rfl ?_
  refine ok_goto G 24 d_method_5_code_20 (by decide) (by decide) ?_
  exact ok_retN G rfl (by simp) d_method_5_code_24 rfl ⟨rfl, rfl⟩ (Nat.le_of_ble_eq_true rfl) (Nat.le_of_ble_eq_true rfl)
theorem d_method_5_code_6 : decode method_5_code 6 = .ok (.aload_n 0, 1) := by decide +kernel
theorem d_method_5_code_7 : decode method_5_code 7 = .ok (.iload_n 3, 1) := by decide +kernel
theorem d_method_5_code_8 : decode method_5_code 8 = .ok (.invokevirtual 37, 3) := by decide +kernel
theorem pd21 : parseMethodDescriptor "(I)C" = some ⟨[.int], some .char⟩ := by decide +kernel
theorem d_method_5_code_11 : decode method_5_code 11 = .ok (.aload_n 1, 1) := by decide +kernel
theorem d_method_5_code_12 : decode method_5_code 12 = .ok (.iload_n 2, 1) := by decide +kernel
theorem d_method_5_code_13 : decode method_5_code 13 = .ok (.iload_n 3, 1) := by decide +kernel
theorem d_method_5_code_14 : decode method_5_code 14 = .ok (.iadd, 1) := by decide +kernel
theorem d_method_5_code_15 : decode method_5_code 15 = .ok (.caload, 1) := by decide +kernel
theorem d_method_5_code_16 : decode method_5_code 16 = .ok (.if_icmp .ne 7, 3) := by decide +kernel
def R_c_sameC : Room := { frames := 4, cells := 0, slots := 0, locals := 53 }
set_option maxRecDepth 65536 in
set_option maxHeartbeats 40000000 in
theorem c_sameC {l : Launch} {Z : State} {a0 : Array Value} {n0 : Nat} {h0 : Heap} (C : Cx Z a0) (hO : Old Z n0 h0) {x t a : Addr} {ka : ClassId} {p0 i n z ch : Int32} {cs : List Int32} {vs : List Value} {dv : Value} (S : LStr Z h0 x t cs) (A : Arv Z h0 a ka .char z vs dv) (hlt : i < n) (kk : Nat) (hk : kk < cs.length) (hki : i = Int32.ofNat kk) (hck : cs.getD kk 0 = ch) (hj : ¬ (p0 + i) < 0 ∧ (p0 + i) < z) (hv : vs.getD (p0 + i).toNatClampNeg dv = .int ch) :
    Con false l Z [] n0 (⟨"com/example/loadstone/loadstone/LoadFileNamePinLaw", "same", "(Ljava/lang/String;[CIII)Z"⟩ : MethodName) method_5_code 5 (some .boolean) R_c_sameC #[(.ref x), (.ref a), (.int p0), (.int i), (.int n)] h0 [] (fun v h => v = some (.int 1) ∧ h0 = h) := by
  refine Con.intro (a0 := a0) pl_b19 hO (fun q => nomatch q) ?_
  intro p e s m below meth c G
  refine ok_as (mkF m 0 #[.val (.ref x), .val (.ref a), .val (.int p0), .val (.int i), .val (.int n)] []) (by first | rfl | (simp [entryFrame, mkF, argsToLocals, Value.category]; done)) ?_
  refine ok_iloadN G d_method_5_code_0 rfl ?_
  refine ok_iload G d_method_5_code_1 rfl ?_
  refine ok_icmpgeN G d_method_5_code_3 hlt ?_
  refine ok_aloadN G d_method_5_code_6 rfl rfl ?_
  refine ok_iloadN G d_method_5_code_7 rfl ?_
  refine ok_virtual G (a := x) (y0 := (⟨"java/lang/String", "charAt", "(I)C"⟩ : MethodName)) (y := (⟨"java/lang/String", "charAt", "(I)C"⟩ : MethodName)) (argsL := [(.int i)]) (rest := []) S.exa (C.w125) (C.w126) (C.w128) (fun vm hZ => notFace_of_selects (args := #[]) (mvT (s := s.setVm vm) hZ (C.w128))) (C.w127) (C.w8) (C.w129) (by decide) pd21 (c_charAt (ch := ch) C hO S kk hk hki hck) rfl rfl rfl d_method_5_code_8 (Nat.le_of_ble_eq_true rfl) (Nat.le_of_ble_eq_true rfl) (Nat.le_of_ble_eq_true rfl) (Nat.le_of_ble_eq_true rfl) (fun _ q => nomatch q) ?_
  rintro _ _ _ ⟨rfl, rfl⟩
  refine ok_as (mkF m 11 #[.val (.ref x), .val (.ref a), .val (.int p0), .val (.int i), .val (.int n)] [(.int ch)]) rfl ?_
  refine ok_aloadN G d_method_5_code_11 rfl rfl ?_
  refine ok_iloadN G d_method_5_code_12 rfl ?_
  refine ok_iloadN G d_method_5_code_13 rfl ?_
  refine ok_iadd G d_method_5_code_14 ?_
  refine ok_caload G ch A hj hv d_method_5_code_15 ?_
  refine ok_icmpneN G d_method_5_code_16 rfl ?_
  refine ok_iconst G (1 : Int32) d_method_5_code_19 rfl ?_
  refine ok_goto G 24 d_method_5_code_20 (by decide) (by decide) ?_
  exact ok_retN G rfl (by simp) d_method_5_code_24 rfl ⟨rfl, rfl⟩ (Nat.le_of_ble_eq_true rfl) (Nat.le_of_ble_eq_true rfl)
theorem pd22 : parseMethodDescriptor "([CI)[C" = some ⟨[(.array .char), .int], some (.array .char)⟩ := by decide +kernel
theorem pd23 : parseMethodDescriptor "([C)V" = some ⟨[(.array .char)], none⟩ := by decide +kernel
theorem pd24 : parseMethodDescriptor "(Ljava/lang/String;)Ljava/lang/String;" = some ⟨[(.object "java/lang/String")], some (.object "java/lang/String")⟩ := by decide +kernel
theorem pd25 : parseMethodDescriptor "(Ljava/lang/String;[CIII)Z" = some ⟨[(.object "java/lang/String"), (.array .char), .int, .int, .int], some .boolean⟩ := by decide +kernel
theorem pl_b0 : plainFor x = true := plainFor_of_name (show plainName "com/example/loadstone/loadstone/LoadFileNamePinLaw" = true by first | (simp [plainName, overriddenIn]; done) | decide +kernel)
set_option maxRecDepth 65536 in
set_option maxHeartbeats 40000000 in
theorem c_law {l : Launch} {Z : State} {a0 : Array Value} {n0 : Nat} {h0 : Heap} (C : Cx Z a0) (hO : Old Z n0 h0) (hE : EW Z a0 consts_1) {i0 i1 i2 i3 i4 : Int32} :
    Con true l Z consts_1 n0 x code maxLocals ret room_1 #[(.int i0), (.int i1), (.int i2), (.int i3), (.int i4)] h0 [] (fun v h => v = some (.int 1)) := by
  refine Con.intro (a0 := a0) pl_b0 hO (fun _ => hE) ?_
  intro p e s m below meth c G
  refine ok_as (mkF m 0 #[.val (.int i0), .val (.int i1), .val (.int i2), .val (.int i3), .val (.int i4), .unset, .unset, .unset, .unset, .unset, .unset, .unset] []) (by first | rfl | (simp [entryFrame, mkF, argsToLocals, Value.category, maxLocals]; done)) ?_
  refine ok_iloadN G at_0 rfl ?_
  refine ok_ldcI G (C.w0) at_1 ?_
  refine ok_iand G at_3 ?_
  refine ok_iconst G (5 : Int32) at_4 rfl ?_
  refine ok_irem G at_5 (by decide) ?_
  refine ok_istore G #[.val (.int i0), .val (.int i1), .val (.int i2), .val (.int i3), .val (.int i4), .val (.int ((i0 &&& (2147483647 : Int32)) % (5 : Int32))), .unset, .unset, .unset, .unset, .unset, .unset] at_6 rfl ?_
  rcases own_five (own_rem5 i0) with hl | hl | hl | hl | hl
  · skip
    rw [hl]
    refine ok_iconst G (4 : Int32) at_8 rfl ?_
    refine ok_newP G (aty := .char) (C.w1) at_9 (by decide) 4 (by decide) (by decide) (Nat.le_of_ble_eq_true rfl) (Nat.le_of_ble_eq_true rfl) ?_
    intro hp2 ob1 k_ob1 eq_ob1 K3 g_ob1 lb_ob1 V_ob1
    replace V_ob1 : Arv Z hp2 ob1 k_ob1 .char (4 : Int32) [(.int (0 : Int32)), (.int (0 : Int32)), (.int (0 : Int32)), (.int (0 : Int32))] (.int (0 : Int32)) := V_ob1.pad (pad_rep [] (.int (0 : Int32)) 4)
    refine ok_dup G at_11 rfl ?_
    refine ok_iconst G (0 : Int32) at_12 rfl ?_
    refine ok_iloadN G at_13 rfl ?_
    refine ok_old (fun hO_hp2 => ?_)
    refine ok_static G (argsL := [(.int i1)]) (rest := [(.int (0 : Int32)), (.ref ob1), (.ref ob1)]) (C.w2) (C.w3) (C.w4) (C.w5) (by decide) pd21 (c_draw C hO_hp2) rfl rfl rfl at_14 (Nat.le_of_ble_eq_true rfl) (Nat.le_of_ble_eq_true rfl) (Nat.le_of_ble_eq_true rfl) (Nat.le_of_ble_eq_true rfl) (fun _ q => nomatch q) ?_
    rintro _ _ _ ⟨chr4, rfl, lchr4, rfl⟩
    refine ok_as (mkF m 17 #[.val (.int i0), .val (.int i1), .val (.int i2), .val (.int i3), .val (.int i4), .val (.int (0 : Int32)), .unset, .unset, .unset, .unset, .unset, .unset] [(.int chr4), (.int (0 : Int32)), (.ref ob1), (.ref ob1)]) rfl ?_
    refine ok_castore G chr4 0 V_ob1 ⟨by decide, by decide⟩ rfl (Nat.le_of_ble_eq_true rfl) (Lat.nar lchr4) at_17 g_ob1 (Or.inr lb_ob1) (SafeFor.mem (List.mem_of_getElem? (i := 0) rfl)) ?_
    intro hp7 K8 Vn
    replace V_ob1 : Arv Z hp7 ob1 k_ob1 .char (4 : Int32) [(.int chr4), (.int (0 : Int32)), (.int (0 : Int32)), (.int (0 : Int32))] (.int (0 : Int32)) := Vn
    clear Vn
    refine ok_dup G at_18 rfl ?_
    refine ok_iconst G (1 : Int32) at_19 rfl ?_
    refine ok_iloadN G at_20 rfl ?_
    refine ok_old (fun hO_hp7 => ?_)
    refine ok_static G (argsL := [(.int i2)]) (rest := [(.int (1 : Int32)), (.ref ob1), (.ref ob1)]) (C.w2) (C.w3) (C.w4) (C.w5) (by decide) pd21 (c_draw C hO_hp7) rfl rfl rfl at_21 (Nat.le_of_ble_eq_true rfl) (Nat.le_of_ble_eq_true rfl) (Nat.le_of_ble_eq_true rfl) (Nat.le_of_ble_eq_true rfl) (fun _ q => nomatch q) ?_
    rintro _ _ _ ⟨chr9, rfl, lchr9, rfl⟩
    refine ok_as (mkF m 24 #[.val (.int i0), .val (.int i1), .val (.int i2), .val (.int i3), .val (.int i4), .val (.int (0 : Int32)), .unset, .unset, .unset, .unset, .unset, .unset] [(.int chr9), (.int (1 : Int32)), (.ref ob1), (.ref ob1)]) rfl ?_
    refine ok_castore G chr9 1 V_ob1 ⟨by decide, by decide⟩ rfl (Nat.le_of_ble_eq_true rfl) (Lat.nar lchr9) at_24 g_ob1 (Or.inr lb_ob1) (SafeFor.mem (List.mem_of_getElem? (i := 0) rfl)) ?_
    intro hp12 K13 Vn
    replace V_ob1 : Arv Z hp12 ob1 k_ob1 .char (4 : Int32) [(.int chr4), (.int chr9), (.int (0 : Int32)), (.int (0 : Int32))] (.int (0 : Int32)) := Vn
    clear Vn
    refine ok_dup G at_25 rfl ?_
    refine ok_iconst G (2 : Int32) at_26 rfl ?_
    refine ok_iloadN G at_27 rfl ?_
    refine ok_old (fun hO_hp12 => ?_)
    refine ok_static G (argsL := [(.int i3)]) (rest := [(.int (2 : Int32)), (.ref ob1), (.ref ob1)]) (C.w2) (C.w3) (C.w4) (C.w5) (by decide) pd21 (c_draw C hO_hp12) rfl rfl rfl at_28 (Nat.le_of_ble_eq_true rfl) (Nat.le_of_ble_eq_true rfl) (Nat.le_of_ble_eq_true rfl) (Nat.le_of_ble_eq_true rfl) (fun _ q => nomatch q) ?_
    rintro _ _ _ ⟨chr14, rfl, lchr14, rfl⟩
    refine ok_as (mkF m 31 #[.val (.int i0), .val (.int i1), .val (.int i2), .val (.int i3), .val (.int i4), .val (.int (0 : Int32)), .unset, .unset, .unset, .unset, .unset, .unset] [(.int chr14), (.int (2 : Int32)), (.ref ob1), (.ref ob1)]) rfl ?_
    refine ok_castore G chr14 2 V_ob1 ⟨by decide, by decide⟩ rfl (Nat.le_of_ble_eq_true rfl) (Lat.nar lchr14) at_31 g_ob1 (Or.inr lb_ob1) (SafeFor.mem (List.mem_of_getElem? (i := 0) rfl)) ?_
    intro hp17 K18 Vn
    replace V_ob1 : Arv Z hp17 ob1 k_ob1 .char (4 : Int32) [(.int chr4), (.int chr9), (.int chr14), (.int (0 : Int32))] (.int (0 : Int32)) := Vn
    clear Vn
    refine ok_dup G at_32 rfl ?_
    refine ok_iconst G (3 : Int32) at_33 rfl ?_
    refine ok_iload G at_34 rfl ?_
    refine ok_old (fun hO_hp17 => ?_)
    refine ok_static G (argsL := [(.int i4)]) (rest := [(.int (3 : Int32)), (.ref ob1), (.ref ob1)]) (C.w2) (C.w3) (C.w4) (C.w5) (by decide) pd21 (c_draw C hO_hp17) rfl rfl rfl at_36 (Nat.le_of_ble_eq_true rfl) (Nat.le_of_ble_eq_true rfl) (Nat.le_of_ble_eq_true rfl) (Nat.le_of_ble_eq_true rfl) (fun _ q => nomatch q) ?_
    rintro _ _ _ ⟨chr19, rfl, lchr19, rfl⟩
    refine ok_as (mkF m 39 #[.val (.int i0), .val (.int i1), .val (.int i2), .val (.int i3), .val (.int i4), .val (.int (0 : Int32)), .unset, .unset, .unset, .unset, .unset, .unset] [(.int chr19), (.int (3 : Int32)), (.ref ob1), (.ref ob1)]) rfl ?_
    refine ok_castore G chr19 3 V_ob1 ⟨by decide, by decide⟩ rfl (Nat.le_of_ble_eq_true rfl) (Lat.nar lchr19) at_39 g_ob1 (Or.inr lb_ob1) (SafeFor.mem (List.mem_of_getElem? (i := 0) rfl)) ?_
    intro hp22 K23 Vn
    replace V_ob1 : Arv Z hp22 ob1 k_ob1 .char (4 : Int32) [(.int chr4), (.int chr9), (.int chr14), (.int chr19)] (.int (0 : Int32)) := Vn
    clear Vn
    refine ok_astore G #[.val (.int i0), .val (.int i1), .val (.int i2), .val (.int i3), .val (.int i4), .val (.int (0 : Int32)), .val (.ref ob1), .unset, .unset, .unset, .unset, .unset] at_40 rfl rfl ?_
    refine ok_new G (C.w6) (C.w7) (C.w8) at_42 (Nat.le_of_ble_eq_true rfl) (Nat.le_of_ble_eq_true rfl) ?_
    intro hp25 ob24 eq_ob24 K26 g_ob24 lb_ob24 E_ob24 D_ob24
    have ne_ob1_ob24 : ob1 ≠ ob24 := Nat.ne_of_lt (Nat.lt_of_lt_of_le V_ob1.lt (Nat.le_of_eq eq_ob24.symm))
    replace V_ob1 := V_ob1.keep K26 nin0
    have F_ob24_value : Fld Z hp25 ob24 "java/lang/String" "value" "[B" .null := D_ob24 _ _ _ (.array .byte) (Or.inr (C.w24)) (by decide)
    have F_ob24_coder : Fld Z hp25 ob24 "java/lang/String" "coder" "B" (.int (0 : Int32)) := D_ob24 _ _ _ .byte (Or.inr (C.w25)) (by decide)
    refine ok_dup G at_45 rfl ?_
    refine ok_aload G at_46 rfl rfl ?_
    refine ok_iload G at_48 rfl ?_
    refine ok_old (fun hO_hp25 => ?_)
    refine ok_keep (fun hKp_hp25 => ?_)
    refine ok_static G (argsL := [(.ref ob1), (.int (0 : Int32))]) (rest := [(.ref ob24), (.ref ob24)]) (C.w9) (C.w10) (C.w4) (C.w11) (by decide) pd22 (c_take0 C hO_hp25 V_ob1 lchr4 lchr9 lchr14 lchr19) rfl rfl rfl at_50 (Nat.le_of_ble_eq_true rfl) (Nat.le_of_ble_eq_true rfl) (Nat.le_of_ble_eq_true rfl) (Nat.le_of_ble_eq_true rfl) (fun _ q => nomatch q) ?_
    rintro _ hp29 K30 ⟨tr27, kb28, rfl, lbq_tr27, V_tr27⟩
    have lbh_tr27 := lbq_tr27
    have ne_ob1_tr27 : ob1 ≠ tr27 := Nat.ne_of_lt (Nat.lt_of_lt_of_le V_ob1.lt lbh_tr27)
    have ne_ob24_tr27 : ob24 ≠ tr27 := Nat.ne_of_lt (Nat.lt_of_lt_of_le E_ob24.lt lbh_tr27)
    have lb_tr27 : h0.size ≤ tr27 := Nat.le_trans hKp_hp25.1 lbh_tr27
    have g_tr27 : n0 ≤ tr27 := Nat.le_trans (old_le hO_hp25) lbh_tr27
    replace V_ob1 := V_ob1.keep K30 nin0
    replace E_ob24 := E_ob24.keep K30
    replace F_ob24_value := F_ob24_value.keep K30 nin0
    replace F_ob24_coder := F_ob24_coder.keep K30 nin0
    refine ok_as (mkF m 53 #[.val (.int i0), .val (.int i1), .val (.int i2), .val (.int i3), .val (.int i4), .val (.int (0 : Int32)), .val (.ref ob1), .unset, .unset, .unset, .unset, .unset] [(.ref tr27), (.ref ob24), (.ref ob24)]) rfl ?_
    refine ok_old (fun hO_hp29 => ?_)
    refine ok_initW G (a := ob24) (argsL := [(.ref tr27)]) (rest := [(.ref ob24)]) rfl (C.w12) (C.w13) (C.w8) (C.w14) (by decide) pd23 (c_init1e C hO_hp29 hE E_ob24 F_ob24_value F_ob24_coder g_ob24 V_tr27 ne_ob24_tr27) rfl rfl rfl at_53 (Nat.le_of_ble_eq_true rfl) (Nat.le_of_ble_eq_true rfl) (Nat.le_of_ble_eq_true rfl) (Nat.le_of_ble_eq_true rfl) rfl (allS (Or.inr lb_ob24) (fun _ q => nomatch q)) ?_
    rintro _ hp32 K33 ⟨rfl, tr31, S_ob24⟩
    replace V_ob1 := V_ob1.keep K33 (ninS ne_ob1_ob24 nin0)
    replace E_ob24 := E_ob24.keep K33
    replace V_tr27 := V_tr27.keep K33 (ninS (Ne.symm ne_ob24_tr27) nin0)
    refine ok_as (mkF m 56 #[.val (.int i0), .val (.int i1), .val (.int i2), .val (.int i3), .val (.int i4), .val (.int (0 : Int32)), .val (.ref ob1), .unset, .unset, .unset, .unset, .unset] [(.ref ob24)]) rfl ?_
    refine ok_astore G #[.val (.int i0), .val (.int i1), .val (.int i2), .val (.int i3), .val (.int i4), .val (.int (0 : Int32)), .val (.ref ob1), .val (.ref ob24), .unset, .unset, .unset, .unset] at_56 rfl rfl ?_
    refine ok_iload G at_58 rfl ?_
    refine ok_iconst G (3 : Int32) at_60 rfl ?_
    refine ok_icmpleY G 77 at_61 (by decide) (by decide) (by decide) ?_
    refine ok_iload G at_77 rfl ?_
    refine ok_iconst G (2 : Int32) at_79 rfl ?_
    refine ok_icmpleY G 96 at_80 (by decide) (by decide) (by decide) ?_
    refine ok_iload G at_96 rfl ?_
    refine ok_iconst G (1 : Int32) at_98 rfl ?_
    refine ok_icmpleY G 115 at_99 (by decide) (by decide) (by decide) ?_
    refine ok_iload G at_115 rfl ?_
    refine ok_ifleY G 133 at_117 (by decide) (by decide) (by decide) ?_
    refine ok_iconst G (-1 : Int32) at_133 rfl ?_
    refine ok_istore G #[.val (.int i0), .val (.int i1), .val (.int i2), .val (.int i3), .val (.int i4), .val (.int (0 : Int32)), .val (.ref ob1), .val (.ref ob24), .val (.int (-1 : Int32)), .unset, .unset, .unset] at_134 rfl ?_
    refine ok_aload G at_136 rfl rfl ?_
    refine ok_old (fun hO_hp32 => ?_)
    refine ok_staticW G (argsL := [(.ref ob24)]) (rest := []) (C.w30) (C.w31) (C.w32) (C.w33) (by decide) pd24 (c_fname C hO_hp32 hE S_ob24) rfl rfl rfl at_138 (Nat.le_of_ble_eq_true rfl) (Nat.le_of_ble_eq_true rfl) (Nat.le_of_ble_eq_true rfl) (Nat.le_of_ble_eq_true rfl) rfl (fun _ q => nomatch q) ?_
    rintro _ hp36 K37 ⟨xr34, tr35, rfl, S_xr34⟩
    replace V_ob1 := V_ob1.keep K37 nin0
    replace E_ob24 := E_ob24.keep K37
    replace V_tr27 := V_tr27.keep K37 nin0
    replace S_ob24 := S_ob24.keep K37 nin0 nin0
    refine ok_as (mkF m 141 #[.val (.int i0), .val (.int i1), .val (.int i2), .val (.int i3), .val (.int i4), .val (.int (0 : Int32)), .val (.ref ob1), .val (.ref ob24), .val (.int (-1 : Int32)), .unset, .unset, .unset] [(.ref xr34)]) rfl ?_
    refine ok_astore G #[.val (.int i0), .val (.int i1), .val (.int i2), .val (.int i3), .val (.int i4), .val (.int (0 : Int32)), .val (.ref ob1), .val (.ref ob24), .val (.int (-1 : Int32)), .val (.ref xr34), .unset, .unset] at_141 rfl rfl ?_
    have ef : List.drop (cut 47 []).length ([] : List Int32) = [] := by simp [cut]
    rw [ef] at S_xr34
    clear ef
    refine ok_iload G at_143 rfl ?_
    refine ok_iload G at_145 rfl ?_
    refine ok_isub G at_147 ?_
    refine ok_iconst G (1 : Int32) at_148 rfl ?_
    refine ok_isub G at_149 ?_
    refine ok_sayI (0 : Int32) (by decide) ?_
    refine ok_istore G #[.val (.int i0), .val (.int i1), .val (.int i2), .val (.int i3), .val (.int i4), .val (.int (0 : Int32)), .val (.ref ob1), .val (.ref ob24), .val (.int (-1 : Int32)), .val (.ref xr34), .val (.int (0 : Int32)), .unset] at_150 rfl ?_
    refine ok_aload G at_152 rfl rfl ?_
    refine ok_old (fun hO_hp36 => ?_)
    refine ok_virtual G (a := xr34) (y0 := (⟨"java/lang/String", "length", "()I"⟩ : MethodName)) (y := (⟨"java/lang/String", "length", "()I"⟩ : MethodName)) (argsL := []) (rest := []) S_xr34.exa (C.w89) (C.w40) (C.w42) (fun vm hZ => notFace_of_selects (args := #[]) (mvT (s := s.setVm vm) hZ (C.w42))) (C.w41) (C.w8) (C.w43) (by decide) pd12 (c_length C hO_hp36 S_xr34) rfl rfl rfl at_154 (Nat.le_of_ble_eq_true rfl) (Nat.le_of_ble_eq_true rfl) (Nat.le_of_ble_eq_true rfl) (Nat.le_of_ble_eq_true rfl) (fun _ q => nomatch q) ?_
    rintro _ _ _ ⟨rfl, rfl⟩
    refine ok_as (mkF m 157 #[.val (.int i0), .val (.int i1), .val (.int i2), .val (.int i3), .val (.int i4), .val (.int (0 : Int32)), .val (.ref ob1), .val (.ref ob24), .val (.int (-1 : Int32)), .val (.ref xr34), .val (.int (0 : Int32)), .unset] [(.int (0 : Int32))]) rfl ?_
    refine ok_iload G at_157 rfl ?_
    refine ok_icmpeqY G 164 at_159 (by decide) (by decide) (by decide) ?_
    refine ok_iload G at_164 rfl ?_
    refine ok_iconst G (1 : Int32) at_166 rfl ?_
    refine ok_iadd G at_167 ?_
    refine ok_sayI (0 : Int32) (by decide) ?_
    refine ok_istore G #[.val (.int i0), .val (.int i1), .val (.int i2), .val (.int i3), .val (.int i4), .val (.int (0 : Int32)), .val (.ref ob1), .val (.ref ob24), .val (.int (-1 : Int32)), .val (.ref xr34), .val (.int (0 : Int32)), .val (.int (0 : Int32))] at_168 rfl ?_
    refine ok_aload G at_170 rfl rfl ?_
    refine ok_aload G at_172 rfl rfl ?_
    refine ok_iload G at_174 rfl ?_
    refine ok_iconst G (0 : Int32) at_176 rfl ?_
    refine ok_iload G at_177 rfl ?_
    refine ok_static G (argsL := [(.ref xr34), (.ref ob1), (.int (0 : Int32)), (.int (0 : Int32)), (.int (0 : Int32))]) (rest := []) (C.w90) (C.w91) (C.w4) (C.w92) (by decide) pd25 (c_sameY C hO_hp36 (by decide)) rfl rfl rfl at_179 (Nat.le_of_ble_eq_true rfl) (Nat.le_of_ble_eq_true rfl) (Nat.le_of_ble_eq_true rfl) (Nat.le_of_ble_eq_true rfl) (fun _ q => nomatch q) ?_
    rintro _ _ _ ⟨rfl, rfl⟩
    refine ok_as (mkF m 182 #[.val (.int i0), .val (.int i1), .val (.int i2), .val (.int i3), .val (.int i4), .val (.int (0 : Int32)), .val (.ref ob1), .val (.ref ob24), .val (.int (-1 : Int32)), .val (.ref xr34), .val (.int (0 : Int32)), .val (.int (0 : Int32))] [(.int (1 : Int32))]) rfl ?_
    refine ok_ifeqN G at_182 (by decide) ?_
    refine ok_aload G at_185 rfl rfl ?_
    refine ok_aload G at_187 rfl rfl ?_
    refine ok_iload G at_189 rfl ?_
    refine ok_iconst G (1 : Int32) at_191 rfl ?_
    refine ok_iload G at_192 rfl ?_
    refine ok_static G (argsL := [(.ref xr34), (.ref ob1), (.int (0 : Int32)), (.int (1 : Int32)), (.int (0 : Int32))]) (rest := []) (C.w90) (C.w91) (C.w4) (C.w92) (by decide) pd25 (c_sameY C hO_hp36 (by decide)) rfl rfl rfl at_194 (Nat.le_of_ble_eq_true rfl) (Nat.le_of_ble_eq_true rfl) (Nat.le_of_ble_eq_true rfl) (Nat.le_of_ble_eq_true rfl) (fun _ q => nomatch q) ?_
    rintro _ _ _ ⟨rfl, rfl⟩
    refine ok_as (mkF m 197 #[.val (.int i0), .val (.int i1), .val (.int i2), .val (.int i3), .val (.int i4), .val (.int (0 : Int32)), .val (.ref ob1), .val (.ref ob24), .val (.int (-1 : Int32)), .val (.ref xr34), .val (.int (0 : Int32)), .val (.int (0 : Int32))] [(.int (1 : Int32))]) rfl ?_
    refine ok_ifeqN G at_197 (by decide) ?_
    refine ok_aload G at_200 rfl rfl ?_
    refine ok_aload G at_202 rfl rfl ?_
    refine ok_iload G at_204 rfl ?_
    refine ok_iconst G (2 : Int32) at_206 rfl ?_
    refine ok_iload G at_207 rfl ?_
    refine ok_static G (argsL := [(.ref xr34), (.ref ob1), (.int (0 : Int32)), (.int (2 : Int32)), (.int (0 : Int32))]) (rest := []) (C.w90) (C.w91) (C.w4) (C.w92) (by decide) pd25 (c_sameY C hO_hp36 (by decide)) rfl rfl rfl at_209 (Nat.le_of_ble_eq_true rfl) (Nat.le_of_ble_eq_true rfl) (Nat.le_of_ble_eq_true rfl) (Nat.le_of_ble_eq_true rfl) (fun _ q => nomatch q) ?_
    rintro _ _ _ ⟨rfl, rfl⟩
    refine ok_as (mkF m 212 #[.val (.int i0), .val (.int i1), .val (.int i2), .val (.int i3), .val (.int i4), .val (.int (0 : Int32)), .val (.ref ob1), .val (.ref ob24), .val (.int (-1 : Int32)), .val (.ref xr34), .val (.int (0 : Int32)), .val (.int (0 : Int32))] [(.int (1 : Int32))]) rfl ?_
    refine ok_ifeqN G at_212 (by decide) ?_
    refine ok_aload G at_215 rfl rfl ?_
    refine ok_aload G at_217 rfl rfl ?_
    refine ok_iload G at_219 rfl ?_
    refine ok_iconst G (3 : Int32) at_221 rfl ?_
    refine ok_iload G at_222 rfl ?_
    refine ok_static G (argsL := [(.ref xr34), (.ref ob1), (.int (0 : Int32)), (.int (3 : Int32)), (.int (0 : Int32))]) (rest := []) (C.w90) (C.w91) (C.w4) (C.w92) (by decide) pd25 (c_sameY C hO_hp36 (by decide)) rfl rfl rfl at_224 (Nat.le_of_ble_eq_true rfl) (Nat.le_of_ble_eq_true rfl) (Nat.le_of_ble_eq_true rfl) (Nat.le_of_ble_eq_true rfl) (fun _ q => nomatch q) ?_
    rintro _ _ _ ⟨rfl, rfl⟩
    refine ok_as (mkF m 227 #[.val (.int i0), .val (.int i1), .val (.int i2), .val (.int i3), .val (.int i4), .val (.int (0 : Int32)), .val (.ref ob1), .val (.ref ob24), .val (.int (-1 : Int32)), .val (.ref xr34), .val (.int (0 : Int32)), .val (.int (0 : Int32))] [(.int (1 : Int32))]) rfl ?_
    refine ok_ifeqN G at_227 (by decide) ?_
    refine ok_iconst G (1 : Int32) at_230 rfl ?_
    refine ok_goto G 235 at_231 (by decide) (by decide) ?_
    exact ok_retN G rfl (by simp) at_235 rfl rfl (Nat.le_of_ble_eq_true rfl) (Nat.le_of_ble_eq_true rfl)
  · skip
    rw [hl]
    refine ok_iconst G (4 : Int32) at_8 rfl ?_
    refine ok_newP G (aty := .char) (C.w1) at_9 (by decide) 4 (by decide) (by decide) (Nat.le_of_ble_eq_true rfl) (Nat.le_of_ble_eq_true rfl) ?_
    intro hp49 ob48 k_ob48 eq_ob48 K50 g_ob48 lb_ob48 V_ob48
    replace V_ob48 : Arv Z hp49 ob48 k_ob48 .char (4 : Int32) [(.int (0 : Int32)), (.int (0 : Int32)), (.int (0 : Int32)), (.int (0 : Int32))] (.int (0 : Int32)) := V_ob48.pad (pad_rep [] (.int (0 : Int32)) 4)
    refine ok_dup G at_11 rfl ?_
    refine ok_iconst G (0 : Int32) at_12 rfl ?_
    refine ok_iloadN G at_13 rfl ?_
    refine ok_old (fun hO_hp49 => ?_)
    refine ok_static G (argsL := [(.int i1)]) (rest := [(.int (0 : Int32)), (.ref ob48), (.ref ob48)]) (C.w2) (C.w3) (C.w4) (C.w5) (by decide) pd21 (c_draw C hO_hp49) rfl rfl rfl at_14 (Nat.le_of_ble_eq_true rfl) (Nat.le_of_ble_eq_true rfl) (Nat.le_of_ble_eq_true rfl) (Nat.le_of_ble_eq_true rfl) (fun _ q => nomatch q) ?_
    rintro _ _ _ ⟨chr51, rfl, lchr51, rfl⟩
    refine ok_as (mkF m 17 #[.val (.int i0), .val (.int i1), .val (.int i2), .val (.int i3), .val (.int i4), .val (.int (1 : Int32)), .unset, .unset, .unset, .unset, .unset, .unset] [(.int chr51), (.int (0 : Int32)), (.ref ob48), (.ref ob48)]) rfl ?_
    refine ok_castore G chr51 0 V_ob48 ⟨by decide, by decide⟩ rfl (Nat.le_of_ble_eq_true rfl) (Lat.nar lchr51) at_17 g_ob48 (Or.inr lb_ob48) (SafeFor.mem (List.mem_of_getElem? (i := 0) rfl)) ?_
    intro hp54 K55 Vn
    replace V_ob48 : Arv Z hp54 ob48 k_ob48 .char (4 : Int32) [(.int chr51), (.int (0 : Int32)), (.int (0 : Int32)), (.int (0 : Int32))] (.int (0 : Int32)) := Vn
    clear Vn
    refine ok_dup G at_18 rfl ?_
    refine ok_iconst G (1 : Int32) at_19 rfl ?_
    refine ok_iloadN G at_20 rfl ?_
    refine ok_old (fun hO_hp54 => ?_)
    refine ok_static G (argsL := [(.int i2)]) (rest := [(.int (1 : Int32)), (.ref ob48), (.ref ob48)]) (C.w2) (C.w3) (C.w4) (C.w5) (by decide) pd21 (c_draw C hO_hp54) rfl rfl rfl at_21 (Nat.le_of_ble_eq_true rfl) (Nat.le_of_ble_eq_true rfl) (Nat.le_of_ble_eq_true rfl) (Nat.le_of_ble_eq_true rfl) (fun _ q => nomatch q) ?_
    rintro _ _ _ ⟨chr56, rfl, lchr56, rfl⟩
    refine ok_as (mkF m 24 #[.val (.int i0), .val (.int i1), .val (.int i2), .val (.int i3), .val (.int i4), .val (.int (1 : Int32)), .unset, .unset, .unset, .unset, .unset, .unset] [(.int chr56), (.int (1 : Int32)), (.ref ob48), (.ref ob48)]) rfl ?_
    refine ok_castore G chr56 1 V_ob48 ⟨by decide, by decide⟩ rfl (Nat.le_of_ble_eq_true rfl) (Lat.nar lchr56) at_24 g_ob48 (Or.inr lb_ob48) (SafeFor.mem (List.mem_of_getElem? (i := 0) rfl)) ?_
    intro hp59 K60 Vn
    replace V_ob48 : Arv Z hp59 ob48 k_ob48 .char (4 : Int32) [(.int chr51), (.int chr56), (.int (0 : Int32)), (.int (0 : Int32))] (.int (0 : Int32)) := Vn
    clear Vn
    refine ok_dup G at_25 rfl ?_
    refine ok_iconst G (2 : Int32) at_26 rfl ?_
    refine ok_iloadN G at_27 rfl ?_
    refine ok_old (fun hO_hp59 => ?_)
    refine ok_static G (argsL := [(.int i3)]) (rest := [(.int (2 : Int32)), (.ref ob48), (.ref ob48)]) (C.w2) (C.w3) (C.w4) (C.w5) (by decide) pd21 (c_draw C hO_hp59) rfl rfl rfl at_28 (Nat.le_of_ble_eq_true rfl) (Nat.le_of_ble_eq_true rfl) (Nat.le_of_ble_eq_true rfl) (Nat.le_of_ble_eq_true rfl) (fun _ q => nomatch q) ?_
    rintro _ _ _ ⟨chr61, rfl, lchr61, rfl⟩
    refine ok_as (mkF m 31 #[.val (.int i0), .val (.int i1), .val (.int i2), .val (.int i3), .val (.int i4), .val (.int (1 : Int32)), .unset, .unset, .unset, .unset, .unset, .unset] [(.int chr61), (.int (2 : Int32)), (.ref ob48), (.ref ob48)]) rfl ?_
    refine ok_castore G chr61 2 V_ob48 ⟨by decide, by decide⟩ rfl (Nat.le_of_ble_eq_true rfl) (Lat.nar lchr61) at_31 g_ob48 (Or.inr lb_ob48) (SafeFor.mem (List.mem_of_getElem? (i := 0) rfl)) ?_
    intro hp64 K65 Vn
    replace V_ob48 : Arv Z hp64 ob48 k_ob48 .char (4 : Int32) [(.int chr51), (.int chr56), (.int chr61), (.int (0 : Int32))] (.int (0 : Int32)) := Vn
    clear Vn
    refine ok_dup G at_32 rfl ?_
    refine ok_iconst G (3 : Int32) at_33 rfl ?_
    refine ok_iload G at_34 rfl ?_
    refine ok_old (fun hO_hp64 => ?_)
    refine ok_static G (argsL := [(.int i4)]) (rest := [(.int (3 : Int32)), (.ref ob48), (.ref ob48)]) (C.w2) (C.w3) (C.w4) (C.w5) (by decide) pd21 (c_draw C hO_hp64) rfl rfl rfl at_36 (Nat.le_of_ble_eq_true rfl) (Nat.le_of_ble_eq_true rfl) (Nat.le_of_ble_eq_true rfl) (Nat.le_of_ble_eq_true rfl) (fun _ q => nomatch q) ?_
    rintro _ _ _ ⟨chr66, rfl, lchr66, rfl⟩
    refine ok_as (mkF m 39 #[.val (.int i0), .val (.int i1), .val (.int i2), .val (.int i3), .val (.int i4), .val (.int (1 : Int32)), .unset, .unset, .unset, .unset, .unset, .unset] [(.int chr66), (.int (3 : Int32)), (.ref ob48), (.ref ob48)]) rfl ?_
    refine ok_castore G chr66 3 V_ob48 ⟨by decide, by decide⟩ rfl (Nat.le_of_ble_eq_true rfl) (Lat.nar lchr66) at_39 g_ob48 (Or.inr lb_ob48) (SafeFor.mem (List.mem_of_getElem? (i := 0) rfl)) ?_
    intro hp69 K70 Vn
    replace V_ob48 : Arv Z hp69 ob48 k_ob48 .char (4 : Int32) [(.int chr51), (.int chr56), (.int chr61), (.int chr66)] (.int (0 : Int32)) := Vn
    clear Vn
    refine ok_astore G #[.val (.int i0), .val (.int i1), .val (.int i2), .val (.int i3), .val (.int i4), .val (.int (1 : Int32)), .val (.ref ob48), .unset, .unset, .unset, .unset, .unset] at_40 rfl rfl ?_
    refine ok_new G (C.w6) (C.w7) (C.w8) at_42 (Nat.le_of_ble_eq_true rfl) (Nat.le_of_ble_eq_true rfl) ?_
    intro hp72 ob71 eq_ob71 K73 g_ob71 lb_ob71 E_ob71 D_ob71
    have ne_ob48_ob71 : ob48 ≠ ob71 := Nat.ne_of_lt (Nat.lt_of_lt_of_le V_ob48.lt (Nat.le_of_eq eq_ob71.symm))
    replace V_ob48 := V_ob48.keep K73 nin0
    have F_ob71_value : Fld Z hp72 ob71 "java/lang/String" "value" "[B" .null := D_ob71 _ _ _ (.array .byte) (Or.inr (C.w24)) (by decide)
    have F_ob71_coder : Fld Z hp72 ob71 "java/lang/String" "coder" "B" (.int (0 : Int32)) := D_ob71 _ _ _ .byte (Or.inr (C.w25)) (by decide)
    refine ok_dup G at_45 rfl ?_
    refine ok_aload G at_46 rfl rfl ?_
    refine ok_iload G at_48 rfl ?_
    refine ok_old (fun hO_hp72 => ?_)
    refine ok_keep (fun hKp_hp72 => ?_)
    refine ok_static G (argsL := [(.ref ob48), (.int (1 : Int32))]) (rest := [(.ref ob71), (.ref ob71)]) (C.w9) (C.w10) (C.w4) (C.w11) (by decide) pd22 (c_take1 C hO_hp72 V_ob48 lchr51 lchr56 lchr61 lchr66) rfl rfl rfl at_50 (Nat.le_of_ble_eq_true rfl) (Nat.le_of_ble_eq_true rfl) (Nat.le_of_ble_eq_true rfl) (Nat.le_of_ble_eq_true rfl) (fun _ q => nomatch q) ?_
    rintro _ hp76 K77 ⟨tr74, kb75, rfl, lbq_tr74, V_tr74⟩
    have lbh_tr74 := lbq_tr74
    have ne_ob48_tr74 : ob48 ≠ tr74 := Nat.ne_of_lt (Nat.lt_of_lt_of_le V_ob48.lt lbh_tr74)
    have ne_ob71_tr74 : ob71 ≠ tr74 := Nat.ne_of_lt (Nat.lt_of_lt_of_le E_ob71.lt lbh_tr74)
    have lb_tr74 : h0.size ≤ tr74 := Nat.le_trans hKp_hp72.1 lbh_tr74
    have g_tr74 : n0 ≤ tr74 := Nat.le_trans (old_le hO_hp72) lbh_tr74
    replace V_ob48 := V_ob48.keep K77 nin0
    replace E_ob71 := E_ob71.keep K77
    replace F_ob71_value := F_ob71_value.keep K77 nin0
    replace F_ob71_coder := F_ob71_coder.keep K77 nin0
    refine ok_as (mkF m 53 #[.val (.int i0), .val (.int i1), .val (.int i2), .val (.int i3), .val (.int i4), .val (.int (1 : Int32)), .val (.ref ob48), .unset, .unset, .unset, .unset, .unset] [(.ref tr74), (.ref ob71), (.ref ob71)]) rfl ?_
    refine ok_old (fun hO_hp76 => ?_)
    refine ok_keep (fun hKp_hp76 => ?_)
    refine ok_init G (a := ob71) (argsL := [(.ref tr74)]) (rest := [(.ref ob71)]) rfl (C.w12) (C.w13) (C.w8) (C.w14) (by decide) pd23 (c_init1 (cs := [chr51]) C hO_hp76 E_ob71 F_ob71_value F_ob71_coder g_ob71 V_tr74 (Nat.le_of_ble_eq_true rfl) (Nat.le_of_ble_eq_true rfl) (allL lchr51 (fun _ q => nomatch q)) ne_ob71_tr74) rfl rfl rfl at_53 (Nat.le_of_ble_eq_true rfl) (Nat.le_of_ble_eq_true rfl) (Nat.le_of_ble_eq_true rfl) (Nat.le_of_ble_eq_true rfl) (allS ⟨(Or.inr lb_ob71), (SafeFor.mem (List.mem_of_getElem? (i := 0) rfl))⟩ (fun _ q => nomatch q)) ?_
    rintro _ hp79 K80 ⟨rfl, tr78, lbq_tr78, S_ob71⟩
    have lbh_tr78 := lbq_tr78
    have ne_ob48_tr78 : ob48 ≠ tr78 := Nat.ne_of_lt (Nat.lt_of_lt_of_le V_ob48.lt lbh_tr78)
    have ne_ob71_tr78 : ob71 ≠ tr78 := Nat.ne_of_lt (Nat.lt_of_lt_of_le E_ob71.lt lbh_tr78)
    have ne_tr74_tr78 : tr74 ≠ tr78 := Nat.ne_of_lt (Nat.lt_of_lt_of_le V_tr74.lt lbh_tr78)
    have lb_tr78 : h0.size ≤ tr78 := Nat.le_trans hKp_hp76.1 lbh_tr78
    have g_tr78 : n0 ≤ tr78 := Nat.le_trans (old_le hO_hp76) lbh_tr78
    replace V_ob48 := V_ob48.keep K80 (ninS ne_ob48_ob71 nin0)
    replace E_ob71 := E_ob71.keep K80
    replace V_tr74 := V_tr74.keep K80 (ninS (Ne.symm ne_ob71_tr74) nin0)
    refine ok_as (mkF m 56 #[.val (.int i0), .val (.int i1), .val (.int i2), .val (.int i3), .val (.int i4), .val (.int (1 : Int32)), .val (.ref ob48), .unset, .unset, .unset, .unset, .unset] [(.ref ob71)]) rfl ?_
    refine ok_astore G #[.val (.int i0), .val (.int i1), .val (.int i2), .val (.int i3), .val (.int i4), .val (.int (1 : Int32)), .val (.ref ob48), .val (.ref ob71), .unset, .unset, .unset, .unset] at_56 rfl rfl ?_
    refine ok_iload G at_58 rfl ?_
    refine ok_iconst G (3 : Int32) at_60 rfl ?_
    refine ok_icmpleY G 77 at_61 (by decide) (by decide) (by decide) ?_
    refine ok_iload G at_77 rfl ?_
    refine ok_iconst G (2 : Int32) at_79 rfl ?_
    refine ok_icmpleY G 96 at_80 (by decide) (by decide) (by decide) ?_
    refine ok_iload G at_96 rfl ?_
    refine ok_iconst G (1 : Int32) at_98 rfl ?_
    refine ok_icmpleY G 115 at_99 (by decide) (by decide) (by decide) ?_
    refine ok_iload G at_115 rfl ?_
    refine ok_ifleN G at_117 (by decide) ?_
    refine ok_aload G at_120 rfl rfl ?_
    refine ok_iconst G (0 : Int32) at_122 rfl ?_
    refine ok_caload G chr51 V_ob48 ⟨by decide, by decide⟩ rfl at_123 ?_
    refine ok_bipush G (47 : Int32) at_124 rfl ?_
    refine ok_icmpne G 133 at_126 (by decide) (by decide) (fun cq81 => ?_) (fun cq81 => ?_)
    · skip
      refine ok_iconst G (-1 : Int32) at_133 rfl ?_
      refine ok_istore G #[.val (.int i0), .val (.int i1), .val (.int i2), .val (.int i3), .val (.int i4), .val (.int (1 : Int32)), .val (.ref ob48), .val (.ref ob71), .val (.int (-1 : Int32)), .unset, .unset, .unset] at_134 rfl ?_
      refine ok_aload G at_136 rfl rfl ?_
      refine ok_old (fun hO_hp79 => ?_)
      refine ok_staticW G (argsL := [(.ref ob71)]) (rest := []) (C.w30) (C.w31) (C.w32) (C.w33) (by decide) pd24 (c_fname C hO_hp79 hE S_ob71) rfl rfl rfl at_138 (Nat.le_of_ble_eq_true rfl) (Nat.le_of_ble_eq_true rfl) (Nat.le_of_ble_eq_true rfl) (Nat.le_of_ble_eq_true rfl) rfl (fun _ q => nomatch q) ?_
      rintro _ hp84 K85 ⟨xr82, tr83, rfl, S_xr82⟩
      replace V_ob48 := V_ob48.keep K85 nin0
      replace E_ob71 := E_ob71.keep K85
      replace V_tr74 := V_tr74.keep K85 nin0
      replace S_ob71 := S_ob71.keep K85 nin0 nin0
      refine ok_as (mkF m 141 #[.val (.int i0), .val (.int i1), .val (.int i2), .val (.int i3), .val (.int i4), .val (.int (1 : Int32)), .val (.ref ob48), .val (.ref ob71), .val (.int (-1 : Int32)), .unset, .unset, .unset] [(.ref xr82)]) rfl ?_
      refine ok_astore G #[.val (.int i0), .val (.int i1), .val (.int i2), .val (.int i3), .val (.int i4), .val (.int (1 : Int32)), .val (.ref ob48), .val (.ref ob71), .val (.int (-1 : Int32)), .val (.ref xr82), .unset, .unset] at_141 rfl rfl ?_
      have ef : List.drop (cut 47 [chr51]).length ([chr51] : List Int32) = [chr51] := by simp [cut, cq81]
      rw [ef] at S_xr82
      clear ef
      refine ok_iload G at_143 rfl ?_
      refine ok_iload G at_145 rfl ?_
      refine ok_isub G at_147 ?_
      refine ok_iconst G (1 : Int32) at_148 rfl ?_
      refine ok_isub G at_149 ?_
      refine ok_sayI (1 : Int32) (by decide) ?_
      refine ok_istore G #[.val (.int i0), .val (.int i1), .val (.int i2), .val (.int i3), .val (.int i4), .val (.int (1 : Int32)), .val (.ref ob48), .val (.ref ob71), .val (.int (-1 : Int32)), .val (.ref xr82), .val (.int (1 : Int32)), .unset] at_150 rfl ?_
      refine ok_aload G at_152 rfl rfl ?_
      refine ok_old (fun hO_hp84 => ?_)
      refine ok_virtual G (a := xr82) (y0 := (⟨"java/lang/String", "length", "()I"⟩ : MethodName)) (y := (⟨"java/lang/String", "length", "()I"⟩ : MethodName)) (argsL := []) (rest := []) S_xr82.exa (C.w89) (C.w40) (C.w42) (fun vm hZ => notFace_of_selects (args := #[]) (mvT (s := s.setVm vm) hZ (C.w42))) (C.w41) (C.w8) (C.w43) (by decide) pd12 (c_length C hO_hp84 S_xr82) rfl rfl rfl at_154 (Nat.le_of_ble_eq_true rfl) (Nat.le_of_ble_eq_true rfl) (Nat.le_of_ble_eq_true rfl) (Nat.le_of_ble_eq_true rfl) (fun _ q => nomatch q) ?_
      rintro _ _ _ ⟨rfl, rfl⟩
      refine ok_as (mkF m 157 #[.val (.int i0), .val (.int i1), .val (.int i2), .val (.int i3), .val (.int i4), .val (.int (1 : Int32)), .val (.ref ob48), .val (.ref ob71), .val (.int (-1 : Int32)), .val (.ref xr82), .val (.int (1 : Int32)), .unset] [(.int (1 : Int32))]) rfl ?_
      refine ok_iload G at_157 rfl ?_
      refine ok_icmpeqY G 164 at_159 (by decide) (by decide) (by decide) ?_
      refine ok_iload G at_164 rfl ?_
      refine ok_iconst G (1 : Int32) at_166 rfl ?_
      refine ok_iadd G at_167 ?_
      refine ok_sayI (0 : Int32) (by decide) ?_
      refine ok_istore G #[.val (.int i0), .val (.int i1), .val (.int i2), .val (.int i3), .val (.int i4), .val (.int (1 : Int32)), .val (.ref ob48), .val (.ref ob71), .val (.int (-1 : Int32)), .val (.ref xr82), .val (.int (1 : Int32)), .val (.int (0 : Int32))] at_168 rfl ?_
      refine ok_aload G at_170 rfl rfl ?_
      refine ok_aload G at_172 rfl rfl ?_
      refine ok_iload G at_174 rfl ?_
      refine ok_iconst G (0 : Int32) at_176 rfl ?_
      refine ok_iload G at_177 rfl ?_
      refine ok_static G (argsL := [(.ref xr82), (.ref ob48), (.int (0 : Int32)), (.int (0 : Int32)), (.int (1 : Int32))]) (rest := []) (C.w90) (C.w91) (C.w4) (C.w92) (by decide) pd25 (c_sameC (ch := chr51) C hO_hp84 S_xr82 V_ob48 (by decide) 0 (Nat.le_of_ble_eq_true rfl) rfl rfl ⟨by decide, by decide⟩ rfl) rfl rfl rfl at_179 (Nat.le_of_ble_eq_true rfl) (Nat.le_of_ble_eq_true rfl) (Nat.le_of_ble_eq_true rfl) (Nat.le_of_ble_eq_true rfl) (fun _ q => nomatch q) ?_
      rintro _ _ _ ⟨rfl, rfl⟩
      refine ok_as (mkF m 182 #[.val (.int i0), .val (.int i1), .val (.int i2), .val (.int i3), .val (.int i4), .val (.int (1 : Int32)), .val (.ref ob48), .val (.ref ob71), .val (.int (-1 : Int32)), .val (.ref xr82), .val (.int (1 : Int32)), .val (.int (0 : Int32))] [(.int (1 : Int32))]) rfl ?_
      refine ok_ifeqN G at_182 (by decide) ?_
      refine ok_aload G at_185 rfl rfl ?_
      refine ok_aload G at_187 rfl rfl ?_
      refine ok_iload G at_189 rfl ?_
      refine ok_iconst G (1 : Int32) at_191 rfl ?_
      refine ok_iload G at_192 rfl ?_
      refine ok_static G (argsL := [(.ref xr82), (.ref ob48), (.int (0 : Int32)), (.int (1 : Int32)), (.int (1 : Int32))]) (rest := []) (C.w90) (C.w91) (C.w4) (C.w92) (by decide) pd25 (c_sameY C hO_hp84 (by decide)) rfl rfl rfl at_194 (Nat.le_of_ble_eq_true rfl) (Nat.le_of_ble_eq_true rfl) (Nat.le_of_ble_eq_true rfl) (Nat.le_of_ble_eq_true rfl) (fun _ q => nomatch q) ?_
      rintro _ _ _ ⟨rfl, rfl⟩
      refine ok_as (mkF m 197 #[.val (.int i0), .val (.int i1), .val (.int i2), .val (.int i3), .val (.int i4), .val (.int (1 : Int32)), .val (.ref ob48), .val (.ref ob71), .val (.int (-1 : Int32)), .val (.ref xr82), .val (.int (1 : Int32)), .val (.int (0 : Int32))] [(.int (1 : Int32))]) rfl ?_
      refine ok_ifeqN G at_197 (by decide) ?_
      refine ok_aload G at_200 rfl rfl ?_
      refine ok_aload G at_202 rfl rfl ?_
      refine ok_iload G at_204 rfl ?_
      refine ok_iconst G (2 : Int32) at_206 rfl ?_
      refine ok_iload G at_207 rfl ?_
      refine ok_static G (argsL := [(.ref xr82), (.ref ob48), (.int (0 : Int32)), (.int (2 : Int32)), (.int (1 : Int32))]) (rest := []) (C.w90) (C.w91) (C.w4) (C.w92) (by decide) pd25 (c_sameY C hO_hp84 (by decide)) rfl rfl rfl at_209 (Nat.le_of_ble_eq_true rfl) (Nat.le_of_ble_eq_true rfl) (Nat.le_of_ble_eq_true rfl) (Nat.le_of_ble_eq_true rfl) (fun _ q => nomatch q) ?_
      rintro _ _ _ ⟨rfl, rfl⟩
      refine ok_as (mkF m 212 #[.val (.int i0), .val (.int i1), .val (.int i2), .val (.int i3), .val (.int i4), .val (.int (1 : Int32)), .val (.ref ob48), .val (.ref ob71), .val (.int (-1 : Int32)), .val (.ref xr82), .val (.int (1 : Int32)), .val (.int (0 : Int32))] [(.int (1 : Int32))]) rfl ?_
      refine ok_ifeqN G at_212 (by decide) ?_
      refine ok_aload G at_215 rfl rfl ?_
      refine ok_aload G at_217 rfl rfl ?_
      refine ok_iload G at_219 rfl ?_
      refine ok_iconst G (3 : Int32) at_221 rfl ?_
      refine ok_iload G at_222 rfl ?_
      refine ok_static G (argsL := [(.ref xr82), (.ref ob48), (.int (0 : Int32)), (.int (3 : Int32)), (.int (1 : Int32))]) (rest := []) (C.w90) (C.w91) (C.w4) (C.w92) (by decide) pd25 (c_sameY C hO_hp84 (by decide)) rfl rfl rfl at_224 (Nat.le_of_ble_eq_true rfl) (Nat.le_of_ble_eq_true rfl) (Nat.le_of_ble_eq_true rfl) (Nat.le_of_ble_eq_true rfl) (fun _ q => nomatch q) ?_
      rintro _ _ _ ⟨rfl, rfl⟩
      refine ok_as (mkF m 227 #[.val (.int i0), .val (.int i1), .val (.int i2), .val (.int i3), .val (.int i4), .val (.int (1 : Int32)), .val (.ref ob48), .val (.ref ob71), .val (.int (-1 : Int32)), .val (.ref xr82), .val (.int (1 : Int32)), .val (.int (0 : Int32))] [(.int (1 : Int32))]) rfl ?_
      refine ok_ifeqN G at_227 (by decide) ?_
      refine ok_iconst G (1 : Int32) at_230 rfl ?_
      refine ok_goto G 235 at_231 (by decide) (by decide) ?_
      exact ok_retN G rfl (by simp) at_235 rfl rfl (Nat.le_of_ble_eq_true rfl) (Nat.le_of_ble_eq_true rfl)
    · skip
      refine ok_iconst G (0 : Int32) at_129 rfl ?_
      refine ok_goto G 134 at_130 (by decide) (by decide) ?_
      refine ok_istore G #[.val (.int i0), .val (.int i1), .val (.int i2), .val (.int i3), .val (.int i4), .val (.int (1 : Int32)), .val (.ref ob48), .val (.ref ob71), .val (.int (0 : Int32)), .unset, .unset, .unset] at_134 rfl ?_
      refine ok_aload G at_136 rfl rfl ?_
      refine ok_old (fun hO_hp79 => ?_)
      refine ok_staticW G (argsL := [(.ref ob71)]) (rest := []) (C.w30) (C.w31) (C.w32) (C.w33) (by decide) pd24 (c_fname C hO_hp79 hE S_ob71) rfl rfl rfl at_138 (Nat.le_of_ble_eq_true rfl) (Nat.le_of_ble_eq_true rfl) (Nat.le_of_ble_eq_true rfl) (Nat.le_of_ble_eq_true rfl) rfl (fun _ q => nomatch q) ?_
      rintro _ hp98 K99 ⟨xr96, tr97, rfl, S_xr96⟩
      replace V_ob48 := V_ob48.keep K99 nin0
      replace E_ob71 := E_ob71.keep K99
      replace V_tr74 := V_tr74.keep K99 nin0
      replace S_ob71 := S_ob71.keep K99 nin0 nin0
      refine ok_as (mkF m 141 #[.val (.int i0), .val (.int i1), .val (.int i2), .val (.int i3), .val (.int i4), .val (.int (1 : Int32)), .val (.ref ob48), .val (.ref ob71), .val (.int (0 : Int32)), .unset, .unset, .unset] [(.ref xr96)]) rfl ?_
      refine ok_astore G #[.val (.int i0), .val (.int i1), .val (.int i2), .val (.int i3), .val (.int i4), .val (.int (1 : Int32)), .val (.ref ob48), .val (.ref ob71), .val (.int (0 : Int32)), .val (.ref xr96), .unset, .unset] at_141 rfl rfl ?_
      have ef : List.drop (cut 47 [chr51]).length ([chr51] : List Int32) = [] := by simp [cut, cq81]
      rw [ef] at S_xr96
      clear ef
      refine ok_iload G at_143 rfl ?_
      refine ok_iload G at_145 rfl ?_
      refine ok_isub G at_147 ?_
      refine ok_iconst G (1 : Int32) at_148 rfl ?_
      refine ok_isub G at_149 ?_
      refine ok_sayI (0 : Int32) (by decide) ?_
      refine ok_istore G #[.val (.int i0), .val (.int i1), .val (.int i2), .val (.int i3), .val (.int i4), .val (.int (1 : Int32)), .val (.ref ob48), .val (.ref ob71), .val (.int (0 : Int32)), .val (.ref xr96), .val (.int (0 : Int32)), .unset] at_150 rfl ?_
      refine ok_aload G at_152 rfl rfl ?_
      refine ok_old (fun hO_hp98 => ?_)
      refine ok_virtual G (a := xr96) (y0 := (⟨"java/lang/String", "length", "()I"⟩ : MethodName)) (y := (⟨"java/lang/String", "length", "()I"⟩ : MethodName)) (argsL := []) (rest := []) S_xr96.exa (C.w89) (C.w40) (C.w42) (fun vm hZ => notFace_of_selects (args := #[]) (mvT (s := s.setVm vm) hZ (C.w42))) (C.w41) (C.w8) (C.w43) (by decide) pd12 (c_length C hO_hp98 S_xr96) rfl rfl rfl at_154 (Nat.le_of_ble_eq_true rfl) (Nat.le_of_ble_eq_true rfl) (Nat.le_of_ble_eq_true rfl) (Nat.le_of_ble_eq_true rfl) (fun _ q => nomatch q) ?_
      rintro _ _ _ ⟨rfl, rfl⟩
      refine ok_as (mkF m 157 #[.val (.int i0), .val (.int i1), .val (.int i2), .val (.int i3), .val (.int i4), .val (.int (1 : Int32)), .val (.ref ob48), .val (.ref ob71), .val (.int (0 : Int32)), .val (.ref xr96), .val (.int (0 : Int32)), .unset] [(.int (0 : Int32))]) rfl ?_
      refine ok_iload G at_157 rfl ?_
      refine ok_icmpeqY G 164 at_159 (by decide) (by decide) (by decide) ?_
      refine ok_iload G at_164 rfl ?_
      refine ok_iconst G (1 : Int32) at_166 rfl ?_
      refine ok_iadd G at_167 ?_
      refine ok_sayI (1 : Int32) (by decide) ?_
      refine ok_istore G #[.val (.int i0), .val (.int i1), .val (.int i2), .val (.int i3), .val (.int i4), .val (.int (1 : Int32)), .val (.ref ob48), .val (.ref ob71), .val (.int (0 : Int32)), .val (.ref xr96), .val (.int (0 : Int32)), .val (.int (1 : Int32))] at_168 rfl ?_
      refine ok_aload G at_170 rfl rfl ?_
      refine ok_aload G at_172 rfl rfl ?_
      refine ok_iload G at_174 rfl ?_
      refine ok_iconst G (0 : Int32) at_176 rfl ?_
      refine ok_iload G at_177 rfl ?_
      refine ok_static G (argsL := [(.ref xr96), (.ref ob48), (.int (1 : Int32)), (.int (0 : Int32)), (.int (0 : Int32))]) (rest := []) (C.w90) (C.w91) (C.w4) (C.w92) (by decide) pd25 (c_sameY C hO_hp98 (by decide)) rfl rfl rfl at_179 (Nat.le_of_ble_eq_true rfl) (Nat.le_of_ble_eq_true rfl) (Nat.le_of_ble_eq_true rfl) (Nat.le_of_ble_eq_true rfl) (fun _ q => nomatch q) ?_
      rintro _ _ _ ⟨rfl, rfl⟩
      refine ok_as (mkF m 182 #[.val (.int i0), .val (.int i1), .val (.int i2), .val (.int i3), .val (.int i4), .val (.int (1 : Int32)), .val (.ref ob48), .val (.ref ob71), .val (.int (0 : Int32)), .val (.ref xr96), .val (.int (0 : Int32)), .val (.int (1 : Int32))] [(.int (1 : Int32))]) rfl ?_
      refine ok_ifeqN G at_182 (by decide) ?_
      refine ok_aload G at_185 rfl rfl ?_
      refine ok_aload G at_187 rfl rfl ?_
      refine ok_iload G at_189 rfl ?_
      refine ok_iconst G (1 : Int32) at_191 rfl ?_
      refine ok_iload G at_192 rfl ?_
      refine ok_static G (argsL := [(.ref xr96), (.ref ob48), (.int (1 : Int32)), (.int (1 : Int32)), (.int (0 : Int32))]) (rest := []) (C.w90) (C.w91) (C.w4) (C.w92) (by decide) pd25 (c_sameY C hO_hp98 (by decide)) rfl rfl rfl at_194 (Nat.le_of_ble_eq_true rfl) (Nat.le_of_ble_eq_true rfl) (Nat.le_of_ble_eq_true rfl) (Nat.le_of_ble_eq_true rfl) (fun _ q => nomatch q) ?_
      rintro _ _ _ ⟨rfl, rfl⟩
      refine ok_as (mkF m 197 #[.val (.int i0), .val (.int i1), .val (.int i2), .val (.int i3), .val (.int i4), .val (.int (1 : Int32)), .val (.ref ob48), .val (.ref ob71), .val (.int (0 : Int32)), .val (.ref xr96), .val (.int (0 : Int32)), .val (.int (1 : Int32))] [(.int (1 : Int32))]) rfl ?_
      refine ok_ifeqN G at_197 (by decide) ?_
      refine ok_aload G at_200 rfl rfl ?_
      refine ok_aload G at_202 rfl rfl ?_
      refine ok_iload G at_204 rfl ?_
      refine ok_iconst G (2 : Int32) at_206 rfl ?_
      refine ok_iload G at_207 rfl ?_
      refine ok_static G (argsL := [(.ref xr96), (.ref ob48), (.int (1 : Int32)), (.int (2 : Int32)), (.int (0 : Int32))]) (rest := []) (C.w90) (C.w91) (C.w4) (C.w92) (by decide) pd25 (c_sameY C hO_hp98 (by decide)) rfl rfl rfl at_209 (Nat.le_of_ble_eq_true rfl) (Nat.le_of_ble_eq_true rfl) (Nat.le_of_ble_eq_true rfl) (Nat.le_of_ble_eq_true rfl) (fun _ q => nomatch q) ?_
      rintro _ _ _ ⟨rfl, rfl⟩
      refine ok_as (mkF m 212 #[.val (.int i0), .val (.int i1), .val (.int i2), .val (.int i3), .val (.int i4), .val (.int (1 : Int32)), .val (.ref ob48), .val (.ref ob71), .val (.int (0 : Int32)), .val (.ref xr96), .val (.int (0 : Int32)), .val (.int (1 : Int32))] [(.int (1 : Int32))]) rfl ?_
      refine ok_ifeqN G at_212 (by decide) ?_
      refine ok_aload G at_215 rfl rfl ?_
      refine ok_aload G at_217 rfl rfl ?_
      refine ok_iload G at_219 rfl ?_
      refine ok_iconst G (3 : Int32) at_221 rfl ?_
      refine ok_iload G at_222 rfl ?_
      refine ok_static G (argsL := [(.ref xr96), (.ref ob48), (.int (1 : Int32)), (.int (3 : Int32)), (.int (0 : Int32))]) (rest := []) (C.w90) (C.w91) (C.w4) (C.w92) (by decide) pd25 (c_sameY C hO_hp98 (by decide)) rfl rfl rfl at_224 (Nat.le_of_ble_eq_true rfl) (Nat.le_of_ble_eq_true rfl) (Nat.le_of_ble_eq_true rfl) (Nat.le_of_ble_eq_true rfl) (fun _ q => nomatch q) ?_
      rintro _ _ _ ⟨rfl, rfl⟩
      refine ok_as (mkF m 227 #[.val (.int i0), .val (.int i1), .val (.int i2), .val (.int i3), .val (.int i4), .val (.int (1 : Int32)), .val (.ref ob48), .val (.ref ob71), .val (.int (0 : Int32)), .val (.ref xr96), .val (.int (0 : Int32)), .val (.int (1 : Int32))] [(.int (1 : Int32))]) rfl ?_
      refine ok_ifeqN G at_227 (by decide) ?_
      refine ok_iconst G (1 : Int32) at_230 rfl ?_
      refine ok_goto G 235 at_231 (by decide) (by decide) ?_
      exact ok_retN G rfl (by simp) at_235 rfl rfl (Nat.le_of_ble_eq_true rfl) (Nat.le_of_ble_eq_true rfl)
  · skip
    rw [hl]
    refine ok_iconst G (4 : Int32) at_8 rfl ?_
    refine ok_newP G (aty := .char) (C.w1) at_9 (by decide) 4 (by decide) (by decide) (Nat.le_of_ble_eq_true rfl) (Nat.le_of_ble_eq_true rfl) ?_
    intro hp111 ob110 k_ob110 eq_ob110 K112 g_ob110 lb_ob110 V_ob110
    replace V_ob110 : Arv Z hp111 ob110 k_ob110 .char (4 : Int32) [(.int (0 : Int32)), (.int (0 : Int32)), (.int (0 : Int32)), (.int (0 : Int32))] (.int (0 : Int32)) := V_ob110.pad (pad_rep [] (.int (0 : Int32)) 4)
    refine ok_dup G at_11 rfl ?_
    refine ok_iconst G (0 : Int32) at_12 rfl ?_
    refine ok_iloadN G at_13 rfl ?_
    refine ok_old (fun hO_hp111 => ?_)
    refine ok_static G (argsL := [(.int i1)]) (rest := [(.int (0 : Int32)), (.ref ob110), (.ref ob110)]) (C.w2) (C.w3) (C.w4) (C.w5) (by decide) pd21 (c_draw C hO_hp111) rfl rfl rfl at_14 (Nat.le_of_ble_eq_true rfl) (Nat.le_of_ble_eq_true rfl) (Nat.le_of_ble_eq_true rfl) (Nat.le_of_ble_eq_true rfl) (fun _ q => nomatch q) ?_
    rintro _ _ _ ⟨chr113, rfl, lchr113, rfl⟩
    refine ok_as (mkF m 17 #[.val (.int i0), .val (.int i1), .val (.int i2), .val (.int i3), .val (.int i4), .val (.int (2 : Int32)), .unset, .unset, .unset, .unset, .unset, .unset] [(.int chr113), (.int (0 : Int32)), (.ref ob110), (.ref ob110)]) rfl ?_
    refine ok_castore G chr113 0 V_ob110 ⟨by decide, by decide⟩ rfl (Nat.le_of_ble_eq_true rfl) (Lat.nar lchr113) at_17 g_ob110 (Or.inr lb_ob110) (SafeFor.mem (List.mem_of_getElem? (i := 0) rfl)) ?_
    intro hp116 K117 Vn
    replace V_ob110 : Arv Z hp116 ob110 k_ob110 .char (4 : Int32) [(.int chr113), (.int (0 : Int32)), (.int (0 : Int32)), (.int (0 : Int32))] (.int (0 : Int32)) := Vn
    clear Vn
    refine ok_dup G at_18 rfl ?_
    refine ok_iconst G (1 : Int32) at_19 rfl ?_
    refine ok_iloadN G at_20 rfl ?_
    refine ok_old (fun hO_hp116 => ?_)
    refine ok_static G (argsL := [(.int i2)]) (rest := [(.int (1 : Int32)), (.ref ob110), (.ref ob110)]) (C.w2) (C.w3) (C.w4) (C.w5) (by decide) pd21 (c_draw C hO_hp116) rfl rfl rfl at_21 (Nat.le_of_ble_eq_true rfl) (Nat.le_of_ble_eq_true rfl) (Nat.le_of_ble_eq_true rfl) (Nat.le_of_ble_eq_true rfl) (fun _ q => nomatch q) ?_
    rintro _ _ _ ⟨chr118, rfl, lchr118, rfl⟩
    refine ok_as (mkF m 24 #[.val (.int i0), .val (.int i1), .val (.int i2), .val (.int i3), .val (.int i4), .val (.int (2 : Int32)), .unset, .unset, .unset, .unset, .unset, .unset] [(.int chr118), (.int (1 : Int32)), (.ref ob110), (.ref ob110)]) rfl ?_
    refine ok_castore G chr118 1 V_ob110 ⟨by decide, by decide⟩ rfl (Nat.le_of_ble_eq_true rfl) (Lat.nar lchr118) at_24 g_ob110 (Or.inr lb_ob110) (SafeFor.mem (List.mem_of_getElem? (i := 0) rfl)) ?_
    intro hp121 K122 Vn
    replace V_ob110 : Arv Z hp121 ob110 k_ob110 .char (4 : Int32) [(.int chr113), (.int chr118), (.int (0 : Int32)), (.int (0 : Int32))] (.int (0 : Int32)) := Vn
    clear Vn
    refine ok_dup G at_25 rfl ?_
    refine ok_iconst G (2 : Int32) at_26 rfl ?_
    refine ok_iloadN G at_27 rfl ?_
    refine ok_old (fun hO_hp121 => ?_)
    refine ok_static G (argsL := [(.int i3)]) (rest := [(.int (2 : Int32)), (.ref ob110), (.ref ob110)]) (C.w2) (C.w3) (C.w4) (C.w5) (by decide) pd21 (c_draw C hO_hp121) rfl rfl rfl at_28 (Nat.le_of_ble_eq_true rfl) (Nat.le_of_ble_eq_true rfl) (Nat.le_of_ble_eq_true rfl) (Nat.le_of_ble_eq_true rfl) (fun _ q => nomatch q) ?_
    rintro _ _ _ ⟨chr123, rfl, lchr123, rfl⟩
    refine ok_as (mkF m 31 #[.val (.int i0), .val (.int i1), .val (.int i2), .val (.int i3), .val (.int i4), .val (.int (2 : Int32)), .unset, .unset, .unset, .unset, .unset, .unset] [(.int chr123), (.int (2 : Int32)), (.ref ob110), (.ref ob110)]) rfl ?_
    refine ok_castore G chr123 2 V_ob110 ⟨by decide, by decide⟩ rfl (Nat.le_of_ble_eq_true rfl) (Lat.nar lchr123) at_31 g_ob110 (Or.inr lb_ob110) (SafeFor.mem (List.mem_of_getElem? (i := 0) rfl)) ?_
    intro hp126 K127 Vn
    replace V_ob110 : Arv Z hp126 ob110 k_ob110 .char (4 : Int32) [(.int chr113), (.int chr118), (.int chr123), (.int (0 : Int32))] (.int (0 : Int32)) := Vn
    clear Vn
    refine ok_dup G at_32 rfl ?_
    refine ok_iconst G (3 : Int32) at_33 rfl ?_
    refine ok_iload G at_34 rfl ?_
    refine ok_old (fun hO_hp126 => ?_)
    refine ok_static G (argsL := [(.int i4)]) (rest := [(.int (3 : Int32)), (.ref ob110), (.ref ob110)]) (C.w2) (C.w3) (C.w4) (C.w5) (by decide) pd21 (c_draw C hO_hp126) rfl rfl rfl at_36 (Nat.le_of_ble_eq_true rfl) (Nat.le_of_ble_eq_true rfl) (Nat.le_of_ble_eq_true rfl) (Nat.le_of_ble_eq_true rfl) (fun _ q => nomatch q) ?_
    rintro _ _ _ ⟨chr128, rfl, lchr128, rfl⟩
    refine ok_as (mkF m 39 #[.val (.int i0), .val (.int i1), .val (.int i2), .val (.int i3), .val (.int i4), .val (.int (2 : Int32)), .unset, .unset, .unset, .unset, .unset, .unset] [(.int chr128), (.int (3 : Int32)), (.ref ob110), (.ref ob110)]) rfl ?_
    refine ok_castore G chr128 3 V_ob110 ⟨by decide, by decide⟩ rfl (Nat.le_of_ble_eq_true rfl) (Lat.nar lchr128) at_39 g_ob110 (Or.inr lb_ob110) (SafeFor.mem (List.mem_of_getElem? (i := 0) rfl)) ?_
    intro hp131 K132 Vn
    replace V_ob110 : Arv Z hp131 ob110 k_ob110 .char (4 : Int32) [(.int chr113), (.int chr118), (.int chr123), (.int chr128)] (.int (0 : Int32)) := Vn
    clear Vn
    refine ok_astore G #[.val (.int i0), .val (.int i1), .val (.int i2), .val (.int i3), .val (.int i4), .val (.int (2 : Int32)), .val (.ref ob110), .unset, .unset, .unset, .unset, .unset] at_40 rfl rfl ?_
    refine ok_new G (C.w6) (C.w7) (C.w8) at_42 (Nat.le_of_ble_eq_true rfl) (Nat.le_of_ble_eq_true rfl) ?_
    intro hp134 ob133 eq_ob133 K135 g_ob133 lb_ob133 E_ob133 D_ob133
    have ne_ob110_ob133 : ob110 ≠ ob133 := Nat.ne_of_lt (Nat.lt_of_lt_of_le V_ob110.lt (Nat.le_of_eq eq_ob133.symm))
    replace V_ob110 := V_ob110.keep K135 nin0
    have F_ob133_value : Fld Z hp134 ob133 "java/lang/String" "value" "[B" .null := D_ob133 _ _ _ (.array .byte) (Or.inr (C.w24)) (by decide)
    have F_ob133_coder : Fld Z hp134 ob133 "java/lang/String" "coder" "B" (.int (0 : Int32)) := D_ob133 _ _ _ .byte (Or.inr (C.w25)) (by decide)
    refine ok_dup G at_45 rfl ?_
    refine ok_aload G at_46 rfl rfl ?_
    refine ok_iload G at_48 rfl ?_
    refine ok_old (fun hO_hp134 => ?_)
    refine ok_keep (fun hKp_hp134 => ?_)
    refine ok_static G (argsL := [(.ref ob110), (.int (2 : Int32))]) (rest := [(.ref ob133), (.ref ob133)]) (C.w9) (C.w10) (C.w4) (C.w11) (by decide) pd22 (c_take2 C hO_hp134 V_ob110 lchr113 lchr118 lchr123 lchr128) rfl rfl rfl at_50 (Nat.le_of_ble_eq_true rfl) (Nat.le_of_ble_eq_true rfl) (Nat.le_of_ble_eq_true rfl) (Nat.le_of_ble_eq_true rfl) (fun _ q => nomatch q) ?_
    rintro _ hp138 K139 ⟨tr136, kb137, rfl, lbq_tr136, V_tr136⟩
    have lbh_tr136 := lbq_tr136
    have ne_ob110_tr136 : ob110 ≠ tr136 := Nat.ne_of_lt (Nat.lt_of_lt_of_le V_ob110.lt lbh_tr136)
    have ne_ob133_tr136 : ob133 ≠ tr136 := Nat.ne_of_lt (Nat.lt_of_lt_of_le E_ob133.lt lbh_tr136)
    have lb_tr136 : h0.size ≤ tr136 := Nat.le_trans hKp_hp134.1 lbh_tr136
    have g_tr136 : n0 ≤ tr136 := Nat.le_trans (old_le hO_hp134) lbh_tr136
    replace V_ob110 := V_ob110.keep K139 nin0
    replace E_ob133 := E_ob133.keep K139
    replace F_ob133_value := F_ob133_value.keep K139 nin0
    replace F_ob133_coder := F_ob133_coder.keep K139 nin0
    refine ok_as (mkF m 53 #[.val (.int i0), .val (.int i1), .val (.int i2), .val (.int i3), .val (.int i4), .val (.int (2 : Int32)), .val (.ref ob110), .unset, .unset, .unset, .unset, .unset] [(.ref tr136), (.ref ob133), (.ref ob133)]) rfl ?_
    refine ok_old (fun hO_hp138 => ?_)
    refine ok_keep (fun hKp_hp138 => ?_)
    refine ok_init G (a := ob133) (argsL := [(.ref tr136)]) (rest := [(.ref ob133)]) rfl (C.w12) (C.w13) (C.w8) (C.w14) (by decide) pd23 (c_init1 (cs := [chr113, chr118]) C hO_hp138 E_ob133 F_ob133_value F_ob133_coder g_ob133 V_tr136 (Nat.le_of_ble_eq_true rfl) (Nat.le_of_ble_eq_true rfl) (allL lchr113 (allL lchr118 (fun _ q => nomatch q))) ne_ob133_tr136) rfl rfl rfl at_53 (Nat.le_of_ble_eq_true rfl) (Nat.le_of_ble_eq_true rfl) (Nat.le_of_ble_eq_true rfl) (Nat.le_of_ble_eq_true rfl) (allS ⟨(Or.inr lb_ob133), (SafeFor.mem (List.mem_of_getElem? (i := 0) rfl))⟩ (fun _ q => nomatch q)) ?_
    rintro _ hp141 K142 ⟨rfl, tr140, lbq_tr140, S_ob133⟩
    have lbh_tr140 := lbq_tr140
    have ne_ob110_tr140 : ob110 ≠ tr140 := Nat.ne_of_lt (Nat.lt_of_lt_of_le V_ob110.lt lbh_tr140)
    have ne_ob133_tr140 : ob133 ≠ tr140 := Nat.ne_of_lt (Nat.lt_of_lt_of_le E_ob133.lt lbh_tr140)
    have ne_tr136_tr140 : tr136 ≠ tr140 := Nat.ne_of_lt (Nat.lt_of_lt_of_le V_tr136.lt lbh_tr140)
    have lb_tr140 : h0.size ≤ tr140 := Nat.le_trans hKp_hp138.1 lbh_tr140
    have g_tr140 : n0 ≤ tr140 := Nat.le_trans (old_le hO_hp138) lbh_tr140
    replace V_ob110 := V_ob110.keep K142 (ninS ne_ob110_ob133 nin0)
    replace E_ob133 := E_ob133.keep K142
    replace V_tr136 := V_tr136.keep K142 (ninS (Ne.symm ne_ob133_tr136) nin0)
    refine ok_as (mkF m 56 #[.val (.int i0), .val (.int i1), .val (.int i2), .val (.int i3), .val (.int i4), .val (.int (2 : Int32)), .val (.ref ob110), .unset, .unset, .unset, .unset, .unset] [(.ref ob133)]) rfl ?_
    refine ok_astore G #[.val (.int i0), .val (.int i1), .val (.int i2), .val (.int i3), .val (.int i4), .val (.int (2 : Int32)), .val (.ref ob110), .val (.ref ob133), .unset, .unset, .unset, .unset] at_56 rfl rfl ?_
    refine ok_iload G at_58 rfl ?_
    refine ok_iconst G (3 : Int32) at_60 rfl ?_
    refine ok_icmpleY G 77 at_61 (by decide) (by decide) (by decide) ?_
    refine ok_iload G at_77 rfl ?_
    refine ok_iconst G (2 : Int32) at_79 rfl ?_
    refine ok_icmpleY G 96 at_80 (by decide) (by decide) (by decide) ?_
    refine ok_iload G at_96 rfl ?_
    refine ok_iconst G (1 : Int32) at_98 rfl ?_
    refine ok_icmpleN G at_99 (by decide) ?_
    refine ok_aload G at_102 rfl rfl ?_
    refine ok_iconst G (1 : Int32) at_104 rfl ?_
    refine ok_caload G chr118 V_ob110 ⟨by decide, by decide⟩ rfl at_105 ?_
    refine ok_bipush G (47 : Int32) at_106 rfl ?_
    refine ok_icmpne G 115 at_108 (by decide) (by decide) (fun cq143 => ?_) (fun cq143 => ?_)
    · skip
      refine ok_iload G at_115 rfl ?_
      refine ok_ifleN G at_117 (by decide) ?_
      refine ok_aload G at_120 rfl rfl ?_
      refine ok_iconst G (0 : Int32) at_122 rfl ?_
      refine ok_caload G chr113 V_ob110 ⟨by decide, by decide⟩ rfl at_123 ?_
      refine ok_bipush G (47 : Int32) at_124 rfl ?_
      refine ok_icmpne G 133 at_126 (by decide) (by decide) (fun cq144 => ?_) (fun cq144 => ?_)
      · skip
        refine ok_iconst G (-1 : Int32) at_133 rfl ?_
        refine ok_istore G #[.val (.int i0), .val (.int i1), .val (.int i2), .val (.int i3), .val (.int i4), .val (.int (2 : Int32)), .val (.ref ob110), .val (.ref ob133), .val (.int (-1 : Int32)), .unset, .unset, .unset] at_134 rfl ?_
        refine ok_aload G at_136 rfl rfl ?_
        refine ok_old (fun hO_hp141 => ?_)
        refine ok_staticW G (argsL := [(.ref ob133)]) (rest := []) (C.w30) (C.w31) (C.w32) (C.w33) (by decide) pd24 (c_fname C hO_hp141 hE S_ob133) rfl rfl rfl at_138 (Nat.le_of_ble_eq_true rfl) (Nat.le_of_ble_eq_true rfl) (Nat.le_of_ble_eq_true rfl) (Nat.le_of_ble_eq_true rfl) rfl (fun _ q => nomatch q) ?_
        rintro _ hp147 K148 ⟨xr145, tr146, rfl, S_xr145⟩
        replace V_ob110 := V_ob110.keep K148 nin0
        replace E_ob133 := E_ob133.keep K148
        replace V_tr136 := V_tr136.keep K148 nin0
        replace S_ob133 := S_ob133.keep K148 nin0 nin0
        refine ok_as (mkF m 141 #[.val (.int i0), .val (.int i1), .val (.int i2), .val (.int i3), .val (.int i4), .val (.int (2 : Int32)), .val (.ref ob110), .val (.ref ob133), .val (.int (-1 : Int32)), .unset, .unset, .unset] [(.ref xr145)]) rfl ?_
        refine ok_astore G #[.val (.int i0), .val (.int i1), .val (.int i2), .val (.int i3), .val (.int i4), .val (.int (2 : Int32)), .val (.ref ob110), .val (.ref ob133), .val (.int (-1 : Int32)), .val (.ref xr145), .unset, .unset] at_141 rfl rfl ?_
        have ef : List.drop (cut 47 [chr113, chr118]).length ([chr113, chr118] : List Int32) = [chr113, chr118] := by simp [cut, cq143, cq144]
        rw [ef] at S_xr145
        clear ef
        refine ok_iload G at_143 rfl ?_
        refine ok_iload G at_145 rfl ?_
        refine ok_isub G at_147 ?_
        refine ok_iconst G (1 : Int32) at_148 rfl ?_
        refine ok_isub G at_149 ?_
        refine ok_sayI (2 : Int32) (by decide) ?_
        refine ok_istore G #[.val (.int i0), .val (.int i1), .val (.int i2), .val (.int i3), .val (.int i4), .val (.int (2 : Int32)), .val (.ref ob110), .val (.ref ob133), .val (.int (-1 : Int32)), .val (.ref xr145), .val (.int (2 : Int32)), .unset] at_150 rfl ?_
        refine ok_aload G at_152 rfl rfl ?_
        refine ok_old (fun hO_hp147 => ?_)
        refine ok_virtual G (a := xr145) (y0 := (⟨"java/lang/String", "length", "()I"⟩ : MethodName)) (y := (⟨"java/lang/String", "length", "()I"⟩ : MethodName)) (argsL := []) (rest := []) S_xr145.exa (C.w89) (C.w40) (C.w42) (fun vm hZ => notFace_of_selects (args := #[]) (mvT (s := s.setVm vm) hZ (C.w42))) (C.w41) (C.w8) (C.w43) (by decide) pd12 (c_length C hO_hp147 S_xr145) rfl rfl rfl at_154 (Nat.le_of_ble_eq_true rfl) (Nat.le_of_ble_eq_true rfl) (Nat.le_of_ble_eq_true rfl) (Nat.le_of_ble_eq_true rfl) (fun _ q => nomatch q) ?_
        rintro _ _ _ ⟨rfl, rfl⟩
        refine ok_as (mkF m 157 #[.val (.int i0), .val (.int i1), .val (.int i2), .val (.int i3), .val (.int i4), .val (.int (2 : Int32)), .val (.ref ob110), .val (.ref ob133), .val (.int (-1 : Int32)), .val (.ref xr145), .val (.int (2 : Int32)), .unset] [(.int (2 : Int32))]) rfl ?_
        refine ok_iload G at_157 rfl ?_
        refine ok_icmpeqY G 164 at_159 (by decide) (by decide) (by decide) ?_
        refine ok_iload G at_164 rfl ?_
        refine ok_iconst G (1 : Int32) at_166 rfl ?_
        refine ok_iadd G at_167 ?_
        refine ok_sayI (0 : Int32) (by decide) ?_
        refine ok_istore G #[.val (.int i0), .val (.int i1), .val (.int i2), .val (.int i3), .val (.int i4), .val (.int (2 : Int32)), .val (.ref ob110), .val (.ref ob133), .val (.int (-1 : Int32)), .val (.ref xr145), .val (.int (2 : Int32)), .val (.int (0 : Int32))] at_168 rfl ?_
        refine ok_aload G at_170 rfl rfl ?_
        refine ok_aload G at_172 rfl rfl ?_
        refine ok_iload G at_174 rfl ?_
        refine ok_iconst G (0 : Int32) at_176 rfl ?_
        refine ok_iload G at_177 rfl ?_
        refine ok_static G (argsL := [(.ref xr145), (.ref ob110), (.int (0 : Int32)), (.int (0 : Int32)), (.int (2 : Int32))]) (rest := []) (C.w90) (C.w91) (C.w4) (C.w92) (by decide) pd25 (c_sameC (ch := chr113) C hO_hp147 S_xr145 V_ob110 (by decide) 0 (Nat.le_of_ble_eq_true rfl) rfl rfl ⟨by decide, by decide⟩ rfl) rfl rfl rfl at_179 (Nat.le_of_ble_eq_true rfl) (Nat.le_of_ble_eq_true rfl) (Nat.le_of_ble_eq_true rfl) (Nat.le_of_ble_eq_true rfl) (fun _ q => nomatch q) ?_
        rintro _ _ _ ⟨rfl, rfl⟩
        refine ok_as (mkF m 182 #[.val (.int i0), .val (.int i1), .val (.int i2), .val (.int i3), .val (.int i4), .val (.int (2 : Int32)), .val (.ref ob110), .val (.ref ob133), .val (.int (-1 : Int32)), .val (.ref xr145), .val (.int (2 : Int32)), .val (.int (0 : Int32))] [(.int (1 : Int32))]) rfl ?_
        refine ok_ifeqN G at_182 (by decide) ?_
        refine ok_aload G at_185 rfl rfl ?_
        refine ok_aload G at_187 rfl rfl ?_
        refine ok_iload G at_189 rfl ?_
        refine ok_iconst G (1 : Int32) at_191 rfl ?_
        refine ok_iload G at_192 rfl ?_
        refine ok_static G (argsL := [(.ref xr145), (.ref ob110), (.int (0 : Int32)), (.int (1 : Int32)), (.int (2 : Int32))]) (rest := []) (C.w90) (C.w91) (C.w4) (C.w92) (by decide) pd25 (c_sameC (ch := chr118) C hO_hp147 S_xr145 V_ob110 (by decide) 1 (Nat.le_of_ble_eq_true rfl) rfl rfl ⟨by decide, by decide⟩ rfl) rfl rfl rfl at_194 (Nat.le_of_ble_eq_true rfl) (Nat.le_of_ble_eq_true rfl) (Nat.le_of_ble_eq_true rfl) (Nat.le_of_ble_eq_true rfl) (fun _ q => nomatch q) ?_
        rintro _ _ _ ⟨rfl, rfl⟩
        refine ok_as (mkF m 197 #[.val (.int i0), .val (.int i1), .val (.int i2), .val (.int i3), .val (.int i4), .val (.int (2 : Int32)), .val (.ref ob110), .val (.ref ob133), .val (.int (-1 : Int32)), .val (.ref xr145), .val (.int (2 : Int32)), .val (.int (0 : Int32))] [(.int (1 : Int32))]) rfl ?_
        refine ok_ifeqN G at_197 (by decide) ?_
        refine ok_aload G at_200 rfl rfl ?_
        refine ok_aload G at_202 rfl rfl ?_
        refine ok_iload G at_204 rfl ?_
        refine ok_iconst G (2 : Int32) at_206 rfl ?_
        refine ok_iload G at_207 rfl ?_
        refine ok_static G (argsL := [(.ref xr145), (.ref ob110), (.int (0 : Int32)), (.int (2 : Int32)), (.int (2 : Int32))]) (rest := []) (C.w90) (C.w91) (C.w4) (C.w92) (by decide) pd25 (c_sameY C hO_hp147 (by decide)) rfl rfl rfl at_209 (Nat.le_of_ble_eq_true rfl) (Nat.le_of_ble_eq_true rfl) (Nat.le_of_ble_eq_true rfl) (Nat.le_of_ble_eq_true rfl) (fun _ q => nomatch q) ?_
        rintro _ _ _ ⟨rfl, rfl⟩
        refine ok_as (mkF m 212 #[.val (.int i0), .val (.int i1), .val (.int i2), .val (.int i3), .val (.int i4), .val (.int (2 : Int32)), .val (.ref ob110), .val (.ref ob133), .val (.int (-1 : Int32)), .val (.ref xr145), .val (.int (2 : Int32)), .val (.int (0 : Int32))] [(.int (1 : Int32))]) rfl ?_
        refine ok_ifeqN G at_212 (by decide) ?_
        refine ok_aload G at_215 rfl rfl ?_
        refine ok_aload G at_217 rfl rfl ?_
        refine ok_iload G at_219 rfl ?_
        refine ok_iconst G (3 : Int32) at_221 rfl ?_
        refine ok_iload G at_222 rfl ?_
        refine ok_static G (argsL := [(.ref xr145), (.ref ob110), (.int (0 : Int32)), (.int (3 : Int32)), (.int (2 : Int32))]) (rest := []) (C.w90) (C.w91) (C.w4) (C.w92) (by decide) pd25 (c_sameY C hO_hp147 (by decide)) rfl rfl rfl at_224 (Nat.le_of_ble_eq_true rfl) (Nat.le_of_ble_eq_true rfl) (Nat.le_of_ble_eq_true rfl) (Nat.le_of_ble_eq_true rfl) (fun _ q => nomatch q) ?_
        rintro _ _ _ ⟨rfl, rfl⟩
        refine ok_as (mkF m 227 #[.val (.int i0), .val (.int i1), .val (.int i2), .val (.int i3), .val (.int i4), .val (.int (2 : Int32)), .val (.ref ob110), .val (.ref ob133), .val (.int (-1 : Int32)), .val (.ref xr145), .val (.int (2 : Int32)), .val (.int (0 : Int32))] [(.int (1 : Int32))]) rfl ?_
        refine ok_ifeqN G at_227 (by decide) ?_
        refine ok_iconst G (1 : Int32) at_230 rfl ?_
        refine ok_goto G 235 at_231 (by decide) (by decide) ?_
        exact ok_retN G rfl (by simp) at_235 rfl rfl (Nat.le_of_ble_eq_true rfl) (Nat.le_of_ble_eq_true rfl)
      · skip
        refine ok_iconst G (0 : Int32) at_129 rfl ?_
        refine ok_goto G 134 at_130 (by decide) (by decide) ?_
        refine ok_istore G #[.val (.int i0), .val (.int i1), .val (.int i2), .val (.int i3), .val (.int i4), .val (.int (2 : Int32)), .val (.ref ob110), .val (.ref ob133), .val (.int (0 : Int32)), .unset, .unset, .unset] at_134 rfl ?_
        refine ok_aload G at_136 rfl rfl ?_
        refine ok_old (fun hO_hp141 => ?_)
        refine ok_staticW G (argsL := [(.ref ob133)]) (rest := []) (C.w30) (C.w31) (C.w32) (C.w33) (by decide) pd24 (c_fname C hO_hp141 hE S_ob133) rfl rfl rfl at_138 (Nat.le_of_ble_eq_true rfl) (Nat.le_of_ble_eq_true rfl) (Nat.le_of_ble_eq_true rfl) (Nat.le_of_ble_eq_true rfl) rfl (fun _ q => nomatch q) ?_
        rintro _ hp161 K162 ⟨xr159, tr160, rfl, S_xr159⟩
        replace V_ob110 := V_ob110.keep K162 nin0
        replace E_ob133 := E_ob133.keep K162
        replace V_tr136 := V_tr136.keep K162 nin0
        replace S_ob133 := S_ob133.keep K162 nin0 nin0
        refine ok_as (mkF m 141 #[.val (.int i0), .val (.int i1), .val (.int i2), .val (.int i3), .val (.int i4), .val (.int (2 : Int32)), .val (.ref ob110), .val (.ref ob133), .val (.int (0 : Int32)), .unset, .unset, .unset] [(.ref xr159)]) rfl ?_
        refine ok_astore G #[.val (.int i0), .val (.int i1), .val (.int i2), .val (.int i3), .val (.int i4), .val (.int (2 : Int32)), .val (.ref ob110), .val (.ref ob133), .val (.int (0 : Int32)), .val (.ref xr159), .unset, .unset] at_141 rfl rfl ?_
        have ef : List.drop (cut 47 [chr113, chr118]).length ([chr113, chr118] : List Int32) = [chr118] := by simp [cut, cq143, cq144]
        rw [ef] at S_xr159
        clear ef
        refine ok_iload G at_143 rfl ?_
        refine ok_iload G at_145 rfl ?_
        refine ok_isub G at_147 ?_
        refine ok_iconst G (1 : Int32) at_148 rfl ?_
        refine ok_isub G at_149 ?_
        refine ok_sayI (1 : Int32) (by decide) ?_
        refine ok_istore G #[.val (.int i0), .val (.int i1), .val (.int i2), .val (.int i3), .val (.int i4), .val (.int (2 : Int32)), .val (.ref ob110), .val (.ref ob133), .val (.int (0 : Int32)), .val (.ref xr159), .val (.int (1 : Int32)), .unset] at_150 rfl ?_
        refine ok_aload G at_152 rfl rfl ?_
        refine ok_old (fun hO_hp161 => ?_)
        refine ok_virtual G (a := xr159) (y0 := (⟨"java/lang/String", "length", "()I"⟩ : MethodName)) (y := (⟨"java/lang/String", "length", "()I"⟩ : MethodName)) (argsL := []) (rest := []) S_xr159.exa (C.w89) (C.w40) (C.w42) (fun vm hZ => notFace_of_selects (args := #[]) (mvT (s := s.setVm vm) hZ (C.w42))) (C.w41) (C.w8) (C.w43) (by decide) pd12 (c_length C hO_hp161 S_xr159) rfl rfl rfl at_154 (Nat.le_of_ble_eq_true rfl) (Nat.le_of_ble_eq_true rfl) (Nat.le_of_ble_eq_true rfl) (Nat.le_of_ble_eq_true rfl) (fun _ q => nomatch q) ?_
        rintro _ _ _ ⟨rfl, rfl⟩
        refine ok_as (mkF m 157 #[.val (.int i0), .val (.int i1), .val (.int i2), .val (.int i3), .val (.int i4), .val (.int (2 : Int32)), .val (.ref ob110), .val (.ref ob133), .val (.int (0 : Int32)), .val (.ref xr159), .val (.int (1 : Int32)), .unset] [(.int (1 : Int32))]) rfl ?_
        refine ok_iload G at_157 rfl ?_
        refine ok_icmpeqY G 164 at_159 (by decide) (by decide) (by decide) ?_
        refine ok_iload G at_164 rfl ?_
        refine ok_iconst G (1 : Int32) at_166 rfl ?_
        refine ok_iadd G at_167 ?_
        refine ok_sayI (1 : Int32) (by decide) ?_
        refine ok_istore G #[.val (.int i0), .val (.int i1), .val (.int i2), .val (.int i3), .val (.int i4), .val (.int (2 : Int32)), .val (.ref ob110), .val (.ref ob133), .val (.int (0 : Int32)), .val (.ref xr159), .val (.int (1 : Int32)), .val (.int (1 : Int32))] at_168 rfl ?_
        refine ok_aload G at_170 rfl rfl ?_
        refine ok_aload G at_172 rfl rfl ?_
        refine ok_iload G at_174 rfl ?_
        refine ok_iconst G (0 : Int32) at_176 rfl ?_
        refine ok_iload G at_177 rfl ?_
        refine ok_static G (argsL := [(.ref xr159), (.ref ob110), (.int (1 : Int32)), (.int (0 : Int32)), (.int (1 : Int32))]) (rest := []) (C.w90) (C.w91) (C.w4) (C.w92) (by decide) pd25 (c_sameC (ch := chr118) C hO_hp161 S_xr159 V_ob110 (by decide) 0 (Nat.le_of_ble_eq_true rfl) rfl rfl ⟨by decide, by decide⟩ rfl) rfl rfl rfl at_179 (Nat.le_of_ble_eq_true rfl) (Nat.le_of_ble_eq_true rfl) (Nat.le_of_ble_eq_true rfl) (Nat.le_of_ble_eq_true rfl) (fun _ q => nomatch q) ?_
        rintro _ _ _ ⟨rfl, rfl⟩
        refine ok_as (mkF m 182 #[.val (.int i0), .val (.int i1), .val (.int i2), .val (.int i3), .val (.int i4), .val (.int (2 : Int32)), .val (.ref ob110), .val (.ref ob133), .val (.int (0 : Int32)), .val (.ref xr159), .val (.int (1 : Int32)), .val (.int (1 : Int32))] [(.int (1 : Int32))]) rfl ?_
        refine ok_ifeqN G at_182 (by decide) ?_
        refine ok_aload G at_185 rfl rfl ?_
        refine ok_aload G at_187 rfl rfl ?_
        refine ok_iload G at_189 rfl ?_
        refine ok_iconst G (1 : Int32) at_191 rfl ?_
        refine ok_iload G at_192 rfl ?_
        refine ok_static G (argsL := [(.ref xr159), (.ref ob110), (.int (1 : Int32)), (.int (1 : Int32)), (.int (1 : Int32))]) (rest := []) (C.w90) (C.w91) (C.w4) (C.w92) (by decide) pd25 (c_sameY C hO_hp161 (by decide)) rfl rfl rfl at_194 (Nat.le_of_ble_eq_true rfl) (Nat.le_of_ble_eq_true rfl) (Nat.le_of_ble_eq_true rfl) (Nat.le_of_ble_eq_true rfl) (fun _ q => nomatch q) ?_
        rintro _ _ _ ⟨rfl, rfl⟩
        refine ok_as (mkF m 197 #[.val (.int i0), .val (.int i1), .val (.int i2), .val (.int i3), .val (.int i4), .val (.int (2 : Int32)), .val (.ref ob110), .val (.ref ob133), .val (.int (0 : Int32)), .val (.ref xr159), .val (.int (1 : Int32)), .val (.int (1 : Int32))] [(.int (1 : Int32))]) rfl ?_
        refine ok_ifeqN G at_197 (by decide) ?_
        refine ok_aload G at_200 rfl rfl ?_
        refine ok_aload G at_202 rfl rfl ?_
        refine ok_iload G at_204 rfl ?_
        refine ok_iconst G (2 : Int32) at_206 rfl ?_
        refine ok_iload G at_207 rfl ?_
        refine ok_static G (argsL := [(.ref xr159), (.ref ob110), (.int (1 : Int32)), (.int (2 : Int32)), (.int (1 : Int32))]) (rest := []) (C.w90) (C.w91) (C.w4) (C.w92) (by decide) pd25 (c_sameY C hO_hp161 (by decide)) rfl rfl rfl at_209 (Nat.le_of_ble_eq_true rfl) (Nat.le_of_ble_eq_true rfl) (Nat.le_of_ble_eq_true rfl) (Nat.le_of_ble_eq_true rfl) (fun _ q => nomatch q) ?_
        rintro _ _ _ ⟨rfl, rfl⟩
        refine ok_as (mkF m 212 #[.val (.int i0), .val (.int i1), .val (.int i2), .val (.int i3), .val (.int i4), .val (.int (2 : Int32)), .val (.ref ob110), .val (.ref ob133), .val (.int (0 : Int32)), .val (.ref xr159), .val (.int (1 : Int32)), .val (.int (1 : Int32))] [(.int (1 : Int32))]) rfl ?_
        refine ok_ifeqN G at_212 (by decide) ?_
        refine ok_aload G at_215 rfl rfl ?_
        refine ok_aload G at_217 rfl rfl ?_
        refine ok_iload G at_219 rfl ?_
        refine ok_iconst G (3 : Int32) at_221 rfl ?_
        refine ok_iload G at_222 rfl ?_
        refine ok_static G (argsL := [(.ref xr159), (.ref ob110), (.int (1 : Int32)), (.int (3 : Int32)), (.int (1 : Int32))]) (rest := []) (C.w90) (C.w91) (C.w4) (C.w92) (by decide) pd25 (c_sameY C hO_hp161 (by decide)) rfl rfl rfl at_224 (Nat.le_of_ble_eq_true rfl) (Nat.le_of_ble_eq_true rfl) (Nat.le_of_ble_eq_true rfl) (Nat.le_of_ble_eq_true rfl) (fun _ q => nomatch q) ?_
        rintro _ _ _ ⟨rfl, rfl⟩
        refine ok_as (mkF m 227 #[.val (.int i0), .val (.int i1), .val (.int i2), .val (.int i3), .val (.int i4), .val (.int (2 : Int32)), .val (.ref ob110), .val (.ref ob133), .val (.int (0 : Int32)), .val (.ref xr159), .val (.int (1 : Int32)), .val (.int (1 : Int32))] [(.int (1 : Int32))]) rfl ?_
        refine ok_ifeqN G at_227 (by decide) ?_
        refine ok_iconst G (1 : Int32) at_230 rfl ?_
        refine ok_goto G 235 at_231 (by decide) (by decide) ?_
        exact ok_retN G rfl (by simp) at_235 rfl rfl (Nat.le_of_ble_eq_true rfl) (Nat.le_of_ble_eq_true rfl)
    · skip
      refine ok_iconst G (1 : Int32) at_111 rfl ?_
      refine ok_goto G 134 at_112 (by decide) (by decide) ?_
      refine ok_istore G #[.val (.int i0), .val (.int i1), .val (.int i2), .val (.int i3), .val (.int i4), .val (.int (2 : Int32)), .val (.ref ob110), .val (.ref ob133), .val (.int (1 : Int32)), .unset, .unset, .unset] at_134 rfl ?_
      refine ok_aload G at_136 rfl rfl ?_
      refine ok_old (fun hO_hp141 => ?_)
      refine ok_staticW G (argsL := [(.ref ob133)]) (rest := []) (C.w30) (C.w31) (C.w32) (C.w33) (by decide) pd24 (c_fname C hO_hp141 hE S_ob133) rfl rfl rfl at_138 (Nat.le_of_ble_eq_true rfl) (Nat.le_of_ble_eq_true rfl) (Nat.le_of_ble_eq_true rfl) (Nat.le_of_ble_eq_true rfl) rfl (fun _ q => nomatch q) ?_
      rintro _ hp175 K176 ⟨xr173, tr174, rfl, S_xr173⟩
      replace V_ob110 := V_ob110.keep K176 nin0
      replace E_ob133 := E_ob133.keep K176
      replace V_tr136 := V_tr136.keep K176 nin0
      replace S_ob133 := S_ob133.keep K176 nin0 nin0
      refine ok_as (mkF m 141 #[.val (.int i0), .val (.int i1), .val (.int i2), .val (.int i3), .val (.int i4), .val (.int (2 : Int32)), .val (.ref ob110), .val (.ref ob133), .val (.int (1 : Int32)), .unset, .unset, .unset] [(.ref xr173)]) rfl ?_
      refine ok_astore G #[.val (.int i0), .val (.int i1), .val (.int i2), .val (.int i3), .val (.int i4), .val (.int (2 : Int32)), .val (.ref ob110), .val (.ref ob133), .val (.int (1 : Int32)), .val (.ref xr173), .unset, .unset] at_141 rfl rfl ?_
      have ef : List.drop (cut 47 [chr113, chr118]).length ([chr113, chr118] : List Int32) = [] := by simp [cut, cq143]
      rw [ef] at S_xr173
      clear ef
      refine ok_iload G at_143 rfl ?_
      refine ok_iload G at_145 rfl ?_
      refine ok_isub G at_147 ?_
      refine ok_iconst G (1 : Int32) at_148 rfl ?_
      refine ok_isub G at_149 ?_
      refine ok_sayI (0 : Int32) (by decide) ?_
      refine ok_istore G #[.val (.int i0), .val (.int i1), .val (.int i2), .val (.int i3), .val (.int i4), .val (.int (2 : Int32)), .val (.ref ob110), .val (.ref ob133), .val (.int (1 : Int32)), .val (.ref xr173), .val (.int (0 : Int32)), .unset] at_150 rfl ?_
      refine ok_aload G at_152 rfl rfl ?_
      refine ok_old (fun hO_hp175 => ?_)
      refine ok_virtual G (a := xr173) (y0 := (⟨"java/lang/String", "length", "()I"⟩ : MethodName)) (y := (⟨"java/lang/String", "length", "()I"⟩ : MethodName)) (argsL := []) (rest := []) S_xr173.exa (C.w89) (C.w40) (C.w42) (fun vm hZ => notFace_of_selects (args := #[]) (mvT (s := s.setVm vm) hZ (C.w42))) (C.w41) (C.w8) (C.w43) (by decide) pd12 (c_length C hO_hp175 S_xr173) rfl rfl rfl at_154 (Nat.le_of_ble_eq_true rfl) (Nat.le_of_ble_eq_true rfl) (Nat.le_of_ble_eq_true rfl) (Nat.le_of_ble_eq_true rfl) (fun _ q => nomatch q) ?_
      rintro _ _ _ ⟨rfl, rfl⟩
      refine ok_as (mkF m 157 #[.val (.int i0), .val (.int i1), .val (.int i2), .val (.int i3), .val (.int i4), .val (.int (2 : Int32)), .val (.ref ob110), .val (.ref ob133), .val (.int (1 : Int32)), .val (.ref xr173), .val (.int (0 : Int32)), .unset] [(.int (0 : Int32))]) rfl ?_
      refine ok_iload G at_157 rfl ?_
      refine ok_icmpeqY G 164 at_159 (by decide) (by decide) (by decide) ?_
      refine ok_iload G at_164 rfl ?_
      refine ok_iconst G (1 : Int32) at_166 rfl ?_
      refine ok_iadd G at_167 ?_
      refine ok_sayI (2 : Int32) (by decide) ?_
      refine ok_istore G #[.val (.int i0), .val (.int i1), .val (.int i2), .val (.int i3), .val (.int i4), .val (.int (2 : Int32)), .val (.ref ob110), .val (.ref ob133), .val (.int (1 : Int32)), .val (.ref xr173), .val (.int (0 : Int32)), .val (.int (2 : Int32))] at_168 rfl ?_
      refine ok_aload G at_170 rfl rfl ?_
      refine ok_aload G at_172 rfl rfl ?_
      refine ok_iload G at_174 rfl ?_
      refine ok_iconst G (0 : Int32) at_176 rfl ?_
      refine ok_iload G at_177 rfl ?_
      refine ok_static G (argsL := [(.ref xr173), (.ref ob110), (.int (2 : Int32)), (.int (0 : Int32)), (.int (0 : Int32))]) (rest := []) (C.w90) (C.w91) (C.w4) (C.w92) (by decide) pd25 (c_sameY C hO_hp175 (by decide)) rfl rfl rfl at_179 (Nat.le_of_ble_eq_true rfl) (Nat.le_of_ble_eq_true rfl) (Nat.le_of_ble_eq_true rfl) (Nat.le_of_ble_eq_true rfl) (fun _ q => nomatch q) ?_
      rintro _ _ _ ⟨rfl, rfl⟩
      refine ok_as (mkF m 182 #[.val (.int i0), .val (.int i1), .val (.int i2), .val (.int i3), .val (.int i4), .val (.int (2 : Int32)), .val (.ref ob110), .val (.ref ob133), .val (.int (1 : Int32)), .val (.ref xr173), .val (.int (0 : Int32)), .val (.int (2 : Int32))] [(.int (1 : Int32))]) rfl ?_
      refine ok_ifeqN G at_182 (by decide) ?_
      refine ok_aload G at_185 rfl rfl ?_
      refine ok_aload G at_187 rfl rfl ?_
      refine ok_iload G at_189 rfl ?_
      refine ok_iconst G (1 : Int32) at_191 rfl ?_
      refine ok_iload G at_192 rfl ?_
      refine ok_static G (argsL := [(.ref xr173), (.ref ob110), (.int (2 : Int32)), (.int (1 : Int32)), (.int (0 : Int32))]) (rest := []) (C.w90) (C.w91) (C.w4) (C.w92) (by decide) pd25 (c_sameY C hO_hp175 (by decide)) rfl rfl rfl at_194 (Nat.le_of_ble_eq_true rfl) (Nat.le_of_ble_eq_true rfl) (Nat.le_of_ble_eq_true rfl) (Nat.le_of_ble_eq_true rfl) (fun _ q => nomatch q) ?_
      rintro _ _ _ ⟨rfl, rfl⟩
      refine ok_as (mkF m 197 #[.val (.int i0), .val (.int i1), .val (.int i2), .val (.int i3), .val (.int i4), .val (.int (2 : Int32)), .val (.ref ob110), .val (.ref ob133), .val (.int (1 : Int32)), .val (.ref xr173), .val (.int (0 : Int32)), .val (.int (2 : Int32))] [(.int (1 : Int32))]) rfl ?_
      refine ok_ifeqN G at_197 (by decide) ?_
      refine ok_aload G at_200 rfl rfl ?_
      refine ok_aload G at_202 rfl rfl ?_
      refine ok_iload G at_204 rfl ?_
      refine ok_iconst G (2 : Int32) at_206 rfl ?_
      refine ok_iload G at_207 rfl ?_
      refine ok_static G (argsL := [(.ref xr173), (.ref ob110), (.int (2 : Int32)), (.int (2 : Int32)), (.int (0 : Int32))]) (rest := []) (C.w90) (C.w91) (C.w4) (C.w92) (by decide) pd25 (c_sameY C hO_hp175 (by decide)) rfl rfl rfl at_209 (Nat.le_of_ble_eq_true rfl) (Nat.le_of_ble_eq_true rfl) (Nat.le_of_ble_eq_true rfl) (Nat.le_of_ble_eq_true rfl) (fun _ q => nomatch q) ?_
      rintro _ _ _ ⟨rfl, rfl⟩
      refine ok_as (mkF m 212 #[.val (.int i0), .val (.int i1), .val (.int i2), .val (.int i3), .val (.int i4), .val (.int (2 : Int32)), .val (.ref ob110), .val (.ref ob133), .val (.int (1 : Int32)), .val (.ref xr173), .val (.int (0 : Int32)), .val (.int (2 : Int32))] [(.int (1 : Int32))]) rfl ?_
      refine ok_ifeqN G at_212 (by decide) ?_
      refine ok_aload G at_215 rfl rfl ?_
      refine ok_aload G at_217 rfl rfl ?_
      refine ok_iload G at_219 rfl ?_
      refine ok_iconst G (3 : Int32) at_221 rfl ?_
      refine ok_iload G at_222 rfl ?_
      refine ok_static G (argsL := [(.ref xr173), (.ref ob110), (.int (2 : Int32)), (.int (3 : Int32)), (.int (0 : Int32))]) (rest := []) (C.w90) (C.w91) (C.w4) (C.w92) (by decide) pd25 (c_sameY C hO_hp175 (by decide)) rfl rfl rfl at_224 (Nat.le_of_ble_eq_true rfl) (Nat.le_of_ble_eq_true rfl) (Nat.le_of_ble_eq_true rfl) (Nat.le_of_ble_eq_true rfl) (fun _ q => nomatch q) ?_
      rintro _ _ _ ⟨rfl, rfl⟩
      refine ok_as (mkF m 227 #[.val (.int i0), .val (.int i1), .val (.int i2), .val (.int i3), .val (.int i4), .val (.int (2 : Int32)), .val (.ref ob110), .val (.ref ob133), .val (.int (1 : Int32)), .val (.ref xr173), .val (.int (0 : Int32)), .val (.int (2 : Int32))] [(.int (1 : Int32))]) rfl ?_
      refine ok_ifeqN G at_227 (by decide) ?_
      refine ok_iconst G (1 : Int32) at_230 rfl ?_
      refine ok_goto G 235 at_231 (by decide) (by decide) ?_
      exact ok_retN G rfl (by simp) at_235 rfl rfl (Nat.le_of_ble_eq_true rfl) (Nat.le_of_ble_eq_true rfl)
  · skip
    rw [hl]
    refine ok_iconst G (4 : Int32) at_8 rfl ?_
    refine ok_newP G (aty := .char) (C.w1) at_9 (by decide) 4 (by decide) (by decide) (Nat.le_of_ble_eq_true rfl) (Nat.le_of_ble_eq_true rfl) ?_
    intro hp188 ob187 k_ob187 eq_ob187 K189 g_ob187 lb_ob187 V_ob187
    replace V_ob187 : Arv Z hp188 ob187 k_ob187 .char (4 : Int32) [(.int (0 : Int32)), (.int (0 : Int32)), (.int (0 : Int32)), (.int (0 : Int32))] (.int (0 : Int32)) := V_ob187.pad (pad_rep [] (.int (0 : Int32)) 4)
    refine ok_dup G at_11 rfl ?_
    refine ok_iconst G (0 : Int32) at_12 rfl ?_
    refine ok_iloadN G at_13 rfl ?_
    refine ok_old (fun hO_hp188 => ?_)
    refine ok_static G (argsL := [(.int i1)]) (rest := [(.int (0 : Int32)), (.ref ob187), (.ref ob187)]) (C.w2) (C.w3) (C.w4) (C.w5) (by decide) pd21 (c_draw C hO_hp188) rfl rfl rfl at_14 (Nat.le_of_ble_eq_true rfl) (Nat.le_of_ble_eq_true rfl) (Nat.le_of_ble_eq_true rfl) (Nat.le_of_ble_eq_true rfl) (fun _ q => nomatch q) ?_
    rintro _ _ _ ⟨chr190, rfl, lchr190, rfl⟩
    refine ok_as (mkF m 17 #[.val (.int i0), .val (.int i1), .val (.int i2), .val (.int i3), .val (.int i4), .val (.int (3 : Int32)), .unset, .unset, .unset, .unset, .unset, .unset] [(.int chr190), (.int (0 : Int32)), (.ref ob187), (.ref ob187)]) rfl ?_
    refine ok_castore G chr190 0 V_ob187 ⟨by decide, by decide⟩ rfl (Nat.le_of_ble_eq_true rfl) (Lat.nar lchr190) at_17 g_ob187 (Or.inr lb_ob187) (SafeFor.mem (List.mem_of_getElem? (i := 0) rfl)) ?_
    intro hp193 K194 Vn
    replace V_ob187 : Arv Z hp193 ob187 k_ob187 .char (4 : Int32) [(.int chr190), (.int (0 : Int32)), (.int (0 : Int32)), (.int (0 : Int32))] (.int (0 : Int32)) := Vn
    clear Vn
    refine ok_dup G at_18 rfl ?_
    refine ok_iconst G (1 : Int32) at_19 rfl ?_
    refine ok_iloadN G at_20 rfl ?_
    refine ok_old (fun hO_hp193 => ?_)
    refine ok_static G (argsL := [(.int i2)]) (rest := [(.int (1 : Int32)), (.ref ob187), (.ref ob187)]) (C.w2) (C.w3) (C.w4) (C.w5) (by decide) pd21 (c_draw C hO_hp193) rfl rfl rfl at_21 (Nat.le_of_ble_eq_true rfl) (Nat.le_of_ble_eq_true rfl) (Nat.le_of_ble_eq_true rfl) (Nat.le_of_ble_eq_true rfl) (fun _ q => nomatch q) ?_
    rintro _ _ _ ⟨chr195, rfl, lchr195, rfl⟩
    refine ok_as (mkF m 24 #[.val (.int i0), .val (.int i1), .val (.int i2), .val (.int i3), .val (.int i4), .val (.int (3 : Int32)), .unset, .unset, .unset, .unset, .unset, .unset] [(.int chr195), (.int (1 : Int32)), (.ref ob187), (.ref ob187)]) rfl ?_
    refine ok_castore G chr195 1 V_ob187 ⟨by decide, by decide⟩ rfl (Nat.le_of_ble_eq_true rfl) (Lat.nar lchr195) at_24 g_ob187 (Or.inr lb_ob187) (SafeFor.mem (List.mem_of_getElem? (i := 0) rfl)) ?_
    intro hp198 K199 Vn
    replace V_ob187 : Arv Z hp198 ob187 k_ob187 .char (4 : Int32) [(.int chr190), (.int chr195), (.int (0 : Int32)), (.int (0 : Int32))] (.int (0 : Int32)) := Vn
    clear Vn
    refine ok_dup G at_25 rfl ?_
    refine ok_iconst G (2 : Int32) at_26 rfl ?_
    refine ok_iloadN G at_27 rfl ?_
    refine ok_old (fun hO_hp198 => ?_)
    refine ok_static G (argsL := [(.int i3)]) (rest := [(.int (2 : Int32)), (.ref ob187), (.ref ob187)]) (C.w2) (C.w3) (C.w4) (C.w5) (by decide) pd21 (c_draw C hO_hp198) rfl rfl rfl at_28 (Nat.le_of_ble_eq_true rfl) (Nat.le_of_ble_eq_true rfl) (Nat.le_of_ble_eq_true rfl) (Nat.le_of_ble_eq_true rfl) (fun _ q => nomatch q) ?_
    rintro _ _ _ ⟨chr200, rfl, lchr200, rfl⟩
    refine ok_as (mkF m 31 #[.val (.int i0), .val (.int i1), .val (.int i2), .val (.int i3), .val (.int i4), .val (.int (3 : Int32)), .unset, .unset, .unset, .unset, .unset, .unset] [(.int chr200), (.int (2 : Int32)), (.ref ob187), (.ref ob187)]) rfl ?_
    refine ok_castore G chr200 2 V_ob187 ⟨by decide, by decide⟩ rfl (Nat.le_of_ble_eq_true rfl) (Lat.nar lchr200) at_31 g_ob187 (Or.inr lb_ob187) (SafeFor.mem (List.mem_of_getElem? (i := 0) rfl)) ?_
    intro hp203 K204 Vn
    replace V_ob187 : Arv Z hp203 ob187 k_ob187 .char (4 : Int32) [(.int chr190), (.int chr195), (.int chr200), (.int (0 : Int32))] (.int (0 : Int32)) := Vn
    clear Vn
    refine ok_dup G at_32 rfl ?_
    refine ok_iconst G (3 : Int32) at_33 rfl ?_
    refine ok_iload G at_34 rfl ?_
    refine ok_old (fun hO_hp203 => ?_)
    refine ok_static G (argsL := [(.int i4)]) (rest := [(.int (3 : Int32)), (.ref ob187), (.ref ob187)]) (C.w2) (C.w3) (C.w4) (C.w5) (by decide) pd21 (c_draw C hO_hp203) rfl rfl rfl at_36 (Nat.le_of_ble_eq_true rfl) (Nat.le_of_ble_eq_true rfl) (Nat.le_of_ble_eq_true rfl) (Nat.le_of_ble_eq_true rfl) (fun _ q => nomatch q) ?_
    rintro _ _ _ ⟨chr205, rfl, lchr205, rfl⟩
    refine ok_as (mkF m 39 #[.val (.int i0), .val (.int i1), .val (.int i2), .val (.int i3), .val (.int i4), .val (.int (3 : Int32)), .unset, .unset, .unset, .unset, .unset, .unset] [(.int chr205), (.int (3 : Int32)), (.ref ob187), (.ref ob187)]) rfl ?_
    refine ok_castore G chr205 3 V_ob187 ⟨by decide, by decide⟩ rfl (Nat.le_of_ble_eq_true rfl) (Lat.nar lchr205) at_39 g_ob187 (Or.inr lb_ob187) (SafeFor.mem (List.mem_of_getElem? (i := 0) rfl)) ?_
    intro hp208 K209 Vn
    replace V_ob187 : Arv Z hp208 ob187 k_ob187 .char (4 : Int32) [(.int chr190), (.int chr195), (.int chr200), (.int chr205)] (.int (0 : Int32)) := Vn
    clear Vn
    refine ok_astore G #[.val (.int i0), .val (.int i1), .val (.int i2), .val (.int i3), .val (.int i4), .val (.int (3 : Int32)), .val (.ref ob187), .unset, .unset, .unset, .unset, .unset] at_40 rfl rfl ?_
    refine ok_new G (C.w6) (C.w7) (C.w8) at_42 (Nat.le_of_ble_eq_true rfl) (Nat.le_of_ble_eq_true rfl) ?_
    intro hp211 ob210 eq_ob210 K212 g_ob210 lb_ob210 E_ob210 D_ob210
    have ne_ob187_ob210 : ob187 ≠ ob210 := Nat.ne_of_lt (Nat.lt_of_lt_of_le V_ob187.lt (Nat.le_of_eq eq_ob210.symm))
    replace V_ob187 := V_ob187.keep K212 nin0
    have F_ob210_value : Fld Z hp211 ob210 "java/lang/String" "value" "[B" .null := D_ob210 _ _ _ (.array .byte) (Or.inr (C.w24)) (by decide)
    have F_ob210_coder : Fld Z hp211 ob210 "java/lang/String" "coder" "B" (.int (0 : Int32)) := D_ob210 _ _ _ .byte (Or.inr (C.w25)) (by decide)
    refine ok_dup G at_45 rfl ?_
    refine ok_aload G at_46 rfl rfl ?_
    refine ok_iload G at_48 rfl ?_
    refine ok_old (fun hO_hp211 => ?_)
    refine ok_keep (fun hKp_hp211 => ?_)
    refine ok_static G (argsL := [(.ref ob187), (.int (3 : Int32))]) (rest := [(.ref ob210), (.ref ob210)]) (C.w9) (C.w10) (C.w4) (C.w11) (by decide) pd22 (c_take3 C hO_hp211 V_ob187 lchr190 lchr195 lchr200 lchr205) rfl rfl rfl at_50 (Nat.le_of_ble_eq_true rfl) (Nat.le_of_ble_eq_true rfl) (Nat.le_of_ble_eq_true rfl) (Nat.le_of_ble_eq_true rfl) (fun _ q => nomatch q) ?_
    rintro _ hp215 K216 ⟨tr213, kb214, rfl, lbq_tr213, V_tr213⟩
    have lbh_tr213 := lbq_tr213
    have ne_ob187_tr213 : ob187 ≠ tr213 := Nat.ne_of_lt (Nat.lt_of_lt_of_le V_ob187.lt lbh_tr213)
    have ne_ob210_tr213 : ob210 ≠ tr213 := Nat.ne_of_lt (Nat.lt_of_lt_of_le E_ob210.lt lbh_tr213)
    have lb_tr213 : h0.size ≤ tr213 := Nat.le_trans hKp_hp211.1 lbh_tr213
    have g_tr213 : n0 ≤ tr213 := Nat.le_trans (old_le hO_hp211) lbh_tr213
    replace V_ob187 := V_ob187.keep K216 nin0
    replace E_ob210 := E_ob210.keep K216
    replace F_ob210_value := F_ob210_value.keep K216 nin0
    replace F_ob210_coder := F_ob210_coder.keep K216 nin0
    refine ok_as (mkF m 53 #[.val (.int i0), .val (.int i1), .val (.int i2), .val (.int i3), .val (.int i4), .val (.int (3 : Int32)), .val (.ref ob187), .unset, .unset, .unset, .unset, .unset] [(.ref tr213), (.ref ob210), (.ref ob210)]) rfl ?_
    refine ok_old (fun hO_hp215 => ?_)
    refine ok_keep (fun hKp_hp215 => ?_)
    refine ok_init G (a := ob210) (argsL := [(.ref tr213)]) (rest := [(.ref ob210)]) rfl (C.w12) (C.w13) (C.w8) (C.w14) (by decide) pd23 (c_init1 (cs := [chr190, chr195, chr200]) C hO_hp215 E_ob210 F_ob210_value F_ob210_coder g_ob210 V_tr213 (Nat.le_of_ble_eq_true rfl) (Nat.le_of_ble_eq_true rfl) (allL lchr190 (allL lchr195 (allL lchr200 (fun _ q => nomatch q)))) ne_ob210_tr213) rfl rfl rfl at_53 (Nat.le_of_ble_eq_true rfl) (Nat.le_of_ble_eq_true rfl) (Nat.le_of_ble_eq_true rfl) (Nat.le_of_ble_eq_true rfl) (allS ⟨(Or.inr lb_ob210), (SafeFor.mem (List.mem_of_getElem? (i := 0) rfl))⟩ (fun _ q => nomatch q)) ?_
    rintro _ hp218 K219 ⟨rfl, tr217, lbq_tr217, S_ob210⟩
    have lbh_tr217 := lbq_tr217
    have ne_ob187_tr217 : ob187 ≠ tr217 := Nat.ne_of_lt (Nat.lt_of_lt_of_le V_ob187.lt lbh_tr217)
    have ne_ob210_tr217 : ob210 ≠ tr217 := Nat.ne_of_lt (Nat.lt_of_lt_of_le E_ob210.lt lbh_tr217)
    have ne_tr213_tr217 : tr213 ≠ tr217 := Nat.ne_of_lt (Nat.lt_of_lt_of_le V_tr213.lt lbh_tr217)
    have lb_tr217 : h0.size ≤ tr217 := Nat.le_trans hKp_hp215.1 lbh_tr217
    have g_tr217 : n0 ≤ tr217 := Nat.le_trans (old_le hO_hp215) lbh_tr217
    replace V_ob187 := V_ob187.keep K219 (ninS ne_ob187_ob210 nin0)
    replace E_ob210 := E_ob210.keep K219
    replace V_tr213 := V_tr213.keep K219 (ninS (Ne.symm ne_ob210_tr213) nin0)
    refine ok_as (mkF m 56 #[.val (.int i0), .val (.int i1), .val (.int i2), .val (.int i3), .val (.int i4), .val (.int (3 : Int32)), .val (.ref ob187), .unset, .unset, .unset, .unset, .unset] [(.ref ob210)]) rfl ?_
    refine ok_astore G #[.val (.int i0), .val (.int i1), .val (.int i2), .val (.int i3), .val (.int i4), .val (.int (3 : Int32)), .val (.ref ob187), .val (.ref ob210), .unset, .unset, .unset, .unset] at_56 rfl rfl ?_
    refine ok_iload G at_58 rfl ?_
    refine ok_iconst G (3 : Int32) at_60 rfl ?_
    refine ok_icmpleY G 77 at_61 (by decide) (by decide) (by decide) ?_
    refine ok_iload G at_77 rfl ?_
    refine ok_iconst G (2 : Int32) at_79 rfl ?_
    refine ok_icmpleN G at_80 (by decide) ?_
    refine ok_aload G at_83 rfl rfl ?_
    refine ok_iconst G (2 : Int32) at_85 rfl ?_
    refine ok_caload G chr200 V_ob187 ⟨by decide, by decide⟩ rfl at_86 ?_
    refine ok_bipush G (47 : Int32) at_87 rfl ?_
    refine ok_icmpne G 96 at_89 (by decide) (by decide) (fun cq220 => ?_) (fun cq220 => ?_)
    · skip
      refine ok_iload G at_96 rfl ?_
      refine ok_iconst G (1 : Int32) at_98 rfl ?_
      refine ok_icmpleN G at_99 (by decide) ?_
      refine ok_aload G at_102 rfl rfl ?_
      refine ok_iconst G (1 : Int32) at_104 rfl ?_
      refine ok_caload G chr195 V_ob187 ⟨by decide, by decide⟩ rfl at_105 ?_
      refine ok_bipush G (47 : Int32) at_106 rfl ?_
      refine ok_icmpne G 115 at_108 (by decide) (by decide) (fun cq221 => ?_) (fun cq221 => ?_)
      · skip
        refine ok_iload G at_115 rfl ?_
        refine ok_ifleN G at_117 (by decide) ?_
        refine ok_aload G at_120 rfl rfl ?_
        refine ok_iconst G (0 : Int32) at_122 rfl ?_
        refine ok_caload G chr190 V_ob187 ⟨by decide, by decide⟩ rfl at_123 ?_
        refine ok_bipush G (47 : Int32) at_124 rfl ?_
        refine ok_icmpne G 133 at_126 (by decide) (by decide) (fun cq222 => ?_) (fun cq222 => ?_)
        · skip
          refine ok_iconst G (-1 : Int32) at_133 rfl ?_
          refine ok_istore G #[.val (.int i0), .val (.int i1), .val (.int i2), .val (.int i3), .val (.int i4), .val (.int (3 : Int32)), .val (.ref ob187), .val (.ref ob210), .val (.int (-1 : Int32)), .unset, .unset, .unset] at_134 rfl ?_
          refine ok_aload G at_136 rfl rfl ?_
          refine ok_old (fun hO_hp218 => ?_)
          refine ok_staticW G (argsL := [(.ref ob210)]) (rest := []) (C.w30) (C.w31) (C.w32) (C.w33) (by decide) pd24 (c_fname C hO_hp218 hE S_ob210) rfl rfl rfl at_138 (Nat.le_of_ble_eq_true rfl) (Nat.le_of_ble_eq_true rfl) (Nat.le_of_ble_eq_true rfl) (Nat.le_of_ble_eq_true rfl) rfl (fun _ q => nomatch q) ?_
          rintro _ hp225 K226 ⟨xr223, tr224, rfl, S_xr223⟩
          replace V_ob187 := V_ob187.keep K226 nin0
          replace E_ob210 := E_ob210.keep K226
          replace V_tr213 := V_tr213.keep K226 nin0
          replace S_ob210 := S_ob210.keep K226 nin0 nin0
          refine ok_as (mkF m 141 #[.val (.int i0), .val (.int i1), .val (.int i2), .val (.int i3), .val (.int i4), .val (.int (3 : Int32)), .val (.ref ob187), .val (.ref ob210), .val (.int (-1 : Int32)), .unset, .unset, .unset] [(.ref xr223)]) rfl ?_
          refine ok_astore G #[.val (.int i0), .val (.int i1), .val (.int i2), .val (.int i3), .val (.int i4), .val (.int (3 : Int32)), .val (.ref ob187), .val (.ref ob210), .val (.int (-1 : Int32)), .val (.ref xr223), .unset, .unset] at_141 rfl rfl ?_
          have ef : List.drop (cut 47 [chr190, chr195, chr200]).length ([chr190, chr195, chr200] : List Int32) = [chr190, chr195, chr200] := by simp [cut, cq220, cq221, cq222]
          rw [ef] at S_xr223
          clear ef
          refine ok_iload G at_143 rfl ?_
          refine ok_iload G at_145 rfl ?_
          refine ok_isub G at_147 ?_
          refine ok_iconst G (1 : Int32) at_148 rfl ?_
          refine ok_isub G at_149 ?_
          refine ok_sayI (3 : Int32) (by decide) ?_
          refine ok_istore G #[.val (.int i0), .val (.int i1), .val (.int i2), .val (.int i3), .val (.int i4), .val (.int (3 : Int32)), .val (.ref ob187), .val (.ref ob210), .val (.int (-1 : Int32)), .val (.ref xr223), .val (.int (3 : Int32)), .unset] at_150 rfl ?_
          refine ok_aload G at_152 rfl rfl ?_
          refine ok_old (fun hO_hp225 => ?_)
          refine ok_virtual G (a := xr223) (y0 := (⟨"java/lang/String", "length", "()I"⟩ : MethodName)) (y := (⟨"java/lang/String", "length", "()I"⟩ : MethodName)) (argsL := []) (rest := []) S_xr223.exa (C.w89) (C.w40) (C.w42) (fun vm hZ => notFace_of_selects (args := #[]) (mvT (s := s.setVm vm) hZ (C.w42))) (C.w41) (C.w8) (C.w43) (by decide) pd12 (c_length C hO_hp225 S_xr223) rfl rfl rfl at_154 (Nat.le_of_ble_eq_true rfl) (Nat.le_of_ble_eq_true rfl) (Nat.le_of_ble_eq_true rfl) (Nat.le_of_ble_eq_true rfl) (fun _ q => nomatch q) ?_
          rintro _ _ _ ⟨rfl, rfl⟩
          refine ok_as (mkF m 157 #[.val (.int i0), .val (.int i1), .val (.int i2), .val (.int i3), .val (.int i4), .val (.int (3 : Int32)), .val (.ref ob187), .val (.ref ob210), .val (.int (-1 : Int32)), .val (.ref xr223), .val (.int (3 : Int32)), .unset] [(.int (3 : Int32))]) rfl ?_
          refine ok_iload G at_157 rfl ?_
          refine ok_icmpeqY G 164 at_159 (by decide) (by decide) (by decide) ?_
          refine ok_iload G at_164 rfl ?_
          refine ok_iconst G (1 : Int32) at_166 rfl ?_
          refine ok_iadd G at_167 ?_
          refine ok_sayI (0 : Int32) (by decide) ?_
          refine ok_istore G #[.val (.int i0), .val (.int i1), .val (.int i2), .val (.int i3), .val (.int i4), .val (.int (3 : Int32)), .val (.ref ob187), .val (.ref ob210), .val (.int (-1 : Int32)), .val (.ref xr223), .val (.int (3 : Int32)), .val (.int (0 : Int32))] at_168 rfl ?_
          refine ok_aload G at_170 rfl rfl ?_
          refine ok_aload G at_172 rfl rfl ?_
          refine ok_iload G at_174 rfl ?_
          refine ok_iconst G (0 : Int32) at_176 rfl ?_
          refine ok_iload G at_177 rfl ?_
          refine ok_static G (argsL := [(.ref xr223), (.ref ob187), (.int (0 : Int32)), (.int (0 : Int32)), (.int (3 : Int32))]) (rest := []) (C.w90) (C.w91) (C.w4) (C.w92) (by decide) pd25 (c_sameC (ch := chr190) C hO_hp225 S_xr223 V_ob187 (by decide) 0 (Nat.le_of_ble_eq_true rfl) rfl rfl ⟨by decide, by decide⟩ rfl) rfl rfl rfl at_179 (Nat.le_of_ble_eq_true rfl) (Nat.le_of_ble_eq_true rfl) (Nat.le_of_ble_eq_true rfl) (Nat.le_of_ble_eq_true rfl) (fun _ q => nomatch q) ?_
          rintro _ _ _ ⟨rfl, rfl⟩
          refine ok_as (mkF m 182 #[.val (.int i0), .val (.int i1), .val (.int i2), .val (.int i3), .val (.int i4), .val (.int (3 : Int32)), .val (.ref ob187), .val (.ref ob210), .val (.int (-1 : Int32)), .val (.ref xr223), .val (.int (3 : Int32)), .val (.int (0 : Int32))] [(.int (1 : Int32))]) rfl ?_
          refine ok_ifeqN G at_182 (by decide) ?_
          refine ok_aload G at_185 rfl rfl ?_
          refine ok_aload G at_187 rfl rfl ?_
          refine ok_iload G at_189 rfl ?_
          refine ok_iconst G (1 : Int32) at_191 rfl ?_
          refine ok_iload G at_192 rfl ?_
          refine ok_static G (argsL := [(.ref xr223), (.ref ob187), (.int (0 : Int32)), (.int (1 : Int32)), (.int (3 : Int32))]) (rest := []) (C.w90) (C.w91) (C.w4) (C.w92) (by decide) pd25 (c_sameC (ch := chr195) C hO_hp225 S_xr223 V_ob187 (by decide) 1 (Nat.le_of_ble_eq_true rfl) rfl rfl ⟨by decide, by decide⟩ rfl) rfl rfl rfl at_194 (Nat.le_of_ble_eq_true rfl) (Nat.le_of_ble_eq_true rfl) (Nat.le_of_ble_eq_true rfl) (Nat.le_of_ble_eq_true rfl) (fun _ q => nomatch q) ?_
          rintro _ _ _ ⟨rfl, rfl⟩
          refine ok_as (mkF m 197 #[.val (.int i0), .val (.int i1), .val (.int i2), .val (.int i3), .val (.int i4), .val (.int (3 : Int32)), .val (.ref ob187), .val (.ref ob210), .val (.int (-1 : Int32)), .val (.ref xr223), .val (.int (3 : Int32)), .val (.int (0 : Int32))] [(.int (1 : Int32))]) rfl ?_
          refine ok_ifeqN G at_197 (by decide) ?_
          refine ok_aload G at_200 rfl rfl ?_
          refine ok_aload G at_202 rfl rfl ?_
          refine ok_iload G at_204 rfl ?_
          refine ok_iconst G (2 : Int32) at_206 rfl ?_
          refine ok_iload G at_207 rfl ?_
          refine ok_static G (argsL := [(.ref xr223), (.ref ob187), (.int (0 : Int32)), (.int (2 : Int32)), (.int (3 : Int32))]) (rest := []) (C.w90) (C.w91) (C.w4) (C.w92) (by decide) pd25 (c_sameC (ch := chr200) C hO_hp225 S_xr223 V_ob187 (by decide) 2 (Nat.le_of_ble_eq_true rfl) rfl rfl ⟨by decide, by decide⟩ rfl) rfl rfl rfl at_209 (Nat.le_of_ble_eq_true rfl) (Nat.le_of_ble_eq_true rfl) (Nat.le_of_ble_eq_true rfl) (Nat.le_of_ble_eq_true rfl) (fun _ q => nomatch q) ?_
          rintro _ _ _ ⟨rfl, rfl⟩
          refine ok_as (mkF m 212 #[.val (.int i0), .val (.int i1), .val (.int i2), .val (.int i3), .val (.int i4), .val (.int (3 : Int32)), .val (.ref ob187), .val (.ref ob210), .val (.int (-1 : Int32)), .val (.ref xr223), .val (.int (3 : Int32)), .val (.int (0 : Int32))] [(.int (1 : Int32))]) rfl ?_
          refine ok_ifeqN G at_212 (by decide) ?_
          refine ok_aload G at_215 rfl rfl ?_
          refine ok_aload G at_217 rfl rfl ?_
          refine ok_iload G at_219 rfl ?_
          refine ok_iconst G (3 : Int32) at_221 rfl ?_
          refine ok_iload G at_222 rfl ?_
          refine ok_static G (argsL := [(.ref xr223), (.ref ob187), (.int (0 : Int32)), (.int (3 : Int32)), (.int (3 : Int32))]) (rest := []) (C.w90) (C.w91) (C.w4) (C.w92) (by decide) pd25 (c_sameY C hO_hp225 (by decide)) rfl rfl rfl at_224 (Nat.le_of_ble_eq_true rfl) (Nat.le_of_ble_eq_true rfl) (Nat.le_of_ble_eq_true rfl) (Nat.le_of_ble_eq_true rfl) (fun _ q => nomatch q) ?_
          rintro _ _ _ ⟨rfl, rfl⟩
          refine ok_as (mkF m 227 #[.val (.int i0), .val (.int i1), .val (.int i2), .val (.int i3), .val (.int i4), .val (.int (3 : Int32)), .val (.ref ob187), .val (.ref ob210), .val (.int (-1 : Int32)), .val (.ref xr223), .val (.int (3 : Int32)), .val (.int (0 : Int32))] [(.int (1 : Int32))]) rfl ?_
          refine ok_ifeqN G at_227 (by decide) ?_
          refine ok_iconst G (1 : Int32) at_230 rfl ?_
          refine ok_goto G 235 at_231 (by decide) (by decide) ?_
          exact ok_retN G rfl (by simp) at_235 rfl rfl (Nat.le_of_ble_eq_true rfl) (Nat.le_of_ble_eq_true rfl)
        · skip
          refine ok_iconst G (0 : Int32) at_129 rfl ?_
          refine ok_goto G 134 at_130 (by decide) (by decide) ?_
          refine ok_istore G #[.val (.int i0), .val (.int i1), .val (.int i2), .val (.int i3), .val (.int i4), .val (.int (3 : Int32)), .val (.ref ob187), .val (.ref ob210), .val (.int (0 : Int32)), .unset, .unset, .unset] at_134 rfl ?_
          refine ok_aload G at_136 rfl rfl ?_
          refine ok_old (fun hO_hp218 => ?_)
          refine ok_staticW G (argsL := [(.ref ob210)]) (rest := []) (C.w30) (C.w31) (C.w32) (C.w33) (by decide) pd24 (c_fname C hO_hp218 hE S_ob210) rfl rfl rfl at_138 (Nat.le_of_ble_eq_true rfl) (Nat.le_of_ble_eq_true rfl) (Nat.le_of_ble_eq_true rfl) (Nat.le_of_ble_eq_true rfl) rfl (fun _ q => nomatch q) ?_
          rintro _ hp239 K240 ⟨xr237, tr238, rfl, S_xr237⟩
          replace V_ob187 := V_ob187.keep K240 nin0
          replace E_ob210 := E_ob210.keep K240
          replace V_tr213 := V_tr213.keep K240 nin0
          replace S_ob210 := S_ob210.keep K240 nin0 nin0
          refine ok_as (mkF m 141 #[.val (.int i0), .val (.int i1), .val (.int i2), .val (.int i3), .val (.int i4), .val (.int (3 : Int32)), .val (.ref ob187), .val (.ref ob210), .val (.int (0 : Int32)), .unset, .unset, .unset] [(.ref xr237)]) rfl ?_
          refine ok_astore G #[.val (.int i0), .val (.int i1), .val (.int i2), .val (.int i3), .val (.int i4), .val (.int (3 : Int32)), .val (.ref ob187), .val (.ref ob210), .val (.int (0 : Int32)), .val (.ref xr237), .unset, .unset] at_141 rfl rfl ?_
          have ef : List.drop (cut 47 [chr190, chr195, chr200]).length ([chr190, chr195, chr200] : List Int32) = [chr195, chr200] := by simp [cut, cq220, cq221, cq222]
          rw [ef] at S_xr237
          clear ef
          refine ok_iload G at_143 rfl ?_
          refine ok_iload G at_145 rfl ?_
          refine ok_isub G at_147 ?_
          refine ok_iconst G (1 : Int32) at_148 rfl ?_
          refine ok_isub G at_149 ?_
          refine ok_sayI (2 : Int32) (by decide) ?_
          refine ok_istore G #[.val (.int i0), .val (.int i1), .val (.int i2), .val (.int i3), .val (.int i4), .val (.int (3 : Int32)), .val (.ref ob187), .val (.ref ob210), .val (.int (0 : Int32)), .val (.ref xr237), .val (.int (2 : Int32)), .unset] at_150 rfl ?_
          refine ok_aload G at_152 rfl rfl ?_
          refine ok_old (fun hO_hp239 => ?_)
          refine ok_virtual G (a := xr237) (y0 := (⟨"java/lang/String", "length", "()I"⟩ : MethodName)) (y := (⟨"java/lang/String", "length", "()I"⟩ : MethodName)) (argsL := []) (rest := []) S_xr237.exa (C.w89) (C.w40) (C.w42) (fun vm hZ => notFace_of_selects (args := #[]) (mvT (s := s.setVm vm) hZ (C.w42))) (C.w41) (C.w8) (C.w43) (by decide) pd12 (c_length C hO_hp239 S_xr237) rfl rfl rfl at_154 (Nat.le_of_ble_eq_true rfl) (Nat.le_of_ble_eq_true rfl) (Nat.le_of_ble_eq_true rfl) (Nat.le_of_ble_eq_true rfl) (fun _ q => nomatch q) ?_
          rintro _ _ _ ⟨rfl, rfl⟩
          refine ok_as (mkF m 157 #[.val (.int i0), .val (.int i1), .val (.int i2), .val (.int i3), .val (.int i4), .val (.int (3 : Int32)), .val (.ref ob187), .val (.ref ob210), .val (.int (0 : Int32)), .val (.ref xr237), .val (.int (2 : Int32)), .unset] [(.int (2 : Int32))]) rfl ?_
          refine ok_iload G at_157 rfl ?_
          refine ok_icmpeqY G 164 at_159 (by decide) (by decide) (by decide) ?_
          refine ok_iload G at_164 rfl ?_
          refine ok_iconst G (1 : Int32) at_166 rfl ?_
          refine ok_iadd G at_167 ?_
          refine ok_sayI (1 : Int32) (by decide) ?_
          refine ok_istore G #[.val (.int i0), .val (.int i1), .val (.int i2), .val (.int i3), .val (.int i4), .val (.int (3 : Int32)), .val (.ref ob187), .val (.ref ob210), .val (.int (0 : Int32)), .val (.ref xr237), .val (.int (2 : Int32)), .val (.int (1 : Int32))] at_168 rfl ?_
          refine ok_aload G at_170 rfl rfl ?_
          refine ok_aload G at_172 rfl rfl ?_
          refine ok_iload G at_174 rfl ?_
          refine ok_iconst G (0 : Int32) at_176 rfl ?_
          refine ok_iload G at_177 rfl ?_
          refine ok_static G (argsL := [(.ref xr237), (.ref ob187), (.int (1 : Int32)), (.int (0 : Int32)), (.int (2 : Int32))]) (rest := []) (C.w90) (C.w91) (C.w4) (C.w92) (by decide) pd25 (c_sameC (ch := chr195) C hO_hp239 S_xr237 V_ob187 (by decide) 0 (Nat.le_of_ble_eq_true rfl) rfl rfl ⟨by decide, by decide⟩ rfl) rfl rfl rfl at_179 (Nat.le_of_ble_eq_true rfl) (Nat.le_of_ble_eq_true rfl) (Nat.le_of_ble_eq_true rfl) (Nat.le_of_ble_eq_true rfl) (fun _ q => nomatch q) ?_
          rintro _ _ _ ⟨rfl, rfl⟩
          refine ok_as (mkF m 182 #[.val (.int i0), .val (.int i1), .val (.int i2), .val (.int i3), .val (.int i4), .val (.int (3 : Int32)), .val (.ref ob187), .val (.ref ob210), .val (.int (0 : Int32)), .val (.ref xr237), .val (.int (2 : Int32)), .val (.int (1 : Int32))] [(.int (1 : Int32))]) rfl ?_
          refine ok_ifeqN G at_182 (by decide) ?_
          refine ok_aload G at_185 rfl rfl ?_
          refine ok_aload G at_187 rfl rfl ?_
          refine ok_iload G at_189 rfl ?_
          refine ok_iconst G (1 : Int32) at_191 rfl ?_
          refine ok_iload G at_192 rfl ?_
          refine ok_static G (argsL := [(.ref xr237), (.ref ob187), (.int (1 : Int32)), (.int (1 : Int32)), (.int (2 : Int32))]) (rest := []) (C.w90) (C.w91) (C.w4) (C.w92) (by decide) pd25 (c_sameC (ch := chr200) C hO_hp239 S_xr237 V_ob187 (by decide) 1 (Nat.le_of_ble_eq_true rfl) rfl rfl ⟨by decide, by decide⟩ rfl) rfl rfl rfl at_194 (Nat.le_of_ble_eq_true rfl) (Nat.le_of_ble_eq_true rfl) (Nat.le_of_ble_eq_true rfl) (Nat.le_of_ble_eq_true rfl) (fun _ q => nomatch q) ?_
          rintro _ _ _ ⟨rfl, rfl⟩
          refine ok_as (mkF m 197 #[.val (.int i0), .val (.int i1), .val (.int i2), .val (.int i3), .val (.int i4), .val (.int (3 : Int32)), .val (.ref ob187), .val (.ref ob210), .val (.int (0 : Int32)), .val (.ref xr237), .val (.int (2 : Int32)), .val (.int (1 : Int32))] [(.int (1 : Int32))]) rfl ?_
          refine ok_ifeqN G at_197 (by decide) ?_
          refine ok_aload G at_200 rfl rfl ?_
          refine ok_aload G at_202 rfl rfl ?_
          refine ok_iload G at_204 rfl ?_
          refine ok_iconst G (2 : Int32) at_206 rfl ?_
          refine ok_iload G at_207 rfl ?_
          refine ok_static G (argsL := [(.ref xr237), (.ref ob187), (.int (1 : Int32)), (.int (2 : Int32)), (.int (2 : Int32))]) (rest := []) (C.w90) (C.w91) (C.w4) (C.w92) (by decide) pd25 (c_sameY C hO_hp239 (by decide)) rfl rfl rfl at_209 (Nat.le_of_ble_eq_true rfl) (Nat.le_of_ble_eq_true rfl) (Nat.le_of_ble_eq_true rfl) (Nat.le_of_ble_eq_true rfl) (fun _ q => nomatch q) ?_
          rintro _ _ _ ⟨rfl, rfl⟩
          refine ok_as (mkF m 212 #[.val (.int i0), .val (.int i1), .val (.int i2), .val (.int i3), .val (.int i4), .val (.int (3 : Int32)), .val (.ref ob187), .val (.ref ob210), .val (.int (0 : Int32)), .val (.ref xr237), .val (.int (2 : Int32)), .val (.int (1 : Int32))] [(.int (1 : Int32))]) rfl ?_
          refine ok_ifeqN G at_212 (by decide) ?_
          refine ok_aload G at_215 rfl rfl ?_
          refine ok_aload G at_217 rfl rfl ?_
          refine ok_iload G at_219 rfl ?_
          refine ok_iconst G (3 : Int32) at_221 rfl ?_
          refine ok_iload G at_222 rfl ?_
          refine ok_static G (argsL := [(.ref xr237), (.ref ob187), (.int (1 : Int32)), (.int (3 : Int32)), (.int (2 : Int32))]) (rest := []) (C.w90) (C.w91) (C.w4) (C.w92) (by decide) pd25 (c_sameY C hO_hp239 (by decide)) rfl rfl rfl at_224 (Nat.le_of_ble_eq_true rfl) (Nat.le_of_ble_eq_true rfl) (Nat.le_of_ble_eq_true rfl) (Nat.le_of_ble_eq_true rfl) (fun _ q => nomatch q) ?_
          rintro _ _ _ ⟨rfl, rfl⟩
          refine ok_as (mkF m 227 #[.val (.int i0), .val (.int i1), .val (.int i2), .val (.int i3), .val (.int i4), .val (.int (3 : Int32)), .val (.ref ob187), .val (.ref ob210), .val (.int (0 : Int32)), .val (.ref xr237), .val (.int (2 : Int32)), .val (.int (1 : Int32))] [(.int (1 : Int32))]) rfl ?_
          refine ok_ifeqN G at_227 (by decide) ?_
          refine ok_iconst G (1 : Int32) at_230 rfl ?_
          refine ok_goto G 235 at_231 (by decide) (by decide) ?_
          exact ok_retN G rfl (by simp) at_235 rfl rfl (Nat.le_of_ble_eq_true rfl) (Nat.le_of_ble_eq_true rfl)
      · skip
        refine ok_iconst G (1 : Int32) at_111 rfl ?_
        refine ok_goto G 134 at_112 (by decide) (by decide) ?_
        refine ok_istore G #[.val (.int i0), .val (.int i1), .val (.int i2), .val (.int i3), .val (.int i4), .val (.int (3 : Int32)), .val (.ref ob187), .val (.ref ob210), .val (.int (1 : Int32)), .unset, .unset, .unset] at_134 rfl ?_
        refine ok_aload G at_136 rfl rfl ?_
        refine ok_old (fun hO_hp218 => ?_)
        refine ok_staticW G (argsL := [(.ref ob210)]) (rest := []) (C.w30) (C.w31) (C.w32) (C.w33) (by decide) pd24 (c_fname C hO_hp218 hE S_ob210) rfl rfl rfl at_138 (Nat.le_of_ble_eq_true rfl) (Nat.le_of_ble_eq_true rfl) (Nat.le_of_ble_eq_true rfl) (Nat.le_of_ble_eq_true rfl) rfl (fun _ q => nomatch q) ?_
        rintro _ hp253 K254 ⟨xr251, tr252, rfl, S_xr251⟩
        replace V_ob187 := V_ob187.keep K254 nin0
        replace E_ob210 := E_ob210.keep K254
        replace V_tr213 := V_tr213.keep K254 nin0
        replace S_ob210 := S_ob210.keep K254 nin0 nin0
        refine ok_as (mkF m 141 #[.val (.int i0), .val (.int i1), .val (.int i2), .val (.int i3), .val (.int i4), .val (.int (3 : Int32)), .val (.ref ob187), .val (.ref ob210), .val (.int (1 : Int32)), .unset, .unset, .unset] [(.ref xr251)]) rfl ?_
        refine ok_astore G #[.val (.int i0), .val (.int i1), .val (.int i2), .val (.int i3), .val (.int i4), .val (.int (3 : Int32)), .val (.ref ob187), .val (.ref ob210), .val (.int (1 : Int32)), .val (.ref xr251), .unset, .unset] at_141 rfl rfl ?_
        have ef : List.drop (cut 47 [chr190, chr195, chr200]).length ([chr190, chr195, chr200] : List Int32) = [chr200] := by simp [cut, cq220, cq221]
        rw [ef] at S_xr251
        clear ef
        refine ok_iload G at_143 rfl ?_
        refine ok_iload G at_145 rfl ?_
        refine ok_isub G at_147 ?_
        refine ok_iconst G (1 : Int32) at_148 rfl ?_
        refine ok_isub G at_149 ?_
        refine ok_sayI (1 : Int32) (by decide) ?_
        refine ok_istore G #[.val (.int i0), .val (.int i1), .val (.int i2), .val (.int i3), .val (.int i4), .val (.int (3 : Int32)), .val (.ref ob187), .val (.ref ob210), .val (.int (1 : Int32)), .val (.ref xr251), .val (.int (1 : Int32)), .unset] at_150 rfl ?_
        refine ok_aload G at_152 rfl rfl ?_
        refine ok_old (fun hO_hp253 => ?_)
        refine ok_virtual G (a := xr251) (y0 := (⟨"java/lang/String", "length", "()I"⟩ : MethodName)) (y := (⟨"java/lang/String", "length", "()I"⟩ : MethodName)) (argsL := []) (rest := []) S_xr251.exa (C.w89) (C.w40) (C.w42) (fun vm hZ => notFace_of_selects (args := #[]) (mvT (s := s.setVm vm) hZ (C.w42))) (C.w41) (C.w8) (C.w43) (by decide) pd12 (c_length C hO_hp253 S_xr251) rfl rfl rfl at_154 (Nat.le_of_ble_eq_true rfl) (Nat.le_of_ble_eq_true rfl) (Nat.le_of_ble_eq_true rfl) (Nat.le_of_ble_eq_true rfl) (fun _ q => nomatch q) ?_
        rintro _ _ _ ⟨rfl, rfl⟩
        refine ok_as (mkF m 157 #[.val (.int i0), .val (.int i1), .val (.int i2), .val (.int i3), .val (.int i4), .val (.int (3 : Int32)), .val (.ref ob187), .val (.ref ob210), .val (.int (1 : Int32)), .val (.ref xr251), .val (.int (1 : Int32)), .unset] [(.int (1 : Int32))]) rfl ?_
        refine ok_iload G at_157 rfl ?_
        refine ok_icmpeqY G 164 at_159 (by decide) (by decide) (by decide) ?_
        refine ok_iload G at_164 rfl ?_
        refine ok_iconst G (1 : Int32) at_166 rfl ?_
        refine ok_iadd G at_167 ?_
        refine ok_sayI (2 : Int32) (by decide) ?_
        refine ok_istore G #[.val (.int i0), .val (.int i1), .val (.int i2), .val (.int i3), .val (.int i4), .val (.int (3 : Int32)), .val (.ref ob187), .val (.ref ob210), .val (.int (1 : Int32)), .val (.ref xr251), .val (.int (1 : Int32)), .val (.int (2 : Int32))] at_168 rfl ?_
        refine ok_aload G at_170 rfl rfl ?_
        refine ok_aload G at_172 rfl rfl ?_
        refine ok_iload G at_174 rfl ?_
        refine ok_iconst G (0 : Int32) at_176 rfl ?_
        refine ok_iload G at_177 rfl ?_
        refine ok_static G (argsL := [(.ref xr251), (.ref ob187), (.int (2 : Int32)), (.int (0 : Int32)), (.int (1 : Int32))]) (rest := []) (C.w90) (C.w91) (C.w4) (C.w92) (by decide) pd25 (c_sameC (ch := chr200) C hO_hp253 S_xr251 V_ob187 (by decide) 0 (Nat.le_of_ble_eq_true rfl) rfl rfl ⟨by decide, by decide⟩ rfl) rfl rfl rfl at_179 (Nat.le_of_ble_eq_true rfl) (Nat.le_of_ble_eq_true rfl) (Nat.le_of_ble_eq_true rfl) (Nat.le_of_ble_eq_true rfl) (fun _ q => nomatch q) ?_
        rintro _ _ _ ⟨rfl, rfl⟩
        refine ok_as (mkF m 182 #[.val (.int i0), .val (.int i1), .val (.int i2), .val (.int i3), .val (.int i4), .val (.int (3 : Int32)), .val (.ref ob187), .val (.ref ob210), .val (.int (1 : Int32)), .val (.ref xr251), .val (.int (1 : Int32)), .val (.int (2 : Int32))] [(.int (1 : Int32))]) rfl ?_
        refine ok_ifeqN G at_182 (by decide) ?_
        refine ok_aload G at_185 rfl rfl ?_
        refine ok_aload G at_187 rfl rfl ?_
        refine ok_iload G at_189 rfl ?_
        refine ok_iconst G (1 : Int32) at_191 rfl ?_
        refine ok_iload G at_192 rfl ?_
        refine ok_static G (argsL := [(.ref xr251), (.ref ob187), (.int (2 : Int32)), (.int (1 : Int32)), (.int (1 : Int32))]) (rest := []) (C.w90) (C.w91) (C.w4) (C.w92) (by decide) pd25 (c_sameY C hO_hp253 (by decide)) rfl rfl rfl at_194 (Nat.le_of_ble_eq_true rfl) (Nat.le_of_ble_eq_true rfl) (Nat.le_of_ble_eq_true rfl) (Nat.le_of_ble_eq_true rfl) (fun _ q => nomatch q) ?_
        rintro _ _ _ ⟨rfl, rfl⟩
        refine ok_as (mkF m 197 #[.val (.int i0), .val (.int i1), .val (.int i2), .val (.int i3), .val (.int i4), .val (.int (3 : Int32)), .val (.ref ob187), .val (.ref ob210), .val (.int (1 : Int32)), .val (.ref xr251), .val (.int (1 : Int32)), .val (.int (2 : Int32))] [(.int (1 : Int32))]) rfl ?_
        refine ok_ifeqN G at_197 (by decide) ?_
        refine ok_aload G at_200 rfl rfl ?_
        refine ok_aload G at_202 rfl rfl ?_
        refine ok_iload G at_204 rfl ?_
        refine ok_iconst G (2 : Int32) at_206 rfl ?_
        refine ok_iload G at_207 rfl ?_
        refine ok_static G (argsL := [(.ref xr251), (.ref ob187), (.int (2 : Int32)), (.int (2 : Int32)), (.int (1 : Int32))]) (rest := []) (C.w90) (C.w91) (C.w4) (C.w92) (by decide) pd25 (c_sameY C hO_hp253 (by decide)) rfl rfl rfl at_209 (Nat.le_of_ble_eq_true rfl) (Nat.le_of_ble_eq_true rfl) (Nat.le_of_ble_eq_true rfl) (Nat.le_of_ble_eq_true rfl) (fun _ q => nomatch q) ?_
        rintro _ _ _ ⟨rfl, rfl⟩
        refine ok_as (mkF m 212 #[.val (.int i0), .val (.int i1), .val (.int i2), .val (.int i3), .val (.int i4), .val (.int (3 : Int32)), .val (.ref ob187), .val (.ref ob210), .val (.int (1 : Int32)), .val (.ref xr251), .val (.int (1 : Int32)), .val (.int (2 : Int32))] [(.int (1 : Int32))]) rfl ?_
        refine ok_ifeqN G at_212 (by decide) ?_
        refine ok_aload G at_215 rfl rfl ?_
        refine ok_aload G at_217 rfl rfl ?_
        refine ok_iload G at_219 rfl ?_
        refine ok_iconst G (3 : Int32) at_221 rfl ?_
        refine ok_iload G at_222 rfl ?_
        refine ok_static G (argsL := [(.ref xr251), (.ref ob187), (.int (2 : Int32)), (.int (3 : Int32)), (.int (1 : Int32))]) (rest := []) (C.w90) (C.w91) (C.w4) (C.w92) (by decide) pd25 (c_sameY C hO_hp253 (by decide)) rfl rfl rfl at_224 (Nat.le_of_ble_eq_true rfl) (Nat.le_of_ble_eq_true rfl) (Nat.le_of_ble_eq_true rfl) (Nat.le_of_ble_eq_true rfl) (fun _ q => nomatch q) ?_
        rintro _ _ _ ⟨rfl, rfl⟩
        refine ok_as (mkF m 227 #[.val (.int i0), .val (.int i1), .val (.int i2), .val (.int i3), .val (.int i4), .val (.int (3 : Int32)), .val (.ref ob187), .val (.ref ob210), .val (.int (1 : Int32)), .val (.ref xr251), .val (.int (1 : Int32)), .val (.int (2 : Int32))] [(.int (1 : Int32))]) rfl ?_
        refine ok_ifeqN G at_227 (by decide) ?_
        refine ok_iconst G (1 : Int32) at_230 rfl ?_
        refine ok_goto G 235 at_231 (by decide) (by decide) ?_
        exact ok_retN G rfl (by simp) at_235 rfl rfl (Nat.le_of_ble_eq_true rfl) (Nat.le_of_ble_eq_true rfl)
    · skip
      refine ok_iconst G (2 : Int32) at_92 rfl ?_
      refine ok_goto G 134 at_93 (by decide) (by decide) ?_
      refine ok_istore G #[.val (.int i0), .val (.int i1), .val (.int i2), .val (.int i3), .val (.int i4), .val (.int (3 : Int32)), .val (.ref ob187), .val (.ref ob210), .val (.int (2 : Int32)), .unset, .unset, .unset] at_134 rfl ?_
      refine ok_aload G at_136 rfl rfl ?_
      refine ok_old (fun hO_hp218 => ?_)
      refine ok_staticW G (argsL := [(.ref ob210)]) (rest := []) (C.w30) (C.w31) (C.w32) (C.w33) (by decide) pd24 (c_fname C hO_hp218 hE S_ob210) rfl rfl rfl at_138 (Nat.le_of_ble_eq_true rfl) (Nat.le_of_ble_eq_true rfl) (Nat.le_of_ble_eq_true rfl) (Nat.le_of_ble_eq_true rfl) rfl (fun _ q => nomatch q) ?_
      rintro _ hp267 K268 ⟨xr265, tr266, rfl, S_xr265⟩
      replace V_ob187 := V_ob187.keep K268 nin0
      replace E_ob210 := E_ob210.keep K268
      replace V_tr213 := V_tr213.keep K268 nin0
      replace S_ob210 := S_ob210.keep K268 nin0 nin0
      refine ok_as (mkF m 141 #[.val (.int i0), .val (.int i1), .val (.int i2), .val (.int i3), .val (.int i4), .val (.int (3 : Int32)), .val (.ref ob187), .val (.ref ob210), .val (.int (2 : Int32)), .unset, .unset, .unset] [(.ref xr265)]) rfl ?_
      refine ok_astore G #[.val (.int i0), .val (.int i1), .val (.int i2), .val (.int i3), .val (.int i4), .val (.int (3 : Int32)), .val (.ref ob187), .val (.ref ob210), .val (.int (2 : Int32)), .val (.ref xr265), .unset, .unset] at_141 rfl rfl ?_
      have ef : List.drop (cut 47 [chr190, chr195, chr200]).length ([chr190, chr195, chr200] : List Int32) = [] := by simp [cut, cq220]
      rw [ef] at S_xr265
      clear ef
      refine ok_iload G at_143 rfl ?_
      refine ok_iload G at_145 rfl ?_
      refine ok_isub G at_147 ?_
      refine ok_iconst G (1 : Int32) at_148 rfl ?_
      refine ok_isub G at_149 ?_
      refine ok_sayI (0 : Int32) (by decide) ?_
      refine ok_istore G #[.val (.int i0), .val (.int i1), .val (.int i2), .val (.int i3), .val (.int i4), .val (.int (3 : Int32)), .val (.ref ob187), .val (.ref ob210), .val (.int (2 : Int32)), .val (.ref xr265), .val (.int (0 : Int32)), .unset] at_150 rfl ?_
      refine ok_aload G at_152 rfl rfl ?_
      refine ok_old (fun hO_hp267 => ?_)
      refine ok_virtual G (a := xr265) (y0 := (⟨"java/lang/String", "length", "()I"⟩ : MethodName)) (y := (⟨"java/lang/String", "length", "()I"⟩ : MethodName)) (argsL := []) (rest := []) S_xr265.exa (C.w89) (C.w40) (C.w42) (fun vm hZ => notFace_of_selects (args := #[]) (mvT (s := s.setVm vm) hZ (C.w42))) (C.w41) (C.w8) (C.w43) (by decide) pd12 (c_length C hO_hp267 S_xr265) rfl rfl rfl at_154 (Nat.le_of_ble_eq_true rfl) (Nat.le_of_ble_eq_true rfl) (Nat.le_of_ble_eq_true rfl) (Nat.le_of_ble_eq_true rfl) (fun _ q => nomatch q) ?_
      rintro _ _ _ ⟨rfl, rfl⟩
      refine ok_as (mkF m 157 #[.val (.int i0), .val (.int i1), .val (.int i2), .val (.int i3), .val (.int i4), .val (.int (3 : Int32)), .val (.ref ob187), .val (.ref ob210), .val (.int (2 : Int32)), .val (.ref xr265), .val (.int (0 : Int32)), .unset] [(.int (0 : Int32))]) rfl ?_
      refine ok_iload G at_157 rfl ?_
      refine ok_icmpeqY G 164 at_159 (by decide) (by decide) (by decide) ?_
      refine ok_iload G at_164 rfl ?_
      refine ok_iconst G (1 : Int32) at_166 rfl ?_
      refine ok_iadd G at_167 ?_
      refine ok_sayI (3 : Int32) (by decide) ?_
      refine ok_istore G #[.val (.int i0), .val (.int i1), .val (.int i2), .val (.int i3), .val (.int i4), .val (.int (3 : Int32)), .val (.ref ob187), .val (.ref ob210), .val (.int (2 : Int32)), .val (.ref xr265), .val (.int (0 : Int32)), .val (.int (3 : Int32))] at_168 rfl ?_
      refine ok_aload G at_170 rfl rfl ?_
      refine ok_aload G at_172 rfl rfl ?_
      refine ok_iload G at_174 rfl ?_
      refine ok_iconst G (0 : Int32) at_176 rfl ?_
      refine ok_iload G at_177 rfl ?_
      refine ok_static G (argsL := [(.ref xr265), (.ref ob187), (.int (3 : Int32)), (.int (0 : Int32)), (.int (0 : Int32))]) (rest := []) (C.w90) (C.w91) (C.w4) (C.w92) (by decide) pd25 (c_sameY C hO_hp267 (by decide)) rfl rfl rfl at_179 (Nat.le_of_ble_eq_true rfl) (Nat.le_of_ble_eq_true rfl) (Nat.le_of_ble_eq_true rfl) (Nat.le_of_ble_eq_true rfl) (fun _ q => nomatch q) ?_
      rintro _ _ _ ⟨rfl, rfl⟩
      refine ok_as (mkF m 182 #[.val (.int i0), .val (.int i1), .val (.int i2), .val (.int i3), .val (.int i4), .val (.int (3 : Int32)), .val (.ref ob187), .val (.ref ob210), .val (.int (2 : Int32)), .val (.ref xr265), .val (.int (0 : Int32)), .val (.int (3 : Int32))] [(.int (1 : Int32))]) rfl ?_
      refine ok_ifeqN G at_182 (by decide) ?_
      refine ok_aload G at_185 rfl rfl ?_
      refine ok_aload G at_187 rfl rfl ?_
      refine ok_iload G at_189 rfl ?_
      refine ok_iconst G (1 : Int32) at_191 rfl ?_
      refine ok_iload G at_192 rfl ?_
      refine ok_static G (argsL := [(.ref xr265), (.ref ob187), (.int (3 : Int32)), (.int (1 : Int32)), (.int (0 : Int32))]) (rest := []) (C.w90) (C.w91) (C.w4) (C.w92) (by decide) pd25 (c_sameY C hO_hp267 (by decide)) rfl rfl rfl at_194 (Nat.le_of_ble_eq_true rfl) (Nat.le_of_ble_eq_true rfl) (Nat.le_of_ble_eq_true rfl) (Nat.le_of_ble_eq_true rfl) (fun _ q => nomatch q) ?_
      rintro _ _ _ ⟨rfl, rfl⟩
      refine ok_as (mkF m 197 #[.val (.int i0), .val (.int i1), .val (.int i2), .val (.int i3), .val (.int i4), .val (.int (3 : Int32)), .val (.ref ob187), .val (.ref ob210), .val (.int (2 : Int32)), .val (.ref xr265), .val (.int (0 : Int32)), .val (.int (3 : Int32))] [(.int (1 : Int32))]) rfl ?_
      refine ok_ifeqN G at_197 (by decide) ?_
      refine ok_aload G at_200 rfl rfl ?_
      refine ok_aload G at_202 rfl rfl ?_
      refine ok_iload G at_204 rfl ?_
      refine ok_iconst G (2 : Int32) at_206 rfl ?_
      refine ok_iload G at_207 rfl ?_
      refine ok_static G (argsL := [(.ref xr265), (.ref ob187), (.int (3 : Int32)), (.int (2 : Int32)), (.int (0 : Int32))]) (rest := []) (C.w90) (C.w91) (C.w4) (C.w92) (by decide) pd25 (c_sameY C hO_hp267 (by decide)) rfl rfl rfl at_209 (Nat.le_of_ble_eq_true rfl) (Nat.le_of_ble_eq_true rfl) (Nat.le_of_ble_eq_true rfl) (Nat.le_of_ble_eq_true rfl) (fun _ q => nomatch q) ?_
      rintro _ _ _ ⟨rfl, rfl⟩
      refine ok_as (mkF m 212 #[.val (.int i0), .val (.int i1), .val (.int i2), .val (.int i3), .val (.int i4), .val (.int (3 : Int32)), .val (.ref ob187), .val (.ref ob210), .val (.int (2 : Int32)), .val (.ref xr265), .val (.int (0 : Int32)), .val (.int (3 : Int32))] [(.int (1 : Int32))]) rfl ?_
      refine ok_ifeqN G at_212 (by decide) ?_
      refine ok_aload G at_215 rfl rfl ?_
      refine ok_aload G at_217 rfl rfl ?_
      refine ok_iload G at_219 rfl ?_
      refine ok_iconst G (3 : Int32) at_221 rfl ?_
      refine ok_iload G at_222 rfl ?_
      refine ok_static G (argsL := [(.ref xr265), (.ref ob187), (.int (3 : Int32)), (.int (3 : Int32)), (.int (0 : Int32))]) (rest := []) (C.w90) (C.w91) (C.w4) (C.w92) (by decide) pd25 (c_sameY C hO_hp267 (by decide)) rfl rfl rfl at_224 (Nat.le_of_ble_eq_true rfl) (Nat.le_of_ble_eq_true rfl) (Nat.le_of_ble_eq_true rfl) (Nat.le_of_ble_eq_true rfl) (fun _ q => nomatch q) ?_
      rintro _ _ _ ⟨rfl, rfl⟩
      refine ok_as (mkF m 227 #[.val (.int i0), .val (.int i1), .val (.int i2), .val (.int i3), .val (.int i4), .val (.int (3 : Int32)), .val (.ref ob187), .val (.ref ob210), .val (.int (2 : Int32)), .val (.ref xr265), .val (.int (0 : Int32)), .val (.int (3 : Int32))] [(.int (1 : Int32))]) rfl ?_
      refine ok_ifeqN G at_227 (by decide) ?_
      refine ok_iconst G (1 : Int32) at_230 rfl ?_
      refine ok_goto G 235 at_231 (by decide) (by decide) ?_
      exact ok_retN G rfl (by simp) at_235 rfl rfl (Nat.le_of_ble_eq_true rfl) (Nat.le_of_ble_eq_true rfl)
  · skip
    rw [hl]
    refine ok_iconst G (4 : Int32) at_8 rfl ?_
    refine ok_newP G (aty := .char) (C.w1) at_9 (by decide) 4 (by decide) (by decide) (Nat.le_of_ble_eq_true rfl) (Nat.le_of_ble_eq_true rfl) ?_
    intro hp280 ob279 k_ob279 eq_ob279 K281 g_ob279 lb_ob279 V_ob279
    replace V_ob279 : Arv Z hp280 ob279 k_ob279 .char (4 : Int32) [(.int (0 : Int32)), (.int (0 : Int32)), (.int (0 : Int32)), (.int (0 : Int32))] (.int (0 : Int32)) := V_ob279.pad (pad_rep [] (.int (0 : Int32)) 4)
    refine ok_dup G at_11 rfl ?_
    refine ok_iconst G (0 : Int32) at_12 rfl ?_
    refine ok_iloadN G at_13 rfl ?_
    refine ok_old (fun hO_hp280 => ?_)
    refine ok_static G (argsL := [(.int i1)]) (rest := [(.int (0 : Int32)), (.ref ob279), (.ref ob279)]) (C.w2) (C.w3) (C.w4) (C.w5) (by decide) pd21 (c_draw C hO_hp280) rfl rfl rfl at_14 (Nat.le_of_ble_eq_true rfl) (Nat.le_of_ble_eq_true rfl) (Nat.le_of_ble_eq_true rfl) (Nat.le_of_ble_eq_true rfl) (fun _ q => nomatch q) ?_
    rintro _ _ _ ⟨chr282, rfl, lchr282, rfl⟩
    refine ok_as (mkF m 17 #[.val (.int i0), .val (.int i1), .val (.int i2), .val (.int i3), .val (.int i4), .val (.int (4 : Int32)), .unset, .unset, .unset, .unset, .unset, .unset] [(.int chr282), (.int (0 : Int32)), (.ref ob279), (.ref ob279)]) rfl ?_
    refine ok_castore G chr282 0 V_ob279 ⟨by decide, by decide⟩ rfl (Nat.le_of_ble_eq_true rfl) (Lat.nar lchr282) at_17 g_ob279 (Or.inr lb_ob279) (SafeFor.mem (List.mem_of_getElem? (i := 0) rfl)) ?_
    intro hp285 K286 Vn
    replace V_ob279 : Arv Z hp285 ob279 k_ob279 .char (4 : Int32) [(.int chr282), (.int (0 : Int32)), (.int (0 : Int32)), (.int (0 : Int32))] (.int (0 : Int32)) := Vn
    clear Vn
    refine ok_dup G at_18 rfl ?_
    refine ok_iconst G (1 : Int32) at_19 rfl ?_
    refine ok_iloadN G at_20 rfl ?_
    refine ok_old (fun hO_hp285 => ?_)
    refine ok_static G (argsL := [(.int i2)]) (rest := [(.int (1 : Int32)), (.ref ob279), (.ref ob279)]) (C.w2) (C.w3) (C.w4) (C.w5) (by decide) pd21 (c_draw C hO_hp285) rfl rfl rfl at_21 (Nat.le_of_ble_eq_true rfl) (Nat.le_of_ble_eq_true rfl) (Nat.le_of_ble_eq_true rfl) (Nat.le_of_ble_eq_true rfl) (fun _ q => nomatch q) ?_
    rintro _ _ _ ⟨chr287, rfl, lchr287, rfl⟩
    refine ok_as (mkF m 24 #[.val (.int i0), .val (.int i1), .val (.int i2), .val (.int i3), .val (.int i4), .val (.int (4 : Int32)), .unset, .unset, .unset, .unset, .unset, .unset] [(.int chr287), (.int (1 : Int32)), (.ref ob279), (.ref ob279)]) rfl ?_
    refine ok_castore G chr287 1 V_ob279 ⟨by decide, by decide⟩ rfl (Nat.le_of_ble_eq_true rfl) (Lat.nar lchr287) at_24 g_ob279 (Or.inr lb_ob279) (SafeFor.mem (List.mem_of_getElem? (i := 0) rfl)) ?_
    intro hp290 K291 Vn
    replace V_ob279 : Arv Z hp290 ob279 k_ob279 .char (4 : Int32) [(.int chr282), (.int chr287), (.int (0 : Int32)), (.int (0 : Int32))] (.int (0 : Int32)) := Vn
    clear Vn
    refine ok_dup G at_25 rfl ?_
    refine ok_iconst G (2 : Int32) at_26 rfl ?_
    refine ok_iloadN G at_27 rfl ?_
    refine ok_old (fun hO_hp290 => ?_)
    refine ok_static G (argsL := [(.int i3)]) (rest := [(.int (2 : Int32)), (.ref ob279), (.ref ob279)]) (C.w2) (C.w3) (C.w4) (C.w5) (by decide) pd21 (c_draw C hO_hp290) rfl rfl rfl at_28 (Nat.le_of_ble_eq_true rfl) (Nat.le_of_ble_eq_true rfl) (Nat.le_of_ble_eq_true rfl) (Nat.le_of_ble_eq_true rfl) (fun _ q => nomatch q) ?_
    rintro _ _ _ ⟨chr292, rfl, lchr292, rfl⟩
    refine ok_as (mkF m 31 #[.val (.int i0), .val (.int i1), .val (.int i2), .val (.int i3), .val (.int i4), .val (.int (4 : Int32)), .unset, .unset, .unset, .unset, .unset, .unset] [(.int chr292), (.int (2 : Int32)), (.ref ob279), (.ref ob279)]) rfl ?_
    refine ok_castore G chr292 2 V_ob279 ⟨by decide, by decide⟩ rfl (Nat.le_of_ble_eq_true rfl) (Lat.nar lchr292) at_31 g_ob279 (Or.inr lb_ob279) (SafeFor.mem (List.mem_of_getElem? (i := 0) rfl)) ?_
    intro hp295 K296 Vn
    replace V_ob279 : Arv Z hp295 ob279 k_ob279 .char (4 : Int32) [(.int chr282), (.int chr287), (.int chr292), (.int (0 : Int32))] (.int (0 : Int32)) := Vn
    clear Vn
    refine ok_dup G at_32 rfl ?_
    refine ok_iconst G (3 : Int32) at_33 rfl ?_
    refine ok_iload G at_34 rfl ?_
    refine ok_old (fun hO_hp295 => ?_)
    refine ok_static G (argsL := [(.int i4)]) (rest := [(.int (3 : Int32)), (.ref ob279), (.ref ob279)]) (C.w2) (C.w3) (C.w4) (C.w5) (by decide) pd21 (c_draw C hO_hp295) rfl rfl rfl at_36 (Nat.le_of_ble_eq_true rfl) (Nat.le_of_ble_eq_true rfl) (Nat.le_of_ble_eq_true rfl) (Nat.le_of_ble_eq_true rfl) (fun _ q => nomatch q) ?_
    rintro _ _ _ ⟨chr297, rfl, lchr297, rfl⟩
    refine ok_as (mkF m 39 #[.val (.int i0), .val (.int i1), .val (.int i2), .val (.int i3), .val (.int i4), .val (.int (4 : Int32)), .unset, .unset, .unset, .unset, .unset, .unset] [(.int chr297), (.int (3 : Int32)), (.ref ob279), (.ref ob279)]) rfl ?_
    refine ok_castore G chr297 3 V_ob279 ⟨by decide, by decide⟩ rfl (Nat.le_of_ble_eq_true rfl) (Lat.nar lchr297) at_39 g_ob279 (Or.inr lb_ob279) (SafeFor.mem (List.mem_of_getElem? (i := 0) rfl)) ?_
    intro hp300 K301 Vn
    replace V_ob279 : Arv Z hp300 ob279 k_ob279 .char (4 : Int32) [(.int chr282), (.int chr287), (.int chr292), (.int chr297)] (.int (0 : Int32)) := Vn
    clear Vn
    refine ok_astore G #[.val (.int i0), .val (.int i1), .val (.int i2), .val (.int i3), .val (.int i4), .val (.int (4 : Int32)), .val (.ref ob279), .unset, .unset, .unset, .unset, .unset] at_40 rfl rfl ?_
    refine ok_new G (C.w6) (C.w7) (C.w8) at_42 (Nat.le_of_ble_eq_true rfl) (Nat.le_of_ble_eq_true rfl) ?_
    intro hp303 ob302 eq_ob302 K304 g_ob302 lb_ob302 E_ob302 D_ob302
    have ne_ob279_ob302 : ob279 ≠ ob302 := Nat.ne_of_lt (Nat.lt_of_lt_of_le V_ob279.lt (Nat.le_of_eq eq_ob302.symm))
    replace V_ob279 := V_ob279.keep K304 nin0
    have F_ob302_value : Fld Z hp303 ob302 "java/lang/String" "value" "[B" .null := D_ob302 _ _ _ (.array .byte) (Or.inr (C.w24)) (by decide)
    have F_ob302_coder : Fld Z hp303 ob302 "java/lang/String" "coder" "B" (.int (0 : Int32)) := D_ob302 _ _ _ .byte (Or.inr (C.w25)) (by decide)
    refine ok_dup G at_45 rfl ?_
    refine ok_aload G at_46 rfl rfl ?_
    refine ok_iload G at_48 rfl ?_
    refine ok_old (fun hO_hp303 => ?_)
    refine ok_keep (fun hKp_hp303 => ?_)
    refine ok_static G (argsL := [(.ref ob279), (.int (4 : Int32))]) (rest := [(.ref ob302), (.ref ob302)]) (C.w9) (C.w10) (C.w4) (C.w11) (by decide) pd22 (c_take4 C hO_hp303 V_ob279 lchr282 lchr287 lchr292 lchr297) rfl rfl rfl at_50 (Nat.le_of_ble_eq_true rfl) (Nat.le_of_ble_eq_true rfl) (Nat.le_of_ble_eq_true rfl) (Nat.le_of_ble_eq_true rfl) (fun _ q => nomatch q) ?_
    rintro _ hp307 K308 ⟨tr305, kb306, rfl, lbq_tr305, V_tr305⟩
    have lbh_tr305 := lbq_tr305
    have ne_ob279_tr305 : ob279 ≠ tr305 := Nat.ne_of_lt (Nat.lt_of_lt_of_le V_ob279.lt lbh_tr305)
    have ne_ob302_tr305 : ob302 ≠ tr305 := Nat.ne_of_lt (Nat.lt_of_lt_of_le E_ob302.lt lbh_tr305)
    have lb_tr305 : h0.size ≤ tr305 := Nat.le_trans hKp_hp303.1 lbh_tr305
    have g_tr305 : n0 ≤ tr305 := Nat.le_trans (old_le hO_hp303) lbh_tr305
    replace V_ob279 := V_ob279.keep K308 nin0
    replace E_ob302 := E_ob302.keep K308
    replace F_ob302_value := F_ob302_value.keep K308 nin0
    replace F_ob302_coder := F_ob302_coder.keep K308 nin0
    refine ok_as (mkF m 53 #[.val (.int i0), .val (.int i1), .val (.int i2), .val (.int i3), .val (.int i4), .val (.int (4 : Int32)), .val (.ref ob279), .unset, .unset, .unset, .unset, .unset] [(.ref tr305), (.ref ob302), (.ref ob302)]) rfl ?_
    refine ok_old (fun hO_hp307 => ?_)
    refine ok_keep (fun hKp_hp307 => ?_)
    refine ok_init G (a := ob302) (argsL := [(.ref tr305)]) (rest := [(.ref ob302)]) rfl (C.w12) (C.w13) (C.w8) (C.w14) (by decide) pd23 (c_init1 (cs := [chr282, chr287, chr292, chr297]) C hO_hp307 E_ob302 F_ob302_value F_ob302_coder g_ob302 V_tr305 (Nat.le_of_ble_eq_true rfl) (Nat.le_of_ble_eq_true rfl) (allL lchr282 (allL lchr287 (allL lchr292 (allL lchr297 (fun _ q => nomatch q))))) ne_ob302_tr305) rfl rfl rfl at_53 (Nat.le_of_ble_eq_true rfl) (Nat.le_of_ble_eq_true rfl) (Nat.le_of_ble_eq_true rfl) (Nat.le_of_ble_eq_true rfl) (allS ⟨(Or.inr lb_ob302), (SafeFor.mem (List.mem_of_getElem? (i := 0) rfl))⟩ (fun _ q => nomatch q)) ?_
    rintro _ hp310 K311 ⟨rfl, tr309, lbq_tr309, S_ob302⟩
    have lbh_tr309 := lbq_tr309
    have ne_ob279_tr309 : ob279 ≠ tr309 := Nat.ne_of_lt (Nat.lt_of_lt_of_le V_ob279.lt lbh_tr309)
    have ne_ob302_tr309 : ob302 ≠ tr309 := Nat.ne_of_lt (Nat.lt_of_lt_of_le E_ob302.lt lbh_tr309)
    have ne_tr305_tr309 : tr305 ≠ tr309 := Nat.ne_of_lt (Nat.lt_of_lt_of_le V_tr305.lt lbh_tr309)
    have lb_tr309 : h0.size ≤ tr309 := Nat.le_trans hKp_hp307.1 lbh_tr309
    have g_tr309 : n0 ≤ tr309 := Nat.le_trans (old_le hO_hp307) lbh_tr309
    replace V_ob279 := V_ob279.keep K311 (ninS ne_ob279_ob302 nin0)
    replace E_ob302 := E_ob302.keep K311
    replace V_tr305 := V_tr305.keep K311 (ninS (Ne.symm ne_ob302_tr305) nin0)
    refine ok_as (mkF m 56 #[.val (.int i0), .val (.int i1), .val (.int i2), .val (.int i3), .val (.int i4), .val (.int (4 : Int32)), .val (.ref ob279), .unset, .unset, .unset, .unset, .unset] [(.ref ob302)]) rfl ?_
    refine ok_astore G #[.val (.int i0), .val (.int i1), .val (.int i2), .val (.int i3), .val (.int i4), .val (.int (4 : Int32)), .val (.ref ob279), .val (.ref ob302), .unset, .unset, .unset, .unset] at_56 rfl rfl ?_
    refine ok_iload G at_58 rfl ?_
    refine ok_iconst G (3 : Int32) at_60 rfl ?_
    refine ok_icmpleN G at_61 (by decide) ?_
    refine ok_aload G at_64 rfl rfl ?_
    refine ok_iconst G (3 : Int32) at_66 rfl ?_
    refine ok_caload G chr297 V_ob279 ⟨by decide, by decide⟩ rfl at_67 ?_
    refine ok_bipush G (47 : Int32) at_68 rfl ?_
    refine ok_icmpne G 77 at_70 (by decide) (by decide) (fun cq312 => ?_) (fun cq312 => ?_)
    · skip
      refine ok_iload G at_77 rfl ?_
      refine ok_iconst G (2 : Int32) at_79 rfl ?_
      refine ok_icmpleN G at_80 (by decide) ?_
      refine ok_aload G at_83 rfl rfl ?_
      refine ok_iconst G (2 : Int32) at_85 rfl ?_
      refine ok_caload G chr292 V_ob279 ⟨by decide, by decide⟩ rfl at_86 ?_
      refine ok_bipush G (47 : Int32) at_87 rfl ?_
      refine ok_icmpne G 96 at_89 (by decide) (by decide) (fun cq313 => ?_) (fun cq313 => ?_)
      · skip
        refine ok_iload G at_96 rfl ?_
        refine ok_iconst G (1 : Int32) at_98 rfl ?_
        refine ok_icmpleN G at_99 (by decide) ?_
        refine ok_aload G at_102 rfl rfl ?_
        refine ok_iconst G (1 : Int32) at_104 rfl ?_
        refine ok_caload G chr287 V_ob279 ⟨by decide, by decide⟩ rfl at_105 ?_
        refine ok_bipush G (47 : Int32) at_106 rfl ?_
        refine ok_icmpne G 115 at_108 (by decide) (by decide) (fun cq314 => ?_) (fun cq314 => ?_)
        · skip
          refine ok_iload G at_115 rfl ?_
          refine ok_ifleN G at_117 (by decide) ?_
          refine ok_aload G at_120 rfl rfl ?_
          refine ok_iconst G (0 : Int32) at_122 rfl ?_
          refine ok_caload G chr282 V_ob279 ⟨by decide, by decide⟩ rfl at_123 ?_
          refine ok_bipush G (47 : Int32) at_124 rfl ?_
          refine ok_icmpne G 133 at_126 (by decide) (by decide) (fun cq315 => ?_) (fun cq315 => ?_)
          · skip
            refine ok_iconst G (-1 : Int32) at_133 rfl ?_
            refine ok_istore G #[.val (.int i0), .val (.int i1), .val (.int i2), .val (.int i3), .val (.int i4), .val (.int (4 : Int32)), .val (.ref ob279), .val (.ref ob302), .val (.int (-1 : Int32)), .unset, .unset, .unset] at_134 rfl ?_
            refine ok_aload G at_136 rfl rfl ?_
            refine ok_old (fun hO_hp310 => ?_)
            refine ok_staticW G (argsL := [(.ref ob302)]) (rest := []) (C.w30) (C.w31) (C.w32) (C.w33) (by decide) pd24 (c_fname C hO_hp310 hE S_ob302) rfl rfl rfl at_138 (Nat.le_of_ble_eq_true rfl) (Nat.le_of_ble_eq_true rfl) (Nat.le_of_ble_eq_true rfl) (Nat.le_of_ble_eq_true rfl) rfl (fun _ q => nomatch q) ?_
            rintro _ hp318 K319 ⟨xr316, tr317, rfl, S_xr316⟩
            replace V_ob279 := V_ob279.keep K319 nin0
            replace E_ob302 := E_ob302.keep K319
            replace V_tr305 := V_tr305.keep K319 nin0
            replace S_ob302 := S_ob302.keep K319 nin0 nin0
            refine ok_as (mkF m 141 #[.val (.int i0), .val (.int i1), .val (.int i2), .val (.int i3), .val (.int i4), .val (.int (4 : Int32)), .val (.ref ob279), .val (.ref ob302), .val (.int (-1 : Int32)), .unset, .unset, .unset] [(.ref xr316)]) rfl ?_
            refine ok_astore G #[.val (.int i0), .val (.int i1), .val (.int i2), .val (.int i3), .val (.int i4), .val (.int (4 : Int32)), .val (.ref ob279), .val (.ref ob302), .val (.int (-1 : Int32)), .val (.ref xr316), .unset, .unset] at_141 rfl rfl ?_
            have ef : List.drop (cut 47 [chr282, chr287, chr292, chr297]).length ([chr282, chr287, chr292, chr297] : List Int32) = [chr282, chr287, chr292, chr297] := by simp [cut, cq312, cq313, cq314, cq315]
            rw [ef] at S_xr316
            clear ef
            refine ok_iload G at_143 rfl ?_
            refine ok_iload G at_145 rfl ?_
            refine ok_isub G at_147 ?_
            refine ok_iconst G (1 : Int32) at_148 rfl ?_
            refine ok_isub G at_149 ?_
            refine ok_sayI (4 : Int32) (by decide) ?_
            refine ok_istore G #[.val (.int i0), .val (.int i1), .val (.int i2), .val (.int i3), .val (.int i4), .val (.int (4 : Int32)), .val (.ref ob279), .val (.ref ob302), .val (.int (-1 : Int32)), .val (.ref xr316), .val (.int (4 : Int32)), .unset] at_150 rfl ?_
            refine ok_aload G at_152 rfl rfl ?_
            refine ok_old (fun hO_hp318 => ?_)
            refine ok_virtual G (a := xr316) (y0 := (⟨"java/lang/String", "length", "()I"⟩ : MethodName)) (y := (⟨"java/lang/String", "length", "()I"⟩ : MethodName)) (argsL := []) (rest := []) S_xr316.exa (C.w89) (C.w40) (C.w42) (fun vm hZ => notFace_of_selects (args := #[]) (mvT (s := s.setVm vm) hZ (C.w42))) (C.w41) (C.w8) (C.w43) (by decide) pd12 (c_length C hO_hp318 S_xr316) rfl rfl rfl at_154 (Nat.le_of_ble_eq_true rfl) (Nat.le_of_ble_eq_true rfl) (Nat.le_of_ble_eq_true rfl) (Nat.le_of_ble_eq_true rfl) (fun _ q => nomatch q) ?_
            rintro _ _ _ ⟨rfl, rfl⟩
            refine ok_as (mkF m 157 #[.val (.int i0), .val (.int i1), .val (.int i2), .val (.int i3), .val (.int i4), .val (.int (4 : Int32)), .val (.ref ob279), .val (.ref ob302), .val (.int (-1 : Int32)), .val (.ref xr316), .val (.int (4 : Int32)), .unset] [(.int (4 : Int32))]) rfl ?_
            refine ok_iload G at_157 rfl ?_
            refine ok_icmpeqY G 164 at_159 (by decide) (by decide) (by decide) ?_
            refine ok_iload G at_164 rfl ?_
            refine ok_iconst G (1 : Int32) at_166 rfl ?_
            refine ok_iadd G at_167 ?_
            refine ok_sayI (0 : Int32) (by decide) ?_
            refine ok_istore G #[.val (.int i0), .val (.int i1), .val (.int i2), .val (.int i3), .val (.int i4), .val (.int (4 : Int32)), .val (.ref ob279), .val (.ref ob302), .val (.int (-1 : Int32)), .val (.ref xr316), .val (.int (4 : Int32)), .val (.int (0 : Int32))] at_168 rfl ?_
            refine ok_aload G at_170 rfl rfl ?_
            refine ok_aload G at_172 rfl rfl ?_
            refine ok_iload G at_174 rfl ?_
            refine ok_iconst G (0 : Int32) at_176 rfl ?_
            refine ok_iload G at_177 rfl ?_
            refine ok_static G (argsL := [(.ref xr316), (.ref ob279), (.int (0 : Int32)), (.int (0 : Int32)), (.int (4 : Int32))]) (rest := []) (C.w90) (C.w91) (C.w4) (C.w92) (by decide) pd25 (c_sameC (ch := chr282) C hO_hp318 S_xr316 V_ob279 (by decide) 0 (Nat.le_of_ble_eq_true rfl) rfl rfl ⟨by decide, by decide⟩ rfl) rfl rfl rfl at_179 (Nat.le_of_ble_eq_true rfl) (Nat.le_of_ble_eq_true rfl) (Nat.le_of_ble_eq_true rfl) (Nat.le_of_ble_eq_true rfl) (fun _ q => nomatch q) ?_
            rintro _ _ _ ⟨rfl, rfl⟩
            refine ok_as (mkF m 182 #[.val (.int i0), .val (.int i1), .val (.int i2), .val (.int i3), .val (.int i4), .val (.int (4 : Int32)), .val (.ref ob279), .val (.ref ob302), .val (.int (-1 : Int32)), .val (.ref xr316), .val (.int (4 : Int32)), .val (.int (0 : Int32))] [(.int (1 : Int32))]) rfl ?_
            refine ok_ifeqN G at_182 (by decide) ?_
            refine ok_aload G at_185 rfl rfl ?_
            refine ok_aload G at_187 rfl rfl ?_
            refine ok_iload G at_189 rfl ?_
            refine ok_iconst G (1 : Int32) at_191 rfl ?_
            refine ok_iload G at_192 rfl ?_
            refine ok_static G (argsL := [(.ref xr316), (.ref ob279), (.int (0 : Int32)), (.int (1 : Int32)), (.int (4 : Int32))]) (rest := []) (C.w90) (C.w91) (C.w4) (C.w92) (by decide) pd25 (c_sameC (ch := chr287) C hO_hp318 S_xr316 V_ob279 (by decide) 1 (Nat.le_of_ble_eq_true rfl) rfl rfl ⟨by decide, by decide⟩ rfl) rfl rfl rfl at_194 (Nat.le_of_ble_eq_true rfl) (Nat.le_of_ble_eq_true rfl) (Nat.le_of_ble_eq_true rfl) (Nat.le_of_ble_eq_true rfl) (fun _ q => nomatch q) ?_
            rintro _ _ _ ⟨rfl, rfl⟩
            refine ok_as (mkF m 197 #[.val (.int i0), .val (.int i1), .val (.int i2), .val (.int i3), .val (.int i4), .val (.int (4 : Int32)), .val (.ref ob279), .val (.ref ob302), .val (.int (-1 : Int32)), .val (.ref xr316), .val (.int (4 : Int32)), .val (.int (0 : Int32))] [(.int (1 : Int32))]) rfl ?_
            refine ok_ifeqN G at_197 (by decide) ?_
            refine ok_aload G at_200 rfl rfl ?_
            refine ok_aload G at_202 rfl rfl ?_
            refine ok_iload G at_204 rfl ?_
            refine ok_iconst G (2 : Int32) at_206 rfl ?_
            refine ok_iload G at_207 rfl ?_
            refine ok_static G (argsL := [(.ref xr316), (.ref ob279), (.int (0 : Int32)), (.int (2 : Int32)), (.int (4 : Int32))]) (rest := []) (C.w90) (C.w91) (C.w4) (C.w92) (by decide) pd25 (c_sameC (ch := chr292) C hO_hp318 S_xr316 V_ob279 (by decide) 2 (Nat.le_of_ble_eq_true rfl) rfl rfl ⟨by decide, by decide⟩ rfl) rfl rfl rfl at_209 (Nat.le_of_ble_eq_true rfl) (Nat.le_of_ble_eq_true rfl) (Nat.le_of_ble_eq_true rfl) (Nat.le_of_ble_eq_true rfl) (fun _ q => nomatch q) ?_
            rintro _ _ _ ⟨rfl, rfl⟩
            refine ok_as (mkF m 212 #[.val (.int i0), .val (.int i1), .val (.int i2), .val (.int i3), .val (.int i4), .val (.int (4 : Int32)), .val (.ref ob279), .val (.ref ob302), .val (.int (-1 : Int32)), .val (.ref xr316), .val (.int (4 : Int32)), .val (.int (0 : Int32))] [(.int (1 : Int32))]) rfl ?_
            refine ok_ifeqN G at_212 (by decide) ?_
            refine ok_aload G at_215 rfl rfl ?_
            refine ok_aload G at_217 rfl rfl ?_
            refine ok_iload G at_219 rfl ?_
            refine ok_iconst G (3 : Int32) at_221 rfl ?_
            refine ok_iload G at_222 rfl ?_
            refine ok_static G (argsL := [(.ref xr316), (.ref ob279), (.int (0 : Int32)), (.int (3 : Int32)), (.int (4 : Int32))]) (rest := []) (C.w90) (C.w91) (C.w4) (C.w92) (by decide) pd25 (c_sameC (ch := chr297) C hO_hp318 S_xr316 V_ob279 (by decide) 3 (Nat.le_of_ble_eq_true rfl) rfl rfl ⟨by decide, by decide⟩ rfl) rfl rfl rfl at_224 (Nat.le_of_ble_eq_true rfl) (Nat.le_of_ble_eq_true rfl) (Nat.le_of_ble_eq_true rfl) (Nat.le_of_ble_eq_true rfl) (fun _ q => nomatch q) ?_
            rintro _ _ _ ⟨rfl, rfl⟩
            refine ok_as (mkF m 227 #[.val (.int i0), .val (.int i1), .val (.int i2), .val (.int i3), .val (.int i4), .val (.int (4 : Int32)), .val (.ref ob279), .val (.ref ob302), .val (.int (-1 : Int32)), .val (.ref xr316), .val (.int (4 : Int32)), .val (.int (0 : Int32))] [(.int (1 : Int32))]) rfl ?_
            refine ok_ifeqN G at_227 (by decide) ?_
            refine ok_iconst G (1 : Int32) at_230 rfl ?_
            refine ok_goto G 235 at_231 (by decide) (by decide) ?_
            exact ok_retN G rfl (by simp) at_235 rfl rfl (Nat.le_of_ble_eq_true rfl) (Nat.le_of_ble_eq_true rfl)
          · skip
            refine ok_iconst G (0 : Int32) at_129 rfl ?_
            refine ok_goto G 134 at_130 (by decide) (by decide) ?_
            refine ok_istore G #[.val (.int i0), .val (.int i1), .val (.int i2), .val (.int i3), .val (.int i4), .val (.int (4 : Int32)), .val (.ref ob279), .val (.ref ob302), .val (.int (0 : Int32)), .unset, .unset, .unset] at_134 rfl ?_
            refine ok_aload G at_136 rfl rfl ?_
            refine ok_old (fun hO_hp310 => ?_)
            refine ok_staticW G (argsL := [(.ref ob302)]) (rest := []) (C.w30) (C.w31) (C.w32) (C.w33) (by decide) pd24 (c_fname C hO_hp310 hE S_ob302) rfl rfl rfl at_138 (Nat.le_of_ble_eq_true rfl) (Nat.le_of_ble_eq_true rfl) (Nat.le_of_ble_eq_true rfl) (Nat.le_of_ble_eq_true rfl) rfl (fun _ q => nomatch q) ?_
            rintro _ hp332 K333 ⟨xr330, tr331, rfl, S_xr330⟩
            replace V_ob279 := V_ob279.keep K333 nin0
            replace E_ob302 := E_ob302.keep K333
            replace V_tr305 := V_tr305.keep K333 nin0
            replace S_ob302 := S_ob302.keep K333 nin0 nin0
            refine ok_as (mkF m 141 #[.val (.int i0), .val (.int i1), .val (.int i2), .val (.int i3), .val (.int i4), .val (.int (4 : Int32)), .val (.ref ob279), .val (.ref ob302), .val (.int (0 : Int32)), .unset, .unset, .unset] [(.ref xr330)]) rfl ?_
            refine ok_astore G #[.val (.int i0), .val (.int i1), .val (.int i2), .val (.int i3), .val (.int i4), .val (.int (4 : Int32)), .val (.ref ob279), .val (.ref ob302), .val (.int (0 : Int32)), .val (.ref xr330), .unset, .unset] at_141 rfl rfl ?_
            have ef : List.drop (cut 47 [chr282, chr287, chr292, chr297]).length ([chr282, chr287, chr292, chr297] : List Int32) = [chr287, chr292, chr297] := by simp [cut, cq312, cq313, cq314, cq315]
            rw [ef] at S_xr330
            clear ef
            refine ok_iload G at_143 rfl ?_
            refine ok_iload G at_145 rfl ?_
            refine ok_isub G at_147 ?_
            refine ok_iconst G (1 : Int32) at_148 rfl ?_
            refine ok_isub G at_149 ?_
            refine ok_sayI (3 : Int32) (by decide) ?_
            refine ok_istore G #[.val (.int i0), .val (.int i1), .val (.int i2), .val (.int i3), .val (.int i4), .val (.int (4 : Int32)), .val (.ref ob279), .val (.ref ob302), .val (.int (0 : Int32)), .val (.ref xr330), .val (.int (3 : Int32)), .unset] at_150 rfl ?_
            refine ok_aload G at_152 rfl rfl ?_
            refine ok_old (fun hO_hp332 => ?_)
            refine ok_virtual G (a := xr330) (y0 := (⟨"java/lang/String", "length", "()I"⟩ : MethodName)) (y := (⟨"java/lang/String", "length", "()I"⟩ : MethodName)) (argsL := []) (rest := []) S_xr330.exa (C.w89) (C.w40) (C.w42) (fun vm hZ => notFace_of_selects (args := #[]) (mvT (s := s.setVm vm) hZ (C.w42))) (C.w41) (C.w8) (C.w43) (by decide) pd12 (c_length C hO_hp332 S_xr330) rfl rfl rfl at_154 (Nat.le_of_ble_eq_true rfl) (Nat.le_of_ble_eq_true rfl) (Nat.le_of_ble_eq_true rfl) (Nat.le_of_ble_eq_true rfl) (fun _ q => nomatch q) ?_
            rintro _ _ _ ⟨rfl, rfl⟩
            refine ok_as (mkF m 157 #[.val (.int i0), .val (.int i1), .val (.int i2), .val (.int i3), .val (.int i4), .val (.int (4 : Int32)), .val (.ref ob279), .val (.ref ob302), .val (.int (0 : Int32)), .val (.ref xr330), .val (.int (3 : Int32)), .unset] [(.int (3 : Int32))]) rfl ?_
            refine ok_iload G at_157 rfl ?_
            refine ok_icmpeqY G 164 at_159 (by decide) (by decide) (by decide) ?_
            refine ok_iload G at_164 rfl ?_
            refine ok_iconst G (1 : Int32) at_166 rfl ?_
            refine ok_iadd G at_167 ?_
            refine ok_sayI (1 : Int32) (by decide) ?_
            refine ok_istore G #[.val (.int i0), .val (.int i1), .val (.int i2), .val (.int i3), .val (.int i4), .val (.int (4 : Int32)), .val (.ref ob279), .val (.ref ob302), .val (.int (0 : Int32)), .val (.ref xr330), .val (.int (3 : Int32)), .val (.int (1 : Int32))] at_168 rfl ?_
            refine ok_aload G at_170 rfl rfl ?_
            refine ok_aload G at_172 rfl rfl ?_
            refine ok_iload G at_174 rfl ?_
            refine ok_iconst G (0 : Int32) at_176 rfl ?_
            refine ok_iload G at_177 rfl ?_
            refine ok_static G (argsL := [(.ref xr330), (.ref ob279), (.int (1 : Int32)), (.int (0 : Int32)), (.int (3 : Int32))]) (rest := []) (C.w90) (C.w91) (C.w4) (C.w92) (by decide) pd25 (c_sameC (ch := chr287) C hO_hp332 S_xr330 V_ob279 (by decide) 0 (Nat.le_of_ble_eq_true rfl) rfl rfl ⟨by decide, by decide⟩ rfl) rfl rfl rfl at_179 (Nat.le_of_ble_eq_true rfl) (Nat.le_of_ble_eq_true rfl) (Nat.le_of_ble_eq_true rfl) (Nat.le_of_ble_eq_true rfl) (fun _ q => nomatch q) ?_
            rintro _ _ _ ⟨rfl, rfl⟩
            refine ok_as (mkF m 182 #[.val (.int i0), .val (.int i1), .val (.int i2), .val (.int i3), .val (.int i4), .val (.int (4 : Int32)), .val (.ref ob279), .val (.ref ob302), .val (.int (0 : Int32)), .val (.ref xr330), .val (.int (3 : Int32)), .val (.int (1 : Int32))] [(.int (1 : Int32))]) rfl ?_
            refine ok_ifeqN G at_182 (by decide) ?_
            refine ok_aload G at_185 rfl rfl ?_
            refine ok_aload G at_187 rfl rfl ?_
            refine ok_iload G at_189 rfl ?_
            refine ok_iconst G (1 : Int32) at_191 rfl ?_
            refine ok_iload G at_192 rfl ?_
            refine ok_static G (argsL := [(.ref xr330), (.ref ob279), (.int (1 : Int32)), (.int (1 : Int32)), (.int (3 : Int32))]) (rest := []) (C.w90) (C.w91) (C.w4) (C.w92) (by decide) pd25 (c_sameC (ch := chr292) C hO_hp332 S_xr330 V_ob279 (by decide) 1 (Nat.le_of_ble_eq_true rfl) rfl rfl ⟨by decide, by decide⟩ rfl) rfl rfl rfl at_194 (Nat.le_of_ble_eq_true rfl) (Nat.le_of_ble_eq_true rfl) (Nat.le_of_ble_eq_true rfl) (Nat.le_of_ble_eq_true rfl) (fun _ q => nomatch q) ?_
            rintro _ _ _ ⟨rfl, rfl⟩
            refine ok_as (mkF m 197 #[.val (.int i0), .val (.int i1), .val (.int i2), .val (.int i3), .val (.int i4), .val (.int (4 : Int32)), .val (.ref ob279), .val (.ref ob302), .val (.int (0 : Int32)), .val (.ref xr330), .val (.int (3 : Int32)), .val (.int (1 : Int32))] [(.int (1 : Int32))]) rfl ?_
            refine ok_ifeqN G at_197 (by decide) ?_
            refine ok_aload G at_200 rfl rfl ?_
            refine ok_aload G at_202 rfl rfl ?_
            refine ok_iload G at_204 rfl ?_
            refine ok_iconst G (2 : Int32) at_206 rfl ?_
            refine ok_iload G at_207 rfl ?_
            refine ok_static G (argsL := [(.ref xr330), (.ref ob279), (.int (1 : Int32)), (.int (2 : Int32)), (.int (3 : Int32))]) (rest := []) (C.w90) (C.w91) (C.w4) (C.w92) (by decide) pd25 (c_sameC (ch := chr297) C hO_hp332 S_xr330 V_ob279 (by decide) 2 (Nat.le_of_ble_eq_true rfl) rfl rfl ⟨by decide, by decide⟩ rfl) rfl rfl rfl at_209 (Nat.le_of_ble_eq_true rfl) (Nat.le_of_ble_eq_true rfl) (Nat.le_of_ble_eq_true rfl) (Nat.le_of_ble_eq_true rfl) (fun _ q => nomatch q) ?_
            rintro _ _ _ ⟨rfl, rfl⟩
            refine ok_as (mkF m 212 #[.val (.int i0), .val (.int i1), .val (.int i2), .val (.int i3), .val (.int i4), .val (.int (4 : Int32)), .val (.ref ob279), .val (.ref ob302), .val (.int (0 : Int32)), .val (.ref xr330), .val (.int (3 : Int32)), .val (.int (1 : Int32))] [(.int (1 : Int32))]) rfl ?_
            refine ok_ifeqN G at_212 (by decide) ?_
            refine ok_aload G at_215 rfl rfl ?_
            refine ok_aload G at_217 rfl rfl ?_
            refine ok_iload G at_219 rfl ?_
            refine ok_iconst G (3 : Int32) at_221 rfl ?_
            refine ok_iload G at_222 rfl ?_
            refine ok_static G (argsL := [(.ref xr330), (.ref ob279), (.int (1 : Int32)), (.int (3 : Int32)), (.int (3 : Int32))]) (rest := []) (C.w90) (C.w91) (C.w4) (C.w92) (by decide) pd25 (c_sameY C hO_hp332 (by decide)) rfl rfl rfl at_224 (Nat.le_of_ble_eq_true rfl) (Nat.le_of_ble_eq_true rfl) (Nat.le_of_ble_eq_true rfl) (Nat.le_of_ble_eq_true rfl) (fun _ q => nomatch q) ?_
            rintro _ _ _ ⟨rfl, rfl⟩
            refine ok_as (mkF m 227 #[.val (.int i0), .val (.int i1), .val (.int i2), .val (.int i3), .val (.int i4), .val (.int (4 : Int32)), .val (.ref ob279), .val (.ref ob302), .val (.int (0 : Int32)), .val (.ref xr330), .val (.int (3 : Int32)), .val (.int (1 : Int32))] [(.int (1 : Int32))]) rfl ?_
            refine ok_ifeqN G at_227 (by decide) ?_
            refine ok_iconst G (1 : Int32) at_230 rfl ?_
            refine ok_goto G 235 at_231 (by decide) (by decide) ?_
            exact ok_retN G rfl (by simp) at_235 rfl rfl (Nat.le_of_ble_eq_true rfl) (Nat.le_of_ble_eq_true rfl)
        · skip
          refine ok_iconst G (1 : Int32) at_111 rfl ?_
          refine ok_goto G 134 at_112 (by decide) (by decide) ?_
          refine ok_istore G #[.val (.int i0), .val (.int i1), .val (.int i2), .val (.int i3), .val (.int i4), .val (.int (4 : Int32)), .val (.ref ob279), .val (.ref ob302), .val (.int (1 : Int32)), .unset, .unset, .unset] at_134 rfl ?_
          refine ok_aload G at_136 rfl rfl ?_
          refine ok_old (fun hO_hp310 => ?_)
          refine ok_staticW G (argsL := [(.ref ob302)]) (rest := []) (C.w30) (C.w31) (C.w32) (C.w33) (by decide) pd24 (c_fname C hO_hp310 hE S_ob302) rfl rfl rfl at_138 (Nat.le_of_ble_eq_true rfl) (Nat.le_of_ble_eq_true rfl) (Nat.le_of_ble_eq_true rfl) (Nat.le_of_ble_eq_true rfl) rfl (fun _ q => nomatch q) ?_
          rintro _ hp346 K347 ⟨xr344, tr345, rfl, S_xr344⟩
          replace V_ob279 := V_ob279.keep K347 nin0
          replace E_ob302 := E_ob302.keep K347
          replace V_tr305 := V_tr305.keep K347 nin0
          replace S_ob302 := S_ob302.keep K347 nin0 nin0
          refine ok_as (mkF m 141 #[.val (.int i0), .val (.int i1), .val (.int i2), .val (.int i3), .val (.int i4), .val (.int (4 : Int32)), .val (.ref ob279), .val (.ref ob302), .val (.int (1 : Int32)), .unset, .unset, .unset] [(.ref xr344)]) rfl ?_
          refine ok_astore G #[.val (.int i0), .val (.int i1), .val (.int i2), .val (.int i3), .val (.int i4), .val (.int (4 : Int32)), .val (.ref ob279), .val (.ref ob302), .val (.int (1 : Int32)), .val (.ref xr344), .unset, .unset] at_141 rfl rfl ?_
          have ef : List.drop (cut 47 [chr282, chr287, chr292, chr297]).length ([chr282, chr287, chr292, chr297] : List Int32) = [chr292, chr297] := by simp [cut, cq312, cq313, cq314]
          rw [ef] at S_xr344
          clear ef
          refine ok_iload G at_143 rfl ?_
          refine ok_iload G at_145 rfl ?_
          refine ok_isub G at_147 ?_
          refine ok_iconst G (1 : Int32) at_148 rfl ?_
          refine ok_isub G at_149 ?_
          refine ok_sayI (2 : Int32) (by decide) ?_
          refine ok_istore G #[.val (.int i0), .val (.int i1), .val (.int i2), .val (.int i3), .val (.int i4), .val (.int (4 : Int32)), .val (.ref ob279), .val (.ref ob302), .val (.int (1 : Int32)), .val (.ref xr344), .val (.int (2 : Int32)), .unset] at_150 rfl ?_
          refine ok_aload G at_152 rfl rfl ?_
          refine ok_old (fun hO_hp346 => ?_)
          refine ok_virtual G (a := xr344) (y0 := (⟨"java/lang/String", "length", "()I"⟩ : MethodName)) (y := (⟨"java/lang/String", "length", "()I"⟩ : MethodName)) (argsL := []) (rest := []) S_xr344.exa (C.w89) (C.w40) (C.w42) (fun vm hZ => notFace_of_selects (args := #[]) (mvT (s := s.setVm vm) hZ (C.w42))) (C.w41) (C.w8) (C.w43) (by decide) pd12 (c_length C hO_hp346 S_xr344) rfl rfl rfl at_154 (Nat.le_of_ble_eq_true rfl) (Nat.le_of_ble_eq_true rfl) (Nat.le_of_ble_eq_true rfl) (Nat.le_of_ble_eq_true rfl) (fun _ q => nomatch q) ?_
          rintro _ _ _ ⟨rfl, rfl⟩
          refine ok_as (mkF m 157 #[.val (.int i0), .val (.int i1), .val (.int i2), .val (.int i3), .val (.int i4), .val (.int (4 : Int32)), .val (.ref ob279), .val (.ref ob302), .val (.int (1 : Int32)), .val (.ref xr344), .val (.int (2 : Int32)), .unset] [(.int (2 : Int32))]) rfl ?_
          refine ok_iload G at_157 rfl ?_
          refine ok_icmpeqY G 164 at_159 (by decide) (by decide) (by decide) ?_
          refine ok_iload G at_164 rfl ?_
          refine ok_iconst G (1 : Int32) at_166 rfl ?_
          refine ok_iadd G at_167 ?_
          refine ok_sayI (2 : Int32) (by decide) ?_
          refine ok_istore G #[.val (.int i0), .val (.int i1), .val (.int i2), .val (.int i3), .val (.int i4), .val (.int (4 : Int32)), .val (.ref ob279), .val (.ref ob302), .val (.int (1 : Int32)), .val (.ref xr344), .val (.int (2 : Int32)), .val (.int (2 : Int32))] at_168 rfl ?_
          refine ok_aload G at_170 rfl rfl ?_
          refine ok_aload G at_172 rfl rfl ?_
          refine ok_iload G at_174 rfl ?_
          refine ok_iconst G (0 : Int32) at_176 rfl ?_
          refine ok_iload G at_177 rfl ?_
          refine ok_static G (argsL := [(.ref xr344), (.ref ob279), (.int (2 : Int32)), (.int (0 : Int32)), (.int (2 : Int32))]) (rest := []) (C.w90) (C.w91) (C.w4) (C.w92) (by decide) pd25 (c_sameC (ch := chr292) C hO_hp346 S_xr344 V_ob279 (by decide) 0 (Nat.le_of_ble_eq_true rfl) rfl rfl ⟨by decide, by decide⟩ rfl) rfl rfl rfl at_179 (Nat.le_of_ble_eq_true rfl) (Nat.le_of_ble_eq_true rfl) (Nat.le_of_ble_eq_true rfl) (Nat.le_of_ble_eq_true rfl) (fun _ q => nomatch q) ?_
          rintro _ _ _ ⟨rfl, rfl⟩
          refine ok_as (mkF m 182 #[.val (.int i0), .val (.int i1), .val (.int i2), .val (.int i3), .val (.int i4), .val (.int (4 : Int32)), .val (.ref ob279), .val (.ref ob302), .val (.int (1 : Int32)), .val (.ref xr344), .val (.int (2 : Int32)), .val (.int (2 : Int32))] [(.int (1 : Int32))]) rfl ?_
          refine ok_ifeqN G at_182 (by decide) ?_
          refine ok_aload G at_185 rfl rfl ?_
          refine ok_aload G at_187 rfl rfl ?_
          refine ok_iload G at_189 rfl ?_
          refine ok_iconst G (1 : Int32) at_191 rfl ?_
          refine ok_iload G at_192 rfl ?_
          refine ok_static G (argsL := [(.ref xr344), (.ref ob279), (.int (2 : Int32)), (.int (1 : Int32)), (.int (2 : Int32))]) (rest := []) (C.w90) (C.w91) (C.w4) (C.w92) (by decide) pd25 (c_sameC (ch := chr297) C hO_hp346 S_xr344 V_ob279 (by decide) 1 (Nat.le_of_ble_eq_true rfl) rfl rfl ⟨by decide, by decide⟩ rfl) rfl rfl rfl at_194 (Nat.le_of_ble_eq_true rfl) (Nat.le_of_ble_eq_true rfl) (Nat.le_of_ble_eq_true rfl) (Nat.le_of_ble_eq_true rfl) (fun _ q => nomatch q) ?_
          rintro _ _ _ ⟨rfl, rfl⟩
          refine ok_as (mkF m 197 #[.val (.int i0), .val (.int i1), .val (.int i2), .val (.int i3), .val (.int i4), .val (.int (4 : Int32)), .val (.ref ob279), .val (.ref ob302), .val (.int (1 : Int32)), .val (.ref xr344), .val (.int (2 : Int32)), .val (.int (2 : Int32))] [(.int (1 : Int32))]) rfl ?_
          refine ok_ifeqN G at_197 (by decide) ?_
          refine ok_aload G at_200 rfl rfl ?_
          refine ok_aload G at_202 rfl rfl ?_
          refine ok_iload G at_204 rfl ?_
          refine ok_iconst G (2 : Int32) at_206 rfl ?_
          refine ok_iload G at_207 rfl ?_
          refine ok_static G (argsL := [(.ref xr344), (.ref ob279), (.int (2 : Int32)), (.int (2 : Int32)), (.int (2 : Int32))]) (rest := []) (C.w90) (C.w91) (C.w4) (C.w92) (by decide) pd25 (c_sameY C hO_hp346 (by decide)) rfl rfl rfl at_209 (Nat.le_of_ble_eq_true rfl) (Nat.le_of_ble_eq_true rfl) (Nat.le_of_ble_eq_true rfl) (Nat.le_of_ble_eq_true rfl) (fun _ q => nomatch q) ?_
          rintro _ _ _ ⟨rfl, rfl⟩
          refine ok_as (mkF m 212 #[.val (.int i0), .val (.int i1), .val (.int i2), .val (.int i3), .val (.int i4), .val (.int (4 : Int32)), .val (.ref ob279), .val (.ref ob302), .val (.int (1 : Int32)), .val (.ref xr344), .val (.int (2 : Int32)), .val (.int (2 : Int32))] [(.int (1 : Int32))]) rfl ?_
          refine ok_ifeqN G at_212 (by decide) ?_
          refine ok_aload G at_215 rfl rfl ?_
          refine ok_aload G at_217 rfl rfl ?_
          refine ok_iload G at_219 rfl ?_
          refine ok_iconst G (3 : Int32) at_221 rfl ?_
          refine ok_iload G at_222 rfl ?_
          refine ok_static G (argsL := [(.ref xr344), (.ref ob279), (.int (2 : Int32)), (.int (3 : Int32)), (.int (2 : Int32))]) (rest := []) (C.w90) (C.w91) (C.w4) (C.w92) (by decide) pd25 (c_sameY C hO_hp346 (by decide)) rfl rfl rfl at_224 (Nat.le_of_ble_eq_true rfl) (Nat.le_of_ble_eq_true rfl) (Nat.le_of_ble_eq_true rfl) (Nat.le_of_ble_eq_true rfl) (fun _ q => nomatch q) ?_
          rintro _ _ _ ⟨rfl, rfl⟩
          refine ok_as (mkF m 227 #[.val (.int i0), .val (.int i1), .val (.int i2), .val (.int i3), .val (.int i4), .val (.int (4 : Int32)), .val (.ref ob279), .val (.ref ob302), .val (.int (1 : Int32)), .val (.ref xr344), .val (.int (2 : Int32)), .val (.int (2 : Int32))] [(.int (1 : Int32))]) rfl ?_
          refine ok_ifeqN G at_227 (by decide) ?_
          refine ok_iconst G (1 : Int32) at_230 rfl ?_
          refine ok_goto G 235 at_231 (by decide) (by decide) ?_
          exact ok_retN G rfl (by simp) at_235 rfl rfl (Nat.le_of_ble_eq_true rfl) (Nat.le_of_ble_eq_true rfl)
      · skip
        refine ok_iconst G (2 : Int32) at_92 rfl ?_
        refine ok_goto G 134 at_93 (by decide) (by decide) ?_
        refine ok_istore G #[.val (.int i0), .val (.int i1), .val (.int i2), .val (.int i3), .val (.int i4), .val (.int (4 : Int32)), .val (.ref ob279), .val (.ref ob302), .val (.int (2 : Int32)), .unset, .unset, .unset] at_134 rfl ?_
        refine ok_aload G at_136 rfl rfl ?_
        refine ok_old (fun hO_hp310 => ?_)
        refine ok_staticW G (argsL := [(.ref ob302)]) (rest := []) (C.w30) (C.w31) (C.w32) (C.w33) (by decide) pd24 (c_fname C hO_hp310 hE S_ob302) rfl rfl rfl at_138 (Nat.le_of_ble_eq_true rfl) (Nat.le_of_ble_eq_true rfl) (Nat.le_of_ble_eq_true rfl) (Nat.le_of_ble_eq_true rfl) rfl (fun _ q => nomatch q) ?_
        rintro _ hp360 K361 ⟨xr358, tr359, rfl, S_xr358⟩
        replace V_ob279 := V_ob279.keep K361 nin0
        replace E_ob302 := E_ob302.keep K361
        replace V_tr305 := V_tr305.keep K361 nin0
        replace S_ob302 := S_ob302.keep K361 nin0 nin0
        refine ok_as (mkF m 141 #[.val (.int i0), .val (.int i1), .val (.int i2), .val (.int i3), .val (.int i4), .val (.int (4 : Int32)), .val (.ref ob279), .val (.ref ob302), .val (.int (2 : Int32)), .unset, .unset, .unset] [(.ref xr358)]) rfl ?_
        refine ok_astore G #[.val (.int i0), .val (.int i1), .val (.int i2), .val (.int i3), .val (.int i4), .val (.int (4 : Int32)), .val (.ref ob279), .val (.ref ob302), .val (.int (2 : Int32)), .val (.ref xr358), .unset, .unset] at_141 rfl rfl ?_
        have ef : List.drop (cut 47 [chr282, chr287, chr292, chr297]).length ([chr282, chr287, chr292, chr297] : List Int32) = [chr297] := by simp [cut, cq312, cq313]
        rw [ef] at S_xr358
        clear ef
        refine ok_iload G at_143 rfl ?_
        refine ok_iload G at_145 rfl ?_
        refine ok_isub G at_147 ?_
        refine ok_iconst G (1 : Int32) at_148 rfl ?_
        refine ok_isub G at_149 ?_
        refine ok_sayI (1 : Int32) (by decide) ?_
        refine ok_istore G #[.val (.int i0), .val (.int i1), .val (.int i2), .val (.int i3), .val (.int i4), .val (.int (4 : Int32)), .val (.ref ob279), .val (.ref ob302), .val (.int (2 : Int32)), .val (.ref xr358), .val (.int (1 : Int32)), .unset] at_150 rfl ?_
        refine ok_aload G at_152 rfl rfl ?_
        refine ok_old (fun hO_hp360 => ?_)
        refine ok_virtual G (a := xr358) (y0 := (⟨"java/lang/String", "length", "()I"⟩ : MethodName)) (y := (⟨"java/lang/String", "length", "()I"⟩ : MethodName)) (argsL := []) (rest := []) S_xr358.exa (C.w89) (C.w40) (C.w42) (fun vm hZ => notFace_of_selects (args := #[]) (mvT (s := s.setVm vm) hZ (C.w42))) (C.w41) (C.w8) (C.w43) (by decide) pd12 (c_length C hO_hp360 S_xr358) rfl rfl rfl at_154 (Nat.le_of_ble_eq_true rfl) (Nat.le_of_ble_eq_true rfl) (Nat.le_of_ble_eq_true rfl) (Nat.le_of_ble_eq_true rfl) (fun _ q => nomatch q) ?_
        rintro _ _ _ ⟨rfl, rfl⟩
        refine ok_as (mkF m 157 #[.val (.int i0), .val (.int i1), .val (.int i2), .val (.int i3), .val (.int i4), .val (.int (4 : Int32)), .val (.ref ob279), .val (.ref ob302), .val (.int (2 : Int32)), .val (.ref xr358), .val (.int (1 : Int32)), .unset] [(.int (1 : Int32))]) rfl ?_
        refine ok_iload G at_157 rfl ?_
        refine ok_icmpeqY G 164 at_159 (by decide) (by decide) (by decide) ?_
        refine ok_iload G at_164 rfl ?_
        refine ok_iconst G (1 : Int32) at_166 rfl ?_
        refine ok_iadd G at_167 ?_
        refine ok_sayI (3 : Int32) (by decide) ?_
        refine ok_istore G #[.val (.int i0), .val (.int i1), .val (.int i2), .val (.int i3), .val (.int i4), .val (.int (4 : Int32)), .val (.ref ob279), .val (.ref ob302), .val (.int (2 : Int32)), .val (.ref xr358), .val (.int (1 : Int32)), .val (.int (3 : Int32))] at_168 rfl ?_
        refine ok_aload G at_170 rfl rfl ?_
        refine ok_aload G at_172 rfl rfl ?_
        refine ok_iload G at_174 rfl ?_
        refine ok_iconst G (0 : Int32) at_176 rfl ?_
        refine ok_iload G at_177 rfl ?_
        refine ok_static G (argsL := [(.ref xr358), (.ref ob279), (.int (3 : Int32)), (.int (0 : Int32)), (.int (1 : Int32))]) (rest := []) (C.w90) (C.w91) (C.w4) (C.w92) (by decide) pd25 (c_sameC (ch := chr297) C hO_hp360 S_xr358 V_ob279 (by decide) 0 (Nat.le_of_ble_eq_true rfl) rfl rfl ⟨by decide, by decide⟩ rfl) rfl rfl rfl at_179 (Nat.le_of_ble_eq_true rfl) (Nat.le_of_ble_eq_true rfl) (Nat.le_of_ble_eq_true rfl) (Nat.le_of_ble_eq_true rfl) (fun _ q => nomatch q) ?_
        rintro _ _ _ ⟨rfl, rfl⟩
        refine ok_as (mkF m 182 #[.val (.int i0), .val (.int i1), .val (.int i2), .val (.int i3), .val (.int i4), .val (.int (4 : Int32)), .val (.ref ob279), .val (.ref ob302), .val (.int (2 : Int32)), .val (.ref xr358), .val (.int (1 : Int32)), .val (.int (3 : Int32))] [(.int (1 : Int32))]) rfl ?_
        refine ok_ifeqN G at_182 (by decide) ?_
        refine ok_aload G at_185 rfl rfl ?_
        refine ok_aload G at_187 rfl rfl ?_
        refine ok_iload G at_189 rfl ?_
        refine ok_iconst G (1 : Int32) at_191 rfl ?_
        refine ok_iload G at_192 rfl ?_
        refine ok_static G (argsL := [(.ref xr358), (.ref ob279), (.int (3 : Int32)), (.int (1 : Int32)), (.int (1 : Int32))]) (rest := []) (C.w90) (C.w91) (C.w4) (C.w92) (by decide) pd25 (c_sameY C hO_hp360 (by decide)) rfl rfl rfl at_194 (Nat.le_of_ble_eq_true rfl) (Nat.le_of_ble_eq_true rfl) (Nat.le_of_ble_eq_true rfl) (Nat.le_of_ble_eq_true rfl) (fun _ q => nomatch q) ?_
        rintro _ _ _ ⟨rfl, rfl⟩
        refine ok_as (mkF m 197 #[.val (.int i0), .val (.int i1), .val (.int i2), .val (.int i3), .val (.int i4), .val (.int (4 : Int32)), .val (.ref ob279), .val (.ref ob302), .val (.int (2 : Int32)), .val (.ref xr358), .val (.int (1 : Int32)), .val (.int (3 : Int32))] [(.int (1 : Int32))]) rfl ?_
        refine ok_ifeqN G at_197 (by decide) ?_
        refine ok_aload G at_200 rfl rfl ?_
        refine ok_aload G at_202 rfl rfl ?_
        refine ok_iload G at_204 rfl ?_
        refine ok_iconst G (2 : Int32) at_206 rfl ?_
        refine ok_iload G at_207 rfl ?_
        refine ok_static G (argsL := [(.ref xr358), (.ref ob279), (.int (3 : Int32)), (.int (2 : Int32)), (.int (1 : Int32))]) (rest := []) (C.w90) (C.w91) (C.w4) (C.w92) (by decide) pd25 (c_sameY C hO_hp360 (by decide)) rfl rfl rfl at_209 (Nat.le_of_ble_eq_true rfl) (Nat.le_of_ble_eq_true rfl) (Nat.le_of_ble_eq_true rfl) (Nat.le_of_ble_eq_true rfl) (fun _ q => nomatch q) ?_
        rintro _ _ _ ⟨rfl, rfl⟩
        refine ok_as (mkF m 212 #[.val (.int i0), .val (.int i1), .val (.int i2), .val (.int i3), .val (.int i4), .val (.int (4 : Int32)), .val (.ref ob279), .val (.ref ob302), .val (.int (2 : Int32)), .val (.ref xr358), .val (.int (1 : Int32)), .val (.int (3 : Int32))] [(.int (1 : Int32))]) rfl ?_
        refine ok_ifeqN G at_212 (by decide) ?_
        refine ok_aload G at_215 rfl rfl ?_
        refine ok_aload G at_217 rfl rfl ?_
        refine ok_iload G at_219 rfl ?_
        refine ok_iconst G (3 : Int32) at_221 rfl ?_
        refine ok_iload G at_222 rfl ?_
        refine ok_static G (argsL := [(.ref xr358), (.ref ob279), (.int (3 : Int32)), (.int (3 : Int32)), (.int (1 : Int32))]) (rest := []) (C.w90) (C.w91) (C.w4) (C.w92) (by decide) pd25 (c_sameY C hO_hp360 (by decide)) rfl rfl rfl at_224 (Nat.le_of_ble_eq_true rfl) (Nat.le_of_ble_eq_true rfl) (Nat.le_of_ble_eq_true rfl) (Nat.le_of_ble_eq_true rfl) (fun _ q => nomatch q) ?_
        rintro _ _ _ ⟨rfl, rfl⟩
        refine ok_as (mkF m 227 #[.val (.int i0), .val (.int i1), .val (.int i2), .val (.int i3), .val (.int i4), .val (.int (4 : Int32)), .val (.ref ob279), .val (.ref ob302), .val (.int (2 : Int32)), .val (.ref xr358), .val (.int (1 : Int32)), .val (.int (3 : Int32))] [(.int (1 : Int32))]) rfl ?_
        refine ok_ifeqN G at_227 (by decide) ?_
        refine ok_iconst G (1 : Int32) at_230 rfl ?_
        refine ok_goto G 235 at_231 (by decide) (by decide) ?_
        exact ok_retN G rfl (by simp) at_235 rfl rfl (Nat.le_of_ble_eq_true rfl) (Nat.le_of_ble_eq_true rfl)
    · skip
      refine ok_iconst G (3 : Int32) at_73 rfl ?_
      refine ok_goto G 134 at_74 (by decide) (by decide) ?_
      refine ok_istore G #[.val (.int i0), .val (.int i1), .val (.int i2), .val (.int i3), .val (.int i4), .val (.int (4 : Int32)), .val (.ref ob279), .val (.ref ob302), .val (.int (3 : Int32)), .unset, .unset, .unset] at_134 rfl ?_
      refine ok_aload G at_136 rfl rfl ?_
      refine ok_old (fun hO_hp310 => ?_)
      refine ok_staticW G (argsL := [(.ref ob302)]) (rest := []) (C.w30) (C.w31) (C.w32) (C.w33) (by decide) pd24 (c_fname C hO_hp310 hE S_ob302) rfl rfl rfl at_138 (Nat.le_of_ble_eq_true rfl) (Nat.le_of_ble_eq_true rfl) (Nat.le_of_ble_eq_true rfl) (Nat.le_of_ble_eq_true rfl) rfl (fun _ q => nomatch q) ?_
      rintro _ hp374 K375 ⟨xr372, tr373, rfl, S_xr372⟩
      replace V_ob279 := V_ob279.keep K375 nin0
      replace E_ob302 := E_ob302.keep K375
      replace V_tr305 := V_tr305.keep K375 nin0
      replace S_ob302 := S_ob302.keep K375 nin0 nin0
      refine ok_as (mkF m 141 #[.val (.int i0), .val (.int i1), .val (.int i2), .val (.int i3), .val (.int i4), .val (.int (4 : Int32)), .val (.ref ob279), .val (.ref ob302), .val (.int (3 : Int32)), .unset, .unset, .unset] [(.ref xr372)]) rfl ?_
      refine ok_astore G #[.val (.int i0), .val (.int i1), .val (.int i2), .val (.int i3), .val (.int i4), .val (.int (4 : Int32)), .val (.ref ob279), .val (.ref ob302), .val (.int (3 : Int32)), .val (.ref xr372), .unset, .unset] at_141 rfl rfl ?_
      have ef : List.drop (cut 47 [chr282, chr287, chr292, chr297]).length ([chr282, chr287, chr292, chr297] : List Int32) = [] := by simp [cut, cq312]
      rw [ef] at S_xr372
      clear ef
      refine ok_iload G at_143 rfl ?_
      refine ok_iload G at_145 rfl ?_
      refine ok_isub G at_147 ?_
      refine ok_iconst G (1 : Int32) at_148 rfl ?_
      refine ok_isub G at_149 ?_
      refine ok_sayI (0 : Int32) (by decide) ?_
      refine ok_istore G #[.val (.int i0), .val (.int i1), .val (.int i2), .val (.int i3), .val (.int i4), .val (.int (4 : Int32)), .val (.ref ob279), .val (.ref ob302), .val (.int (3 : Int32)), .val (.ref xr372), .val (.int (0 : Int32)), .unset] at_150 rfl ?_
      refine ok_aload G at_152 rfl rfl ?_
      refine ok_old (fun hO_hp374 => ?_)
      refine ok_virtual G (a := xr372) (y0 := (⟨"java/lang/String", "length", "()I"⟩ : MethodName)) (y := (⟨"java/lang/String", "length", "()I"⟩ : MethodName)) (argsL := []) (rest := []) S_xr372.exa (C.w89) (C.w40) (C.w42) (fun vm hZ => notFace_of_selects (args := #[]) (mvT (s := s.setVm vm) hZ (C.w42))) (C.w41) (C.w8) (C.w43) (by decide) pd12 (c_length C hO_hp374 S_xr372) rfl rfl rfl at_154 (Nat.le_of_ble_eq_true rfl) (Nat.le_of_ble_eq_true rfl) (Nat.le_of_ble_eq_true rfl) (Nat.le_of_ble_eq_true rfl) (fun _ q => nomatch q) ?_
      rintro _ _ _ ⟨rfl, rfl⟩
      refine ok_as (mkF m 157 #[.val (.int i0), .val (.int i1), .val (.int i2), .val (.int i3), .val (.int i4), .val (.int (4 : Int32)), .val (.ref ob279), .val (.ref ob302), .val (.int (3 : Int32)), .val (.ref xr372), .val (.int (0 : Int32)), .unset] [(.int (0 : Int32))]) rfl ?_
      refine ok_iload G at_157 rfl ?_
      refine ok_icmpeqY G 164 at_159 (by decide) (by decide) (by decide) ?_
      refine ok_iload G at_164 rfl ?_
      refine ok_iconst G (1 : Int32) at_166 rfl ?_
      refine ok_iadd G at_167 ?_
      refine ok_sayI (4 : Int32) (by decide) ?_
      refine ok_istore G #[.val (.int i0), .val (.int i1), .val (.int i2), .val (.int i3), .val (.int i4), .val (.int (4 : Int32)), .val (.ref ob279), .val (.ref ob302), .val (.int (3 : Int32)), .val (.ref xr372), .val (.int (0 : Int32)), .val (.int (4 : Int32))] at_168 rfl ?_
      refine ok_aload G at_170 rfl rfl ?_
      refine ok_aload G at_172 rfl rfl ?_
      refine ok_iload G at_174 rfl ?_
      refine ok_iconst G (0 : Int32) at_176 rfl ?_
      refine ok_iload G at_177 rfl ?_
      refine ok_static G (argsL := [(.ref xr372), (.ref ob279), (.int (4 : Int32)), (.int (0 : Int32)), (.int (0 : Int32))]) (rest := []) (C.w90) (C.w91) (C.w4) (C.w92) (by decide) pd25 (c_sameY C hO_hp374 (by decide)) rfl rfl rfl at_179 (Nat.le_of_ble_eq_true rfl) (Nat.le_of_ble_eq_true rfl) (Nat.le_of_ble_eq_true rfl) (Nat.le_of_ble_eq_true rfl) (fun _ q => nomatch q) ?_
      rintro _ _ _ ⟨rfl, rfl⟩
      refine ok_as (mkF m 182 #[.val (.int i0), .val (.int i1), .val (.int i2), .val (.int i3), .val (.int i4), .val (.int (4 : Int32)), .val (.ref ob279), .val (.ref ob302), .val (.int (3 : Int32)), .val (.ref xr372), .val (.int (0 : Int32)), .val (.int (4 : Int32))] [(.int (1 : Int32))]) rfl ?_
      refine ok_ifeqN G at_182 (by decide) ?_
      refine ok_aload G at_185 rfl rfl ?_
      refine ok_aload G at_187 rfl rfl ?_
      refine ok_iload G at_189 rfl ?_
      refine ok_iconst G (1 : Int32) at_191 rfl ?_
      refine ok_iload G at_192 rfl ?_
      refine ok_static G (argsL := [(.ref xr372), (.ref ob279), (.int (4 : Int32)), (.int (1 : Int32)), (.int (0 : Int32))]) (rest := []) (C.w90) (C.w91) (C.w4) (C.w92) (by decide) pd25 (c_sameY C hO_hp374 (by decide)) rfl rfl rfl at_194 (Nat.le_of_ble_eq_true rfl) (Nat.le_of_ble_eq_true rfl) (Nat.le_of_ble_eq_true rfl) (Nat.le_of_ble_eq_true rfl) (fun _ q => nomatch q) ?_
      rintro _ _ _ ⟨rfl, rfl⟩
      refine ok_as (mkF m 197 #[.val (.int i0), .val (.int i1), .val (.int i2), .val (.int i3), .val (.int i4), .val (.int (4 : Int32)), .val (.ref ob279), .val (.ref ob302), .val (.int (3 : Int32)), .val (.ref xr372), .val (.int (0 : Int32)), .val (.int (4 : Int32))] [(.int (1 : Int32))]) rfl ?_
      refine ok_ifeqN G at_197 (by decide) ?_
      refine ok_aload G at_200 rfl rfl ?_
      refine ok_aload G at_202 rfl rfl ?_
      refine ok_iload G at_204 rfl ?_
      refine ok_iconst G (2 : Int32) at_206 rfl ?_
      refine ok_iload G at_207 rfl ?_
      refine ok_static G (argsL := [(.ref xr372), (.ref ob279), (.int (4 : Int32)), (.int (2 : Int32)), (.int (0 : Int32))]) (rest := []) (C.w90) (C.w91) (C.w4) (C.w92) (by decide) pd25 (c_sameY C hO_hp374 (by decide)) rfl rfl rfl at_209 (Nat.le_of_ble_eq_true rfl) (Nat.le_of_ble_eq_true rfl) (Nat.le_of_ble_eq_true rfl) (Nat.le_of_ble_eq_true rfl) (fun _ q => nomatch q) ?_
      rintro _ _ _ ⟨rfl, rfl⟩
      refine ok_as (mkF m 212 #[.val (.int i0), .val (.int i1), .val (.int i2), .val (.int i3), .val (.int i4), .val (.int (4 : Int32)), .val (.ref ob279), .val (.ref ob302), .val (.int (3 : Int32)), .val (.ref xr372), .val (.int (0 : Int32)), .val (.int (4 : Int32))] [(.int (1 : Int32))]) rfl ?_
      refine ok_ifeqN G at_212 (by decide) ?_
      refine ok_aload G at_215 rfl rfl ?_
      refine ok_aload G at_217 rfl rfl ?_
      refine ok_iload G at_219 rfl ?_
      refine ok_iconst G (3 : Int32) at_221 rfl ?_
      refine ok_iload G at_222 rfl ?_
      refine ok_static G (argsL := [(.ref xr372), (.ref ob279), (.int (4 : Int32)), (.int (3 : Int32)), (.int (0 : Int32))]) (rest := []) (C.w90) (C.w91) (C.w4) (C.w92) (by decide) pd25 (c_sameY C hO_hp374 (by decide)) rfl rfl rfl at_224 (Nat.le_of_ble_eq_true rfl) (Nat.le_of_ble_eq_true rfl) (Nat.le_of_ble_eq_true rfl) (Nat.le_of_ble_eq_true rfl) (fun _ q => nomatch q) ?_
      rintro _ _ _ ⟨rfl, rfl⟩
      refine ok_as (mkF m 227 #[.val (.int i0), .val (.int i1), .val (.int i2), .val (.int i3), .val (.int i4), .val (.int (4 : Int32)), .val (.ref ob279), .val (.ref ob302), .val (.int (3 : Int32)), .val (.ref xr372), .val (.int (0 : Int32)), .val (.int (4 : Int32))] [(.int (1 : Int32))]) rfl ?_
      refine ok_ifeqN G at_227 (by decide) ?_
      refine ok_iconst G (1 : Int32) at_230 rfl ?_
      refine ok_goto G 235 at_231 (by decide) (by decide) ?_
      exact ok_retN G rfl (by simp) at_235 rfl rfl (Nat.le_of_ble_eq_true rfl) (Nat.le_of_ble_eq_true rfl)
theorem own_ord {args : Array Value} {s : State} {t : Term} {x : Addr} {k : Int32} {C n d : String} (ht : t.eval args s none [] s = some (.ref x)) (h : (Jvm.Cond.eq (Term.field t C n d) (Term.int k)).value args s none s [] = some true) : s.fieldOf? x C n d = some (.int k) := by
  rw [← fld_at (first := s) (o := none) (idx := []) (args := args) ht]
  have e2 : (Term.int k).eval args s none [] s = some (.int k) := rfl
  cases he : (Term.field t C n d).eval args s none [] s with
  | none => simp [Cond.value, he] at h
  | some v => cases v <;> simp [Cond.value, he, e2] at h ⊢ <;> first | exact h | (cases h)
theorem own_compact {args : Array Value} {s : State} (hsets : ∀ w ∈ jdkStatics_1, w.before args s = true) : ∃ cz : Int32, Sta s s.heap "java/lang/String" "COMPACT_STRINGS" "Z" (.int cz) ∧ ¬ cz = 0 := by
  have h0 := hsets _ (List.mem_of_getElem? (i := 0) rfl)
  obtain ⟨cz, ez⟩ := is_v (Cond.before_iff.mp (hsets _ (List.mem_of_getElem? (i := 1) rfl)))
  have h2 := not_v (Cond.before_iff.mp (hsets _ (List.mem_of_getElem? (i := 2) rfl)))
  refine ⟨cz, Sta.start ez (Or.inl h0), fun q => ?_⟩
  subst q
  have e2 : (Term.int 0).eval args s none [] s = some (.int 0) := rfl
  simp [Cond.value, ez, e2] at h2
theorem own_sio {args : Array Value} {s : State} (hsets : ∀ w ∈ jdkStatics_1, w.before args s = true) : ∃ fm : Value, Sta s s.heap "jdk/internal/util/Preconditions" "SIOOBE_FORMATTER" "Ljava/util/function/BiFunction;" fm ∧ (fm = .null ∨ ∃ fa, fm = .ref fa) := by
  obtain ⟨fm, e1, e2⟩ := isR_v (Cond.before_iff.mp (hsets _ (List.mem_of_getElem? (i := 8) rfl)))
  exact ⟨fm, Sta.start e1 (Or.inl (hsets _ (List.mem_of_getElem? (i := 7) rfl))), ref_cases e2⟩
set_option maxRecDepth 65536 in
set_option maxHeartbeats 40000000 in
theorem comes_1 {Post : Tables → Env → Array Value → State → Outcome → State → Prop} (hpost : ∀ tb e args s v u, (limb_1_1.after args s (.returned v) u = true ∧ limb_1_2.after args s (.returned v) u = true ∧ True) → Jvm.D.FramedW s (.returned v) u (Jvm.fieldLocs frame_1_writes args s ++ Jvm.arrayLocs frame_1_arrays args s ++ Jvm.staticLocs frame_1_statics s) 24 2176 → Post tb e args s (.returned v) u) :
    ArmFor flags0 classFile x code maxLocals ret World_1 tables_1 room_1 Calls_1 rest_1 Pre_1 Post := by
  intro l hfl _ _ p e ha hc hk s m args below hf hA hF happ hP
  obtain ⟨hcalls, hrest, hpre⟩ := hP
  obtain ⟨-, -, -, hnamed, -, -, -, hat⟩ := (Spec.applies_iff hf).mp happ
  obtain ⟨hg, hn⟩ := and_e (Cond.before_iff.mp (show (Jvm.Cond.and given_1 narrow_1).before args s = true from hpre))
  obtain ⟨gv1, gv2⟩ := and_e hg
  obtain ⟨gv3, gv4⟩ := and_e gv2
  obtain ⟨gv5, gv6⟩ := and_e gv4
  obtain ⟨gv7, gv8⟩ := and_e gv6
  obtain ⟨gv9, gv10⟩ := and_e gv8
  obtain ⟨w0, w1, w2, w3, w4, rfl⟩ : ∃ w0 w1 w2 w3 w4 : Value, args = #[w0, w1, w2, w3, w4] := by
    have hs : args.size = 5 := by simpa [Cond.value, given_1] using gv1
    obtain ⟨L⟩ := args
    match L, hs with
    | [w0, w1, w2, w3, w4], _ => exact ⟨w0, w1, w2, w3, w4, rfl⟩
  have hw := fun d (hd : d ∈ tables_1) => atoms_spec (ws := Jvm.Cond.code x code maxLocals ret :: tables_1) hat d (List.mem_cons_of_mem _ hd)
  obtain ⟨hsets, hown0⟩ := atoms_of _ (rest_1_c_eq ▸ (show rest_1_c.before _ s = true from hrest))
  obtain ⟨i0, ei0⟩ := is_v gv3
  obtain rfl : w0 = (.int i0) := Option.some.inj ei0
  obtain ⟨i1, ei1⟩ := is_v gv5
  obtain rfl : w1 = (.int i1) := Option.some.inj ei1
  obtain ⟨i2, ei2⟩ := is_v gv7
  obtain rfl : w2 = (.int i2) := Option.some.inj ei2
  obtain ⟨i3, ei3⟩ := is_v gv9
  obtain rfl : w3 = (.int i3) := Option.some.inj ei3
  obtain ⟨i4, ei4⟩ := is_v gv10
  obtain rfl : w4 = (.int i4) := Option.some.inj ei4
  have O := Old.start s
  have hcz := own_compact hsets
  have hsio := own_sio hsets
  have hE : EW s #[(.int i0), (.int i1), (.int i2), (.int i3), (.int i4)] consts_1 := (EW.cons (hw _ (List.mem_of_getElem? (i := 22) rfl)) (by decide) (EW.cons (hw _ (List.mem_of_getElem? (i := 139) rfl)) (by decide) EW.nil))
  have hCH : CHv s consts_1 s.vm s.heap := CHv.start hE hcalls.1 (hsets _ (List.mem_of_getElem? (i := 2) rfl)) (hw _ (List.mem_of_getElem? (i := 23) rfl)) (hw _ (List.mem_of_getElem? (i := 7) rfl))
  obtain ⟨n, o, h1, h2, h3, _, L, rfl, ⟨N, -, -, rfl⟩, hq⟩ := c_law (n0 := s.heap.size) ⟨hw, hcz, hsio⟩ O hE tables_1 p e ha hc hk s m _ below hf ((Spec.applies_iff_loose hf).mp happ).1 ⟨rfl, State.Warmed39.refl s, rfl, fun _ => hCH⟩ trivial
  refine ⟨n, _, h1, h2, h3, hpost _ _ _ _ _ _ ⟨Cond.after_iff.mpr rfl, Cond.after_iff.mpr (eq_i res_at (Term.int_eval (1)) rfl), trivial⟩ ⟨hq.2.1, hq.2.2.1, hq.2.2.2.1, (hq.2.2.2.2.sift fun y hy => Or.inr (N y hy)).mono (Nat.le_of_ble_eq_true rfl) (Nat.le_of_ble_eq_true rfl)⟩⟩
theorem main_1_1 : Claimed_1_1 := comes_1 fun _ _ _ _ _ _ h hF => ⟨h.1, hF⟩
theorem main_1_2 : Claimed_1_2 := comes_1 fun _ _ _ _ _ _ h hF => ⟨h.2.1, hF⟩
end Jvm.Pilot.@@N@@
namespace Jvm.Pilot.@@N@@
open Jvm Jvm.ClassFile Sem Op Lib Jvm.Free Jvm.Stand Jvm.Pilot.@@N@@.Jvm.D
/-! MADE BY PROGRAM (witnessworld.py) out of the Statement's table words and the real class files: 23 classes; the members and pool entries that the words name. The judged class is class 1, her method 1. -/
namespace start1
open Jvm.ClassFile
def u (s : String) : CpInfo := .utf8 (stringToUtf16 s)
/-- a pool by its gaps: so many unusable entries, then the entry; so many at the end -/
def gap : Nat → List CpInfo → List CpInfo
  | 0, r => r
  | n + 1, r => .unusable :: gap n r
def poolList (es : List (Nat × CpInfo)) (last : Nat) : List CpInfo := es.foldr (fun e r => gap e.1 (e.2 :: r)) (gap last [])
def pool (es : List (Nat × CpInfo)) (last : Nat) : Array CpInfo := ⟨poolList es last⟩
def fileOf (pool : Array CpInfo) (this : Nat) (attrs : Array Attribute := #[]) (ms : Array MethodInfo := #[]) (fl : Nat := 33) (sup : Nat := 0) (ifs : Array Nat := #[]) (fds : Array FieldInfo := #[]) : ClassFile where
  minorVersion := 0
  majorVersion := 65
  constantPool := pool
  accessFlags := fl
  thisClass := this
  superClass := sup
  interfaces := ifs
  fields := fds
  methods := ms
  attributes := attrs
def plain (name : String) (sup : Option ClassId) : Class where
  name := name
  kind := .ordinary
  loader := none
  accessFlags := 33
  super := sup
  interfaces := #[]
  cf := none
  fields := #[]
  methods := #[]
  instanceTypes := #[]
  staticTypes := #[]
  resolved := #[]
  callSites := []
  init := .initialized
  statics := none
  mirror := none

def pool0 : Array CpInfo := pool [(5, u "<init>"), (0, u "()V"), (1, .class_ 10), (1, u "java/lang/Object")] 113

def k0c0 : Code := { maxStack := 0, maxLocals := 1, code := object_method_1_code, exceptionTable := #[], attributes := #[] }
def k0m0 : Method := { name := "<init>", desc := "()V", sig := { parameters := [], returnType := none }, accessFlags := 1, code := some k0c0 }
/-- java/lang/Object -/
def k0 : Class := { plain "java/lang/Object" none with
  accessFlags := 33
  interfaces := #[]
  cf := some (fileOf pool0 8 #[] #[{ accessFlags := 1, nameIndex := 5, descriptorIndex := 6, attributes := #[] }] 33 0 #[] #[])
  fields := #[]
  methods := #[k0m0]
  instanceTypes := #[]
  staticTypes := #[]
  resolved := Array.replicate 124 none
  statics := none }

def pool1 : Array CpInfo := pool [(2, .class_ 4), (1, u "java/lang/Object"), (0, u "<init>"), (0, u "()V"), (0, .integer 2147483647), (0, .methodref 9 10), (0, .class_ 11), (0, .nameAndType 12 13), (0, u "com/example/loadstone/loadstone/LoadFileNamePinLaw"), (0, u "ch"), (0, u "(I)C"), (0, .class_ 15), (0, u "java/lang/String"), (0, .methodref 9 17), (0, .nameAndType 18 19), (0, u "take"), (0, u "([CI)[C"), (0, .methodref 14 21), (0, .nameAndType 5 22), (0, u "([C)V"), (0, .methodref 24 25), (0, .class_ 26), (0, .nameAndType 27 28), (0, u "com/example/loadstone/loadstone/Load"), (0, u "fileName"), (0, u "(Ljava/lang/String;)Ljava/lang/String;"), (0, .methodref 14 30), (0, .nameAndType 31 32), (0, u "length"), (0, u "()I"), (0, .methodref 9 34), (0, .nameAndType 35 36), (0, u "same"), (0, u "(Ljava/lang/String;[CIII)Z"), (0, .methodref 14 38), (0, .nameAndType 39 13), (0, u "charAt"), (2, u "law"), (0, u "(IIIII)Z")] 5

def k1m0 : Method := { name := "<init>", desc := "()V", sig := { parameters := [], returnType := none }, accessFlags := 1, code := none }
def k1c1 : Code := { maxStack := 5, maxLocals := 12, code := code, exceptionTable := #[], attributes := #[] }
def k1m1 : Method := { name := "law", desc := "(IIIII)Z", sig := { parameters := [.int, .int, .int, .int, .int], returnType := some .boolean }, accessFlags := 9, code := some k1c1 }
def k1c2 : Code := { maxStack := 2, maxLocals := 1, code := method_3_code, exceptionTable := #[], attributes := #[] }
def k1m2 : Method := { name := "ch", desc := "(I)C", sig := { parameters := [.int], returnType := some .char }, accessFlags := 10, code := some k1c2 }
def k1c3 : Code := { maxStack := 5, maxLocals := 2, code := method_4_code, exceptionTable := #[], attributes := #[] }
def k1m3 : Method := { name := "take", desc := "([CI)[C", sig := { parameters := [(.array .char), .int], returnType := some (.array .char) }, accessFlags := 10, code := some k1c3 }
def k1c4 : Code := { maxStack := 4, maxLocals := 5, code := method_5_code, exceptionTable := #[], attributes := #[] }
def k1m4 : Method := { name := "same", desc := "(Ljava/lang/String;[CIII)Z", sig := { parameters := [(.object "java/lang/String"), (.array .char), .int, .int, .int], returnType := some .boolean }, accessFlags := 10, code := some k1c4 }
/-- com/example/loadstone/loadstone/LoadFileNamePinLaw -/
def k1 : Class := { plain "com/example/loadstone/loadstone/LoadFileNamePinLaw" (some 0) with
  accessFlags := 49
  interfaces := #[]
  cf := some (fileOf pool1 9 #[] #[{ accessFlags := 1, nameIndex := 5, descriptorIndex := 6, attributes := #[] }, { accessFlags := 9, nameIndex := 42, descriptorIndex := 43, attributes := #[] }, { accessFlags := 10, nameIndex := 12, descriptorIndex := 13, attributes := #[] }, { accessFlags := 10, nameIndex := 18, descriptorIndex := 19, attributes := #[] }, { accessFlags := 10, nameIndex := 35, descriptorIndex := 36, attributes := #[] }] 49 2 #[] #[])
  fields := #[]
  methods := #[k1m0, k1m1, k1m2, k1m3, k1m4]
  instanceTypes := #[]
  staticTypes := #[]
  resolved := Array.replicate 49 none
  statics := none }

def pool2 : Array CpInfo := pool [(1, .class_ 2), (0, u "java/io/Serializable"), (0, .class_ 4), (0, u "java/lang/Object")] 2

/-- java/io/Serializable -/
def k2 : Class := { plain "java/io/Serializable" (some 0) with
  accessFlags := 1537
  interfaces := #[]
  cf := some (fileOf pool2 1 #[] #[] 1537 3 #[] #[])
  fields := #[]
  methods := #[]
  instanceTypes := #[]
  staticTypes := #[]
  resolved := Array.replicate 7 none
  statics := none }

def pool3 : Array CpInfo := pool [(1, .class_ 2), (0, u "java/lang/Comparable"), (0, .class_ 4), (0, u "java/lang/Object")] 7

/-- java/lang/Comparable -/
def k3 : Class := { plain "java/lang/Comparable" (some 0) with
  accessFlags := 1537
  interfaces := #[]
  cf := some (fileOf pool3 1 #[] #[] 1537 3 #[] #[])
  fields := #[]
  methods := #[]
  instanceTypes := #[]
  staticTypes := #[]
  resolved := Array.replicate 12 none
  statics := none }

def pool4 : Array CpInfo := pool [(2, .class_ 4), (1, u "java/lang/CharSequence"), (42, .class_ 48), (0, u "java/lang/CharSequence$1CodePointIterator"), (10, .class_ 60), (0, u "java/lang/CharSequence$1CharIterator"), (5, .class_ 67), (0, u "java/lang/Object")] 63

/-- java/lang/CharSequence -/
def k4 : Class := { plain "java/lang/CharSequence" (some 0) with
  accessFlags := 1537
  interfaces := #[]
  cf := some (fileOf pool4 2 #[.nestMembers #[47, 59]] #[] 1537 66 #[] #[])
  fields := #[]
  methods := #[]
  instanceTypes := #[]
  staticTypes := #[]
  resolved := Array.replicate 131 none
  statics := none }

def pool5 : Array CpInfo := pool [(1, .class_ 2), (0, u "java/lang/constant/Constable"), (0, .class_ 4), (0, u "java/lang/Object")] 6

/-- java/lang/constant/Constable -/
def k5 : Class := { plain "java/lang/constant/Constable" (some 0) with
  accessFlags := 1537
  interfaces := #[]
  cf := some (fileOf pool5 1 #[] #[] 1537 3 #[] #[])
  fields := #[]
  methods := #[]
  instanceTypes := #[]
  staticTypes := #[]
  resolved := Array.replicate 11 none
  statics := none }

def pool6 : Array CpInfo := pool [(1, .class_ 2), (0, u "java/lang/constant/ConstantDesc"), (0, .class_ 4), (0, u "java/lang/Object")] 32

/-- java/lang/constant/ConstantDesc -/
def k6 : Class := { plain "java/lang/constant/ConstantDesc" (some 0) with
  accessFlags := 1537
  interfaces := #[]
  cf := some (fileOf pool6 1 #[] #[] 1537 3 #[] #[])
  fields := #[]
  methods := #[]
  instanceTypes := #[]
  staticTypes := #[]
  resolved := Array.replicate 37 none
  statics := none }

def pool7 : Array CpInfo := pool [(1, .methodref 2 3), (0, .class_ 4), (0, .nameAndType 5 6), (0, u "java/lang/Object"), (0, u "<init>"), (0, u "()V"), (0, .string 8), (0, u ""), (0, .fieldref 10 11), (0, .class_ 12), (0, .nameAndType 13 14), (0, u "java/lang/String"), (0, u "value"), (0, u "[B"), (0, .fieldref 10 16), (0, .nameAndType 17 18), (0, u "coder"), (0, u "B"), (2, u "hash"), (0, u "I"), (2, u "hashIsZero"), (0, u "Z"), (0, .methodref 10 28), (0, .nameAndType 5 29), (0, u "([CIILjava/lang/Void;)V"), (8, .fieldref 10 39), (0, .nameAndType 40 26), (0, u "COMPACT_STRINGS"), (1, .class_ 44), (1, u "java/lang/StringUTF16"), (0, u "compress"), (1, .methodref 42 48), (0, .nameAndType 49 50), (0, u "coderFromArrayLen"), (0, u "([BI)B"), (46, u "([BII)I"), (9, .class_ 109), (1, u "java/lang/StringLatin1"), (32, u "()Z"), (34, .methodref 42 178), (0, .nameAndType 45 179), (0, u "([CII)[B"), (31, u "([BB)V"), (122, u "()I"), (0, .methodref 10 336), (0, .nameAndType 17 337), (0, u "()B"), (25, u "([BI)C"), (27, u "(II)V"), (35, u "(I)C"), (64, .methodref 10 493), (0, .nameAndType 494 142), (0, u "isLatin1"), (0, .methodref 107 496), (0, .nameAndType 497 363), (0, u "charAt"), (3, u "checkIndex"), (3, .methodref 10 506), (0, .nameAndType 507 334), (0, u "length"), (5, u "checkFromToIndex"), (7, .methodref 10 522), (0, .nameAndType 523 524), (0, u "checkBoundsBeginEnd"), (0, u "(III)V"), (50, .class_ 576), (0, u "java/lang/CharSequence"), (22, u "CASE_INSENSITIVE_ORDER"), (0, u "Ljava/util/Comparator;"), (35, u "(II)I"), (4, .methodref 10 642), (0, .nameAndType 643 636), (0, u "lastIndexOf"), (0, .methodref 107 645), (0, .nameAndType 643 97), (35, .methodref 10 682), (0, .nameAndType 683 684), (0, u "substring"), (0, u "(II)Ljava/lang/String;"), (0, .methodref 107 686), (0, .nameAndType 687 688), (0, u "newString"), (0, u "([BII)Ljava/lang/String;"), (76, u "(I)I"), (126, u "(I)Ljava/lang/String;"), (117, u "([C)V"), (42, .fieldref 1054 1055), (0, .class_ 1056), (0, .nameAndType 1057 1058), (0, u "jdk/internal/util/Preconditions"), (0, u "SIOOBE_FORMATTER"), (0, u "Ljava/util/function/BiFunction;"), (0, .methodref 1054 1060), (0, .nameAndType 501 1061), (0, u "(IILjava/util/function/BiFunction;)I"), (0, .methodref 1054 1063), (0, .nameAndType 513 1064), (0, u "(IIILjava/util/function/BiFunction;)I"), (36, u "serialPersistentFields"), (0, u "[Ljava/io/ObjectStreamField;"), (0, .class_ 1104), (0, u "java/lang/String$CaseInsensitiveComparator"), (1, .class_ 1107), (0, u "java/io/Serializable"), (0, .class_ 1109), (0, u "java/lang/Comparable"), (0, .class_ 1111), (0, u "java/lang/constant/Constable"), (0, .class_ 1113), (0, u "java/lang/constant/ConstantDesc"), (2, u "serialVersionUID"), (0, u "J"), (3, u "REPL"), (0, u "C"), (2, u "LATIN1"), (1, u "UTF16")] 323

def k7m0 : Method := { name := "<init>", desc := "()V", sig := { parameters := [], returnType := none }, accessFlags := 1, code := none }
def k7c1 : Code := { maxStack := 5, maxLocals := 2, code := jdk_42_method_3_code, exceptionTable := #[], attributes := #[] }
def k7m1 : Method := { name := "<init>", desc := "([C)V", sig := { parameters := [(.array .char)], returnType := none }, accessFlags := 1, code := some k7c1 }
def k7c2 : Code := { maxStack := 2, maxLocals := 1, code := jdk_42_method_54_code, exceptionTable := #[], attributes := #[] }
def k7m2 : Method := { name := "length", desc := "()I", sig := { parameters := [], returnType := some .int }, accessFlags := 1, code := some k7c2 }
def k7c3 : Code := { maxStack := 2, maxLocals := 2, code := jdk_42_method_56_code, exceptionTable := #[], attributes := #[] }
def k7m3 : Method := { name := "charAt", desc := "(I)C", sig := { parameters := [.int], returnType := some .char }, accessFlags := 1, code := some k7c3 }
def k7c4 : Code := { maxStack := 4, maxLocals := 2, code := jdk_42_method_82_code, exceptionTable := #[], attributes := #[] }
def k7m4 : Method := { name := "lastIndexOf", desc := "(I)I", sig := { parameters := [.int], returnType := some .int }, accessFlags := 1, code := some k7c4 }
def k7c5 : Code := { maxStack := 3, maxLocals := 3, code := jdk_42_method_83_code, exceptionTable := #[], attributes := #[] }
def k7m5 : Method := { name := "lastIndexOf", desc := "(II)I", sig := { parameters := [.int, .int], returnType := some .int }, accessFlags := 1, code := some k7c5 }
def k7c6 : Code := { maxStack := 3, maxLocals := 2, code := jdk_42_method_91_code, exceptionTable := #[], attributes := #[] }
def k7m6 : Method := { name := "substring", desc := "(I)Ljava/lang/String;", sig := { parameters := [.int], returnType := some (.object "java/lang/String") }, accessFlags := 1, code := some k7c6 }
def k7c7 : Code := { maxStack := 3, maxLocals := 5, code := jdk_42_method_92_code, exceptionTable := #[], attributes := #[] }
def k7m7 : Method := { name := "substring", desc := "(II)Ljava/lang/String;", sig := { parameters := [.int, .int], returnType := some (.object "java/lang/String") }, accessFlags := 1, code := some k7c7 }
def k7c8 : Code := { maxStack := 4, maxLocals := 6, code := jdk_42_method_149_code, exceptionTable := #[], attributes := #[] }
def k7m8 : Method := { name := "<init>", desc := "([CIILjava/lang/Void;)V", sig := { parameters := [(.array .char), .int, .int, (.object "java/lang/Void")], returnType := none }, accessFlags := 2, code := some k7c8 }
def k7c9 : Code := { maxStack := 2, maxLocals := 3, code := jdk_42_method_151_code, exceptionTable := #[], attributes := #[] }
def k7m9 : Method := { name := "<init>", desc := "([BB)V", sig := { parameters := [(.array .byte), .byte], returnType := none }, accessFlags := 0, code := some k7c9 }
def k7c10 : Code := { maxStack := 1, maxLocals := 1, code := jdk_42_method_152_code, exceptionTable := #[], attributes := #[] }
def k7m10 : Method := { name := "coder", desc := "()B", sig := { parameters := [], returnType := some .byte }, accessFlags := 0, code := some k7c10 }
def k7c11 : Code := { maxStack := 1, maxLocals := 1, code := jdk_42_method_154_code, exceptionTable := #[], attributes := #[] }
def k7m11 : Method := { name := "isLatin1", desc := "()Z", sig := { parameters := [], returnType := some .boolean }, accessFlags := 0, code := some k7c11 }
def k7c12 : Code := { maxStack := 3, maxLocals := 2, code := jdk_42_method_155_code, exceptionTable := #[], attributes := #[] }
def k7m12 : Method := { name := "checkIndex", desc := "(II)V", sig := { parameters := [.int, .int], returnType := none }, accessFlags := 8, code := some k7c12 }
def k7c13 : Code := { maxStack := 4, maxLocals := 3, code := jdk_42_method_158_code, exceptionTable := #[], attributes := #[] }
def k7m13 : Method := { name := "checkBoundsBeginEnd", desc := "(III)V", sig := { parameters := [.int, .int, .int], returnType := none }, accessFlags := 8, code := some k7c13 }
/-- java/lang/String -/
def k7 : Class := { plain "java/lang/String" (some 0) with
  accessFlags := 49
  interfaces := #[2, 3, 4, 5, 6]
  cf := some (fileOf pool7 10 #[.nestMembers #[1103]] #[{ accessFlags := 1, nameIndex := 5, descriptorIndex := 6, attributes := #[] }, { accessFlags := 1, nameIndex := 5, descriptorIndex := 1010, attributes := #[] }, { accessFlags := 1, nameIndex := 507, descriptorIndex := 334, attributes := #[] }, { accessFlags := 1, nameIndex := 497, descriptorIndex := 427, attributes := #[] }, { accessFlags := 1, nameIndex := 643, descriptorIndex := 765, attributes := #[] }, { accessFlags := 1, nameIndex := 643, descriptorIndex := 636, attributes := #[] }, { accessFlags := 1, nameIndex := 683, descriptorIndex := 892, attributes := #[] }, { accessFlags := 1, nameIndex := 683, descriptorIndex := 684, attributes := #[] }, { accessFlags := 2, nameIndex := 5, descriptorIndex := 29, attributes := #[] }, { accessFlags := 0, nameIndex := 5, descriptorIndex := 211, attributes := #[] }, { accessFlags := 0, nameIndex := 17, descriptorIndex := 337, attributes := #[] }, { accessFlags := 0, nameIndex := 494, descriptorIndex := 142, attributes := #[] }, { accessFlags := 8, nameIndex := 501, descriptorIndex := 391, attributes := #[] }, { accessFlags := 8, nameIndex := 523, descriptorIndex := 524, attributes := #[] }] 49 2 #[1106, 1108, 575, 1110, 1112] #[{ accessFlags := 18, nameIndex := 13, descriptorIndex := 14, attributes := #[] }, { accessFlags := 18, nameIndex := 17, descriptorIndex := 18, attributes := #[] }, { accessFlags := 2, nameIndex := 21, descriptorIndex := 22, attributes := #[] }, { accessFlags := 2, nameIndex := 25, descriptorIndex := 26, attributes := #[] }, { accessFlags := 26, nameIndex := 1116, descriptorIndex := 1117, attributes := #[] }, { accessFlags := 24, nameIndex := 40, descriptorIndex := 26, attributes := #[] }, { accessFlags := 26, nameIndex := 1101, descriptorIndex := 1102, attributes := #[] }, { accessFlags := 26, nameIndex := 1121, descriptorIndex := 1122, attributes := #[] }, { accessFlags := 25, nameIndex := 599, descriptorIndex := 600, attributes := #[] }, { accessFlags := 24, nameIndex := 1125, descriptorIndex := 18, attributes := #[] }, { accessFlags := 24, nameIndex := 1127, descriptorIndex := 18, attributes := #[] }])
  fields := #[{ name := "value", type := (.array .byte), accessFlags := 18, slot := 0, constantValue := 0 }, { name := "coder", type := .byte, accessFlags := 18, slot := 1, constantValue := 0 }, { name := "hash", type := .int, accessFlags := 2, slot := 2, constantValue := 0 }, { name := "hashIsZero", type := .boolean, accessFlags := 2, slot := 3, constantValue := 0 }, { name := "serialVersionUID", type := .long, accessFlags := 26, slot := 0, constantValue := 0 }, { name := "COMPACT_STRINGS", type := .boolean, accessFlags := 24, slot := 1, constantValue := 0 }, { name := "serialPersistentFields", type := (.array (.object "java/io/ObjectStreamField")), accessFlags := 26, slot := 2, constantValue := 0 }, { name := "REPL", type := .char, accessFlags := 26, slot := 3, constantValue := 0 }, { name := "CASE_INSENSITIVE_ORDER", type := (.object "java/util/Comparator"), accessFlags := 25, slot := 4, constantValue := 0 }, { name := "LATIN1", type := .byte, accessFlags := 24, slot := 5, constantValue := 0 }, { name := "UTF16", type := .byte, accessFlags := 24, slot := 6, constantValue := 0 }]
  methods := #[k7m0, k7m1, k7m2, k7m3, k7m4, k7m5, k7m6, k7m7, k7m8, k7m9, k7m10, k7m11, k7m12, k7m13]
  instanceTypes := #[(.array .byte), .byte, .int, .boolean]
  staticTypes := #[.long, .boolean, (.array (.object "java/io/ObjectStreamField")), .char, (.object "java/util/Comparator"), .byte, .byte]
  resolved := Array.replicate 1451 none
  statics := some 0 }

def pool8 : Array CpInfo := pool [(2, .class_ 4), (1, u "java/lang/Object"), (6, .class_ 13), (1, u "com/example/loadstone/loadstone/Load"), (0, u "loaded"), (0, u "Ljava/util/Set;"), (5, u "loading"), (0, u "Ljava/util/List;"), (2, u "source"), (0, u "Lcom/example/loadstone/loadstone/Source;"), (2, u "platform"), (0, u "Ljava/lang/String;"), (2, u "options"), (0, u "Lcom/example/loadstone/loadstone/Loadstone$Options;"), (4, u "version"), (3, u "force"), (0, u "Z"), (4, u "Lcom/example/loadstone/loadstone/Cache;"), (34, u "cache"), (3, u "Ljava/nio/file/Path;"), (8, u "directory"), (2, u "mountRead"), (8, u "mount"), (87, u "extracting"), (0, u "Lcom/example/loadstone/loadstone/Load$Extracting;"), (0, .class_ 200), (0, u "com/example/loadstone/loadstone/Load$Extracting"), (16, .class_ 218), (0, u "java/lang/String"), (9, u "fileName"), (0, u "(Ljava/lang/String;)Ljava/lang/String;"), (68, u "substring"), (1, .methodref 217 301), (0, .nameAndType 302 303), (0, u "lastIndexOf"), (0, u "(I)I"), (0, .methodref 217 305), (0, .nameAndType 298 306), (0, u "(I)Ljava/lang/String;"), (0, u "SONAME"), (1, u "NEEDS")] 34

def k8c0 : Code := { maxStack := 3, maxLocals := 1, code := prog_19_method_12_code, exceptionTable := #[], attributes := #[] }
def k8m0 : Method := { name := "fileName", desc := "(Ljava/lang/String;)Ljava/lang/String;", sig := { parameters := [(.object "java/lang/String")], returnType := some (.object "java/lang/String") }, accessFlags := 8, code := some k8c0 }
/-- com/example/loadstone/loadstone/Load -/
def k8 : Class := { plain "com/example/loadstone/loadstone/Load" (some 0) with
  accessFlags := 48
  interfaces := #[]
  cf := some (fileOf pool8 11 #[.nestMembers #[199]] #[{ accessFlags := 8, nameIndex := 228, descriptorIndex := 229, attributes := #[] }] 48 2 #[] #[{ accessFlags := 26, nameIndex := 307, descriptorIndex := 30, attributes := #[] }, { accessFlags := 26, nameIndex := 309, descriptorIndex := 30, attributes := #[] }, { accessFlags := 16, nameIndex := 25, descriptorIndex := 26, attributes := #[] }, { accessFlags := 16, nameIndex := 29, descriptorIndex := 30, attributes := #[] }, { accessFlags := 18, nameIndex := 33, descriptorIndex := 34, attributes := #[] }, { accessFlags := 16, nameIndex := 39, descriptorIndex := 30, attributes := #[] }, { accessFlags := 16, nameIndex := 43, descriptorIndex := 44, attributes := #[] }, { accessFlags := 18, nameIndex := 14, descriptorIndex := 15, attributes := #[] }, { accessFlags := 16, nameIndex := 21, descriptorIndex := 22, attributes := #[] }, { accessFlags := 0, nameIndex := 84, descriptorIndex := 49, attributes := #[] }, { accessFlags := 0, nameIndex := 97, descriptorIndex := 88, attributes := #[] }, { accessFlags := 2, nameIndex := 100, descriptorIndex := 44, attributes := #[] }, { accessFlags := 0, nameIndex := 109, descriptorIndex := 88, attributes := #[] }, { accessFlags := 2, nameIndex := 197, descriptorIndex := 198, attributes := #[] }])
  fields := #[{ name := "SONAME", type := (.object "java/lang/String"), accessFlags := 26, slot := 0, constantValue := 0 }, { name := "NEEDS", type := (.object "java/lang/String"), accessFlags := 26, slot := 1, constantValue := 0 }, { name := "source", type := (.object "com/example/loadstone/loadstone/Source"), accessFlags := 16, slot := 0, constantValue := 0 }, { name := "platform", type := (.object "java/lang/String"), accessFlags := 16, slot := 1, constantValue := 0 }, { name := "options", type := (.object "com/example/loadstone/loadstone/Loadstone$Options"), accessFlags := 18, slot := 2, constantValue := 0 }, { name := "version", type := (.object "java/lang/String"), accessFlags := 16, slot := 3, constantValue := 0 }, { name := "force", type := .boolean, accessFlags := 16, slot := 4, constantValue := 0 }, { name := "loaded", type := (.object "java/util/Set"), accessFlags := 18, slot := 5, constantValue := 0 }, { name := "loading", type := (.object "java/util/List"), accessFlags := 16, slot := 6, constantValue := 0 }, { name := "cache", type := (.object "com/example/loadstone/loadstone/Cache"), accessFlags := 0, slot := 7, constantValue := 0 }, { name := "directory", type := (.object "java/nio/file/Path"), accessFlags := 0, slot := 8, constantValue := 0 }, { name := "mountRead", type := .boolean, accessFlags := 2, slot := 9, constantValue := 0 }, { name := "mount", type := (.object "java/nio/file/Path"), accessFlags := 0, slot := 10, constantValue := 0 }, { name := "extracting", type := (.object "com/example/loadstone/loadstone/Load$Extracting"), accessFlags := 2, slot := 11, constantValue := 0 }]
  methods := #[k8m0]
  instanceTypes := #[(.object "com/example/loadstone/loadstone/Source"), (.object "java/lang/String"), (.object "com/example/loadstone/loadstone/Loadstone$Options"), (.object "java/lang/String"), .boolean, (.object "java/util/Set"), (.object "java/util/List"), (.object "com/example/loadstone/loadstone/Cache"), (.object "java/nio/file/Path"), .boolean, (.object "java/nio/file/Path"), (.object "com/example/loadstone/loadstone/Load$Extracting")]
  staticTypes := #[(.object "java/lang/String"), (.object "java/lang/String")]
  resolved := Array.replicate 344 none
  statics := none }

def pool9 : Array CpInfo := pool [(1, .class_ 2), (0, u "java/lang/String"), (1, .class_ 6), (1, u "java/lang/Object"), (0, u "<init>"), (0, u "()V"), (0, .methodref 1 10), (0, .nameAndType 11 12), (0, u "checkIndex"), (0, u "(II)V"), (1, .class_ 16), (1, u "java/lang/StringLatin1"), (21, .methodref 39 40), (0, .class_ 41), (0, .nameAndType 42 43), (0, u "java/lang/Math"), (0, u "min"), (0, u "(II)I"), (9, u "([BI)C"), (34, .methodref 14 89), (0, .nameAndType 90 91), (0, u "canEncode"), (0, u "(I)Z"), (20, .methodref 1 113), (0, .nameAndType 7 114), (0, u "([BB)V"), (6, u "$assertionsDisabled"), (0, u "Z"), (8, .class_ 133), (1, u "java/util/Arrays"), (17, .string 152), (0, u ""), (43, u "newString"), (0, u "([BII)Ljava/lang/String;"), (23, .class_ 223), (1, u "java/lang/StringLatin1$LinesSpliterator"), (8, .methodref 131 233), (0, .nameAndType 234 235), (0, u "copyOfRange"), (0, u "([BII)[B"), (16, u "charAt"), (8, u "([BII)I"), (47, u "lastIndexOf"), (80, .class_ 391), (0, u "java/lang/StringLatin1$CharsSpliterator")] 3

def k9m0 : Method := { name := "<init>", desc := "()V", sig := { parameters := [], returnType := none }, accessFlags := 0, code := none }
def k9c1 : Code := { maxStack := 2, maxLocals := 2, code := jdk_43_method_2_code, exceptionTable := #[], attributes := #[] }
def k9m1 : Method := { name := "charAt", desc := "([BI)C", sig := { parameters := [(.array .byte), .int], returnType := some .char }, accessFlags := 9, code := some k9c1 }
def k9c2 : Code := { maxStack := 2, maxLocals := 1, code := jdk_43_method_4_code, exceptionTable := #[], attributes := #[] }
def k9m2 : Method := { name := "canEncode", desc := "(I)Z", sig := { parameters := [.int], returnType := some .boolean }, accessFlags := 9, code := some k9c2 }
def k9c3 : Code := { maxStack := 3, maxLocals := 4, code := jdk_43_method_27_code, exceptionTable := #[], attributes := #[] }
def k9m3 : Method := { name := "lastIndexOf", desc := "([BII)I", sig := { parameters := [(.array .byte), .int, .int], returnType := some .int }, accessFlags := 9, code := some k9c3 }
def k9c4 : Code := { maxStack := 6, maxLocals := 3, code := jdk_43_method_47_code, exceptionTable := #[], attributes := #[] }
def k9m4 : Method := { name := "newString", desc := "([BII)Ljava/lang/String;", sig := { parameters := [(.array .byte), .int, .int], returnType := some (.object "java/lang/String") }, accessFlags := 9, code := some k9c4 }
/-- java/lang/StringLatin1 -/
def k9 : Class := { plain "java/lang/StringLatin1" (some 0) with
  accessFlags := 48
  interfaces := #[]
  cf := some (fileOf pool9 14 #[.nestMembers #[390, 221]] #[{ accessFlags := 0, nameIndex := 7, descriptorIndex := 8, attributes := #[] }, { accessFlags := 9, nameIndex := 252, descriptorIndex := 53, attributes := #[] }, { accessFlags := 9, nameIndex := 90, descriptorIndex := 91, attributes := #[] }, { accessFlags := 9, nameIndex := 309, descriptorIndex := 261, attributes := #[] }, { accessFlags := 9, nameIndex := 196, descriptorIndex := 197, attributes := #[] }] 48 4 #[] #[{ accessFlags := 4120, nameIndex := 121, descriptorIndex := 122, attributes := #[] }])
  fields := #[{ name := "$assertionsDisabled", type := .boolean, accessFlags := 4120, slot := 0, constantValue := 0 }]
  methods := #[k9m0, k9m1, k9m2, k9m3, k9m4]
  instanceTypes := #[]
  staticTypes := #[.boolean]
  resolved := Array.replicate 395 none
  statics := none }

def pool10 : Array CpInfo := pool [(1, .class_ 2), (0, u "java/lang/Math"), (1, .class_ 6), (1, u "java/lang/Object"), (0, u "<init>"), (0, u "()V"), (89, .class_ 100), (1, u "java/lang/Math$RandomNumberGeneratorHolder"), (71, u "negativeZeroFloatBits"), (0, u "J"), (2, u "negativeZeroDoubleBits"), (24, u "min"), (43, u "$assertionsDisabled"), (0, u "Z"), (88, u "(II)I"), (2, u "twoToTheDoubleScaleDown"), (0, u "D"), (4, u "twoToTheDoubleScaleUp"), (9, u "E"), (3, u "PI"), (2, u "TAU"), (2, u "DEGREES_TO_RADIANS"), (0, u "RADIANS_TO_DEGREES")] 94

def k10m0 : Method := { name := "<init>", desc := "()V", sig := { parameters := [], returnType := none }, accessFlags := 2, code := none }
def k10c1 : Code := { maxStack := 2, maxLocals := 2, code := jdk_29_method_69_code, exceptionTable := #[], attributes := #[] }
def k10m1 : Method := { name := "min", desc := "(II)I", sig := { parameters := [.int, .int], returnType := some .int }, accessFlags := 9, code := some k10c1 }
/-- java/lang/Math -/
def k10 : Class := { plain "java/lang/Math" (some 0) with
  accessFlags := 49
  interfaces := #[]
  cf := some (fileOf pool10 1 #[.nestMembers #[98]] #[{ accessFlags := 2, nameIndex := 7, descriptorIndex := 8, attributes := #[] }, { accessFlags := 9, nameIndex := 201, descriptorIndex := 335, attributes := #[] }] 49 4 #[] #[{ accessFlags := 25, nameIndex := 354, descriptorIndex := 339, attributes := #[] }, { accessFlags := 25, nameIndex := 358, descriptorIndex := 339, attributes := #[] }, { accessFlags := 25, nameIndex := 361, descriptorIndex := 339, attributes := #[] }, { accessFlags := 26, nameIndex := 364, descriptorIndex := 339, attributes := #[] }, { accessFlags := 26, nameIndex := 365, descriptorIndex := 339, attributes := #[] }, { accessFlags := 26, nameIndex := 172, descriptorIndex := 173, attributes := #[] }, { accessFlags := 26, nameIndex := 176, descriptorIndex := 173, attributes := #[] }, { accessFlags := 8, nameIndex := 344, descriptorIndex := 339, attributes := #[] }, { accessFlags := 8, nameIndex := 338, descriptorIndex := 339, attributes := #[] }, { accessFlags := 4120, nameIndex := 245, descriptorIndex := 246, attributes := #[] }])
  fields := #[{ name := "E", type := .double, accessFlags := 25, slot := 0, constantValue := 0 }, { name := "PI", type := .double, accessFlags := 25, slot := 1, constantValue := 0 }, { name := "TAU", type := .double, accessFlags := 25, slot := 2, constantValue := 0 }, { name := "DEGREES_TO_RADIANS", type := .double, accessFlags := 26, slot := 3, constantValue := 0 }, { name := "RADIANS_TO_DEGREES", type := .double, accessFlags := 26, slot := 4, constantValue := 0 }, { name := "negativeZeroFloatBits", type := .long, accessFlags := 26, slot := 5, constantValue := 0 }, { name := "negativeZeroDoubleBits", type := .long, accessFlags := 26, slot := 6, constantValue := 0 }, { name := "twoToTheDoubleScaleUp", type := .double, accessFlags := 8, slot := 7, constantValue := 0 }, { name := "twoToTheDoubleScaleDown", type := .double, accessFlags := 8, slot := 8, constantValue := 0 }, { name := "$assertionsDisabled", type := .boolean, accessFlags := 4120, slot := 9, constantValue := 0 }]
  methods := #[k10m0, k10m1]
  instanceTypes := #[]
  staticTypes := #[.double, .double, .double, .double, .double, .long, .long, .double, .double, .boolean]
  resolved := Array.replicate 460 none
  statics := none }

def pool11 : Array CpInfo := pool [(2, .class_ 4), (1, u "java/lang/Object"), (0, u "<init>"), (0, u "()V"), (17, .class_ 26), (1, u "jdk/internal/util/Preconditions"), (6, u "checkIndex"), (13, u "checkFromToIndex"), (7, .class_ 56), (0, u "jdk/internal/util/Preconditions$4"), (57, .class_ 115), (0, u "jdk/internal/util/Preconditions$1"), (7, u "SIOOBE_FORMATTER"), (0, u "Ljava/util/function/BiFunction;"), (0, .class_ 126), (0, u "jdk/internal/util/Preconditions$2"), (3, u "AIOOBE_FORMATTER"), (0, .class_ 132), (0, u "jdk/internal/util/Preconditions$3"), (3, u "IOOBE_FORMATTER"), (41, u "(IILjava/util/function/BiFunction;)I"), (4, u "(IIILjava/util/function/BiFunction;)I")] 10

def k11m0 : Method := { name := "<init>", desc := "()V", sig := { parameters := [], returnType := none }, accessFlags := 1, code := none }
def k11c1 : Code := { maxStack := 3, maxLocals := 3, code := jdk_41_method_11_code, exceptionTable := #[], attributes := #[] }
def k11m1 : Method := { name := "checkIndex", desc := "(IILjava/util/function/BiFunction;)I", sig := { parameters := [.int, .int, (.object "java/util/function/BiFunction")], returnType := some .int }, accessFlags := 9, code := some k11c1 }
def k11c2 : Code := { maxStack := 4, maxLocals := 4, code := jdk_41_method_12_code, exceptionTable := #[], attributes := #[] }
def k11m2 : Method := { name := "checkFromToIndex", desc := "(IIILjava/util/function/BiFunction;)I", sig := { parameters := [.int, .int, .int, (.object "java/util/function/BiFunction")], returnType := some .int }, accessFlags := 9, code := some k11c2 }
/-- jdk/internal/util/Preconditions -/
def k11 : Class := { plain "jdk/internal/util/Preconditions" (some 0) with
  accessFlags := 33
  interfaces := #[]
  cf := some (fileOf pool11 24 #[.nestMembers #[55, 131, 125, 114]] #[{ accessFlags := 1, nameIndex := 5, descriptorIndex := 6, attributes := #[] }, { accessFlags := 9, nameIndex := 33, descriptorIndex := 178, attributes := #[] }, { accessFlags := 9, nameIndex := 47, descriptorIndex := 183, attributes := #[] }] 33 2 #[] #[{ accessFlags := 25, nameIndex := 123, descriptorIndex := 124, attributes := #[] }, { accessFlags := 25, nameIndex := 130, descriptorIndex := 124, attributes := #[] }, { accessFlags := 25, nameIndex := 136, descriptorIndex := 124, attributes := #[] }])
  fields := #[{ name := "SIOOBE_FORMATTER", type := (.object "java/util/function/BiFunction"), accessFlags := 25, slot := 0, constantValue := 0 }, { name := "AIOOBE_FORMATTER", type := (.object "java/util/function/BiFunction"), accessFlags := 25, slot := 1, constantValue := 0 }, { name := "IOOBE_FORMATTER", type := (.object "java/util/function/BiFunction"), accessFlags := 25, slot := 2, constantValue := 0 }]
  methods := #[k11m0, k11m1, k11m2]
  instanceTypes := #[]
  staticTypes := #[(.object "java/util/function/BiFunction"), (.object "java/util/function/BiFunction"), (.object "java/util/function/BiFunction")]
  resolved := Array.replicate 194 none
  statics := some 1 }

def pool12 : Array CpInfo := pool [(6, .class_ 8), (1, u "java/lang/Object"), (0, u "<init>"), (0, u "()V"), (1, .class_ 14), (1, u "java/lang/StringUTF16"), (31, u "$assertionsDisabled"), (0, u "Z"), (13, u "HI_BYTE_SHIFT"), (0, u "I"), (2, u "LO_BYTE_SHIFT"), (49, .methodref 12 116), (0, .nameAndType 117 118), (0, u "compress"), (0, u "([CI[BII)I"), (3, u "([CII)[B"), (138, u "coderFromArrayLen"), (0, u "([BI)B"), (106, .class_ 371), (1, u "java/lang/StringUTF16$LinesSpliterator"), (58, u "MAX_LENGTH"), (196, .class_ 628), (0, u "java/lang/StringUTF16$CodePointsSpliterator"), (0, .class_ 630), (0, u "java/lang/StringUTF16$CharsSpliterator")] 4

def k12m0 : Method := { name := "<init>", desc := "()V", sig := { parameters := [], returnType := none }, accessFlags := 0, code := none }
def k12c1 : Code := { maxStack := 2, maxLocals := 2, code := jdk_52_method_15_code, exceptionTable := #[], attributes := #[] }
def k12m1 : Method := { name := "coderFromArrayLen", desc := "([BI)B", sig := { parameters := [(.array .byte), .int], returnType := some .byte }, accessFlags := 8, code := some k12c1 }
def k12c2 : Code := { maxStack := 5, maxLocals := 6, code := jdk_52_method_16_code, exceptionTable := #[], attributes := #[] }
def k12m2 : Method := { name := "compress", desc := "([CII)[B", sig := { parameters := [(.array .char), .int, .int], returnType := some (.array .byte) }, accessFlags := 9, code := some k12c2 }
def k12c3 : Code := { maxStack := 3, maxLocals := 7, code := jdk_52_method_21_code, exceptionTable := #[], attributes := #[] }
def k12m3 : Method := { name := "compress", desc := "([CI[BII)I", sig := { parameters := [(.array .char), .int, (.array .byte), .int, .int], returnType := some .int }, accessFlags := 9, code := some k12c3 }
/-- java/lang/StringUTF16 -/
def k12 : Class := { plain "java/lang/StringUTF16" (some 0) with
  accessFlags := 48
  interfaces := #[]
  cf := some (fileOf pool12 12 #[.nestMembers #[627, 629, 369]] #[{ accessFlags := 0, nameIndex := 9, descriptorIndex := 10, attributes := #[] }, { accessFlags := 8, nameIndex := 261, descriptorIndex := 262, attributes := #[] }, { accessFlags := 9, nameIndex := 117, descriptorIndex := 122, attributes := #[] }, { accessFlags := 9, nameIndex := 117, descriptorIndex := 118, attributes := #[] }] 48 6 #[] #[{ accessFlags := 26, nameIndex := 61, descriptorIndex := 62, attributes := #[] }, { accessFlags := 26, nameIndex := 65, descriptorIndex := 62, attributes := #[] }, { accessFlags := 24, nameIndex := 430, descriptorIndex := 62, attributes := #[] }, { accessFlags := 4120, nameIndex := 46, descriptorIndex := 47, attributes := #[] }])
  fields := #[{ name := "HI_BYTE_SHIFT", type := .int, accessFlags := 26, slot := 0, constantValue := 0 }, { name := "LO_BYTE_SHIFT", type := .int, accessFlags := 26, slot := 1, constantValue := 0 }, { name := "MAX_LENGTH", type := .int, accessFlags := 24, slot := 2, constantValue := 0 }, { name := "$assertionsDisabled", type := .boolean, accessFlags := 4120, slot := 3, constantValue := 0 }]
  methods := #[k12m0, k12m1, k12m2, k12m3]
  instanceTypes := #[]
  staticTypes := #[.int, .int, .int, .boolean]
  resolved := Array.replicate 635 none
  statics := none }

def pool13 : Array CpInfo := pool [(2, .class_ 4), (1, u "java/lang/Object"), (0, u "<init>"), (0, u "()V"), (7, .class_ 16), (1, u "java/util/Arrays"), (57, .class_ 76), (1, u "java/util/Arrays$NaturalOrder"), (36, .class_ 115), (1, u "java/util/Arrays$LegacyMergeSort"), (1, u "Z"), (21, u "copyOfRange"), (10, .methodref 151 152), (0, .class_ 153), (0, .nameAndType 154 155), (0, u "java/lang/System"), (0, u "arraycopy"), (0, u "(Ljava/lang/Object;ILjava/lang/Object;II)V"), (148, .methodref 305 306), (0, .class_ 307), (0, .nameAndType 308 309), (0, u "java/lang/Math"), (0, u "min"), (0, u "(II)I"), (29, .methodref 14 340), (0, .nameAndType 341 342), (0, u "copyOfRangeByte"), (0, u "([BII)[B"), (0, .methodref 14 344), (0, .nameAndType 345 346), (0, u "checkLength"), (0, u "(II)V"), (28, .class_ 376), (0, u "java/util/Arrays$ArrayList"), (68, u "$assertionsDisabled"), (269, u "MIN_ARRAY_SORT_GRAN"), (0, u "I"), (2, u "INSERTIONSORT_THRESHOLD"), (255, .class_ 976), (0, u "java/util/Arrays$ArrayItr")] 52

def k13m0 : Method := { name := "<init>", desc := "()V", sig := { parameters := [], returnType := none }, accessFlags := 2, code := none }
def k13c1 : Code := { maxStack := 4, maxLocals := 2, code := jdk_65_method_131_code, exceptionTable := #[], attributes := #[] }
def k13m1 : Method := { name := "checkLength", desc := "(II)V", sig := { parameters := [.int, .int], returnType := none }, accessFlags := 10, code := some k13c1 }
def k13c2 : Code := { maxStack := 3, maxLocals := 3, code := jdk_65_method_132_code, exceptionTable := #[], attributes := #[] }
def k13m2 : Method := { name := "copyOfRange", desc := "([BII)[B", sig := { parameters := [(.array .byte), .int, .int], returnType := some (.array .byte) }, accessFlags := 9, code := some k13c2 }
def k13c3 : Code := { maxStack := 6, maxLocals := 5, code := jdk_65_method_133_code, exceptionTable := #[], attributes := #[] }
def k13m3 : Method := { name := "copyOfRangeByte", desc := "([BII)[B", sig := { parameters := [(.array .byte), .int, .int], returnType := some (.array .byte) }, accessFlags := 10, code := some k13c3 }
/-- java/util/Arrays -/
def k13 : Class := { plain "java/util/Arrays" (some 0) with
  accessFlags := 49
  interfaces := #[]
  cf := some (fileOf pool13 14 #[.nestMembers #[975, 375, 113, 74]] #[{ accessFlags := 2, nameIndex := 5, descriptorIndex := 6, attributes := #[] }, { accessFlags := 10, nameIndex := 345, descriptorIndex := 346, attributes := #[] }, { accessFlags := 9, nameIndex := 139, descriptorIndex := 342, attributes := #[] }, { accessFlags := 10, nameIndex := 341, descriptorIndex := 342, attributes := #[] }] 49 2 #[] #[{ accessFlags := 26, nameIndex := 715, descriptorIndex := 716, attributes := #[] }, { accessFlags := 26, nameIndex := 719, descriptorIndex := 716, attributes := #[] }, { accessFlags := 4120, nameIndex := 445, descriptorIndex := 117, attributes := #[] }])
  fields := #[{ name := "MIN_ARRAY_SORT_GRAN", type := .int, accessFlags := 26, slot := 0, constantValue := 0 }, { name := "INSERTIONSORT_THRESHOLD", type := .int, accessFlags := 26, slot := 1, constantValue := 0 }, { name := "$assertionsDisabled", type := .boolean, accessFlags := 4120, slot := 2, constantValue := 0 }]
  methods := #[k13m0, k13m1, k13m2, k13m3]
  instanceTypes := #[]
  staticTypes := #[.int, .int, .boolean]
  resolved := Array.replicate 1029 none
  statics := none }

def pool14 : Array CpInfo := pool [(2, .class_ 4), (1, u "java/lang/Object"), (0, u "<init>"), (0, u "()V"), (1, .class_ 10), (1, u "java/lang/System"), (0, u "allowSecurityManager"), (0, u "I"), (16, u "cons"), (0, u "Ljava/io/Console;"), (77, .class_ 110), (1, u "java/lang/System$CallersHolder"), (43, u "initialErrStream"), (0, u "Ljava/io/PrintStream;"), (19, u "security"), (0, u "Ljava/lang/SecurityManager;"), (31, .class_ 209), (0, u "java/lang/System$1"), (7, u "props"), (0, u "Ljava/util/Properties;"), (2, u "lineSeparator"), (0, u "Ljava/lang/String;"), (96, .class_ 321), (1, u "java/lang/System$LoggerFinder"), (5, .class_ 328), (0, u "java/lang/System$Logger"), (67, u "err"), (2, u "out"), (91, u "notSupportedJnuEncoding"), (15, u "in"), (17, u "initialIn"), (0, u "Ljava/io/InputStream;"), (35, u "bootLayer"), (0, u "Ljava/lang/ModuleLayer;"), (99, .class_ 664), (0, u "java/lang/System$2"), (9, u "NEVER"), (2, u "MAYBE"), (49, u "arraycopy"), (0, u "(Ljava/lang/Object;ILjava/lang/Object;II)V"), (72, .class_ 802), (0, u "java/lang/System$Logger$Level")] 31

def k14m0 : Method := { name := "<init>", desc := "()V", sig := { parameters := [], returnType := none }, accessFlags := 2, code := none }
def k14m1 : Method := { name := "arraycopy", desc := "(Ljava/lang/Object;ILjava/lang/Object;II)V", sig := { parameters := [(.object "java/lang/Object"), .int, (.object "java/lang/Object"), .int, .int], returnType := none }, accessFlags := 265, code := none }
/-- java/lang/System -/
def k14 : Class := { plain "java/lang/System" (some 0) with
  accessFlags := 49
  interfaces := #[]
  cf := some (fileOf pool14 8 #[.nestMembers #[319, 327, 801, 108, 663, 208]] #[{ accessFlags := 2, nameIndex := 5, descriptorIndex := 6, attributes := #[] }, { accessFlags := 265, nameIndex := 727, descriptorIndex := 728, attributes := #[] }] 49 2 #[] #[{ accessFlags := 25, nameIndex := 507, descriptorIndex := 526, attributes := #[] }, { accessFlags := 25, nameIndex := 399, descriptorIndex := 155, attributes := #[] }, { accessFlags := 25, nameIndex := 396, descriptorIndex := 155, attributes := #[] }, { accessFlags := 10, nameIndex := 525, descriptorIndex := 526, attributes := #[] }, { accessFlags := 26, nameIndex := 674, descriptorIndex := 12, attributes := #[] }, { accessFlags := 26, nameIndex := 677, descriptorIndex := 12, attributes := #[] }, { accessFlags := 10, nameIndex := 11, descriptorIndex := 12, attributes := #[] }, { accessFlags := 74, nameIndex := 175, descriptorIndex := 176, attributes := #[] }, { accessFlags := 10, nameIndex := 491, descriptorIndex := 222, attributes := #[] }, { accessFlags := 74, nameIndex := 29, descriptorIndex := 30, attributes := #[] }, { accessFlags := 74, nameIndex := 154, descriptorIndex := 155, attributes := #[] }, { accessFlags := 10, nameIndex := 217, descriptorIndex := 218, attributes := #[] }, { accessFlags := 10, nameIndex := 221, descriptorIndex := 222, attributes := #[] }, { accessFlags := 8, nameIndex := 562, descriptorIndex := 563, attributes := #[] }])
  fields := #[{ name := "in", type := (.object "java/io/InputStream"), accessFlags := 25, slot := 0, constantValue := 0 }, { name := "out", type := (.object "java/io/PrintStream"), accessFlags := 25, slot := 1, constantValue := 0 }, { name := "err", type := (.object "java/io/PrintStream"), accessFlags := 25, slot := 2, constantValue := 0 }, { name := "initialIn", type := (.object "java/io/InputStream"), accessFlags := 10, slot := 3, constantValue := 0 }, { name := "NEVER", type := .int, accessFlags := 26, slot := 4, constantValue := 0 }, { name := "MAYBE", type := .int, accessFlags := 26, slot := 5, constantValue := 0 }, { name := "allowSecurityManager", type := .int, accessFlags := 10, slot := 6, constantValue := 0 }, { name := "security", type := (.object "java/lang/SecurityManager"), accessFlags := 74, slot := 7, constantValue := 0 }, { name := "notSupportedJnuEncoding", type := (.object "java/lang/String"), accessFlags := 10, slot := 8, constantValue := 0 }, { name := "cons", type := (.object "java/io/Console"), accessFlags := 74, slot := 9, constantValue := 0 }, { name := "initialErrStream", type := (.object "java/io/PrintStream"), accessFlags := 74, slot := 10, constantValue := 0 }, { name := "props", type := (.object "java/util/Properties"), accessFlags := 10, slot := 11, constantValue := 0 }, { name := "lineSeparator", type := (.object "java/lang/String"), accessFlags := 10, slot := 12, constantValue := 0 }, { name := "bootLayer", type := (.object "java/lang/ModuleLayer"), accessFlags := 8, slot := 13, constantValue := 0 }]
  methods := #[k14m0, k14m1]
  instanceTypes := #[]
  staticTypes := #[(.object "java/io/InputStream"), (.object "java/io/PrintStream"), (.object "java/io/PrintStream"), (.object "java/io/InputStream"), .int, .int, .int, (.object "java/lang/SecurityManager"), (.object "java/lang/String"), (.object "java/io/Console"), (.object "java/io/PrintStream"), (.object "java/util/Properties"), (.object "java/lang/String"), (.object "java/lang/ModuleLayer")]
  resolved := Array.replicate 834 none
  statics := none }

def pool15 : Array CpInfo := pool [(9, u "<init>"), (6, .class_ 18), (1, u "java/lang/Object"), (0, u "()V"), (1, .class_ 23), (1, u "jdk/internal/util/ArraysSupport"), (0, u "LOG2_ARRAY_LONG_INDEX_SCALE"), (0, u "I"), (2, u "U"), (0, u "Ljdk/internal/misc/Unsafe;"), (8, u "BIG_ENDIAN"), (0, u "Z"), (8, u "LOG2_BYTE_BIT_SIZE"), (4, u "LOG2_ARRAY_INT_INDEX_SCALE"), (54, u "JLA"), (0, u "Ljdk/internal/access/JavaLangAccess;"), (11, u "LOG2_ARRAY_BOOLEAN_INDEX_SCALE"), (9, u "LOG2_ARRAY_BYTE_INDEX_SCALE"), (5, u "LOG2_ARRAY_CHAR_INDEX_SCALE"), (5, u "LOG2_ARRAY_SHORT_INDEX_SCALE"), (18, u "LOG2_ARRAY_FLOAT_INDEX_SCALE"), (24, u "LOG2_ARRAY_DOUBLE_INDEX_SCALE"), (89, u "T_BOOLEAN"), (2, u "T_CHAR"), (1, u "T_FLOAT"), (1, u "T_DOUBLE"), (1, u "T_BYTE"), (1, u "T_SHORT"), (1, u "T_INT"), (1, u "T_LONG"), (1, u "SOFT_MAX_ARRAY_LENGTH")] 83

def k15m0 : Method := { name := "<init>", desc := "()V", sig := { parameters := [], returnType := none }, accessFlags := 2, code := none }
/-- jdk/internal/util/ArraysSupport -/
def k15 : Class := { plain "jdk/internal/util/ArraysSupport" (some 0) with
  accessFlags := 33
  interfaces := #[]
  cf := some (fileOf pool15 21 #[] #[{ accessFlags := 2, nameIndex := 9, descriptorIndex := 19, attributes := #[] }] 33 16 #[] #[{ accessFlags := 24, nameIndex := 28, descriptorIndex := 29, attributes := #[] }, { accessFlags := 26, nameIndex := 38, descriptorIndex := 39, attributes := #[] }, { accessFlags := 25, nameIndex := 121, descriptorIndex := 25, attributes := #[] }, { accessFlags := 25, nameIndex := 131, descriptorIndex := 25, attributes := #[] }, { accessFlags := 25, nameIndex := 137, descriptorIndex := 25, attributes := #[] }, { accessFlags := 25, nameIndex := 143, descriptorIndex := 25, attributes := #[] }, { accessFlags := 25, nameIndex := 53, descriptorIndex := 25, attributes := #[] }, { accessFlags := 25, nameIndex := 24, descriptorIndex := 25, attributes := #[] }, { accessFlags := 25, nameIndex := 162, descriptorIndex := 25, attributes := #[] }, { accessFlags := 25, nameIndex := 187, descriptorIndex := 25, attributes := #[] }, { accessFlags := 26, nameIndex := 48, descriptorIndex := 25, attributes := #[] }, { accessFlags := 25, nameIndex := 277, descriptorIndex := 25, attributes := #[] }, { accessFlags := 25, nameIndex := 280, descriptorIndex := 25, attributes := #[] }, { accessFlags := 25, nameIndex := 282, descriptorIndex := 25, attributes := #[] }, { accessFlags := 25, nameIndex := 284, descriptorIndex := 25, attributes := #[] }, { accessFlags := 25, nameIndex := 286, descriptorIndex := 25, attributes := #[] }, { accessFlags := 25, nameIndex := 288, descriptorIndex := 25, attributes := #[] }, { accessFlags := 25, nameIndex := 290, descriptorIndex := 25, attributes := #[] }, { accessFlags := 25, nameIndex := 292, descriptorIndex := 25, attributes := #[] }, { accessFlags := 26, nameIndex := 108, descriptorIndex := 109, attributes := #[] }, { accessFlags := 25, nameIndex := 294, descriptorIndex := 25, attributes := #[] }])
  fields := #[{ name := "U", type := (.object "jdk/internal/misc/Unsafe"), accessFlags := 24, slot := 0, constantValue := 0 }, { name := "BIG_ENDIAN", type := .boolean, accessFlags := 26, slot := 1, constantValue := 0 }, { name := "LOG2_ARRAY_BOOLEAN_INDEX_SCALE", type := .int, accessFlags := 25, slot := 2, constantValue := 0 }, { name := "LOG2_ARRAY_BYTE_INDEX_SCALE", type := .int, accessFlags := 25, slot := 3, constantValue := 0 }, { name := "LOG2_ARRAY_CHAR_INDEX_SCALE", type := .int, accessFlags := 25, slot := 4, constantValue := 0 }, { name := "LOG2_ARRAY_SHORT_INDEX_SCALE", type := .int, accessFlags := 25, slot := 5, constantValue := 0 }, { name := "LOG2_ARRAY_INT_INDEX_SCALE", type := .int, accessFlags := 25, slot := 6, constantValue := 0 }, { name := "LOG2_ARRAY_LONG_INDEX_SCALE", type := .int, accessFlags := 25, slot := 7, constantValue := 0 }, { name := "LOG2_ARRAY_FLOAT_INDEX_SCALE", type := .int, accessFlags := 25, slot := 8, constantValue := 0 }, { name := "LOG2_ARRAY_DOUBLE_INDEX_SCALE", type := .int, accessFlags := 25, slot := 9, constantValue := 0 }, { name := "LOG2_BYTE_BIT_SIZE", type := .int, accessFlags := 26, slot := 10, constantValue := 0 }, { name := "T_BOOLEAN", type := .int, accessFlags := 25, slot := 11, constantValue := 0 }, { name := "T_CHAR", type := .int, accessFlags := 25, slot := 12, constantValue := 0 }, { name := "T_FLOAT", type := .int, accessFlags := 25, slot := 13, constantValue := 0 }, { name := "T_DOUBLE", type := .int, accessFlags := 25, slot := 14, constantValue := 0 }, { name := "T_BYTE", type := .int, accessFlags := 25, slot := 15, constantValue := 0 }, { name := "T_SHORT", type := .int, accessFlags := 25, slot := 16, constantValue := 0 }, { name := "T_INT", type := .int, accessFlags := 25, slot := 17, constantValue := 0 }, { name := "T_LONG", type := .int, accessFlags := 25, slot := 18, constantValue := 0 }, { name := "JLA", type := (.object "jdk/internal/access/JavaLangAccess"), accessFlags := 26, slot := 19, constantValue := 0 }, { name := "SOFT_MAX_ARRAY_LENGTH", type := .int, accessFlags := 25, slot := 20, constantValue := 0 }]
  methods := #[k15m0]
  instanceTypes := #[]
  staticTypes := #[(.object "jdk/internal/misc/Unsafe"), .boolean, .int, .int, .int, .int, .int, .int, .int, .int, .int, .int, .int, .int, .int, .int, .int, .int, .int, (.object "jdk/internal/access/JavaLangAccess"), .int]
  resolved := Array.replicate 378 none
  statics := none }

def pool16 : Array CpInfo := pool [(1, u "java/lang/Cloneable"), (0, .class_ 1), (0, u "java/lang/Object"), (0, .class_ 3)] 3

/-- java/lang/Cloneable -/
def k16 : Class := { plain "java/lang/Cloneable" (some 0) with
  accessFlags := 1537
  interfaces := #[]
  cf := some (fileOf pool16 2 #[] #[] 1537 4 #[] #[])
  fields := #[]
  methods := #[]
  instanceTypes := #[]
  staticTypes := #[]
  resolved := Array.replicate 8 none
  statics := none }

/-- the primitive byte -/
def k17 : Class := { plain "byte" none with kind := .primitive 'B', accessFlags := 0x411 }
/-- [B -/
def k18 : Class := { plain "[B" (some 0) with kind := .array 17 .byte, interfaces := #[16, 2], accessFlags := 1041 }

/-- the primitive char -/
def k19 : Class := { plain "char" none with kind := .primitive 'C', accessFlags := 0x411 }
/-- [C -/
def k20 : Class := { plain "[C" (some 0) with kind := .array 19 .char, interfaces := #[16, 2], accessFlags := 1041 }

/-- the primitive int -/
def k21 : Class := { plain "int" none with kind := .primitive 'I', accessFlags := 0x411 }
/-- [I -/
def k22 : Class := { plain "[I" (some 0) with kind := .array 21 .int, interfaces := #[16, 2], accessFlags := 1041 }

def heap : Heap := #[{ cls := 7, slots := #[.long 0, .int 1, .null, .int 0, .null, .int 0, .int 0], vm := .statics 7 },
  { cls := 11, slots := #[.null, .null, .null], vm := .statics 11 }]
def classes : Array Class := #[k0, k1, k2, k3, k4, k5, k6, k7, k8, k9, k10, k11, k12, k13, k14, k15, k16, k17, k18, k19, k20, k21, k22]
def interned : List (Array UInt16 × Addr) := []
def slotsUsed : Nat := 10
def theMethod : MethodId := ⟨1, 1⟩
def args0 : Array Value := #[.int 5, .int 4, .int 7, .int 9, .int 11]
def aboutOver (below : List Frame) : State where
  vm := { classes := classes, interned := interned.toArray }
  heap := heap
  slotsUsed := slotsUsed
  threads := #[{ frames := .invoking theMethod args0 :: below }]
def below0 : List Frame := [.native { method := ⟨0, 0⟩, args := #[] }]
def about1 : State := aboutOver below0
def p0 : Program := .bare "" "" ""
def e0 : Env := launch0.env 0 0 0
theorem w_frames : about1.frames = Frame.invoking theMethod args0 :: below0 := rfl
set_option maxRecDepth 65536 in
theorem w_args : argsFit about1.vm theMethod args0 = true := by decide +kernel
set_option maxRecDepth 65536 in
theorem w_heap : heapFits about1 = true := by decide +kernel
set_option maxRecDepth 65536 in
theorem w_runnable : about1.curStatus? = some .runnable := by decide +kernel
set_option maxRecDepth 65536 in
theorem w_alone : about1.alone = true := by decide +kernel
set_option maxRecDepth 65536 in
theorem w_named : about1.methodNamed? x = some theMethod := by decide +kernel
set_option maxRecDepth 65536 in
theorem w_hears : about1.hears theMethod below0 = true := by decide +kernel
set_option maxRecDepth 65536 in
theorem w_ripe : about1.ripe theMethod args0 below0 = true := by decide +kernel
theorem w_running : about1.status = .running := rfl
set_option maxRecDepth 65536 in
theorem w_room : about1.hasRoom e0.platform room_1 = true :=
  launch0.hasRoom_least _ room_1 (by decide +kernel) (by decide +kernel) (by decide +kernel) (by decide +kernel) (by decide +kernel) (by decide +kernel)
theorem allAtoms_all (ts : List Jvm.Cond) (a : Array Jvm.Value) (st : Jvm.State) : (allAtoms ts).before a st = ts.all (fun c => c.before a st) := by
  induction ts with
  | nil => rfl
  | cons c t ih =>
    show (Jvm.Cond.and c (allAtoms t)).before a st = _
    rw [Jvm.Cond.before_and, ih, List.all_cons]
def words1 : List Jvm.Cond := Jvm.Cond.code x code maxLocals ret :: tables_1
/-- a 'code' word, met by the world's own term for the bytes: nothing is compared byte by byte -/
theorem code_word {y : MethodName} {bytes : ByteArray} {mx : Nat} {rt : Option FieldType} {a : Array Value} {s : State} {m : MethodId} {meth : Method} {c : Code} (h1 : s.methodNamed? y = some m) (h2 : s.vm.method? m = some meth) (h3 : meth.code = some c) (h4 : c.code = bytes)
    (h5 : (c.maxLocals == mx && c.exceptionTable.isEmpty && decide (c.maxStack ≤ mostOperands) && decide (meth.sig.returnType = rt) && !meth.locks && decide (parseMethodDescriptor y.desc = some meth.sig)) = true) : (Jvm.Cond.code y bytes mx rt).before a s = true := by
  simp only [Bool.and_eq_true, beq_iff_eq, Bool.not_eq_true', decide_eq_true_eq] at h5
  obtain ⟨⟨⟨⟨⟨g1, g2⟩, g3⟩, g4⟩, g5⟩, g6⟩ := h5
  simp [Cond.before, Cond.holds, Cond.value, h1, h2, h3, h4, g1, g2, g3, g4, g5, g6]
def isCode : Jvm.Cond → Bool
  | .code _ _ _ _ => true
  | _ => false
theorem all_split {L : List Jvm.Cond} {P : Jvm.Cond → Bool} (h1 : L.all (fun c => isCode c || P c) = true) (h2 : ∀ c ∈ L.filter isCode, P c = true) : L.all P = true := by
  refine List.all_eq_true.mpr fun c hc => ?_
  have h := List.all_eq_true.mp h1 c hc
  rcases Bool.eq_false_or_eq_true (isCode c) with hi | hi
  · exact h2 c (List.mem_filter.mpr ⟨hc, hi⟩)
  · simpa [hi] using h
set_option maxRecDepth 65536 in
theorem w_c0 : (Jvm.Cond.code x code maxLocals ret).before args0 about1 = true := code_word (m := ⟨1, 1⟩) (meth := k1m1) (c := k1c1) (by decide +kernel) rfl rfl rfl (by decide +kernel)
set_option maxRecDepth 65536 in
theorem w_c1 : (Jvm.Cond.code ({ cls := "com/example/loadstone/loadstone/LoadFileNamePinLaw", name := "ch", desc := "(I)C" } : Jvm.MethodName) method_3_code (1 : Nat) (Option.some Jvm.ClassFile.FieldType.char)).before args0 about1 = true := code_word (m := ⟨1, 2⟩) (meth := k1m2) (c := k1c2) (by decide +kernel) rfl rfl rfl (by decide +kernel)
set_option maxRecDepth 65536 in
theorem w_c2 : (Jvm.Cond.code ({ cls := "com/example/loadstone/loadstone/LoadFileNamePinLaw", name := "take", desc := "([CI)[C" } : Jvm.MethodName) method_4_code (2 : Nat) (Option.some (Jvm.ClassFile.FieldType.array Jvm.ClassFile.FieldType.char))).before args0 about1 = true := code_word (m := ⟨1, 3⟩) (meth := k1m3) (c := k1c3) (by decide +kernel) rfl rfl rfl (by decide +kernel)
set_option maxRecDepth 65536 in
theorem w_c3 : (Jvm.Cond.code ({ cls := "java/lang/String", name := "<init>", desc := "([C)V" } : Jvm.MethodName) jdk_42_method_3_code (2 : Nat) (Option.none : Option Jvm.ClassFile.FieldType)).before args0 about1 = true := code_word (m := ⟨7, 1⟩) (meth := k7m1) (c := k7c1) (by decide +kernel) rfl rfl rfl (by decide +kernel)
set_option maxRecDepth 65536 in
theorem w_c4 : (Jvm.Cond.code ({ cls := "java/lang/String", name := "<init>", desc := "([CIILjava/lang/Void;)V" } : Jvm.MethodName) jdk_42_method_149_code (6 : Nat) (Option.none : Option Jvm.ClassFile.FieldType)).before args0 about1 = true := code_word (m := ⟨7, 8⟩) (meth := k7m8) (c := k7c8) (by decide +kernel) rfl rfl rfl (by decide +kernel)
set_option maxRecDepth 65536 in
theorem w_c5 : (Jvm.Cond.code ({ cls := "java/lang/Object", name := "<init>", desc := "()V" } : Jvm.MethodName) object_method_1_code (1 : Nat) (Option.none : Option Jvm.ClassFile.FieldType)).before args0 about1 = true := code_word (m := ⟨0, 0⟩) (meth := k0m0) (c := k0c0) (by decide +kernel) rfl rfl rfl (by decide +kernel)
set_option maxRecDepth 65536 in
theorem w_c6 : (Jvm.Cond.code ({ cls := "com/example/loadstone/loadstone/Load", name := "fileName", desc := "(Ljava/lang/String;)Ljava/lang/String;" } : Jvm.MethodName) prog_19_method_12_code (1 : Nat) (Option.some (Jvm.ClassFile.FieldType.object "java/lang/String"))).before args0 about1 = true := code_word (m := ⟨8, 0⟩) (meth := k8m0) (c := k8c0) (by decide +kernel) rfl rfl rfl (by decide +kernel)
set_option maxRecDepth 65536 in
theorem w_c7 : (Jvm.Cond.code ({ cls := "java/lang/String", name := "lastIndexOf", desc := "(I)I" } : Jvm.MethodName) jdk_42_method_82_code (2 : Nat) (Option.some Jvm.ClassFile.FieldType.int)).before args0 about1 = true := code_word (m := ⟨7, 4⟩) (meth := k7m4) (c := k7c4) (by decide +kernel) rfl rfl rfl (by decide +kernel)
set_option maxRecDepth 65536 in
theorem w_c8 : (Jvm.Cond.code ({ cls := "java/lang/String", name := "length", desc := "()I" } : Jvm.MethodName) jdk_42_method_54_code (1 : Nat) (Option.some Jvm.ClassFile.FieldType.int)).before args0 about1 = true := code_word (m := ⟨7, 2⟩) (meth := k7m2) (c := k7c2) (by decide +kernel) rfl rfl rfl (by decide +kernel)
set_option maxRecDepth 65536 in
theorem w_c9 : (Jvm.Cond.code ({ cls := "java/lang/String", name := "coder", desc := "()B" } : Jvm.MethodName) jdk_42_method_152_code (1 : Nat) (Option.some Jvm.ClassFile.FieldType.byte)).before args0 about1 = true := code_word (m := ⟨7, 10⟩) (meth := k7m10) (c := k7c10) (by decide +kernel) rfl rfl rfl (by decide +kernel)
set_option maxRecDepth 65536 in
theorem w_c10 : (Jvm.Cond.code ({ cls := "java/lang/String", name := "lastIndexOf", desc := "(II)I" } : Jvm.MethodName) jdk_42_method_83_code (3 : Nat) (Option.some Jvm.ClassFile.FieldType.int)).before args0 about1 = true := code_word (m := ⟨7, 5⟩) (meth := k7m5) (c := k7c5) (by decide +kernel) rfl rfl rfl (by decide +kernel)
set_option maxRecDepth 65536 in
theorem w_c11 : (Jvm.Cond.code ({ cls := "java/lang/String", name := "isLatin1", desc := "()Z" } : Jvm.MethodName) jdk_42_method_154_code (1 : Nat) (Option.some Jvm.ClassFile.FieldType.boolean)).before args0 about1 = true := code_word (m := ⟨7, 11⟩) (meth := k7m11) (c := k7c11) (by decide +kernel) rfl rfl rfl (by decide +kernel)
set_option maxRecDepth 65536 in
theorem w_c12 : (Jvm.Cond.code ({ cls := "java/lang/StringLatin1", name := "lastIndexOf", desc := "([BII)I" } : Jvm.MethodName) jdk_43_method_27_code (4 : Nat) (Option.some Jvm.ClassFile.FieldType.int)).before args0 about1 = true := code_word (m := ⟨9, 3⟩) (meth := k9m3) (c := k9c3) (by decide +kernel) rfl rfl rfl (by decide +kernel)
set_option maxRecDepth 65536 in
theorem w_c13 : (Jvm.Cond.code ({ cls := "java/lang/StringLatin1", name := "canEncode", desc := "(I)Z" } : Jvm.MethodName) jdk_43_method_4_code (1 : Nat) (Option.some Jvm.ClassFile.FieldType.boolean)).before args0 about1 = true := code_word (m := ⟨9, 2⟩) (meth := k9m2) (c := k9c2) (by decide +kernel) rfl rfl rfl (by decide +kernel)
set_option maxRecDepth 65536 in
theorem w_c14 : (Jvm.Cond.code ({ cls := "java/lang/Math", name := "min", desc := "(II)I" } : Jvm.MethodName) jdk_29_method_69_code (2 : Nat) (Option.some Jvm.ClassFile.FieldType.int)).before args0 about1 = true := code_word (m := ⟨10, 1⟩) (meth := k10m1) (c := k10c1) (by decide +kernel) rfl rfl rfl (by decide +kernel)
set_option maxRecDepth 65536 in
theorem w_c15 : (Jvm.Cond.code ({ cls := "java/lang/String", name := "substring", desc := "(I)Ljava/lang/String;" } : Jvm.MethodName) jdk_42_method_91_code (2 : Nat) (Option.some (Jvm.ClassFile.FieldType.object "java/lang/String"))).before args0 about1 = true := code_word (m := ⟨7, 6⟩) (meth := k7m6) (c := k7c6) (by decide +kernel) rfl rfl rfl (by decide +kernel)
set_option maxRecDepth 65536 in
theorem w_c16 : (Jvm.Cond.code ({ cls := "java/lang/String", name := "substring", desc := "(II)Ljava/lang/String;" } : Jvm.MethodName) jdk_42_method_92_code (5 : Nat) (Option.some (Jvm.ClassFile.FieldType.object "java/lang/String"))).before args0 about1 = true := code_word (m := ⟨7, 7⟩) (meth := k7m7) (c := k7c7) (by decide +kernel) rfl rfl rfl (by decide +kernel)
set_option maxRecDepth 65536 in
theorem w_c17 : (Jvm.Cond.code ({ cls := "java/lang/String", name := "checkBoundsBeginEnd", desc := "(III)V" } : Jvm.MethodName) jdk_42_method_158_code (3 : Nat) (Option.none : Option Jvm.ClassFile.FieldType)).before args0 about1 = true := code_word (m := ⟨7, 13⟩) (meth := k7m13) (c := k7c13) (by decide +kernel) rfl rfl rfl (by decide +kernel)
set_option maxRecDepth 65536 in
theorem w_c18 : (Jvm.Cond.code ({ cls := "jdk/internal/util/Preconditions", name := "checkFromToIndex", desc := "(IIILjava/util/function/BiFunction;)I" } : Jvm.MethodName) jdk_41_method_12_code (4 : Nat) (Option.some Jvm.ClassFile.FieldType.int)).before args0 about1 = true := code_word (m := ⟨11, 2⟩) (meth := k11m2) (c := k11c2) (by decide +kernel) rfl rfl rfl (by decide +kernel)
set_option maxRecDepth 65536 in
theorem w_c19 : (Jvm.Cond.code ({ cls := "com/example/loadstone/loadstone/LoadFileNamePinLaw", name := "same", desc := "(Ljava/lang/String;[CIII)Z" } : Jvm.MethodName) method_5_code (5 : Nat) (Option.some Jvm.ClassFile.FieldType.boolean)).before args0 about1 = true := code_word (m := ⟨1, 4⟩) (meth := k1m4) (c := k1c4) (by decide +kernel) rfl rfl rfl (by decide +kernel)
set_option maxRecDepth 65536 in
theorem w_c20 : (Jvm.Cond.code ({ cls := "java/lang/StringUTF16", name := "compress", desc := "([CII)[B" } : Jvm.MethodName) jdk_52_method_16_code (6 : Nat) (Option.some (Jvm.ClassFile.FieldType.array Jvm.ClassFile.FieldType.byte))).before args0 about1 = true := code_word (m := ⟨12, 2⟩) (meth := k12m2) (c := k12c2) (by decide +kernel) rfl rfl rfl (by decide +kernel)
set_option maxRecDepth 65536 in
theorem w_c21 : (Jvm.Cond.code ({ cls := "java/lang/StringUTF16", name := "compress", desc := "([CI[BII)I" } : Jvm.MethodName) jdk_52_method_21_code (7 : Nat) (Option.some Jvm.ClassFile.FieldType.int)).before args0 about1 = true := code_word (m := ⟨12, 3⟩) (meth := k12m3) (c := k12c3) (by decide +kernel) rfl rfl rfl (by decide +kernel)
set_option maxRecDepth 65536 in
theorem w_c22 : (Jvm.Cond.code ({ cls := "java/lang/StringUTF16", name := "coderFromArrayLen", desc := "([BI)B" } : Jvm.MethodName) jdk_52_method_15_code (2 : Nat) (Option.some Jvm.ClassFile.FieldType.byte)).before args0 about1 = true := code_word (m := ⟨12, 1⟩) (meth := k12m1) (c := k12c1) (by decide +kernel) rfl rfl rfl (by decide +kernel)
set_option maxRecDepth 65536 in
theorem w_c23 : (Jvm.Cond.code ({ cls := "java/lang/StringLatin1", name := "newString", desc := "([BII)Ljava/lang/String;" } : Jvm.MethodName) jdk_43_method_47_code (3 : Nat) (Option.some (Jvm.ClassFile.FieldType.object "java/lang/String"))).before args0 about1 = true := code_word (m := ⟨9, 4⟩) (meth := k9m4) (c := k9c4) (by decide +kernel) rfl rfl rfl (by decide +kernel)
set_option maxRecDepth 65536 in
theorem w_c24 : (Jvm.Cond.code ({ cls := "java/util/Arrays", name := "copyOfRange", desc := "([BII)[B" } : Jvm.MethodName) jdk_65_method_132_code (3 : Nat) (Option.some (Jvm.ClassFile.FieldType.array Jvm.ClassFile.FieldType.byte))).before args0 about1 = true := code_word (m := ⟨13, 2⟩) (meth := k13m2) (c := k13c2) (by decide +kernel) rfl rfl rfl (by decide +kernel)
set_option maxRecDepth 65536 in
theorem w_c25 : (Jvm.Cond.code ({ cls := "java/util/Arrays", name := "copyOfRangeByte", desc := "([BII)[B" } : Jvm.MethodName) jdk_65_method_133_code (5 : Nat) (Option.some (Jvm.ClassFile.FieldType.array Jvm.ClassFile.FieldType.byte))).before args0 about1 = true := code_word (m := ⟨13, 3⟩) (meth := k13m3) (c := k13c3) (by decide +kernel) rfl rfl rfl (by decide +kernel)
set_option maxRecDepth 65536 in
theorem w_c26 : (Jvm.Cond.code ({ cls := "java/util/Arrays", name := "checkLength", desc := "(II)V" } : Jvm.MethodName) jdk_65_method_131_code (2 : Nat) (Option.none : Option Jvm.ClassFile.FieldType)).before args0 about1 = true := code_word (m := ⟨13, 1⟩) (meth := k13m1) (c := k13c1) (by decide +kernel) rfl rfl rfl (by decide +kernel)
set_option maxRecDepth 65536 in
theorem w_c27 : (Jvm.Cond.code ({ cls := "java/lang/String", name := "<init>", desc := "([BB)V" } : Jvm.MethodName) jdk_42_method_151_code (3 : Nat) (Option.none : Option Jvm.ClassFile.FieldType)).before args0 about1 = true := code_word (m := ⟨7, 9⟩) (meth := k7m9) (c := k7c9) (by decide +kernel) rfl rfl rfl (by decide +kernel)
set_option maxRecDepth 65536 in
theorem w_c28 : (Jvm.Cond.code ({ cls := "java/lang/String", name := "charAt", desc := "(I)C" } : Jvm.MethodName) jdk_42_method_56_code (2 : Nat) (Option.some Jvm.ClassFile.FieldType.char)).before args0 about1 = true := code_word (m := ⟨7, 3⟩) (meth := k7m3) (c := k7c3) (by decide +kernel) rfl rfl rfl (by decide +kernel)
set_option maxRecDepth 65536 in
theorem w_c29 : (Jvm.Cond.code ({ cls := "java/lang/StringLatin1", name := "charAt", desc := "([BI)C" } : Jvm.MethodName) jdk_43_method_2_code (2 : Nat) (Option.some Jvm.ClassFile.FieldType.char)).before args0 about1 = true := code_word (m := ⟨9, 1⟩) (meth := k9m1) (c := k9c1) (by decide +kernel) rfl rfl rfl (by decide +kernel)
set_option maxRecDepth 65536 in
theorem w_c30 : (Jvm.Cond.code ({ cls := "java/lang/String", name := "checkIndex", desc := "(II)V" } : Jvm.MethodName) jdk_42_method_155_code (2 : Nat) (Option.none : Option Jvm.ClassFile.FieldType)).before args0 about1 = true := code_word (m := ⟨7, 12⟩) (meth := k7m12) (c := k7c12) (by decide +kernel) rfl rfl rfl (by decide +kernel)
set_option maxRecDepth 65536 in
theorem w_c31 : (Jvm.Cond.code ({ cls := "jdk/internal/util/Preconditions", name := "checkIndex", desc := "(IILjava/util/function/BiFunction;)I" } : Jvm.MethodName) jdk_41_method_11_code (3 : Nat) (Option.some Jvm.ClassFile.FieldType.int)).before args0 about1 = true := code_word (m := ⟨11, 1⟩) (meth := k11m1) (c := k11c1) (by decide +kernel) rfl rfl rfl (by decide +kernel)
def codes1 : List Jvm.Cond := [Jvm.Cond.code x code maxLocals ret, Jvm.Cond.code ({ cls := "com/example/loadstone/loadstone/LoadFileNamePinLaw", name := "ch", desc := "(I)C" } : Jvm.MethodName) method_3_code (1 : Nat) (Option.some Jvm.ClassFile.FieldType.char), Jvm.Cond.code ({ cls := "com/example/loadstone/loadstone/LoadFileNamePinLaw", name := "take", desc := "([CI)[C" } : Jvm.MethodName) method_4_code (2 : Nat) (Option.some (Jvm.ClassFile.FieldType.array Jvm.ClassFile.FieldType.char)), Jvm.Cond.code ({ cls := "java/lang/String", name := "<init>", desc := "([C)V" } : Jvm.MethodName) jdk_42_method_3_code (2 : Nat) (Option.none : Option Jvm.ClassFile.FieldType), Jvm.Cond.code ({ cls := "java/lang/String", name := "<init>", desc := "([CIILjava/lang/Void;)V" } : Jvm.MethodName) jdk_42_method_149_code (6 : Nat) (Option.none : Option Jvm.ClassFile.FieldType), Jvm.Cond.code ({ cls := "java/lang/Object", name := "<init>", desc := "()V" } : Jvm.MethodName) object_method_1_code (1 : Nat) (Option.none : Option Jvm.ClassFile.FieldType), Jvm.Cond.code ({ cls := "com/example/loadstone/loadstone/Load", name := "fileName", desc := "(Ljava/lang/String;)Ljava/lang/String;" } : Jvm.MethodName) prog_19_method_12_code (1 : Nat) (Option.some (Jvm.ClassFile.FieldType.object "java/lang/String")), Jvm.Cond.code ({ cls := "java/lang/String", name := "lastIndexOf", desc := "(I)I" } : Jvm.MethodName) jdk_42_method_82_code (2 : Nat) (Option.some Jvm.ClassFile.FieldType.int), Jvm.Cond.code ({ cls := "java/lang/String", name := "length", desc := "()I" } : Jvm.MethodName) jdk_42_method_54_code (1 : Nat) (Option.some Jvm.ClassFile.FieldType.int), Jvm.Cond.code ({ cls := "java/lang/String", name := "coder", desc := "()B" } : Jvm.MethodName) jdk_42_method_152_code (1 : Nat) (Option.some Jvm.ClassFile.FieldType.byte), Jvm.Cond.code ({ cls := "java/lang/String", name := "lastIndexOf", desc := "(II)I" } : Jvm.MethodName) jdk_42_method_83_code (3 : Nat) (Option.some Jvm.ClassFile.FieldType.int), Jvm.Cond.code ({ cls := "java/lang/String", name := "isLatin1", desc := "()Z" } : Jvm.MethodName) jdk_42_method_154_code (1 : Nat) (Option.some Jvm.ClassFile.FieldType.boolean), Jvm.Cond.code ({ cls := "java/lang/StringLatin1", name := "lastIndexOf", desc := "([BII)I" } : Jvm.MethodName) jdk_43_method_27_code (4 : Nat) (Option.some Jvm.ClassFile.FieldType.int), Jvm.Cond.code ({ cls := "java/lang/StringLatin1", name := "canEncode", desc := "(I)Z" } : Jvm.MethodName) jdk_43_method_4_code (1 : Nat) (Option.some Jvm.ClassFile.FieldType.boolean), Jvm.Cond.code ({ cls := "java/lang/Math", name := "min", desc := "(II)I" } : Jvm.MethodName) jdk_29_method_69_code (2 : Nat) (Option.some Jvm.ClassFile.FieldType.int), Jvm.Cond.code ({ cls := "java/lang/String", name := "substring", desc := "(I)Ljava/lang/String;" } : Jvm.MethodName) jdk_42_method_91_code (2 : Nat) (Option.some (Jvm.ClassFile.FieldType.object "java/lang/String")), Jvm.Cond.code ({ cls := "java/lang/String", name := "substring", desc := "(II)Ljava/lang/String;" } : Jvm.MethodName) jdk_42_method_92_code (5 : Nat) (Option.some (Jvm.ClassFile.FieldType.object "java/lang/String")), Jvm.Cond.code ({ cls := "java/lang/String", name := "checkBoundsBeginEnd", desc := "(III)V" } : Jvm.MethodName) jdk_42_method_158_code (3 : Nat) (Option.none : Option Jvm.ClassFile.FieldType), Jvm.Cond.code ({ cls := "jdk/internal/util/Preconditions", name := "checkFromToIndex", desc := "(IIILjava/util/function/BiFunction;)I" } : Jvm.MethodName) jdk_41_method_12_code (4 : Nat) (Option.some Jvm.ClassFile.FieldType.int), Jvm.Cond.code ({ cls := "com/example/loadstone/loadstone/LoadFileNamePinLaw", name := "same", desc := "(Ljava/lang/String;[CIII)Z" } : Jvm.MethodName) method_5_code (5 : Nat) (Option.some Jvm.ClassFile.FieldType.boolean), Jvm.Cond.code ({ cls := "java/lang/StringUTF16", name := "compress", desc := "([CII)[B" } : Jvm.MethodName) jdk_52_method_16_code (6 : Nat) (Option.some (Jvm.ClassFile.FieldType.array Jvm.ClassFile.FieldType.byte)), Jvm.Cond.code ({ cls := "java/lang/StringUTF16", name := "compress", desc := "([CI[BII)I" } : Jvm.MethodName) jdk_52_method_21_code (7 : Nat) (Option.some Jvm.ClassFile.FieldType.int), Jvm.Cond.code ({ cls := "java/lang/StringUTF16", name := "coderFromArrayLen", desc := "([BI)B" } : Jvm.MethodName) jdk_52_method_15_code (2 : Nat) (Option.some Jvm.ClassFile.FieldType.byte), Jvm.Cond.code ({ cls := "java/lang/StringLatin1", name := "newString", desc := "([BII)Ljava/lang/String;" } : Jvm.MethodName) jdk_43_method_47_code (3 : Nat) (Option.some (Jvm.ClassFile.FieldType.object "java/lang/String")), Jvm.Cond.code ({ cls := "java/util/Arrays", name := "copyOfRange", desc := "([BII)[B" } : Jvm.MethodName) jdk_65_method_132_code (3 : Nat) (Option.some (Jvm.ClassFile.FieldType.array Jvm.ClassFile.FieldType.byte)), Jvm.Cond.code ({ cls := "java/util/Arrays", name := "copyOfRangeByte", desc := "([BII)[B" } : Jvm.MethodName) jdk_65_method_133_code (5 : Nat) (Option.some (Jvm.ClassFile.FieldType.array Jvm.ClassFile.FieldType.byte)), Jvm.Cond.code ({ cls := "java/util/Arrays", name := "checkLength", desc := "(II)V" } : Jvm.MethodName) jdk_65_method_131_code (2 : Nat) (Option.none : Option Jvm.ClassFile.FieldType), Jvm.Cond.code ({ cls := "java/lang/String", name := "<init>", desc := "([BB)V" } : Jvm.MethodName) jdk_42_method_151_code (3 : Nat) (Option.none : Option Jvm.ClassFile.FieldType), Jvm.Cond.code ({ cls := "java/lang/String", name := "charAt", desc := "(I)C" } : Jvm.MethodName) jdk_42_method_56_code (2 : Nat) (Option.some Jvm.ClassFile.FieldType.char), Jvm.Cond.code ({ cls := "java/lang/StringLatin1", name := "charAt", desc := "([BI)C" } : Jvm.MethodName) jdk_43_method_2_code (2 : Nat) (Option.some Jvm.ClassFile.FieldType.char), Jvm.Cond.code ({ cls := "java/lang/String", name := "checkIndex", desc := "(II)V" } : Jvm.MethodName) jdk_42_method_155_code (2 : Nat) (Option.none : Option Jvm.ClassFile.FieldType), Jvm.Cond.code ({ cls := "jdk/internal/util/Preconditions", name := "checkIndex", desc := "(IILjava/util/function/BiFunction;)I" } : Jvm.MethodName) jdk_41_method_11_code (3 : Nat) (Option.some Jvm.ClassFile.FieldType.int)]
set_option maxRecDepth 65536 in
theorem codes_eq : words1.filter isCode = codes1 := rfl
theorem w_codes : ∀ c ∈ words1.filter isCode, c.before args0 about1 = true := by
  rw [codes_eq]
  intro c hc
  simp only [codes1, List.mem_cons, List.not_mem_nil, or_false] at hc
  rcases hc with rfl | rfl | rfl | rfl | rfl | rfl | rfl | rfl | rfl | rfl | rfl | rfl | rfl | rfl | rfl | rfl | rfl | rfl | rfl | rfl | rfl | rfl | rfl | rfl | rfl | rfl | rfl | rfl | rfl | rfl | rfl | rfl
  · exact w_c0
  · exact w_c1
  · exact w_c2
  · exact w_c3
  · exact w_c4
  · exact w_c5
  · exact w_c6
  · exact w_c7
  · exact w_c8
  · exact w_c9
  · exact w_c10
  · exact w_c11
  · exact w_c12
  · exact w_c13
  · exact w_c14
  · exact w_c15
  · exact w_c16
  · exact w_c17
  · exact w_c18
  · exact w_c19
  · exact w_c20
  · exact w_c21
  · exact w_c22
  · exact w_c23
  · exact w_c24
  · exact w_c25
  · exact w_c26
  · exact w_c27
  · exact w_c28
  · exact w_c29
  · exact w_c30
  · exact w_c31
set_option maxRecDepth 65536 in
theorem w_t1 : (words1.take 24).all (fun c => isCode c || c.before args0 about1) = true := by decide +kernel
set_option maxRecDepth 65536 in
theorem w_t2 : ((words1.drop 24).take 24).all (fun c => isCode c || c.before args0 about1) = true := by decide +kernel
set_option maxRecDepth 65536 in
theorem w_t3 : (((words1.drop 24).drop 24).take 24).all (fun c => isCode c || c.before args0 about1) = true := by decide +kernel
set_option maxRecDepth 65536 in
theorem w_t4 : ((((words1.drop 24).drop 24).drop 24).take 24).all (fun c => isCode c || c.before args0 about1) = true := by decide +kernel
set_option maxRecDepth 65536 in
theorem w_t5 : (((((words1.drop 24).drop 24).drop 24).drop 24).take 24).all (fun c => isCode c || c.before args0 about1) = true := by decide +kernel
set_option maxRecDepth 65536 in
theorem w_t6 : (((((words1.drop 24).drop 24).drop 24).drop 24).drop 24).all (fun c => isCode c || c.before args0 about1) = true := by decide +kernel
theorem w_tables : (allAtoms (Jvm.Cond.code x code maxLocals ret :: tables_1)).before args0 about1 = true := by
  rw [allAtoms_all]
  show words1.all (fun c => c.before args0 about1) = true
  refine all_split ?_ w_codes
  rw [← List.take_append_drop 24 words1, List.all_append, w_t1, ← List.take_append_drop 24 (words1.drop 24), List.all_append, w_t2, ← List.take_append_drop 24 ((words1.drop 24).drop 24), List.all_append, w_t3, ← List.take_append_drop 24 (((words1.drop 24).drop 24).drop 24), List.all_append, w_t4, ← List.take_append_drop 24 ((((words1.drop 24).drop 24).drop 24).drop 24), List.all_append, w_t5, w_t6]
  rfl
set_option maxRecDepth 65536 in
theorem w_rest : rest_1_c.before args0 about1 = true := by decide +kernel
set_option maxRecDepth 65536 in
theorem w_case : (Jvm.Cond.and given_1 narrow_1).before args0 about1 = true := by decide +kernel
set_option maxRecDepth 65536 in
theorem w_consts : constsHeld consts_1 about1 := Jvm.Lit.constsHeldB_iff.mp (by decide +kernel)
theorem w_applies : (headSpec (Jvm.Cond.code x code maxLocals ret :: tables_1) room_1).applies x e0.platform about1 = true :=
  (Spec.applies_iff w_frames).mpr ⟨w_running, w_runnable, w_alone, w_named, w_hears, w_ripe, w_room, w_tables⟩
theorem atStart : AtStart classFile x code maxLocals ret World_1 tables_1 room_1 Calls_1 rest_1 Pre_1 launch0 p0 e0 about1 theMethod args0 below0 :=
  ⟨lists_1, trivial, launch0.admits_env _ _ _, launch0.least_env, fairChoices_fair.cas, fairChoices_fair.clock, w_frames, w_args, w_heap, w_applies, ⟨w_consts, trivial⟩, w_rest, w_case⟩
end start1
theorem witness_1 : WitnessClaimed_1 := ⟨start1.p0, start1.e0, start1.about1, start1.theMethod, start1.args0, start1.below0, start1.atStart⟩
end Jvm.Pilot.@@N@@
