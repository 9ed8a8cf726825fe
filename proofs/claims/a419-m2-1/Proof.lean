import JvmDerived
import JvmDerived.Pilot.@@N@@Statement
import JvmDerived.Pilot.@@N@@Code
set_option linter.unusedVariables false
set_option linter.unusedSimpArgs false
namespace Jvm.Pilot.@@N@@.Own
open Jvm Jvm.ClassFile Sem Op Lib Jvm.Free Jvm.Stand Jvm.LawKit Jvm.RoadKit Bundle
/-! The walk's own logic: a judgement on a frame, one rule a step. -/
def Goes (p : Program) (e : Env) (below : List Frame) (PQ : Outcome → State → Prop) (t : State) : Prop :=
  ∃ s₂ o, Steps p.tables e below t s₂ ∧ s₂.status = .running ∧ Ended s₂ below o ∧ PQ o s₂
def EndP (wd : Bool) (s Z : State) (EL : List (String × Nat)) (n0 : Nat) (h0 : Heap) (ws : List Addr) (k n : Nat) (Q : Option Value → Heap → Prop) (o : Outcome) (u : State) : Prop :=
  ∃ v L, o = .returned v ∧ (Fr n0 L ∧ Old Z n0 u.heap ∧ Keep h0 u.heap ws ∧ Q v u.heap) ∧
    (match wd with | true => CHr Z EL s.vm s.heap u.vm u.heap ∧ ReturnedEndW s o u L k n | false => FrameEnd s o u L k n)
/-- the contract of one body: from the heap h0, with these arguments, it returns and Q holds; what lay in h0 stands but for ws -/
def Con (wd : Bool) (l : Launch) (Z : State) (EL : List (String × Nat)) (n0 : Nat) (y : MethodName) (bytes : ByteArray) (maxL : Nat) (ret : Option FieldType) (rm : Room) (as' : Array Value) (h0 : Heap) (ws : List Addr) (Q : Option Value → Heap → Prop) : Prop :=
  ∀ wds : List Jvm.Cond, MetFree l y (head1 (Jvm.Cond.code y bytes maxL ret :: wds) rm) (fun a U => a = as' ∧ Z.Warmed39 U.vm ∧ U.heap = h0 ∧ (wd = true → CHv Z EL U.vm h0)) (fun _ _ _ _ _ => True)
    (fun _ U o U' => EndP wd U Z EL n0 h0 ws rm.cells rm.slots Q o U')
def Good (p : Program) (meth : Method) (c : Code) (code : ByteArray) (maxL : Nat) (ret : Option FieldType) (nm : String) : Prop :=
  p.tables.exec = Jvm.exec ∧ c.code = code ∧ c.maxLocals = maxL ∧ meth.sig.returnType = ret ∧ meth.locks = false ∧ meth.name = nm
def Wk (p : Program) (l : Launch) (e : Env) (R : Room) (s : State) (m : MethodId) (args : Array Value) (below : List Frame) (meth : Method) (c : Code)
    (own : String) (Z : State) (a0 : Array Value) (EL : List (String × Nat)) (n0 : Nat) (h0 : Heap) (ws : List Addr) (wd : Bool)
    (sf : List Addr) (vm : Vm) (T : State) (h : Heap) (locs : List Loc) (cells slots : Nat) : Prop :=
  Stand p l e R (s.setVm vm) m args below meth c T locs cells slots ∧ T.heap = h ∧ Z.Warmed39 vm ∧ vm.findClass own = some m.cls ∧ s.Since vm h.size ∧ s.heap = h0 ∧
    Fr n0 locs ∧ Old Z n0 h ∧ Keep h0 h ws ∧ (wd = false → vm = s.vm) ∧
    (wd = true → EW Z a0 EL ∧ CHr Z EL s.vm h0 vm h ∧ ∀ x ∈ sf, x < h.size ∧ Safe Z EL vm h x)
def Ok (p : Program) (l : Launch) (e : Env) (R : Room) (s : State) (m : MethodId) (args : Array Value) (below : List Frame) (meth : Method) (c : Code)
    (own : String) (Z : State) (a0 : Array Value) (EL : List (String × Nat)) (n0 : Nat) (h0 : Heap) (ws : List Addr) (wd : Bool) (Q : Option Value → Heap → Prop)
    (sf : List Addr) (h : Heap) (cells slots : Nat) (g : JFrame) : Prop :=
  ∀ vm T locs, Wk p l e R s m args below meth c own Z a0 EL n0 h0 ws wd sf vm T h locs cells slots → Goes p e below (EndP wd s Z EL n0 h0 ws R.cells R.slots Q) (T.setTop g)
def SafeFor (wd : Bool) (Z : State) (EL : List (String × Nat)) (sf : List Addr) (h : Heap) (a : Addr) : Prop := wd = true → (a ∈ sf ∨ ∀ vm, Z.vm.Alike vm → Safe Z EL vm h a)
section Core
variable {p : Program} {l : Launch} {e : Env} {R : Room} {s : State} {m : MethodId} {args : Array Value} {below : List Frame} {meth : Method} {c : Code}
  {own : String} {Z : State} {a0 : Array Value} {EL : List (String × Nat)} {n0 : Nat} {h0 : Heap} {ws : List Addr} {wd : Bool} {Q : Option Value → Heap → Prop}
  {sf : List Addr} {h : Heap} {cells slots : Nat} {g g' : JFrame} {code : ByteArray} {maxL : Nat} {ret : Option FieldType} {nm : String} {a : Addr}
theorem SafeFor.narrow : SafeFor false Z EL sf h a := fun q => nomatch q
theorem SafeFor.mem (q : a ∈ sf) : SafeFor wd Z EL sf h a := fun _ => Or.inl q
theorem SafeFor.exa {C : String} (E : Exa Z h a C) (h1 : C ≠ "java/lang/String") (h2 : C ≠ "[B") : SafeFor wd Z EL sf h a := fun _ => Or.inr fun _ hal => Safe.exa hal E h1 h2
theorem SafeFor.arv {k : ClassId} {ty : FieldType} {z : Int32} {vs : List Value} {dv : Value} (F : Arv Z h a k ty z vs dv) (ht : ty ≠ .byte) : SafeFor wd Z EL sf h a := fun _ => Or.inr fun _ hal => Safe.arv hal F ht
/-- entering -/
theorem Con.intro {y : MethodName} {rm : Room} {as' : Array Value} (hp : plainFor y = true) (hO : Old Z n0 h0) (hE : wd = true → EW Z a0 EL)
    (body : ∀ (p : Program) (e : Env) (s : State) (m : MethodId) (below : List Frame) (meth : Method) (c : Code), Good p meth c code maxL ret y.name →
      Ok p l e rm s m as' below meth c y.cls Z a0 EL n0 h0 ws wd Q [] h0 0 0 (entryFrame m as' maxL)) : Con wd l Z EL n0 y code maxL ret rm as' h0 ws Q := by
  intro wds
  refine MetFree.of_bodySF hp hisR ?_
  intro p e s m args below meth c s₁ Bd hml hP hK
  obtain ⟨rfl, hZ, hh, hC⟩ := hP
  have hown := findClass_of_methodNamed Bd.named
  have hnm := (name_of_methodNamed Bd.named Bd.method).1
  have X0 : Stand p l e rm s m _ below meth c s₁ [] 0 0 := Stand.of_body Bd
  have e0 : s₁.heap = h0 := by rw [← hh, Bd.state]; rfl
  exact body p e s m below meth c ⟨Bd.exec, Bd.bytes, hml, Bd.returns, Bd.notSynchronized, hnm⟩ s.vm s₁ []
    ⟨X0, e0, hZ, hown, (State.WarmedH.refl s).since _, hh, Fr.nil _, hO, Keep.refl _ _, fun _ => rfl, fun q => ⟨hE q, CHr.refl (hC q), fun _ z => nomatch z⟩⟩
/-- a step that leaves tables and heap -/
theorem ok_step (st : ∀ T target, At T m c below → Steps p.tables e below (T.setTop g') target → Steps p.tables e below (T.setTop g) target)
    (k : Ok p l e R s m args below meth c own Z a0 EL n0 h0 ws wd Q sf h cells slots g') : Ok p l e R s m args below meth c own Z a0 EL n0 h0 ws wd Q sf h cells slots g := by
  intro vm T locs W
  obtain ⟨s₂, o, h1, h2⟩ := k vm T locs W
  exact ⟨s₂, o, st T s₂ W.1.here h1, h2⟩
/-- a step that leaves the heap and may warm the tables -/
theorem ok_stepT (st : ∀ vm T locs, Stand p l e R (s.setVm vm) m args below meth c T locs cells slots → T.heap = h → Z.Warmed39 vm → vm.findClass own = some m.cls → Old Z n0 h →
      ∃ T', Stand p l e R (s.setVm vm) m args below meth c T' locs cells slots ∧ T'.heap = h ∧ ∀ target, Steps p.tables e below (T'.setTop g') target → Steps p.tables e below (T.setTop g) target)
    (k : Ok p l e R s m args below meth c own Z a0 EL n0 h0 ws wd Q sf h cells slots g') : Ok p l e R s m args below meth c own Z a0 EL n0 h0 ws wd Q sf h cells slots g := by
  intro vm T locs W
  obtain ⟨X, e0, hZ, hown, hS, hh, N, O, K, r⟩ := W
  obtain ⟨T', X', e1, st'⟩ := st vm T locs X e0 hZ hown O
  obtain ⟨s₂, o, h1, h2⟩ := k vm T' locs ⟨X', e1, hZ, hown, hS, hh, N, O, K, r⟩
  exact ⟨s₂, o, st' s₂ h1, h2⟩
/-- a step that makes cells at the heap's end -/
theorem ok_stepE {cells' slots' : Nat} {sf' : List Addr} {P : Heap → Prop} (hg : ∀ x ∈ sf', x ∈ sf ∨ x = h.size)
    (st : ∀ vm T locs, Stand p l e R (s.setVm vm) m args below meth c T locs cells slots → T.heap = h → Z.Warmed39 vm → vm.findClass own = some m.cls → Old Z n0 h →
      ∃ T' h', Stand p l e R (s.setVm vm) m args below meth c T' locs cells' slots' ∧ T'.heap = h' ∧ Ext h h' ∧ h.size < h'.size ∧ P h' ∧ ∀ target, Steps p.tables e below (T'.setTop g') target → Steps p.tables e below (T.setTop g) target)
    (k : ∀ h', Keep h h' [] → n0 ≤ h.size → h0.size ≤ h.size → P h' → Ok p l e R s m args below meth c own Z a0 EL n0 h0 ws wd Q sf' h' cells' slots' g') :
    Ok p l e R s m args below meth c own Z a0 EL n0 h0 ws wd Q sf h cells slots g := by
  intro vm T locs W
  obtain ⟨X, e0, hZ, hown, hS, hh, N, O, K, r, r'⟩ := W
  obtain ⟨T', h', X', e1, E, hlt, hP, st'⟩ := st vm T locs X e0 hZ hown O
  have hsz : n0 ≤ h.size := O.1 ▸ O.2.1
  obtain ⟨s₂, o, h1, h2⟩ := k h' ((Keep.refl h []).ext E) hsz K.1 hP vm T' locs ⟨X', e1, hZ, hown, ⟨hS.1, fun j q hj hq => ⟨(hS.2 j q hj hq).1, Nat.lt_of_lt_of_le (hS.2 j q hj hq).2 E.1⟩⟩, hh, N, O.ext E, K.ext E, r, fun q => by
    obtain ⟨hE, hC, hs⟩ := r' q
    refine ⟨hE, hC.trans (CHr.ext E hC.1), fun x hx => ?_⟩
    rcases hg x hx with z | rfl
    · exact ⟨Nat.lt_of_lt_of_le (hs x z).1 E.1, Safe.ext E hC.1 (hs x z).2⟩
    · exact ⟨hlt, Safe.ext E hC.1 (Safe.new (Nat.le_refl _))⟩⟩
  exact ⟨s₂, o, st' s₂ h1, h2⟩
/-- a step that writes one place -/
theorem ok_stepW {sl : Nat} {v : Value} (hn : n0 ≤ a) (hw : a ∈ ws ∨ h0.size ≤ a) (hs : SafeFor wd Z EL sf h a)
    (st : ∀ vm T locs, Stand p l e R (s.setVm vm) m args below meth c T locs cells slots → T.heap = h → Z.Warmed39 vm → vm.findClass own = some m.cls → Old Z n0 h →
      ∃ T' h', Stand p l e R (s.setVm vm) m args below meth c T' (locs ++ [⟨a, sl⟩]) cells slots ∧ T'.heap = h' ∧ Wr h h' a sl v ∧ ∀ target, Steps p.tables e below (T'.setTop g') target → Steps p.tables e below (T.setTop g) target)
    (k : ∀ h', Keep h h' [a] → Wr h h' a sl v → Ok p l e R s m args below meth c own Z a0 EL n0 h0 ws wd Q sf h' cells slots g') :
    Ok p l e R s m args below meth c own Z a0 EL n0 h0 ws wd Q sf h cells slots g := by
  intro vm T locs W
  obtain ⟨X, e0, hZ, hown, hS, hh, N, O, K, r, r'⟩ := W
  obtain ⟨T', h', X', e1, Wr1, st'⟩ := st vm T locs X e0 hZ hown O
  have hsz := Wr1.size
  obtain ⟨s₂, o, h1, h2⟩ := k h' (Keep.of_wr Wr1) Wr1 vm T' _ ⟨X', e1, hZ, hown, by rw [hsz]; exact hS, hh, Fr.snoc X' N hn, O.wr Wr1 hn, K.wr Wr1 hw, r, fun q => by
    obtain ⟨hE, hC, hs'⟩ := r' q
    have hsa : Safe Z EL vm h a := by
      rcases hs q with z | z
      · exact (hs' a z).2
      · exact z vm hZ.alike
    exact ⟨hE, hC.trans (CHr.wr Wr1 hsa hC.1), fun x hx => ⟨by rw [hsz]; exact (hs' x hx).1, Safe.wr Wr1 hsa hC.1 (hs' x hx).2⟩⟩⟩
  exact ⟨s₂, o, st' s₂ h1, h2⟩
/-- the same frame, said otherwise -/
theorem ok_as (g' : JFrame) (q : g = g') (k : Ok p l e R s m args below meth c own Z a0 EL n0 h0 ws wd Q sf h cells slots g') : Ok p l e R s m args below meth c own Z a0 EL n0 h0 ws wd Q sf h cells slots g := q ▸ k
/-- more cells and slots booked -/
theorem ok_book (cells' slots' : Nat) (q1 : cells ≤ cells') (q2 : slots ≤ slots') (k : Ok p l e R s m args below meth c own Z a0 EL n0 h0 ws wd Q sf h cells' slots' g) : Ok p l e R s m args below meth c own Z a0 EL n0 h0 ws wd Q sf h cells slots g := by
  intro vm T locs W
  obtain ⟨X, r⟩ := W
  exact k vm T locs ⟨{ X with same := X.same.mono q1 q2 }, r⟩
/-- another list of safe places -/
theorem ok_sf (sf' : List Addr) (q : ∀ x ∈ sf', x < h.size ∧ SafeFor wd Z EL sf h x) (k : Ok p l e R s m args below meth c own Z a0 EL n0 h0 ws wd Q sf' h cells slots g) : Ok p l e R s m args below meth c own Z a0 EL n0 h0 ws wd Q sf h cells slots g := by
  intro vm T locs W
  obtain ⟨X, e0, hZ, hown, hS, hh, N, O, K, r, r'⟩ := W
  exact k vm T locs ⟨X, e0, hZ, hown, hS, hh, N, O, K, r, fun w => by
    obtain ⟨hE, hC, hs⟩ := r' w
    refine ⟨hE, hC, fun x hx => ⟨(q x hx).1, ?_⟩⟩
    rcases (q x hx).2 w with z | z
    · exact (hs x z).2
    · exact z vm hZ.alike⟩
theorem ok_old (k : Old Z n0 h → Ok p l e R s m args below meth c own Z a0 EL n0 h0 ws wd Q sf h cells slots g) : Ok p l e R s m args below meth c own Z a0 EL n0 h0 ws wd Q sf h cells slots g := by
  intro vm T locs W
  exact k W.2.2.2.2.2.2.2.1 vm T locs W
theorem ok_keep (k : Keep h0 h ws → Ok p l e R s m args below meth c own Z a0 EL n0 h0 ws wd Q sf h cells slots g) : Ok p l e R s m args below meth c own Z a0 EL n0 h0 ws wd Q sf h cells slots g := by
  intro vm T locs W
  exact k W.2.2.2.2.2.2.2.2.1 vm T locs W
/-- the end -/
theorem ok_end {v : Option Value} (G : Good p meth c code maxL ret nm) (hv : ret = none → v = none) (hq : Q v h)
    (st : ∀ vm T locs fs, Stand p l e R (s.setVm vm) m args below meth c T locs cells slots → (∀ (f : JFrame) (acts : List Action), f.method = m → f.locked = none → f.entered = [] → (doReturn e (T.setTop f) acts v).1 = T.setFrames fs) →
      Steps p.tables e below (T.setTop g) (T.setFrames fs)) (hc : cells ≤ R.cells) (hl : slots ≤ R.slots) : Ok p l e R s m args below meth c own Z a0 EL n0 h0 ws wd Q sf h cells slots g := by
  intro vm T locs W
  obtain ⟨X, e0, hZ, hown, hS, hh, N, O, K, r, r'⟩ := W
  have hlocks : meth.locks = false := G.2.2.2.2.1
  have hv' : meth.sig.returnType = none → v = none := by rw [G.2.2.2.1]; exact hv
  subst e0
  cases wd with
  | false =>
    have e1 : vm = s.vm := r rfl
    obtain ⟨fs, hr, hrun, hended, hW, hsame⟩ := X.leave (v := v) hv' hlocks
    refine ⟨_, _, st vm T locs fs X hr, hrun, hended, v, locs, rfl, ⟨N, O, K, hq⟩, ⟨v, rfl⟩, ?_, ?_⟩
    · rw [e1] at hW; exact hW
    · rw [e1] at hsame; exact hsame.mono hc hl
  | true =>
    obtain ⟨hE, hC, hs⟩ := r' rfl
    obtain ⟨fs, hr, hrun, hended, hEnd⟩ := X.leaveW hS (Nat.le_refl _) (v := v) hv' hlocks
    refine ⟨_, _, st vm T locs fs X hr, hrun, hended, v, locs, rfl, ⟨N, O, K, hq⟩, ?_, hEnd.1, hEnd.2.1, hEnd.2.2.1, hEnd.2.2.2.mono hc hl⟩
    have q := hC.trans (CHv.at X hZ hE hC.1)
    rw [← hh] at q
    exact q
theorem ok_return (G : Good p meth c code maxL ret nm) (hret : ret = none) {pc : Nat} {L : Array Slot} (hd : decode code pc = .ok (.return_, 1)) (hq : Q none h) (hc : cells ≤ R.cells) (hl : slots ≤ R.slots) :
    Ok p l e R s m args below meth c own Z a0 EL n0 h0 ws wd Q sf h cells slots (mkF m pc L []) :=
  ok_end G (fun _ => rfl) hq (fun vm T locs fs X hr => X.returnOut G.1 (by rw [G.2.2.2.1]; exact hret) (hb G.2.1 hd) hr) hc hl
theorem ok_ret {t : FieldType} {w : Value} {i : Instr} (G : Good p meth c code maxL ret nm) (hret : ret = some t) {pc : Nat} {L : Array Slot} {S : List Value}
    (hi : (i = .ireturn ∧ (t = .int ∨ t = .boolean ∨ t = .byte ∨ t = .char ∨ t = .short) ∧ ∃ z, w = .int z) ∨ (i = .lreturn ∧ t = .long ∧ ∃ z, w = .long z) ∨ (i = .dreturn ∧ t = .double ∧ ∃ z, w = .double z) ∨ (i = .freturn ∧ t = .float ∧ ∃ z, w = .float z) ∨ (i = .areturn ∧ t.isReference = true ∧ w.isRef = true))
    (hd : decode code pc = .ok (i, 1)) (hn : narrow t w = w) (hq : Q (some w) h) (hc : cells ≤ R.cells) (hl : slots ≤ R.slots) :
    Ok p l e R s m args below meth c own Z a0 EL n0 h0 ws wd Q sf h cells slots (mkF m pc L (w :: S)) :=
  ok_end G (fun q => by rw [hret] at q; cases q) hq (fun vm T locs fs X hr => retOut X G.1 (by rw [G.2.2.2.1]; exact hret) hn hi (hb G.2.1 hd) hr) hc hl
theorem ok_retI {z : Int32} (G : Good p meth c code maxL ret nm) (hret : ret = some .int) {pc : Nat} {L : Array Slot} {S : List Value} (hd : decode code pc = .ok (.ireturn, 1)) (hq : Q (some (.int z)) h) (hc : cells ≤ R.cells) (hl : slots ≤ R.slots) :
    Ok p l e R s m args below meth c own Z a0 EL n0 h0 ws wd Q sf h cells slots (mkF m pc L (.int z :: S)) := ok_ret G hret (Or.inl ⟨rfl, Or.inl rfl, z, rfl⟩) hd rfl hq hc hl
theorem ok_retN {z : Int32} {t : FieldType} (G : Good p meth c code maxL ret nm) (hret : ret = some t) (ht : t = .boolean ∨ t = .byte ∨ t = .char ∨ t = .short) {pc : Nat} {L : Array Slot} {S : List Value} (hd : decode code pc = .ok (.ireturn, 1)) (hn : narrow t (.int z) = .int z) (hq : Q (some (.int z)) h) (hc : cells ≤ R.cells) (hl : slots ≤ R.slots) :
    Ok p l e R s m args below meth c own Z a0 EL n0 h0 ws wd Q sf h cells slots (mkF m pc L (.int z :: S)) := ok_ret G hret (Or.inl ⟨rfl, Or.inr ht, z, rfl⟩) hd hn hq hc hl
theorem ok_retJ {z : Int64} (G : Good p meth c code maxL ret nm) (hret : ret = some .long) {pc : Nat} {L : Array Slot} {S : List Value} (hd : decode code pc = .ok (.lreturn, 1)) (hq : Q (some (.long z)) h) (hc : cells ≤ R.cells) (hl : slots ≤ R.slots) :
    Ok p l e R s m args below meth c own Z a0 EL n0 h0 ws wd Q sf h cells slots (mkF m pc L (.long z :: S)) := ok_ret G hret (Or.inr (Or.inl ⟨rfl, rfl, z, rfl⟩)) hd rfl hq hc hl
theorem ok_retA {w : Value} {t : FieldType} (G : Good p meth c code maxL ret nm) (hret : ret = some t) (ht : t.isReference = true) (hw : w.isRef = true) {pc : Nat} {L : Array Slot} {S : List Value} (hd : decode code pc = .ok (.areturn, 1)) (hn : narrow t w = w) (hq : Q (some w) h) (hc : cells ≤ R.cells) (hl : slots ≤ R.slots) :
    Ok p l e R s m args below meth c own Z a0 EL n0 h0 ws wd Q sf h cells slots (mkF m pc L (w :: S)) := ok_ret G hret (Or.inr (Or.inr (Or.inr (Or.inr ⟨rfl, ht, hw⟩)))) hd hn hq hc hl
end Core
end Jvm.Pilot.@@N@@.Own
namespace Jvm.Pilot.@@N@@.Own
open Jvm Jvm.ClassFile Sem Op Lib Jvm.Free Jvm.Stand Jvm.LawKit Jvm.RoadKit Bundle
section Plain
variable {p : Program} {l : Launch} {e : Env} {R : Room} {s : State} {m : MethodId} {args : Array Value} {below : List Frame} {meth : Method} {c : Code}
  {own : String} {Z : State} {a0 : Array Value} {EL : List (String × Nat)} {n0 : Nat} {h0 : Heap} {ws : List Addr} {wd : Bool} {Q : Option Value → Heap → Prop}
  {sf : List Addr} {h : Heap} {cells slots : Nat} {code : ByteArray} {maxL : Nat} {ret : Option FieldType} {nm : String} {a : Addr}
theorem ok_aload (G : Good p meth c code maxL ret nm) {pc : Nat} {L : Array Slot} {S : List Value} {k0 : Nat} {v : Value} (hd : decode code pc = .ok (.aload k0, 2)) (hl : L[k0]? = some (.val v)) (hv : v.isRef = true) (k : Ok p l e R s m args below meth c own Z a0 EL n0 h0 ws wd Q sf h cells slots (mkF m (pc + 2) L (v :: S))) : Ok p l e R s m args below meth c own Z a0 EL n0 h0 ws wd Q sf h cells slots (mkF m pc L S) :=
  ok_step (fun T t hA k => XS.aload hA G.1 rfl (hb G.2.1 hd) hl hv k) k
theorem ok_aloadN (G : Good p meth c code maxL ret nm) {pc : Nat} {L : Array Slot} {S : List Value} {k0 : Fin 4} {v : Value} (hd : decode code pc = .ok (.aload_n k0, 1)) (hl : L[k0.val]? = some (.val v)) (hv : v.isRef = true) (k : Ok p l e R s m args below meth c own Z a0 EL n0 h0 ws wd Q sf h cells slots (mkF m (pc + 1) L (v :: S))) : Ok p l e R s m args below meth c own Z a0 EL n0 h0 ws wd Q sf h cells slots (mkF m pc L S) :=
  ok_step (fun T t hA k => XS.aloadN hA G.1 rfl (hb G.2.1 hd) hl hv k) k
theorem ok_iload (G : Good p meth c code maxL ret nm) {pc : Nat} {L : Array Slot} {S : List Value} {k0 : Nat} {v : Int32} (hd : decode code pc = .ok (.iload k0, 2)) (hl : L[k0]? = some (.val (.int v))) (k : Ok p l e R s m args below meth c own Z a0 EL n0 h0 ws wd Q sf h cells slots (mkF m (pc + 2) L ((.int v) :: S))) : Ok p l e R s m args below meth c own Z a0 EL n0 h0 ws wd Q sf h cells slots (mkF m pc L S) :=
  ok_step (fun T t hA k => XS.iload hA G.1 rfl (hb G.2.1 hd) hl k) k
theorem ok_iloadN (G : Good p meth c code maxL ret nm) {pc : Nat} {L : Array Slot} {S : List Value} {k0 : Fin 4} {v : Int32} (hd : decode code pc = .ok (.iload_n k0, 1)) (hl : L[k0.val]? = some (.val (.int v))) (k : Ok p l e R s m args below meth c own Z a0 EL n0 h0 ws wd Q sf h cells slots (mkF m (pc + 1) L ((.int v) :: S))) : Ok p l e R s m args below meth c own Z a0 EL n0 h0 ws wd Q sf h cells slots (mkF m pc L S) :=
  ok_step (fun T t hA k => XS.iloadN hA G.1 rfl (hb G.2.1 hd) hl k) k
theorem ok_lload (G : Good p meth c code maxL ret nm) {pc : Nat} {L : Array Slot} {S : List Value} {k0 : Nat} {v : Int64} (hd : decode code pc = .ok (.lload k0, 2)) (hl : L[k0]? = some (.val (.long v))) (k : Ok p l e R s m args below meth c own Z a0 EL n0 h0 ws wd Q sf h cells slots (mkF m (pc + 2) L ((.long v) :: S))) : Ok p l e R s m args below meth c own Z a0 EL n0 h0 ws wd Q sf h cells slots (mkF m pc L S) :=
  ok_step (fun T t hA k => XS.lload hA G.1 rfl (hb G.2.1 hd) hl k) k
theorem ok_lloadN (G : Good p meth c code maxL ret nm) {pc : Nat} {L : Array Slot} {S : List Value} {k0 : Fin 4} {v : Int64} (hd : decode code pc = .ok (.lload_n k0, 1)) (hl : L[k0.val]? = some (.val (.long v))) (k : Ok p l e R s m args below meth c own Z a0 EL n0 h0 ws wd Q sf h cells slots (mkF m (pc + 1) L ((.long v) :: S))) : Ok p l e R s m args below meth c own Z a0 EL n0 h0 ws wd Q sf h cells slots (mkF m pc L S) :=
  ok_step (fun T t hA k => XS.lloadN hA G.1 rfl (hb G.2.1 hd) hl k) k
theorem ok_istore (G : Good p meth c code maxL ret nm) {pc : Nat} {L : Array Slot} {S : List Value} {k0 : Nat} {v : Int32} (L' : Array Slot) (hd : decode code pc = .ok (.istore k0, 2)) (hl : storeLocals L k0 (.int v) = some L') (k : Ok p l e R s m args below meth c own Z a0 EL n0 h0 ws wd Q sf h cells slots (mkF m (pc + 2) L' S)) : Ok p l e R s m args below meth c own Z a0 EL n0 h0 ws wd Q sf h cells slots (mkF m pc L ((.int v) :: S)) :=
  ok_step (fun T t hA k => XS.istore hA G.1 rfl (hb G.2.1 hd) rfl hl k) k
theorem ok_istoreN (G : Good p meth c code maxL ret nm) {pc : Nat} {L : Array Slot} {S : List Value} {k0 : Fin 4} {v : Int32} (L' : Array Slot) (hd : decode code pc = .ok (.istore_n k0, 1)) (hl : storeLocals L k0.val (.int v) = some L') (k : Ok p l e R s m args below meth c own Z a0 EL n0 h0 ws wd Q sf h cells slots (mkF m (pc + 1) L' S)) : Ok p l e R s m args below meth c own Z a0 EL n0 h0 ws wd Q sf h cells slots (mkF m pc L ((.int v) :: S)) :=
  ok_step (fun T t hA k => XS.istoreN hA G.1 rfl (hb G.2.1 hd) rfl hl k) k
theorem ok_lstore (G : Good p meth c code maxL ret nm) {pc : Nat} {L : Array Slot} {S : List Value} {k0 : Nat} {v : Int64} (L' : Array Slot) (hd : decode code pc = .ok (.lstore k0, 2)) (hl : storeLocals L k0 (.long v) = some L') (k : Ok p l e R s m args below meth c own Z a0 EL n0 h0 ws wd Q sf h cells slots (mkF m (pc + 2) L' S)) : Ok p l e R s m args below meth c own Z a0 EL n0 h0 ws wd Q sf h cells slots (mkF m pc L ((.long v) :: S)) :=
  ok_step (fun T t hA k => XS.lstore hA G.1 rfl (hb G.2.1 hd) rfl hl k) k
theorem ok_lstoreN (G : Good p meth c code maxL ret nm) {pc : Nat} {L : Array Slot} {S : List Value} {k0 : Fin 4} {v : Int64} (L' : Array Slot) (hd : decode code pc = .ok (.lstore_n k0, 1)) (hl : storeLocals L k0.val (.long v) = some L') (k : Ok p l e R s m args below meth c own Z a0 EL n0 h0 ws wd Q sf h cells slots (mkF m (pc + 1) L' S)) : Ok p l e R s m args below meth c own Z a0 EL n0 h0 ws wd Q sf h cells slots (mkF m pc L ((.long v) :: S)) :=
  ok_step (fun T t hA k => XS.lstoreN hA G.1 rfl (hb G.2.1 hd) rfl hl k) k
theorem ok_astore (G : Good p meth c code maxL ret nm) {pc : Nat} {L : Array Slot} {S : List Value} {k0 : Nat} {v : Value} (L' : Array Slot) (hd : decode code pc = .ok (.astore k0, 2)) (hv : v.isRef = true) (hl : storeLocals L k0 v = some L') (k : Ok p l e R s m args below meth c own Z a0 EL n0 h0 ws wd Q sf h cells slots (mkF m (pc + 2) L' S)) : Ok p l e R s m args below meth c own Z a0 EL n0 h0 ws wd Q sf h cells slots (mkF m pc L (v :: S)) :=
  ok_step (fun T t hA k => XS.astore hA G.1 rfl (hb G.2.1 hd) rfl hv hl k) k
theorem ok_astoreN (G : Good p meth c code maxL ret nm) {pc : Nat} {L : Array Slot} {S : List Value} {k0 : Fin 4} {v : Value} (L' : Array Slot) (hd : decode code pc = .ok (.astore_n k0, 1)) (hv : v.isRef = true) (hl : storeLocals L k0.val v = some L') (k : Ok p l e R s m args below meth c own Z a0 EL n0 h0 ws wd Q sf h cells slots (mkF m (pc + 1) L' S)) : Ok p l e R s m args below meth c own Z a0 EL n0 h0 ws wd Q sf h cells slots (mkF m pc L (v :: S)) :=
  ok_step (fun T t hA k => XS.astoreN hA G.1 rfl (hb G.2.1 hd) rfl hv hl k) k
theorem ok_iconst (G : Good p meth c code maxL ret nm) {pc : Nat} {L : Array Slot} {S : List Value} {i : Int} (v : Int32) (hd : decode code pc = .ok (.iconst i, 1)) (hv : Int32.ofInt i = v) (k : Ok p l e R s m args below meth c own Z a0 EL n0 h0 ws wd Q sf h cells slots (mkF m (pc + 1) L (.int v :: S))) : Ok p l e R s m args below meth c own Z a0 EL n0 h0 ws wd Q sf h cells slots (mkF m pc L S) :=
  ok_step (fun T t hA k => XS.iconst hA G.1 rfl (hb G.2.1 hd) (by rw [hv]; exact k)) k
theorem ok_bipush (G : Good p meth c code maxL ret nm) {pc : Nat} {L : Array Slot} {S : List Value} {i : Int} (v : Int32) (hd : decode code pc = .ok (.bipush i, 2)) (hv : (Int8.ofInt i).toInt32 = v) (k : Ok p l e R s m args below meth c own Z a0 EL n0 h0 ws wd Q sf h cells slots (mkF m (pc + 2) L (.int v :: S))) : Ok p l e R s m args below meth c own Z a0 EL n0 h0 ws wd Q sf h cells slots (mkF m pc L S) :=
  ok_step (fun T t hA k => XS.bipush hA G.1 rfl (hb G.2.1 hd) (by rw [hv]; exact k)) k
theorem ok_sipush (G : Good p meth c code maxL ret nm) {pc : Nat} {L : Array Slot} {S : List Value} {i : Int} (v : Int32) (hd : decode code pc = .ok (.sipush i, 3)) (hv : (Int16.ofInt i).toInt32 = v) (k : Ok p l e R s m args below meth c own Z a0 EL n0 h0 ws wd Q sf h cells slots (mkF m (pc + 3) L (.int v :: S))) : Ok p l e R s m args below meth c own Z a0 EL n0 h0 ws wd Q sf h cells slots (mkF m pc L S) :=
  ok_step (fun T t hA k => XS.sipush hA G.1 rfl (hb G.2.1 hd) (by rw [hv]; exact k)) k
theorem ok_lconst0 (G : Good p meth c code maxL ret nm) {pc : Nat} {L : Array Slot} {S : List Value}  (hd : decode code pc = .ok (.lconst 0, 1)) (k : Ok p l e R s m args below meth c own Z a0 EL n0 h0 ws wd Q sf h cells slots (mkF m (pc + 1) L (.long 0 :: S))) : Ok p l e R s m args below meth c own Z a0 EL n0 h0 ws wd Q sf h cells slots (mkF m pc L S) :=
  ok_step (fun T t hA k => XS.lconst hA G.1 rfl (hb G.2.1 hd) k) k
theorem ok_lconst1 (G : Good p meth c code maxL ret nm) {pc : Nat} {L : Array Slot} {S : List Value}  (hd : decode code pc = .ok (.lconst 1, 1)) (k : Ok p l e R s m args below meth c own Z a0 EL n0 h0 ws wd Q sf h cells slots (mkF m (pc + 1) L (.long 1 :: S))) : Ok p l e R s m args below meth c own Z a0 EL n0 h0 ws wd Q sf h cells slots (mkF m pc L S) :=
  ok_step (fun T t hA k => XS.lconst hA G.1 rfl (hb G.2.1 hd) k) k
theorem ok_aconst_null (G : Good p meth c code maxL ret nm) {pc : Nat} {L : Array Slot} {S : List Value}  (hd : decode code pc = .ok (.aconst_null, 1)) (k : Ok p l e R s m args below meth c own Z a0 EL n0 h0 ws wd Q sf h cells slots (mkF m (pc + 1) L (.null :: S))) : Ok p l e R s m args below meth c own Z a0 EL n0 h0 ws wd Q sf h cells slots (mkF m pc L S) :=
  ok_step (fun T t hA k => XS.aconstNull hA G.1 rfl (hb G.2.1 hd) k) k
theorem ok_iadd (G : Good p meth c code maxL ret nm) {pc : Nat} {L : Array Slot} {S : List Value} {x y : Int32} (hd : decode code pc = .ok (.iadd, 1)) (k : Ok p l e R s m args below meth c own Z a0 EL n0 h0 ws wd Q sf h cells slots (mkF m (pc + 1) L (.int (x + y) :: S))) : Ok p l e R s m args below meth c own Z a0 EL n0 h0 ws wd Q sf h cells slots (mkF m pc L (.int y :: .int x :: S)) :=
  ok_step (fun T t hA k => XS.iadd hA G.1 rfl (hb G.2.1 hd) rfl k) k
theorem ok_isub (G : Good p meth c code maxL ret nm) {pc : Nat} {L : Array Slot} {S : List Value} {x y : Int32} (hd : decode code pc = .ok (.isub, 1)) (k : Ok p l e R s m args below meth c own Z a0 EL n0 h0 ws wd Q sf h cells slots (mkF m (pc + 1) L (.int (x - y) :: S))) : Ok p l e R s m args below meth c own Z a0 EL n0 h0 ws wd Q sf h cells slots (mkF m pc L (.int y :: .int x :: S)) :=
  ok_step (fun T t hA k => XS.isub hA G.1 rfl (hb G.2.1 hd) rfl k) k
theorem ok_imul (G : Good p meth c code maxL ret nm) {pc : Nat} {L : Array Slot} {S : List Value} {x y : Int32} (hd : decode code pc = .ok (.imul, 1)) (k : Ok p l e R s m args below meth c own Z a0 EL n0 h0 ws wd Q sf h cells slots (mkF m (pc + 1) L (.int (x * y) :: S))) : Ok p l e R s m args below meth c own Z a0 EL n0 h0 ws wd Q sf h cells slots (mkF m pc L (.int y :: .int x :: S)) :=
  ok_step (fun T t hA k => XS.imul hA G.1 rfl (hb G.2.1 hd) rfl k) k
theorem ok_iand (G : Good p meth c code maxL ret nm) {pc : Nat} {L : Array Slot} {S : List Value} {x y : Int32} (hd : decode code pc = .ok (.iand, 1)) (k : Ok p l e R s m args below meth c own Z a0 EL n0 h0 ws wd Q sf h cells slots (mkF m (pc + 1) L (.int (x &&& y) :: S))) : Ok p l e R s m args below meth c own Z a0 EL n0 h0 ws wd Q sf h cells slots (mkF m pc L (.int y :: .int x :: S)) :=
  ok_step (fun T t hA k => XS.iand hA G.1 rfl (hb G.2.1 hd) rfl k) k
theorem ok_ior (G : Good p meth c code maxL ret nm) {pc : Nat} {L : Array Slot} {S : List Value} {x y : Int32} (hd : decode code pc = .ok (.ior, 1)) (k : Ok p l e R s m args below meth c own Z a0 EL n0 h0 ws wd Q sf h cells slots (mkF m (pc + 1) L (.int (x ||| y) :: S))) : Ok p l e R s m args below meth c own Z a0 EL n0 h0 ws wd Q sf h cells slots (mkF m pc L (.int y :: .int x :: S)) :=
  ok_step (fun T t hA k => XS.ior hA G.1 rfl (hb G.2.1 hd) rfl k) k
theorem ok_ixor (G : Good p meth c code maxL ret nm) {pc : Nat} {L : Array Slot} {S : List Value} {x y : Int32} (hd : decode code pc = .ok (.ixor, 1)) (k : Ok p l e R s m args below meth c own Z a0 EL n0 h0 ws wd Q sf h cells slots (mkF m (pc + 1) L (.int (x ^^^ y) :: S))) : Ok p l e R s m args below meth c own Z a0 EL n0 h0 ws wd Q sf h cells slots (mkF m pc L (.int y :: .int x :: S)) :=
  ok_step (fun T t hA k => XS.ixor hA G.1 rfl (hb G.2.1 hd) rfl k) k
theorem ok_ishl (G : Good p meth c code maxL ret nm) {pc : Nat} {L : Array Slot} {S : List Value} {x y : Int32} (hd : decode code pc = .ok (.ishl, 1)) (k : Ok p l e R s m args below meth c own Z a0 EL n0 h0 ws wd Q sf h cells slots (mkF m (pc + 1) L (.int (x <<< (y &&& 31)) :: S))) : Ok p l e R s m args below meth c own Z a0 EL n0 h0 ws wd Q sf h cells slots (mkF m pc L (.int y :: .int x :: S)) :=
  ok_step (fun T t hA k => XS.ishl hA G.1 rfl (hb G.2.1 hd) rfl k) k
theorem ok_ishr (G : Good p meth c code maxL ret nm) {pc : Nat} {L : Array Slot} {S : List Value} {x y : Int32} (hd : decode code pc = .ok (.ishr, 1)) (k : Ok p l e R s m args below meth c own Z a0 EL n0 h0 ws wd Q sf h cells slots (mkF m (pc + 1) L (.int (x >>> (y &&& 31)) :: S))) : Ok p l e R s m args below meth c own Z a0 EL n0 h0 ws wd Q sf h cells slots (mkF m pc L (.int y :: .int x :: S)) :=
  ok_step (fun T t hA k => XS.ishr hA G.1 rfl (hb G.2.1 hd) rfl k) k
theorem ok_iushr (G : Good p meth c code maxL ret nm) {pc : Nat} {L : Array Slot} {S : List Value} {x y : Int32} (hd : decode code pc = .ok (.iushr, 1)) (k : Ok p l e R s m args below meth c own Z a0 EL n0 h0 ws wd Q sf h cells slots (mkF m (pc + 1) L (.int ((x.toUInt32 >>> (y &&& 31).toUInt32).toInt32) :: S))) : Ok p l e R s m args below meth c own Z a0 EL n0 h0 ws wd Q sf h cells slots (mkF m pc L (.int y :: .int x :: S)) :=
  ok_step (fun T t hA k => XS.iushr hA G.1 rfl (hb G.2.1 hd) rfl k) k
theorem ok_ladd (G : Good p meth c code maxL ret nm) {pc : Nat} {L : Array Slot} {S : List Value} {x y : Int64} (hd : decode code pc = .ok (.ladd, 1)) (k : Ok p l e R s m args below meth c own Z a0 EL n0 h0 ws wd Q sf h cells slots (mkF m (pc + 1) L (.long (x + y) :: S))) : Ok p l e R s m args below meth c own Z a0 EL n0 h0 ws wd Q sf h cells slots (mkF m pc L (.long y :: .long x :: S)) :=
  ok_step (fun T t hA k => XS.ladd hA G.1 rfl (hb G.2.1 hd) rfl k) k
theorem ok_lsub (G : Good p meth c code maxL ret nm) {pc : Nat} {L : Array Slot} {S : List Value} {x y : Int64} (hd : decode code pc = .ok (.lsub, 1)) (k : Ok p l e R s m args below meth c own Z a0 EL n0 h0 ws wd Q sf h cells slots (mkF m (pc + 1) L (.long (x - y) :: S))) : Ok p l e R s m args below meth c own Z a0 EL n0 h0 ws wd Q sf h cells slots (mkF m pc L (.long y :: .long x :: S)) :=
  ok_step (fun T t hA k => XS.lsub hA G.1 rfl (hb G.2.1 hd) rfl k) k
theorem ok_lmul (G : Good p meth c code maxL ret nm) {pc : Nat} {L : Array Slot} {S : List Value} {x y : Int64} (hd : decode code pc = .ok (.lmul, 1)) (k : Ok p l e R s m args below meth c own Z a0 EL n0 h0 ws wd Q sf h cells slots (mkF m (pc + 1) L (.long (x * y) :: S))) : Ok p l e R s m args below meth c own Z a0 EL n0 h0 ws wd Q sf h cells slots (mkF m pc L (.long y :: .long x :: S)) :=
  ok_step (fun T t hA k => XS.lmul hA G.1 rfl (hb G.2.1 hd) rfl k) k
theorem ok_land (G : Good p meth c code maxL ret nm) {pc : Nat} {L : Array Slot} {S : List Value} {x y : Int64} (hd : decode code pc = .ok (.land, 1)) (k : Ok p l e R s m args below meth c own Z a0 EL n0 h0 ws wd Q sf h cells slots (mkF m (pc + 1) L (.long (x &&& y) :: S))) : Ok p l e R s m args below meth c own Z a0 EL n0 h0 ws wd Q sf h cells slots (mkF m pc L (.long y :: .long x :: S)) :=
  ok_step (fun T t hA k => XS.land hA G.1 rfl (hb G.2.1 hd) rfl k) k
theorem ok_lor (G : Good p meth c code maxL ret nm) {pc : Nat} {L : Array Slot} {S : List Value} {x y : Int64} (hd : decode code pc = .ok (.lor, 1)) (k : Ok p l e R s m args below meth c own Z a0 EL n0 h0 ws wd Q sf h cells slots (mkF m (pc + 1) L (.long (x ||| y) :: S))) : Ok p l e R s m args below meth c own Z a0 EL n0 h0 ws wd Q sf h cells slots (mkF m pc L (.long y :: .long x :: S)) :=
  ok_step (fun T t hA k => XS.lor hA G.1 rfl (hb G.2.1 hd) rfl k) k
theorem ok_lxor (G : Good p meth c code maxL ret nm) {pc : Nat} {L : Array Slot} {S : List Value} {x y : Int64} (hd : decode code pc = .ok (.lxor, 1)) (k : Ok p l e R s m args below meth c own Z a0 EL n0 h0 ws wd Q sf h cells slots (mkF m (pc + 1) L (.long (x ^^^ y) :: S))) : Ok p l e R s m args below meth c own Z a0 EL n0 h0 ws wd Q sf h cells slots (mkF m pc L (.long y :: .long x :: S)) :=
  ok_step (fun T t hA k => XS.lxor hA G.1 rfl (hb G.2.1 hd) rfl k) k
theorem ok_idiv (G : Good p meth c code maxL ret nm) {pc : Nat} {L : Array Slot} {S : List Value} {x y : Int32} (hd : decode code pc = .ok (.idiv, 1)) (hy : y ≠ 0) (k : Ok p l e R s m args below meth c own Z a0 EL n0 h0 ws wd Q sf h cells slots (mkF m (pc + 1) L (.int (x / y) :: S))) : Ok p l e R s m args below meth c own Z a0 EL n0 h0 ws wd Q sf h cells slots (mkF m pc L (.int y :: .int x :: S)) :=
  ok_step (fun T t hA k => XS.idiv hA G.1 rfl (hb G.2.1 hd) rfl hy k) k
theorem ok_irem (G : Good p meth c code maxL ret nm) {pc : Nat} {L : Array Slot} {S : List Value} {x y : Int32} (hd : decode code pc = .ok (.irem, 1)) (hy : y ≠ 0) (k : Ok p l e R s m args below meth c own Z a0 EL n0 h0 ws wd Q sf h cells slots (mkF m (pc + 1) L (.int (x % y) :: S))) : Ok p l e R s m args below meth c own Z a0 EL n0 h0 ws wd Q sf h cells slots (mkF m pc L (.int y :: .int x :: S)) :=
  ok_step (fun T t hA k => XS.irem hA G.1 rfl (hb G.2.1 hd) rfl hy (by rw [irem_eq_mod x y]; exact k)) k
theorem ok_ldiv (G : Good p meth c code maxL ret nm) {pc : Nat} {L : Array Slot} {S : List Value} {x y : Int64} (hd : decode code pc = .ok (.ldiv, 1)) (hy : y ≠ 0) (k : Ok p l e R s m args below meth c own Z a0 EL n0 h0 ws wd Q sf h cells slots (mkF m (pc + 1) L (.long (x / y) :: S))) : Ok p l e R s m args below meth c own Z a0 EL n0 h0 ws wd Q sf h cells slots (mkF m pc L (.long y :: .long x :: S)) :=
  ok_step (fun T t hA k => XS.ldiv hA G.1 rfl (hb G.2.1 hd) rfl hy k) k
theorem ok_lrem (G : Good p meth c code maxL ret nm) {pc : Nat} {L : Array Slot} {S : List Value} {x y : Int64} (hd : decode code pc = .ok (.lrem, 1)) (hy : y ≠ 0) (k : Ok p l e R s m args below meth c own Z a0 EL n0 h0 ws wd Q sf h cells slots (mkF m (pc + 1) L (.long (x - x / y * y) :: S))) : Ok p l e R s m args below meth c own Z a0 EL n0 h0 ws wd Q sf h cells slots (mkF m pc L (.long y :: .long x :: S)) :=
  ok_step (fun T t hA k => XS.lrem hA G.1 rfl (hb G.2.1 hd) rfl hy k) k
theorem ok_ineg (G : Good p meth c code maxL ret nm) {pc : Nat} {L : Array Slot} {S : List Value} {x : Int32} (hd : decode code pc = .ok (.ineg, 1)) (k : Ok p l e R s m args below meth c own Z a0 EL n0 h0 ws wd Q sf h cells slots (mkF m (pc + 1) L (.int (-x) :: S))) : Ok p l e R s m args below meth c own Z a0 EL n0 h0 ws wd Q sf h cells slots (mkF m pc L (.int x :: S)) :=
  ok_step (fun T t hA k => XS.ineg hA G.1 rfl (hb G.2.1 hd) rfl k) k
theorem ok_i2b (G : Good p meth c code maxL ret nm) {pc : Nat} {L : Array Slot} {S : List Value} {x : Int32} (hd : decode code pc = .ok (.i2b, 1)) (k : Ok p l e R s m args below meth c own Z a0 EL n0 h0 ws wd Q sf h cells slots (mkF m (pc + 1) L (.int x.toInt8.toInt32 :: S))) : Ok p l e R s m args below meth c own Z a0 EL n0 h0 ws wd Q sf h cells slots (mkF m pc L (.int x :: S)) :=
  ok_step (fun T t hA k => XS.i2b hA G.1 rfl (hb G.2.1 hd) rfl k) k
theorem ok_i2c (G : Good p meth c code maxL ret nm) {pc : Nat} {L : Array Slot} {S : List Value} {x : Int32} (hd : decode code pc = .ok (.i2c, 1)) (k : Ok p l e R s m args below meth c own Z a0 EL n0 h0 ws wd Q sf h cells slots (mkF m (pc + 1) L (.int x.toUInt32.toUInt16.toUInt32.toInt32 :: S))) : Ok p l e R s m args below meth c own Z a0 EL n0 h0 ws wd Q sf h cells slots (mkF m pc L (.int x :: S)) :=
  ok_step (fun T t hA k => XS.i2c hA G.1 rfl (hb G.2.1 hd) rfl k) k
theorem ok_i2l (G : Good p meth c code maxL ret nm) {pc : Nat} {L : Array Slot} {S : List Value} {x : Int32} (hd : decode code pc = .ok (.i2l, 1)) (k : Ok p l e R s m args below meth c own Z a0 EL n0 h0 ws wd Q sf h cells slots (mkF m (pc + 1) L (.long x.toInt64 :: S))) : Ok p l e R s m args below meth c own Z a0 EL n0 h0 ws wd Q sf h cells slots (mkF m pc L (.int x :: S)) :=
  ok_step (fun T t hA k => XS.i2l hA G.1 rfl (hb G.2.1 hd) rfl k) k
theorem ok_l2i (G : Good p meth c code maxL ret nm) {pc : Nat} {L : Array Slot} {S : List Value} {x : Int64} (hd : decode code pc = .ok (.l2i, 1)) (k : Ok p l e R s m args below meth c own Z a0 EL n0 h0 ws wd Q sf h cells slots (mkF m (pc + 1) L (.int x.toInt32 :: S))) : Ok p l e R s m args below meth c own Z a0 EL n0 h0 ws wd Q sf h cells slots (mkF m pc L (.long x :: S)) :=
  ok_step (fun T t hA k => XS.l2i hA G.1 rfl (hb G.2.1 hd) rfl k) k
theorem ok_lcmp (G : Good p meth c code maxL ret nm) {pc : Nat} {L : Array Slot} {S : List Value} {x y : Int64} (hd : decode code pc = .ok (.lcmp, 1)) (k : Ok p l e R s m args below meth c own Z a0 EL n0 h0 ws wd Q sf h cells slots (mkF m (pc + 1) L (.int (lcmpW x y) :: S))) : Ok p l e R s m args below meth c own Z a0 EL n0 h0 ws wd Q sf h cells slots (mkF m pc L (.long y :: .long x :: S)) :=
  ok_step (fun T t hA k => XS.lcmp hA G.1 rfl (hb G.2.1 hd) rfl k) k
theorem ok_dup (G : Good p meth c code maxL ret nm) {pc : Nat} {L : Array Slot} {S : List Value} {v : Value} (hd : decode code pc = .ok (.dup, 1)) (hc : v.category = 1) (k : Ok p l e R s m args below meth c own Z a0 EL n0 h0 ws wd Q sf h cells slots (mkF m (pc + 1) L (v :: v :: S))) : Ok p l e R s m args below meth c own Z a0 EL n0 h0 ws wd Q sf h cells slots (mkF m pc L (v :: S)) :=
  ok_step (fun T t hA k => XS.dup hA G.1 rfl (hb G.2.1 hd) rfl hc k) k
theorem ok_pop (G : Good p meth c code maxL ret nm) {pc : Nat} {L : Array Slot} {S : List Value} {v : Value} (hd : decode code pc = .ok (.pop, 1)) (hc : v.category = 1) (k : Ok p l e R s m args below meth c own Z a0 EL n0 h0 ws wd Q sf h cells slots (mkF m (pc + 1) L S)) : Ok p l e R s m args below meth c own Z a0 EL n0 h0 ws wd Q sf h cells slots (mkF m pc L (v :: S)) :=
  ok_step (fun T t hA k => XS.pop hA G.1 rfl (hb G.2.1 hd) rfl hc k) k
theorem ok_dup_x1 (G : Good p meth c code maxL ret nm) {pc : Nat} {L : Array Slot} {S : List Value} {v w : Value} (hd : decode code pc = .ok (.dup_x1, 1)) (hc : v.category = 1) (hc2 : w.category = 1) (k : Ok p l e R s m args below meth c own Z a0 EL n0 h0 ws wd Q sf h cells slots (mkF m (pc + 1) L (v :: w :: v :: S))) : Ok p l e R s m args below meth c own Z a0 EL n0 h0 ws wd Q sf h cells slots (mkF m pc L (v :: w :: S)) :=
  ok_step (fun T t hA k => XS.dupX1 hA G.1 rfl (hb G.2.1 hd) rfl hc hc2 k) k
theorem ok_iinc (G : Good p meth c code maxL ret nm) {pc : Nat} {L : Array Slot} {S : List Value} {k0 : Nat} {cst : Int} {x : Int32} (v : Int32) (L' : Array Slot) (hd : decode code pc = .ok (.iinc k0 cst, 3)) (hl : L[k0]? = some (.val (.int x))) (hv : x + Int32.ofInt cst = v) (hl' : storeLocals L k0 (.int v) = some L') (k : Ok p l e R s m args below meth c own Z a0 EL n0 h0 ws wd Q sf h cells slots (mkF m (pc + 3) L' S)) : Ok p l e R s m args below meth c own Z a0 EL n0 h0 ws wd Q sf h cells slots (mkF m pc L S) :=
  ok_step (fun T t hA k => XS.iinc hA G.1 rfl (hb G.2.1 hd) hl (by rw [hv]; exact hl') k) k
theorem ok_goto (G : Good p meth c code maxL ret nm) {pc : Nat} {L : Array Slot} {S : List Value} {o : Int} (pc' : Nat) (hd : decode code pc = .ok (.goto o, 3)) (ho : 0 ≤ (pc : Int) + o) (hp : ((pc : Int) + o).toNat = pc') (k : Ok p l e R s m args below meth c own Z a0 EL n0 h0 ws wd Q sf h cells slots (mkF m pc' L S)) : Ok p l e R s m args below meth c own Z a0 EL n0 h0 ws wd Q sf h cells slots (mkF m pc L S) :=
  ok_step (fun T t hA k => XS.goto hA G.1 rfl rfl (hb G.2.1 hd) ho hp k) k
theorem ok_ifeq (G : Good p meth c code maxL ret nm) {pc : Nat} {L : Array Slot} {S : List Value} {x : Int32} {o : Int} (pc' : Nat) (hd : decode code pc = .ok (.ifCond .eq o, 3)) (ho : 0 ≤ (pc : Int) + o) (hp : ((pc : Int) + o).toNat = pc') (ky : x = 0 → Ok p l e R s m args below meth c own Z a0 EL n0 h0 ws wd Q sf h cells slots (mkF m pc' L S)) (kn : ¬ x = 0 → Ok p l e R s m args below meth c own Z a0 EL n0 h0 ws wd Q sf h cells slots (mkF m (pc + 3) L S)) : Ok p l e R s m args below meth c own Z a0 EL n0 h0 ws wd Q sf h cells slots (mkF m pc L (.int x :: S)) := by
  by_cases q : x = 0
  · exact ok_step (fun T t hA k => XS.ifYes hA G.1 rfl rfl (hb G.2.1 hd) rfl ((if0 _ _).trans (teq q).1) ho hp k) (ky q)
  · exact ok_step (fun T t hA k => XS.ifNo hA G.1 rfl (hb G.2.1 hd) rfl ((if0 _ _).trans (feq q).1) k) (kn q)
theorem ok_ifeqY (G : Good p meth c code maxL ret nm) {pc : Nat} {L : Array Slot} {S : List Value} {x : Int32} {o : Int} (pc' : Nat) (hd : decode code pc = .ok (.ifCond .eq o, 3)) (ho : 0 ≤ (pc : Int) + o) (hp : ((pc : Int) + o).toNat = pc') (q : x = 0) (k : Ok p l e R s m args below meth c own Z a0 EL n0 h0 ws wd Q sf h cells slots (mkF m pc' L S)) : Ok p l e R s m args below meth c own Z a0 EL n0 h0 ws wd Q sf h cells slots (mkF m pc L (.int x :: S)) := ok_ifeq G pc' hd ho hp (fun _ => k) (fun q' => absurd q q')
theorem ok_ifeqN (G : Good p meth c code maxL ret nm) {pc : Nat} {L : Array Slot} {S : List Value} {x : Int32} {o : Int} (hd : decode code pc = .ok (.ifCond .eq o, 3)) (q : ¬ x = 0) (k : Ok p l e R s m args below meth c own Z a0 EL n0 h0 ws wd Q sf h cells slots (mkF m (pc + 3) L S)) : Ok p l e R s m args below meth c own Z a0 EL n0 h0 ws wd Q sf h cells slots (mkF m pc L (.int x :: S)) :=
  ok_step (fun T t hA k => XS.ifNo hA G.1 rfl (hb G.2.1 hd) rfl ((if0 _ _).trans (feq q).1) k) k
theorem ok_icmpeq (G : Good p meth c code maxL ret nm) {pc : Nat} {L : Array Slot} {S : List Value} {x y : Int32} {o : Int} (pc' : Nat) (hd : decode code pc = .ok (.if_icmp .eq o, 3)) (ho : 0 ≤ (pc : Int) + o) (hp : ((pc : Int) + o).toNat = pc') (ky : x = y → Ok p l e R s m args below meth c own Z a0 EL n0 h0 ws wd Q sf h cells slots (mkF m pc' L S)) (kn : ¬ x = y → Ok p l e R s m args below meth c own Z a0 EL n0 h0 ws wd Q sf h cells slots (mkF m (pc + 3) L S)) : Ok p l e R s m args below meth c own Z a0 EL n0 h0 ws wd Q sf h cells slots (mkF m pc L (.int y :: .int x :: S)) := by
  by_cases q : x = y
  · exact ok_step (fun T t hA k => XS.icmpYes hA G.1 rfl rfl (hb G.2.1 hd) rfl (teq q).1 ho hp k) (ky q)
  · exact ok_step (fun T t hA k => XS.icmpNo hA G.1 rfl (hb G.2.1 hd) rfl (feq q).1 k) (kn q)
theorem ok_icmpeqY (G : Good p meth c code maxL ret nm) {pc : Nat} {L : Array Slot} {S : List Value} {x y : Int32} {o : Int} (pc' : Nat) (hd : decode code pc = .ok (.if_icmp .eq o, 3)) (ho : 0 ≤ (pc : Int) + o) (hp : ((pc : Int) + o).toNat = pc') (q : x = y) (k : Ok p l e R s m args below meth c own Z a0 EL n0 h0 ws wd Q sf h cells slots (mkF m pc' L S)) : Ok p l e R s m args below meth c own Z a0 EL n0 h0 ws wd Q sf h cells slots (mkF m pc L (.int y :: .int x :: S)) := ok_icmpeq G pc' hd ho hp (fun _ => k) (fun q' => absurd q q')
theorem ok_icmpeqN (G : Good p meth c code maxL ret nm) {pc : Nat} {L : Array Slot} {S : List Value} {x y : Int32} {o : Int} (hd : decode code pc = .ok (.if_icmp .eq o, 3)) (q : ¬ x = y) (k : Ok p l e R s m args below meth c own Z a0 EL n0 h0 ws wd Q sf h cells slots (mkF m (pc + 3) L S)) : Ok p l e R s m args below meth c own Z a0 EL n0 h0 ws wd Q sf h cells slots (mkF m pc L (.int y :: .int x :: S)) :=
  ok_step (fun T t hA k => XS.icmpNo hA G.1 rfl (hb G.2.1 hd) rfl (feq q).1 k) k
theorem ok_ifne (G : Good p meth c code maxL ret nm) {pc : Nat} {L : Array Slot} {S : List Value} {x : Int32} {o : Int} (pc' : Nat) (hd : decode code pc = .ok (.ifCond .ne o, 3)) (ho : 0 ≤ (pc : Int) + o) (hp : ((pc : Int) + o).toNat = pc') (ky : ¬ x = 0 → Ok p l e R s m args below meth c own Z a0 EL n0 h0 ws wd Q sf h cells slots (mkF m pc' L S)) (kn : x = 0 → Ok p l e R s m args below meth c own Z a0 EL n0 h0 ws wd Q sf h cells slots (mkF m (pc + 3) L S)) : Ok p l e R s m args below meth c own Z a0 EL n0 h0 ws wd Q sf h cells slots (mkF m pc L (.int x :: S)) := by
  by_cases q : x = 0
  · exact ok_step (fun T t hA k => XS.ifNo hA G.1 rfl (hb G.2.1 hd) rfl ((if0 _ _).trans (teq q).2) k) (kn q)
  · exact ok_step (fun T t hA k => XS.ifYes hA G.1 rfl rfl (hb G.2.1 hd) rfl ((if0 _ _).trans (feq q).2) ho hp k) (ky q)
theorem ok_ifneY (G : Good p meth c code maxL ret nm) {pc : Nat} {L : Array Slot} {S : List Value} {x : Int32} {o : Int} (pc' : Nat) (hd : decode code pc = .ok (.ifCond .ne o, 3)) (ho : 0 ≤ (pc : Int) + o) (hp : ((pc : Int) + o).toNat = pc') (q : ¬ x = 0) (k : Ok p l e R s m args below meth c own Z a0 EL n0 h0 ws wd Q sf h cells slots (mkF m pc' L S)) : Ok p l e R s m args below meth c own Z a0 EL n0 h0 ws wd Q sf h cells slots (mkF m pc L (.int x :: S)) := ok_ifne G pc' hd ho hp (fun _ => k) (fun q' => absurd q' q)
theorem ok_ifneN (G : Good p meth c code maxL ret nm) {pc : Nat} {L : Array Slot} {S : List Value} {x : Int32} {o : Int} (hd : decode code pc = .ok (.ifCond .ne o, 3)) (q : x = 0) (k : Ok p l e R s m args below meth c own Z a0 EL n0 h0 ws wd Q sf h cells slots (mkF m (pc + 3) L S)) : Ok p l e R s m args below meth c own Z a0 EL n0 h0 ws wd Q sf h cells slots (mkF m pc L (.int x :: S)) :=
  ok_step (fun T t hA k => XS.ifNo hA G.1 rfl (hb G.2.1 hd) rfl ((if0 _ _).trans (teq q).2) k) k
theorem ok_icmpne (G : Good p meth c code maxL ret nm) {pc : Nat} {L : Array Slot} {S : List Value} {x y : Int32} {o : Int} (pc' : Nat) (hd : decode code pc = .ok (.if_icmp .ne o, 3)) (ho : 0 ≤ (pc : Int) + o) (hp : ((pc : Int) + o).toNat = pc') (ky : ¬ x = y → Ok p l e R s m args below meth c own Z a0 EL n0 h0 ws wd Q sf h cells slots (mkF m pc' L S)) (kn : x = y → Ok p l e R s m args below meth c own Z a0 EL n0 h0 ws wd Q sf h cells slots (mkF m (pc + 3) L S)) : Ok p l e R s m args below meth c own Z a0 EL n0 h0 ws wd Q sf h cells slots (mkF m pc L (.int y :: .int x :: S)) := by
  by_cases q : x = y
  · exact ok_step (fun T t hA k => XS.icmpNo hA G.1 rfl (hb G.2.1 hd) rfl (teq q).2 k) (kn q)
  · exact ok_step (fun T t hA k => XS.icmpYes hA G.1 rfl rfl (hb G.2.1 hd) rfl (feq q).2 ho hp k) (ky q)
theorem ok_icmpneY (G : Good p meth c code maxL ret nm) {pc : Nat} {L : Array Slot} {S : List Value} {x y : Int32} {o : Int} (pc' : Nat) (hd : decode code pc = .ok (.if_icmp .ne o, 3)) (ho : 0 ≤ (pc : Int) + o) (hp : ((pc : Int) + o).toNat = pc') (q : ¬ x = y) (k : Ok p l e R s m args below meth c own Z a0 EL n0 h0 ws wd Q sf h cells slots (mkF m pc' L S)) : Ok p l e R s m args below meth c own Z a0 EL n0 h0 ws wd Q sf h cells slots (mkF m pc L (.int y :: .int x :: S)) := ok_icmpne G pc' hd ho hp (fun _ => k) (fun q' => absurd q' q)
theorem ok_icmpneN (G : Good p meth c code maxL ret nm) {pc : Nat} {L : Array Slot} {S : List Value} {x y : Int32} {o : Int} (hd : decode code pc = .ok (.if_icmp .ne o, 3)) (q : x = y) (k : Ok p l e R s m args below meth c own Z a0 EL n0 h0 ws wd Q sf h cells slots (mkF m (pc + 3) L S)) : Ok p l e R s m args below meth c own Z a0 EL n0 h0 ws wd Q sf h cells slots (mkF m pc L (.int y :: .int x :: S)) :=
  ok_step (fun T t hA k => XS.icmpNo hA G.1 rfl (hb G.2.1 hd) rfl (teq q).2 k) k
theorem ok_iflt (G : Good p meth c code maxL ret nm) {pc : Nat} {L : Array Slot} {S : List Value} {x : Int32} {o : Int} (pc' : Nat) (hd : decode code pc = .ok (.ifCond .lt o, 3)) (ho : 0 ≤ (pc : Int) + o) (hp : ((pc : Int) + o).toNat = pc') (ky : x < 0 → Ok p l e R s m args below meth c own Z a0 EL n0 h0 ws wd Q sf h cells slots (mkF m pc' L S)) (kn : ¬ x < 0 → Ok p l e R s m args below meth c own Z a0 EL n0 h0 ws wd Q sf h cells slots (mkF m (pc + 3) L S)) : Ok p l e R s m args below meth c own Z a0 EL n0 h0 ws wd Q sf h cells slots (mkF m pc L (.int x :: S)) := by
  by_cases q : x < 0
  · exact ok_step (fun T t hA k => XS.ifYes hA G.1 rfl rfl (hb G.2.1 hd) rfl ((if0 _ _).trans (tlt q).1) ho hp k) (ky q)
  · exact ok_step (fun T t hA k => XS.ifNo hA G.1 rfl (hb G.2.1 hd) rfl ((if0 _ _).trans (flt q).1) k) (kn q)
theorem ok_ifltY (G : Good p meth c code maxL ret nm) {pc : Nat} {L : Array Slot} {S : List Value} {x : Int32} {o : Int} (pc' : Nat) (hd : decode code pc = .ok (.ifCond .lt o, 3)) (ho : 0 ≤ (pc : Int) + o) (hp : ((pc : Int) + o).toNat = pc') (q : x < 0) (k : Ok p l e R s m args below meth c own Z a0 EL n0 h0 ws wd Q sf h cells slots (mkF m pc' L S)) : Ok p l e R s m args below meth c own Z a0 EL n0 h0 ws wd Q sf h cells slots (mkF m pc L (.int x :: S)) := ok_iflt G pc' hd ho hp (fun _ => k) (fun q' => absurd q q')
theorem ok_ifltN (G : Good p meth c code maxL ret nm) {pc : Nat} {L : Array Slot} {S : List Value} {x : Int32} {o : Int} (hd : decode code pc = .ok (.ifCond .lt o, 3)) (q : ¬ x < 0) (k : Ok p l e R s m args below meth c own Z a0 EL n0 h0 ws wd Q sf h cells slots (mkF m (pc + 3) L S)) : Ok p l e R s m args below meth c own Z a0 EL n0 h0 ws wd Q sf h cells slots (mkF m pc L (.int x :: S)) :=
  ok_step (fun T t hA k => XS.ifNo hA G.1 rfl (hb G.2.1 hd) rfl ((if0 _ _).trans (flt q).1) k) k
theorem ok_icmplt (G : Good p meth c code maxL ret nm) {pc : Nat} {L : Array Slot} {S : List Value} {x y : Int32} {o : Int} (pc' : Nat) (hd : decode code pc = .ok (.if_icmp .lt o, 3)) (ho : 0 ≤ (pc : Int) + o) (hp : ((pc : Int) + o).toNat = pc') (ky : x < y → Ok p l e R s m args below meth c own Z a0 EL n0 h0 ws wd Q sf h cells slots (mkF m pc' L S)) (kn : ¬ x < y → Ok p l e R s m args below meth c own Z a0 EL n0 h0 ws wd Q sf h cells slots (mkF m (pc + 3) L S)) : Ok p l e R s m args below meth c own Z a0 EL n0 h0 ws wd Q sf h cells slots (mkF m pc L (.int y :: .int x :: S)) := by
  by_cases q : x < y
  · exact ok_step (fun T t hA k => XS.icmpYes hA G.1 rfl rfl (hb G.2.1 hd) rfl (tlt q).1 ho hp k) (ky q)
  · exact ok_step (fun T t hA k => XS.icmpNo hA G.1 rfl (hb G.2.1 hd) rfl (flt q).1 k) (kn q)
theorem ok_icmpltY (G : Good p meth c code maxL ret nm) {pc : Nat} {L : Array Slot} {S : List Value} {x y : Int32} {o : Int} (pc' : Nat) (hd : decode code pc = .ok (.if_icmp .lt o, 3)) (ho : 0 ≤ (pc : Int) + o) (hp : ((pc : Int) + o).toNat = pc') (q : x < y) (k : Ok p l e R s m args below meth c own Z a0 EL n0 h0 ws wd Q sf h cells slots (mkF m pc' L S)) : Ok p l e R s m args below meth c own Z a0 EL n0 h0 ws wd Q sf h cells slots (mkF m pc L (.int y :: .int x :: S)) := ok_icmplt G pc' hd ho hp (fun _ => k) (fun q' => absurd q q')
theorem ok_icmpltN (G : Good p meth c code maxL ret nm) {pc : Nat} {L : Array Slot} {S : List Value} {x y : Int32} {o : Int} (hd : decode code pc = .ok (.if_icmp .lt o, 3)) (q : ¬ x < y) (k : Ok p l e R s m args below meth c own Z a0 EL n0 h0 ws wd Q sf h cells slots (mkF m (pc + 3) L S)) : Ok p l e R s m args below meth c own Z a0 EL n0 h0 ws wd Q sf h cells slots (mkF m pc L (.int y :: .int x :: S)) :=
  ok_step (fun T t hA k => XS.icmpNo hA G.1 rfl (hb G.2.1 hd) rfl (flt q).1 k) k
theorem ok_ifge (G : Good p meth c code maxL ret nm) {pc : Nat} {L : Array Slot} {S : List Value} {x : Int32} {o : Int} (pc' : Nat) (hd : decode code pc = .ok (.ifCond .ge o, 3)) (ho : 0 ≤ (pc : Int) + o) (hp : ((pc : Int) + o).toNat = pc') (ky : ¬ x < 0 → Ok p l e R s m args below meth c own Z a0 EL n0 h0 ws wd Q sf h cells slots (mkF m pc' L S)) (kn : x < 0 → Ok p l e R s m args below meth c own Z a0 EL n0 h0 ws wd Q sf h cells slots (mkF m (pc + 3) L S)) : Ok p l e R s m args below meth c own Z a0 EL n0 h0 ws wd Q sf h cells slots (mkF m pc L (.int x :: S)) := by
  by_cases q : x < 0
  · exact ok_step (fun T t hA k => XS.ifNo hA G.1 rfl (hb G.2.1 hd) rfl ((if0 _ _).trans (tlt q).2.1) k) (kn q)
  · exact ok_step (fun T t hA k => XS.ifYes hA G.1 rfl rfl (hb G.2.1 hd) rfl ((if0 _ _).trans (flt q).2.1) ho hp k) (ky q)
theorem ok_ifgeY (G : Good p meth c code maxL ret nm) {pc : Nat} {L : Array Slot} {S : List Value} {x : Int32} {o : Int} (pc' : Nat) (hd : decode code pc = .ok (.ifCond .ge o, 3)) (ho : 0 ≤ (pc : Int) + o) (hp : ((pc : Int) + o).toNat = pc') (q : ¬ x < 0) (k : Ok p l e R s m args below meth c own Z a0 EL n0 h0 ws wd Q sf h cells slots (mkF m pc' L S)) : Ok p l e R s m args below meth c own Z a0 EL n0 h0 ws wd Q sf h cells slots (mkF m pc L (.int x :: S)) := ok_ifge G pc' hd ho hp (fun _ => k) (fun q' => absurd q' q)
theorem ok_ifgeN (G : Good p meth c code maxL ret nm) {pc : Nat} {L : Array Slot} {S : List Value} {x : Int32} {o : Int} (hd : decode code pc = .ok (.ifCond .ge o, 3)) (q : x < 0) (k : Ok p l e R s m args below meth c own Z a0 EL n0 h0 ws wd Q sf h cells slots (mkF m (pc + 3) L S)) : Ok p l e R s m args below meth c own Z a0 EL n0 h0 ws wd Q sf h cells slots (mkF m pc L (.int x :: S)) :=
  ok_step (fun T t hA k => XS.ifNo hA G.1 rfl (hb G.2.1 hd) rfl ((if0 _ _).trans (tlt q).2.1) k) k
theorem ok_icmpge (G : Good p meth c code maxL ret nm) {pc : Nat} {L : Array Slot} {S : List Value} {x y : Int32} {o : Int} (pc' : Nat) (hd : decode code pc = .ok (.if_icmp .ge o, 3)) (ho : 0 ≤ (pc : Int) + o) (hp : ((pc : Int) + o).toNat = pc') (ky : ¬ x < y → Ok p l e R s m args below meth c own Z a0 EL n0 h0 ws wd Q sf h cells slots (mkF m pc' L S)) (kn : x < y → Ok p l e R s m args below meth c own Z a0 EL n0 h0 ws wd Q sf h cells slots (mkF m (pc + 3) L S)) : Ok p l e R s m args below meth c own Z a0 EL n0 h0 ws wd Q sf h cells slots (mkF m pc L (.int y :: .int x :: S)) := by
  by_cases q : x < y
  · exact ok_step (fun T t hA k => XS.icmpNo hA G.1 rfl (hb G.2.1 hd) rfl (tlt q).2.1 k) (kn q)
  · exact ok_step (fun T t hA k => XS.icmpYes hA G.1 rfl rfl (hb G.2.1 hd) rfl (flt q).2.1 ho hp k) (ky q)
theorem ok_icmpgeY (G : Good p meth c code maxL ret nm) {pc : Nat} {L : Array Slot} {S : List Value} {x y : Int32} {o : Int} (pc' : Nat) (hd : decode code pc = .ok (.if_icmp .ge o, 3)) (ho : 0 ≤ (pc : Int) + o) (hp : ((pc : Int) + o).toNat = pc') (q : ¬ x < y) (k : Ok p l e R s m args below meth c own Z a0 EL n0 h0 ws wd Q sf h cells slots (mkF m pc' L S)) : Ok p l e R s m args below meth c own Z a0 EL n0 h0 ws wd Q sf h cells slots (mkF m pc L (.int y :: .int x :: S)) := ok_icmpge G pc' hd ho hp (fun _ => k) (fun q' => absurd q' q)
theorem ok_icmpgeN (G : Good p meth c code maxL ret nm) {pc : Nat} {L : Array Slot} {S : List Value} {x y : Int32} {o : Int} (hd : decode code pc = .ok (.if_icmp .ge o, 3)) (q : x < y) (k : Ok p l e R s m args below meth c own Z a0 EL n0 h0 ws wd Q sf h cells slots (mkF m (pc + 3) L S)) : Ok p l e R s m args below meth c own Z a0 EL n0 h0 ws wd Q sf h cells slots (mkF m pc L (.int y :: .int x :: S)) :=
  ok_step (fun T t hA k => XS.icmpNo hA G.1 rfl (hb G.2.1 hd) rfl (tlt q).2.1 k) k
theorem ok_ifgt (G : Good p meth c code maxL ret nm) {pc : Nat} {L : Array Slot} {S : List Value} {x : Int32} {o : Int} (pc' : Nat) (hd : decode code pc = .ok (.ifCond .gt o, 3)) (ho : 0 ≤ (pc : Int) + o) (hp : ((pc : Int) + o).toNat = pc') (ky : (0 : Int32) < x → Ok p l e R s m args below meth c own Z a0 EL n0 h0 ws wd Q sf h cells slots (mkF m pc' L S)) (kn : ¬ (0 : Int32) < x → Ok p l e R s m args below meth c own Z a0 EL n0 h0 ws wd Q sf h cells slots (mkF m (pc + 3) L S)) : Ok p l e R s m args below meth c own Z a0 EL n0 h0 ws wd Q sf h cells slots (mkF m pc L (.int x :: S)) := by
  by_cases q : (0 : Int32) < x
  · exact ok_step (fun T t hA k => XS.ifYes hA G.1 rfl rfl (hb G.2.1 hd) rfl ((if0 _ _).trans (tlt q).2.2.1) ho hp k) (ky q)
  · exact ok_step (fun T t hA k => XS.ifNo hA G.1 rfl (hb G.2.1 hd) rfl ((if0 _ _).trans (flt q).2.2.1) k) (kn q)
theorem ok_ifgtY (G : Good p meth c code maxL ret nm) {pc : Nat} {L : Array Slot} {S : List Value} {x : Int32} {o : Int} (pc' : Nat) (hd : decode code pc = .ok (.ifCond .gt o, 3)) (ho : 0 ≤ (pc : Int) + o) (hp : ((pc : Int) + o).toNat = pc') (q : (0 : Int32) < x) (k : Ok p l e R s m args below meth c own Z a0 EL n0 h0 ws wd Q sf h cells slots (mkF m pc' L S)) : Ok p l e R s m args below meth c own Z a0 EL n0 h0 ws wd Q sf h cells slots (mkF m pc L (.int x :: S)) := ok_ifgt G pc' hd ho hp (fun _ => k) (fun q' => absurd q q')
theorem ok_ifgtN (G : Good p meth c code maxL ret nm) {pc : Nat} {L : Array Slot} {S : List Value} {x : Int32} {o : Int} (hd : decode code pc = .ok (.ifCond .gt o, 3)) (q : ¬ (0 : Int32) < x) (k : Ok p l e R s m args below meth c own Z a0 EL n0 h0 ws wd Q sf h cells slots (mkF m (pc + 3) L S)) : Ok p l e R s m args below meth c own Z a0 EL n0 h0 ws wd Q sf h cells slots (mkF m pc L (.int x :: S)) :=
  ok_step (fun T t hA k => XS.ifNo hA G.1 rfl (hb G.2.1 hd) rfl ((if0 _ _).trans (flt q).2.2.1) k) k
theorem ok_icmpgt (G : Good p meth c code maxL ret nm) {pc : Nat} {L : Array Slot} {S : List Value} {x y : Int32} {o : Int} (pc' : Nat) (hd : decode code pc = .ok (.if_icmp .gt o, 3)) (ho : 0 ≤ (pc : Int) + o) (hp : ((pc : Int) + o).toNat = pc') (ky : y < x → Ok p l e R s m args below meth c own Z a0 EL n0 h0 ws wd Q sf h cells slots (mkF m pc' L S)) (kn : ¬ y < x → Ok p l e R s m args below meth c own Z a0 EL n0 h0 ws wd Q sf h cells slots (mkF m (pc + 3) L S)) : Ok p l e R s m args below meth c own Z a0 EL n0 h0 ws wd Q sf h cells slots (mkF m pc L (.int y :: .int x :: S)) := by
  by_cases q : y < x
  · exact ok_step (fun T t hA k => XS.icmpYes hA G.1 rfl rfl (hb G.2.1 hd) rfl (tlt q).2.2.1 ho hp k) (ky q)
  · exact ok_step (fun T t hA k => XS.icmpNo hA G.1 rfl (hb G.2.1 hd) rfl (flt q).2.2.1 k) (kn q)
theorem ok_icmpgtY (G : Good p meth c code maxL ret nm) {pc : Nat} {L : Array Slot} {S : List Value} {x y : Int32} {o : Int} (pc' : Nat) (hd : decode code pc = .ok (.if_icmp .gt o, 3)) (ho : 0 ≤ (pc : Int) + o) (hp : ((pc : Int) + o).toNat = pc') (q : y < x) (k : Ok p l e R s m args below meth c own Z a0 EL n0 h0 ws wd Q sf h cells slots (mkF m pc' L S)) : Ok p l e R s m args below meth c own Z a0 EL n0 h0 ws wd Q sf h cells slots (mkF m pc L (.int y :: .int x :: S)) := ok_icmpgt G pc' hd ho hp (fun _ => k) (fun q' => absurd q q')
theorem ok_icmpgtN (G : Good p meth c code maxL ret nm) {pc : Nat} {L : Array Slot} {S : List Value} {x y : Int32} {o : Int} (hd : decode code pc = .ok (.if_icmp .gt o, 3)) (q : ¬ y < x) (k : Ok p l e R s m args below meth c own Z a0 EL n0 h0 ws wd Q sf h cells slots (mkF m (pc + 3) L S)) : Ok p l e R s m args below meth c own Z a0 EL n0 h0 ws wd Q sf h cells slots (mkF m pc L (.int y :: .int x :: S)) :=
  ok_step (fun T t hA k => XS.icmpNo hA G.1 rfl (hb G.2.1 hd) rfl (flt q).2.2.1 k) k
theorem ok_ifle (G : Good p meth c code maxL ret nm) {pc : Nat} {L : Array Slot} {S : List Value} {x : Int32} {o : Int} (pc' : Nat) (hd : decode code pc = .ok (.ifCond .le o, 3)) (ho : 0 ≤ (pc : Int) + o) (hp : ((pc : Int) + o).toNat = pc') (ky : ¬ (0 : Int32) < x → Ok p l e R s m args below meth c own Z a0 EL n0 h0 ws wd Q sf h cells slots (mkF m pc' L S)) (kn : (0 : Int32) < x → Ok p l e R s m args below meth c own Z a0 EL n0 h0 ws wd Q sf h cells slots (mkF m (pc + 3) L S)) : Ok p l e R s m args below meth c own Z a0 EL n0 h0 ws wd Q sf h cells slots (mkF m pc L (.int x :: S)) := by
  by_cases q : (0 : Int32) < x
  · exact ok_step (fun T t hA k => XS.ifNo hA G.1 rfl (hb G.2.1 hd) rfl ((if0 _ _).trans (tlt q).2.2.2) k) (kn q)
  · exact ok_step (fun T t hA k => XS.ifYes hA G.1 rfl rfl (hb G.2.1 hd) rfl ((if0 _ _).trans (flt q).2.2.2) ho hp k) (ky q)
theorem ok_ifleY (G : Good p meth c code maxL ret nm) {pc : Nat} {L : Array Slot} {S : List Value} {x : Int32} {o : Int} (pc' : Nat) (hd : decode code pc = .ok (.ifCond .le o, 3)) (ho : 0 ≤ (pc : Int) + o) (hp : ((pc : Int) + o).toNat = pc') (q : ¬ (0 : Int32) < x) (k : Ok p l e R s m args below meth c own Z a0 EL n0 h0 ws wd Q sf h cells slots (mkF m pc' L S)) : Ok p l e R s m args below meth c own Z a0 EL n0 h0 ws wd Q sf h cells slots (mkF m pc L (.int x :: S)) := ok_ifle G pc' hd ho hp (fun _ => k) (fun q' => absurd q' q)
theorem ok_ifleN (G : Good p meth c code maxL ret nm) {pc : Nat} {L : Array Slot} {S : List Value} {x : Int32} {o : Int} (hd : decode code pc = .ok (.ifCond .le o, 3)) (q : (0 : Int32) < x) (k : Ok p l e R s m args below meth c own Z a0 EL n0 h0 ws wd Q sf h cells slots (mkF m (pc + 3) L S)) : Ok p l e R s m args below meth c own Z a0 EL n0 h0 ws wd Q sf h cells slots (mkF m pc L (.int x :: S)) :=
  ok_step (fun T t hA k => XS.ifNo hA G.1 rfl (hb G.2.1 hd) rfl ((if0 _ _).trans (tlt q).2.2.2) k) k
theorem ok_icmple (G : Good p meth c code maxL ret nm) {pc : Nat} {L : Array Slot} {S : List Value} {x y : Int32} {o : Int} (pc' : Nat) (hd : decode code pc = .ok (.if_icmp .le o, 3)) (ho : 0 ≤ (pc : Int) + o) (hp : ((pc : Int) + o).toNat = pc') (ky : ¬ y < x → Ok p l e R s m args below meth c own Z a0 EL n0 h0 ws wd Q sf h cells slots (mkF m pc' L S)) (kn : y < x → Ok p l e R s m args below meth c own Z a0 EL n0 h0 ws wd Q sf h cells slots (mkF m (pc + 3) L S)) : Ok p l e R s m args below meth c own Z a0 EL n0 h0 ws wd Q sf h cells slots (mkF m pc L (.int y :: .int x :: S)) := by
  by_cases q : y < x
  · exact ok_step (fun T t hA k => XS.icmpNo hA G.1 rfl (hb G.2.1 hd) rfl (tlt q).2.2.2 k) (kn q)
  · exact ok_step (fun T t hA k => XS.icmpYes hA G.1 rfl rfl (hb G.2.1 hd) rfl (flt q).2.2.2 ho hp k) (ky q)
theorem ok_icmpleY (G : Good p meth c code maxL ret nm) {pc : Nat} {L : Array Slot} {S : List Value} {x y : Int32} {o : Int} (pc' : Nat) (hd : decode code pc = .ok (.if_icmp .le o, 3)) (ho : 0 ≤ (pc : Int) + o) (hp : ((pc : Int) + o).toNat = pc') (q : ¬ y < x) (k : Ok p l e R s m args below meth c own Z a0 EL n0 h0 ws wd Q sf h cells slots (mkF m pc' L S)) : Ok p l e R s m args below meth c own Z a0 EL n0 h0 ws wd Q sf h cells slots (mkF m pc L (.int y :: .int x :: S)) := ok_icmple G pc' hd ho hp (fun _ => k) (fun q' => absurd q' q)
theorem ok_icmpleN (G : Good p meth c code maxL ret nm) {pc : Nat} {L : Array Slot} {S : List Value} {x y : Int32} {o : Int} (hd : decode code pc = .ok (.if_icmp .le o, 3)) (q : y < x) (k : Ok p l e R s m args below meth c own Z a0 EL n0 h0 ws wd Q sf h cells slots (mkF m (pc + 3) L S)) : Ok p l e R s m args below meth c own Z a0 EL n0 h0 ws wd Q sf h cells slots (mkF m pc L (.int y :: .int x :: S)) :=
  ok_step (fun T t hA k => XS.icmpNo hA G.1 rfl (hb G.2.1 hd) rfl (tlt q).2.2.2 k) k
theorem ok_ifnullY (G : Good p meth c code maxL ret nm) {pc : Nat} {L : Array Slot} {S : List Value} {o : Int} (pc' : Nat) (hd : decode code pc = .ok (.ifnull o, 3)) (ho : 0 ≤ (pc : Int) + o) (hp : ((pc : Int) + o).toNat = pc') (k : Ok p l e R s m args below meth c own Z a0 EL n0 h0 ws wd Q sf h cells slots (mkF m pc' L S)) : Ok p l e R s m args below meth c own Z a0 EL n0 h0 ws wd Q sf h cells slots (mkF m pc L (.null :: S)) := ok_step (fun T t hA k => XS.ifnullYes hA G.1 rfl rfl (hb G.2.1 hd) rfl ho hp k) k
theorem ok_ifnullN (G : Good p meth c code maxL ret nm) {pc : Nat} {L : Array Slot} {S : List Value} {o : Int} {b : Addr} (hd : decode code pc = .ok (.ifnull o, 3)) (k : Ok p l e R s m args below meth c own Z a0 EL n0 h0 ws wd Q sf h cells slots (mkF m (pc + 3) L S)) : Ok p l e R s m args below meth c own Z a0 EL n0 h0 ws wd Q sf h cells slots (mkF m pc L (.ref b :: S)) := ok_step (fun T t hA k => XS.ifnullNo hA G.1 rfl (hb G.2.1 hd) rfl k) k
theorem ok_ifnonnullY (G : Good p meth c code maxL ret nm) {pc : Nat} {L : Array Slot} {S : List Value} {o : Int} {b : Addr} (pc' : Nat) (hd : decode code pc = .ok (.ifnonnull o, 3)) (ho : 0 ≤ (pc : Int) + o) (hp : ((pc : Int) + o).toNat = pc') (k : Ok p l e R s m args below meth c own Z a0 EL n0 h0 ws wd Q sf h cells slots (mkF m pc' L S)) : Ok p l e R s m args below meth c own Z a0 EL n0 h0 ws wd Q sf h cells slots (mkF m pc L (.ref b :: S)) := ok_step (fun T t hA k => XS.ifnonnullYes hA G.1 rfl rfl (hb G.2.1 hd) rfl ho hp k) k
theorem ok_ifnonnullN (G : Good p meth c code maxL ret nm) {pc : Nat} {L : Array Slot} {S : List Value} {o : Int} (hd : decode code pc = .ok (.ifnonnull o, 3)) (k : Ok p l e R s m args below meth c own Z a0 EL n0 h0 ws wd Q sf h cells slots (mkF m (pc + 3) L S)) : Ok p l e R s m args below meth c own Z a0 EL n0 h0 ws wd Q sf h cells slots (mkF m pc L (.null :: S)) := ok_step (fun T t hA k => XS.ifnonnullNo hA G.1 rfl (hb G.2.1 hd) rfl k) k
theorem ok_acmp (G : Good p meth c code maxL ret nm) {pc : Nat} {L : Array Slot} {S : List Value} {o : Int} {cd : ClassFile.ACond} {v w : Value} (same : Bool) (pc' : Nat) (hd : decode code pc = .ok (.if_acmp cd o, 3)) (h1 : v.isRef = true) (h2 : w.isRef = true) (hq : decide (v = w) = same) (ho : 0 ≤ (pc : Int) + o) (hp : pc' = if acV cd same = true then ((pc : Int) + o).toNat else pc + 3) (k : Ok p l e R s m args below meth c own Z a0 EL n0 h0 ws wd Q sf h cells slots (mkF m pc' L S)) : Ok p l e R s m args below meth c own Z a0 EL n0 h0 ws wd Q sf h cells slots (mkF m pc L (w :: v :: S)) :=
  ok_stepT (fun vm T locs X e0 hZ hown O => ⟨T, X, e0, fun t k => Jvm.RoadKit.acmp X G.1 rfl h1 h2 rfl (hb G.2.1 hd) rfl hq ho hp k⟩) k
theorem ok_ldcI (G : Good p meth c code maxL ret nm) {pc : Nat} {L : Array Slot} {S : List Value} {i : Nat} {v : Int32} (w : (Jvm.Cond.constant own i v).before a0 Z = true) (hd : decode code pc = .ok (.ldc i, 2)) (k : Ok p l e R s m args below meth c own Z a0 EL n0 h0 ws wd Q sf h cells slots (mkF m (pc + 2) L (.int v :: S))) : Ok p l e R s m args below meth c own Z a0 EL n0 h0 ws wd Q sf h cells slots (mkF m pc L S) :=
  ok_stepT (fun vm T locs X e0 hZ hown O => ⟨T, X, e0, fun t k => X.ldcInt G.1 hown (mvT (s := s.setVm vm) hZ w) (g := mkF m pc L S) rfl (hb G.2.1 hd) t k⟩) k
theorem ok_ldcJ (G : Good p meth c code maxL ret nm) {pc : Nat} {L : Array Slot} {S : List Value} {i : Nat} {v : Int64} (w : (Jvm.Cond.constantLong own i v).before a0 Z = true) (hd : decode code pc = .ok (.ldc2_w i, 3)) (k : Ok p l e R s m args below meth c own Z a0 EL n0 h0 ws wd Q sf h cells slots (mkF m (pc + 3) L (.long v :: S))) : Ok p l e R s m args below meth c own Z a0 EL n0 h0 ws wd Q sf h cells slots (mkF m pc L S) :=
  ok_stepT (fun vm T locs X e0 hZ hown O => ⟨T, X, e0, fun t k => X.ldc2Long G.1 hown (mvT (s := s.setVm vm) hZ w) (g := mkF m pc L S) rfl (hb G.2.1 hd) t k⟩) k
theorem ok_nameI {pc : Nat} {L : Array Slot} {S : List Value} {x : Int32} (k : ∀ z, z = x → Ok p l e R s m args below meth c own Z a0 EL n0 h0 ws wd Q sf h cells slots (mkF m pc L (.int z :: S))) : Ok p l e R s m args below meth c own Z a0 EL n0 h0 ws wd Q sf h cells slots (mkF m pc L (.int x :: S)) := k x rfl
theorem ok_nameJ {pc : Nat} {L : Array Slot} {S : List Value} {x : Int64} (k : ∀ z, z = x → Ok p l e R s m args below meth c own Z a0 EL n0 h0 ws wd Q sf h cells slots (mkF m pc L (.long z :: S))) : Ok p l e R s m args below meth c own Z a0 EL n0 h0 ws wd Q sf h cells slots (mkF m pc L (.long x :: S)) := k x rfl
theorem ok_sayI {pc : Nat} {L : Array Slot} {S : List Value} {x : Int32} (z : Int32) (q : x = z) (k : Ok p l e R s m args below meth c own Z a0 EL n0 h0 ws wd Q sf h cells slots (mkF m pc L (.int z :: S))) : Ok p l e R s m args below meth c own Z a0 EL n0 h0 ws wd Q sf h cells slots (mkF m pc L (.int x :: S)) := q ▸ k
theorem ok_sayJ {pc : Nat} {L : Array Slot} {S : List Value} {x : Int64} (z : Int64) (q : x = z) (k : Ok p l e R s m args below meth c own Z a0 EL n0 h0 ws wd Q sf h cells slots (mkF m pc L (.long z :: S))) : Ok p l e R s m args below meth c own Z a0 EL n0 h0 ws wd Q sf h cells slots (mkF m pc L (.long x :: S)) := q ▸ k
end Plain
end Jvm.Pilot.@@N@@.Own
namespace Jvm.Pilot.@@N@@.Own
open Jvm Jvm.ClassFile Sem Op Lib Jvm.Free Jvm.Stand Jvm.LawKit Jvm.RoadKit Bundle
section Heaps
variable {p : Program} {l : Launch} {e : Env} {R : Room} {s : State} {m : MethodId} {args : Array Value} {below : List Frame} {meth : Method} {c : Code}
  {own : String} {Z : State} {a0 : Array Value} {EL : List (String × Nat)} {n0 : Nat} {h0 : Heap} {ws : List Addr} {wd : Bool} {Q : Option Value → Heap → Prop}
  {sf : List Addr} {h : Heap} {cells slots : Nat} {code : ByteArray} {maxL : Nat} {ret : Option FieldType} {nm : String} {a : Addr}
theorem ok_getF (G : Good p meth c code maxL ret nm) {pc : Nat} {L : Array Slot} {S : List Value} {R0 O n d host : String} {index : Nat} (w : (Jvm.Cond.fieldLink own index R0 n d).before a0 Z = true ∨ (Jvm.Cond.fieldLinkNest own index R0 n d host).before a0 Z = true) (via : Via Z R0 O n d) {v : Value} (F : Fld Z h a O n d v) (hd : decode code pc = .ok (.getfield index, 3))
    (k : Ok p l e R s m args below meth c own Z a0 EL n0 h0 ws wd Q sf h cells slots (mkF m (pc + 3) L (v :: S))) : Ok p l e R s m args below meth c own Z a0 EL n0 h0 ws wd Q sf h cells slots (mkF m pc L (.ref a :: S)) :=
  ok_stepT (fun vm T locs X e0 hZ hown O => getF X G.1 hZ hown w via e0 F (g := mkF m pc L (.ref a :: S)) rfl rfl (hb G.2.1 hd)) k
theorem ok_getS (G : Good p meth c code maxL ret nm) {pc : Nat} {L : Array Slot} {S : List Value} {R0 O n d host : String} {index : Nat} (w : (Jvm.Cond.fieldLink own index R0 n d).before a0 Z = true ∨ (Jvm.Cond.fieldLinkNest own index R0 n d host).before a0 Z = true) (via : Via Z R0 O n d) {v : Value} (F : Sta Z Z.heap O n d v) (hd : decode code pc = .ok (.getstatic index, 3))
    (k : Ok p l e R s m args below meth c own Z a0 EL n0 h0 ws wd Q sf h cells slots (mkF m (pc + 3) L (v :: S))) : Ok p l e R s m args below meth c own Z a0 EL n0 h0 ws wd Q sf h cells slots (mkF m pc L S) :=
  ok_stepT (fun vm T locs X e0 hZ hown O' => getS2 X G.1 hZ hown w via e0 (F.ext O'.2) (g := mkF m pc L S) rfl (hb G.2.1 hd)) k
theorem ok_putF (G : Good p meth c code maxL ret nm) {pc : Nat} {L : Array Slot} {S : List Value} {R0 O n d host C : String} {index kk : Nat} {ty : FieldType} (w : (Jvm.Cond.fieldLink own index R0 n d).before a0 Z = true ∨ (Jvm.Cond.fieldLinkNest own index R0 n d host).before a0 Z = true) (via : Via Z R0 O n d) {v old : Value} (F : Fld Z h a O n d old) (E : Exa Z h a C)
    (Lw : (Jvm.Cond.lays C O n d).before a0 Z = true ∨ ((Jvm.Cond.laysFinal C O n d).before a0 Z = true ∧ own = O ∧ nm = "<init>")) (wi : (Jvm.Cond.instantiable C kk).before a0 Z = true) (hty : parseFieldDescriptor d = some ty) (hn : narrow ty v = v) (hf : fits ty v = true) (hd : decode code pc = .ok (.putfield index, 3))
    (hg : n0 ≤ a) (hw : a ∈ ws ∨ h0.size ≤ a) (hs : SafeFor wd Z EL sf h a)
    (k : ∀ h', Keep h h' [a] → Wr h h' a (Jvm.RoadKit.slotOf Z O n d) v → Fld Z h' a O n d v → Ok p l e R s m args below meth c own Z a0 EL n0 h0 ws wd Q sf h' cells slots (mkF m (pc + 3) L S)) : Ok p l e R s m args below meth c own Z a0 EL n0 h0 ws wd Q sf h cells slots (mkF m pc L (v :: .ref a :: S)) :=
  ok_stepW hg hw hs (fun vm T locs X e0 hZ hown O => putF X G.1 hZ hown w via e0 F E (Lw.imp id fun q => ⟨q.1, q.2.1, G.2.2.2.2.2.trans q.2.2⟩) wi hty hn hf (g := mkF m pc L (v :: .ref a :: S)) rfl rfl (hb G.2.1 hd)) (fun h' K W => k h' K W (F.same W))
theorem ok_new (G : Good p meth c code maxL ret nm) {pc : Nat} {L : Array Slot} {S : List Value} {C : String} {index n : Nat} (w : (Jvm.Cond.classLink own index C).before a0 Z = true) (wi : (Jvm.Cond.instantiable C n).before a0 Z = true) (wz : (Jvm.Cond.initialized C).before a0 Z = true) (hd : decode code pc = .ok (.new index, 3)) (hc : cells + 1 ≤ R.cells) (hl : slots + n ≤ R.slots)
    (k : ∀ h' a, a = h.size → Keep h h' [] → n0 ≤ a → h0.size ≤ a → Exa Z h' a C → (∀ (O nm d : String) (ty : FieldType), Laid Z a0 C O nm d → parseFieldDescriptor d = some ty → Fld Z h' a O nm d (defaultValue ty)) → Ok p l e R s m args below meth c own Z a0 EL n0 h0 ws wd Q (a :: sf) h' (cells + 1) (slots + n) (mkF m (pc + 3) L (.ref a :: S))) :
    Ok p l e R s m args below meth c own Z a0 EL n0 h0 ws wd Q sf h cells slots (mkF m pc L S) :=
  ok_stepE (sf' := h.size :: sf) (P := fun h' => Exa Z h' h.size C ∧ ∀ (O nm d : String) (ty : FieldType), Laid Z a0 C O nm d → parseFieldDescriptor d = some ty → Fld Z h' h.size O nm d (defaultValue ty)) (fun x hx => (List.mem_cons.mp hx).elim Or.inr Or.inl)
    (fun vm T locs X e0 hZ hown O => by
      obtain ⟨T', h', X', e1, E, A, D, -, st⟩ := newO X G.1 hZ hown w wi wz e0 (g := mkF m pc L S) rfl (hb G.2.1 hd) hc hl
      exact ⟨T', h', X', e1, E, A.lt, ⟨A, fun O nm d ty q1 q2 => D q1 q2⟩, st⟩) (fun h' K q1 q2 P => k h' h.size rfl K q1 q2 P.1 P.2)
theorem ok_newP (G : Good p meth c code maxL ret nm) {pc : Nat} {L : Array Slot} {S : List Value} {aty : ArrayType} {n : Int32} (w : (Jvm.Cond.arrayClass (newarray.typeOf aty)).before a0 Z = true) (hd : decode code pc = .ok (.newarray aty, 2)) (hn : ¬ n < 0) (cap : Nat) (hcap : n.toNatClampNeg ≤ cap) (hbig : cap * 8 ≤ 536870912) (hc : cells + 1 ≤ R.cells) (hl : slots + cap ≤ R.slots)
    (k : ∀ h' a kA, a = h.size → Keep h h' [] → n0 ≤ a → h0.size ≤ a → Arv Z h' a kA (newarray.typeOf aty) n [] (defaultValue (newarray.typeOf aty)) → Ok p l e R s m args below meth c own Z a0 EL n0 h0 ws wd Q (a :: sf) h' (cells + 1) (slots + cap) (mkF m (pc + 2) L (.ref a :: S))) :
    Ok p l e R s m args below meth c own Z a0 EL n0 h0 ws wd Q sf h cells slots (mkF m pc L (.int n :: S)) :=
  ok_stepE (sf' := h.size :: sf) (P := fun h' => ∃ kA, Arv Z h' h.size kA (newarray.typeOf aty) n [] (defaultValue (newarray.typeOf aty))) (fun x hx => (List.mem_cons.mp hx).elim Or.inr Or.inl)
    (fun vm T locs X e0 hZ hown O => by
      obtain ⟨T', h', kA, X', e1, E, A, st⟩ := newP X G.1 hZ w e0 (g := mkF m pc L (.int n :: S)) rfl (hb G.2.1 hd) rfl hn hcap hbig hc hl
      exact ⟨T', h', X', e1, E, A.lt, ⟨kA, Arv.new A hn⟩, st⟩) (fun h' K q1 q2 P => by obtain ⟨kA, P⟩ := P; exact k h' h.size kA rfl K q1 q2 P)
theorem ok_castore (G : Good p meth c code maxL ret nm) {pc : Nat} {L : Array Slot} {S : List Value} {kA : ClassId} {z j : Int32} {x : Int32} (x' : Int32) {vs : List Value} {dv : Value} (i : Nat) (F : Arv Z h a kA .char z vs dv) (hj : ¬ j < 0 ∧ j < z) (hi : j.toNatClampNeg = i) (hi' : i < vs.length) (hv : nar .char x = x') (hd : decode code pc = .ok (.castore, 1))
    (hg : n0 ≤ a) (hw : a ∈ ws ∨ h0.size ≤ a) (hs : SafeFor wd Z EL sf h a)
    (k : ∀ h', Keep h h' [a] → Arv Z h' a kA .char z (vs.set i (.int x')) dv → Ok p l e R s m args below meth c own Z a0 EL n0 h0 ws wd Q sf h' cells slots (mkF m (pc + 1) L S)) : Ok p l e R s m args below meth c own Z a0 EL n0 h0 ws wd Q sf h cells slots (mkF m pc L (.int x :: .int j :: .ref a :: S)) := by
  subst hv
  obtain ⟨cl, A, q, Sz, N, H, U⟩ := F
  exact ok_stepW hg hw hs (fun vm T locs X e0 hZ hown O => stC X G.1 hZ e0 A (inb_of Sz hj) (g := mkF m pc L (.int x :: .int j :: .ref a :: S)) rfl rfl (hb G.2.1 hd)) (fun h' K W => k h' K (Arv.set A q Sz N H U (fits_nar_char _) W i hi hi'))
theorem ok_bastore (G : Good p meth c code maxL ret nm) {pc : Nat} {L : Array Slot} {S : List Value} {kA : ClassId} {z j : Int32} {x : Int32} (x' : Int32) {vs : List Value} {dv : Value} (i : Nat) (F : Arv Z h a kA .byte z vs dv) (hj : ¬ j < 0 ∧ j < z) (hi : j.toNatClampNeg = i) (hi' : i < vs.length) (hv : nar .byte x = x') (hd : decode code pc = .ok (.bastore, 1))
    (hg : n0 ≤ a) (hw : a ∈ ws ∨ h0.size ≤ a) (hs : SafeFor wd Z EL sf h a)
    (k : ∀ h', Keep h h' [a] → Arv Z h' a kA .byte z (vs.set i (.int x')) dv → Ok p l e R s m args below meth c own Z a0 EL n0 h0 ws wd Q sf h' cells slots (mkF m (pc + 1) L S)) : Ok p l e R s m args below meth c own Z a0 EL n0 h0 ws wd Q sf h cells slots (mkF m pc L (.int x :: .int j :: .ref a :: S)) := by
  subst hv
  obtain ⟨cl, A, q, Sz, N, H, U⟩ := F
  exact ok_stepW hg hw hs (fun vm T locs X e0 hZ hown O => stB X G.1 hZ e0 A (inb_of Sz hj) (g := mkF m pc L (.int x :: .int j :: .ref a :: S)) rfl rfl (hb G.2.1 hd)) (fun h' K W => k h' K (Arv.set A q Sz N H U (fits_nar_byte _) W i hi hi'))
theorem ok_iastore (G : Good p meth c code maxL ret nm) {pc : Nat} {L : Array Slot} {S : List Value} {kA : ClassId} {z j : Int32} {x : Int32} {vs : List Value} {dv : Value} (i : Nat) (F : Arv Z h a kA .int z vs dv) (hj : ¬ j < 0 ∧ j < z) (hi : j.toNatClampNeg = i) (hi' : i < vs.length) (hd : decode code pc = .ok (.iastore, 1))
    (hg : n0 ≤ a) (hw : a ∈ ws ∨ h0.size ≤ a) (hs : SafeFor wd Z EL sf h a)
    (k : ∀ h', Keep h h' [a] → Arv Z h' a kA .int z (vs.set i (.int x)) dv → Ok p l e R s m args below meth c own Z a0 EL n0 h0 ws wd Q sf h' cells slots (mkF m (pc + 1) L S)) : Ok p l e R s m args below meth c own Z a0 EL n0 h0 ws wd Q sf h cells slots (mkF m pc L (.int x :: .int j :: .ref a :: S)) := by
  skip
  obtain ⟨cl, A, q, Sz, N, H, U⟩ := F
  exact ok_stepW hg hw hs (fun vm T locs X e0 hZ hown O => stI X G.1 hZ e0 A (inb_of Sz hj) (g := mkF m pc L (.int x :: .int j :: .ref a :: S)) rfl rfl (hb G.2.1 hd)) (fun h' K W => k h' K (Arv.set A q Sz N H U rfl W i hi hi'))
theorem ok_caload (G : Good p meth c code maxL ret nm) {pc : Nat} {L : Array Slot} {S : List Value} {kA : ClassId} {z j : Int32} {vs : List Value} {dv : Value} (v : Int32) (F : Arv Z h a kA .char z vs dv) (hj : ¬ j < 0 ∧ j < z) (hv : vs.getD j.toNatClampNeg dv = .int v) (hd : decode code pc = .ok (.caload, 1))
    (k : Ok p l e R s m args below meth c own Z a0 EL n0 h0 ws wd Q sf h cells slots (mkF m (pc + 1) L (.int v :: S))) : Ok p l e R s m args below meth c own Z a0 EL n0 h0 ws wd Q sf h cells slots (mkF m pc L (.int j :: .ref a :: S)) := by
  obtain ⟨cl, A, q, Sz, N, H, U⟩ := F
  exact ok_stepT (fun vm T locs X e0 hZ hown O => ⟨T, X, e0, fun t k => X.caload G.1 (j := j) (v := .int v) (by rw [e0]; exact A.1) (State.isArrayOf_alike hZ.alike A.2.1) A.2.2 (inb_of Sz hj) (H.at (inb_of Sz hj) hv) (g := mkF m pc L (.int j :: .ref a :: S)) rfl rfl (hb G.2.1 hd) t k⟩) k
theorem ok_baload (G : Good p meth c code maxL ret nm) {pc : Nat} {L : Array Slot} {S : List Value} {kA : ClassId} {z j : Int32} {vs : List Value} {dv : Value} (v : Int32) (F : Arv Z h a kA .byte z vs dv) (hj : ¬ j < 0 ∧ j < z) (hv : vs.getD j.toNatClampNeg dv = .int v) (hd : decode code pc = .ok (.baload, 1))
    (k : Ok p l e R s m args below meth c own Z a0 EL n0 h0 ws wd Q sf h cells slots (mkF m (pc + 1) L (.int v :: S))) : Ok p l e R s m args below meth c own Z a0 EL n0 h0 ws wd Q sf h cells slots (mkF m pc L (.int j :: .ref a :: S)) := by
  obtain ⟨cl, A, q, Sz, N, H, U⟩ := F
  exact ok_stepT (fun vm T locs X e0 hZ hown O => ⟨T, X, e0, fun t k => X.baloadBytes G.1 (j := j) (v := .int v) (by rw [e0]; exact A.1) (State.isArrayOf_alike hZ.alike A.2.1) A.2.2 (inb_of Sz hj) (H.at (inb_of Sz hj) hv) (g := mkF m pc L (.int j :: .ref a :: S)) rfl rfl (hb G.2.1 hd) t k⟩) k
theorem ok_iaload (G : Good p meth c code maxL ret nm) {pc : Nat} {L : Array Slot} {S : List Value} {kA : ClassId} {z j : Int32} {vs : List Value} {dv : Value} (v : Int32) (F : Arv Z h a kA .int z vs dv) (hj : ¬ j < 0 ∧ j < z) (hv : vs.getD j.toNatClampNeg dv = .int v) (hd : decode code pc = .ok (.iaload, 1))
    (k : Ok p l e R s m args below meth c own Z a0 EL n0 h0 ws wd Q sf h cells slots (mkF m (pc + 1) L (.int v :: S))) : Ok p l e R s m args below meth c own Z a0 EL n0 h0 ws wd Q sf h cells slots (mkF m pc L (.int j :: .ref a :: S)) := by
  obtain ⟨cl, A, q, Sz, N, H, U⟩ := F
  exact ok_stepT (fun vm T locs X e0 hZ hown O => ⟨T, X, e0, fun t k => X.iaload G.1 (j := j) (v := .int v) (by rw [e0]; exact A.1) (State.isArrayOf_alike hZ.alike A.2.1) A.2.2 (inb_of Sz hj) (H.at (inb_of Sz hj) hv) (g := mkF m pc L (.int j :: .ref a :: S)) rfl rfl (hb G.2.1 hd) t k⟩) k
theorem ok_arraylength (G : Good p meth c code maxL ret nm) {pc : Nat} {L : Array Slot} {S : List Value} {kA : ClassId} {ty : FieldType} {z : Int32} {vs : List Value} {dv : Value} (F : Arv Z h a kA ty z vs dv) (hd : decode code pc = .ok (.arraylength, 1))
    (k : Ok p l e R s m args below meth c own Z a0 EL n0 h0 ws wd Q sf h cells slots (mkF m (pc + 1) L (.int z :: S))) : Ok p l e R s m args below meth c own Z a0 EL n0 h0 ws wd Q sf h cells slots (mkF m pc L (.ref a :: S)) := by
  obtain ⟨cl, A, q, Sz, N, H, U⟩ := F
  exact ok_stepT (fun vm T locs X e0 hZ hown O => ⟨T, X, e0, fun t k => X.arraylength G.1 (by rw [e0]; exact A.1) (State.isArrayOf_alike hZ.alike A.2.1) (g := mkF m pc L (.ref a :: S)) rfl rfl (hb G.2.1 hd) t (by rw [len_of Sz N]; exact k)⟩) k
theorem ok_checkcast (G : Good p meth c code maxL ret nm) {pc : Nat} {L : Array Slot} {S : List Value} {K : String} {index : Nat} (w : (Jvm.Cond.classLink own index K).before a0 Z = true) (F : Ins Z h a K true) (hd : decode code pc = .ok (.checkcast index, 3))
    (k : Ok p l e R s m args below meth c own Z a0 EL n0 h0 ws wd Q sf h cells slots (mkF m (pc + 3) L (.ref a :: S))) : Ok p l e R s m args below meth c own Z a0 EL n0 h0 ws wd Q sf h cells slots (mkF m pc L (.ref a :: S)) :=
  ok_stepT (fun vm T locs X e0 hZ hown O => castY X G.1 hZ hown w e0 F (g := mkF m pc L (.ref a :: S)) rfl rfl (hb G.2.1 hd)) k
theorem ok_instanceof (G : Good p meth c code maxL ret nm) {pc : Nat} {L : Array Slot} {S : List Value} {K : String} {index : Nat} (w : (Jvm.Cond.classLink own index K).before a0 Z = true) (F : Ins Z h a K true) (hd : decode code pc = .ok (.instanceof index, 3))
    (k : Ok p l e R s m args below meth c own Z a0 EL n0 h0 ws wd Q sf h cells slots (mkF m (pc + 3) L (.int 1 :: S))) : Ok p l e R s m args below meth c own Z a0 EL n0 h0 ws wd Q sf h cells slots (mkF m pc L (.ref a :: S)) :=
  ok_stepT (fun vm T locs X e0 hZ hown O => instY X G.1 hZ hown w e0 F (g := mkF m pc L (.ref a :: S)) rfl rfl (hb G.2.1 hd)) k
theorem ok_instanceofNo (G : Good p meth c code maxL ret nm) {pc : Nat} {L : Array Slot} {S : List Value} {K C : String} {index : Nat} (w : (Jvm.Cond.classLink own index K).before a0 Z = true) (E : Exa Z h a C) (F : ∃ c t, Z.vm.findClass C = some c ∧ Z.vm.findClass K = some t ∧ Z.vm.assignable c t = false) (hd : decode code pc = .ok (.instanceof index, 3))
    (k : Ok p l e R s m args below meth c own Z a0 EL n0 h0 ws wd Q sf h cells slots (mkF m (pc + 3) L (.int 0 :: S))) : Ok p l e R s m args below meth c own Z a0 EL n0 h0 ws wd Q sf h cells slots (mkF m pc L (.ref a :: S)) :=
  ok_stepT (fun vm T locs X e0 hZ hown O => instNo X G.1 hZ hown w e0 E F (g := mkF m pc L (.ref a :: S)) rfl rfl (hb G.2.1 hd)) k
theorem ok_checkcastNull (G : Good p meth c code maxL ret nm) {pc : Nat} {L : Array Slot} {S : List Value} {index : Nat} (hd : decode code pc = .ok (.checkcast index, 3)) (k : Ok p l e R s m args below meth c own Z a0 EL n0 h0 ws wd Q sf h cells slots (mkF m (pc + 3) L (.null :: S))) : Ok p l e R s m args below meth c own Z a0 EL n0 h0 ws wd Q sf h cells slots (mkF m pc L (.null :: S)) :=
  ok_stepT (fun vm T locs X e0 hZ hown O => ⟨T, X, e0, fun t k => X.checkcastNull G.1 (g := mkF m pc L (.null :: S)) rfl rfl (hb G.2.1 hd) t k⟩) k
theorem ok_instanceofNull (G : Good p meth c code maxL ret nm) {pc : Nat} {L : Array Slot} {S : List Value} {index : Nat} (hd : decode code pc = .ok (.instanceof index, 3)) (k : Ok p l e R s m args below meth c own Z a0 EL n0 h0 ws wd Q sf h cells slots (mkF m (pc + 3) L (.int 0 :: S))) : Ok p l e R s m args below meth c own Z a0 EL n0 h0 ws wd Q sf h cells slots (mkF m pc L (.null :: S)) :=
  ok_stepT (fun vm T locs X e0 hZ hown O => ⟨T, X, e0, fun t k => X.instanceofNull G.1 (g := mkF m pc L (.null :: S)) rfl rfl (hb G.2.1 hd) t k⟩) k
theorem ok_initO (G : Good p meth c code maxL ret nm) {pc : Nat} {L : Array Slot} {S : List Value} {idx : Nat} (w1 : (Jvm.Cond.methodLink own idx Lib.objectInit).before a0 Z = true) (w2 : (Jvm.Cond.instanceMethod Lib.objectInit).before a0 Z = true) (w3 : (Jvm.Cond.code Lib.objectInit ⟨#[0xb1]⟩ 1 none).before a0 Z = true) (hsz : L.size = maxL) (hd : decode code pc = .ok (.invokespecial idx, 3)) (hf : 1 ≤ R.frames) (hl : (S.map fun v => v.category).sum + 12 ≤ R.locals)
    (k : Ok p l e R s m args below meth c own Z a0 EL n0 h0 ws wd Q sf h cells slots (mkF m (pc + 3) L S)) : Ok p l e R s m args below meth c own Z a0 EL n0 h0 ws wd Q sf h cells slots (mkF m pc L (.ref a :: S)) :=
  ok_stepT (fun vm T locs X e0 hZ hown O => initO X G.1 hZ hown w1 w2 w3 e0 (g := mkF m pc L (.ref a :: S)) rfl (by rw [G.2.2.1]; exact hsz) rfl (hb G.2.1 hd) hf (W := (S.map fun v => v.category).sum) (by show 2 * 0 + _ ≤ _; omega) hl) k
/-- behind a call that interned nothing -/
theorem ok_stepC {gn : Option Value → JFrame} {g : JFrame} {rc rs : Nat} {ws' : List Addr} {Q' : Option Value → Heap → Prop} (hws : ∀ x ∈ ws', (x ∈ ws ∨ h0.size ≤ x) ∧ SafeFor wd Z EL sf h x)
    (st : ∀ vm T locs, Stand p l e R (s.setVm vm) m args below meth c T locs cells slots → T.heap = h → Z.Warmed39 vm → vm.findClass own = some m.cls → Old Z n0 h →
      ∃ v T' L, Stand p l e R (s.setVm vm) m args below meth c T' (locs ++ L) (cells + rc) (slots + rs) ∧ (Fr n0 L ∧ Old Z n0 T'.heap ∧ Keep h T'.heap ws' ∧ Q' v T'.heap) ∧ ∀ target, Steps p.tables e below (T'.setTop (gn v)) target → Steps p.tables e below (T.setTop g) target)
    (k : ∀ v h', Keep h h' ws' → Q' v h' → Ok p l e R s m args below meth c own Z a0 EL n0 h0 ws wd Q sf h' (cells + rc) (slots + rs) (gn v)) : Ok p l e R s m args below meth c own Z a0 EL n0 h0 ws wd Q sf h cells slots g := by
  intro vm T locs W
  obtain ⟨X, e0, hZ, hown, hS, hh, N, O, K, r, r'⟩ := W
  obtain ⟨v, T', Ls, X', ⟨N', O', K', q⟩, st'⟩ := st vm T locs X e0 hZ hown O
  obtain ⟨s₂, o, h1, h2⟩ := k v T'.heap K' q vm T' _ ⟨X', rfl, hZ, hown, ⟨hS.1, hS.2.mono K'.1⟩, hh, N.app N', O', K.trans K' (fun x hx => (hws x hx).1), r, fun w => by
    obtain ⟨hE, hC, hs⟩ := r' w
    have hsw : ∀ x ∈ ws', Safe Z EL vm h x := fun x hx => ((hws x hx).2 w).elim (fun z => (hs x z).2) (fun z => z vm hZ.alike)
    exact ⟨hE, hC.trans (CHr.keep K' hsw hC.1), fun x hx => ⟨Nat.lt_of_lt_of_le (hs x hx).1 K'.1, Safe.keep K' hsw hC.1 (hs x hx).2⟩⟩⟩
  exact ⟨s₂, o, st' s₂ h1, h2⟩
/-- behind a step that may have interned -/
theorem ok_stepCW {gn : Option Value → JFrame} {g : JFrame} {rc rs : Nat} {ws' : List Addr} {Q' : Option Value → Heap → Vm → Prop} (hwd : wd = true) (hws : ∀ x ∈ ws', x ∈ ws ∨ h0.size ≤ x)
    (st : ∀ vm T locs, Stand p l e R (s.setVm vm) m args below meth c T locs cells slots → T.heap = h → Z.Warmed39 vm → vm.findClass own = some m.cls → s.Since vm h.size → Old Z n0 h → EW Z a0 EL → CHv Z EL vm h →
      ∃ v T' L, Stand p l e R (s.setVm T'.vm) m args below meth c T' (locs ++ L) (cells + rc) (slots + rs) ∧ s.Since T'.vm T'.heap.size ∧ Z.Warmed39 T'.vm ∧ T'.vm.findClass own = some m.cls ∧ CHr Z EL vm h T'.vm T'.heap ∧ (Fr n0 L ∧ Old Z n0 T'.heap ∧ Keep h T'.heap ws' ∧ Q' v T'.heap T'.vm) ∧ ∀ target, Steps p.tables e below (T'.setTop (gn v)) target → Steps p.tables e below (T.setTop g) target)
    (k : ∀ v h' vm', Keep h h' ws' → (∀ x ∈ sf, Safe Z EL vm' h' x) → Q' v h' vm' → Ok p l e R s m args below meth c own Z a0 EL n0 h0 ws wd Q sf h' (cells + rc) (slots + rs) (gn v)) : Ok p l e R s m args below meth c own Z a0 EL n0 h0 ws wd Q sf h cells slots g := by
  intro vm T locs W
  obtain ⟨X, e0, hZ, hown, hS, hh, N, O, K, r, r'⟩ := W
  obtain ⟨hE, hC, hs⟩ := r' hwd
  obtain ⟨v, T', Ls, X', hS', hZ', hown', hR, ⟨N', O', K', q⟩, st'⟩ := st vm T locs X e0 hZ hown hS O hE hC.1
  have hs' : ∀ x ∈ sf, x < T'.heap.size ∧ Safe Z EL T'.vm T'.heap x := fun x hx => ⟨Nat.lt_of_lt_of_le (hs x hx).1 K'.1, hR.safe (hs x hx).1 (hs x hx).2⟩
  obtain ⟨s₂, o, h1, h2⟩ := k v T'.heap T'.vm K' (fun x hx => (hs' x hx).2) q T'.vm T' _ ⟨X', rfl, hZ', hown', hS', hh, N.app N', O', K.trans K' hws, (fun w => absurd (hwd.symm.trans w) (fun z => nomatch z)), fun _ => ⟨hE, hC.trans hR, hs'⟩⟩
  exact ⟨s₂, o, st' s₂ h1, h2⟩
theorem Con.free {y : MethodName} {bytes : ByteArray} {maxL' : Nat} {ret' : Option FieldType} {rm : Room} {as' : Array Value} {ws' : List Addr} {Q' : Option Value → Heap → Prop} (hM : Con false l Z EL n0 y bytes maxL' ret' rm as' h ws' Q') :
    MetFree l y (head1 [Jvm.Cond.code y bytes maxL' ret'] rm) (fun a U => a = as' ∧ Z.Warmed39 U.vm ∧ U.heap = h) (fun _ _ _ _ _ => True) (fun _ U o U' => ∃ v L, o = .returned v ∧ (Fr n0 L ∧ Old Z n0 U'.heap ∧ Keep h U'.heap ws' ∧ Q' v U'.heap) ∧ FrameEnd U o U' L rm.cells rm.slots) :=
  fun p e ha hc hk s m args below hf happ hP hK => hM [] p e ha hc hk s m args below hf happ ⟨hP.1, hP.2.1, hP.2.2, fun q => nomatch q⟩ hK
theorem Con.freeW {y : MethodName} {bytes : ByteArray} {maxL' : Nat} {ret' : Option FieldType} {rm : Room} {as' : Array Value} {ws' : List Addr} {Q' : Option Value → Heap → Prop} (hM : Con true l Z EL n0 y bytes maxL' ret' rm as' h ws' Q') :
    MetFree l y (head1 [Jvm.Cond.code y bytes maxL' ret'] rm) (fun a U => a = as' ∧ Z.Warmed39 U.vm ∧ U.heap = h ∧ CHv Z EL U.vm h) (fun _ _ _ _ _ => True) (fun _ U o U' => ∃ v L, o = .returned v ∧ (Fr n0 L ∧ Old Z n0 U'.heap ∧ Keep h U'.heap ws' ∧ Q' v U'.heap) ∧ CHr Z EL U.vm U.heap U'.vm U'.heap ∧ ReturnedEndW U o U' L rm.cells rm.slots) :=
  fun p e ha hc hk s m args below hf happ hP hK => hM [] p e ha hc hk s m args below hf happ ⟨hP.1, hP.2.1, hP.2.2.1, fun _ => hP.2.2.2⟩ hK
theorem ok_static (G : Good p meth c code maxL ret nm) {pc : Nat} {L : Array Slot} {S : List Value} {y : MethodName} {bytes : ByteArray} {maxL' : Nat} {ret' : Option FieldType} {rm : Room} {ws' : List Addr} {Q' : Option Value → Heap → Prop} {index : Nat} {ps : List FieldType} {r : Option FieldType} {EL' : List (String × Nat)} {argsL rest : List Value} (w1 : (Jvm.Cond.methodLink own index y).before a0 Z = true) (w2 : (Jvm.Cond.static y).before a0 Z = true) (w3 : (Jvm.Cond.initialized y.cls).before a0 Z = true) (w4 : (Jvm.Cond.code y bytes maxL' ret').before a0 Z = true) (hy : y.cls ≠ "java/lang/invoke/MethodHandle" ∧ y.cls ≠ "java/lang/invoke/VarHandle") (hdesc : parseMethodDescriptor y.desc = some ⟨ps, r⟩)
    (hM : Con false l Z EL' n0 y bytes maxL' ret' rm argsL.toArray h ws' Q') (hln : argsL.length = ps.length) (hS : S = argsL.reverse ++ rest) (hsz : L.size = maxL) (hd : decode code pc = .ok (.invokestatic index, 3)) (hf : rm.frames + 1 ≤ R.frames) (hl : (rest.map fun v => v.category).sum + (maxL' + 11) + rm.locals ≤ R.locals) (hc : cells + rm.cells ≤ R.cells) (hsl : slots + rm.slots ≤ R.slots) (hws : ∀ x ∈ ws', (x ∈ ws ∨ h0.size ≤ x) ∧ SafeFor wd Z EL sf h x)
    (k : ∀ v h', Keep h h' ws' → Q' v h' → Ok p l e R s m args below meth c own Z a0 EL n0 h0 ws wd Q sf h' (cells + rm.cells) (slots + rm.slots) (mkF m (pc + 3) L (v.toList ++ rest))) : Ok p l e R s m args below meth c own Z a0 EL n0 h0 ws wd Q sf h cells slots (mkF m pc L S) := by
  subst hS
  exact ok_stepC (gn := fun v => mkF m (pc + 3) L (v.toList ++ rest)) hws (fun vm T locs X e0 hZ hown O => by
      obtain ⟨v, _, ⟨T', L', k', n'⟩, -, X', ⟨Lc, hQ, l1, y1, z1⟩, st⟩ := Jvm.LawKit.callS X G.1 (y := y) hown (mvT (s := s.setVm vm) hZ w1) (mvT (s := s.setVm vm) hZ w2) (mvT (s := s.setVm vm) hZ w3) (mvT (s := s.setVm vm) hZ w4) hy (backOf (s := s.setVm vm) (Q := fun v h' L => Fr n0 L ∧ Old Z n0 h' ∧ Keep h h' ws' ∧ Q' v h') (W := (rest.map fun v => v.category).sum) hM.free hZ w4 w3 hf hl) (g := mkF m pc L (argsL.reverse ++ rest)) rfl (by rw [G.2.2.1]; exact hsz) (argsL := argsL) (rest := rest) (lenOf hdesc hln) rfl (by show 2 * 0 + _ ≤ _; omega) (hb G.2.1 hd) (fun _ _ => ⟨rfl, e0, hc, hsl⟩)
      dsimp only [Pt.U, Pt.locs, Pt.cells, Pt.slots] at X' l1 y1 z1 st hQ
      subst l1 y1 z1
      exact ⟨v, T', Lc, X', hQ, st⟩) k
theorem ok_init (G : Good p meth c code maxL ret nm) {pc : Nat} {L : Array Slot} {S : List Value} {y : MethodName} {bytes : ByteArray} {maxL' : Nat} {rm : Room} {ws' : List Addr} {Q' : Option Value → Heap → Prop} {index : Nat} {ps : List FieldType} {r : Option FieldType} {EL' : List (String × Nat)} {argsL rest : List Value} (hy1 : y.name = "<init>") (w1 : (Jvm.Cond.methodLink own index y).before a0 Z = true) (w2 : (Jvm.Cond.instanceMethod y).before a0 Z = true) (w3 : (Jvm.Cond.initialized y.cls).before a0 Z = true) (w4 : (Jvm.Cond.code y bytes maxL' none).before a0 Z = true) (hy : y.cls ≠ "java/lang/invoke/MethodHandle" ∧ y.cls ≠ "java/lang/invoke/VarHandle") (hdesc : parseMethodDescriptor y.desc = some ⟨ps, r⟩)
    (hM : Con false l Z EL' n0 y bytes maxL' none rm (.ref a :: argsL).toArray h ws' Q') (hln : argsL.length = ps.length) (hS : S = argsL.reverse ++ .ref a :: rest) (hsz : L.size = maxL) (hd : decode code pc = .ok (.invokespecial index, 3)) (hf : rm.frames + 1 ≤ R.frames) (hl : (rest.map fun v => v.category).sum + (maxL' + 11) + rm.locals ≤ R.locals) (hc : cells + rm.cells ≤ R.cells) (hsl : slots + rm.slots ≤ R.slots) (hws : ∀ x ∈ ws', (x ∈ ws ∨ h0.size ≤ x) ∧ SafeFor wd Z EL sf h x)
    (k : ∀ v h', Keep h h' ws' → Q' v h' → Ok p l e R s m args below meth c own Z a0 EL n0 h0 ws wd Q sf h' (cells + rm.cells) (slots + rm.slots) (mkF m (pc + 3) L (v.toList ++ rest))) : Ok p l e R s m args below meth c own Z a0 EL n0 h0 ws wd Q sf h cells slots (mkF m pc L S) := by
  subst hS
  exact ok_stepC (gn := fun v => mkF m (pc + 3) L (v.toList ++ rest)) hws (fun vm T locs X e0 hZ hown O => by
      obtain ⟨v, _, ⟨T', L', k', n'⟩, -, X', ⟨Lc, hQ, l1, y1, z1⟩, st⟩ := X.specialBack G.1 (y := y) hy1 hown (mvT (s := s.setVm vm) hZ w1) (mvT (s := s.setVm vm) hZ w2) (mvT (s := s.setVm vm) hZ w4) hy (backOf (s := s.setVm vm) (Q := fun v h' L => Fr n0 L ∧ Old Z n0 h' ∧ Keep h h' ws' ∧ Q' v h') (W := (rest.map fun v => v.category).sum) hM.free hZ w4 w3 hf hl) (g := mkF m pc L (argsL.reverse ++ .ref a :: rest)) rfl (by rw [G.2.2.1]; exact hsz) (Steps.refl _) (a := a) (argsL := argsL) (rest := rest) (lenOf hdesc hln) rfl (by show 2 * 0 + _ ≤ _; omega) (hb G.2.1 hd) (fun _ _ => ⟨rfl, e0, hc, hsl⟩)
      dsimp only [Pt.U, Pt.locs, Pt.cells, Pt.slots] at X' l1 y1 z1 st hQ
      subst l1 y1 z1
      exact ⟨v, T', Lc, X', hQ, fun t k => st.trans k⟩) k
theorem ok_virtual (G : Good p meth c code maxL ret nm) {pc : Nat} {L : Array Slot} {S : List Value} {y : MethodName} {bytes : ByteArray} {maxL' : Nat} {ret' : Option FieldType} {rm : Room} {ws' : List Addr} {Q' : Option Value → Heap → Prop} {index : Nat} {ps : List FieldType} {r : Option FieldType} {EL' : List (String × Nat)} {y0 : MethodName} {C : String} {argsL rest : List Value} (E : Exa Z h a C) (w1 : (Jvm.Cond.methodLink own index y0).before a0 Z = true) (w5 : (Jvm.Cond.declares y0).before a0 Z = true) (w6 : (Jvm.Cond.selects C y0 y).before a0 Z = true) (hnf : ∀ vm, Z.Warmed39 vm → NotFace (s.setVm vm) y0) (w2 : (Jvm.Cond.instanceMethod y).before a0 Z = true) (w3 : (Jvm.Cond.initialized y.cls).before a0 Z = true) (w4 : (Jvm.Cond.code y bytes maxL' ret').before a0 Z = true) (hy : y0.cls ≠ "java/lang/invoke/MethodHandle" ∧ y0.cls ≠ "java/lang/invoke/VarHandle") (hdesc : parseMethodDescriptor y0.desc = some ⟨ps, r⟩)
    (hM : Con false l Z EL' n0 y bytes maxL' ret' rm (.ref a :: argsL).toArray h ws' Q') (hln : argsL.length = ps.length) (hS : S = argsL.reverse ++ .ref a :: rest) (hsz : L.size = maxL) (hd : decode code pc = .ok (.invokevirtual index, 3)) (hf : rm.frames + 1 ≤ R.frames) (hl : (rest.map fun v => v.category).sum + (maxL' + 11) + rm.locals ≤ R.locals) (hc : cells + rm.cells ≤ R.cells) (hsl : slots + rm.slots ≤ R.slots) (hws : ∀ x ∈ ws', (x ∈ ws ∨ h0.size ≤ x) ∧ SafeFor wd Z EL sf h x)
    (k : ∀ v h', Keep h h' ws' → Q' v h' → Ok p l e R s m args below meth c own Z a0 EL n0 h0 ws wd Q sf h' (cells + rm.cells) (slots + rm.slots) (mkF m (pc + 3) L (v.toList ++ rest))) : Ok p l e R s m args below meth c own Z a0 EL n0 h0 ws wd Q sf h cells slots (mkF m pc L S) := by
  subst hS
  exact ok_stepC (gn := fun v => mkF m (pc + 3) L (v.toList ++ rest)) hws (fun vm T locs X e0 hZ hown O => by
      obtain ⟨cq, kq, qa, qb, qc⟩ := isOf (s := s.setVm vm) hZ e0 E
      obtain ⟨v, _, ⟨T', L', k', n'⟩, -, X', ⟨Lc, hQ, l1, y1, z1⟩, st⟩ := X.virtualBack G.1 (y := y0) (z := y) hown (mvT (s := s.setVm vm) hZ w1) (mvT (s := s.setVm vm) hZ w5) (hnf vm hZ) (mvT (s := s.setVm vm) hZ w6) (mvT (s := s.setVm vm) hZ w2) hy (backOf (s := s.setVm vm) (Q := fun v h' L => Fr n0 L ∧ Old Z n0 h' ∧ Keep h h' ws' ∧ Q' v h') (W := (rest.map fun v => v.category).sum) hM.free hZ w4 w3 hf hl) qa qc (g := mkF m pc L (argsL.reverse ++ .ref a :: rest)) rfl (by rw [G.2.2.1]; exact hsz) (Steps.refl _) (argsL := argsL) (rest := rest) (lenOf hdesc hln) rfl (by show 2 * 0 + _ ≤ _; omega) (hb G.2.1 hd) (fun _ _ => ⟨rfl, e0, hc, hsl⟩)
      dsimp only [Pt.U, Pt.locs, Pt.cells, Pt.slots] at X' l1 y1 z1 st hQ
      subst l1 y1 z1
      exact ⟨v, T', Lc, X', hQ, fun t k => st.trans k⟩) k
theorem ok_interface (G : Good p meth c code maxL ret nm) {pc : Nat} {L : Array Slot} {S : List Value} {y : MethodName} {bytes : ByteArray} {maxL' : Nat} {ret' : Option FieldType} {rm : Room} {ws' : List Addr} {Q' : Option Value → Heap → Prop} {index : Nat} {ps : List FieldType} {r : Option FieldType} {EL' : List (String × Nat)} {y0 : MethodName} {C : String} {count : Nat} {argsL rest : List Value} (E : Exa Z h a C) (w1 : (Jvm.Cond.methodLink own index y0).before a0 Z = true) (w5 : (Jvm.Cond.declares y0).before a0 Z = true) (w7 : (Jvm.Cond.interfaceMethod y0.cls y0.cls y0.name y0.desc).before a0 Z = true) (hfc : ((Jvm.Cond.interfaceMethod y0.cls y0.cls y0.name y0.desc).onTables && (Jvm.Cond.interfaceMethod y0.cls y0.cls y0.name y0.desc).keepsFace) = true) (w6 : (Jvm.Cond.selects C y0 y).before a0 Z = true) (w2 : (Jvm.Cond.instanceMethod y).before a0 Z = true) (w8 : (Jvm.Cond.publicMethod y).before a0 Z = true) (w9 : (Jvm.Cond.unhidden C y0.name y0.desc).before a0 Z = true) (w10 : (Jvm.Cond.castable C y0.cls).before a0 Z = true) (w3 : (Jvm.Cond.initialized y.cls).before a0 Z = true) (w4 : (Jvm.Cond.code y bytes maxL' ret').before a0 Z = true) (hy : y0.cls ≠ "java/lang/invoke/MethodHandle" ∧ y0.cls ≠ "java/lang/invoke/VarHandle") (hdesc : parseMethodDescriptor y0.desc = some ⟨ps, r⟩)
    (hM : Con false l Z EL' n0 y bytes maxL' ret' rm (.ref a :: argsL).toArray h ws' Q') (hln : argsL.length = ps.length) (hS : S = argsL.reverse ++ .ref a :: rest) (hsz : L.size = maxL) (hd : decode code pc = .ok (.invokeinterface index count, 5)) (hf : rm.frames + 1 ≤ R.frames) (hl : (rest.map fun v => v.category).sum + (maxL' + 11) + rm.locals ≤ R.locals) (hc : cells + rm.cells ≤ R.cells) (hsl : slots + rm.slots ≤ R.slots) (hws : ∀ x ∈ ws', (x ∈ ws ∨ h0.size ≤ x) ∧ SafeFor wd Z EL sf h x)
    (k : ∀ v h', Keep h h' ws' → Q' v h' → Ok p l e R s m args below meth c own Z a0 EL n0 h0 ws wd Q sf h' (cells + rm.cells) (slots + rm.slots) (mkF m (pc + 5) L (v.toList ++ rest))) : Ok p l e R s m args below meth c own Z a0 EL n0 h0 ws wd Q sf h cells slots (mkF m pc L S) := by
  subst hS
  exact ok_stepC (gn := fun v => mkF m (pc + 5) L (v.toList ++ rest)) hws (fun vm T locs X e0 hZ hown O => by
      obtain ⟨cq, kq, qa, qb, qc⟩ := isOf (s := s.setVm vm) hZ e0 E
      obtain ⟨v, _, ⟨T', L', k', n'⟩, -, X', ⟨Lc, hQ, l1, y1, z1⟩, st⟩ := X.interfaceBack G.1 (xi := y0) (y := y) hown (mvT (s := s.setVm vm) hZ w1) (mvT (s := s.setVm vm) hZ w5) (mvT (s := s.setVm vm) hZ w7 hfc) (mvT (s := s.setVm vm) hZ w6) (mvT (s := s.setVm vm) hZ w2) (mvT (s := s.setVm vm) hZ w8) (mvT (s := s.setVm vm) hZ w9) (mvT (s := s.setVm vm) hZ w10) hy (backOf (s := s.setVm vm) (Q := fun v h' L => Fr n0 L ∧ Old Z n0 h' ∧ Keep h h' ws' ∧ Q' v h') (W := (rest.map fun v => v.category).sum) hM.free hZ w4 w3 hf hl) qa qb qc (g := mkF m pc L (argsL.reverse ++ .ref a :: rest)) rfl (by rw [G.2.2.1]; exact hsz) (Steps.refl _) (argsL := argsL) (rest := rest) (lenOf hdesc hln) rfl (by show 2 * 0 + _ ≤ _; omega) (hb G.2.1 hd) (fun _ _ => ⟨rfl, e0, hc, hsl⟩)
      dsimp only [Pt.U, Pt.locs, Pt.cells, Pt.slots] at X' l1 y1 z1 st hQ
      subst l1 y1 z1
      exact ⟨v, T', Lc, X', hQ, fun t k => st.trans k⟩) k
theorem ok_staticW (G : Good p meth c code maxL ret nm) {pc : Nat} {L : Array Slot} {S : List Value} {y : MethodName} {bytes : ByteArray} {maxL' : Nat} {ret' : Option FieldType} {rm : Room} {ws' : List Addr} {Q' : Option Value → Heap → Prop} {index : Nat} {ps : List FieldType} {r : Option FieldType} {argsL rest : List Value} (w1 : (Jvm.Cond.methodLink own index y).before a0 Z = true) (w2 : (Jvm.Cond.static y).before a0 Z = true) (w3 : (Jvm.Cond.initialized y.cls).before a0 Z = true) (w4 : (Jvm.Cond.code y bytes maxL' ret').before a0 Z = true) (hy : y.cls ≠ "java/lang/invoke/MethodHandle" ∧ y.cls ≠ "java/lang/invoke/VarHandle") (hdesc : parseMethodDescriptor y.desc = some ⟨ps, r⟩)
    (hM : Con true l Z EL n0 y bytes maxL' ret' rm argsL.toArray h ws' Q') (hln : argsL.length = ps.length) (hS : S = argsL.reverse ++ rest) (hsz : L.size = maxL) (hd : decode code pc = .ok (.invokestatic index, 3)) (hf : rm.frames + 1 ≤ R.frames) (hl : (rest.map fun v => v.category).sum + (maxL' + 11) + rm.locals ≤ R.locals) (hc : cells + rm.cells ≤ R.cells) (hsl : slots + rm.slots ≤ R.slots) (hwd : wd = true) (hws : ∀ x ∈ ws', x ∈ ws ∨ h0.size ≤ x)
    (k : ∀ v h', Keep h h' ws' → Q' v h' → Ok p l e R s m args below meth c own Z a0 EL n0 h0 ws wd Q sf h' (cells + rm.cells) (slots + rm.slots) (mkF m (pc + 3) L (v.toList ++ rest))) : Ok p l e R s m args below meth c own Z a0 EL n0 h0 ws wd Q sf h cells slots (mkF m pc L S) := by
  subst hS
  exact ok_stepCW (Q' := fun v h' _ => Q' v h') (gn := fun v => mkF m (pc + 3) L (v.toList ++ rest)) hwd hws (fun vm T locs X e0 hZ hown hSi O hE hC => by
      obtain ⟨v, _, ⟨T', L', k', n'⟩, -, X', hS2, hgr, ⟨Lc, hQ, l1, y1, z1, hR⟩, st⟩ := callSS X G.1 (y := y) hown (mvT (s := s.setVm vm) hZ w1) (mvT (s := s.setVm vm) hZ w2) (mvT (s := s.setVm vm) hZ w3) (mvT (s := s.setVm vm) hZ w4) hy (backOfSH (s := s) (Q := fun v h' L => Fr n0 L ∧ Old Z n0 h' ∧ Keep h h' ws' ∧ Q' v h') (W := (rest.map fun v => v.category).sum) hM.freeW hZ w4 w3 hf hl hE hC) (g := mkF m pc L (argsL.reverse ++ rest)) rfl (by rw [G.2.2.1]; exact hsz) (argsL := argsL) (rest := rest) (lenOf hdesc hln) rfl (by show 2 * 0 + _ ≤ _; omega) (hb G.2.1 hd) (fun _ _ => ⟨rfl, e0, hc, hsl⟩)
      dsimp only [Pt.U, Pt.locs, Pt.cells, Pt.slots] at X' l1 y1 z1 st hQ hS2 hgr hR
      subst l1 y1 z1
      obtain ⟨X2, S2, Z2, o2⟩ := rebS hSi (by rw [← e0]; exact Nat.le_refl _) X' hS2 hgr hZ hown
      exact ⟨v, T', Lc, X2, S2, Z2, o2, hR, hQ, fun t k => st.trans k⟩) (fun v h' vm' K' _ q => k v h' K' q)
theorem ok_initW (G : Good p meth c code maxL ret nm) {pc : Nat} {L : Array Slot} {S : List Value} {y : MethodName} {bytes : ByteArray} {maxL' : Nat} {rm : Room} {ws' : List Addr} {Q' : Option Value → Heap → Prop} {index : Nat} {ps : List FieldType} {r : Option FieldType} {argsL rest : List Value} (hy1 : y.name = "<init>") (w1 : (Jvm.Cond.methodLink own index y).before a0 Z = true) (w2 : (Jvm.Cond.instanceMethod y).before a0 Z = true) (w3 : (Jvm.Cond.initialized y.cls).before a0 Z = true) (w4 : (Jvm.Cond.code y bytes maxL' none).before a0 Z = true) (hy : y.cls ≠ "java/lang/invoke/MethodHandle" ∧ y.cls ≠ "java/lang/invoke/VarHandle") (hdesc : parseMethodDescriptor y.desc = some ⟨ps, r⟩)
    (hM : Con true l Z EL n0 y bytes maxL' none rm (.ref a :: argsL).toArray h ws' Q') (hln : argsL.length = ps.length) (hS : S = argsL.reverse ++ .ref a :: rest) (hsz : L.size = maxL) (hd : decode code pc = .ok (.invokespecial index, 3)) (hf : rm.frames + 1 ≤ R.frames) (hl : (rest.map fun v => v.category).sum + (maxL' + 11) + rm.locals ≤ R.locals) (hc : cells + rm.cells ≤ R.cells) (hsl : slots + rm.slots ≤ R.slots) (hwd : wd = true) (hws : ∀ x ∈ ws', x ∈ ws ∨ h0.size ≤ x)
    (k : ∀ v h', Keep h h' ws' → Q' v h' → Ok p l e R s m args below meth c own Z a0 EL n0 h0 ws wd Q sf h' (cells + rm.cells) (slots + rm.slots) (mkF m (pc + 3) L (v.toList ++ rest))) : Ok p l e R s m args below meth c own Z a0 EL n0 h0 ws wd Q sf h cells slots (mkF m pc L S) := by
  subst hS
  exact ok_stepCW (Q' := fun v h' _ => Q' v h') (gn := fun v => mkF m (pc + 3) L (v.toList ++ rest)) hwd hws (fun vm T locs X e0 hZ hown hSi O hE hC => by
      obtain ⟨v, _, ⟨T', L', k', n'⟩, -, X', hS2, hgr, ⟨Lc, hQ, l1, y1, z1, hR⟩, st⟩ := X.specialBackS G.1 (y := y) hy1 hown (mvT (s := s.setVm vm) hZ w1) (mvT (s := s.setVm vm) hZ w2) (mvT (s := s.setVm vm) hZ w4) hy (backOfSH (s := s) (Q := fun v h' L => Fr n0 L ∧ Old Z n0 h' ∧ Keep h h' ws' ∧ Q' v h') (W := (rest.map fun v => v.category).sum) hM.freeW hZ w4 w3 hf hl hE hC) (g := mkF m pc L (argsL.reverse ++ .ref a :: rest)) rfl (by rw [G.2.2.1]; exact hsz) (Steps.refl _) (a := a) (argsL := argsL) (rest := rest) (lenOf hdesc hln) rfl (by show 2 * 0 + _ ≤ _; omega) (hb G.2.1 hd) (fun _ _ => ⟨rfl, e0, hc, hsl⟩)
      dsimp only [Pt.U, Pt.locs, Pt.cells, Pt.slots] at X' l1 y1 z1 st hQ hS2 hgr hR
      subst l1 y1 z1
      obtain ⟨X2, S2, Z2, o2⟩ := rebS hSi (by rw [← e0]; exact Nat.le_refl _) X' hS2 hgr hZ hown
      exact ⟨v, T', Lc, X2, S2, Z2, o2, hR, hQ, fun t k => st.trans k⟩) (fun v h' vm' K' _ q => k v h' K' q)
theorem ok_virtualW (G : Good p meth c code maxL ret nm) {pc : Nat} {L : Array Slot} {S : List Value} {y : MethodName} {bytes : ByteArray} {maxL' : Nat} {ret' : Option FieldType} {rm : Room} {ws' : List Addr} {Q' : Option Value → Heap → Prop} {index : Nat} {ps : List FieldType} {r : Option FieldType} {y0 : MethodName} {C : String} {argsL rest : List Value} (E : Exa Z h a C) (w1 : (Jvm.Cond.methodLink own index y0).before a0 Z = true) (w5 : (Jvm.Cond.declares y0).before a0 Z = true) (w6 : (Jvm.Cond.selects C y0 y).before a0 Z = true) (hnf : ∀ vm, Z.Warmed39 vm → NotFace (s.setVm vm) y0) (w2 : (Jvm.Cond.instanceMethod y).before a0 Z = true) (w3 : (Jvm.Cond.initialized y.cls).before a0 Z = true) (w4 : (Jvm.Cond.code y bytes maxL' ret').before a0 Z = true) (hy : y0.cls ≠ "java/lang/invoke/MethodHandle" ∧ y0.cls ≠ "java/lang/invoke/VarHandle") (hdesc : parseMethodDescriptor y0.desc = some ⟨ps, r⟩)
    (hM : Con true l Z EL n0 y bytes maxL' ret' rm (.ref a :: argsL).toArray h ws' Q') (hln : argsL.length = ps.length) (hS : S = argsL.reverse ++ .ref a :: rest) (hsz : L.size = maxL) (hd : decode code pc = .ok (.invokevirtual index, 3)) (hf : rm.frames + 1 ≤ R.frames) (hl : (rest.map fun v => v.category).sum + (maxL' + 11) + rm.locals ≤ R.locals) (hc : cells + rm.cells ≤ R.cells) (hsl : slots + rm.slots ≤ R.slots) (hwd : wd = true) (hws : ∀ x ∈ ws', x ∈ ws ∨ h0.size ≤ x)
    (k : ∀ v h', Keep h h' ws' → Q' v h' → Ok p l e R s m args below meth c own Z a0 EL n0 h0 ws wd Q sf h' (cells + rm.cells) (slots + rm.slots) (mkF m (pc + 3) L (v.toList ++ rest))) : Ok p l e R s m args below meth c own Z a0 EL n0 h0 ws wd Q sf h cells slots (mkF m pc L S) := by
  subst hS
  exact ok_stepCW (Q' := fun v h' _ => Q' v h') (gn := fun v => mkF m (pc + 3) L (v.toList ++ rest)) hwd hws (fun vm T locs X e0 hZ hown hSi O hE hC => by
      obtain ⟨cq, kq, qa, qb, qc⟩ := isOf (s := s.setVm vm) hZ e0 E
      obtain ⟨v, _, ⟨T', L', k', n'⟩, -, X', hS2, hgr, ⟨Lc, hQ, l1, y1, z1, hR⟩, st⟩ := X.virtualBackS G.1 (y := y0) (z := y) hown (mvT (s := s.setVm vm) hZ w1) (mvT (s := s.setVm vm) hZ w5) (hnf vm hZ) (mvT (s := s.setVm vm) hZ w6) (mvT (s := s.setVm vm) hZ w2) hy (backOfSH (s := s) (Q := fun v h' L => Fr n0 L ∧ Old Z n0 h' ∧ Keep h h' ws' ∧ Q' v h') (W := (rest.map fun v => v.category).sum) hM.freeW hZ w4 w3 hf hl hE hC) qa qc (g := mkF m pc L (argsL.reverse ++ .ref a :: rest)) rfl (by rw [G.2.2.1]; exact hsz) (Steps.refl _) (argsL := argsL) (rest := rest) (lenOf hdesc hln) rfl (by show 2 * 0 + _ ≤ _; omega) (hb G.2.1 hd) (fun _ _ => ⟨rfl, e0, hc, hsl⟩)
      dsimp only [Pt.U, Pt.locs, Pt.cells, Pt.slots] at X' l1 y1 z1 st hQ hS2 hgr hR
      subst l1 y1 z1
      obtain ⟨X2, S2, Z2, o2⟩ := rebS hSi (by rw [← e0]; exact Nat.le_refl _) X' hS2 hgr hZ hown
      exact ⟨v, T', Lc, X2, S2, Z2, o2, hR, hQ, fun t k => st.trans k⟩) (fun v h' vm' K' _ q => k v h' K' q)
theorem ok_interfaceW (G : Good p meth c code maxL ret nm) {pc : Nat} {L : Array Slot} {S : List Value} {y : MethodName} {bytes : ByteArray} {maxL' : Nat} {ret' : Option FieldType} {rm : Room} {ws' : List Addr} {Q' : Option Value → Heap → Prop} {index : Nat} {ps : List FieldType} {r : Option FieldType} {y0 : MethodName} {C : String} {count : Nat} {argsL rest : List Value} (E : Exa Z h a C) (w1 : (Jvm.Cond.methodLink own index y0).before a0 Z = true) (w5 : (Jvm.Cond.declares y0).before a0 Z = true) (w7 : (Jvm.Cond.interfaceMethod y0.cls y0.cls y0.name y0.desc).before a0 Z = true) (hfc : ((Jvm.Cond.interfaceMethod y0.cls y0.cls y0.name y0.desc).onTables && (Jvm.Cond.interfaceMethod y0.cls y0.cls y0.name y0.desc).keepsFace) = true) (w6 : (Jvm.Cond.selects C y0 y).before a0 Z = true) (w2 : (Jvm.Cond.instanceMethod y).before a0 Z = true) (w8 : (Jvm.Cond.publicMethod y).before a0 Z = true) (w9 : (Jvm.Cond.unhidden C y0.name y0.desc).before a0 Z = true) (w10 : (Jvm.Cond.castable C y0.cls).before a0 Z = true) (w3 : (Jvm.Cond.initialized y.cls).before a0 Z = true) (w4 : (Jvm.Cond.code y bytes maxL' ret').before a0 Z = true) (hy : y0.cls ≠ "java/lang/invoke/MethodHandle" ∧ y0.cls ≠ "java/lang/invoke/VarHandle") (hdesc : parseMethodDescriptor y0.desc = some ⟨ps, r⟩)
    (hM : Con true l Z EL n0 y bytes maxL' ret' rm (.ref a :: argsL).toArray h ws' Q') (hln : argsL.length = ps.length) (hS : S = argsL.reverse ++ .ref a :: rest) (hsz : L.size = maxL) (hd : decode code pc = .ok (.invokeinterface index count, 5)) (hf : rm.frames + 1 ≤ R.frames) (hl : (rest.map fun v => v.category).sum + (maxL' + 11) + rm.locals ≤ R.locals) (hc : cells + rm.cells ≤ R.cells) (hsl : slots + rm.slots ≤ R.slots) (hwd : wd = true) (hws : ∀ x ∈ ws', x ∈ ws ∨ h0.size ≤ x)
    (k : ∀ v h', Keep h h' ws' → Q' v h' → Ok p l e R s m args below meth c own Z a0 EL n0 h0 ws wd Q sf h' (cells + rm.cells) (slots + rm.slots) (mkF m (pc + 5) L (v.toList ++ rest))) : Ok p l e R s m args below meth c own Z a0 EL n0 h0 ws wd Q sf h cells slots (mkF m pc L S) := by
  subst hS
  exact ok_stepCW (Q' := fun v h' _ => Q' v h') (gn := fun v => mkF m (pc + 5) L (v.toList ++ rest)) hwd hws (fun vm T locs X e0 hZ hown hSi O hE hC => by
      obtain ⟨cq, kq, qa, qb, qc⟩ := isOf (s := s.setVm vm) hZ e0 E
      obtain ⟨v, _, ⟨T', L', k', n'⟩, -, X', hS2, hgr, ⟨Lc, hQ, l1, y1, z1, hR⟩, st⟩ := X.interfaceBackS G.1 (xi := y0) (y := y) hown (mvT (s := s.setVm vm) hZ w1) (mvT (s := s.setVm vm) hZ w5) (mvT (s := s.setVm vm) hZ w7 hfc) (mvT (s := s.setVm vm) hZ w6) (mvT (s := s.setVm vm) hZ w2) (mvT (s := s.setVm vm) hZ w8) (mvT (s := s.setVm vm) hZ w9) (mvT (s := s.setVm vm) hZ w10) hy (backOfSH (s := s) (Q := fun v h' L => Fr n0 L ∧ Old Z n0 h' ∧ Keep h h' ws' ∧ Q' v h') (W := (rest.map fun v => v.category).sum) hM.freeW hZ w4 w3 hf hl hE hC) qa qb qc (g := mkF m pc L (argsL.reverse ++ .ref a :: rest)) rfl (by rw [G.2.2.1]; exact hsz) (Steps.refl _) (argsL := argsL) (rest := rest) (lenOf hdesc hln) rfl (by show 2 * 0 + _ ≤ _; omega) (hb G.2.1 hd) (fun _ _ => ⟨rfl, e0, hc, hsl⟩)
      dsimp only [Pt.U, Pt.locs, Pt.cells, Pt.slots] at X' l1 y1 z1 st hQ hS2 hgr hR
      subst l1 y1 z1
      obtain ⟨X2, S2, Z2, o2⟩ := rebS hSi (by rw [← e0]; exact Nat.le_refl _) X' hS2 hgr hZ hown
      exact ⟨v, T', Lc, X2, S2, Z2, o2, hR, hQ, fun t k => st.trans k⟩) (fun v h' vm' K' _ q => k v h' K' q)
theorem ok_ldcO (G : Good p meth c code maxL ret nm) {pc : Nat} {L : Array Slot} {S : List Value} {index : Nat} {text : String} (hwd : wd = true) (w : (Jvm.Cond.stringLink own index text).before a0 Z = true) (wS : ∀ a ∈ Bundle.stringAtoms, a.before a0 Z = true) (hd : decode code pc = .ok (.ldc index, 2)) (n : Nat) (hn : 4 * text.toList.length ≤ n) (hbig : n ≤ 536870912) (hc : cells + 2 ≤ R.cells) (hl : slots + (n + 4) ≤ R.slots)
    (k : ∀ a h', Keep h h' [] → Ok p l e R s m args below meth c own Z a0 EL n0 h0 ws wd Q sf h' (cells + 2) (slots + (n + 4)) (mkF m (pc + 2) L (.ref a :: S))) : Ok p l e R s m args below meth c own Z a0 EL n0 h0 ws wd Q sf h cells slots (mkF m pc L S) :=
  ok_stepCW (ws' := []) (Q' := fun v _ _ => ∃ a, v = some (.ref a)) (gn := fun v => mkF m (pc + 2) L (v.toList ++ S)) hwd (fun _ q => nomatch q) (fun vm T locs X e0 hZ hown hSi O hE hC => by
      obtain ⟨a, T', h', k1, X', e1, E, S1, hk1, hZ', hown', hR, -, st⟩ := ldcOH X G.1 hZ hown w wS e0 hSi (Nat.le_refl _) hE hC (g := mkF m pc L S) rfl (hb G.2.1 hd) hn hbig hc hl
      subst e1
      exact ⟨some (.ref a), T', [], by rw [List.append_nil]; exact X', ⟨S1.1, S1.2.mono hk1⟩, hZ', hown', hR, ⟨Fr.nil _, O.ext E, (Keep.refl h []).ext E, a, rfl⟩, st⟩) (fun v h' vm' K' _ q => by obtain ⟨a, rfl⟩ := q; exact k a h' K')
theorem ok_ldcR (G : Good p meth c code maxL ret nm) {pc : Nat} {L : Array Slot} {S : List Value} {index : Nat} {text : String} (hwd : wd = true) (w : (Jvm.Cond.stringLink own index text).before a0 Z = true) (wS : ∀ a ∈ Bundle.stringAtoms, a.before a0 Z = true) (hmem : (own, index) ∈ EL) {vs : List Value} {z : Int32} (ht : (∀ c ∈ text.toList, c.toNat < 256) ∧ text.toList.map (fun c => Value.int (Jvm.Lit.byteI c.toNat.toUInt16)) = vs) (hz : ¬ z < 0) (hzl : z.toNatClampNeg = vs.length)
    (hd : decode code pc = .ok (.ldc index, 2)) (n : Nat) (hn : 4 * text.toList.length ≤ n) (hbig : n ≤ 536870912) (hc : cells + 2 ≤ R.cells) (hl : slots + (n + 4) ≤ R.slots)
    (k : ∀ a h' b kb, Keep h h' [] → Exa Z h' a "java/lang/String" → Fld Z h' a "java/lang/String" "coder" "B" (.int 0) → Fld Z h' a "java/lang/String" "value" "[B" (.ref b) → Arv Z h' b kb .byte z vs (.int 0) → (∀ x ∈ sf, x ≠ a ∧ x ≠ b) → Ok p l e R s m args below meth c own Z a0 EL n0 h0 ws wd Q sf h' (cells + 2) (slots + (n + 4)) (mkF m (pc + 2) L (.ref a :: S))) : Ok p l e R s m args below meth c own Z a0 EL n0 h0 ws wd Q sf h cells slots (mkF m pc L S) :=
  ok_stepCW (ws' := []) (Q' := fun v h' vm' => ∃ a b kb, v = some (.ref a) ∧ Exa Z h' a "java/lang/String" ∧ Fld Z h' a "java/lang/String" "coder" "B" (.int 0) ∧ Fld Z h' a "java/lang/String" "value" "[B" (.ref b) ∧ Arv Z h' b kb .byte z vs (.int 0) ∧ ∀ x, Safe Z EL vm' h' x → x ≠ a ∧ x ≠ b) (gn := fun v => mkF m (pc + 2) L (v.toList ++ S)) hwd (fun _ q => nomatch q) (fun vm T locs X e0 hZ hown hSi O hE hC => by
      obtain ⟨a, T', h', k1, b, kb, X', e1, E, S1, hk1, hZ', hown', F1, F2, F3, F4, -, -, hR, -, hne, st⟩ := ldcCH X G.1 hZ hown w wS e0 hSi (Nat.le_refl _) hE hmem hC ht hz hzl (g := mkF m pc L S) rfl (hb G.2.1 hd) hn hbig hc hl
      subst e1
      exact ⟨some (.ref a), T', [], by rw [List.append_nil]; exact X', ⟨S1.1, S1.2.mono hk1⟩, hZ', hown', hR, ⟨Fr.nil _, O.ext E, (Keep.refl h []).ext E, a, b, kb, rfl, F1, F2, F3, F4, hne⟩, st⟩) (fun v h' vm' K' hsf q => by obtain ⟨a, b, kb, rfl, F1, F2, F3, F4, hne⟩ := q; exact k a h' b kb K' F1 F2 F3 F4 (fun x hx => hne x (hsf x hx)))
end Heaps
end Jvm.Pilot.@@N@@.Own
namespace Jvm.Pilot.@@N@@.Own
open Jvm Jvm.ClassFile Sem Op Lib Jvm.Free Jvm.Stand Jvm.LawKit Jvm.RoadKit Bundle
section Loops
variable {p : Program} {l : Launch} {e : Env} {R : Room} {s : State} {m : MethodId} {args : Array Value} {below : List Frame} {meth : Method} {c : Code}
  {own : String} {Z : State} {a0 : Array Value} {EL : List (String × Nat)} {n0 : Nat} {h0 : Heap} {ws : List Addr} {wd : Bool} {Q : Option Value → Heap → Prop}
  {sf : List Addr} {h : Heap} {cells slots : Nat} {g : JFrame}
theorem ok_loop {A : Type} (μ : A → Nat) (P : A → Prop) (hh : A → Heap) (gg : A → JFrame)
    (st : ∀ x, P x → (∀ x', μ x' < μ x → P x' → Ok p l e R s m args below meth c own Z a0 EL n0 h0 ws wd Q sf (hh x') cells slots (gg x')) → Ok p l e R s m args below meth c own Z a0 EL n0 h0 ws wd Q sf (hh x) cells slots (gg x)) (x : A) (hx : P x) :
    Ok p l e R s m args below meth c own Z a0 EL n0 h0 ws wd Q sf (hh x) cells slots (gg x) := by
  have q : ∀ k x, μ x < k → P x → Ok p l e R s m args below meth c own Z a0 EL n0 h0 ws wd Q sf (hh x) cells slots (gg x) := by
    intro k
    induction k with
    | zero => intro x hk; exact absurd hk (Nat.not_lt_zero _)
    | succ k ih => intro x hk hx; exact st x hx (fun x' h1 h2 => ih x' (Nat.lt_of_lt_of_le h1 (Nat.le_of_lt_succ hk)) h2)
  exact q (μ x + 1) x (Nat.lt_succ_self _) hx
/-- several roads meet: what is behind is walked once -/
theorem ok_meet {A : Type} (P : A → Prop) (hh : A → Heap) (sfs : A → List Addr) (cells' slots' : Nat) (gg : A → JFrame) (hk : (∀ x, P x → Ok p l e R s m args below meth c own Z a0 EL n0 h0 ws wd Q (sfs x) (hh x) cells' slots' (gg x)) → Ok p l e R s m args below meth c own Z a0 EL n0 h0 ws wd Q sf h cells slots g)
    (k : ∀ x, P x → Ok p l e R s m args below meth c own Z a0 EL n0 h0 ws wd Q (sfs x) (hh x) cells' slots' (gg x)) : Ok p l e R s m args below meth c own Z a0 EL n0 h0 ws wd Q sf h cells slots g := hk k
/-- .. where nothing but a value tells them apart -/
theorem ok_meetV {A : Type} (P : A → Prop) (gg : A → JFrame) (hk : (∀ x, P x → Ok p l e R s m args below meth c own Z a0 EL n0 h0 ws wd Q sf h cells slots (gg x)) → Ok p l e R s m args below meth c own Z a0 EL n0 h0 ws wd Q sf h cells slots g)
    (k : ∀ x, P x → Ok p l e R s m args below meth c own Z a0 EL n0 h0 ws wd Q sf h cells slots (gg x)) : Ok p l e R s m args below meth c own Z a0 EL n0 h0 ws wd Q sf h cells slots g := hk k
end Loops
/-! ints that are small naturals -/
theorem i32_int {i : Nat} (h : i < 2147483648) : (Int32.ofNat i).toInt = i := Int32.toInt_ofNat_small h
theorem i32_lt {i j : Nat} (hi : i < 2147483648) (hj : j < 2147483648) : Int32.ofNat i < Int32.ofNat j ↔ i < j := by
  rw [Int32.lt_iff_toInt_lt, i32_int hi, i32_int hj]; omega
theorem i32_nn {i : Nat} (h : i < 2147483648) : ¬ Int32.ofNat i < 0 := by
  rw [Int32.lt_iff_toInt_lt, i32_int h]; show ¬ ((i : Int) < 0); omega
theorem i32_clamp {i : Nat} (h : i < 2147483648) : (Int32.ofNat i).toNatClampNeg = i := by
  rw [Int32.toNatClampNeg, i32_int h]; omega
theorem i32_eq {i j : Nat} (hi : i < 2147483648) (hj : j < 2147483648) : Int32.ofNat i = Int32.ofNat j ↔ i = j := by
  rw [← Int32.toInt_inj, i32_int hi, i32_int hj]; omega
theorem i32_succ (i : Nat) : Int32.ofNat i + (1 : Int32) = Int32.ofNat (i + 1) := by
  rw [Int32.ofNat_add]; rfl
theorem i32_sub {i j : Nat} (h : j ≤ i) : Int32.ofNat i - Int32.ofNat j = Int32.ofNat (i - j) := by
  have e : Int32.ofNat i = Int32.ofNat (i - j) + Int32.ofNat j := by rw [← Int32.ofNat_add]; congr 1; omega
  rw [e, Int32.add_sub_cancel]
/-! chars -/
abbrev lo8 (c : Int32) : Value := .int c.toInt8.toInt32
def Lat (c : Int32) : Prop := ¬ c < 0 ∧ ¬ (255 : Int32) < c
theorem Lat.int {c : Int32} (h : Lat c) : 0 ≤ c.toInt ∧ c.toInt ≤ 255 := by
  obtain ⟨h1, h2⟩ := h
  rw [Int32.lt_iff_toInt_lt] at h1 h2
  have e1 : (0 : Int32).toInt = 0 := rfl
  have e2 : (255 : Int32).toInt = 255 := rfl
  omega
theorem lat_mask (x : Int32) : Lat ((x &&& (255 : Int32)).toUInt32.toUInt16.toUInt32.toInt32) := by
  have t : ∀ k : Fin 256, ¬ (Int32.ofNat k.val).toUInt32.toUInt16.toUInt32.toInt32 < 0 ∧ ¬ (255 : Int32) < (Int32.ofNat k.val).toUInt32.toUInt16.toUInt32.toInt32 := by decide +kernel
  have h : (x &&& 255).toBitVec.toNat < 256 := by
    simp only [Int32.toBitVec_and, BitVec.toNat_and]
    exact Nat.lt_succ_of_le Nat.and_le_right
  have e : (x &&& 255) = Int32.ofNat (x &&& 255).toBitVec.toNat := by
    apply Int32.toBitVec_inj.mp
    show _ = BitVec.ofNat 32 _
    rw [BitVec.ofNat_toNat]; simp
  rw [e]
  exact t ⟨_, h⟩
theorem nar_char {c : Int32} (h : fits .char (.int c) = true) : nar .char c = c := by
  simp only [fits, Bool.and_eq_true, decide_eq_true_eq, Int32.le_iff_toInt_le] at h
  show c.toUInt32.toUInt16.toUInt32.toInt32 = c
  have e1 : (0 : Int32).toInt = 0 := rfl
  have e2 : (65535 : Int32).toInt = 65535 := rfl
  apply Int32.toBitVec_inj.mp
  have hn : c.toBitVec.toNat < 65536 := by
    have hi := h
    have : c.toInt = c.toBitVec.toInt := rfl
    rw [BitVec.toInt_eq_toNat_cond] at this
    split at this <;> omega
  apply BitVec.eq_of_toNat_eq
  show ((c.toUInt32.toUInt16.toUInt32.toInt32).toBitVec).toNat = _
  have : ((c.toUInt32.toUInt16.toUInt32.toInt32).toBitVec).toNat = c.toBitVec.toNat % 65536 := by
    show c.toUInt32.toUInt16.toUInt32.toNat = _
    simp
    rfl
  rw [this, Nat.mod_eq_of_lt hn]
theorem Lat.fits {c : Int32} (h : Lat c) : fits .char (.int c) = true := by
  have := h.int
  simp only [Jvm.fits, Bool.and_eq_true, decide_eq_true_eq, Int32.le_iff_toInt_le]
  have e1 : (0 : Int32).toInt = 0 := rfl
  have e2 : (65535 : Int32).toInt = 65535 := rfl
  omega
theorem Lat.nar {c : Int32} (h : Lat c) : nar .char c = c := nar_char h.fits
theorem Lat.back {c : Int32} (h : Lat c) : (c.toInt8.toInt32 &&& (255 : Int32)).toUInt32.toUInt16.toUInt32.toInt32 = c := by
  have t : ∀ k : Fin 256, ((Int32.ofNat k.val).toInt8.toInt32 &&& (255 : Int32)).toUInt32.toUInt16.toUInt32.toInt32 = Int32.ofNat k.val := by decide +kernel
  have hi := h.int
  have e : c = Int32.ofNat c.toInt.toNat := by
    rw [← Int32.toInt_inj, i32_int (by omega)]; omega
  rw [e]
  exact t ⟨c.toInt.toNat, by omega⟩
theorem Lat.inj {c d : Int32} (h : Lat c) (h' : Lat d) (e : c.toInt8.toInt32 = d.toInt8.toInt32) : c = d := by rw [← h.back, ← h'.back, e]
theorem own_mid {pre p1 p2 : List Int32} {c d : Int32} (h : pre ++ c :: p1 = pre ++ d :: p2) : c = d := by
  have := List.append_cancel_left h
  exact (List.cons.inj this).1
theorem own_bool {b : Int32} (h : b = 0 ∨ b = 1) : narrow .boolean (.int b) = .int b ∧ fits .boolean (.int b) = true := by rcases h with rfl | rfl <;> exact ⟨rfl, rfl⟩
theorem own_bit {b : Int32} {P R : Prop} (h : (b = 1 ∧ P) ∨ (b = 0 ∧ R)) : b = 0 ∨ b = 1 := h.elim (fun q => Or.inr q.1) (fun q => Or.inl q.1)
theorem own_bitT {b : Int32} {P R : Prop} (h : (b = 1 ∧ P) ∨ (b = 0 ∧ R)) (q : ¬ b = 0) : P := h.elim (fun z => z.2) (fun z => absurd z.1 q)
theorem own_bitF {b : Int32} {P R : Prop} (h : (b = 1 ∧ P) ∨ (b = 0 ∧ R)) (q : b = 0) : R := h.elim (fun z => by rw [z.1] at q; cases q) (fun z => z.2)
theorem own_if0 {P : Prop} [Decidable P] (h : (if P then (1 : Int32) else 0) = 0) : ¬ P := fun q => by rw [if_pos q] at h; cases h
theorem own_if1 {P : Prop} [Decidable P] (h : ¬ (if P then (1 : Int32) else 0) = 0) : P := by
  by_cases q : P
  · exact q
  · rw [if_neg q] at h; exact absurd rfl h
theorem getD_mem {cs : List Int32} {k : Nat} {d : Int32} (h : k < cs.length) : cs.getD k d ∈ cs := by
  rw [List.getD_eq_getElem?_getD, List.getElem?_eq_getElem h]; exact List.getElem_mem h
theorem getD_map {α : Type} {f : Int32 → α} {cs : List Int32} {k : Nat} {d : α} {e : Int32} (h : k < cs.length) : (cs.map f).getD k d = f (cs.getD k e) := by
  rw [List.getD_eq_getElem?_getD, List.getD_eq_getElem?_getD, List.getElem?_map, List.getElem?_eq_getElem h]; rfl
theorem getD_mid {α : Type} (d : α) (f : Int32 → α) (pre post : List Int32) (c : Int32) : ((pre ++ c :: post).map f).getD pre.length d = f c := by simp
theorem old_le {Z : State} {n0 : Nat} {h : Heap} (O : Old Z n0 h) : n0 ≤ h.size := O.1 ▸ O.2.1
theorem allL {α : Type} {P : α → Prop} {y : α} {L : List α} (q : P y) (r : ∀ x ∈ L, P x) : ∀ x ∈ y :: L, P x := fun x z => (List.mem_cons.mp z).elim (fun u => u ▸ q) (r x)
/-- a String of Latin-1 chars -/
def LStr (Z : State) (h : Heap) (x t : Addr) (cs : List Int32) : Prop :=
  Exa Z h x "java/lang/String" ∧ Fld Z h x "java/lang/String" "coder" "B" (.int 0) ∧ Fld Z h x "java/lang/String" "value" "[B" (.ref t) ∧
    (∃ kb, Arv Z h t kb .byte (Int32.ofNat cs.length) (cs.map lo8) (.int 0)) ∧ (∀ c ∈ cs, Lat c) ∧ cs.length ≤ 16
section StrF
variable {Z : State} {h h' : Heap} {x t : Addr} {cs : List Int32} {ws : List Addr} {a0 : Array Value}
theorem LStr.keep (F : LStr Z h x t cs) (K : Keep h h' ws) (q1 : x ∉ ws) (q2 : t ∉ ws) : LStr Z h' x t cs := by
  obtain ⟨F1, F2, F3, ⟨kb, F4⟩, F5⟩ := F
  exact ⟨F1.keep K, F2.keep K q1, F3.keep K q1, ⟨kb, F4.keep K q2⟩, F5⟩
theorem LStr.exa (F : LStr Z h x t cs) : Exa Z h x "java/lang/String" := F.1
theorem LStr.lt (F : LStr Z h x t cs) : x < h.size := F.1.lt
theorem LStr.ltT (F : LStr Z h x t cs) : t < h.size := by obtain ⟨-, -, -, ⟨_, F4⟩, -⟩ := F; exact F4.lt
theorem LStr.neT {a : Addr} {C : String} {n : Nat} (F : LStr Z h x t cs) (E : Exa Z h a C) (w : (Jvm.Cond.instantiable C n).before a0 Z = true) : a ≠ t := by
  obtain ⟨-, -, -, ⟨_, F4⟩, -⟩ := F; exact E.neArv F4 w
end StrF
/-- a String whose value is null yet is no booked one -/
theorem safe_null {Z : State} {h : Heap} {x : Addr} {EL : List (String × Nat)} {wd : Bool} {sf : List Addr} (E : Exa Z h x "java/lang/String") (FV : Fld Z h x "java/lang/String" "value" "[B" .null) : SafeFor wd Z EL sf h x := fun _ => Or.inr fun vm hal B => by
  obtain ⟨q0, hq0, u, a, hb, q, hqa, F, hx⟩ := B
  obtain ⟨cell, cf, k, i, f, f1, f2, f3, f4, f5, f6, f7⟩ := FV
  obtain ⟨cell', ke, e1, e2, e3, e4, e5⟩ := E
  cases f1.symm.trans e1
  obtain ⟨cS, ⟨⟨s1, s2, s3, ⟨cv, kv, iv, s4, s4'⟩, ⟨cc, kc, ic, s5, s5'⟩, s6, s7, s8, s9, s10, s11, s12, s13, s14, s15, s16⟩, hfS, hcS⟩, ⟨kS, k1, k2, k3⟩, hB, hbyt⟩ := F
  have s1 : h[q.sa]? = some q.sC := s1
  have s10 : h[q.sd]? = some q.SA := s10
  rcases hx with rfl | rfl
  · cases f1.symm.trans s1
    obtain ⟨kv', z4⟩ := ff_back (U := Wst Z vm h) hal s4
    cases f2.symm.trans z4
    rw [s8] at f7
    cases f7
  · cases f1.symm.trans s10
    obtain ⟨hst, k9, hk9, comp, hkind9⟩ := s11
    have hfS : vm.findClass "java/lang/String" = some cS := hfS
    have hk9 : vm.classes[q.SA.cls]? = some k9 := hk9
    have k1 : vm.classes[cS]? = some kS := k1
    rw [hal.findClass] at hfS
    have ec : cS = q.SA.cls := Option.some.inj (hfS.symm.trans e2)
    rw [ec] at k1
    cases k1.symm.trans hk9
    rw [k2] at hkind9
    cases hkind9
/-- an array written behind its first values -/
theorem Arv.push {Z : State} {h h' : Heap} {a : Addr} {k : ClassId} {ty : FieldType} {z j : Int32} {vs : List Value} {dv v : Value} (F : Arv Z h a k ty z vs dv) (hv : fits ty v = true) (W : Wr h h' a j.toNatClampNeg v) (hj : j.toNatClampNeg = vs.length) : Arv Z h' a k ty z (vs ++ [v]) dv := by
  have F' := F.pad (pad_rep vs dv 1)
  obtain ⟨c, A, q, S, N, H, U⟩ := F'
  have := Arv.set A q S N H U hv W vs.length hj (by simp)
  simpa using this
section PushR
variable {p : Program} {l : Launch} {e : Env} {R : Room} {s : State} {m : MethodId} {args : Array Value} {below : List Frame} {meth : Method} {c : Code}
  {own : String} {Z : State} {a0 : Array Value} {EL : List (String × Nat)} {n0 : Nat} {h0 : Heap} {ws : List Addr} {wd : Bool} {Q : Option Value → Heap → Prop}
  {sf : List Addr} {h : Heap} {cells slots : Nat} {code : ByteArray} {maxL : Nat} {ret : Option FieldType} {nm : String} {a : Addr}
theorem ok_bastoreA (G : Good p meth c code maxL ret nm) {pc : Nat} {L : Array Slot} {S : List Value} {kA : ClassId} {z j x : Int32} (x' : Int32) {vs : List Value} {dv : Value} (F : Arv Z h a kA .byte z vs dv) (hj : ¬ j < 0 ∧ j < z) (hi : j.toNatClampNeg = vs.length) (hv : nar .byte x = x') (hd : decode code pc = .ok (.bastore, 1))
    (hg : n0 ≤ a) (hw : a ∈ ws ∨ h0.size ≤ a) (hs : SafeFor wd Z EL sf h a)
    (k : ∀ h', Keep h h' [a] → Arv Z h' a kA .byte z (vs ++ [.int x']) dv → Ok p l e R s m args below meth c own Z a0 EL n0 h0 ws wd Q sf h' cells slots (mkF m (pc + 1) L S)) : Ok p l e R s m args below meth c own Z a0 EL n0 h0 ws wd Q sf h cells slots (mkF m pc L (.int x :: .int j :: .ref a :: S)) := by
  subst hv
  obtain ⟨cl, A, q, Sz, N, H, U⟩ := id F
  exact ok_stepW hg hw hs (fun vm T locs X e0 hZ hown O => stB X G.1 hZ e0 A (inb_of Sz hj) (g := mkF m pc L (.int x :: .int j :: .ref a :: S)) rfl rfl (hb G.2.1 hd)) (fun h' K W => k h' K (Arv.push F (fits_nar_byte _) W hi))
end PushR
end Jvm.Pilot.@@N@@.Own
namespace Jvm.Pilot.@@N@@
open Jvm Jvm.ClassFile Sem Op Lib Jvm.Free Jvm.Stand Jvm.LawKit Jvm.RoadKit Bundle Jvm.Pilot.@@N@@.Jvm.D Jvm.Pilot.@@N@@.Own
def Cx (Z : State) (a0 : Array Value) : Prop := (∀ d ∈ tables_1, d.before a0 Z = true) ∧ (∃ cz : Int32, Sta Z Z.heap "java/lang/String" "COMPACT_STRINGS" "Z" (.int cz) ∧ ¬ cz = 0)
theorem Cx.w0 {Z : State} {a0 : Array Value} (C : Cx Z a0) : (Jvm.Cond.arrayClass Jvm.ClassFile.FieldType.char).before a0 Z = true := C.1 _ (List.mem_of_getElem? (i := 0) rfl)
theorem Cx.w1 {Z : State} {a0 : Array Value} (C : Cx Z a0) : (Jvm.Cond.classLink "com/example/tiny_resolver/tinyresolver/tptp/TokenIsEndPinLaw" (34 : Nat) "java/lang/String").before a0 Z = true := C.1 _ (List.mem_of_getElem? (i := 1) rfl)
theorem Cx.w2 {Z : State} {a0 : Array Value} (C : Cx Z a0) : (Jvm.Cond.instantiable "java/lang/String" (4 : Nat)).before a0 Z = true := C.1 _ (List.mem_of_getElem? (i := 2) rfl)
theorem Cx.w3 {Z : State} {a0 : Array Value} (C : Cx Z a0) : (Jvm.Cond.initialized "java/lang/String").before a0 Z = true := C.1 _ (List.mem_of_getElem? (i := 3) rfl)
theorem Cx.w4 {Z : State} {a0 : Array Value} (C : Cx Z a0) : (Jvm.Cond.methodLink "com/example/tiny_resolver/tinyresolver/tptp/TokenIsEndPinLaw" (36 : Nat) ({ cls := "java/lang/String", name := "<init>", desc := "([C)V" } : Jvm.MethodName)).before a0 Z = true := C.1 _ (List.mem_of_getElem? (i := 4) rfl)
theorem Cx.w5 {Z : State} {a0 : Array Value} (C : Cx Z a0) : (Jvm.Cond.instanceMethod ({ cls := "java/lang/String", name := "<init>", desc := "([C)V" } : Jvm.MethodName)).before a0 Z = true := C.1 _ (List.mem_of_getElem? (i := 5) rfl)
theorem Cx.w6 {Z : State} {a0 : Array Value} (C : Cx Z a0) : (Jvm.Cond.code ({ cls := "java/lang/String", name := "<init>", desc := "([C)V" } : Jvm.MethodName) jdk_42_method_3_code (2 : Nat) (Option.none : Option Jvm.ClassFile.FieldType)).before a0 Z = true := C.1 _ (List.mem_of_getElem? (i := 6) rfl)
theorem Cx.w7 {Z : State} {a0 : Array Value} (C : Cx Z a0) : (Jvm.Cond.methodLink "java/lang/String" (27 : Nat) ({ cls := "java/lang/String", name := "<init>", desc := "([CIILjava/lang/Void;)V" } : Jvm.MethodName)).before a0 Z = true := C.1 _ (List.mem_of_getElem? (i := 7) rfl)
theorem Cx.w8 {Z : State} {a0 : Array Value} (C : Cx Z a0) : (Jvm.Cond.instanceMethod ({ cls := "java/lang/String", name := "<init>", desc := "([CIILjava/lang/Void;)V" } : Jvm.MethodName)).before a0 Z = true := C.1 _ (List.mem_of_getElem? (i := 8) rfl)
theorem Cx.w10 {Z : State} {a0 : Array Value} (C : Cx Z a0) : (Jvm.Cond.code ({ cls := "java/lang/String", name := "<init>", desc := "([CIILjava/lang/Void;)V" } : Jvm.MethodName) jdk_42_method_149_code (6 : Nat) (Option.none : Option Jvm.ClassFile.FieldType)).before a0 Z = true := C.1 _ (List.mem_of_getElem? (i := 10) rfl)
theorem Cx.w11 {Z : State} {a0 : Array Value} (C : Cx Z a0) : (Jvm.Cond.methodLink "java/lang/String" (1 : Nat) ({ cls := "java/lang/Object", name := "<init>", desc := "()V" } : Jvm.MethodName)).before a0 Z = true := C.1 _ (List.mem_of_getElem? (i := 11) rfl)
theorem Cx.w12 {Z : State} {a0 : Array Value} (C : Cx Z a0) : (Jvm.Cond.instanceMethod ({ cls := "java/lang/Object", name := "<init>", desc := "()V" } : Jvm.MethodName)).before a0 Z = true := C.1 _ (List.mem_of_getElem? (i := 12) rfl)
theorem Cx.w13 {Z : State} {a0 : Array Value} (C : Cx Z a0) : (Jvm.Cond.code ({ cls := "java/lang/Object", name := "<init>", desc := "()V" } : Jvm.MethodName) object_method_1_code (1 : Nat) (Option.none : Option Jvm.ClassFile.FieldType)).before a0 Z = true := C.1 _ (List.mem_of_getElem? (i := 13) rfl)
theorem Cx.w14 {Z : State} {a0 : Array Value} (C : Cx Z a0) : (Jvm.Cond.fieldLink "java/lang/String" (38 : Nat) "java/lang/String" "COMPACT_STRINGS" "Z").before a0 Z = true := C.1 _ (List.mem_of_getElem? (i := 14) rfl)
theorem Cx.w15 {Z : State} {a0 : Array Value} (C : Cx Z a0) : (Jvm.Cond.methodLink "java/lang/String" (177 : Nat) ({ cls := "java/lang/StringUTF16", name := "compress", desc := "([CII)[B" } : Jvm.MethodName)).before a0 Z = true := C.1 _ (List.mem_of_getElem? (i := 15) rfl)
theorem Cx.w16 {Z : State} {a0 : Array Value} (C : Cx Z a0) : (Jvm.Cond.static ({ cls := "java/lang/StringUTF16", name := "compress", desc := "([CII)[B" } : Jvm.MethodName)).before a0 Z = true := C.1 _ (List.mem_of_getElem? (i := 16) rfl)
theorem Cx.w17 {Z : State} {a0 : Array Value} (C : Cx Z a0) : (Jvm.Cond.initialized "java/lang/StringUTF16").before a0 Z = true := C.1 _ (List.mem_of_getElem? (i := 17) rfl)
theorem Cx.w18 {Z : State} {a0 : Array Value} (C : Cx Z a0) : (Jvm.Cond.code ({ cls := "java/lang/StringUTF16", name := "compress", desc := "([CII)[B" } : Jvm.MethodName) jdk_52_method_16_code (6 : Nat) (Option.some (Jvm.ClassFile.FieldType.array Jvm.ClassFile.FieldType.byte))).before a0 Z = true := C.1 _ (List.mem_of_getElem? (i := 18) rfl)
theorem Cx.w19 {Z : State} {a0 : Array Value} (C : Cx Z a0) : (Jvm.Cond.arrayClass Jvm.ClassFile.FieldType.byte).before a0 Z = true := C.1 _ (List.mem_of_getElem? (i := 19) rfl)
theorem Cx.w20 {Z : State} {a0 : Array Value} (C : Cx Z a0) : (Jvm.Cond.methodLink "java/lang/StringUTF16" (115 : Nat) ({ cls := "java/lang/StringUTF16", name := "compress", desc := "([CI[BII)I" } : Jvm.MethodName)).before a0 Z = true := C.1 _ (List.mem_of_getElem? (i := 20) rfl)
theorem Cx.w21 {Z : State} {a0 : Array Value} (C : Cx Z a0) : (Jvm.Cond.static ({ cls := "java/lang/StringUTF16", name := "compress", desc := "([CI[BII)I" } : Jvm.MethodName)).before a0 Z = true := C.1 _ (List.mem_of_getElem? (i := 21) rfl)
theorem Cx.w22 {Z : State} {a0 : Array Value} (C : Cx Z a0) : (Jvm.Cond.code ({ cls := "java/lang/StringUTF16", name := "compress", desc := "([CI[BII)I" } : Jvm.MethodName) jdk_52_method_21_code (7 : Nat) (Option.some Jvm.ClassFile.FieldType.int)).before a0 Z = true := C.1 _ (List.mem_of_getElem? (i := 22) rfl)
theorem Cx.w23 {Z : State} {a0 : Array Value} (C : Cx Z a0) : (Jvm.Cond.methodLink "java/lang/String" (47 : Nat) ({ cls := "java/lang/StringUTF16", name := "coderFromArrayLen", desc := "([BI)B" } : Jvm.MethodName)).before a0 Z = true := C.1 _ (List.mem_of_getElem? (i := 23) rfl)
theorem Cx.w24 {Z : State} {a0 : Array Value} (C : Cx Z a0) : (Jvm.Cond.static ({ cls := "java/lang/StringUTF16", name := "coderFromArrayLen", desc := "([BI)B" } : Jvm.MethodName)).before a0 Z = true := C.1 _ (List.mem_of_getElem? (i := 24) rfl)
theorem Cx.w25 {Z : State} {a0 : Array Value} (C : Cx Z a0) : (Jvm.Cond.code ({ cls := "java/lang/StringUTF16", name := "coderFromArrayLen", desc := "([BI)B" } : Jvm.MethodName) jdk_52_method_15_code (2 : Nat) (Option.some Jvm.ClassFile.FieldType.byte)).before a0 Z = true := C.1 _ (List.mem_of_getElem? (i := 25) rfl)
theorem Cx.w26 {Z : State} {a0 : Array Value} (C : Cx Z a0) : (Jvm.Cond.fieldLink "java/lang/String" (15 : Nat) "java/lang/String" "coder" "B").before a0 Z = true := C.1 _ (List.mem_of_getElem? (i := 26) rfl)
theorem Cx.w27 {Z : State} {a0 : Array Value} (C : Cx Z a0) : (Jvm.Cond.laysFinal "java/lang/String" "java/lang/String" "coder" "B").before a0 Z = true := C.1 _ (List.mem_of_getElem? (i := 27) rfl)
theorem Cx.w28 {Z : State} {a0 : Array Value} (C : Cx Z a0) : (Jvm.Cond.fieldLink "java/lang/String" (9 : Nat) "java/lang/String" "value" "[B").before a0 Z = true := C.1 _ (List.mem_of_getElem? (i := 28) rfl)
theorem Cx.w29 {Z : State} {a0 : Array Value} (C : Cx Z a0) : (Jvm.Cond.laysFinal "java/lang/String" "java/lang/String" "value" "[B").before a0 Z = true := C.1 _ (List.mem_of_getElem? (i := 29) rfl)
theorem Cx.w30 {Z : State} {a0 : Array Value} (C : Cx Z a0) : (Jvm.Cond.classLink "com/example/tiny_resolver/tinyresolver/tptp/TokenIsEndPinLaw" (45 : Nat) "com/example/tiny_resolver/tinyresolver/tptp/TptpLexer$Token").before a0 Z = true := C.1 _ (List.mem_of_getElem? (i := 30) rfl)
theorem Cx.w31 {Z : State} {a0 : Array Value} (C : Cx Z a0) : (Jvm.Cond.instantiable "com/example/tiny_resolver/tinyresolver/tptp/TptpLexer$Token" (4 : Nat)).before a0 Z = true := C.1 _ (List.mem_of_getElem? (i := 31) rfl)
theorem Cx.w32 {Z : State} {a0 : Array Value} (C : Cx Z a0) : (Jvm.Cond.initialized "com/example/tiny_resolver/tinyresolver/tptp/TptpLexer$Token").before a0 Z = true := C.1 _ (List.mem_of_getElem? (i := 32) rfl)
theorem Cx.w33 {Z : State} {a0 : Array Value} (C : Cx Z a0) : (Jvm.Cond.methodLink "com/example/tiny_resolver/tinyresolver/tptp/TokenIsEndPinLaw" (47 : Nat) ({ cls := "com/example/tiny_resolver/tinyresolver/tptp/TokenIsEndPinLaw", name := "kindOf", desc := "(I)Lcom/example/tiny_resolver/tinyresolver/tptp/TptpLexer$Kind;" } : Jvm.MethodName)).before a0 Z = true := C.1 _ (List.mem_of_getElem? (i := 33) rfl)
theorem Cx.w34 {Z : State} {a0 : Array Value} (C : Cx Z a0) : (Jvm.Cond.static ({ cls := "com/example/tiny_resolver/tinyresolver/tptp/TokenIsEndPinLaw", name := "kindOf", desc := "(I)Lcom/example/tiny_resolver/tinyresolver/tptp/TptpLexer$Kind;" } : Jvm.MethodName)).before a0 Z = true := C.1 _ (List.mem_of_getElem? (i := 34) rfl)
theorem Cx.w35 {Z : State} {a0 : Array Value} (C : Cx Z a0) : (Jvm.Cond.initialized "com/example/tiny_resolver/tinyresolver/tptp/TokenIsEndPinLaw").before a0 Z = true := C.1 _ (List.mem_of_getElem? (i := 35) rfl)
theorem Cx.w36 {Z : State} {a0 : Array Value} (C : Cx Z a0) : (Jvm.Cond.code ({ cls := "com/example/tiny_resolver/tinyresolver/tptp/TokenIsEndPinLaw", name := "kindOf", desc := "(I)Lcom/example/tiny_resolver/tinyresolver/tptp/TptpLexer$Kind;" } : Jvm.MethodName) method_2_code (1 : Nat) (Option.some (Jvm.ClassFile.FieldType.object "com/example/tiny_resolver/tinyresolver/tptp/TptpLexer$Kind"))).before a0 Z = true := C.1 _ (List.mem_of_getElem? (i := 36) rfl)
theorem Cx.w37 {Z : State} {a0 : Array Value} (C : Cx Z a0) : (Jvm.Cond.fieldLink "com/example/tiny_resolver/tinyresolver/tptp/TokenIsEndPinLaw" (7 : Nat) "com/example/tiny_resolver/tinyresolver/tptp/TptpLexer$Kind" "LOWER_WORD" "Lcom/example/tiny_resolver/tinyresolver/tptp/TptpLexer$Kind;").before a0 Z = true := C.1 _ (List.mem_of_getElem? (i := 37) rfl)
theorem Cx.w40 {Z : State} {a0 : Array Value} (C : Cx Z a0) : (Jvm.Cond.methodLink "com/example/tiny_resolver/tinyresolver/tptp/TokenIsEndPinLaw" (53 : Nat) ({ cls := "com/example/tiny_resolver/tinyresolver/tptp/TptpLexer$Token", name := "<init>", desc := "(Lcom/example/tiny_resolver/tinyresolver/tptp/TptpLexer$Kind;Ljava/lang/String;II)V" } : Jvm.MethodName)).before a0 Z = true := C.1 _ (List.mem_of_getElem? (i := 40) rfl)
theorem Cx.w41 {Z : State} {a0 : Array Value} (C : Cx Z a0) : (Jvm.Cond.instanceMethod ({ cls := "com/example/tiny_resolver/tinyresolver/tptp/TptpLexer$Token", name := "<init>", desc := "(Lcom/example/tiny_resolver/tinyresolver/tptp/TptpLexer$Kind;Ljava/lang/String;II)V" } : Jvm.MethodName)).before a0 Z = true := C.1 _ (List.mem_of_getElem? (i := 41) rfl)
theorem Cx.w42 {Z : State} {a0 : Array Value} (C : Cx Z a0) : (Jvm.Cond.code ({ cls := "com/example/tiny_resolver/tinyresolver/tptp/TptpLexer$Token", name := "<init>", desc := "(Lcom/example/tiny_resolver/tinyresolver/tptp/TptpLexer$Kind;Ljava/lang/String;II)V" } : Jvm.MethodName) prog_69_method_1_code (5 : Nat) (Option.none : Option Jvm.ClassFile.FieldType)).before a0 Z = true := C.1 _ (List.mem_of_getElem? (i := 42) rfl)
theorem Cx.w43 {Z : State} {a0 : Array Value} (C : Cx Z a0) : (Jvm.Cond.methodLink "com/example/tiny_resolver/tinyresolver/tptp/TptpLexer$Token" (1 : Nat) ({ cls := "java/lang/Record", name := "<init>", desc := "()V" } : Jvm.MethodName)).before a0 Z = true := C.1 _ (List.mem_of_getElem? (i := 43) rfl)
theorem Cx.w44 {Z : State} {a0 : Array Value} (C : Cx Z a0) : (Jvm.Cond.instanceMethod ({ cls := "java/lang/Record", name := "<init>", desc := "()V" } : Jvm.MethodName)).before a0 Z = true := C.1 _ (List.mem_of_getElem? (i := 44) rfl)
theorem Cx.w46 {Z : State} {a0 : Array Value} (C : Cx Z a0) : (Jvm.Cond.initialized "java/lang/Record").before a0 Z = true := C.1 _ (List.mem_of_getElem? (i := 46) rfl)
theorem Cx.w47 {Z : State} {a0 : Array Value} (C : Cx Z a0) : (Jvm.Cond.code ({ cls := "java/lang/Record", name := "<init>", desc := "()V" } : Jvm.MethodName) jdk_30_method_1_code (1 : Nat) (Option.none : Option Jvm.ClassFile.FieldType)).before a0 Z = true := C.1 _ (List.mem_of_getElem? (i := 47) rfl)
theorem Cx.w48 {Z : State} {a0 : Array Value} (C : Cx Z a0) : (Jvm.Cond.methodLink "java/lang/Record" (1 : Nat) ({ cls := "java/lang/Object", name := "<init>", desc := "()V" } : Jvm.MethodName)).before a0 Z = true := C.1 _ (List.mem_of_getElem? (i := 48) rfl)
theorem Cx.w49 {Z : State} {a0 : Array Value} (C : Cx Z a0) : (Jvm.Cond.fieldLink "com/example/tiny_resolver/tinyresolver/tptp/TptpLexer$Token" (7 : Nat) "com/example/tiny_resolver/tinyresolver/tptp/TptpLexer$Token" "kind" "Lcom/example/tiny_resolver/tinyresolver/tptp/TptpLexer$Kind;").before a0 Z = true := C.1 _ (List.mem_of_getElem? (i := 49) rfl)
theorem Cx.w50 {Z : State} {a0 : Array Value} (C : Cx Z a0) : (Jvm.Cond.laysFinal "com/example/tiny_resolver/tinyresolver/tptp/TptpLexer$Token" "com/example/tiny_resolver/tinyresolver/tptp/TptpLexer$Token" "kind" "Lcom/example/tiny_resolver/tinyresolver/tptp/TptpLexer$Kind;").before a0 Z = true := C.1 _ (List.mem_of_getElem? (i := 50) rfl)
theorem Cx.w51 {Z : State} {a0 : Array Value} (C : Cx Z a0) : (Jvm.Cond.fieldLink "com/example/tiny_resolver/tinyresolver/tptp/TptpLexer$Token" (13 : Nat) "com/example/tiny_resolver/tinyresolver/tptp/TptpLexer$Token" "text" "Ljava/lang/String;").before a0 Z = true := C.1 _ (List.mem_of_getElem? (i := 51) rfl)
theorem Cx.w52 {Z : State} {a0 : Array Value} (C : Cx Z a0) : (Jvm.Cond.laysFinal "com/example/tiny_resolver/tinyresolver/tptp/TptpLexer$Token" "com/example/tiny_resolver/tinyresolver/tptp/TptpLexer$Token" "text" "Ljava/lang/String;").before a0 Z = true := C.1 _ (List.mem_of_getElem? (i := 52) rfl)
theorem Cx.w53 {Z : State} {a0 : Array Value} (C : Cx Z a0) : (Jvm.Cond.fieldLink "com/example/tiny_resolver/tinyresolver/tptp/TptpLexer$Token" (17 : Nat) "com/example/tiny_resolver/tinyresolver/tptp/TptpLexer$Token" "line" "I").before a0 Z = true := C.1 _ (List.mem_of_getElem? (i := 53) rfl)
theorem Cx.w54 {Z : State} {a0 : Array Value} (C : Cx Z a0) : (Jvm.Cond.laysFinal "com/example/tiny_resolver/tinyresolver/tptp/TptpLexer$Token" "com/example/tiny_resolver/tinyresolver/tptp/TptpLexer$Token" "line" "I").before a0 Z = true := C.1 _ (List.mem_of_getElem? (i := 54) rfl)
theorem Cx.w55 {Z : State} {a0 : Array Value} (C : Cx Z a0) : (Jvm.Cond.fieldLink "com/example/tiny_resolver/tinyresolver/tptp/TptpLexer$Token" (21 : Nat) "com/example/tiny_resolver/tinyresolver/tptp/TptpLexer$Token" "column" "I").before a0 Z = true := C.1 _ (List.mem_of_getElem? (i := 55) rfl)
theorem Cx.w56 {Z : State} {a0 : Array Value} (C : Cx Z a0) : (Jvm.Cond.laysFinal "com/example/tiny_resolver/tinyresolver/tptp/TptpLexer$Token" "com/example/tiny_resolver/tinyresolver/tptp/TptpLexer$Token" "column" "I").before a0 Z = true := C.1 _ (List.mem_of_getElem? (i := 56) rfl)
theorem Cx.w57 {Z : State} {a0 : Array Value} (C : Cx Z a0) : (Jvm.Cond.methodLink "com/example/tiny_resolver/tinyresolver/tptp/TokenIsEndPinLaw" (56 : Nat) ({ cls := "com/example/tiny_resolver/tinyresolver/tptp/TptpLexer$Token", name := "isEnd", desc := "()Z" } : Jvm.MethodName)).before a0 Z = true := C.1 _ (List.mem_of_getElem? (i := 57) rfl)
theorem Cx.w58 {Z : State} {a0 : Array Value} (C : Cx Z a0) : (Jvm.Cond.declares ({ cls := "com/example/tiny_resolver/tinyresolver/tptp/TptpLexer$Token", name := "isEnd", desc := "()Z" } : Jvm.MethodName)).before a0 Z = true := C.1 _ (List.mem_of_getElem? (i := 58) rfl)
theorem Cx.w59 {Z : State} {a0 : Array Value} (C : Cx Z a0) : (Jvm.Cond.instanceMethod ({ cls := "com/example/tiny_resolver/tinyresolver/tptp/TptpLexer$Token", name := "isEnd", desc := "()Z" } : Jvm.MethodName)).before a0 Z = true := C.1 _ (List.mem_of_getElem? (i := 59) rfl)
theorem Cx.w60 {Z : State} {a0 : Array Value} (C : Cx Z a0) : (Jvm.Cond.selects "com/example/tiny_resolver/tinyresolver/tptp/TptpLexer$Token" ({ cls := "com/example/tiny_resolver/tinyresolver/tptp/TptpLexer$Token", name := "isEnd", desc := "()Z" } : Jvm.MethodName) ({ cls := "com/example/tiny_resolver/tinyresolver/tptp/TptpLexer$Token", name := "isEnd", desc := "()Z" } : Jvm.MethodName)).before a0 Z = true := C.1 _ (List.mem_of_getElem? (i := 60) rfl)
theorem Cx.w61 {Z : State} {a0 : Array Value} (C : Cx Z a0) : (Jvm.Cond.code ({ cls := "com/example/tiny_resolver/tinyresolver/tptp/TptpLexer$Token", name := "isEnd", desc := "()Z" } : Jvm.MethodName) prog_69_method_2_code (1 : Nat) (Option.some Jvm.ClassFile.FieldType.boolean)).before a0 Z = true := C.1 _ (List.mem_of_getElem? (i := 61) rfl)
theorem Cx.w62 {Z : State} {a0 : Array Value} (C : Cx Z a0) : (Jvm.Cond.fieldLink "com/example/tiny_resolver/tinyresolver/tptp/TptpLexer$Token" (24 : Nat) "com/example/tiny_resolver/tinyresolver/tptp/TptpLexer$Kind" "END" "Lcom/example/tiny_resolver/tinyresolver/tptp/TptpLexer$Kind;").before a0 Z = true := C.1 _ (List.mem_of_getElem? (i := 62) rfl)
theorem Cx.w64 {Z : State} {a0 : Array Value} (C : Cx Z a0) : (Jvm.Cond.fieldLink "com/example/tiny_resolver/tinyresolver/tptp/TokenIsEndPinLaw" (22 : Nat) "com/example/tiny_resolver/tinyresolver/tptp/TptpLexer$Kind" "NUMBER" "Lcom/example/tiny_resolver/tinyresolver/tptp/TptpLexer$Kind;").before a0 Z = true := C.1 _ (List.mem_of_getElem? (i := 64) rfl)
theorem Cx.w66 {Z : State} {a0 : Array Value} (C : Cx Z a0) : (Jvm.Cond.stringLink "com/example/tiny_resolver/tinyresolver/tptp/TokenIsEndPinLaw" (43 : Nat) "").before a0 Z = true := C.1 _ (List.mem_of_getElem? (i := 66) rfl)
theorem Cx.w69 {Z : State} {a0 : Array Value} (C : Cx Z a0) : (Jvm.Cond.fieldLink "com/example/tiny_resolver/tinyresolver/tptp/TokenIsEndPinLaw" (25 : Nat) "com/example/tiny_resolver/tinyresolver/tptp/TptpLexer$Kind" "DOLLAR_WORD" "Lcom/example/tiny_resolver/tinyresolver/tptp/TptpLexer$Kind;").before a0 Z = true := C.1 _ (List.mem_of_getElem? (i := 69) rfl)
theorem Cx.w71 {Z : State} {a0 : Array Value} (C : Cx Z a0) : (Jvm.Cond.fieldLink "com/example/tiny_resolver/tinyresolver/tptp/TokenIsEndPinLaw" (31 : Nat) "com/example/tiny_resolver/tinyresolver/tptp/TptpLexer$Kind" "END" "Lcom/example/tiny_resolver/tinyresolver/tptp/TptpLexer$Kind;").before a0 Z = true := C.1 _ (List.mem_of_getElem? (i := 71) rfl)
theorem Cx.w72 {Z : State} {a0 : Array Value} (C : Cx Z a0) : (Jvm.Cond.fieldLink "com/example/tiny_resolver/tinyresolver/tptp/TokenIsEndPinLaw" (16 : Nat) "com/example/tiny_resolver/tinyresolver/tptp/TptpLexer$Kind" "SINGLE_QUOTED" "Lcom/example/tiny_resolver/tinyresolver/tptp/TptpLexer$Kind;").before a0 Z = true := C.1 _ (List.mem_of_getElem? (i := 72) rfl)
theorem Cx.w74 {Z : State} {a0 : Array Value} (C : Cx Z a0) : (Jvm.Cond.methodLink "com/example/tiny_resolver/tinyresolver/tptp/TokenIsEndPinLaw" (39 : Nat) ({ cls := "java/lang/String", name := "valueOf", desc := "(C)Ljava/lang/String;" } : Jvm.MethodName)).before a0 Z = true := C.1 _ (List.mem_of_getElem? (i := 74) rfl)
theorem Cx.w75 {Z : State} {a0 : Array Value} (C : Cx Z a0) : (Jvm.Cond.static ({ cls := "java/lang/String", name := "valueOf", desc := "(C)Ljava/lang/String;" } : Jvm.MethodName)).before a0 Z = true := C.1 _ (List.mem_of_getElem? (i := 75) rfl)
theorem Cx.w76 {Z : State} {a0 : Array Value} (C : Cx Z a0) : (Jvm.Cond.code ({ cls := "java/lang/String", name := "valueOf", desc := "(C)Ljava/lang/String;" } : Jvm.MethodName) jdk_42_method_139_code (1 : Nat) (Option.some (Jvm.ClassFile.FieldType.object "java/lang/String"))).before a0 Z = true := C.1 _ (List.mem_of_getElem? (i := 76) rfl)
theorem Cx.w77 {Z : State} {a0 : Array Value} (C : Cx Z a0) : (Jvm.Cond.methodLink "java/lang/String" (1015 : Nat) ({ cls := "java/lang/StringLatin1", name := "canEncode", desc := "(C)Z" } : Jvm.MethodName)).before a0 Z = true := C.1 _ (List.mem_of_getElem? (i := 77) rfl)
theorem Cx.w78 {Z : State} {a0 : Array Value} (C : Cx Z a0) : (Jvm.Cond.static ({ cls := "java/lang/StringLatin1", name := "canEncode", desc := "(C)Z" } : Jvm.MethodName)).before a0 Z = true := C.1 _ (List.mem_of_getElem? (i := 78) rfl)
theorem Cx.w79 {Z : State} {a0 : Array Value} (C : Cx Z a0) : (Jvm.Cond.initialized "java/lang/StringLatin1").before a0 Z = true := C.1 _ (List.mem_of_getElem? (i := 79) rfl)
theorem Cx.w80 {Z : State} {a0 : Array Value} (C : Cx Z a0) : (Jvm.Cond.code ({ cls := "java/lang/StringLatin1", name := "canEncode", desc := "(C)Z" } : Jvm.MethodName) jdk_43_method_3_code (1 : Nat) (Option.some Jvm.ClassFile.FieldType.boolean)).before a0 Z = true := C.1 _ (List.mem_of_getElem? (i := 80) rfl)
theorem Cx.w81 {Z : State} {a0 : Array Value} (C : Cx Z a0) : (Jvm.Cond.classLink "java/lang/String" (10 : Nat) "java/lang/String").before a0 Z = true := C.1 _ (List.mem_of_getElem? (i := 81) rfl)
theorem Cx.w82 {Z : State} {a0 : Array Value} (C : Cx Z a0) : (Jvm.Cond.methodLink "java/lang/String" (1018 : Nat) ({ cls := "java/lang/StringLatin1", name := "toBytes", desc := "(C)[B" } : Jvm.MethodName)).before a0 Z = true := C.1 _ (List.mem_of_getElem? (i := 82) rfl)
theorem Cx.w83 {Z : State} {a0 : Array Value} (C : Cx Z a0) : (Jvm.Cond.static ({ cls := "java/lang/StringLatin1", name := "toBytes", desc := "(C)[B" } : Jvm.MethodName)).before a0 Z = true := C.1 _ (List.mem_of_getElem? (i := 83) rfl)
theorem Cx.w84 {Z : State} {a0 : Array Value} (C : Cx Z a0) : (Jvm.Cond.code ({ cls := "java/lang/StringLatin1", name := "toBytes", desc := "(C)[B" } : Jvm.MethodName) jdk_43_method_46_code (1 : Nat) (Option.some (Jvm.ClassFile.FieldType.array Jvm.ClassFile.FieldType.byte))).before a0 Z = true := C.1 _ (List.mem_of_getElem? (i := 84) rfl)
theorem Cx.w85 {Z : State} {a0 : Array Value} (C : Cx Z a0) : (Jvm.Cond.methodLink "java/lang/String" (209 : Nat) ({ cls := "java/lang/String", name := "<init>", desc := "([BB)V" } : Jvm.MethodName)).before a0 Z = true := C.1 _ (List.mem_of_getElem? (i := 85) rfl)
theorem Cx.w86 {Z : State} {a0 : Array Value} (C : Cx Z a0) : (Jvm.Cond.instanceMethod ({ cls := "java/lang/String", name := "<init>", desc := "([BB)V" } : Jvm.MethodName)).before a0 Z = true := C.1 _ (List.mem_of_getElem? (i := 86) rfl)
theorem Cx.w87 {Z : State} {a0 : Array Value} (C : Cx Z a0) : (Jvm.Cond.code ({ cls := "java/lang/String", name := "<init>", desc := "([BB)V" } : Jvm.MethodName) jdk_42_method_151_code (3 : Nat) (Option.none : Option Jvm.ClassFile.FieldType)).before a0 Z = true := C.1 _ (List.mem_of_getElem? (i := 87) rfl)
theorem Cx.w88 {Z : State} {a0 : Array Value} (C : Cx Z a0) : (Jvm.Cond.fieldLink "com/example/tiny_resolver/tinyresolver/tptp/TokenIsEndPinLaw" (28 : Nat) "com/example/tiny_resolver/tinyresolver/tptp/TptpLexer$Kind" "OTHER" "Lcom/example/tiny_resolver/tinyresolver/tptp/TptpLexer$Kind;").before a0 Z = true := C.1 _ (List.mem_of_getElem? (i := 88) rfl)
theorem Cx.w90 {Z : State} {a0 : Array Value} (C : Cx Z a0) : (Jvm.Cond.fieldLink "com/example/tiny_resolver/tinyresolver/tptp/TokenIsEndPinLaw" (19 : Nat) "com/example/tiny_resolver/tinyresolver/tptp/TptpLexer$Kind" "DISTINCT_OBJECT" "Lcom/example/tiny_resolver/tinyresolver/tptp/TptpLexer$Kind;").before a0 Z = true := C.1 _ (List.mem_of_getElem? (i := 90) rfl)
theorem Cx.w92 {Z : State} {a0 : Array Value} (C : Cx Z a0) : (Jvm.Cond.fieldLink "com/example/tiny_resolver/tinyresolver/tptp/TokenIsEndPinLaw" (13 : Nat) "com/example/tiny_resolver/tinyresolver/tptp/TptpLexer$Kind" "UPPER_WORD" "Lcom/example/tiny_resolver/tinyresolver/tptp/TptpLexer$Kind;").before a0 Z = true := C.1 _ (List.mem_of_getElem? (i := 92) rfl)
theorem Cx.compact {Z : State} {a0 : Array Value} (C : Cx Z a0) : (∃ cz : Int32, Sta Z Z.heap "java/lang/String" "COMPACT_STRINGS" "Z" (.int cz) ∧ ¬ cz = 0) := C.2
theorem Cx.strs {Z : State} {a0 : Array Value} (C : Cx Z a0) : ∀ a ∈ Bundle.stringAtoms, a.before a0 Z = true := fun d hd => C.1 d ((by decide +kernel : ∀ d ∈ Bundle.stringAtoms, d ∈ tables_1) d hd)
theorem own_seven {x : Int32} (h0 : ¬ (x &&& (7 : Int32)) = 0) (h1 : ¬ (x &&& (7 : Int32)) = 1) (h2 : ¬ (x &&& (7 : Int32)) = 2) (h3 : ¬ (x &&& (7 : Int32)) = 3) (h4 : ¬ (x &&& (7 : Int32)) = 4) (h5 : ¬ (x &&& (7 : Int32)) = 5) (h6 : ¬ (x &&& (7 : Int32)) = 6) : (x &&& (7 : Int32)) = 7 := by
  have t : ∀ k : Fin 8, Int32.ofNat k.val = 0 ∨ Int32.ofNat k.val = 1 ∨ Int32.ofNat k.val = 2 ∨ Int32.ofNat k.val = 3 ∨ Int32.ofNat k.val = 4 ∨ Int32.ofNat k.val = 5 ∨ Int32.ofNat k.val = 6 ∨ Int32.ofNat k.val = 7 := by decide +kernel
  have hlt : (x &&& 7).toBitVec.toNat < 8 := by
    simp only [Int32.toBitVec_and, BitVec.toNat_and]
    exact Nat.lt_succ_of_le Nat.and_le_right
  have e : (x &&& 7) = Int32.ofNat (x &&& 7).toBitVec.toNat := by
    apply Int32.toBitVec_inj.mp
    show _ = BitVec.ofNat 32 _
    rw [BitVec.ofNat_toNat]; simp
  rw [e] at h0 h1 h2 h3 h4 h5 h6 ⊢
  rcases t ⟨_, hlt⟩ with q | q | q | q | q | q | q | q
  · exact absurd q h0
  · exact absurd q h1
  · exact absurd q h2
  · exact absurd q h3
  · exact absurd q h4
  · exact absurd q h5
  · exact absurd q h6
  · exact q
theorem d_jdk_52_method_21_code_0 : decode jdk_52_method_21_code 0 = .ok (.iconst 0, 1) := by decide +kernel
theorem d_jdk_52_method_21_code_1 : decode jdk_52_method_21_code 1 = .ok (.istore 5, 2) := by decide +kernel
theorem d_jdk_52_method_21_code_3 : decode jdk_52_method_21_code 3 = .ok (.iload 5, 2) := by decide +kernel
theorem d_jdk_52_method_21_code_5 : decode jdk_52_method_21_code 5 = .ok (.iload 4, 2) := by decide +kernel
theorem d_jdk_52_method_21_code_7 : decode jdk_52_method_21_code 7 = .ok (.if_icmp .ge 37, 3) := by decide +kernel
theorem d_jdk_52_method_21_code_44 : decode jdk_52_method_21_code 44 = .ok (.iload 4, 2) := by decide +kernel
theorem d_jdk_52_method_21_code_46 : decode jdk_52_method_21_code 46 = .ok (.ireturn, 1) := by decide +kernel
theorem d_jdk_52_method_21_code_10 : decode jdk_52_method_21_code 10 = .ok (.aload_n 0, 1) := by decide +kernel
theorem d_jdk_52_method_21_code_11 : decode jdk_52_method_21_code 11 = .ok (.iload_n 1, 1) := by decide +kernel
theorem d_jdk_52_method_21_code_12 : decode jdk_52_method_21_code 12 = .ok (.caload, 1) := by decide +kernel
theorem d_jdk_52_method_21_code_13 : decode jdk_52_method_21_code 13 = .ok (.istore 6, 2) := by decide +kernel
theorem d_jdk_52_method_21_code_15 : decode jdk_52_method_21_code 15 = .ok (.iload 6, 2) := by decide +kernel
theorem d_jdk_52_method_21_code_17 : decode jdk_52_method_21_code 17 = .ok (.sipush 255, 3) := by decide +kernel
theorem d_jdk_52_method_21_code_20 : decode jdk_52_method_21_code 20 = .ok (.if_icmp .le 6, 3) := by decide +kernel
theorem d_jdk_52_method_21_code_26 : decode jdk_52_method_21_code 26 = .ok (.aload_n 2, 1) := by decide +kernel
theorem d_jdk_52_method_21_code_27 : decode jdk_52_method_21_code 27 = .ok (.iload_n 3, 1) := by decide +kernel
theorem d_jdk_52_method_21_code_28 : decode jdk_52_method_21_code 28 = .ok (.iload 6, 2) := by decide +kernel
theorem d_jdk_52_method_21_code_30 : decode jdk_52_method_21_code 30 = .ok (.i2b, 1) := by decide +kernel
theorem d_jdk_52_method_21_code_31 : decode jdk_52_method_21_code 31 = .ok (.bastore, 1) := by decide +kernel
theorem d_jdk_52_method_21_code_32 : decode jdk_52_method_21_code 32 = .ok (.iinc 1 1, 3) := by decide +kernel
theorem d_jdk_52_method_21_code_35 : decode jdk_52_method_21_code 35 = .ok (.iinc 3 1, 3) := by decide +kernel
theorem d_jdk_52_method_21_code_38 : decode jdk_52_method_21_code 38 = .ok (.iinc 5 1, 3) := by decide +kernel
theorem d_jdk_52_method_21_code_41 : decode jdk_52_method_21_code 41 = .ok (.goto (-38), 3) := by decide +kernel
def R_c_comp5 : Room := { frames := 0, cells := 0, slots := 0, locals := 0 }
theorem pl_b5 : plainFor (⟨"java/lang/StringUTF16", "compress", "([CI[BII)I"⟩ : MethodName) = true := plainFor_of_name (by first | (simp [plainName, overriddenIn]; done) | decide +kernel)
set_option maxRecDepth 65536 in
set_option maxHeartbeats 40000000 in
theorem c_comp5 {l : Launch} {Z : State} {a0 : Array Value} {n0 : Nat} {h0 : Heap} (C : Cx Z a0) (hO : Old Z n0 h0) {a b : Addr} {ka kb : ClassId} {cs : List Int32} {dv : Value} (A : Arv Z h0 a ka .char (Int32.ofNat cs.length) (cs.map Value.int) dv) (B : Arv Z h0 b kb .byte (Int32.ofNat cs.length) [] (.int 0)) (hab : a ≠ b) (hl : cs.length ≤ 16) (hc : ∀ c ∈ cs, Lat c) (g_b : n0 ≤ b) :
    Con false l Z [] n0 (⟨"java/lang/StringUTF16", "compress", "([CI[BII)I"⟩ : MethodName) jdk_52_method_21_code 7 (some .int) R_c_comp5 #[(.ref a), (.int (0 : Int32)), (.ref b), (.int (0 : Int32)), (.int (Int32.ofNat cs.length))] h0 [b] (fun v h => v = some (.int (Int32.ofNat cs.length)) ∧ Arv Z h b kb .byte (Int32.ofNat cs.length) (cs.map lo8) (.int 0)) := by
  refine Con.intro (a0 := a0) pl_b5 hO (fun q => nomatch q) ?_
  intro p e s m below meth c G
  refine ok_as (mkF m 0 #[.val (.ref a), .val (.int (0 : Int32)), .val (.ref b), .val (.int (0 : Int32)), .val (.int (Int32.ofNat cs.length)), .unset, .unset] []) (by first | rfl | (simp [entryFrame, mkF, argsToLocals, Value.category]; done)) ?_
  refine ok_iconst G (0 : Int32) d_jdk_52_method_21_code_0 rfl ?_
  refine ok_istore G #[.val (.ref a), .val (.int (0 : Int32)), .val (.ref b), .val (.int (0 : Int32)), .val (.int (Int32.ofNat cs.length)), .val (.int (0 : Int32)), .unset] d_jdk_52_method_21_code_1 rfl ?_
  refine ok_loop (A := List Int32 × List Int32 × Heap × Slot) (fun q => q.2.1.length) (fun q => q.1 ++ q.2.1 = cs ∧ One q.2.2.2 ∧ Arv Z q.2.2.1 a ka .char (Int32.ofNat cs.length) (cs.map Value.int) dv ∧ Arv Z q.2.2.1 b kb .byte (Int32.ofNat cs.length) (q.1.map lo8) (.int 0)) (fun q => q.2.2.1) (fun q => mkF m 3 #[.val (.ref a), .val (.int (Int32.ofNat q.1.length)), .val (.ref b), .val (.int (Int32.ofNat q.1.length)), .val (.int (Int32.ofNat cs.length)), .val (.int (Int32.ofNat q.1.length)), q.2.2.2] []) ?_ ([], cs, h0, .unset) ⟨rfl, One.u, A, B⟩
  clear A B
  rintro ⟨pre, post, h, sl⟩ ⟨hcs, hsl, A, B⟩ ih
  dsimp only at hcs hsl A B ih ⊢
  cases post with
  | nil =>
    rw [List.append_nil] at hcs
    subst hcs
    refine ok_iload G d_jdk_52_method_21_code_3 rfl ?_
    refine ok_iload G d_jdk_52_method_21_code_5 rfl ?_
    refine ok_icmpgeY G 44 d_jdk_52_method_21_code_7 (by decide) (by decide) (by rw [i32_lt (by omega) (by omega)]; omega) ?_
    refine ok_iload G d_jdk_52_method_21_code_44 rfl ?_
    exact ok_retI G rfl d_jdk_52_method_21_code_46 ⟨rfl, B⟩ (Nat.le_of_ble_eq_true rfl) (Nat.le_of_ble_eq_true rfl)
  | cons ch post =>
    have hlt : pre.length < cs.length := by rw [← hcs]; simp
    have hch : Lat ch := hc ch (by rw [← hcs]; simp)
    refine ok_iload G d_jdk_52_method_21_code_3 rfl ?_
    refine ok_iload G d_jdk_52_method_21_code_5 rfl ?_
    refine ok_icmpgeN G d_jdk_52_method_21_code_7 ((i32_lt (by omega) (by omega)).mpr hlt) ?_
    refine ok_aloadN G d_jdk_52_method_21_code_10 rfl rfl ?_
    refine ok_iloadN G d_jdk_52_method_21_code_11 rfl ?_
    refine ok_caload G ch A ⟨i32_nn (by omega), (i32_lt (by omega) (by omega)).mpr hlt⟩ (by rw [i32_clamp (by omega), ← hcs]; exact getD_mid _ _ _ _ _) d_jdk_52_method_21_code_12 ?_
    refine ok_istore G #[.val (.ref a), .val (.int (Int32.ofNat pre.length)), .val (.ref b), .val (.int (Int32.ofNat pre.length)), .val (.int (Int32.ofNat cs.length)), .val (.int (Int32.ofNat pre.length)), .val (.int ch)] d_jdk_52_method_21_code_13 (XS.store1 rfl hsl rfl) ?_
    refine ok_iload G d_jdk_52_method_21_code_15 rfl ?_
    refine ok_sipush G (255 : Int32) d_jdk_52_method_21_code_17 rfl ?_
    refine ok_icmpleY G 26 d_jdk_52_method_21_code_20 (by decide) (by decide) hch.2 ?_
    refine ok_aloadN G d_jdk_52_method_21_code_26 rfl rfl ?_
    refine ok_iloadN G d_jdk_52_method_21_code_27 rfl ?_
    refine ok_iload G d_jdk_52_method_21_code_28 rfl ?_
    refine ok_i2b G d_jdk_52_method_21_code_30 ?_
    refine ok_bastoreA G ch.toInt8.toInt32 B ⟨i32_nn (by omega), (i32_lt (by omega) (by omega)).mpr hlt⟩ (by rw [i32_clamp (by omega)]; simp) (by simp [nar]) d_jdk_52_method_21_code_31 g_b (Or.inl (List.mem_of_getElem? (i := 0) rfl)) SafeFor.narrow ?_
    intro hp1 K2 Bn
    replace A := A.keep K2 (ninS hab nin0)
    replace B := Bn
    clear Bn
    refine ok_iinc G ((Int32.ofNat pre.length) + (1 : Int32)) #[.val (.ref a), .val (.int ((Int32.ofNat pre.length) + (1 : Int32))), .val (.ref b), .val (.int (Int32.ofNat pre.length)), .val (.int (Int32.ofNat cs.length)), .val (.int (Int32.ofNat pre.length)), .val (.int ch)] d_jdk_52_method_21_code_32 rfl rfl rfl ?_
    refine ok_iinc G ((Int32.ofNat pre.length) + (1 : Int32)) #[.val (.ref a), .val (.int ((Int32.ofNat pre.length) + (1 : Int32))), .val (.ref b), .val (.int ((Int32.ofNat pre.length) + (1 : Int32))), .val (.int (Int32.ofNat cs.length)), .val (.int (Int32.ofNat pre.length)), .val (.int ch)] d_jdk_52_method_21_code_35 rfl rfl rfl ?_
    refine ok_iinc G ((Int32.ofNat pre.length) + (1 : Int32)) #[.val (.ref a), .val (.int ((Int32.ofNat pre.length) + (1 : Int32))), .val (.ref b), .val (.int ((Int32.ofNat pre.length) + (1 : Int32))), .val (.int (Int32.ofNat cs.length)), .val (.int ((Int32.ofNat pre.length) + (1 : Int32))), .val (.int ch)] d_jdk_52_method_21_code_38 rfl rfl rfl ?_
    refine ok_goto G 3 d_jdk_52_method_21_code_41 (by decide) (by decide) ?_
    have e1 : Int32.ofNat pre.length + (1 : Int32) = Int32.ofNat (pre ++ [ch]).length := by rw [i32_succ]; simp
    rw [e1]
    exact ih (pre ++ [ch], post, hp1, .val (.int ch)) (by simp) ⟨by simpa using hcs, One.val rfl, A, by simpa using B⟩
theorem d_jdk_52_method_16_code_0 : decode jdk_52_method_16_code 0 = .ok (.iload_n 2, 1) := by decide +kernel
theorem d_jdk_52_method_16_code_1 : decode jdk_52_method_16_code 1 = .ok (.newarray .byte, 2) := by decide +kernel
theorem d_jdk_52_method_16_code_3 : decode jdk_52_method_16_code 3 = .ok (.astore_n 3, 1) := by decide +kernel
theorem d_jdk_52_method_16_code_4 : decode jdk_52_method_16_code 4 = .ok (.aload_n 0, 1) := by decide +kernel
theorem d_jdk_52_method_16_code_5 : decode jdk_52_method_16_code 5 = .ok (.iload_n 1, 1) := by decide +kernel
theorem d_jdk_52_method_16_code_6 : decode jdk_52_method_16_code 6 = .ok (.aload_n 3, 1) := by decide +kernel
theorem d_jdk_52_method_16_code_7 : decode jdk_52_method_16_code 7 = .ok (.iconst 0, 1) := by decide +kernel
theorem d_jdk_52_method_16_code_8 : decode jdk_52_method_16_code 8 = .ok (.iload_n 2, 1) := by decide +kernel
theorem d_jdk_52_method_16_code_9 : decode jdk_52_method_16_code 9 = .ok (.invokestatic 115, 3) := by decide +kernel
theorem pd0 : parseMethodDescriptor "([CI[BII)I" = some ⟨[(.array .char), .int, (.array .byte), .int, .int], some .int⟩ := by decide +kernel
theorem d_jdk_52_method_16_code_12 : decode jdk_52_method_16_code 12 = .ok (.istore 4, 2) := by decide +kernel
theorem d_jdk_52_method_16_code_14 : decode jdk_52_method_16_code 14 = .ok (.iload 4, 2) := by decide +kernel
theorem d_jdk_52_method_16_code_16 : decode jdk_52_method_16_code 16 = .ok (.iload_n 2, 1) := by decide +kernel
theorem d_jdk_52_method_16_code_17 : decode jdk_52_method_16_code 17 = .ok (.if_icmp .eq 40, 3) := by decide +kernel
theorem d_jdk_52_method_16_code_57 : decode jdk_52_method_16_code 57 = .ok (.aload_n 3, 1) := by decide +kernel
theorem d_jdk_52_method_16_code_58 : decode jdk_52_method_16_code 58 = .ok (.areturn, 1) := by decide +kernel
def R_c_comp3 : Room := { frames := 1, cells := 1, slots := 16, locals := 18 }
theorem pl_b4 : plainFor (⟨"java/lang/StringUTF16", "compress", "([CII)[B"⟩ : MethodName) = true := plainFor_of_name (by first | (simp [plainName, overriddenIn]; done) | decide +kernel)
set_option maxRecDepth 65536 in
set_option maxHeartbeats 40000000 in
theorem c_comp3 {l : Launch} {Z : State} {a0 : Array Value} {n0 : Nat} {h0 : Heap} (C : Cx Z a0) (hO : Old Z n0 h0) {a : Addr} {ka : ClassId} {cs : List Int32} {dv : Value} (A : Arv Z h0 a ka .char (Int32.ofNat cs.length) (cs.map Value.int) dv) (hl : cs.length ≤ 16) (hc : ∀ c ∈ cs, Lat c) :
    Con false l Z [] n0 (⟨"java/lang/StringUTF16", "compress", "([CII)[B"⟩ : MethodName) jdk_52_method_16_code 6 (some (.array .byte)) R_c_comp3 #[(.ref a), (.int (0 : Int32)), (.int (Int32.ofNat cs.length))] h0 [] (fun v h => ∃ t kb, v = some (.ref t) ∧ h0.size ≤ t ∧ Arv Z h t kb .byte (Int32.ofNat cs.length) (cs.map lo8) (.int 0)) := by
  refine Con.intro (a0 := a0) pl_b4 hO (fun q => nomatch q) ?_
  intro p e s m below meth c G
  refine ok_as (mkF m 0 #[.val (.ref a), .val (.int (0 : Int32)), .val (.int (Int32.ofNat cs.length)), .unset, .unset, .unset] []) (by first | rfl | (simp [entryFrame, mkF, argsToLocals, Value.category]; done)) ?_
  refine ok_iloadN G d_jdk_52_method_16_code_0 rfl ?_
  refine ok_newP G (aty := .byte) (C.w19) d_jdk_52_method_16_code_1 (i32_nn (by omega)) 16 (by rw [i32_clamp (by omega)]; exact hl) (by decide) (Nat.le_of_ble_eq_true rfl) (Nat.le_of_ble_eq_true rfl) ?_
  intro hp2 ob1 k_ob1 eq_ob1 K3 g_ob1 lb_ob1 V_ob1
  have ne_a_ob1 : a ≠ ob1 := Nat.ne_of_lt (Nat.lt_of_lt_of_le A.lt (Nat.le_of_eq eq_ob1.symm))
  replace A := A.keep K3 nin0
  refine ok_astoreN G #[.val (.ref a), .val (.int (0 : Int32)), .val (.int (Int32.ofNat cs.length)), .val (.ref ob1), .unset, .unset] d_jdk_52_method_16_code_3 rfl rfl ?_
  refine ok_aloadN G d_jdk_52_method_16_code_4 rfl rfl ?_
  refine ok_iloadN G d_jdk_52_method_16_code_5 rfl ?_
  refine ok_aloadN G d_jdk_52_method_16_code_6 rfl rfl ?_
  refine ok_iconst G (0 : Int32) d_jdk_52_method_16_code_7 rfl ?_
  refine ok_iloadN G d_jdk_52_method_16_code_8 rfl ?_
  refine ok_old (fun hO_hp2 => ?_)
  refine ok_static G (argsL := [(.ref a), (.int (0 : Int32)), (.ref ob1), (.int (0 : Int32)), (.int (Int32.ofNat cs.length))]) (rest := []) (C.w20) (C.w21) (C.w17) (C.w22) (by decide) pd0 (c_comp5 C hO_hp2 A V_ob1 ne_a_ob1 hl hc g_ob1) rfl rfl rfl d_jdk_52_method_16_code_9 (Nat.le_of_ble_eq_true rfl) (Nat.le_of_ble_eq_true rfl) (Nat.le_of_ble_eq_true rfl) (Nat.le_of_ble_eq_true rfl) (allS ⟨(Or.inr lb_ob1), SafeFor.narrow⟩ (fun _ q => nomatch q)) ?_
  rintro _ hp4 K5 ⟨rfl, V_ob1⟩
  replace A := A.keep K5 (ninS ne_a_ob1 nin0)
  refine ok_as (mkF m 12 #[.val (.ref a), .val (.int (0 : Int32)), .val (.int (Int32.ofNat cs.length)), .val (.ref ob1), .unset, .unset] [(.int (Int32.ofNat cs.length))]) rfl ?_
  refine ok_istore G #[.val (.ref a), .val (.int (0 : Int32)), .val (.int (Int32.ofNat cs.length)), .val (.ref ob1), .val (.int (Int32.ofNat cs.length)), .unset] d_jdk_52_method_16_code_12 rfl ?_
  refine ok_iload G d_jdk_52_method_16_code_14 rfl ?_
  refine ok_iloadN G d_jdk_52_method_16_code_16 rfl ?_
  refine ok_icmpeqY G 57 d_jdk_52_method_16_code_17 (by decide) (by decide) rfl ?_
  refine ok_aloadN G d_jdk_52_method_16_code_57 rfl rfl ?_
  exact ok_retA G rfl rfl rfl d_jdk_52_method_16_code_58 rfl ⟨_, _, rfl, lb_ob1, V_ob1⟩ (Nat.le_of_ble_eq_true rfl) (Nat.le_of_ble_eq_true rfl)
theorem d_jdk_52_method_15_code_0 : decode jdk_52_method_15_code 0 = .ok (.iload_n 1, 1) := by decide +kernel
theorem d_jdk_52_method_15_code_1 : decode jdk_52_method_15_code 1 = .ok (.aload_n 0, 1) := by decide +kernel
theorem d_jdk_52_method_15_code_2 : decode jdk_52_method_15_code 2 = .ok (.arraylength, 1) := by decide +kernel
theorem d_jdk_52_method_15_code_3 : decode jdk_52_method_15_code 3 = .ok (.isub, 1) := by decide +kernel
theorem d_jdk_52_method_15_code_4 : decode jdk_52_method_15_code 4 = .ok (.bipush 31, 2) := by decide +kernel
theorem d_jdk_52_method_15_code_6 : decode jdk_52_method_15_code 6 = .ok (.iushr, 1) := by decide +kernel
theorem d_jdk_52_method_15_code_7 : decode jdk_52_method_15_code 7 = .ok (.i2b, 1) := by decide +kernel
theorem d_jdk_52_method_15_code_8 : decode jdk_52_method_15_code 8 = .ok (.ireturn, 1) := by decide +kernel
def R_c_cod : Room := { frames := 0, cells := 0, slots := 0, locals := 0 }
theorem pl_b6 : plainFor (⟨"java/lang/StringUTF16", "coderFromArrayLen", "([BI)B"⟩ : MethodName) = true := plainFor_of_name (by first | (simp [plainName, overriddenIn]; done) | decide +kernel)
set_option maxRecDepth 65536 in
set_option maxHeartbeats 40000000 in
theorem c_cod {l : Launch} {Z : State} {a0 : Array Value} {n0 : Nat} {h0 : Heap} (C : Cx Z a0) (hO : Old Z n0 h0) {b : Addr} {kb : ClassId} {n : Int32} {vs : List Value} {dv : Value} (B : Arv Z h0 b kb .byte n vs dv) :
    Con false l Z [] n0 (⟨"java/lang/StringUTF16", "coderFromArrayLen", "([BI)B"⟩ : MethodName) jdk_52_method_15_code 2 (some .byte) R_c_cod #[(.ref b), (.int n)] h0 [] (fun v h => v = some (.int 0) ∧ h0 = h) := by
  refine Con.intro (a0 := a0) pl_b6 hO (fun q => nomatch q) ?_
  intro p e s m below meth c G
  refine ok_as (mkF m 0 #[.val (.ref b), .val (.int n)] []) (by first | rfl | (simp [entryFrame, mkF, argsToLocals, Value.category]; done)) ?_
  refine ok_iloadN G d_jdk_52_method_15_code_0 rfl ?_
  refine ok_aloadN G d_jdk_52_method_15_code_1 rfl rfl ?_
  refine ok_arraylength G B d_jdk_52_method_15_code_2 ?_
  refine ok_isub G d_jdk_52_method_15_code_3 ?_
  refine ok_bipush G (31 : Int32) d_jdk_52_method_15_code_4 rfl ?_
  refine ok_iushr G d_jdk_52_method_15_code_6 ?_
  refine ok_i2b G d_jdk_52_method_15_code_7 ?_
  refine ok_sayI (0 : Int32) (by rw [Int32.sub_self]; rfl) ?_
  exact ok_retN G rfl (by simp) d_jdk_52_method_15_code_8 rfl ⟨rfl, rfl⟩ (Nat.le_of_ble_eq_true rfl) (Nat.le_of_ble_eq_true rfl)
theorem d_jdk_42_method_149_code_0 : decode jdk_42_method_149_code 0 = .ok (.aload_n 0, 1) := by decide +kernel
theorem d_jdk_42_method_149_code_1 : decode jdk_42_method_149_code 1 = .ok (.invokespecial 1, 3) := by decide +kernel
theorem d_jdk_42_method_149_code_4 : decode jdk_42_method_149_code 4 = .ok (.iload_n 3, 1) := by decide +kernel
theorem d_jdk_42_method_149_code_5 : decode jdk_42_method_149_code 5 = .ok (.ifCond .ne 22, 3) := by decide +kernel
theorem d_jdk_42_method_149_code_27 : decode jdk_42_method_149_code 27 = .ok (.getstatic 38, 3) := by decide +kernel
theorem d_jdk_42_method_149_code_30 : decode jdk_42_method_149_code 30 = .ok (.ifCond .eq 28, 3) := by decide +kernel
theorem d_jdk_42_method_149_code_33 : decode jdk_42_method_149_code 33 = .ok (.aload_n 1, 1) := by decide +kernel
theorem d_jdk_42_method_149_code_34 : decode jdk_42_method_149_code 34 = .ok (.iload_n 2, 1) := by decide +kernel
theorem d_jdk_42_method_149_code_35 : decode jdk_42_method_149_code 35 = .ok (.iload_n 3, 1) := by decide +kernel
theorem d_jdk_42_method_149_code_36 : decode jdk_42_method_149_code 36 = .ok (.invokestatic 177, 3) := by decide +kernel
theorem pd1 : parseMethodDescriptor "([CII)[B" = some ⟨[(.array .char), .int, .int], some (.array .byte)⟩ := by decide +kernel
theorem d_jdk_42_method_149_code_39 : decode jdk_42_method_149_code 39 = .ok (.astore 5, 2) := by decide +kernel
theorem d_jdk_42_method_149_code_41 : decode jdk_42_method_149_code 41 = .ok (.aload_n 0, 1) := by decide +kernel
theorem d_jdk_42_method_149_code_42 : decode jdk_42_method_149_code 42 = .ok (.aload 5, 2) := by decide +kernel
theorem d_jdk_42_method_149_code_44 : decode jdk_42_method_149_code 44 = .ok (.iload_n 3, 1) := by decide +kernel
theorem d_jdk_42_method_149_code_45 : decode jdk_42_method_149_code 45 = .ok (.invokestatic 47, 3) := by decide +kernel
theorem pd2 : parseMethodDescriptor "([BI)B" = some ⟨[(.array .byte), .int], some .byte⟩ := by decide +kernel
theorem d_jdk_42_method_149_code_48 : decode jdk_42_method_149_code 48 = .ok (.putfield 15, 3) := by decide +kernel
theorem d_jdk_42_method_149_code_51 : decode jdk_42_method_149_code 51 = .ok (.aload_n 0, 1) := by decide +kernel
theorem d_jdk_42_method_149_code_52 : decode jdk_42_method_149_code 52 = .ok (.aload 5, 2) := by decide +kernel
theorem d_jdk_42_method_149_code_54 : decode jdk_42_method_149_code 54 = .ok (.putfield 9, 3) := by decide +kernel
theorem d_jdk_42_method_149_code_57 : decode jdk_42_method_149_code 57 = .ok (.return_, 1) := by decide +kernel
def R_c_init4 : Room := { frames := 2, cells := 1, slots := 16, locals := 35 }
theorem pl_b2 : plainFor (⟨"java/lang/String", "<init>", "([CIILjava/lang/Void;)V"⟩ : MethodName) = true := plainFor_of_name (by first | (simp [plainName, overriddenIn]; done) | decide +kernel)
set_option maxRecDepth 65536 in
set_option maxHeartbeats 40000000 in
theorem c_init4 {l : Launch} {Z : State} {a0 : Array Value} {n0 : Nat} {h0 : Heap} (C : Cx Z a0) (hO : Old Z n0 h0) {x a : Addr} {ka : ClassId} {cs : List Int32} {dv : Value} (E : Exa Z h0 x "java/lang/String") (FV : Fld Z h0 x "java/lang/String" "value" "[B" .null) (FC : Fld Z h0 x "java/lang/String" "coder" "B" (.int (0 : Int32))) (g_x : n0 ≤ x) (A : Arv Z h0 a ka .char (Int32.ofNat cs.length) (cs.map Value.int) dv) (h1 : 0 < cs.length) (hl : cs.length ≤ 16) (hc : ∀ c ∈ cs, Lat c) (hxa : x ≠ a) :
    Con false l Z [] n0 (⟨"java/lang/String", "<init>", "([CIILjava/lang/Void;)V"⟩ : MethodName) jdk_42_method_149_code 6 none R_c_init4 #[(.ref x), (.ref a), (.int (0 : Int32)), (.int (Int32.ofNat cs.length)), .null] h0 [x] (fun v h => v = none ∧ ∃ t, h0.size ≤ t ∧ LStr Z h x t cs) := by
  refine Con.intro (a0 := a0) pl_b2 hO (fun q => nomatch q) ?_
  intro p e s m below meth c G
  refine ok_as (mkF m 0 #[.val (.ref x), .val (.ref a), .val (.int (0 : Int32)), .val (.int (Int32.ofNat cs.length)), .val .null, .unset] []) (by first | rfl | (simp [entryFrame, mkF, argsToLocals, Value.category]; done)) ?_
  refine ok_aloadN G d_jdk_42_method_149_code_0 rfl rfl ?_
  refine ok_initO G (C.w11) (C.w12) (C.w13) rfl d_jdk_42_method_149_code_1 (Nat.le_of_ble_eq_true rfl) (Nat.le_of_ble_eq_true rfl) ?_
  refine ok_iloadN G d_jdk_42_method_149_code_4 rfl ?_
  refine ok_ifneY G 27 d_jdk_42_method_149_code_5 (by decide) (by decide) (by rw [show (0 : Int32) = Int32.ofNat 0 from rfl, i32_eq (by omega) (by omega)]; omega) ?_
  obtain ⟨cz, hCS, hcz⟩ := C.compact
  refine ok_getS G (host := "") (Or.inl (C.w14)) Via.refl hCS d_jdk_42_method_149_code_27 ?_
  refine ok_ifeqN G d_jdk_42_method_149_code_30 hcz ?_
  refine ok_aloadN G d_jdk_42_method_149_code_33 rfl rfl ?_
  refine ok_iloadN G d_jdk_42_method_149_code_34 rfl ?_
  refine ok_iloadN G d_jdk_42_method_149_code_35 rfl ?_
  refine ok_static G (argsL := [(.ref a), (.int (0 : Int32)), (.int (Int32.ofNat cs.length))]) (rest := []) (C.w15) (C.w16) (C.w17) (C.w18) (by decide) pd1 (c_comp3 C hO A hl hc) rfl rfl rfl d_jdk_42_method_149_code_36 (Nat.le_of_ble_eq_true rfl) (Nat.le_of_ble_eq_true rfl) (Nat.le_of_ble_eq_true rfl) (Nat.le_of_ble_eq_true rfl) (fun _ q => nomatch q) ?_
  rintro _ hp3 K4 ⟨tr1, kb2, rfl, lbq_tr1, V_tr1⟩
  have lbh_tr1 := lbq_tr1
  have ne_x_tr1 : x ≠ tr1 := Nat.ne_of_lt (Nat.lt_of_lt_of_le E.lt lbh_tr1)
  have ne_a_tr1 : a ≠ tr1 := Nat.ne_of_lt (Nat.lt_of_lt_of_le A.lt lbh_tr1)
  have lb_tr1 : h0.size ≤ tr1 := lbh_tr1
  have g_tr1 : n0 ≤ tr1 := Nat.le_trans (old_le hO) lbh_tr1
  replace E := E.keep K4
  replace FV := FV.keep K4 nin0
  replace FC := FC.keep K4 nin0
  replace A := A.keep K4 nin0
  refine ok_as (mkF m 39 #[.val (.ref x), .val (.ref a), .val (.int (0 : Int32)), .val (.int (Int32.ofNat cs.length)), .val .null, .unset] [(.ref tr1)]) rfl ?_
  refine ok_astore G #[.val (.ref x), .val (.ref a), .val (.int (0 : Int32)), .val (.int (Int32.ofNat cs.length)), .val .null, .val (.ref tr1)] d_jdk_42_method_149_code_39 rfl rfl ?_
  refine ok_aloadN G d_jdk_42_method_149_code_41 rfl rfl ?_
  refine ok_aload G d_jdk_42_method_149_code_42 rfl rfl ?_
  refine ok_iloadN G d_jdk_42_method_149_code_44 rfl ?_
  refine ok_old (fun hO_hp3 => ?_)
  refine ok_static G (argsL := [(.ref tr1), (.int (Int32.ofNat cs.length))]) (rest := [(.ref x)]) (C.w23) (C.w24) (C.w17) (C.w25) (by decide) pd2 (c_cod C hO_hp3 V_tr1) rfl rfl rfl d_jdk_42_method_149_code_45 (Nat.le_of_ble_eq_true rfl) (Nat.le_of_ble_eq_true rfl) (Nat.le_of_ble_eq_true rfl) (Nat.le_of_ble_eq_true rfl) (fun _ q => nomatch q) ?_
  rintro _ _ _ ⟨rfl, rfl⟩
  refine ok_as (mkF m 48 #[.val (.ref x), .val (.ref a), .val (.int (0 : Int32)), .val (.int (Int32.ofNat cs.length)), .val .null, .val (.ref tr1)] [(.int (0 : Int32)), (.ref x)]) rfl ?_
  refine ok_putF G (host := "") (Or.inl (C.w26)) Via.refl FC E (Or.inr ⟨(C.w27), rfl, rfl⟩) (C.w2) (ty := .byte) (by decide) rfl rfl d_jdk_42_method_149_code_48 g_x (Or.inl (List.mem_of_getElem? (i := 0) rfl)) SafeFor.narrow ?_
  intro hp7 K8 Wn Fn
  replace FV := FV.other Wn (Or.inr (slot_ne (Or.inr (C.w29)) (Or.inr (C.w27)) (by decide) (t := (.array .byte)) (t' := .byte) (by decide) (by decide)))
  replace E := E.keep K8
  replace A := A.keep K8 (ninS (Ne.symm hxa) nin0)
  replace V_tr1 := V_tr1.keep K8 (ninS (Ne.symm ne_x_tr1) nin0)
  replace FC : Fld Z hp7 x "java/lang/String" "coder" "B" (.int (0 : Int32)) := Fn
  clear Wn Fn
  refine ok_aloadN G d_jdk_42_method_149_code_51 rfl rfl ?_
  refine ok_aload G d_jdk_42_method_149_code_52 rfl rfl ?_
  refine ok_putF G (host := "") (Or.inl (C.w28)) Via.refl FV E (Or.inr ⟨(C.w29), rfl, rfl⟩) (C.w2) (ty := (.array .byte)) (by decide) rfl rfl d_jdk_42_method_149_code_54 g_x (Or.inl (List.mem_of_getElem? (i := 0) rfl)) SafeFor.narrow ?_
  intro hp9 K10 Wn Fn
  replace FC := FC.other Wn (Or.inr (slot_ne (Or.inr (C.w27)) (Or.inr (C.w29)) (by decide) (t := .byte) (t' := (.array .byte)) (by decide) (by decide)))
  replace E := E.keep K10
  replace A := A.keep K10 (ninS (Ne.symm hxa) nin0)
  replace V_tr1 := V_tr1.keep K10 (ninS (Ne.symm ne_x_tr1) nin0)
  replace FV : Fld Z hp9 x "java/lang/String" "value" "[B" (.ref tr1) := Fn
  clear Wn Fn
  exact ok_return G rfl d_jdk_42_method_149_code_57 ⟨rfl, _, lb_tr1, E, FC, FV, ⟨_, V_tr1⟩, hc, hl⟩ (Nat.le_of_ble_eq_true rfl) (Nat.le_of_ble_eq_true rfl)
theorem d_jdk_42_method_3_code_0 : decode jdk_42_method_3_code 0 = .ok (.aload_n 0, 1) := by decide +kernel
theorem d_jdk_42_method_3_code_1 : decode jdk_42_method_3_code 1 = .ok (.aload_n 1, 1) := by decide +kernel
theorem d_jdk_42_method_3_code_2 : decode jdk_42_method_3_code 2 = .ok (.iconst 0, 1) := by decide +kernel
theorem d_jdk_42_method_3_code_3 : decode jdk_42_method_3_code 3 = .ok (.aload_n 1, 1) := by decide +kernel
theorem d_jdk_42_method_3_code_4 : decode jdk_42_method_3_code 4 = .ok (.arraylength, 1) := by decide +kernel
theorem d_jdk_42_method_3_code_5 : decode jdk_42_method_3_code 5 = .ok (.aconst_null, 1) := by decide +kernel
theorem d_jdk_42_method_3_code_6 : decode jdk_42_method_3_code 6 = .ok (.invokespecial 27, 3) := by decide +kernel
theorem pd3 : parseMethodDescriptor "([CIILjava/lang/Void;)V" = some ⟨[(.array .char), .int, .int, (.object "java/lang/Void")], none⟩ := by decide +kernel
theorem d_jdk_42_method_3_code_9 : decode jdk_42_method_3_code 9 = .ok (.return_, 1) := by decide +kernel
def R_c_init1 : Room := { frames := 3, cells := 1, slots := 16, locals := 52 }
theorem pl_b1 : plainFor (⟨"java/lang/String", "<init>", "([C)V"⟩ : MethodName) = true := plainFor_of_name (by first | (simp [plainName, overriddenIn]; done) | decide +kernel)
set_option maxRecDepth 65536 in
set_option maxHeartbeats 40000000 in
theorem c_init1 {l : Launch} {Z : State} {a0 : Array Value} {n0 : Nat} {h0 : Heap} (C : Cx Z a0) (hO : Old Z n0 h0) {x a : Addr} {ka : ClassId} {cs : List Int32} {dv : Value} (E : Exa Z h0 x "java/lang/String") (FV : Fld Z h0 x "java/lang/String" "value" "[B" .null) (FC : Fld Z h0 x "java/lang/String" "coder" "B" (.int (0 : Int32))) (g_x : n0 ≤ x) (A : Arv Z h0 a ka .char (Int32.ofNat cs.length) (cs.map Value.int) dv) (h1 : 0 < cs.length) (hl : cs.length ≤ 16) (hc : ∀ c ∈ cs, Lat c) (hxa : x ≠ a) :
    Con false l Z [] n0 (⟨"java/lang/String", "<init>", "([C)V"⟩ : MethodName) jdk_42_method_3_code 2 none R_c_init1 #[(.ref x), (.ref a)] h0 [x] (fun v h => v = none ∧ ∃ t, h0.size ≤ t ∧ LStr Z h x t cs) := by
  refine Con.intro (a0 := a0) pl_b1 hO (fun q => nomatch q) ?_
  intro p e s m below meth c G
  refine ok_as (mkF m 0 #[.val (.ref x), .val (.ref a)] []) (by first | rfl | (simp [entryFrame, mkF, argsToLocals, Value.category]; done)) ?_
  refine ok_aloadN G d_jdk_42_method_3_code_0 rfl rfl ?_
  refine ok_aloadN G d_jdk_42_method_3_code_1 rfl rfl ?_
  refine ok_iconst G (0 : Int32) d_jdk_42_method_3_code_2 rfl ?_
  refine ok_aloadN G d_jdk_42_method_3_code_3 rfl rfl ?_
  refine ok_arraylength G A d_jdk_42_method_3_code_4 ?_
  refine ok_aconst_null G d_jdk_42_method_3_code_5 ?_
  refine ok_init G (a := x) (argsL := [(.ref a), (.int (0 : Int32)), (.int (Int32.ofNat cs.length)), .null]) (rest := []) rfl (C.w7) (C.w8) (C.w3) (C.w10) (by decide) pd3 (c_init4 C hO E FV FC g_x A h1 hl hc hxa) rfl rfl rfl d_jdk_42_method_3_code_6 (Nat.le_of_ble_eq_true rfl) (Nat.le_of_ble_eq_true rfl) (Nat.le_of_ble_eq_true rfl) (Nat.le_of_ble_eq_true rfl) (allS ⟨(Or.inl (List.mem_of_getElem? (i := 0) rfl)), SafeFor.narrow⟩ (fun _ q => nomatch q)) ?_
  rintro _ hp2 K3 ⟨rfl, tr1, lbq_tr1, S_x⟩
  have lbh_tr1 := lbq_tr1
  have ne_x_tr1 : x ≠ tr1 := Nat.ne_of_lt (Nat.lt_of_lt_of_le E.lt lbh_tr1)
  have ne_a_tr1 : a ≠ tr1 := Nat.ne_of_lt (Nat.lt_of_lt_of_le A.lt lbh_tr1)
  have lb_tr1 : h0.size ≤ tr1 := lbh_tr1
  have g_tr1 : n0 ≤ tr1 := Nat.le_trans (old_le hO) lbh_tr1
  replace E := E.keep K3
  replace A := A.keep K3 (ninS (Ne.symm hxa) nin0)
  refine ok_as (mkF m 9 #[.val (.ref x), .val (.ref a)] []) rfl ?_
  exact ok_return G rfl d_jdk_42_method_3_code_9 ⟨rfl, _, lb_tr1, S_x⟩ (Nat.le_of_ble_eq_true rfl) (Nat.le_of_ble_eq_true rfl)
theorem d_jdk_43_method_3_code_0 : decode jdk_43_method_3_code 0 = .ok (.iload_n 0, 1) := by decide +kernel
theorem d_jdk_43_method_3_code_1 : decode jdk_43_method_3_code 1 = .ok (.sipush 255, 3) := by decide +kernel
theorem d_jdk_43_method_3_code_4 : decode jdk_43_method_3_code 4 = .ok (.if_icmp .gt 7, 3) := by decide +kernel
theorem d_jdk_43_method_3_code_7 : decode jdk_43_method_3_code 7 = .ok (.iconst 1, 1) := by decide +kernel
theorem d_jdk_43_method_3_code_8 : decode jdk_43_method_3_code 8 = .ok (.goto 4, 3) := by decide +kernel
theorem d_jdk_43_method_3_code_12 : decode jdk_43_method_3_code 12 = .ok (.ireturn, 1) := by decide +kernel
def R_c_canE : Room := { frames := 0, cells := 0, slots := 0, locals := 0 }
theorem pl_b12 : plainFor (⟨"java/lang/StringLatin1", "canEncode", "(C)Z"⟩ : MethodName) = true := plainFor_of_name (by first | (simp [plainName, overriddenIn]; done) | decide +kernel)
set_option maxRecDepth 65536 in
set_option maxHeartbeats 40000000 in
theorem c_canE {l : Launch} {Z : State} {a0 : Array Value} {n0 : Nat} {h0 : Heap} (C : Cx Z a0) (hO : Old Z n0 h0) {ch : Int32} (hch : Lat ch) :
    Con false l Z [] n0 (⟨"java/lang/StringLatin1", "canEncode", "(C)Z"⟩ : MethodName) jdk_43_method_3_code 1 (some .boolean) R_c_canE #[(.int ch)] h0 [] (fun v h => v = some (.int 1) ∧ h0 = h) := by
  refine Con.intro (a0 := a0) pl_b12 hO (fun q => nomatch q) ?_
  intro p e s m below meth c G
  refine ok_as (mkF m 0 #[.val (.int ch)] []) (by first | rfl | (simp [entryFrame, mkF, argsToLocals, Value.category]; done)) ?_
  refine ok_iloadN G d_jdk_43_method_3_code_0 rfl ?_
  refine ok_sipush G (255 : Int32) d_jdk_43_method_3_code_1 rfl ?_
  refine ok_icmpgtN G d_jdk_43_method_3_code_4 hch.2 ?_
  refine ok_iconst G (1 : Int32) d_jdk_43_method_3_code_7 rfl ?_
  refine ok_goto G 12 d_jdk_43_method_3_code_8 (by decide) (by decide) ?_
  exact ok_retN G rfl (by simp) d_jdk_43_method_3_code_12 rfl ⟨rfl, rfl⟩ (Nat.le_of_ble_eq_true rfl) (Nat.le_of_ble_eq_true rfl)
theorem d_jdk_43_method_46_code_0 : decode jdk_43_method_46_code 0 = .ok (.iconst 1, 1) := by decide +kernel
theorem d_jdk_43_method_46_code_1 : decode jdk_43_method_46_code 1 = .ok (.newarray .byte, 2) := by decide +kernel
theorem d_jdk_43_method_46_code_3 : decode jdk_43_method_46_code 3 = .ok (.dup, 1) := by decide +kernel
theorem d_jdk_43_method_46_code_4 : decode jdk_43_method_46_code 4 = .ok (.iconst 0, 1) := by decide +kernel
theorem d_jdk_43_method_46_code_5 : decode jdk_43_method_46_code 5 = .ok (.iload_n 0, 1) := by decide +kernel
theorem d_jdk_43_method_46_code_6 : decode jdk_43_method_46_code 6 = .ok (.i2b, 1) := by decide +kernel
theorem d_jdk_43_method_46_code_7 : decode jdk_43_method_46_code 7 = .ok (.bastore, 1) := by decide +kernel
theorem d_jdk_43_method_46_code_8 : decode jdk_43_method_46_code 8 = .ok (.areturn, 1) := by decide +kernel
def R_c_toB1 : Room := { frames := 0, cells := 1, slots := 1, locals := 0 }
theorem pl_b13 : plainFor (⟨"java/lang/StringLatin1", "toBytes", "(C)[B"⟩ : MethodName) = true := plainFor_of_name (by first | (simp [plainName, overriddenIn]; done) | decide +kernel)
set_option maxRecDepth 65536 in
set_option maxHeartbeats 40000000 in
theorem c_toB1 {l : Launch} {Z : State} {a0 : Array Value} {n0 : Nat} {h0 : Heap} (C : Cx Z a0) (hO : Old Z n0 h0) {ch : Int32} :
    Con false l Z [] n0 (⟨"java/lang/StringLatin1", "toBytes", "(C)[B"⟩ : MethodName) jdk_43_method_46_code 1 (some (.array .byte)) R_c_toB1 #[(.int ch)] h0 [] (fun v h => ∃ t kb, v = some (.ref t) ∧ h0.size ≤ t ∧ Arv Z h t kb .byte (1 : Int32) [lo8 ch] (.int 0)) := by
  refine Con.intro (a0 := a0) pl_b13 hO (fun q => nomatch q) ?_
  intro p e s m below meth c G
  refine ok_as (mkF m 0 #[.val (.int ch)] []) (by first | rfl | (simp [entryFrame, mkF, argsToLocals, Value.category]; done)) ?_
  refine ok_iconst G (1 : Int32) d_jdk_43_method_46_code_0 rfl ?_
  refine ok_newP G (aty := .byte) (C.w19) d_jdk_43_method_46_code_1 (by decide) 1 (by decide) (by decide) (Nat.le_of_ble_eq_true rfl) (Nat.le_of_ble_eq_true rfl) ?_
  intro hp2 ob1 k_ob1 eq_ob1 K3 g_ob1 lb_ob1 V_ob1
  replace V_ob1 : Arv Z hp2 ob1 k_ob1 .byte (1 : Int32) [(.int (0 : Int32))] (.int (0 : Int32)) := V_ob1.pad (pad_rep [] (.int (0 : Int32)) 1)
  refine ok_dup G d_jdk_43_method_46_code_3 rfl ?_
  refine ok_iconst G (0 : Int32) d_jdk_43_method_46_code_4 rfl ?_
  refine ok_iloadN G d_jdk_43_method_46_code_5 rfl ?_
  refine ok_i2b G d_jdk_43_method_46_code_6 ?_
  refine ok_bastore G (ch.toInt8.toInt32) 0 V_ob1 ⟨by decide, by decide⟩ rfl (Nat.le_of_ble_eq_true rfl) (by simp [nar]) d_jdk_43_method_46_code_7 g_ob1 (Or.inr lb_ob1) SafeFor.narrow ?_
  intro hp4 K5 Vn
  replace V_ob1 : Arv Z hp4 ob1 k_ob1 .byte (1 : Int32) [(.int (ch.toInt8.toInt32))] (.int (0 : Int32)) := Vn
  clear Vn
  exact ok_retA G rfl rfl rfl d_jdk_43_method_46_code_8 rfl ⟨_, _, rfl, lb_ob1, V_ob1⟩ (Nat.le_of_ble_eq_true rfl) (Nat.le_of_ble_eq_true rfl)
theorem d_jdk_42_method_151_code_0 : decode jdk_42_method_151_code 0 = .ok (.aload_n 0, 1) := by decide +kernel
theorem d_jdk_42_method_151_code_1 : decode jdk_42_method_151_code 1 = .ok (.invokespecial 1, 3) := by decide +kernel
theorem d_jdk_42_method_151_code_4 : decode jdk_42_method_151_code 4 = .ok (.aload_n 0, 1) := by decide +kernel
theorem d_jdk_42_method_151_code_5 : decode jdk_42_method_151_code 5 = .ok (.aload_n 1, 1) := by decide +kernel
theorem d_jdk_42_method_151_code_6 : decode jdk_42_method_151_code 6 = .ok (.putfield 9, 3) := by decide +kernel
theorem d_jdk_42_method_151_code_9 : decode jdk_42_method_151_code 9 = .ok (.aload_n 0, 1) := by decide +kernel
theorem d_jdk_42_method_151_code_10 : decode jdk_42_method_151_code 10 = .ok (.iload_n 2, 1) := by decide +kernel
theorem d_jdk_42_method_151_code_11 : decode jdk_42_method_151_code 11 = .ok (.putfield 15, 3) := by decide +kernel
theorem d_jdk_42_method_151_code_14 : decode jdk_42_method_151_code 14 = .ok (.return_, 1) := by decide +kernel
def R_c_initBB : Room := { frames := 1, cells := 0, slots := 0, locals := 12 }
theorem pl_b14 : plainFor (⟨"java/lang/String", "<init>", "([BB)V"⟩ : MethodName) = true := plainFor_of_name (by first | (simp [plainName, overriddenIn]; done) | decide +kernel)
set_option maxRecDepth 65536 in
set_option maxHeartbeats 40000000 in
theorem c_initBB {l : Launch} {Z : State} {a0 : Array Value} {n0 : Nat} {h0 : Heap} (C : Cx Z a0) (hO : Old Z n0 h0) {x t : Addr} (E : Exa Z h0 x "java/lang/String") (FV : Fld Z h0 x "java/lang/String" "value" "[B" .null) (FC : Fld Z h0 x "java/lang/String" "coder" "B" (.int (0 : Int32))) (g_x : n0 ≤ x) :
    Con false l Z [] n0 (⟨"java/lang/String", "<init>", "([BB)V"⟩ : MethodName) jdk_42_method_151_code 3 none R_c_initBB #[(.ref x), (.ref t), (.int (0 : Int32))] h0 [x] (fun v h => v = none ∧ Fld Z h x "java/lang/String" "coder" "B" (.int 0) ∧ Fld Z h x "java/lang/String" "value" "[B" (.ref t)) := by
  refine Con.intro (a0 := a0) pl_b14 hO (fun q => nomatch q) ?_
  intro p e s m below meth c G
  refine ok_as (mkF m 0 #[.val (.ref x), .val (.ref t), .val (.int (0 : Int32))] []) (by first | rfl | (simp [entryFrame, mkF, argsToLocals, Value.category]; done)) ?_
  refine ok_aloadN G d_jdk_42_method_151_code_0 rfl rfl ?_
  refine ok_initO G (C.w11) (C.w12) (C.w13) rfl d_jdk_42_method_151_code_1 (Nat.le_of_ble_eq_true rfl) (Nat.le_of_ble_eq_true rfl) ?_
  refine ok_aloadN G d_jdk_42_method_151_code_4 rfl rfl ?_
  refine ok_aloadN G d_jdk_42_method_151_code_5 rfl rfl ?_
  refine ok_putF G (host := "") (Or.inl (C.w28)) Via.refl FV E (Or.inr ⟨(C.w29), rfl, rfl⟩) (C.w2) (ty := (.array .byte)) (by decide) rfl rfl d_jdk_42_method_151_code_6 g_x (Or.inl (List.mem_of_getElem? (i := 0) rfl)) SafeFor.narrow ?_
  intro hp1 K2 Wn Fn
  replace FC := FC.other Wn (Or.inr (slot_ne (Or.inr (C.w27)) (Or.inr (C.w29)) (by decide) (t := .byte) (t' := (.array .byte)) (by decide) (by decide)))
  replace E := E.keep K2
  replace FV : Fld Z hp1 x "java/lang/String" "value" "[B" (.ref t) := Fn
  clear Wn Fn
  refine ok_aloadN G d_jdk_42_method_151_code_9 rfl rfl ?_
  refine ok_iloadN G d_jdk_42_method_151_code_10 rfl ?_
  refine ok_putF G (host := "") (Or.inl (C.w26)) Via.refl FC E (Or.inr ⟨(C.w27), rfl, rfl⟩) (C.w2) (ty := .byte) (by decide) rfl rfl d_jdk_42_method_151_code_11 g_x (Or.inl (List.mem_of_getElem? (i := 0) rfl)) SafeFor.narrow ?_
  intro hp3 K4 Wn Fn
  replace FV := FV.other Wn (Or.inr (slot_ne (Or.inr (C.w29)) (Or.inr (C.w27)) (by decide) (t := (.array .byte)) (t' := .byte) (by decide) (by decide)))
  replace E := E.keep K4
  replace FC : Fld Z hp3 x "java/lang/String" "coder" "B" (.int (0 : Int32)) := Fn
  clear Wn Fn
  exact ok_return G rfl d_jdk_42_method_151_code_14 ⟨rfl, FC, FV⟩ (Nat.le_of_ble_eq_true rfl) (Nat.le_of_ble_eq_true rfl)
theorem d_jdk_42_method_139_code_0 : decode jdk_42_method_139_code 0 = .ok (.getstatic 38, 3) := by decide +kernel
theorem d_jdk_42_method_139_code_3 : decode jdk_42_method_139_code 3 = .ok (.ifCond .eq 23, 3) := by decide +kernel
theorem d_jdk_42_method_139_code_6 : decode jdk_42_method_139_code 6 = .ok (.iload_n 0, 1) := by decide +kernel
theorem d_jdk_42_method_139_code_7 : decode jdk_42_method_139_code 7 = .ok (.invokestatic 1015, 3) := by decide +kernel
theorem pd4 : parseMethodDescriptor "(C)Z" = some ⟨[.char], some .boolean⟩ := by decide +kernel
theorem d_jdk_42_method_139_code_10 : decode jdk_42_method_139_code 10 = .ok (.ifCond .eq 16, 3) := by decide +kernel
theorem d_jdk_42_method_139_code_13 : decode jdk_42_method_139_code 13 = .ok (.new 10, 3) := by decide +kernel
theorem d_jdk_42_method_139_code_16 : decode jdk_42_method_139_code 16 = .ok (.dup, 1) := by decide +kernel
theorem d_jdk_42_method_139_code_17 : decode jdk_42_method_139_code 17 = .ok (.iload_n 0, 1) := by decide +kernel
theorem d_jdk_42_method_139_code_18 : decode jdk_42_method_139_code 18 = .ok (.invokestatic 1018, 3) := by decide +kernel
theorem pd5 : parseMethodDescriptor "(C)[B" = some ⟨[.char], some (.array .byte)⟩ := by decide +kernel
theorem d_jdk_42_method_139_code_21 : decode jdk_42_method_139_code 21 = .ok (.iconst 0, 1) := by decide +kernel
theorem d_jdk_42_method_139_code_22 : decode jdk_42_method_139_code 22 = .ok (.invokespecial 209, 3) := by decide +kernel
theorem pd6 : parseMethodDescriptor "([BB)V" = some ⟨[(.array .byte), .byte], none⟩ := by decide +kernel
theorem d_jdk_42_method_139_code_25 : decode jdk_42_method_139_code 25 = .ok (.areturn, 1) := by decide +kernel
def R_c_valueOf : Room := { frames := 2, cells := 2, slots := 5, locals := 27 }
theorem pl_b11 : plainFor (⟨"java/lang/String", "valueOf", "(C)Ljava/lang/String;"⟩ : MethodName) = true := plainFor_of_name (by first | (simp [plainName, overriddenIn]; done) | decide +kernel)
set_option maxRecDepth 65536 in
set_option maxHeartbeats 40000000 in
theorem c_valueOf {l : Launch} {Z : State} {a0 : Array Value} {n0 : Nat} {h0 : Heap} (C : Cx Z a0) (hO : Old Z n0 h0) {ch : Int32} (hch : Lat ch) :
    Con false l Z [] n0 (⟨"java/lang/String", "valueOf", "(C)Ljava/lang/String;"⟩ : MethodName) jdk_42_method_139_code 1 (some (.object "java/lang/String")) R_c_valueOf #[(.int ch)] h0 [] (fun v h => ∃ x t, v = some (.ref x) ∧ h0.size ≤ x ∧ LStr Z h x t [ch]) := by
  refine Con.intro (a0 := a0) pl_b11 hO (fun q => nomatch q) ?_
  intro p e s m below meth c G
  refine ok_as (mkF m 0 #[.val (.int ch)] []) (by first | rfl | (simp [entryFrame, mkF, argsToLocals, Value.category]; done)) ?_
  obtain ⟨cz, hCS, hcz⟩ := C.compact
  refine ok_getS G (host := "") (Or.inl (C.w14)) Via.refl hCS d_jdk_42_method_139_code_0 ?_
  refine ok_ifeqN G d_jdk_42_method_139_code_3 hcz ?_
  refine ok_iloadN G d_jdk_42_method_139_code_6 rfl ?_
  refine ok_static G (argsL := [(.int ch)]) (rest := []) (C.w77) (C.w78) (C.w79) (C.w80) (by decide) pd4 (c_canE C hO hch) rfl rfl rfl d_jdk_42_method_139_code_7 (Nat.le_of_ble_eq_true rfl) (Nat.le_of_ble_eq_true rfl) (Nat.le_of_ble_eq_true rfl) (Nat.le_of_ble_eq_true rfl) (fun _ q => nomatch q) ?_
  rintro _ _ _ ⟨rfl, rfl⟩
  refine ok_as (mkF m 10 #[.val (.int ch)] [(.int (1 : Int32))]) rfl ?_
  refine ok_ifeqN G d_jdk_42_method_139_code_10 (by decide) ?_
  refine ok_new G (C.w81) (C.w2) (C.w3) d_jdk_42_method_139_code_13 (Nat.le_of_ble_eq_true rfl) (Nat.le_of_ble_eq_true rfl) ?_
  intro hp4 ob3 eq_ob3 K5 g_ob3 lb_ob3 E_ob3 D_ob3
  have F_ob3_coder : Fld Z hp4 ob3 "java/lang/String" "coder" "B" (.int (0 : Int32)) := D_ob3 _ _ _ .byte (Or.inr (C.w27)) (by decide)
  have F_ob3_value : Fld Z hp4 ob3 "java/lang/String" "value" "[B" .null := D_ob3 _ _ _ (.array .byte) (Or.inr (C.w29)) (by decide)
  refine ok_dup G d_jdk_42_method_139_code_16 rfl ?_
  refine ok_iloadN G d_jdk_42_method_139_code_17 rfl ?_
  refine ok_old (fun hO_hp4 => ?_)
  refine ok_keep (fun hKp_hp4 => ?_)
  refine ok_static G (argsL := [(.int ch)]) (rest := [(.ref ob3), (.ref ob3)]) (C.w82) (C.w83) (C.w79) (C.w84) (by decide) pd5 (c_toB1 C hO_hp4) rfl rfl rfl d_jdk_42_method_139_code_18 (Nat.le_of_ble_eq_true rfl) (Nat.le_of_ble_eq_true rfl) (Nat.le_of_ble_eq_true rfl) (Nat.le_of_ble_eq_true rfl) (fun _ q => nomatch q) ?_
  rintro _ hp8 K9 ⟨tr6, kb7, rfl, lbq_tr6, V_tr6⟩
  have lbh_tr6 := lbq_tr6
  have ne_ob3_tr6 : ob3 ≠ tr6 := Nat.ne_of_lt (Nat.lt_of_lt_of_le E_ob3.lt lbh_tr6)
  have lb_tr6 : h0.size ≤ tr6 := Nat.le_trans hKp_hp4.1 lbh_tr6
  have g_tr6 : n0 ≤ tr6 := Nat.le_trans (old_le hO_hp4) lbh_tr6
  replace E_ob3 := E_ob3.keep K9
  replace F_ob3_coder := F_ob3_coder.keep K9 nin0
  replace F_ob3_value := F_ob3_value.keep K9 nin0
  refine ok_as (mkF m 21 #[.val (.int ch)] [(.ref tr6), (.ref ob3), (.ref ob3)]) rfl ?_
  refine ok_iconst G (0 : Int32) d_jdk_42_method_139_code_21 rfl ?_
  refine ok_old (fun hO_hp8 => ?_)
  refine ok_init G (a := ob3) (argsL := [(.ref tr6), (.int (0 : Int32))]) (rest := [(.ref ob3)]) rfl (C.w85) (C.w86) (C.w3) (C.w87) (by decide) pd6 (c_initBB C hO_hp8 E_ob3 F_ob3_value F_ob3_coder g_ob3) rfl rfl rfl d_jdk_42_method_139_code_22 (Nat.le_of_ble_eq_true rfl) (Nat.le_of_ble_eq_true rfl) (Nat.le_of_ble_eq_true rfl) (Nat.le_of_ble_eq_true rfl) (allS ⟨(Or.inr lb_ob3), SafeFor.narrow⟩ (fun _ q => nomatch q)) ?_
  rintro _ hp10 K11 ⟨rfl, FC_ob3, FV_ob3⟩
  replace E_ob3 := E_ob3.keep K11
  replace V_tr6 := V_tr6.keep K11 (ninS (Ne.symm ne_ob3_tr6) nin0)
  refine ok_as (mkF m 25 #[.val (.int ch)] [(.ref ob3)]) rfl ?_
  exact ok_retA G rfl rfl rfl d_jdk_42_method_139_code_25 rfl ⟨_, _, rfl, lb_ob3, E_ob3, FC_ob3, FV_ob3, ⟨_, V_tr6⟩, allL hch (fun _ q => nomatch q), (Nat.le_of_ble_eq_true rfl)⟩ (Nat.le_of_ble_eq_true rfl) (Nat.le_of_ble_eq_true rfl)
theorem d_jdk_30_method_1_code_0 : decode jdk_30_method_1_code 0 = .ok (.aload_n 0, 1) := by decide +kernel
theorem d_jdk_30_method_1_code_1 : decode jdk_30_method_1_code 1 = .ok (.invokespecial 1, 3) := by decide +kernel
theorem d_jdk_30_method_1_code_4 : decode jdk_30_method_1_code 4 = .ok (.return_, 1) := by decide +kernel
def R_c_rec : Room := { frames := 1, cells := 0, slots := 0, locals := 12 }
theorem pl_b9 : plainFor (⟨"java/lang/Record", "<init>", "()V"⟩ : MethodName) = true := plainFor_of_name (by first | (simp [plainName, overriddenIn]; done) | decide +kernel)
set_option maxRecDepth 65536 in
set_option maxHeartbeats 40000000 in
theorem c_rec {l : Launch} {Z : State} {a0 : Array Value} {n0 : Nat} {h0 : Heap} (C : Cx Z a0) (hO : Old Z n0 h0) {x : Addr} :
    Con false l Z [] n0 (⟨"java/lang/Record", "<init>", "()V"⟩ : MethodName) jdk_30_method_1_code 1 none R_c_rec #[(.ref x)] h0 [] (fun v h => v = none ∧ h0 = h) := by
  refine Con.intro (a0 := a0) pl_b9 hO (fun q => nomatch q) ?_
  intro p e s m below meth c G
  refine ok_as (mkF m 0 #[.val (.ref x)] []) (by first | rfl | (simp [entryFrame, mkF, argsToLocals, Value.category]; done)) ?_
  refine ok_aloadN G d_jdk_30_method_1_code_0 rfl rfl ?_
  refine ok_initO G (C.w48) (C.w12) (C.w13) rfl d_jdk_30_method_1_code_1 (Nat.le_of_ble_eq_true rfl) (Nat.le_of_ble_eq_true rfl) ?_
  exact ok_return G rfl d_jdk_30_method_1_code_4 ⟨rfl, rfl⟩ (Nat.le_of_ble_eq_true rfl) (Nat.le_of_ble_eq_true rfl)
theorem d_method_2_code_0 : decode method_2_code 0 = .ok (.iload_n 0, 1) := by decide +kernel
theorem d_method_2_code_1 : decode method_2_code 1 = .ok (.ifCond .ne 7, 3) := by decide +kernel
theorem d_method_2_code_8 : decode method_2_code 8 = .ok (.iload_n 0, 1) := by decide +kernel
theorem d_method_2_code_9 : decode method_2_code 9 = .ok (.iconst 1, 1) := by decide +kernel
theorem d_method_2_code_10 : decode method_2_code 10 = .ok (.if_icmp .ne 7, 3) := by decide +kernel
theorem d_method_2_code_17 : decode method_2_code 17 = .ok (.iload_n 0, 1) := by decide +kernel
theorem d_method_2_code_18 : decode method_2_code 18 = .ok (.iconst 2, 1) := by decide +kernel
theorem d_method_2_code_19 : decode method_2_code 19 = .ok (.if_icmp .ne 7, 3) := by decide +kernel
theorem d_method_2_code_26 : decode method_2_code 26 = .ok (.iload_n 0, 1) := by decide +kernel
theorem d_method_2_code_27 : decode method_2_code 27 = .ok (.iconst 3, 1) := by decide +kernel
theorem d_method_2_code_28 : decode method_2_code 28 = .ok (.if_icmp .ne 7, 3) := by decide +kernel
theorem d_method_2_code_35 : decode method_2_code 35 = .ok (.iload_n 0, 1) := by decide +kernel
theorem d_method_2_code_36 : decode method_2_code 36 = .ok (.iconst 4, 1) := by decide +kernel
theorem d_method_2_code_37 : decode method_2_code 37 = .ok (.if_icmp .ne 7, 3) := by decide +kernel
theorem d_method_2_code_44 : decode method_2_code 44 = .ok (.iload_n 0, 1) := by decide +kernel
theorem d_method_2_code_45 : decode method_2_code 45 = .ok (.iconst 5, 1) := by decide +kernel
theorem d_method_2_code_46 : decode method_2_code 46 = .ok (.if_icmp .ne 7, 3) := by decide +kernel
theorem d_method_2_code_53 : decode method_2_code 53 = .ok (.iload_n 0, 1) := by decide +kernel
theorem d_method_2_code_54 : decode method_2_code 54 = .ok (.bipush 6, 2) := by decide +kernel
theorem d_method_2_code_56 : decode method_2_code 56 = .ok (.if_icmp .ne 7, 3) := by decide +kernel
theorem d_method_2_code_63 : decode method_2_code 63 = .ok (.getstatic 31, 3) := by decide +kernel
theorem d_method_2_code_66 : decode method_2_code 66 = .ok (.areturn, 1) := by decide +kernel
theorem d_method_2_code_59 : decode method_2_code 59 = .ok (.getstatic 28, 3) := by decide +kernel
theorem d_method_2_code_62 : decode method_2_code 62 = .ok (.areturn, 1) := by decide +kernel
theorem d_method_2_code_49 : decode method_2_code 49 = .ok (.getstatic 25, 3) := by decide +kernel
theorem d_method_2_code_52 : decode method_2_code 52 = .ok (.areturn, 1) := by decide +kernel
theorem d_method_2_code_40 : decode method_2_code 40 = .ok (.getstatic 22, 3) := by decide +kernel
theorem d_method_2_code_43 : decode method_2_code 43 = .ok (.areturn, 1) := by decide +kernel
theorem d_method_2_code_31 : decode method_2_code 31 = .ok (.getstatic 19, 3) := by decide +kernel
theorem d_method_2_code_34 : decode method_2_code 34 = .ok (.areturn, 1) := by decide +kernel
theorem d_method_2_code_22 : decode method_2_code 22 = .ok (.getstatic 16, 3) := by decide +kernel
theorem d_method_2_code_25 : decode method_2_code 25 = .ok (.areturn, 1) := by decide +kernel
theorem d_method_2_code_13 : decode method_2_code 13 = .ok (.getstatic 13, 3) := by decide +kernel
theorem d_method_2_code_16 : decode method_2_code 16 = .ok (.areturn, 1) := by decide +kernel
theorem d_method_2_code_4 : decode method_2_code 4 = .ok (.getstatic 7, 3) := by decide +kernel
theorem d_method_2_code_7 : decode method_2_code 7 = .ok (.areturn, 1) := by decide +kernel
def R_c_kindOf : Room := { frames := 0, cells := 0, slots := 0, locals := 0 }
theorem pl_b7 : plainFor (⟨"com/example/tiny_resolver/tinyresolver/tptp/TokenIsEndPinLaw", "kindOf", "(I)Lcom/example/tiny_resolver/tinyresolver/tptp/TptpLexer$Kind;"⟩ : MethodName) = true := plainFor_of_name (by first | (simp [plainName, overriddenIn]; done) | decide +kernel)
set_option maxRecDepth 65536 in
set_option maxHeartbeats 40000000 in
theorem c_kindOf {l : Launch} {Z : State} {a0 : Array Value} {n0 : Nat} {h0 : Heap} (C : Cx Z a0) (hO : Old Z n0 h0) {k : Int32} {en0 en1 en2 en3 en4 en5 en6 en7 : Addr} (s0 : Sta Z Z.heap "com/example/tiny_resolver/tinyresolver/tptp/TptpLexer$Kind" "LOWER_WORD" "Lcom/example/tiny_resolver/tinyresolver/tptp/TptpLexer$Kind;" (.ref en0)) (s1 : Sta Z Z.heap "com/example/tiny_resolver/tinyresolver/tptp/TptpLexer$Kind" "END" "Lcom/example/tiny_resolver/tinyresolver/tptp/TptpLexer$Kind;" (.ref en1)) (s2 : Sta Z Z.heap "com/example/tiny_resolver/tinyresolver/tptp/TptpLexer$Kind" "NUMBER" "Lcom/example/tiny_resolver/tinyresolver/tptp/TptpLexer$Kind;" (.ref en2)) (s3 : Sta Z Z.heap "com/example/tiny_resolver/tinyresolver/tptp/TptpLexer$Kind" "DOLLAR_WORD" "Lcom/example/tiny_resolver/tinyresolver/tptp/TptpLexer$Kind;" (.ref en3)) (s4 : Sta Z Z.heap "com/example/tiny_resolver/tinyresolver/tptp/TptpLexer$Kind" "SINGLE_QUOTED" "Lcom/example/tiny_resolver/tinyresolver/tptp/TptpLexer$Kind;" (.ref en4)) (s5 : Sta Z Z.heap "com/example/tiny_resolver/tinyresolver/tptp/TptpLexer$Kind" "OTHER" "Lcom/example/tiny_resolver/tinyresolver/tptp/TptpLexer$Kind;" (.ref en5)) (s6 : Sta Z Z.heap "com/example/tiny_resolver/tinyresolver/tptp/TptpLexer$Kind" "DISTINCT_OBJECT" "Lcom/example/tiny_resolver/tinyresolver/tptp/TptpLexer$Kind;" (.ref en6)) (s7 : Sta Z Z.heap "com/example/tiny_resolver/tinyresolver/tptp/TptpLexer$Kind" "UPPER_WORD" "Lcom/example/tiny_resolver/tinyresolver/tptp/TptpLexer$Kind;" (.ref en7)) (d0 : ¬ (en0 = en1)) (d2 : ¬ (en2 = en1)) (d3 : ¬ (en3 = en1)) (d4 : ¬ (en4 = en1)) (d5 : ¬ (en5 = en1)) (d6 : ¬ (en6 = en1)) (d7 : ¬ (en7 = en1)) :
    Con false l Z [] n0 (⟨"com/example/tiny_resolver/tinyresolver/tptp/TokenIsEndPinLaw", "kindOf", "(I)Lcom/example/tiny_resolver/tinyresolver/tptp/TptpLexer$Kind;"⟩ : MethodName) method_2_code 1 (some (.object "com/example/tiny_resolver/tinyresolver/tptp/TptpLexer$Kind")) R_c_kindOf #[(.int k)] h0 [] (fun v h => ∃ a, v = some (.ref a) ∧ ((en1 = a ∧ ¬ k = 0 ∧ ¬ k = 1 ∧ ¬ k = 2 ∧ ¬ k = 3 ∧ ¬ k = 4 ∧ ¬ k = 5 ∧ ¬ k = 6) ∨ (¬ (a = en1) ∧ ¬ k = 7))) := by
  refine Con.intro (a0 := a0) pl_b7 hO (fun q => nomatch q) ?_
  intro p e s m below meth c G
  refine ok_as (mkF m 0 #[.val (.int k)] []) (by first | rfl | (simp [entryFrame, mkF, argsToLocals, Value.category]; done)) ?_
  refine ok_iloadN G d_method_2_code_0 rfl ?_
  refine ok_ifne G 8 d_method_2_code_1 (by decide) (by decide) (fun cq1 => ?_) (fun cq1 => ?_)
  · skip
    refine ok_iloadN G d_method_2_code_8 rfl ?_
    refine ok_iconst G (1 : Int32) d_method_2_code_9 rfl ?_
    refine ok_icmpne G 17 d_method_2_code_10 (by decide) (by decide) (fun cq2 => ?_) (fun cq2 => ?_)
    · skip
      refine ok_iloadN G d_method_2_code_17 rfl ?_
      refine ok_iconst G (2 : Int32) d_method_2_code_18 rfl ?_
      refine ok_icmpne G 26 d_method_2_code_19 (by decide) (by decide) (fun cq3 => ?_) (fun cq3 => ?_)
      · skip
        refine ok_iloadN G d_method_2_code_26 rfl ?_
        refine ok_iconst G (3 : Int32) d_method_2_code_27 rfl ?_
        refine ok_icmpne G 35 d_method_2_code_28 (by decide) (by decide) (fun cq4 => ?_) (fun cq4 => ?_)
        · skip
          refine ok_iloadN G d_method_2_code_35 rfl ?_
          refine ok_iconst G (4 : Int32) d_method_2_code_36 rfl ?_
          refine ok_icmpne G 44 d_method_2_code_37 (by decide) (by decide) (fun cq5 => ?_) (fun cq5 => ?_)
          · skip
            refine ok_iloadN G d_method_2_code_44 rfl ?_
            refine ok_iconst G (5 : Int32) d_method_2_code_45 rfl ?_
            refine ok_icmpne G 53 d_method_2_code_46 (by decide) (by decide) (fun cq6 => ?_) (fun cq6 => ?_)
            · skip
              refine ok_iloadN G d_method_2_code_53 rfl ?_
              refine ok_bipush G (6 : Int32) d_method_2_code_54 rfl ?_
              refine ok_icmpne G 63 d_method_2_code_56 (by decide) (by decide) (fun cq7 => ?_) (fun cq7 => ?_)
              · skip
                refine ok_getS G (host := "") (Or.inl (C.w71)) Via.refl s1 d_method_2_code_63 ?_
                exact ok_retA G rfl rfl rfl d_method_2_code_66 rfl ⟨_, rfl, Or.inl ⟨rfl, cq1, cq2, cq3, cq4, cq5, cq6, cq7⟩⟩ (Nat.le_of_ble_eq_true rfl) (Nat.le_of_ble_eq_true rfl)
              · skip
                refine ok_getS G (host := "") (Or.inl (C.w88)) Via.refl s5 d_method_2_code_59 ?_
                exact ok_retA G rfl rfl rfl d_method_2_code_62 rfl ⟨_, rfl, Or.inr ⟨d5, fun q => by rw [q] at cq7; exact absurd cq7 (by decide)⟩⟩ (Nat.le_of_ble_eq_true rfl) (Nat.le_of_ble_eq_true rfl)
            · skip
              refine ok_getS G (host := "") (Or.inl (C.w69)) Via.refl s3 d_method_2_code_49 ?_
              exact ok_retA G rfl rfl rfl d_method_2_code_52 rfl ⟨_, rfl, Or.inr ⟨d3, fun q => by rw [q] at cq6; exact absurd cq6 (by decide)⟩⟩ (Nat.le_of_ble_eq_true rfl) (Nat.le_of_ble_eq_true rfl)
          · skip
            refine ok_getS G (host := "") (Or.inl (C.w64)) Via.refl s2 d_method_2_code_40 ?_
            exact ok_retA G rfl rfl rfl d_method_2_code_43 rfl ⟨_, rfl, Or.inr ⟨d2, fun q => by rw [q] at cq5; exact absurd cq5 (by decide)⟩⟩ (Nat.le_of_ble_eq_true rfl) (Nat.le_of_ble_eq_true rfl)
        · skip
          refine ok_getS G (host := "") (Or.inl (C.w90)) Via.refl s6 d_method_2_code_31 ?_
          exact ok_retA G rfl rfl rfl d_method_2_code_34 rfl ⟨_, rfl, Or.inr ⟨d6, fun q => by rw [q] at cq4; exact absurd cq4 (by decide)⟩⟩ (Nat.le_of_ble_eq_true rfl) (Nat.le_of_ble_eq_true rfl)
      · skip
        refine ok_getS G (host := "") (Or.inl (C.w72)) Via.refl s4 d_method_2_code_22 ?_
        exact ok_retA G rfl rfl rfl d_method_2_code_25 rfl ⟨_, rfl, Or.inr ⟨d4, fun q => by rw [q] at cq3; exact absurd cq3 (by decide)⟩⟩ (Nat.le_of_ble_eq_true rfl) (Nat.le_of_ble_eq_true rfl)
    · skip
      refine ok_getS G (host := "") (Or.inl (C.w92)) Via.refl s7 d_method_2_code_13 ?_
      exact ok_retA G rfl rfl rfl d_method_2_code_16 rfl ⟨_, rfl, Or.inr ⟨d7, fun q => by rw [q] at cq2; exact absurd cq2 (by decide)⟩⟩ (Nat.le_of_ble_eq_true rfl) (Nat.le_of_ble_eq_true rfl)
  · skip
    refine ok_getS G (host := "") (Or.inl (C.w37)) Via.refl s0 d_method_2_code_4 ?_
    exact ok_retA G rfl rfl rfl d_method_2_code_7 rfl ⟨_, rfl, Or.inr ⟨d0, fun q => by rw [q] at cq1; exact absurd cq1 (by decide)⟩⟩ (Nat.le_of_ble_eq_true rfl) (Nat.le_of_ble_eq_true rfl)
theorem d_prog_69_method_1_code_0 : decode prog_69_method_1_code 0 = .ok (.aload_n 0, 1) := by decide +kernel
theorem d_prog_69_method_1_code_1 : decode prog_69_method_1_code 1 = .ok (.invokespecial 1, 3) := by decide +kernel
theorem pd7 : parseMethodDescriptor "()V" = some ⟨[], none⟩ := by decide +kernel
theorem d_prog_69_method_1_code_4 : decode prog_69_method_1_code 4 = .ok (.aload_n 0, 1) := by decide +kernel
theorem d_prog_69_method_1_code_5 : decode prog_69_method_1_code 5 = .ok (.aload_n 1, 1) := by decide +kernel
theorem d_prog_69_method_1_code_6 : decode prog_69_method_1_code 6 = .ok (.putfield 7, 3) := by decide +kernel
theorem d_prog_69_method_1_code_9 : decode prog_69_method_1_code 9 = .ok (.aload_n 0, 1) := by decide +kernel
theorem d_prog_69_method_1_code_10 : decode prog_69_method_1_code 10 = .ok (.aload_n 2, 1) := by decide +kernel
theorem d_prog_69_method_1_code_11 : decode prog_69_method_1_code 11 = .ok (.putfield 13, 3) := by decide +kernel
theorem d_prog_69_method_1_code_14 : decode prog_69_method_1_code 14 = .ok (.aload_n 0, 1) := by decide +kernel
theorem d_prog_69_method_1_code_15 : decode prog_69_method_1_code 15 = .ok (.iload_n 3, 1) := by decide +kernel
theorem d_prog_69_method_1_code_16 : decode prog_69_method_1_code 16 = .ok (.putfield 17, 3) := by decide +kernel
theorem d_prog_69_method_1_code_19 : decode prog_69_method_1_code 19 = .ok (.aload_n 0, 1) := by decide +kernel
theorem d_prog_69_method_1_code_20 : decode prog_69_method_1_code 20 = .ok (.iload 4, 2) := by decide +kernel
theorem d_prog_69_method_1_code_22 : decode prog_69_method_1_code 22 = .ok (.putfield 21, 3) := by decide +kernel
theorem d_prog_69_method_1_code_25 : decode prog_69_method_1_code 25 = .ok (.return_, 1) := by decide +kernel
def R_c_ti : Room := { frames := 2, cells := 0, slots := 0, locals := 24 }
theorem pl_b8 : plainFor (⟨"com/example/tiny_resolver/tinyresolver/tptp/TptpLexer$Token", "<init>", "(Lcom/example/tiny_resolver/tinyresolver/tptp/TptpLexer$Kind;Ljava/lang/String;II)V"⟩ : MethodName) = true := plainFor_of_name (by first | (simp [plainName, overriddenIn]; done) | decide +kernel)
set_option maxRecDepth 65536 in
set_option maxHeartbeats 40000000 in
theorem c_ti {l : Launch} {Z : State} {a0 : Array Value} {n0 : Nat} {h0 : Heap} (C : Cx Z a0) (hO : Old Z n0 h0) {x r d : Addr} {ln co : Int32} (E : Exa Z h0 x "com/example/tiny_resolver/tinyresolver/tptp/TptpLexer$Token") (F_kind : Fld Z h0 x "com/example/tiny_resolver/tinyresolver/tptp/TptpLexer$Token" "kind" "Lcom/example/tiny_resolver/tinyresolver/tptp/TptpLexer$Kind;" .null) (F_text : Fld Z h0 x "com/example/tiny_resolver/tinyresolver/tptp/TptpLexer$Token" "text" "Ljava/lang/String;" .null) (F_line : Fld Z h0 x "com/example/tiny_resolver/tinyresolver/tptp/TptpLexer$Token" "line" "I" (.int (0 : Int32))) (F_column : Fld Z h0 x "com/example/tiny_resolver/tinyresolver/tptp/TptpLexer$Token" "column" "I" (.int (0 : Int32))) (g_x : n0 ≤ x) :
    Con false l Z [] n0 (⟨"com/example/tiny_resolver/tinyresolver/tptp/TptpLexer$Token", "<init>", "(Lcom/example/tiny_resolver/tinyresolver/tptp/TptpLexer$Kind;Ljava/lang/String;II)V"⟩ : MethodName) prog_69_method_1_code 5 none R_c_ti #[(.ref x), (.ref r), (.ref d), (.int ln), (.int co)] h0 [x] (fun v h => v = none ∧ Fld Z h x "com/example/tiny_resolver/tinyresolver/tptp/TptpLexer$Token" "kind" "Lcom/example/tiny_resolver/tinyresolver/tptp/TptpLexer$Kind;" (.ref r)) := by
  refine Con.intro (a0 := a0) pl_b8 hO (fun q => nomatch q) ?_
  intro p e s m below meth c G
  refine ok_as (mkF m 0 #[.val (.ref x), .val (.ref r), .val (.ref d), .val (.int ln), .val (.int co)] []) (by first | rfl | (simp [entryFrame, mkF, argsToLocals, Value.category]; done)) ?_
  refine ok_aloadN G d_prog_69_method_1_code_0 rfl rfl ?_
  refine ok_init G (a := x) (argsL := []) (rest := []) rfl (C.w43) (C.w44) (C.w46) (C.w47) (by decide) pd7 (c_rec C hO) rfl rfl rfl d_prog_69_method_1_code_1 (Nat.le_of_ble_eq_true rfl) (Nat.le_of_ble_eq_true rfl) (Nat.le_of_ble_eq_true rfl) (Nat.le_of_ble_eq_true rfl) (fun _ q => nomatch q) ?_
  rintro _ _ _ ⟨rfl, rfl⟩
  refine ok_as (mkF m 4 #[.val (.ref x), .val (.ref r), .val (.ref d), .val (.int ln), .val (.int co)] []) rfl ?_
  refine ok_aloadN G d_prog_69_method_1_code_4 rfl rfl ?_
  refine ok_aloadN G d_prog_69_method_1_code_5 rfl rfl ?_
  refine ok_putF G (host := "") (Or.inl (C.w49)) Via.refl F_kind E (Or.inr ⟨(C.w50), rfl, rfl⟩) (C.w31) (ty := (.object "com/example/tiny_resolver/tinyresolver/tptp/TptpLexer$Kind")) (by decide) rfl rfl d_prog_69_method_1_code_6 g_x (Or.inl (List.mem_of_getElem? (i := 0) rfl)) SafeFor.narrow ?_
  intro hp3 K4 Wn Fn
  replace F_text := F_text.other Wn (Or.inr (slot_ne (Or.inr (C.w52)) (Or.inr (C.w50)) (by decide) (t := (.object "java/lang/String")) (t' := (.object "com/example/tiny_resolver/tinyresolver/tptp/TptpLexer$Kind")) (by decide) (by decide)))
  replace F_line := F_line.other Wn (Or.inr (slot_ne (Or.inr (C.w54)) (Or.inr (C.w50)) (by decide) (t := .int) (t' := (.object "com/example/tiny_resolver/tinyresolver/tptp/TptpLexer$Kind")) (by decide) (by decide)))
  replace F_column := F_column.other Wn (Or.inr (slot_ne (Or.inr (C.w56)) (Or.inr (C.w50)) (by decide) (t := .int) (t' := (.object "com/example/tiny_resolver/tinyresolver/tptp/TptpLexer$Kind")) (by decide) (by decide)))
  replace E := E.keep K4
  replace F_kind : Fld Z hp3 x "com/example/tiny_resolver/tinyresolver/tptp/TptpLexer$Token" "kind" "Lcom/example/tiny_resolver/tinyresolver/tptp/TptpLexer$Kind;" (.ref r) := Fn
  clear Wn Fn
  refine ok_aloadN G d_prog_69_method_1_code_9 rfl rfl ?_
  refine ok_aloadN G d_prog_69_method_1_code_10 rfl rfl ?_
  refine ok_putF G (host := "") (Or.inl (C.w51)) Via.refl F_text E (Or.inr ⟨(C.w52), rfl, rfl⟩) (C.w31) (ty := (.object "java/lang/String")) (by decide) rfl rfl d_prog_69_method_1_code_11 g_x (Or.inl (List.mem_of_getElem? (i := 0) rfl)) SafeFor.narrow ?_
  intro hp5 K6 Wn Fn
  replace F_kind := F_kind.other Wn (Or.inr (slot_ne (Or.inr (C.w50)) (Or.inr (C.w52)) (by decide) (t := (.object "com/example/tiny_resolver/tinyresolver/tptp/TptpLexer$Kind")) (t' := (.object "java/lang/String")) (by decide) (by decide)))
  replace F_line := F_line.other Wn (Or.inr (slot_ne (Or.inr (C.w54)) (Or.inr (C.w52)) (by decide) (t := .int) (t' := (.object "java/lang/String")) (by decide) (by decide)))
  replace F_column := F_column.other Wn (Or.inr (slot_ne (Or.inr (C.w56)) (Or.inr (C.w52)) (by decide) (t := .int) (t' := (.object "java/lang/String")) (by decide) (by decide)))
  replace E := E.keep K6
  replace F_text : Fld Z hp5 x "com/example/tiny_resolver/tinyresolver/tptp/TptpLexer$Token" "text" "Ljava/lang/String;" (.ref d) := Fn
  clear Wn Fn
  refine ok_aloadN G d_prog_69_method_1_code_14 rfl rfl ?_
  refine ok_iloadN G d_prog_69_method_1_code_15 rfl ?_
  refine ok_putF G (host := "") (Or.inl (C.w53)) Via.refl F_line E (Or.inr ⟨(C.w54), rfl, rfl⟩) (C.w31) (ty := .int) (by decide) rfl rfl d_prog_69_method_1_code_16 g_x (Or.inl (List.mem_of_getElem? (i := 0) rfl)) SafeFor.narrow ?_
  intro hp7 K8 Wn Fn
  replace F_kind := F_kind.other Wn (Or.inr (slot_ne (Or.inr (C.w50)) (Or.inr (C.w54)) (by decide) (t := (.object "com/example/tiny_resolver/tinyresolver/tptp/TptpLexer$Kind")) (t' := .int) (by decide) (by decide)))
  replace F_text := F_text.other Wn (Or.inr (slot_ne (Or.inr (C.w52)) (Or.inr (C.w54)) (by decide) (t := (.object "java/lang/String")) (t' := .int) (by decide) (by decide)))
  replace F_column := F_column.other Wn (Or.inr (slot_ne (Or.inr (C.w56)) (Or.inr (C.w54)) (by decide) (t := .int) (t' := .int) (by decide) (by decide)))
  replace E := E.keep K8
  replace F_line : Fld Z hp7 x "com/example/tiny_resolver/tinyresolver/tptp/TptpLexer$Token" "line" "I" (.int ln) := Fn
  clear Wn Fn
  refine ok_aloadN G d_prog_69_method_1_code_19 rfl rfl ?_
  refine ok_iload G d_prog_69_method_1_code_20 rfl ?_
  refine ok_putF G (host := "") (Or.inl (C.w55)) Via.refl F_column E (Or.inr ⟨(C.w56), rfl, rfl⟩) (C.w31) (ty := .int) (by decide) rfl rfl d_prog_69_method_1_code_22 g_x (Or.inl (List.mem_of_getElem? (i := 0) rfl)) SafeFor.narrow ?_
  intro hp9 K10 Wn Fn
  replace F_kind := F_kind.other Wn (Or.inr (slot_ne (Or.inr (C.w50)) (Or.inr (C.w56)) (by decide) (t := (.object "com/example/tiny_resolver/tinyresolver/tptp/TptpLexer$Kind")) (t' := .int) (by decide) (by decide)))
  replace F_text := F_text.other Wn (Or.inr (slot_ne (Or.inr (C.w52)) (Or.inr (C.w56)) (by decide) (t := (.object "java/lang/String")) (t' := .int) (by decide) (by decide)))
  replace F_line := F_line.other Wn (Or.inr (slot_ne (Or.inr (C.w54)) (Or.inr (C.w56)) (by decide) (t := .int) (t' := .int) (by decide) (by decide)))
  replace E := E.keep K10
  replace F_column : Fld Z hp9 x "com/example/tiny_resolver/tinyresolver/tptp/TptpLexer$Token" "column" "I" (.int co) := Fn
  clear Wn Fn
  exact ok_return G rfl d_prog_69_method_1_code_25 ⟨rfl, F_kind⟩ (Nat.le_of_ble_eq_true rfl) (Nat.le_of_ble_eq_true rfl)
theorem d_prog_69_method_2_code_0 : decode prog_69_method_2_code 0 = .ok (.aload_n 0, 1) := by decide +kernel
theorem d_prog_69_method_2_code_1 : decode prog_69_method_2_code 1 = .ok (.getfield 7, 3) := by decide +kernel
theorem d_prog_69_method_2_code_4 : decode prog_69_method_2_code 4 = .ok (.getstatic 24, 3) := by decide +kernel
theorem d_prog_69_method_2_code_7 : decode prog_69_method_2_code 7 = .ok (.if_acmp .ne 7, 3) := by decide +kernel
theorem d_prog_69_method_2_code_10 : decode prog_69_method_2_code 10 = .ok (.iconst 1, 1) := by decide +kernel
theorem d_prog_69_method_2_code_11 : decode prog_69_method_2_code 11 = .ok (.goto 4, 3) := by decide +kernel
theorem d_prog_69_method_2_code_15 : decode prog_69_method_2_code 15 = .ok (.ireturn, 1) := by decide +kernel
def R_c_ie_t : Room := { frames := 0, cells := 0, slots := 0, locals := 0 }
theorem pl_b10 : plainFor (⟨"com/example/tiny_resolver/tinyresolver/tptp/TptpLexer$Token", "isEnd", "()Z"⟩ : MethodName) = true := plainFor_of_name (by first | (simp [plainName, overriddenIn]; done) | decide +kernel)
set_option maxRecDepth 65536 in
set_option maxHeartbeats 40000000 in
theorem c_ie_t {l : Launch} {Z : State} {a0 : Array Value} {n0 : Nat} {h0 : Heap} (C : Cx Z a0) (hO : Old Z n0 h0) {x r en1 : Addr} (FK : Fld Z h0 x "com/example/tiny_resolver/tinyresolver/tptp/TptpLexer$Token" "kind" "Lcom/example/tiny_resolver/tinyresolver/tptp/TptpLexer$Kind;" (.ref r)) (s1 : Sta Z Z.heap "com/example/tiny_resolver/tinyresolver/tptp/TptpLexer$Kind" "END" "Lcom/example/tiny_resolver/tinyresolver/tptp/TptpLexer$Kind;" (.ref en1)) (hne : r = en1) :
    Con false l Z [] n0 (⟨"com/example/tiny_resolver/tinyresolver/tptp/TptpLexer$Token", "isEnd", "()Z"⟩ : MethodName) prog_69_method_2_code 1 (some .boolean) R_c_ie_t #[(.ref x)] h0 [] (fun v h => v = some (.int 1) ∧ h0 = h) := by
  refine Con.intro (a0 := a0) pl_b10 hO (fun q => nomatch q) ?_
  intro p e s m below meth c G
  refine ok_as (mkF m 0 #[.val (.ref x)] []) (by first | rfl | (simp [entryFrame, mkF, argsToLocals, Value.category]; done)) ?_
  refine ok_aloadN G d_prog_69_method_2_code_0 rfl rfl ?_
  refine ok_getF G (host := "") (Or.inl (C.w49)) Via.refl FK d_prog_69_method_2_code_1 ?_
  refine ok_getS G (host := "") (Or.inl (C.w62)) Via.refl s1 d_prog_69_method_2_code_4 ?_
  refine ok_acmp G true 10 d_prog_69_method_2_code_7 rfl rfl (decide_eq_true (congrArg Value.ref hne)) (by decide) (by decide) ?_
  refine ok_iconst G (1 : Int32) d_prog_69_method_2_code_10 rfl ?_
  refine ok_goto G 15 d_prog_69_method_2_code_11 (by decide) (by decide) ?_
  exact ok_retN G rfl (by simp) d_prog_69_method_2_code_15 rfl ⟨rfl, rfl⟩ (Nat.le_of_ble_eq_true rfl) (Nat.le_of_ble_eq_true rfl)
theorem d_prog_69_method_2_code_14 : decode prog_69_method_2_code 14 = .ok (.iconst 0, 1) := by decide +kernel
def R_c_ie_f : Room := { frames := 0, cells := 0, slots := 0, locals := 0 }
set_option maxRecDepth 65536 in
set_option maxHeartbeats 40000000 in
theorem c_ie_f {l : Launch} {Z : State} {a0 : Array Value} {n0 : Nat} {h0 : Heap} (C : Cx Z a0) (hO : Old Z n0 h0) {x r en1 : Addr} (FK : Fld Z h0 x "com/example/tiny_resolver/tinyresolver/tptp/TptpLexer$Token" "kind" "Lcom/example/tiny_resolver/tinyresolver/tptp/TptpLexer$Kind;" (.ref r)) (s1 : Sta Z Z.heap "com/example/tiny_resolver/tinyresolver/tptp/TptpLexer$Kind" "END" "Lcom/example/tiny_resolver/tinyresolver/tptp/TptpLexer$Kind;" (.ref en1)) (hne : ¬ (r = en1)) :
    Con false l Z [] n0 (⟨"com/example/tiny_resolver/tinyresolver/tptp/TptpLexer$Token", "isEnd", "()Z"⟩ : MethodName) prog_69_method_2_code 1 (some .boolean) R_c_ie_f #[(.ref x)] h0 [] (fun v h => v = some (.int 0) ∧ h0 = h) := by
  refine Con.intro (a0 := a0) pl_b10 hO (fun q => nomatch q) ?_
  intro p e s m below meth c G
  refine ok_as (mkF m 0 #[.val (.ref x)] []) (by first | rfl | (simp [entryFrame, mkF, argsToLocals, Value.category]; done)) ?_
  refine ok_aloadN G d_prog_69_method_2_code_0 rfl rfl ?_
  refine ok_getF G (host := "") (Or.inl (C.w49)) Via.refl FK d_prog_69_method_2_code_1 ?_
  refine ok_getS G (host := "") (Or.inl (C.w62)) Via.refl s1 d_prog_69_method_2_code_4 ?_
  refine ok_acmp G false 14 d_prog_69_method_2_code_7 rfl rfl (decide_eq_false fun q => hne (Value.ref.inj q)) (by decide) (by decide) ?_
  refine ok_iconst G (0 : Int32) d_prog_69_method_2_code_14 rfl ?_
  exact ok_retN G rfl (by simp) d_prog_69_method_2_code_15 rfl ⟨rfl, rfl⟩ (Nat.le_of_ble_eq_true rfl) (Nat.le_of_ble_eq_true rfl)
theorem pd8 : parseMethodDescriptor "(I)Lcom/example/tiny_resolver/tinyresolver/tptp/TptpLexer$Kind;" = some ⟨[.int], some (.object "com/example/tiny_resolver/tinyresolver/tptp/TptpLexer$Kind")⟩ := by decide +kernel
theorem pd9 : parseMethodDescriptor "(Lcom/example/tiny_resolver/tinyresolver/tptp/TptpLexer$Kind;Ljava/lang/String;II)V" = some ⟨[(.object "com/example/tiny_resolver/tinyresolver/tptp/TptpLexer$Kind"), (.object "java/lang/String"), .int, .int], none⟩ := by decide +kernel
theorem pd10 : parseMethodDescriptor "()Z" = some ⟨[], some .boolean⟩ := by decide +kernel
theorem pd11 : parseMethodDescriptor "(C)Ljava/lang/String;" = some ⟨[.char], some (.object "java/lang/String")⟩ := by decide +kernel
theorem pd12 : parseMethodDescriptor "([C)V" = some ⟨[(.array .char)], none⟩ := by decide +kernel
theorem pl_b0 : plainFor x = true := plainFor_of_name (show plainName "com/example/tiny_resolver/tinyresolver/tptp/TokenIsEndPinLaw" = true by first | (simp [plainName, overriddenIn]; done) | decide +kernel)
set_option maxRecDepth 65536 in
set_option maxHeartbeats 40000000 in
theorem c_law {l : Launch} {Z : State} {a0 : Array Value} {n0 : Nat} {h0 : Heap} (C : Cx Z a0) (hO : Old Z n0 h0) (hE : EW Z a0 []) {which c0 c1 shape ln co : Int32} {en0 en1 en2 en3 en4 en5 en6 en7 : Addr} (s0 : Sta Z Z.heap "com/example/tiny_resolver/tinyresolver/tptp/TptpLexer$Kind" "LOWER_WORD" "Lcom/example/tiny_resolver/tinyresolver/tptp/TptpLexer$Kind;" (.ref en0)) (s1 : Sta Z Z.heap "com/example/tiny_resolver/tinyresolver/tptp/TptpLexer$Kind" "END" "Lcom/example/tiny_resolver/tinyresolver/tptp/TptpLexer$Kind;" (.ref en1)) (s2 : Sta Z Z.heap "com/example/tiny_resolver/tinyresolver/tptp/TptpLexer$Kind" "NUMBER" "Lcom/example/tiny_resolver/tinyresolver/tptp/TptpLexer$Kind;" (.ref en2)) (s3 : Sta Z Z.heap "com/example/tiny_resolver/tinyresolver/tptp/TptpLexer$Kind" "DOLLAR_WORD" "Lcom/example/tiny_resolver/tinyresolver/tptp/TptpLexer$Kind;" (.ref en3)) (s4 : Sta Z Z.heap "com/example/tiny_resolver/tinyresolver/tptp/TptpLexer$Kind" "SINGLE_QUOTED" "Lcom/example/tiny_resolver/tinyresolver/tptp/TptpLexer$Kind;" (.ref en4)) (s5 : Sta Z Z.heap "com/example/tiny_resolver/tinyresolver/tptp/TptpLexer$Kind" "OTHER" "Lcom/example/tiny_resolver/tinyresolver/tptp/TptpLexer$Kind;" (.ref en5)) (s6 : Sta Z Z.heap "com/example/tiny_resolver/tinyresolver/tptp/TptpLexer$Kind" "DISTINCT_OBJECT" "Lcom/example/tiny_resolver/tinyresolver/tptp/TptpLexer$Kind;" (.ref en6)) (s7 : Sta Z Z.heap "com/example/tiny_resolver/tinyresolver/tptp/TptpLexer$Kind" "UPPER_WORD" "Lcom/example/tiny_resolver/tinyresolver/tptp/TptpLexer$Kind;" (.ref en7)) (d0 : ¬ (en0 = en1)) (d2 : ¬ (en2 = en1)) (d3 : ¬ (en3 = en1)) (d4 : ¬ (en4 = en1)) (d5 : ¬ (en5 = en1)) (d6 : ¬ (en6 = en1)) (d7 : ¬ (en7 = en1)) :
    Con true l Z [] n0 x code maxLocals ret room_1 #[(.int which), (.int c0), (.int c1), (.int shape), (.int ln), (.int co)] h0 [] (fun v h => v = some (.int 1)) := by
  refine Con.intro (a0 := a0) pl_b0 hO (fun _ => hE) ?_
  intro p e s m below meth c G
  refine ok_as (mkF m 0 #[.val (.int which), .val (.int c0), .val (.int c1), .val (.int shape), .val (.int ln), .val (.int co), .unset, .unset, .unset, .unset, .unset] []) (by first | rfl | (simp [entryFrame, mkF, argsToLocals, Value.category, maxLocals]; done)) ?_
  refine ok_iloadN G at_0 rfl ?_
  refine ok_bipush G (7 : Int32) at_1 rfl ?_
  refine ok_iand G at_3 ?_
  refine ok_istore G #[.val (.int which), .val (.int c0), .val (.int c1), .val (.int shape), .val (.int ln), .val (.int co), .val (.int (which &&& (7 : Int32))), .unset, .unset, .unset, .unset] at_4 rfl ?_
  refine ok_iconst G (2 : Int32) at_6 rfl ?_
  refine ok_newP G (aty := .char) (C.w0) at_7 (by decide) 2 (by decide) (by decide) (Nat.le_of_ble_eq_true rfl) (Nat.le_of_ble_eq_true rfl) ?_
  intro hp2 ob1 k_ob1 eq_ob1 K3 g_ob1 lb_ob1 V_ob1
  replace V_ob1 : Arv Z hp2 ob1 k_ob1 .char (2 : Int32) [(.int (0 : Int32)), (.int (0 : Int32))] (.int (0 : Int32)) := V_ob1.pad (pad_rep [] (.int (0 : Int32)) 2)
  refine ok_astore G #[.val (.int which), .val (.int c0), .val (.int c1), .val (.int shape), .val (.int ln), .val (.int co), .val (.int (which &&& (7 : Int32))), .val (.ref ob1), .unset, .unset, .unset] at_9 rfl rfl ?_
  refine ok_aload G at_11 rfl rfl ?_
  refine ok_iconst G (0 : Int32) at_13 rfl ?_
  refine ok_iloadN G at_14 rfl ?_
  refine ok_sipush G (255 : Int32) at_15 rfl ?_
  refine ok_iand G at_18 ?_
  refine ok_i2c G at_19 ?_
  refine ok_nameI ?_
  intro chr4 qchr4
  have lchr4 : Lat chr4 := by rw [qchr4]; exact lat_mask _
  refine ok_castore G chr4 0 V_ob1 ⟨by decide, by decide⟩ rfl (Nat.le_of_ble_eq_true rfl) (Lat.nar lchr4) at_20 g_ob1 (Or.inr lb_ob1) (SafeFor.mem (List.mem_of_getElem? (i := 0) rfl)) ?_
  intro hp5 K6 Vn
  replace V_ob1 : Arv Z hp5 ob1 k_ob1 .char (2 : Int32) [(.int chr4), (.int (0 : Int32))] (.int (0 : Int32)) := Vn
  clear Vn
  refine ok_aload G at_21 rfl rfl ?_
  refine ok_iconst G (1 : Int32) at_23 rfl ?_
  refine ok_iloadN G at_24 rfl ?_
  refine ok_sipush G (255 : Int32) at_25 rfl ?_
  refine ok_iand G at_28 ?_
  refine ok_i2c G at_29 ?_
  refine ok_nameI ?_
  intro chr7 qchr7
  have lchr7 : Lat chr7 := by rw [qchr7]; exact lat_mask _
  refine ok_castore G chr7 1 V_ob1 ⟨by decide, by decide⟩ rfl (Nat.le_of_ble_eq_true rfl) (Lat.nar lchr7) at_30 g_ob1 (Or.inr lb_ob1) (SafeFor.mem (List.mem_of_getElem? (i := 0) rfl)) ?_
  intro hp8 K9 Vn
  replace V_ob1 : Arv Z hp8 ob1 k_ob1 .char (2 : Int32) [(.int chr4), (.int chr7)] (.int (0 : Int32)) := Vn
  clear Vn
  refine ok_iloadN G at_31 rfl ?_
  refine ok_iconst G (1 : Int32) at_32 rfl ?_
  refine ok_iand G at_33 ?_
  refine ok_ifeq G 51 at_34 (by decide) (by decide) (fun cq10 => ?_) (fun cq10 => ?_)
  · skip
    refine ok_iloadN G at_51 rfl ?_
    refine ok_iconst G (2 : Int32) at_52 rfl ?_
    refine ok_iand G at_53 ?_
    refine ok_ifeq G 69 at_54 (by decide) (by decide) (fun cq11 => ?_) (fun cq11 => ?_)
    · skip
      refine ok_ldcO G rfl (C.w66) C.strs at_69 0 (by decide) (by decide) (Nat.le_of_ble_eq_true rfl) (Nat.le_of_ble_eq_true rfl) ?_
      intro yl14 hp12 K13
      replace V_ob1 := V_ob1.keep K13 nin0
      refine ok_astore G #[.val (.int which), .val (.int c0), .val (.int c1), .val (.int shape), .val (.int ln), .val (.int co), .val (.int (which &&& (7 : Int32))), .val (.ref ob1), .val (.ref yl14), .unset, .unset] at_71 rfl rfl ?_
      refine ok_new G (C.w30) (C.w31) (C.w32) at_73 (Nat.le_of_ble_eq_true rfl) (Nat.le_of_ble_eq_true rfl) ?_
      intro hp16 ob15 eq_ob15 K17 g_ob15 lb_ob15 E_ob15 D_ob15
      have ne_ob1_ob15 : ob1 ≠ ob15 := Nat.ne_of_lt (Nat.lt_of_lt_of_le V_ob1.lt (Nat.le_of_eq eq_ob15.symm))
      replace V_ob1 := V_ob1.keep K17 nin0
      have F_ob15_kind : Fld Z hp16 ob15 "com/example/tiny_resolver/tinyresolver/tptp/TptpLexer$Token" "kind" "Lcom/example/tiny_resolver/tinyresolver/tptp/TptpLexer$Kind;" .null := D_ob15 _ _ _ (.object "com/example/tiny_resolver/tinyresolver/tptp/TptpLexer$Kind") (Or.inr (C.w50)) (by decide)
      have F_ob15_text : Fld Z hp16 ob15 "com/example/tiny_resolver/tinyresolver/tptp/TptpLexer$Token" "text" "Ljava/lang/String;" .null := D_ob15 _ _ _ (.object "java/lang/String") (Or.inr (C.w52)) (by decide)
      have F_ob15_line : Fld Z hp16 ob15 "com/example/tiny_resolver/tinyresolver/tptp/TptpLexer$Token" "line" "I" (.int (0 : Int32)) := D_ob15 _ _ _ .int (Or.inr (C.w54)) (by decide)
      have F_ob15_column : Fld Z hp16 ob15 "com/example/tiny_resolver/tinyresolver/tptp/TptpLexer$Token" "column" "I" (.int (0 : Int32)) := D_ob15 _ _ _ .int (Or.inr (C.w56)) (by decide)
      refine ok_dup G at_76 rfl ?_
      refine ok_iload G at_77 rfl ?_
      refine ok_old (fun hO_hp16 => ?_)
      refine ok_static G (argsL := [(.int (which &&& (7 : Int32)))]) (rest := [(.ref ob15), (.ref ob15)]) (C.w33) (C.w34) (C.w35) (C.w36) (by decide) pd8 (c_kindOf C hO_hp16 s0 s1 s2 s3 s4 s5 s6 s7 d0 d2 d3 d4 d5 d6 d7) rfl rfl rfl at_79 (Nat.le_of_ble_eq_true rfl) (Nat.le_of_ble_eq_true rfl) (Nat.le_of_ble_eq_true rfl) (Nat.le_of_ble_eq_true rfl) (fun _ q => nomatch q) ?_
      rintro _ hp19 K20 ⟨ak18, rfl, hk_ak18⟩
      replace V_ob1 := V_ob1.keep K20 nin0
      replace E_ob15 := E_ob15.keep K20
      replace F_ob15_kind := F_ob15_kind.keep K20 nin0
      replace F_ob15_text := F_ob15_text.keep K20 nin0
      replace F_ob15_line := F_ob15_line.keep K20 nin0
      replace F_ob15_column := F_ob15_column.keep K20 nin0
      refine ok_as (mkF m 82 #[.val (.int which), .val (.int c0), .val (.int c1), .val (.int shape), .val (.int ln), .val (.int co), .val (.int (which &&& (7 : Int32))), .val (.ref ob1), .val (.ref yl14), .unset, .unset] [(.ref ak18), (.ref ob15), (.ref ob15)]) rfl ?_
      rcases hk_ak18 with ⟨rfl, e0, e1, e2, e3, e4, e5, e6⟩ | ⟨hna, hk7⟩
      · skip
        have hk7 := own_seven e0 e1 e2 e3 e4 e5 e6
        refine ok_aload G at_82 rfl rfl ?_
        refine ok_iload G at_84 rfl ?_
        refine ok_iload G at_86 rfl ?_
        refine ok_old (fun hO_hp19 => ?_)
        refine ok_init G (a := ob15) (argsL := [(.ref en1), (.ref yl14), (.int ln), (.int co)]) (rest := [(.ref ob15)]) rfl (C.w40) (C.w41) (C.w32) (C.w42) (by decide) pd9 (c_ti C hO_hp19 E_ob15 F_ob15_kind F_ob15_text F_ob15_line F_ob15_column g_ob15) rfl rfl rfl at_88 (Nat.le_of_ble_eq_true rfl) (Nat.le_of_ble_eq_true rfl) (Nat.le_of_ble_eq_true rfl) (Nat.le_of_ble_eq_true rfl) (allS ⟨(Or.inr lb_ob15), (SafeFor.mem (List.mem_of_getElem? (i := 0) rfl))⟩ (fun _ q => nomatch q)) ?_
        rintro _ hp21 K22 ⟨rfl, FK_ob15⟩
        replace V_ob1 := V_ob1.keep K22 (ninS ne_ob1_ob15 nin0)
        replace E_ob15 := E_ob15.keep K22
        refine ok_as (mkF m 91 #[.val (.int which), .val (.int c0), .val (.int c1), .val (.int shape), .val (.int ln), .val (.int co), .val (.int (which &&& (7 : Int32))), .val (.ref ob1), .val (.ref yl14), .unset, .unset] [(.ref ob15)]) rfl ?_
        refine ok_astore G #[.val (.int which), .val (.int c0), .val (.int c1), .val (.int shape), .val (.int ln), .val (.int co), .val (.int (which &&& (7 : Int32))), .val (.ref ob1), .val (.ref yl14), .val (.ref ob15), .unset] at_91 rfl rfl ?_
        refine ok_iload G at_93 rfl ?_
        refine ok_bipush G (7 : Int32) at_95 rfl ?_
        refine ok_icmpneN G at_97 hk7 ?_
        refine ok_iconst G (1 : Int32) at_100 rfl ?_
        refine ok_goto G 105 at_101 (by decide) (by decide) ?_
        refine ok_istore G #[.val (.int which), .val (.int c0), .val (.int c1), .val (.int shape), .val (.int ln), .val (.int co), .val (.int (which &&& (7 : Int32))), .val (.ref ob1), .val (.ref yl14), .val (.ref ob15), .val (.int (1 : Int32))] at_105 rfl ?_
        refine ok_aload G at_107 rfl rfl ?_
        refine ok_old (fun hO_hp21 => ?_)
        refine ok_virtual G (a := ob15) (y0 := (⟨"com/example/tiny_resolver/tinyresolver/tptp/TptpLexer$Token", "isEnd", "()Z"⟩ : MethodName)) (y := (⟨"com/example/tiny_resolver/tinyresolver/tptp/TptpLexer$Token", "isEnd", "()Z"⟩ : MethodName)) (argsL := []) (rest := []) E_ob15 (C.w57) (C.w58) (C.w60) (fun vm hZ => notFace_of_selects (args := #[]) (mvT (s := s.setVm vm) hZ (C.w60))) (C.w59) (C.w32) (C.w61) (by decide) pd10 (c_ie_t C hO_hp21 FK_ob15 s1 rfl) rfl rfl rfl at_109 (Nat.le_of_ble_eq_true rfl) (Nat.le_of_ble_eq_true rfl) (Nat.le_of_ble_eq_true rfl) (Nat.le_of_ble_eq_true rfl) (fun _ q => nomatch q) ?_
        rintro _ _ _ ⟨rfl, rfl⟩
        refine ok_as (mkF m 112 #[.val (.int which), .val (.int c0), .val (.int c1), .val (.int shape), .val (.int ln), .val (.int co), .val (.int (which &&& (7 : Int32))), .val (.ref ob1), .val (.ref yl14), .val (.ref ob15), .val (.int (1 : Int32))] [(.int (1 : Int32))]) rfl ?_
        refine ok_iload G at_112 rfl ?_
        refine ok_icmpneN G at_114 (by decide) ?_
        refine ok_iconst G (1 : Int32) at_117 rfl ?_
        refine ok_goto G 122 at_118 (by decide) (by decide) ?_
        exact ok_retN G rfl (by simp) at_122 rfl rfl (Nat.le_of_ble_eq_true rfl) (Nat.le_of_ble_eq_true rfl)
      · skip
        refine ok_aload G at_82 rfl rfl ?_
        refine ok_iload G at_84 rfl ?_
        refine ok_iload G at_86 rfl ?_
        refine ok_old (fun hO_hp19 => ?_)
        refine ok_init G (a := ob15) (argsL := [(.ref ak18), (.ref yl14), (.int ln), (.int co)]) (rest := [(.ref ob15)]) rfl (C.w40) (C.w41) (C.w32) (C.w42) (by decide) pd9 (c_ti C hO_hp19 E_ob15 F_ob15_kind F_ob15_text F_ob15_line F_ob15_column g_ob15) rfl rfl rfl at_88 (Nat.le_of_ble_eq_true rfl) (Nat.le_of_ble_eq_true rfl) (Nat.le_of_ble_eq_true rfl) (Nat.le_of_ble_eq_true rfl) (allS ⟨(Or.inr lb_ob15), (SafeFor.mem (List.mem_of_getElem? (i := 0) rfl))⟩ (fun _ q => nomatch q)) ?_
        rintro _ hp25 K26 ⟨rfl, FK_ob15⟩
        replace V_ob1 := V_ob1.keep K26 (ninS ne_ob1_ob15 nin0)
        replace E_ob15 := E_ob15.keep K26
        refine ok_as (mkF m 91 #[.val (.int which), .val (.int c0), .val (.int c1), .val (.int shape), .val (.int ln), .val (.int co), .val (.int (which &&& (7 : Int32))), .val (.ref ob1), .val (.ref yl14), .unset, .unset] [(.ref ob15)]) rfl ?_
        refine ok_astore G #[.val (.int which), .val (.int c0), .val (.int c1), .val (.int shape), .val (.int ln), .val (.int co), .val (.int (which &&& (7 : Int32))), .val (.ref ob1), .val (.ref yl14), .val (.ref ob15), .unset] at_91 rfl rfl ?_
        refine ok_iload G at_93 rfl ?_
        refine ok_bipush G (7 : Int32) at_95 rfl ?_
        refine ok_icmpneY G 104 at_97 (by decide) (by decide) hk7 ?_
        refine ok_iconst G (0 : Int32) at_104 rfl ?_
        refine ok_istore G #[.val (.int which), .val (.int c0), .val (.int c1), .val (.int shape), .val (.int ln), .val (.int co), .val (.int (which &&& (7 : Int32))), .val (.ref ob1), .val (.ref yl14), .val (.ref ob15), .val (.int (0 : Int32))] at_105 rfl ?_
        refine ok_aload G at_107 rfl rfl ?_
        refine ok_old (fun hO_hp25 => ?_)
        refine ok_virtual G (a := ob15) (y0 := (⟨"com/example/tiny_resolver/tinyresolver/tptp/TptpLexer$Token", "isEnd", "()Z"⟩ : MethodName)) (y := (⟨"com/example/tiny_resolver/tinyresolver/tptp/TptpLexer$Token", "isEnd", "()Z"⟩ : MethodName)) (argsL := []) (rest := []) E_ob15 (C.w57) (C.w58) (C.w60) (fun vm hZ => notFace_of_selects (args := #[]) (mvT (s := s.setVm vm) hZ (C.w60))) (C.w59) (C.w32) (C.w61) (by decide) pd10 (c_ie_f C hO_hp25 FK_ob15 s1 hna) rfl rfl rfl at_109 (Nat.le_of_ble_eq_true rfl) (Nat.le_of_ble_eq_true rfl) (Nat.le_of_ble_eq_true rfl) (Nat.le_of_ble_eq_true rfl) (fun _ q => nomatch q) ?_
        rintro _ _ _ ⟨rfl, rfl⟩
        refine ok_as (mkF m 112 #[.val (.int which), .val (.int c0), .val (.int c1), .val (.int shape), .val (.int ln), .val (.int co), .val (.int (which &&& (7 : Int32))), .val (.ref ob1), .val (.ref yl14), .val (.ref ob15), .val (.int (0 : Int32))] [(.int (0 : Int32))]) rfl ?_
        refine ok_iload G at_112 rfl ?_
        refine ok_icmpneN G at_114 (by decide) ?_
        refine ok_iconst G (1 : Int32) at_117 rfl ?_
        refine ok_goto G 122 at_118 (by decide) (by decide) ?_
        exact ok_retN G rfl (by simp) at_122 rfl rfl (Nat.le_of_ble_eq_true rfl) (Nat.le_of_ble_eq_true rfl)
    · skip
      refine ok_aload G at_57 rfl rfl ?_
      refine ok_iconst G (0 : Int32) at_59 rfl ?_
      refine ok_caload G chr4 V_ob1 ⟨by decide, by decide⟩ rfl at_60 ?_
      refine ok_old (fun hO_hp8 => ?_)
      refine ok_keep (fun hKp_hp8 => ?_)
      refine ok_static G (argsL := [(.int chr4)]) (rest := []) (C.w74) (C.w75) (C.w3) (C.w76) (by decide) pd11 (c_valueOf C hO_hp8 lchr4) rfl rfl rfl at_61 (Nat.le_of_ble_eq_true rfl) (Nat.le_of_ble_eq_true rfl) (Nat.le_of_ble_eq_true rfl) (Nat.le_of_ble_eq_true rfl) (fun _ q => nomatch q) ?_
      rintro _ hp31 K32 ⟨xr29, tr30, rfl, lbq_xr29, S_xr29⟩
      have lbh_xr29 := lbq_xr29
      have ne_ob1_xr29 : ob1 ≠ xr29 := Nat.ne_of_lt (Nat.lt_of_lt_of_le V_ob1.lt lbh_xr29)
      have lb_xr29 : h0.size ≤ xr29 := Nat.le_trans hKp_hp8.1 lbh_xr29
      have g_xr29 : n0 ≤ xr29 := Nat.le_trans (old_le hO_hp8) lbh_xr29
      replace V_ob1 := V_ob1.keep K32 nin0
      refine ok_as (mkF m 64 #[.val (.int which), .val (.int c0), .val (.int c1), .val (.int shape), .val (.int ln), .val (.int co), .val (.int (which &&& (7 : Int32))), .val (.ref ob1), .unset, .unset, .unset] [(.ref xr29)]) rfl ?_
      refine ok_astore G #[.val (.int which), .val (.int c0), .val (.int c1), .val (.int shape), .val (.int ln), .val (.int co), .val (.int (which &&& (7 : Int32))), .val (.ref ob1), .val (.ref xr29), .unset, .unset] at_64 rfl rfl ?_
      refine ok_goto G 73 at_66 (by decide) (by decide) ?_
      refine ok_new G (C.w30) (C.w31) (C.w32) at_73 (Nat.le_of_ble_eq_true rfl) (Nat.le_of_ble_eq_true rfl) ?_
      intro hp34 ob33 eq_ob33 K35 g_ob33 lb_ob33 E_ob33 D_ob33
      have ne_ob1_ob33 : ob1 ≠ ob33 := Nat.ne_of_lt (Nat.lt_of_lt_of_le V_ob1.lt (Nat.le_of_eq eq_ob33.symm))
      have ne_xr29_ob33 : xr29 ≠ ob33 := Nat.ne_of_lt (Nat.lt_of_lt_of_le S_xr29.lt (Nat.le_of_eq eq_ob33.symm))
      have ne_tr30_ob33 : tr30 ≠ ob33 := Nat.ne_of_lt (Nat.lt_of_lt_of_le S_xr29.ltT (Nat.le_of_eq eq_ob33.symm))
      replace V_ob1 := V_ob1.keep K35 nin0
      replace S_xr29 := S_xr29.keep K35 nin0 nin0
      have F_ob33_kind : Fld Z hp34 ob33 "com/example/tiny_resolver/tinyresolver/tptp/TptpLexer$Token" "kind" "Lcom/example/tiny_resolver/tinyresolver/tptp/TptpLexer$Kind;" .null := D_ob33 _ _ _ (.object "com/example/tiny_resolver/tinyresolver/tptp/TptpLexer$Kind") (Or.inr (C.w50)) (by decide)
      have F_ob33_text : Fld Z hp34 ob33 "com/example/tiny_resolver/tinyresolver/tptp/TptpLexer$Token" "text" "Ljava/lang/String;" .null := D_ob33 _ _ _ (.object "java/lang/String") (Or.inr (C.w52)) (by decide)
      have F_ob33_line : Fld Z hp34 ob33 "com/example/tiny_resolver/tinyresolver/tptp/TptpLexer$Token" "line" "I" (.int (0 : Int32)) := D_ob33 _ _ _ .int (Or.inr (C.w54)) (by decide)
      have F_ob33_column : Fld Z hp34 ob33 "com/example/tiny_resolver/tinyresolver/tptp/TptpLexer$Token" "column" "I" (.int (0 : Int32)) := D_ob33 _ _ _ .int (Or.inr (C.w56)) (by decide)
      refine ok_dup G at_76 rfl ?_
      refine ok_iload G at_77 rfl ?_
      refine ok_old (fun hO_hp34 => ?_)
      refine ok_static G (argsL := [(.int (which &&& (7 : Int32)))]) (rest := [(.ref ob33), (.ref ob33)]) (C.w33) (C.w34) (C.w35) (C.w36) (by decide) pd8 (c_kindOf C hO_hp34 s0 s1 s2 s3 s4 s5 s6 s7 d0 d2 d3 d4 d5 d6 d7) rfl rfl rfl at_79 (Nat.le_of_ble_eq_true rfl) (Nat.le_of_ble_eq_true rfl) (Nat.le_of_ble_eq_true rfl) (Nat.le_of_ble_eq_true rfl) (fun _ q => nomatch q) ?_
      rintro _ hp37 K38 ⟨ak36, rfl, hk_ak36⟩
      replace V_ob1 := V_ob1.keep K38 nin0
      replace S_xr29 := S_xr29.keep K38 nin0 nin0
      replace E_ob33 := E_ob33.keep K38
      replace F_ob33_kind := F_ob33_kind.keep K38 nin0
      replace F_ob33_text := F_ob33_text.keep K38 nin0
      replace F_ob33_line := F_ob33_line.keep K38 nin0
      replace F_ob33_column := F_ob33_column.keep K38 nin0
      refine ok_as (mkF m 82 #[.val (.int which), .val (.int c0), .val (.int c1), .val (.int shape), .val (.int ln), .val (.int co), .val (.int (which &&& (7 : Int32))), .val (.ref ob1), .val (.ref xr29), .unset, .unset] [(.ref ak36), (.ref ob33), (.ref ob33)]) rfl ?_
      rcases hk_ak36 with ⟨rfl, e0, e1, e2, e3, e4, e5, e6⟩ | ⟨hna, hk7⟩
      · skip
        have hk7 := own_seven e0 e1 e2 e3 e4 e5 e6
        refine ok_aload G at_82 rfl rfl ?_
        refine ok_iload G at_84 rfl ?_
        refine ok_iload G at_86 rfl ?_
        refine ok_old (fun hO_hp37 => ?_)
        refine ok_init G (a := ob33) (argsL := [(.ref en1), (.ref xr29), (.int ln), (.int co)]) (rest := [(.ref ob33)]) rfl (C.w40) (C.w41) (C.w32) (C.w42) (by decide) pd9 (c_ti C hO_hp37 E_ob33 F_ob33_kind F_ob33_text F_ob33_line F_ob33_column g_ob33) rfl rfl rfl at_88 (Nat.le_of_ble_eq_true rfl) (Nat.le_of_ble_eq_true rfl) (Nat.le_of_ble_eq_true rfl) (Nat.le_of_ble_eq_true rfl) (allS ⟨(Or.inr lb_ob33), (SafeFor.mem (List.mem_of_getElem? (i := 0) rfl))⟩ (fun _ q => nomatch q)) ?_
        rintro _ hp39 K40 ⟨rfl, FK_ob33⟩
        replace V_ob1 := V_ob1.keep K40 (ninS ne_ob1_ob33 nin0)
        replace S_xr29 := S_xr29.keep K40 (ninS ne_xr29_ob33 nin0) (ninS ne_tr30_ob33 nin0)
        replace E_ob33 := E_ob33.keep K40
        refine ok_as (mkF m 91 #[.val (.int which), .val (.int c0), .val (.int c1), .val (.int shape), .val (.int ln), .val (.int co), .val (.int (which &&& (7 : Int32))), .val (.ref ob1), .val (.ref xr29), .unset, .unset] [(.ref ob33)]) rfl ?_
        refine ok_astore G #[.val (.int which), .val (.int c0), .val (.int c1), .val (.int shape), .val (.int ln), .val (.int co), .val (.int (which &&& (7 : Int32))), .val (.ref ob1), .val (.ref xr29), .val (.ref ob33), .unset] at_91 rfl rfl ?_
        refine ok_iload G at_93 rfl ?_
        refine ok_bipush G (7 : Int32) at_95 rfl ?_
        refine ok_icmpneN G at_97 hk7 ?_
        refine ok_iconst G (1 : Int32) at_100 rfl ?_
        refine ok_goto G 105 at_101 (by decide) (by decide) ?_
        refine ok_istore G #[.val (.int which), .val (.int c0), .val (.int c1), .val (.int shape), .val (.int ln), .val (.int co), .val (.int (which &&& (7 : Int32))), .val (.ref ob1), .val (.ref xr29), .val (.ref ob33), .val (.int (1 : Int32))] at_105 rfl ?_
        refine ok_aload G at_107 rfl rfl ?_
        refine ok_old (fun hO_hp39 => ?_)
        refine ok_virtual G (a := ob33) (y0 := (⟨"com/example/tiny_resolver/tinyresolver/tptp/TptpLexer$Token", "isEnd", "()Z"⟩ : MethodName)) (y := (⟨"com/example/tiny_resolver/tinyresolver/tptp/TptpLexer$Token", "isEnd", "()Z"⟩ : MethodName)) (argsL := []) (rest := []) E_ob33 (C.w57) (C.w58) (C.w60) (fun vm hZ => notFace_of_selects (args := #[]) (mvT (s := s.setVm vm) hZ (C.w60))) (C.w59) (C.w32) (C.w61) (by decide) pd10 (c_ie_t C hO_hp39 FK_ob33 s1 rfl) rfl rfl rfl at_109 (Nat.le_of_ble_eq_true rfl) (Nat.le_of_ble_eq_true rfl) (Nat.le_of_ble_eq_true rfl) (Nat.le_of_ble_eq_true rfl) (fun _ q => nomatch q) ?_
        rintro _ _ _ ⟨rfl, rfl⟩
        refine ok_as (mkF m 112 #[.val (.int which), .val (.int c0), .val (.int c1), .val (.int shape), .val (.int ln), .val (.int co), .val (.int (which &&& (7 : Int32))), .val (.ref ob1), .val (.ref xr29), .val (.ref ob33), .val (.int (1 : Int32))] [(.int (1 : Int32))]) rfl ?_
        refine ok_iload G at_112 rfl ?_
        refine ok_icmpneN G at_114 (by decide) ?_
        refine ok_iconst G (1 : Int32) at_117 rfl ?_
        refine ok_goto G 122 at_118 (by decide) (by decide) ?_
        exact ok_retN G rfl (by simp) at_122 rfl rfl (Nat.le_of_ble_eq_true rfl) (Nat.le_of_ble_eq_true rfl)
      · skip
        refine ok_aload G at_82 rfl rfl ?_
        refine ok_iload G at_84 rfl ?_
        refine ok_iload G at_86 rfl ?_
        refine ok_old (fun hO_hp37 => ?_)
        refine ok_init G (a := ob33) (argsL := [(.ref ak36), (.ref xr29), (.int ln), (.int co)]) (rest := [(.ref ob33)]) rfl (C.w40) (C.w41) (C.w32) (C.w42) (by decide) pd9 (c_ti C hO_hp37 E_ob33 F_ob33_kind F_ob33_text F_ob33_line F_ob33_column g_ob33) rfl rfl rfl at_88 (Nat.le_of_ble_eq_true rfl) (Nat.le_of_ble_eq_true rfl) (Nat.le_of_ble_eq_true rfl) (Nat.le_of_ble_eq_true rfl) (allS ⟨(Or.inr lb_ob33), (SafeFor.mem (List.mem_of_getElem? (i := 0) rfl))⟩ (fun _ q => nomatch q)) ?_
        rintro _ hp43 K44 ⟨rfl, FK_ob33⟩
        replace V_ob1 := V_ob1.keep K44 (ninS ne_ob1_ob33 nin0)
        replace S_xr29 := S_xr29.keep K44 (ninS ne_xr29_ob33 nin0) (ninS ne_tr30_ob33 nin0)
        replace E_ob33 := E_ob33.keep K44
        refine ok_as (mkF m 91 #[.val (.int which), .val (.int c0), .val (.int c1), .val (.int shape), .val (.int ln), .val (.int co), .val (.int (which &&& (7 : Int32))), .val (.ref ob1), .val (.ref xr29), .unset, .unset] [(.ref ob33)]) rfl ?_
        refine ok_astore G #[.val (.int which), .val (.int c0), .val (.int c1), .val (.int shape), .val (.int ln), .val (.int co), .val (.int (which &&& (7 : Int32))), .val (.ref ob1), .val (.ref xr29), .val (.ref ob33), .unset] at_91 rfl rfl ?_
        refine ok_iload G at_93 rfl ?_
        refine ok_bipush G (7 : Int32) at_95 rfl ?_
        refine ok_icmpneY G 104 at_97 (by decide) (by decide) hk7 ?_
        refine ok_iconst G (0 : Int32) at_104 rfl ?_
        refine ok_istore G #[.val (.int which), .val (.int c0), .val (.int c1), .val (.int shape), .val (.int ln), .val (.int co), .val (.int (which &&& (7 : Int32))), .val (.ref ob1), .val (.ref xr29), .val (.ref ob33), .val (.int (0 : Int32))] at_105 rfl ?_
        refine ok_aload G at_107 rfl rfl ?_
        refine ok_old (fun hO_hp43 => ?_)
        refine ok_virtual G (a := ob33) (y0 := (⟨"com/example/tiny_resolver/tinyresolver/tptp/TptpLexer$Token", "isEnd", "()Z"⟩ : MethodName)) (y := (⟨"com/example/tiny_resolver/tinyresolver/tptp/TptpLexer$Token", "isEnd", "()Z"⟩ : MethodName)) (argsL := []) (rest := []) E_ob33 (C.w57) (C.w58) (C.w60) (fun vm hZ => notFace_of_selects (args := #[]) (mvT (s := s.setVm vm) hZ (C.w60))) (C.w59) (C.w32) (C.w61) (by decide) pd10 (c_ie_f C hO_hp43 FK_ob33 s1 hna) rfl rfl rfl at_109 (Nat.le_of_ble_eq_true rfl) (Nat.le_of_ble_eq_true rfl) (Nat.le_of_ble_eq_true rfl) (Nat.le_of_ble_eq_true rfl) (fun _ q => nomatch q) ?_
        rintro _ _ _ ⟨rfl, rfl⟩
        refine ok_as (mkF m 112 #[.val (.int which), .val (.int c0), .val (.int c1), .val (.int shape), .val (.int ln), .val (.int co), .val (.int (which &&& (7 : Int32))), .val (.ref ob1), .val (.ref xr29), .val (.ref ob33), .val (.int (0 : Int32))] [(.int (0 : Int32))]) rfl ?_
        refine ok_iload G at_112 rfl ?_
        refine ok_icmpneN G at_114 (by decide) ?_
        refine ok_iconst G (1 : Int32) at_117 rfl ?_
        refine ok_goto G 122 at_118 (by decide) (by decide) ?_
        exact ok_retN G rfl (by simp) at_122 rfl rfl (Nat.le_of_ble_eq_true rfl) (Nat.le_of_ble_eq_true rfl)
  · skip
    refine ok_new G (C.w1) (C.w2) (C.w3) at_37 (Nat.le_of_ble_eq_true rfl) (Nat.le_of_ble_eq_true rfl) ?_
    intro hp48 ob47 eq_ob47 K49 g_ob47 lb_ob47 E_ob47 D_ob47
    have ne_ob1_ob47 : ob1 ≠ ob47 := Nat.ne_of_lt (Nat.lt_of_lt_of_le V_ob1.lt (Nat.le_of_eq eq_ob47.symm))
    replace V_ob1 := V_ob1.keep K49 nin0
    have F_ob47_coder : Fld Z hp48 ob47 "java/lang/String" "coder" "B" (.int (0 : Int32)) := D_ob47 _ _ _ .byte (Or.inr (C.w27)) (by decide)
    have F_ob47_value : Fld Z hp48 ob47 "java/lang/String" "value" "[B" .null := D_ob47 _ _ _ (.array .byte) (Or.inr (C.w29)) (by decide)
    refine ok_dup G at_40 rfl ?_
    refine ok_aload G at_41 rfl rfl ?_
    refine ok_old (fun hO_hp48 => ?_)
    refine ok_keep (fun hKp_hp48 => ?_)
    refine ok_init G (a := ob47) (argsL := [(.ref ob1)]) (rest := [(.ref ob47)]) rfl (C.w4) (C.w5) (C.w3) (C.w6) (by decide) pd12 (c_init1 (cs := [chr4, chr7]) C hO_hp48 E_ob47 F_ob47_value F_ob47_coder g_ob47 V_ob1 (Nat.le_of_ble_eq_true rfl) (Nat.le_of_ble_eq_true rfl) (allL lchr4 (allL lchr7 (fun _ q => nomatch q))) (Ne.symm ne_ob1_ob47)) rfl rfl rfl at_43 (Nat.le_of_ble_eq_true rfl) (Nat.le_of_ble_eq_true rfl) (Nat.le_of_ble_eq_true rfl) (Nat.le_of_ble_eq_true rfl) (allS ⟨(Or.inr lb_ob47), (SafeFor.mem (List.mem_of_getElem? (i := 0) rfl))⟩ (fun _ q => nomatch q)) ?_
    rintro _ hp51 K52 ⟨rfl, tr50, lbq_tr50, S_ob47⟩
    have lbh_tr50 := lbq_tr50
    have ne_ob1_tr50 : ob1 ≠ tr50 := Nat.ne_of_lt (Nat.lt_of_lt_of_le V_ob1.lt lbh_tr50)
    have ne_ob47_tr50 : ob47 ≠ tr50 := Nat.ne_of_lt (Nat.lt_of_lt_of_le E_ob47.lt lbh_tr50)
    have lb_tr50 : h0.size ≤ tr50 := Nat.le_trans hKp_hp48.1 lbh_tr50
    have g_tr50 : n0 ≤ tr50 := Nat.le_trans (old_le hO_hp48) lbh_tr50
    replace V_ob1 := V_ob1.keep K52 (ninS ne_ob1_ob47 nin0)
    replace E_ob47 := E_ob47.keep K52
    refine ok_as (mkF m 46 #[.val (.int which), .val (.int c0), .val (.int c1), .val (.int shape), .val (.int ln), .val (.int co), .val (.int (which &&& (7 : Int32))), .val (.ref ob1), .unset, .unset, .unset] [(.ref ob47)]) rfl ?_
    refine ok_astore G #[.val (.int which), .val (.int c0), .val (.int c1), .val (.int shape), .val (.int ln), .val (.int co), .val (.int (which &&& (7 : Int32))), .val (.ref ob1), .val (.ref ob47), .unset, .unset] at_46 rfl rfl ?_
    refine ok_goto G 73 at_48 (by decide) (by decide) ?_
    refine ok_new G (C.w30) (C.w31) (C.w32) at_73 (Nat.le_of_ble_eq_true rfl) (Nat.le_of_ble_eq_true rfl) ?_
    intro hp54 ob53 eq_ob53 K55 g_ob53 lb_ob53 E_ob53 D_ob53
    have ne_ob1_ob53 : ob1 ≠ ob53 := Nat.ne_of_lt (Nat.lt_of_lt_of_le V_ob1.lt (Nat.le_of_eq eq_ob53.symm))
    have ne_ob47_ob53 : ob47 ≠ ob53 := Nat.ne_of_lt (Nat.lt_of_lt_of_le E_ob47.lt (Nat.le_of_eq eq_ob53.symm))
    have ne_tr50_ob53 : tr50 ≠ ob53 := Nat.ne_of_lt (Nat.lt_of_lt_of_le S_ob47.ltT (Nat.le_of_eq eq_ob53.symm))
    replace V_ob1 := V_ob1.keep K55 nin0
    replace E_ob47 := E_ob47.keep K55
    replace S_ob47 := S_ob47.keep K55 nin0 nin0
    have F_ob53_kind : Fld Z hp54 ob53 "com/example/tiny_resolver/tinyresolver/tptp/TptpLexer$Token" "kind" "Lcom/example/tiny_resolver/tinyresolver/tptp/TptpLexer$Kind;" .null := D_ob53 _ _ _ (.object "com/example/tiny_resolver/tinyresolver/tptp/TptpLexer$Kind") (Or.inr (C.w50)) (by decide)
    have F_ob53_text : Fld Z hp54 ob53 "com/example/tiny_resolver/tinyresolver/tptp/TptpLexer$Token" "text" "Ljava/lang/String;" .null := D_ob53 _ _ _ (.object "java/lang/String") (Or.inr (C.w52)) (by decide)
    have F_ob53_line : Fld Z hp54 ob53 "com/example/tiny_resolver/tinyresolver/tptp/TptpLexer$Token" "line" "I" (.int (0 : Int32)) := D_ob53 _ _ _ .int (Or.inr (C.w54)) (by decide)
    have F_ob53_column : Fld Z hp54 ob53 "com/example/tiny_resolver/tinyresolver/tptp/TptpLexer$Token" "column" "I" (.int (0 : Int32)) := D_ob53 _ _ _ .int (Or.inr (C.w56)) (by decide)
    refine ok_dup G at_76 rfl ?_
    refine ok_iload G at_77 rfl ?_
    refine ok_old (fun hO_hp54 => ?_)
    refine ok_static G (argsL := [(.int (which &&& (7 : Int32)))]) (rest := [(.ref ob53), (.ref ob53)]) (C.w33) (C.w34) (C.w35) (C.w36) (by decide) pd8 (c_kindOf C hO_hp54 s0 s1 s2 s3 s4 s5 s6 s7 d0 d2 d3 d4 d5 d6 d7) rfl rfl rfl at_79 (Nat.le_of_ble_eq_true rfl) (Nat.le_of_ble_eq_true rfl) (Nat.le_of_ble_eq_true rfl) (Nat.le_of_ble_eq_true rfl) (fun _ q => nomatch q) ?_
    rintro _ hp57 K58 ⟨ak56, rfl, hk_ak56⟩
    replace V_ob1 := V_ob1.keep K58 nin0
    replace E_ob47 := E_ob47.keep K58
    replace S_ob47 := S_ob47.keep K58 nin0 nin0
    replace E_ob53 := E_ob53.keep K58
    replace F_ob53_kind := F_ob53_kind.keep K58 nin0
    replace F_ob53_text := F_ob53_text.keep K58 nin0
    replace F_ob53_line := F_ob53_line.keep K58 nin0
    replace F_ob53_column := F_ob53_column.keep K58 nin0
    refine ok_as (mkF m 82 #[.val (.int which), .val (.int c0), .val (.int c1), .val (.int shape), .val (.int ln), .val (.int co), .val (.int (which &&& (7 : Int32))), .val (.ref ob1), .val (.ref ob47), .unset, .unset] [(.ref ak56), (.ref ob53), (.ref ob53)]) rfl ?_
    rcases hk_ak56 with ⟨rfl, e0, e1, e2, e3, e4, e5, e6⟩ | ⟨hna, hk7⟩
    · skip
      have hk7 := own_seven e0 e1 e2 e3 e4 e5 e6
      refine ok_aload G at_82 rfl rfl ?_
      refine ok_iload G at_84 rfl ?_
      refine ok_iload G at_86 rfl ?_
      refine ok_old (fun hO_hp57 => ?_)
      refine ok_init G (a := ob53) (argsL := [(.ref en1), (.ref ob47), (.int ln), (.int co)]) (rest := [(.ref ob53)]) rfl (C.w40) (C.w41) (C.w32) (C.w42) (by decide) pd9 (c_ti C hO_hp57 E_ob53 F_ob53_kind F_ob53_text F_ob53_line F_ob53_column g_ob53) rfl rfl rfl at_88 (Nat.le_of_ble_eq_true rfl) (Nat.le_of_ble_eq_true rfl) (Nat.le_of_ble_eq_true rfl) (Nat.le_of_ble_eq_true rfl) (allS ⟨(Or.inr lb_ob53), (SafeFor.mem (List.mem_of_getElem? (i := 0) rfl))⟩ (fun _ q => nomatch q)) ?_
      rintro _ hp59 K60 ⟨rfl, FK_ob53⟩
      replace V_ob1 := V_ob1.keep K60 (ninS ne_ob1_ob53 nin0)
      replace E_ob47 := E_ob47.keep K60
      replace S_ob47 := S_ob47.keep K60 (ninS ne_ob47_ob53 nin0) (ninS ne_tr50_ob53 nin0)
      replace E_ob53 := E_ob53.keep K60
      refine ok_as (mkF m 91 #[.val (.int which), .val (.int c0), .val (.int c1), .val (.int shape), .val (.int ln), .val (.int co), .val (.int (which &&& (7 : Int32))), .val (.ref ob1), .val (.ref ob47), .unset, .unset] [(.ref ob53)]) rfl ?_
      refine ok_astore G #[.val (.int which), .val (.int c0), .val (.int c1), .val (.int shape), .val (.int ln), .val (.int co), .val (.int (which &&& (7 : Int32))), .val (.ref ob1), .val (.ref ob47), .val (.ref ob53), .unset] at_91 rfl rfl ?_
      refine ok_iload G at_93 rfl ?_
      refine ok_bipush G (7 : Int32) at_95 rfl ?_
      refine ok_icmpneN G at_97 hk7 ?_
      refine ok_iconst G (1 : Int32) at_100 rfl ?_
      refine ok_goto G 105 at_101 (by decide) (by decide) ?_
      refine ok_istore G #[.val (.int which), .val (.int c0), .val (.int c1), .val (.int shape), .val (.int ln), .val (.int co), .val (.int (which &&& (7 : Int32))), .val (.ref ob1), .val (.ref ob47), .val (.ref ob53), .val (.int (1 : Int32))] at_105 rfl ?_
      refine ok_aload G at_107 rfl rfl ?_
      refine ok_old (fun hO_hp59 => ?_)
      refine ok_virtual G (a := ob53) (y0 := (⟨"com/example/tiny_resolver/tinyresolver/tptp/TptpLexer$Token", "isEnd", "()Z"⟩ : MethodName)) (y := (⟨"com/example/tiny_resolver/tinyresolver/tptp/TptpLexer$Token", "isEnd", "()Z"⟩ : MethodName)) (argsL := []) (rest := []) E_ob53 (C.w57) (C.w58) (C.w60) (fun vm hZ => notFace_of_selects (args := #[]) (mvT (s := s.setVm vm) hZ (C.w60))) (C.w59) (C.w32) (C.w61) (by decide) pd10 (c_ie_t C hO_hp59 FK_ob53 s1 rfl) rfl rfl rfl at_109 (Nat.le_of_ble_eq_true rfl) (Nat.le_of_ble_eq_true rfl) (Nat.le_of_ble_eq_true rfl) (Nat.le_of_ble_eq_true rfl) (fun _ q => nomatch q) ?_
      rintro _ _ _ ⟨rfl, rfl⟩
      refine ok_as (mkF m 112 #[.val (.int which), .val (.int c0), .val (.int c1), .val (.int shape), .val (.int ln), .val (.int co), .val (.int (which &&& (7 : Int32))), .val (.ref ob1), .val (.ref ob47), .val (.ref ob53), .val (.int (1 : Int32))] [(.int (1 : Int32))]) rfl ?_
      refine ok_iload G at_112 rfl ?_
      refine ok_icmpneN G at_114 (by decide) ?_
      refine ok_iconst G (1 : Int32) at_117 rfl ?_
      refine ok_goto G 122 at_118 (by decide) (by decide) ?_
      exact ok_retN G rfl (by simp) at_122 rfl rfl (Nat.le_of_ble_eq_true rfl) (Nat.le_of_ble_eq_true rfl)
    · skip
      refine ok_aload G at_82 rfl rfl ?_
      refine ok_iload G at_84 rfl ?_
      refine ok_iload G at_86 rfl ?_
      refine ok_old (fun hO_hp57 => ?_)
      refine ok_init G (a := ob53) (argsL := [(.ref ak56), (.ref ob47), (.int ln), (.int co)]) (rest := [(.ref ob53)]) rfl (C.w40) (C.w41) (C.w32) (C.w42) (by decide) pd9 (c_ti C hO_hp57 E_ob53 F_ob53_kind F_ob53_text F_ob53_line F_ob53_column g_ob53) rfl rfl rfl at_88 (Nat.le_of_ble_eq_true rfl) (Nat.le_of_ble_eq_true rfl) (Nat.le_of_ble_eq_true rfl) (Nat.le_of_ble_eq_true rfl) (allS ⟨(Or.inr lb_ob53), (SafeFor.mem (List.mem_of_getElem? (i := 0) rfl))⟩ (fun _ q => nomatch q)) ?_
      rintro _ hp63 K64 ⟨rfl, FK_ob53⟩
      replace V_ob1 := V_ob1.keep K64 (ninS ne_ob1_ob53 nin0)
      replace E_ob47 := E_ob47.keep K64
      replace S_ob47 := S_ob47.keep K64 (ninS ne_ob47_ob53 nin0) (ninS ne_tr50_ob53 nin0)
      replace E_ob53 := E_ob53.keep K64
      refine ok_as (mkF m 91 #[.val (.int which), .val (.int c0), .val (.int c1), .val (.int shape), .val (.int ln), .val (.int co), .val (.int (which &&& (7 : Int32))), .val (.ref ob1), .val (.ref ob47), .unset, .unset] [(.ref ob53)]) rfl ?_
      refine ok_astore G #[.val (.int which), .val (.int c0), .val (.int c1), .val (.int shape), .val (.int ln), .val (.int co), .val (.int (which &&& (7 : Int32))), .val (.ref ob1), .val (.ref ob47), .val (.ref ob53), .unset] at_91 rfl rfl ?_
      refine ok_iload G at_93 rfl ?_
      refine ok_bipush G (7 : Int32) at_95 rfl ?_
      refine ok_icmpneY G 104 at_97 (by decide) (by decide) hk7 ?_
      refine ok_iconst G (0 : Int32) at_104 rfl ?_
      refine ok_istore G #[.val (.int which), .val (.int c0), .val (.int c1), .val (.int shape), .val (.int ln), .val (.int co), .val (.int (which &&& (7 : Int32))), .val (.ref ob1), .val (.ref ob47), .val (.ref ob53), .val (.int (0 : Int32))] at_105 rfl ?_
      refine ok_aload G at_107 rfl rfl ?_
      refine ok_old (fun hO_hp63 => ?_)
      refine ok_virtual G (a := ob53) (y0 := (⟨"com/example/tiny_resolver/tinyresolver/tptp/TptpLexer$Token", "isEnd", "()Z"⟩ : MethodName)) (y := (⟨"com/example/tiny_resolver/tinyresolver/tptp/TptpLexer$Token", "isEnd", "()Z"⟩ : MethodName)) (argsL := []) (rest := []) E_ob53 (C.w57) (C.w58) (C.w60) (fun vm hZ => notFace_of_selects (args := #[]) (mvT (s := s.setVm vm) hZ (C.w60))) (C.w59) (C.w32) (C.w61) (by decide) pd10 (c_ie_f C hO_hp63 FK_ob53 s1 hna) rfl rfl rfl at_109 (Nat.le_of_ble_eq_true rfl) (Nat.le_of_ble_eq_true rfl) (Nat.le_of_ble_eq_true rfl) (Nat.le_of_ble_eq_true rfl) (fun _ q => nomatch q) ?_
      rintro _ _ _ ⟨rfl, rfl⟩
      refine ok_as (mkF m 112 #[.val (.int which), .val (.int c0), .val (.int c1), .val (.int shape), .val (.int ln), .val (.int co), .val (.int (which &&& (7 : Int32))), .val (.ref ob1), .val (.ref ob47), .val (.ref ob53), .val (.int (0 : Int32))] [(.int (0 : Int32))]) rfl ?_
      refine ok_iload G at_112 rfl ?_
      refine ok_icmpneN G at_114 (by decide) ?_
      refine ok_iconst G (1 : Int32) at_117 rfl ?_
      refine ok_goto G 122 at_118 (by decide) (by decide) ?_
      exact ok_retN G rfl (by simp) at_122 rfl rfl (Nat.le_of_ble_eq_true rfl) (Nat.le_of_ble_eq_true rfl)
theorem own_ord {args : Array Value} {s : State} {t : Term} {x : Addr} {k : Int32} {C n d : String} (ht : t.eval args s none [] s = some (.ref x)) (h : (Jvm.Cond.eq (Term.field t C n d) (Term.int k)).value args s none s [] = some true) : s.fieldOf? x C n d = some (.int k) := by
  rw [← fld_at (first := s) (o := none) (idx := []) (args := args) ht]
  have e2 : (Term.int k).eval args s none [] s = some (.int k) := rfl
  cases he : (Term.field t C n d).eval args s none [] s with
  | none => simp [Cond.value, he] at h
  | some v => cases v <;> simp [Cond.value, he, e2] at h ⊢ <;> first | exact h | (cases h)
theorem own_compact {args : Array Value} {s : State} (hsets : ∀ w ∈ jdkStatics_1, w.before args s = true) : ∃ cz : Int32, Sta s s.heap "java/lang/String" "COMPACT_STRINGS" "Z" (.int cz) ∧ ¬ cz = 0 := by
  have h0 := hsets _ (List.mem_of_getElem? (i := 0) rfl)
  obtain ⟨cz, ez⟩ := is_v (Cond.before_iff.mp (hsets _ (List.mem_of_getElem? (i := 1) rfl)))
  have h2 := not_v (Cond.before_iff.mp (hsets _ (List.mem_of_getElem? (i := 2) rfl)))
  refine ⟨cz, Sta.start ez (Or.inl h0), fun q => ?_⟩
  subst q
  have e2 : (Term.int 0).eval args s none [] s = some (.int 0) := rfl
  simp [Cond.value, ez, e2] at h2
set_option maxRecDepth 65536 in
set_option maxHeartbeats 40000000 in
theorem comes_1 {Post : Tables → Env → Array Value → State → Outcome → State → Prop} (hpost : ∀ tb e args s v u, (limb_1_1.after args s (.returned v) u = true ∧ limb_1_2.after args s (.returned v) u = true ∧ True) → Jvm.D.FramedW s (.returned v) u (Jvm.fieldLocs frame_1_writes args s ++ Jvm.arrayLocs frame_1_arrays args s ++ Jvm.staticLocs frame_1_statics s) 24 1152 → Post tb e args s (.returned v) u) :
    ArmFor flags0 classFile x code maxLocals ret World_1 tables_1 room_1 Calls_1 rest_1 Pre_1 Post := by
  intro l hfl _ _ p e ha hc hk s m args below hf hA hF happ hP
  obtain ⟨hcalls, hrest, hpre⟩ := hP
  obtain ⟨-, -, -, hnamed, -, -, -, hat⟩ := (Spec.applies_iff hf).mp happ
  obtain ⟨hg, hn⟩ := and_e (Cond.before_iff.mp (show (Jvm.Cond.and given_1 narrow_1).before args s = true from hpre))
  obtain ⟨gv1, gv2⟩ := and_e hg
  obtain ⟨gv3, gv4⟩ := and_e gv2
  obtain ⟨gv5, gv6⟩ := and_e gv4
  obtain ⟨gv7, gv8⟩ := and_e gv6
  obtain ⟨gv9, gv10⟩ := and_e gv8
  obtain ⟨gv11, gv12⟩ := and_e gv10
  obtain ⟨w0, w1, w2, w3, w4, w5, rfl⟩ : ∃ w0 w1 w2 w3 w4 w5 : Value, args = #[w0, w1, w2, w3, w4, w5] := by
    have hs : args.size = 6 := by simpa [Cond.value, given_1] using gv1
    obtain ⟨L⟩ := args
    match L, hs with
    | [w0, w1, w2, w3, w4, w5], _ => exact ⟨w0, w1, w2, w3, w4, w5, rfl⟩
  have hw := fun d (hd : d ∈ tables_1) => atoms_spec (ws := Jvm.Cond.code x code maxLocals ret :: tables_1) hat d (List.mem_cons_of_mem _ hd)
  obtain ⟨hsets, hown0⟩ := atoms_of _ (rest_1_c_eq ▸ (show rest_1_c.before _ s = true from hrest))
  obtain ⟨i0, ei0⟩ := is_v gv3
  obtain rfl : w0 = (.int i0) := Option.some.inj ei0
  obtain ⟨i1, ei1⟩ := is_v gv5
  obtain rfl : w1 = (.int i1) := Option.some.inj ei1
  obtain ⟨i2, ei2⟩ := is_v gv7
  obtain rfl : w2 = (.int i2) := Option.some.inj ei2
  obtain ⟨i3, ei3⟩ := is_v gv9
  obtain rfl : w3 = (.int i3) := Option.some.inj ei3
  obtain ⟨i4, ei4⟩ := is_v gv11
  obtain rfl : w4 = (.int i4) := Option.some.inj ei4
  obtain ⟨i5, ei5⟩ := is_v gv12
  obtain rfl : w5 = (.int i5) := Option.some.inj ei5
  have O := Old.start s
  have hcz := own_compact hsets
  obtain ⟨nn0, hn⟩ := and_e hn
  obtain ⟨nn1, hn⟩ := and_e hn
  obtain ⟨nn2, hn⟩ := and_e hn
  obtain ⟨nn3, hn⟩ := and_e hn
  obtain ⟨nn4, hn⟩ := and_e hn
  obtain ⟨nn5, hn⟩ := and_e hn
  obtain ⟨nn6, hn⟩ := and_e hn
  obtain ⟨nn7, hn⟩ := and_e hn
  obtain ⟨nn8, hn⟩ := and_e hn
  obtain ⟨nn9, hn⟩ := and_e hn
  obtain ⟨nn10, hn⟩ := and_e hn
  obtain ⟨nn11, hn⟩ := and_e hn
  obtain ⟨nn12, hn⟩ := and_e hn
  obtain ⟨nn13, hn⟩ := and_e hn
  obtain ⟨nn14, nn15⟩ := and_e hn
  obtain ⟨en0, ea0⟩ := exa_v nn0
  obtain ⟨en1, ea1⟩ := exa_v nn1
  obtain ⟨en2, ea2⟩ := exa_v nn4
  obtain ⟨en3, ea3⟩ := exa_v nn6
  obtain ⟨en4, ea4⟩ := exa_v nn8
  obtain ⟨en5, ea5⟩ := exa_v nn10
  obtain ⟨en6, ea6⟩ := exa_v nn12
  obtain ⟨en7, ea7⟩ := exa_v nn14
  have o0 := own_ord ea0 nn2
  have o1 := own_ord ea1 nn3
  have o2 := own_ord ea2 nn5
  have o3 := own_ord ea3 nn7
  have o4 := own_ord ea4 nn9
  have o5 := own_ord ea5 nn11
  have o6 := own_ord ea6 nn13
  have o7 := own_ord ea7 nn15
  have s0 := Sta.start ea0 (Or.inr ⟨hw _ (List.mem_of_getElem? (i := 38) rfl), hw _ (List.mem_of_getElem? (i := 39) rfl)⟩)
  have s1 := Sta.start ea1 (Or.inr ⟨hw _ (List.mem_of_getElem? (i := 38) rfl), hw _ (List.mem_of_getElem? (i := 63) rfl)⟩)
  have s2 := Sta.start ea2 (Or.inr ⟨hw _ (List.mem_of_getElem? (i := 38) rfl), hw _ (List.mem_of_getElem? (i := 65) rfl)⟩)
  have s3 := Sta.start ea3 (Or.inr ⟨hw _ (List.mem_of_getElem? (i := 38) rfl), hw _ (List.mem_of_getElem? (i := 70) rfl)⟩)
  have s4 := Sta.start ea4 (Or.inr ⟨hw _ (List.mem_of_getElem? (i := 38) rfl), hw _ (List.mem_of_getElem? (i := 73) rfl)⟩)
  have s5 := Sta.start ea5 (Or.inr ⟨hw _ (List.mem_of_getElem? (i := 38) rfl), hw _ (List.mem_of_getElem? (i := 89) rfl)⟩)
  have s6 := Sta.start ea6 (Or.inr ⟨hw _ (List.mem_of_getElem? (i := 38) rfl), hw _ (List.mem_of_getElem? (i := 91) rfl)⟩)
  have s7 := Sta.start ea7 (Or.inr ⟨hw _ (List.mem_of_getElem? (i := 38) rfl), hw _ (List.mem_of_getElem? (i := 93) rfl)⟩)
  have d0 : ¬ (en0 = en1) := fun q => by rw [q, o1] at o0; cases o0
  have d2 : ¬ (en2 = en1) := fun q => by rw [q, o1] at o2; cases o2
  have d3 : ¬ (en3 = en1) := fun q => by rw [q, o1] at o3; cases o3
  have d4 : ¬ (en4 = en1) := fun q => by rw [q, o1] at o4; cases o4
  have d5 : ¬ (en5 = en1) := fun q => by rw [q, o1] at o5; cases o5
  have d6 : ¬ (en6 = en1) := fun q => by rw [q, o1] at o6; cases o6
  have d7 : ¬ (en7 = en1) := fun q => by rw [q, o1] at o7; cases o7
  have hE : EW s #[(.int i0), (.int i1), (.int i2), (.int i3), (.int i4), (.int i5)] [] := EW.nil
  have hCH : CHv s [] s.vm s.heap := fun _ q => nomatch q
  obtain ⟨n, o, h1, h2, h3, _, L, rfl, ⟨N, -, -, rfl⟩, hq⟩ := c_law (n0 := s.heap.size) ⟨hw, hcz⟩ O hE s0 s1 s2 s3 s4 s5 s6 s7 d0 d2 d3 d4 d5 d6 d7 tables_1 p e ha hc hk s m _ below hf ((Spec.applies_iff_loose hf).mp happ).1 ⟨rfl, State.Warmed39.refl s, rfl, fun _ => hCH⟩ trivial
  refine ⟨n, _, h1, h2, h3, hpost _ _ _ _ _ _ ⟨Cond.after_iff.mpr rfl, Cond.after_iff.mpr (eq_i res_at (Term.int_eval (1)) rfl), trivial⟩ ⟨hq.2.1, hq.2.2.1, hq.2.2.2.1, (hq.2.2.2.2.sift fun y hy => Or.inr (N y hy)).mono (Nat.le_of_ble_eq_true rfl) (Nat.le_of_ble_eq_true rfl)⟩⟩
theorem main_1_1 : Claimed_1_1 := comes_1 fun _ _ _ _ _ _ h hF => ⟨h.1, hF⟩
theorem main_1_2 : Claimed_1_2 := comes_1 fun _ _ _ _ _ _ h hF => ⟨h.2.1, hF⟩
end Jvm.Pilot.@@N@@
namespace Jvm.Pilot.@@N@@
open Jvm Jvm.ClassFile Sem Op Lib Jvm.Free Jvm.Stand Jvm.Pilot.@@N@@.Jvm.D
/-! MADE BY PROGRAM (witnessworld.py) out of the Statement's table words and the real class files: 23 classes; the members and pool entries that the words name. The judged class is class 1, her method 2. -/
namespace start1
open Jvm.ClassFile
def u (s : String) : CpInfo := .utf8 (stringToUtf16 s)
/-- a pool by its gaps: so many unusable entries, then the entry; so many at the end -/
def gap : Nat → List CpInfo → List CpInfo
  | 0, r => r
  | n + 1, r => .unusable :: gap n r
def poolList (es : List (Nat × CpInfo)) (last : Nat) : List CpInfo := es.foldr (fun e r => gap e.1 (e.2 :: r)) (gap last [])
def pool (es : List (Nat × CpInfo)) (last : Nat) : Array CpInfo := ⟨poolList es last⟩
def fileOf (pool : Array CpInfo) (this : Nat) (attrs : Array Attribute := #[]) (ms : Array MethodInfo := #[]) (fl : Nat := 33) (sup : Nat := 0) (ifs : Array Nat := #[]) (fds : Array FieldInfo := #[]) : ClassFile where
  minorVersion := 0
  majorVersion := 65
  constantPool := pool
  accessFlags := fl
  thisClass := this
  superClass := sup
  interfaces := ifs
  fields := fds
  methods := ms
  attributes := attrs
def plain (name : String) (sup : Option ClassId) : Class where
  name := name
  kind := .ordinary
  loader := none
  accessFlags := 33
  super := sup
  interfaces := #[]
  cf := none
  fields := #[]
  methods := #[]
  instanceTypes := #[]
  staticTypes := #[]
  resolved := #[]
  callSites := []
  init := .initialized
  statics := none
  mirror := none

def pool0 : Array CpInfo := pool [(5, u "<init>"), (0, u "()V"), (1, .class_ 10), (1, u "java/lang/Object")] 113

def k0c0 : Code := { maxStack := 0, maxLocals := 1, code := object_method_1_code, exceptionTable := #[], attributes := #[] }
def k0m0 : Method := { name := "<init>", desc := "()V", sig := { parameters := [], returnType := none }, accessFlags := 1, code := some k0c0 }
/-- java/lang/Object -/
def k0 : Class := { plain "java/lang/Object" none with
  accessFlags := 33
  interfaces := #[]
  cf := some (fileOf pool0 8 #[] #[{ accessFlags := 1, nameIndex := 5, descriptorIndex := 6, attributes := #[] }] 33 0 #[] #[])
  fields := #[]
  methods := #[k0m0]
  instanceTypes := #[]
  staticTypes := #[]
  resolved := Array.replicate 124 none
  statics := none }

def pool1 : Array CpInfo := pool [(2, .class_ 4), (1, u "java/lang/Object"), (0, u "<init>"), (0, u "()V"), (0, .fieldref 8 9), (0, .class_ 10), (0, .nameAndType 11 12), (0, u "com/example/tiny_resolver/tinyresolver/tptp/TptpLexer$Kind"), (0, u "LOWER_WORD"), (0, u "Lcom/example/tiny_resolver/tinyresolver/tptp/TptpLexer$Kind;"), (0, .fieldref 8 14), (0, .nameAndType 15 12), (0, u "UPPER_WORD"), (0, .fieldref 8 17), (0, .nameAndType 18 12), (0, u "SINGLE_QUOTED"), (0, .fieldref 8 20), (0, .nameAndType 21 12), (0, u "DISTINCT_OBJECT"), (0, .fieldref 8 23), (0, .nameAndType 24 12), (0, u "NUMBER"), (0, .fieldref 8 26), (0, .nameAndType 27 12), (0, u "DOLLAR_WORD"), (0, .fieldref 8 29), (0, .nameAndType 30 12), (0, u "OTHER"), (0, .fieldref 8 32), (0, .nameAndType 33 12), (0, u "END"), (0, .class_ 35), (0, u "java/lang/String"), (0, .methodref 34 37), (0, .nameAndType 5 38), (0, u "([C)V"), (0, .methodref 34 40), (0, .nameAndType 41 42), (0, u "valueOf"), (0, u "(C)Ljava/lang/String;"), (0, .string 44), (0, u ""), (0, .class_ 46), (0, u "com/example/tiny_resolver/tinyresolver/tptp/TptpLexer$Token"), (0, .methodref 48 49), (0, .class_ 50), (0, .nameAndType 51 52), (0, u "com/example/tiny_resolver/tinyresolver/tptp/TokenIsEndPinLaw"), (0, u "kindOf"), (0, u "(I)Lcom/example/tiny_resolver/tinyresolver/tptp/TptpLexer$Kind;"), (0, .methodref 45 54), (0, .nameAndType 5 55), (0, u "(Lcom/example/tiny_resolver/tinyresolver/tptp/TptpLexer$Kind;Ljava/lang/String;II)V"), (0, .methodref 45 57), (0, .nameAndType 58 59), (0, u "isEnd"), (0, u "()Z"), (3, u "law"), (0, u "(IIIIII)Z")] 9

def k1m0 : Method := { name := "<init>", desc := "()V", sig := { parameters := [], returnType := none }, accessFlags := 1, code := none }
def k1c1 : Code := { maxStack := 2, maxLocals := 1, code := method_2_code, exceptionTable := #[], attributes := #[] }
def k1m1 : Method := { name := "kindOf", desc := "(I)Lcom/example/tiny_resolver/tinyresolver/tptp/TptpLexer$Kind;", sig := { parameters := [.int], returnType := some (.object "com/example/tiny_resolver/tinyresolver/tptp/TptpLexer$Kind") }, accessFlags := 10, code := some k1c1 }
def k1c2 : Code := { maxStack := 6, maxLocals := 11, code := code, exceptionTable := #[], attributes := #[] }
def k1m2 : Method := { name := "law", desc := "(IIIIII)Z", sig := { parameters := [.int, .int, .int, .int, .int, .int], returnType := some .boolean }, accessFlags := 9, code := some k1c2 }
/-- com/example/tiny_resolver/tinyresolver/tptp/TokenIsEndPinLaw -/
def k1 : Class := { plain "com/example/tiny_resolver/tinyresolver/tptp/TokenIsEndPinLaw" (some 0) with
  accessFlags := 49
  interfaces := #[]
  cf := some (fileOf pool1 48 #[] #[{ accessFlags := 1, nameIndex := 5, descriptorIndex := 6, attributes := #[] }, { accessFlags := 10, nameIndex := 51, descriptorIndex := 52, attributes := #[] }, { accessFlags := 9, nameIndex := 63, descriptorIndex := 64, attributes := #[] }] 49 2 #[] #[])
  fields := #[]
  methods := #[k1m0, k1m1, k1m2]
  instanceTypes := #[]
  staticTypes := #[]
  resolved := Array.replicate 74 none
  statics := none }

def pool2 : Array CpInfo := pool [(1, .class_ 2), (0, u "java/io/Serializable"), (0, .class_ 4), (0, u "java/lang/Object")] 2

/-- java/io/Serializable -/
def k2 : Class := { plain "java/io/Serializable" (some 0) with
  accessFlags := 1537
  interfaces := #[]
  cf := some (fileOf pool2 1 #[] #[] 1537 3 #[] #[])
  fields := #[]
  methods := #[]
  instanceTypes := #[]
  staticTypes := #[]
  resolved := Array.replicate 7 none
  statics := none }

def pool3 : Array CpInfo := pool [(1, .class_ 2), (0, u "java/lang/Comparable"), (0, .class_ 4), (0, u "java/lang/Object")] 7

/-- java/lang/Comparable -/
def k3 : Class := { plain "java/lang/Comparable" (some 0) with
  accessFlags := 1537
  interfaces := #[]
  cf := some (fileOf pool3 1 #[] #[] 1537 3 #[] #[])
  fields := #[]
  methods := #[]
  instanceTypes := #[]
  staticTypes := #[]
  resolved := Array.replicate 12 none
  statics := none }

def pool4 : Array CpInfo := pool [(2, .class_ 4), (1, u "java/lang/CharSequence"), (42, .class_ 48), (0, u "java/lang/CharSequence$1CodePointIterator"), (10, .class_ 60), (0, u "java/lang/CharSequence$1CharIterator"), (5, .class_ 67), (0, u "java/lang/Object")] 63

/-- java/lang/CharSequence -/
def k4 : Class := { plain "java/lang/CharSequence" (some 0) with
  accessFlags := 1537
  interfaces := #[]
  cf := some (fileOf pool4 2 #[.nestMembers #[47, 59]] #[] 1537 66 #[] #[])
  fields := #[]
  methods := #[]
  instanceTypes := #[]
  staticTypes := #[]
  resolved := Array.replicate 131 none
  statics := none }

def pool5 : Array CpInfo := pool [(1, .class_ 2), (0, u "java/lang/constant/Constable"), (0, .class_ 4), (0, u "java/lang/Object")] 6

/-- java/lang/constant/Constable -/
def k5 : Class := { plain "java/lang/constant/Constable" (some 0) with
  accessFlags := 1537
  interfaces := #[]
  cf := some (fileOf pool5 1 #[] #[] 1537 3 #[] #[])
  fields := #[]
  methods := #[]
  instanceTypes := #[]
  staticTypes := #[]
  resolved := Array.replicate 11 none
  statics := none }

def pool6 : Array CpInfo := pool [(1, .class_ 2), (0, u "java/lang/constant/ConstantDesc"), (0, .class_ 4), (0, u "java/lang/Object")] 32

/-- java/lang/constant/ConstantDesc -/
def k6 : Class := { plain "java/lang/constant/ConstantDesc" (some 0) with
  accessFlags := 1537
  interfaces := #[]
  cf := some (fileOf pool6 1 #[] #[] 1537 3 #[] #[])
  fields := #[]
  methods := #[]
  instanceTypes := #[]
  staticTypes := #[]
  resolved := Array.replicate 37 none
  statics := none }

def pool7 : Array CpInfo := pool [(1, .methodref 2 3), (0, .class_ 4), (0, .nameAndType 5 6), (0, u "java/lang/Object"), (0, u "<init>"), (0, u "()V"), (2, .fieldref 10 11), (0, .class_ 12), (0, .nameAndType 13 14), (0, u "java/lang/String"), (0, u "value"), (0, u "[B"), (0, .fieldref 10 16), (0, .nameAndType 17 18), (0, u "coder"), (0, u "B"), (2, u "hash"), (0, u "I"), (2, u "hashIsZero"), (0, u "Z"), (0, .methodref 10 28), (0, .nameAndType 5 29), (0, u "([CIILjava/lang/Void;)V"), (8, .fieldref 10 39), (0, .nameAndType 40 26), (0, u "COMPACT_STRINGS"), (1, .class_ 44), (1, u "java/lang/StringUTF16"), (0, u "compress"), (1, .methodref 42 48), (0, .nameAndType 49 50), (0, u "coderFromArrayLen"), (0, u "([BI)B"), (2, u "toBytes"), (53, .class_ 109), (1, u "java/lang/StringLatin1"), (67, .methodref 42 178), (0, .nameAndType 45 179), (0, u "([CII)[B"), (29, .methodref 10 210), (0, .nameAndType 5 211), (0, u "([BB)V"), (157, u "(C)Z"), (205, .class_ 576), (0, u "java/lang/CharSequence"), (22, u "CASE_INSENSITIVE_ORDER"), (0, u "Ljava/util/Comparator;"), (181, u "valueOf"), (0, u "(C)Ljava/lang/String;"), (226, u "([C)V"), (4, .methodref 107 1016), (0, .nameAndType 1017 369), (0, u "canEncode"), (0, .methodref 107 1019), (0, .nameAndType 53 1020), (0, u "(C)[B"), (80, u "serialPersistentFields"), (0, u "[Ljava/io/ObjectStreamField;"), (0, .class_ 1104), (0, u "java/lang/String$CaseInsensitiveComparator"), (1, .class_ 1107), (0, u "java/io/Serializable"), (0, .class_ 1109), (0, u "java/lang/Comparable"), (0, .class_ 1111), (0, u "java/lang/constant/Constable"), (0, .class_ 1113), (0, u "java/lang/constant/ConstantDesc"), (2, u "serialVersionUID"), (0, u "J"), (3, u "REPL"), (0, u "C"), (2, u "LATIN1"), (1, u "UTF16")] 323

def k7m0 : Method := { name := "<init>", desc := "()V", sig := { parameters := [], returnType := none }, accessFlags := 1, code := none }
def k7c1 : Code := { maxStack := 5, maxLocals := 2, code := jdk_42_method_3_code, exceptionTable := #[], attributes := #[] }
def k7m1 : Method := { name := "<init>", desc := "([C)V", sig := { parameters := [(.array .char)], returnType := none }, accessFlags := 1, code := some k7c1 }
def k7c2 : Code := { maxStack := 4, maxLocals := 1, code := jdk_42_method_139_code, exceptionTable := #[], attributes := #[] }
def k7m2 : Method := { name := "valueOf", desc := "(C)Ljava/lang/String;", sig := { parameters := [.char], returnType := some (.object "java/lang/String") }, accessFlags := 9, code := some k7c2 }
def k7c3 : Code := { maxStack := 4, maxLocals := 6, code := jdk_42_method_149_code, exceptionTable := #[], attributes := #[] }
def k7m3 : Method := { name := "<init>", desc := "([CIILjava/lang/Void;)V", sig := { parameters := [(.array .char), .int, .int, (.object "java/lang/Void")], returnType := none }, accessFlags := 2, code := some k7c3 }
def k7c4 : Code := { maxStack := 2, maxLocals := 3, code := jdk_42_method_151_code, exceptionTable := #[], attributes := #[] }
def k7m4 : Method := { name := "<init>", desc := "([BB)V", sig := { parameters := [(.array .byte), .byte], returnType := none }, accessFlags := 0, code := some k7c4 }
/-- java/lang/String -/
def k7 : Class := { plain "java/lang/String" (some 0) with
  accessFlags := 49
  interfaces := #[2, 3, 4, 5, 6]
  cf := some (fileOf pool7 10 #[.nestMembers #[1103]] #[{ accessFlags := 1, nameIndex := 5, descriptorIndex := 6, attributes := #[] }, { accessFlags := 1, nameIndex := 5, descriptorIndex := 1010, attributes := #[] }, { accessFlags := 9, nameIndex := 782, descriptorIndex := 783, attributes := #[] }, { accessFlags := 2, nameIndex := 5, descriptorIndex := 29, attributes := #[] }, { accessFlags := 0, nameIndex := 5, descriptorIndex := 211, attributes := #[] }] 49 2 #[1106, 1108, 575, 1110, 1112] #[{ accessFlags := 18, nameIndex := 13, descriptorIndex := 14, attributes := #[] }, { accessFlags := 18, nameIndex := 17, descriptorIndex := 18, attributes := #[] }, { accessFlags := 2, nameIndex := 21, descriptorIndex := 22, attributes := #[] }, { accessFlags := 2, nameIndex := 25, descriptorIndex := 26, attributes := #[] }, { accessFlags := 26, nameIndex := 1116, descriptorIndex := 1117, attributes := #[] }, { accessFlags := 24, nameIndex := 40, descriptorIndex := 26, attributes := #[] }, { accessFlags := 26, nameIndex := 1101, descriptorIndex := 1102, attributes := #[] }, { accessFlags := 26, nameIndex := 1121, descriptorIndex := 1122, attributes := #[] }, { accessFlags := 25, nameIndex := 599, descriptorIndex := 600, attributes := #[] }, { accessFlags := 24, nameIndex := 1125, descriptorIndex := 18, attributes := #[] }, { accessFlags := 24, nameIndex := 1127, descriptorIndex := 18, attributes := #[] }])
  fields := #[{ name := "value", type := (.array .byte), accessFlags := 18, slot := 0, constantValue := 0 }, { name := "coder", type := .byte, accessFlags := 18, slot := 1, constantValue := 0 }, { name := "hash", type := .int, accessFlags := 2, slot := 2, constantValue := 0 }, { name := "hashIsZero", type := .boolean, accessFlags := 2, slot := 3, constantValue := 0 }, { name := "serialVersionUID", type := .long, accessFlags := 26, slot := 0, constantValue := 0 }, { name := "COMPACT_STRINGS", type := .boolean, accessFlags := 24, slot := 1, constantValue := 0 }, { name := "serialPersistentFields", type := (.array (.object "java/io/ObjectStreamField")), accessFlags := 26, slot := 2, constantValue := 0 }, { name := "REPL", type := .char, accessFlags := 26, slot := 3, constantValue := 0 }, { name := "CASE_INSENSITIVE_ORDER", type := (.object "java/util/Comparator"), accessFlags := 25, slot := 4, constantValue := 0 }, { name := "LATIN1", type := .byte, accessFlags := 24, slot := 5, constantValue := 0 }, { name := "UTF16", type := .byte, accessFlags := 24, slot := 6, constantValue := 0 }]
  methods := #[k7m0, k7m1, k7m2, k7m3, k7m4]
  instanceTypes := #[(.array .byte), .byte, .int, .boolean]
  staticTypes := #[.long, .boolean, (.array (.object "java/io/ObjectStreamField")), .char, (.object "java/util/Comparator"), .byte, .byte]
  resolved := Array.replicate 1451 none
  statics := some 0 }

def pool8 : Array CpInfo := pool [(6, .class_ 8), (1, u "java/lang/Object"), (0, u "<init>"), (0, u "()V"), (1, .class_ 14), (1, u "java/lang/StringUTF16"), (31, u "$assertionsDisabled"), (0, u "Z"), (13, u "HI_BYTE_SHIFT"), (0, u "I"), (2, u "LO_BYTE_SHIFT"), (49, .methodref 12 116), (0, .nameAndType 117 118), (0, u "compress"), (0, u "([CI[BII)I"), (3, u "([CII)[B"), (138, u "coderFromArrayLen"), (0, u "([BI)B"), (106, .class_ 371), (1, u "java/lang/StringUTF16$LinesSpliterator"), (58, u "MAX_LENGTH"), (196, .class_ 628), (0, u "java/lang/StringUTF16$CodePointsSpliterator"), (0, .class_ 630), (0, u "java/lang/StringUTF16$CharsSpliterator")] 4

def k8m0 : Method := { name := "<init>", desc := "()V", sig := { parameters := [], returnType := none }, accessFlags := 0, code := none }
def k8c1 : Code := { maxStack := 2, maxLocals := 2, code := jdk_52_method_15_code, exceptionTable := #[], attributes := #[] }
def k8m1 : Method := { name := "coderFromArrayLen", desc := "([BI)B", sig := { parameters := [(.array .byte), .int], returnType := some .byte }, accessFlags := 8, code := some k8c1 }
def k8c2 : Code := { maxStack := 5, maxLocals := 6, code := jdk_52_method_16_code, exceptionTable := #[], attributes := #[] }
def k8m2 : Method := { name := "compress", desc := "([CII)[B", sig := { parameters := [(.array .char), .int, .int], returnType := some (.array .byte) }, accessFlags := 9, code := some k8c2 }
def k8c3 : Code := { maxStack := 3, maxLocals := 7, code := jdk_52_method_21_code, exceptionTable := #[], attributes := #[] }
def k8m3 : Method := { name := "compress", desc := "([CI[BII)I", sig := { parameters := [(.array .char), .int, (.array .byte), .int, .int], returnType := some .int }, accessFlags := 9, code := some k8c3 }
/-- java/lang/StringUTF16 -/
def k8 : Class := { plain "java/lang/StringUTF16" (some 0) with
  accessFlags := 48
  interfaces := #[]
  cf := some (fileOf pool8 12 #[.nestMembers #[627, 629, 369]] #[{ accessFlags := 0, nameIndex := 9, descriptorIndex := 10, attributes := #[] }, { accessFlags := 8, nameIndex := 261, descriptorIndex := 262, attributes := #[] }, { accessFlags := 9, nameIndex := 117, descriptorIndex := 122, attributes := #[] }, { accessFlags := 9, nameIndex := 117, descriptorIndex := 118, attributes := #[] }] 48 6 #[] #[{ accessFlags := 26, nameIndex := 61, descriptorIndex := 62, attributes := #[] }, { accessFlags := 26, nameIndex := 65, descriptorIndex := 62, attributes := #[] }, { accessFlags := 24, nameIndex := 430, descriptorIndex := 62, attributes := #[] }, { accessFlags := 4120, nameIndex := 46, descriptorIndex := 47, attributes := #[] }])
  fields := #[{ name := "HI_BYTE_SHIFT", type := .int, accessFlags := 26, slot := 0, constantValue := 0 }, { name := "LO_BYTE_SHIFT", type := .int, accessFlags := 26, slot := 1, constantValue := 0 }, { name := "MAX_LENGTH", type := .int, accessFlags := 24, slot := 2, constantValue := 0 }, { name := "$assertionsDisabled", type := .boolean, accessFlags := 4120, slot := 3, constantValue := 0 }]
  methods := #[k8m0, k8m1, k8m2, k8m3]
  instanceTypes := #[]
  staticTypes := #[.int, .int, .int, .boolean]
  resolved := Array.replicate 635 none
  statics := none }

def pool9 : Array CpInfo := pool [(1, .methodref 2 3), (0, .class_ 4), (0, .nameAndType 5 6), (0, u "java/lang/Object"), (0, u "<init>"), (0, u "()V"), (0, .class_ 8), (0, u "java/lang/Record")] 13

def k9c0 : Code := { maxStack := 1, maxLocals := 1, code := jdk_30_method_1_code, exceptionTable := #[], attributes := #[] }
def k9m0 : Method := { name := "<init>", desc := "()V", sig := { parameters := [], returnType := none }, accessFlags := 4, code := some k9c0 }
/-- java/lang/Record -/
def k9 : Class := { plain "java/lang/Record" (some 0) with
  accessFlags := 1057
  interfaces := #[]
  cf := some (fileOf pool9 7 #[] #[{ accessFlags := 4, nameIndex := 5, descriptorIndex := 6, attributes := #[] }] 1057 2 #[] #[])
  fields := #[]
  methods := #[k9m0]
  instanceTypes := #[]
  staticTypes := #[]
  resolved := Array.replicate 22 none
  statics := none }

def pool10 : Array CpInfo := pool [(1, .methodref 2 3), (0, .class_ 4), (0, .nameAndType 5 6), (0, u "java/lang/Record"), (0, u "<init>"), (0, u "()V"), (0, .fieldref 8 9), (0, .class_ 10), (0, .nameAndType 11 12), (0, u "com/example/tiny_resolver/tinyresolver/tptp/TptpLexer$Token"), (0, u "kind"), (0, u "Lcom/example/tiny_resolver/tinyresolver/tptp/TptpLexer$Kind;"), (0, .fieldref 8 14), (0, .nameAndType 15 16), (0, u "text"), (0, u "Ljava/lang/String;"), (0, .fieldref 8 18), (0, .nameAndType 19 20), (0, u "line"), (0, u "I"), (0, .fieldref 8 22), (0, .nameAndType 23 20), (0, u "column"), (0, .fieldref 25 26), (0, .class_ 27), (0, .nameAndType 28 12), (0, u "com/example/tiny_resolver/tinyresolver/tptp/TptpLexer$Kind"), (0, u "END"), (12, u "(Lcom/example/tiny_resolver/tinyresolver/tptp/TptpLexer$Kind;Ljava/lang/String;II)V"), (3, u "isEnd"), (0, u "()Z"), (8, .class_ 56), (0, u "com/example/tiny_resolver/tinyresolver/tptp/TptpLexer")] 23

def k10c0 : Code := { maxStack := 2, maxLocals := 5, code := prog_69_method_1_code, exceptionTable := #[], attributes := #[] }
def k10m0 : Method := { name := "<init>", desc := "(Lcom/example/tiny_resolver/tinyresolver/tptp/TptpLexer$Kind;Ljava/lang/String;II)V", sig := { parameters := [(.object "com/example/tiny_resolver/tinyresolver/tptp/TptpLexer$Kind"), (.object "java/lang/String"), .int, .int], returnType := none }, accessFlags := 0, code := some k10c0 }
def k10c1 : Code := { maxStack := 2, maxLocals := 1, code := prog_69_method_2_code, exceptionTable := #[], attributes := #[] }
def k10m1 : Method := { name := "isEnd", desc := "()Z", sig := { parameters := [], returnType := some .boolean }, accessFlags := 0, code := some k10c1 }
/-- com/example/tiny_resolver/tinyresolver/tptp/TptpLexer$Token -/
def k10 : Class := { plain "com/example/tiny_resolver/tinyresolver/tptp/TptpLexer$Token" (some 9) with
  accessFlags := 48
  interfaces := #[]
  cf := some (fileOf pool10 8 #[.nestHost 55] #[{ accessFlags := 0, nameIndex := 5, descriptorIndex := 41, attributes := #[] }, { accessFlags := 0, nameIndex := 45, descriptorIndex := 46, attributes := #[] }] 48 2 #[] #[{ accessFlags := 18, nameIndex := 11, descriptorIndex := 12, attributes := #[] }, { accessFlags := 18, nameIndex := 15, descriptorIndex := 16, attributes := #[] }, { accessFlags := 18, nameIndex := 19, descriptorIndex := 20, attributes := #[] }, { accessFlags := 18, nameIndex := 23, descriptorIndex := 20, attributes := #[] }])
  fields := #[{ name := "kind", type := (.object "com/example/tiny_resolver/tinyresolver/tptp/TptpLexer$Kind"), accessFlags := 18, slot := 0, constantValue := 0 }, { name := "text", type := (.object "java/lang/String"), accessFlags := 18, slot := 1, constantValue := 0 }, { name := "line", type := .int, accessFlags := 18, slot := 2, constantValue := 0 }, { name := "column", type := .int, accessFlags := 18, slot := 3, constantValue := 0 }]
  methods := #[k10m0, k10m1]
  instanceTypes := #[(.object "com/example/tiny_resolver/tinyresolver/tptp/TptpLexer$Kind"), (.object "java/lang/String"), .int, .int]
  staticTypes := #[]
  resolved := Array.replicate 80 none
  statics := none }

def pool11 : Array CpInfo := pool [(2, .class_ 4), (1, u "java/lang/Enum"), (0, u "name"), (0, u "Ljava/lang/String;"), (2, u "ordinal"), (0, u "I"), (1, .class_ 14), (1, u "java/lang/Object"), (4, u "hash"), (86, .class_ 108), (1, u "java/lang/Enum$EnumDesc"), (2, .class_ 112), (0, u "java/lang/constant/Constable"), (0, .class_ 114), (0, u "java/lang/Comparable"), (0, .class_ 116), (0, u "java/io/Serializable")] 87

/-- java/lang/Enum -/
def k11 : Class := { plain "java/lang/Enum" (some 0) with
  accessFlags := 1057
  interfaces := #[5, 3, 2]
  cf := some (fileOf pool11 2 #[.nestMembers #[106]] #[] 1057 12 #[111, 113, 115] #[{ accessFlags := 18, nameIndex := 5, descriptorIndex := 6, attributes := #[] }, { accessFlags := 18, nameIndex := 9, descriptorIndex := 10, attributes := #[] }, { accessFlags := 2, nameIndex := 19, descriptorIndex := 10, attributes := #[] }])
  fields := #[{ name := "name", type := (.object "java/lang/String"), accessFlags := 18, slot := 0, constantValue := 0 }, { name := "ordinal", type := .int, accessFlags := 18, slot := 1, constantValue := 0 }, { name := "hash", type := .int, accessFlags := 2, slot := 2, constantValue := 0 }]
  methods := #[]
  instanceTypes := #[(.object "java/lang/String"), .int, .int]
  staticTypes := #[]
  resolved := Array.replicate 204 none
  statics := none }

def pool12 : Array CpInfo := pool [(1, .class_ 2), (0, u "com/example/tiny_resolver/tinyresolver/tptp/TptpLexer$Kind"), (2, u "LOWER_WORD"), (0, u "Lcom/example/tiny_resolver/tinyresolver/tptp/TptpLexer$Kind;"), (2, u "UPPER_WORD"), (2, u "SINGLE_QUOTED"), (2, u "DISTINCT_OBJECT"), (2, u "NUMBER"), (2, u "DOLLAR_WORD"), (2, u "OTHER"), (2, u "END"), (2, u "$VALUES"), (0, u "[Lcom/example/tiny_resolver/tinyresolver/tptp/TptpLexer$Kind;"), (6, .class_ 40), (1, u "java/lang/Enum"), (31, .class_ 73), (0, u "com/example/tiny_resolver/tinyresolver/tptp/TptpLexer")] 2

/-- com/example/tiny_resolver/tinyresolver/tptp/TptpLexer$Kind -/
def k12 : Class := { plain "com/example/tiny_resolver/tinyresolver/tptp/TptpLexer$Kind" (some 11) with
  accessFlags := 16432
  interfaces := #[]
  cf := some (fileOf pool12 1 #[.nestHost 72] #[] 16432 38 #[] #[{ accessFlags := 16409, nameIndex := 5, descriptorIndex := 6, attributes := #[] }, { accessFlags := 16409, nameIndex := 9, descriptorIndex := 6, attributes := #[] }, { accessFlags := 16409, nameIndex := 12, descriptorIndex := 6, attributes := #[] }, { accessFlags := 16409, nameIndex := 15, descriptorIndex := 6, attributes := #[] }, { accessFlags := 16409, nameIndex := 18, descriptorIndex := 6, attributes := #[] }, { accessFlags := 16409, nameIndex := 21, descriptorIndex := 6, attributes := #[] }, { accessFlags := 16409, nameIndex := 24, descriptorIndex := 6, attributes := #[] }, { accessFlags := 16409, nameIndex := 27, descriptorIndex := 6, attributes := #[] }, { accessFlags := 4122, nameIndex := 30, descriptorIndex := 31, attributes := #[] }])
  fields := #[{ name := "LOWER_WORD", type := (.object "com/example/tiny_resolver/tinyresolver/tptp/TptpLexer$Kind"), accessFlags := 16409, slot := 0, constantValue := 0 }, { name := "UPPER_WORD", type := (.object "com/example/tiny_resolver/tinyresolver/tptp/TptpLexer$Kind"), accessFlags := 16409, slot := 1, constantValue := 0 }, { name := "SINGLE_QUOTED", type := (.object "com/example/tiny_resolver/tinyresolver/tptp/TptpLexer$Kind"), accessFlags := 16409, slot := 2, constantValue := 0 }, { name := "DISTINCT_OBJECT", type := (.object "com/example/tiny_resolver/tinyresolver/tptp/TptpLexer$Kind"), accessFlags := 16409, slot := 3, constantValue := 0 }, { name := "NUMBER", type := (.object "com/example/tiny_resolver/tinyresolver/tptp/TptpLexer$Kind"), accessFlags := 16409, slot := 4, constantValue := 0 }, { name := "DOLLAR_WORD", type := (.object "com/example/tiny_resolver/tinyresolver/tptp/TptpLexer$Kind"), accessFlags := 16409, slot := 5, constantValue := 0 }, { name := "OTHER", type := (.object "com/example/tiny_resolver/tinyresolver/tptp/TptpLexer$Kind"), accessFlags := 16409, slot := 6, constantValue := 0 }, { name := "END", type := (.object "com/example/tiny_resolver/tinyresolver/tptp/TptpLexer$Kind"), accessFlags := 16409, slot := 7, constantValue := 0 }, { name := "$VALUES", type := (.array (.object "com/example/tiny_resolver/tinyresolver/tptp/TptpLexer$Kind")), accessFlags := 4122, slot := 8, constantValue := 0 }]
  methods := #[]
  instanceTypes := #[(.object "java/lang/String"), .int, .int]
  staticTypes := #[(.object "com/example/tiny_resolver/tinyresolver/tptp/TptpLexer$Kind"), (.object "com/example/tiny_resolver/tinyresolver/tptp/TptpLexer$Kind"), (.object "com/example/tiny_resolver/tinyresolver/tptp/TptpLexer$Kind"), (.object "com/example/tiny_resolver/tinyresolver/tptp/TptpLexer$Kind"), (.object "com/example/tiny_resolver/tinyresolver/tptp/TptpLexer$Kind"), (.object "com/example/tiny_resolver/tinyresolver/tptp/TptpLexer$Kind"), (.object "com/example/tiny_resolver/tinyresolver/tptp/TptpLexer$Kind"), (.object "com/example/tiny_resolver/tinyresolver/tptp/TptpLexer$Kind"), (.array (.object "com/example/tiny_resolver/tinyresolver/tptp/TptpLexer$Kind"))]
  resolved := Array.replicate 76 none
  statics := some 1 }

def pool13 : Array CpInfo := pool [(4, .class_ 6), (1, u "java/lang/Object"), (0, u "<init>"), (0, u "()V"), (5, .class_ 16), (1, u "java/lang/StringLatin1"), (73, u "canEncode"), (14, u "(C)Z"), (15, u "$assertionsDisabled"), (0, u "Z"), (98, .class_ 223), (1, u "java/lang/StringLatin1$LinesSpliterator"), (156, u "toBytes"), (1, u "(C)[B"), (7, .class_ 391), (0, u "java/lang/StringLatin1$CharsSpliterator")] 3

def k13m0 : Method := { name := "<init>", desc := "()V", sig := { parameters := [], returnType := none }, accessFlags := 0, code := none }
def k13c1 : Code := { maxStack := 2, maxLocals := 1, code := jdk_43_method_3_code, exceptionTable := #[], attributes := #[] }
def k13m1 : Method := { name := "canEncode", desc := "(C)Z", sig := { parameters := [.char], returnType := some .boolean }, accessFlags := 9, code := some k13c1 }
def k13c2 : Code := { maxStack := 4, maxLocals := 1, code := jdk_43_method_46_code, exceptionTable := #[], attributes := #[] }
def k13m2 : Method := { name := "toBytes", desc := "(C)[B", sig := { parameters := [.char], returnType := some (.array .byte) }, accessFlags := 9, code := some k13c2 }
/-- java/lang/StringLatin1 -/
def k13 : Class := { plain "java/lang/StringLatin1" (some 0) with
  accessFlags := 48
  interfaces := #[]
  cf := some (fileOf pool13 14 #[.nestMembers #[390, 221]] #[{ accessFlags := 0, nameIndex := 7, descriptorIndex := 8, attributes := #[] }, { accessFlags := 9, nameIndex := 90, descriptorIndex := 105, attributes := #[] }, { accessFlags := 9, nameIndex := 380, descriptorIndex := 382, attributes := #[] }] 48 4 #[] #[{ accessFlags := 4120, nameIndex := 121, descriptorIndex := 122, attributes := #[] }])
  fields := #[{ name := "$assertionsDisabled", type := .boolean, accessFlags := 4120, slot := 0, constantValue := 0 }]
  methods := #[k13m0, k13m1, k13m2]
  instanceTypes := #[]
  staticTypes := #[.boolean]
  resolved := Array.replicate 395 none
  statics := none }

def pool14 : Array CpInfo := pool [(2, .class_ 4), (1, u "java/lang/Object"), (0, u "<init>"), (0, u "()V"), (17, .class_ 26), (1, u "jdk/internal/util/Preconditions"), (28, .class_ 56), (0, u "jdk/internal/util/Preconditions$4"), (57, .class_ 115), (0, u "jdk/internal/util/Preconditions$1"), (7, u "SIOOBE_FORMATTER"), (0, u "Ljava/util/function/BiFunction;"), (0, .class_ 126), (0, u "jdk/internal/util/Preconditions$2"), (3, u "AIOOBE_FORMATTER"), (0, .class_ 132), (0, u "jdk/internal/util/Preconditions$3"), (3, u "IOOBE_FORMATTER")] 57

def k14m0 : Method := { name := "<init>", desc := "()V", sig := { parameters := [], returnType := none }, accessFlags := 1, code := none }
/-- jdk/internal/util/Preconditions -/
def k14 : Class := { plain "jdk/internal/util/Preconditions" (some 0) with
  accessFlags := 33
  interfaces := #[]
  cf := some (fileOf pool14 24 #[.nestMembers #[55, 131, 125, 114]] #[{ accessFlags := 1, nameIndex := 5, descriptorIndex := 6, attributes := #[] }] 33 2 #[] #[{ accessFlags := 25, nameIndex := 123, descriptorIndex := 124, attributes := #[] }, { accessFlags := 25, nameIndex := 130, descriptorIndex := 124, attributes := #[] }, { accessFlags := 25, nameIndex := 136, descriptorIndex := 124, attributes := #[] }])
  fields := #[{ name := "SIOOBE_FORMATTER", type := (.object "java/util/function/BiFunction"), accessFlags := 25, slot := 0, constantValue := 0 }, { name := "AIOOBE_FORMATTER", type := (.object "java/util/function/BiFunction"), accessFlags := 25, slot := 1, constantValue := 0 }, { name := "IOOBE_FORMATTER", type := (.object "java/util/function/BiFunction"), accessFlags := 25, slot := 2, constantValue := 0 }]
  methods := #[k14m0]
  instanceTypes := #[]
  staticTypes := #[(.object "java/util/function/BiFunction"), (.object "java/util/function/BiFunction"), (.object "java/util/function/BiFunction")]
  resolved := Array.replicate 194 none
  statics := some 2 }

def pool15 : Array CpInfo := pool [(9, u "<init>"), (6, .class_ 18), (1, u "java/lang/Object"), (0, u "()V"), (1, .class_ 23), (1, u "jdk/internal/util/ArraysSupport"), (0, u "LOG2_ARRAY_LONG_INDEX_SCALE"), (0, u "I"), (2, u "U"), (0, u "Ljdk/internal/misc/Unsafe;"), (8, u "BIG_ENDIAN"), (0, u "Z"), (8, u "LOG2_BYTE_BIT_SIZE"), (4, u "LOG2_ARRAY_INT_INDEX_SCALE"), (54, u "JLA"), (0, u "Ljdk/internal/access/JavaLangAccess;"), (11, u "LOG2_ARRAY_BOOLEAN_INDEX_SCALE"), (9, u "LOG2_ARRAY_BYTE_INDEX_SCALE"), (5, u "LOG2_ARRAY_CHAR_INDEX_SCALE"), (5, u "LOG2_ARRAY_SHORT_INDEX_SCALE"), (18, u "LOG2_ARRAY_FLOAT_INDEX_SCALE"), (24, u "LOG2_ARRAY_DOUBLE_INDEX_SCALE"), (89, u "T_BOOLEAN"), (2, u "T_CHAR"), (1, u "T_FLOAT"), (1, u "T_DOUBLE"), (1, u "T_BYTE"), (1, u "T_SHORT"), (1, u "T_INT"), (1, u "T_LONG"), (1, u "SOFT_MAX_ARRAY_LENGTH")] 83

def k15m0 : Method := { name := "<init>", desc := "()V", sig := { parameters := [], returnType := none }, accessFlags := 2, code := none }
/-- jdk/internal/util/ArraysSupport -/
def k15 : Class := { plain "jdk/internal/util/ArraysSupport" (some 0) with
  accessFlags := 33
  interfaces := #[]
  cf := some (fileOf pool15 21 #[] #[{ accessFlags := 2, nameIndex := 9, descriptorIndex := 19, attributes := #[] }] 33 16 #[] #[{ accessFlags := 24, nameIndex := 28, descriptorIndex := 29, attributes := #[] }, { accessFlags := 26, nameIndex := 38, descriptorIndex := 39, attributes := #[] }, { accessFlags := 25, nameIndex := 121, descriptorIndex := 25, attributes := #[] }, { accessFlags := 25, nameIndex := 131, descriptorIndex := 25, attributes := #[] }, { accessFlags := 25, nameIndex := 137, descriptorIndex := 25, attributes := #[] }, { accessFlags := 25, nameIndex := 143, descriptorIndex := 25, attributes := #[] }, { accessFlags := 25, nameIndex := 53, descriptorIndex := 25, attributes := #[] }, { accessFlags := 25, nameIndex := 24, descriptorIndex := 25, attributes := #[] }, { accessFlags := 25, nameIndex := 162, descriptorIndex := 25, attributes := #[] }, { accessFlags := 25, nameIndex := 187, descriptorIndex := 25, attributes := #[] }, { accessFlags := 26, nameIndex := 48, descriptorIndex := 25, attributes := #[] }, { accessFlags := 25, nameIndex := 277, descriptorIndex := 25, attributes := #[] }, { accessFlags := 25, nameIndex := 280, descriptorIndex := 25, attributes := #[] }, { accessFlags := 25, nameIndex := 282, descriptorIndex := 25, attributes := #[] }, { accessFlags := 25, nameIndex := 284, descriptorIndex := 25, attributes := #[] }, { accessFlags := 25, nameIndex := 286, descriptorIndex := 25, attributes := #[] }, { accessFlags := 25, nameIndex := 288, descriptorIndex := 25, attributes := #[] }, { accessFlags := 25, nameIndex := 290, descriptorIndex := 25, attributes := #[] }, { accessFlags := 25, nameIndex := 292, descriptorIndex := 25, attributes := #[] }, { accessFlags := 26, nameIndex := 108, descriptorIndex := 109, attributes := #[] }, { accessFlags := 25, nameIndex := 294, descriptorIndex := 25, attributes := #[] }])
  fields := #[{ name := "U", type := (.object "jdk/internal/misc/Unsafe"), accessFlags := 24, slot := 0, constantValue := 0 }, { name := "BIG_ENDIAN", type := .boolean, accessFlags := 26, slot := 1, constantValue := 0 }, { name := "LOG2_ARRAY_BOOLEAN_INDEX_SCALE", type := .int, accessFlags := 25, slot := 2, constantValue := 0 }, { name := "LOG2_ARRAY_BYTE_INDEX_SCALE", type := .int, accessFlags := 25, slot := 3, constantValue := 0 }, { name := "LOG2_ARRAY_CHAR_INDEX_SCALE", type := .int, accessFlags := 25, slot := 4, constantValue := 0 }, { name := "LOG2_ARRAY_SHORT_INDEX_SCALE", type := .int, accessFlags := 25, slot := 5, constantValue := 0 }, { name := "LOG2_ARRAY_INT_INDEX_SCALE", type := .int, accessFlags := 25, slot := 6, constantValue := 0 }, { name := "LOG2_ARRAY_LONG_INDEX_SCALE", type := .int, accessFlags := 25, slot := 7, constantValue := 0 }, { name := "LOG2_ARRAY_FLOAT_INDEX_SCALE", type := .int, accessFlags := 25, slot := 8, constantValue := 0 }, { name := "LOG2_ARRAY_DOUBLE_INDEX_SCALE", type := .int, accessFlags := 25, slot := 9, constantValue := 0 }, { name := "LOG2_BYTE_BIT_SIZE", type := .int, accessFlags := 26, slot := 10, constantValue := 0 }, { name := "T_BOOLEAN", type := .int, accessFlags := 25, slot := 11, constantValue := 0 }, { name := "T_CHAR", type := .int, accessFlags := 25, slot := 12, constantValue := 0 }, { name := "T_FLOAT", type := .int, accessFlags := 25, slot := 13, constantValue := 0 }, { name := "T_DOUBLE", type := .int, accessFlags := 25, slot := 14, constantValue := 0 }, { name := "T_BYTE", type := .int, accessFlags := 25, slot := 15, constantValue := 0 }, { name := "T_SHORT", type := .int, accessFlags := 25, slot := 16, constantValue := 0 }, { name := "T_INT", type := .int, accessFlags := 25, slot := 17, constantValue := 0 }, { name := "T_LONG", type := .int, accessFlags := 25, slot := 18, constantValue := 0 }, { name := "JLA", type := (.object "jdk/internal/access/JavaLangAccess"), accessFlags := 26, slot := 19, constantValue := 0 }, { name := "SOFT_MAX_ARRAY_LENGTH", type := .int, accessFlags := 25, slot := 20, constantValue := 0 }]
  methods := #[k15m0]
  instanceTypes := #[]
  staticTypes := #[(.object "jdk/internal/misc/Unsafe"), .boolean, .int, .int, .int, .int, .int, .int, .int, .int, .int, .int, .int, .int, .int, .int, .int, .int, .int, (.object "jdk/internal/access/JavaLangAccess"), .int]
  resolved := Array.replicate 378 none
  statics := none }

def pool16 : Array CpInfo := pool [(1, u "java/lang/Cloneable"), (0, .class_ 1), (0, u "java/lang/Object"), (0, .class_ 3)] 3

/-- java/lang/Cloneable -/
def k16 : Class := { plain "java/lang/Cloneable" (some 0) with
  accessFlags := 1537
  interfaces := #[]
  cf := some (fileOf pool16 2 #[] #[] 1537 4 #[] #[])
  fields := #[]
  methods := #[]
  instanceTypes := #[]
  staticTypes := #[]
  resolved := Array.replicate 8 none
  statics := none }

/-- the primitive byte -/
def k17 : Class := { plain "byte" none with kind := .primitive 'B', accessFlags := 0x411 }
/-- [B -/
def k18 : Class := { plain "[B" (some 0) with kind := .array 17 .byte, interfaces := #[16, 2], accessFlags := 1041 }

/-- the primitive char -/
def k19 : Class := { plain "char" none with kind := .primitive 'C', accessFlags := 0x411 }
/-- [C -/
def k20 : Class := { plain "[C" (some 0) with kind := .array 19 .char, interfaces := #[16, 2], accessFlags := 1041 }

/-- the primitive int -/
def k21 : Class := { plain "int" none with kind := .primitive 'I', accessFlags := 0x411 }
/-- [I -/
def k22 : Class := { plain "[I" (some 0) with kind := .array 21 .int, interfaces := #[16, 2], accessFlags := 1041 }

def heap : Heap := #[{ cls := 7, slots := #[.long 0, .int 1, .null, .int 0, .null, .int 0, .int 0], vm := .statics 7 },
  { cls := 12, slots := #[.ref 3, .ref 4, .ref 5, .ref 6, .ref 7, .ref 8, .ref 9, .ref 10, .null], vm := .statics 12 },
  { cls := 14, slots := #[.null, .null, .null], vm := .statics 14 },
  { cls := 12, slots := #[.null, .int 0, .int 0], vm := .none },
  { cls := 12, slots := #[.null, .int 1, .int 0], vm := .none },
  { cls := 12, slots := #[.null, .int 2, .int 0], vm := .none },
  { cls := 12, slots := #[.null, .int 3, .int 0], vm := .none },
  { cls := 12, slots := #[.null, .int 4, .int 0], vm := .none },
  { cls := 12, slots := #[.null, .int 5, .int 0], vm := .none },
  { cls := 12, slots := #[.null, .int 6, .int 0], vm := .none },
  { cls := 12, slots := #[.null, .int 7, .int 0], vm := .none }]
def classes : Array Class := #[k0, k1, k2, k3, k4, k5, k6, k7, k8, k9, k10, k11, k12, k13, k14, k15, k16, k17, k18, k19, k20, k21, k22]
def interned : List (Array UInt16 × Addr) := []
def slotsUsed : Nat := 43
def theMethod : MethodId := ⟨1, 2⟩
def args0 : Array Value := #[.int 5, .int 6, .int 7, .int 8, .int 9, .int 10]
def aboutOver (below : List Frame) : State where
  vm := { classes := classes, interned := interned.toArray }
  heap := heap
  slotsUsed := slotsUsed
  threads := #[{ frames := .invoking theMethod args0 :: below }]
def below0 : List Frame := [.native { method := ⟨0, 0⟩, args := #[] }]
def about1 : State := aboutOver below0
def p0 : Program := .bare "" "" ""
def e0 : Env := launch0.env 0 0 0
theorem w_frames : about1.frames = Frame.invoking theMethod args0 :: below0 := rfl
set_option maxRecDepth 65536 in
theorem w_args : argsFit about1.vm theMethod args0 = true := by decide +kernel
set_option maxRecDepth 65536 in
theorem w_heap : heapFits about1 = true := by decide +kernel
set_option maxRecDepth 65536 in
theorem w_runnable : about1.curStatus? = some .runnable := by decide +kernel
set_option maxRecDepth 65536 in
theorem w_alone : about1.alone = true := by decide +kernel
set_option maxRecDepth 65536 in
theorem w_named : about1.methodNamed? x = some theMethod := by decide +kernel
set_option maxRecDepth 65536 in
theorem w_hears : about1.hears theMethod below0 = true := by decide +kernel
set_option maxRecDepth 65536 in
theorem w_ripe : about1.ripe theMethod args0 below0 = true := by decide +kernel
theorem w_running : about1.status = .running := rfl
set_option maxRecDepth 65536 in
theorem w_room : about1.hasRoom e0.platform room_1 = true :=
  launch0.hasRoom_least _ room_1 (by decide +kernel) (by decide +kernel) (by decide +kernel) (by decide +kernel) (by decide +kernel) (by decide +kernel)
theorem allAtoms_all (ts : List Jvm.Cond) (a : Array Jvm.Value) (st : Jvm.State) : (allAtoms ts).before a st = ts.all (fun c => c.before a st) := by
  induction ts with
  | nil => rfl
  | cons c t ih =>
    show (Jvm.Cond.and c (allAtoms t)).before a st = _
    rw [Jvm.Cond.before_and, ih, List.all_cons]
def words1 : List Jvm.Cond := Jvm.Cond.code x code maxLocals ret :: tables_1
/-- a 'code' word, met by the world's own term for the bytes: nothing is compared byte by byte -/
theorem code_word {y : MethodName} {bytes : ByteArray} {mx : Nat} {rt : Option FieldType} {a : Array Value} {s : State} {m : MethodId} {meth : Method} {c : Code} (h1 : s.methodNamed? y = some m) (h2 : s.vm.method? m = some meth) (h3 : meth.code = some c) (h4 : c.code = bytes)
    (h5 : (c.maxLocals == mx && c.exceptionTable.isEmpty && decide (c.maxStack ≤ mostOperands) && decide (meth.sig.returnType = rt) && !meth.locks && decide (parseMethodDescriptor y.desc = some meth.sig)) = true) : (Jvm.Cond.code y bytes mx rt).before a s = true := by
  simp only [Bool.and_eq_true, beq_iff_eq, Bool.not_eq_true', decide_eq_true_eq] at h5
  obtain ⟨⟨⟨⟨⟨g1, g2⟩, g3⟩, g4⟩, g5⟩, g6⟩ := h5
  simp [Cond.before, Cond.holds, Cond.value, h1, h2, h3, h4, g1, g2, g3, g4, g5, g6]
def isCode : Jvm.Cond → Bool
  | .code _ _ _ _ => true
  | _ => false
theorem all_split {L : List Jvm.Cond} {P : Jvm.Cond → Bool} (h1 : L.all (fun c => isCode c || P c) = true) (h2 : ∀ c ∈ L.filter isCode, P c = true) : L.all P = true := by
  refine List.all_eq_true.mpr fun c hc => ?_
  have h := List.all_eq_true.mp h1 c hc
  rcases Bool.eq_false_or_eq_true (isCode c) with hi | hi
  · exact h2 c (List.mem_filter.mpr ⟨hc, hi⟩)
  · simpa [hi] using h
set_option maxRecDepth 65536 in
theorem w_c0 : (Jvm.Cond.code x code maxLocals ret).before args0 about1 = true := code_word (m := ⟨1, 2⟩) (meth := k1m2) (c := k1c2) (by decide +kernel) rfl rfl rfl (by decide +kernel)
set_option maxRecDepth 65536 in
theorem w_c1 : (Jvm.Cond.code ({ cls := "java/lang/String", name := "<init>", desc := "([C)V" } : Jvm.MethodName) jdk_42_method_3_code (2 : Nat) (Option.none : Option Jvm.ClassFile.FieldType)).before args0 about1 = true := code_word (m := ⟨7, 1⟩) (meth := k7m1) (c := k7c1) (by decide +kernel) rfl rfl rfl (by decide +kernel)
set_option maxRecDepth 65536 in
theorem w_c2 : (Jvm.Cond.code ({ cls := "java/lang/String", name := "<init>", desc := "([CIILjava/lang/Void;)V" } : Jvm.MethodName) jdk_42_method_149_code (6 : Nat) (Option.none : Option Jvm.ClassFile.FieldType)).before args0 about1 = true := code_word (m := ⟨7, 3⟩) (meth := k7m3) (c := k7c3) (by decide +kernel) rfl rfl rfl (by decide +kernel)
set_option maxRecDepth 65536 in
theorem w_c3 : (Jvm.Cond.code ({ cls := "java/lang/Object", name := "<init>", desc := "()V" } : Jvm.MethodName) object_method_1_code (1 : Nat) (Option.none : Option Jvm.ClassFile.FieldType)).before args0 about1 = true := code_word (m := ⟨0, 0⟩) (meth := k0m0) (c := k0c0) (by decide +kernel) rfl rfl rfl (by decide +kernel)
set_option maxRecDepth 65536 in
theorem w_c4 : (Jvm.Cond.code ({ cls := "java/lang/StringUTF16", name := "compress", desc := "([CII)[B" } : Jvm.MethodName) jdk_52_method_16_code (6 : Nat) (Option.some (Jvm.ClassFile.FieldType.array Jvm.ClassFile.FieldType.byte))).before args0 about1 = true := code_word (m := ⟨8, 2⟩) (meth := k8m2) (c := k8c2) (by decide +kernel) rfl rfl rfl (by decide +kernel)
set_option maxRecDepth 65536 in
theorem w_c5 : (Jvm.Cond.code ({ cls := "java/lang/StringUTF16", name := "compress", desc := "([CI[BII)I" } : Jvm.MethodName) jdk_52_method_21_code (7 : Nat) (Option.some Jvm.ClassFile.FieldType.int)).before args0 about1 = true := code_word (m := ⟨8, 3⟩) (meth := k8m3) (c := k8c3) (by decide +kernel) rfl rfl rfl (by decide +kernel)
set_option maxRecDepth 65536 in
theorem w_c6 : (Jvm.Cond.code ({ cls := "java/lang/StringUTF16", name := "coderFromArrayLen", desc := "([BI)B" } : Jvm.MethodName) jdk_52_method_15_code (2 : Nat) (Option.some Jvm.ClassFile.FieldType.byte)).before args0 about1 = true := code_word (m := ⟨8, 1⟩) (meth := k8m1) (c := k8c1) (by decide +kernel) rfl rfl rfl (by decide +kernel)
set_option maxRecDepth 65536 in
theorem w_c7 : (Jvm.Cond.code ({ cls := "com/example/tiny_resolver/tinyresolver/tptp/TokenIsEndPinLaw", name := "kindOf", desc := "(I)Lcom/example/tiny_resolver/tinyresolver/tptp/TptpLexer$Kind;" } : Jvm.MethodName) method_2_code (1 : Nat) (Option.some (Jvm.ClassFile.FieldType.object "com/example/tiny_resolver/tinyresolver/tptp/TptpLexer$Kind"))).before args0 about1 = true := code_word (m := ⟨1, 1⟩) (meth := k1m1) (c := k1c1) (by decide +kernel) rfl rfl rfl (by decide +kernel)
set_option maxRecDepth 65536 in
theorem w_c8 : (Jvm.Cond.code ({ cls := "com/example/tiny_resolver/tinyresolver/tptp/TptpLexer$Token", name := "<init>", desc := "(Lcom/example/tiny_resolver/tinyresolver/tptp/TptpLexer$Kind;Ljava/lang/String;II)V" } : Jvm.MethodName) prog_69_method_1_code (5 : Nat) (Option.none : Option Jvm.ClassFile.FieldType)).before args0 about1 = true := code_word (m := ⟨10, 0⟩) (meth := k10m0) (c := k10c0) (by decide +kernel) rfl rfl rfl (by decide +kernel)
set_option maxRecDepth 65536 in
theorem w_c9 : (Jvm.Cond.code ({ cls := "java/lang/Record", name := "<init>", desc := "()V" } : Jvm.MethodName) jdk_30_method_1_code (1 : Nat) (Option.none : Option Jvm.ClassFile.FieldType)).before args0 about1 = true := code_word (m := ⟨9, 0⟩) (meth := k9m0) (c := k9c0) (by decide +kernel) rfl rfl rfl (by decide +kernel)
set_option maxRecDepth 65536 in
theorem w_c10 : (Jvm.Cond.code ({ cls := "com/example/tiny_resolver/tinyresolver/tptp/TptpLexer$Token", name := "isEnd", desc := "()Z" } : Jvm.MethodName) prog_69_method_2_code (1 : Nat) (Option.some Jvm.ClassFile.FieldType.boolean)).before args0 about1 = true := code_word (m := ⟨10, 1⟩) (meth := k10m1) (c := k10c1) (by decide +kernel) rfl rfl rfl (by decide +kernel)
set_option maxRecDepth 65536 in
theorem w_c11 : (Jvm.Cond.code ({ cls := "java/lang/String", name := "valueOf", desc := "(C)Ljava/lang/String;" } : Jvm.MethodName) jdk_42_method_139_code (1 : Nat) (Option.some (Jvm.ClassFile.FieldType.object "java/lang/String"))).before args0 about1 = true := code_word (m := ⟨7, 2⟩) (meth := k7m2) (c := k7c2) (by decide +kernel) rfl rfl rfl (by decide +kernel)
set_option maxRecDepth 65536 in
theorem w_c12 : (Jvm.Cond.code ({ cls := "java/lang/StringLatin1", name := "canEncode", desc := "(C)Z" } : Jvm.MethodName) jdk_43_method_3_code (1 : Nat) (Option.some Jvm.ClassFile.FieldType.boolean)).before args0 about1 = true := code_word (m := ⟨13, 1⟩) (meth := k13m1) (c := k13c1) (by decide +kernel) rfl rfl rfl (by decide +kernel)
set_option maxRecDepth 65536 in
theorem w_c13 : (Jvm.Cond.code ({ cls := "java/lang/StringLatin1", name := "toBytes", desc := "(C)[B" } : Jvm.MethodName) jdk_43_method_46_code (1 : Nat) (Option.some (Jvm.ClassFile.FieldType.array Jvm.ClassFile.FieldType.byte))).before args0 about1 = true := code_word (m := ⟨13, 2⟩) (meth := k13m2) (c := k13c2) (by decide +kernel) rfl rfl rfl (by decide +kernel)
set_option maxRecDepth 65536 in
theorem w_c14 : (Jvm.Cond.code ({ cls := "java/lang/String", name := "<init>", desc := "([BB)V" } : Jvm.MethodName) jdk_42_method_151_code (3 : Nat) (Option.none : Option Jvm.ClassFile.FieldType)).before args0 about1 = true := code_word (m := ⟨7, 4⟩) (meth := k7m4) (c := k7c4) (by decide +kernel) rfl rfl rfl (by decide +kernel)
def codes1 : List Jvm.Cond := [Jvm.Cond.code x code maxLocals ret, Jvm.Cond.code ({ cls := "java/lang/String", name := "<init>", desc := "([C)V" } : Jvm.MethodName) jdk_42_method_3_code (2 : Nat) (Option.none : Option Jvm.ClassFile.FieldType), Jvm.Cond.code ({ cls := "java/lang/String", name := "<init>", desc := "([CIILjava/lang/Void;)V" } : Jvm.MethodName) jdk_42_method_149_code (6 : Nat) (Option.none : Option Jvm.ClassFile.FieldType), Jvm.Cond.code ({ cls := "java/lang/Object", name := "<init>", desc := "()V" } : Jvm.MethodName) object_method_1_code (1 : Nat) (Option.none : Option Jvm.ClassFile.FieldType), Jvm.Cond.code ({ cls := "java/lang/StringUTF16", name := "compress", desc := "([CII)[B" } : Jvm.MethodName) jdk_52_method_16_code (6 : Nat) (Option.some (Jvm.ClassFile.FieldType.array Jvm.ClassFile.FieldType.byte)), Jvm.Cond.code ({ cls := "java/lang/StringUTF16", name := "compress", desc := "([CI[BII)I" } : Jvm.MethodName) jdk_52_method_21_code (7 : Nat) (Option.some Jvm.ClassFile.FieldType.int), Jvm.Cond.code ({ cls := "java/lang/StringUTF16", name := "coderFromArrayLen", desc := "([BI)B" } : Jvm.MethodName) jdk_52_method_15_code (2 : Nat) (Option.some Jvm.ClassFile.FieldType.byte), Jvm.Cond.code ({ cls := "com/example/tiny_resolver/tinyresolver/tptp/TokenIsEndPinLaw", name := "kindOf", desc := "(I)Lcom/example/tiny_resolver/tinyresolver/tptp/TptpLexer$Kind;" } : Jvm.MethodName) method_2_code (1 : Nat) (Option.some (Jvm.ClassFile.FieldType.object "com/example/tiny_resolver/tinyresolver/tptp/TptpLexer$Kind")), Jvm.Cond.code ({ cls := "com/example/tiny_resolver/tinyresolver/tptp/TptpLexer$Token", name := "<init>", desc := "(Lcom/example/tiny_resolver/tinyresolver/tptp/TptpLexer$Kind;Ljava/lang/String;II)V" } : Jvm.MethodName) prog_69_method_1_code (5 : Nat) (Option.none : Option Jvm.ClassFile.FieldType), Jvm.Cond.code ({ cls := "java/lang/Record", name := "<init>", desc := "()V" } : Jvm.MethodName) jdk_30_method_1_code (1 : Nat) (Option.none : Option Jvm.ClassFile.FieldType), Jvm.Cond.code ({ cls := "com/example/tiny_resolver/tinyresolver/tptp/TptpLexer$Token", name := "isEnd", desc := "()Z" } : Jvm.MethodName) prog_69_method_2_code (1 : Nat) (Option.some Jvm.ClassFile.FieldType.boolean), Jvm.Cond.code ({ cls := "java/lang/String", name := "valueOf", desc := "(C)Ljava/lang/String;" } : Jvm.MethodName) jdk_42_method_139_code (1 : Nat) (Option.some (Jvm.ClassFile.FieldType.object "java/lang/String")), Jvm.Cond.code ({ cls := "java/lang/StringLatin1", name := "canEncode", desc := "(C)Z" } : Jvm.MethodName) jdk_43_method_3_code (1 : Nat) (Option.some Jvm.ClassFile.FieldType.boolean), Jvm.Cond.code ({ cls := "java/lang/StringLatin1", name := "toBytes", desc := "(C)[B" } : Jvm.MethodName) jdk_43_method_46_code (1 : Nat) (Option.some (Jvm.ClassFile.FieldType.array Jvm.ClassFile.FieldType.byte)), Jvm.Cond.code ({ cls := "java/lang/String", name := "<init>", desc := "([BB)V" } : Jvm.MethodName) jdk_42_method_151_code (3 : Nat) (Option.none : Option Jvm.ClassFile.FieldType)]
set_option maxRecDepth 65536 in
theorem codes_eq : words1.filter isCode = codes1 := rfl
theorem w_codes : ∀ c ∈ words1.filter isCode, c.before args0 about1 = true := by
  rw [codes_eq]
  intro c hc
  simp only [codes1, List.mem_cons, List.not_mem_nil, or_false] at hc
  rcases hc with rfl | rfl | rfl | rfl | rfl | rfl | rfl | rfl | rfl | rfl | rfl | rfl | rfl | rfl | rfl
  · exact w_c0
  · exact w_c1
  · exact w_c2
  · exact w_c3
  · exact w_c4
  · exact w_c5
  · exact w_c6
  · exact w_c7
  · exact w_c8
  · exact w_c9
  · exact w_c10
  · exact w_c11
  · exact w_c12
  · exact w_c13
  · exact w_c14
set_option maxRecDepth 65536 in
theorem w_t1 : (words1.take 24).all (fun c => isCode c || c.before args0 about1) = true := by decide +kernel
set_option maxRecDepth 65536 in
theorem w_t2 : ((words1.drop 24).take 24).all (fun c => isCode c || c.before args0 about1) = true := by decide +kernel
set_option maxRecDepth 65536 in
theorem w_t3 : (((words1.drop 24).drop 24).take 24).all (fun c => isCode c || c.before args0 about1) = true := by decide +kernel
set_option maxRecDepth 65536 in
theorem w_t4 : (((words1.drop 24).drop 24).drop 24).all (fun c => isCode c || c.before args0 about1) = true := by decide +kernel
theorem w_tables : (allAtoms (Jvm.Cond.code x code maxLocals ret :: tables_1)).before args0 about1 = true := by
  rw [allAtoms_all]
  show words1.all (fun c => c.before args0 about1) = true
  refine all_split ?_ w_codes
  rw [← List.take_append_drop 24 words1, List.all_append, w_t1, ← List.take_append_drop 24 (words1.drop 24), List.all_append, w_t2, ← List.take_append_drop 24 ((words1.drop 24).drop 24), List.all_append, w_t3, w_t4]
  rfl
set_option maxRecDepth 65536 in
theorem w_rest : rest_1_c.before args0 about1 = true := by decide +kernel
set_option maxRecDepth 65536 in
theorem w_case : (Jvm.Cond.and given_1 narrow_1).before args0 about1 = true := by decide +kernel
theorem w_applies : (headSpec (Jvm.Cond.code x code maxLocals ret :: tables_1) room_1).applies x e0.platform about1 = true :=
  (Spec.applies_iff w_frames).mpr ⟨w_running, w_runnable, w_alone, w_named, w_hears, w_ripe, w_room, w_tables⟩
theorem atStart : AtStart classFile x code maxLocals ret World_1 tables_1 room_1 Calls_1 rest_1 Pre_1 launch0 p0 e0 about1 theMethod args0 below0 :=
  ⟨lists_1, trivial, launch0.admits_env _ _ _, launch0.least_env, fairChoices_fair.cas, fairChoices_fair.clock, w_frames, w_args, w_heap, w_applies, trivial, w_rest, w_case⟩
end start1
theorem witness_1 : WitnessClaimed_1 := ⟨start1.p0, start1.e0, start1.about1, start1.theMethod, start1.args0, start1.below0, start1.atStart⟩
end Jvm.Pilot.@@N@@
