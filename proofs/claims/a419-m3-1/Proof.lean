import JvmDerived
import JvmDerived.Pilot.@@N@@Statement
import JvmDerived.Pilot.@@N@@Code
set_option linter.unusedVariables false
set_option linter.unusedSimpArgs false
namespace Jvm.Pilot.@@N@@.Own
open Jvm Jvm.ClassFile Sem Op Lib Jvm.Free Jvm.Stand Jvm.LawKit Jvm.RoadKit Bundle
/-! The walk's own logic: a judgement on a frame, one rule a step. -/
def Goes (p : Program) (e : Env) (below : List Frame) (PQ : Outcome → State → Prop) (t : State) : Prop :=
  ∃ s₂ o, Steps p.tables e below t s₂ ∧ s₂.status = .running ∧ Ended s₂ below o ∧ PQ o s₂
def EndP (wd : Bool) (s Z : State) (EL : List (String × Nat)) (n0 : Nat) (h0 : Heap) (ws : List Addr) (k n : Nat) (Q : Option Value → Heap → Prop) (o : Outcome) (u : State) : Prop :=
  ∃ v L, o = .returned v ∧ (Fr n0 L ∧ Old Z n0 u.heap ∧ Keep h0 u.heap ws ∧ Q v u.heap) ∧
    (match wd with | true => CHr Z EL s.vm s.heap u.vm u.heap ∧ ReturnedEndW s o u L k n | false => FrameEnd s o u L k n)
/-- the contract of one body: from the heap h0, with these arguments, it returns and Q holds; what lay in h0 stands but for ws -/
def Con (wd : Bool) (l : Launch) (Z : State) (EL : List (String × Nat)) (n0 : Nat) (y : MethodName) (bytes : ByteArray) (maxL : Nat) (ret : Option FieldType) (rm : Room) (as' : Array Value) (h0 : Heap) (ws : List Addr) (Q : Option Value → Heap → Prop) : Prop :=
  ∀ wds : List Jvm.Cond, MetFree l y (head1 (Jvm.Cond.code y bytes maxL ret :: wds) rm) (fun a U => a = as' ∧ Z.Warmed39 U.vm ∧ U.heap = h0 ∧ (wd = true → CHv Z EL U.vm h0)) (fun _ _ _ _ _ => True)
    (fun _ U o U' => EndP wd U Z EL n0 h0 ws rm.cells rm.slots Q o U')
def Good (p : Program) (meth : Method) (c : Code) (code : ByteArray) (maxL : Nat) (ret : Option FieldType) (nm : String) : Prop :=
  p.tables.exec = Jvm.exec ∧ c.code = code ∧ c.maxLocals = maxL ∧ meth.sig.returnType = ret ∧ meth.locks = false ∧ meth.name = nm
def Wk (p : Program) (l : Launch) (e : Env) (R : Room) (s : State) (m : MethodId) (args : Array Value) (below : List Frame) (meth : Method) (c : Code)
    (own : String) (Z : State) (a0 : Array Value) (EL : List (String × Nat)) (n0 : Nat) (h0 : Heap) (ws : List Addr) (wd : Bool)
    (sf : List Addr) (vm : Vm) (T : State) (h : Heap) (locs : List Loc) (cells slots : Nat) : Prop :=
  Stand p l e R (s.setVm vm) m args below meth c T locs cells slots ∧ T.heap = h ∧ Z.Warmed39 vm ∧ vm.findClass own = some m.cls ∧ s.Since vm h.size ∧ s.heap = h0 ∧
    Fr n0 locs ∧ Old Z n0 h ∧ Keep h0 h ws ∧ (wd = false → vm = s.vm) ∧
    (wd = true → EW Z a0 EL ∧ CHr Z EL s.vm h0 vm h ∧ ∀ x ∈ sf, x < h.size ∧ Safe Z EL vm h x)
def Ok (p : Program) (l : Launch) (e : Env) (R : Room) (s : State) (m : MethodId) (args : Array Value) (below : List Frame) (meth : Method) (c : Code)
    (own : String) (Z : State) (a0 : Array Value) (EL : List (String × Nat)) (n0 : Nat) (h0 : Heap) (ws : List Addr) (wd : Bool) (Q : Option Value → Heap → Prop)
    (sf : List Addr) (h : Heap) (cells slots : Nat) (g : JFrame) : Prop :=
  ∀ vm T locs, Wk p l e R s m args below meth c own Z a0 EL n0 h0 ws wd sf vm T h locs cells slots → Goes p e below (EndP wd s Z EL n0 h0 ws R.cells R.slots Q) (T.setTop g)
def SafeFor (wd : Bool) (Z : State) (EL : List (String × Nat)) (sf : List Addr) (h : Heap) (a : Addr) : Prop := wd = true → (a ∈ sf ∨ ∀ vm, Z.vm.Alike vm → Safe Z EL vm h a)
section Core
variable {p : Program} {l : Launch} {e : Env} {R : Room} {s : State} {m : MethodId} {args : Array Value} {below : List Frame} {meth : Method} {c : Code}
  {own : String} {Z : State} {a0 : Array Value} {EL : List (String × Nat)} {n0 : Nat} {h0 : Heap} {ws : List Addr} {wd : Bool} {Q : Option Value → Heap → Prop}
  {sf : List Addr} {h : Heap} {cells slots : Nat} {g g' : JFrame} {code : ByteArray} {maxL : Nat} {ret : Option FieldType} {nm : String} {a : Addr}
theorem SafeFor.narrow : SafeFor false Z EL sf h a := fun q => nomatch q
theorem SafeFor.mem (q : a ∈ sf) : SafeFor wd Z EL sf h a := fun _ => Or.inl q
theorem SafeFor.exa {C : String} (E : Exa Z h a C) (h1 : C ≠ "java/lang/String") (h2 : C ≠ "[B") : SafeFor wd Z EL sf h a := fun _ => Or.inr fun _ hal => Safe.exa hal E h1 h2
theorem SafeFor.arv {k : ClassId} {ty : FieldType} {z : Int32} {vs : List Value} {dv : Value} (F : Arv Z h a k ty z vs dv) (ht : ty ≠ .byte) : SafeFor wd Z EL sf h a := fun _ => Or.inr fun _ hal => Safe.arv hal F ht
/-- entering -/
theorem Con.intro {y : MethodName} {rm : Room} {as' : Array Value} (hp : plainFor y = true) (hO : Old Z n0 h0) (hE : wd = true → EW Z a0 EL)
    (body : ∀ (p : Program) (e : Env) (s : State) (m : MethodId) (below : List Frame) (meth : Method) (c : Code), Good p meth c code maxL ret y.name →
      Ok p l e rm s m as' below meth c y.cls Z a0 EL n0 h0 ws wd Q [] h0 0 0 (entryFrame m as' maxL)) : Con wd l Z EL n0 y code maxL ret rm as' h0 ws Q := by
  intro wds
  refine MetFree.of_bodySF hp hisR ?_
  intro p e s m args below meth c s₁ Bd hml hP hK
  obtain ⟨rfl, hZ, hh, hC⟩ := hP
  have hown := findClass_of_methodNamed Bd.named
  have hnm := (name_of_methodNamed Bd.named Bd.method).1
  have X0 : Stand p l e rm s m _ below meth c s₁ [] 0 0 := Stand.of_body Bd
  have e0 : s₁.heap = h0 := by rw [← hh, Bd.state]; rfl
  exact body p e s m below meth c ⟨Bd.exec, Bd.bytes, hml, Bd.returns, Bd.notSynchronized, hnm⟩ s.vm s₁ []
    ⟨X0, e0, hZ, hown, (State.WarmedH.refl s).since _, hh, Fr.nil _, hO, Keep.refl _ _, fun _ => rfl, fun q => ⟨hE q, CHr.refl (hC q), fun _ z => nomatch z⟩⟩
/-- a step that leaves tables and heap -/
theorem ok_step (st : ∀ T target, At T m c below → Steps p.tables e below (T.setTop g') target → Steps p.tables e below (T.setTop g) target)
    (k : Ok p l e R s m args below meth c own Z a0 EL n0 h0 ws wd Q sf h cells slots g') : Ok p l e R s m args below meth c own Z a0 EL n0 h0 ws wd Q sf h cells slots g := by
  intro vm T locs W
  obtain ⟨s₂, o, h1, h2⟩ := k vm T locs W
  exact ⟨s₂, o, st T s₂ W.1.here h1, h2⟩
/-- a step that leaves the heap and may warm the tables -/
theorem ok_stepT (st : ∀ vm T locs, Stand p l e R (s.setVm vm) m args below meth c T locs cells slots → T.heap = h → Z.Warmed39 vm → vm.findClass own = some m.cls → Old Z n0 h →
      ∃ T', Stand p l e R (s.setVm vm) m args below meth c T' locs cells slots ∧ T'.heap = h ∧ ∀ target, Steps p.tables e below (T'.setTop g') target → Steps p.tables e below (T.setTop g) target)
    (k : Ok p l e R s m args below meth c own Z a0 EL n0 h0 ws wd Q sf h cells slots g') : Ok p l e R s m args below meth c own Z a0 EL n0 h0 ws wd Q sf h cells slots g := by
  intro vm T locs W
  obtain ⟨X, e0, hZ, hown, hS, hh, N, O, K, r⟩ := W
  obtain ⟨T', X', e1, st'⟩ := st vm T locs X e0 hZ hown O
  obtain ⟨s₂, o, h1, h2⟩ := k vm T' locs ⟨X', e1, hZ, hown, hS, hh, N, O, K, r⟩
  exact ⟨s₂, o, st' s₂ h1, h2⟩
/-- a step that makes cells at the heap's end -/
theorem ok_stepE {cells' slots' : Nat} {sf' : List Addr} {P : Heap → Prop} (hg : ∀ x ∈ sf', x ∈ sf ∨ x = h.size)
    (st : ∀ vm T locs, Stand p l e R (s.setVm vm) m args below meth c T locs cells slots → T.heap = h → Z.Warmed39 vm → vm.findClass own = some m.cls → Old Z n0 h →
      ∃ T' h', Stand p l e R (s.setVm vm) m args below meth c T' locs cells' slots' ∧ T'.heap = h' ∧ Ext h h' ∧ h.size < h'.size ∧ P h' ∧ ∀ target, Steps p.tables e below (T'.setTop g') target → Steps p.tables e below (T.setTop g) target)
    (k : ∀ h', Keep h h' [] → n0 ≤ h.size → h0.size ≤ h.size → P h' → Ok p l e R s m args below meth c own Z a0 EL n0 h0 ws wd Q sf' h' cells' slots' g') :
    Ok p l e R s m args below meth c own Z a0 EL n0 h0 ws wd Q sf h cells slots g := by
  intro vm T locs W
  obtain ⟨X, e0, hZ, hown, hS, hh, N, O, K, r, r'⟩ := W
  obtain ⟨T', h', X', e1, E, hlt, hP, st'⟩ := st vm T locs X e0 hZ hown O
  have hsz : n0 ≤ h.size := O.1 ▸ O.2.1
  obtain ⟨s₂, o, h1, h2⟩ := k h' ((Keep.refl h []).ext E) hsz K.1 hP vm T' locs ⟨X', e1, hZ, hown, ⟨hS.1, fun j q hj hq => ⟨(hS.2 j q hj hq).1, Nat.lt_of_lt_of_le (hS.2 j q hj hq).2 E.1⟩⟩, hh, N, O.ext E, K.ext E, r, fun q => by
    obtain ⟨hE, hC, hs⟩ := r' q
    refine ⟨hE, hC.trans (CHr.ext E hC.1), fun x hx => ?_⟩
    rcases hg x hx with z | rfl
    · exact ⟨Nat.lt_of_lt_of_le (hs x z).1 E.1, Safe.ext E hC.1 (hs x z).2⟩
    · exact ⟨hlt, Safe.ext E hC.1 (Safe.new (Nat.le_refl _))⟩⟩
  exact ⟨s₂, o, st' s₂ h1, h2⟩
/-- a step that writes one place -/
theorem ok_stepW {sl : Nat} {v : Value} (hn : n0 ≤ a) (hw : a ∈ ws ∨ h0.size ≤ a) (hs : SafeFor wd Z EL sf h a)
    (st : ∀ vm T locs, Stand p l e R (s.setVm vm) m args below meth c T locs cells slots → T.heap = h → Z.Warmed39 vm → vm.findClass own = some m.cls → Old Z n0 h →
      ∃ T' h', Stand p l e R (s.setVm vm) m args below meth c T' (locs ++ [⟨a, sl⟩]) cells slots ∧ T'.heap = h' ∧ Wr h h' a sl v ∧ ∀ target, Steps p.tables e below (T'.setTop g') target → Steps p.tables e below (T.setTop g) target)
    (k : ∀ h', Keep h h' [a] → Wr h h' a sl v → Ok p l e R s m args below meth c own Z a0 EL n0 h0 ws wd Q sf h' cells slots g') :
    Ok p l e R s m args below meth c own Z a0 EL n0 h0 ws wd Q sf h cells slots g := by
  intro vm T locs W
  obtain ⟨X, e0, hZ, hown, hS, hh, N, O, K, r, r'⟩ := W
  obtain ⟨T', h', X', e1, Wr1, st'⟩ := st vm T locs X e0 hZ hown O
  have hsz := Wr1.size
  obtain ⟨s₂, o, h1, h2⟩ := k h' (Keep.of_wr Wr1) Wr1 vm T' _ ⟨X', e1, hZ, hown, by rw [hsz]; exact hS, hh, Fr.snoc X' N hn, O.wr Wr1 hn, K.wr Wr1 hw, r, fun q => by
    obtain ⟨hE, hC, hs'⟩ := r' q
    have hsa : Safe Z EL vm h a := by
      rcases hs q with z | z
      · exact (hs' a z).2
      · exact z vm hZ.alike
    exact ⟨hE, hC.trans (CHr.wr Wr1 hsa hC.1), fun x hx => ⟨by rw [hsz]; exact (hs' x hx).1, Safe.wr Wr1 hsa hC.1 (hs' x hx).2⟩⟩⟩
  exact ⟨s₂, o, st' s₂ h1, h2⟩
/-- the same frame, said otherwise -/
theorem ok_as (g' : JFrame) (q : g = g') (k : Ok p l e R s m args below meth c own Z a0 EL n0 h0 ws wd Q sf h cells slots g') : Ok p l e R s m args below meth c own Z a0 EL n0 h0 ws wd Q sf h cells slots g := q ▸ k
/-- more cells and slots booked -/
theorem ok_book (cells' slots' : Nat) (q1 : cells ≤ cells') (q2 : slots ≤ slots') (k : Ok p l e R s m args below meth c own Z a0 EL n0 h0 ws wd Q sf h cells' slots' g) : Ok p l e R s m args below meth c own Z a0 EL n0 h0 ws wd Q sf h cells slots g := by
  intro vm T locs W
  obtain ⟨X, r⟩ := W
  exact k vm T locs ⟨{ X with same := X.same.mono q1 q2 }, r⟩
/-- another list of safe places -/
theorem ok_sf (sf' : List Addr) (q : ∀ x ∈ sf', x < h.size ∧ SafeFor wd Z EL sf h x) (k : Ok p l e R s m args below meth c own Z a0 EL n0 h0 ws wd Q sf' h cells slots g) : Ok p l e R s m args below meth c own Z a0 EL n0 h0 ws wd Q sf h cells slots g := by
  intro vm T locs W
  obtain ⟨X, e0, hZ, hown, hS, hh, N, O, K, r, r'⟩ := W
  exact k vm T locs ⟨X, e0, hZ, hown, hS, hh, N, O, K, r, fun w => by
    obtain ⟨hE, hC, hs⟩ := r' w
    refine ⟨hE, hC, fun x hx => ⟨(q x hx).1, ?_⟩⟩
    rcases (q x hx).2 w with z | z
    · exact (hs x z).2
    · exact z vm hZ.alike⟩
theorem ok_old (k : Old Z n0 h → Ok p l e R s m args below meth c own Z a0 EL n0 h0 ws wd Q sf h cells slots g) : Ok p l e R s m args below meth c own Z a0 EL n0 h0 ws wd Q sf h cells slots g := by
  intro vm T locs W
  exact k W.2.2.2.2.2.2.2.1 vm T locs W
theorem ok_keep (k : Keep h0 h ws → Ok p l e R s m args below meth c own Z a0 EL n0 h0 ws wd Q sf h cells slots g) : Ok p l e R s m args below meth c own Z a0 EL n0 h0 ws wd Q sf h cells slots g := by
  intro vm T locs W
  exact k W.2.2.2.2.2.2.2.2.1 vm T locs W
/-- the end -/
theorem ok_end {v : Option Value} (G : Good p meth c code maxL ret nm) (hv : ret = none → v = none) (hq : Q v h)
    (st : ∀ vm T locs fs, Stand p l e R (s.setVm vm) m args below meth c T locs cells slots → (∀ (f : JFrame) (acts : List Action), f.method = m → f.locked = none → f.entered = [] → (doReturn e (T.setTop f) acts v).1 = T.setFrames fs) →
      Steps p.tables e below (T.setTop g) (T.setFrames fs)) (hc : cells ≤ R.cells) (hl : slots ≤ R.slots) : Ok p l e R s m args below meth c own Z a0 EL n0 h0 ws wd Q sf h cells slots g := by
  intro vm T locs W
  obtain ⟨X, e0, hZ, hown, hS, hh, N, O, K, r, r'⟩ := W
  have hlocks : meth.locks = false := G.2.2.2.2.1
  have hv' : meth.sig.returnType = none → v = none := by rw [G.2.2.2.1]; exact hv
  subst e0
  cases wd with
  | false =>
    have e1 : vm = s.vm := r rfl
    obtain ⟨fs, hr, hrun, hended, hW, hsame⟩ := X.leave (v := v) hv' hlocks
    refine ⟨_, _, st vm T locs fs X hr, hrun, hended, v, locs, rfl, ⟨N, O, K, hq⟩, ⟨v, rfl⟩, ?_, ?_⟩
    · rw [e1] at hW; exact hW
    · rw [e1] at hsame; exact hsame.mono hc hl
  | true =>
    obtain ⟨hE, hC, hs⟩ := r' rfl
    obtain ⟨fs, hr, hrun, hended, hEnd⟩ := X.leaveW hS (Nat.le_refl _) (v := v) hv' hlocks
    refine ⟨_, _, st vm T locs fs X hr, hrun, hended, v, locs, rfl, ⟨N, O, K, hq⟩, ?_, hEnd.1, hEnd.2.1, hEnd.2.2.1, hEnd.2.2.2.mono hc hl⟩
    have q := hC.trans (CHv.at X hZ hE hC.1)
    rw [← hh] at q
    exact q
theorem ok_return (G : Good p meth c code maxL ret nm) (hret : ret = none) {pc : Nat} {L : Array Slot} (hd : decode code pc = .ok (.return_, 1)) (hq : Q none h) (hc : cells ≤ R.cells) (hl : slots ≤ R.slots) :
    Ok p l e R s m args below meth c own Z a0 EL n0 h0 ws wd Q sf h cells slots (mkF m pc L []) :=
  ok_end G (fun _ => rfl) hq (fun vm T locs fs X hr => X.returnOut G.1 (by rw [G.2.2.2.1]; exact hret) (hb G.2.1 hd) hr) hc hl
theorem ok_ret {t : FieldType} {w : Value} {i : Instr} (G : Good p meth c code maxL ret nm) (hret : ret = some t) {pc : Nat} {L : Array Slot} {S : List Value}
    (hi : (i = .ireturn ∧ (t = .int ∨ t = .boolean ∨ t = .byte ∨ t = .char ∨ t = .short) ∧ ∃ z, w = .int z) ∨ (i = .lreturn ∧ t = .long ∧ ∃ z, w = .long z) ∨ (i = .dreturn ∧ t = .double ∧ ∃ z, w = .double z) ∨ (i = .freturn ∧ t = .float ∧ ∃ z, w = .float z) ∨ (i = .areturn ∧ t.isReference = true ∧ w.isRef = true))
    (hd : decode code pc = .ok (i, 1)) (hn : narrow t w = w) (hq : Q (some w) h) (hc : cells ≤ R.cells) (hl : slots ≤ R.slots) :
    Ok p l e R s m args below meth c own Z a0 EL n0 h0 ws wd Q sf h cells slots (mkF m pc L (w :: S)) :=
  ok_end G (fun q => by rw [hret] at q; cases q) hq (fun vm T locs fs X hr => retOut X G.1 (by rw [G.2.2.2.1]; exact hret) hn hi (hb G.2.1 hd) hr) hc hl
theorem ok_retI {z : Int32} (G : Good p meth c code maxL ret nm) (hret : ret = some .int) {pc : Nat} {L : Array Slot} {S : List Value} (hd : decode code pc = .ok (.ireturn, 1)) (hq : Q (some (.int z)) h) (hc : cells ≤ R.cells) (hl : slots ≤ R.slots) :
    Ok p l e R s m args below meth c own Z a0 EL n0 h0 ws wd Q sf h cells slots (mkF m pc L (.int z :: S)) := ok_ret G hret (Or.inl ⟨rfl, Or.inl rfl, z, rfl⟩) hd rfl hq hc hl
theorem ok_retN {z : Int32} {t : FieldType} (G : Good p meth c code maxL ret nm) (hret : ret = some t) (ht : t = .boolean ∨ t = .byte ∨ t = .char ∨ t = .short) {pc : Nat} {L : Array Slot} {S : List Value} (hd : decode code pc = .ok (.ireturn, 1)) (hn : narrow t (.int z) = .int z) (hq : Q (some (.int z)) h) (hc : cells ≤ R.cells) (hl : slots ≤ R.slots) :
    Ok p l e R s m args below meth c own Z a0 EL n0 h0 ws wd Q sf h cells slots (mkF m pc L (.int z :: S)) := ok_ret G hret (Or.inl ⟨rfl, Or.inr ht, z, rfl⟩) hd hn hq hc hl
theorem ok_retJ {z : Int64} (G : Good p meth c code maxL ret nm) (hret : ret = some .long) {pc : Nat} {L : Array Slot} {S : List Value} (hd : decode code pc = .ok (.lreturn, 1)) (hq : Q (some (.long z)) h) (hc : cells ≤ R.cells) (hl : slots ≤ R.slots) :
    Ok p l e R s m args below meth c own Z a0 EL n0 h0 ws wd Q sf h cells slots (mkF m pc L (.long z :: S)) := ok_ret G hret (Or.inr (Or.inl ⟨rfl, rfl, z, rfl⟩)) hd rfl hq hc hl
theorem ok_retA {w : Value} {t : FieldType} (G : Good p meth c code maxL ret nm) (hret : ret = some t) (ht : t.isReference = true) (hw : w.isRef = true) {pc : Nat} {L : Array Slot} {S : List Value} (hd : decode code pc = .ok (.areturn, 1)) (hn : narrow t w = w) (hq : Q (some w) h) (hc : cells ≤ R.cells) (hl : slots ≤ R.slots) :
    Ok p l e R s m args below meth c own Z a0 EL n0 h0 ws wd Q sf h cells slots (mkF m pc L (w :: S)) := ok_ret G hret (Or.inr (Or.inr (Or.inr (Or.inr ⟨rfl, ht, hw⟩)))) hd hn hq hc hl
end Core
end Jvm.Pilot.@@N@@.Own
namespace Jvm.Pilot.@@N@@.Own
open Jvm Jvm.ClassFile Sem Op Lib Jvm.Free Jvm.Stand Jvm.LawKit Jvm.RoadKit Bundle
section Plain
variable {p : Program} {l : Launch} {e : Env} {R : Room} {s : State} {m : MethodId} {args : Array Value} {below : List Frame} {meth : Method} {c : Code}
  {own : String} {Z : State} {a0 : Array Value} {EL : List (String × Nat)} {n0 : Nat} {h0 : Heap} {ws : List Addr} {wd : Bool} {Q : Option Value → Heap → Prop}
  {sf : List Addr} {h : Heap} {cells slots : Nat} {code : ByteArray} {maxL : Nat} {ret : Option FieldType} {nm : String} {a : Addr}
theorem ok_aload (G : Good p meth c code maxL ret nm) {pc : Nat} {L : Array Slot} {S : List Value} {k0 : Nat} {v : Value} (hd : decode code pc = .ok (.aload k0, 2)) (hl : L[k0]? = some (.val v)) (hv : v.isRef = true) (k : Ok p l e R s m args below meth c own Z a0 EL n0 h0 ws wd Q sf h cells slots (mkF m (pc + 2) L (v :: S))) : Ok p l e R s m args below meth c own Z a0 EL n0 h0 ws wd Q sf h cells slots (mkF m pc L S) :=
  ok_step (fun T t hA k => XS.aload hA G.1 rfl (hb G.2.1 hd) hl hv k) k
theorem ok_aloadN (G : Good p meth c code maxL ret nm) {pc : Nat} {L : Array Slot} {S : List Value} {k0 : Fin 4} {v : Value} (hd : decode code pc = .ok (.aload_n k0, 1)) (hl : L[k0.val]? = some (.val v)) (hv : v.isRef = true) (k : Ok p l e R s m args below meth c own Z a0 EL n0 h0 ws wd Q sf h cells slots (mkF m (pc + 1) L (v :: S))) : Ok p l e R s m args below meth c own Z a0 EL n0 h0 ws wd Q sf h cells slots (mkF m pc L S) :=
  ok_step (fun T t hA k => XS.aloadN hA G.1 rfl (hb G.2.1 hd) hl hv k) k
theorem ok_iload (G : Good p meth c code maxL ret nm) {pc : Nat} {L : Array Slot} {S : List Value} {k0 : Nat} {v : Int32} (hd : decode code pc = .ok (.iload k0, 2)) (hl : L[k0]? = some (.val (.int v))) (k : Ok p l e R s m args below meth c own Z a0 EL n0 h0 ws wd Q sf h cells slots (mkF m (pc + 2) L ((.int v) :: S))) : Ok p l e R s m args below meth c own Z a0 EL n0 h0 ws wd Q sf h cells slots (mkF m pc L S) :=
  ok_step (fun T t hA k => XS.iload hA G.1 rfl (hb G.2.1 hd) hl k) k
theorem ok_iloadN (G : Good p meth c code maxL ret nm) {pc : Nat} {L : Array Slot} {S : List Value} {k0 : Fin 4} {v : Int32} (hd : decode code pc = .ok (.iload_n k0, 1)) (hl : L[k0.val]? = some (.val (.int v))) (k : Ok p l e R s m args below meth c own Z a0 EL n0 h0 ws wd Q sf h cells slots (mkF m (pc + 1) L ((.int v) :: S))) : Ok p l e R s m args below meth c own Z a0 EL n0 h0 ws wd Q sf h cells slots (mkF m pc L S) :=
  ok_step (fun T t hA k => XS.iloadN hA G.1 rfl (hb G.2.1 hd) hl k) k
theorem ok_lload (G : Good p meth c code maxL ret nm) {pc : Nat} {L : Array Slot} {S : List Value} {k0 : Nat} {v : Int64} (hd : decode code pc = .ok (.lload k0, 2)) (hl : L[k0]? = some (.val (.long v))) (k : Ok p l e R s m args below meth c own Z a0 EL n0 h0 ws wd Q sf h cells slots (mkF m (pc + 2) L ((.long v) :: S))) : Ok p l e R s m args below meth c own Z a0 EL n0 h0 ws wd Q sf h cells slots (mkF m pc L S) :=
  ok_step (fun T t hA k => XS.lload hA G.1 rfl (hb G.2.1 hd) hl k) k
theorem ok_lloadN (G : Good p meth c code maxL ret nm) {pc : Nat} {L : Array Slot} {S : List Value} {k0 : Fin 4} {v : Int64} (hd : decode code pc = .ok (.lload_n k0, 1)) (hl : L[k0.val]? = some (.val (.long v))) (k : Ok p l e R s m args below meth c own Z a0 EL n0 h0 ws wd Q sf h cells slots (mkF m (pc + 1) L ((.long v) :: S))) : Ok p l e R s m args below meth c own Z a0 EL n0 h0 ws wd Q sf h cells slots (mkF m pc L S) :=
  ok_step (fun T t hA k => XS.lloadN hA G.1 rfl (hb G.2.1 hd) hl k) k
theorem ok_istore (G : Good p meth c code maxL ret nm) {pc : Nat} {L : Array Slot} {S : List Value} {k0 : Nat} {v : Int32} (L' : Array Slot) (hd : decode code pc = .ok (.istore k0, 2)) (hl : storeLocals L k0 (.int v) = some L') (k : Ok p l e R s m args below meth c own Z a0 EL n0 h0 ws wd Q sf h cells slots (mkF m (pc + 2) L' S)) : Ok p l e R s m args below meth c own Z a0 EL n0 h0 ws wd Q sf h cells slots (mkF m pc L ((.int v) :: S)) :=
  ok_step (fun T t hA k => XS.istore hA G.1 rfl (hb G.2.1 hd) rfl hl k) k
theorem ok_istoreN (G : Good p meth c code maxL ret nm) {pc : Nat} {L : Array Slot} {S : List Value} {k0 : Fin 4} {v : Int32} (L' : Array Slot) (hd : decode code pc = .ok (.istore_n k0, 1)) (hl : storeLocals L k0.val (.int v) = some L') (k : Ok p l e R s m args below meth c own Z a0 EL n0 h0 ws wd Q sf h cells slots (mkF m (pc + 1) L' S)) : Ok p l e R s m args below meth c own Z a0 EL n0 h0 ws wd Q sf h cells slots (mkF m pc L ((.int v) :: S)) :=
  ok_step (fun T t hA k => XS.istoreN hA G.1 rfl (hb G.2.1 hd) rfl hl k) k
theorem ok_lstore (G : Good p meth c code maxL ret nm) {pc : Nat} {L : Array Slot} {S : List Value} {k0 : Nat} {v : Int64} (L' : Array Slot) (hd : decode code pc = .ok (.lstore k0, 2)) (hl : storeLocals L k0 (.long v) = some L') (k : Ok p l e R s m args below meth c own Z a0 EL n0 h0 ws wd Q sf h cells slots (mkF m (pc + 2) L' S)) : Ok p l e R s m args below meth c own Z a0 EL n0 h0 ws wd Q sf h cells slots (mkF m pc L ((.long v) :: S)) :=
  ok_step (fun T t hA k => XS.lstore hA G.1 rfl (hb G.2.1 hd) rfl hl k) k
theorem ok_lstoreN (G : Good p meth c code maxL ret nm) {pc : Nat} {L : Array Slot} {S : List Value} {k0 : Fin 4} {v : Int64} (L' : Array Slot) (hd : decode code pc = .ok (.lstore_n k0, 1)) (hl : storeLocals L k0.val (.long v) = some L') (k : Ok p l e R s m args below meth c own Z a0 EL n0 h0 ws wd Q sf h cells slots (mkF m (pc + 1) L' S)) : Ok p l e R s m args below meth c own Z a0 EL n0 h0 ws wd Q sf h cells slots (mkF m pc L ((.long v) :: S)) :=
  ok_step (fun T t hA k => XS.lstoreN hA G.1 rfl (hb G.2.1 hd) rfl hl k) k
theorem ok_astore (G : Good p meth c code maxL ret nm) {pc : Nat} {L : Array Slot} {S : List Value} {k0 : Nat} {v : Value} (L' : Array Slot) (hd : decode code pc = .ok (.astore k0, 2)) (hv : v.isRef = true) (hl : storeLocals L k0 v = some L') (k : Ok p l e R s m args below meth c own Z a0 EL n0 h0 ws wd Q sf h cells slots (mkF m (pc + 2) L' S)) : Ok p l e R s m args below meth c own Z a0 EL n0 h0 ws wd Q sf h cells slots (mkF m pc L (v :: S)) :=
  ok_step (fun T t hA k => XS.astore hA G.1 rfl (hb G.2.1 hd) rfl hv hl k) k
theorem ok_astoreN (G : Good p meth c code maxL ret nm) {pc : Nat} {L : Array Slot} {S : List Value} {k0 : Fin 4} {v : Value} (L' : Array Slot) (hd : decode code pc = .ok (.astore_n k0, 1)) (hv : v.isRef = true) (hl : storeLocals L k0.val v = some L') (k : Ok p l e R s m args below meth c own Z a0 EL n0 h0 ws wd Q sf h cells slots (mkF m (pc + 1) L' S)) : Ok p l e R s m args below meth c own Z a0 EL n0 h0 ws wd Q sf h cells slots (mkF m pc L (v :: S)) :=
  ok_step (fun T t hA k => XS.astoreN hA G.1 rfl (hb G.2.1 hd) rfl hv hl k) k
theorem ok_iconst (G : Good p meth c code maxL ret nm) {pc : Nat} {L : Array Slot} {S : List Value} {i : Int} (v : Int32) (hd : decode code pc = .ok (.iconst i, 1)) (hv : Int32.ofInt i = v) (k : Ok p l e R s m args below meth c own Z a0 EL n0 h0 ws wd Q sf h cells slots (mkF m (pc + 1) L (.int v :: S))) : Ok p l e R s m args below meth c own Z a0 EL n0 h0 ws wd Q sf h cells slots (mkF m pc L S) :=
  ok_step (fun T t hA k => XS.iconst hA G.1 rfl (hb G.2.1 hd) (by rw [hv]; exact k)) k
theorem ok_bipush (G : Good p meth c code maxL ret nm) {pc : Nat} {L : Array Slot} {S : List Value} {i : Int} (v : Int32) (hd : decode code pc = .ok (.bipush i, 2)) (hv : (Int8.ofInt i).toInt32 = v) (k : Ok p l e R s m args below meth c own Z a0 EL n0 h0 ws wd Q sf h cells slots (mkF m (pc + 2) L (.int v :: S))) : Ok p l e R s m args below meth c own Z a0 EL n0 h0 ws wd Q sf h cells slots (mkF m pc L S) :=
  ok_step (fun T t hA k => XS.bipush hA G.1 rfl (hb G.2.1 hd) (by rw [hv]; exact k)) k
theorem ok_sipush (G : Good p meth c code maxL ret nm) {pc : Nat} {L : Array Slot} {S : List Value} {i : Int} (v : Int32) (hd : decode code pc = .ok (.sipush i, 3)) (hv : (Int16.ofInt i).toInt32 = v) (k : Ok p l e R s m args below meth c own Z a0 EL n0 h0 ws wd Q sf h cells slots (mkF m (pc + 3) L (.int v :: S))) : Ok p l e R s m args below meth c own Z a0 EL n0 h0 ws wd Q sf h cells slots (mkF m pc L S) :=
  ok_step (fun T t hA k => XS.sipush hA G.1 rfl (hb G.2.1 hd) (by rw [hv]; exact k)) k
theorem ok_lconst0 (G : Good p meth c code maxL ret nm) {pc : Nat} {L : Array Slot} {S : List Value}  (hd : decode code pc = .ok (.lconst 0, 1)) (k : Ok p l e R s m args below meth c own Z a0 EL n0 h0 ws wd Q sf h cells slots (mkF m (pc + 1) L (.long 0 :: S))) : Ok p l e R s m args below meth c own Z a0 EL n0 h0 ws wd Q sf h cells slots (mkF m pc L S) :=
  ok_step (fun T t hA k => XS.lconst hA G.1 rfl (hb G.2.1 hd) k) k
theorem ok_lconst1 (G : Good p meth c code maxL ret nm) {pc : Nat} {L : Array Slot} {S : List Value}  (hd : decode code pc = .ok (.lconst 1, 1)) (k : Ok p l e R s m args below meth c own Z a0 EL n0 h0 ws wd Q sf h cells slots (mkF m (pc + 1) L (.long 1 :: S))) : Ok p l e R s m args below meth c own Z a0 EL n0 h0 ws wd Q sf h cells slots (mkF m pc L S) :=
  ok_step (fun T t hA k => XS.lconst hA G.1 rfl (hb G.2.1 hd) k) k
theorem ok_aconst_null (G : Good p meth c code maxL ret nm) {pc : Nat} {L : Array Slot} {S : List Value}  (hd : decode code pc = .ok (.aconst_null, 1)) (k : Ok p l e R s m args below meth c own Z a0 EL n0 h0 ws wd Q sf h cells slots (mkF m (pc + 1) L (.null :: S))) : Ok p l e R s m args below meth c own Z a0 EL n0 h0 ws wd Q sf h cells slots (mkF m pc L S) :=
  ok_step (fun T t hA k => XS.aconstNull hA G.1 rfl (hb G.2.1 hd) k) k
theorem ok_iadd (G : Good p meth c code maxL ret nm) {pc : Nat} {L : Array Slot} {S : List Value} {x y : Int32} (hd : decode code pc = .ok (.iadd, 1)) (k : Ok p l e R s m args below meth c own Z a0 EL n0 h0 ws wd Q sf h cells slots (mkF m (pc + 1) L (.int (x + y) :: S))) : Ok p l e R s m args below meth c own Z a0 EL n0 h0 ws wd Q sf h cells slots (mkF m pc L (.int y :: .int x :: S)) :=
  ok_step (fun T t hA k => XS.iadd hA G.1 rfl (hb G.2.1 hd) rfl k) k
theorem ok_isub (G : Good p meth c code maxL ret nm) {pc : Nat} {L : Array Slot} {S : List Value} {x y : Int32} (hd : decode code pc = .ok (.isub, 1)) (k : Ok p l e R s m args below meth c own Z a0 EL n0 h0 ws wd Q sf h cells slots (mkF m (pc + 1) L (.int (x - y) :: S))) : Ok p l e R s m args below meth c own Z a0 EL n0 h0 ws wd Q sf h cells slots (mkF m pc L (.int y :: .int x :: S)) :=
  ok_step (fun T t hA k => XS.isub hA G.1 rfl (hb G.2.1 hd) rfl k) k
theorem ok_imul (G : Good p meth c code maxL ret nm) {pc : Nat} {L : Array Slot} {S : List Value} {x y : Int32} (hd : decode code pc = .ok (.imul, 1)) (k : Ok p l e R s m args below meth c own Z a0 EL n0 h0 ws wd Q sf h cells slots (mkF m (pc + 1) L (.int (x * y) :: S))) : Ok p l e R s m args below meth c own Z a0 EL n0 h0 ws wd Q sf h cells slots (mkF m pc L (.int y :: .int x :: S)) :=
  ok_step (fun T t hA k => XS.imul hA G.1 rfl (hb G.2.1 hd) rfl k) k
theorem ok_iand (G : Good p meth c code maxL ret nm) {pc : Nat} {L : Array Slot} {S : List Value} {x y : Int32} (hd : decode code pc = .ok (.iand, 1)) (k : Ok p l e R s m args below meth c own Z a0 EL n0 h0 ws wd Q sf h cells slots (mkF m (pc + 1) L (.int (x &&& y) :: S))) : Ok p l e R s m args below meth c own Z a0 EL n0 h0 ws wd Q sf h cells slots (mkF m pc L (.int y :: .int x :: S)) :=
  ok_step (fun T t hA k => XS.iand hA G.1 rfl (hb G.2.1 hd) rfl k) k
theorem ok_ior (G : Good p meth c code maxL ret nm) {pc : Nat} {L : Array Slot} {S : List Value} {x y : Int32} (hd : decode code pc = .ok (.ior, 1)) (k : Ok p l e R s m args below meth c own Z a0 EL n0 h0 ws wd Q sf h cells slots (mkF m (pc + 1) L (.int (x ||| y) :: S))) : Ok p l e R s m args below meth c own Z a0 EL n0 h0 ws wd Q sf h cells slots (mkF m pc L (.int y :: .int x :: S)) :=
  ok_step (fun T t hA k => XS.ior hA G.1 rfl (hb G.2.1 hd) rfl k) k
theorem ok_ixor (G : Good p meth c code maxL ret nm) {pc : Nat} {L : Array Slot} {S : List Value} {x y : Int32} (hd : decode code pc = .ok (.ixor, 1)) (k : Ok p l e R s m args below meth c own Z a0 EL n0 h0 ws wd Q sf h cells slots (mkF m (pc + 1) L (.int (x ^^^ y) :: S))) : Ok p l e R s m args below meth c own Z a0 EL n0 h0 ws wd Q sf h cells slots (mkF m pc L (.int y :: .int x :: S)) :=
  ok_step (fun T t hA k => XS.ixor hA G.1 rfl (hb G.2.1 hd) rfl k) k
theorem ok_ishl (G : Good p meth c code maxL ret nm) {pc : Nat} {L : Array Slot} {S : List Value} {x y : Int32} (hd : decode code pc = .ok (.ishl, 1)) (k : Ok p l e R s m args below meth c own Z a0 EL n0 h0 ws wd Q sf h cells slots (mkF m (pc + 1) L (.int (x <<< (y &&& 31)) :: S))) : Ok p l e R s m args below meth c own Z a0 EL n0 h0 ws wd Q sf h cells slots (mkF m pc L (.int y :: .int x :: S)) :=
  ok_step (fun T t hA k => XS.ishl hA G.1 rfl (hb G.2.1 hd) rfl k) k
theorem ok_ishr (G : Good p meth c code maxL ret nm) {pc : Nat} {L : Array Slot} {S : List Value} {x y : Int32} (hd : decode code pc = .ok (.ishr, 1)) (k : Ok p l e R s m args below meth c own Z a0 EL n0 h0 ws wd Q sf h cells slots (mkF m (pc + 1) L (.int (x >>> (y &&& 31)) :: S))) : Ok p l e R s m args below meth c own Z a0 EL n0 h0 ws wd Q sf h cells slots (mkF m pc L (.int y :: .int x :: S)) :=
  ok_step (fun T t hA k => XS.ishr hA G.1 rfl (hb G.2.1 hd) rfl k) k
theorem ok_iushr (G : Good p meth c code maxL ret nm) {pc : Nat} {L : Array Slot} {S : List Value} {x y : Int32} (hd : decode code pc = .ok (.iushr, 1)) (k : Ok p l e R s m args below meth c own Z a0 EL n0 h0 ws wd Q sf h cells slots (mkF m (pc + 1) L (.int ((x.toUInt32 >>> (y &&& 31).toUInt32).toInt32) :: S))) : Ok p l e R s m args below meth c own Z a0 EL n0 h0 ws wd Q sf h cells slots (mkF m pc L (.int y :: .int x :: S)) :=
  ok_step (fun T t hA k => XS.iushr hA G.1 rfl (hb G.2.1 hd) rfl k) k
theorem ok_ladd (G : Good p meth c code maxL ret nm) {pc : Nat} {L : Array Slot} {S : List Value} {x y : Int64} (hd : decode code pc = .ok (.ladd, 1)) (k : Ok p l e R s m args below meth c own Z a0 EL n0 h0 ws wd Q sf h cells slots (mkF m (pc + 1) L (.long (x + y) :: S))) : Ok p l e R s m args below meth c own Z a0 EL n0 h0 ws wd Q sf h cells slots (mkF m pc L (.long y :: .long x :: S)) :=
  ok_step (fun T t hA k => XS.ladd hA G.1 rfl (hb G.2.1 hd) rfl k) k
theorem ok_lsub (G : Good p meth c code maxL ret nm) {pc : Nat} {L : Array Slot} {S : List Value} {x y : Int64} (hd : decode code pc = .ok (.lsub, 1)) (k : Ok p l e R s m args below meth c own Z a0 EL n0 h0 ws wd Q sf h cells slots (mkF m (pc + 1) L (.long (x - y) :: S))) : Ok p l e R s m args below meth c own Z a0 EL n0 h0 ws wd Q sf h cells slots (mkF m pc L (.long y :: .long x :: S)) :=
  ok_step (fun T t hA k => XS.lsub hA G.1 rfl (hb G.2.1 hd) rfl k) k
theorem ok_lmul (G : Good p meth c code maxL ret nm) {pc : Nat} {L : Array Slot} {S : List Value} {x y : Int64} (hd : decode code pc = .ok (.lmul, 1)) (k : Ok p l e R s m args below meth c own Z a0 EL n0 h0 ws wd Q sf h cells slots (mkF m (pc + 1) L (.long (x * y) :: S))) : Ok p l e R s m args below meth c own Z a0 EL n0 h0 ws wd Q sf h cells slots (mkF m pc L (.long y :: .long x :: S)) :=
  ok_step (fun T t hA k => XS.lmul hA G.1 rfl (hb G.2.1 hd) rfl k) k
theorem ok_land (G : Good p meth c code maxL ret nm) {pc : Nat} {L : Array Slot} {S : List Value} {x y : Int64} (hd : decode code pc = .ok (.land, 1)) (k : Ok p l e R s m args below meth c own Z a0 EL n0 h0 ws wd Q sf h cells slots (mkF m (pc + 1) L (.long (x &&& y) :: S))) : Ok p l e R s m args below meth c own Z a0 EL n0 h0 ws wd Q sf h cells slots (mkF m pc L (.long y :: .long x :: S)) :=
  ok_step (fun T t hA k => XS.land hA G.1 rfl (hb G.2.1 hd) rfl k) k
theorem ok_lor (G : Good p meth c code maxL ret nm) {pc : Nat} {L : Array Slot} {S : List Value} {x y : Int64} (hd : decode code pc = .ok (.lor, 1)) (k : Ok p l e R s m args below meth c own Z a0 EL n0 h0 ws wd Q sf h cells slots (mkF m (pc + 1) L (.long (x ||| y) :: S))) : Ok p l e R s m args below meth c own Z a0 EL n0 h0 ws wd Q sf h cells slots (mkF m pc L (.long y :: .long x :: S)) :=
  ok_step (fun T t hA k => XS.lor hA G.1 rfl (hb G.2.1 hd) rfl k) k
theorem ok_lxor (G : Good p meth c code maxL ret nm) {pc : Nat} {L : Array Slot} {S : List Value} {x y : Int64} (hd : decode code pc = .ok (.lxor, 1)) (k : Ok p l e R s m args below meth c own Z a0 EL n0 h0 ws wd Q sf h cells slots (mkF m (pc + 1) L (.long (x ^^^ y) :: S))) : Ok p l e R s m args below meth c own Z a0 EL n0 h0 ws wd Q sf h cells slots (mkF m pc L (.long y :: .long x :: S)) :=
  ok_step (fun T t hA k => XS.lxor hA G.1 rfl (hb G.2.1 hd) rfl k) k
theorem ok_idiv (G : Good p meth c code maxL ret nm) {pc : Nat} {L : Array Slot} {S : List Value} {x y : Int32} (hd : decode code pc = .ok (.idiv, 1)) (hy : y ≠ 0) (k : Ok p l e R s m args below meth c own Z a0 EL n0 h0 ws wd Q sf h cells slots (mkF m (pc + 1) L (.int (x / y) :: S))) : Ok p l e R s m args below meth c own Z a0 EL n0 h0 ws wd Q sf h cells slots (mkF m pc L (.int y :: .int x :: S)) :=
  ok_step (fun T t hA k => XS.idiv hA G.1 rfl (hb G.2.1 hd) rfl hy k) k
theorem ok_irem (G : Good p meth c code maxL ret nm) {pc : Nat} {L : Array Slot} {S : List Value} {x y : Int32} (hd : decode code pc = .ok (.irem, 1)) (hy : y ≠ 0) (k : Ok p l e R s m args below meth c own Z a0 EL n0 h0 ws wd Q sf h cells slots (mkF m (pc + 1) L (.int (x % y) :: S))) : Ok p l e R s m args below meth c own Z a0 EL n0 h0 ws wd Q sf h cells slots (mkF m pc L (.int y :: .int x :: S)) :=
  ok_step (fun T t hA k => XS.irem hA G.1 rfl (hb G.2.1 hd) rfl hy (by rw [irem_eq_mod x y]; exact k)) k
theorem ok_ldiv (G : Good p meth c code maxL ret nm) {pc : Nat} {L : Array Slot} {S : List Value} {x y : Int64} (hd : decode code pc = .ok (.ldiv, 1)) (hy : y ≠ 0) (k : Ok p l e R s m args below meth c own Z a0 EL n0 h0 ws wd Q sf h cells slots (mkF m (pc + 1) L (.long (x / y) :: S))) : Ok p l e R s m args below meth c own Z a0 EL n0 h0 ws wd Q sf h cells slots (mkF m pc L (.long y :: .long x :: S)) :=
  ok_step (fun T t hA k => XS.ldiv hA G.1 rfl (hb G.2.1 hd) rfl hy k) k
theorem ok_lrem (G : Good p meth c code maxL ret nm) {pc : Nat} {L : Array Slot} {S : List Value} {x y : Int64} (hd : decode code pc = .ok (.lrem, 1)) (hy : y ≠ 0) (k : Ok p l e R s m args below meth c own Z a0 EL n0 h0 ws wd Q sf h cells slots (mkF m (pc + 1) L (.long (x - x / y * y) :: S))) : Ok p l e R s m args below meth c own Z a0 EL n0 h0 ws wd Q sf h cells slots (mkF m pc L (.long y :: .long x :: S)) :=
  ok_step (fun T t hA k => XS.lrem hA G.1 rfl (hb G.2.1 hd) rfl hy k) k
theorem ok_ineg (G : Good p meth c code maxL ret nm) {pc : Nat} {L : Array Slot} {S : List Value} {x : Int32} (hd : decode code pc = .ok (.ineg, 1)) (k : Ok p l e R s m args below meth c own Z a0 EL n0 h0 ws wd Q sf h cells slots (mkF m (pc + 1) L (.int (-x) :: S))) : Ok p l e R s m args below meth c own Z a0 EL n0 h0 ws wd Q sf h cells slots (mkF m pc L (.int x :: S)) :=
  ok_step (fun T t hA k => XS.ineg hA G.1 rfl (hb G.2.1 hd) rfl k) k
theorem ok_i2b (G : Good p meth c code maxL ret nm) {pc : Nat} {L : Array Slot} {S : List Value} {x : Int32} (hd : decode code pc = .ok (.i2b, 1)) (k : Ok p l e R s m args below meth c own Z a0 EL n0 h0 ws wd Q sf h cells slots (mkF m (pc + 1) L (.int x.toInt8.toInt32 :: S))) : Ok p l e R s m args below meth c own Z a0 EL n0 h0 ws wd Q sf h cells slots (mkF m pc L (.int x :: S)) :=
  ok_step (fun T t hA k => XS.i2b hA G.1 rfl (hb G.2.1 hd) rfl k) k
theorem ok_i2c (G : Good p meth c code maxL ret nm) {pc : Nat} {L : Array Slot} {S : List Value} {x : Int32} (hd : decode code pc = .ok (.i2c, 1)) (k : Ok p l e R s m args below meth c own Z a0 EL n0 h0 ws wd Q sf h cells slots (mkF m (pc + 1) L (.int x.toUInt32.toUInt16.toUInt32.toInt32 :: S))) : Ok p l e R s m args below meth c own Z a0 EL n0 h0 ws wd Q sf h cells slots (mkF m pc L (.int x :: S)) :=
  ok_step (fun T t hA k => XS.i2c hA G.1 rfl (hb G.2.1 hd) rfl k) k
theorem ok_i2l (G : Good p meth c code maxL ret nm) {pc : Nat} {L : Array Slot} {S : List Value} {x : Int32} (hd : decode code pc = .ok (.i2l, 1)) (k : Ok p l e R s m args below meth c own Z a0 EL n0 h0 ws wd Q sf h cells slots (mkF m (pc + 1) L (.long x.toInt64 :: S))) : Ok p l e R s m args below meth c own Z a0 EL n0 h0 ws wd Q sf h cells slots (mkF m pc L (.int x :: S)) :=
  ok_step (fun T t hA k => XS.i2l hA G.1 rfl (hb G.2.1 hd) rfl k) k
theorem ok_l2i (G : Good p meth c code maxL ret nm) {pc : Nat} {L : Array Slot} {S : List Value} {x : Int64} (hd : decode code pc = .ok (.l2i, 1)) (k : Ok p l e R s m args below meth c own Z a0 EL n0 h0 ws wd Q sf h cells slots (mkF m (pc + 1) L (.int x.toInt32 :: S))) : Ok p l e R s m args below meth c own Z a0 EL n0 h0 ws wd Q sf h cells slots (mkF m pc L (.long x :: S)) :=
  ok_step (fun T t hA k => XS.l2i hA G.1 rfl (hb G.2.1 hd) rfl k) k
theorem ok_lcmp (G : Good p meth c code maxL ret nm) {pc : Nat} {L : Array Slot} {S : List Value} {x y : Int64} (hd : decode code pc = .ok (.lcmp, 1)) (k : Ok p l e R s m args below meth c own Z a0 EL n0 h0 ws wd Q sf h cells slots (mkF m (pc + 1) L (.int (lcmpW x y) :: S))) : Ok p l e R s m args below meth c own Z a0 EL n0 h0 ws wd Q sf h cells slots (mkF m pc L (.long y :: .long x :: S)) :=
  ok_step (fun T t hA k => XS.lcmp hA G.1 rfl (hb G.2.1 hd) rfl k) k
theorem ok_dup (G : Good p meth c code maxL ret nm) {pc : Nat} {L : Array Slot} {S : List Value} {v : Value} (hd : decode code pc = .ok (.dup, 1)) (hc : v.category = 1) (k : Ok p l e R s m args below meth c own Z a0 EL n0 h0 ws wd Q sf h cells slots (mkF m (pc + 1) L (v :: v :: S))) : Ok p l e R s m args below meth c own Z a0 EL n0 h0 ws wd Q sf h cells slots (mkF m pc L (v :: S)) :=
  ok_step (fun T t hA k => XS.dup hA G.1 rfl (hb G.2.1 hd) rfl hc k) k
theorem ok_pop (G : Good p meth c code maxL ret nm) {pc : Nat} {L : Array Slot} {S : List Value} {v : Value} (hd : decode code pc = .ok (.pop, 1)) (hc : v.category = 1) (k : Ok p l e R s m args below meth c own Z a0 EL n0 h0 ws wd Q sf h cells slots (mkF m (pc + 1) L S)) : Ok p l e R s m args below meth c own Z a0 EL n0 h0 ws wd Q sf h cells slots (mkF m pc L (v :: S)) :=
  ok_step (fun T t hA k => XS.pop hA G.1 rfl (hb G.2.1 hd) rfl hc k) k
theorem ok_dup_x1 (G : Good p meth c code maxL ret nm) {pc : Nat} {L : Array Slot} {S : List Value} {v w : Value} (hd : decode code pc = .ok (.dup_x1, 1)) (hc : v.category = 1) (hc2 : w.category = 1) (k : Ok p l e R s m args below meth c own Z a0 EL n0 h0 ws wd Q sf h cells slots (mkF m (pc + 1) L (v :: w :: v :: S))) : Ok p l e R s m args below meth c own Z a0 EL n0 h0 ws wd Q sf h cells slots (mkF m pc L (v :: w :: S)) :=
  ok_step (fun T t hA k => XS.dupX1 hA G.1 rfl (hb G.2.1 hd) rfl hc hc2 k) k
theorem ok_iinc (G : Good p meth c code maxL ret nm) {pc : Nat} {L : Array Slot} {S : List Value} {k0 : Nat} {cst : Int} {x : Int32} (v : Int32) (L' : Array Slot) (hd : decode code pc = .ok (.iinc k0 cst, 3)) (hl : L[k0]? = some (.val (.int x))) (hv : x + Int32.ofInt cst = v) (hl' : storeLocals L k0 (.int v) = some L') (k : Ok p l e R s m args below meth c own Z a0 EL n0 h0 ws wd Q sf h cells slots (mkF m (pc + 3) L' S)) : Ok p l e R s m args below meth c own Z a0 EL n0 h0 ws wd Q sf h cells slots (mkF m pc L S) :=
  ok_step (fun T t hA k => XS.iinc hA G.1 rfl (hb G.2.1 hd) hl (by rw [hv]; exact hl') k) k
theorem ok_goto (G : Good p meth c code maxL ret nm) {pc : Nat} {L : Array Slot} {S : List Value} {o : Int} (pc' : Nat) (hd : decode code pc = .ok (.goto o, 3)) (ho : 0 ≤ (pc : Int) + o) (hp : ((pc : Int) + o).toNat = pc') (k : Ok p l e R s m args below meth c own Z a0 EL n0 h0 ws wd Q sf h cells slots (mkF m pc' L S)) : Ok p l e R s m args below meth c own Z a0 EL n0 h0 ws wd Q sf h cells slots (mkF m pc L S) :=
  ok_step (fun T t hA k => XS.goto hA G.1 rfl rfl (hb G.2.1 hd) ho hp k) k
theorem ok_ifeq (G : Good p meth c code maxL ret nm) {pc : Nat} {L : Array Slot} {S : List Value} {x : Int32} {o : Int} (pc' : Nat) (hd : decode code pc = .ok (.ifCond .eq o, 3)) (ho : 0 ≤ (pc : Int) + o) (hp : ((pc : Int) + o).toNat = pc') (ky : x = 0 → Ok p l e R s m args below meth c own Z a0 EL n0 h0 ws wd Q sf h cells slots (mkF m pc' L S)) (kn : ¬ x = 0 → Ok p l e R s m args below meth c own Z a0 EL n0 h0 ws wd Q sf h cells slots (mkF m (pc + 3) L S)) : Ok p l e R s m args below meth c own Z a0 EL n0 h0 ws wd Q sf h cells slots (mkF m pc L (.int x :: S)) := by
  by_cases q : x = 0
  · exact ok_step (fun T t hA k => XS.ifYes hA G.1 rfl rfl (hb G.2.1 hd) rfl ((if0 _ _).trans (teq q).1) ho hp k) (ky q)
  · exact ok_step (fun T t hA k => XS.ifNo hA G.1 rfl (hb G.2.1 hd) rfl ((if0 _ _).trans (feq q).1) k) (kn q)
theorem ok_ifeqY (G : Good p meth c code maxL ret nm) {pc : Nat} {L : Array Slot} {S : List Value} {x : Int32} {o : Int} (pc' : Nat) (hd : decode code pc = .ok (.ifCond .eq o, 3)) (ho : 0 ≤ (pc : Int) + o) (hp : ((pc : Int) + o).toNat = pc') (q : x = 0) (k : Ok p l e R s m args below meth c own Z a0 EL n0 h0 ws wd Q sf h cells slots (mkF m pc' L S)) : Ok p l e R s m args below meth c own Z a0 EL n0 h0 ws wd Q sf h cells slots (mkF m pc L (.int x :: S)) := ok_ifeq G pc' hd ho hp (fun _ => k) (fun q' => absurd q q')
theorem ok_ifeqN (G : Good p meth c code maxL ret nm) {pc : Nat} {L : Array Slot} {S : List Value} {x : Int32} {o : Int} (hd : decode code pc = .ok (.ifCond .eq o, 3)) (q : ¬ x = 0) (k : Ok p l e R s m args below meth c own Z a0 EL n0 h0 ws wd Q sf h cells slots (mkF m (pc + 3) L S)) : Ok p l e R s m args below meth c own Z a0 EL n0 h0 ws wd Q sf h cells slots (mkF m pc L (.int x :: S)) :=
  ok_step (fun T t hA k => XS.ifNo hA G.1 rfl (hb G.2.1 hd) rfl ((if0 _ _).trans (feq q).1) k) k
theorem ok_icmpeq (G : Good p meth c code maxL ret nm) {pc : Nat} {L : Array Slot} {S : List Value} {x y : Int32} {o : Int} (pc' : Nat) (hd : decode code pc = .ok (.if_icmp .eq o, 3)) (ho : 0 ≤ (pc : Int) + o) (hp : ((pc : Int) + o).toNat = pc') (ky : x = y → Ok p l e R s m args below meth c own Z a0 EL n0 h0 ws wd Q sf h cells slots (mkF m pc' L S)) (kn : ¬ x = y → Ok p l e R s m args below meth c own Z a0 EL n0 h0 ws wd Q sf h cells slots (mkF m (pc + 3) L S)) : Ok p l e R s m args below meth c own Z a0 EL n0 h0 ws wd Q sf h cells slots (mkF m pc L (.int y :: .int x :: S)) := by
  by_cases q : x = y
  · exact ok_step (fun T t hA k => XS.icmpYes hA G.1 rfl rfl (hb G.2.1 hd) rfl (teq q).1 ho hp k) (ky q)
  · exact ok_step (fun T t hA k => XS.icmpNo hA G.1 rfl (hb G.2.1 hd) rfl (feq q).1 k) (kn q)
theorem ok_icmpeqY (G : Good p meth c code maxL ret nm) {pc : Nat} {L : Array Slot} {S : List Value} {x y : Int32} {o : Int} (pc' : Nat) (hd : decode code pc = .ok (.if_icmp .eq o, 3)) (ho : 0 ≤ (pc : Int) + o) (hp : ((pc : Int) + o).toNat = pc') (q : x = y) (k : Ok p l e R s m args below meth c own Z a0 EL n0 h0 ws wd Q sf h cells slots (mkF m pc' L S)) : Ok p l e R s m args below meth c own Z a0 EL n0 h0 ws wd Q sf h cells slots (mkF m pc L (.int y :: .int x :: S)) := ok_icmpeq G pc' hd ho hp (fun _ => k) (fun q' => absurd q q')
theorem ok_icmpeqN (G : Good p meth c code maxL ret nm) {pc : Nat} {L : Array Slot} {S : List Value} {x y : Int32} {o : Int} (hd : decode code pc = .ok (.if_icmp .eq o, 3)) (q : ¬ x = y) (k : Ok p l e R s m args below meth c own Z a0 EL n0 h0 ws wd Q sf h cells slots (mkF m (pc + 3) L S)) : Ok p l e R s m args below meth c own Z a0 EL n0 h0 ws wd Q sf h cells slots (mkF m pc L (.int y :: .int x :: S)) :=
  ok_step (fun T t hA k => XS.icmpNo hA G.1 rfl (hb G.2.1 hd) rfl (feq q).1 k) k
theorem ok_ifne (G : Good p meth c code maxL ret nm) {pc : Nat} {L : Array Slot} {S : List Value} {x : Int32} {o : Int} (pc' : Nat) (hd : decode code pc = .ok (.ifCond .ne o, 3)) (ho : 0 ≤ (pc : Int) + o) (hp : ((pc : Int) + o).toNat = pc') (ky : ¬ x = 0 → Ok p l e R s m args below meth c own Z a0 EL n0 h0 ws wd Q sf h cells slots (mkF m pc' L S)) (kn : x = 0 → Ok p l e R s m args below meth c own Z a0 EL n0 h0 ws wd Q sf h cells slots (mkF m (pc + 3) L S)) : Ok p l e R s m args below meth c own Z a0 EL n0 h0 ws wd Q sf h cells slots (mkF m pc L (.int x :: S)) := by
  by_cases q : x = 0
  · exact ok_step (fun T t hA k => XS.ifNo hA G.1 rfl (hb G.2.1 hd) rfl ((if0 _ _).trans (teq q).2) k) (kn q)
  · exact ok_step (fun T t hA k => XS.ifYes hA G.1 rfl rfl (hb G.2.1 hd) rfl ((if0 _ _).trans (feq q).2) ho hp k) (ky q)
theorem ok_ifneY (G : Good p meth c code maxL ret nm) {pc : Nat} {L : Array Slot} {S : List Value} {x : Int32} {o : Int} (pc' : Nat) (hd : decode code pc = .ok (.ifCond .ne o, 3)) (ho : 0 ≤ (pc : Int) + o) (hp : ((pc : Int) + o).toNat = pc') (q : ¬ x = 0) (k : Ok p l e R s m args below meth c own Z a0 EL n0 h0 ws wd Q sf h cells slots (mkF m pc' L S)) : Ok p l e R s m args below meth c own Z a0 EL n0 h0 ws wd Q sf h cells slots (mkF m pc L (.int x :: S)) := ok_ifne G pc' hd ho hp (fun _ => k) (fun q' => absurd q' q)
theorem ok_ifneN (G : Good p meth c code maxL ret nm) {pc : Nat} {L : Array Slot} {S : List Value} {x : Int32} {o : Int} (hd : decode code pc = .ok (.ifCond .ne o, 3)) (q : x = 0) (k : Ok p l e R s m args below meth c own Z a0 EL n0 h0 ws wd Q sf h cells slots (mkF m (pc + 3) L S)) : Ok p l e R s m args below meth c own Z a0 EL n0 h0 ws wd Q sf h cells slots (mkF m pc L (.int x :: S)) :=
  ok_step (fun T t hA k => XS.ifNo hA G.1 rfl (hb G.2.1 hd) rfl ((if0 _ _).trans (teq q).2) k) k
theorem ok_icmpne (G : Good p meth c code maxL ret nm) {pc : Nat} {L : Array Slot} {S : List Value} {x y : Int32} {o : Int} (pc' : Nat) (hd : decode code pc = .ok (.if_icmp .ne o, 3)) (ho : 0 ≤ (pc : Int) + o) (hp : ((pc : Int) + o).toNat = pc') (ky : ¬ x = y → Ok p l e R s m args below meth c own Z a0 EL n0 h0 ws wd Q sf h cells slots (mkF m pc' L S)) (kn : x = y → Ok p l e R s m args below meth c own Z a0 EL n0 h0 ws wd Q sf h cells slots (mkF m (pc + 3) L S)) : Ok p l e R s m args below meth c own Z a0 EL n0 h0 ws wd Q sf h cells slots (mkF m pc L (.int y :: .int x :: S)) := by
  by_cases q : x = y
  · exact ok_step (fun T t hA k => XS.icmpNo hA G.1 rfl (hb G.2.1 hd) rfl (teq q).2 k) (kn q)
  · exact ok_step (fun T t hA k => XS.icmpYes hA G.1 rfl rfl (hb G.2.1 hd) rfl (feq q).2 ho hp k) (ky q)
theorem ok_icmpneY (G : Good p meth c code maxL ret nm) {pc : Nat} {L : Array Slot} {S : List Value} {x y : Int32} {o : Int} (pc' : Nat) (hd : decode code pc = .ok (.if_icmp .ne o, 3)) (ho : 0 ≤ (pc : Int) + o) (hp : ((pc : Int) + o).toNat = pc') (q : ¬ x = y) (k : Ok p l e R s m args below meth c own Z a0 EL n0 h0 ws wd Q sf h cells slots (mkF m pc' L S)) : Ok p l e R s m args below meth c own Z a0 EL n0 h0 ws wd Q sf h cells slots (mkF m pc L (.int y :: .int x :: S)) := ok_icmpne G pc' hd ho hp (fun _ => k) (fun q' => absurd q' q)
theorem ok_icmpneN (G : Good p meth c code maxL ret nm) {pc : Nat} {L : Array Slot} {S : List Value} {x y : Int32} {o : Int} (hd : decode code pc = .ok (.if_icmp .ne o, 3)) (q : x = y) (k : Ok p l e R s m args below meth c own Z a0 EL n0 h0 ws wd Q sf h cells slots (mkF m (pc + 3) L S)) : Ok p l e R s m args below meth c own Z a0 EL n0 h0 ws wd Q sf h cells slots (mkF m pc L (.int y :: .int x :: S)) :=
  ok_step (fun T t hA k => XS.icmpNo hA G.1 rfl (hb G.2.1 hd) rfl (teq q).2 k) k
theorem ok_iflt (G : Good p meth c code maxL ret nm) {pc : Nat} {L : Array Slot} {S : List Value} {x : Int32} {o : Int} (pc' : Nat) (hd : decode code pc = .ok (.ifCond .lt o, 3)) (ho : 0 ≤ (pc : Int) + o) (hp : ((pc : Int) + o).toNat = pc') (ky : x < 0 → Ok p l e R s m args below meth c own Z a0 EL n0 h0 ws wd Q sf h cells slots (mkF m pc' L S)) (kn : ¬ x < 0 → Ok p l e R s m args below meth c own Z a0 EL n0 h0 ws wd Q sf h cells slots (mkF m (pc + 3) L S)) : Ok p l e R s m args below meth c own Z a0 EL n0 h0 ws wd Q sf h cells slots (mkF m pc L (.int x :: S)) := by
  by_cases q : x < 0
  · exact ok_step (fun T t hA k => XS.ifYes hA G.1 rfl rfl (hb G.2.1 hd) rfl ((if0 _ _).trans (tlt q).1) ho hp k) (ky q)
  · exact ok_step (fun T t hA k => XS.ifNo hA G.1 rfl (hb G.2.1 hd) rfl ((if0 _ _).trans (flt q).1) k) (kn q)
theorem ok_ifltY (G : Good p meth c code maxL ret nm) {pc : Nat} {L : Array Slot} {S : List Value} {x : Int32} {o : Int} (pc' : Nat) (hd : decode code pc = .ok (.ifCond .lt o, 3)) (ho : 0 ≤ (pc : Int) + o) (hp : ((pc : Int) + o).toNat = pc') (q : x < 0) (k : Ok p l e R s m args below meth c own Z a0 EL n0 h0 ws wd Q sf h cells slots (mkF m pc' L S)) : Ok p l e R s m args below meth c own Z a0 EL n0 h0 ws wd Q sf h cells slots (mkF m pc L (.int x :: S)) := ok_iflt G pc' hd ho hp (fun _ => k) (fun q' => absurd q q')
theorem ok_ifltN (G : Good p meth c code maxL ret nm) {pc : Nat} {L : Array Slot} {S : List Value} {x : Int32} {o : Int} (hd : decode code pc = .ok (.ifCond .lt o, 3)) (q : ¬ x < 0) (k : Ok p l e R s m args below meth c own Z a0 EL n0 h0 ws wd Q sf h cells slots (mkF m (pc + 3) L S)) : Ok p l e R s m args below meth c own Z a0 EL n0 h0 ws wd Q sf h cells slots (mkF m pc L (.int x :: S)) :=
  ok_step (fun T t hA k => XS.ifNo hA G.1 rfl (hb G.2.1 hd) rfl ((if0 _ _).trans (flt q).1) k) k
theorem ok_icmplt (G : Good p meth c code maxL ret nm) {pc : Nat} {L : Array Slot} {S : List Value} {x y : Int32} {o : Int} (pc' : Nat) (hd : decode code pc = .ok (.if_icmp .lt o, 3)) (ho : 0 ≤ (pc : Int) + o) (hp : ((pc : Int) + o).toNat = pc') (ky : x < y → Ok p l e R s m args below meth c own Z a0 EL n0 h0 ws wd Q sf h cells slots (mkF m pc' L S)) (kn : ¬ x < y → Ok p l e R s m args below meth c own Z a0 EL n0 h0 ws wd Q sf h cells slots (mkF m (pc + 3) L S)) : Ok p l e R s m args below meth c own Z a0 EL n0 h0 ws wd Q sf h cells slots (mkF m pc L (.int y :: .int x :: S)) := by
  by_cases q : x < y
  · exact ok_step (fun T t hA k => XS.icmpYes hA G.1 rfl rfl (hb G.2.1 hd) rfl (tlt q).1 ho hp k) (ky q)
  · exact ok_step (fun T t hA k => XS.icmpNo hA G.1 rfl (hb G.2.1 hd) rfl (flt q).1 k) (kn q)
theorem ok_icmpltY (G : Good p meth c code maxL ret nm) {pc : Nat} {L : Array Slot} {S : List Value} {x y : Int32} {o : Int} (pc' : Nat) (hd : decode code pc = .ok (.if_icmp .lt o, 3)) (ho : 0 ≤ (pc : Int) + o) (hp : ((pc : Int) + o).toNat = pc') (q : x < y) (k : Ok p l e R s m args below meth c own Z a0 EL n0 h0 ws wd Q sf h cells slots (mkF m pc' L S)) : Ok p l e R s m args below meth c own Z a0 EL n0 h0 ws wd Q sf h cells slots (mkF m pc L (.int y :: .int x :: S)) := ok_icmplt G pc' hd ho hp (fun _ => k) (fun q' => absurd q q')
theorem ok_icmpltN (G : Good p meth c code maxL ret nm) {pc : Nat} {L : Array Slot} {S : List Value} {x y : Int32} {o : Int} (hd : decode code pc = .ok (.if_icmp .lt o, 3)) (q : ¬ x < y) (k : Ok p l e R s m args below meth c own Z a0 EL n0 h0 ws wd Q sf h cells slots (mkF m (pc + 3) L S)) : Ok p l e R s m args below meth c own Z a0 EL n0 h0 ws wd Q sf h cells slots (mkF m pc L (.int y :: .int x :: S)) :=
  ok_step (fun T t hA k => XS.icmpNo hA G.1 rfl (hb G.2.1 hd) rfl (flt q).1 k) k
theorem ok_ifge (G : Good p meth c code maxL ret nm) {pc : Nat} {L : Array Slot} {S : List Value} {x : Int32} {o : Int} (pc' : Nat) (hd : decode code pc = .ok (.ifCond .ge o, 3)) (ho : 0 ≤ (pc : Int) + o) (hp : ((pc : Int) + o).toNat = pc') (ky : ¬ x < 0 → Ok p l e R s m args below meth c own Z a0 EL n0 h0 ws wd Q sf h cells slots (mkF m pc' L S)) (kn : x < 0 → Ok p l e R s m args below meth c own Z a0 EL n0 h0 ws wd Q sf h cells slots (mkF m (pc + 3) L S)) : Ok p l e R s m args below meth c own Z a0 EL n0 h0 ws wd Q sf h cells slots (mkF m pc L (.int x :: S)) := by
  by_cases q : x < 0
  · exact ok_step (fun T t hA k => XS.ifNo hA G.1 rfl (hb G.2.1 hd) rfl ((if0 _ _).trans (tlt q).2.1) k) (kn q)
  · exact ok_step (fun T t hA k => XS.ifYes hA G.1 rfl rfl (hb G.2.1 hd) rfl ((if0 _ _).trans (flt q).2.1) ho hp k) (ky q)
theorem ok_ifgeY (G : Good p meth c code maxL ret nm) {pc : Nat} {L : Array Slot} {S : List Value} {x : Int32} {o : Int} (pc' : Nat) (hd : decode code pc = .ok (.ifCond .ge o, 3)) (ho : 0 ≤ (pc : Int) + o) (hp : ((pc : Int) + o).toNat = pc') (q : ¬ x < 0) (k : Ok p l e R s m args below meth c own Z a0 EL n0 h0 ws wd Q sf h cells slots (mkF m pc' L S)) : Ok p l e R s m args below meth c own Z a0 EL n0 h0 ws wd Q sf h cells slots (mkF m pc L (.int x :: S)) := ok_ifge G pc' hd ho hp (fun _ => k) (fun q' => absurd q' q)
theorem ok_ifgeN (G : Good p meth c code maxL ret nm) {pc : Nat} {L : Array Slot} {S : List Value} {x : Int32} {o : Int} (hd : decode code pc = .ok (.ifCond .ge o, 3)) (q : x < 0) (k : Ok p l e R s m args below meth c own Z a0 EL n0 h0 ws wd Q sf h cells slots (mkF m (pc + 3) L S)) : Ok p l e R s m args below meth c own Z a0 EL n0 h0 ws wd Q sf h cells slots (mkF m pc L (.int x :: S)) :=
  ok_step (fun T t hA k => XS.ifNo hA G.1 rfl (hb G.2.1 hd) rfl ((if0 _ _).trans (tlt q).2.1) k) k
theorem ok_icmpge (G : Good p meth c code maxL ret nm) {pc : Nat} {L : Array Slot} {S : List Value} {x y : Int32} {o : Int} (pc' : Nat) (hd : decode code pc = .ok (.if_icmp .ge o, 3)) (ho : 0 ≤ (pc : Int) + o) (hp : ((pc : Int) + o).toNat = pc') (ky : ¬ x < y → Ok p l e R s m args below meth c own Z a0 EL n0 h0 ws wd Q sf h cells slots (mkF m pc' L S)) (kn : x < y → Ok p l e R s m args below meth c own Z a0 EL n0 h0 ws wd Q sf h cells slots (mkF m (pc + 3) L S)) : Ok p l e R s m args below meth c own Z a0 EL n0 h0 ws wd Q sf h cells slots (mkF m pc L (.int y :: .int x :: S)) := by
  by_cases q : x < y
  · exact ok_step (fun T t hA k => XS.icmpNo hA G.1 rfl (hb G.2.1 hd) rfl (tlt q).2.1 k) (kn q)
  · exact ok_step (fun T t hA k => XS.icmpYes hA G.1 rfl rfl (hb G.2.1 hd) rfl (flt q).2.1 ho hp k) (ky q)
theorem ok_icmpgeY (G : Good p meth c code maxL ret nm) {pc : Nat} {L : Array Slot} {S : List Value} {x y : Int32} {o : Int} (pc' : Nat) (hd : decode code pc = .ok (.if_icmp .ge o, 3)) (ho : 0 ≤ (pc : Int) + o) (hp : ((pc : Int) + o).toNat = pc') (q : ¬ x < y) (k : Ok p l e R s m args below meth c own Z a0 EL n0 h0 ws wd Q sf h cells slots (mkF m pc' L S)) : Ok p l e R s m args below meth c own Z a0 EL n0 h0 ws wd Q sf h cells slots (mkF m pc L (.int y :: .int x :: S)) := ok_icmpge G pc' hd ho hp (fun _ => k) (fun q' => absurd q' q)
theorem ok_icmpgeN (G : Good p meth c code maxL ret nm) {pc : Nat} {L : Array Slot} {S : List Value} {x y : Int32} {o : Int} (hd : decode code pc = .ok (.if_icmp .ge o, 3)) (q : x < y) (k : Ok p l e R s m args below meth c own Z a0 EL n0 h0 ws wd Q sf h cells slots (mkF m (pc + 3) L S)) : Ok p l e R s m args below meth c own Z a0 EL n0 h0 ws wd Q sf h cells slots (mkF m pc L (.int y :: .int x :: S)) :=
  ok_step (fun T t hA k => XS.icmpNo hA G.1 rfl (hb G.2.1 hd) rfl (tlt q).2.1 k) k
theorem ok_ifgt (G : Good p meth c code maxL ret nm) {pc : Nat} {L : Array Slot} {S : List Value} {x : Int32} {o : Int} (pc' : Nat) (hd : decode code pc = .ok (.ifCond .gt o, 3)) (ho : 0 ≤ (pc : Int) + o) (hp : ((pc : Int) + o).toNat = pc') (ky : (0 : Int32) < x → Ok p l e R s m args below meth c own Z a0 EL n0 h0 ws wd Q sf h cells slots (mkF m pc' L S)) (kn : ¬ (0 : Int32) < x → Ok p l e R s m args below meth c own Z a0 EL n0 h0 ws wd Q sf h cells slots (mkF m (pc + 3) L S)) : Ok p l e R s m args below meth c own Z a0 EL n0 h0 ws wd Q sf h cells slots (mkF m pc L (.int x :: S)) := by
  by_cases q : (0 : Int32) < x
  · exact ok_step (fun T t hA k => XS.ifYes hA G.1 rfl rfl (hb G.2.1 hd) rfl ((if0 _ _).trans (tlt q).2.2.1) ho hp k) (ky q)
  · exact ok_step (fun T t hA k => XS.ifNo hA G.1 rfl (hb G.2.1 hd) rfl ((if0 _ _).trans (flt q).2.2.1) k) (kn q)
theorem ok_ifgtY (G : Good p meth c code maxL ret nm) {pc : Nat} {L : Array Slot} {S : List Value} {x : Int32} {o : Int} (pc' : Nat) (hd : decode code pc = .ok (.ifCond .gt o, 3)) (ho : 0 ≤ (pc : Int) + o) (hp : ((pc : Int) + o).toNat = pc') (q : (0 : Int32) < x) (k : Ok p l e R s m args below meth c own Z a0 EL n0 h0 ws wd Q sf h cells slots (mkF m pc' L S)) : Ok p l e R s m args below meth c own Z a0 EL n0 h0 ws wd Q sf h cells slots (mkF m pc L (.int x :: S)) := ok_ifgt G pc' hd ho hp (fun _ => k) (fun q' => absurd q q')
theorem ok_ifgtN (G : Good p meth c code maxL ret nm) {pc : Nat} {L : Array Slot} {S : List Value} {x : Int32} {o : Int} (hd : decode code pc = .ok (.ifCond .gt o, 3)) (q : ¬ (0 : Int32) < x) (k : Ok p l e R s m args below meth c own Z a0 EL n0 h0 ws wd Q sf h cells slots (mkF m (pc + 3) L S)) : Ok p l e R s m args below meth c own Z a0 EL n0 h0 ws wd Q sf h cells slots (mkF m pc L (.int x :: S)) :=
  ok_step (fun T t hA k => XS.ifNo hA G.1 rfl (hb G.2.1 hd) rfl ((if0 _ _).trans (flt q).2.2.1) k) k
theorem ok_icmpgt (G : Good p meth c code maxL ret nm) {pc : Nat} {L : Array Slot} {S : List Value} {x y : Int32} {o : Int} (pc' : Nat) (hd : decode code pc = .ok (.if_icmp .gt o, 3)) (ho : 0 ≤ (pc : Int) + o) (hp : ((pc : Int) + o).toNat = pc') (ky : y < x → Ok p l e R s m args below meth c own Z a0 EL n0 h0 ws wd Q sf h cells slots (mkF m pc' L S)) (kn : ¬ y < x → Ok p l e R s m args below meth c own Z a0 EL n0 h0 ws wd Q sf h cells slots (mkF m (pc + 3) L S)) : Ok p l e R s m args below meth c own Z a0 EL n0 h0 ws wd Q sf h cells slots (mkF m pc L (.int y :: .int x :: S)) := by
  by_cases q : y < x
  · exact ok_step (fun T t hA k => XS.icmpYes hA G.1 rfl rfl (hb G.2.1 hd) rfl (tlt q).2.2.1 ho hp k) (ky q)
  · exact ok_step (fun T t hA k => XS.icmpNo hA G.1 rfl (hb G.2.1 hd) rfl (flt q).2.2.1 k) (kn q)
theorem ok_icmpgtY (G : Good p meth c code maxL ret nm) {pc : Nat} {L : Array Slot} {S : List Value} {x y : Int32} {o : Int} (pc' : Nat) (hd : decode code pc = .ok (.if_icmp .gt o, 3)) (ho : 0 ≤ (pc : Int) + o) (hp : ((pc : Int) + o).toNat = pc') (q : y < x) (k : Ok p l e R s m args below meth c own Z a0 EL n0 h0 ws wd Q sf h cells slots (mkF m pc' L S)) : Ok p l e R s m args below meth c own Z a0 EL n0 h0 ws wd Q sf h cells slots (mkF m pc L (.int y :: .int x :: S)) := ok_icmpgt G pc' hd ho hp (fun _ => k) (fun q' => absurd q q')
theorem ok_icmpgtN (G : Good p meth c code maxL ret nm) {pc : Nat} {L : Array Slot} {S : List Value} {x y : Int32} {o : Int} (hd : decode code pc = .ok (.if_icmp .gt o, 3)) (q : ¬ y < x) (k : Ok p l e R s m args below meth c own Z a0 EL n0 h0 ws wd Q sf h cells slots (mkF m (pc + 3) L S)) : Ok p l e R s m args below meth c own Z a0 EL n0 h0 ws wd Q sf h cells slots (mkF m pc L (.int y :: .int x :: S)) :=
  ok_step (fun T t hA k => XS.icmpNo hA G.1 rfl (hb G.2.1 hd) rfl (flt q).2.2.1 k) k
theorem ok_ifle (G : Good p meth c code maxL ret nm) {pc : Nat} {L : Array Slot} {S : List Value} {x : Int32} {o : Int} (pc' : Nat) (hd : decode code pc = .ok (.ifCond .le o, 3)) (ho : 0 ≤ (pc : Int) + o) (hp : ((pc : Int) + o).toNat = pc') (ky : ¬ (0 : Int32) < x → Ok p l e R s m args below meth c own Z a0 EL n0 h0 ws wd Q sf h cells slots (mkF m pc' L S)) (kn : (0 : Int32) < x → Ok p l e R s m args below meth c own Z a0 EL n0 h0 ws wd Q sf h cells slots (mkF m (pc + 3) L S)) : Ok p l e R s m args below meth c own Z a0 EL n0 h0 ws wd Q sf h cells slots (mkF m pc L (.int x :: S)) := by
  by_cases q : (0 : Int32) < x
  · exact ok_step (fun T t hA k => XS.ifNo hA G.1 rfl (hb G.2.1 hd) rfl ((if0 _ _).trans (tlt q).2.2.2) k) (kn q)
  · exact ok_step (fun T t hA k => XS.ifYes hA G.1 rfl rfl (hb G.2.1 hd) rfl ((if0 _ _).trans (flt q).2.2.2) ho hp k) (ky q)
theorem ok_ifleY (G : Good p meth c code maxL ret nm) {pc : Nat} {L : Array Slot} {S : List Value} {x : Int32} {o : Int} (pc' : Nat) (hd : decode code pc = .ok (.ifCond .le o, 3)) (ho : 0 ≤ (pc : Int) + o) (hp : ((pc : Int) + o).toNat = pc') (q : ¬ (0 : Int32) < x) (k : Ok p l e R s m args below meth c own Z a0 EL n0 h0 ws wd Q sf h cells slots (mkF m pc' L S)) : Ok p l e R s m args below meth c own Z a0 EL n0 h0 ws wd Q sf h cells slots (mkF m pc L (.int x :: S)) := ok_ifle G pc' hd ho hp (fun _ => k) (fun q' => absurd q' q)
theorem ok_ifleN (G : Good p meth c code maxL ret nm) {pc : Nat} {L : Array Slot} {S : List Value} {x : Int32} {o : Int} (hd : decode code pc = .ok (.ifCond .le o, 3)) (q : (0 : Int32) < x) (k : Ok p l e R s m args below meth c own Z a0 EL n0 h0 ws wd Q sf h cells slots (mkF m (pc + 3) L S)) : Ok p l e R s m args below meth c own Z a0 EL n0 h0 ws wd Q sf h cells slots (mkF m pc L (.int x :: S)) :=
  ok_step (fun T t hA k => XS.ifNo hA G.1 rfl (hb G.2.1 hd) rfl ((if0 _ _).trans (tlt q).2.2.2) k) k
theorem ok_icmple (G : Good p meth c code maxL ret nm) {pc : Nat} {L : Array Slot} {S : List Value} {x y : Int32} {o : Int} (pc' : Nat) (hd : decode code pc = .ok (.if_icmp .le o, 3)) (ho : 0 ≤ (pc : Int) + o) (hp : ((pc : Int) + o).toNat = pc') (ky : ¬ y < x → Ok p l e R s m args below meth c own Z a0 EL n0 h0 ws wd Q sf h cells slots (mkF m pc' L S)) (kn : y < x → Ok p l e R s m args below meth c own Z a0 EL n0 h0 ws wd Q sf h cells slots (mkF m (pc + 3) L S)) : Ok p l e R s m args below meth c own Z a0 EL n0 h0 ws wd Q sf h cells slots (mkF m pc L (.int y :: .int x :: S)) := by
  by_cases q : y < x
  · exact ok_step (fun T t hA k => XS.icmpNo hA G.1 rfl (hb G.2.1 hd) rfl (tlt q).2.2.2 k) (kn q)
  · exact ok_step (fun T t hA k => XS.icmpYes hA G.1 rfl rfl (hb G.2.1 hd) rfl (flt q).2.2.2 ho hp k) (ky q)
theorem ok_icmpleY (G : Good p meth c code maxL ret nm) {pc : Nat} {L : Array Slot} {S : List Value} {x y : Int32} {o : Int} (pc' : Nat) (hd : decode code pc = .ok (.if_icmp .le o, 3)) (ho : 0 ≤ (pc : Int) + o) (hp : ((pc : Int) + o).toNat = pc') (q : ¬ y < x) (k : Ok p l e R s m args below meth c own Z a0 EL n0 h0 ws wd Q sf h cells slots (mkF m pc' L S)) : Ok p l e R s m args below meth c own Z a0 EL n0 h0 ws wd Q sf h cells slots (mkF m pc L (.int y :: .int x :: S)) := ok_icmple G pc' hd ho hp (fun _ => k) (fun q' => absurd q' q)
theorem ok_icmpleN (G : Good p meth c code maxL ret nm) {pc : Nat} {L : Array Slot} {S : List Value} {x y : Int32} {o : Int} (hd : decode code pc = .ok (.if_icmp .le o, 3)) (q : y < x) (k : Ok p l e R s m args below meth c own Z a0 EL n0 h0 ws wd Q sf h cells slots (mkF m (pc + 3) L S)) : Ok p l e R s m args below meth c own Z a0 EL n0 h0 ws wd Q sf h cells slots (mkF m pc L (.int y :: .int x :: S)) :=
  ok_step (fun T t hA k => XS.icmpNo hA G.1 rfl (hb G.2.1 hd) rfl (tlt q).2.2.2 k) k
theorem ok_ifnullY (G : Good p meth c code maxL ret nm) {pc : Nat} {L : Array Slot} {S : List Value} {o : Int} (pc' : Nat) (hd : decode code pc = .ok (.ifnull o, 3)) (ho : 0 ≤ (pc : Int) + o) (hp : ((pc : Int) + o).toNat = pc') (k : Ok p l e R s m args below meth c own Z a0 EL n0 h0 ws wd Q sf h cells slots (mkF m pc' L S)) : Ok p l e R s m args below meth c own Z a0 EL n0 h0 ws wd Q sf h cells slots (mkF m pc L (.null :: S)) := ok_step (fun T t hA k => XS.ifnullYes hA G.1 rfl rfl (hb G.2.1 hd) rfl ho hp k) k
theorem ok_ifnullN (G : Good p meth c code maxL ret nm) {pc : Nat} {L : Array Slot} {S : List Value} {o : Int} {b : Addr} (hd : decode code pc = .ok (.ifnull o, 3)) (k : Ok p l e R s m args below meth c own Z a0 EL n0 h0 ws wd Q sf h cells slots (mkF m (pc + 3) L S)) : Ok p l e R s m args below meth c own Z a0 EL n0 h0 ws wd Q sf h cells slots (mkF m pc L (.ref b :: S)) := ok_step (fun T t hA k => XS.ifnullNo hA G.1 rfl (hb G.2.1 hd) rfl k) k
theorem ok_ifnonnullY (G : Good p meth c code maxL ret nm) {pc : Nat} {L : Array Slot} {S : List Value} {o : Int} {b : Addr} (pc' : Nat) (hd : decode code pc = .ok (.ifnonnull o, 3)) (ho : 0 ≤ (pc : Int) + o) (hp : ((pc : Int) + o).toNat = pc') (k : Ok p l e R s m args below meth c own Z a0 EL n0 h0 ws wd Q sf h cells slots (mkF m pc' L S)) : Ok p l e R s m args below meth c own Z a0 EL n0 h0 ws wd Q sf h cells slots (mkF m pc L (.ref b :: S)) := ok_step (fun T t hA k => XS.ifnonnullYes hA G.1 rfl rfl (hb G.2.1 hd) rfl ho hp k) k
theorem ok_ifnonnullN (G : Good p meth c code maxL ret nm) {pc : Nat} {L : Array Slot} {S : List Value} {o : Int} (hd : decode code pc = .ok (.ifnonnull o, 3)) (k : Ok p l e R s m args below meth c own Z a0 EL n0 h0 ws wd Q sf h cells slots (mkF m (pc + 3) L S)) : Ok p l e R s m args below meth c own Z a0 EL n0 h0 ws wd Q sf h cells slots (mkF m pc L (.null :: S)) := ok_step (fun T t hA k => XS.ifnonnullNo hA G.1 rfl (hb G.2.1 hd) rfl k) k
theorem ok_acmp (G : Good p meth c code maxL ret nm) {pc : Nat} {L : Array Slot} {S : List Value} {o : Int} {cd : ClassFile.ACond} {v w : Value} (same : Bool) (pc' : Nat) (hd : decode code pc = .ok (.if_acmp cd o, 3)) (h1 : v.isRef = true) (h2 : w.isRef = true) (hq : decide (v = w) = same) (ho : 0 ≤ (pc : Int) + o) (hp : pc' = if acV cd same = true then ((pc : Int) + o).toNat else pc + 3) (k : Ok p l e R s m args below meth c own Z a0 EL n0 h0 ws wd Q sf h cells slots (mkF m pc' L S)) : Ok p l e R s m args below meth c own Z a0 EL n0 h0 ws wd Q sf h cells slots (mkF m pc L (w :: v :: S)) :=
  ok_stepT (fun vm T locs X e0 hZ hown O => ⟨T, X, e0, fun t k => Jvm.RoadKit.acmp X G.1 rfl h1 h2 rfl (hb G.2.1 hd) rfl hq ho hp k⟩) k
theorem ok_ldcI (G : Good p meth c code maxL ret nm) {pc : Nat} {L : Array Slot} {S : List Value} {i : Nat} {v : Int32} (w : (Jvm.Cond.constant own i v).before a0 Z = true) (hd : decode code pc = .ok (.ldc i, 2)) (k : Ok p l e R s m args below meth c own Z a0 EL n0 h0 ws wd Q sf h cells slots (mkF m (pc + 2) L (.int v :: S))) : Ok p l e R s m args below meth c own Z a0 EL n0 h0 ws wd Q sf h cells slots (mkF m pc L S) :=
  ok_stepT (fun vm T locs X e0 hZ hown O => ⟨T, X, e0, fun t k => X.ldcInt G.1 hown (mvT (s := s.setVm vm) hZ w) (g := mkF m pc L S) rfl (hb G.2.1 hd) t k⟩) k
theorem ok_ldcJ (G : Good p meth c code maxL ret nm) {pc : Nat} {L : Array Slot} {S : List Value} {i : Nat} {v : Int64} (w : (Jvm.Cond.constantLong own i v).before a0 Z = true) (hd : decode code pc = .ok (.ldc2_w i, 3)) (k : Ok p l e R s m args below meth c own Z a0 EL n0 h0 ws wd Q sf h cells slots (mkF m (pc + 3) L (.long v :: S))) : Ok p l e R s m args below meth c own Z a0 EL n0 h0 ws wd Q sf h cells slots (mkF m pc L S) :=
  ok_stepT (fun vm T locs X e0 hZ hown O => ⟨T, X, e0, fun t k => X.ldc2Long G.1 hown (mvT (s := s.setVm vm) hZ w) (g := mkF m pc L S) rfl (hb G.2.1 hd) t k⟩) k
theorem ok_nameI {pc : Nat} {L : Array Slot} {S : List Value} {x : Int32} (k : ∀ z, z = x → Ok p l e R s m args below meth c own Z a0 EL n0 h0 ws wd Q sf h cells slots (mkF m pc L (.int z :: S))) : Ok p l e R s m args below meth c own Z a0 EL n0 h0 ws wd Q sf h cells slots (mkF m pc L (.int x :: S)) := k x rfl
theorem ok_nameJ {pc : Nat} {L : Array Slot} {S : List Value} {x : Int64} (k : ∀ z, z = x → Ok p l e R s m args below meth c own Z a0 EL n0 h0 ws wd Q sf h cells slots (mkF m pc L (.long z :: S))) : Ok p l e R s m args below meth c own Z a0 EL n0 h0 ws wd Q sf h cells slots (mkF m pc L (.long x :: S)) := k x rfl
theorem ok_sayI {pc : Nat} {L : Array Slot} {S : List Value} {x : Int32} (z : Int32) (q : x = z) (k : Ok p l e R s m args below meth c own Z a0 EL n0 h0 ws wd Q sf h cells slots (mkF m pc L (.int z :: S))) : Ok p l e R s m args below meth c own Z a0 EL n0 h0 ws wd Q sf h cells slots (mkF m pc L (.int x :: S)) := q ▸ k
theorem ok_sayJ {pc : Nat} {L : Array Slot} {S : List Value} {x : Int64} (z : Int64) (q : x = z) (k : Ok p l e R s m args below meth c own Z a0 EL n0 h0 ws wd Q sf h cells slots (mkF m pc L (.long z :: S))) : Ok p l e R s m args below meth c own Z a0 EL n0 h0 ws wd Q sf h cells slots (mkF m pc L (.long x :: S)) := q ▸ k
end Plain
end Jvm.Pilot.@@N@@.Own
namespace Jvm.Pilot.@@N@@.Own
open Jvm Jvm.ClassFile Sem Op Lib Jvm.Free Jvm.Stand Jvm.LawKit Jvm.RoadKit Bundle
section Heaps
variable {p : Program} {l : Launch} {e : Env} {R : Room} {s : State} {m : MethodId} {args : Array Value} {below : List Frame} {meth : Method} {c : Code}
  {own : String} {Z : State} {a0 : Array Value} {EL : List (String × Nat)} {n0 : Nat} {h0 : Heap} {ws : List Addr} {wd : Bool} {Q : Option Value → Heap → Prop}
  {sf : List Addr} {h : Heap} {cells slots : Nat} {code : ByteArray} {maxL : Nat} {ret : Option FieldType} {nm : String} {a : Addr}
theorem ok_getF (G : Good p meth c code maxL ret nm) {pc : Nat} {L : Array Slot} {S : List Value} {R0 O n d host : String} {index : Nat} (w : (Jvm.Cond.fieldLink own index R0 n d).before a0 Z = true ∨ (Jvm.Cond.fieldLinkNest own index R0 n d host).before a0 Z = true) (via : Via Z R0 O n d) {v : Value} (F : Fld Z h a O n d v) (hd : decode code pc = .ok (.getfield index, 3))
    (k : Ok p l e R s m args below meth c own Z a0 EL n0 h0 ws wd Q sf h cells slots (mkF m (pc + 3) L (v :: S))) : Ok p l e R s m args below meth c own Z a0 EL n0 h0 ws wd Q sf h cells slots (mkF m pc L (.ref a :: S)) :=
  ok_stepT (fun vm T locs X e0 hZ hown O => getF X G.1 hZ hown w via e0 F (g := mkF m pc L (.ref a :: S)) rfl rfl (hb G.2.1 hd)) k
theorem ok_getS (G : Good p meth c code maxL ret nm) {pc : Nat} {L : Array Slot} {S : List Value} {R0 O n d host : String} {index : Nat} (w : (Jvm.Cond.fieldLink own index R0 n d).before a0 Z = true ∨ (Jvm.Cond.fieldLinkNest own index R0 n d host).before a0 Z = true) (via : Via Z R0 O n d) {v : Value} (F : Sta Z Z.heap O n d v) (hd : decode code pc = .ok (.getstatic index, 3))
    (k : Ok p l e R s m args below meth c own Z a0 EL n0 h0 ws wd Q sf h cells slots (mkF m (pc + 3) L (v :: S))) : Ok p l e R s m args below meth c own Z a0 EL n0 h0 ws wd Q sf h cells slots (mkF m pc L S) :=
  ok_stepT (fun vm T locs X e0 hZ hown O' => getS2 X G.1 hZ hown w via e0 (F.ext O'.2) (g := mkF m pc L S) rfl (hb G.2.1 hd)) k
theorem ok_putF (G : Good p meth c code maxL ret nm) {pc : Nat} {L : Array Slot} {S : List Value} {R0 O n d host C : String} {index kk : Nat} {ty : FieldType} (w : (Jvm.Cond.fieldLink own index R0 n d).before a0 Z = true ∨ (Jvm.Cond.fieldLinkNest own index R0 n d host).before a0 Z = true) (via : Via Z R0 O n d) {v old : Value} (F : Fld Z h a O n d old) (E : Exa Z h a C)
    (Lw : (Jvm.Cond.lays C O n d).before a0 Z = true ∨ ((Jvm.Cond.laysFinal C O n d).before a0 Z = true ∧ own = O ∧ nm = "<init>")) (wi : (Jvm.Cond.instantiable C kk).before a0 Z = true) (hty : parseFieldDescriptor d = some ty) (hn : narrow ty v = v) (hf : fits ty v = true) (hd : decode code pc = .ok (.putfield index, 3))
    (hg : n0 ≤ a) (hw : a ∈ ws ∨ h0.size ≤ a) (hs : SafeFor wd Z EL sf h a)
    (k : ∀ h', Keep h h' [a] → Wr h h' a (Jvm.RoadKit.slotOf Z O n d) v → Fld Z h' a O n d v → Ok p l e R s m args below meth c own Z a0 EL n0 h0 ws wd Q sf h' cells slots (mkF m (pc + 3) L S)) : Ok p l e R s m args below meth c own Z a0 EL n0 h0 ws wd Q sf h cells slots (mkF m pc L (v :: .ref a :: S)) :=
  ok_stepW hg hw hs (fun vm T locs X e0 hZ hown O => putF X G.1 hZ hown w via e0 F E (Lw.imp id fun q => ⟨q.1, q.2.1, G.2.2.2.2.2.trans q.2.2⟩) wi hty hn hf (g := mkF m pc L (v :: .ref a :: S)) rfl rfl (hb G.2.1 hd)) (fun h' K W => k h' K W (F.same W))
theorem ok_new (G : Good p meth c code maxL ret nm) {pc : Nat} {L : Array Slot} {S : List Value} {C : String} {index n : Nat} (w : (Jvm.Cond.classLink own index C).before a0 Z = true) (wi : (Jvm.Cond.instantiable C n).before a0 Z = true) (wz : (Jvm.Cond.initialized C).before a0 Z = true) (hd : decode code pc = .ok (.new index, 3)) (hc : cells + 1 ≤ R.cells) (hl : slots + n ≤ R.slots)
    (k : ∀ h' a, a = h.size → Keep h h' [] → n0 ≤ a → h0.size ≤ a → Exa Z h' a C → (∀ (O nm d : String) (ty : FieldType), Laid Z a0 C O nm d → parseFieldDescriptor d = some ty → Fld Z h' a O nm d (defaultValue ty)) → Ok p l e R s m args below meth c own Z a0 EL n0 h0 ws wd Q (a :: sf) h' (cells + 1) (slots + n) (mkF m (pc + 3) L (.ref a :: S))) :
    Ok p l e R s m args below meth c own Z a0 EL n0 h0 ws wd Q sf h cells slots (mkF m pc L S) :=
  ok_stepE (sf' := h.size :: sf) (P := fun h' => Exa Z h' h.size C ∧ ∀ (O nm d : String) (ty : FieldType), Laid Z a0 C O nm d → parseFieldDescriptor d = some ty → Fld Z h' h.size O nm d (defaultValue ty)) (fun x hx => (List.mem_cons.mp hx).elim Or.inr Or.inl)
    (fun vm T locs X e0 hZ hown O => by
      obtain ⟨T', h', X', e1, E, A, D, -, st⟩ := newO X G.1 hZ hown w wi wz e0 (g := mkF m pc L S) rfl (hb G.2.1 hd) hc hl
      exact ⟨T', h', X', e1, E, A.lt, ⟨A, fun O nm d ty q1 q2 => D q1 q2⟩, st⟩) (fun h' K q1 q2 P => k h' h.size rfl K q1 q2 P.1 P.2)
theorem ok_newP (G : Good p meth c code maxL ret nm) {pc : Nat} {L : Array Slot} {S : List Value} {aty : ArrayType} {n : Int32} (w : (Jvm.Cond.arrayClass (newarray.typeOf aty)).before a0 Z = true) (hd : decode code pc = .ok (.newarray aty, 2)) (hn : ¬ n < 0) (cap : Nat) (hcap : n.toNatClampNeg ≤ cap) (hbig : cap * 8 ≤ 536870912) (hc : cells + 1 ≤ R.cells) (hl : slots + cap ≤ R.slots)
    (k : ∀ h' a kA, a = h.size → Keep h h' [] → n0 ≤ a → h0.size ≤ a → Arv Z h' a kA (newarray.typeOf aty) n [] (defaultValue (newarray.typeOf aty)) → Ok p l e R s m args below meth c own Z a0 EL n0 h0 ws wd Q (a :: sf) h' (cells + 1) (slots + cap) (mkF m (pc + 2) L (.ref a :: S))) :
    Ok p l e R s m args below meth c own Z a0 EL n0 h0 ws wd Q sf h cells slots (mkF m pc L (.int n :: S)) :=
  ok_stepE (sf' := h.size :: sf) (P := fun h' => ∃ kA, Arv Z h' h.size kA (newarray.typeOf aty) n [] (defaultValue (newarray.typeOf aty))) (fun x hx => (List.mem_cons.mp hx).elim Or.inr Or.inl)
    (fun vm T locs X e0 hZ hown O => by
      obtain ⟨T', h', kA, X', e1, E, A, st⟩ := newP X G.1 hZ w e0 (g := mkF m pc L (.int n :: S)) rfl (hb G.2.1 hd) rfl hn hcap hbig hc hl
      exact ⟨T', h', X', e1, E, A.lt, ⟨kA, Arv.new A hn⟩, st⟩) (fun h' K q1 q2 P => by obtain ⟨kA, P⟩ := P; exact k h' h.size kA rfl K q1 q2 P)
theorem ok_castore (G : Good p meth c code maxL ret nm) {pc : Nat} {L : Array Slot} {S : List Value} {kA : ClassId} {z j : Int32} {x : Int32} (x' : Int32) {vs : List Value} {dv : Value} (i : Nat) (F : Arv Z h a kA .char z vs dv) (hj : ¬ j < 0 ∧ j < z) (hi : j.toNatClampNeg = i) (hi' : i < vs.length) (hv : nar .char x = x') (hd : decode code pc = .ok (.castore, 1))
    (hg : n0 ≤ a) (hw : a ∈ ws ∨ h0.size ≤ a) (hs : SafeFor wd Z EL sf h a)
    (k : ∀ h', Keep h h' [a] → Arv Z h' a kA .char z (vs.set i (.int x')) dv → Ok p l e R s m args below meth c own Z a0 EL n0 h0 ws wd Q sf h' cells slots (mkF m (pc + 1) L S)) : Ok p l e R s m args below meth c own Z a0 EL n0 h0 ws wd Q sf h cells slots (mkF m pc L (.int x :: .int j :: .ref a :: S)) := by
  subst hv
  obtain ⟨cl, A, q, Sz, N, H, U⟩ := F
  exact ok_stepW hg hw hs (fun vm T locs X e0 hZ hown O => stC X G.1 hZ e0 A (inb_of Sz hj) (g := mkF m pc L (.int x :: .int j :: .ref a :: S)) rfl rfl (hb G.2.1 hd)) (fun h' K W => k h' K (Arv.set A q Sz N H U (fits_nar_char _) W i hi hi'))
theorem ok_bastore (G : Good p meth c code maxL ret nm) {pc : Nat} {L : Array Slot} {S : List Value} {kA : ClassId} {z j : Int32} {x : Int32} (x' : Int32) {vs : List Value} {dv : Value} (i : Nat) (F : Arv Z h a kA .byte z vs dv) (hj : ¬ j < 0 ∧ j < z) (hi : j.toNatClampNeg = i) (hi' : i < vs.length) (hv : nar .byte x = x') (hd : decode code pc = .ok (.bastore, 1))
    (hg : n0 ≤ a) (hw : a ∈ ws ∨ h0.size ≤ a) (hs : SafeFor wd Z EL sf h a)
    (k : ∀ h', Keep h h' [a] → Arv Z h' a kA .byte z (vs.set i (.int x')) dv → Ok p l e R s m args below meth c own Z a0 EL n0 h0 ws wd Q sf h' cells slots (mkF m (pc + 1) L S)) : Ok p l e R s m args below meth c own Z a0 EL n0 h0 ws wd Q sf h cells slots (mkF m pc L (.int x :: .int j :: .ref a :: S)) := by
  subst hv
  obtain ⟨cl, A, q, Sz, N, H, U⟩ := F
  exact ok_stepW hg hw hs (fun vm T locs X e0 hZ hown O => stB X G.1 hZ e0 A (inb_of Sz hj) (g := mkF m pc L (.int x :: .int j :: .ref a :: S)) rfl rfl (hb G.2.1 hd)) (fun h' K W => k h' K (Arv.set A q Sz N H U (fits_nar_byte _) W i hi hi'))
theorem ok_iastore (G : Good p meth c code maxL ret nm) {pc : Nat} {L : Array Slot} {S : List Value} {kA : ClassId} {z j : Int32} {x : Int32} {vs : List Value} {dv : Value} (i : Nat) (F : Arv Z h a kA .int z vs dv) (hj : ¬ j < 0 ∧ j < z) (hi : j.toNatClampNeg = i) (hi' : i < vs.length) (hd : decode code pc = .ok (.iastore, 1))
    (hg : n0 ≤ a) (hw : a ∈ ws ∨ h0.size ≤ a) (hs : SafeFor wd Z EL sf h a)
    (k : ∀ h', Keep h h' [a] → Arv Z h' a kA .int z (vs.set i (.int x)) dv → Ok p l e R s m args below meth c own Z a0 EL n0 h0 ws wd Q sf h' cells slots (mkF m (pc + 1) L S)) : Ok p l e R s m args below meth c own Z a0 EL n0 h0 ws wd Q sf h cells slots (mkF m pc L (.int x :: .int j :: .ref a :: S)) := by
  skip
  obtain ⟨cl, A, q, Sz, N, H, U⟩ := F
  exact ok_stepW hg hw hs (fun vm T locs X e0 hZ hown O => stI X G.1 hZ e0 A (inb_of Sz hj) (g := mkF m pc L (.int x :: .int j :: .ref a :: S)) rfl rfl (hb G.2.1 hd)) (fun h' K W => k h' K (Arv.set A q Sz N H U rfl W i hi hi'))
theorem ok_caload (G : Good p meth c code maxL ret nm) {pc : Nat} {L : Array Slot} {S : List Value} {kA : ClassId} {z j : Int32} {vs : List Value} {dv : Value} (v : Int32) (F : Arv Z h a kA .char z vs dv) (hj : ¬ j < 0 ∧ j < z) (hv : vs.getD j.toNatClampNeg dv = .int v) (hd : decode code pc = .ok (.caload, 1))
    (k : Ok p l e R s m args below meth c own Z a0 EL n0 h0 ws wd Q sf h cells slots (mkF m (pc + 1) L (.int v :: S))) : Ok p l e R s m args below meth c own Z a0 EL n0 h0 ws wd Q sf h cells slots (mkF m pc L (.int j :: .ref a :: S)) := by
  obtain ⟨cl, A, q, Sz, N, H, U⟩ := F
  exact ok_stepT (fun vm T locs X e0 hZ hown O => ⟨T, X, e0, fun t k => X.caload G.1 (j := j) (v := .int v) (by rw [e0]; exact A.1) (State.isArrayOf_alike hZ.alike A.2.1) A.2.2 (inb_of Sz hj) (H.at (inb_of Sz hj) hv) (g := mkF m pc L (.int j :: .ref a :: S)) rfl rfl (hb G.2.1 hd) t k⟩) k
theorem ok_baload (G : Good p meth c code maxL ret nm) {pc : Nat} {L : Array Slot} {S : List Value} {kA : ClassId} {z j : Int32} {vs : List Value} {dv : Value} (v : Int32) (F : Arv Z h a kA .byte z vs dv) (hj : ¬ j < 0 ∧ j < z) (hv : vs.getD j.toNatClampNeg dv = .int v) (hd : decode code pc = .ok (.baload, 1))
    (k : Ok p l e R s m args below meth c own Z a0 EL n0 h0 ws wd Q sf h cells slots (mkF m (pc + 1) L (.int v :: S))) : Ok p l e R s m args below meth c own Z a0 EL n0 h0 ws wd Q sf h cells slots (mkF m pc L (.int j :: .ref a :: S)) := by
  obtain ⟨cl, A, q, Sz, N, H, U⟩ := F
  exact ok_stepT (fun vm T locs X e0 hZ hown O => ⟨T, X, e0, fun t k => X.baloadBytes G.1 (j := j) (v := .int v) (by rw [e0]; exact A.1) (State.isArrayOf_alike hZ.alike A.2.1) A.2.2 (inb_of Sz hj) (H.at (inb_of Sz hj) hv) (g := mkF m pc L (.int j :: .ref a :: S)) rfl rfl (hb G.2.1 hd) t k⟩) k
theorem ok_iaload (G : Good p meth c code maxL ret nm) {pc : Nat} {L : Array Slot} {S : List Value} {kA : ClassId} {z j : Int32} {vs : List Value} {dv : Value} (v : Int32) (F : Arv Z h a kA .int z vs dv) (hj : ¬ j < 0 ∧ j < z) (hv : vs.getD j.toNatClampNeg dv = .int v) (hd : decode code pc = .ok (.iaload, 1))
    (k : Ok p l e R s m args below meth c own Z a0 EL n0 h0 ws wd Q sf h cells slots (mkF m (pc + 1) L (.int v :: S))) : Ok p l e R s m args below meth c own Z a0 EL n0 h0 ws wd Q sf h cells slots (mkF m pc L (.int j :: .ref a :: S)) := by
  obtain ⟨cl, A, q, Sz, N, H, U⟩ := F
  exact ok_stepT (fun vm T locs X e0 hZ hown O => ⟨T, X, e0, fun t k => X.iaload G.1 (j := j) (v := .int v) (by rw [e0]; exact A.1) (State.isArrayOf_alike hZ.alike A.2.1) A.2.2 (inb_of Sz hj) (H.at (inb_of Sz hj) hv) (g := mkF m pc L (.int j :: .ref a :: S)) rfl rfl (hb G.2.1 hd) t k⟩) k
theorem ok_arraylength (G : Good p meth c code maxL ret nm) {pc : Nat} {L : Array Slot} {S : List Value} {kA : ClassId} {ty : FieldType} {z : Int32} {vs : List Value} {dv : Value} (F : Arv Z h a kA ty z vs dv) (hd : decode code pc = .ok (.arraylength, 1))
    (k : Ok p l e R s m args below meth c own Z a0 EL n0 h0 ws wd Q sf h cells slots (mkF m (pc + 1) L (.int z :: S))) : Ok p l e R s m args below meth c own Z a0 EL n0 h0 ws wd Q sf h cells slots (mkF m pc L (.ref a :: S)) := by
  obtain ⟨cl, A, q, Sz, N, H, U⟩ := F
  exact ok_stepT (fun vm T locs X e0 hZ hown O => ⟨T, X, e0, fun t k => X.arraylength G.1 (by rw [e0]; exact A.1) (State.isArrayOf_alike hZ.alike A.2.1) (g := mkF m pc L (.ref a :: S)) rfl rfl (hb G.2.1 hd) t (by rw [len_of Sz N]; exact k)⟩) k
theorem ok_checkcast (G : Good p meth c code maxL ret nm) {pc : Nat} {L : Array Slot} {S : List Value} {K : String} {index : Nat} (w : (Jvm.Cond.classLink own index K).before a0 Z = true) (F : Ins Z h a K true) (hd : decode code pc = .ok (.checkcast index, 3))
    (k : Ok p l e R s m args below meth c own Z a0 EL n0 h0 ws wd Q sf h cells slots (mkF m (pc + 3) L (.ref a :: S))) : Ok p l e R s m args below meth c own Z a0 EL n0 h0 ws wd Q sf h cells slots (mkF m pc L (.ref a :: S)) :=
  ok_stepT (fun vm T locs X e0 hZ hown O => castY X G.1 hZ hown w e0 F (g := mkF m pc L (.ref a :: S)) rfl rfl (hb G.2.1 hd)) k
theorem ok_instanceof (G : Good p meth c code maxL ret nm) {pc : Nat} {L : Array Slot} {S : List Value} {K : String} {index : Nat} (w : (Jvm.Cond.classLink own index K).before a0 Z = true) (F : Ins Z h a K true) (hd : decode code pc = .ok (.instanceof index, 3))
    (k : Ok p l e R s m args below meth c own Z a0 EL n0 h0 ws wd Q sf h cells slots (mkF m (pc + 3) L (.int 1 :: S))) : Ok p l e R s m args below meth c own Z a0 EL n0 h0 ws wd Q sf h cells slots (mkF m pc L (.ref a :: S)) :=
  ok_stepT (fun vm T locs X e0 hZ hown O => instY X G.1 hZ hown w e0 F (g := mkF m pc L (.ref a :: S)) rfl rfl (hb G.2.1 hd)) k
theorem ok_instanceofNo (G : Good p meth c code maxL ret nm) {pc : Nat} {L : Array Slot} {S : List Value} {K C : String} {index : Nat} (w : (Jvm.Cond.classLink own index K).before a0 Z = true) (E : Exa Z h a C) (F : ∃ c t, Z.vm.findClass C = some c ∧ Z.vm.findClass K = some t ∧ Z.vm.assignable c t = false) (hd : decode code pc = .ok (.instanceof index, 3))
    (k : Ok p l e R s m args below meth c own Z a0 EL n0 h0 ws wd Q sf h cells slots (mkF m (pc + 3) L (.int 0 :: S))) : Ok p l e R s m args below meth c own Z a0 EL n0 h0 ws wd Q sf h cells slots (mkF m pc L (.ref a :: S)) :=
  ok_stepT (fun vm T locs X e0 hZ hown O => instNo X G.1 hZ hown w e0 E F (g := mkF m pc L (.ref a :: S)) rfl rfl (hb G.2.1 hd)) k
theorem ok_checkcastNull (G : Good p meth c code maxL ret nm) {pc : Nat} {L : Array Slot} {S : List Value} {index : Nat} (hd : decode code pc = .ok (.checkcast index, 3)) (k : Ok p l e R s m args below meth c own Z a0 EL n0 h0 ws wd Q sf h cells slots (mkF m (pc + 3) L (.null :: S))) : Ok p l e R s m args below meth c own Z a0 EL n0 h0 ws wd Q sf h cells slots (mkF m pc L (.null :: S)) :=
  ok_stepT (fun vm T locs X e0 hZ hown O => ⟨T, X, e0, fun t k => X.checkcastNull G.1 (g := mkF m pc L (.null :: S)) rfl rfl (hb G.2.1 hd) t k⟩) k
theorem ok_instanceofNull (G : Good p meth c code maxL ret nm) {pc : Nat} {L : Array Slot} {S : List Value} {index : Nat} (hd : decode code pc = .ok (.instanceof index, 3)) (k : Ok p l e R s m args below meth c own Z a0 EL n0 h0 ws wd Q sf h cells slots (mkF m (pc + 3) L (.int 0 :: S))) : Ok p l e R s m args below meth c own Z a0 EL n0 h0 ws wd Q sf h cells slots (mkF m pc L (.null :: S)) :=
  ok_stepT (fun vm T locs X e0 hZ hown O => ⟨T, X, e0, fun t k => X.instanceofNull G.1 (g := mkF m pc L (.null :: S)) rfl rfl (hb G.2.1 hd) t k⟩) k
theorem ok_initO (G : Good p meth c code maxL ret nm) {pc : Nat} {L : Array Slot} {S : List Value} {idx : Nat} (w1 : (Jvm.Cond.methodLink own idx Lib.objectInit).before a0 Z = true) (w2 : (Jvm.Cond.instanceMethod Lib.objectInit).before a0 Z = true) (w3 : (Jvm.Cond.code Lib.objectInit ⟨#[0xb1]⟩ 1 none).before a0 Z = true) (hsz : L.size = maxL) (hd : decode code pc = .ok (.invokespecial idx, 3)) (hf : 1 ≤ R.frames) (hl : (S.map fun v => v.category).sum + 12 ≤ R.locals)
    (k : Ok p l e R s m args below meth c own Z a0 EL n0 h0 ws wd Q sf h cells slots (mkF m (pc + 3) L S)) : Ok p l e R s m args below meth c own Z a0 EL n0 h0 ws wd Q sf h cells slots (mkF m pc L (.ref a :: S)) :=
  ok_stepT (fun vm T locs X e0 hZ hown O => initO X G.1 hZ hown w1 w2 w3 e0 (g := mkF m pc L (.ref a :: S)) rfl (by rw [G.2.2.1]; exact hsz) rfl (hb G.2.1 hd) hf (W := (S.map fun v => v.category).sum) (by show 2 * 0 + _ ≤ _; omega) hl) k
/-- behind a call that interned nothing -/
theorem ok_stepC {gn : Option Value → JFrame} {g : JFrame} {rc rs : Nat} {ws' : List Addr} {Q' : Option Value → Heap → Prop} (hws : ∀ x ∈ ws', (x ∈ ws ∨ h0.size ≤ x) ∧ SafeFor wd Z EL sf h x)
    (st : ∀ vm T locs, Stand p l e R (s.setVm vm) m args below meth c T locs cells slots → T.heap = h → Z.Warmed39 vm → vm.findClass own = some m.cls → Old Z n0 h →
      ∃ v T' L, Stand p l e R (s.setVm vm) m args below meth c T' (locs ++ L) (cells + rc) (slots + rs) ∧ (Fr n0 L ∧ Old Z n0 T'.heap ∧ Keep h T'.heap ws' ∧ Q' v T'.heap) ∧ ∀ target, Steps p.tables e below (T'.setTop (gn v)) target → Steps p.tables e below (T.setTop g) target)
    (k : ∀ v h', Keep h h' ws' → Q' v h' → Ok p l e R s m args below meth c own Z a0 EL n0 h0 ws wd Q sf h' (cells + rc) (slots + rs) (gn v)) : Ok p l e R s m args below meth c own Z a0 EL n0 h0 ws wd Q sf h cells slots g := by
  intro vm T locs W
  obtain ⟨X, e0, hZ, hown, hS, hh, N, O, K, r, r'⟩ := W
  obtain ⟨v, T', Ls, X', ⟨N', O', K', q⟩, st'⟩ := st vm T locs X e0 hZ hown O
  obtain ⟨s₂, o, h1, h2⟩ := k v T'.heap K' q vm T' _ ⟨X', rfl, hZ, hown, ⟨hS.1, hS.2.mono K'.1⟩, hh, N.app N', O', K.trans K' (fun x hx => (hws x hx).1), r, fun w => by
    obtain ⟨hE, hC, hs⟩ := r' w
    have hsw : ∀ x ∈ ws', Safe Z EL vm h x := fun x hx => ((hws x hx).2 w).elim (fun z => (hs x z).2) (fun z => z vm hZ.alike)
    exact ⟨hE, hC.trans (CHr.keep K' hsw hC.1), fun x hx => ⟨Nat.lt_of_lt_of_le (hs x hx).1 K'.1, Safe.keep K' hsw hC.1 (hs x hx).2⟩⟩⟩
  exact ⟨s₂, o, st' s₂ h1, h2⟩
/-- behind a step that may have interned -/
theorem ok_stepCW {gn : Option Value → JFrame} {g : JFrame} {rc rs : Nat} {ws' : List Addr} {Q' : Option Value → Heap → Vm → Prop} (hwd : wd = true) (hws : ∀ x ∈ ws', x ∈ ws ∨ h0.size ≤ x)
    (st : ∀ vm T locs, Stand p l e R (s.setVm vm) m args below meth c T locs cells slots → T.heap = h → Z.Warmed39 vm → vm.findClass own = some m.cls → s.Since vm h.size → Old Z n0 h → EW Z a0 EL → CHv Z EL vm h →
      ∃ v T' L, Stand p l e R (s.setVm T'.vm) m args below meth c T' (locs ++ L) (cells + rc) (slots + rs) ∧ s.Since T'.vm T'.heap.size ∧ Z.Warmed39 T'.vm ∧ T'.vm.findClass own = some m.cls ∧ CHr Z EL vm h T'.vm T'.heap ∧ (Fr n0 L ∧ Old Z n0 T'.heap ∧ Keep h T'.heap ws' ∧ Q' v T'.heap T'.vm) ∧ ∀ target, Steps p.tables e below (T'.setTop (gn v)) target → Steps p.tables e below (T.setTop g) target)
    (k : ∀ v h' vm', Keep h h' ws' → (∀ x ∈ sf, Safe Z EL vm' h' x) → Q' v h' vm' → Ok p l e R s m args below meth c own Z a0 EL n0 h0 ws wd Q sf h' (cells + rc) (slots + rs) (gn v)) : Ok p l e R s m args below meth c own Z a0 EL n0 h0 ws wd Q sf h cells slots g := by
  intro vm T locs W
  obtain ⟨X, e0, hZ, hown, hS, hh, N, O, K, r, r'⟩ := W
  obtain ⟨hE, hC, hs⟩ := r' hwd
  obtain ⟨v, T', Ls, X', hS', hZ', hown', hR, ⟨N', O', K', q⟩, st'⟩ := st vm T locs X e0 hZ hown hS O hE hC.1
  have hs' : ∀ x ∈ sf, x < T'.heap.size ∧ Safe Z EL T'.vm T'.heap x := fun x hx => ⟨Nat.lt_of_lt_of_le (hs x hx).1 K'.1, hR.safe (hs x hx).1 (hs x hx).2⟩
  obtain ⟨s₂, o, h1, h2⟩ := k v T'.heap T'.vm K' (fun x hx => (hs' x hx).2) q T'.vm T' _ ⟨X', rfl, hZ', hown', hS', hh, N.app N', O', K.trans K' hws, (fun w => absurd (hwd.symm.trans w) (fun z => nomatch z)), fun _ => ⟨hE, hC.trans hR, hs'⟩⟩
  exact ⟨s₂, o, st' s₂ h1, h2⟩
theorem Con.free {y : MethodName} {bytes : ByteArray} {maxL' : Nat} {ret' : Option FieldType} {rm : Room} {as' : Array Value} {ws' : List Addr} {Q' : Option Value → Heap → Prop} (hM : Con false l Z EL n0 y bytes maxL' ret' rm as' h ws' Q') :
    MetFree l y (head1 [Jvm.Cond.code y bytes maxL' ret'] rm) (fun a U => a = as' ∧ Z.Warmed39 U.vm ∧ U.heap = h) (fun _ _ _ _ _ => True) (fun _ U o U' => ∃ v L, o = .returned v ∧ (Fr n0 L ∧ Old Z n0 U'.heap ∧ Keep h U'.heap ws' ∧ Q' v U'.heap) ∧ FrameEnd U o U' L rm.cells rm.slots) :=
  fun p e ha hc hk s m args below hf happ hP hK => hM [] p e ha hc hk s m args below hf happ ⟨hP.1, hP.2.1, hP.2.2, fun q => nomatch q⟩ hK
theorem Con.freeW {y : MethodName} {bytes : ByteArray} {maxL' : Nat} {ret' : Option FieldType} {rm : Room} {as' : Array Value} {ws' : List Addr} {Q' : Option Value → Heap → Prop} (hM : Con true l Z EL n0 y bytes maxL' ret' rm as' h ws' Q') :
    MetFree l y (head1 [Jvm.Cond.code y bytes maxL' ret'] rm) (fun a U => a = as' ∧ Z.Warmed39 U.vm ∧ U.heap = h ∧ CHv Z EL U.vm h) (fun _ _ _ _ _ => True) (fun _ U o U' => ∃ v L, o = .returned v ∧ (Fr n0 L ∧ Old Z n0 U'.heap ∧ Keep h U'.heap ws' ∧ Q' v U'.heap) ∧ CHr Z EL U.vm U.heap U'.vm U'.heap ∧ ReturnedEndW U o U' L rm.cells rm.slots) :=
  fun p e ha hc hk s m args below hf happ hP hK => hM [] p e ha hc hk s m args below hf happ ⟨hP.1, hP.2.1, hP.2.2.1, fun _ => hP.2.2.2⟩ hK
theorem ok_static (G : Good p meth c code maxL ret nm) {pc : Nat} {L : Array Slot} {S : List Value} {y : MethodName} {bytes : ByteArray} {maxL' : Nat} {ret' : Option FieldType} {rm : Room} {ws' : List Addr} {Q' : Option Value → Heap → Prop} {index : Nat} {ps : List FieldType} {r : Option FieldType} {EL' : List (String × Nat)} {argsL rest : List Value} (w1 : (Jvm.Cond.methodLink own index y).before a0 Z = true) (w2 : (Jvm.Cond.static y).before a0 Z = true) (w3 : (Jvm.Cond.initialized y.cls).before a0 Z = true) (w4 : (Jvm.Cond.code y bytes maxL' ret').before a0 Z = true) (hy : y.cls ≠ "java/lang/invoke/MethodHandle" ∧ y.cls ≠ "java/lang/invoke/VarHandle") (hdesc : parseMethodDescriptor y.desc = some ⟨ps, r⟩)
    (hM : Con false l Z EL' n0 y bytes maxL' ret' rm argsL.toArray h ws' Q') (hln : argsL.length = ps.length) (hS : S = argsL.reverse ++ rest) (hsz : L.size = maxL) (hd : decode code pc = .ok (.invokestatic index, 3)) (hf : rm.frames + 1 ≤ R.frames) (hl : (rest.map fun v => v.category).sum + (maxL' + 11) + rm.locals ≤ R.locals) (hc : cells + rm.cells ≤ R.cells) (hsl : slots + rm.slots ≤ R.slots) (hws : ∀ x ∈ ws', (x ∈ ws ∨ h0.size ≤ x) ∧ SafeFor wd Z EL sf h x)
    (k : ∀ v h', Keep h h' ws' → Q' v h' → Ok p l e R s m args below meth c own Z a0 EL n0 h0 ws wd Q sf h' (cells + rm.cells) (slots + rm.slots) (mkF m (pc + 3) L (v.toList ++ rest))) : Ok p l e R s m args below meth c own Z a0 EL n0 h0 ws wd Q sf h cells slots (mkF m pc L S) := by
  subst hS
  exact ok_stepC (gn := fun v => mkF m (pc + 3) L (v.toList ++ rest)) hws (fun vm T locs X e0 hZ hown O => by
      obtain ⟨v, _, ⟨T', L', k', n'⟩, -, X', ⟨Lc, hQ, l1, y1, z1⟩, st⟩ := Jvm.LawKit.callS X G.1 (y := y) hown (mvT (s := s.setVm vm) hZ w1) (mvT (s := s.setVm vm) hZ w2) (mvT (s := s.setVm vm) hZ w3) (mvT (s := s.setVm vm) hZ w4) hy (backOf (s := s.setVm vm) (Q := fun v h' L => Fr n0 L ∧ Old Z n0 h' ∧ Keep h h' ws' ∧ Q' v h') (W := (rest.map fun v => v.category).sum) hM.free hZ w4 w3 hf hl) (g := mkF m pc L (argsL.reverse ++ rest)) rfl (by rw [G.2.2.1]; exact hsz) (argsL := argsL) (rest := rest) (lenOf hdesc hln) rfl (by show 2 * 0 + _ ≤ _; omega) (hb G.2.1 hd) (fun _ _ => ⟨rfl, e0, hc, hsl⟩)
      dsimp only [Pt.U, Pt.locs, Pt.cells, Pt.slots] at X' l1 y1 z1 st hQ
      subst l1 y1 z1
      exact ⟨v, T', Lc, X', hQ, st⟩) k
theorem ok_init (G : Good p meth c code maxL ret nm) {pc : Nat} {L : Array Slot} {S : List Value} {y : MethodName} {bytes : ByteArray} {maxL' : Nat} {rm : Room} {ws' : List Addr} {Q' : Option Value → Heap → Prop} {index : Nat} {ps : List FieldType} {r : Option FieldType} {EL' : List (String × Nat)} {argsL rest : List Value} (hy1 : y.name = "<init>") (w1 : (Jvm.Cond.methodLink own index y).before a0 Z = true) (w2 : (Jvm.Cond.instanceMethod y).before a0 Z = true) (w3 : (Jvm.Cond.initialized y.cls).before a0 Z = true) (w4 : (Jvm.Cond.code y bytes maxL' none).before a0 Z = true) (hy : y.cls ≠ "java/lang/invoke/MethodHandle" ∧ y.cls ≠ "java/lang/invoke/VarHandle") (hdesc : parseMethodDescriptor y.desc = some ⟨ps, r⟩)
    (hM : Con false l Z EL' n0 y bytes maxL' none rm (.ref a :: argsL).toArray h ws' Q') (hln : argsL.length = ps.length) (hS : S = argsL.reverse ++ .ref a :: rest) (hsz : L.size = maxL) (hd : decode code pc = .ok (.invokespecial index, 3)) (hf : rm.frames + 1 ≤ R.frames) (hl : (rest.map fun v => v.category).sum + (maxL' + 11) + rm.locals ≤ R.locals) (hc : cells + rm.cells ≤ R.cells) (hsl : slots + rm.slots ≤ R.slots) (hws : ∀ x ∈ ws', (x ∈ ws ∨ h0.size ≤ x) ∧ SafeFor wd Z EL sf h x)
    (k : ∀ v h', Keep h h' ws' → Q' v h' → Ok p l e R s m args below meth c own Z a0 EL n0 h0 ws wd Q sf h' (cells + rm.cells) (slots + rm.slots) (mkF m (pc + 3) L (v.toList ++ rest))) : Ok p l e R s m args below meth c own Z a0 EL n0 h0 ws wd Q sf h cells slots (mkF m pc L S) := by
  subst hS
  exact ok_stepC (gn := fun v => mkF m (pc + 3) L (v.toList ++ rest)) hws (fun vm T locs X e0 hZ hown O => by
      obtain ⟨v, _, ⟨T', L', k', n'⟩, -, X', ⟨Lc, hQ, l1, y1, z1⟩, st⟩ := X.specialBack G.1 (y := y) hy1 hown (mvT (s := s.setVm vm) hZ w1) (mvT (s := s.setVm vm) hZ w2) (mvT (s := s.setVm vm) hZ w4) hy (backOf (s := s.setVm vm) (Q := fun v h' L => Fr n0 L ∧ Old Z n0 h' ∧ Keep h h' ws' ∧ Q' v h') (W := (rest.map fun v => v.category).sum) hM.free hZ w4 w3 hf hl) (g := mkF m pc L (argsL.reverse ++ .ref a :: rest)) rfl (by rw [G.2.2.1]; exact hsz) (Steps.refl _) (a := a) (argsL := argsL) (rest := rest) (lenOf hdesc hln) rfl (by show 2 * 0 + _ ≤ _; omega) (hb G.2.1 hd) (fun _ _ => ⟨rfl, e0, hc, hsl⟩)
      dsimp only [Pt.U, Pt.locs, Pt.cells, Pt.slots] at X' l1 y1 z1 st hQ
      subst l1 y1 z1
      exact ⟨v, T', Lc, X', hQ, fun t k => st.trans k⟩) k
theorem ok_virtual (G : Good p meth c code maxL ret nm) {pc : Nat} {L : Array Slot} {S : List Value} {y : MethodName} {bytes : ByteArray} {maxL' : Nat} {ret' : Option FieldType} {rm : Room} {ws' : List Addr} {Q' : Option Value → Heap → Prop} {index : Nat} {ps : List FieldType} {r : Option FieldType} {EL' : List (String × Nat)} {y0 : MethodName} {C : String} {argsL rest : List Value} (E : Exa Z h a C) (w1 : (Jvm.Cond.methodLink own index y0).before a0 Z = true) (w5 : (Jvm.Cond.declares y0).before a0 Z = true) (w6 : (Jvm.Cond.selects C y0 y).before a0 Z = true) (hnf : ∀ vm, Z.Warmed39 vm → NotFace (s.setVm vm) y0) (w2 : (Jvm.Cond.instanceMethod y).before a0 Z = true) (w3 : (Jvm.Cond.initialized y.cls).before a0 Z = true) (w4 : (Jvm.Cond.code y bytes maxL' ret').before a0 Z = true) (hy : y0.cls ≠ "java/lang/invoke/MethodHandle" ∧ y0.cls ≠ "java/lang/invoke/VarHandle") (hdesc : parseMethodDescriptor y0.desc = some ⟨ps, r⟩)
    (hM : Con false l Z EL' n0 y bytes maxL' ret' rm (.ref a :: argsL).toArray h ws' Q') (hln : argsL.length = ps.length) (hS : S = argsL.reverse ++ .ref a :: rest) (hsz : L.size = maxL) (hd : decode code pc = .ok (.invokevirtual index, 3)) (hf : rm.frames + 1 ≤ R.frames) (hl : (rest.map fun v => v.category).sum + (maxL' + 11) + rm.locals ≤ R.locals) (hc : cells + rm.cells ≤ R.cells) (hsl : slots + rm.slots ≤ R.slots) (hws : ∀ x ∈ ws', (x ∈ ws ∨ h0.size ≤ x) ∧ SafeFor wd Z EL sf h x)
    (k : ∀ v h', Keep h h' ws' → Q' v h' → Ok p l e R s m args below meth c own Z a0 EL n0 h0 ws wd Q sf h' (cells + rm.cells) (slots + rm.slots) (mkF m (pc + 3) L (v.toList ++ rest))) : Ok p l e R s m args below meth c own Z a0 EL n0 h0 ws wd Q sf h cells slots (mkF m pc L S) := by
  subst hS
  exact ok_stepC (gn := fun v => mkF m (pc + 3) L (v.toList ++ rest)) hws (fun vm T locs X e0 hZ hown O => by
      obtain ⟨cq, kq, qa, qb, qc⟩ := isOf (s := s.setVm vm) hZ e0 E
      obtain ⟨v, _, ⟨T', L', k', n'⟩, -, X', ⟨Lc, hQ, l1, y1, z1⟩, st⟩ := X.virtualBack G.1 (y := y0) (z := y) hown (mvT (s := s.setVm vm) hZ w1) (mvT (s := s.setVm vm) hZ w5) (hnf vm hZ) (mvT (s := s.setVm vm) hZ w6) (mvT (s := s.setVm vm) hZ w2) hy (backOf (s := s.setVm vm) (Q := fun v h' L => Fr n0 L ∧ Old Z n0 h' ∧ Keep h h' ws' ∧ Q' v h') (W := (rest.map fun v => v.category).sum) hM.free hZ w4 w3 hf hl) qa qc (g := mkF m pc L (argsL.reverse ++ .ref a :: rest)) rfl (by rw [G.2.2.1]; exact hsz) (Steps.refl _) (argsL := argsL) (rest := rest) (lenOf hdesc hln) rfl (by show 2 * 0 + _ ≤ _; omega) (hb G.2.1 hd) (fun _ _ => ⟨rfl, e0, hc, hsl⟩)
      dsimp only [Pt.U, Pt.locs, Pt.cells, Pt.slots] at X' l1 y1 z1 st hQ
      subst l1 y1 z1
      exact ⟨v, T', Lc, X', hQ, fun t k => st.trans k⟩) k
theorem ok_virtualUp (G : Good p meth c code maxL ret nm) {pc : Nat} {L : Array Slot} {S : List Value} {y : MethodName} {bytes : ByteArray} {maxL' : Nat} {ret' : Option FieldType} {rm : Room} {ws' : List Addr} {Q' : Option Value → Heap → Prop} {index : Nat} {ps : List FieldType} {r : Option FieldType} {EL' : List (String × Nat)} {y0 : MethodName} {C owner : String} {argsL rest : List Value} (E : Exa Z h a C) (w1 : (Jvm.Cond.methodLink own index y0).before a0 Z = true) (w7 : (Jvm.Cond.sameMethod y0.cls owner y0.name y0.desc).before a0 Z = true) (w5 : (Jvm.Cond.declares ⟨owner, y0.name, y0.desc⟩).before a0 Z = true) (w6 : (Jvm.Cond.selects C y0 y).before a0 Z = true) (w2 : (Jvm.Cond.instanceMethod y).before a0 Z = true) (w3 : (Jvm.Cond.initialized y.cls).before a0 Z = true) (w4 : (Jvm.Cond.code y bytes maxL' ret').before a0 Z = true) (how : owner ≠ "java/lang/invoke/MethodHandle" ∧ owner ≠ "java/lang/invoke/VarHandle") (hdesc : parseMethodDescriptor y0.desc = some ⟨ps, r⟩)
    (hM : Con false l Z EL' n0 y bytes maxL' ret' rm (.ref a :: argsL).toArray h ws' Q') (hln : argsL.length = ps.length) (hS : S = argsL.reverse ++ .ref a :: rest) (hsz : L.size = maxL) (hd : decode code pc = .ok (.invokevirtual index, 3)) (hf : rm.frames + 1 ≤ R.frames) (hl : (rest.map fun v => v.category).sum + (maxL' + 11) + rm.locals ≤ R.locals) (hc : cells + rm.cells ≤ R.cells) (hsl : slots + rm.slots ≤ R.slots) (hws : ∀ x ∈ ws', (x ∈ ws ∨ h0.size ≤ x) ∧ SafeFor wd Z EL sf h x)
    (k : ∀ v h', Keep h h' ws' → Q' v h' → Ok p l e R s m args below meth c own Z a0 EL n0 h0 ws wd Q sf h' (cells + rm.cells) (slots + rm.slots) (mkF m (pc + 3) L (v.toList ++ rest))) : Ok p l e R s m args below meth c own Z a0 EL n0 h0 ws wd Q sf h cells slots (mkF m pc L S) := by
  subst hS
  exact ok_stepC (gn := fun v => mkF m (pc + 3) L (v.toList ++ rest)) hws (fun vm T locs X e0 hZ hown O => by
      obtain ⟨cq, kq, qa, qb, qc⟩ := isOf (s := s.setVm vm) hZ e0 E
      obtain ⟨v, _, ⟨T', L', k', n'⟩, -, X', ⟨Lc, hQ, l1, y1, z1⟩, st⟩ := X.virtualBackUp G.1 (x := y0) (owner := owner) (y := y) hown (mvT (s := s.setVm vm) hZ w1) (mvT (s := s.setVm vm) hZ w7) (mvT (s := s.setVm vm) hZ w5) how (mvT (s := s.setVm vm) hZ w6) (mvT (s := s.setVm vm) hZ w2) (backOf (s := s.setVm vm) (Q := fun v h' L => Fr n0 L ∧ Old Z n0 h' ∧ Keep h h' ws' ∧ Q' v h') (W := (rest.map fun v => v.category).sum) hM.free hZ w4 w3 hf hl) qa qc (g := mkF m pc L (argsL.reverse ++ .ref a :: rest)) rfl (by rw [G.2.2.1]; exact hsz) (Steps.refl _) (argsL := argsL) (rest := rest) (lenOf hdesc hln) rfl (by show 2 * 0 + _ ≤ _; omega) (hb G.2.1 hd) (fun _ _ => ⟨rfl, e0, hc, hsl⟩)
      dsimp only [Pt.U, Pt.locs, Pt.cells, Pt.slots] at X' l1 y1 z1 st hQ
      subst l1 y1 z1
      exact ⟨v, T', Lc, X', hQ, fun t k => st.trans k⟩) k
theorem ok_interface (G : Good p meth c code maxL ret nm) {pc : Nat} {L : Array Slot} {S : List Value} {y : MethodName} {bytes : ByteArray} {maxL' : Nat} {ret' : Option FieldType} {rm : Room} {ws' : List Addr} {Q' : Option Value → Heap → Prop} {index : Nat} {ps : List FieldType} {r : Option FieldType} {EL' : List (String × Nat)} {y0 : MethodName} {C : String} {count : Nat} {argsL rest : List Value} (E : Exa Z h a C) (w1 : (Jvm.Cond.methodLink own index y0).before a0 Z = true) (w5 : (Jvm.Cond.declares y0).before a0 Z = true) (w7 : (Jvm.Cond.interfaceMethod y0.cls y0.cls y0.name y0.desc).before a0 Z = true) (hfc : ((Jvm.Cond.interfaceMethod y0.cls y0.cls y0.name y0.desc).onTables && (Jvm.Cond.interfaceMethod y0.cls y0.cls y0.name y0.desc).keepsFace) = true) (w6 : (Jvm.Cond.selects C y0 y).before a0 Z = true) (w2 : (Jvm.Cond.instanceMethod y).before a0 Z = true) (w8 : (Jvm.Cond.publicMethod y).before a0 Z = true) (w9 : (Jvm.Cond.unhidden C y0.name y0.desc).before a0 Z = true) (w10 : (Jvm.Cond.castable C y0.cls).before a0 Z = true) (w3 : (Jvm.Cond.initialized y.cls).before a0 Z = true) (w4 : (Jvm.Cond.code y bytes maxL' ret').before a0 Z = true) (hy : y0.cls ≠ "java/lang/invoke/MethodHandle" ∧ y0.cls ≠ "java/lang/invoke/VarHandle") (hdesc : parseMethodDescriptor y0.desc = some ⟨ps, r⟩)
    (hM : Con false l Z EL' n0 y bytes maxL' ret' rm (.ref a :: argsL).toArray h ws' Q') (hln : argsL.length = ps.length) (hS : S = argsL.reverse ++ .ref a :: rest) (hsz : L.size = maxL) (hd : decode code pc = .ok (.invokeinterface index count, 5)) (hf : rm.frames + 1 ≤ R.frames) (hl : (rest.map fun v => v.category).sum + (maxL' + 11) + rm.locals ≤ R.locals) (hc : cells + rm.cells ≤ R.cells) (hsl : slots + rm.slots ≤ R.slots) (hws : ∀ x ∈ ws', (x ∈ ws ∨ h0.size ≤ x) ∧ SafeFor wd Z EL sf h x)
    (k : ∀ v h', Keep h h' ws' → Q' v h' → Ok p l e R s m args below meth c own Z a0 EL n0 h0 ws wd Q sf h' (cells + rm.cells) (slots + rm.slots) (mkF m (pc + 5) L (v.toList ++ rest))) : Ok p l e R s m args below meth c own Z a0 EL n0 h0 ws wd Q sf h cells slots (mkF m pc L S) := by
  subst hS
  exact ok_stepC (gn := fun v => mkF m (pc + 5) L (v.toList ++ rest)) hws (fun vm T locs X e0 hZ hown O => by
      obtain ⟨cq, kq, qa, qb, qc⟩ := isOf (s := s.setVm vm) hZ e0 E
      obtain ⟨v, _, ⟨T', L', k', n'⟩, -, X', ⟨Lc, hQ, l1, y1, z1⟩, st⟩ := X.interfaceBack G.1 (xi := y0) (y := y) hown (mvT (s := s.setVm vm) hZ w1) (mvT (s := s.setVm vm) hZ w5) (mvT (s := s.setVm vm) hZ w7 hfc) (mvT (s := s.setVm vm) hZ w6) (mvT (s := s.setVm vm) hZ w2) (mvT (s := s.setVm vm) hZ w8) (mvT (s := s.setVm vm) hZ w9) (mvT (s := s.setVm vm) hZ w10) hy (backOf (s := s.setVm vm) (Q := fun v h' L => Fr n0 L ∧ Old Z n0 h' ∧ Keep h h' ws' ∧ Q' v h') (W := (rest.map fun v => v.category).sum) hM.free hZ w4 w3 hf hl) qa qb qc (g := mkF m pc L (argsL.reverse ++ .ref a :: rest)) rfl (by rw [G.2.2.1]; exact hsz) (Steps.refl _) (argsL := argsL) (rest := rest) (lenOf hdesc hln) rfl (by show 2 * 0 + _ ≤ _; omega) (hb G.2.1 hd) (fun _ _ => ⟨rfl, e0, hc, hsl⟩)
      dsimp only [Pt.U, Pt.locs, Pt.cells, Pt.slots] at X' l1 y1 z1 st hQ
      subst l1 y1 z1
      exact ⟨v, T', Lc, X', hQ, fun t k => st.trans k⟩) k
theorem ok_staticW (G : Good p meth c code maxL ret nm) {pc : Nat} {L : Array Slot} {S : List Value} {y : MethodName} {bytes : ByteArray} {maxL' : Nat} {ret' : Option FieldType} {rm : Room} {ws' : List Addr} {Q' : Option Value → Heap → Prop} {index : Nat} {ps : List FieldType} {r : Option FieldType} {argsL rest : List Value} (w1 : (Jvm.Cond.methodLink own index y).before a0 Z = true) (w2 : (Jvm.Cond.static y).before a0 Z = true) (w3 : (Jvm.Cond.initialized y.cls).before a0 Z = true) (w4 : (Jvm.Cond.code y bytes maxL' ret').before a0 Z = true) (hy : y.cls ≠ "java/lang/invoke/MethodHandle" ∧ y.cls ≠ "java/lang/invoke/VarHandle") (hdesc : parseMethodDescriptor y.desc = some ⟨ps, r⟩)
    (hM : Con true l Z EL n0 y bytes maxL' ret' rm argsL.toArray h ws' Q') (hln : argsL.length = ps.length) (hS : S = argsL.reverse ++ rest) (hsz : L.size = maxL) (hd : decode code pc = .ok (.invokestatic index, 3)) (hf : rm.frames + 1 ≤ R.frames) (hl : (rest.map fun v => v.category).sum + (maxL' + 11) + rm.locals ≤ R.locals) (hc : cells + rm.cells ≤ R.cells) (hsl : slots + rm.slots ≤ R.slots) (hwd : wd = true) (hws : ∀ x ∈ ws', x ∈ ws ∨ h0.size ≤ x)
    (k : ∀ v h', Keep h h' ws' → Q' v h' → Ok p l e R s m args below meth c own Z a0 EL n0 h0 ws wd Q sf h' (cells + rm.cells) (slots + rm.slots) (mkF m (pc + 3) L (v.toList ++ rest))) : Ok p l e R s m args below meth c own Z a0 EL n0 h0 ws wd Q sf h cells slots (mkF m pc L S) := by
  subst hS
  exact ok_stepCW (Q' := fun v h' _ => Q' v h') (gn := fun v => mkF m (pc + 3) L (v.toList ++ rest)) hwd hws (fun vm T locs X e0 hZ hown hSi O hE hC => by
      obtain ⟨v, _, ⟨T', L', k', n'⟩, -, X', hS2, hgr, ⟨Lc, hQ, l1, y1, z1, hR⟩, st⟩ := callSS X G.1 (y := y) hown (mvT (s := s.setVm vm) hZ w1) (mvT (s := s.setVm vm) hZ w2) (mvT (s := s.setVm vm) hZ w3) (mvT (s := s.setVm vm) hZ w4) hy (backOfSH (s := s) (Q := fun v h' L => Fr n0 L ∧ Old Z n0 h' ∧ Keep h h' ws' ∧ Q' v h') (W := (rest.map fun v => v.category).sum) hM.freeW hZ w4 w3 hf hl hE hC) (g := mkF m pc L (argsL.reverse ++ rest)) rfl (by rw [G.2.2.1]; exact hsz) (argsL := argsL) (rest := rest) (lenOf hdesc hln) rfl (by show 2 * 0 + _ ≤ _; omega) (hb G.2.1 hd) (fun _ _ => ⟨rfl, e0, hc, hsl⟩)
      dsimp only [Pt.U, Pt.locs, Pt.cells, Pt.slots] at X' l1 y1 z1 st hQ hS2 hgr hR
      subst l1 y1 z1
      obtain ⟨X2, S2, Z2, o2⟩ := rebS hSi (by rw [← e0]; exact Nat.le_refl _) X' hS2 hgr hZ hown
      exact ⟨v, T', Lc, X2, S2, Z2, o2, hR, hQ, fun t k => st.trans k⟩) (fun v h' vm' K' _ q => k v h' K' q)
theorem ok_initW (G : Good p meth c code maxL ret nm) {pc : Nat} {L : Array Slot} {S : List Value} {y : MethodName} {bytes : ByteArray} {maxL' : Nat} {rm : Room} {ws' : List Addr} {Q' : Option Value → Heap → Prop} {index : Nat} {ps : List FieldType} {r : Option FieldType} {argsL rest : List Value} (hy1 : y.name = "<init>") (w1 : (Jvm.Cond.methodLink own index y).before a0 Z = true) (w2 : (Jvm.Cond.instanceMethod y).before a0 Z = true) (w3 : (Jvm.Cond.initialized y.cls).before a0 Z = true) (w4 : (Jvm.Cond.code y bytes maxL' none).before a0 Z = true) (hy : y.cls ≠ "java/lang/invoke/MethodHandle" ∧ y.cls ≠ "java/lang/invoke/VarHandle") (hdesc : parseMethodDescriptor y.desc = some ⟨ps, r⟩)
    (hM : Con true l Z EL n0 y bytes maxL' none rm (.ref a :: argsL).toArray h ws' Q') (hln : argsL.length = ps.length) (hS : S = argsL.reverse ++ .ref a :: rest) (hsz : L.size = maxL) (hd : decode code pc = .ok (.invokespecial index, 3)) (hf : rm.frames + 1 ≤ R.frames) (hl : (rest.map fun v => v.category).sum + (maxL' + 11) + rm.locals ≤ R.locals) (hc : cells + rm.cells ≤ R.cells) (hsl : slots + rm.slots ≤ R.slots) (hwd : wd = true) (hws : ∀ x ∈ ws', x ∈ ws ∨ h0.size ≤ x)
    (k : ∀ v h', Keep h h' ws' → Q' v h' → Ok p l e R s m args below meth c own Z a0 EL n0 h0 ws wd Q sf h' (cells + rm.cells) (slots + rm.slots) (mkF m (pc + 3) L (v.toList ++ rest))) : Ok p l e R s m args below meth c own Z a0 EL n0 h0 ws wd Q sf h cells slots (mkF m pc L S) := by
  subst hS
  exact ok_stepCW (Q' := fun v h' _ => Q' v h') (gn := fun v => mkF m (pc + 3) L (v.toList ++ rest)) hwd hws (fun vm T locs X e0 hZ hown hSi O hE hC => by
      obtain ⟨v, _, ⟨T', L', k', n'⟩, -, X', hS2, hgr, ⟨Lc, hQ, l1, y1, z1, hR⟩, st⟩ := X.specialBackS G.1 (y := y) hy1 hown (mvT (s := s.setVm vm) hZ w1) (mvT (s := s.setVm vm) hZ w2) (mvT (s := s.setVm vm) hZ w4) hy (backOfSH (s := s) (Q := fun v h' L => Fr n0 L ∧ Old Z n0 h' ∧ Keep h h' ws' ∧ Q' v h') (W := (rest.map fun v => v.category).sum) hM.freeW hZ w4 w3 hf hl hE hC) (g := mkF m pc L (argsL.reverse ++ .ref a :: rest)) rfl (by rw [G.2.2.1]; exact hsz) (Steps.refl _) (a := a) (argsL := argsL) (rest := rest) (lenOf hdesc hln) rfl (by show 2 * 0 + _ ≤ _; omega) (hb G.2.1 hd) (fun _ _ => ⟨rfl, e0, hc, hsl⟩)
      dsimp only [Pt.U, Pt.locs, Pt.cells, Pt.slots] at X' l1 y1 z1 st hQ hS2 hgr hR
      subst l1 y1 z1
      obtain ⟨X2, S2, Z2, o2⟩ := rebS hSi (by rw [← e0]; exact Nat.le_refl _) X' hS2 hgr hZ hown
      exact ⟨v, T', Lc, X2, S2, Z2, o2, hR, hQ, fun t k => st.trans k⟩) (fun v h' vm' K' _ q => k v h' K' q)
theorem ok_virtualW (G : Good p meth c code maxL ret nm) {pc : Nat} {L : Array Slot} {S : List Value} {y : MethodName} {bytes : ByteArray} {maxL' : Nat} {ret' : Option FieldType} {rm : Room} {ws' : List Addr} {Q' : Option Value → Heap → Prop} {index : Nat} {ps : List FieldType} {r : Option FieldType} {y0 : MethodName} {C : String} {argsL rest : List Value} (E : Exa Z h a C) (w1 : (Jvm.Cond.methodLink own index y0).before a0 Z = true) (w5 : (Jvm.Cond.declares y0).before a0 Z = true) (w6 : (Jvm.Cond.selects C y0 y).before a0 Z = true) (hnf : ∀ vm, Z.Warmed39 vm → NotFace (s.setVm vm) y0) (w2 : (Jvm.Cond.instanceMethod y).before a0 Z = true) (w3 : (Jvm.Cond.initialized y.cls).before a0 Z = true) (w4 : (Jvm.Cond.code y bytes maxL' ret').before a0 Z = true) (hy : y0.cls ≠ "java/lang/invoke/MethodHandle" ∧ y0.cls ≠ "java/lang/invoke/VarHandle") (hdesc : parseMethodDescriptor y0.desc = some ⟨ps, r⟩)
    (hM : Con true l Z EL n0 y bytes maxL' ret' rm (.ref a :: argsL).toArray h ws' Q') (hln : argsL.length = ps.length) (hS : S = argsL.reverse ++ .ref a :: rest) (hsz : L.size = maxL) (hd : decode code pc = .ok (.invokevirtual index, 3)) (hf : rm.frames + 1 ≤ R.frames) (hl : (rest.map fun v => v.category).sum + (maxL' + 11) + rm.locals ≤ R.locals) (hc : cells + rm.cells ≤ R.cells) (hsl : slots + rm.slots ≤ R.slots) (hwd : wd = true) (hws : ∀ x ∈ ws', x ∈ ws ∨ h0.size ≤ x)
    (k : ∀ v h', Keep h h' ws' → Q' v h' → Ok p l e R s m args below meth c own Z a0 EL n0 h0 ws wd Q sf h' (cells + rm.cells) (slots + rm.slots) (mkF m (pc + 3) L (v.toList ++ rest))) : Ok p l e R s m args below meth c own Z a0 EL n0 h0 ws wd Q sf h cells slots (mkF m pc L S) := by
  subst hS
  exact ok_stepCW (Q' := fun v h' _ => Q' v h') (gn := fun v => mkF m (pc + 3) L (v.toList ++ rest)) hwd hws (fun vm T locs X e0 hZ hown hSi O hE hC => by
      obtain ⟨cq, kq, qa, qb, qc⟩ := isOf (s := s.setVm vm) hZ e0 E
      obtain ⟨v, _, ⟨T', L', k', n'⟩, -, X', hS2, hgr, ⟨Lc, hQ, l1, y1, z1, hR⟩, st⟩ := X.virtualBackS G.1 (y := y0) (z := y) hown (mvT (s := s.setVm vm) hZ w1) (mvT (s := s.setVm vm) hZ w5) (hnf vm hZ) (mvT (s := s.setVm vm) hZ w6) (mvT (s := s.setVm vm) hZ w2) hy (backOfSH (s := s) (Q := fun v h' L => Fr n0 L ∧ Old Z n0 h' ∧ Keep h h' ws' ∧ Q' v h') (W := (rest.map fun v => v.category).sum) hM.freeW hZ w4 w3 hf hl hE hC) qa qc (g := mkF m pc L (argsL.reverse ++ .ref a :: rest)) rfl (by rw [G.2.2.1]; exact hsz) (Steps.refl _) (argsL := argsL) (rest := rest) (lenOf hdesc hln) rfl (by show 2 * 0 + _ ≤ _; omega) (hb G.2.1 hd) (fun _ _ => ⟨rfl, e0, hc, hsl⟩)
      dsimp only [Pt.U, Pt.locs, Pt.cells, Pt.slots] at X' l1 y1 z1 st hQ hS2 hgr hR
      subst l1 y1 z1
      obtain ⟨X2, S2, Z2, o2⟩ := rebS hSi (by rw [← e0]; exact Nat.le_refl _) X' hS2 hgr hZ hown
      exact ⟨v, T', Lc, X2, S2, Z2, o2, hR, hQ, fun t k => st.trans k⟩) (fun v h' vm' K' _ q => k v h' K' q)
theorem ok_virtualUpW (G : Good p meth c code maxL ret nm) {pc : Nat} {L : Array Slot} {S : List Value} {y : MethodName} {bytes : ByteArray} {maxL' : Nat} {ret' : Option FieldType} {rm : Room} {ws' : List Addr} {Q' : Option Value → Heap → Prop} {index : Nat} {ps : List FieldType} {r : Option FieldType} {y0 : MethodName} {C owner : String} {argsL rest : List Value} (E : Exa Z h a C) (w1 : (Jvm.Cond.methodLink own index y0).before a0 Z = true) (w7 : (Jvm.Cond.sameMethod y0.cls owner y0.name y0.desc).before a0 Z = true) (w5 : (Jvm.Cond.declares ⟨owner, y0.name, y0.desc⟩).before a0 Z = true) (w6 : (Jvm.Cond.selects C y0 y).before a0 Z = true) (w2 : (Jvm.Cond.instanceMethod y).before a0 Z = true) (w3 : (Jvm.Cond.initialized y.cls).before a0 Z = true) (w4 : (Jvm.Cond.code y bytes maxL' ret').before a0 Z = true) (how : owner ≠ "java/lang/invoke/MethodHandle" ∧ owner ≠ "java/lang/invoke/VarHandle") (hdesc : parseMethodDescriptor y0.desc = some ⟨ps, r⟩)
    (hM : Con true l Z EL n0 y bytes maxL' ret' rm (.ref a :: argsL).toArray h ws' Q') (hln : argsL.length = ps.length) (hS : S = argsL.reverse ++ .ref a :: rest) (hsz : L.size = maxL) (hd : decode code pc = .ok (.invokevirtual index, 3)) (hf : rm.frames + 1 ≤ R.frames) (hl : (rest.map fun v => v.category).sum + (maxL' + 11) + rm.locals ≤ R.locals) (hc : cells + rm.cells ≤ R.cells) (hsl : slots + rm.slots ≤ R.slots) (hwd : wd = true) (hws : ∀ x ∈ ws', x ∈ ws ∨ h0.size ≤ x)
    (k : ∀ v h', Keep h h' ws' → Q' v h' → Ok p l e R s m args below meth c own Z a0 EL n0 h0 ws wd Q sf h' (cells + rm.cells) (slots + rm.slots) (mkF m (pc + 3) L (v.toList ++ rest))) : Ok p l e R s m args below meth c own Z a0 EL n0 h0 ws wd Q sf h cells slots (mkF m pc L S) := by
  subst hS
  exact ok_stepCW (Q' := fun v h' _ => Q' v h') (gn := fun v => mkF m (pc + 3) L (v.toList ++ rest)) hwd hws (fun vm T locs X e0 hZ hown hSi O hE hC => by
      obtain ⟨cq, kq, qa, qb, qc⟩ := isOf (s := s.setVm vm) hZ e0 E
      obtain ⟨v, _, ⟨T', L', k', n'⟩, -, X', hS2, hgr, ⟨Lc, hQ, l1, y1, z1, hR⟩, st⟩ := X.virtualBackUpS G.1 (x := y0) (owner := owner) (y := y) hown (mvT (s := s.setVm vm) hZ w1) (mvT (s := s.setVm vm) hZ w7) (mvT (s := s.setVm vm) hZ w5) how (mvT (s := s.setVm vm) hZ w6) (mvT (s := s.setVm vm) hZ w2) (backOfSH (s := s) (Q := fun v h' L => Fr n0 L ∧ Old Z n0 h' ∧ Keep h h' ws' ∧ Q' v h') (W := (rest.map fun v => v.category).sum) hM.freeW hZ w4 w3 hf hl hE hC) qa qc (g := mkF m pc L (argsL.reverse ++ .ref a :: rest)) rfl (by rw [G.2.2.1]; exact hsz) (Steps.refl _) (argsL := argsL) (rest := rest) (lenOf hdesc hln) rfl (by show 2 * 0 + _ ≤ _; omega) (hb G.2.1 hd) (fun _ _ => ⟨rfl, e0, hc, hsl⟩)
      dsimp only [Pt.U, Pt.locs, Pt.cells, Pt.slots] at X' l1 y1 z1 st hQ hS2 hgr hR
      subst l1 y1 z1
      obtain ⟨X2, S2, Z2, o2⟩ := rebS hSi (by rw [← e0]; exact Nat.le_refl _) X' hS2 hgr hZ hown
      exact ⟨v, T', Lc, X2, S2, Z2, o2, hR, hQ, fun t k => st.trans k⟩) (fun v h' vm' K' _ q => k v h' K' q)
theorem ok_interfaceW (G : Good p meth c code maxL ret nm) {pc : Nat} {L : Array Slot} {S : List Value} {y : MethodName} {bytes : ByteArray} {maxL' : Nat} {ret' : Option FieldType} {rm : Room} {ws' : List Addr} {Q' : Option Value → Heap → Prop} {index : Nat} {ps : List FieldType} {r : Option FieldType} {y0 : MethodName} {C : String} {count : Nat} {argsL rest : List Value} (E : Exa Z h a C) (w1 : (Jvm.Cond.methodLink own index y0).before a0 Z = true) (w5 : (Jvm.Cond.declares y0).before a0 Z = true) (w7 : (Jvm.Cond.interfaceMethod y0.cls y0.cls y0.name y0.desc).before a0 Z = true) (hfc : ((Jvm.Cond.interfaceMethod y0.cls y0.cls y0.name y0.desc).onTables && (Jvm.Cond.interfaceMethod y0.cls y0.cls y0.name y0.desc).keepsFace) = true) (w6 : (Jvm.Cond.selects C y0 y).before a0 Z = true) (w2 : (Jvm.Cond.instanceMethod y).before a0 Z = true) (w8 : (Jvm.Cond.publicMethod y).before a0 Z = true) (w9 : (Jvm.Cond.unhidden C y0.name y0.desc).before a0 Z = true) (w10 : (Jvm.Cond.castable C y0.cls).before a0 Z = true) (w3 : (Jvm.Cond.initialized y.cls).before a0 Z = true) (w4 : (Jvm.Cond.code y bytes maxL' ret').before a0 Z = true) (hy : y0.cls ≠ "java/lang/invoke/MethodHandle" ∧ y0.cls ≠ "java/lang/invoke/VarHandle") (hdesc : parseMethodDescriptor y0.desc = some ⟨ps, r⟩)
    (hM : Con true l Z EL n0 y bytes maxL' ret' rm (.ref a :: argsL).toArray h ws' Q') (hln : argsL.length = ps.length) (hS : S = argsL.reverse ++ .ref a :: rest) (hsz : L.size = maxL) (hd : decode code pc = .ok (.invokeinterface index count, 5)) (hf : rm.frames + 1 ≤ R.frames) (hl : (rest.map fun v => v.category).sum + (maxL' + 11) + rm.locals ≤ R.locals) (hc : cells + rm.cells ≤ R.cells) (hsl : slots + rm.slots ≤ R.slots) (hwd : wd = true) (hws : ∀ x ∈ ws', x ∈ ws ∨ h0.size ≤ x)
    (k : ∀ v h', Keep h h' ws' → Q' v h' → Ok p l e R s m args below meth c own Z a0 EL n0 h0 ws wd Q sf h' (cells + rm.cells) (slots + rm.slots) (mkF m (pc + 5) L (v.toList ++ rest))) : Ok p l e R s m args below meth c own Z a0 EL n0 h0 ws wd Q sf h cells slots (mkF m pc L S) := by
  subst hS
  exact ok_stepCW (Q' := fun v h' _ => Q' v h') (gn := fun v => mkF m (pc + 5) L (v.toList ++ rest)) hwd hws (fun vm T locs X e0 hZ hown hSi O hE hC => by
      obtain ⟨cq, kq, qa, qb, qc⟩ := isOf (s := s.setVm vm) hZ e0 E
      obtain ⟨v, _, ⟨T', L', k', n'⟩, -, X', hS2, hgr, ⟨Lc, hQ, l1, y1, z1, hR⟩, st⟩ := X.interfaceBackS G.1 (xi := y0) (y := y) hown (mvT (s := s.setVm vm) hZ w1) (mvT (s := s.setVm vm) hZ w5) (mvT (s := s.setVm vm) hZ w7 hfc) (mvT (s := s.setVm vm) hZ w6) (mvT (s := s.setVm vm) hZ w2) (mvT (s := s.setVm vm) hZ w8) (mvT (s := s.setVm vm) hZ w9) (mvT (s := s.setVm vm) hZ w10) hy (backOfSH (s := s) (Q := fun v h' L => Fr n0 L ∧ Old Z n0 h' ∧ Keep h h' ws' ∧ Q' v h') (W := (rest.map fun v => v.category).sum) hM.freeW hZ w4 w3 hf hl hE hC) qa qb qc (g := mkF m pc L (argsL.reverse ++ .ref a :: rest)) rfl (by rw [G.2.2.1]; exact hsz) (Steps.refl _) (argsL := argsL) (rest := rest) (lenOf hdesc hln) rfl (by show 2 * 0 + _ ≤ _; omega) (hb G.2.1 hd) (fun _ _ => ⟨rfl, e0, hc, hsl⟩)
      dsimp only [Pt.U, Pt.locs, Pt.cells, Pt.slots] at X' l1 y1 z1 st hQ hS2 hgr hR
      subst l1 y1 z1
      obtain ⟨X2, S2, Z2, o2⟩ := rebS hSi (by rw [← e0]; exact Nat.le_refl _) X' hS2 hgr hZ hown
      exact ⟨v, T', Lc, X2, S2, Z2, o2, hR, hQ, fun t k => st.trans k⟩) (fun v h' vm' K' _ q => k v h' K' q)
theorem ok_ldcO (G : Good p meth c code maxL ret nm) {pc : Nat} {L : Array Slot} {S : List Value} {index : Nat} {text : String} (hwd : wd = true) (w : (Jvm.Cond.stringLink own index text).before a0 Z = true) (wS : ∀ a ∈ Bundle.stringAtoms, a.before a0 Z = true) (hd : decode code pc = .ok (.ldc index, 2)) (n : Nat) (hn : 4 * text.toList.length ≤ n) (hbig : n ≤ 536870912) (hc : cells + 2 ≤ R.cells) (hl : slots + (n + 4) ≤ R.slots)
    (k : ∀ a h', Keep h h' [] → Ok p l e R s m args below meth c own Z a0 EL n0 h0 ws wd Q sf h' (cells + 2) (slots + (n + 4)) (mkF m (pc + 2) L (.ref a :: S))) : Ok p l e R s m args below meth c own Z a0 EL n0 h0 ws wd Q sf h cells slots (mkF m pc L S) :=
  ok_stepCW (ws' := []) (Q' := fun v _ _ => ∃ a, v = some (.ref a)) (gn := fun v => mkF m (pc + 2) L (v.toList ++ S)) hwd (fun _ q => nomatch q) (fun vm T locs X e0 hZ hown hSi O hE hC => by
      obtain ⟨a, T', h', k1, X', e1, E, S1, hk1, hZ', hown', hR, -, st⟩ := ldcOH X G.1 hZ hown w wS e0 hSi (Nat.le_refl _) hE hC (g := mkF m pc L S) rfl (hb G.2.1 hd) hn hbig hc hl
      subst e1
      exact ⟨some (.ref a), T', [], by rw [List.append_nil]; exact X', ⟨S1.1, S1.2.mono hk1⟩, hZ', hown', hR, ⟨Fr.nil _, O.ext E, (Keep.refl h []).ext E, a, rfl⟩, st⟩) (fun v h' vm' K' _ q => by obtain ⟨a, rfl⟩ := q; exact k a h' K')
theorem ok_ldcR (G : Good p meth c code maxL ret nm) {pc : Nat} {L : Array Slot} {S : List Value} {index : Nat} {text : String} (hwd : wd = true) (w : (Jvm.Cond.stringLink own index text).before a0 Z = true) (wS : ∀ a ∈ Bundle.stringAtoms, a.before a0 Z = true) (hmem : (own, index) ∈ EL) {vs : List Value} {z : Int32} (ht : (∀ c ∈ text.toList, c.toNat < 256) ∧ text.toList.map (fun c => Value.int (Jvm.Lit.byteI c.toNat.toUInt16)) = vs) (hz : ¬ z < 0) (hzl : z.toNatClampNeg = vs.length)
    (hd : decode code pc = .ok (.ldc index, 2)) (n : Nat) (hn : 4 * text.toList.length ≤ n) (hbig : n ≤ 536870912) (hc : cells + 2 ≤ R.cells) (hl : slots + (n + 4) ≤ R.slots)
    (k : ∀ a h' b kb, Keep h h' [] → Exa Z h' a "java/lang/String" → Fld Z h' a "java/lang/String" "coder" "B" (.int 0) → Fld Z h' a "java/lang/String" "value" "[B" (.ref b) → Arv Z h' b kb .byte z vs (.int 0) → (∀ x ∈ sf, x ≠ a ∧ x ≠ b) → Ok p l e R s m args below meth c own Z a0 EL n0 h0 ws wd Q sf h' (cells + 2) (slots + (n + 4)) (mkF m (pc + 2) L (.ref a :: S))) : Ok p l e R s m args below meth c own Z a0 EL n0 h0 ws wd Q sf h cells slots (mkF m pc L S) :=
  ok_stepCW (ws' := []) (Q' := fun v h' vm' => ∃ a b kb, v = some (.ref a) ∧ Exa Z h' a "java/lang/String" ∧ Fld Z h' a "java/lang/String" "coder" "B" (.int 0) ∧ Fld Z h' a "java/lang/String" "value" "[B" (.ref b) ∧ Arv Z h' b kb .byte z vs (.int 0) ∧ ∀ x, Safe Z EL vm' h' x → x ≠ a ∧ x ≠ b) (gn := fun v => mkF m (pc + 2) L (v.toList ++ S)) hwd (fun _ q => nomatch q) (fun vm T locs X e0 hZ hown hSi O hE hC => by
      obtain ⟨a, T', h', k1, b, kb, X', e1, E, S1, hk1, hZ', hown', F1, F2, F3, F4, -, -, hR, -, hne, st⟩ := ldcCH X G.1 hZ hown w wS e0 hSi (Nat.le_refl _) hE hmem hC ht hz hzl (g := mkF m pc L S) rfl (hb G.2.1 hd) hn hbig hc hl
      subst e1
      exact ⟨some (.ref a), T', [], by rw [List.append_nil]; exact X', ⟨S1.1, S1.2.mono hk1⟩, hZ', hown', hR, ⟨Fr.nil _, O.ext E, (Keep.refl h []).ext E, a, b, kb, rfl, F1, F2, F3, F4, hne⟩, st⟩) (fun v h' vm' K' hsf q => by obtain ⟨a, b, kb, rfl, F1, F2, F3, F4, hne⟩ := q; exact k a h' b kb K' F1 F2 F3 F4 (fun x hx => hne x (hsf x hx)))
end Heaps
end Jvm.Pilot.@@N@@.Own
namespace Jvm.Pilot.@@N@@.Own
open Jvm Jvm.ClassFile Sem Op Lib Jvm.Free Jvm.Stand Jvm.LawKit Jvm.RoadKit Bundle
section Loops
variable {p : Program} {l : Launch} {e : Env} {R : Room} {s : State} {m : MethodId} {args : Array Value} {below : List Frame} {meth : Method} {c : Code}
  {own : String} {Z : State} {a0 : Array Value} {EL : List (String × Nat)} {n0 : Nat} {h0 : Heap} {ws : List Addr} {wd : Bool} {Q : Option Value → Heap → Prop}
  {sf : List Addr} {h : Heap} {cells slots : Nat} {g : JFrame}
theorem ok_loop {A : Type} (μ : A → Nat) (P : A → Prop) (hh : A → Heap) (gg : A → JFrame)
    (st : ∀ x, P x → (∀ x', μ x' < μ x → P x' → Ok p l e R s m args below meth c own Z a0 EL n0 h0 ws wd Q sf (hh x') cells slots (gg x')) → Ok p l e R s m args below meth c own Z a0 EL n0 h0 ws wd Q sf (hh x) cells slots (gg x)) (x : A) (hx : P x) :
    Ok p l e R s m args below meth c own Z a0 EL n0 h0 ws wd Q sf (hh x) cells slots (gg x) := by
  have q : ∀ k x, μ x < k → P x → Ok p l e R s m args below meth c own Z a0 EL n0 h0 ws wd Q sf (hh x) cells slots (gg x) := by
    intro k
    induction k with
    | zero => intro x hk; exact absurd hk (Nat.not_lt_zero _)
    | succ k ih => intro x hk hx; exact st x hx (fun x' h1 h2 => ih x' (Nat.lt_of_lt_of_le h1 (Nat.le_of_lt_succ hk)) h2)
  exact q (μ x + 1) x (Nat.lt_succ_self _) hx
/-- several roads meet: what is behind is walked once -/
theorem ok_meet {A : Type} (P : A → Prop) (hh : A → Heap) (sfs : A → List Addr) (cells' slots' : Nat) (gg : A → JFrame) (hk : (∀ x, P x → Ok p l e R s m args below meth c own Z a0 EL n0 h0 ws wd Q (sfs x) (hh x) cells' slots' (gg x)) → Ok p l e R s m args below meth c own Z a0 EL n0 h0 ws wd Q sf h cells slots g)
    (k : ∀ x, P x → Ok p l e R s m args below meth c own Z a0 EL n0 h0 ws wd Q (sfs x) (hh x) cells' slots' (gg x)) : Ok p l e R s m args below meth c own Z a0 EL n0 h0 ws wd Q sf h cells slots g := hk k
/-- .. where nothing but a value tells them apart -/
theorem ok_meetV {A : Type} (P : A → Prop) (gg : A → JFrame) (hk : (∀ x, P x → Ok p l e R s m args below meth c own Z a0 EL n0 h0 ws wd Q sf h cells slots (gg x)) → Ok p l e R s m args below meth c own Z a0 EL n0 h0 ws wd Q sf h cells slots g)
    (k : ∀ x, P x → Ok p l e R s m args below meth c own Z a0 EL n0 h0 ws wd Q sf h cells slots (gg x)) : Ok p l e R s m args below meth c own Z a0 EL n0 h0 ws wd Q sf h cells slots g := hk k
end Loops
/-! ints that are small naturals -/
theorem i32_int {i : Nat} (h : i < 2147483648) : (Int32.ofNat i).toInt = i := Int32.toInt_ofNat_small h
theorem i32_lt {i j : Nat} (hi : i < 2147483648) (hj : j < 2147483648) : Int32.ofNat i < Int32.ofNat j ↔ i < j := by
  rw [Int32.lt_iff_toInt_lt, i32_int hi, i32_int hj]; omega
theorem i32_nn {i : Nat} (h : i < 2147483648) : ¬ Int32.ofNat i < 0 := by
  rw [Int32.lt_iff_toInt_lt, i32_int h]; show ¬ ((i : Int) < 0); omega
theorem i32_clamp {i : Nat} (h : i < 2147483648) : (Int32.ofNat i).toNatClampNeg = i := by
  rw [Int32.toNatClampNeg, i32_int h]; omega
theorem i32_eq {i j : Nat} (hi : i < 2147483648) (hj : j < 2147483648) : Int32.ofNat i = Int32.ofNat j ↔ i = j := by
  rw [← Int32.toInt_inj, i32_int hi, i32_int hj]; omega
theorem i32_succ (i : Nat) : Int32.ofNat i + (1 : Int32) = Int32.ofNat (i + 1) := by
  rw [Int32.ofNat_add]; rfl
theorem i32_sub {i j : Nat} (h : j ≤ i) : Int32.ofNat i - Int32.ofNat j = Int32.ofNat (i - j) := by
  have e : Int32.ofNat i = Int32.ofNat (i - j) + Int32.ofNat j := by rw [← Int32.ofNat_add]; congr 1; omega
  rw [e, Int32.add_sub_cancel]
/-! chars -/
abbrev lo8 (c : Int32) : Value := .int c.toInt8.toInt32
def Lat (c : Int32) : Prop := ¬ c < 0 ∧ ¬ (255 : Int32) < c
theorem Lat.int {c : Int32} (h : Lat c) : 0 ≤ c.toInt ∧ c.toInt ≤ 255 := by
  obtain ⟨h1, h2⟩ := h
  rw [Int32.lt_iff_toInt_lt] at h1 h2
  have e1 : (0 : Int32).toInt = 0 := rfl
  have e2 : (255 : Int32).toInt = 255 := rfl
  omega
theorem lat_mask (x : Int32) : Lat ((x &&& (255 : Int32)).toUInt32.toUInt16.toUInt32.toInt32) := by
  have t : ∀ k : Fin 256, ¬ (Int32.ofNat k.val).toUInt32.toUInt16.toUInt32.toInt32 < 0 ∧ ¬ (255 : Int32) < (Int32.ofNat k.val).toUInt32.toUInt16.toUInt32.toInt32 := by decide +kernel
  have h : (x &&& 255).toBitVec.toNat < 256 := by
    simp only [Int32.toBitVec_and, BitVec.toNat_and]
    exact Nat.lt_succ_of_le Nat.and_le_right
  have e : (x &&& 255) = Int32.ofNat (x &&& 255).toBitVec.toNat := by
    apply Int32.toBitVec_inj.mp
    show _ = BitVec.ofNat 32 _
    rw [BitVec.ofNat_toNat]; simp
  rw [e]
  exact t ⟨_, h⟩
theorem nar_char {c : Int32} (h : fits .char (.int c) = true) : nar .char c = c := by
  simp only [fits, Bool.and_eq_true, decide_eq_true_eq, Int32.le_iff_toInt_le] at h
  show c.toUInt32.toUInt16.toUInt32.toInt32 = c
  have e1 : (0 : Int32).toInt = 0 := rfl
  have e2 : (65535 : Int32).toInt = 65535 := rfl
  apply Int32.toBitVec_inj.mp
  have hn : c.toBitVec.toNat < 65536 := by
    have hi := h
    have : c.toInt = c.toBitVec.toInt := rfl
    rw [BitVec.toInt_eq_toNat_cond] at this
    split at this <;> omega
  apply BitVec.eq_of_toNat_eq
  show ((c.toUInt32.toUInt16.toUInt32.toInt32).toBitVec).toNat = _
  have : ((c.toUInt32.toUInt16.toUInt32.toInt32).toBitVec).toNat = c.toBitVec.toNat % 65536 := by
    show c.toUInt32.toUInt16.toUInt32.toNat = _
    simp
    rfl
  rw [this, Nat.mod_eq_of_lt hn]
theorem Lat.fits {c : Int32} (h : Lat c) : fits .char (.int c) = true := by
  have := h.int
  simp only [Jvm.fits, Bool.and_eq_true, decide_eq_true_eq, Int32.le_iff_toInt_le]
  have e1 : (0 : Int32).toInt = 0 := rfl
  have e2 : (65535 : Int32).toInt = 65535 := rfl
  omega
theorem Lat.nar {c : Int32} (h : Lat c) : nar .char c = c := nar_char h.fits
theorem Lat.back {c : Int32} (h : Lat c) : (c.toInt8.toInt32 &&& (255 : Int32)).toUInt32.toUInt16.toUInt32.toInt32 = c := by
  have t : ∀ k : Fin 256, ((Int32.ofNat k.val).toInt8.toInt32 &&& (255 : Int32)).toUInt32.toUInt16.toUInt32.toInt32 = Int32.ofNat k.val := by decide +kernel
  have hi := h.int
  have e : c = Int32.ofNat c.toInt.toNat := by
    rw [← Int32.toInt_inj, i32_int (by omega)]; omega
  rw [e]
  exact t ⟨c.toInt.toNat, by omega⟩
theorem Lat.inj {c d : Int32} (h : Lat c) (h' : Lat d) (e : c.toInt8.toInt32 = d.toInt8.toInt32) : c = d := by rw [← h.back, ← h'.back, e]
theorem own_mid {pre p1 p2 : List Int32} {c d : Int32} (h : pre ++ c :: p1 = pre ++ d :: p2) : c = d := by
  have := List.append_cancel_left h
  exact (List.cons.inj this).1
theorem own_bool {b : Int32} (h : b = 0 ∨ b = 1) : narrow .boolean (.int b) = .int b ∧ fits .boolean (.int b) = true := by rcases h with rfl | rfl <;> exact ⟨rfl, rfl⟩
theorem own_bit {b : Int32} {P R : Prop} (h : (b = 1 ∧ P) ∨ (b = 0 ∧ R)) : b = 0 ∨ b = 1 := h.elim (fun q => Or.inr q.1) (fun q => Or.inl q.1)
theorem own_bitT {b : Int32} {P R : Prop} (h : (b = 1 ∧ P) ∨ (b = 0 ∧ R)) (q : ¬ b = 0) : P := h.elim (fun z => z.2) (fun z => absurd z.1 q)
theorem own_bitF {b : Int32} {P R : Prop} (h : (b = 1 ∧ P) ∨ (b = 0 ∧ R)) (q : b = 0) : R := h.elim (fun z => by rw [z.1] at q; cases q) (fun z => z.2)
theorem own_if0 {P : Prop} [Decidable P] (h : (if P then (1 : Int32) else 0) = 0) : ¬ P := fun q => by rw [if_pos q] at h; cases h
theorem own_if1 {P : Prop} [Decidable P] (h : ¬ (if P then (1 : Int32) else 0) = 0) : P := by
  by_cases q : P
  · exact q
  · rw [if_neg q] at h; exact absurd rfl h
theorem getD_mem {cs : List Int32} {k : Nat} {d : Int32} (h : k < cs.length) : cs.getD k d ∈ cs := by
  rw [List.getD_eq_getElem?_getD, List.getElem?_eq_getElem h]; exact List.getElem_mem h
theorem getD_map {α : Type} {f : Int32 → α} {cs : List Int32} {k : Nat} {d : α} {e : Int32} (h : k < cs.length) : (cs.map f).getD k d = f (cs.getD k e) := by
  rw [List.getD_eq_getElem?_getD, List.getD_eq_getElem?_getD, List.getElem?_map, List.getElem?_eq_getElem h]; rfl
theorem getD_mid {α : Type} (d : α) (f : Int32 → α) (pre post : List Int32) (c : Int32) : ((pre ++ c :: post).map f).getD pre.length d = f c := by simp
theorem old_le {Z : State} {n0 : Nat} {h : Heap} (O : Old Z n0 h) : n0 ≤ h.size := O.1 ▸ O.2.1
theorem allL {α : Type} {P : α → Prop} {y : α} {L : List α} (q : P y) (r : ∀ x ∈ L, P x) : ∀ x ∈ y :: L, P x := fun x z => (List.mem_cons.mp z).elim (fun u => u ▸ q) (r x)
/-- a String of Latin-1 chars -/
def LStr (Z : State) (h : Heap) (x t : Addr) (cs : List Int32) : Prop :=
  Exa Z h x "java/lang/String" ∧ Fld Z h x "java/lang/String" "coder" "B" (.int 0) ∧ Fld Z h x "java/lang/String" "value" "[B" (.ref t) ∧
    (∃ kb, Arv Z h t kb .byte (Int32.ofNat cs.length) (cs.map lo8) (.int 0)) ∧ (∀ c ∈ cs, Lat c) ∧ cs.length ≤ 16
section StrF
variable {Z : State} {h h' : Heap} {x t : Addr} {cs : List Int32} {ws : List Addr} {a0 : Array Value}
theorem LStr.keep (F : LStr Z h x t cs) (K : Keep h h' ws) (q1 : x ∉ ws) (q2 : t ∉ ws) : LStr Z h' x t cs := by
  obtain ⟨F1, F2, F3, ⟨kb, F4⟩, F5⟩ := F
  exact ⟨F1.keep K, F2.keep K q1, F3.keep K q1, ⟨kb, F4.keep K q2⟩, F5⟩
theorem LStr.exa (F : LStr Z h x t cs) : Exa Z h x "java/lang/String" := F.1
theorem LStr.lt (F : LStr Z h x t cs) : x < h.size := F.1.lt
theorem LStr.ltT (F : LStr Z h x t cs) : t < h.size := by obtain ⟨-, -, -, ⟨_, F4⟩, -⟩ := F; exact F4.lt
theorem LStr.neT {a : Addr} {C : String} {n : Nat} (F : LStr Z h x t cs) (E : Exa Z h a C) (w : (Jvm.Cond.instantiable C n).before a0 Z = true) : a ≠ t := by
  obtain ⟨-, -, -, ⟨_, F4⟩, -⟩ := F; exact E.neArv F4 w
end StrF
/-- a String whose value is null yet is no booked one -/
theorem safe_null {Z : State} {h : Heap} {x : Addr} {EL : List (String × Nat)} {wd : Bool} {sf : List Addr} (E : Exa Z h x "java/lang/String") (FV : Fld Z h x "java/lang/String" "value" "[B" .null) : SafeFor wd Z EL sf h x := fun _ => Or.inr fun vm hal B => by
  obtain ⟨q0, hq0, u, a, hb, q, hqa, F, hx⟩ := B
  obtain ⟨cell, cf, k, i, f, f1, f2, f3, f4, f5, f6, f7⟩ := FV
  obtain ⟨cell', ke, e1, e2, e3, e4, e5⟩ := E
  cases f1.symm.trans e1
  obtain ⟨cS, ⟨⟨s1, s2, s3, ⟨cv, kv, iv, s4, s4'⟩, ⟨cc, kc, ic, s5, s5'⟩, s6, s7, s8, s9, s10, s11, s12, s13, s14, s15, s16⟩, hfS, hcS⟩, ⟨kS, k1, k2, k3⟩, hB, hbyt⟩ := F
  have s1 : h[q.sa]? = some q.sC := s1
  have s10 : h[q.sd]? = some q.SA := s10
  rcases hx with rfl | rfl
  · cases f1.symm.trans s1
    obtain ⟨kv', z4⟩ := ff_back (U := Wst Z vm h) hal s4
    cases f2.symm.trans z4
    rw [s8] at f7
    cases f7
  · cases f1.symm.trans s10
    obtain ⟨hst, k9, hk9, comp, hkind9⟩ := s11
    have hfS : vm.findClass "java/lang/String" = some cS := hfS
    have hk9 : vm.classes[q.SA.cls]? = some k9 := hk9
    have k1 : vm.classes[cS]? = some kS := k1
    rw [hal.findClass] at hfS
    have ec : cS = q.SA.cls := Option.some.inj (hfS.symm.trans e2)
    rw [ec] at k1
    cases k1.symm.trans hk9
    rw [k2] at hkind9
    cases hkind9
/-- an array written behind its first values -/
theorem Arv.push {Z : State} {h h' : Heap} {a : Addr} {k : ClassId} {ty : FieldType} {z j : Int32} {vs : List Value} {dv v : Value} (F : Arv Z h a k ty z vs dv) (hv : fits ty v = true) (W : Wr h h' a j.toNatClampNeg v) (hj : j.toNatClampNeg = vs.length) : Arv Z h' a k ty z (vs ++ [v]) dv := by
  have F' := F.pad (pad_rep vs dv 1)
  obtain ⟨c, A, q, S, N, H, U⟩ := F'
  have := Arv.set A q S N H U hv W vs.length hj (by simp)
  simpa using this
section PushR
variable {p : Program} {l : Launch} {e : Env} {R : Room} {s : State} {m : MethodId} {args : Array Value} {below : List Frame} {meth : Method} {c : Code}
  {own : String} {Z : State} {a0 : Array Value} {EL : List (String × Nat)} {n0 : Nat} {h0 : Heap} {ws : List Addr} {wd : Bool} {Q : Option Value → Heap → Prop}
  {sf : List Addr} {h : Heap} {cells slots : Nat} {code : ByteArray} {maxL : Nat} {ret : Option FieldType} {nm : String} {a : Addr}
theorem ok_bastoreA (G : Good p meth c code maxL ret nm) {pc : Nat} {L : Array Slot} {S : List Value} {kA : ClassId} {z j x : Int32} (x' : Int32) {vs : List Value} {dv : Value} (F : Arv Z h a kA .byte z vs dv) (hj : ¬ j < 0 ∧ j < z) (hi : j.toNatClampNeg = vs.length) (hv : nar .byte x = x') (hd : decode code pc = .ok (.bastore, 1))
    (hg : n0 ≤ a) (hw : a ∈ ws ∨ h0.size ≤ a) (hs : SafeFor wd Z EL sf h a)
    (k : ∀ h', Keep h h' [a] → Arv Z h' a kA .byte z (vs ++ [.int x']) dv → Ok p l e R s m args below meth c own Z a0 EL n0 h0 ws wd Q sf h' cells slots (mkF m (pc + 1) L S)) : Ok p l e R s m args below meth c own Z a0 EL n0 h0 ws wd Q sf h cells slots (mkF m pc L (.int x :: .int j :: .ref a :: S)) := by
  subst hv
  obtain ⟨cl, A, q, Sz, N, H, U⟩ := id F
  exact ok_stepW hg hw hs (fun vm T locs X e0 hZ hown O => stB X G.1 hZ e0 A (inb_of Sz hj) (g := mkF m pc L (.int x :: .int j :: .ref a :: S)) rfl rfl (hb G.2.1 hd)) (fun h' K W => k h' K (Arv.push F (fits_nar_byte _) W hi))
end PushR
end Jvm.Pilot.@@N@@.Own
namespace Jvm.Pilot.@@N@@.Own
open Jvm Jvm.ClassFile Sem Op Lib Jvm.Free Jvm.Stand Jvm.LawKit Jvm.RoadKit Bundle
section Copies
variable {p : Program} {l : Launch} {e : Env} {R : Room} {s : State} {m : MethodId} {args : Array Value} {below : List Frame} {meth : Method} {c : Code}
  {own : String} {Z : State} {a0 : Array Value} {EL : List (String × Nat)} {n0 : Nat} {h0 : Heap} {ws : List Addr} {wd : Bool} {Q : Option Value → Heap → Prop}
  {sf : List Addr} {h : Heap} {cells slots : Nat} {code : ByteArray} {maxL : Nat} {ret : Option FieldType} {nm : String} {a b : Addr}
/-- System.arraycopy between arrays of one primitive kind (or of references, each storable) -/
theorem ok_copy (G : Good p meth c code maxL ret nm) {pc : Nat} {L : Array Slot} {S : List Value} {index : Nat} {k k' : ClassId} {ty ty' : FieldType} {z z' sp dp nn : Int32} {vs vd : List Value} {dv dd : Value} (us : List Value)
    (w1 : (Jvm.Cond.methodLink own index Jvm.Stand.acN).before a0 Z = true) (w2 : (Jvm.Cond.native Jvm.Stand.acN).before a0 Z = true) (w3 : (Jvm.Cond.static Jvm.Stand.acN).before a0 Z = true) (w4 : (Jvm.Cond.initialized "java/lang/System").before a0 Z = true)
    (A : Arv Z h a k ty z vs dv) (B : Arv Z h b k' ty' z' vd dd) (hty : (ty = ty' ∧ refKind ty = false) ∨ (refKind ty = true ∧ refKind ty' = true ∧ StoL Z h b us))
    (h1 : ¬ sp < 0) (h2 : ¬ dp < 0) (h3 : ¬ nn < 0) (h4 : sp.toNatClampNeg + nn.toNatClampNeg ≤ z.toNatClampNeg) (h5 : dp.toNatClampNeg + nn.toNatClampNeg ≤ z'.toNatClampNeg)
    (hus : us = (List.range nn.toNatClampNeg).map fun i => vs.getD (sp.toNatClampNeg + i) dv) (hl : dp.toNatClampNeg + nn.toNatClampNeg ≤ vd.length)
    (hsz : L.size = maxL) (hd : decode code pc = .ok (.invokestatic index, 3)) (hf : 1 ≤ R.frames) (hlo : (S.map fun v => v.category).sum + 18 ≤ R.locals)
    (hg : n0 ≤ b) (hw : b ∈ ws ∨ h0.size ≤ b) (hs : SafeFor wd Z EL sf h b)
    (kk : ∀ h', Keep h h' [b] → Arv Z h' b k' ty' z' (vd.take dp.toNatClampNeg ++ us ++ vd.drop (dp.toNatClampNeg + nn.toNatClampNeg)) dd → Ok p l e R s m args below meth c own Z a0 EL n0 h0 ws wd Q sf h' cells slots (mkF m (pc + 3) L S)) :
    Ok p l e R s m args below meth c own Z a0 EL n0 h0 ws wd Q sf h cells slots (mkF m pc L (.int nn :: .int dp :: .ref b :: .int sp :: .ref a :: S)) := by
  intro vm T locs W
  obtain ⟨X, e0, hZ, hown, hS, hh, N, O, K, r, r'⟩ := W
  obtain ⟨T', h', L', X', e1, N', K', B', st⟩ := cpA X G.1 hZ hown w1 w2 w3 w4 e0 A B hty h1 h2 h3 h4 h5 hus hl N hg (g := mkF m pc L (.int nn :: .int dp :: .ref b :: .int sp :: .ref a :: S)) rfl (by rw [G.2.2.1]; exact hsz) rfl (hb G.2.1 hd) hf (W := (S.map fun v => v.category).sum) (by show 2 * 0 + _ ≤ _; omega) (by simpa [nativeFrameWords] using hlo)
  obtain ⟨s₂, o, g1, g2⟩ := kk h' K' B' vm T' L' ⟨X', e1, hZ, hown, ⟨hS.1, hS.2.mono K'.1⟩, hh, N', O.keep K' (fun x hx => by rw [List.mem_singleton.mp hx]; exact hg), K.trans K' (fun x hx => by rw [List.mem_singleton.mp hx]; exact hw), r, fun w => by
    obtain ⟨hE, hC, hsf⟩ := r' w
    have hsw : ∀ x ∈ [b], Safe Z EL vm h x := fun x hx => by
      rw [List.mem_singleton.mp hx]
      exact (hs w).elim (fun z => (hsf b z).2) (fun z => z vm hZ.alike)
    exact ⟨hE, hC.trans (CHr.keep K' hsw hC.1), fun x hx => ⟨Nat.lt_of_lt_of_le (hsf x hx).1 K'.1, Safe.keep K' hsw hC.1 (hsf x hx).2⟩⟩⟩
  exact ⟨s₂, o, st s₂ g1, g2⟩
end Copies
theorem own_snoc {α : Type} (l : List α) : l = [] ∨ ∃ p c, l = p ++ [c] := by
  rcases List.eq_nil_or_concat l with h | ⟨p, c, h⟩
  · exact Or.inl h
  · exact Or.inr ⟨p, c, by rw [h, List.concat_eq_append]⟩
theorem own_min {i j n : Nat} (h1 : i ≤ j) (h2 : j ≤ n) (hn : n ≤ 16) : (if Int32.ofNat (j - i) < Int32.ofNat n - Int32.ofNat i then Int32.ofNat (j - i) else Int32.ofNat n - Int32.ofNat i) = Int32.ofNat (j - i) := by
  rw [i32_sub (by omega)]
  by_cases q : Int32.ofNat (j - i) < Int32.ofNat (n - i)
  · rw [if_pos q]
  · rw [if_neg q]
    rw [i32_lt (by omega) (by omega)] at q
    congr 1
    omega
theorem range_mid {α : Type} (f : Int32 → α) (d : α) (cs : List Int32) (i n : Nat) (h : i + n ≤ cs.length) : ((cs.drop i).take n).map f = (List.range n).map fun j => (cs.map f).getD (i + j) d := by
  apply List.ext_getElem
  · simp; omega
  · intro k h1 h2
    simp at h1 h2
    have : i + k < cs.length := by omega
    simp [List.getD_eq_getElem?_getD, List.getElem?_eq_getElem this]
end Jvm.Pilot.@@N@@.Own
namespace Jvm.Pilot.@@N@@.Own
open Jvm Jvm.ClassFile Sem Op Lib Jvm.Free Jvm.Stand Jvm.LawKit Jvm.RoadKit Bundle
theorem SafeFor.nil {Z : State} {h : Heap} {x : Addr} {wd : Bool} {sf : List Addr} : SafeFor wd Z [] sf h x := fun _ => Or.inr fun vm _ B => by
  obtain ⟨q0, hq0, -⟩ := B
  exact nomatch hq0
/-- an array of a known length -/
def Len (Z : State) (h : Heap) (a : Addr) (z : Int32) : Prop := ∃ (c : Cell) (ty : FieldType), Arr Z h a c ty ∧ c.slots.size.toInt32 = z
theorem Len.ext {Z : State} {h h' : Heap} {a : Addr} {z : Int32} (F : Len Z h a z) (E : Ext h h') : Len Z h' a z := by obtain ⟨c, ty, A, q⟩ := F; exact ⟨c, ty, A.ext E, q⟩
theorem Len.lt {Z : State} {h : Heap} {a : Addr} {z : Int32} (F : Len Z h a z) : a < h.size := by obtain ⟨c, ty, A, q⟩ := F; exact A.lt
theorem Len.keep {Z : State} {h h' : Heap} {a : Addr} {z : Int32} {ws : List Addr} (F : Len Z h a z) (K : Keep h h' ws) (q : a ∉ ws) : Len Z h' a z := by obtain ⟨c, ty, A, r⟩ := F; exact ⟨c, ty, ⟨K.2.1 a c A.1 q, A.2⟩, r⟩
section More
variable {p : Program} {l : Launch} {e : Env} {R : Room} {s : State} {m : MethodId} {args : Array Value} {below : List Frame} {meth : Method} {c : Code}
  {own : String} {Z : State} {a0 : Array Value} {EL : List (String × Nat)} {n0 : Nat} {h0 : Heap} {ws : List Addr} {wd : Bool} {Q : Option Value → Heap → Prop}
  {sf : List Addr} {h : Heap} {cells slots : Nat} {code : ByteArray} {maxL : Nat} {ret : Option FieldType} {nm : String} {a : Addr}
theorem own_lookup {tb : Tables} [Ours tb] {e : Env} {below : List Frame} {T target : State} {m : MethodId} {c : Code} {g : JFrame} (h : At T m c below) (hx : tb.exec = Jvm.exec) (hg : g.method = m) {d : Int} {ps : Array (Int × Int)} {ln : Nat} {k : Int32} {rest : List Value} {pc0 pc' : Nat} (hpc : g.pc = pc0)
    (hd : decode c.code g.pc = .ok (.lookupswitch d ps, ln)) (hs : g.stack = .int k :: rest) (ha : (ps.toList.zip (ps.toList.drop 1)).all (fun (a, next) => a.1 < next.1) = true) (ho : 0 ≤ (pc0 : Int) + lookupswitch.offset ps.toList d k.toInt) (hp : ((pc0 : Int) + lookupswitch.offset ps.toList d k.toInt).toNat = pc')
    (hr : Steps tb e below (T.setTop { g with pc := pc', stack := rest }) target) : Steps tb e below (T.setTop g) target := by
  subst hg hpc hp
  jvm_step h [h.top, hx, hd, hs, lookupswitch.wp_chain, ho]
  exact ⟨by simpa using ha, hr⟩
theorem ok_lookup (G : Good p meth c code maxL ret nm) {pc : Nat} {L : Array Slot} {S : List Value} {d : Int} {ps : Array (Int × Int)} {ln : Nat} {k : Int32} (pc' : Nat) (hd : decode code pc = .ok (.lookupswitch d ps, ln)) (ha : (ps.toList.zip (ps.toList.drop 1)).all (fun (a, next) => a.1 < next.1) = true)
    (ho : 0 ≤ (pc : Int) + lookupswitch.offset ps.toList d k.toInt) (hp : ((pc : Int) + lookupswitch.offset ps.toList d k.toInt).toNat = pc') (kk : Ok p l e R s m args below meth c own Z a0 EL n0 h0 ws wd Q sf h cells slots (mkF m pc' L S)) : Ok p l e R s m args below meth c own Z a0 EL n0 h0 ws wd Q sf h cells slots (mkF m pc L (.int k :: S)) :=
  ok_step (fun T t hA k => own_lookup hA G.1 rfl rfl (hb G.2.1 hd) rfl ha ho hp k) kk
theorem ok_arraylengthL (G : Good p meth c code maxL ret nm) {pc : Nat} {L : Array Slot} {S : List Value} {z : Int32} (F : Len Z h a z) (hd : decode code pc = .ok (.arraylength, 1))
    (k : Ok p l e R s m args below meth c own Z a0 EL n0 h0 ws wd Q sf h cells slots (mkF m (pc + 1) L (.int z :: S))) : Ok p l e R s m args below meth c own Z a0 EL n0 h0 ws wd Q sf h cells slots (mkF m pc L (.ref a :: S)) := by
  obtain ⟨cl, ty, A, Sz⟩ := F
  exact ok_stepT (fun vm T locs X e0 hZ hown O => ⟨T, X, e0, fun t k => X.arraylength G.1 (by rw [e0]; exact A.1) (State.isArrayOf_alike hZ.alike A.2.1) (g := mkF m pc L (.ref a :: S)) rfl rfl (hb G.2.1 hd) t (by rw [Sz]; exact k)⟩) k
/-- instanceof, whatever it says -/
theorem ok_instanceofAny (G : Good p meth c code maxL ret nm) {pc : Nat} {L : Array Slot} {S : List Value} {K C : String} {index : Nat} (w : (Jvm.Cond.classLink own index K).before a0 Z = true) (E : Exa Z h a C) (hd : decode code pc = .ok (.instanceof index, 3))
    (k : ∀ z : Int32, Ok p l e R s m args below meth c own Z a0 EL n0 h0 ws wd Q sf h cells slots (mkF m (pc + 3) L (.int z :: S))) : Ok p l e R s m args below meth c own Z a0 EL n0 h0 ws wd Q sf h cells slots (mkF m pc L (.ref a :: S)) := by
  intro vm T locs W
  have hZ := W.2.2.1
  have hown := W.2.2.2.1
  rw [hZ.alike.findClass] at hown
  obtain ⟨t, ft, -⟩ := Cond.classLink_spec hown w ({} : Platform) rfl
  obtain ⟨cell, kk, e1, e2, e3, e4, e5⟩ := id E
  cases hA : Z.vm.assignable cell.cls t with
  | true => exact ok_instanceof G w ⟨cell, t, e1, ft, by simp [e4, hA]⟩ hd (k 1) vm T locs W
  | false => exact ok_instanceofNo G w E ⟨_, t, e2, ft, hA⟩ hd (k 0) vm T locs W
end More
end Jvm.Pilot.@@N@@.Own
namespace Jvm.Pilot.@@N@@
open Jvm Jvm.ClassFile Sem Op Lib Jvm.Free Jvm.Stand Jvm.LawKit Jvm.RoadKit Bundle Jvm.Pilot.@@N@@.Jvm.D Jvm.Pilot.@@N@@.Own
def Cx (Z : State) (a0 : Array Value) : Prop := (∀ d ∈ tables_1, d.before a0 Z = true) ∧ (∃ cz : Int32, Sta Z Z.heap "java/lang/String" "COMPACT_STRINGS" "Z" (.int cz) ∧ ¬ cz = 0)
theorem Cx.w0 {Z : State} {a0 : Array Value} (C : Cx Z a0) : (Jvm.Cond.methodLink "com/example/tiny_resolver/tinyresolver/clause/LiteralNegatedPinLaw" (7 : Nat) ({ cls := "java/lang/String", name := "valueOf", desc := "(C)Ljava/lang/String;" } : Jvm.MethodName)).before a0 Z = true := C.1 _ (List.mem_of_getElem? (i := 0) rfl)
theorem Cx.w1 {Z : State} {a0 : Array Value} (C : Cx Z a0) : (Jvm.Cond.static ({ cls := "java/lang/String", name := "valueOf", desc := "(C)Ljava/lang/String;" } : Jvm.MethodName)).before a0 Z = true := C.1 _ (List.mem_of_getElem? (i := 1) rfl)
theorem Cx.w2 {Z : State} {a0 : Array Value} (C : Cx Z a0) : (Jvm.Cond.initialized "java/lang/String").before a0 Z = true := C.1 _ (List.mem_of_getElem? (i := 2) rfl)
theorem Cx.w3 {Z : State} {a0 : Array Value} (C : Cx Z a0) : (Jvm.Cond.code ({ cls := "java/lang/String", name := "valueOf", desc := "(C)Ljava/lang/String;" } : Jvm.MethodName) jdk_42_method_139_code (1 : Nat) (Option.some (Jvm.ClassFile.FieldType.object "java/lang/String"))).before a0 Z = true := C.1 _ (List.mem_of_getElem? (i := 3) rfl)
theorem Cx.w4 {Z : State} {a0 : Array Value} (C : Cx Z a0) : (Jvm.Cond.fieldLink "java/lang/String" (38 : Nat) "java/lang/String" "COMPACT_STRINGS" "Z").before a0 Z = true := C.1 _ (List.mem_of_getElem? (i := 4) rfl)
theorem Cx.w5 {Z : State} {a0 : Array Value} (C : Cx Z a0) : (Jvm.Cond.methodLink "java/lang/String" (1015 : Nat) ({ cls := "java/lang/StringLatin1", name := "canEncode", desc := "(C)Z" } : Jvm.MethodName)).before a0 Z = true := C.1 _ (List.mem_of_getElem? (i := 5) rfl)
theorem Cx.w6 {Z : State} {a0 : Array Value} (C : Cx Z a0) : (Jvm.Cond.static ({ cls := "java/lang/StringLatin1", name := "canEncode", desc := "(C)Z" } : Jvm.MethodName)).before a0 Z = true := C.1 _ (List.mem_of_getElem? (i := 6) rfl)
theorem Cx.w7 {Z : State} {a0 : Array Value} (C : Cx Z a0) : (Jvm.Cond.initialized "java/lang/StringLatin1").before a0 Z = true := C.1 _ (List.mem_of_getElem? (i := 7) rfl)
theorem Cx.w8 {Z : State} {a0 : Array Value} (C : Cx Z a0) : (Jvm.Cond.code ({ cls := "java/lang/StringLatin1", name := "canEncode", desc := "(C)Z" } : Jvm.MethodName) jdk_43_method_3_code (1 : Nat) (Option.some Jvm.ClassFile.FieldType.boolean)).before a0 Z = true := C.1 _ (List.mem_of_getElem? (i := 8) rfl)
theorem Cx.w9 {Z : State} {a0 : Array Value} (C : Cx Z a0) : (Jvm.Cond.classLink "java/lang/String" (10 : Nat) "java/lang/String").before a0 Z = true := C.1 _ (List.mem_of_getElem? (i := 9) rfl)
theorem Cx.w10 {Z : State} {a0 : Array Value} (C : Cx Z a0) : (Jvm.Cond.instantiable "java/lang/String" (4 : Nat)).before a0 Z = true := C.1 _ (List.mem_of_getElem? (i := 10) rfl)
theorem Cx.w11 {Z : State} {a0 : Array Value} (C : Cx Z a0) : (Jvm.Cond.methodLink "java/lang/String" (1018 : Nat) ({ cls := "java/lang/StringLatin1", name := "toBytes", desc := "(C)[B" } : Jvm.MethodName)).before a0 Z = true := C.1 _ (List.mem_of_getElem? (i := 11) rfl)
theorem Cx.w12 {Z : State} {a0 : Array Value} (C : Cx Z a0) : (Jvm.Cond.static ({ cls := "java/lang/StringLatin1", name := "toBytes", desc := "(C)[B" } : Jvm.MethodName)).before a0 Z = true := C.1 _ (List.mem_of_getElem? (i := 12) rfl)
theorem Cx.w13 {Z : State} {a0 : Array Value} (C : Cx Z a0) : (Jvm.Cond.code ({ cls := "java/lang/StringLatin1", name := "toBytes", desc := "(C)[B" } : Jvm.MethodName) jdk_43_method_46_code (1 : Nat) (Option.some (Jvm.ClassFile.FieldType.array Jvm.ClassFile.FieldType.byte))).before a0 Z = true := C.1 _ (List.mem_of_getElem? (i := 13) rfl)
theorem Cx.w14 {Z : State} {a0 : Array Value} (C : Cx Z a0) : (Jvm.Cond.arrayClass Jvm.ClassFile.FieldType.byte).before a0 Z = true := C.1 _ (List.mem_of_getElem? (i := 14) rfl)
theorem Cx.w15 {Z : State} {a0 : Array Value} (C : Cx Z a0) : (Jvm.Cond.methodLink "java/lang/String" (209 : Nat) ({ cls := "java/lang/String", name := "<init>", desc := "([BB)V" } : Jvm.MethodName)).before a0 Z = true := C.1 _ (List.mem_of_getElem? (i := 15) rfl)
theorem Cx.w16 {Z : State} {a0 : Array Value} (C : Cx Z a0) : (Jvm.Cond.instanceMethod ({ cls := "java/lang/String", name := "<init>", desc := "([BB)V" } : Jvm.MethodName)).before a0 Z = true := C.1 _ (List.mem_of_getElem? (i := 16) rfl)
theorem Cx.w18 {Z : State} {a0 : Array Value} (C : Cx Z a0) : (Jvm.Cond.code ({ cls := "java/lang/String", name := "<init>", desc := "([BB)V" } : Jvm.MethodName) jdk_42_method_151_code (3 : Nat) (Option.none : Option Jvm.ClassFile.FieldType)).before a0 Z = true := C.1 _ (List.mem_of_getElem? (i := 18) rfl)
theorem Cx.w19 {Z : State} {a0 : Array Value} (C : Cx Z a0) : (Jvm.Cond.methodLink "java/lang/String" (1 : Nat) ({ cls := "java/lang/Object", name := "<init>", desc := "()V" } : Jvm.MethodName)).before a0 Z = true := C.1 _ (List.mem_of_getElem? (i := 19) rfl)
theorem Cx.w20 {Z : State} {a0 : Array Value} (C : Cx Z a0) : (Jvm.Cond.instanceMethod ({ cls := "java/lang/Object", name := "<init>", desc := "()V" } : Jvm.MethodName)).before a0 Z = true := C.1 _ (List.mem_of_getElem? (i := 20) rfl)
theorem Cx.w21 {Z : State} {a0 : Array Value} (C : Cx Z a0) : (Jvm.Cond.code ({ cls := "java/lang/Object", name := "<init>", desc := "()V" } : Jvm.MethodName) object_method_1_code (1 : Nat) (Option.none : Option Jvm.ClassFile.FieldType)).before a0 Z = true := C.1 _ (List.mem_of_getElem? (i := 21) rfl)
theorem Cx.w22 {Z : State} {a0 : Array Value} (C : Cx Z a0) : (Jvm.Cond.fieldLink "java/lang/String" (9 : Nat) "java/lang/String" "value" "[B").before a0 Z = true := C.1 _ (List.mem_of_getElem? (i := 22) rfl)
theorem Cx.w23 {Z : State} {a0 : Array Value} (C : Cx Z a0) : (Jvm.Cond.laysFinal "java/lang/String" "java/lang/String" "value" "[B").before a0 Z = true := C.1 _ (List.mem_of_getElem? (i := 23) rfl)
theorem Cx.w24 {Z : State} {a0 : Array Value} (C : Cx Z a0) : (Jvm.Cond.fieldLink "java/lang/String" (15 : Nat) "java/lang/String" "coder" "B").before a0 Z = true := C.1 _ (List.mem_of_getElem? (i := 24) rfl)
theorem Cx.w25 {Z : State} {a0 : Array Value} (C : Cx Z a0) : (Jvm.Cond.laysFinal "java/lang/String" "java/lang/String" "coder" "B").before a0 Z = true := C.1 _ (List.mem_of_getElem? (i := 25) rfl)
theorem Cx.w26 {Z : State} {a0 : Array Value} (C : Cx Z a0) : (Jvm.Cond.methodLink "com/example/tiny_resolver/tinyresolver/clause/LiteralNegatedPinLaw" (13 : Nat) ({ cls := "com/example/tiny_resolver/tinyresolver/term/Application", name := "constant", desc := "(Ljava/lang/String;)Lcom/example/tiny_resolver/tinyresolver/term/Application;" } : Jvm.MethodName)).before a0 Z = true := C.1 _ (List.mem_of_getElem? (i := 26) rfl)
theorem Cx.w27 {Z : State} {a0 : Array Value} (C : Cx Z a0) : (Jvm.Cond.static ({ cls := "com/example/tiny_resolver/tinyresolver/term/Application", name := "constant", desc := "(Ljava/lang/String;)Lcom/example/tiny_resolver/tinyresolver/term/Application;" } : Jvm.MethodName)).before a0 Z = true := C.1 _ (List.mem_of_getElem? (i := 27) rfl)
theorem Cx.w28 {Z : State} {a0 : Array Value} (C : Cx Z a0) : (Jvm.Cond.initialized "com/example/tiny_resolver/tinyresolver/term/Application").before a0 Z = true := C.1 _ (List.mem_of_getElem? (i := 28) rfl)
theorem Cx.w29 {Z : State} {a0 : Array Value} (C : Cx Z a0) : (Jvm.Cond.code ({ cls := "com/example/tiny_resolver/tinyresolver/term/Application", name := "constant", desc := "(Ljava/lang/String;)Lcom/example/tiny_resolver/tinyresolver/term/Application;" } : Jvm.MethodName) prog_46_method_2_code (1 : Nat) (Option.some (Jvm.ClassFile.FieldType.object "com/example/tiny_resolver/tinyresolver/term/Application"))).before a0 Z = true := C.1 _ (List.mem_of_getElem? (i := 29) rfl)
theorem Cx.w30 {Z : State} {a0 : Array Value} (C : Cx Z a0) : (Jvm.Cond.classLink "com/example/tiny_resolver/tinyresolver/term/Application" (18 : Nat) "com/example/tiny_resolver/tinyresolver/term/Application").before a0 Z = true := C.1 _ (List.mem_of_getElem? (i := 30) rfl)
theorem Cx.w31 {Z : State} {a0 : Array Value} (C : Cx Z a0) : (Jvm.Cond.instantiable "com/example/tiny_resolver/tinyresolver/term/Application" (4 : Nat)).before a0 Z = true := C.1 _ (List.mem_of_getElem? (i := 31) rfl)
theorem Cx.w32 {Z : State} {a0 : Array Value} (C : Cx Z a0) : (Jvm.Cond.methodLink "com/example/tiny_resolver/tinyresolver/term/Application" (62 : Nat) ({ cls := "java/util/List", name := "of", desc := "()Ljava/util/List;" } : Jvm.MethodName)).before a0 Z = true := C.1 _ (List.mem_of_getElem? (i := 32) rfl)
theorem Cx.w33 {Z : State} {a0 : Array Value} (C : Cx Z a0) : (Jvm.Cond.static ({ cls := "java/util/List", name := "of", desc := "()Ljava/util/List;" } : Jvm.MethodName)).before a0 Z = true := C.1 _ (List.mem_of_getElem? (i := 33) rfl)
theorem Cx.w34 {Z : State} {a0 : Array Value} (C : Cx Z a0) : (Jvm.Cond.initialized "java/util/List").before a0 Z = true := C.1 _ (List.mem_of_getElem? (i := 34) rfl)
theorem Cx.w35 {Z : State} {a0 : Array Value} (C : Cx Z a0) : (Jvm.Cond.code ({ cls := "java/util/List", name := "of", desc := "()Ljava/util/List;" } : Jvm.MethodName) jdk_40_method_36_code (0 : Nat) (Option.some (Jvm.ClassFile.FieldType.object "java/util/List"))).before a0 Z = true := C.1 _ (List.mem_of_getElem? (i := 35) rfl)
theorem Cx.w36 {Z : State} {a0 : Array Value} (C : Cx Z a0) : (Jvm.Cond.fieldLink "java/util/List" (90 : Nat) "java/util/ImmutableCollections" "EMPTY_LIST" "Ljava/util/ImmutableCollections$ListN;").before a0 Z = true := C.1 _ (List.mem_of_getElem? (i := 36) rfl)
theorem Cx.w37 {Z : State} {a0 : Array Value} (C : Cx Z a0) : (Jvm.Cond.initialized "java/util/ImmutableCollections").before a0 Z = true := C.1 _ (List.mem_of_getElem? (i := 37) rfl)
theorem Cx.w38 {Z : State} {a0 : Array Value} (C : Cx Z a0) : (Jvm.Cond.methodLink "com/example/tiny_resolver/tinyresolver/term/Application" (66 : Nat) ({ cls := "com/example/tiny_resolver/tinyresolver/term/Application", name := "<init>", desc := "(Ljava/lang/String;Ljava/util/List;)V" } : Jvm.MethodName)).before a0 Z = true := C.1 _ (List.mem_of_getElem? (i := 38) rfl)
theorem Cx.w39 {Z : State} {a0 : Array Value} (C : Cx Z a0) : (Jvm.Cond.instanceMethod ({ cls := "com/example/tiny_resolver/tinyresolver/term/Application", name := "<init>", desc := "(Ljava/lang/String;Ljava/util/List;)V" } : Jvm.MethodName)).before a0 Z = true := C.1 _ (List.mem_of_getElem? (i := 39) rfl)
theorem Cx.w40 {Z : State} {a0 : Array Value} (C : Cx Z a0) : (Jvm.Cond.code ({ cls := "com/example/tiny_resolver/tinyresolver/term/Application", name := "<init>", desc := "(Ljava/lang/String;Ljava/util/List;)V" } : Jvm.MethodName) prog_46_method_1_code (6 : Nat) (Option.none : Option Jvm.ClassFile.FieldType)).before a0 Z = true := C.1 _ (List.mem_of_getElem? (i := 40) rfl)
theorem Cx.w41 {Z : State} {a0 : Array Value} (C : Cx Z a0) : (Jvm.Cond.methodLink "com/example/tiny_resolver/tinyresolver/term/Application" (1 : Nat) ({ cls := "java/lang/Object", name := "<init>", desc := "()V" } : Jvm.MethodName)).before a0 Z = true := C.1 _ (List.mem_of_getElem? (i := 41) rfl)
theorem Cx.w42 {Z : State} {a0 : Array Value} (C : Cx Z a0) : (Jvm.Cond.stringLink "com/example/tiny_resolver/tinyresolver/term/Application" (7 : Nat) "symbol").before a0 Z = true := C.1 _ (List.mem_of_getElem? (i := 42) rfl)
theorem Cx.w45 {Z : State} {a0 : Array Value} (C : Cx Z a0) : (Jvm.Cond.methodLink "com/example/tiny_resolver/tinyresolver/term/Application" (9 : Nat) ({ cls := "java/util/Objects", name := "requireNonNull", desc := "(Ljava/lang/Object;Ljava/lang/String;)Ljava/lang/Object;" } : Jvm.MethodName)).before a0 Z = true := C.1 _ (List.mem_of_getElem? (i := 45) rfl)
theorem Cx.w46 {Z : State} {a0 : Array Value} (C : Cx Z a0) : (Jvm.Cond.static ({ cls := "java/util/Objects", name := "requireNonNull", desc := "(Ljava/lang/Object;Ljava/lang/String;)Ljava/lang/Object;" } : Jvm.MethodName)).before a0 Z = true := C.1 _ (List.mem_of_getElem? (i := 46) rfl)
theorem Cx.w47 {Z : State} {a0 : Array Value} (C : Cx Z a0) : (Jvm.Cond.initialized "java/util/Objects").before a0 Z = true := C.1 _ (List.mem_of_getElem? (i := 47) rfl)
theorem Cx.w48 {Z : State} {a0 : Array Value} (C : Cx Z a0) : (Jvm.Cond.code ({ cls := "java/util/Objects", name := "requireNonNull", desc := "(Ljava/lang/Object;Ljava/lang/String;)Ljava/lang/Object;" } : Jvm.MethodName) jdk_31_method_11_code (2 : Nat) (Option.some (Jvm.ClassFile.FieldType.object "java/lang/Object"))).before a0 Z = true := C.1 _ (List.mem_of_getElem? (i := 48) rfl)
theorem Cx.w49 {Z : State} {a0 : Array Value} (C : Cx Z a0) : (Jvm.Cond.classLink "com/example/tiny_resolver/tinyresolver/term/Application" (15 : Nat) "java/lang/String").before a0 Z = true := C.1 _ (List.mem_of_getElem? (i := 49) rfl)
theorem Cx.w50 {Z : State} {a0 : Array Value} (C : Cx Z a0) : (Jvm.Cond.fieldLink "com/example/tiny_resolver/tinyresolver/term/Application" (17 : Nat) "com/example/tiny_resolver/tinyresolver/term/Application" "symbol" "Ljava/lang/String;").before a0 Z = true := C.1 _ (List.mem_of_getElem? (i := 50) rfl)
theorem Cx.w51 {Z : State} {a0 : Array Value} (C : Cx Z a0) : (Jvm.Cond.laysFinal "com/example/tiny_resolver/tinyresolver/term/Application" "com/example/tiny_resolver/tinyresolver/term/Application" "symbol" "Ljava/lang/String;").before a0 Z = true := C.1 _ (List.mem_of_getElem? (i := 51) rfl)
theorem Cx.w52 {Z : State} {a0 : Array Value} (C : Cx Z a0) : (Jvm.Cond.methodLink "com/example/tiny_resolver/tinyresolver/term/Application" (22 : Nat) ({ cls := "java/util/List", name := "copyOf", desc := "(Ljava/util/Collection;)Ljava/util/List;" } : Jvm.MethodName)).before a0 Z = true := C.1 _ (List.mem_of_getElem? (i := 52) rfl)
theorem Cx.w53 {Z : State} {a0 : Array Value} (C : Cx Z a0) : (Jvm.Cond.static ({ cls := "java/util/List", name := "copyOf", desc := "(Ljava/util/Collection;)Ljava/util/List;" } : Jvm.MethodName)).before a0 Z = true := C.1 _ (List.mem_of_getElem? (i := 53) rfl)
theorem Cx.w54 {Z : State} {a0 : Array Value} (C : Cx Z a0) : (Jvm.Cond.code ({ cls := "java/util/List", name := "copyOf", desc := "(Ljava/util/Collection;)Ljava/util/List;" } : Jvm.MethodName) jdk_40_method_48_code (1 : Nat) (Option.some (Jvm.ClassFile.FieldType.object "java/util/List"))).before a0 Z = true := C.1 _ (List.mem_of_getElem? (i := 54) rfl)
theorem Cx.w55 {Z : State} {a0 : Array Value} (C : Cx Z a0) : (Jvm.Cond.methodLink "java/util/List" (112 : Nat) ({ cls := "java/util/ImmutableCollections", name := "listCopy", desc := "(Ljava/util/Collection;)Ljava/util/List;" } : Jvm.MethodName)).before a0 Z = true := C.1 _ (List.mem_of_getElem? (i := 55) rfl)
theorem Cx.w56 {Z : State} {a0 : Array Value} (C : Cx Z a0) : (Jvm.Cond.static ({ cls := "java/util/ImmutableCollections", name := "listCopy", desc := "(Ljava/util/Collection;)Ljava/util/List;" } : Jvm.MethodName)).before a0 Z = true := C.1 _ (List.mem_of_getElem? (i := 56) rfl)
theorem Cx.w57 {Z : State} {a0 : Array Value} (C : Cx Z a0) : (Jvm.Cond.code ({ cls := "java/util/ImmutableCollections", name := "listCopy", desc := "(Ljava/util/Collection;)Ljava/util/List;" } : Jvm.MethodName) jdk_56_method_3_code (2 : Nat) (Option.some (Jvm.ClassFile.FieldType.object "java/util/List"))).before a0 Z = true := C.1 _ (List.mem_of_getElem? (i := 57) rfl)
theorem Cx.w58 {Z : State} {a0 : Array Value} (C : Cx Z a0) : (Jvm.Cond.classLink "java/util/ImmutableCollections" (10 : Nat) "java/util/ImmutableCollections$List12").before a0 Z = true := C.1 _ (List.mem_of_getElem? (i := 58) rfl)
theorem Cx.w64 {Z : State} {a0 : Array Value} (C : Cx Z a0) : (Jvm.Cond.classLink "java/util/ImmutableCollections" (12 : Nat) "java/util/ImmutableCollections$ListN").before a0 Z = true := C.1 _ (List.mem_of_getElem? (i := 64) rfl)
theorem Cx.w66 {Z : State} {a0 : Array Value} (C : Cx Z a0) : (Jvm.Cond.fieldLinkNest "java/util/ImmutableCollections" (14 : Nat) "java/util/ImmutableCollections$ListN" "allowNulls" "Z" "java/util/ImmutableCollections").before a0 Z = true := C.1 _ (List.mem_of_getElem? (i := 66) rfl)
theorem Cx.w68 {Z : State} {a0 : Array Value} (C : Cx Z a0) : (Jvm.Cond.classLink "java/util/ImmutableCollections" (18 : Nat) "java/util/List").before a0 Z = true := C.1 _ (List.mem_of_getElem? (i := 68) rfl)
theorem Cx.w69 {Z : State} {a0 : Array Value} (C : Cx Z a0) : (Jvm.Cond.castable "java/util/ImmutableCollections$ListN" "java/util/List").before a0 Z = true := C.1 _ (List.mem_of_getElem? (i := 69) rfl)
theorem Cx.w70 {Z : State} {a0 : Array Value} (C : Cx Z a0) : (Jvm.Cond.fieldLink "com/example/tiny_resolver/tinyresolver/term/Application" (28 : Nat) "com/example/tiny_resolver/tinyresolver/term/Application" "arguments" "Ljava/util/List;").before a0 Z = true := C.1 _ (List.mem_of_getElem? (i := 70) rfl)
theorem Cx.w71 {Z : State} {a0 : Array Value} (C : Cx Z a0) : (Jvm.Cond.laysFinal "com/example/tiny_resolver/tinyresolver/term/Application" "com/example/tiny_resolver/tinyresolver/term/Application" "arguments" "Ljava/util/List;").before a0 Z = true := C.1 _ (List.mem_of_getElem? (i := 71) rfl)
theorem Cx.w72 {Z : State} {a0 : Array Value} (C : Cx Z a0) : (Jvm.Cond.methodLink "com/example/tiny_resolver/tinyresolver/term/Application" (32 : Nat) ({ cls := "java/util/List", name := "iterator", desc := "()Ljava/util/Iterator;" } : Jvm.MethodName)).before a0 Z = true := C.1 _ (List.mem_of_getElem? (i := 72) rfl)
theorem Cx.w73 {Z : State} {a0 : Array Value} (C : Cx Z a0) : (Jvm.Cond.declares ({ cls := "java/util/List", name := "iterator", desc := "()Ljava/util/Iterator;" } : Jvm.MethodName)).before a0 Z = true := C.1 _ (List.mem_of_getElem? (i := 73) rfl)
theorem Cx.w74 {Z : State} {a0 : Array Value} (C : Cx Z a0) : (Jvm.Cond.interfaceMethod "java/util/List" "java/util/List" "iterator" "()Ljava/util/Iterator;").before a0 Z = true := C.1 _ (List.mem_of_getElem? (i := 74) rfl)
theorem Cx.w75 {Z : State} {a0 : Array Value} (C : Cx Z a0) : (Jvm.Cond.selects "java/util/ImmutableCollections$ListN" ({ cls := "java/util/List", name := "iterator", desc := "()Ljava/util/Iterator;" } : Jvm.MethodName) ({ cls := "java/util/ImmutableCollections$AbstractImmutableList", name := "iterator", desc := "()Ljava/util/Iterator;" } : Jvm.MethodName)).before a0 Z = true := C.1 _ (List.mem_of_getElem? (i := 75) rfl)
theorem Cx.w76 {Z : State} {a0 : Array Value} (C : Cx Z a0) : (Jvm.Cond.instanceMethod ({ cls := "java/util/ImmutableCollections$AbstractImmutableList", name := "iterator", desc := "()Ljava/util/Iterator;" } : Jvm.MethodName)).before a0 Z = true := C.1 _ (List.mem_of_getElem? (i := 76) rfl)
theorem Cx.w77 {Z : State} {a0 : Array Value} (C : Cx Z a0) : (Jvm.Cond.publicMethod ({ cls := "java/util/ImmutableCollections$AbstractImmutableList", name := "iterator", desc := "()Ljava/util/Iterator;" } : Jvm.MethodName)).before a0 Z = true := C.1 _ (List.mem_of_getElem? (i := 77) rfl)
theorem Cx.w78 {Z : State} {a0 : Array Value} (C : Cx Z a0) : (Jvm.Cond.unhidden "java/util/ImmutableCollections$ListN" "iterator" "()Ljava/util/Iterator;").before a0 Z = true := C.1 _ (List.mem_of_getElem? (i := 78) rfl)
theorem Cx.w79 {Z : State} {a0 : Array Value} (C : Cx Z a0) : (Jvm.Cond.initialized "java/util/ImmutableCollections$AbstractImmutableList").before a0 Z = true := C.1 _ (List.mem_of_getElem? (i := 79) rfl)
theorem Cx.w80 {Z : State} {a0 : Array Value} (C : Cx Z a0) : (Jvm.Cond.code ({ cls := "java/util/ImmutableCollections$AbstractImmutableList", name := "iterator", desc := "()Ljava/util/Iterator;" } : Jvm.MethodName) jdk_46_method_10_code (1 : Nat) (Option.some (Jvm.ClassFile.FieldType.object "java/util/Iterator"))).before a0 Z = true := C.1 _ (List.mem_of_getElem? (i := 80) rfl)
theorem Cx.w81 {Z : State} {a0 : Array Value} (C : Cx Z a0) : (Jvm.Cond.classLink "java/util/ImmutableCollections$AbstractImmutableList" (61 : Nat) "java/util/ImmutableCollections$ListItr").before a0 Z = true := C.1 _ (List.mem_of_getElem? (i := 81) rfl)
theorem Cx.w82 {Z : State} {a0 : Array Value} (C : Cx Z a0) : (Jvm.Cond.instantiable "java/util/ImmutableCollections$ListItr" (4 : Nat)).before a0 Z = true := C.1 _ (List.mem_of_getElem? (i := 82) rfl)
theorem Cx.w83 {Z : State} {a0 : Array Value} (C : Cx Z a0) : (Jvm.Cond.initialized "java/util/ImmutableCollections$ListItr").before a0 Z = true := C.1 _ (List.mem_of_getElem? (i := 83) rfl)
theorem Cx.w84 {Z : State} {a0 : Array Value} (C : Cx Z a0) : (Jvm.Cond.methodLink "java/util/ImmutableCollections$AbstractImmutableList" (13 : Nat) ({ cls := "java/util/ImmutableCollections$AbstractImmutableList", name := "size", desc := "()I" } : Jvm.MethodName)).before a0 Z = true := C.1 _ (List.mem_of_getElem? (i := 84) rfl)
theorem Cx.w85 {Z : State} {a0 : Array Value} (C : Cx Z a0) : (Jvm.Cond.sameMethod "java/util/ImmutableCollections$AbstractImmutableList" "java/util/AbstractCollection" "size" "()I").before a0 Z = true := C.1 _ (List.mem_of_getElem? (i := 85) rfl)
theorem Cx.w86 {Z : State} {a0 : Array Value} (C : Cx Z a0) : (Jvm.Cond.declares ({ cls := "java/util/AbstractCollection", name := "size", desc := "()I" } : Jvm.MethodName)).before a0 Z = true := C.1 _ (List.mem_of_getElem? (i := 86) rfl)
theorem Cx.w87 {Z : State} {a0 : Array Value} (C : Cx Z a0) : (Jvm.Cond.selects "java/util/ImmutableCollections$ListN" ({ cls := "java/util/ImmutableCollections$AbstractImmutableList", name := "size", desc := "()I" } : Jvm.MethodName) ({ cls := "java/util/ImmutableCollections$ListN", name := "size", desc := "()I" } : Jvm.MethodName)).before a0 Z = true := C.1 _ (List.mem_of_getElem? (i := 87) rfl)
theorem Cx.w88 {Z : State} {a0 : Array Value} (C : Cx Z a0) : (Jvm.Cond.instanceMethod ({ cls := "java/util/ImmutableCollections$ListN", name := "size", desc := "()I" } : Jvm.MethodName)).before a0 Z = true := C.1 _ (List.mem_of_getElem? (i := 88) rfl)
theorem Cx.w89 {Z : State} {a0 : Array Value} (C : Cx Z a0) : (Jvm.Cond.initialized "java/util/ImmutableCollections$ListN").before a0 Z = true := C.1 _ (List.mem_of_getElem? (i := 89) rfl)
theorem Cx.w90 {Z : State} {a0 : Array Value} (C : Cx Z a0) : (Jvm.Cond.code ({ cls := "java/util/ImmutableCollections$ListN", name := "size", desc := "()I" } : Jvm.MethodName) jdk_45_method_3_code (1 : Nat) (Option.some Jvm.ClassFile.FieldType.int)).before a0 Z = true := C.1 _ (List.mem_of_getElem? (i := 90) rfl)
theorem Cx.w91 {Z : State} {a0 : Array Value} (C : Cx Z a0) : (Jvm.Cond.fieldLink "java/util/ImmutableCollections$ListN" (7 : Nat) "java/util/ImmutableCollections$ListN" "elements" "[Ljava/lang/Object;").before a0 Z = true := C.1 _ (List.mem_of_getElem? (i := 91) rfl)
theorem Cx.w93 {Z : State} {a0 : Array Value} (C : Cx Z a0) : (Jvm.Cond.methodLink "java/util/ImmutableCollections$AbstractImmutableList" (63 : Nat) ({ cls := "java/util/ImmutableCollections$ListItr", name := "<init>", desc := "(Ljava/util/List;I)V" } : Jvm.MethodName)).before a0 Z = true := C.1 _ (List.mem_of_getElem? (i := 93) rfl)
theorem Cx.w94 {Z : State} {a0 : Array Value} (C : Cx Z a0) : (Jvm.Cond.instanceMethod ({ cls := "java/util/ImmutableCollections$ListItr", name := "<init>", desc := "(Ljava/util/List;I)V" } : Jvm.MethodName)).before a0 Z = true := C.1 _ (List.mem_of_getElem? (i := 94) rfl)
theorem Cx.w96 {Z : State} {a0 : Array Value} (C : Cx Z a0) : (Jvm.Cond.code ({ cls := "java/util/ImmutableCollections$ListItr", name := "<init>", desc := "(Ljava/util/List;I)V" } : Jvm.MethodName) jdk_53_method_1_code (3 : Nat) (Option.none : Option Jvm.ClassFile.FieldType)).before a0 Z = true := C.1 _ (List.mem_of_getElem? (i := 96) rfl)
theorem Cx.w97 {Z : State} {a0 : Array Value} (C : Cx Z a0) : (Jvm.Cond.methodLink "java/util/ImmutableCollections$ListItr" (1 : Nat) ({ cls := "java/lang/Object", name := "<init>", desc := "()V" } : Jvm.MethodName)).before a0 Z = true := C.1 _ (List.mem_of_getElem? (i := 97) rfl)
theorem Cx.w98 {Z : State} {a0 : Array Value} (C : Cx Z a0) : (Jvm.Cond.fieldLink "java/util/ImmutableCollections$ListItr" (7 : Nat) "java/util/ImmutableCollections$ListItr" "list" "Ljava/util/List;").before a0 Z = true := C.1 _ (List.mem_of_getElem? (i := 98) rfl)
theorem Cx.w99 {Z : State} {a0 : Array Value} (C : Cx Z a0) : (Jvm.Cond.laysFinal "java/util/ImmutableCollections$ListItr" "java/util/ImmutableCollections$ListItr" "list" "Ljava/util/List;").before a0 Z = true := C.1 _ (List.mem_of_getElem? (i := 99) rfl)
theorem Cx.w100 {Z : State} {a0 : Array Value} (C : Cx Z a0) : (Jvm.Cond.fieldLink "java/util/ImmutableCollections$ListItr" (13 : Nat) "java/util/ImmutableCollections$ListItr" "size" "I").before a0 Z = true := C.1 _ (List.mem_of_getElem? (i := 100) rfl)
theorem Cx.w101 {Z : State} {a0 : Array Value} (C : Cx Z a0) : (Jvm.Cond.laysFinal "java/util/ImmutableCollections$ListItr" "java/util/ImmutableCollections$ListItr" "size" "I").before a0 Z = true := C.1 _ (List.mem_of_getElem? (i := 101) rfl)
theorem Cx.w102 {Z : State} {a0 : Array Value} (C : Cx Z a0) : (Jvm.Cond.fieldLink "java/util/ImmutableCollections$ListItr" (17 : Nat) "java/util/ImmutableCollections$ListItr" "cursor" "I").before a0 Z = true := C.1 _ (List.mem_of_getElem? (i := 102) rfl)
theorem Cx.w103 {Z : State} {a0 : Array Value} (C : Cx Z a0) : (Jvm.Cond.lays "java/util/ImmutableCollections$ListItr" "java/util/ImmutableCollections$ListItr" "cursor" "I").before a0 Z = true := C.1 _ (List.mem_of_getElem? (i := 103) rfl)
theorem Cx.w104 {Z : State} {a0 : Array Value} (C : Cx Z a0) : (Jvm.Cond.fieldLink "java/util/ImmutableCollections$ListItr" (20 : Nat) "java/util/ImmutableCollections$ListItr" "isListIterator" "Z").before a0 Z = true := C.1 _ (List.mem_of_getElem? (i := 104) rfl)
theorem Cx.w105 {Z : State} {a0 : Array Value} (C : Cx Z a0) : (Jvm.Cond.laysFinal "java/util/ImmutableCollections$ListItr" "java/util/ImmutableCollections$ListItr" "isListIterator" "Z").before a0 Z = true := C.1 _ (List.mem_of_getElem? (i := 105) rfl)
theorem Cx.w106 {Z : State} {a0 : Array Value} (C : Cx Z a0) : (Jvm.Cond.methodLink "com/example/tiny_resolver/tinyresolver/term/Application" (36 : Nat) ({ cls := "java/util/Iterator", name := "hasNext", desc := "()Z" } : Jvm.MethodName)).before a0 Z = true := C.1 _ (List.mem_of_getElem? (i := 106) rfl)
theorem Cx.w107 {Z : State} {a0 : Array Value} (C : Cx Z a0) : (Jvm.Cond.declares ({ cls := "java/util/Iterator", name := "hasNext", desc := "()Z" } : Jvm.MethodName)).before a0 Z = true := C.1 _ (List.mem_of_getElem? (i := 107) rfl)
theorem Cx.w108 {Z : State} {a0 : Array Value} (C : Cx Z a0) : (Jvm.Cond.interfaceMethod "java/util/Iterator" "java/util/Iterator" "hasNext" "()Z").before a0 Z = true := C.1 _ (List.mem_of_getElem? (i := 108) rfl)
theorem Cx.w109 {Z : State} {a0 : Array Value} (C : Cx Z a0) : (Jvm.Cond.selects "java/util/ImmutableCollections$ListItr" ({ cls := "java/util/Iterator", name := "hasNext", desc := "()Z" } : Jvm.MethodName) ({ cls := "java/util/ImmutableCollections$ListItr", name := "hasNext", desc := "()Z" } : Jvm.MethodName)).before a0 Z = true := C.1 _ (List.mem_of_getElem? (i := 109) rfl)
theorem Cx.w110 {Z : State} {a0 : Array Value} (C : Cx Z a0) : (Jvm.Cond.instanceMethod ({ cls := "java/util/ImmutableCollections$ListItr", name := "hasNext", desc := "()Z" } : Jvm.MethodName)).before a0 Z = true := C.1 _ (List.mem_of_getElem? (i := 110) rfl)
theorem Cx.w111 {Z : State} {a0 : Array Value} (C : Cx Z a0) : (Jvm.Cond.publicMethod ({ cls := "java/util/ImmutableCollections$ListItr", name := "hasNext", desc := "()Z" } : Jvm.MethodName)).before a0 Z = true := C.1 _ (List.mem_of_getElem? (i := 111) rfl)
theorem Cx.w112 {Z : State} {a0 : Array Value} (C : Cx Z a0) : (Jvm.Cond.unhidden "java/util/ImmutableCollections$ListItr" "hasNext" "()Z").before a0 Z = true := C.1 _ (List.mem_of_getElem? (i := 112) rfl)
theorem Cx.w113 {Z : State} {a0 : Array Value} (C : Cx Z a0) : (Jvm.Cond.castable "java/util/ImmutableCollections$ListItr" "java/util/Iterator").before a0 Z = true := C.1 _ (List.mem_of_getElem? (i := 113) rfl)
theorem Cx.w114 {Z : State} {a0 : Array Value} (C : Cx Z a0) : (Jvm.Cond.code ({ cls := "java/util/ImmutableCollections$ListItr", name := "hasNext", desc := "()Z" } : Jvm.MethodName) jdk_53_method_3_code (1 : Nat) (Option.some Jvm.ClassFile.FieldType.boolean)).before a0 Z = true := C.1 _ (List.mem_of_getElem? (i := 114) rfl)
theorem Cx.w115 {Z : State} {a0 : Array Value} (C : Cx Z a0) : (Jvm.Cond.fieldLink "com/example/tiny_resolver/tinyresolver/term/Application" (52 : Nat) "com/example/tiny_resolver/tinyresolver/term/Application" "size" "I").before a0 Z = true := C.1 _ (List.mem_of_getElem? (i := 115) rfl)
theorem Cx.w116 {Z : State} {a0 : Array Value} (C : Cx Z a0) : (Jvm.Cond.laysFinal "com/example/tiny_resolver/tinyresolver/term/Application" "com/example/tiny_resolver/tinyresolver/term/Application" "size" "I").before a0 Z = true := C.1 _ (List.mem_of_getElem? (i := 116) rfl)
theorem Cx.w117 {Z : State} {a0 : Array Value} (C : Cx Z a0) : (Jvm.Cond.methodLink "com/example/tiny_resolver/tinyresolver/term/Application" (55 : Nat) ({ cls := "java/lang/String", name := "hashCode", desc := "()I" } : Jvm.MethodName)).before a0 Z = true := C.1 _ (List.mem_of_getElem? (i := 117) rfl)
theorem Cx.w118 {Z : State} {a0 : Array Value} (C : Cx Z a0) : (Jvm.Cond.declares ({ cls := "java/lang/String", name := "hashCode", desc := "()I" } : Jvm.MethodName)).before a0 Z = true := C.1 _ (List.mem_of_getElem? (i := 118) rfl)
theorem Cx.w119 {Z : State} {a0 : Array Value} (C : Cx Z a0) : (Jvm.Cond.instanceMethod ({ cls := "java/lang/String", name := "hashCode", desc := "()I" } : Jvm.MethodName)).before a0 Z = true := C.1 _ (List.mem_of_getElem? (i := 119) rfl)
theorem Cx.w120 {Z : State} {a0 : Array Value} (C : Cx Z a0) : (Jvm.Cond.selects "java/lang/String" ({ cls := "java/lang/String", name := "hashCode", desc := "()I" } : Jvm.MethodName) ({ cls := "java/lang/String", name := "hashCode", desc := "()I" } : Jvm.MethodName)).before a0 Z = true := C.1 _ (List.mem_of_getElem? (i := 120) rfl)
theorem Cx.w121 {Z : State} {a0 : Array Value} (C : Cx Z a0) : (Jvm.Cond.code ({ cls := "java/lang/String", name := "hashCode", desc := "()I" } : Jvm.MethodName) jdk_42_method_78_code (2 : Nat) (Option.some Jvm.ClassFile.FieldType.int)).before a0 Z = true := C.1 _ (List.mem_of_getElem? (i := 121) rfl)
theorem Cx.w122 {Z : State} {a0 : Array Value} (C : Cx Z a0) : (Jvm.Cond.fieldLink "java/lang/String" (19 : Nat) "java/lang/String" "hash" "I").before a0 Z = true := C.1 _ (List.mem_of_getElem? (i := 122) rfl)
theorem Cx.w123 {Z : State} {a0 : Array Value} (C : Cx Z a0) : (Jvm.Cond.lays "java/lang/String" "java/lang/String" "hash" "I").before a0 Z = true := C.1 _ (List.mem_of_getElem? (i := 123) rfl)
theorem Cx.w124 {Z : State} {a0 : Array Value} (C : Cx Z a0) : (Jvm.Cond.fieldLink "java/lang/String" (23 : Nat) "java/lang/String" "hashIsZero" "Z").before a0 Z = true := C.1 _ (List.mem_of_getElem? (i := 124) rfl)
theorem Cx.w125 {Z : State} {a0 : Array Value} (C : Cx Z a0) : (Jvm.Cond.lays "java/lang/String" "java/lang/String" "hashIsZero" "Z").before a0 Z = true := C.1 _ (List.mem_of_getElem? (i := 125) rfl)
theorem Cx.w126 {Z : State} {a0 : Array Value} (C : Cx Z a0) : (Jvm.Cond.methodLink "java/lang/String" (492 : Nat) ({ cls := "java/lang/String", name := "isLatin1", desc := "()Z" } : Jvm.MethodName)).before a0 Z = true := C.1 _ (List.mem_of_getElem? (i := 126) rfl)
theorem Cx.w127 {Z : State} {a0 : Array Value} (C : Cx Z a0) : (Jvm.Cond.declares ({ cls := "java/lang/String", name := "isLatin1", desc := "()Z" } : Jvm.MethodName)).before a0 Z = true := C.1 _ (List.mem_of_getElem? (i := 127) rfl)
theorem Cx.w128 {Z : State} {a0 : Array Value} (C : Cx Z a0) : (Jvm.Cond.instanceMethod ({ cls := "java/lang/String", name := "isLatin1", desc := "()Z" } : Jvm.MethodName)).before a0 Z = true := C.1 _ (List.mem_of_getElem? (i := 128) rfl)
theorem Cx.w129 {Z : State} {a0 : Array Value} (C : Cx Z a0) : (Jvm.Cond.selects "java/lang/String" ({ cls := "java/lang/String", name := "isLatin1", desc := "()Z" } : Jvm.MethodName) ({ cls := "java/lang/String", name := "isLatin1", desc := "()Z" } : Jvm.MethodName)).before a0 Z = true := C.1 _ (List.mem_of_getElem? (i := 129) rfl)
theorem Cx.w130 {Z : State} {a0 : Array Value} (C : Cx Z a0) : (Jvm.Cond.code ({ cls := "java/lang/String", name := "isLatin1", desc := "()Z" } : Jvm.MethodName) jdk_42_method_154_code (1 : Nat) (Option.some Jvm.ClassFile.FieldType.boolean)).before a0 Z = true := C.1 _ (List.mem_of_getElem? (i := 130) rfl)
theorem Cx.w131 {Z : State} {a0 : Array Value} (C : Cx Z a0) : (Jvm.Cond.methodLink "java/lang/String" (628 : Nat) ({ cls := "java/lang/StringLatin1", name := "hashCode", desc := "([B)I" } : Jvm.MethodName)).before a0 Z = true := C.1 _ (List.mem_of_getElem? (i := 131) rfl)
theorem Cx.w132 {Z : State} {a0 : Array Value} (C : Cx Z a0) : (Jvm.Cond.static ({ cls := "java/lang/StringLatin1", name := "hashCode", desc := "([B)I" } : Jvm.MethodName)).before a0 Z = true := C.1 _ (List.mem_of_getElem? (i := 132) rfl)
theorem Cx.w133 {Z : State} {a0 : Array Value} (C : Cx Z a0) : (Jvm.Cond.code ({ cls := "java/lang/StringLatin1", name := "hashCode", desc := "([B)I" } : Jvm.MethodName) jdk_43_method_21_code (1 : Nat) (Option.some Jvm.ClassFile.FieldType.int)).before a0 Z = true := C.1 _ (List.mem_of_getElem? (i := 133) rfl)
theorem Cx.w134 {Z : State} {a0 : Array Value} (C : Cx Z a0) : (Jvm.Cond.methodLink "com/example/tiny_resolver/tinyresolver/term/Application" (58 : Nat) ({ cls := "java/util/List", name := "hashCode", desc := "()I" } : Jvm.MethodName)).before a0 Z = true := C.1 _ (List.mem_of_getElem? (i := 134) rfl)
theorem Cx.w135 {Z : State} {a0 : Array Value} (C : Cx Z a0) : (Jvm.Cond.declares ({ cls := "java/util/List", name := "hashCode", desc := "()I" } : Jvm.MethodName)).before a0 Z = true := C.1 _ (List.mem_of_getElem? (i := 135) rfl)
theorem Cx.w136 {Z : State} {a0 : Array Value} (C : Cx Z a0) : (Jvm.Cond.interfaceMethod "java/util/List" "java/util/List" "hashCode" "()I").before a0 Z = true := C.1 _ (List.mem_of_getElem? (i := 136) rfl)
theorem Cx.w137 {Z : State} {a0 : Array Value} (C : Cx Z a0) : (Jvm.Cond.selects "java/util/ImmutableCollections$ListN" ({ cls := "java/util/List", name := "hashCode", desc := "()I" } : Jvm.MethodName) ({ cls := "java/util/ImmutableCollections$AbstractImmutableList", name := "hashCode", desc := "()I" } : Jvm.MethodName)).before a0 Z = true := C.1 _ (List.mem_of_getElem? (i := 137) rfl)
theorem Cx.w138 {Z : State} {a0 : Array Value} (C : Cx Z a0) : (Jvm.Cond.instanceMethod ({ cls := "java/util/ImmutableCollections$AbstractImmutableList", name := "hashCode", desc := "()I" } : Jvm.MethodName)).before a0 Z = true := C.1 _ (List.mem_of_getElem? (i := 138) rfl)
theorem Cx.w139 {Z : State} {a0 : Array Value} (C : Cx Z a0) : (Jvm.Cond.publicMethod ({ cls := "java/util/ImmutableCollections$AbstractImmutableList", name := "hashCode", desc := "()I" } : Jvm.MethodName)).before a0 Z = true := C.1 _ (List.mem_of_getElem? (i := 139) rfl)
theorem Cx.w140 {Z : State} {a0 : Array Value} (C : Cx Z a0) : (Jvm.Cond.unhidden "java/util/ImmutableCollections$ListN" "hashCode" "()I").before a0 Z = true := C.1 _ (List.mem_of_getElem? (i := 140) rfl)
theorem Cx.w141 {Z : State} {a0 : Array Value} (C : Cx Z a0) : (Jvm.Cond.code ({ cls := "java/util/ImmutableCollections$AbstractImmutableList", name := "hashCode", desc := "()I" } : Jvm.MethodName) jdk_46_method_14_code (4 : Nat) (Option.some Jvm.ClassFile.FieldType.int)).before a0 Z = true := C.1 _ (List.mem_of_getElem? (i := 141) rfl)
theorem Cx.w142 {Z : State} {a0 : Array Value} (C : Cx Z a0) : (Jvm.Cond.fieldLink "com/example/tiny_resolver/tinyresolver/term/Application" (59 : Nat) "com/example/tiny_resolver/tinyresolver/term/Application" "hash" "I").before a0 Z = true := C.1 _ (List.mem_of_getElem? (i := 142) rfl)
theorem Cx.w143 {Z : State} {a0 : Array Value} (C : Cx Z a0) : (Jvm.Cond.laysFinal "com/example/tiny_resolver/tinyresolver/term/Application" "com/example/tiny_resolver/tinyresolver/term/Application" "hash" "I").before a0 Z = true := C.1 _ (List.mem_of_getElem? (i := 143) rfl)
theorem Cx.w144 {Z : State} {a0 : Array Value} (C : Cx Z a0) : (Jvm.Cond.classLink "com/example/tiny_resolver/tinyresolver/clause/LiteralNegatedPinLaw" (19 : Nat) "com/example/tiny_resolver/tinyresolver/clause/Literal").before a0 Z = true := C.1 _ (List.mem_of_getElem? (i := 144) rfl)
theorem Cx.w145 {Z : State} {a0 : Array Value} (C : Cx Z a0) : (Jvm.Cond.instantiable "com/example/tiny_resolver/tinyresolver/clause/Literal" (2 : Nat)).before a0 Z = true := C.1 _ (List.mem_of_getElem? (i := 145) rfl)
theorem Cx.w146 {Z : State} {a0 : Array Value} (C : Cx Z a0) : (Jvm.Cond.initialized "com/example/tiny_resolver/tinyresolver/clause/Literal").before a0 Z = true := C.1 _ (List.mem_of_getElem? (i := 146) rfl)
theorem Cx.w147 {Z : State} {a0 : Array Value} (C : Cx Z a0) : (Jvm.Cond.methodLink "com/example/tiny_resolver/tinyresolver/clause/LiteralNegatedPinLaw" (21 : Nat) ({ cls := "com/example/tiny_resolver/tinyresolver/clause/Literal", name := "<init>", desc := "(ZLcom/example/tiny_resolver/tinyresolver/term/Application;)V" } : Jvm.MethodName)).before a0 Z = true := C.1 _ (List.mem_of_getElem? (i := 147) rfl)
theorem Cx.w148 {Z : State} {a0 : Array Value} (C : Cx Z a0) : (Jvm.Cond.instanceMethod ({ cls := "com/example/tiny_resolver/tinyresolver/clause/Literal", name := "<init>", desc := "(ZLcom/example/tiny_resolver/tinyresolver/term/Application;)V" } : Jvm.MethodName)).before a0 Z = true := C.1 _ (List.mem_of_getElem? (i := 148) rfl)
theorem Cx.w149 {Z : State} {a0 : Array Value} (C : Cx Z a0) : (Jvm.Cond.code ({ cls := "com/example/tiny_resolver/tinyresolver/clause/Literal", name := "<init>", desc := "(ZLcom/example/tiny_resolver/tinyresolver/term/Application;)V" } : Jvm.MethodName) prog_13_method_1_code (3 : Nat) (Option.none : Option Jvm.ClassFile.FieldType)).before a0 Z = true := C.1 _ (List.mem_of_getElem? (i := 149) rfl)
theorem Cx.w150 {Z : State} {a0 : Array Value} (C : Cx Z a0) : (Jvm.Cond.methodLink "com/example/tiny_resolver/tinyresolver/clause/Literal" (1 : Nat) ({ cls := "java/lang/Record", name := "<init>", desc := "()V" } : Jvm.MethodName)).before a0 Z = true := C.1 _ (List.mem_of_getElem? (i := 150) rfl)
theorem Cx.w151 {Z : State} {a0 : Array Value} (C : Cx Z a0) : (Jvm.Cond.instanceMethod ({ cls := "java/lang/Record", name := "<init>", desc := "()V" } : Jvm.MethodName)).before a0 Z = true := C.1 _ (List.mem_of_getElem? (i := 151) rfl)
theorem Cx.w153 {Z : State} {a0 : Array Value} (C : Cx Z a0) : (Jvm.Cond.initialized "java/lang/Record").before a0 Z = true := C.1 _ (List.mem_of_getElem? (i := 153) rfl)
theorem Cx.w154 {Z : State} {a0 : Array Value} (C : Cx Z a0) : (Jvm.Cond.code ({ cls := "java/lang/Record", name := "<init>", desc := "()V" } : Jvm.MethodName) jdk_30_method_1_code (1 : Nat) (Option.none : Option Jvm.ClassFile.FieldType)).before a0 Z = true := C.1 _ (List.mem_of_getElem? (i := 154) rfl)
theorem Cx.w155 {Z : State} {a0 : Array Value} (C : Cx Z a0) : (Jvm.Cond.methodLink "java/lang/Record" (1 : Nat) ({ cls := "java/lang/Object", name := "<init>", desc := "()V" } : Jvm.MethodName)).before a0 Z = true := C.1 _ (List.mem_of_getElem? (i := 155) rfl)
theorem Cx.w156 {Z : State} {a0 : Array Value} (C : Cx Z a0) : (Jvm.Cond.stringLink "com/example/tiny_resolver/tinyresolver/clause/Literal" (7 : Nat) "atom").before a0 Z = true := C.1 _ (List.mem_of_getElem? (i := 156) rfl)
theorem Cx.w157 {Z : State} {a0 : Array Value} (C : Cx Z a0) : (Jvm.Cond.methodLink "com/example/tiny_resolver/tinyresolver/clause/Literal" (9 : Nat) ({ cls := "java/util/Objects", name := "requireNonNull", desc := "(Ljava/lang/Object;Ljava/lang/String;)Ljava/lang/Object;" } : Jvm.MethodName)).before a0 Z = true := C.1 _ (List.mem_of_getElem? (i := 157) rfl)
theorem Cx.w158 {Z : State} {a0 : Array Value} (C : Cx Z a0) : (Jvm.Cond.fieldLink "com/example/tiny_resolver/tinyresolver/clause/Literal" (15 : Nat) "com/example/tiny_resolver/tinyresolver/clause/Literal" "positive" "Z").before a0 Z = true := C.1 _ (List.mem_of_getElem? (i := 158) rfl)
theorem Cx.w159 {Z : State} {a0 : Array Value} (C : Cx Z a0) : (Jvm.Cond.laysFinal "com/example/tiny_resolver/tinyresolver/clause/Literal" "com/example/tiny_resolver/tinyresolver/clause/Literal" "positive" "Z").before a0 Z = true := C.1 _ (List.mem_of_getElem? (i := 159) rfl)
theorem Cx.w160 {Z : State} {a0 : Array Value} (C : Cx Z a0) : (Jvm.Cond.fieldLink "com/example/tiny_resolver/tinyresolver/clause/Literal" (21 : Nat) "com/example/tiny_resolver/tinyresolver/clause/Literal" "atom" "Lcom/example/tiny_resolver/tinyresolver/term/Application;").before a0 Z = true := C.1 _ (List.mem_of_getElem? (i := 160) rfl)
theorem Cx.w161 {Z : State} {a0 : Array Value} (C : Cx Z a0) : (Jvm.Cond.laysFinal "com/example/tiny_resolver/tinyresolver/clause/Literal" "com/example/tiny_resolver/tinyresolver/clause/Literal" "atom" "Lcom/example/tiny_resolver/tinyresolver/term/Application;").before a0 Z = true := C.1 _ (List.mem_of_getElem? (i := 161) rfl)
theorem Cx.w162 {Z : State} {a0 : Array Value} (C : Cx Z a0) : (Jvm.Cond.methodLink "com/example/tiny_resolver/tinyresolver/clause/LiteralNegatedPinLaw" (24 : Nat) ({ cls := "com/example/tiny_resolver/tinyresolver/clause/Literal", name := "negated", desc := "()Lcom/example/tiny_resolver/tinyresolver/clause/Literal;" } : Jvm.MethodName)).before a0 Z = true := C.1 _ (List.mem_of_getElem? (i := 162) rfl)
theorem Cx.w163 {Z : State} {a0 : Array Value} (C : Cx Z a0) : (Jvm.Cond.declares ({ cls := "com/example/tiny_resolver/tinyresolver/clause/Literal", name := "negated", desc := "()Lcom/example/tiny_resolver/tinyresolver/clause/Literal;" } : Jvm.MethodName)).before a0 Z = true := C.1 _ (List.mem_of_getElem? (i := 163) rfl)
theorem Cx.w164 {Z : State} {a0 : Array Value} (C : Cx Z a0) : (Jvm.Cond.instanceMethod ({ cls := "com/example/tiny_resolver/tinyresolver/clause/Literal", name := "negated", desc := "()Lcom/example/tiny_resolver/tinyresolver/clause/Literal;" } : Jvm.MethodName)).before a0 Z = true := C.1 _ (List.mem_of_getElem? (i := 164) rfl)
theorem Cx.w165 {Z : State} {a0 : Array Value} (C : Cx Z a0) : (Jvm.Cond.selects "com/example/tiny_resolver/tinyresolver/clause/Literal" ({ cls := "com/example/tiny_resolver/tinyresolver/clause/Literal", name := "negated", desc := "()Lcom/example/tiny_resolver/tinyresolver/clause/Literal;" } : Jvm.MethodName) ({ cls := "com/example/tiny_resolver/tinyresolver/clause/Literal", name := "negated", desc := "()Lcom/example/tiny_resolver/tinyresolver/clause/Literal;" } : Jvm.MethodName)).before a0 Z = true := C.1 _ (List.mem_of_getElem? (i := 165) rfl)
theorem Cx.w166 {Z : State} {a0 : Array Value} (C : Cx Z a0) : (Jvm.Cond.code ({ cls := "com/example/tiny_resolver/tinyresolver/clause/Literal", name := "negated", desc := "()Lcom/example/tiny_resolver/tinyresolver/clause/Literal;" } : Jvm.MethodName) prog_13_method_5_code (1 : Nat) (Option.some (Jvm.ClassFile.FieldType.object "com/example/tiny_resolver/tinyresolver/clause/Literal"))).before a0 Z = true := C.1 _ (List.mem_of_getElem? (i := 166) rfl)
theorem Cx.w167 {Z : State} {a0 : Array Value} (C : Cx Z a0) : (Jvm.Cond.classLink "com/example/tiny_resolver/tinyresolver/clause/Literal" (16 : Nat) "com/example/tiny_resolver/tinyresolver/clause/Literal").before a0 Z = true := C.1 _ (List.mem_of_getElem? (i := 167) rfl)
theorem Cx.w168 {Z : State} {a0 : Array Value} (C : Cx Z a0) : (Jvm.Cond.methodLink "com/example/tiny_resolver/tinyresolver/clause/Literal" (37 : Nat) ({ cls := "com/example/tiny_resolver/tinyresolver/clause/Literal", name := "<init>", desc := "(ZLcom/example/tiny_resolver/tinyresolver/term/Application;)V" } : Jvm.MethodName)).before a0 Z = true := C.1 _ (List.mem_of_getElem? (i := 168) rfl)
theorem Cx.w169 {Z : State} {a0 : Array Value} (C : Cx Z a0) : (Jvm.Cond.methodLink "com/example/tiny_resolver/tinyresolver/clause/LiteralNegatedPinLaw" (28 : Nat) ({ cls := "com/example/tiny_resolver/tinyresolver/clause/Literal", name := "positive", desc := "()Z" } : Jvm.MethodName)).before a0 Z = true := C.1 _ (List.mem_of_getElem? (i := 169) rfl)
theorem Cx.w170 {Z : State} {a0 : Array Value} (C : Cx Z a0) : (Jvm.Cond.declares ({ cls := "com/example/tiny_resolver/tinyresolver/clause/Literal", name := "positive", desc := "()Z" } : Jvm.MethodName)).before a0 Z = true := C.1 _ (List.mem_of_getElem? (i := 170) rfl)
theorem Cx.w171 {Z : State} {a0 : Array Value} (C : Cx Z a0) : (Jvm.Cond.instanceMethod ({ cls := "com/example/tiny_resolver/tinyresolver/clause/Literal", name := "positive", desc := "()Z" } : Jvm.MethodName)).before a0 Z = true := C.1 _ (List.mem_of_getElem? (i := 171) rfl)
theorem Cx.w172 {Z : State} {a0 : Array Value} (C : Cx Z a0) : (Jvm.Cond.selects "com/example/tiny_resolver/tinyresolver/clause/Literal" ({ cls := "com/example/tiny_resolver/tinyresolver/clause/Literal", name := "positive", desc := "()Z" } : Jvm.MethodName) ({ cls := "com/example/tiny_resolver/tinyresolver/clause/Literal", name := "positive", desc := "()Z" } : Jvm.MethodName)).before a0 Z = true := C.1 _ (List.mem_of_getElem? (i := 172) rfl)
theorem Cx.w173 {Z : State} {a0 : Array Value} (C : Cx Z a0) : (Jvm.Cond.code ({ cls := "com/example/tiny_resolver/tinyresolver/clause/Literal", name := "positive", desc := "()Z" } : Jvm.MethodName) prog_13_method_11_code (1 : Nat) (Option.some Jvm.ClassFile.FieldType.boolean)).before a0 Z = true := C.1 _ (List.mem_of_getElem? (i := 173) rfl)
theorem Cx.w174 {Z : State} {a0 : Array Value} (C : Cx Z a0) : (Jvm.Cond.methodLink "com/example/tiny_resolver/tinyresolver/clause/LiteralNegatedPinLaw" (32 : Nat) ({ cls := "com/example/tiny_resolver/tinyresolver/clause/Literal", name := "atom", desc := "()Lcom/example/tiny_resolver/tinyresolver/term/Application;" } : Jvm.MethodName)).before a0 Z = true := C.1 _ (List.mem_of_getElem? (i := 174) rfl)
theorem Cx.w175 {Z : State} {a0 : Array Value} (C : Cx Z a0) : (Jvm.Cond.declares ({ cls := "com/example/tiny_resolver/tinyresolver/clause/Literal", name := "atom", desc := "()Lcom/example/tiny_resolver/tinyresolver/term/Application;" } : Jvm.MethodName)).before a0 Z = true := C.1 _ (List.mem_of_getElem? (i := 175) rfl)
theorem Cx.w176 {Z : State} {a0 : Array Value} (C : Cx Z a0) : (Jvm.Cond.instanceMethod ({ cls := "com/example/tiny_resolver/tinyresolver/clause/Literal", name := "atom", desc := "()Lcom/example/tiny_resolver/tinyresolver/term/Application;" } : Jvm.MethodName)).before a0 Z = true := C.1 _ (List.mem_of_getElem? (i := 176) rfl)
theorem Cx.w177 {Z : State} {a0 : Array Value} (C : Cx Z a0) : (Jvm.Cond.selects "com/example/tiny_resolver/tinyresolver/clause/Literal" ({ cls := "com/example/tiny_resolver/tinyresolver/clause/Literal", name := "atom", desc := "()Lcom/example/tiny_resolver/tinyresolver/term/Application;" } : Jvm.MethodName) ({ cls := "com/example/tiny_resolver/tinyresolver/clause/Literal", name := "atom", desc := "()Lcom/example/tiny_resolver/tinyresolver/term/Application;" } : Jvm.MethodName)).before a0 Z = true := C.1 _ (List.mem_of_getElem? (i := 177) rfl)
theorem Cx.w178 {Z : State} {a0 : Array Value} (C : Cx Z a0) : (Jvm.Cond.code ({ cls := "com/example/tiny_resolver/tinyresolver/clause/Literal", name := "atom", desc := "()Lcom/example/tiny_resolver/tinyresolver/term/Application;" } : Jvm.MethodName) prog_13_method_12_code (1 : Nat) (Option.some (Jvm.ClassFile.FieldType.object "com/example/tiny_resolver/tinyresolver/term/Application"))).before a0 Z = true := C.1 _ (List.mem_of_getElem? (i := 178) rfl)
theorem Cx.compact {Z : State} {a0 : Array Value} (C : Cx Z a0) : (∃ cz : Int32, Sta Z Z.heap "java/lang/String" "COMPACT_STRINGS" "Z" (.int cz) ∧ ¬ cz = 0) := C.2
theorem Cx.strs {Z : State} {a0 : Array Value} (C : Cx Z a0) : ∀ a ∈ Bundle.stringAtoms, a.before a0 Z = true := fun d hd => C.1 d ((by decide +kernel : ∀ d ∈ Bundle.stringAtoms, d ∈ tables_1) d hd)
def Lst (Z : State) (le ea : Addr) : Prop := Sta Z Z.heap "java/util/ImmutableCollections" "EMPTY_LIST" "Ljava/util/ImmutableCollections$ListN;" (.ref le) ∧ Exa Z Z.heap le "java/util/ImmutableCollections$ListN" ∧ Fld Z Z.heap le "java/util/ImmutableCollections$ListN" "elements" "[Ljava/lang/Object;" (.ref ea) ∧ Fld Z Z.heap le "java/util/ImmutableCollections$ListN" "allowNulls" "Z" (.int (0 : Int32)) ∧ Len Z Z.heap ea (0 : Int32)
theorem d_jdk_43_method_3_code_0 : decode jdk_43_method_3_code 0 = .ok (.iload_n 0, 1) := by decide +kernel
theorem d_jdk_43_method_3_code_1 : decode jdk_43_method_3_code 1 = .ok (.sipush 255, 3) := by decide +kernel
theorem d_jdk_43_method_3_code_4 : decode jdk_43_method_3_code 4 = .ok (.if_icmp .gt 7, 3) := by decide +kernel
theorem d_jdk_43_method_3_code_7 : decode jdk_43_method_3_code 7 = .ok (.iconst 1, 1) := by decide +kernel
theorem d_jdk_43_method_3_code_8 : decode jdk_43_method_3_code 8 = .ok (.goto 4, 3) := by decide +kernel
theorem d_jdk_43_method_3_code_12 : decode jdk_43_method_3_code 12 = .ok (.ireturn, 1) := by decide +kernel
def R_c_canE : Room := { frames := 0, cells := 0, slots := 0, locals := 0 }
theorem pl_b2 : plainFor (⟨"java/lang/StringLatin1", "canEncode", "(C)Z"⟩ : MethodName) = true := plainFor_of_name (by first | (simp [plainName, overriddenIn]; done) | decide +kernel)
set_option maxRecDepth 65536 in
set_option maxHeartbeats 40000000 in
theorem c_canE {l : Launch} {Z : State} {a0 : Array Value} {n0 : Nat} {h0 : Heap} (C : Cx Z a0) (hO : Old Z n0 h0) {ch : Int32} (hch : Lat ch) :
    Con false l Z [] n0 (⟨"java/lang/StringLatin1", "canEncode", "(C)Z"⟩ : MethodName) jdk_43_method_3_code 1 (some .boolean) R_c_canE #[(.int ch)] h0 [] (fun v h => v = some (.int 1) ∧ h0 = h) := by
  refine Con.intro (a0 := a0) pl_b2 hO (fun q => nomatch q) ?_
  intro p e s m below meth c G
  refine ok_as (mkF m 0 #[.val (.int ch)] []) (by first | rfl | (simp [entryFrame, mkF, argsToLocals, Value.category]; done)) ?_
  refine ok_iloadN G d_jdk_43_method_3_code_0 rfl ?_
  refine ok_sipush G (255 : Int32) d_jdk_43_method_3_code_1 rfl ?_
  refine ok_icmpgtN G d_jdk_43_method_3_code_4 hch.2 ?_
  refine ok_iconst G (1 : Int32) d_jdk_43_method_3_code_7 rfl ?_
  refine ok_goto G 12 d_jdk_43_method_3_code_8 (by decide) (by decide) ?_
  exact ok_retN G rfl (by simp) d_jdk_43_method_3_code_12 rfl ⟨rfl, rfl⟩ (Nat.le_of_ble_eq_true rfl) (Nat.le_of_ble_eq_true rfl)
theorem d_jdk_43_method_46_code_0 : decode jdk_43_method_46_code 0 = .ok (.iconst 1, 1) := by decide +kernel
theorem d_jdk_43_method_46_code_1 : decode jdk_43_method_46_code 1 = .ok (.newarray .byte, 2) := by decide +kernel
theorem d_jdk_43_method_46_code_3 : decode jdk_43_method_46_code 3 = .ok (.dup, 1) := by decide +kernel
theorem d_jdk_43_method_46_code_4 : decode jdk_43_method_46_code 4 = .ok (.iconst 0, 1) := by decide +kernel
theorem d_jdk_43_method_46_code_5 : decode jdk_43_method_46_code 5 = .ok (.iload_n 0, 1) := by decide +kernel
theorem d_jdk_43_method_46_code_6 : decode jdk_43_method_46_code 6 = .ok (.i2b, 1) := by decide +kernel
theorem d_jdk_43_method_46_code_7 : decode jdk_43_method_46_code 7 = .ok (.bastore, 1) := by decide +kernel
theorem d_jdk_43_method_46_code_8 : decode jdk_43_method_46_code 8 = .ok (.areturn, 1) := by decide +kernel
def R_c_toB1 : Room := { frames := 0, cells := 1, slots := 1, locals := 0 }
theorem pl_b3 : plainFor (⟨"java/lang/StringLatin1", "toBytes", "(C)[B"⟩ : MethodName) = true := plainFor_of_name (by first | (simp [plainName, overriddenIn]; done) | decide +kernel)
set_option maxRecDepth 65536 in
set_option maxHeartbeats 40000000 in
theorem c_toB1 {l : Launch} {Z : State} {a0 : Array Value} {n0 : Nat} {h0 : Heap} (C : Cx Z a0) (hO : Old Z n0 h0) {ch : Int32} :
    Con false l Z [] n0 (⟨"java/lang/StringLatin1", "toBytes", "(C)[B"⟩ : MethodName) jdk_43_method_46_code 1 (some (.array .byte)) R_c_toB1 #[(.int ch)] h0 [] (fun v h => ∃ t kb, v = some (.ref t) ∧ h0.size ≤ t ∧ Arv Z h t kb .byte (1 : Int32) [lo8 ch] (.int 0)) := by
  refine Con.intro (a0 := a0) pl_b3 hO (fun q => nomatch q) ?_
  intro p e s m below meth c G
  refine ok_as (mkF m 0 #[.val (.int ch)] []) (by first | rfl | (simp [entryFrame, mkF, argsToLocals, Value.category]; done)) ?_
  refine ok_iconst G (1 : Int32) d_jdk_43_method_46_code_0 rfl ?_
  refine ok_newP G (aty := .byte) (C.w14) d_jdk_43_method_46_code_1 (by decide) 1 (by decide) (by decide) (Nat.le_of_ble_eq_true rfl) (Nat.le_of_ble_eq_true rfl) ?_
  intro hp2 ob1 k_ob1 eq_ob1 K3 g_ob1 lb_ob1 V_ob1
  replace V_ob1 : Arv Z hp2 ob1 k_ob1 .byte (1 : Int32) [(.int (0 : Int32))] (.int (0 : Int32)) := V_ob1.pad (pad_rep [] (.int (0 : Int32)) 1)
  refine ok_dup G d_jdk_43_method_46_code_3 rfl ?_
  refine ok_iconst G (0 : Int32) d_jdk_43_method_46_code_4 rfl ?_
  refine ok_iloadN G d_jdk_43_method_46_code_5 rfl ?_
  refine ok_i2b G d_jdk_43_method_46_code_6 ?_
  refine ok_bastore G (ch.toInt8.toInt32) 0 V_ob1 ⟨by decide, by decide⟩ rfl (Nat.le_of_ble_eq_true rfl) (by simp [nar]) d_jdk_43_method_46_code_7 g_ob1 (Or.inr lb_ob1) SafeFor.narrow ?_
  intro hp4 K5 Vn
  replace V_ob1 : Arv Z hp4 ob1 k_ob1 .byte (1 : Int32) [(.int (ch.toInt8.toInt32))] (.int (0 : Int32)) := Vn
  clear Vn
  exact ok_retA G rfl rfl rfl d_jdk_43_method_46_code_8 rfl ⟨_, _, rfl, lb_ob1, V_ob1⟩ (Nat.le_of_ble_eq_true rfl) (Nat.le_of_ble_eq_true rfl)
theorem d_jdk_42_method_151_code_0 : decode jdk_42_method_151_code 0 = .ok (.aload_n 0, 1) := by decide +kernel
theorem d_jdk_42_method_151_code_1 : decode jdk_42_method_151_code 1 = .ok (.invokespecial 1, 3) := by decide +kernel
theorem d_jdk_42_method_151_code_4 : decode jdk_42_method_151_code 4 = .ok (.aload_n 0, 1) := by decide +kernel
theorem d_jdk_42_method_151_code_5 : decode jdk_42_method_151_code 5 = .ok (.aload_n 1, 1) := by decide +kernel
theorem d_jdk_42_method_151_code_6 : decode jdk_42_method_151_code 6 = .ok (.putfield 9, 3) := by decide +kernel
theorem d_jdk_42_method_151_code_9 : decode jdk_42_method_151_code 9 = .ok (.aload_n 0, 1) := by decide +kernel
theorem d_jdk_42_method_151_code_10 : decode jdk_42_method_151_code 10 = .ok (.iload_n 2, 1) := by decide +kernel
theorem d_jdk_42_method_151_code_11 : decode jdk_42_method_151_code 11 = .ok (.putfield 15, 3) := by decide +kernel
theorem d_jdk_42_method_151_code_14 : decode jdk_42_method_151_code 14 = .ok (.return_, 1) := by decide +kernel
def R_c_initBB : Room := { frames := 1, cells := 0, slots := 0, locals := 12 }
theorem pl_b4 : plainFor (⟨"java/lang/String", "<init>", "([BB)V"⟩ : MethodName) = true := plainFor_of_name (by first | (simp [plainName, overriddenIn]; done) | decide +kernel)
set_option maxRecDepth 65536 in
set_option maxHeartbeats 40000000 in
theorem c_initBB {l : Launch} {Z : State} {a0 : Array Value} {n0 : Nat} {h0 : Heap} (C : Cx Z a0) (hO : Old Z n0 h0) {x t : Addr} (E : Exa Z h0 x "java/lang/String") (FV : Fld Z h0 x "java/lang/String" "value" "[B" .null) (FC : Fld Z h0 x "java/lang/String" "coder" "B" (.int (0 : Int32))) (g_x : n0 ≤ x) :
    Con false l Z [] n0 (⟨"java/lang/String", "<init>", "([BB)V"⟩ : MethodName) jdk_42_method_151_code 3 none R_c_initBB #[(.ref x), (.ref t), (.int (0 : Int32))] h0 [x] (fun v h => v = none ∧ Fld Z h x "java/lang/String" "coder" "B" (.int 0) ∧ Fld Z h x "java/lang/String" "value" "[B" (.ref t)) := by
  refine Con.intro (a0 := a0) pl_b4 hO (fun q => nomatch q) ?_
  intro p e s m below meth c G
  refine ok_as (mkF m 0 #[.val (.ref x), .val (.ref t), .val (.int (0 : Int32))] []) (by first | rfl | (simp [entryFrame, mkF, argsToLocals, Value.category]; done)) ?_
  refine ok_aloadN G d_jdk_42_method_151_code_0 rfl rfl ?_
  refine ok_initO G (C.w19) (C.w20) (C.w21) rfl d_jdk_42_method_151_code_1 (Nat.le_of_ble_eq_true rfl) (Nat.le_of_ble_eq_true rfl) ?_
  refine ok_aloadN G d_jdk_42_method_151_code_4 rfl rfl ?_
  refine ok_aloadN G d_jdk_42_method_151_code_5 rfl rfl ?_
  refine ok_putF G (host := "") (Or.inl (C.w22)) Via.refl FV E (Or.inr ⟨(C.w23), rfl, rfl⟩) (C.w10) (ty := (.array .byte)) (by decide) rfl rfl d_jdk_42_method_151_code_6 g_x (Or.inl (List.mem_of_getElem? (i := 0) rfl)) SafeFor.narrow ?_
  intro hp1 K2 Wn Fn
  replace FC := FC.other Wn (Or.inr (slot_ne (Or.inr (C.w25)) (Or.inr (C.w23)) (by decide) (t := .byte) (t' := (.array .byte)) (by decide) (by decide)))
  replace E := E.keep K2
  replace FV : Fld Z hp1 x "java/lang/String" "value" "[B" (.ref t) := Fn
  clear Wn Fn
  refine ok_aloadN G d_jdk_42_method_151_code_9 rfl rfl ?_
  refine ok_iloadN G d_jdk_42_method_151_code_10 rfl ?_
  refine ok_putF G (host := "") (Or.inl (C.w24)) Via.refl FC E (Or.inr ⟨(C.w25), rfl, rfl⟩) (C.w10) (ty := .byte) (by decide) rfl rfl d_jdk_42_method_151_code_11 g_x (Or.inl (List.mem_of_getElem? (i := 0) rfl)) SafeFor.narrow ?_
  intro hp3 K4 Wn Fn
  replace FV := FV.other Wn (Or.inr (slot_ne (Or.inr (C.w23)) (Or.inr (C.w25)) (by decide) (t := (.array .byte)) (t' := .byte) (by decide) (by decide)))
  replace E := E.keep K4
  replace FC : Fld Z hp3 x "java/lang/String" "coder" "B" (.int (0 : Int32)) := Fn
  clear Wn Fn
  exact ok_return G rfl d_jdk_42_method_151_code_14 ⟨rfl, FC, FV⟩ (Nat.le_of_ble_eq_true rfl) (Nat.le_of_ble_eq_true rfl)
theorem d_jdk_42_method_139_code_0 : decode jdk_42_method_139_code 0 = .ok (.getstatic 38, 3) := by decide +kernel
theorem d_jdk_42_method_139_code_3 : decode jdk_42_method_139_code 3 = .ok (.ifCond .eq 23, 3) := by decide +kernel
theorem d_jdk_42_method_139_code_6 : decode jdk_42_method_139_code 6 = .ok (.iload_n 0, 1) := by decide +kernel
theorem d_jdk_42_method_139_code_7 : decode jdk_42_method_139_code 7 = .ok (.invokestatic 1015, 3) := by decide +kernel
theorem pd0 : parseMethodDescriptor "(C)Z" = some ⟨[.char], some .boolean⟩ := by decide +kernel
theorem d_jdk_42_method_139_code_10 : decode jdk_42_method_139_code 10 = .ok (.ifCond .eq 16, 3) := by decide +kernel
theorem d_jdk_42_method_139_code_13 : decode jdk_42_method_139_code 13 = .ok (.new 10, 3) := by decide +kernel
theorem d_jdk_42_method_139_code_16 : decode jdk_42_method_139_code 16 = .ok (.dup, 1) := by decide +kernel
theorem d_jdk_42_method_139_code_17 : decode jdk_42_method_139_code 17 = .ok (.iload_n 0, 1) := by decide +kernel
theorem d_jdk_42_method_139_code_18 : decode jdk_42_method_139_code 18 = .ok (.invokestatic 1018, 3) := by decide +kernel
theorem pd1 : parseMethodDescriptor "(C)[B" = some ⟨[.char], some (.array .byte)⟩ := by decide +kernel
theorem d_jdk_42_method_139_code_21 : decode jdk_42_method_139_code 21 = .ok (.iconst 0, 1) := by decide +kernel
theorem d_jdk_42_method_139_code_22 : decode jdk_42_method_139_code 22 = .ok (.invokespecial 209, 3) := by decide +kernel
theorem pd2 : parseMethodDescriptor "([BB)V" = some ⟨[(.array .byte), .byte], none⟩ := by decide +kernel
theorem d_jdk_42_method_139_code_25 : decode jdk_42_method_139_code 25 = .ok (.areturn, 1) := by decide +kernel
def R_c_valueOf : Room := { frames := 2, cells := 2, slots := 5, locals := 27 }
theorem pl_b1 : plainFor (⟨"java/lang/String", "valueOf", "(C)Ljava/lang/String;"⟩ : MethodName) = true := plainFor_of_name (by first | (simp [plainName, overriddenIn]; done) | decide +kernel)
set_option maxRecDepth 65536 in
set_option maxHeartbeats 40000000 in
theorem c_valueOf {l : Launch} {Z : State} {a0 : Array Value} {n0 : Nat} {h0 : Heap} (C : Cx Z a0) (hO : Old Z n0 h0) {ch : Int32} (hch : Lat ch) :
    Con false l Z [] n0 (⟨"java/lang/String", "valueOf", "(C)Ljava/lang/String;"⟩ : MethodName) jdk_42_method_139_code 1 (some (.object "java/lang/String")) R_c_valueOf #[(.int ch)] h0 [] (fun v h => ∃ x t, v = some (.ref x) ∧ h0.size ≤ x ∧ LStr Z h x t [ch]) := by
  refine Con.intro (a0 := a0) pl_b1 hO (fun q => nomatch q) ?_
  intro p e s m below meth c G
  refine ok_as (mkF m 0 #[.val (.int ch)] []) (by first | rfl | (simp [entryFrame, mkF, argsToLocals, Value.category]; done)) ?_
  obtain ⟨cz, hCS, hcz⟩ := C.compact
  refine ok_getS G (host := "") (Or.inl (C.w4)) Via.refl hCS d_jdk_42_method_139_code_0 ?_
  refine ok_ifeqN G d_jdk_42_method_139_code_3 hcz ?_
  refine ok_iloadN G d_jdk_42_method_139_code_6 rfl ?_
  refine ok_static G (argsL := [(.int ch)]) (rest := []) (C.w5) (C.w6) (C.w7) (C.w8) (by decide) pd0 (c_canE C hO hch) rfl rfl rfl d_jdk_42_method_139_code_7 (Nat.le_of_ble_eq_true rfl) (Nat.le_of_ble_eq_true rfl) (Nat.le_of_ble_eq_true rfl) (Nat.le_of_ble_eq_true rfl) (fun _ q => nomatch q) ?_
  rintro _ _ _ ⟨rfl, rfl⟩
  refine ok_as (mkF m 10 #[.val (.int ch)] [(.int (1 : Int32))]) rfl ?_
  refine ok_ifeqN G d_jdk_42_method_139_code_10 (by decide) ?_
  refine ok_new G (C.w9) (C.w10) (C.w2) d_jdk_42_method_139_code_13 (Nat.le_of_ble_eq_true rfl) (Nat.le_of_ble_eq_true rfl) ?_
  intro hp4 ob3 eq_ob3 K5 g_ob3 lb_ob3 E_ob3 D_ob3
  have F_ob3_value : Fld Z hp4 ob3 "java/lang/String" "value" "[B" .null := D_ob3 _ _ _ (.array .byte) (Or.inr (C.w23)) (by decide)
  have F_ob3_coder : Fld Z hp4 ob3 "java/lang/String" "coder" "B" (.int (0 : Int32)) := D_ob3 _ _ _ .byte (Or.inr (C.w25)) (by decide)
  have F_ob3_hash : Fld Z hp4 ob3 "java/lang/String" "hash" "I" (.int (0 : Int32)) := D_ob3 _ _ _ .int (Or.inl (C.w123)) (by decide)
  have F_ob3_hashIsZero : Fld Z hp4 ob3 "java/lang/String" "hashIsZero" "Z" (.int (0 : Int32)) := D_ob3 _ _ _ .boolean (Or.inl (C.w125)) (by decide)
  refine ok_dup G d_jdk_42_method_139_code_16 rfl ?_
  refine ok_iloadN G d_jdk_42_method_139_code_17 rfl ?_
  refine ok_old (fun hO_hp4 => ?_)
  refine ok_keep (fun hKp_hp4 => ?_)
  refine ok_static G (argsL := [(.int ch)]) (rest := [(.ref ob3), (.ref ob3)]) (C.w11) (C.w12) (C.w7) (C.w13) (by decide) pd1 (c_toB1 C hO_hp4) rfl rfl rfl d_jdk_42_method_139_code_18 (Nat.le_of_ble_eq_true rfl) (Nat.le_of_ble_eq_true rfl) (Nat.le_of_ble_eq_true rfl) (Nat.le_of_ble_eq_true rfl) (fun _ q => nomatch q) ?_
  rintro _ hp8 K9 ⟨tr6, kb7, rfl, lbq_tr6, V_tr6⟩
  have lbh_tr6 := lbq_tr6
  have ne_ob3_tr6 : ob3 ≠ tr6 := Nat.ne_of_lt (Nat.lt_of_lt_of_le E_ob3.lt lbh_tr6)
  have lb_tr6 : h0.size ≤ tr6 := Nat.le_trans hKp_hp4.1 lbh_tr6
  have g_tr6 : n0 ≤ tr6 := Nat.le_trans (old_le hO_hp4) lbh_tr6
  replace E_ob3 := E_ob3.keep K9
  replace F_ob3_value := F_ob3_value.keep K9 nin0
  replace F_ob3_coder := F_ob3_coder.keep K9 nin0
  replace F_ob3_hash := F_ob3_hash.keep K9 nin0
  replace F_ob3_hashIsZero := F_ob3_hashIsZero.keep K9 nin0
  refine ok_as (mkF m 21 #[.val (.int ch)] [(.ref tr6), (.ref ob3), (.ref ob3)]) rfl ?_
  refine ok_iconst G (0 : Int32) d_jdk_42_method_139_code_21 rfl ?_
  refine ok_old (fun hO_hp8 => ?_)
  refine ok_init G (a := ob3) (argsL := [(.ref tr6), (.int (0 : Int32))]) (rest := [(.ref ob3)]) rfl (C.w15) (C.w16) (C.w2) (C.w18) (by decide) pd2 (c_initBB C hO_hp8 E_ob3 F_ob3_value F_ob3_coder g_ob3) rfl rfl rfl d_jdk_42_method_139_code_22 (Nat.le_of_ble_eq_true rfl) (Nat.le_of_ble_eq_true rfl) (Nat.le_of_ble_eq_true rfl) (Nat.le_of_ble_eq_true rfl) (allS ⟨(Or.inr lb_ob3), SafeFor.narrow⟩ (fun _ q => nomatch q)) ?_
  rintro _ hp10 K11 ⟨rfl, FC_ob3, FV_ob3⟩
  replace E_ob3 := E_ob3.keep K11
  replace V_tr6 := V_tr6.keep K11 (ninS (Ne.symm ne_ob3_tr6) nin0)
  refine ok_as (mkF m 25 #[.val (.int ch)] [(.ref ob3)]) rfl ?_
  exact ok_retA G rfl rfl rfl d_jdk_42_method_139_code_25 rfl ⟨_, _, rfl, lb_ob3, E_ob3, FC_ob3, FV_ob3, ⟨_, V_tr6⟩, allL hch (fun _ q => nomatch q), (Nat.le_of_ble_eq_true rfl)⟩ (Nat.le_of_ble_eq_true rfl) (Nat.le_of_ble_eq_true rfl)
theorem d_jdk_42_method_154_code_0 : decode jdk_42_method_154_code 0 = .ok (.getstatic 38, 3) := by decide +kernel
theorem d_jdk_42_method_154_code_3 : decode jdk_42_method_154_code 3 = .ok (.ifCond .eq 14, 3) := by decide +kernel
theorem d_jdk_42_method_154_code_6 : decode jdk_42_method_154_code 6 = .ok (.aload_n 0, 1) := by decide +kernel
theorem d_jdk_42_method_154_code_7 : decode jdk_42_method_154_code 7 = .ok (.getfield 15, 3) := by decide +kernel
theorem d_jdk_42_method_154_code_10 : decode jdk_42_method_154_code 10 = .ok (.ifCond .ne 7, 3) := by decide +kernel
theorem d_jdk_42_method_154_code_13 : decode jdk_42_method_154_code 13 = .ok (.iconst 1, 1) := by decide +kernel
theorem d_jdk_42_method_154_code_14 : decode jdk_42_method_154_code 14 = .ok (.goto 4, 3) := by decide +kernel
theorem d_jdk_42_method_154_code_18 : decode jdk_42_method_154_code 18 = .ok (.ireturn, 1) := by decide +kernel
def R_c_isL1 : Room := { frames := 0, cells := 0, slots := 0, locals := 0 }
theorem pl_b17 : plainFor (⟨"java/lang/String", "isLatin1", "()Z"⟩ : MethodName) = true := plainFor_of_name (by first | (simp [plainName, overriddenIn]; done) | decide +kernel)
set_option maxRecDepth 65536 in
set_option maxHeartbeats 40000000 in
theorem c_isL1 {l : Launch} {Z : State} {a0 : Array Value} {n0 : Nat} {h0 : Heap} (C : Cx Z a0) (hO : Old Z n0 h0) {x t : Addr} {cs : List Int32} (S : LStr Z h0 x t cs) :
    Con false l Z [] n0 (⟨"java/lang/String", "isLatin1", "()Z"⟩ : MethodName) jdk_42_method_154_code 1 (some .boolean) R_c_isL1 #[(.ref x)] h0 [] (fun v h => v = some (.int 1) ∧ h0 = h) := by
  refine Con.intro (a0 := a0) pl_b17 hO (fun q => nomatch q) ?_
  intro p e s m below meth c G
  refine ok_as (mkF m 0 #[.val (.ref x)] []) (by first | rfl | (simp [entryFrame, mkF, argsToLocals, Value.category]; done)) ?_
  obtain ⟨E, FC, FV, ⟨kb, V⟩, hla, hle⟩ := S
  obtain ⟨cz, hCS, hcz⟩ := C.compact
  refine ok_getS G (host := "") (Or.inl (C.w4)) Via.refl hCS d_jdk_42_method_154_code_0 ?_
  refine ok_ifeqN G d_jdk_42_method_154_code_3 hcz ?_
  refine ok_aloadN G d_jdk_42_method_154_code_6 rfl rfl ?_
  refine ok_getF G (host := "") (Or.inl (C.w24)) Via.refl FC d_jdk_42_method_154_code_7 ?_
  refine ok_ifneN G d_jdk_42_method_154_code_10 (by decide) ?_
  refine ok_iconst G (1 : Int32) d_jdk_42_method_154_code_13 rfl ?_
  refine ok_goto G 18 d_jdk_42_method_154_code_14 (by decide) (by decide) ?_
  exact ok_retN G rfl (by simp) d_jdk_42_method_154_code_18 rfl ⟨rfl, rfl⟩ (Nat.le_of_ble_eq_true rfl) (Nat.le_of_ble_eq_true rfl)
theorem d_jdk_30_method_1_code_0 : decode jdk_30_method_1_code 0 = .ok (.aload_n 0, 1) := by decide +kernel
theorem d_jdk_30_method_1_code_1 : decode jdk_30_method_1_code 1 = .ok (.invokespecial 1, 3) := by decide +kernel
theorem d_jdk_30_method_1_code_4 : decode jdk_30_method_1_code 4 = .ok (.return_, 1) := by decide +kernel
def R_c_rec : Room := { frames := 1, cells := 0, slots := 0, locals := 12 }
theorem pl_b21 : plainFor (⟨"java/lang/Record", "<init>", "()V"⟩ : MethodName) = true := plainFor_of_name (by first | (simp [plainName, overriddenIn]; done) | decide +kernel)
set_option maxRecDepth 65536 in
set_option maxHeartbeats 40000000 in
theorem c_rec {l : Launch} {Z : State} {a0 : Array Value} {n0 : Nat} {h0 : Heap} (C : Cx Z a0) (hO : Old Z n0 h0) {x : Addr} :
    Con false l Z [] n0 (⟨"java/lang/Record", "<init>", "()V"⟩ : MethodName) jdk_30_method_1_code 1 none R_c_rec #[(.ref x)] h0 [] (fun v h => v = none ∧ h0 = h) := by
  refine Con.intro (a0 := a0) pl_b21 hO (fun q => nomatch q) ?_
  intro p e s m below meth c G
  refine ok_as (mkF m 0 #[.val (.ref x)] []) (by first | rfl | (simp [entryFrame, mkF, argsToLocals, Value.category]; done)) ?_
  refine ok_aloadN G d_jdk_30_method_1_code_0 rfl rfl ?_
  refine ok_initO G (C.w155) (C.w20) (C.w21) rfl d_jdk_30_method_1_code_1 (Nat.le_of_ble_eq_true rfl) (Nat.le_of_ble_eq_true rfl) ?_
  exact ok_return G rfl d_jdk_30_method_1_code_4 ⟨rfl, rfl⟩ (Nat.le_of_ble_eq_true rfl) (Nat.le_of_ble_eq_true rfl)
theorem d_jdk_40_method_36_code_0 : decode jdk_40_method_36_code 0 = .ok (.getstatic 90, 3) := by decide +kernel
theorem d_jdk_40_method_36_code_3 : decode jdk_40_method_36_code 3 = .ok (.areturn, 1) := by decide +kernel
def R_c_lof : Room := { frames := 0, cells := 0, slots := 0, locals := 0 }
theorem pl_b7 : plainFor (⟨"java/util/List", "of", "()Ljava/util/List;"⟩ : MethodName) = true := plainFor_of_name (by first | (simp [plainName, overriddenIn]; done) | decide +kernel)
set_option maxRecDepth 65536 in
set_option maxHeartbeats 40000000 in
theorem c_lof {l : Launch} {Z : State} {a0 : Array Value} {n0 : Nat} {h0 : Heap} (C : Cx Z a0) (hO : Old Z n0 h0) {le ea : Addr} (HL : Lst Z le ea) :
    Con false l Z [] n0 (⟨"java/util/List", "of", "()Ljava/util/List;"⟩ : MethodName) jdk_40_method_36_code 0 (some (.object "java/util/List")) R_c_lof #[] h0 [] (fun v h => v = some (.ref le) ∧ h0 = h) := by
  refine Con.intro (a0 := a0) pl_b7 hO (fun q => nomatch q) ?_
  intro p e s m below meth c G
  refine ok_as (mkF m 0 #[] []) (by first | rfl | (simp [entryFrame, mkF, argsToLocals, Value.category]; done)) ?_
  obtain ⟨sL, E0, FE0, FA0, L0⟩ := id HL
  have EL_ := E0.ext hO.2
  have FE_ := FE0.ext hO.2
  have FA_ := FA0.ext hO.2
  have LE_ := L0.ext hO.2
  refine ok_getS G (host := "") (Or.inl (C.w36)) Via.refl sL d_jdk_40_method_36_code_0 ?_
  exact ok_retA G rfl rfl rfl d_jdk_40_method_36_code_3 rfl ⟨rfl, rfl⟩ (Nat.le_of_ble_eq_true rfl) (Nat.le_of_ble_eq_true rfl)
theorem d_jdk_56_method_3_code_0 : decode jdk_56_method_3_code 0 = .ok (.aload_n 0, 1) := by decide +kernel
theorem d_jdk_56_method_3_code_1 : decode jdk_56_method_3_code 1 = .ok (.instanceof 10, 3) := by decide +kernel
theorem d_jdk_56_method_3_code_4 : decode jdk_56_method_3_code 4 = .ok (.ifCond .ne 22, 3) := by decide +kernel
theorem d_jdk_56_method_3_code_26 : decode jdk_56_method_3_code 26 = .ok (.aload_n 0, 1) := by decide +kernel
theorem d_jdk_56_method_3_code_27 : decode jdk_56_method_3_code 27 = .ok (.checkcast 18, 3) := by decide +kernel
theorem d_jdk_56_method_3_code_30 : decode jdk_56_method_3_code 30 = .ok (.areturn, 1) := by decide +kernel
theorem d_jdk_56_method_3_code_7 : decode jdk_56_method_3_code 7 = .ok (.aload_n 0, 1) := by decide +kernel
theorem d_jdk_56_method_3_code_8 : decode jdk_56_method_3_code 8 = .ok (.instanceof 12, 3) := by decide +kernel
theorem d_jdk_56_method_3_code_11 : decode jdk_56_method_3_code 11 = .ok (.ifCond .eq 20, 3) := by decide +kernel
theorem d_jdk_56_method_3_code_14 : decode jdk_56_method_3_code 14 = .ok (.aload_n 0, 1) := by decide +kernel
theorem d_jdk_56_method_3_code_15 : decode jdk_56_method_3_code 15 = .ok (.checkcast 12, 3) := by decide +kernel
theorem d_jdk_56_method_3_code_18 : decode jdk_56_method_3_code 18 = .ok (.astore_n 1, 1) := by decide +kernel
theorem d_jdk_56_method_3_code_19 : decode jdk_56_method_3_code 19 = .ok (.aload_n 1, 1) := by decide +kernel
theorem d_jdk_56_method_3_code_20 : decode jdk_56_method_3_code 20 = .ok (.getfield 14, 3) := by decide +kernel
theorem d_jdk_56_method_3_code_23 : decode jdk_56_method_3_code 23 = .ok (.ifCond .ne 8, 3) := by decide +kernel
def R_c_lcopy : Room := { frames := 0, cells := 0, slots := 0, locals := 0 }
theorem pl_b11 : plainFor (⟨"java/util/ImmutableCollections", "listCopy", "(Ljava/util/Collection;)Ljava/util/List;"⟩ : MethodName) = true := plainFor_of_name (by first | (simp [plainName, overriddenIn]; done) | decide +kernel)
set_option maxRecDepth 65536 in
set_option maxHeartbeats 40000000 in
theorem c_lcopy {l : Launch} {Z : State} {a0 : Array Value} {n0 : Nat} {h0 : Heap} (C : Cx Z a0) (hO : Old Z n0 h0) {le ea : Addr} (HL : Lst Z le ea) :
    Con false l Z [] n0 (⟨"java/util/ImmutableCollections", "listCopy", "(Ljava/util/Collection;)Ljava/util/List;"⟩ : MethodName) jdk_56_method_3_code 2 (some (.object "java/util/List")) R_c_lcopy #[(.ref le)] h0 [] (fun v h => v = some (.ref le) ∧ h0 = h) := by
  refine Con.intro (a0 := a0) pl_b11 hO (fun q => nomatch q) ?_
  intro p e s m below meth c G
  refine ok_as (mkF m 0 #[.val (.ref le), .unset] []) (by first | rfl | (simp [entryFrame, mkF, argsToLocals, Value.category]; done)) ?_
  obtain ⟨sL, E0, FE0, FA0, L0⟩ := id HL
  have EL_ := E0.ext hO.2
  have FE_ := FE0.ext hO.2
  have FA_ := FA0.ext hO.2
  have LE_ := L0.ext hO.2
  refine ok_aloadN G d_jdk_56_method_3_code_0 rfl rfl ?_
  refine ok_instanceofAny G (C.w58) EL_ d_jdk_56_method_3_code_1 ?_
  intro zi1
  refine ok_ifne G 26 d_jdk_56_method_3_code_4 (by decide) (by decide) (fun cq2 => ?_) (fun cq2 => ?_)
  · skip
    refine ok_aloadN G d_jdk_56_method_3_code_26 rfl rfl ?_
    refine ok_checkcast G (C.w68) (Ins.of_exa EL_ (C.w69)) d_jdk_56_method_3_code_27 ?_
    exact ok_retA G rfl rfl rfl d_jdk_56_method_3_code_30 rfl ⟨rfl, rfl⟩ (Nat.le_of_ble_eq_true rfl) (Nat.le_of_ble_eq_true rfl)
  · skip
    refine ok_aloadN G d_jdk_56_method_3_code_7 rfl rfl ?_
    refine ok_instanceof G (C.w64) (Ins.self EL_) d_jdk_56_method_3_code_8 ?_
    refine ok_ifeqN G d_jdk_56_method_3_code_11 (by decide) ?_
    refine ok_aloadN G d_jdk_56_method_3_code_14 rfl rfl ?_
    refine ok_checkcast G (C.w64) (Ins.self EL_) d_jdk_56_method_3_code_15 ?_
    refine ok_astoreN G #[.val (.ref le), .val (.ref le)] d_jdk_56_method_3_code_18 rfl rfl ?_
    refine ok_aloadN G d_jdk_56_method_3_code_19 rfl rfl ?_
    refine ok_getF G (Or.inr (C.w66)) Via.refl FA_ d_jdk_56_method_3_code_20 ?_
    refine ok_ifneN G d_jdk_56_method_3_code_23 (by decide) ?_
    refine ok_aloadN G d_jdk_56_method_3_code_26 rfl rfl ?_
    refine ok_checkcast G (C.w68) (Ins.of_exa EL_ (C.w69)) d_jdk_56_method_3_code_27 ?_
    exact ok_retA G rfl rfl rfl d_jdk_56_method_3_code_30 rfl ⟨rfl, rfl⟩ (Nat.le_of_ble_eq_true rfl) (Nat.le_of_ble_eq_true rfl)
theorem d_jdk_40_method_48_code_0 : decode jdk_40_method_48_code 0 = .ok (.aload_n 0, 1) := by decide +kernel
theorem d_jdk_40_method_48_code_1 : decode jdk_40_method_48_code 1 = .ok (.invokestatic 112, 3) := by decide +kernel
theorem pd3 : parseMethodDescriptor "(Ljava/util/Collection;)Ljava/util/List;" = some ⟨[(.object "java/util/Collection")], some (.object "java/util/List")⟩ := by decide +kernel
theorem d_jdk_40_method_48_code_4 : decode jdk_40_method_48_code 4 = .ok (.areturn, 1) := by decide +kernel
def R_c_copyOf : Room := { frames := 1, cells := 0, slots := 0, locals := 13 }
theorem pl_b10 : plainFor (⟨"java/util/List", "copyOf", "(Ljava/util/Collection;)Ljava/util/List;"⟩ : MethodName) = true := plainFor_of_name (by first | (simp [plainName, overriddenIn]; done) | decide +kernel)
set_option maxRecDepth 65536 in
set_option maxHeartbeats 40000000 in
theorem c_copyOf {l : Launch} {Z : State} {a0 : Array Value} {n0 : Nat} {h0 : Heap} (C : Cx Z a0) (hO : Old Z n0 h0) {le ea : Addr} (HL : Lst Z le ea) :
    Con false l Z [] n0 (⟨"java/util/List", "copyOf", "(Ljava/util/Collection;)Ljava/util/List;"⟩ : MethodName) jdk_40_method_48_code 1 (some (.object "java/util/List")) R_c_copyOf #[(.ref le)] h0 [] (fun v h => v = some (.ref le) ∧ h0 = h) := by
  refine Con.intro (a0 := a0) pl_b10 hO (fun q => nomatch q) ?_
  intro p e s m below meth c G
  refine ok_as (mkF m 0 #[.val (.ref le)] []) (by first | rfl | (simp [entryFrame, mkF, argsToLocals, Value.category]; done)) ?_
  obtain ⟨sL, E0, FE0, FA0, L0⟩ := id HL
  have EL_ := E0.ext hO.2
  have FE_ := FE0.ext hO.2
  have FA_ := FA0.ext hO.2
  have LE_ := L0.ext hO.2
  refine ok_aloadN G d_jdk_40_method_48_code_0 rfl rfl ?_
  refine ok_static G (argsL := [(.ref le)]) (rest := []) (C.w55) (C.w56) (C.w37) (C.w57) (by decide) pd3 (c_lcopy C hO HL) rfl rfl rfl d_jdk_40_method_48_code_1 (Nat.le_of_ble_eq_true rfl) (Nat.le_of_ble_eq_true rfl) (Nat.le_of_ble_eq_true rfl) (Nat.le_of_ble_eq_true rfl) (fun _ q => nomatch q) ?_
  rintro _ _ _ ⟨rfl, rfl⟩
  refine ok_as (mkF m 4 #[.val (.ref le)] [(.ref le)]) rfl ?_
  exact ok_retA G rfl rfl rfl d_jdk_40_method_48_code_4 rfl ⟨rfl, rfl⟩ (Nat.le_of_ble_eq_true rfl) (Nat.le_of_ble_eq_true rfl)
theorem d_jdk_45_method_3_code_0 : decode jdk_45_method_3_code 0 = .ok (.aload_n 0, 1) := by decide +kernel
theorem d_jdk_45_method_3_code_1 : decode jdk_45_method_3_code 1 = .ok (.getfield 7, 3) := by decide +kernel
theorem d_jdk_45_method_3_code_4 : decode jdk_45_method_3_code 4 = .ok (.arraylength, 1) := by decide +kernel
theorem d_jdk_45_method_3_code_5 : decode jdk_45_method_3_code 5 = .ok (.ireturn, 1) := by decide +kernel
def R_c_lnsize : Room := { frames := 0, cells := 0, slots := 0, locals := 0 }
theorem pl_b13 : plainFor (⟨"java/util/ImmutableCollections$ListN", "size", "()I"⟩ : MethodName) = true := plainFor_of_name (by first | (simp [plainName, overriddenIn]; done) | decide +kernel)
set_option maxRecDepth 65536 in
set_option maxHeartbeats 40000000 in
theorem c_lnsize {l : Launch} {Z : State} {a0 : Array Value} {n0 : Nat} {h0 : Heap} (C : Cx Z a0) (hO : Old Z n0 h0) {le ea : Addr} (HL : Lst Z le ea) :
    Con false l Z [] n0 (⟨"java/util/ImmutableCollections$ListN", "size", "()I"⟩ : MethodName) jdk_45_method_3_code 1 (some .int) R_c_lnsize #[(.ref le)] h0 [] (fun v h => v = some (.int 0) ∧ h0 = h) := by
  refine Con.intro (a0 := a0) pl_b13 hO (fun q => nomatch q) ?_
  intro p e s m below meth c G
  refine ok_as (mkF m 0 #[.val (.ref le)] []) (by first | rfl | (simp [entryFrame, mkF, argsToLocals, Value.category]; done)) ?_
  obtain ⟨sL, E0, FE0, FA0, L0⟩ := id HL
  have EL_ := E0.ext hO.2
  have FE_ := FE0.ext hO.2
  have FA_ := FA0.ext hO.2
  have LE_ := L0.ext hO.2
  refine ok_aloadN G d_jdk_45_method_3_code_0 rfl rfl ?_
  refine ok_getF G (host := "") (Or.inl (C.w91)) Via.refl FE_ d_jdk_45_method_3_code_1 ?_
  refine ok_arraylengthL G LE_ d_jdk_45_method_3_code_4 ?_
  exact ok_retI G rfl d_jdk_45_method_3_code_5 ⟨rfl, rfl⟩ (Nat.le_of_ble_eq_true rfl) (Nat.le_of_ble_eq_true rfl)
theorem d_jdk_46_method_14_code_0 : decode jdk_46_method_14_code 0 = .ok (.iconst 1, 1) := by decide +kernel
theorem d_jdk_46_method_14_code_1 : decode jdk_46_method_14_code 1 = .ok (.istore_n 1, 1) := by decide +kernel
theorem d_jdk_46_method_14_code_2 : decode jdk_46_method_14_code 2 = .ok (.iconst 0, 1) := by decide +kernel
theorem d_jdk_46_method_14_code_3 : decode jdk_46_method_14_code 3 = .ok (.istore_n 2, 1) := by decide +kernel
theorem d_jdk_46_method_14_code_4 : decode jdk_46_method_14_code 4 = .ok (.aload_n 0, 1) := by decide +kernel
theorem d_jdk_46_method_14_code_5 : decode jdk_46_method_14_code 5 = .ok (.invokevirtual 13, 3) := by decide +kernel
theorem pd4 : parseMethodDescriptor "()I" = some ⟨[], some .int⟩ := by decide +kernel
theorem d_jdk_46_method_14_code_8 : decode jdk_46_method_14_code 8 = .ok (.istore_n 3, 1) := by decide +kernel
theorem d_jdk_46_method_14_code_9 : decode jdk_46_method_14_code 9 = .ok (.iload_n 2, 1) := by decide +kernel
theorem d_jdk_46_method_14_code_10 : decode jdk_46_method_14_code 10 = .ok (.iload_n 3, 1) := by decide +kernel
theorem d_jdk_46_method_14_code_11 : decode jdk_46_method_14_code 11 = .ok (.if_icmp .ge 23, 3) := by decide +kernel
theorem d_jdk_46_method_14_code_34 : decode jdk_46_method_14_code 34 = .ok (.iload_n 1, 1) := by decide +kernel
theorem d_jdk_46_method_14_code_35 : decode jdk_46_method_14_code 35 = .ok (.ireturn, 1) := by decide +kernel
def R_c_ailhash : Room := { frames := 1, cells := 0, slots := 0, locals := 12 }
theorem pl_b19 : plainFor (⟨"java/util/ImmutableCollections$AbstractImmutableList", "hashCode", "()I"⟩ : MethodName) = true := plainFor_of_name (by first | (simp [plainName, overriddenIn]; done) | decide +kernel)
set_option maxRecDepth 65536 in
set_option maxHeartbeats 40000000 in
theorem c_ailhash {l : Launch} {Z : State} {a0 : Array Value} {n0 : Nat} {h0 : Heap} (C : Cx Z a0) (hO : Old Z n0 h0) {le ea : Addr} (HL : Lst Z le ea) :
    Con false l Z [] n0 (⟨"java/util/ImmutableCollections$AbstractImmutableList", "hashCode", "()I"⟩ : MethodName) jdk_46_method_14_code 4 (some .int) R_c_ailhash #[(.ref le)] h0 [] (fun v h => v = some (.int 1) ∧ h0 = h) := by
  refine Con.intro (a0 := a0) pl_b19 hO (fun q => nomatch q) ?_
  intro p e s m below meth c G
  refine ok_as (mkF m 0 #[.val (.ref le), .unset, .unset, .unset] []) (by first | rfl | (simp [entryFrame, mkF, argsToLocals, Value.category]; done)) ?_
  obtain ⟨sL, E0, FE0, FA0, L0⟩ := id HL
  have EL_ := E0.ext hO.2
  have FE_ := FE0.ext hO.2
  have FA_ := FA0.ext hO.2
  have LE_ := L0.ext hO.2
  refine ok_iconst G (1 : Int32) d_jdk_46_method_14_code_0 rfl ?_
  refine ok_istoreN G #[.val (.ref le), .val (.int (1 : Int32)), .unset, .unset] d_jdk_46_method_14_code_1 rfl ?_
  refine ok_iconst G (0 : Int32) d_jdk_46_method_14_code_2 rfl ?_
  refine ok_istoreN G #[.val (.ref le), .val (.int (1 : Int32)), .val (.int (0 : Int32)), .unset] d_jdk_46_method_14_code_3 rfl ?_
  refine ok_aloadN G d_jdk_46_method_14_code_4 rfl rfl ?_
  refine ok_virtualUp G (a := le) (y0 := (⟨"java/util/ImmutableCollections$AbstractImmutableList", "size", "()I"⟩ : MethodName)) (y := (⟨"java/util/ImmutableCollections$ListN", "size", "()I"⟩ : MethodName)) (argsL := []) (rest := []) EL_ (C.w84) (C.w85) (C.w86) (C.w87) (C.w88) (C.w89) (C.w90) (by decide) pd4 (c_lnsize C hO HL) rfl rfl rfl d_jdk_46_method_14_code_5 (Nat.le_of_ble_eq_true rfl) (Nat.le_of_ble_eq_true rfl) (Nat.le_of_ble_eq_true rfl) (Nat.le_of_ble_eq_true rfl) (fun _ q => nomatch q) ?_
  rintro _ _ _ ⟨rfl, rfl⟩
  refine ok_as (mkF m 8 #[.val (.ref le), .val (.int (1 : Int32)), .val (.int (0 : Int32)), .unset] [(.int (0 : Int32))]) rfl ?_
  refine ok_istoreN G #[.val (.ref le), .val (.int (1 : Int32)), .val (.int (0 : Int32)), .val (.int (0 : Int32))] d_jdk_46_method_14_code_8 rfl ?_
  refine ok_iloadN G d_jdk_46_method_14_code_9 rfl ?_
  refine ok_iloadN G d_jdk_46_method_14_code_10 rfl ?_
  refine ok_icmpgeY G 34 d_jdk_46_method_14_code_11 (by decide) (by decide) (by decide) ?_
  refine ok_iloadN G d_jdk_46_method_14_code_34 rfl ?_
  exact ok_retI G rfl d_jdk_46_method_14_code_35 ⟨rfl, rfl⟩ (Nat.le_of_ble_eq_true rfl) (Nat.le_of_ble_eq_true rfl)
theorem d_jdk_53_method_1_code_0 : decode jdk_53_method_1_code 0 = .ok (.aload_n 0, 1) := by decide +kernel
theorem d_jdk_53_method_1_code_1 : decode jdk_53_method_1_code 1 = .ok (.invokespecial 1, 3) := by decide +kernel
theorem d_jdk_53_method_1_code_4 : decode jdk_53_method_1_code 4 = .ok (.aload_n 0, 1) := by decide +kernel
theorem d_jdk_53_method_1_code_5 : decode jdk_53_method_1_code 5 = .ok (.aload_n 1, 1) := by decide +kernel
theorem d_jdk_53_method_1_code_6 : decode jdk_53_method_1_code 6 = .ok (.putfield 7, 3) := by decide +kernel
theorem d_jdk_53_method_1_code_9 : decode jdk_53_method_1_code 9 = .ok (.aload_n 0, 1) := by decide +kernel
theorem d_jdk_53_method_1_code_10 : decode jdk_53_method_1_code 10 = .ok (.iload_n 2, 1) := by decide +kernel
theorem d_jdk_53_method_1_code_11 : decode jdk_53_method_1_code 11 = .ok (.putfield 13, 3) := by decide +kernel
theorem d_jdk_53_method_1_code_14 : decode jdk_53_method_1_code 14 = .ok (.aload_n 0, 1) := by decide +kernel
theorem d_jdk_53_method_1_code_15 : decode jdk_53_method_1_code 15 = .ok (.iconst 0, 1) := by decide +kernel
theorem d_jdk_53_method_1_code_16 : decode jdk_53_method_1_code 16 = .ok (.putfield 17, 3) := by decide +kernel
theorem d_jdk_53_method_1_code_19 : decode jdk_53_method_1_code 19 = .ok (.aload_n 0, 1) := by decide +kernel
theorem d_jdk_53_method_1_code_20 : decode jdk_53_method_1_code 20 = .ok (.iconst 0, 1) := by decide +kernel
theorem d_jdk_53_method_1_code_21 : decode jdk_53_method_1_code 21 = .ok (.putfield 20, 3) := by decide +kernel
theorem d_jdk_53_method_1_code_24 : decode jdk_53_method_1_code 24 = .ok (.return_, 1) := by decide +kernel
def R_c_liini : Room := { frames := 1, cells := 0, slots := 0, locals := 12 }
theorem pl_b14 : plainFor (⟨"java/util/ImmutableCollections$ListItr", "<init>", "(Ljava/util/List;I)V"⟩ : MethodName) = true := plainFor_of_name (by first | (simp [plainName, overriddenIn]; done) | decide +kernel)
set_option maxRecDepth 65536 in
set_option maxHeartbeats 40000000 in
theorem c_liini {l : Launch} {Z : State} {a0 : Array Value} {n0 : Nat} {h0 : Heap} (C : Cx Z a0) (hO : Old Z n0 h0) {x le : Addr} (E : Exa Z h0 x "java/util/ImmutableCollections$ListItr") (F_list : Fld Z h0 x "java/util/ImmutableCollections$ListItr" "list" "Ljava/util/List;" .null) (F_size : Fld Z h0 x "java/util/ImmutableCollections$ListItr" "size" "I" (.int (0 : Int32))) (F_cursor : Fld Z h0 x "java/util/ImmutableCollections$ListItr" "cursor" "I" (.int (0 : Int32))) (F_isListIterator : Fld Z h0 x "java/util/ImmutableCollections$ListItr" "isListIterator" "Z" (.int (0 : Int32))) (g_x : n0 ≤ x) :
    Con false l Z [] n0 (⟨"java/util/ImmutableCollections$ListItr", "<init>", "(Ljava/util/List;I)V"⟩ : MethodName) jdk_53_method_1_code 3 none R_c_liini #[(.ref x), (.ref le), (.int (0 : Int32))] h0 [x] (fun v h => v = none ∧ Fld Z h x "java/util/ImmutableCollections$ListItr" "size" "I" (.int 0) ∧ Fld Z h x "java/util/ImmutableCollections$ListItr" "cursor" "I" (.int 0)) := by
  refine Con.intro (a0 := a0) pl_b14 hO (fun q => nomatch q) ?_
  intro p e s m below meth c G
  refine ok_as (mkF m 0 #[.val (.ref x), .val (.ref le), .val (.int (0 : Int32))] []) (by first | rfl | (simp [entryFrame, mkF, argsToLocals, Value.category]; done)) ?_
  refine ok_aloadN G d_jdk_53_method_1_code_0 rfl rfl ?_
  refine ok_initO G (C.w97) (C.w20) (C.w21) rfl d_jdk_53_method_1_code_1 (Nat.le_of_ble_eq_true rfl) (Nat.le_of_ble_eq_true rfl) ?_
  refine ok_aloadN G d_jdk_53_method_1_code_4 rfl rfl ?_
  refine ok_aloadN G d_jdk_53_method_1_code_5 rfl rfl ?_
  refine ok_putF G (host := "") (Or.inl (C.w98)) Via.refl F_list E (Or.inr ⟨(C.w99), rfl, rfl⟩) (C.w82) (ty := (.object "java/util/List")) (by decide) rfl rfl d_jdk_53_method_1_code_6 g_x (Or.inl (List.mem_of_getElem? (i := 0) rfl)) SafeFor.narrow ?_
  intro hp1 K2 Wn Fn
  replace F_size := F_size.other Wn (Or.inr (slot_ne (Or.inr (C.w101)) (Or.inr (C.w99)) (by decide) (t := .int) (t' := (.object "java/util/List")) (by decide) (by decide)))
  replace F_cursor := F_cursor.other Wn (Or.inr (slot_ne (Or.inl (C.w103)) (Or.inr (C.w99)) (by decide) (t := .int) (t' := (.object "java/util/List")) (by decide) (by decide)))
  replace F_isListIterator := F_isListIterator.other Wn (Or.inr (slot_ne (Or.inr (C.w105)) (Or.inr (C.w99)) (by decide) (t := .boolean) (t' := (.object "java/util/List")) (by decide) (by decide)))
  replace E := E.keep K2
  replace F_list : Fld Z hp1 x "java/util/ImmutableCollections$ListItr" "list" "Ljava/util/List;" (.ref le) := Fn
  clear Wn Fn
  refine ok_aloadN G d_jdk_53_method_1_code_9 rfl rfl ?_
  refine ok_iloadN G d_jdk_53_method_1_code_10 rfl ?_
  refine ok_putF G (host := "") (Or.inl (C.w100)) Via.refl F_size E (Or.inr ⟨(C.w101), rfl, rfl⟩) (C.w82) (ty := .int) (by decide) rfl rfl d_jdk_53_method_1_code_11 g_x (Or.inl (List.mem_of_getElem? (i := 0) rfl)) SafeFor.narrow ?_
  intro hp3 K4 Wn Fn
  replace F_list := F_list.other Wn (Or.inr (slot_ne (Or.inr (C.w99)) (Or.inr (C.w101)) (by decide) (t := (.object "java/util/List")) (t' := .int) (by decide) (by decide)))
  replace F_cursor := F_cursor.other Wn (Or.inr (slot_ne (Or.inl (C.w103)) (Or.inr (C.w101)) (by decide) (t := .int) (t' := .int) (by decide) (by decide)))
  replace F_isListIterator := F_isListIterator.other Wn (Or.inr (slot_ne (Or.inr (C.w105)) (Or.inr (C.w101)) (by decide) (t := .boolean) (t' := .int) (by decide) (by decide)))
  replace E := E.keep K4
  replace F_size : Fld Z hp3 x "java/util/ImmutableCollections$ListItr" "size" "I" (.int (0 : Int32)) := Fn
  clear Wn Fn
  refine ok_aloadN G d_jdk_53_method_1_code_14 rfl rfl ?_
  refine ok_iconst G (0 : Int32) d_jdk_53_method_1_code_15 rfl ?_
  refine ok_putF G (host := "") (Or.inl (C.w102)) Via.refl F_cursor E (Or.inl (C.w103)) (C.w82) (ty := .int) (by decide) rfl rfl d_jdk_53_method_1_code_16 g_x (Or.inl (List.mem_of_getElem? (i := 0) rfl)) SafeFor.narrow ?_
  intro hp5 K6 Wn Fn
  replace F_list := F_list.other Wn (Or.inr (slot_ne (Or.inr (C.w99)) (Or.inl (C.w103)) (by decide) (t := (.object "java/util/List")) (t' := .int) (by decide) (by decide)))
  replace F_size := F_size.other Wn (Or.inr (slot_ne (Or.inr (C.w101)) (Or.inl (C.w103)) (by decide) (t := .int) (t' := .int) (by decide) (by decide)))
  replace F_isListIterator := F_isListIterator.other Wn (Or.inr (slot_ne (Or.inr (C.w105)) (Or.inl (C.w103)) (by decide) (t := .boolean) (t' := .int) (by decide) (by decide)))
  replace E := E.keep K6
  replace F_cursor : Fld Z hp5 x "java/util/ImmutableCollections$ListItr" "cursor" "I" (.int (0 : Int32)) := Fn
  clear Wn Fn
  refine ok_aloadN G d_jdk_53_method_1_code_19 rfl rfl ?_
  refine ok_iconst G (0 : Int32) d_jdk_53_method_1_code_20 rfl ?_
  refine ok_putF G (host := "") (Or.inl (C.w104)) Via.refl F_isListIterator E (Or.inr ⟨(C.w105), rfl, rfl⟩) (C.w82) (ty := .boolean) (by decide) rfl rfl d_jdk_53_method_1_code_21 g_x (Or.inl (List.mem_of_getElem? (i := 0) rfl)) SafeFor.narrow ?_
  intro hp7 K8 Wn Fn
  replace F_list := F_list.other Wn (Or.inr (slot_ne (Or.inr (C.w99)) (Or.inr (C.w105)) (by decide) (t := (.object "java/util/List")) (t' := .boolean) (by decide) (by decide)))
  replace F_size := F_size.other Wn (Or.inr (slot_ne (Or.inr (C.w101)) (Or.inr (C.w105)) (by decide) (t := .int) (t' := .boolean) (by decide) (by decide)))
  replace F_cursor := F_cursor.other Wn (Or.inr (slot_ne (Or.inl (C.w103)) (Or.inr (C.w105)) (by decide) (t := .int) (t' := .boolean) (by decide) (by decide)))
  replace E := E.keep K8
  replace F_isListIterator : Fld Z hp7 x "java/util/ImmutableCollections$ListItr" "isListIterator" "Z" (.int (0 : Int32)) := Fn
  clear Wn Fn
  exact ok_return G rfl d_jdk_53_method_1_code_24 ⟨rfl, F_size, F_cursor⟩ (Nat.le_of_ble_eq_true rfl) (Nat.le_of_ble_eq_true rfl)
theorem d_jdk_46_method_10_code_0 : decode jdk_46_method_10_code 0 = .ok (.new 61, 3) := by decide +kernel
theorem d_jdk_46_method_10_code_3 : decode jdk_46_method_10_code 3 = .ok (.dup, 1) := by decide +kernel
theorem d_jdk_46_method_10_code_4 : decode jdk_46_method_10_code 4 = .ok (.aload_n 0, 1) := by decide +kernel
theorem d_jdk_46_method_10_code_5 : decode jdk_46_method_10_code 5 = .ok (.aload_n 0, 1) := by decide +kernel
theorem d_jdk_46_method_10_code_6 : decode jdk_46_method_10_code 6 = .ok (.invokevirtual 13, 3) := by decide +kernel
theorem d_jdk_46_method_10_code_9 : decode jdk_46_method_10_code 9 = .ok (.invokespecial 63, 3) := by decide +kernel
theorem pd5 : parseMethodDescriptor "(Ljava/util/List;I)V" = some ⟨[(.object "java/util/List"), .int], none⟩ := by decide +kernel
theorem d_jdk_46_method_10_code_12 : decode jdk_46_method_10_code 12 = .ok (.areturn, 1) := by decide +kernel
def R_c_iter : Room := { frames := 2, cells := 1, slots := 4, locals := 27 }
theorem pl_b12 : plainFor (⟨"java/util/ImmutableCollections$AbstractImmutableList", "iterator", "()Ljava/util/Iterator;"⟩ : MethodName) = true := plainFor_of_name (by first | (simp [plainName, overriddenIn]; done) | decide +kernel)
set_option maxRecDepth 65536 in
set_option maxHeartbeats 40000000 in
theorem c_iter {l : Launch} {Z : State} {a0 : Array Value} {n0 : Nat} {h0 : Heap} (C : Cx Z a0) (hO : Old Z n0 h0) {le ea : Addr} (HL : Lst Z le ea) :
    Con false l Z [] n0 (⟨"java/util/ImmutableCollections$AbstractImmutableList", "iterator", "()Ljava/util/Iterator;"⟩ : MethodName) jdk_46_method_10_code 1 (some (.object "java/util/Iterator")) R_c_iter #[(.ref le)] h0 [] (fun v h => ∃ x, v = some (.ref x) ∧ h0.size ≤ x ∧ Exa Z h x "java/util/ImmutableCollections$ListItr" ∧ Fld Z h x "java/util/ImmutableCollections$ListItr" "size" "I" (.int 0) ∧ Fld Z h x "java/util/ImmutableCollections$ListItr" "cursor" "I" (.int 0)) := by
  refine Con.intro (a0 := a0) pl_b12 hO (fun q => nomatch q) ?_
  intro p e s m below meth c G
  refine ok_as (mkF m 0 #[.val (.ref le)] []) (by first | rfl | (simp [entryFrame, mkF, argsToLocals, Value.category]; done)) ?_
  obtain ⟨sL, E0, FE0, FA0, L0⟩ := id HL
  have EL_ := E0.ext hO.2
  have FE_ := FE0.ext hO.2
  have FA_ := FA0.ext hO.2
  have LE_ := L0.ext hO.2
  refine ok_new G (C.w81) (C.w82) (C.w83) d_jdk_46_method_10_code_0 (Nat.le_of_ble_eq_true rfl) (Nat.le_of_ble_eq_true rfl) ?_
  intro hp2 ob1 eq_ob1 K3 g_ob1 lb_ob1 E_ob1 D_ob1
  have ne_le_ob1 : le ≠ ob1 := Nat.ne_of_lt (Nat.lt_of_lt_of_le EL_.lt (Nat.le_of_eq eq_ob1.symm))
  have ne_ea_ob1 : ea ≠ ob1 := Nat.ne_of_lt (Nat.lt_of_lt_of_le LE_.lt (Nat.le_of_eq eq_ob1.symm))
  replace EL_ := EL_.keep K3
  replace FE_ := FE_.keep K3 nin0
  replace FA_ := FA_.keep K3 nin0
  replace LE_ := LE_.keep K3 nin0
  have F_ob1_list : Fld Z hp2 ob1 "java/util/ImmutableCollections$ListItr" "list" "Ljava/util/List;" .null := D_ob1 _ _ _ (.object "java/util/List") (Or.inr (C.w99)) (by decide)
  have F_ob1_size : Fld Z hp2 ob1 "java/util/ImmutableCollections$ListItr" "size" "I" (.int (0 : Int32)) := D_ob1 _ _ _ .int (Or.inr (C.w101)) (by decide)
  have F_ob1_cursor : Fld Z hp2 ob1 "java/util/ImmutableCollections$ListItr" "cursor" "I" (.int (0 : Int32)) := D_ob1 _ _ _ .int (Or.inl (C.w103)) (by decide)
  have F_ob1_isListIterator : Fld Z hp2 ob1 "java/util/ImmutableCollections$ListItr" "isListIterator" "Z" (.int (0 : Int32)) := D_ob1 _ _ _ .boolean (Or.inr (C.w105)) (by decide)
  refine ok_dup G d_jdk_46_method_10_code_3 rfl ?_
  refine ok_aloadN G d_jdk_46_method_10_code_4 rfl rfl ?_
  refine ok_aloadN G d_jdk_46_method_10_code_5 rfl rfl ?_
  refine ok_old (fun hO_hp2 => ?_)
  refine ok_virtualUp G (a := le) (y0 := (⟨"java/util/ImmutableCollections$AbstractImmutableList", "size", "()I"⟩ : MethodName)) (y := (⟨"java/util/ImmutableCollections$ListN", "size", "()I"⟩ : MethodName)) (argsL := []) (rest := [(.ref le), (.ref ob1), (.ref ob1)]) EL_ (C.w84) (C.w85) (C.w86) (C.w87) (C.w88) (C.w89) (C.w90) (by decide) pd4 (c_lnsize C hO_hp2 HL) rfl rfl rfl d_jdk_46_method_10_code_6 (Nat.le_of_ble_eq_true rfl) (Nat.le_of_ble_eq_true rfl) (Nat.le_of_ble_eq_true rfl) (Nat.le_of_ble_eq_true rfl) (fun _ q => nomatch q) ?_
  rintro _ _ _ ⟨rfl, rfl⟩
  refine ok_as (mkF m 9 #[.val (.ref le)] [(.int (0 : Int32)), (.ref le), (.ref ob1), (.ref ob1)]) rfl ?_
  refine ok_init G (a := ob1) (argsL := [(.ref le), (.int (0 : Int32))]) (rest := [(.ref ob1)]) rfl (C.w93) (C.w94) (C.w83) (C.w96) (by decide) pd5 (c_liini C hO_hp2 E_ob1 F_ob1_list F_ob1_size F_ob1_cursor F_ob1_isListIterator g_ob1) rfl rfl rfl d_jdk_46_method_10_code_9 (Nat.le_of_ble_eq_true rfl) (Nat.le_of_ble_eq_true rfl) (Nat.le_of_ble_eq_true rfl) (Nat.le_of_ble_eq_true rfl) (allS ⟨(Or.inr lb_ob1), SafeFor.narrow⟩ (fun _ q => nomatch q)) ?_
  rintro _ hp6 K7 ⟨rfl, FS_ob1, FU_ob1⟩
  replace EL_ := EL_.keep K7
  replace FE_ := FE_.keep K7 (ninS ne_le_ob1 nin0)
  replace FA_ := FA_.keep K7 (ninS ne_le_ob1 nin0)
  replace LE_ := LE_.keep K7 (ninS ne_ea_ob1 nin0)
  replace E_ob1 := E_ob1.keep K7
  refine ok_as (mkF m 12 #[.val (.ref le)] [(.ref ob1)]) rfl ?_
  exact ok_retA G rfl rfl rfl d_jdk_46_method_10_code_12 rfl ⟨_, rfl, lb_ob1, E_ob1, FS_ob1, FU_ob1⟩ (Nat.le_of_ble_eq_true rfl) (Nat.le_of_ble_eq_true rfl)
theorem d_jdk_53_method_3_code_0 : decode jdk_53_method_3_code 0 = .ok (.aload_n 0, 1) := by decide +kernel
theorem d_jdk_53_method_3_code_1 : decode jdk_53_method_3_code 1 = .ok (.getfield 17, 3) := by decide +kernel
theorem d_jdk_53_method_3_code_4 : decode jdk_53_method_3_code 4 = .ok (.aload_n 0, 1) := by decide +kernel
theorem d_jdk_53_method_3_code_5 : decode jdk_53_method_3_code 5 = .ok (.getfield 13, 3) := by decide +kernel
theorem d_jdk_53_method_3_code_8 : decode jdk_53_method_3_code 8 = .ok (.if_icmp .eq 7, 3) := by decide +kernel
theorem d_jdk_53_method_3_code_15 : decode jdk_53_method_3_code 15 = .ok (.iconst 0, 1) := by decide +kernel
theorem d_jdk_53_method_3_code_16 : decode jdk_53_method_3_code 16 = .ok (.ireturn, 1) := by decide +kernel
def R_c_hasn : Room := { frames := 0, cells := 0, slots := 0, locals := 0 }
theorem pl_b15 : plainFor (⟨"java/util/ImmutableCollections$ListItr", "hasNext", "()Z"⟩ : MethodName) = true := plainFor_of_name (by first | (simp [plainName, overriddenIn]; done) | decide +kernel)
set_option maxRecDepth 65536 in
set_option maxHeartbeats 40000000 in
theorem c_hasn {l : Launch} {Z : State} {a0 : Array Value} {n0 : Nat} {h0 : Heap} (C : Cx Z a0) (hO : Old Z n0 h0) {x : Addr} (FS : Fld Z h0 x "java/util/ImmutableCollections$ListItr" "size" "I" (.int (0 : Int32))) (FU : Fld Z h0 x "java/util/ImmutableCollections$ListItr" "cursor" "I" (.int (0 : Int32))) :
    Con false l Z [] n0 (⟨"java/util/ImmutableCollections$ListItr", "hasNext", "()Z"⟩ : MethodName) jdk_53_method_3_code 1 (some .boolean) R_c_hasn #[(.ref x)] h0 [] (fun v h => v = some (.int 0) ∧ h0 = h) := by
  refine Con.intro (a0 := a0) pl_b15 hO (fun q => nomatch q) ?_
  intro p e s m below meth c G
  refine ok_as (mkF m 0 #[.val (.ref x)] []) (by first | rfl | (simp [entryFrame, mkF, argsToLocals, Value.category]; done)) ?_
  refine ok_aloadN G d_jdk_53_method_3_code_0 rfl rfl ?_
  refine ok_getF G (host := "") (Or.inl (C.w102)) Via.refl FU d_jdk_53_method_3_code_1 ?_
  refine ok_aloadN G d_jdk_53_method_3_code_4 rfl rfl ?_
  refine ok_getF G (host := "") (Or.inl (C.w100)) Via.refl FS d_jdk_53_method_3_code_5 ?_
  refine ok_icmpeqY G 15 d_jdk_53_method_3_code_8 (by decide) (by decide) (by decide) ?_
  refine ok_iconst G (0 : Int32) d_jdk_53_method_3_code_15 rfl ?_
  exact ok_retN G rfl (by simp) d_jdk_53_method_3_code_16 rfl ⟨rfl, rfl⟩ (Nat.le_of_ble_eq_true rfl) (Nat.le_of_ble_eq_true rfl)
theorem d_jdk_31_method_11_code_0 : decode jdk_31_method_11_code 0 = .ok (.aload_n 0, 1) := by decide +kernel
theorem d_jdk_31_method_11_code_1 : decode jdk_31_method_11_code 1 = .ok (.ifnonnull 12, 3) := by decide +kernel
theorem d_jdk_31_method_11_code_13 : decode jdk_31_method_11_code 13 = .ok (.aload_n 0, 1) := by decide +kernel
theorem d_jdk_31_method_11_code_14 : decode jdk_31_method_11_code 14 = .ok (.areturn, 1) := by decide +kernel
def R_c_rnn : Room := { frames := 0, cells := 0, slots := 0, locals := 0 }
theorem pl_b9 : plainFor (⟨"java/util/Objects", "requireNonNull", "(Ljava/lang/Object;Ljava/lang/String;)Ljava/lang/Object;"⟩ : MethodName) = true := plainFor_of_name (by first | (simp [plainName, overriddenIn]; done) | decide +kernel)
set_option maxRecDepth 65536 in
set_option maxHeartbeats 40000000 in
theorem c_rnn {l : Launch} {Z : State} {a0 : Array Value} {n0 : Nat} {h0 : Heap} (C : Cx Z a0) (hO : Old Z n0 h0) {x y : Addr} :
    Con false l Z [] n0 (⟨"java/util/Objects", "requireNonNull", "(Ljava/lang/Object;Ljava/lang/String;)Ljava/lang/Object;"⟩ : MethodName) jdk_31_method_11_code 2 (some (.object "java/lang/Object")) R_c_rnn #[(.ref x), (.ref y)] h0 [] (fun v h => v = some (.ref x) ∧ h0 = h) := by
  refine Con.intro (a0 := a0) pl_b9 hO (fun q => nomatch q) ?_
  intro p e s m below meth c G
  refine ok_as (mkF m 0 #[.val (.ref x), .val (.ref y)] []) (by first | rfl | (simp [entryFrame, mkF, argsToLocals, Value.category]; done)) ?_
  refine ok_aloadN G d_jdk_31_method_11_code_0 rfl rfl ?_
  refine ok_ifnonnullY G 13 d_jdk_31_method_11_code_1 (by decide) (by decide) ?_
  refine ok_aloadN G d_jdk_31_method_11_code_13 rfl rfl ?_
  exact ok_retA G rfl rfl rfl d_jdk_31_method_11_code_14 rfl ⟨rfl, rfl⟩ (Nat.le_of_ble_eq_true rfl) (Nat.le_of_ble_eq_true rfl)
def R_c_initBBh : Room := { frames := 1, cells := 0, slots := 0, locals := 12 }
set_option maxRecDepth 65536 in
set_option maxHeartbeats 40000000 in
theorem c_initBBh {l : Launch} {Z : State} {a0 : Array Value} {n0 : Nat} {h0 : Heap} (C : Cx Z a0) (hO : Old Z n0 h0) {x t : Addr} (E : Exa Z h0 x "java/lang/String") (FV : Fld Z h0 x "java/lang/String" "value" "[B" .null) (FC : Fld Z h0 x "java/lang/String" "coder" "B" (.int (0 : Int32))) (g_x : n0 ≤ x) (FH : Fld Z h0 x "java/lang/String" "hash" "I" (.int (0 : Int32))) (FZ : Fld Z h0 x "java/lang/String" "hashIsZero" "Z" (.int (0 : Int32))) :
    Con false l Z [] n0 (⟨"java/lang/String", "<init>", "([BB)V"⟩ : MethodName) jdk_42_method_151_code 3 none R_c_initBBh #[(.ref x), (.ref t), (.int (0 : Int32))] h0 [x] (fun v h => v = none ∧ Fld Z h x "java/lang/String" "coder" "B" (.int 0) ∧ Fld Z h x "java/lang/String" "value" "[B" (.ref t) ∧ Fld Z h x "java/lang/String" "hash" "I" (.int 0) ∧ Fld Z h x "java/lang/String" "hashIsZero" "Z" (.int 0)) := by
  refine Con.intro (a0 := a0) pl_b4 hO (fun q => nomatch q) ?_
  intro p e s m below meth c G
  refine ok_as (mkF m 0 #[.val (.ref x), .val (.ref t), .val (.int (0 : Int32))] []) (by first | rfl | (simp [entryFrame, mkF, argsToLocals, Value.category]; done)) ?_
  refine ok_aloadN G d_jdk_42_method_151_code_0 rfl rfl ?_
  refine ok_initO G (C.w19) (C.w20) (C.w21) rfl d_jdk_42_method_151_code_1 (Nat.le_of_ble_eq_true rfl) (Nat.le_of_ble_eq_true rfl) ?_
  refine ok_aloadN G d_jdk_42_method_151_code_4 rfl rfl ?_
  refine ok_aloadN G d_jdk_42_method_151_code_5 rfl rfl ?_
  refine ok_putF G (host := "") (Or.inl (C.w22)) Via.refl FV E (Or.inr ⟨(C.w23), rfl, rfl⟩) (C.w10) (ty := (.array .byte)) (by decide) rfl rfl d_jdk_42_method_151_code_6 g_x (Or.inl (List.mem_of_getElem? (i := 0) rfl)) SafeFor.narrow ?_
  intro hp1 K2 Wn Fn
  replace FC := FC.other Wn (Or.inr (slot_ne (Or.inr (C.w25)) (Or.inr (C.w23)) (by decide) (t := .byte) (t' := (.array .byte)) (by decide) (by decide)))
  replace FH := FH.other Wn (Or.inr (slot_ne (Or.inl (C.w123)) (Or.inr (C.w23)) (by decide) (t := .int) (t' := (.array .byte)) (by decide) (by decide)))
  replace FZ := FZ.other Wn (Or.inr (slot_ne (Or.inl (C.w125)) (Or.inr (C.w23)) (by decide) (t := .boolean) (t' := (.array .byte)) (by decide) (by decide)))
  replace E := E.keep K2
  replace FV : Fld Z hp1 x "java/lang/String" "value" "[B" (.ref t) := Fn
  clear Wn Fn
  refine ok_aloadN G d_jdk_42_method_151_code_9 rfl rfl ?_
  refine ok_iloadN G d_jdk_42_method_151_code_10 rfl ?_
  refine ok_putF G (host := "") (Or.inl (C.w24)) Via.refl FC E (Or.inr ⟨(C.w25), rfl, rfl⟩) (C.w10) (ty := .byte) (by decide) rfl rfl d_jdk_42_method_151_code_11 g_x (Or.inl (List.mem_of_getElem? (i := 0) rfl)) SafeFor.narrow ?_
  intro hp3 K4 Wn Fn
  replace FV := FV.other Wn (Or.inr (slot_ne (Or.inr (C.w23)) (Or.inr (C.w25)) (by decide) (t := (.array .byte)) (t' := .byte) (by decide) (by decide)))
  replace FH := FH.other Wn (Or.inr (slot_ne (Or.inl (C.w123)) (Or.inr (C.w25)) (by decide) (t := .int) (t' := .byte) (by decide) (by decide)))
  replace FZ := FZ.other Wn (Or.inr (slot_ne (Or.inl (C.w125)) (Or.inr (C.w25)) (by decide) (t := .boolean) (t' := .byte) (by decide) (by decide)))
  replace E := E.keep K4
  replace FC : Fld Z hp3 x "java/lang/String" "coder" "B" (.int (0 : Int32)) := Fn
  clear Wn Fn
  exact ok_return G rfl d_jdk_42_method_151_code_14 ⟨rfl, FC, FV, FH, FZ⟩ (Nat.le_of_ble_eq_true rfl) (Nat.le_of_ble_eq_true rfl)
def R_c_valueH : Room := { frames := 2, cells := 2, slots := 5, locals := 27 }
set_option maxRecDepth 65536 in
set_option maxHeartbeats 40000000 in
theorem c_valueH {l : Launch} {Z : State} {a0 : Array Value} {n0 : Nat} {h0 : Heap} (C : Cx Z a0) (hO : Old Z n0 h0) {ch : Int32} (hch : Lat ch) :
    Con false l Z [] n0 (⟨"java/lang/String", "valueOf", "(C)Ljava/lang/String;"⟩ : MethodName) jdk_42_method_139_code 1 (some (.object "java/lang/String")) R_c_valueH #[(.int ch)] h0 [] (fun v h => ∃ x t, v = some (.ref x) ∧ h0.size ≤ x ∧ LStr Z h x t [ch] ∧ Fld Z h x "java/lang/String" "hash" "I" (.int 0) ∧ Fld Z h x "java/lang/String" "hashIsZero" "Z" (.int 0)) := by
  refine Con.intro (a0 := a0) pl_b1 hO (fun q => nomatch q) ?_
  intro p e s m below meth c G
  refine ok_as (mkF m 0 #[.val (.int ch)] []) (by first | rfl | (simp [entryFrame, mkF, argsToLocals, Value.category]; done)) ?_
  obtain ⟨cz, hCS, hcz⟩ := C.compact
  refine ok_getS G (host := "") (Or.inl (C.w4)) Via.refl hCS d_jdk_42_method_139_code_0 ?_
  refine ok_ifeqN G d_jdk_42_method_139_code_3 hcz ?_
  refine ok_iloadN G d_jdk_42_method_139_code_6 rfl ?_
  refine ok_static G (argsL := [(.int ch)]) (rest := []) (C.w5) (C.w6) (C.w7) (C.w8) (by decide) pd0 (c_canE C hO hch) rfl rfl rfl d_jdk_42_method_139_code_7 (Nat.le_of_ble_eq_true rfl) (Nat.le_of_ble_eq_true rfl) (Nat.le_of_ble_eq_true rfl) (Nat.le_of_ble_eq_true rfl) (fun _ q => nomatch q) ?_
  rintro _ _ _ ⟨rfl, rfl⟩
  refine ok_as (mkF m 10 #[.val (.int ch)] [(.int (1 : Int32))]) rfl ?_
  refine ok_ifeqN G d_jdk_42_method_139_code_10 (by decide) ?_
  refine ok_new G (C.w9) (C.w10) (C.w2) d_jdk_42_method_139_code_13 (Nat.le_of_ble_eq_true rfl) (Nat.le_of_ble_eq_true rfl) ?_
  intro hp4 ob3 eq_ob3 K5 g_ob3 lb_ob3 E_ob3 D_ob3
  have F_ob3_value : Fld Z hp4 ob3 "java/lang/String" "value" "[B" .null := D_ob3 _ _ _ (.array .byte) (Or.inr (C.w23)) (by decide)
  have F_ob3_coder : Fld Z hp4 ob3 "java/lang/String" "coder" "B" (.int (0 : Int32)) := D_ob3 _ _ _ .byte (Or.inr (C.w25)) (by decide)
  have F_ob3_hash : Fld Z hp4 ob3 "java/lang/String" "hash" "I" (.int (0 : Int32)) := D_ob3 _ _ _ .int (Or.inl (C.w123)) (by decide)
  have F_ob3_hashIsZero : Fld Z hp4 ob3 "java/lang/String" "hashIsZero" "Z" (.int (0 : Int32)) := D_ob3 _ _ _ .boolean (Or.inl (C.w125)) (by decide)
  refine ok_dup G d_jdk_42_method_139_code_16 rfl ?_
  refine ok_iloadN G d_jdk_42_method_139_code_17 rfl ?_
  refine ok_old (fun hO_hp4 => ?_)
  refine ok_keep (fun hKp_hp4 => ?_)
  refine ok_static G (argsL := [(.int ch)]) (rest := [(.ref ob3), (.ref ob3)]) (C.w11) (C.w12) (C.w7) (C.w13) (by decide) pd1 (c_toB1 C hO_hp4) rfl rfl rfl d_jdk_42_method_139_code_18 (Nat.le_of_ble_eq_true rfl) (Nat.le_of_ble_eq_true rfl) (Nat.le_of_ble_eq_true rfl) (Nat.le_of_ble_eq_true rfl) (fun _ q => nomatch q) ?_
  rintro _ hp8 K9 ⟨tr6, kb7, rfl, lbq_tr6, V_tr6⟩
  have lbh_tr6 := lbq_tr6
  have ne_ob3_tr6 : ob3 ≠ tr6 := Nat.ne_of_lt (Nat.lt_of_lt_of_le E_ob3.lt lbh_tr6)
  have lb_tr6 : h0.size ≤ tr6 := Nat.le_trans hKp_hp4.1 lbh_tr6
  have g_tr6 : n0 ≤ tr6 := Nat.le_trans (old_le hO_hp4) lbh_tr6
  replace E_ob3 := E_ob3.keep K9
  replace F_ob3_value := F_ob3_value.keep K9 nin0
  replace F_ob3_coder := F_ob3_coder.keep K9 nin0
  replace F_ob3_hash := F_ob3_hash.keep K9 nin0
  replace F_ob3_hashIsZero := F_ob3_hashIsZero.keep K9 nin0
  refine ok_as (mkF m 21 #[.val (.int ch)] [(.ref tr6), (.ref ob3), (.ref ob3)]) rfl ?_
  refine ok_iconst G (0 : Int32) d_jdk_42_method_139_code_21 rfl ?_
  refine ok_old (fun hO_hp8 => ?_)
  refine ok_init G (a := ob3) (argsL := [(.ref tr6), (.int (0 : Int32))]) (rest := [(.ref ob3)]) rfl (C.w15) (C.w16) (C.w2) (C.w18) (by decide) pd2 (c_initBBh C hO_hp8 E_ob3 F_ob3_value F_ob3_coder g_ob3 F_ob3_hash F_ob3_hashIsZero) rfl rfl rfl d_jdk_42_method_139_code_22 (Nat.le_of_ble_eq_true rfl) (Nat.le_of_ble_eq_true rfl) (Nat.le_of_ble_eq_true rfl) (Nat.le_of_ble_eq_true rfl) (allS ⟨(Or.inr lb_ob3), SafeFor.narrow⟩ (fun _ q => nomatch q)) ?_
  rintro _ hp10 K11 ⟨rfl, FC_ob3, FV_ob3, FH_ob3, FZ_ob3⟩
  replace E_ob3 := E_ob3.keep K11
  replace V_tr6 := V_tr6.keep K11 (ninS (Ne.symm ne_ob3_tr6) nin0)
  refine ok_as (mkF m 25 #[.val (.int ch)] [(.ref ob3)]) rfl ?_
  exact ok_retA G rfl rfl rfl d_jdk_42_method_139_code_25 rfl ⟨_, _, rfl, lb_ob3, ⟨E_ob3, FC_ob3, FV_ob3, ⟨_, V_tr6⟩, allL hch (fun _ q => nomatch q), (Nat.le_of_ble_eq_true rfl)⟩, FH_ob3, FZ_ob3⟩ (Nat.le_of_ble_eq_true rfl) (Nat.le_of_ble_eq_true rfl)
theorem d_jdk_43_method_21_code_0 : decode jdk_43_method_21_code 0 = .ok (.aload_n 0, 1) := by decide +kernel
theorem d_jdk_43_method_21_code_1 : decode jdk_43_method_21_code 1 = .ok (.arraylength, 1) := by decide +kernel
theorem d_jdk_43_method_21_code_2 : decode jdk_43_method_21_code 2 = .ok (.lookupswitch 40 #[(0, 26), (1, 30)], 26) := by decide +kernel
theorem d_jdk_43_method_21_code_32 : decode jdk_43_method_21_code 32 = .ok (.aload_n 0, 1) := by decide +kernel
theorem d_jdk_43_method_21_code_33 : decode jdk_43_method_21_code 33 = .ok (.iconst 0, 1) := by decide +kernel
theorem d_jdk_43_method_21_code_34 : decode jdk_43_method_21_code 34 = .ok (.baload, 1) := by decide +kernel
theorem d_jdk_43_method_21_code_35 : decode jdk_43_method_21_code 35 = .ok (.sipush 255, 3) := by decide +kernel
theorem d_jdk_43_method_21_code_38 : decode jdk_43_method_21_code 38 = .ok (.iand, 1) := by decide +kernel
theorem d_jdk_43_method_21_code_39 : decode jdk_43_method_21_code 39 = .ok (.goto 12, 3) := by decide +kernel
theorem d_jdk_43_method_21_code_51 : decode jdk_43_method_21_code 51 = .ok (.ireturn, 1) := by decide +kernel
def R_c_l1hash : Room := { frames := 0, cells := 0, slots := 0, locals := 0 }
theorem pl_b18 : plainFor (⟨"java/lang/StringLatin1", "hashCode", "([B)I"⟩ : MethodName) = true := plainFor_of_name (by first | (simp [plainName, overriddenIn]; done) | decide +kernel)
set_option maxRecDepth 65536 in
set_option maxHeartbeats 40000000 in
theorem c_l1hash {l : Launch} {Z : State} {a0 : Array Value} {n0 : Nat} {h0 : Heap} (C : Cx Z a0) (hO : Old Z n0 h0) {t : Addr} {kb : ClassId} {ch : Int32} (V : Arv Z h0 t kb .byte (1 : Int32) [lo8 ch] (.int 0)) :
    Con false l Z [] n0 (⟨"java/lang/StringLatin1", "hashCode", "([B)I"⟩ : MethodName) jdk_43_method_21_code 1 (some .int) R_c_l1hash #[(.ref t)] h0 [] (fun v h => ∃ r, v = some (.int r) ∧ h0 = h) := by
  refine Con.intro (a0 := a0) pl_b18 hO (fun q => nomatch q) ?_
  intro p e s m below meth c G
  refine ok_as (mkF m 0 #[.val (.ref t)] []) (by first | rfl | (simp [entryFrame, mkF, argsToLocals, Value.category]; done)) ?_
  refine ok_aloadN G d_jdk_43_method_21_code_0 rfl rfl ?_
  refine ok_arraylength G V d_jdk_43_method_21_code_1 ?_
  refine ok_lookup G 32 d_jdk_43_method_21_code_2 (by decide) (by decide) (by decide) ?_
  refine ok_aloadN G d_jdk_43_method_21_code_32 rfl rfl ?_
  refine ok_iconst G (0 : Int32) d_jdk_43_method_21_code_33 rfl ?_
  refine ok_baload G ch.toInt8.toInt32 V ⟨by decide, by decide⟩ rfl d_jdk_43_method_21_code_34 ?_
  refine ok_sipush G (255 : Int32) d_jdk_43_method_21_code_35 rfl ?_
  refine ok_iand G d_jdk_43_method_21_code_38 ?_
  refine ok_goto G 51 d_jdk_43_method_21_code_39 (by decide) (by decide) ?_
  exact ok_retI G rfl d_jdk_43_method_21_code_51 ⟨_, rfl, rfl⟩ (Nat.le_of_ble_eq_true rfl) (Nat.le_of_ble_eq_true rfl)
theorem d_jdk_42_method_78_code_0 : decode jdk_42_method_78_code 0 = .ok (.aload_n 0, 1) := by decide +kernel
theorem d_jdk_42_method_78_code_1 : decode jdk_42_method_78_code 1 = .ok (.getfield 19, 3) := by decide +kernel
theorem d_jdk_42_method_78_code_4 : decode jdk_42_method_78_code 4 = .ok (.istore_n 1, 1) := by decide +kernel
theorem d_jdk_42_method_78_code_5 : decode jdk_42_method_78_code 5 = .ok (.iload_n 1, 1) := by decide +kernel
theorem d_jdk_42_method_78_code_6 : decode jdk_42_method_78_code 6 = .ok (.ifCond .ne 52, 3) := by decide +kernel
theorem d_jdk_42_method_78_code_9 : decode jdk_42_method_78_code 9 = .ok (.aload_n 0, 1) := by decide +kernel
theorem d_jdk_42_method_78_code_10 : decode jdk_42_method_78_code 10 = .ok (.getfield 23, 3) := by decide +kernel
theorem d_jdk_42_method_78_code_13 : decode jdk_42_method_78_code 13 = .ok (.ifCond .ne 45, 3) := by decide +kernel
theorem d_jdk_42_method_78_code_16 : decode jdk_42_method_78_code 16 = .ok (.aload_n 0, 1) := by decide +kernel
theorem d_jdk_42_method_78_code_17 : decode jdk_42_method_78_code 17 = .ok (.invokevirtual 492, 3) := by decide +kernel
theorem pd6 : parseMethodDescriptor "()Z" = some ⟨[], some .boolean⟩ := by decide +kernel
theorem d_jdk_42_method_78_code_20 : decode jdk_42_method_78_code 20 = .ok (.ifCond .eq 13, 3) := by decide +kernel
theorem d_jdk_42_method_78_code_23 : decode jdk_42_method_78_code 23 = .ok (.aload_n 0, 1) := by decide +kernel
theorem d_jdk_42_method_78_code_24 : decode jdk_42_method_78_code 24 = .ok (.getfield 9, 3) := by decide +kernel
theorem d_jdk_42_method_78_code_27 : decode jdk_42_method_78_code 27 = .ok (.invokestatic 628, 3) := by decide +kernel
theorem pd7 : parseMethodDescriptor "([B)I" = some ⟨[(.array .byte)], some .int⟩ := by decide +kernel
theorem d_jdk_42_method_78_code_30 : decode jdk_42_method_78_code 30 = .ok (.goto 10, 3) := by decide +kernel
theorem d_jdk_42_method_78_code_40 : decode jdk_42_method_78_code 40 = .ok (.istore_n 1, 1) := by decide +kernel
theorem d_jdk_42_method_78_code_41 : decode jdk_42_method_78_code 41 = .ok (.iload_n 1, 1) := by decide +kernel
theorem d_jdk_42_method_78_code_42 : decode jdk_42_method_78_code 42 = .ok (.ifCond .ne 11, 3) := by decide +kernel
theorem d_jdk_42_method_78_code_53 : decode jdk_42_method_78_code 53 = .ok (.aload_n 0, 1) := by decide +kernel
theorem d_jdk_42_method_78_code_54 : decode jdk_42_method_78_code 54 = .ok (.iload_n 1, 1) := by decide +kernel
theorem d_jdk_42_method_78_code_55 : decode jdk_42_method_78_code 55 = .ok (.putfield 19, 3) := by decide +kernel
theorem d_jdk_42_method_78_code_58 : decode jdk_42_method_78_code 58 = .ok (.iload_n 1, 1) := by decide +kernel
theorem d_jdk_42_method_78_code_59 : decode jdk_42_method_78_code 59 = .ok (.ireturn, 1) := by decide +kernel
theorem d_jdk_42_method_78_code_45 : decode jdk_42_method_78_code 45 = .ok (.aload_n 0, 1) := by decide +kernel
theorem d_jdk_42_method_78_code_46 : decode jdk_42_method_78_code 46 = .ok (.iconst 1, 1) := by decide +kernel
theorem d_jdk_42_method_78_code_47 : decode jdk_42_method_78_code 47 = .ok (.putfield 23, 3) := by decide +kernel
theorem d_jdk_42_method_78_code_50 : decode jdk_42_method_78_code 50 = .ok (.goto 8, 3) := by decide +kernel
def R_c_shash : Room := { frames := 1, cells := 0, slots := 0, locals := 12 }
theorem pl_b16 : plainFor (⟨"java/lang/String", "hashCode", "()I"⟩ : MethodName) = true := plainFor_of_name (by first | (simp [plainName, overriddenIn]; done) | decide +kernel)
set_option maxRecDepth 65536 in
set_option maxHeartbeats 40000000 in
theorem c_shash {l : Launch} {Z : State} {a0 : Array Value} {n0 : Nat} {h0 : Heap} (C : Cx Z a0) (hO : Old Z n0 h0) {x t : Addr} {ch : Int32} (S : LStr Z h0 x t [ch]) (FH : Fld Z h0 x "java/lang/String" "hash" "I" (.int (0 : Int32))) (FZ : Fld Z h0 x "java/lang/String" "hashIsZero" "Z" (.int (0 : Int32))) (g_x : n0 ≤ x) :
    Con false l Z [] n0 (⟨"java/lang/String", "hashCode", "()I"⟩ : MethodName) jdk_42_method_78_code 2 (some .int) R_c_shash #[(.ref x)] h0 [x] (fun v h => ∃ r, v = some (.int r)) := by
  refine Con.intro (a0 := a0) pl_b16 hO (fun q => nomatch q) ?_
  intro p e s m below meth c G
  refine ok_as (mkF m 0 #[.val (.ref x), .unset] []) (by first | rfl | (simp [entryFrame, mkF, argsToLocals, Value.category]; done)) ?_
  have hxt : x ≠ t := S.neT S.exa (C.w10)
  obtain ⟨E, FC, FV, ⟨kb, V⟩, hla, hle⟩ := id S
  refine ok_aloadN G d_jdk_42_method_78_code_0 rfl rfl ?_
  refine ok_getF G (host := "") (Or.inl (C.w122)) Via.refl FH d_jdk_42_method_78_code_1 ?_
  refine ok_istoreN G #[.val (.ref x), .val (.int (0 : Int32))] d_jdk_42_method_78_code_4 rfl ?_
  refine ok_iloadN G d_jdk_42_method_78_code_5 rfl ?_
  refine ok_ifneN G d_jdk_42_method_78_code_6 (by decide) ?_
  refine ok_aloadN G d_jdk_42_method_78_code_9 rfl rfl ?_
  refine ok_getF G (host := "") (Or.inl (C.w124)) Via.refl FZ d_jdk_42_method_78_code_10 ?_
  refine ok_ifneN G d_jdk_42_method_78_code_13 (by decide) ?_
  refine ok_aloadN G d_jdk_42_method_78_code_16 rfl rfl ?_
  refine ok_virtual G (a := x) (y0 := (⟨"java/lang/String", "isLatin1", "()Z"⟩ : MethodName)) (y := (⟨"java/lang/String", "isLatin1", "()Z"⟩ : MethodName)) (argsL := []) (rest := []) E (C.w126) (C.w127) (C.w129) (fun vm hZ => notFace_of_selects (args := #[]) (mvT (s := s.setVm vm) hZ (C.w129))) (C.w128) (C.w2) (C.w130) (by decide) pd6 (c_isL1 C hO S) rfl rfl rfl d_jdk_42_method_78_code_17 (Nat.le_of_ble_eq_true rfl) (Nat.le_of_ble_eq_true rfl) (Nat.le_of_ble_eq_true rfl) (Nat.le_of_ble_eq_true rfl) (fun _ q => nomatch q) ?_
  rintro _ _ _ ⟨rfl, rfl⟩
  refine ok_as (mkF m 20 #[.val (.ref x), .val (.int (0 : Int32))] [(.int (1 : Int32))]) rfl ?_
  refine ok_ifeqN G d_jdk_42_method_78_code_20 (by decide) ?_
  refine ok_aloadN G d_jdk_42_method_78_code_23 rfl rfl ?_
  refine ok_getF G (host := "") (Or.inl (C.w22)) Via.refl FV d_jdk_42_method_78_code_24 ?_
  refine ok_static G (argsL := [(.ref t)]) (rest := []) (C.w131) (C.w132) (C.w7) (C.w133) (by decide) pd7 (c_l1hash C hO V) rfl rfl rfl d_jdk_42_method_78_code_27 (Nat.le_of_ble_eq_true rfl) (Nat.le_of_ble_eq_true rfl) (Nat.le_of_ble_eq_true rfl) (Nat.le_of_ble_eq_true rfl) (fun _ q => nomatch q) ?_
  rintro _ _ _ ⟨rh3, rfl, rfl⟩
  refine ok_as (mkF m 30 #[.val (.ref x), .val (.int (0 : Int32))] [(.int rh3)]) rfl ?_
  refine ok_goto G 40 d_jdk_42_method_78_code_30 (by decide) (by decide) ?_
  refine ok_istoreN G #[.val (.ref x), .val (.int rh3)] d_jdk_42_method_78_code_40 rfl ?_
  refine ok_iloadN G d_jdk_42_method_78_code_41 rfl ?_
  refine ok_ifne G 53 d_jdk_42_method_78_code_42 (by decide) (by decide) (fun cq6 => ?_) (fun cq6 => ?_)
  · skip
    refine ok_aloadN G d_jdk_42_method_78_code_53 rfl rfl ?_
    refine ok_iloadN G d_jdk_42_method_78_code_54 rfl ?_
    refine ok_putF G (host := "") (Or.inl (C.w122)) Via.refl FH E (Or.inl (C.w123)) (C.w10) (ty := .int) (by decide) rfl rfl d_jdk_42_method_78_code_55 g_x (Or.inl (List.mem_of_getElem? (i := 0) rfl)) SafeFor.narrow ?_
    intro hp7 K8 Wn Fn
    replace FC := FC.other Wn (Or.inr (slot_ne (Or.inr (C.w25)) (Or.inl (C.w123)) (by decide) (t := .byte) (t' := .int) (by decide) (by decide)))
    replace FV := FV.other Wn (Or.inr (slot_ne (Or.inr (C.w23)) (Or.inl (C.w123)) (by decide) (t := (.array .byte)) (t' := .int) (by decide) (by decide)))
    replace FZ := FZ.other Wn (Or.inr (slot_ne (Or.inl (C.w125)) (Or.inl (C.w123)) (by decide) (t := .boolean) (t' := .int) (by decide) (by decide)))
    replace E := E.keep K8
    replace V := V.keep K8 (ninS (Ne.symm hxt) nin0)
    replace FH : Fld Z hp7 x "java/lang/String" "hash" "I" (.int rh3) := Fn
    clear Wn Fn
    refine ok_iloadN G d_jdk_42_method_78_code_58 rfl ?_
    exact ok_retI G rfl d_jdk_42_method_78_code_59 ⟨_, rfl⟩ (Nat.le_of_ble_eq_true rfl) (Nat.le_of_ble_eq_true rfl)
  · skip
    refine ok_aloadN G d_jdk_42_method_78_code_45 rfl rfl ?_
    refine ok_iconst G (1 : Int32) d_jdk_42_method_78_code_46 rfl ?_
    refine ok_putF G (host := "") (Or.inl (C.w124)) Via.refl FZ E (Or.inl (C.w125)) (C.w10) (ty := .boolean) (by decide) rfl rfl d_jdk_42_method_78_code_47 g_x (Or.inl (List.mem_of_getElem? (i := 0) rfl)) SafeFor.narrow ?_
    intro hp9 K10 Wn Fn
    replace FC := FC.other Wn (Or.inr (slot_ne (Or.inr (C.w25)) (Or.inl (C.w125)) (by decide) (t := .byte) (t' := .boolean) (by decide) (by decide)))
    replace FV := FV.other Wn (Or.inr (slot_ne (Or.inr (C.w23)) (Or.inl (C.w125)) (by decide) (t := (.array .byte)) (t' := .boolean) (by decide) (by decide)))
    replace FH := FH.other Wn (Or.inr (slot_ne (Or.inl (C.w123)) (Or.inl (C.w125)) (by decide) (t := .int) (t' := .boolean) (by decide) (by decide)))
    replace E := E.keep K10
    replace V := V.keep K10 (ninS (Ne.symm hxt) nin0)
    replace FZ : Fld Z hp9 x "java/lang/String" "hashIsZero" "Z" (.int (1 : Int32)) := Fn
    clear Wn Fn
    refine ok_goto G 58 d_jdk_42_method_78_code_50 (by decide) (by decide) ?_
    refine ok_iloadN G d_jdk_42_method_78_code_58 rfl ?_
    exact ok_retI G rfl d_jdk_42_method_78_code_59 ⟨_, rfl⟩ (Nat.le_of_ble_eq_true rfl) (Nat.le_of_ble_eq_true rfl)
theorem d_prog_46_method_1_code_0 : decode prog_46_method_1_code 0 = .ok (.aload_n 0, 1) := by decide +kernel
theorem d_prog_46_method_1_code_1 : decode prog_46_method_1_code 1 = .ok (.invokespecial 1, 3) := by decide +kernel
theorem d_prog_46_method_1_code_4 : decode prog_46_method_1_code 4 = .ok (.aload_n 0, 1) := by decide +kernel
theorem d_prog_46_method_1_code_5 : decode prog_46_method_1_code 5 = .ok (.aload_n 1, 1) := by decide +kernel
theorem d_prog_46_method_1_code_6 : decode prog_46_method_1_code 6 = .ok (.ldc 7, 2) := by decide +kernel
theorem d_prog_46_method_1_code_8 : decode prog_46_method_1_code 8 = .ok (.invokestatic 9, 3) := by decide +kernel
theorem pd8 : parseMethodDescriptor "(Ljava/lang/Object;Ljava/lang/String;)Ljava/lang/Object;" = some ⟨[(.object "java/lang/Object"), (.object "java/lang/String")], some (.object "java/lang/Object")⟩ := by decide +kernel
theorem d_prog_46_method_1_code_11 : decode prog_46_method_1_code 11 = .ok (.checkcast 15, 3) := by decide +kernel
theorem d_prog_46_method_1_code_14 : decode prog_46_method_1_code 14 = .ok (.putfield 17, 3) := by decide +kernel
theorem d_prog_46_method_1_code_17 : decode prog_46_method_1_code 17 = .ok (.aload_n 0, 1) := by decide +kernel
theorem d_prog_46_method_1_code_18 : decode prog_46_method_1_code 18 = .ok (.aload_n 2, 1) := by decide +kernel
theorem d_prog_46_method_1_code_19 : decode prog_46_method_1_code 19 = .ok (.invokestatic 22, 3) := by decide +kernel
theorem d_prog_46_method_1_code_22 : decode prog_46_method_1_code 22 = .ok (.putfield 28, 3) := by decide +kernel
theorem d_prog_46_method_1_code_25 : decode prog_46_method_1_code 25 = .ok (.iconst 1, 1) := by decide +kernel
theorem d_prog_46_method_1_code_26 : decode prog_46_method_1_code 26 = .ok (.istore_n 3, 1) := by decide +kernel
theorem d_prog_46_method_1_code_27 : decode prog_46_method_1_code 27 = .ok (.aload_n 0, 1) := by decide +kernel
theorem d_prog_46_method_1_code_28 : decode prog_46_method_1_code 28 = .ok (.getfield 28, 3) := by decide +kernel
theorem d_prog_46_method_1_code_31 : decode prog_46_method_1_code 31 = .ok (.invokeinterface 32 1, 5) := by decide +kernel
theorem pd9 : parseMethodDescriptor "()Ljava/util/Iterator;" = some ⟨[], some (.object "java/util/Iterator")⟩ := by decide +kernel
theorem d_prog_46_method_1_code_36 : decode prog_46_method_1_code 36 = .ok (.astore 4, 2) := by decide +kernel
theorem d_prog_46_method_1_code_38 : decode prog_46_method_1_code 38 = .ok (.aload 4, 2) := by decide +kernel
theorem d_prog_46_method_1_code_40 : decode prog_46_method_1_code 40 = .ok (.invokeinterface 36 1, 5) := by decide +kernel
theorem d_prog_46_method_1_code_45 : decode prog_46_method_1_code 45 = .ok (.ifCond .eq 28, 3) := by decide +kernel
theorem d_prog_46_method_1_code_73 : decode prog_46_method_1_code 73 = .ok (.aload_n 0, 1) := by decide +kernel
theorem d_prog_46_method_1_code_74 : decode prog_46_method_1_code 74 = .ok (.iload_n 3, 1) := by decide +kernel
theorem d_prog_46_method_1_code_75 : decode prog_46_method_1_code 75 = .ok (.putfield 52, 3) := by decide +kernel
theorem d_prog_46_method_1_code_78 : decode prog_46_method_1_code 78 = .ok (.aload_n 0, 1) := by decide +kernel
theorem d_prog_46_method_1_code_79 : decode prog_46_method_1_code 79 = .ok (.bipush 31, 2) := by decide +kernel
theorem d_prog_46_method_1_code_81 : decode prog_46_method_1_code 81 = .ok (.aload_n 1, 1) := by decide +kernel
theorem d_prog_46_method_1_code_82 : decode prog_46_method_1_code 82 = .ok (.invokevirtual 55, 3) := by decide +kernel
theorem d_prog_46_method_1_code_85 : decode prog_46_method_1_code 85 = .ok (.imul, 1) := by decide +kernel
theorem d_prog_46_method_1_code_86 : decode prog_46_method_1_code 86 = .ok (.aload_n 0, 1) := by decide +kernel
theorem d_prog_46_method_1_code_87 : decode prog_46_method_1_code 87 = .ok (.getfield 28, 3) := by decide +kernel
theorem d_prog_46_method_1_code_90 : decode prog_46_method_1_code 90 = .ok (.invokeinterface 58 1, 5) := by decide +kernel
theorem d_prog_46_method_1_code_95 : decode prog_46_method_1_code 95 = .ok (.iadd, 1) := by decide +kernel
theorem d_prog_46_method_1_code_96 : decode prog_46_method_1_code 96 = .ok (.putfield 59, 3) := by decide +kernel
theorem d_prog_46_method_1_code_99 : decode prog_46_method_1_code 99 = .ok (.return_, 1) := by decide +kernel
def R_c_apini : Room := { frames := 3, cells := 3, slots := 32, locals := 39 }
theorem pl_b8 : plainFor (⟨"com/example/tiny_resolver/tinyresolver/term/Application", "<init>", "(Ljava/lang/String;Ljava/util/List;)V"⟩ : MethodName) = true := plainFor_of_name (by first | (simp [plainName, overriddenIn]; done) | decide +kernel)
set_option maxRecDepth 65536 in
set_option maxHeartbeats 40000000 in
theorem c_apini {l : Launch} {Z : State} {a0 : Array Value} {n0 : Nat} {h0 : Heap} (C : Cx Z a0) (hO : Old Z n0 h0) (hE : EW Z a0 []) {x r t le ea : Addr} {ch : Int32} (E : Exa Z h0 x "com/example/tiny_resolver/tinyresolver/term/Application") (F_symbol : Fld Z h0 x "com/example/tiny_resolver/tinyresolver/term/Application" "symbol" "Ljava/lang/String;" .null) (F_arguments : Fld Z h0 x "com/example/tiny_resolver/tinyresolver/term/Application" "arguments" "Ljava/util/List;" .null) (F_size : Fld Z h0 x "com/example/tiny_resolver/tinyresolver/term/Application" "size" "I" (.int (0 : Int32))) (F_hash : Fld Z h0 x "com/example/tiny_resolver/tinyresolver/term/Application" "hash" "I" (.int (0 : Int32))) (g_x : n0 ≤ x) (S : LStr Z h0 r t [ch]) (FH_r : Fld Z h0 r "java/lang/String" "hash" "I" (.int (0 : Int32))) (FZ_r : Fld Z h0 r "java/lang/String" "hashIsZero" "Z" (.int (0 : Int32))) (g_r : n0 ≤ r) (HL : Lst Z le ea) :
    Con true l Z [] n0 (⟨"com/example/tiny_resolver/tinyresolver/term/Application", "<init>", "(Ljava/lang/String;Ljava/util/List;)V"⟩ : MethodName) prog_46_method_1_code 6 none R_c_apini #[(.ref x), (.ref r), (.ref le)] h0 [x, r] (fun v h => v = none) := by
  refine Con.intro (a0 := a0) pl_b8 hO (fun _ => hE) ?_
  intro p e s m below meth c G
  refine ok_as (mkF m 0 #[.val (.ref x), .val (.ref r), .val (.ref le), .unset, .unset, .unset] []) (by first | rfl | (simp [entryFrame, mkF, argsToLocals, Value.category]; done)) ?_
  obtain ⟨sL, E0, FE0, FA0, L0⟩ := id HL
  have EL_ := E0.ext hO.2
  have FE_ := FE0.ext hO.2
  have FA_ := FA0.ext hO.2
  have LE_ := L0.ext hO.2
  have hrx : r ≠ x := ne_exa S.exa E (by decide)
  have hxt : x ≠ t := S.neT E (C.w31)
  have hrt : r ≠ t := S.neT S.exa (C.w10)
  refine ok_aloadN G d_prog_46_method_1_code_0 rfl rfl ?_
  refine ok_initO G (C.w41) (C.w20) (C.w21) rfl d_prog_46_method_1_code_1 (Nat.le_of_ble_eq_true rfl) (Nat.le_of_ble_eq_true rfl) ?_
  refine ok_aloadN G d_prog_46_method_1_code_4 rfl rfl ?_
  refine ok_aloadN G d_prog_46_method_1_code_5 rfl rfl ?_
  refine ok_ldcO G rfl (C.w42) C.strs d_prog_46_method_1_code_6 24 (by decide +kernel) (by decide) (Nat.le_of_ble_eq_true rfl) (Nat.le_of_ble_eq_true rfl) ?_
  intro yl3 hp1 K2
  replace E := E.keep K2
  replace F_symbol := F_symbol.keep K2 nin0
  replace F_arguments := F_arguments.keep K2 nin0
  replace F_size := F_size.keep K2 nin0
  replace F_hash := F_hash.keep K2 nin0
  replace S := S.keep K2 nin0 nin0
  replace FH_r := FH_r.keep K2 nin0
  replace FZ_r := FZ_r.keep K2 nin0
  replace EL_ := EL_.keep K2
  replace FE_ := FE_.keep K2 nin0
  replace FA_ := FA_.keep K2 nin0
  replace LE_ := LE_.keep K2 nin0
  refine ok_old (fun hO_hp1 => ?_)
  refine ok_static G (argsL := [(.ref r), (.ref yl3)]) (rest := [(.ref x)]) (C.w45) (C.w46) (C.w47) (C.w48) (by decide) pd8 (c_rnn C hO_hp1) rfl rfl rfl d_prog_46_method_1_code_8 (Nat.le_of_ble_eq_true rfl) (Nat.le_of_ble_eq_true rfl) (Nat.le_of_ble_eq_true rfl) (Nat.le_of_ble_eq_true rfl) (fun _ q => nomatch q) ?_
  rintro _ _ _ ⟨rfl, rfl⟩
  refine ok_as (mkF m 11 #[.val (.ref x), .val (.ref r), .val (.ref le), .unset, .unset, .unset] [(.ref r), (.ref x)]) rfl ?_
  refine ok_checkcast G (C.w49) (Ins.self S.exa) d_prog_46_method_1_code_11 ?_
  refine ok_putF G (host := "") (Or.inl (C.w50)) Via.refl F_symbol E (Or.inr ⟨(C.w51), rfl, rfl⟩) (C.w31) (ty := (.object "java/lang/String")) (by decide) rfl rfl d_prog_46_method_1_code_14 g_x (Or.inl (List.mem_of_getElem? (i := 0) rfl)) SafeFor.nil ?_
  intro hp6 K7 Wn Fn
  replace F_arguments := F_arguments.other Wn (Or.inr (slot_ne (Or.inr (C.w71)) (Or.inr (C.w51)) (by decide) (t := (.object "java/util/List")) (t' := (.object "java/lang/String")) (by decide) (by decide)))
  replace F_size := F_size.other Wn (Or.inr (slot_ne (Or.inr (C.w116)) (Or.inr (C.w51)) (by decide) (t := .int) (t' := (.object "java/lang/String")) (by decide) (by decide)))
  replace F_hash := F_hash.other Wn (Or.inr (slot_ne (Or.inr (C.w143)) (Or.inr (C.w51)) (by decide) (t := .int) (t' := (.object "java/lang/String")) (by decide) (by decide)))
  replace E := E.keep K7
  replace S := S.keep K7 (ninS hrx nin0) (ninS (Ne.symm hxt) nin0)
  replace FH_r := FH_r.keep K7 (ninS hrx nin0)
  replace FZ_r := FZ_r.keep K7 (ninS hrx nin0)
  replace EL_ := EL_.keep K7
  replace FE_ := FE_.keep K7 (ninS (hO.ne E0.lt g_x) nin0)
  replace FA_ := FA_.keep K7 (ninS (hO.ne E0.lt g_x) nin0)
  replace LE_ := LE_.keep K7 (ninS (hO.ne L0.lt g_x) nin0)
  replace F_symbol : Fld Z hp6 x "com/example/tiny_resolver/tinyresolver/term/Application" "symbol" "Ljava/lang/String;" (.ref r) := Fn
  clear Wn Fn
  refine ok_aloadN G d_prog_46_method_1_code_17 rfl rfl ?_
  refine ok_aloadN G d_prog_46_method_1_code_18 rfl rfl ?_
  refine ok_old (fun hO_hp6 => ?_)
  refine ok_static G (argsL := [(.ref le)]) (rest := [(.ref x)]) (C.w52) (C.w53) (C.w34) (C.w54) (by decide) pd3 (c_copyOf C hO_hp6 HL) rfl rfl rfl d_prog_46_method_1_code_19 (Nat.le_of_ble_eq_true rfl) (Nat.le_of_ble_eq_true rfl) (Nat.le_of_ble_eq_true rfl) (Nat.le_of_ble_eq_true rfl) (fun _ q => nomatch q) ?_
  rintro _ _ _ ⟨rfl, rfl⟩
  refine ok_as (mkF m 22 #[.val (.ref x), .val (.ref r), .val (.ref le), .unset, .unset, .unset] [(.ref le), (.ref x)]) rfl ?_
  refine ok_putF G (host := "") (Or.inl (C.w70)) Via.refl F_arguments E (Or.inr ⟨(C.w71), rfl, rfl⟩) (C.w31) (ty := (.object "java/util/List")) (by decide) rfl rfl d_prog_46_method_1_code_22 g_x (Or.inl (List.mem_of_getElem? (i := 0) rfl)) SafeFor.nil ?_
  intro hp10 K11 Wn Fn
  replace F_symbol := F_symbol.other Wn (Or.inr (slot_ne (Or.inr (C.w51)) (Or.inr (C.w71)) (by decide) (t := (.object "java/lang/String")) (t' := (.object "java/util/List")) (by decide) (by decide)))
  replace F_size := F_size.other Wn (Or.inr (slot_ne (Or.inr (C.w116)) (Or.inr (C.w71)) (by decide) (t := .int) (t' := (.object "java/util/List")) (by decide) (by decide)))
  replace F_hash := F_hash.other Wn (Or.inr (slot_ne (Or.inr (C.w143)) (Or.inr (C.w71)) (by decide) (t := .int) (t' := (.object "java/util/List")) (by decide) (by decide)))
  replace E := E.keep K11
  replace S := S.keep K11 (ninS hrx nin0) (ninS (Ne.symm hxt) nin0)
  replace FH_r := FH_r.keep K11 (ninS hrx nin0)
  replace FZ_r := FZ_r.keep K11 (ninS hrx nin0)
  replace EL_ := EL_.keep K11
  replace FE_ := FE_.keep K11 (ninS (hO.ne E0.lt g_x) nin0)
  replace FA_ := FA_.keep K11 (ninS (hO.ne E0.lt g_x) nin0)
  replace LE_ := LE_.keep K11 (ninS (hO.ne L0.lt g_x) nin0)
  replace F_arguments : Fld Z hp10 x "com/example/tiny_resolver/tinyresolver/term/Application" "arguments" "Ljava/util/List;" (.ref le) := Fn
  clear Wn Fn
  refine ok_iconst G (1 : Int32) d_prog_46_method_1_code_25 rfl ?_
  refine ok_istoreN G #[.val (.ref x), .val (.ref r), .val (.ref le), .val (.int (1 : Int32)), .unset, .unset] d_prog_46_method_1_code_26 rfl ?_
  refine ok_aloadN G d_prog_46_method_1_code_27 rfl rfl ?_
  refine ok_getF G (host := "") (Or.inl (C.w70)) Via.refl F_arguments d_prog_46_method_1_code_28 ?_
  refine ok_old (fun hO_hp10 => ?_)
  refine ok_keep (fun hKp_hp10 => ?_)
  refine ok_interface G (a := le) (y0 := (⟨"java/util/List", "iterator", "()Ljava/util/Iterator;"⟩ : MethodName)) (y := (⟨"java/util/ImmutableCollections$AbstractImmutableList", "iterator", "()Ljava/util/Iterator;"⟩ : MethodName)) (argsL := []) (rest := []) EL_ (C.w72) (C.w73) (C.w74) (by first | rfl | decide +kernel) (C.w75) (C.w76) (C.w77) (C.w78) (C.w69) (C.w79) (C.w80) (by decide) pd9 (c_iter C hO_hp10 HL) rfl rfl rfl d_prog_46_method_1_code_31 (Nat.le_of_ble_eq_true rfl) (Nat.le_of_ble_eq_true rfl) (Nat.le_of_ble_eq_true rfl) (Nat.le_of_ble_eq_true rfl) (fun _ q => nomatch q) ?_
  rintro _ hp13 K14 ⟨xr12, rfl, lbq_xr12, E_xr12, FS_xr12, FU_xr12⟩
  have lbh_xr12 := lbq_xr12
  have ne_x_xr12 : x ≠ xr12 := Nat.ne_of_lt (Nat.lt_of_lt_of_le E.lt lbh_xr12)
  have ne_r_xr12 : r ≠ xr12 := Nat.ne_of_lt (Nat.lt_of_lt_of_le S.lt lbh_xr12)
  have ne_t_xr12 : t ≠ xr12 := Nat.ne_of_lt (Nat.lt_of_lt_of_le S.ltT lbh_xr12)
  have ne_le_xr12 : le ≠ xr12 := Nat.ne_of_lt (Nat.lt_of_lt_of_le EL_.lt lbh_xr12)
  have ne_ea_xr12 : ea ≠ xr12 := Nat.ne_of_lt (Nat.lt_of_lt_of_le LE_.lt lbh_xr12)
  have lb_xr12 : h0.size ≤ xr12 := Nat.le_trans hKp_hp10.1 lbh_xr12
  have g_xr12 : n0 ≤ xr12 := Nat.le_trans (old_le hO_hp10) lbh_xr12
  replace E := E.keep K14
  replace F_symbol := F_symbol.keep K14 nin0
  replace F_arguments := F_arguments.keep K14 nin0
  replace F_size := F_size.keep K14 nin0
  replace F_hash := F_hash.keep K14 nin0
  replace S := S.keep K14 nin0 nin0
  replace FH_r := FH_r.keep K14 nin0
  replace FZ_r := FZ_r.keep K14 nin0
  replace EL_ := EL_.keep K14
  replace FE_ := FE_.keep K14 nin0
  replace FA_ := FA_.keep K14 nin0
  replace LE_ := LE_.keep K14 nin0
  refine ok_as (mkF m 36 #[.val (.ref x), .val (.ref r), .val (.ref le), .val (.int (1 : Int32)), .unset, .unset] [(.ref xr12)]) rfl ?_
  refine ok_astore G #[.val (.ref x), .val (.ref r), .val (.ref le), .val (.int (1 : Int32)), .val (.ref xr12), .unset] d_prog_46_method_1_code_36 rfl rfl ?_
  refine ok_aload G d_prog_46_method_1_code_38 rfl rfl ?_
  refine ok_old (fun hO_hp13 => ?_)
  refine ok_interface G (a := xr12) (y0 := (⟨"java/util/Iterator", "hasNext", "()Z"⟩ : MethodName)) (y := (⟨"java/util/ImmutableCollections$ListItr", "hasNext", "()Z"⟩ : MethodName)) (argsL := []) (rest := []) E_xr12 (C.w106) (C.w107) (C.w108) (by first | rfl | decide +kernel) (C.w109) (C.w110) (C.w111) (C.w112) (C.w113) (C.w83) (C.w114) (by decide) pd6 (c_hasn C hO_hp13 FS_xr12 FU_xr12) rfl rfl rfl d_prog_46_method_1_code_40 (Nat.le_of_ble_eq_true rfl) (Nat.le_of_ble_eq_true rfl) (Nat.le_of_ble_eq_true rfl) (Nat.le_of_ble_eq_true rfl) (fun _ q => nomatch q) ?_
  rintro _ _ _ ⟨rfl, rfl⟩
  refine ok_as (mkF m 45 #[.val (.ref x), .val (.ref r), .val (.ref le), .val (.int (1 : Int32)), .val (.ref xr12), .unset] [(.int (0 : Int32))]) rfl ?_
  refine ok_ifeqY G 73 d_prog_46_method_1_code_45 (by decide) (by decide) (by decide) ?_
  refine ok_aloadN G d_prog_46_method_1_code_73 rfl rfl ?_
  refine ok_iloadN G d_prog_46_method_1_code_74 rfl ?_
  refine ok_putF G (host := "") (Or.inl (C.w115)) Via.refl F_size E (Or.inr ⟨(C.w116), rfl, rfl⟩) (C.w31) (ty := .int) (by decide) rfl rfl d_prog_46_method_1_code_75 g_x (Or.inl (List.mem_of_getElem? (i := 0) rfl)) SafeFor.nil ?_
  intro hp17 K18 Wn Fn
  replace F_symbol := F_symbol.other Wn (Or.inr (slot_ne (Or.inr (C.w51)) (Or.inr (C.w116)) (by decide) (t := (.object "java/lang/String")) (t' := .int) (by decide) (by decide)))
  replace F_arguments := F_arguments.other Wn (Or.inr (slot_ne (Or.inr (C.w71)) (Or.inr (C.w116)) (by decide) (t := (.object "java/util/List")) (t' := .int) (by decide) (by decide)))
  replace F_hash := F_hash.other Wn (Or.inr (slot_ne (Or.inr (C.w143)) (Or.inr (C.w116)) (by decide) (t := .int) (t' := .int) (by decide) (by decide)))
  replace E := E.keep K18
  replace S := S.keep K18 (ninS hrx nin0) (ninS (Ne.symm hxt) nin0)
  replace FH_r := FH_r.keep K18 (ninS hrx nin0)
  replace FZ_r := FZ_r.keep K18 (ninS hrx nin0)
  replace EL_ := EL_.keep K18
  replace FE_ := FE_.keep K18 (ninS (hO.ne E0.lt g_x) nin0)
  replace FA_ := FA_.keep K18 (ninS (hO.ne E0.lt g_x) nin0)
  replace LE_ := LE_.keep K18 (ninS (hO.ne L0.lt g_x) nin0)
  replace E_xr12 := E_xr12.keep K18
  replace FS_xr12 := FS_xr12.keep K18 (ninS (Ne.symm ne_x_xr12) nin0)
  replace FU_xr12 := FU_xr12.keep K18 (ninS (Ne.symm ne_x_xr12) nin0)
  replace F_size : Fld Z hp17 x "com/example/tiny_resolver/tinyresolver/term/Application" "size" "I" (.int (1 : Int32)) := Fn
  clear Wn Fn
  refine ok_aloadN G d_prog_46_method_1_code_78 rfl rfl ?_
  refine ok_bipush G (31 : Int32) d_prog_46_method_1_code_79 rfl ?_
  refine ok_aloadN G d_prog_46_method_1_code_81 rfl rfl ?_
  refine ok_old (fun hO_hp17 => ?_)
  refine ok_virtual G (a := r) (y0 := (⟨"java/lang/String", "hashCode", "()I"⟩ : MethodName)) (y := (⟨"java/lang/String", "hashCode", "()I"⟩ : MethodName)) (argsL := []) (rest := [(.int (31 : Int32)), (.ref x)]) S.exa (C.w117) (C.w118) (C.w120) (fun vm hZ => notFace_of_selects (args := #[]) (mvT (s := s.setVm vm) hZ (C.w120))) (C.w119) (C.w2) (C.w121) (by decide) pd4 (c_shash C hO_hp17 S FH_r FZ_r g_r) rfl rfl rfl d_prog_46_method_1_code_82 (Nat.le_of_ble_eq_true rfl) (Nat.le_of_ble_eq_true rfl) (Nat.le_of_ble_eq_true rfl) (Nat.le_of_ble_eq_true rfl) (allS ⟨(Or.inl (List.mem_of_getElem? (i := 1) rfl)), SafeFor.nil⟩ (fun _ q => nomatch q)) ?_
  rintro _ hp20 K21 ⟨rh19, rfl⟩
  replace E := E.keep K21
  replace F_symbol := F_symbol.keep K21 (ninS (Ne.symm hrx) nin0)
  replace F_arguments := F_arguments.keep K21 (ninS (Ne.symm hrx) nin0)
  replace F_size := F_size.keep K21 (ninS (Ne.symm hrx) nin0)
  replace F_hash := F_hash.keep K21 (ninS (Ne.symm hrx) nin0)
  replace EL_ := EL_.keep K21
  replace FE_ := FE_.keep K21 (ninS (hO.ne E0.lt g_r) nin0)
  replace FA_ := FA_.keep K21 (ninS (hO.ne E0.lt g_r) nin0)
  replace LE_ := LE_.keep K21 (ninS (hO.ne L0.lt g_r) nin0)
  replace E_xr12 := E_xr12.keep K21
  replace FS_xr12 := FS_xr12.keep K21 (ninS (Ne.symm ne_r_xr12) nin0)
  replace FU_xr12 := FU_xr12.keep K21 (ninS (Ne.symm ne_r_xr12) nin0)
  refine ok_as (mkF m 85 #[.val (.ref x), .val (.ref r), .val (.ref le), .val (.int (1 : Int32)), .val (.ref xr12), .unset] [(.int rh19), (.int (31 : Int32)), (.ref x)]) rfl ?_
  refine ok_imul G d_prog_46_method_1_code_85 ?_
  refine ok_aloadN G d_prog_46_method_1_code_86 rfl rfl ?_
  refine ok_getF G (host := "") (Or.inl (C.w70)) Via.refl F_arguments d_prog_46_method_1_code_87 ?_
  refine ok_old (fun hO_hp20 => ?_)
  refine ok_interface G (a := le) (y0 := (⟨"java/util/List", "hashCode", "()I"⟩ : MethodName)) (y := (⟨"java/util/ImmutableCollections$AbstractImmutableList", "hashCode", "()I"⟩ : MethodName)) (argsL := []) (rest := [(.int ((31 : Int32) * rh19)), (.ref x)]) EL_ (C.w134) (C.w135) (C.w136) (by first | rfl | decide +kernel) (C.w137) (C.w138) (C.w139) (C.w140) (C.w69) (C.w79) (C.w141) (by decide) pd4 (c_ailhash C hO_hp20 HL) rfl rfl rfl d_prog_46_method_1_code_90 (Nat.le_of_ble_eq_true rfl) (Nat.le_of_ble_eq_true rfl) (Nat.le_of_ble_eq_true rfl) (Nat.le_of_ble_eq_true rfl) (fun _ q => nomatch q) ?_
  rintro _ _ _ ⟨rfl, rfl⟩
  refine ok_as (mkF m 95 #[.val (.ref x), .val (.ref r), .val (.ref le), .val (.int (1 : Int32)), .val (.ref xr12), .unset] [(.int (1 : Int32)), (.int ((31 : Int32) * rh19)), (.ref x)]) rfl ?_
  refine ok_iadd G d_prog_46_method_1_code_95 ?_
  refine ok_putF G (host := "") (Or.inl (C.w142)) Via.refl F_hash E (Or.inr ⟨(C.w143), rfl, rfl⟩) (C.w31) (ty := .int) (by decide) rfl rfl d_prog_46_method_1_code_96 g_x (Or.inl (List.mem_of_getElem? (i := 0) rfl)) SafeFor.nil ?_
  intro hp24 K25 Wn Fn
  replace F_symbol := F_symbol.other Wn (Or.inr (slot_ne (Or.inr (C.w51)) (Or.inr (C.w143)) (by decide) (t := (.object "java/lang/String")) (t' := .int) (by decide) (by decide)))
  replace F_arguments := F_arguments.other Wn (Or.inr (slot_ne (Or.inr (C.w71)) (Or.inr (C.w143)) (by decide) (t := (.object "java/util/List")) (t' := .int) (by decide) (by decide)))
  replace F_size := F_size.other Wn (Or.inr (slot_ne (Or.inr (C.w116)) (Or.inr (C.w143)) (by decide) (t := .int) (t' := .int) (by decide) (by decide)))
  replace E := E.keep K25
  replace EL_ := EL_.keep K25
  replace FE_ := FE_.keep K25 (ninS (hO.ne E0.lt g_x) nin0)
  replace FA_ := FA_.keep K25 (ninS (hO.ne E0.lt g_x) nin0)
  replace LE_ := LE_.keep K25 (ninS (hO.ne L0.lt g_x) nin0)
  replace E_xr12 := E_xr12.keep K25
  replace FS_xr12 := FS_xr12.keep K25 (ninS (Ne.symm ne_x_xr12) nin0)
  replace FU_xr12 := FU_xr12.keep K25 (ninS (Ne.symm ne_x_xr12) nin0)
  replace F_hash : Fld Z hp24 x "com/example/tiny_resolver/tinyresolver/term/Application" "hash" "I" (.int (((31 : Int32) * rh19) + (1 : Int32))) := Fn
  clear Wn Fn
  exact ok_return G rfl d_prog_46_method_1_code_99 rfl (Nat.le_of_ble_eq_true rfl) (Nat.le_of_ble_eq_true rfl)
theorem d_prog_46_method_2_code_0 : decode prog_46_method_2_code 0 = .ok (.new 18, 3) := by decide +kernel
theorem d_prog_46_method_2_code_3 : decode prog_46_method_2_code 3 = .ok (.dup, 1) := by decide +kernel
theorem d_prog_46_method_2_code_4 : decode prog_46_method_2_code 4 = .ok (.aload_n 0, 1) := by decide +kernel
theorem d_prog_46_method_2_code_5 : decode prog_46_method_2_code 5 = .ok (.invokestatic 62, 3) := by decide +kernel
theorem pd10 : parseMethodDescriptor "()Ljava/util/List;" = some ⟨[], some (.object "java/util/List")⟩ := by decide +kernel
theorem d_prog_46_method_2_code_8 : decode prog_46_method_2_code 8 = .ok (.invokespecial 66, 3) := by decide +kernel
theorem pd11 : parseMethodDescriptor "(Ljava/lang/String;Ljava/util/List;)V" = some ⟨[(.object "java/lang/String"), (.object "java/util/List")], none⟩ := by decide +kernel
theorem d_prog_46_method_2_code_11 : decode prog_46_method_2_code 11 = .ok (.areturn, 1) := by decide +kernel
def R_c_const : Room := { frames := 4, cells := 4, slots := 36, locals := 57 }
theorem pl_b6 : plainFor (⟨"com/example/tiny_resolver/tinyresolver/term/Application", "constant", "(Ljava/lang/String;)Lcom/example/tiny_resolver/tinyresolver/term/Application;"⟩ : MethodName) = true := plainFor_of_name (by first | (simp [plainName, overriddenIn]; done) | decide +kernel)
set_option maxRecDepth 65536 in
set_option maxHeartbeats 40000000 in
theorem c_const {l : Launch} {Z : State} {a0 : Array Value} {n0 : Nat} {h0 : Heap} (C : Cx Z a0) (hO : Old Z n0 h0) (hE : EW Z a0 []) {r t le ea : Addr} {ch : Int32} (S : LStr Z h0 r t [ch]) (FH_r : Fld Z h0 r "java/lang/String" "hash" "I" (.int (0 : Int32))) (FZ_r : Fld Z h0 r "java/lang/String" "hashIsZero" "Z" (.int (0 : Int32))) (g_r : n0 ≤ r) (HL : Lst Z le ea) :
    Con true l Z [] n0 (⟨"com/example/tiny_resolver/tinyresolver/term/Application", "constant", "(Ljava/lang/String;)Lcom/example/tiny_resolver/tinyresolver/term/Application;"⟩ : MethodName) prog_46_method_2_code 1 (some (.object "com/example/tiny_resolver/tinyresolver/term/Application")) R_c_const #[(.ref r)] h0 [r] (fun v h => ∃ x, v = some (.ref x)) := by
  refine Con.intro (a0 := a0) pl_b6 hO (fun _ => hE) ?_
  intro p e s m below meth c G
  refine ok_as (mkF m 0 #[.val (.ref r)] []) (by first | rfl | (simp [entryFrame, mkF, argsToLocals, Value.category]; done)) ?_
  refine ok_new G (C.w30) (C.w31) (C.w28) d_prog_46_method_2_code_0 (Nat.le_of_ble_eq_true rfl) (Nat.le_of_ble_eq_true rfl) ?_
  intro hp2 ob1 eq_ob1 K3 g_ob1 lb_ob1 E_ob1 D_ob1
  have ne_r_ob1 : r ≠ ob1 := Nat.ne_of_lt (Nat.lt_of_lt_of_le S.lt (Nat.le_of_eq eq_ob1.symm))
  have ne_t_ob1 : t ≠ ob1 := Nat.ne_of_lt (Nat.lt_of_lt_of_le S.ltT (Nat.le_of_eq eq_ob1.symm))
  replace S := S.keep K3 nin0 nin0
  replace FH_r := FH_r.keep K3 nin0
  replace FZ_r := FZ_r.keep K3 nin0
  have F_ob1_symbol : Fld Z hp2 ob1 "com/example/tiny_resolver/tinyresolver/term/Application" "symbol" "Ljava/lang/String;" .null := D_ob1 _ _ _ (.object "java/lang/String") (Or.inr (C.w51)) (by decide)
  have F_ob1_arguments : Fld Z hp2 ob1 "com/example/tiny_resolver/tinyresolver/term/Application" "arguments" "Ljava/util/List;" .null := D_ob1 _ _ _ (.object "java/util/List") (Or.inr (C.w71)) (by decide)
  have F_ob1_size : Fld Z hp2 ob1 "com/example/tiny_resolver/tinyresolver/term/Application" "size" "I" (.int (0 : Int32)) := D_ob1 _ _ _ .int (Or.inr (C.w116)) (by decide)
  have F_ob1_hash : Fld Z hp2 ob1 "com/example/tiny_resolver/tinyresolver/term/Application" "hash" "I" (.int (0 : Int32)) := D_ob1 _ _ _ .int (Or.inr (C.w143)) (by decide)
  refine ok_dup G d_prog_46_method_2_code_3 rfl ?_
  refine ok_aloadN G d_prog_46_method_2_code_4 rfl rfl ?_
  refine ok_old (fun hO_hp2 => ?_)
  refine ok_static G (argsL := []) (rest := [(.ref r), (.ref ob1), (.ref ob1)]) (C.w32) (C.w33) (C.w34) (C.w35) (by decide) pd10 (c_lof C hO_hp2 HL) rfl rfl rfl d_prog_46_method_2_code_5 (Nat.le_of_ble_eq_true rfl) (Nat.le_of_ble_eq_true rfl) (Nat.le_of_ble_eq_true rfl) (Nat.le_of_ble_eq_true rfl) (fun _ q => nomatch q) ?_
  rintro _ _ _ ⟨rfl, rfl⟩
  refine ok_as (mkF m 8 #[.val (.ref r)] [(.ref le), (.ref r), (.ref ob1), (.ref ob1)]) rfl ?_
  refine ok_initW G (a := ob1) (argsL := [(.ref r), (.ref le)]) (rest := [(.ref ob1)]) rfl (C.w38) (C.w39) (C.w28) (C.w40) (by decide) pd11 (c_apini C hO_hp2 hE E_ob1 F_ob1_symbol F_ob1_arguments F_ob1_size F_ob1_hash g_ob1 S FH_r FZ_r g_r HL) rfl rfl rfl d_prog_46_method_2_code_8 (Nat.le_of_ble_eq_true rfl) (Nat.le_of_ble_eq_true rfl) (Nat.le_of_ble_eq_true rfl) (Nat.le_of_ble_eq_true rfl) rfl (allS (Or.inr lb_ob1) (allS (Or.inl (List.mem_of_getElem? (i := 0) rfl)) (fun _ q => nomatch q))) ?_
  rintro _ hp6 K7 ⟨rfl⟩
  replace E_ob1 := E_ob1.keep K7
  refine ok_as (mkF m 11 #[.val (.ref r)] [(.ref ob1)]) rfl ?_
  exact ok_retA G rfl rfl rfl d_prog_46_method_2_code_11 rfl ⟨_, rfl⟩ (Nat.le_of_ble_eq_true rfl) (Nat.le_of_ble_eq_true rfl)
theorem d_prog_13_method_1_code_0 : decode prog_13_method_1_code 0 = .ok (.aload_n 0, 1) := by decide +kernel
theorem d_prog_13_method_1_code_1 : decode prog_13_method_1_code 1 = .ok (.invokespecial 1, 3) := by decide +kernel
theorem pd12 : parseMethodDescriptor "()V" = some ⟨[], none⟩ := by decide +kernel
theorem d_prog_13_method_1_code_4 : decode prog_13_method_1_code 4 = .ok (.aload_n 2, 1) := by decide +kernel
theorem d_prog_13_method_1_code_5 : decode prog_13_method_1_code 5 = .ok (.ldc 7, 2) := by decide +kernel
theorem d_prog_13_method_1_code_7 : decode prog_13_method_1_code 7 = .ok (.invokestatic 9, 3) := by decide +kernel
theorem d_prog_13_method_1_code_10 : decode prog_13_method_1_code 10 = .ok (.pop, 1) := by decide +kernel
theorem d_prog_13_method_1_code_11 : decode prog_13_method_1_code 11 = .ok (.aload_n 0, 1) := by decide +kernel
theorem d_prog_13_method_1_code_12 : decode prog_13_method_1_code 12 = .ok (.iload_n 1, 1) := by decide +kernel
theorem d_prog_13_method_1_code_13 : decode prog_13_method_1_code 13 = .ok (.putfield 15, 3) := by decide +kernel
theorem d_prog_13_method_1_code_16 : decode prog_13_method_1_code 16 = .ok (.aload_n 0, 1) := by decide +kernel
theorem d_prog_13_method_1_code_17 : decode prog_13_method_1_code 17 = .ok (.aload_n 2, 1) := by decide +kernel
theorem d_prog_13_method_1_code_18 : decode prog_13_method_1_code 18 = .ok (.putfield 21, 3) := by decide +kernel
theorem d_prog_13_method_1_code_21 : decode prog_13_method_1_code 21 = .ok (.return_, 1) := by decide +kernel
def R_c_lini : Room := { frames := 2, cells := 2, slots := 20, locals := 24 }
theorem pl_b20 : plainFor (⟨"com/example/tiny_resolver/tinyresolver/clause/Literal", "<init>", "(ZLcom/example/tiny_resolver/tinyresolver/term/Application;)V"⟩ : MethodName) = true := plainFor_of_name (by first | (simp [plainName, overriddenIn]; done) | decide +kernel)
set_option maxRecDepth 65536 in
set_option maxHeartbeats 40000000 in
theorem c_lini {l : Launch} {Z : State} {a0 : Array Value} {n0 : Nat} {h0 : Heap} (C : Cx Z a0) (hO : Old Z n0 h0) (hE : EW Z a0 []) {x ap : Addr} {bv : Int32} (E : Exa Z h0 x "com/example/tiny_resolver/tinyresolver/clause/Literal") (FP : Fld Z h0 x "com/example/tiny_resolver/tinyresolver/clause/Literal" "positive" "Z" (.int (0 : Int32))) (FA : Fld Z h0 x "com/example/tiny_resolver/tinyresolver/clause/Literal" "atom" "Lcom/example/tiny_resolver/tinyresolver/term/Application;" .null) (g_x : n0 ≤ x) (hb01 : bv = 0 ∨ bv = 1) :
    Con true l Z [] n0 (⟨"com/example/tiny_resolver/tinyresolver/clause/Literal", "<init>", "(ZLcom/example/tiny_resolver/tinyresolver/term/Application;)V"⟩ : MethodName) prog_13_method_1_code 3 none R_c_lini #[(.ref x), (.int bv), (.ref ap)] h0 [x] (fun v h => v = none ∧ Fld Z h x "com/example/tiny_resolver/tinyresolver/clause/Literal" "positive" "Z" (.int bv) ∧ Fld Z h x "com/example/tiny_resolver/tinyresolver/clause/Literal" "atom" "Lcom/example/tiny_resolver/tinyresolver/term/Application;" (.ref ap)) := by
  refine Con.intro (a0 := a0) pl_b20 hO (fun _ => hE) ?_
  intro p e s m below meth c G
  refine ok_as (mkF m 0 #[.val (.ref x), .val (.int bv), .val (.ref ap)] []) (by first | rfl | (simp [entryFrame, mkF, argsToLocals, Value.category]; done)) ?_
  refine ok_aloadN G d_prog_13_method_1_code_0 rfl rfl ?_
  refine ok_init G (a := x) (argsL := []) (rest := []) rfl (C.w150) (C.w151) (C.w153) (C.w154) (by decide) pd12 (c_rec C hO) rfl rfl rfl d_prog_13_method_1_code_1 (Nat.le_of_ble_eq_true rfl) (Nat.le_of_ble_eq_true rfl) (Nat.le_of_ble_eq_true rfl) (Nat.le_of_ble_eq_true rfl) (fun _ q => nomatch q) ?_
  rintro _ _ _ ⟨rfl, rfl⟩
  refine ok_as (mkF m 4 #[.val (.ref x), .val (.int bv), .val (.ref ap)] []) rfl ?_
  refine ok_aloadN G d_prog_13_method_1_code_4 rfl rfl ?_
  refine ok_ldcO G rfl (C.w156) C.strs d_prog_13_method_1_code_5 16 (by decide +kernel) (by decide) (Nat.le_of_ble_eq_true rfl) (Nat.le_of_ble_eq_true rfl) ?_
  intro yl5 hp3 K4
  replace E := E.keep K4
  replace FP := FP.keep K4 nin0
  replace FA := FA.keep K4 nin0
  refine ok_old (fun hO_hp3 => ?_)
  refine ok_static G (argsL := [(.ref ap), (.ref yl5)]) (rest := []) (C.w157) (C.w46) (C.w47) (C.w48) (by decide) pd8 (c_rnn C hO_hp3) rfl rfl rfl d_prog_13_method_1_code_7 (Nat.le_of_ble_eq_true rfl) (Nat.le_of_ble_eq_true rfl) (Nat.le_of_ble_eq_true rfl) (Nat.le_of_ble_eq_true rfl) (fun _ q => nomatch q) ?_
  rintro _ _ _ ⟨rfl, rfl⟩
  refine ok_as (mkF m 10 #[.val (.ref x), .val (.int bv), .val (.ref ap)] [(.ref ap)]) rfl ?_
  refine ok_pop G d_prog_13_method_1_code_10 rfl ?_
  refine ok_aloadN G d_prog_13_method_1_code_11 rfl rfl ?_
  refine ok_iloadN G d_prog_13_method_1_code_12 rfl ?_
  refine ok_putF G (host := "") (Or.inl (C.w158)) Via.refl FP E (Or.inr ⟨(C.w159), rfl, rfl⟩) (C.w145) (ty := .boolean) (by decide) (own_bool hb01).1 (own_bool hb01).2 d_prog_13_method_1_code_13 g_x (Or.inl (List.mem_of_getElem? (i := 0) rfl)) SafeFor.nil ?_
  intro hp8 K9 Wn Fn
  replace FA := FA.other Wn (Or.inr (slot_ne (Or.inr (C.w161)) (Or.inr (C.w159)) (by decide) (t := (.object "com/example/tiny_resolver/tinyresolver/term/Application")) (t' := .boolean) (by decide) (by decide)))
  replace E := E.keep K9
  replace FP : Fld Z hp8 x "com/example/tiny_resolver/tinyresolver/clause/Literal" "positive" "Z" (.int bv) := Fn
  clear Wn Fn
  refine ok_aloadN G d_prog_13_method_1_code_16 rfl rfl ?_
  refine ok_aloadN G d_prog_13_method_1_code_17 rfl rfl ?_
  refine ok_putF G (host := "") (Or.inl (C.w160)) Via.refl FA E (Or.inr ⟨(C.w161), rfl, rfl⟩) (C.w145) (ty := (.object "com/example/tiny_resolver/tinyresolver/term/Application")) (by decide) rfl rfl d_prog_13_method_1_code_18 g_x (Or.inl (List.mem_of_getElem? (i := 0) rfl)) SafeFor.nil ?_
  intro hp10 K11 Wn Fn
  replace FP := FP.other Wn (Or.inr (slot_ne (Or.inr (C.w159)) (Or.inr (C.w161)) (by decide) (t := .boolean) (t' := (.object "com/example/tiny_resolver/tinyresolver/term/Application")) (by decide) (by decide)))
  replace E := E.keep K11
  replace FA : Fld Z hp10 x "com/example/tiny_resolver/tinyresolver/clause/Literal" "atom" "Lcom/example/tiny_resolver/tinyresolver/term/Application;" (.ref ap) := Fn
  clear Wn Fn
  exact ok_return G rfl d_prog_13_method_1_code_21 ⟨rfl, FP, FA⟩ (Nat.le_of_ble_eq_true rfl) (Nat.le_of_ble_eq_true rfl)
theorem d_prog_13_method_5_code_0 : decode prog_13_method_5_code 0 = .ok (.new 16, 3) := by decide +kernel
theorem d_prog_13_method_5_code_3 : decode prog_13_method_5_code 3 = .ok (.dup, 1) := by decide +kernel
theorem d_prog_13_method_5_code_4 : decode prog_13_method_5_code 4 = .ok (.aload_n 0, 1) := by decide +kernel
theorem d_prog_13_method_5_code_5 : decode prog_13_method_5_code 5 = .ok (.getfield 15, 3) := by decide +kernel
theorem d_prog_13_method_5_code_8 : decode prog_13_method_5_code 8 = .ok (.ifCond .ne 7, 3) := by decide +kernel
theorem d_prog_13_method_5_code_11 : decode prog_13_method_5_code 11 = .ok (.iconst 1, 1) := by decide +kernel
theorem d_prog_13_method_5_code_12 : decode prog_13_method_5_code 12 = .ok (.goto 4, 3) := by decide +kernel
theorem d_prog_13_method_5_code_16 : decode prog_13_method_5_code 16 = .ok (.aload_n 0, 1) := by decide +kernel
theorem d_prog_13_method_5_code_17 : decode prog_13_method_5_code 17 = .ok (.getfield 21, 3) := by decide +kernel
theorem d_prog_13_method_5_code_20 : decode prog_13_method_5_code 20 = .ok (.invokespecial 37, 3) := by decide +kernel
theorem pd13 : parseMethodDescriptor "(ZLcom/example/tiny_resolver/tinyresolver/term/Application;)V" = some ⟨[.boolean, (.object "com/example/tiny_resolver/tinyresolver/term/Application")], none⟩ := by decide +kernel
theorem d_prog_13_method_5_code_23 : decode prog_13_method_5_code 23 = .ok (.areturn, 1) := by decide +kernel
def R_c_neg0 : Room := { frames := 3, cells := 3, slots := 22, locals := 39 }
theorem pl_b22 : plainFor (⟨"com/example/tiny_resolver/tinyresolver/clause/Literal", "negated", "()Lcom/example/tiny_resolver/tinyresolver/clause/Literal;"⟩ : MethodName) = true := plainFor_of_name (by first | (simp [plainName, overriddenIn]; done) | decide +kernel)
set_option maxRecDepth 65536 in
set_option maxHeartbeats 40000000 in
theorem c_neg0 {l : Launch} {Z : State} {a0 : Array Value} {n0 : Nat} {h0 : Heap} (C : Cx Z a0) (hO : Old Z n0 h0) (hE : EW Z a0 []) {x ap : Addr} (FP : Fld Z h0 x "com/example/tiny_resolver/tinyresolver/clause/Literal" "positive" "Z" (.int (0 : Int32))) (FA : Fld Z h0 x "com/example/tiny_resolver/tinyresolver/clause/Literal" "atom" "Lcom/example/tiny_resolver/tinyresolver/term/Application;" (.ref ap)) :
    Con true l Z [] n0 (⟨"com/example/tiny_resolver/tinyresolver/clause/Literal", "negated", "()Lcom/example/tiny_resolver/tinyresolver/clause/Literal;"⟩ : MethodName) prog_13_method_5_code 1 (some (.object "com/example/tiny_resolver/tinyresolver/clause/Literal")) R_c_neg0 #[(.ref x)] h0 [] (fun v h => ∃ y, v = some (.ref y) ∧ h0.size ≤ y ∧ Exa Z h y "com/example/tiny_resolver/tinyresolver/clause/Literal" ∧ Fld Z h y "com/example/tiny_resolver/tinyresolver/clause/Literal" "positive" "Z" (.int (1 : Int32)) ∧ Fld Z h y "com/example/tiny_resolver/tinyresolver/clause/Literal" "atom" "Lcom/example/tiny_resolver/tinyresolver/term/Application;" (.ref ap)) := by
  refine Con.intro (a0 := a0) pl_b22 hO (fun _ => hE) ?_
  intro p e s m below meth c G
  refine ok_as (mkF m 0 #[.val (.ref x)] []) (by first | rfl | (simp [entryFrame, mkF, argsToLocals, Value.category]; done)) ?_
  refine ok_new G (C.w167) (C.w145) (C.w146) d_prog_13_method_5_code_0 (Nat.le_of_ble_eq_true rfl) (Nat.le_of_ble_eq_true rfl) ?_
  intro hp2 ob1 eq_ob1 K3 g_ob1 lb_ob1 E_ob1 D_ob1
  have ne_x_ob1 : x ≠ ob1 := Nat.ne_of_lt (Nat.lt_of_lt_of_le FP.lt (Nat.le_of_eq eq_ob1.symm))
  replace FP := FP.keep K3 nin0
  replace FA := FA.keep K3 nin0
  have F_ob1_positive : Fld Z hp2 ob1 "com/example/tiny_resolver/tinyresolver/clause/Literal" "positive" "Z" (.int (0 : Int32)) := D_ob1 _ _ _ .boolean (Or.inr (C.w159)) (by decide)
  have F_ob1_atom : Fld Z hp2 ob1 "com/example/tiny_resolver/tinyresolver/clause/Literal" "atom" "Lcom/example/tiny_resolver/tinyresolver/term/Application;" .null := D_ob1 _ _ _ (.object "com/example/tiny_resolver/tinyresolver/term/Application") (Or.inr (C.w161)) (by decide)
  refine ok_dup G d_prog_13_method_5_code_3 rfl ?_
  refine ok_aloadN G d_prog_13_method_5_code_4 rfl rfl ?_
  refine ok_getF G (host := "") (Or.inl (C.w158)) Via.refl FP d_prog_13_method_5_code_5 ?_
  refine ok_ifneN G d_prog_13_method_5_code_8 (by decide) ?_
  refine ok_iconst G (1 : Int32) d_prog_13_method_5_code_11 rfl ?_
  refine ok_goto G 16 d_prog_13_method_5_code_12 (by decide) (by decide) ?_
  refine ok_aloadN G d_prog_13_method_5_code_16 rfl rfl ?_
  refine ok_getF G (host := "") (Or.inl (C.w160)) Via.refl FA d_prog_13_method_5_code_17 ?_
  refine ok_old (fun hO_hp2 => ?_)
  refine ok_initW G (a := ob1) (argsL := [(.int (1 : Int32)), (.ref ap)]) (rest := [(.ref ob1)]) rfl (C.w168) (C.w148) (C.w146) (C.w149) (by decide) pd13 (c_lini C hO_hp2 hE E_ob1 F_ob1_positive F_ob1_atom g_ob1 (by decide)) rfl rfl rfl d_prog_13_method_5_code_20 (Nat.le_of_ble_eq_true rfl) (Nat.le_of_ble_eq_true rfl) (Nat.le_of_ble_eq_true rfl) (Nat.le_of_ble_eq_true rfl) rfl (allS (Or.inr lb_ob1) (fun _ q => nomatch q)) ?_
  rintro _ hp4 K5 ⟨rfl, FP_ob1, FA_ob1⟩
  replace FP := FP.keep K5 (ninS ne_x_ob1 nin0)
  replace FA := FA.keep K5 (ninS ne_x_ob1 nin0)
  replace E_ob1 := E_ob1.keep K5
  refine ok_as (mkF m 23 #[.val (.ref x)] [(.ref ob1)]) rfl ?_
  exact ok_retA G rfl rfl rfl d_prog_13_method_5_code_23 rfl ⟨_, rfl, lb_ob1, E_ob1, FP_ob1, FA_ob1⟩ (Nat.le_of_ble_eq_true rfl) (Nat.le_of_ble_eq_true rfl)
theorem d_prog_13_method_11_code_0 : decode prog_13_method_11_code 0 = .ok (.aload_n 0, 1) := by decide +kernel
theorem d_prog_13_method_11_code_1 : decode prog_13_method_11_code 1 = .ok (.getfield 15, 3) := by decide +kernel
theorem d_prog_13_method_11_code_4 : decode prog_13_method_11_code 4 = .ok (.ireturn, 1) := by decide +kernel
def R_c_pos0 : Room := { frames := 0, cells := 0, slots := 0, locals := 0 }
theorem pl_b23 : plainFor (⟨"com/example/tiny_resolver/tinyresolver/clause/Literal", "positive", "()Z"⟩ : MethodName) = true := plainFor_of_name (by first | (simp [plainName, overriddenIn]; done) | decide +kernel)
set_option maxRecDepth 65536 in
set_option maxHeartbeats 40000000 in
theorem c_pos0 {l : Launch} {Z : State} {a0 : Array Value} {n0 : Nat} {h0 : Heap} (C : Cx Z a0) (hO : Old Z n0 h0) {x : Addr} (FP : Fld Z h0 x "com/example/tiny_resolver/tinyresolver/clause/Literal" "positive" "Z" (.int (0 : Int32))) :
    Con false l Z [] n0 (⟨"com/example/tiny_resolver/tinyresolver/clause/Literal", "positive", "()Z"⟩ : MethodName) prog_13_method_11_code 1 (some .boolean) R_c_pos0 #[(.ref x)] h0 [] (fun v h => v = some (.int 0) ∧ h0 = h) := by
  refine Con.intro (a0 := a0) pl_b23 hO (fun q => nomatch q) ?_
  intro p e s m below meth c G
  refine ok_as (mkF m 0 #[.val (.ref x)] []) (by first | rfl | (simp [entryFrame, mkF, argsToLocals, Value.category]; done)) ?_
  refine ok_aloadN G d_prog_13_method_11_code_0 rfl rfl ?_
  refine ok_getF G (host := "") (Or.inl (C.w158)) Via.refl FP d_prog_13_method_11_code_1 ?_
  exact ok_retN G rfl (by simp) d_prog_13_method_11_code_4 rfl ⟨rfl, rfl⟩ (Nat.le_of_ble_eq_true rfl) (Nat.le_of_ble_eq_true rfl)
theorem d_prog_13_method_5_code_15 : decode prog_13_method_5_code 15 = .ok (.iconst 0, 1) := by decide +kernel
def R_c_neg1 : Room := { frames := 3, cells := 3, slots := 22, locals := 39 }
set_option maxRecDepth 65536 in
set_option maxHeartbeats 40000000 in
theorem c_neg1 {l : Launch} {Z : State} {a0 : Array Value} {n0 : Nat} {h0 : Heap} (C : Cx Z a0) (hO : Old Z n0 h0) (hE : EW Z a0 []) {x ap : Addr} (FP : Fld Z h0 x "com/example/tiny_resolver/tinyresolver/clause/Literal" "positive" "Z" (.int (1 : Int32))) (FA : Fld Z h0 x "com/example/tiny_resolver/tinyresolver/clause/Literal" "atom" "Lcom/example/tiny_resolver/tinyresolver/term/Application;" (.ref ap)) :
    Con true l Z [] n0 (⟨"com/example/tiny_resolver/tinyresolver/clause/Literal", "negated", "()Lcom/example/tiny_resolver/tinyresolver/clause/Literal;"⟩ : MethodName) prog_13_method_5_code 1 (some (.object "com/example/tiny_resolver/tinyresolver/clause/Literal")) R_c_neg1 #[(.ref x)] h0 [] (fun v h => ∃ y, v = some (.ref y) ∧ h0.size ≤ y ∧ Exa Z h y "com/example/tiny_resolver/tinyresolver/clause/Literal" ∧ Fld Z h y "com/example/tiny_resolver/tinyresolver/clause/Literal" "positive" "Z" (.int (0 : Int32)) ∧ Fld Z h y "com/example/tiny_resolver/tinyresolver/clause/Literal" "atom" "Lcom/example/tiny_resolver/tinyresolver/term/Application;" (.ref ap)) := by
  refine Con.intro (a0 := a0) pl_b22 hO (fun _ => hE) ?_
  intro p e s m below meth c G
  refine ok_as (mkF m 0 #[.val (.ref x)] []) (by first | rfl | (simp [entryFrame, mkF, argsToLocals, Value.category]; done)) ?_
  refine ok_new G (C.w167) (C.w145) (C.w146) d_prog_13_method_5_code_0 (Nat.le_of_ble_eq_true rfl) (Nat.le_of_ble_eq_true rfl) ?_
  intro hp2 ob1 eq_ob1 K3 g_ob1 lb_ob1 E_ob1 D_ob1
  have ne_x_ob1 : x ≠ ob1 := Nat.ne_of_lt (Nat.lt_of_lt_of_le FP.lt (Nat.le_of_eq eq_ob1.symm))
  replace FP := FP.keep K3 nin0
  replace FA := FA.keep K3 nin0
  have F_ob1_positive : Fld Z hp2 ob1 "com/example/tiny_resolver/tinyresolver/clause/Literal" "positive" "Z" (.int (0 : Int32)) := D_ob1 _ _ _ .boolean (Or.inr (C.w159)) (by decide)
  have F_ob1_atom : Fld Z hp2 ob1 "com/example/tiny_resolver/tinyresolver/clause/Literal" "atom" "Lcom/example/tiny_resolver/tinyresolver/term/Application;" .null := D_ob1 _ _ _ (.object "com/example/tiny_resolver/tinyresolver/term/Application") (Or.inr (C.w161)) (by decide)
  refine ok_dup G d_prog_13_method_5_code_3 rfl ?_
  refine ok_aloadN G d_prog_13_method_5_code_4 rfl rfl ?_
  refine ok_getF G (host := "") (Or.inl (C.w158)) Via.refl FP d_prog_13_method_5_code_5 ?_
  refine ok_ifneY G 15 d_prog_13_method_5_code_8 (by decide) (by decide) (by decide) ?_
  refine ok_iconst G (0 : Int32) d_prog_13_method_5_code_15 rfl ?_
  refine ok_aloadN G d_prog_13_method_5_code_16 rfl rfl ?_
  refine ok_getF G (host := "") (Or.inl (C.w160)) Via.refl FA d_prog_13_method_5_code_17 ?_
  refine ok_old (fun hO_hp2 => ?_)
  refine ok_initW G (a := ob1) (argsL := [(.int (0 : Int32)), (.ref ap)]) (rest := [(.ref ob1)]) rfl (C.w168) (C.w148) (C.w146) (C.w149) (by decide) pd13 (c_lini C hO_hp2 hE E_ob1 F_ob1_positive F_ob1_atom g_ob1 (by decide)) rfl rfl rfl d_prog_13_method_5_code_20 (Nat.le_of_ble_eq_true rfl) (Nat.le_of_ble_eq_true rfl) (Nat.le_of_ble_eq_true rfl) (Nat.le_of_ble_eq_true rfl) rfl (allS (Or.inr lb_ob1) (fun _ q => nomatch q)) ?_
  rintro _ hp4 K5 ⟨rfl, FP_ob1, FA_ob1⟩
  replace FP := FP.keep K5 (ninS ne_x_ob1 nin0)
  replace FA := FA.keep K5 (ninS ne_x_ob1 nin0)
  replace E_ob1 := E_ob1.keep K5
  refine ok_as (mkF m 23 #[.val (.ref x)] [(.ref ob1)]) rfl ?_
  exact ok_retA G rfl rfl rfl d_prog_13_method_5_code_23 rfl ⟨_, rfl, lb_ob1, E_ob1, FP_ob1, FA_ob1⟩ (Nat.le_of_ble_eq_true rfl) (Nat.le_of_ble_eq_true rfl)
def R_c_pos1 : Room := { frames := 0, cells := 0, slots := 0, locals := 0 }
set_option maxRecDepth 65536 in
set_option maxHeartbeats 40000000 in
theorem c_pos1 {l : Launch} {Z : State} {a0 : Array Value} {n0 : Nat} {h0 : Heap} (C : Cx Z a0) (hO : Old Z n0 h0) {x : Addr} (FP : Fld Z h0 x "com/example/tiny_resolver/tinyresolver/clause/Literal" "positive" "Z" (.int (1 : Int32))) :
    Con false l Z [] n0 (⟨"com/example/tiny_resolver/tinyresolver/clause/Literal", "positive", "()Z"⟩ : MethodName) prog_13_method_11_code 1 (some .boolean) R_c_pos1 #[(.ref x)] h0 [] (fun v h => v = some (.int 1) ∧ h0 = h) := by
  refine Con.intro (a0 := a0) pl_b23 hO (fun q => nomatch q) ?_
  intro p e s m below meth c G
  refine ok_as (mkF m 0 #[.val (.ref x)] []) (by first | rfl | (simp [entryFrame, mkF, argsToLocals, Value.category]; done)) ?_
  refine ok_aloadN G d_prog_13_method_11_code_0 rfl rfl ?_
  refine ok_getF G (host := "") (Or.inl (C.w158)) Via.refl FP d_prog_13_method_11_code_1 ?_
  exact ok_retN G rfl (by simp) d_prog_13_method_11_code_4 rfl ⟨rfl, rfl⟩ (Nat.le_of_ble_eq_true rfl) (Nat.le_of_ble_eq_true rfl)
theorem d_prog_13_method_12_code_0 : decode prog_13_method_12_code 0 = .ok (.aload_n 0, 1) := by decide +kernel
theorem d_prog_13_method_12_code_1 : decode prog_13_method_12_code 1 = .ok (.getfield 21, 3) := by decide +kernel
theorem d_prog_13_method_12_code_4 : decode prog_13_method_12_code 4 = .ok (.areturn, 1) := by decide +kernel
def R_c_atom : Room := { frames := 0, cells := 0, slots := 0, locals := 0 }
theorem pl_b24 : plainFor (⟨"com/example/tiny_resolver/tinyresolver/clause/Literal", "atom", "()Lcom/example/tiny_resolver/tinyresolver/term/Application;"⟩ : MethodName) = true := plainFor_of_name (by first | (simp [plainName, overriddenIn]; done) | decide +kernel)
set_option maxRecDepth 65536 in
set_option maxHeartbeats 40000000 in
theorem c_atom {l : Launch} {Z : State} {a0 : Array Value} {n0 : Nat} {h0 : Heap} (C : Cx Z a0) (hO : Old Z n0 h0) {x ap : Addr} (FA : Fld Z h0 x "com/example/tiny_resolver/tinyresolver/clause/Literal" "atom" "Lcom/example/tiny_resolver/tinyresolver/term/Application;" (.ref ap)) :
    Con false l Z [] n0 (⟨"com/example/tiny_resolver/tinyresolver/clause/Literal", "atom", "()Lcom/example/tiny_resolver/tinyresolver/term/Application;"⟩ : MethodName) prog_13_method_12_code 1 (some (.object "com/example/tiny_resolver/tinyresolver/term/Application")) R_c_atom #[(.ref x)] h0 [] (fun v h => v = some (.ref ap) ∧ h0 = h) := by
  refine Con.intro (a0 := a0) pl_b24 hO (fun q => nomatch q) ?_
  intro p e s m below meth c G
  refine ok_as (mkF m 0 #[.val (.ref x)] []) (by first | rfl | (simp [entryFrame, mkF, argsToLocals, Value.category]; done)) ?_
  refine ok_aloadN G d_prog_13_method_12_code_0 rfl rfl ?_
  refine ok_getF G (host := "") (Or.inl (C.w160)) Via.refl FA d_prog_13_method_12_code_1 ?_
  exact ok_retA G rfl rfl rfl d_prog_13_method_12_code_4 rfl ⟨rfl, rfl⟩ (Nat.le_of_ble_eq_true rfl) (Nat.le_of_ble_eq_true rfl)
theorem pd14 : parseMethodDescriptor "(C)Ljava/lang/String;" = some ⟨[.char], some (.object "java/lang/String")⟩ := by decide +kernel
theorem pd15 : parseMethodDescriptor "(Ljava/lang/String;)Lcom/example/tiny_resolver/tinyresolver/term/Application;" = some ⟨[(.object "java/lang/String")], some (.object "com/example/tiny_resolver/tinyresolver/term/Application")⟩ := by decide +kernel
theorem pd16 : parseMethodDescriptor "()Lcom/example/tiny_resolver/tinyresolver/clause/Literal;" = some ⟨[], some (.object "com/example/tiny_resolver/tinyresolver/clause/Literal")⟩ := by decide +kernel
theorem pd17 : parseMethodDescriptor "()Lcom/example/tiny_resolver/tinyresolver/term/Application;" = some ⟨[], some (.object "com/example/tiny_resolver/tinyresolver/term/Application")⟩ := by decide +kernel
theorem pl_b0 : plainFor x = true := plainFor_of_name (show plainName "com/example/tiny_resolver/tinyresolver/clause/LiteralNegatedPinLaw" = true by first | (simp [plainName, overriddenIn]; done) | decide +kernel)
set_option maxRecDepth 65536 in
set_option maxHeartbeats 40000000 in
theorem c_law {l : Launch} {Z : State} {a0 : Array Value} {n0 : Nat} {h0 : Heap} (C : Cx Z a0) (hO : Old Z n0 h0) (hE : EW Z a0 []) {i0 i1 : Int32} {le ea : Addr} (HL : Lst Z le ea) :
    Con true l Z [] n0 x code maxLocals ret room_1 #[(.int i0), (.int i1)] h0 [] (fun v h => v = some (.int 1)) := by
  refine Con.intro (a0 := a0) pl_b0 hO (fun _ => hE) ?_
  intro p e s m below meth c G
  refine ok_as (mkF m 0 #[.val (.int i0), .val (.int i1), .unset, .unset, .unset, .unset, .unset, .unset, .unset, .unset, .unset, .unset] []) (by first | rfl | (simp [entryFrame, mkF, argsToLocals, Value.category, maxLocals]; done)) ?_
  refine ok_iloadN G at_0 rfl ?_
  refine ok_iconst G (1 : Int32) at_1 rfl ?_
  refine ok_iand G at_2 ?_
  refine ok_ifeq G 10 at_3 (by decide) (by decide) (fun cq1 => ?_) (fun cq1 => ?_)
  · skip
    refine ok_iconst G (0 : Int32) at_10 rfl ?_
    refine ok_istoreN G #[.val (.int i0), .val (.int i1), .val (.int (0 : Int32)), .unset, .unset, .unset, .unset, .unset, .unset, .unset, .unset, .unset] at_11 rfl ?_
    refine ok_iloadN G at_12 rfl ?_
    refine ok_sipush G (255 : Int32) at_13 rfl ?_
    refine ok_iand G at_16 ?_
    refine ok_i2c G at_17 ?_
    refine ok_nameI ?_
    intro chr2 qchr2
    have lchr2 : Lat chr2 := by rw [qchr2]; exact lat_mask _
    refine ok_static G (argsL := [(.int chr2)]) (rest := []) (C.w0) (C.w1) (C.w2) (C.w3) (by decide) pd14 (c_valueH C hO lchr2) rfl rfl rfl at_18 (Nat.le_of_ble_eq_true rfl) (Nat.le_of_ble_eq_true rfl) (Nat.le_of_ble_eq_true rfl) (Nat.le_of_ble_eq_true rfl) (fun _ q => nomatch q) ?_
    rintro _ hp5 K6 ⟨xr3, tr4, rfl, lbq_xr3, S_xr3, FH_xr3, FZ_xr3⟩
    have lbh_xr3 := lbq_xr3
    have lb_xr3 : h0.size ≤ xr3 := lbh_xr3
    have g_xr3 : n0 ≤ xr3 := Nat.le_trans (old_le hO) lbh_xr3
    refine ok_as (mkF m 21 #[.val (.int i0), .val (.int i1), .val (.int (0 : Int32)), .unset, .unset, .unset, .unset, .unset, .unset, .unset, .unset, .unset] [(.ref xr3)]) rfl ?_
    refine ok_astoreN G #[.val (.int i0), .val (.int i1), .val (.int (0 : Int32)), .val (.ref xr3), .unset, .unset, .unset, .unset, .unset, .unset, .unset, .unset] at_21 rfl rfl ?_
    refine ok_aloadN G at_22 rfl rfl ?_
    refine ok_old (fun hO_hp5 => ?_)
    refine ok_staticW G (argsL := [(.ref xr3)]) (rest := []) (C.w26) (C.w27) (C.w28) (C.w29) (by decide) pd15 (c_const C hO_hp5 hE S_xr3 FH_xr3 FZ_xr3 g_xr3 HL) rfl rfl rfl at_23 (Nat.le_of_ble_eq_true rfl) (Nat.le_of_ble_eq_true rfl) (Nat.le_of_ble_eq_true rfl) (Nat.le_of_ble_eq_true rfl) rfl (allS (Or.inr lb_xr3) (fun _ q => nomatch q)) ?_
    rintro _ hp8 K9 ⟨ap7, rfl⟩
    refine ok_as (mkF m 26 #[.val (.int i0), .val (.int i1), .val (.int (0 : Int32)), .val (.ref xr3), .unset, .unset, .unset, .unset, .unset, .unset, .unset, .unset] [(.ref ap7)]) rfl ?_
    refine ok_astore G #[.val (.int i0), .val (.int i1), .val (.int (0 : Int32)), .val (.ref xr3), .val (.ref ap7), .unset, .unset, .unset, .unset, .unset, .unset, .unset] at_26 rfl rfl ?_
    refine ok_new G (C.w144) (C.w145) (C.w146) at_28 (Nat.le_of_ble_eq_true rfl) (Nat.le_of_ble_eq_true rfl) ?_
    intro hp11 ob10 eq_ob10 K12 g_ob10 lb_ob10 E_ob10 D_ob10
    have F_ob10_positive : Fld Z hp11 ob10 "com/example/tiny_resolver/tinyresolver/clause/Literal" "positive" "Z" (.int (0 : Int32)) := D_ob10 _ _ _ .boolean (Or.inr (C.w159)) (by decide)
    have F_ob10_atom : Fld Z hp11 ob10 "com/example/tiny_resolver/tinyresolver/clause/Literal" "atom" "Lcom/example/tiny_resolver/tinyresolver/term/Application;" .null := D_ob10 _ _ _ (.object "com/example/tiny_resolver/tinyresolver/term/Application") (Or.inr (C.w161)) (by decide)
    refine ok_dup G at_31 rfl ?_
    refine ok_iloadN G at_32 rfl ?_
    refine ok_aload G at_33 rfl rfl ?_
    refine ok_old (fun hO_hp11 => ?_)
    refine ok_initW G (a := ob10) (argsL := [(.int (0 : Int32)), (.ref ap7)]) (rest := [(.ref ob10)]) rfl (C.w147) (C.w148) (C.w146) (C.w149) (by decide) pd13 (c_lini C hO_hp11 hE E_ob10 F_ob10_positive F_ob10_atom g_ob10 (by decide)) rfl rfl rfl at_35 (Nat.le_of_ble_eq_true rfl) (Nat.le_of_ble_eq_true rfl) (Nat.le_of_ble_eq_true rfl) (Nat.le_of_ble_eq_true rfl) rfl (allS (Or.inr lb_ob10) (fun _ q => nomatch q)) ?_
    rintro _ hp13 K14 ⟨rfl, FP_ob10, FA_ob10⟩
    replace E_ob10 := E_ob10.keep K14
    refine ok_as (mkF m 38 #[.val (.int i0), .val (.int i1), .val (.int (0 : Int32)), .val (.ref xr3), .val (.ref ap7), .unset, .unset, .unset, .unset, .unset, .unset, .unset] [(.ref ob10)]) rfl ?_
    refine ok_astore G #[.val (.int i0), .val (.int i1), .val (.int (0 : Int32)), .val (.ref xr3), .val (.ref ap7), .val (.ref ob10), .unset, .unset, .unset, .unset, .unset, .unset] at_38 rfl rfl ?_
    refine ok_aload G at_40 rfl rfl ?_
    refine ok_old (fun hO_hp13 => ?_)
    refine ok_keep (fun hKp_hp13 => ?_)
    refine ok_virtualW G (a := ob10) (y0 := (⟨"com/example/tiny_resolver/tinyresolver/clause/Literal", "negated", "()Lcom/example/tiny_resolver/tinyresolver/clause/Literal;"⟩ : MethodName)) (y := (⟨"com/example/tiny_resolver/tinyresolver/clause/Literal", "negated", "()Lcom/example/tiny_resolver/tinyresolver/clause/Literal;"⟩ : MethodName)) (argsL := []) (rest := []) E_ob10 (C.w162) (C.w163) (C.w165) (fun vm hZ => notFace_of_selects (args := #[]) (mvT (s := s.setVm vm) hZ (C.w165))) (C.w164) (C.w146) (C.w166) (by decide) pd16 (c_neg0 C hO_hp13 hE FP_ob10 FA_ob10) rfl rfl rfl at_42 (Nat.le_of_ble_eq_true rfl) (Nat.le_of_ble_eq_true rfl) (Nat.le_of_ble_eq_true rfl) (Nat.le_of_ble_eq_true rfl) rfl (fun _ q => nomatch q) ?_
    rintro _ hp16 K17 ⟨lt15, rfl, lbq_lt15, E_lt15, FP_lt15, FA_lt15⟩
    have lbh_lt15 := lbq_lt15
    have ne_ob10_lt15 : ob10 ≠ lt15 := Nat.ne_of_lt (Nat.lt_of_lt_of_le E_ob10.lt lbh_lt15)
    have lb_lt15 : h0.size ≤ lt15 := Nat.le_trans hKp_hp13.1 lbh_lt15
    have g_lt15 : n0 ≤ lt15 := Nat.le_trans (old_le hO_hp13) lbh_lt15
    replace E_ob10 := E_ob10.keep K17
    replace FP_ob10 := FP_ob10.keep K17 nin0
    replace FA_ob10 := FA_ob10.keep K17 nin0
    refine ok_as (mkF m 45 #[.val (.int i0), .val (.int i1), .val (.int (0 : Int32)), .val (.ref xr3), .val (.ref ap7), .val (.ref ob10), .unset, .unset, .unset, .unset, .unset, .unset] [(.ref lt15)]) rfl ?_
    refine ok_astore G #[.val (.int i0), .val (.int i1), .val (.int (0 : Int32)), .val (.ref xr3), .val (.ref ap7), .val (.ref ob10), .val (.ref lt15), .unset, .unset, .unset, .unset, .unset] at_45 rfl rfl ?_
    refine ok_aload G at_47 rfl rfl ?_
    refine ok_old (fun hO_hp16 => ?_)
    refine ok_keep (fun hKp_hp16 => ?_)
    refine ok_virtualW G (a := lt15) (y0 := (⟨"com/example/tiny_resolver/tinyresolver/clause/Literal", "negated", "()Lcom/example/tiny_resolver/tinyresolver/clause/Literal;"⟩ : MethodName)) (y := (⟨"com/example/tiny_resolver/tinyresolver/clause/Literal", "negated", "()Lcom/example/tiny_resolver/tinyresolver/clause/Literal;"⟩ : MethodName)) (argsL := []) (rest := []) E_lt15 (C.w162) (C.w163) (C.w165) (fun vm hZ => notFace_of_selects (args := #[]) (mvT (s := s.setVm vm) hZ (C.w165))) (C.w164) (C.w146) (C.w166) (by decide) pd16 (c_neg1 C hO_hp16 hE FP_lt15 FA_lt15) rfl rfl rfl at_49 (Nat.le_of_ble_eq_true rfl) (Nat.le_of_ble_eq_true rfl) (Nat.le_of_ble_eq_true rfl) (Nat.le_of_ble_eq_true rfl) rfl (fun _ q => nomatch q) ?_
    rintro _ hp19 K20 ⟨lt18, rfl, lbq_lt18, E_lt18, FP_lt18, FA_lt18⟩
    have lbh_lt18 := lbq_lt18
    have ne_ob10_lt18 : ob10 ≠ lt18 := Nat.ne_of_lt (Nat.lt_of_lt_of_le E_ob10.lt lbh_lt18)
    have ne_lt15_lt18 : lt15 ≠ lt18 := Nat.ne_of_lt (Nat.lt_of_lt_of_le E_lt15.lt lbh_lt18)
    have lb_lt18 : h0.size ≤ lt18 := Nat.le_trans hKp_hp16.1 lbh_lt18
    have g_lt18 : n0 ≤ lt18 := Nat.le_trans (old_le hO_hp16) lbh_lt18
    replace E_ob10 := E_ob10.keep K20
    replace FP_ob10 := FP_ob10.keep K20 nin0
    replace FA_ob10 := FA_ob10.keep K20 nin0
    replace E_lt15 := E_lt15.keep K20
    replace FP_lt15 := FP_lt15.keep K20 nin0
    replace FA_lt15 := FA_lt15.keep K20 nin0
    refine ok_as (mkF m 52 #[.val (.int i0), .val (.int i1), .val (.int (0 : Int32)), .val (.ref xr3), .val (.ref ap7), .val (.ref ob10), .val (.ref lt15), .unset, .unset, .unset, .unset, .unset] [(.ref lt18)]) rfl ?_
    refine ok_astore G #[.val (.int i0), .val (.int i1), .val (.int (0 : Int32)), .val (.ref xr3), .val (.ref ap7), .val (.ref ob10), .val (.ref lt15), .val (.ref lt18), .unset, .unset, .unset, .unset] at_52 rfl rfl ?_
    refine ok_aload G at_54 rfl rfl ?_
    refine ok_old (fun hO_hp19 => ?_)
    refine ok_virtual G (a := lt15) (y0 := (⟨"com/example/tiny_resolver/tinyresolver/clause/Literal", "positive", "()Z"⟩ : MethodName)) (y := (⟨"com/example/tiny_resolver/tinyresolver/clause/Literal", "positive", "()Z"⟩ : MethodName)) (argsL := []) (rest := []) E_lt15 (C.w169) (C.w170) (C.w172) (fun vm hZ => notFace_of_selects (args := #[]) (mvT (s := s.setVm vm) hZ (C.w172))) (C.w171) (C.w146) (C.w173) (by decide) pd6 (c_pos1 C hO_hp19 FP_lt15) rfl rfl rfl at_56 (Nat.le_of_ble_eq_true rfl) (Nat.le_of_ble_eq_true rfl) (Nat.le_of_ble_eq_true rfl) (Nat.le_of_ble_eq_true rfl) (fun _ q => nomatch q) ?_
    rintro _ _ _ ⟨rfl, rfl⟩
    refine ok_as (mkF m 59 #[.val (.int i0), .val (.int i1), .val (.int (0 : Int32)), .val (.ref xr3), .val (.ref ap7), .val (.ref ob10), .val (.ref lt15), .val (.ref lt18), .unset, .unset, .unset, .unset] [(.int (1 : Int32))]) rfl ?_
    refine ok_iloadN G at_59 rfl ?_
    refine ok_ifneN G at_60 (by decide) ?_
    refine ok_iconst G (1 : Int32) at_63 rfl ?_
    refine ok_goto G 68 at_64 (by decide) (by decide) ?_
    refine ok_icmpneN G at_68 (by decide) ?_
    refine ok_iconst G (1 : Int32) at_71 rfl ?_
    refine ok_goto G 76 at_72 (by decide) (by decide) ?_
    refine ok_istore G #[.val (.int i0), .val (.int i1), .val (.int (0 : Int32)), .val (.ref xr3), .val (.ref ap7), .val (.ref ob10), .val (.ref lt15), .val (.ref lt18), .val (.int (1 : Int32)), .unset, .unset, .unset] at_76 rfl ?_
    refine ok_aload G at_78 rfl rfl ?_
    refine ok_virtual G (a := lt15) (y0 := (⟨"com/example/tiny_resolver/tinyresolver/clause/Literal", "atom", "()Lcom/example/tiny_resolver/tinyresolver/term/Application;"⟩ : MethodName)) (y := (⟨"com/example/tiny_resolver/tinyresolver/clause/Literal", "atom", "()Lcom/example/tiny_resolver/tinyresolver/term/Application;"⟩ : MethodName)) (argsL := []) (rest := []) E_lt15 (C.w174) (C.w175) (C.w177) (fun vm hZ => notFace_of_selects (args := #[]) (mvT (s := s.setVm vm) hZ (C.w177))) (C.w176) (C.w146) (C.w178) (by decide) pd17 (c_atom C hO_hp19 FA_lt15) rfl rfl rfl at_80 (Nat.le_of_ble_eq_true rfl) (Nat.le_of_ble_eq_true rfl) (Nat.le_of_ble_eq_true rfl) (Nat.le_of_ble_eq_true rfl) (fun _ q => nomatch q) ?_
    rintro _ _ _ ⟨rfl, rfl⟩
    refine ok_as (mkF m 83 #[.val (.int i0), .val (.int i1), .val (.int (0 : Int32)), .val (.ref xr3), .val (.ref ap7), .val (.ref ob10), .val (.ref lt15), .val (.ref lt18), .val (.int (1 : Int32)), .unset, .unset, .unset] [(.ref ap7)]) rfl ?_
    refine ok_aload G at_83 rfl rfl ?_
    refine ok_acmp G true 88 at_85 rfl rfl (decide_eq_true rfl) (by decide) (by decide) ?_
    refine ok_iconst G (1 : Int32) at_88 rfl ?_
    refine ok_goto G 93 at_89 (by decide) (by decide) ?_
    refine ok_istore G #[.val (.int i0), .val (.int i1), .val (.int (0 : Int32)), .val (.ref xr3), .val (.ref ap7), .val (.ref ob10), .val (.ref lt15), .val (.ref lt18), .val (.int (1 : Int32)), .val (.int (1 : Int32)), .unset, .unset] at_93 rfl ?_
    refine ok_aload G at_95 rfl rfl ?_
    refine ok_virtual G (a := lt18) (y0 := (⟨"com/example/tiny_resolver/tinyresolver/clause/Literal", "positive", "()Z"⟩ : MethodName)) (y := (⟨"com/example/tiny_resolver/tinyresolver/clause/Literal", "positive", "()Z"⟩ : MethodName)) (argsL := []) (rest := []) E_lt18 (C.w169) (C.w170) (C.w172) (fun vm hZ => notFace_of_selects (args := #[]) (mvT (s := s.setVm vm) hZ (C.w172))) (C.w171) (C.w146) (C.w173) (by decide) pd6 (c_pos0 C hO_hp19 FP_lt18) rfl rfl rfl at_97 (Nat.le_of_ble_eq_true rfl) (Nat.le_of_ble_eq_true rfl) (Nat.le_of_ble_eq_true rfl) (Nat.le_of_ble_eq_true rfl) (fun _ q => nomatch q) ?_
    rintro _ _ _ ⟨rfl, rfl⟩
    refine ok_as (mkF m 100 #[.val (.int i0), .val (.int i1), .val (.int (0 : Int32)), .val (.ref xr3), .val (.ref ap7), .val (.ref ob10), .val (.ref lt15), .val (.ref lt18), .val (.int (1 : Int32)), .val (.int (1 : Int32)), .unset, .unset] [(.int (0 : Int32))]) rfl ?_
    refine ok_iloadN G at_100 rfl ?_
    refine ok_icmpneN G at_101 (by decide) ?_
    refine ok_iconst G (1 : Int32) at_104 rfl ?_
    refine ok_goto G 109 at_105 (by decide) (by decide) ?_
    refine ok_istore G #[.val (.int i0), .val (.int i1), .val (.int (0 : Int32)), .val (.ref xr3), .val (.ref ap7), .val (.ref ob10), .val (.ref lt15), .val (.ref lt18), .val (.int (1 : Int32)), .val (.int (1 : Int32)), .val (.int (1 : Int32)), .unset] at_109 rfl ?_
    refine ok_aload G at_111 rfl rfl ?_
    refine ok_virtual G (a := lt18) (y0 := (⟨"com/example/tiny_resolver/tinyresolver/clause/Literal", "atom", "()Lcom/example/tiny_resolver/tinyresolver/term/Application;"⟩ : MethodName)) (y := (⟨"com/example/tiny_resolver/tinyresolver/clause/Literal", "atom", "()Lcom/example/tiny_resolver/tinyresolver/term/Application;"⟩ : MethodName)) (argsL := []) (rest := []) E_lt18 (C.w174) (C.w175) (C.w177) (fun vm hZ => notFace_of_selects (args := #[]) (mvT (s := s.setVm vm) hZ (C.w177))) (C.w176) (C.w146) (C.w178) (by decide) pd17 (c_atom C hO_hp19 FA_lt18) rfl rfl rfl at_113 (Nat.le_of_ble_eq_true rfl) (Nat.le_of_ble_eq_true rfl) (Nat.le_of_ble_eq_true rfl) (Nat.le_of_ble_eq_true rfl) (fun _ q => nomatch q) ?_
    rintro _ _ _ ⟨rfl, rfl⟩
    refine ok_as (mkF m 116 #[.val (.int i0), .val (.int i1), .val (.int (0 : Int32)), .val (.ref xr3), .val (.ref ap7), .val (.ref ob10), .val (.ref lt15), .val (.ref lt18), .val (.int (1 : Int32)), .val (.int (1 : Int32)), .val (.int (1 : Int32)), .unset] [(.ref ap7)]) rfl ?_
    refine ok_aload G at_116 rfl rfl ?_
    refine ok_acmp G true 121 at_118 rfl rfl (decide_eq_true rfl) (by decide) (by decide) ?_
    refine ok_iconst G (1 : Int32) at_121 rfl ?_
    refine ok_goto G 126 at_122 (by decide) (by decide) ?_
    refine ok_istore G #[.val (.int i0), .val (.int i1), .val (.int (0 : Int32)), .val (.ref xr3), .val (.ref ap7), .val (.ref ob10), .val (.ref lt15), .val (.ref lt18), .val (.int (1 : Int32)), .val (.int (1 : Int32)), .val (.int (1 : Int32)), .val (.int (1 : Int32))] at_126 rfl ?_
    refine ok_iload G at_128 rfl ?_
    refine ok_ifeqN G at_130 (by decide) ?_
    refine ok_iload G at_133 rfl ?_
    refine ok_ifeqN G at_135 (by decide) ?_
    refine ok_iload G at_138 rfl ?_
    refine ok_ifeqN G at_140 (by decide) ?_
    refine ok_iload G at_143 rfl ?_
    refine ok_ifeqN G at_145 (by decide) ?_
    refine ok_iconst G (1 : Int32) at_148 rfl ?_
    refine ok_goto G 153 at_149 (by decide) (by decide) ?_
    exact ok_retN G rfl (by simp) at_153 rfl rfl (Nat.le_of_ble_eq_true rfl) (Nat.le_of_ble_eq_true rfl)
  · skip
    refine ok_iconst G (1 : Int32) at_6 rfl ?_
    refine ok_goto G 11 at_7 (by decide) (by decide) ?_
    refine ok_istoreN G #[.val (.int i0), .val (.int i1), .val (.int (1 : Int32)), .unset, .unset, .unset, .unset, .unset, .unset, .unset, .unset, .unset] at_11 rfl ?_
    refine ok_iloadN G at_12 rfl ?_
    refine ok_sipush G (255 : Int32) at_13 rfl ?_
    refine ok_iand G at_16 ?_
    refine ok_i2c G at_17 ?_
    refine ok_nameI ?_
    intro chr29 qchr29
    have lchr29 : Lat chr29 := by rw [qchr29]; exact lat_mask _
    refine ok_static G (argsL := [(.int chr29)]) (rest := []) (C.w0) (C.w1) (C.w2) (C.w3) (by decide) pd14 (c_valueH C hO lchr29) rfl rfl rfl at_18 (Nat.le_of_ble_eq_true rfl) (Nat.le_of_ble_eq_true rfl) (Nat.le_of_ble_eq_true rfl) (Nat.le_of_ble_eq_true rfl) (fun _ q => nomatch q) ?_
    rintro _ hp32 K33 ⟨xr30, tr31, rfl, lbq_xr30, S_xr30, FH_xr30, FZ_xr30⟩
    have lbh_xr30 := lbq_xr30
    have lb_xr30 : h0.size ≤ xr30 := lbh_xr30
    have g_xr30 : n0 ≤ xr30 := Nat.le_trans (old_le hO) lbh_xr30
    refine ok_as (mkF m 21 #[.val (.int i0), .val (.int i1), .val (.int (1 : Int32)), .unset, .unset, .unset, .unset, .unset, .unset, .unset, .unset, .unset] [(.ref xr30)]) rfl ?_
    refine ok_astoreN G #[.val (.int i0), .val (.int i1), .val (.int (1 : Int32)), .val (.ref xr30), .unset, .unset, .unset, .unset, .unset, .unset, .unset, .unset] at_21 rfl rfl ?_
    refine ok_aloadN G at_22 rfl rfl ?_
    refine ok_old (fun hO_hp32 => ?_)
    refine ok_staticW G (argsL := [(.ref xr30)]) (rest := []) (C.w26) (C.w27) (C.w28) (C.w29) (by decide) pd15 (c_const C hO_hp32 hE S_xr30 FH_xr30 FZ_xr30 g_xr30 HL) rfl rfl rfl at_23 (Nat.le_of_ble_eq_true rfl) (Nat.le_of_ble_eq_true rfl) (Nat.le_of_ble_eq_true rfl) (Nat.le_of_ble_eq_true rfl) rfl (allS (Or.inr lb_xr30) (fun _ q => nomatch q)) ?_
    rintro _ hp35 K36 ⟨ap34, rfl⟩
    refine ok_as (mkF m 26 #[.val (.int i0), .val (.int i1), .val (.int (1 : Int32)), .val (.ref xr30), .unset, .unset, .unset, .unset, .unset, .unset, .unset, .unset] [(.ref ap34)]) rfl ?_
    refine ok_astore G #[.val (.int i0), .val (.int i1), .val (.int (1 : Int32)), .val (.ref xr30), .val (.ref ap34), .unset, .unset, .unset, .unset, .unset, .unset, .unset] at_26 rfl rfl ?_
    refine ok_new G (C.w144) (C.w145) (C.w146) at_28 (Nat.le_of_ble_eq_true rfl) (Nat.le_of_ble_eq_true rfl) ?_
    intro hp38 ob37 eq_ob37 K39 g_ob37 lb_ob37 E_ob37 D_ob37
    have F_ob37_positive : Fld Z hp38 ob37 "com/example/tiny_resolver/tinyresolver/clause/Literal" "positive" "Z" (.int (0 : Int32)) := D_ob37 _ _ _ .boolean (Or.inr (C.w159)) (by decide)
    have F_ob37_atom : Fld Z hp38 ob37 "com/example/tiny_resolver/tinyresolver/clause/Literal" "atom" "Lcom/example/tiny_resolver/tinyresolver/term/Application;" .null := D_ob37 _ _ _ (.object "com/example/tiny_resolver/tinyresolver/term/Application") (Or.inr (C.w161)) (by decide)
    refine ok_dup G at_31 rfl ?_
    refine ok_iloadN G at_32 rfl ?_
    refine ok_aload G at_33 rfl rfl ?_
    refine ok_old (fun hO_hp38 => ?_)
    refine ok_initW G (a := ob37) (argsL := [(.int (1 : Int32)), (.ref ap34)]) (rest := [(.ref ob37)]) rfl (C.w147) (C.w148) (C.w146) (C.w149) (by decide) pd13 (c_lini C hO_hp38 hE E_ob37 F_ob37_positive F_ob37_atom g_ob37 (by decide)) rfl rfl rfl at_35 (Nat.le_of_ble_eq_true rfl) (Nat.le_of_ble_eq_true rfl) (Nat.le_of_ble_eq_true rfl) (Nat.le_of_ble_eq_true rfl) rfl (allS (Or.inr lb_ob37) (fun _ q => nomatch q)) ?_
    rintro _ hp40 K41 ⟨rfl, FP_ob37, FA_ob37⟩
    replace E_ob37 := E_ob37.keep K41
    refine ok_as (mkF m 38 #[.val (.int i0), .val (.int i1), .val (.int (1 : Int32)), .val (.ref xr30), .val (.ref ap34), .unset, .unset, .unset, .unset, .unset, .unset, .unset] [(.ref ob37)]) rfl ?_
    refine ok_astore G #[.val (.int i0), .val (.int i1), .val (.int (1 : Int32)), .val (.ref xr30), .val (.ref ap34), .val (.ref ob37), .unset, .unset, .unset, .unset, .unset, .unset] at_38 rfl rfl ?_
    refine ok_aload G at_40 rfl rfl ?_
    refine ok_old (fun hO_hp40 => ?_)
    refine ok_keep (fun hKp_hp40 => ?_)
    refine ok_virtualW G (a := ob37) (y0 := (⟨"com/example/tiny_resolver/tinyresolver/clause/Literal", "negated", "()Lcom/example/tiny_resolver/tinyresolver/clause/Literal;"⟩ : MethodName)) (y := (⟨"com/example/tiny_resolver/tinyresolver/clause/Literal", "negated", "()Lcom/example/tiny_resolver/tinyresolver/clause/Literal;"⟩ : MethodName)) (argsL := []) (rest := []) E_ob37 (C.w162) (C.w163) (C.w165) (fun vm hZ => notFace_of_selects (args := #[]) (mvT (s := s.setVm vm) hZ (C.w165))) (C.w164) (C.w146) (C.w166) (by decide) pd16 (c_neg1 C hO_hp40 hE FP_ob37 FA_ob37) rfl rfl rfl at_42 (Nat.le_of_ble_eq_true rfl) (Nat.le_of_ble_eq_true rfl) (Nat.le_of_ble_eq_true rfl) (Nat.le_of_ble_eq_true rfl) rfl (fun _ q => nomatch q) ?_
    rintro _ hp43 K44 ⟨lt42, rfl, lbq_lt42, E_lt42, FP_lt42, FA_lt42⟩
    have lbh_lt42 := lbq_lt42
    have ne_ob37_lt42 : ob37 ≠ lt42 := Nat.ne_of_lt (Nat.lt_of_lt_of_le E_ob37.lt lbh_lt42)
    have lb_lt42 : h0.size ≤ lt42 := Nat.le_trans hKp_hp40.1 lbh_lt42
    have g_lt42 : n0 ≤ lt42 := Nat.le_trans (old_le hO_hp40) lbh_lt42
    replace E_ob37 := E_ob37.keep K44
    replace FP_ob37 := FP_ob37.keep K44 nin0
    replace FA_ob37 := FA_ob37.keep K44 nin0
    refine ok_as (mkF m 45 #[.val (.int i0), .val (.int i1), .val (.int (1 : Int32)), .val (.ref xr30), .val (.ref ap34), .val (.ref ob37), .unset, .unset, .unset, .unset, .unset, .unset] [(.ref lt42)]) rfl ?_
    refine ok_astore G #[.val (.int i0), .val (.int i1), .val (.int (1 : Int32)), .val (.ref xr30), .val (.ref ap34), .val (.ref ob37), .val (.ref lt42), .unset, .unset, .unset, .unset, .unset] at_45 rfl rfl ?_
    refine ok_aload G at_47 rfl rfl ?_
    refine ok_old (fun hO_hp43 => ?_)
    refine ok_keep (fun hKp_hp43 => ?_)
    refine ok_virtualW G (a := lt42) (y0 := (⟨"com/example/tiny_resolver/tinyresolver/clause/Literal", "negated", "()Lcom/example/tiny_resolver/tinyresolver/clause/Literal;"⟩ : MethodName)) (y := (⟨"com/example/tiny_resolver/tinyresolver/clause/Literal", "negated", "()Lcom/example/tiny_resolver/tinyresolver/clause/Literal;"⟩ : MethodName)) (argsL := []) (rest := []) E_lt42 (C.w162) (C.w163) (C.w165) (fun vm hZ => notFace_of_selects (args := #[]) (mvT (s := s.setVm vm) hZ (C.w165))) (C.w164) (C.w146) (C.w166) (by decide) pd16 (c_neg0 C hO_hp43 hE FP_lt42 FA_lt42) rfl rfl rfl at_49 (Nat.le_of_ble_eq_true rfl) (Nat.le_of_ble_eq_true rfl) (Nat.le_of_ble_eq_true rfl) (Nat.le_of_ble_eq_true rfl) rfl (fun _ q => nomatch q) ?_
    rintro _ hp46 K47 ⟨lt45, rfl, lbq_lt45, E_lt45, FP_lt45, FA_lt45⟩
    have lbh_lt45 := lbq_lt45
    have ne_ob37_lt45 : ob37 ≠ lt45 := Nat.ne_of_lt (Nat.lt_of_lt_of_le E_ob37.lt lbh_lt45)
    have ne_lt42_lt45 : lt42 ≠ lt45 := Nat.ne_of_lt (Nat.lt_of_lt_of_le E_lt42.lt lbh_lt45)
    have lb_lt45 : h0.size ≤ lt45 := Nat.le_trans hKp_hp43.1 lbh_lt45
    have g_lt45 : n0 ≤ lt45 := Nat.le_trans (old_le hO_hp43) lbh_lt45
    replace E_ob37 := E_ob37.keep K47
    replace FP_ob37 := FP_ob37.keep K47 nin0
    replace FA_ob37 := FA_ob37.keep K47 nin0
    replace E_lt42 := E_lt42.keep K47
    replace FP_lt42 := FP_lt42.keep K47 nin0
    replace FA_lt42 := FA_lt42.keep K47 nin0
    refine ok_as (mkF m 52 #[.val (.int i0), .val (.int i1), .val (.int (1 : Int32)), .val (.ref xr30), .val (.ref ap34), .val (.ref ob37), .val (.ref lt42), .unset, .unset, .unset, .unset, .unset] [(.ref lt45)]) rfl ?_
    refine ok_astore G #[.val (.int i0), .val (.int i1), .val (.int (1 : Int32)), .val (.ref xr30), .val (.ref ap34), .val (.ref ob37), .val (.ref lt42), .val (.ref lt45), .unset, .unset, .unset, .unset] at_52 rfl rfl ?_
    refine ok_aload G at_54 rfl rfl ?_
    refine ok_old (fun hO_hp46 => ?_)
    refine ok_virtual G (a := lt42) (y0 := (⟨"com/example/tiny_resolver/tinyresolver/clause/Literal", "positive", "()Z"⟩ : MethodName)) (y := (⟨"com/example/tiny_resolver/tinyresolver/clause/Literal", "positive", "()Z"⟩ : MethodName)) (argsL := []) (rest := []) E_lt42 (C.w169) (C.w170) (C.w172) (fun vm hZ => notFace_of_selects (args := #[]) (mvT (s := s.setVm vm) hZ (C.w172))) (C.w171) (C.w146) (C.w173) (by decide) pd6 (c_pos0 C hO_hp46 FP_lt42) rfl rfl rfl at_56 (Nat.le_of_ble_eq_true rfl) (Nat.le_of_ble_eq_true rfl) (Nat.le_of_ble_eq_true rfl) (Nat.le_of_ble_eq_true rfl) (fun _ q => nomatch q) ?_
    rintro _ _ _ ⟨rfl, rfl⟩
    refine ok_as (mkF m 59 #[.val (.int i0), .val (.int i1), .val (.int (1 : Int32)), .val (.ref xr30), .val (.ref ap34), .val (.ref ob37), .val (.ref lt42), .val (.ref lt45), .unset, .unset, .unset, .unset] [(.int (0 : Int32))]) rfl ?_
    refine ok_iloadN G at_59 rfl ?_
    refine ok_ifneY G 67 at_60 (by decide) (by decide) (by decide) ?_
    refine ok_iconst G (0 : Int32) at_67 rfl ?_
    refine ok_icmpneN G at_68 (by decide) ?_
    refine ok_iconst G (1 : Int32) at_71 rfl ?_
    refine ok_goto G 76 at_72 (by decide) (by decide) ?_
    refine ok_istore G #[.val (.int i0), .val (.int i1), .val (.int (1 : Int32)), .val (.ref xr30), .val (.ref ap34), .val (.ref ob37), .val (.ref lt42), .val (.ref lt45), .val (.int (1 : Int32)), .unset, .unset, .unset] at_76 rfl ?_
    refine ok_aload G at_78 rfl rfl ?_
    refine ok_virtual G (a := lt42) (y0 := (⟨"com/example/tiny_resolver/tinyresolver/clause/Literal", "atom", "()Lcom/example/tiny_resolver/tinyresolver/term/Application;"⟩ : MethodName)) (y := (⟨"com/example/tiny_resolver/tinyresolver/clause/Literal", "atom", "()Lcom/example/tiny_resolver/tinyresolver/term/Application;"⟩ : MethodName)) (argsL := []) (rest := []) E_lt42 (C.w174) (C.w175) (C.w177) (fun vm hZ => notFace_of_selects (args := #[]) (mvT (s := s.setVm vm) hZ (C.w177))) (C.w176) (C.w146) (C.w178) (by decide) pd17 (c_atom C hO_hp46 FA_lt42) rfl rfl rfl at_80 (Nat.le_of_ble_eq_true rfl) (Nat.le_of_ble_eq_true rfl) (Nat.le_of_ble_eq_true rfl) (Nat.le_of_ble_eq_true rfl) (fun _ q => nomatch q) ?_
    rintro _ _ _ ⟨rfl, rfl⟩
    refine ok_as (mkF m 83 #[.val (.int i0), .val (.int i1), .val (.int (1 : Int32)), .val (.ref xr30), .val (.ref ap34), .val (.ref ob37), .val (.ref lt42), .val (.ref lt45), .val (.int (1 : Int32)), .unset, .unset, .unset] [(.ref ap34)]) rfl ?_
    refine ok_aload G at_83 rfl rfl ?_
    refine ok_acmp G true 88 at_85 rfl rfl (decide_eq_true rfl) (by decide) (by decide) ?_
    refine ok_iconst G (1 : Int32) at_88 rfl ?_
    refine ok_goto G 93 at_89 (by decide) (by decide) ?_
    refine ok_istore G #[.val (.int i0), .val (.int i1), .val (.int (1 : Int32)), .val (.ref xr30), .val (.ref ap34), .val (.ref ob37), .val (.ref lt42), .val (.ref lt45), .val (.int (1 : Int32)), .val (.int (1 : Int32)), .unset, .unset] at_93 rfl ?_
    refine ok_aload G at_95 rfl rfl ?_
    refine ok_virtual G (a := lt45) (y0 := (⟨"com/example/tiny_resolver/tinyresolver/clause/Literal", "positive", "()Z"⟩ : MethodName)) (y := (⟨"com/example/tiny_resolver/tinyresolver/clause/Literal", "positive", "()Z"⟩ : MethodName)) (argsL := []) (rest := []) E_lt45 (C.w169) (C.w170) (C.w172) (fun vm hZ => notFace_of_selects (args := #[]) (mvT (s := s.setVm vm) hZ (C.w172))) (C.w171) (C.w146) (C.w173) (by decide) pd6 (c_pos1 C hO_hp46 FP_lt45) rfl rfl rfl at_97 (Nat.le_of_ble_eq_true rfl) (Nat.le_of_ble_eq_true rfl) (Nat.le_of_ble_eq_true rfl) (Nat.le_of_ble_eq_true rfl) (fun _ q => nomatch q) ?_
    rintro _ _ _ ⟨rfl, rfl⟩
    refine ok_as (mkF m 100 #[.val (.int i0), .val (.int i1), .val (.int (1 : Int32)), .val (.ref xr30), .val (.ref ap34), .val (.ref ob37), .val (.ref lt42), .val (.ref lt45), .val (.int (1 : Int32)), .val (.int (1 : Int32)), .unset, .unset] [(.int (1 : Int32))]) rfl ?_
    refine ok_iloadN G at_100 rfl ?_
    refine ok_icmpneN G at_101 (by decide) ?_
    refine ok_iconst G (1 : Int32) at_104 rfl ?_
    refine ok_goto G 109 at_105 (by decide) (by decide) ?_
    refine ok_istore G #[.val (.int i0), .val (.int i1), .val (.int (1 : Int32)), .val (.ref xr30), .val (.ref ap34), .val (.ref ob37), .val (.ref lt42), .val (.ref lt45), .val (.int (1 : Int32)), .val (.int (1 : Int32)), .val (.int (1 : Int32)), .unset] at_109 rfl ?_
    refine ok_aload G at_111 rfl rfl ?_
    refine ok_virtual G (a := lt45) (y0 := (⟨"com/example/tiny_resolver/tinyresolver/clause/Literal", "atom", "()Lcom/example/tiny_resolver/tinyresolver/term/Application;"⟩ : MethodName)) (y := (⟨"com/example/tiny_resolver/tinyresolver/clause/Literal", "atom", "()Lcom/example/tiny_resolver/tinyresolver/term/Application;"⟩ : MethodName)) (argsL := []) (rest := []) E_lt45 (C.w174) (C.w175) (C.w177) (fun vm hZ => notFace_of_selects (args := #[]) (mvT (s := s.setVm vm) hZ (C.w177))) (C.w176) (C.w146) (C.w178) (by decide) pd17 (c_atom C hO_hp46 FA_lt45) rfl rfl rfl at_113 (Nat.le_of_ble_eq_true rfl) (Nat.le_of_ble_eq_true rfl) (Nat.le_of_ble_eq_true rfl) (Nat.le_of_ble_eq_true rfl) (fun _ q => nomatch q) ?_
    rintro _ _ _ ⟨rfl, rfl⟩
    refine ok_as (mkF m 116 #[.val (.int i0), .val (.int i1), .val (.int (1 : Int32)), .val (.ref xr30), .val (.ref ap34), .val (.ref ob37), .val (.ref lt42), .val (.ref lt45), .val (.int (1 : Int32)), .val (.int (1 : Int32)), .val (.int (1 : Int32)), .unset] [(.ref ap34)]) rfl ?_
    refine ok_aload G at_116 rfl rfl ?_
    refine ok_acmp G true 121 at_118 rfl rfl (decide_eq_true rfl) (by decide) (by decide) ?_
    refine ok_iconst G (1 : Int32) at_121 rfl ?_
    refine ok_goto G 126 at_122 (by decide) (by decide) ?_
    refine ok_istore G #[.val (.int i0), .val (.int i1), .val (.int (1 : Int32)), .val (.ref xr30), .val (.ref ap34), .val (.ref ob37), .val (.ref lt42), .val (.ref lt45), .val (.int (1 : Int32)), .val (.int (1 : Int32)), .val (.int (1 : Int32)), .val (.int (1 : Int32))] at_126 rfl ?_
    refine ok_iload G at_128 rfl ?_
    refine ok_ifeqN G at_130 (by decide) ?_
    refine ok_iload G at_133 rfl ?_
    refine ok_ifeqN G at_135 (by decide) ?_
    refine ok_iload G at_138 rfl ?_
    refine ok_ifeqN G at_140 (by decide) ?_
    refine ok_iload G at_143 rfl ?_
    refine ok_ifeqN G at_145 (by decide) ?_
    refine ok_iconst G (1 : Int32) at_148 rfl ?_
    refine ok_goto G 153 at_149 (by decide) (by decide) ?_
    exact ok_retN G rfl (by simp) at_153 rfl rfl (Nat.le_of_ble_eq_true rfl) (Nat.le_of_ble_eq_true rfl)
theorem own_ord {args : Array Value} {s : State} {t : Term} {x : Addr} {k : Int32} {C n d : String} (ht : t.eval args s none [] s = some (.ref x)) (h : (Jvm.Cond.eq (Term.field t C n d) (Term.int k)).value args s none s [] = some true) : s.fieldOf? x C n d = some (.int k) := by
  rw [← fld_at (first := s) (o := none) (idx := []) (args := args) ht]
  have e2 : (Term.int k).eval args s none [] s = some (.int k) := rfl
  cases he : (Term.field t C n d).eval args s none [] s with
  | none => simp [Cond.value, he] at h
  | some v => cases v <;> simp [Cond.value, he, e2] at h ⊢ <;> first | exact h | (cases h)
theorem own_compact {args : Array Value} {s : State} (hsets : ∀ w ∈ jdkStatics_1, w.before args s = true) : ∃ cz : Int32, Sta s s.heap "java/lang/String" "COMPACT_STRINGS" "Z" (.int cz) ∧ ¬ cz = 0 := by
  have h0 := hsets _ (List.mem_of_getElem? (i := 0) rfl)
  obtain ⟨cz, ez⟩ := is_v (Cond.before_iff.mp (hsets _ (List.mem_of_getElem? (i := 1) rfl)))
  have h2 := not_v (Cond.before_iff.mp (hsets _ (List.mem_of_getElem? (i := 2) rfl)))
  refine ⟨cz, Sta.start ez (Or.inl h0), fun q => ?_⟩
  subst q
  have e2 : (Term.int 0).eval args s none [] s = some (.int 0) := rfl
  simp [Cond.value, ez, e2] at h2
theorem own_len0 {args : Array Value} {s : State} {t : Term} {a : Addr} {c : Cell} {ty : FieldType} {k : Int32} (ev : t.eval args s none [] s = some (.ref a)) (A : Arr s s.heap a c ty) (h : (Jvm.Cond.eq (Term.length t) (Term.int k)).value args s none s [] = some true) : c.slots.size.toInt32 = k := by
  have e2 : (Term.int k).eval args s none [] s = some (.int k) := rfl
  cases he : (Term.length t).eval args s none [] s with
  | none => simp [Cond.value, he] at h
  | some v =>
    obtain ⟨b, cell, hb, hc, rfl⟩ := Term.length_spec he
    rw [ev] at hb
    cases hb
    have hf := Arr.fin (U := s) (Vm.Alike.refl _) A
    cases hf.symm.trans hc
    simp [Cond.value, he, e2] at h
    exact h
theorem own_list {args : Array Value} {s : State} (hsets : ∀ w ∈ jdkStatics_1, w.before args s = true) : ∃ le ea, Lst s le ea := by
  have hx := Cond.before_iff.mp (hsets _ (List.mem_of_getElem? (i := 11) rfl))
  obtain ⟨le, e1⟩ := exa_v hx
  have ha := Cond.before_iff.mp (hsets _ (List.mem_of_getElem? (i := 12) rfl))
  obtain ⟨ea, e2⟩ := arr_v ha
  obtain ⟨c, A⟩ := Arr.start e2 ha
  have hl := Cond.before_iff.mp (hsets _ (List.mem_of_getElem? (i := 14) rfl))
  have e3 := e2
  rw [fld_at (first := s) (o := none) (idx := []) (args := args) e1] at e3
  refine ⟨le, ea, Sta.start e1 (Or.inl (hsets _ (List.mem_of_getElem? (i := 10) rfl))), Exa.start e1 hx, Fld.start e3, Fld.start (own_ord e1 (Cond.before_iff.mp (hsets _ (List.mem_of_getElem? (i := 15) rfl)))), c, _, A, ?_⟩
  exact own_len0 e2 A hl
set_option maxRecDepth 65536 in
set_option maxHeartbeats 40000000 in
theorem comes_1 {Post : Tables → Env → Array Value → State → Outcome → State → Prop} (hpost : ∀ tb e args s v u, (limb_1_1.after args s (.returned v) u = true ∧ limb_1_2.after args s (.returned v) u = true ∧ True) → Jvm.D.FramedW s (.returned v) u (Jvm.fieldLocs frame_1_writes args s ++ Jvm.arrayLocs frame_1_arrays args s ++ Jvm.staticLocs frame_1_statics s) 32 2176 → Post tb e args s (.returned v) u) :
    ArmFor flags0 classFile x code maxLocals ret World_1 tables_1 room_1 Calls_1 rest_1 Pre_1 Post := by
  intro l hfl _ _ p e ha hc hk s m args below hf hA hF happ hP
  obtain ⟨hcalls, hrest, hpre⟩ := hP
  obtain ⟨-, -, -, hnamed, -, -, -, hat⟩ := (Spec.applies_iff hf).mp happ
  obtain ⟨hg, hn⟩ := and_e (Cond.before_iff.mp (show (Jvm.Cond.and given_1 narrow_1).before args s = true from hpre))
  obtain ⟨gv1, gv2⟩ := and_e hg
  obtain ⟨gv3, gv4⟩ := and_e gv2
  obtain ⟨w0, w1, rfl⟩ : ∃ w0 w1 : Value, args = #[w0, w1] := by
    have hs : args.size = 2 := by simpa [Cond.value, given_1] using gv1
    obtain ⟨L⟩ := args
    match L, hs with
    | [w0, w1], _ => exact ⟨w0, w1, rfl⟩
  have hw := fun d (hd : d ∈ tables_1) => atoms_spec (ws := Jvm.Cond.code x code maxLocals ret :: tables_1) hat d (List.mem_cons_of_mem _ hd)
  obtain ⟨hsets, hown0⟩ := atoms_of _ (rest_1_c_eq ▸ (show rest_1_c.before _ s = true from hrest))
  obtain ⟨i0, ei0⟩ := is_v gv3
  obtain rfl : w0 = (.int i0) := Option.some.inj ei0
  obtain ⟨i1, ei1⟩ := is_v gv4
  obtain rfl : w1 = (.int i1) := Option.some.inj ei1
  have O := Old.start s
  have hcz := own_compact hsets
  obtain ⟨le, ea, HL⟩ := own_list hsets
  have hE : EW s #[(.int i0), (.int i1)] [] := EW.nil
  have hCH : CHv s [] s.vm s.heap := fun _ q => nomatch q
  obtain ⟨n, o, h1, h2, h3, _, L, rfl, ⟨N, -, -, rfl⟩, hq⟩ := c_law (n0 := s.heap.size) ⟨hw, hcz⟩ O hE HL tables_1 p e ha hc hk s m _ below hf ((Spec.applies_iff_loose hf).mp happ).1 ⟨rfl, State.Warmed39.refl s, rfl, fun _ => hCH⟩ trivial
  refine ⟨n, _, h1, h2, h3, hpost _ _ _ _ _ _ ⟨Cond.after_iff.mpr rfl, Cond.after_iff.mpr (eq_i res_at (Term.int_eval (1)) rfl), trivial⟩ ⟨hq.2.1, hq.2.2.1, hq.2.2.2.1, (hq.2.2.2.2.sift fun y hy => Or.inr (N y hy)).mono (Nat.le_of_ble_eq_true rfl) (Nat.le_of_ble_eq_true rfl)⟩⟩
theorem main_1_1 : Claimed_1_1 := comes_1 fun _ _ _ _ _ _ h hF => ⟨h.1, hF⟩
theorem main_1_2 : Claimed_1_2 := comes_1 fun _ _ _ _ _ _ h hF => ⟨h.2.1, hF⟩
end Jvm.Pilot.@@N@@
namespace Jvm.Pilot.@@N@@
open Jvm Jvm.ClassFile Sem Op Lib Jvm.Free Jvm.Stand Jvm.Pilot.@@N@@.Jvm.D
/-! MADE BY PROGRAM (witnessworld.py) out of the Statement's table words and the real class files: 36 classes; the members and pool entries that the words name. The judged class is class 1, her method 1. -/
namespace start1
open Jvm.ClassFile
def u (s : String) : CpInfo := .utf8 (stringToUtf16 s)
/-- a pool by its gaps: so many unusable entries, then the entry; so many at the end -/
def gap : Nat → List CpInfo → List CpInfo
  | 0, r => r
  | n + 1, r => .unusable :: gap n r
def poolList (es : List (Nat × CpInfo)) (last : Nat) : List CpInfo := es.foldr (fun e r => gap e.1 (e.2 :: r)) (gap last [])
def pool (es : List (Nat × CpInfo)) (last : Nat) : Array CpInfo := ⟨poolList es last⟩
def fileOf (pool : Array CpInfo) (this : Nat) (attrs : Array Attribute := #[]) (ms : Array MethodInfo := #[]) (fl : Nat := 33) (sup : Nat := 0) (ifs : Array Nat := #[]) (fds : Array FieldInfo := #[]) : ClassFile where
  minorVersion := 0
  majorVersion := 65
  constantPool := pool
  accessFlags := fl
  thisClass := this
  superClass := sup
  interfaces := ifs
  fields := fds
  methods := ms
  attributes := attrs
def plain (name : String) (sup : Option ClassId) : Class where
  name := name
  kind := .ordinary
  loader := none
  accessFlags := 33
  super := sup
  interfaces := #[]
  cf := none
  fields := #[]
  methods := #[]
  instanceTypes := #[]
  staticTypes := #[]
  resolved := #[]
  callSites := []
  init := .initialized
  statics := none
  mirror := none

def pool0 : Array CpInfo := pool [(5, u "<init>"), (0, u "()V"), (1, .class_ 10), (1, u "java/lang/Object")] 113

def k0c0 : Code := { maxStack := 0, maxLocals := 1, code := object_method_1_code, exceptionTable := #[], attributes := #[] }
def k0m0 : Method := { name := "<init>", desc := "()V", sig := { parameters := [], returnType := none }, accessFlags := 1, code := some k0c0 }
/-- java/lang/Object -/
def k0 : Class := { plain "java/lang/Object" none with
  accessFlags := 33
  interfaces := #[]
  cf := some (fileOf pool0 8 #[] #[{ accessFlags := 1, nameIndex := 5, descriptorIndex := 6, attributes := #[] }] 33 0 #[] #[])
  fields := #[]
  methods := #[k0m0]
  instanceTypes := #[]
  staticTypes := #[]
  resolved := Array.replicate 124 none
  statics := none }

def pool1 : Array CpInfo := pool [(2, .class_ 4), (1, u "java/lang/Object"), (0, u "<init>"), (0, u "()V"), (0, .methodref 8 9), (0, .class_ 10), (0, .nameAndType 11 12), (0, u "java/lang/String"), (0, u "valueOf"), (0, u "(C)Ljava/lang/String;"), (0, .methodref 14 15), (0, .class_ 16), (0, .nameAndType 17 18), (0, u "com/example/tiny_resolver/tinyresolver/term/Application"), (0, u "constant"), (0, u "(Ljava/lang/String;)Lcom/example/tiny_resolver/tinyresolver/term/Application;"), (0, .class_ 20), (0, u "com/example/tiny_resolver/tinyresolver/clause/Literal"), (0, .methodref 19 22), (0, .nameAndType 5 23), (0, u "(ZLcom/example/tiny_resolver/tinyresolver/term/Application;)V"), (0, .methodref 19 25), (0, .nameAndType 26 27), (0, u "negated"), (0, u "()Lcom/example/tiny_resolver/tinyresolver/clause/Literal;"), (0, .methodref 19 29), (0, .nameAndType 30 31), (0, u "positive"), (0, u "()Z"), (0, .methodref 19 33), (0, .nameAndType 34 35), (0, u "atom"), (0, u "()Lcom/example/tiny_resolver/tinyresolver/term/Application;"), (0, .class_ 37), (0, u "com/example/tiny_resolver/tinyresolver/clause/LiteralNegatedPinLaw"), (2, u "law"), (0, u "(II)Z")] 3

def k1m0 : Method := { name := "<init>", desc := "()V", sig := { parameters := [], returnType := none }, accessFlags := 2, code := none }
def k1c1 : Code := { maxStack := 4, maxLocals := 12, code := code, exceptionTable := #[], attributes := #[] }
def k1m1 : Method := { name := "law", desc := "(II)Z", sig := { parameters := [.int, .int], returnType := some .boolean }, accessFlags := 9, code := some k1c1 }
/-- com/example/tiny_resolver/tinyresolver/clause/LiteralNegatedPinLaw -/
def k1 : Class := { plain "com/example/tiny_resolver/tinyresolver/clause/LiteralNegatedPinLaw" (some 0) with
  accessFlags := 49
  interfaces := #[]
  cf := some (fileOf pool1 36 #[] #[{ accessFlags := 2, nameIndex := 5, descriptorIndex := 6, attributes := #[] }, { accessFlags := 9, nameIndex := 40, descriptorIndex := 41, attributes := #[] }] 49 2 #[] #[])
  fields := #[]
  methods := #[k1m0, k1m1]
  instanceTypes := #[]
  staticTypes := #[]
  resolved := Array.replicate 45 none
  statics := none }

def pool2 : Array CpInfo := pool [(1, .class_ 2), (0, u "java/io/Serializable"), (0, .class_ 4), (0, u "java/lang/Object")] 2

/-- java/io/Serializable -/
def k2 : Class := { plain "java/io/Serializable" (some 0) with
  accessFlags := 1537
  interfaces := #[]
  cf := some (fileOf pool2 1 #[] #[] 1537 3 #[] #[])
  fields := #[]
  methods := #[]
  instanceTypes := #[]
  staticTypes := #[]
  resolved := Array.replicate 7 none
  statics := none }

def pool3 : Array CpInfo := pool [(1, .class_ 2), (0, u "java/lang/Comparable"), (0, .class_ 4), (0, u "java/lang/Object")] 7

/-- java/lang/Comparable -/
def k3 : Class := { plain "java/lang/Comparable" (some 0) with
  accessFlags := 1537
  interfaces := #[]
  cf := some (fileOf pool3 1 #[] #[] 1537 3 #[] #[])
  fields := #[]
  methods := #[]
  instanceTypes := #[]
  staticTypes := #[]
  resolved := Array.replicate 12 none
  statics := none }

def pool4 : Array CpInfo := pool [(2, .class_ 4), (1, u "java/lang/CharSequence"), (42, .class_ 48), (0, u "java/lang/CharSequence$1CodePointIterator"), (10, .class_ 60), (0, u "java/lang/CharSequence$1CharIterator"), (5, .class_ 67), (0, u "java/lang/Object")] 63

/-- java/lang/CharSequence -/
def k4 : Class := { plain "java/lang/CharSequence" (some 0) with
  accessFlags := 1537
  interfaces := #[]
  cf := some (fileOf pool4 2 #[.nestMembers #[47, 59]] #[] 1537 66 #[] #[])
  fields := #[]
  methods := #[]
  instanceTypes := #[]
  staticTypes := #[]
  resolved := Array.replicate 131 none
  statics := none }

def pool5 : Array CpInfo := pool [(1, .class_ 2), (0, u "java/lang/constant/Constable"), (0, .class_ 4), (0, u "java/lang/Object")] 6

/-- java/lang/constant/Constable -/
def k5 : Class := { plain "java/lang/constant/Constable" (some 0) with
  accessFlags := 1537
  interfaces := #[]
  cf := some (fileOf pool5 1 #[] #[] 1537 3 #[] #[])
  fields := #[]
  methods := #[]
  instanceTypes := #[]
  staticTypes := #[]
  resolved := Array.replicate 11 none
  statics := none }

def pool6 : Array CpInfo := pool [(1, .class_ 2), (0, u "java/lang/constant/ConstantDesc"), (0, .class_ 4), (0, u "java/lang/Object")] 32

/-- java/lang/constant/ConstantDesc -/
def k6 : Class := { plain "java/lang/constant/ConstantDesc" (some 0) with
  accessFlags := 1537
  interfaces := #[]
  cf := some (fileOf pool6 1 #[] #[] 1537 3 #[] #[])
  fields := #[]
  methods := #[]
  instanceTypes := #[]
  staticTypes := #[]
  resolved := Array.replicate 37 none
  statics := none }

def pool7 : Array CpInfo := pool [(1, .methodref 2 3), (0, .class_ 4), (0, .nameAndType 5 6), (0, u "java/lang/Object"), (0, u "<init>"), (0, u "()V"), (2, .fieldref 10 11), (0, .class_ 12), (0, .nameAndType 13 14), (0, u "java/lang/String"), (0, u "value"), (0, u "[B"), (0, .fieldref 10 16), (0, .nameAndType 17 18), (0, u "coder"), (0, u "B"), (0, .fieldref 10 20), (0, .nameAndType 21 22), (0, u "hash"), (0, u "I"), (0, .fieldref 10 24), (0, .nameAndType 25 26), (0, u "hashIsZero"), (0, u "Z"), (11, .fieldref 10 39), (0, .nameAndType 40 26), (0, u "COMPACT_STRINGS"), (12, u "toBytes"), (53, .class_ 109), (1, u "java/lang/StringLatin1"), (32, u "()Z"), (66, .methodref 10 210), (0, .nameAndType 5 211), (0, u "([BB)V"), (122, u "()I"), (34, u "(C)Z"), (122, .methodref 10 493), (0, .nameAndType 494 142), (0, u "isLatin1"), (80, .class_ 576), (0, u "java/lang/CharSequence"), (22, u "CASE_INSENSITIVE_ORDER"), (0, u "Ljava/util/Comparator;"), (27, .methodref 107 629), (0, .nameAndType 630 631), (0, u "hashCode"), (0, u "([B)I"), (150, u "valueOf"), (0, u "(C)Ljava/lang/String;"), (231, .methodref 107 1016), (0, .nameAndType 1017 369), (0, u "canEncode"), (0, .methodref 107 1019), (0, .nameAndType 53 1020), (0, u "(C)[B"), (80, u "serialPersistentFields"), (0, u "[Ljava/io/ObjectStreamField;"), (0, .class_ 1104), (0, u "java/lang/String$CaseInsensitiveComparator"), (1, .class_ 1107), (0, u "java/io/Serializable"), (0, .class_ 1109), (0, u "java/lang/Comparable"), (0, .class_ 1111), (0, u "java/lang/constant/Constable"), (0, .class_ 1113), (0, u "java/lang/constant/ConstantDesc"), (2, u "serialVersionUID"), (0, u "J"), (3, u "REPL"), (0, u "C"), (2, u "LATIN1"), (1, u "UTF16")] 323

def k7m0 : Method := { name := "<init>", desc := "()V", sig := { parameters := [], returnType := none }, accessFlags := 1, code := none }
def k7c1 : Code := { maxStack := 2, maxLocals := 2, code := jdk_42_method_78_code, exceptionTable := #[], attributes := #[] }
def k7m1 : Method := { name := "hashCode", desc := "()I", sig := { parameters := [], returnType := some .int }, accessFlags := 1, code := some k7c1 }
def k7c2 : Code := { maxStack := 4, maxLocals := 1, code := jdk_42_method_139_code, exceptionTable := #[], attributes := #[] }
def k7m2 : Method := { name := "valueOf", desc := "(C)Ljava/lang/String;", sig := { parameters := [.char], returnType := some (.object "java/lang/String") }, accessFlags := 9, code := some k7c2 }
def k7c3 : Code := { maxStack := 2, maxLocals := 3, code := jdk_42_method_151_code, exceptionTable := #[], attributes := #[] }
def k7m3 : Method := { name := "<init>", desc := "([BB)V", sig := { parameters := [(.array .byte), .byte], returnType := none }, accessFlags := 0, code := some k7c3 }
def k7c4 : Code := { maxStack := 1, maxLocals := 1, code := jdk_42_method_154_code, exceptionTable := #[], attributes := #[] }
def k7m4 : Method := { name := "isLatin1", desc := "()Z", sig := { parameters := [], returnType := some .boolean }, accessFlags := 0, code := some k7c4 }
/-- java/lang/String -/
def k7 : Class := { plain "java/lang/String" (some 0) with
  accessFlags := 49
  interfaces := #[2, 3, 4, 5, 6]
  cf := some (fileOf pool7 10 #[.nestMembers #[1103]] #[{ accessFlags := 1, nameIndex := 5, descriptorIndex := 6, attributes := #[] }, { accessFlags := 1, nameIndex := 630, descriptorIndex := 334, attributes := #[] }, { accessFlags := 9, nameIndex := 782, descriptorIndex := 783, attributes := #[] }, { accessFlags := 0, nameIndex := 5, descriptorIndex := 211, attributes := #[] }, { accessFlags := 0, nameIndex := 494, descriptorIndex := 142, attributes := #[] }] 49 2 #[1106, 1108, 575, 1110, 1112] #[{ accessFlags := 18, nameIndex := 13, descriptorIndex := 14, attributes := #[] }, { accessFlags := 18, nameIndex := 17, descriptorIndex := 18, attributes := #[] }, { accessFlags := 2, nameIndex := 21, descriptorIndex := 22, attributes := #[] }, { accessFlags := 2, nameIndex := 25, descriptorIndex := 26, attributes := #[] }, { accessFlags := 26, nameIndex := 1116, descriptorIndex := 1117, attributes := #[] }, { accessFlags := 24, nameIndex := 40, descriptorIndex := 26, attributes := #[] }, { accessFlags := 26, nameIndex := 1101, descriptorIndex := 1102, attributes := #[] }, { accessFlags := 26, nameIndex := 1121, descriptorIndex := 1122, attributes := #[] }, { accessFlags := 25, nameIndex := 599, descriptorIndex := 600, attributes := #[] }, { accessFlags := 24, nameIndex := 1125, descriptorIndex := 18, attributes := #[] }, { accessFlags := 24, nameIndex := 1127, descriptorIndex := 18, attributes := #[] }])
  fields := #[{ name := "value", type := (.array .byte), accessFlags := 18, slot := 0, constantValue := 0 }, { name := "coder", type := .byte, accessFlags := 18, slot := 1, constantValue := 0 }, { name := "hash", type := .int, accessFlags := 2, slot := 2, constantValue := 0 }, { name := "hashIsZero", type := .boolean, accessFlags := 2, slot := 3, constantValue := 0 }, { name := "serialVersionUID", type := .long, accessFlags := 26, slot := 0, constantValue := 0 }, { name := "COMPACT_STRINGS", type := .boolean, accessFlags := 24, slot := 1, constantValue := 0 }, { name := "serialPersistentFields", type := (.array (.object "java/io/ObjectStreamField")), accessFlags := 26, slot := 2, constantValue := 0 }, { name := "REPL", type := .char, accessFlags := 26, slot := 3, constantValue := 0 }, { name := "CASE_INSENSITIVE_ORDER", type := (.object "java/util/Comparator"), accessFlags := 25, slot := 4, constantValue := 0 }, { name := "LATIN1", type := .byte, accessFlags := 24, slot := 5, constantValue := 0 }, { name := "UTF16", type := .byte, accessFlags := 24, slot := 6, constantValue := 0 }]
  methods := #[k7m0, k7m1, k7m2, k7m3, k7m4]
  instanceTypes := #[(.array .byte), .byte, .int, .boolean]
  staticTypes := #[.long, .boolean, (.array (.object "java/io/ObjectStreamField")), .char, (.object "java/util/Comparator"), .byte, .byte]
  resolved := Array.replicate 1451 none
  statics := some 0 }

def pool8 : Array CpInfo := pool [(4, .class_ 6), (1, u "java/lang/Object"), (0, u "<init>"), (0, u "()V"), (5, .class_ 16), (1, u "java/lang/StringLatin1"), (40, u "([B)I"), (32, u "canEncode"), (14, u "(C)Z"), (15, u "$assertionsDisabled"), (0, u "Z"), (98, .class_ 223), (1, u "java/lang/StringLatin1$LinesSpliterator"), (74, u "hashCode"), (81, u "toBytes"), (1, u "(C)[B"), (7, .class_ 391), (0, u "java/lang/StringLatin1$CharsSpliterator")] 3

def k8m0 : Method := { name := "<init>", desc := "()V", sig := { parameters := [], returnType := none }, accessFlags := 0, code := none }
def k8c1 : Code := { maxStack := 2, maxLocals := 1, code := jdk_43_method_3_code, exceptionTable := #[], attributes := #[] }
def k8m1 : Method := { name := "canEncode", desc := "(C)Z", sig := { parameters := [.char], returnType := some .boolean }, accessFlags := 9, code := some k8c1 }
def k8c2 : Code := { maxStack := 5, maxLocals := 1, code := jdk_43_method_21_code, exceptionTable := #[], attributes := #[] }
def k8m2 : Method := { name := "hashCode", desc := "([B)I", sig := { parameters := [(.array .byte)], returnType := some .int }, accessFlags := 9, code := some k8c2 }
def k8c3 : Code := { maxStack := 4, maxLocals := 1, code := jdk_43_method_46_code, exceptionTable := #[], attributes := #[] }
def k8m3 : Method := { name := "toBytes", desc := "(C)[B", sig := { parameters := [.char], returnType := some (.array .byte) }, accessFlags := 9, code := some k8c3 }
/-- java/lang/StringLatin1 -/
def k8 : Class := { plain "java/lang/StringLatin1" (some 0) with
  accessFlags := 48
  interfaces := #[]
  cf := some (fileOf pool8 14 #[.nestMembers #[390, 221]] #[{ accessFlags := 0, nameIndex := 7, descriptorIndex := 8, attributes := #[] }, { accessFlags := 9, nameIndex := 90, descriptorIndex := 105, attributes := #[] }, { accessFlags := 9, nameIndex := 298, descriptorIndex := 57, attributes := #[] }, { accessFlags := 9, nameIndex := 380, descriptorIndex := 382, attributes := #[] }] 48 4 #[] #[{ accessFlags := 4120, nameIndex := 121, descriptorIndex := 122, attributes := #[] }])
  fields := #[{ name := "$assertionsDisabled", type := .boolean, accessFlags := 4120, slot := 0, constantValue := 0 }]
  methods := #[k8m0, k8m1, k8m2, k8m3]
  instanceTypes := #[]
  staticTypes := #[.boolean]
  resolved := Array.replicate 395 none
  statics := none }

def pool9 : Array CpInfo := pool [(1, .class_ 2), (0, u "com/example/tiny_resolver/tinyresolver/term/Term"), (0, .class_ 4), (0, u "java/lang/Object")] 13

/-- com/example/tiny_resolver/tinyresolver/term/Term -/
def k9 : Class := { plain "com/example/tiny_resolver/tinyresolver/term/Term" (some 0) with
  accessFlags := 1537
  interfaces := #[]
  cf := some (fileOf pool9 1 #[] #[] 1537 3 #[] #[])
  fields := #[]
  methods := #[]
  instanceTypes := #[]
  staticTypes := #[]
  resolved := Array.replicate 18 none
  statics := none }

def pool10 : Array CpInfo := pool [(1, .methodref 2 3), (0, .class_ 4), (0, .nameAndType 5 6), (0, u "java/lang/Object"), (0, u "<init>"), (0, u "()V"), (0, .string 8), (0, u "symbol"), (0, .methodref 10 11), (0, .class_ 12), (0, .nameAndType 13 14), (0, u "java/util/Objects"), (0, u "requireNonNull"), (0, u "(Ljava/lang/Object;Ljava/lang/String;)Ljava/lang/Object;"), (0, .class_ 16), (0, u "java/lang/String"), (0, .fieldref 18 19), (0, .class_ 20), (0, .nameAndType 8 21), (0, u "com/example/tiny_resolver/tinyresolver/term/Application"), (0, u "Ljava/lang/String;"), (0, .interfaceMethodref 23 24), (0, .class_ 25), (0, .nameAndType 26 27), (0, u "java/util/List"), (0, u "copyOf"), (0, u "(Ljava/util/Collection;)Ljava/util/List;"), (0, .fieldref 18 29), (0, .nameAndType 30 31), (0, u "arguments"), (0, u "Ljava/util/List;"), (0, .interfaceMethodref 23 33), (0, .nameAndType 34 35), (0, u "iterator"), (0, u "()Ljava/util/Iterator;"), (0, .interfaceMethodref 37 38), (0, .class_ 39), (0, .nameAndType 40 41), (0, u "java/util/Iterator"), (0, u "hasNext"), (0, u "()Z"), (4, .class_ 47), (0, u "com/example/tiny_resolver/tinyresolver/term/Term"), (2, u "size"), (0, u "()I"), (0, .fieldref 18 53), (0, .nameAndType 50 54), (0, u "I"), (0, .methodref 15 56), (0, .nameAndType 57 51), (0, u "hashCode"), (0, .interfaceMethodref 23 56), (0, .fieldref 18 60), (0, .nameAndType 61 54), (0, u "hash"), (0, .interfaceMethodref 23 63), (0, .nameAndType 64 65), (0, u "of"), (0, u "()Ljava/util/List;"), (0, .methodref 18 67), (0, .nameAndType 5 68), (0, u "(Ljava/lang/String;Ljava/util/List;)V"), (72, u "constant"), (0, u "(Ljava/lang/String;)Lcom/example/tiny_resolver/tinyresolver/term/Application;")] 7

def k10c0 : Code := { maxStack := 3, maxLocals := 6, code := prog_46_method_1_code, exceptionTable := #[], attributes := #[] }
def k10m0 : Method := { name := "<init>", desc := "(Ljava/lang/String;Ljava/util/List;)V", sig := { parameters := [(.object "java/lang/String"), (.object "java/util/List")], returnType := none }, accessFlags := 1, code := some k10c0 }
def k10c1 : Code := { maxStack := 4, maxLocals := 1, code := prog_46_method_2_code, exceptionTable := #[], attributes := #[] }
def k10m1 : Method := { name := "constant", desc := "(Ljava/lang/String;)Lcom/example/tiny_resolver/tinyresolver/term/Application;", sig := { parameters := [(.object "java/lang/String")], returnType := some (.object "com/example/tiny_resolver/tinyresolver/term/Application") }, accessFlags := 9, code := some k10c1 }
/-- com/example/tiny_resolver/tinyresolver/term/Application -/
def k10 : Class := { plain "com/example/tiny_resolver/tinyresolver/term/Application" (some 0) with
  accessFlags := 49
  interfaces := #[9]
  cf := some (fileOf pool10 18 #[] #[{ accessFlags := 1, nameIndex := 5, descriptorIndex := 68, attributes := #[] }, { accessFlags := 9, nameIndex := 141, descriptorIndex := 142, attributes := #[] }] 49 2 #[46] #[{ accessFlags := 18, nameIndex := 8, descriptorIndex := 21, attributes := #[] }, { accessFlags := 18, nameIndex := 30, descriptorIndex := 31, attributes := #[] }, { accessFlags := 18, nameIndex := 50, descriptorIndex := 54, attributes := #[] }, { accessFlags := 18, nameIndex := 61, descriptorIndex := 54, attributes := #[] }])
  fields := #[{ name := "symbol", type := (.object "java/lang/String"), accessFlags := 18, slot := 0, constantValue := 0 }, { name := "arguments", type := (.object "java/util/List"), accessFlags := 18, slot := 1, constantValue := 0 }, { name := "size", type := .int, accessFlags := 18, slot := 2, constantValue := 0 }, { name := "hash", type := .int, accessFlags := 18, slot := 3, constantValue := 0 }]
  methods := #[k10m0, k10m1]
  instanceTypes := #[(.object "java/lang/String"), (.object "java/util/List"), .int, .int]
  staticTypes := #[]
  resolved := Array.replicate 150 none
  statics := none }

def pool11 : Array CpInfo := pool [(8, .class_ 10), (1, u "java/lang/Iterable"), (24, .class_ 36), (0, u "java/lang/Object")] 25

/-- java/lang/Iterable -/
def k11 : Class := { plain "java/lang/Iterable" (some 0) with
  accessFlags := 1537
  interfaces := #[]
  cf := some (fileOf pool11 8 #[] #[] 1537 35 #[] #[])
  fields := #[]
  methods := #[]
  instanceTypes := #[]
  staticTypes := #[]
  resolved := Array.replicate 62 none
  statics := none }

def pool12 : Array CpInfo := pool [(10, .class_ 12), (1, u "java/util/Collection"), (47, .class_ 61), (0, u "java/lang/Object"), (0, .class_ 63), (0, u "java/lang/Iterable")] 51

/-- java/util/Collection -/
def k12 : Class := { plain "java/util/Collection" (some 0) with
  accessFlags := 1537
  interfaces := #[11]
  cf := some (fileOf pool12 10 #[] #[] 1537 60 #[62] #[])
  fields := #[]
  methods := #[]
  instanceTypes := #[]
  staticTypes := #[]
  resolved := Array.replicate 115 none
  statics := none }

def pool13 : Array CpInfo := pool [(8, .class_ 10), (1, u "java/util/SequencedCollection"), (15, .class_ 27), (0, u "java/lang/Object"), (0, .class_ 29), (0, u "java/util/Collection")] 27

/-- java/util/SequencedCollection -/
def k13 : Class := { plain "java/util/SequencedCollection" (some 0) with
  accessFlags := 1537
  interfaces := #[12]
  cf := some (fileOf pool13 8 #[] #[] 1537 26 #[28] #[])
  fields := #[]
  methods := #[]
  instanceTypes := #[]
  staticTypes := #[]
  resolved := Array.replicate 57 none
  statics := none }

def pool14 : Array CpInfo := pool [(8, .class_ 10), (1, u "java/util/List"), (69, u "()I"), (7, u "of"), (1, .fieldref 91 92), (0, .class_ 93), (0, .nameAndType 94 95), (0, u "java/util/ImmutableCollections"), (0, u "EMPTY_LIST"), (0, u "Ljava/util/ImmutableCollections$ListN;"), (7, .class_ 104), (0, u "java/lang/Object"), (7, .methodref 91 113), (0, .nameAndType 114 115), (0, u "listCopy"), (0, u "(Ljava/util/Collection;)Ljava/util/List;"), (3, u "()Ljava/util/List;"), (0, .class_ 121), (0, u "java/util/SequencedCollection"), (1, u "iterator"), (0, u "()Ljava/util/Iterator;"), (46, u "hashCode"), (62, u "copyOf")] 16

def k14m0 : Method := { name := "iterator", desc := "()Ljava/util/Iterator;", sig := { parameters := [], returnType := some (.object "java/util/Iterator") }, accessFlags := 1025, code := none }
def k14m1 : Method := { name := "hashCode", desc := "()I", sig := { parameters := [], returnType := some .int }, accessFlags := 1025, code := none }
def k14c2 : Code := { maxStack := 1, maxLocals := 0, code := jdk_40_method_36_code, exceptionTable := #[], attributes := #[] }
def k14m2 : Method := { name := "of", desc := "()Ljava/util/List;", sig := { parameters := [], returnType := some (.object "java/util/List") }, accessFlags := 9, code := some k14c2 }
def k14c3 : Code := { maxStack := 1, maxLocals := 1, code := jdk_40_method_48_code, exceptionTable := #[], attributes := #[] }
def k14m3 : Method := { name := "copyOf", desc := "(Ljava/util/Collection;)Ljava/util/List;", sig := { parameters := [(.object "java/util/Collection")], returnType := some (.object "java/util/List") }, accessFlags := 9, code := some k14c3 }
/-- java/util/List -/
def k14 : Class := { plain "java/util/List" (some 0) with
  accessFlags := 1537
  interfaces := #[13]
  cf := some (fileOf pool14 8 #[] #[{ accessFlags := 1025, nameIndex := 123, descriptorIndex := 124, attributes := #[] }, { accessFlags := 1025, nameIndex := 171, descriptorIndex := 80, attributes := #[] }, { accessFlags := 9, nameIndex := 88, descriptorIndex := 119, attributes := #[] }, { accessFlags := 9, nameIndex := 234, descriptorIndex := 115, attributes := #[] }] 1537 103 #[120] #[])
  fields := #[]
  methods := #[k14m0, k14m1, k14m2, k14m3]
  instanceTypes := #[]
  staticTypes := #[]
  resolved := Array.replicate 251 none
  statics := none }

def pool15 : Array CpInfo := pool [(2, .class_ 4), (1, u "java/lang/Object"), (0, u "<init>"), (0, u "()V"), (3, .class_ 11), (0, u "java/util/ImmutableCollections$List12"), (0, .class_ 13), (0, u "java/util/ImmutableCollections$ListN"), (0, .fieldref 12 15), (0, .nameAndType 16 17), (0, u "allowNulls"), (0, u "Z"), (0, .class_ 19), (0, u "java/util/List"), (27, .class_ 49), (1, u "java/util/ImmutableCollections"), (0, u "$assertionsDisabled"), (5, u "[Ljava/lang/Object;"), (5, u "EMPTY_LIST"), (0, u "Ljava/util/ImmutableCollections$ListN;"), (8, u "EMPTY_LIST_NULLS"), (22, u "SALT32L"), (0, u "J"), (2, u "REVERSE"), (6, u "archivedObjects"), (2, u "EMPTY"), (0, u "Ljava/lang/Object;"), (0, .class_ 112), (0, u "java/util/ImmutableCollections$SetN"), (5, u "EMPTY_SET"), (0, u "Ljava/util/ImmutableCollections$SetN;"), (0, .class_ 121), (0, u "java/util/ImmutableCollections$MapN"), (3, u "EMPTY_MAP"), (0, u "Ljava/util/ImmutableCollections$MapN;"), (4, u "EXPAND_FACTOR"), (0, u "I"), (9, u "listCopy"), (0, u "(Ljava/util/Collection;)Ljava/util/List;"), (25, .class_ 170), (0, u "java/util/ImmutableCollections$MapN$MapNIterator"), (0, .class_ 172), (0, u "java/util/ImmutableCollections$MapN$1"), (0, .class_ 174), (0, u "java/util/ImmutableCollections$Map1"), (0, .class_ 176), (0, u "java/util/ImmutableCollections$AbstractImmutableMap"), (0, .class_ 178), (0, u "java/util/ImmutableCollections$SetN$SetNIterator"), (0, .class_ 180), (0, u "java/util/ImmutableCollections$Set12"), (0, .class_ 182), (0, u "java/util/ImmutableCollections$Set12$1"), (0, .class_ 184), (0, u "java/util/ImmutableCollections$AbstractImmutableSet"), (0, .class_ 186), (0, u "java/util/ImmutableCollections$SubList"), (0, .class_ 188), (0, u "java/util/ImmutableCollections$ListItr"), (0, .class_ 190), (0, u "java/util/ImmutableCollections$AbstractImmutableList"), (0, .class_ 192), (0, u "java/util/ImmutableCollections$AbstractImmutableCollection"), (0, .class_ 194), (0, u "java/util/ImmutableCollections$Access"), (0, .class_ 196), (0, u "java/util/ImmutableCollections$Access$1")] 16

def k15m0 : Method := { name := "<init>", desc := "()V", sig := { parameters := [], returnType := none }, accessFlags := 2, code := none }
def k15c1 : Code := { maxStack := 1, maxLocals := 2, code := jdk_56_method_3_code, exceptionTable := #[], attributes := #[] }
def k15m1 : Method := { name := "listCopy", desc := "(Ljava/util/Collection;)Ljava/util/List;", sig := { parameters := [(.object "java/util/Collection")], returnType := some (.object "java/util/List") }, accessFlags := 8, code := some k15c1 }
/-- java/util/ImmutableCollections -/
def k15 : Class := { plain "java/util/ImmutableCollections" (some 0) with
  accessFlags := 32
  interfaces := #[]
  cf := some (fileOf pool15 47 #[.nestMembers #[120, 169, 171, 173, 175, 111, 177, 179, 181, 183, 12, 10, 185, 187, 189, 191, 193, 195]] #[{ accessFlags := 2, nameIndex := 5, descriptorIndex := 6, attributes := #[] }, { accessFlags := 8, nameIndex := 142, descriptorIndex := 143, attributes := #[] }] 32 2 #[] #[{ accessFlags := 26, nameIndex := 95, descriptorIndex := 96, attributes := #[] }, { accessFlags := 26, nameIndex := 99, descriptorIndex := 17, attributes := #[] }, { accessFlags := 10, nameIndex := 106, descriptorIndex := 56, attributes := #[] }, { accessFlags := 26, nameIndex := 109, descriptorIndex := 110, attributes := #[] }, { accessFlags := 24, nameIndex := 62, descriptorIndex := 63, attributes := #[] }, { accessFlags := 24, nameIndex := 72, descriptorIndex := 63, attributes := #[] }, { accessFlags := 24, nameIndex := 118, descriptorIndex := 119, attributes := #[] }, { accessFlags := 24, nameIndex := 125, descriptorIndex := 126, attributes := #[] }, { accessFlags := 24, nameIndex := 131, descriptorIndex := 132, attributes := #[] }, { accessFlags := 4120, nameIndex := 50, descriptorIndex := 17, attributes := #[] }])
  fields := #[{ name := "SALT32L", type := .long, accessFlags := 26, slot := 0, constantValue := 0 }, { name := "REVERSE", type := .boolean, accessFlags := 26, slot := 1, constantValue := 0 }, { name := "archivedObjects", type := (.array (.object "java/lang/Object")), accessFlags := 10, slot := 2, constantValue := 0 }, { name := "EMPTY", type := (.object "java/lang/Object"), accessFlags := 26, slot := 3, constantValue := 0 }, { name := "EMPTY_LIST", type := (.object "java/util/ImmutableCollections$ListN"), accessFlags := 24, slot := 4, constantValue := 0 }, { name := "EMPTY_LIST_NULLS", type := (.object "java/util/ImmutableCollections$ListN"), accessFlags := 24, slot := 5, constantValue := 0 }, { name := "EMPTY_SET", type := (.object "java/util/ImmutableCollections$SetN"), accessFlags := 24, slot := 6, constantValue := 0 }, { name := "EMPTY_MAP", type := (.object "java/util/ImmutableCollections$MapN"), accessFlags := 24, slot := 7, constantValue := 0 }, { name := "EXPAND_FACTOR", type := .int, accessFlags := 24, slot := 8, constantValue := 0 }, { name := "$assertionsDisabled", type := .boolean, accessFlags := 4120, slot := 9, constantValue := 0 }]
  methods := #[k15m0, k15m1]
  instanceTypes := #[]
  staticTypes := #[.long, .boolean, (.array (.object "java/lang/Object")), (.object "java/lang/Object"), (.object "java/util/ImmutableCollections$ListN"), (.object "java/util/ImmutableCollections$ListN"), (.object "java/util/ImmutableCollections$SetN"), (.object "java/util/ImmutableCollections$MapN"), .int, .boolean]
  resolved := Array.replicate 213 none
  statics := some 1 }

def pool16 : Array CpInfo := pool [(2, .class_ 4), (1, u "java/lang/Object"), (0, u "<init>"), (0, u "()V"), (35, .class_ 44), (1, u "java/util/Objects"), (0, u "requireNonNull"), (48, u "(Ljava/lang/Object;Ljava/lang/String;)Ljava/lang/Object;")] 89

def k16m0 : Method := { name := "<init>", desc := "()V", sig := { parameters := [], returnType := none }, accessFlags := 2, code := none }
def k16c1 : Code := { maxStack := 3, maxLocals := 2, code := jdk_31_method_11_code, exceptionTable := #[], attributes := #[] }
def k16m1 : Method := { name := "requireNonNull", desc := "(Ljava/lang/Object;Ljava/lang/String;)Ljava/lang/Object;", sig := { parameters := [(.object "java/lang/Object"), (.object "java/lang/String")], returnType := some (.object "java/lang/Object") }, accessFlags := 9, code := some k16c1 }
/-- java/util/Objects -/
def k16 : Class := { plain "java/util/Objects" (some 0) with
  accessFlags := 49
  interfaces := #[]
  cf := some (fileOf pool16 42 #[] #[{ accessFlags := 2, nameIndex := 5, descriptorIndex := 6, attributes := #[] }, { accessFlags := 9, nameIndex := 45, descriptorIndex := 94, attributes := #[] }] 49 2 #[] #[])
  fields := #[]
  methods := #[k16m0, k16m1]
  instanceTypes := #[]
  staticTypes := #[]
  resolved := Array.replicate 184 none
  statics := none }

def pool17 : Array CpInfo := pool [(2, .class_ 4), (1, u "java/lang/Object"), (0, u "<init>"), (0, u "()V"), (1, .class_ 10), (1, u "java/util/AbstractCollection"), (0, u "size"), (0, u "()I"), (64, .class_ 78), (0, u "java/util/Collection")] 81

def k17m0 : Method := { name := "<init>", desc := "()V", sig := { parameters := [], returnType := none }, accessFlags := 4, code := none }
def k17m1 : Method := { name := "size", desc := "()I", sig := { parameters := [], returnType := some .int }, accessFlags := 1025, code := none }
/-- java/util/AbstractCollection -/
def k17 : Class := { plain "java/util/AbstractCollection" (some 0) with
  accessFlags := 1057
  interfaces := #[12]
  cf := some (fileOf pool17 8 #[] #[{ accessFlags := 4, nameIndex := 5, descriptorIndex := 6, attributes := #[] }, { accessFlags := 1025, nameIndex := 11, descriptorIndex := 12, attributes := #[] }] 1057 2 #[77] #[])
  fields := #[]
  methods := #[k17m0, k17m1]
  instanceTypes := #[]
  staticTypes := #[]
  resolved := Array.replicate 160 none
  statics := none }

def pool18 : Array CpInfo := pool [(2, .class_ 4), (1, u "java/util/AbstractCollection"), (0, u "<init>"), (0, u "()V"), (1, .class_ 10), (1, u "java/util/ImmutableCollections"), (2, .class_ 14), (0, u "java/util/ImmutableCollections$AbstractImmutableCollection")] 41

def k18m0 : Method := { name := "<init>", desc := "()V", sig := { parameters := [], returnType := none }, accessFlags := 0, code := none }
/-- java/util/ImmutableCollections$AbstractImmutableCollection -/
def k18 : Class := { plain "java/util/ImmutableCollections$AbstractImmutableCollection" (some 17) with
  accessFlags := 1056
  interfaces := #[]
  cf := some (fileOf pool18 13 #[.nestHost 8] #[{ accessFlags := 0, nameIndex := 5, descriptorIndex := 6, attributes := #[] }] 1056 2 #[] #[])
  fields := #[]
  methods := #[k18m0]
  instanceTypes := #[]
  staticTypes := #[]
  resolved := Array.replicate 56 none
  statics := none }

def pool19 : Array CpInfo := pool [(1, .class_ 2), (0, u "java/util/RandomAccess"), (0, .class_ 4), (0, u "java/lang/Object")] 2

/-- java/util/RandomAccess -/
def k19 : Class := { plain "java/util/RandomAccess" (some 0) with
  accessFlags := 1537
  interfaces := #[]
  cf := some (fileOf pool19 1 #[] #[] 1537 3 #[] #[])
  fields := #[]
  methods := #[]
  instanceTypes := #[]
  staticTypes := #[]
  resolved := Array.replicate 7 none
  statics := none }

def pool20 : Array CpInfo := pool [(2, .class_ 4), (1, u "java/util/ImmutableCollections$AbstractImmutableCollection"), (0, u "<init>"), (0, u "()V"), (1, .class_ 10), (1, u "java/util/ImmutableCollections"), (2, .methodref 14 15), (0, .class_ 16), (0, .nameAndType 17 18), (0, u "java/util/ImmutableCollections$AbstractImmutableList"), (0, u "size"), (0, u "()I"), (42, .class_ 62), (0, u "java/util/ImmutableCollections$ListItr"), (0, .methodref 61 64), (0, .nameAndType 5 65), (0, u "(Ljava/util/List;I)V"), (11, .class_ 78), (0, u "java/util/List"), (2, u "iterator"), (0, u "()Ljava/util/Iterator;"), (22, u "hashCode"), (18, .class_ 125), (0, u "java/util/RandomAccess")] 70

def k20m0 : Method := { name := "<init>", desc := "()V", sig := { parameters := [], returnType := none }, accessFlags := 0, code := none }
def k20c1 : Code := { maxStack := 4, maxLocals := 1, code := jdk_46_method_10_code, exceptionTable := #[], attributes := #[] }
def k20m1 : Method := { name := "iterator", desc := "()Ljava/util/Iterator;", sig := { parameters := [], returnType := some (.object "java/util/Iterator") }, accessFlags := 1, code := some k20c1 }
def k20c2 : Code := { maxStack := 3, maxLocals := 4, code := jdk_46_method_14_code, exceptionTable := #[], attributes := #[] }
def k20m2 : Method := { name := "hashCode", desc := "()I", sig := { parameters := [], returnType := some .int }, accessFlags := 1, code := some k20c2 }
/-- java/util/ImmutableCollections$AbstractImmutableList -/
def k20 : Class := { plain "java/util/ImmutableCollections$AbstractImmutableList" (some 18) with
  accessFlags := 1056
  interfaces := #[14, 19]
  cf := some (fileOf pool20 14 #[.nestHost 8] #[{ accessFlags := 0, nameIndex := 5, descriptorIndex := 6, attributes := #[] }, { accessFlags := 1, nameIndex := 81, descriptorIndex := 82, attributes := #[] }, { accessFlags := 1, nameIndex := 105, descriptorIndex := 18, attributes := #[] }] 1056 2 #[77, 124] #[])
  fields := #[]
  methods := #[k20m0, k20m1, k20m2]
  instanceTypes := #[]
  staticTypes := #[]
  resolved := Array.replicate 196 none
  statics := none }

def pool21 : Array CpInfo := pool [(2, .class_ 4), (1, u "java/util/ImmutableCollections$AbstractImmutableList"), (9, .class_ 16), (1, u "java/util/ImmutableCollections$List12"), (0, u "e0"), (0, u "Ljava/lang/Object;"), (1, .class_ 22), (1, u "java/util/ImmutableCollections"), (3, u "e1"), (43, .class_ 71), (0, u "java/io/Serializable")] 53

/-- java/util/ImmutableCollections$List12 -/
def k21 : Class := { plain "java/util/ImmutableCollections$List12" (some 20) with
  accessFlags := 48
  interfaces := #[2]
  cf := some (fileOf pool21 14 #[.nestHost 20] #[] 48 2 #[70] #[{ accessFlags := 18, nameIndex := 17, descriptorIndex := 18, attributes := #[] }, { accessFlags := 18, nameIndex := 26, descriptorIndex := 18, attributes := #[] }])
  fields := #[{ name := "e0", type := (.object "java/lang/Object"), accessFlags := 18, slot := 0, constantValue := 0 }, { name := "e1", type := (.object "java/lang/Object"), accessFlags := 18, slot := 1, constantValue := 0 }]
  methods := #[]
  instanceTypes := #[(.object "java/lang/Object"), (.object "java/lang/Object")]
  staticTypes := #[]
  resolved := Array.replicate 125 none
  statics := none }

def pool22 : Array CpInfo := pool [(2, .class_ 4), (1, u "java/util/ImmutableCollections$AbstractImmutableList"), (2, .fieldref 8 9), (0, .class_ 10), (0, .nameAndType 11 12), (0, u "java/util/ImmutableCollections$ListN"), (0, u "elements"), (0, u "[Ljava/lang/Object;"), (2, u "allowNulls"), (0, u "Z"), (42, .class_ 60), (0, u "java/io/Serializable"), (16, u "size"), (0, u "()I"), (35, .class_ 115), (0, u "java/util/ImmutableCollections")] 3

def k22c0 : Code := { maxStack := 1, maxLocals := 1, code := jdk_45_method_3_code, exceptionTable := #[], attributes := #[] }
def k22m0 : Method := { name := "size", desc := "()I", sig := { parameters := [], returnType := some .int }, accessFlags := 1, code := some k22c0 }
/-- java/util/ImmutableCollections$ListN -/
def k22 : Class := { plain "java/util/ImmutableCollections$ListN" (some 20) with
  accessFlags := 48
  interfaces := #[2]
  cf := some (fileOf pool22 8 #[.nestHost 114] #[{ accessFlags := 1, nameIndex := 77, descriptorIndex := 78, attributes := #[] }] 48 2 #[59] #[{ accessFlags := 18, nameIndex := 11, descriptorIndex := 12, attributes := #[] }, { accessFlags := 18, nameIndex := 15, descriptorIndex := 16, attributes := #[] }])
  fields := #[{ name := "elements", type := (.array (.object "java/lang/Object")), accessFlags := 18, slot := 0, constantValue := 0 }, { name := "allowNulls", type := .boolean, accessFlags := 18, slot := 1, constantValue := 0 }]
  methods := #[k22m0]
  instanceTypes := #[(.array (.object "java/lang/Object")), .boolean]
  staticTypes := #[]
  resolved := Array.replicate 119 none
  statics := none }

def pool23 : Array CpInfo := pool [(16, .class_ 18), (1, u "java/util/Iterator"), (0, u "hasNext"), (0, u "()Z"), (10, .class_ 32), (0, u "java/lang/Object")] 20

def k23m0 : Method := { name := "hasNext", desc := "()Z", sig := { parameters := [], returnType := some .boolean }, accessFlags := 1025, code := none }
/-- java/util/Iterator -/
def k23 : Class := { plain "java/util/Iterator" (some 0) with
  accessFlags := 1537
  interfaces := #[]
  cf := some (fileOf pool23 16 #[] #[{ accessFlags := 1025, nameIndex := 19, descriptorIndex := 20, attributes := #[] }] 1537 31 #[] #[])
  fields := #[]
  methods := #[k23m0]
  instanceTypes := #[]
  staticTypes := #[]
  resolved := Array.replicate 53 none
  statics := none }

def pool24 : Array CpInfo := pool [(1, .class_ 2), (0, u "java/util/ListIterator"), (0, .class_ 4), (0, u "java/lang/Object"), (0, .class_ 6), (0, u "java/util/Iterator")] 20

/-- java/util/ListIterator -/
def k24 : Class := { plain "java/util/ListIterator" (some 0) with
  accessFlags := 1537
  interfaces := #[23]
  cf := some (fileOf pool24 1 #[] #[] 1537 3 #[5] #[])
  fields := #[]
  methods := #[]
  instanceTypes := #[]
  staticTypes := #[]
  resolved := Array.replicate 27 none
  statics := none }

def pool25 : Array CpInfo := pool [(1, .methodref 2 3), (0, .class_ 4), (0, .nameAndType 5 6), (0, u "java/lang/Object"), (0, u "<init>"), (0, u "()V"), (0, .fieldref 8 9), (0, .class_ 10), (0, .nameAndType 11 12), (0, u "java/util/ImmutableCollections$ListItr"), (0, u "list"), (0, u "Ljava/util/List;"), (0, .fieldref 8 14), (0, .nameAndType 15 16), (0, u "size"), (0, u "I"), (0, .fieldref 8 18), (0, .nameAndType 19 16), (0, u "cursor"), (0, .fieldref 8 21), (0, .nameAndType 22 23), (0, u "isListIterator"), (0, u "Z"), (12, .class_ 38), (1, u "java/util/ImmutableCollections"), (2, .class_ 42), (0, u "java/util/ListIterator"), (4, u "(Ljava/util/List;I)V"), (11, u "hasNext"), (0, u "()Z")] 25

def k25c0 : Code := { maxStack := 2, maxLocals := 3, code := jdk_53_method_1_code, exceptionTable := #[], attributes := #[] }
def k25m0 : Method := { name := "<init>", desc := "(Ljava/util/List;I)V", sig := { parameters := [(.object "java/util/List"), .int], returnType := none }, accessFlags := 0, code := some k25c0 }
def k25c1 : Code := { maxStack := 2, maxLocals := 1, code := jdk_53_method_3_code, exceptionTable := #[], attributes := #[] }
def k25m1 : Method := { name := "hasNext", desc := "()Z", sig := { parameters := [], returnType := some .boolean }, accessFlags := 1, code := some k25c1 }
/-- java/util/ImmutableCollections$ListItr -/
def k25 : Class := { plain "java/util/ImmutableCollections$ListItr" (some 0) with
  accessFlags := 48
  interfaces := #[24]
  cf := some (fileOf pool25 8 #[.nestHost 36] #[{ accessFlags := 0, nameIndex := 5, descriptorIndex := 47, attributes := #[] }, { accessFlags := 1, nameIndex := 59, descriptorIndex := 60, attributes := #[] }] 48 2 #[41] #[{ accessFlags := 18, nameIndex := 11, descriptorIndex := 12, attributes := #[] }, { accessFlags := 18, nameIndex := 15, descriptorIndex := 16, attributes := #[] }, { accessFlags := 18, nameIndex := 22, descriptorIndex := 23, attributes := #[] }, { accessFlags := 2, nameIndex := 19, descriptorIndex := 16, attributes := #[] }])
  fields := #[{ name := "list", type := (.object "java/util/List"), accessFlags := 18, slot := 0, constantValue := 0 }, { name := "size", type := .int, accessFlags := 18, slot := 1, constantValue := 0 }, { name := "isListIterator", type := .boolean, accessFlags := 18, slot := 2, constantValue := 0 }, { name := "cursor", type := .int, accessFlags := 2, slot := 3, constantValue := 0 }]
  methods := #[k25m0, k25m1]
  instanceTypes := #[(.object "java/util/List"), .int, .boolean, .int]
  staticTypes := #[]
  resolved := Array.replicate 86 none
  statics := none }

def pool26 : Array CpInfo := pool [(1, .methodref 2 3), (0, .class_ 4), (0, .nameAndType 5 6), (0, u "java/lang/Object"), (0, u "<init>"), (0, u "()V"), (0, .class_ 8), (0, u "java/lang/Record")] 13

def k26c0 : Code := { maxStack := 1, maxLocals := 1, code := jdk_30_method_1_code, exceptionTable := #[], attributes := #[] }
def k26m0 : Method := { name := "<init>", desc := "()V", sig := { parameters := [], returnType := none }, accessFlags := 4, code := some k26c0 }
/-- java/lang/Record -/
def k26 : Class := { plain "java/lang/Record" (some 0) with
  accessFlags := 1057
  interfaces := #[]
  cf := some (fileOf pool26 7 #[] #[{ accessFlags := 4, nameIndex := 5, descriptorIndex := 6, attributes := #[] }] 1057 2 #[] #[])
  fields := #[]
  methods := #[k26m0]
  instanceTypes := #[]
  staticTypes := #[]
  resolved := Array.replicate 22 none
  statics := none }

def pool27 : Array CpInfo := pool [(1, .methodref 2 3), (0, .class_ 4), (0, .nameAndType 5 6), (0, u "java/lang/Record"), (0, u "<init>"), (0, u "()V"), (0, .string 8), (0, u "atom"), (0, .methodref 10 11), (0, .class_ 12), (0, .nameAndType 13 14), (0, u "java/util/Objects"), (0, u "requireNonNull"), (0, u "(Ljava/lang/Object;Ljava/lang/String;)Ljava/lang/Object;"), (0, .fieldref 16 17), (0, .class_ 18), (0, .nameAndType 19 20), (0, u "com/example/tiny_resolver/tinyresolver/clause/Literal"), (0, u "positive"), (0, u "Z"), (0, .fieldref 16 22), (0, .nameAndType 8 23), (0, u "Lcom/example/tiny_resolver/tinyresolver/term/Application;"), (13, .methodref 16 38), (0, .nameAndType 5 39), (0, u "(ZLcom/example/tiny_resolver/tinyresolver/term/Application;)V"), (12, u "TRUE"), (3, u "FALSE"), (13, u "()Z"), (41, u "EQUALITY"), (0, u "Ljava/lang/String;"), (8, u "negated"), (0, u "()Lcom/example/tiny_resolver/tinyresolver/clause/Literal;"), (5, u "()Lcom/example/tiny_resolver/tinyresolver/term/Application;")] 32

def k27c0 : Code := { maxStack := 2, maxLocals := 3, code := prog_13_method_1_code, exceptionTable := #[], attributes := #[] }
def k27m0 : Method := { name := "<init>", desc := "(ZLcom/example/tiny_resolver/tinyresolver/term/Application;)V", sig := { parameters := [.boolean, (.object "com/example/tiny_resolver/tinyresolver/term/Application")], returnType := none }, accessFlags := 1, code := some k27c0 }
def k27c1 : Code := { maxStack := 4, maxLocals := 1, code := prog_13_method_5_code, exceptionTable := #[], attributes := #[] }
def k27m1 : Method := { name := "negated", desc := "()Lcom/example/tiny_resolver/tinyresolver/clause/Literal;", sig := { parameters := [], returnType := some (.object "com/example/tiny_resolver/tinyresolver/clause/Literal") }, accessFlags := 1, code := some k27c1 }
def k27c2 : Code := { maxStack := 1, maxLocals := 1, code := prog_13_method_11_code, exceptionTable := #[], attributes := #[] }
def k27m2 : Method := { name := "positive", desc := "()Z", sig := { parameters := [], returnType := some .boolean }, accessFlags := 1, code := some k27c2 }
def k27c3 : Code := { maxStack := 1, maxLocals := 1, code := prog_13_method_12_code, exceptionTable := #[], attributes := #[] }
def k27m3 : Method := { name := "atom", desc := "()Lcom/example/tiny_resolver/tinyresolver/term/Application;", sig := { parameters := [], returnType := some (.object "com/example/tiny_resolver/tinyresolver/term/Application") }, accessFlags := 1, code := some k27c3 }
/-- com/example/tiny_resolver/tinyresolver/clause/Literal -/
def k27 : Class := { plain "com/example/tiny_resolver/tinyresolver/clause/Literal" (some 26) with
  accessFlags := 49
  interfaces := #[]
  cf := some (fileOf pool27 16 #[] #[{ accessFlags := 1, nameIndex := 5, descriptorIndex := 39, attributes := #[] }, { accessFlags := 1, nameIndex := 122, descriptorIndex := 123, attributes := #[] }, { accessFlags := 1, nameIndex := 19, descriptorIndex := 70, attributes := #[] }, { accessFlags := 1, nameIndex := 8, descriptorIndex := 129, attributes := #[] }] 49 2 #[] #[{ accessFlags := 18, nameIndex := 19, descriptorIndex := 20, attributes := #[] }, { accessFlags := 18, nameIndex := 8, descriptorIndex := 23, attributes := #[] }, { accessFlags := 25, nameIndex := 112, descriptorIndex := 113, attributes := #[] }, { accessFlags := 25, nameIndex := 52, descriptorIndex := 23, attributes := #[] }, { accessFlags := 25, nameIndex := 56, descriptorIndex := 23, attributes := #[] }])
  fields := #[{ name := "positive", type := .boolean, accessFlags := 18, slot := 0, constantValue := 0 }, { name := "atom", type := (.object "com/example/tiny_resolver/tinyresolver/term/Application"), accessFlags := 18, slot := 1, constantValue := 0 }, { name := "EQUALITY", type := (.object "java/lang/String"), accessFlags := 25, slot := 0, constantValue := 0 }, { name := "TRUE", type := (.object "com/example/tiny_resolver/tinyresolver/term/Application"), accessFlags := 25, slot := 1, constantValue := 0 }, { name := "FALSE", type := (.object "com/example/tiny_resolver/tinyresolver/term/Application"), accessFlags := 25, slot := 2, constantValue := 0 }]
  methods := #[k27m0, k27m1, k27m2, k27m3]
  instanceTypes := #[.boolean, (.object "com/example/tiny_resolver/tinyresolver/term/Application")]
  staticTypes := #[(.object "java/lang/String"), (.object "com/example/tiny_resolver/tinyresolver/term/Application"), (.object "com/example/tiny_resolver/tinyresolver/term/Application")]
  resolved := Array.replicate 162 none
  statics := none }

def pool28 : Array CpInfo := pool [(2, .class_ 4), (1, u "java/lang/Object"), (0, u "<init>"), (0, u "()V"), (17, .class_ 26), (1, u "jdk/internal/util/Preconditions"), (28, .class_ 56), (0, u "jdk/internal/util/Preconditions$4"), (57, .class_ 115), (0, u "jdk/internal/util/Preconditions$1"), (7, u "SIOOBE_FORMATTER"), (0, u "Ljava/util/function/BiFunction;"), (0, .class_ 126), (0, u "jdk/internal/util/Preconditions$2"), (3, u "AIOOBE_FORMATTER"), (0, .class_ 132), (0, u "jdk/internal/util/Preconditions$3"), (3, u "IOOBE_FORMATTER")] 57

def k28m0 : Method := { name := "<init>", desc := "()V", sig := { parameters := [], returnType := none }, accessFlags := 1, code := none }
/-- jdk/internal/util/Preconditions -/
def k28 : Class := { plain "jdk/internal/util/Preconditions" (some 0) with
  accessFlags := 33
  interfaces := #[]
  cf := some (fileOf pool28 24 #[.nestMembers #[55, 131, 125, 114]] #[{ accessFlags := 1, nameIndex := 5, descriptorIndex := 6, attributes := #[] }] 33 2 #[] #[{ accessFlags := 25, nameIndex := 123, descriptorIndex := 124, attributes := #[] }, { accessFlags := 25, nameIndex := 130, descriptorIndex := 124, attributes := #[] }, { accessFlags := 25, nameIndex := 136, descriptorIndex := 124, attributes := #[] }])
  fields := #[{ name := "SIOOBE_FORMATTER", type := (.object "java/util/function/BiFunction"), accessFlags := 25, slot := 0, constantValue := 0 }, { name := "AIOOBE_FORMATTER", type := (.object "java/util/function/BiFunction"), accessFlags := 25, slot := 1, constantValue := 0 }, { name := "IOOBE_FORMATTER", type := (.object "java/util/function/BiFunction"), accessFlags := 25, slot := 2, constantValue := 0 }]
  methods := #[k28m0]
  instanceTypes := #[]
  staticTypes := #[(.object "java/util/function/BiFunction"), (.object "java/util/function/BiFunction"), (.object "java/util/function/BiFunction")]
  resolved := Array.replicate 194 none
  statics := some 2 }

def pool29 : Array CpInfo := pool [(9, u "<init>"), (6, .class_ 18), (1, u "java/lang/Object"), (0, u "()V"), (1, .class_ 23), (1, u "jdk/internal/util/ArraysSupport"), (0, u "LOG2_ARRAY_LONG_INDEX_SCALE"), (0, u "I"), (2, u "U"), (0, u "Ljdk/internal/misc/Unsafe;"), (8, u "BIG_ENDIAN"), (0, u "Z"), (8, u "LOG2_BYTE_BIT_SIZE"), (4, u "LOG2_ARRAY_INT_INDEX_SCALE"), (54, u "JLA"), (0, u "Ljdk/internal/access/JavaLangAccess;"), (11, u "LOG2_ARRAY_BOOLEAN_INDEX_SCALE"), (9, u "LOG2_ARRAY_BYTE_INDEX_SCALE"), (5, u "LOG2_ARRAY_CHAR_INDEX_SCALE"), (5, u "LOG2_ARRAY_SHORT_INDEX_SCALE"), (18, u "LOG2_ARRAY_FLOAT_INDEX_SCALE"), (24, u "LOG2_ARRAY_DOUBLE_INDEX_SCALE"), (89, u "T_BOOLEAN"), (2, u "T_CHAR"), (1, u "T_FLOAT"), (1, u "T_DOUBLE"), (1, u "T_BYTE"), (1, u "T_SHORT"), (1, u "T_INT"), (1, u "T_LONG"), (1, u "SOFT_MAX_ARRAY_LENGTH")] 83

def k29m0 : Method := { name := "<init>", desc := "()V", sig := { parameters := [], returnType := none }, accessFlags := 2, code := none }
/-- jdk/internal/util/ArraysSupport -/
def k29 : Class := { plain "jdk/internal/util/ArraysSupport" (some 0) with
  accessFlags := 33
  interfaces := #[]
  cf := some (fileOf pool29 21 #[] #[{ accessFlags := 2, nameIndex := 9, descriptorIndex := 19, attributes := #[] }] 33 16 #[] #[{ accessFlags := 24, nameIndex := 28, descriptorIndex := 29, attributes := #[] }, { accessFlags := 26, nameIndex := 38, descriptorIndex := 39, attributes := #[] }, { accessFlags := 25, nameIndex := 121, descriptorIndex := 25, attributes := #[] }, { accessFlags := 25, nameIndex := 131, descriptorIndex := 25, attributes := #[] }, { accessFlags := 25, nameIndex := 137, descriptorIndex := 25, attributes := #[] }, { accessFlags := 25, nameIndex := 143, descriptorIndex := 25, attributes := #[] }, { accessFlags := 25, nameIndex := 53, descriptorIndex := 25, attributes := #[] }, { accessFlags := 25, nameIndex := 24, descriptorIndex := 25, attributes := #[] }, { accessFlags := 25, nameIndex := 162, descriptorIndex := 25, attributes := #[] }, { accessFlags := 25, nameIndex := 187, descriptorIndex := 25, attributes := #[] }, { accessFlags := 26, nameIndex := 48, descriptorIndex := 25, attributes := #[] }, { accessFlags := 25, nameIndex := 277, descriptorIndex := 25, attributes := #[] }, { accessFlags := 25, nameIndex := 280, descriptorIndex := 25, attributes := #[] }, { accessFlags := 25, nameIndex := 282, descriptorIndex := 25, attributes := #[] }, { accessFlags := 25, nameIndex := 284, descriptorIndex := 25, attributes := #[] }, { accessFlags := 25, nameIndex := 286, descriptorIndex := 25, attributes := #[] }, { accessFlags := 25, nameIndex := 288, descriptorIndex := 25, attributes := #[] }, { accessFlags := 25, nameIndex := 290, descriptorIndex := 25, attributes := #[] }, { accessFlags := 25, nameIndex := 292, descriptorIndex := 25, attributes := #[] }, { accessFlags := 26, nameIndex := 108, descriptorIndex := 109, attributes := #[] }, { accessFlags := 25, nameIndex := 294, descriptorIndex := 25, attributes := #[] }])
  fields := #[{ name := "U", type := (.object "jdk/internal/misc/Unsafe"), accessFlags := 24, slot := 0, constantValue := 0 }, { name := "BIG_ENDIAN", type := .boolean, accessFlags := 26, slot := 1, constantValue := 0 }, { name := "LOG2_ARRAY_BOOLEAN_INDEX_SCALE", type := .int, accessFlags := 25, slot := 2, constantValue := 0 }, { name := "LOG2_ARRAY_BYTE_INDEX_SCALE", type := .int, accessFlags := 25, slot := 3, constantValue := 0 }, { name := "LOG2_ARRAY_CHAR_INDEX_SCALE", type := .int, accessFlags := 25, slot := 4, constantValue := 0 }, { name := "LOG2_ARRAY_SHORT_INDEX_SCALE", type := .int, accessFlags := 25, slot := 5, constantValue := 0 }, { name := "LOG2_ARRAY_INT_INDEX_SCALE", type := .int, accessFlags := 25, slot := 6, constantValue := 0 }, { name := "LOG2_ARRAY_LONG_INDEX_SCALE", type := .int, accessFlags := 25, slot := 7, constantValue := 0 }, { name := "LOG2_ARRAY_FLOAT_INDEX_SCALE", type := .int, accessFlags := 25, slot := 8, constantValue := 0 }, { name := "LOG2_ARRAY_DOUBLE_INDEX_SCALE", type := .int, accessFlags := 25, slot := 9, constantValue := 0 }, { name := "LOG2_BYTE_BIT_SIZE", type := .int, accessFlags := 26, slot := 10, constantValue := 0 }, { name := "T_BOOLEAN", type := .int, accessFlags := 25, slot := 11, constantValue := 0 }, { name := "T_CHAR", type := .int, accessFlags := 25, slot := 12, constantValue := 0 }, { name := "T_FLOAT", type := .int, accessFlags := 25, slot := 13, constantValue := 0 }, { name := "T_DOUBLE", type := .int, accessFlags := 25, slot := 14, constantValue := 0 }, { name := "T_BYTE", type := .int, accessFlags := 25, slot := 15, constantValue := 0 }, { name := "T_SHORT", type := .int, accessFlags := 25, slot := 16, constantValue := 0 }, { name := "T_INT", type := .int, accessFlags := 25, slot := 17, constantValue := 0 }, { name := "T_LONG", type := .int, accessFlags := 25, slot := 18, constantValue := 0 }, { name := "JLA", type := (.object "jdk/internal/access/JavaLangAccess"), accessFlags := 26, slot := 19, constantValue := 0 }, { name := "SOFT_MAX_ARRAY_LENGTH", type := .int, accessFlags := 25, slot := 20, constantValue := 0 }]
  methods := #[k29m0]
  instanceTypes := #[]
  staticTypes := #[(.object "jdk/internal/misc/Unsafe"), .boolean, .int, .int, .int, .int, .int, .int, .int, .int, .int, .int, .int, .int, .int, .int, .int, .int, .int, (.object "jdk/internal/access/JavaLangAccess"), .int]
  resolved := Array.replicate 378 none
  statics := none }

def pool30 : Array CpInfo := pool [(1, u "java/lang/Cloneable"), (0, .class_ 1), (0, u "java/lang/Object"), (0, .class_ 3)] 3

/-- java/lang/Cloneable -/
def k30 : Class := { plain "java/lang/Cloneable" (some 0) with
  accessFlags := 1537
  interfaces := #[]
  cf := some (fileOf pool30 2 #[] #[] 1537 4 #[] #[])
  fields := #[]
  methods := #[]
  instanceTypes := #[]
  staticTypes := #[]
  resolved := Array.replicate 8 none
  statics := none }

/-- the primitive byte -/
def k31 : Class := { plain "byte" none with kind := .primitive 'B', accessFlags := 0x411 }
/-- [B -/
def k32 : Class := { plain "[B" (some 0) with kind := .array 31 .byte, interfaces := #[30, 2], accessFlags := 1041 }

/-- the primitive int -/
def k33 : Class := { plain "int" none with kind := .primitive 'I', accessFlags := 0x411 }
/-- [I -/
def k34 : Class := { plain "[I" (some 0) with kind := .array 33 .int, interfaces := #[30, 2], accessFlags := 1041 }

/-- [Ljava/lang/Object; -/
def k35 : Class := { plain "[Ljava/lang/Object;" (some 0) with kind := .array 0 (.object "java/lang/Object"), interfaces := #[30, 2], accessFlags := 1041 }

def heap : Heap := #[{ cls := 7, slots := #[.long 0, .int 1, .null, .int 0, .null, .int 0, .int 0], vm := .statics 7 },
  { cls := 15, slots := #[.long 0, .int 0, .null, .null, .ref 4, .null, .null, .null, .int 0, .int 0], vm := .statics 15 },
  { cls := 28, slots := #[.null, .null, .null], vm := .statics 28 },
  { cls := 35, slots := #[], vm := .none },
  { cls := 22, slots := #[.ref 3, .int 0], vm := .none }]
def classes : Array Class := #[k0, k1, k2, k3, k4, k5, k6, k7, k8, k9, k10, k11, k12, k13, k14, k15, k16, k17, k18, k19, k20, k21, k22, k23, k24, k25, k26, k27, k28, k29, k30, k31, k32, k33, k34, k35]
def interned : List (Array UInt16 × Addr) := []
def slotsUsed : Nat := 22
def theMethod : MethodId := ⟨1, 1⟩
def args0 : Array Value := #[.int 5, .int 7]
def aboutOver (below : List Frame) : State where
  vm := { classes := classes, interned := interned.toArray }
  heap := heap
  slotsUsed := slotsUsed
  threads := #[{ frames := .invoking theMethod args0 :: below }]
def below0 : List Frame := [.native { method := ⟨0, 0⟩, args := #[] }]
def about1 : State := aboutOver below0
def p0 : Program := .bare "" "" ""
def e0 : Env := launch0.env 0 0 0
theorem w_frames : about1.frames = Frame.invoking theMethod args0 :: below0 := rfl
set_option maxRecDepth 65536 in
theorem w_args : argsFit about1.vm theMethod args0 = true := by decide +kernel
set_option maxRecDepth 65536 in
theorem w_heap : heapFits about1 = true := by decide +kernel
set_option maxRecDepth 65536 in
theorem w_runnable : about1.curStatus? = some .runnable := by decide +kernel
set_option maxRecDepth 65536 in
theorem w_alone : about1.alone = true := by decide +kernel
set_option maxRecDepth 65536 in
theorem w_named : about1.methodNamed? x = some theMethod := by decide +kernel
set_option maxRecDepth 65536 in
theorem w_hears : about1.hears theMethod below0 = true := by decide +kernel
set_option maxRecDepth 65536 in
theorem w_ripe : about1.ripe theMethod args0 below0 = true := by decide +kernel
theorem w_running : about1.status = .running := rfl
set_option maxRecDepth 65536 in
theorem w_room : about1.hasRoom e0.platform room_1 = true :=
  launch0.hasRoom_least _ room_1 (by decide +kernel) (by decide +kernel) (by decide +kernel) (by decide +kernel) (by decide +kernel) (by decide +kernel)
theorem allAtoms_all (ts : List Jvm.Cond) (a : Array Jvm.Value) (st : Jvm.State) : (allAtoms ts).before a st = ts.all (fun c => c.before a st) := by
  induction ts with
  | nil => rfl
  | cons c t ih =>
    show (Jvm.Cond.and c (allAtoms t)).before a st = _
    rw [Jvm.Cond.before_and, ih, List.all_cons]
def words1 : List Jvm.Cond := Jvm.Cond.code x code maxLocals ret :: tables_1
/-- a 'code' word, met by the world's own term for the bytes: nothing is compared byte by byte -/
theorem code_word {y : MethodName} {bytes : ByteArray} {mx : Nat} {rt : Option FieldType} {a : Array Value} {s : State} {m : MethodId} {meth : Method} {c : Code} (h1 : s.methodNamed? y = some m) (h2 : s.vm.method? m = some meth) (h3 : meth.code = some c) (h4 : c.code = bytes)
    (h5 : (c.maxLocals == mx && c.exceptionTable.isEmpty && decide (c.maxStack ≤ mostOperands) && decide (meth.sig.returnType = rt) && !meth.locks && decide (parseMethodDescriptor y.desc = some meth.sig)) = true) : (Jvm.Cond.code y bytes mx rt).before a s = true := by
  simp only [Bool.and_eq_true, beq_iff_eq, Bool.not_eq_true', decide_eq_true_eq] at h5
  obtain ⟨⟨⟨⟨⟨g1, g2⟩, g3⟩, g4⟩, g5⟩, g6⟩ := h5
  simp [Cond.before, Cond.holds, Cond.value, h1, h2, h3, h4, g1, g2, g3, g4, g5, g6]
def isCode : Jvm.Cond → Bool
  | .code _ _ _ _ => true
  | _ => false
theorem all_split {L : List Jvm.Cond} {P : Jvm.Cond → Bool} (h1 : L.all (fun c => isCode c || P c) = true) (h2 : ∀ c ∈ L.filter isCode, P c = true) : L.all P = true := by
  refine List.all_eq_true.mpr fun c hc => ?_
  have h := List.all_eq_true.mp h1 c hc
  rcases Bool.eq_false_or_eq_true (isCode c) with hi | hi
  · exact h2 c (List.mem_filter.mpr ⟨hc, hi⟩)
  · simpa [hi] using h
set_option maxRecDepth 65536 in
theorem w_c0 : (Jvm.Cond.code x code maxLocals ret).before args0 about1 = true := code_word (m := ⟨1, 1⟩) (meth := k1m1) (c := k1c1) (by decide +kernel) rfl rfl rfl (by decide +kernel)
set_option maxRecDepth 65536 in
theorem w_c1 : (Jvm.Cond.code ({ cls := "java/lang/String", name := "valueOf", desc := "(C)Ljava/lang/String;" } : Jvm.MethodName) jdk_42_method_139_code (1 : Nat) (Option.some (Jvm.ClassFile.FieldType.object "java/lang/String"))).before args0 about1 = true := code_word (m := ⟨7, 2⟩) (meth := k7m2) (c := k7c2) (by decide +kernel) rfl rfl rfl (by decide +kernel)
set_option maxRecDepth 65536 in
theorem w_c2 : (Jvm.Cond.code ({ cls := "java/lang/StringLatin1", name := "canEncode", desc := "(C)Z" } : Jvm.MethodName) jdk_43_method_3_code (1 : Nat) (Option.some Jvm.ClassFile.FieldType.boolean)).before args0 about1 = true := code_word (m := ⟨8, 1⟩) (meth := k8m1) (c := k8c1) (by decide +kernel) rfl rfl rfl (by decide +kernel)
set_option maxRecDepth 65536 in
theorem w_c3 : (Jvm.Cond.code ({ cls := "java/lang/StringLatin1", name := "toBytes", desc := "(C)[B" } : Jvm.MethodName) jdk_43_method_46_code (1 : Nat) (Option.some (Jvm.ClassFile.FieldType.array Jvm.ClassFile.FieldType.byte))).before args0 about1 = true := code_word (m := ⟨8, 3⟩) (meth := k8m3) (c := k8c3) (by decide +kernel) rfl rfl rfl (by decide +kernel)
set_option maxRecDepth 65536 in
theorem w_c4 : (Jvm.Cond.code ({ cls := "java/lang/String", name := "<init>", desc := "([BB)V" } : Jvm.MethodName) jdk_42_method_151_code (3 : Nat) (Option.none : Option Jvm.ClassFile.FieldType)).before args0 about1 = true := code_word (m := ⟨7, 3⟩) (meth := k7m3) (c := k7c3) (by decide +kernel) rfl rfl rfl (by decide +kernel)
set_option maxRecDepth 65536 in
theorem w_c5 : (Jvm.Cond.code ({ cls := "java/lang/Object", name := "<init>", desc := "()V" } : Jvm.MethodName) object_method_1_code (1 : Nat) (Option.none : Option Jvm.ClassFile.FieldType)).before args0 about1 = true := code_word (m := ⟨0, 0⟩) (meth := k0m0) (c := k0c0) (by decide +kernel) rfl rfl rfl (by decide +kernel)
set_option maxRecDepth 65536 in
theorem w_c6 : (Jvm.Cond.code ({ cls := "com/example/tiny_resolver/tinyresolver/term/Application", name := "constant", desc := "(Ljava/lang/String;)Lcom/example/tiny_resolver/tinyresolver/term/Application;" } : Jvm.MethodName) prog_46_method_2_code (1 : Nat) (Option.some (Jvm.ClassFile.FieldType.object "com/example/tiny_resolver/tinyresolver/term/Application"))).before args0 about1 = true := code_word (m := ⟨10, 1⟩) (meth := k10m1) (c := k10c1) (by decide +kernel) rfl rfl rfl (by decide +kernel)
set_option maxRecDepth 65536 in
theorem w_c7 : (Jvm.Cond.code ({ cls := "java/util/List", name := "of", desc := "()Ljava/util/List;" } : Jvm.MethodName) jdk_40_method_36_code (0 : Nat) (Option.some (Jvm.ClassFile.FieldType.object "java/util/List"))).before args0 about1 = true := code_word (m := ⟨14, 2⟩) (meth := k14m2) (c := k14c2) (by decide +kernel) rfl rfl rfl (by decide +kernel)
set_option maxRecDepth 65536 in
theorem w_c8 : (Jvm.Cond.code ({ cls := "com/example/tiny_resolver/tinyresolver/term/Application", name := "<init>", desc := "(Ljava/lang/String;Ljava/util/List;)V" } : Jvm.MethodName) prog_46_method_1_code (6 : Nat) (Option.none : Option Jvm.ClassFile.FieldType)).before args0 about1 = true := code_word (m := ⟨10, 0⟩) (meth := k10m0) (c := k10c0) (by decide +kernel) rfl rfl rfl (by decide +kernel)
set_option maxRecDepth 65536 in
theorem w_c9 : (Jvm.Cond.code ({ cls := "java/util/Objects", name := "requireNonNull", desc := "(Ljava/lang/Object;Ljava/lang/String;)Ljava/lang/Object;" } : Jvm.MethodName) jdk_31_method_11_code (2 : Nat) (Option.some (Jvm.ClassFile.FieldType.object "java/lang/Object"))).before args0 about1 = true := code_word (m := ⟨16, 1⟩) (meth := k16m1) (c := k16c1) (by decide +kernel) rfl rfl rfl (by decide +kernel)
set_option maxRecDepth 65536 in
theorem w_c10 : (Jvm.Cond.code ({ cls := "java/util/List", name := "copyOf", desc := "(Ljava/util/Collection;)Ljava/util/List;" } : Jvm.MethodName) jdk_40_method_48_code (1 : Nat) (Option.some (Jvm.ClassFile.FieldType.object "java/util/List"))).before args0 about1 = true := code_word (m := ⟨14, 3⟩) (meth := k14m3) (c := k14c3) (by decide +kernel) rfl rfl rfl (by decide +kernel)
set_option maxRecDepth 65536 in
theorem w_c11 : (Jvm.Cond.code ({ cls := "java/util/ImmutableCollections", name := "listCopy", desc := "(Ljava/util/Collection;)Ljava/util/List;" } : Jvm.MethodName) jdk_56_method_3_code (2 : Nat) (Option.some (Jvm.ClassFile.FieldType.object "java/util/List"))).before args0 about1 = true := code_word (m := ⟨15, 1⟩) (meth := k15m1) (c := k15c1) (by decide +kernel) rfl rfl rfl (by decide +kernel)
set_option maxRecDepth 65536 in
theorem w_c12 : (Jvm.Cond.code ({ cls := "java/util/ImmutableCollections$AbstractImmutableList", name := "iterator", desc := "()Ljava/util/Iterator;" } : Jvm.MethodName) jdk_46_method_10_code (1 : Nat) (Option.some (Jvm.ClassFile.FieldType.object "java/util/Iterator"))).before args0 about1 = true := code_word (m := ⟨20, 1⟩) (meth := k20m1) (c := k20c1) (by decide +kernel) rfl rfl rfl (by decide +kernel)
set_option maxRecDepth 65536 in
theorem w_c13 : (Jvm.Cond.code ({ cls := "java/util/ImmutableCollections$ListN", name := "size", desc := "()I" } : Jvm.MethodName) jdk_45_method_3_code (1 : Nat) (Option.some Jvm.ClassFile.FieldType.int)).before args0 about1 = true := code_word (m := ⟨22, 0⟩) (meth := k22m0) (c := k22c0) (by decide +kernel) rfl rfl rfl (by decide +kernel)
set_option maxRecDepth 65536 in
theorem w_c14 : (Jvm.Cond.code ({ cls := "java/util/ImmutableCollections$ListItr", name := "<init>", desc := "(Ljava/util/List;I)V" } : Jvm.MethodName) jdk_53_method_1_code (3 : Nat) (Option.none : Option Jvm.ClassFile.FieldType)).before args0 about1 = true := code_word (m := ⟨25, 0⟩) (meth := k25m0) (c := k25c0) (by decide +kernel) rfl rfl rfl (by decide +kernel)
set_option maxRecDepth 65536 in
theorem w_c15 : (Jvm.Cond.code ({ cls := "java/util/ImmutableCollections$ListItr", name := "hasNext", desc := "()Z" } : Jvm.MethodName) jdk_53_method_3_code (1 : Nat) (Option.some Jvm.ClassFile.FieldType.boolean)).before args0 about1 = true := code_word (m := ⟨25, 1⟩) (meth := k25m1) (c := k25c1) (by decide +kernel) rfl rfl rfl (by decide +kernel)
set_option maxRecDepth 65536 in
theorem w_c16 : (Jvm.Cond.code ({ cls := "java/lang/String", name := "hashCode", desc := "()I" } : Jvm.MethodName) jdk_42_method_78_code (2 : Nat) (Option.some Jvm.ClassFile.FieldType.int)).before args0 about1 = true := code_word (m := ⟨7, 1⟩) (meth := k7m1) (c := k7c1) (by decide +kernel) rfl rfl rfl (by decide +kernel)
set_option maxRecDepth 65536 in
theorem w_c17 : (Jvm.Cond.code ({ cls := "java/lang/String", name := "isLatin1", desc := "()Z" } : Jvm.MethodName) jdk_42_method_154_code (1 : Nat) (Option.some Jvm.ClassFile.FieldType.boolean)).before args0 about1 = true := code_word (m := ⟨7, 4⟩) (meth := k7m4) (c := k7c4) (by decide +kernel) rfl rfl rfl (by decide +kernel)
set_option maxRecDepth 65536 in
theorem w_c18 : (Jvm.Cond.code ({ cls := "java/lang/StringLatin1", name := "hashCode", desc := "([B)I" } : Jvm.MethodName) jdk_43_method_21_code (1 : Nat) (Option.some Jvm.ClassFile.FieldType.int)).before args0 about1 = true := code_word (m := ⟨8, 2⟩) (meth := k8m2) (c := k8c2) (by decide +kernel) rfl rfl rfl (by decide +kernel)
set_option maxRecDepth 65536 in
theorem w_c19 : (Jvm.Cond.code ({ cls := "java/util/ImmutableCollections$AbstractImmutableList", name := "hashCode", desc := "()I" } : Jvm.MethodName) jdk_46_method_14_code (4 : Nat) (Option.some Jvm.ClassFile.FieldType.int)).before args0 about1 = true := code_word (m := ⟨20, 2⟩) (meth := k20m2) (c := k20c2) (by decide +kernel) rfl rfl rfl (by decide +kernel)
set_option maxRecDepth 65536 in
theorem w_c20 : (Jvm.Cond.code ({ cls := "com/example/tiny_resolver/tinyresolver/clause/Literal", name := "<init>", desc := "(ZLcom/example/tiny_resolver/tinyresolver/term/Application;)V" } : Jvm.MethodName) prog_13_method_1_code (3 : Nat) (Option.none : Option Jvm.ClassFile.FieldType)).before args0 about1 = true := code_word (m := ⟨27, 0⟩) (meth := k27m0) (c := k27c0) (by decide +kernel) rfl rfl rfl (by decide +kernel)
set_option maxRecDepth 65536 in
theorem w_c21 : (Jvm.Cond.code ({ cls := "java/lang/Record", name := "<init>", desc := "()V" } : Jvm.MethodName) jdk_30_method_1_code (1 : Nat) (Option.none : Option Jvm.ClassFile.FieldType)).before args0 about1 = true := code_word (m := ⟨26, 0⟩) (meth := k26m0) (c := k26c0) (by decide +kernel) rfl rfl rfl (by decide +kernel)
set_option maxRecDepth 65536 in
theorem w_c22 : (Jvm.Cond.code ({ cls := "com/example/tiny_resolver/tinyresolver/clause/Literal", name := "negated", desc := "()Lcom/example/tiny_resolver/tinyresolver/clause/Literal;" } : Jvm.MethodName) prog_13_method_5_code (1 : Nat) (Option.some (Jvm.ClassFile.FieldType.object "com/example/tiny_resolver/tinyresolver/clause/Literal"))).before args0 about1 = true := code_word (m := ⟨27, 1⟩) (meth := k27m1) (c := k27c1) (by decide +kernel) rfl rfl rfl (by decide +kernel)
set_option maxRecDepth 65536 in
theorem w_c23 : (Jvm.Cond.code ({ cls := "com/example/tiny_resolver/tinyresolver/clause/Literal", name := "positive", desc := "()Z" } : Jvm.MethodName) prog_13_method_11_code (1 : Nat) (Option.some Jvm.ClassFile.FieldType.boolean)).before args0 about1 = true := code_word (m := ⟨27, 2⟩) (meth := k27m2) (c := k27c2) (by decide +kernel) rfl rfl rfl (by decide +kernel)
set_option maxRecDepth 65536 in
theorem w_c24 : (Jvm.Cond.code ({ cls := "com/example/tiny_resolver/tinyresolver/clause/Literal", name := "atom", desc := "()Lcom/example/tiny_resolver/tinyresolver/term/Application;" } : Jvm.MethodName) prog_13_method_12_code (1 : Nat) (Option.some (Jvm.ClassFile.FieldType.object "com/example/tiny_resolver/tinyresolver/term/Application"))).before args0 about1 = true := code_word (m := ⟨27, 3⟩) (meth := k27m3) (c := k27c3) (by decide +kernel) rfl rfl rfl (by decide +kernel)
def codes1 : List Jvm.Cond := [Jvm.Cond.code x code maxLocals ret, Jvm.Cond.code ({ cls := "java/lang/String", name := "valueOf", desc := "(C)Ljava/lang/String;" } : Jvm.MethodName) jdk_42_method_139_code (1 : Nat) (Option.some (Jvm.ClassFile.FieldType.object "java/lang/String")), Jvm.Cond.code ({ cls := "java/lang/StringLatin1", name := "canEncode", desc := "(C)Z" } : Jvm.MethodName) jdk_43_method_3_code (1 : Nat) (Option.some Jvm.ClassFile.FieldType.boolean), Jvm.Cond.code ({ cls := "java/lang/StringLatin1", name := "toBytes", desc := "(C)[B" } : Jvm.MethodName) jdk_43_method_46_code (1 : Nat) (Option.some (Jvm.ClassFile.FieldType.array Jvm.ClassFile.FieldType.byte)), Jvm.Cond.code ({ cls := "java/lang/String", name := "<init>", desc := "([BB)V" } : Jvm.MethodName) jdk_42_method_151_code (3 : Nat) (Option.none : Option Jvm.ClassFile.FieldType), Jvm.Cond.code ({ cls := "java/lang/Object", name := "<init>", desc := "()V" } : Jvm.MethodName) object_method_1_code (1 : Nat) (Option.none : Option Jvm.ClassFile.FieldType), Jvm.Cond.code ({ cls := "com/example/tiny_resolver/tinyresolver/term/Application", name := "constant", desc := "(Ljava/lang/String;)Lcom/example/tiny_resolver/tinyresolver/term/Application;" } : Jvm.MethodName) prog_46_method_2_code (1 : Nat) (Option.some (Jvm.ClassFile.FieldType.object "com/example/tiny_resolver/tinyresolver/term/Application")), Jvm.Cond.code ({ cls := "java/util/List", name := "of", desc := "()Ljava/util/List;" } : Jvm.MethodName) jdk_40_method_36_code (0 : Nat) (Option.some (Jvm.ClassFile.FieldType.object "java/util/List")), Jvm.Cond.code ({ cls := "com/example/tiny_resolver/tinyresolver/term/Application", name := "<init>", desc := "(Ljava/lang/String;Ljava/util/List;)V" } : Jvm.MethodName) prog_46_method_1_code (6 : Nat) (Option.none : Option Jvm.ClassFile.FieldType), Jvm.Cond.code ({ cls := "java/util/Objects", name := "requireNonNull", desc := "(Ljava/lang/Object;Ljava/lang/String;)Ljava/lang/Object;" } : Jvm.MethodName) jdk_31_method_11_code (2 : Nat) (Option.some (Jvm.ClassFile.FieldType.object "java/lang/Object")), Jvm.Cond.code ({ cls := "java/util/List", name := "copyOf", desc := "(Ljava/util/Collection;)Ljava/util/List;" } : Jvm.MethodName) jdk_40_method_48_code (1 : Nat) (Option.some (Jvm.ClassFile.FieldType.object "java/util/List")), Jvm.Cond.code ({ cls := "java/util/ImmutableCollections", name := "listCopy", desc := "(Ljava/util/Collection;)Ljava/util/List;" } : Jvm.MethodName) jdk_56_method_3_code (2 : Nat) (Option.some (Jvm.ClassFile.FieldType.object "java/util/List")), Jvm.Cond.code ({ cls := "java/util/ImmutableCollections$AbstractImmutableList", name := "iterator", desc := "()Ljava/util/Iterator;" } : Jvm.MethodName) jdk_46_method_10_code (1 : Nat) (Option.some (Jvm.ClassFile.FieldType.object "java/util/Iterator")), Jvm.Cond.code ({ cls := "java/util/ImmutableCollections$ListN", name := "size", desc := "()I" } : Jvm.MethodName) jdk_45_method_3_code (1 : Nat) (Option.some Jvm.ClassFile.FieldType.int), Jvm.Cond.code ({ cls := "java/util/ImmutableCollections$ListItr", name := "<init>", desc := "(Ljava/util/List;I)V" } : Jvm.MethodName) jdk_53_method_1_code (3 : Nat) (Option.none : Option Jvm.ClassFile.FieldType), Jvm.Cond.code ({ cls := "java/util/ImmutableCollections$ListItr", name := "hasNext", desc := "()Z" } : Jvm.MethodName) jdk_53_method_3_code (1 : Nat) (Option.some Jvm.ClassFile.FieldType.boolean), Jvm.Cond.code ({ cls := "java/lang/String", name := "hashCode", desc := "()I" } : Jvm.MethodName) jdk_42_method_78_code (2 : Nat) (Option.some Jvm.ClassFile.FieldType.int), Jvm.Cond.code ({ cls := "java/lang/String", name := "isLatin1", desc := "()Z" } : Jvm.MethodName) jdk_42_method_154_code (1 : Nat) (Option.some Jvm.ClassFile.FieldType.boolean), Jvm.Cond.code ({ cls := "java/lang/StringLatin1", name := "hashCode", desc := "([B)I" } : Jvm.MethodName) jdk_43_method_21_code (1 : Nat) (Option.some Jvm.ClassFile.FieldType.int), Jvm.Cond.code ({ cls := "java/util/ImmutableCollections$AbstractImmutableList", name := "hashCode", desc := "()I" } : Jvm.MethodName) jdk_46_method_14_code (4 : Nat) (Option.some Jvm.ClassFile.FieldType.int), Jvm.Cond.code ({ cls := "com/example/tiny_resolver/tinyresolver/clause/Literal", name := "<init>", desc := "(ZLcom/example/tiny_resolver/tinyresolver/term/Application;)V" } : Jvm.MethodName) prog_13_method_1_code (3 : Nat) (Option.none : Option Jvm.ClassFile.FieldType), Jvm.Cond.code ({ cls := "java/lang/Record", name := "<init>", desc := "()V" } : Jvm.MethodName) jdk_30_method_1_code (1 : Nat) (Option.none : Option Jvm.ClassFile.FieldType), Jvm.Cond.code ({ cls := "com/example/tiny_resolver/tinyresolver/clause/Literal", name := "negated", desc := "()Lcom/example/tiny_resolver/tinyresolver/clause/Literal;" } : Jvm.MethodName) prog_13_method_5_code (1 : Nat) (Option.some (Jvm.ClassFile.FieldType.object "com/example/tiny_resolver/tinyresolver/clause/Literal")), Jvm.Cond.code ({ cls := "com/example/tiny_resolver/tinyresolver/clause/Literal", name := "positive", desc := "()Z" } : Jvm.MethodName) prog_13_method_11_code (1 : Nat) (Option.some Jvm.ClassFile.FieldType.boolean), Jvm.Cond.code ({ cls := "com/example/tiny_resolver/tinyresolver/clause/Literal", name := "atom", desc := "()Lcom/example/tiny_resolver/tinyresolver/term/Application;" } : Jvm.MethodName) prog_13_method_12_code (1 : Nat) (Option.some (Jvm.ClassFile.FieldType.object "com/example/tiny_resolver/tinyresolver/term/Application"))]
set_option maxRecDepth 65536 in
theorem codes_eq : words1.filter isCode = codes1 := rfl
theorem w_codes : ∀ c ∈ words1.filter isCode, c.before args0 about1 = true := by
  rw [codes_eq]
  intro c hc
  simp only [codes1, List.mem_cons, List.not_mem_nil, or_false] at hc
  rcases hc with rfl | rfl | rfl | rfl | rfl | rfl | rfl | rfl | rfl | rfl | rfl | rfl | rfl | rfl | rfl | rfl | rfl | rfl | rfl | rfl | rfl | rfl | rfl | rfl | rfl
  · exact w_c0
  · exact w_c1
  · exact w_c2
  · exact w_c3
  · exact w_c4
  · exact w_c5
  · exact w_c6
  · exact w_c7
  · exact w_c8
  · exact w_c9
  · exact w_c10
  · exact w_c11
  · exact w_c12
  · exact w_c13
  · exact w_c14
  · exact w_c15
  · exact w_c16
  · exact w_c17
  · exact w_c18
  · exact w_c19
  · exact w_c20
  · exact w_c21
  · exact w_c22
  · exact w_c23
  · exact w_c24
set_option maxRecDepth 65536 in
theorem w_t1 : (words1.take 24).all (fun c => isCode c || c.before args0 about1) = true := by decide +kernel
set_option maxRecDepth 65536 in
theorem w_t2 : ((words1.drop 24).take 24).all (fun c => isCode c || c.before args0 about1) = true := by decide +kernel
set_option maxRecDepth 65536 in
theorem w_t3 : (((words1.drop 24).drop 24).take 24).all (fun c => isCode c || c.before args0 about1) = true := by decide +kernel
set_option maxRecDepth 65536 in
theorem w_t4 : ((((words1.drop 24).drop 24).drop 24).take 24).all (fun c => isCode c || c.before args0 about1) = true := by decide +kernel
set_option maxRecDepth 65536 in
theorem w_t5 : (((((words1.drop 24).drop 24).drop 24).drop 24).take 24).all (fun c => isCode c || c.before args0 about1) = true := by decide +kernel
set_option maxRecDepth 65536 in
theorem w_t6 : ((((((words1.drop 24).drop 24).drop 24).drop 24).drop 24).take 24).all (fun c => isCode c || c.before args0 about1) = true := by decide +kernel
set_option maxRecDepth 65536 in
theorem w_t7 : (((((((words1.drop 24).drop 24).drop 24).drop 24).drop 24).drop 24).take 24).all (fun c => isCode c || c.before args0 about1) = true := by decide +kernel
set_option maxRecDepth 65536 in
theorem w_t8 : (((((((words1.drop 24).drop 24).drop 24).drop 24).drop 24).drop 24).drop 24).all (fun c => isCode c || c.before args0 about1) = true := by decide +kernel
theorem w_tables : (allAtoms (Jvm.Cond.code x code maxLocals ret :: tables_1)).before args0 about1 = true := by
  rw [allAtoms_all]
  show words1.all (fun c => c.before args0 about1) = true
  refine all_split ?_ w_codes
  rw [← List.take_append_drop 24 words1, List.all_append, w_t1, ← List.take_append_drop 24 (words1.drop 24), List.all_append, w_t2, ← List.take_append_drop 24 ((words1.drop 24).drop 24), List.all_append, w_t3, ← List.take_append_drop 24 (((words1.drop 24).drop 24).drop 24), List.all_append, w_t4, ← List.take_append_drop 24 ((((words1.drop 24).drop 24).drop 24).drop 24), List.all_append, w_t5, ← List.take_append_drop 24 (((((words1.drop 24).drop 24).drop 24).drop 24).drop 24), List.all_append, w_t6, ← List.take_append_drop 24 ((((((words1.drop 24).drop 24).drop 24).drop 24).drop 24).drop 24), List.all_append, w_t7, w_t8]
  rfl
set_option maxRecDepth 65536 in
theorem w_rest : rest_1_c.before args0 about1 = true := by decide +kernel
set_option maxRecDepth 65536 in
theorem w_case : (Jvm.Cond.and given_1 narrow_1).before args0 about1 = true := by decide +kernel
theorem w_applies : (headSpec (Jvm.Cond.code x code maxLocals ret :: tables_1) room_1).applies x e0.platform about1 = true :=
  (Spec.applies_iff w_frames).mpr ⟨w_running, w_runnable, w_alone, w_named, w_hears, w_ripe, w_room, w_tables⟩
theorem atStart : AtStart classFile x code maxLocals ret World_1 tables_1 room_1 Calls_1 rest_1 Pre_1 launch0 p0 e0 about1 theMethod args0 below0 :=
  ⟨lists_1, trivial, launch0.admits_env _ _ _, launch0.least_env, fairChoices_fair.cas, fairChoices_fair.clock, w_frames, w_args, w_heap, w_applies, trivial, w_rest, w_case⟩
end start1
theorem witness_1 : WitnessClaimed_1 := ⟨start1.p0, start1.e0, start1.about1, start1.theMethod, start1.args0, start1.below0, start1.atStart⟩
end Jvm.Pilot.@@N@@
