import JvmDerived
import JvmDerived.Pilot.@@N@@Statement
import JvmDerived.Pilot.@@N@@Code
set_option linter.unusedVariables false
set_option linter.unusedSimpArgs false
namespace Jvm.Pilot.@@N@@.Own
open Jvm Jvm.ClassFile Sem Op Lib Jvm.Free Jvm.Stand Jvm.LawKit Jvm.RoadKit Bundle
/-! The walk's own logic: a judgement on a frame, one rule a step. -/
def Goes (p : Program) (e : Env) (below : List Frame) (PQ : Outcome → State → Prop) (t : State) : Prop :=
  ∃ s₂ o, Steps p.tables e below t s₂ ∧ s₂.status = .running ∧ Ended s₂ below o ∧ PQ o s₂
def EndP (wd : Bool) (s Z : State) (EL : List (String × Nat)) (n0 : Nat) (h0 : Heap) (ws : List Addr) (k n : Nat) (Q : Option Value → Heap → Prop) (o : Outcome) (u : State) : Prop :=
  ∃ v L, o = .returned v ∧ (Fr n0 L ∧ Old Z n0 u.heap ∧ Keep h0 u.heap ws ∧ Q v u.heap) ∧
    (match wd with | true => CHr Z EL s.vm s.heap u.vm u.heap ∧ ReturnedEndW s o u L k n | false => FrameEnd s o u L k n)
/-- the contract of one body: from the heap h0, with these arguments, it returns and Q holds; what lay in h0 stands but for ws -/
def Con (wd : Bool) (l : Launch) (Z : State) (EL : List (String × Nat)) (n0 : Nat) (y : MethodName) (bytes : ByteArray) (maxL : Nat) (ret : Option FieldType) (rm : Room) (as' : Array Value) (h0 : Heap) (ws : List Addr) (Q : Option Value → Heap → Prop) : Prop :=
  ∀ wds : List Jvm.Cond, MetFree l y (head1 (Jvm.Cond.code y bytes maxL ret :: wds) rm) (fun a U => a = as' ∧ Z.Warmed39 U.vm ∧ U.heap = h0 ∧ (wd = true → CHv Z EL U.vm h0)) (fun _ _ _ _ _ => True)
    (fun _ U o U' => EndP wd U Z EL n0 h0 ws rm.cells rm.slots Q o U')
def Good (p : Program) (meth : Method) (c : Code) (code : ByteArray) (maxL : Nat) (ret : Option FieldType) (nm : String) : Prop :=
  p.tables.exec = Jvm.exec ∧ c.code = code ∧ c.maxLocals = maxL ∧ meth.sig.returnType = ret ∧ meth.locks = false ∧ meth.name = nm
def Wk (p : Program) (l : Launch) (e : Env) (R : Room) (s : State) (m : MethodId) (args : Array Value) (below : List Frame) (meth : Method) (c : Code)
    (own : String) (Z : State) (a0 : Array Value) (EL : List (String × Nat)) (n0 : Nat) (h0 : Heap) (ws : List Addr) (wd : Bool)
    (sf : List Addr) (vm : Vm) (T : State) (h : Heap) (locs : List Loc) (cells slots : Nat) : Prop :=
  Stand p l e R (s.setVm vm) m args below meth c T locs cells slots ∧ T.heap = h ∧ Z.Warmed39 vm ∧ vm.findClass own = some m.cls ∧ s.Since vm h.size ∧ s.heap = h0 ∧
    Fr n0 locs ∧ Old Z n0 h ∧ Keep h0 h ws ∧ (wd = false → vm = s.vm) ∧
    (wd = true → EW Z a0 EL ∧ CHr Z EL s.vm h0 vm h ∧ ∀ x ∈ sf, x < h.size ∧ Safe Z EL vm h x)
def Ok (p : Program) (l : Launch) (e : Env) (R : Room) (s : State) (m : MethodId) (args : Array Value) (below : List Frame) (meth : Method) (c : Code)
    (own : String) (Z : State) (a0 : Array Value) (EL : List (String × Nat)) (n0 : Nat) (h0 : Heap) (ws : List Addr) (wd : Bool) (Q : Option Value → Heap → Prop)
    (sf : List Addr) (h : Heap) (cells slots : Nat) (g : JFrame) : Prop :=
  ∀ vm T locs, Wk p l e R s m args below meth c own Z a0 EL n0 h0 ws wd sf vm T h locs cells slots → Goes p e below (EndP wd s Z EL n0 h0 ws R.cells R.slots Q) (T.setTop g)
def SafeFor (wd : Bool) (Z : State) (EL : List (String × Nat)) (sf : List Addr) (h : Heap) (a : Addr) : Prop := wd = true → (a ∈ sf ∨ ∀ vm, Z.vm.Alike vm → Safe Z EL vm h a)
section Core
variable {p : Program} {l : Launch} {e : Env} {R : Room} {s : State} {m : MethodId} {args : Array Value} {below : List Frame} {meth : Method} {c : Code}
  {own : String} {Z : State} {a0 : Array Value} {EL : List (String × Nat)} {n0 : Nat} {h0 : Heap} {ws : List Addr} {wd : Bool} {Q : Option Value → Heap → Prop}
  {sf : List Addr} {h : Heap} {cells slots : Nat} {g g' : JFrame} {code : ByteArray} {maxL : Nat} {ret : Option FieldType} {nm : String} {a : Addr}
theorem SafeFor.narrow : SafeFor false Z EL sf h a := fun q => nomatch q
theorem SafeFor.mem (q : a ∈ sf) : SafeFor wd Z EL sf h a := fun _ => Or.inl q
theorem SafeFor.exa {C : String} (E : Exa Z h a C) (h1 : C ≠ "java/lang/String") (h2 : C ≠ "[B") : SafeFor wd Z EL sf h a := fun _ => Or.inr fun _ hal => Safe.exa hal E h1 h2
theorem SafeFor.arv {k : ClassId} {ty : FieldType} {z : Int32} {vs : List Value} {dv : Value} (F : Arv Z h a k ty z vs dv) (ht : ty ≠ .byte) : SafeFor wd Z EL sf h a := fun _ => Or.inr fun _ hal => Safe.arv hal F ht
/-- entering -/
theorem Con.intro {y : MethodName} {rm : Room} {as' : Array Value} (hp : plainFor y = true) (hO : Old Z n0 h0) (hE : wd = true → EW Z a0 EL)
    (body : ∀ (p : Program) (e : Env) (s : State) (m : MethodId) (below : List Frame) (meth : Method) (c : Code), Good p meth c code maxL ret y.name →
      Ok p l e rm s m as' below meth c y.cls Z a0 EL n0 h0 ws wd Q [] h0 0 0 (entryFrame m as' maxL)) : Con wd l Z EL n0 y code maxL ret rm as' h0 ws Q := by
  intro wds
  refine MetFree.of_bodySF hp hisR ?_
  intro p e s m args below meth c s₁ Bd hml hP hK
  obtain ⟨rfl, hZ, hh, hC⟩ := hP
  have hown := findClass_of_methodNamed Bd.named
  have hnm := (name_of_methodNamed Bd.named Bd.method).1
  have X0 : Stand p l e rm s m _ below meth c s₁ [] 0 0 := Stand.of_body Bd
  have e0 : s₁.heap = h0 := by rw [← hh, Bd.state]; rfl
  exact body p e s m below meth c ⟨Bd.exec, Bd.bytes, hml, Bd.returns, Bd.notSynchronized, hnm⟩ s.vm s₁ []
    ⟨X0, e0, hZ, hown, (State.WarmedH.refl s).since _, hh, Fr.nil _, hO, Keep.refl _ _, fun _ => rfl, fun q => ⟨hE q, CHr.refl (hC q), fun _ z => nomatch z⟩⟩
/-- a step that leaves tables and heap -/
theorem ok_step (st : ∀ T target, At T m c below → Steps p.tables e below (T.setTop g') target → Steps p.tables e below (T.setTop g) target)
    (k : Ok p l e R s m args below meth c own Z a0 EL n0 h0 ws wd Q sf h cells slots g') : Ok p l e R s m args below meth c own Z a0 EL n0 h0 ws wd Q sf h cells slots g := by
  intro vm T locs W
  obtain ⟨s₂, o, h1, h2⟩ := k vm T locs W
  exact ⟨s₂, o, st T s₂ W.1.here h1, h2⟩
/-- a step that leaves the heap and may warm the tables -/
theorem ok_stepT (st : ∀ vm T locs, Stand p l e R (s.setVm vm) m args below meth c T locs cells slots → T.heap = h → Z.Warmed39 vm → vm.findClass own = some m.cls → Old Z n0 h →
      ∃ T', Stand p l e R (s.setVm vm) m args below meth c T' locs cells slots ∧ T'.heap = h ∧ ∀ target, Steps p.tables e below (T'.setTop g') target → Steps p.tables e below (T.setTop g) target)
    (k : Ok p l e R s m args below meth c own Z a0 EL n0 h0 ws wd Q sf h cells slots g') : Ok p l e R s m args below meth c own Z a0 EL n0 h0 ws wd Q sf h cells slots g := by
  intro vm T locs W
  obtain ⟨X, e0, hZ, hown, hS, hh, N, O, K, r⟩ := W
  obtain ⟨T', X', e1, st'⟩ := st vm T locs X e0 hZ hown O
  obtain ⟨s₂, o, h1, h2⟩ := k vm T' locs ⟨X', e1, hZ, hown, hS, hh, N, O, K, r⟩
  exact ⟨s₂, o, st' s₂ h1, h2⟩
/-- a step that makes cells at the heap's end -/
theorem ok_stepE {cells' slots' : Nat} {sf' : List Addr} {P : Heap → Prop} (hg : ∀ x ∈ sf', x ∈ sf ∨ x = h.size)
    (st : ∀ vm T locs, Stand p l e R (s.setVm vm) m args below meth c T locs cells slots → T.heap = h → Z.Warmed39 vm → vm.findClass own = some m.cls → Old Z n0 h →
      ∃ T' h', Stand p l e R (s.setVm vm) m args below meth c T' locs cells' slots' ∧ T'.heap = h' ∧ Ext h h' ∧ h.size < h'.size ∧ P h' ∧ ∀ target, Steps p.tables e below (T'.setTop g') target → Steps p.tables e below (T.setTop g) target)
    (k : ∀ h', Keep h h' [] → n0 ≤ h.size → h0.size ≤ h.size → P h' → Ok p l e R s m args below meth c own Z a0 EL n0 h0 ws wd Q sf' h' cells' slots' g') :
    Ok p l e R s m args below meth c own Z a0 EL n0 h0 ws wd Q sf h cells slots g := by
  intro vm T locs W
  obtain ⟨X, e0, hZ, hown, hS, hh, N, O, K, r, r'⟩ := W
  obtain ⟨T', h', X', e1, E, hlt, hP, st'⟩ := st vm T locs X e0 hZ hown O
  have hsz : n0 ≤ h.size := O.1 ▸ O.2.1
  obtain ⟨s₂, o, h1, h2⟩ := k h' ((Keep.refl h []).ext E) hsz K.1 hP vm T' locs ⟨X', e1, hZ, hown, ⟨hS.1, fun j q hj hq => ⟨(hS.2 j q hj hq).1, Nat.lt_of_lt_of_le (hS.2 j q hj hq).2 E.1⟩⟩, hh, N, O.ext E, K.ext E, r, fun q => by
    obtain ⟨hE, hC, hs⟩ := r' q
    refine ⟨hE, hC.trans (CHr.ext E hC.1), fun x hx => ?_⟩
    rcases hg x hx with z | rfl
    · exact ⟨Nat.lt_of_lt_of_le (hs x z).1 E.1, Safe.ext E hC.1 (hs x z).2⟩
    · exact ⟨hlt, Safe.ext E hC.1 (Safe.new (Nat.le_refl _))⟩⟩
  exact ⟨s₂, o, st' s₂ h1, h2⟩
/-- a step that writes one place -/
theorem ok_stepW {sl : Nat} {v : Value} (hn : n0 ≤ a) (hw : a ∈ ws ∨ h0.size ≤ a) (hs : SafeFor wd Z EL sf h a)
    (st : ∀ vm T locs, Stand p l e R (s.setVm vm) m args below meth c T locs cells slots → T.heap = h → Z.Warmed39 vm → vm.findClass own = some m.cls → Old Z n0 h →
      ∃ T' h', Stand p l e R (s.setVm vm) m args below meth c T' (locs ++ [⟨a, sl⟩]) cells slots ∧ T'.heap = h' ∧ Wr h h' a sl v ∧ ∀ target, Steps p.tables e below (T'.setTop g') target → Steps p.tables e below (T.setTop g) target)
    (k : ∀ h', Keep h h' [a] → Wr h h' a sl v → Ok p l e R s m args below meth c own Z a0 EL n0 h0 ws wd Q sf h' cells slots g') :
    Ok p l e R s m args below meth c own Z a0 EL n0 h0 ws wd Q sf h cells slots g := by
  intro vm T locs W
  obtain ⟨X, e0, hZ, hown, hS, hh, N, O, K, r, r'⟩ := W
  obtain ⟨T', h', X', e1, Wr1, st'⟩ := st vm T locs X e0 hZ hown O
  have hsz := Wr1.size
  obtain ⟨s₂, o, h1, h2⟩ := k h' (Keep.of_wr Wr1) Wr1 vm T' _ ⟨X', e1, hZ, hown, by rw [hsz]; exact hS, hh, Fr.snoc X' N hn, O.wr Wr1 hn, K.wr Wr1 hw, r, fun q => by
    obtain ⟨hE, hC, hs'⟩ := r' q
    have hsa : Safe Z EL vm h a := by
      rcases hs q with z | z
      · exact (hs' a z).2
      · exact z vm hZ.alike
    exact ⟨hE, hC.trans (CHr.wr Wr1 hsa hC.1), fun x hx => ⟨by rw [hsz]; exact (hs' x hx).1, Safe.wr Wr1 hsa hC.1 (hs' x hx).2⟩⟩⟩
  exact ⟨s₂, o, st' s₂ h1, h2⟩
/-- the same frame, said otherwise -/
theorem ok_as (g' : JFrame) (q : g = g') (k : Ok p l e R s m args below meth c own Z a0 EL n0 h0 ws wd Q sf h cells slots g') : Ok p l e R s m args below meth c own Z a0 EL n0 h0 ws wd Q sf h cells slots g := q ▸ k
/-- more cells and slots booked -/
theorem ok_book (cells' slots' : Nat) (q1 : cells ≤ cells') (q2 : slots ≤ slots') (k : Ok p l e R s m args below meth c own Z a0 EL n0 h0 ws wd Q sf h cells' slots' g) : Ok p l e R s m args below meth c own Z a0 EL n0 h0 ws wd Q sf h cells slots g := by
  intro vm T locs W
  obtain ⟨X, r⟩ := W
  exact k vm T locs ⟨{ X with same := X.same.mono q1 q2 }, r⟩
/-- another list of safe places -/
theorem ok_sf (sf' : List Addr) (q : ∀ x ∈ sf', x < h.size ∧ SafeFor wd Z EL sf h x) (k : Ok p l e R s m args below meth c own Z a0 EL n0 h0 ws wd Q sf' h cells slots g) : Ok p l e R s m args below meth c own Z a0 EL n0 h0 ws wd Q sf h cells slots g := by
  intro vm T locs W
  obtain ⟨X, e0, hZ, hown, hS, hh, N, O, K, r, r'⟩ := W
  exact k vm T locs ⟨X, e0, hZ, hown, hS, hh, N, O, K, r, fun w => by
    obtain ⟨hE, hC, hs⟩ := r' w
    refine ⟨hE, hC, fun x hx => ⟨(q x hx).1, ?_⟩⟩
    rcases (q x hx).2 w with z | z
    · exact (hs x z).2
    · exact z vm hZ.alike⟩
theorem ok_old (k : Old Z n0 h → Ok p l e R s m args below meth c own Z a0 EL n0 h0 ws wd Q sf h cells slots g) : Ok p l e R s m args below meth c own Z a0 EL n0 h0 ws wd Q sf h cells slots g := by
  intro vm T locs W
  exact k W.2.2.2.2.2.2.2.1 vm T locs W
theorem ok_keep (k : Keep h0 h ws → Ok p l e R s m args below meth c own Z a0 EL n0 h0 ws wd Q sf h cells slots g) : Ok p l e R s m args below meth c own Z a0 EL n0 h0 ws wd Q sf h cells slots g := by
  intro vm T locs W
  exact k W.2.2.2.2.2.2.2.2.1 vm T locs W
/-- the end -/
theorem ok_end {v : Option Value} (G : Good p meth c code maxL ret nm) (hv : ret = none → v = none) (hq : Q v h)
    (st : ∀ vm T locs fs, Stand p l e R (s.setVm vm) m args below meth c T locs cells slots → (∀ (f : JFrame) (acts : List Action), f.method = m → f.locked = none → f.entered = [] → (doReturn e (T.setTop f) acts v).1 = T.setFrames fs) →
      Steps p.tables e below (T.setTop g) (T.setFrames fs)) (hc : cells ≤ R.cells) (hl : slots ≤ R.slots) : Ok p l e R s m args below meth c own Z a0 EL n0 h0 ws wd Q sf h cells slots g := by
  intro vm T locs W
  obtain ⟨X, e0, hZ, hown, hS, hh, N, O, K, r, r'⟩ := W
  have hlocks : meth.locks = false := G.2.2.2.2.1
  have hv' : meth.sig.returnType = none → v = none := by rw [G.2.2.2.1]; exact hv
  subst e0
  cases wd with
  | false =>
    have e1 : vm = s.vm := r rfl
    obtain ⟨fs, hr, hrun, hended, hW, hsame⟩ := X.leave (v := v) hv' hlocks
    refine ⟨_, _, st vm T locs fs X hr, hrun, hended, v, locs, rfl, ⟨N, O, K, hq⟩, ⟨v, rfl⟩, ?_, ?_⟩
    · rw [e1] at hW; exact hW
    · rw [e1] at hsame; exact hsame.mono hc hl
  | true =>
    obtain ⟨hE, hC, hs⟩ := r' rfl
    obtain ⟨fs, hr, hrun, hended, hEnd⟩ := X.leaveW hS (Nat.le_refl _) (v := v) hv' hlocks
    refine ⟨_, _, st vm T locs fs X hr, hrun, hended, v, locs, rfl, ⟨N, O, K, hq⟩, ?_, hEnd.1, hEnd.2.1, hEnd.2.2.1, hEnd.2.2.2.mono hc hl⟩
    have q := hC.trans (CHv.at X hZ hE hC.1)
    rw [← hh] at q
    exact q
theorem ok_return (G : Good p meth c code maxL ret nm) (hret : ret = none) {pc : Nat} {L : Array Slot} (hd : decode code pc = .ok (.return_, 1)) (hq : Q none h) (hc : cells ≤ R.cells) (hl : slots ≤ R.slots) :
    Ok p l e R s m args below meth c own Z a0 EL n0 h0 ws wd Q sf h cells slots (mkF m pc L []) :=
  ok_end G (fun _ => rfl) hq (fun vm T locs fs X hr => X.returnOut G.1 (by rw [G.2.2.2.1]; exact hret) (hb G.2.1 hd) hr) hc hl
theorem ok_ret {t : FieldType} {w : Value} {i : Instr} (G : Good p meth c code maxL ret nm) (hret : ret = some t) {pc : Nat} {L : Array Slot} {S : List Value}
    (hi : (i = .ireturn ∧ (t = .int ∨ t = .boolean ∨ t = .byte ∨ t = .char ∨ t = .short) ∧ ∃ z, w = .int z) ∨ (i = .lreturn ∧ t = .long ∧ ∃ z, w = .long z) ∨ (i = .dreturn ∧ t = .double ∧ ∃ z, w = .double z) ∨ (i = .freturn ∧ t = .float ∧ ∃ z, w = .float z) ∨ (i = .areturn ∧ t.isReference = true ∧ w.isRef = true))
    (hd : decode code pc = .ok (i, 1)) (hn : narrow t w = w) (hq : Q (some w) h) (hc : cells ≤ R.cells) (hl : slots ≤ R.slots) :
    Ok p l e R s m args below meth c own Z a0 EL n0 h0 ws wd Q sf h cells slots (mkF m pc L (w :: S)) :=
  ok_end G (fun q => by rw [hret] at q; cases q) hq (fun vm T locs fs X hr => retOut X G.1 (by rw [G.2.2.2.1]; exact hret) hn hi (hb G.2.1 hd) hr) hc hl
theorem ok_retI {z : Int32} (G : Good p meth c code maxL ret nm) (hret : ret = some .int) {pc : Nat} {L : Array Slot} {S : List Value} (hd : decode code pc = .ok (.ireturn, 1)) (hq : Q (some (.int z)) h) (hc : cells ≤ R.cells) (hl : slots ≤ R.slots) :
    Ok p l e R s m args below meth c own Z a0 EL n0 h0 ws wd Q sf h cells slots (mkF m pc L (.int z :: S)) := ok_ret G hret (Or.inl ⟨rfl, Or.inl rfl, z, rfl⟩) hd rfl hq hc hl
theorem ok_retN {z : Int32} {t : FieldType} (G : Good p meth c code maxL ret nm) (hret : ret = some t) (ht : t = .boolean ∨ t = .byte ∨ t = .char ∨ t = .short) {pc : Nat} {L : Array Slot} {S : List Value} (hd : decode code pc = .ok (.ireturn, 1)) (hn : narrow t (.int z) = .int z) (hq : Q (some (.int z)) h) (hc : cells ≤ R.cells) (hl : slots ≤ R.slots) :
    Ok p l e R s m args below meth c own Z a0 EL n0 h0 ws wd Q sf h cells slots (mkF m pc L (.int z :: S)) := ok_ret G hret (Or.inl ⟨rfl, Or.inr ht, z, rfl⟩) hd hn hq hc hl
theorem ok_retJ {z : Int64} (G : Good p meth c code maxL ret nm) (hret : ret = some .long) {pc : Nat} {L : Array Slot} {S : List Value} (hd : decode code pc = .ok (.lreturn, 1)) (hq : Q (some (.long z)) h) (hc : cells ≤ R.cells) (hl : slots ≤ R.slots) :
    Ok p l e R s m args below meth c own Z a0 EL n0 h0 ws wd Q sf h cells slots (mkF m pc L (.long z :: S)) := ok_ret G hret (Or.inr (Or.inl ⟨rfl, rfl, z, rfl⟩)) hd rfl hq hc hl
theorem ok_retA {w : Value} {t : FieldType} (G : Good p meth c code maxL ret nm) (hret : ret = some t) (ht : t.isReference = true) (hw : w.isRef = true) {pc : Nat} {L : Array Slot} {S : List Value} (hd : decode code pc = .ok (.areturn, 1)) (hn : narrow t w = w) (hq : Q (some w) h) (hc : cells ≤ R.cells) (hl : slots ≤ R.slots) :
    Ok p l e R s m args below meth c own Z a0 EL n0 h0 ws wd Q sf h cells slots (mkF m pc L (w :: S)) := ok_ret G hret (Or.inr (Or.inr (Or.inr (Or.inr ⟨rfl, ht, hw⟩)))) hd hn hq hc hl
end Core
end Jvm.Pilot.@@N@@.Own
namespace Jvm.Pilot.@@N@@.Own
open Jvm Jvm.ClassFile Sem Op Lib Jvm.Free Jvm.Stand Jvm.LawKit Jvm.RoadKit Bundle
section Plain
variable {p : Program} {l : Launch} {e : Env} {R : Room} {s : State} {m : MethodId} {args : Array Value} {below : List Frame} {meth : Method} {c : Code}
  {own : String} {Z : State} {a0 : Array Value} {EL : List (String × Nat)} {n0 : Nat} {h0 : Heap} {ws : List Addr} {wd : Bool} {Q : Option Value → Heap → Prop}
  {sf : List Addr} {h : Heap} {cells slots : Nat} {code : ByteArray} {maxL : Nat} {ret : Option FieldType} {nm : String} {a : Addr}
theorem ok_aload (G : Good p meth c code maxL ret nm) {pc : Nat} {L : Array Slot} {S : List Value} {k0 : Nat} {v : Value} (hd : decode code pc = .ok (.aload k0, 2)) (hl : L[k0]? = some (.val v)) (hv : v.isRef = true) (k : Ok p l e R s m args below meth c own Z a0 EL n0 h0 ws wd Q sf h cells slots (mkF m (pc + 2) L (v :: S))) : Ok p l e R s m args below meth c own Z a0 EL n0 h0 ws wd Q sf h cells slots (mkF m pc L S) :=
  ok_step (fun T t hA k => XS.aload hA G.1 rfl (hb G.2.1 hd) hl hv k) k
theorem ok_aloadN (G : Good p meth c code maxL ret nm) {pc : Nat} {L : Array Slot} {S : List Value} {k0 : Fin 4} {v : Value} (hd : decode code pc = .ok (.aload_n k0, 1)) (hl : L[k0.val]? = some (.val v)) (hv : v.isRef = true) (k : Ok p l e R s m args below meth c own Z a0 EL n0 h0 ws wd Q sf h cells slots (mkF m (pc + 1) L (v :: S))) : Ok p l e R s m args below meth c own Z a0 EL n0 h0 ws wd Q sf h cells slots (mkF m pc L S) :=
  ok_step (fun T t hA k => XS.aloadN hA G.1 rfl (hb G.2.1 hd) hl hv k) k
theorem ok_iload (G : Good p meth c code maxL ret nm) {pc : Nat} {L : Array Slot} {S : List Value} {k0 : Nat} {v : Int32} (hd : decode code pc = .ok (.iload k0, 2)) (hl : L[k0]? = some (.val (.int v))) (k : Ok p l e R s m args below meth c own Z a0 EL n0 h0 ws wd Q sf h cells slots (mkF m (pc + 2) L ((.int v) :: S))) : Ok p l e R s m args below meth c own Z a0 EL n0 h0 ws wd Q sf h cells slots (mkF m pc L S) :=
  ok_step (fun T t hA k => XS.iload hA G.1 rfl (hb G.2.1 hd) hl k) k
theorem ok_iloadN (G : Good p meth c code maxL ret nm) {pc : Nat} {L : Array Slot} {S : List Value} {k0 : Fin 4} {v : Int32} (hd : decode code pc = .ok (.iload_n k0, 1)) (hl : L[k0.val]? = some (.val (.int v))) (k : Ok p l e R s m args below meth c own Z a0 EL n0 h0 ws wd Q sf h cells slots (mkF m (pc + 1) L ((.int v) :: S))) : Ok p l e R s m args below meth c own Z a0 EL n0 h0 ws wd Q sf h cells slots (mkF m pc L S) :=
  ok_step (fun T t hA k => XS.iloadN hA G.1 rfl (hb G.2.1 hd) hl k) k
theorem ok_lload (G : Good p meth c code maxL ret nm) {pc : Nat} {L : Array Slot} {S : List Value} {k0 : Nat} {v : Int64} (hd : decode code pc = .ok (.lload k0, 2)) (hl : L[k0]? = some (.val (.long v))) (k : Ok p l e R s m args below meth c own Z a0 EL n0 h0 ws wd Q sf h cells slots (mkF m (pc + 2) L ((.long v) :: S))) : Ok p l e R s m args below meth c own Z a0 EL n0 h0 ws wd Q sf h cells slots (mkF m pc L S) :=
  ok_step (fun T t hA k => XS.lload hA G.1 rfl (hb G.2.1 hd) hl k) k
theorem ok_lloadN (G : Good p meth c code maxL ret nm) {pc : Nat} {L : Array Slot} {S : List Value} {k0 : Fin 4} {v : Int64} (hd : decode code pc = .ok (.lload_n k0, 1)) (hl : L[k0.val]? = some (.val (.long v))) (k : Ok p l e R s m args below meth c own Z a0 EL n0 h0 ws wd Q sf h cells slots (mkF m (pc + 1) L ((.long v) :: S))) : Ok p l e R s m args below meth c own Z a0 EL n0 h0 ws wd Q sf h cells slots (mkF m pc L S) :=
  ok_step (fun T t hA k => XS.lloadN hA G.1 rfl (hb G.2.1 hd) hl k) k
theorem ok_istore (G : Good p meth c code maxL ret nm) {pc : Nat} {L : Array Slot} {S : List Value} {k0 : Nat} {v : Int32} (L' : Array Slot) (hd : decode code pc = .ok (.istore k0, 2)) (hl : storeLocals L k0 (.int v) = some L') (k : Ok p l e R s m args below meth c own Z a0 EL n0 h0 ws wd Q sf h cells slots (mkF m (pc + 2) L' S)) : Ok p l e R s m args below meth c own Z a0 EL n0 h0 ws wd Q sf h cells slots (mkF m pc L ((.int v) :: S)) :=
  ok_step (fun T t hA k => XS.istore hA G.1 rfl (hb G.2.1 hd) rfl hl k) k
theorem ok_istoreN (G : Good p meth c code maxL ret nm) {pc : Nat} {L : Array Slot} {S : List Value} {k0 : Fin 4} {v : Int32} (L' : Array Slot) (hd : decode code pc = .ok (.istore_n k0, 1)) (hl : storeLocals L k0.val (.int v) = some L') (k : Ok p l e R s m args below meth c own Z a0 EL n0 h0 ws wd Q sf h cells slots (mkF m (pc + 1) L' S)) : Ok p l e R s m args below meth c own Z a0 EL n0 h0 ws wd Q sf h cells slots (mkF m pc L ((.int v) :: S)) :=
  ok_step (fun T t hA k => XS.istoreN hA G.1 rfl (hb G.2.1 hd) rfl hl k) k
theorem ok_lstore (G : Good p meth c code maxL ret nm) {pc : Nat} {L : Array Slot} {S : List Value} {k0 : Nat} {v : Int64} (L' : Array Slot) (hd : decode code pc = .ok (.lstore k0, 2)) (hl : storeLocals L k0 (.long v) = some L') (k : Ok p l e R s m args below meth c own Z a0 EL n0 h0 ws wd Q sf h cells slots (mkF m (pc + 2) L' S)) : Ok p l e R s m args below meth c own Z a0 EL n0 h0 ws wd Q sf h cells slots (mkF m pc L ((.long v) :: S)) :=
  ok_step (fun T t hA k => XS.lstore hA G.1 rfl (hb G.2.1 hd) rfl hl k) k
theorem ok_lstoreN (G : Good p meth c code maxL ret nm) {pc : Nat} {L : Array Slot} {S : List Value} {k0 : Fin 4} {v : Int64} (L' : Array Slot) (hd : decode code pc = .ok (.lstore_n k0, 1)) (hl : storeLocals L k0.val (.long v) = some L') (k : Ok p l e R s m args below meth c own Z a0 EL n0 h0 ws wd Q sf h cells slots (mkF m (pc + 1) L' S)) : Ok p l e R s m args below meth c own Z a0 EL n0 h0 ws wd Q sf h cells slots (mkF m pc L ((.long v) :: S)) :=
  ok_step (fun T t hA k => XS.lstoreN hA G.1 rfl (hb G.2.1 hd) rfl hl k) k
theorem ok_astore (G : Good p meth c code maxL ret nm) {pc : Nat} {L : Array Slot} {S : List Value} {k0 : Nat} {v : Value} (L' : Array Slot) (hd : decode code pc = .ok (.astore k0, 2)) (hv : v.isRef = true) (hl : storeLocals L k0 v = some L') (k : Ok p l e R s m args below meth c own Z a0 EL n0 h0 ws wd Q sf h cells slots (mkF m (pc + 2) L' S)) : Ok p l e R s m args below meth c own Z a0 EL n0 h0 ws wd Q sf h cells slots (mkF m pc L (v :: S)) :=
  ok_step (fun T t hA k => XS.astore hA G.1 rfl (hb G.2.1 hd) rfl hv hl k) k
theorem ok_astoreN (G : Good p meth c code maxL ret nm) {pc : Nat} {L : Array Slot} {S : List Value} {k0 : Fin 4} {v : Value} (L' : Array Slot) (hd : decode code pc = .ok (.astore_n k0, 1)) (hv : v.isRef = true) (hl : storeLocals L k0.val v = some L') (k : Ok p l e R s m args below meth c own Z a0 EL n0 h0 ws wd Q sf h cells slots (mkF m (pc + 1) L' S)) : Ok p l e R s m args below meth c own Z a0 EL n0 h0 ws wd Q sf h cells slots (mkF m pc L (v :: S)) :=
  ok_step (fun T t hA k => XS.astoreN hA G.1 rfl (hb G.2.1 hd) rfl hv hl k) k
theorem ok_iconst (G : Good p meth c code maxL ret nm) {pc : Nat} {L : Array Slot} {S : List Value} {i : Int} (v : Int32) (hd : decode code pc = .ok (.iconst i, 1)) (hv : Int32.ofInt i = v) (k : Ok p l e R s m args below meth c own Z a0 EL n0 h0 ws wd Q sf h cells slots (mkF m (pc + 1) L (.int v :: S))) : Ok p l e R s m args below meth c own Z a0 EL n0 h0 ws wd Q sf h cells slots (mkF m pc L S) :=
  ok_step (fun T t hA k => XS.iconst hA G.1 rfl (hb G.2.1 hd) (by rw [hv]; exact k)) k
theorem ok_bipush (G : Good p meth c code maxL ret nm) {pc : Nat} {L : Array Slot} {S : List Value} {i : Int} (v : Int32) (hd : decode code pc = .ok (.bipush i, 2)) (hv : (Int8.ofInt i).toInt32 = v) (k : Ok p l e R s m args below meth c own Z a0 EL n0 h0 ws wd Q sf h cells slots (mkF m (pc + 2) L (.int v :: S))) : Ok p l e R s m args below meth c own Z a0 EL n0 h0 ws wd Q sf h cells slots (mkF m pc L S) :=
  ok_step (fun T t hA k => XS.bipush hA G.1 rfl (hb G.2.1 hd) (by rw [hv]; exact k)) k
theorem ok_sipush (G : Good p meth c code maxL ret nm) {pc : Nat} {L : Array Slot} {S : List Value} {i : Int} (v : Int32) (hd : decode code pc = .ok (.sipush i, 3)) (hv : (Int16.ofInt i).toInt32 = v) (k : Ok p l e R s m args below meth c own Z a0 EL n0 h0 ws wd Q sf h cells slots (mkF m (pc + 3) L (.int v :: S))) : Ok p l e R s m args below meth c own Z a0 EL n0 h0 ws wd Q sf h cells slots (mkF m pc L S) :=
  ok_step (fun T t hA k => XS.sipush hA G.1 rfl (hb G.2.1 hd) (by rw [hv]; exact k)) k
theorem ok_lconst0 (G : Good p meth c code maxL ret nm) {pc : Nat} {L : Array Slot} {S : List Value}  (hd : decode code pc = .ok (.lconst 0, 1)) (k : Ok p l e R s m args below meth c own Z a0 EL n0 h0 ws wd Q sf h cells slots (mkF m (pc + 1) L (.long 0 :: S))) : Ok p l e R s m args below meth c own Z a0 EL n0 h0 ws wd Q sf h cells slots (mkF m pc L S) :=
  ok_step (fun T t hA k => XS.lconst hA G.1 rfl (hb G.2.1 hd) k) k
theorem ok_lconst1 (G : Good p meth c code maxL ret nm) {pc : Nat} {L : Array Slot} {S : List Value}  (hd : decode code pc = .ok (.lconst 1, 1)) (k : Ok p l e R s m args below meth c own Z a0 EL n0 h0 ws wd Q sf h cells slots (mkF m (pc + 1) L (.long 1 :: S))) : Ok p l e R s m args below meth c own Z a0 EL n0 h0 ws wd Q sf h cells slots (mkF m pc L S) :=
  ok_step (fun T t hA k => XS.lconst hA G.1 rfl (hb G.2.1 hd) k) k
theorem ok_aconst_null (G : Good p meth c code maxL ret nm) {pc : Nat} {L : Array Slot} {S : List Value}  (hd : decode code pc = .ok (.aconst_null, 1)) (k : Ok p l e R s m args below meth c own Z a0 EL n0 h0 ws wd Q sf h cells slots (mkF m (pc + 1) L (.null :: S))) : Ok p l e R s m args below meth c own Z a0 EL n0 h0 ws wd Q sf h cells slots (mkF m pc L S) :=
  ok_step (fun T t hA k => XS.aconstNull hA G.1 rfl (hb G.2.1 hd) k) k
theorem ok_iadd (G : Good p meth c code maxL ret nm) {pc : Nat} {L : Array Slot} {S : List Value} {x y : Int32} (hd : decode code pc = .ok (.iadd, 1)) (k : Ok p l e R s m args below meth c own Z a0 EL n0 h0 ws wd Q sf h cells slots (mkF m (pc + 1) L (.int (x + y) :: S))) : Ok p l e R s m args below meth c own Z a0 EL n0 h0 ws wd Q sf h cells slots (mkF m pc L (.int y :: .int x :: S)) :=
  ok_step (fun T t hA k => XS.iadd hA G.1 rfl (hb G.2.1 hd) rfl k) k
theorem ok_isub (G : Good p meth c code maxL ret nm) {pc : Nat} {L : Array Slot} {S : List Value} {x y : Int32} (hd : decode code pc = .ok (.isub, 1)) (k : Ok p l e R s m args below meth c own Z a0 EL n0 h0 ws wd Q sf h cells slots (mkF m (pc + 1) L (.int (x - y) :: S))) : Ok p l e R s m args below meth c own Z a0 EL n0 h0 ws wd Q sf h cells slots (mkF m pc L (.int y :: .int x :: S)) :=
  ok_step (fun T t hA k => XS.isub hA G.1 rfl (hb G.2.1 hd) rfl k) k
theorem ok_imul (G : Good p meth c code maxL ret nm) {pc : Nat} {L : Array Slot} {S : List Value} {x y : Int32} (hd : decode code pc = .ok (.imul, 1)) (k : Ok p l e R s m args below meth c own Z a0 EL n0 h0 ws wd Q sf h cells slots (mkF m (pc + 1) L (.int (x * y) :: S))) : Ok p l e R s m args below meth c own Z a0 EL n0 h0 ws wd Q sf h cells slots (mkF m pc L (.int y :: .int x :: S)) :=
  ok_step (fun T t hA k => XS.imul hA G.1 rfl (hb G.2.1 hd) rfl k) k
theorem ok_iand (G : Good p meth c code maxL ret nm) {pc : Nat} {L : Array Slot} {S : List Value} {x y : Int32} (hd : decode code pc = .ok (.iand, 1)) (k : Ok p l e R s m args below meth c own Z a0 EL n0 h0 ws wd Q sf h cells slots (mkF m (pc + 1) L (.int (x &&& y) :: S))) : Ok p l e R s m args below meth c own Z a0 EL n0 h0 ws wd Q sf h cells slots (mkF m pc L (.int y :: .int x :: S)) :=
  ok_step (fun T t hA k => XS.iand hA G.1 rfl (hb G.2.1 hd) rfl k) k
theorem ok_ior (G : Good p meth c code maxL ret nm) {pc : Nat} {L : Array Slot} {S : List Value} {x y : Int32} (hd : decode code pc = .ok (.ior, 1)) (k : Ok p l e R s m args below meth c own Z a0 EL n0 h0 ws wd Q sf h cells slots (mkF m (pc + 1) L (.int (x ||| y) :: S))) : Ok p l e R s m args below meth c own Z a0 EL n0 h0 ws wd Q sf h cells slots (mkF m pc L (.int y :: .int x :: S)) :=
  ok_step (fun T t hA k => XS.ior hA G.1 rfl (hb G.2.1 hd) rfl k) k
theorem ok_ixor (G : Good p meth c code maxL ret nm) {pc : Nat} {L : Array Slot} {S : List Value} {x y : Int32} (hd : decode code pc = .ok (.ixor, 1)) (k : Ok p l e R s m args below meth c own Z a0 EL n0 h0 ws wd Q sf h cells slots (mkF m (pc + 1) L (.int (x ^^^ y) :: S))) : Ok p l e R s m args below meth c own Z a0 EL n0 h0 ws wd Q sf h cells slots (mkF m pc L (.int y :: .int x :: S)) :=
  ok_step (fun T t hA k => XS.ixor hA G.1 rfl (hb G.2.1 hd) rfl k) k
theorem ok_ishl (G : Good p meth c code maxL ret nm) {pc : Nat} {L : Array Slot} {S : List Value} {x y : Int32} (hd : decode code pc = .ok (.ishl, 1)) (k : Ok p l e R s m args below meth c own Z a0 EL n0 h0 ws wd Q sf h cells slots (mkF m (pc + 1) L (.int (x <<< (y &&& 31)) :: S))) : Ok p l e R s m args below meth c own Z a0 EL n0 h0 ws wd Q sf h cells slots (mkF m pc L (.int y :: .int x :: S)) :=
  ok_step (fun T t hA k => XS.ishl hA G.1 rfl (hb G.2.1 hd) rfl k) k
theorem ok_ishr (G : Good p meth c code maxL ret nm) {pc : Nat} {L : Array Slot} {S : List Value} {x y : Int32} (hd : decode code pc = .ok (.ishr, 1)) (k : Ok p l e R s m args below meth c own Z a0 EL n0 h0 ws wd Q sf h cells slots (mkF m (pc + 1) L (.int (x >>> (y &&& 31)) :: S))) : Ok p l e R s m args below meth c own Z a0 EL n0 h0 ws wd Q sf h cells slots (mkF m pc L (.int y :: .int x :: S)) :=
  ok_step (fun T t hA k => XS.ishr hA G.1 rfl (hb G.2.1 hd) rfl k) k
theorem ok_iushr (G : Good p meth c code maxL ret nm) {pc : Nat} {L : Array Slot} {S : List Value} {x y : Int32} (hd : decode code pc = .ok (.iushr, 1)) (k : Ok p l e R s m args below meth c own Z a0 EL n0 h0 ws wd Q sf h cells slots (mkF m (pc + 1) L (.int ((x.toUInt32 >>> (y &&& 31).toUInt32).toInt32) :: S))) : Ok p l e R s m args below meth c own Z a0 EL n0 h0 ws wd Q sf h cells slots (mkF m pc L (.int y :: .int x :: S)) :=
  ok_step (fun T t hA k => XS.iushr hA G.1 rfl (hb G.2.1 hd) rfl k) k
theorem ok_ladd (G : Good p meth c code maxL ret nm) {pc : Nat} {L : Array Slot} {S : List Value} {x y : Int64} (hd : decode code pc = .ok (.ladd, 1)) (k : Ok p l e R s m args below meth c own Z a0 EL n0 h0 ws wd Q sf h cells slots (mkF m (pc + 1) L (.long (x + y) :: S))) : Ok p l e R s m args below meth c own Z a0 EL n0 h0 ws wd Q sf h cells slots (mkF m pc L (.long y :: .long x :: S)) :=
  ok_step (fun T t hA k => XS.ladd hA G.1 rfl (hb G.2.1 hd) rfl k) k
theorem ok_lsub (G : Good p meth c code maxL ret nm) {pc : Nat} {L : Array Slot} {S : List Value} {x y : Int64} (hd : decode code pc = .ok (.lsub, 1)) (k : Ok p l e R s m args below meth c own Z a0 EL n0 h0 ws wd Q sf h cells slots (mkF m (pc + 1) L (.long (x - y) :: S))) : Ok p l e R s m args below meth c own Z a0 EL n0 h0 ws wd Q sf h cells slots (mkF m pc L (.long y :: .long x :: S)) :=
  ok_step (fun T t hA k => XS.lsub hA G.1 rfl (hb G.2.1 hd) rfl k) k
theorem ok_lmul (G : Good p meth c code maxL ret nm) {pc : Nat} {L : Array Slot} {S : List Value} {x y : Int64} (hd : decode code pc = .ok (.lmul, 1)) (k : Ok p l e R s m args below meth c own Z a0 EL n0 h0 ws wd Q sf h cells slots (mkF m (pc + 1) L (.long (x * y) :: S))) : Ok p l e R s m args below meth c own Z a0 EL n0 h0 ws wd Q sf h cells slots (mkF m pc L (.long y :: .long x :: S)) :=
  ok_step (fun T t hA k => XS.lmul hA G.1 rfl (hb G.2.1 hd) rfl k) k
theorem ok_land (G : Good p meth c code maxL ret nm) {pc : Nat} {L : Array Slot} {S : List Value} {x y : Int64} (hd : decode code pc = .ok (.land, 1)) (k : Ok p l e R s m args below meth c own Z a0 EL n0 h0 ws wd Q sf h cells slots (mkF m (pc + 1) L (.long (x &&& y) :: S))) : Ok p l e R s m args below meth c own Z a0 EL n0 h0 ws wd Q sf h cells slots (mkF m pc L (.long y :: .long x :: S)) :=
  ok_step (fun T t hA k => XS.land hA G.1 rfl (hb G.2.1 hd) rfl k) k
theorem ok_lor (G : Good p meth c code maxL ret nm) {pc : Nat} {L : Array Slot} {S : List Value} {x y : Int64} (hd : decode code pc = .ok (.lor, 1)) (k : Ok p l e R s m args below meth c own Z a0 EL n0 h0 ws wd Q sf h cells slots (mkF m (pc + 1) L (.long (x ||| y) :: S))) : Ok p l e R s m args below meth c own Z a0 EL n0 h0 ws wd Q sf h cells slots (mkF m pc L (.long y :: .long x :: S)) :=
  ok_step (fun T t hA k => XS.lor hA G.1 rfl (hb G.2.1 hd) rfl k) k
theorem ok_lxor (G : Good p meth c code maxL ret nm) {pc : Nat} {L : Array Slot} {S : List Value} {x y : Int64} (hd : decode code pc = .ok (.lxor, 1)) (k : Ok p l e R s m args below meth c own Z a0 EL n0 h0 ws wd Q sf h cells slots (mkF m (pc + 1) L (.long (x ^^^ y) :: S))) : Ok p l e R s m args below meth c own Z a0 EL n0 h0 ws wd Q sf h cells slots (mkF m pc L (.long y :: .long x :: S)) :=
  ok_step (fun T t hA k => XS.lxor hA G.1 rfl (hb G.2.1 hd) rfl k) k
theorem ok_idiv (G : Good p meth c code maxL ret nm) {pc : Nat} {L : Array Slot} {S : List Value} {x y : Int32} (hd : decode code pc = .ok (.idiv, 1)) (hy : y ≠ 0) (k : Ok p l e R s m args below meth c own Z a0 EL n0 h0 ws wd Q sf h cells slots (mkF m (pc + 1) L (.int (x / y) :: S))) : Ok p l e R s m args below meth c own Z a0 EL n0 h0 ws wd Q sf h cells slots (mkF m pc L (.int y :: .int x :: S)) :=
  ok_step (fun T t hA k => XS.idiv hA G.1 rfl (hb G.2.1 hd) rfl hy k) k
theorem ok_irem (G : Good p meth c code maxL ret nm) {pc : Nat} {L : Array Slot} {S : List Value} {x y : Int32} (hd : decode code pc = .ok (.irem, 1)) (hy : y ≠ 0) (k : Ok p l e R s m args below meth c own Z a0 EL n0 h0 ws wd Q sf h cells slots (mkF m (pc + 1) L (.int (x % y) :: S))) : Ok p l e R s m args below meth c own Z a0 EL n0 h0 ws wd Q sf h cells slots (mkF m pc L (.int y :: .int x :: S)) :=
  ok_step (fun T t hA k => XS.irem hA G.1 rfl (hb G.2.1 hd) rfl hy (by rw [irem_eq_mod x y]; exact k)) k
theorem ok_ldiv (G : Good p meth c code maxL ret nm) {pc : Nat} {L : Array Slot} {S : List Value} {x y : Int64} (hd : decode code pc = .ok (.ldiv, 1)) (hy : y ≠ 0) (k : Ok p l e R s m args below meth c own Z a0 EL n0 h0 ws wd Q sf h cells slots (mkF m (pc + 1) L (.long (x / y) :: S))) : Ok p l e R s m args below meth c own Z a0 EL n0 h0 ws wd Q sf h cells slots (mkF m pc L (.long y :: .long x :: S)) :=
  ok_step (fun T t hA k => XS.ldiv hA G.1 rfl (hb G.2.1 hd) rfl hy k) k
theorem ok_lrem (G : Good p meth c code maxL ret nm) {pc : Nat} {L : Array Slot} {S : List Value} {x y : Int64} (hd : decode code pc = .ok (.lrem, 1)) (hy : y ≠ 0) (k : Ok p l e R s m args below meth c own Z a0 EL n0 h0 ws wd Q sf h cells slots (mkF m (pc + 1) L (.long (x - x / y * y) :: S))) : Ok p l e R s m args below meth c own Z a0 EL n0 h0 ws wd Q sf h cells slots (mkF m pc L (.long y :: .long x :: S)) :=
  ok_step (fun T t hA k => XS.lrem hA G.1 rfl (hb G.2.1 hd) rfl hy k) k
theorem ok_ineg (G : Good p meth c code maxL ret nm) {pc : Nat} {L : Array Slot} {S : List Value} {x : Int32} (hd : decode code pc = .ok (.ineg, 1)) (k : Ok p l e R s m args below meth c own Z a0 EL n0 h0 ws wd Q sf h cells slots (mkF m (pc + 1) L (.int (-x) :: S))) : Ok p l e R s m args below meth c own Z a0 EL n0 h0 ws wd Q sf h cells slots (mkF m pc L (.int x :: S)) :=
  ok_step (fun T t hA k => XS.ineg hA G.1 rfl (hb G.2.1 hd) rfl k) k
theorem ok_i2b (G : Good p meth c code maxL ret nm) {pc : Nat} {L : Array Slot} {S : List Value} {x : Int32} (hd : decode code pc = .ok (.i2b, 1)) (k : Ok p l e R s m args below meth c own Z a0 EL n0 h0 ws wd Q sf h cells slots (mkF m (pc + 1) L (.int x.toInt8.toInt32 :: S))) : Ok p l e R s m args below meth c own Z a0 EL n0 h0 ws wd Q sf h cells slots (mkF m pc L (.int x :: S)) :=
  ok_step (fun T t hA k => XS.i2b hA G.1 rfl (hb G.2.1 hd) rfl k) k
theorem ok_i2c (G : Good p meth c code maxL ret nm) {pc : Nat} {L : Array Slot} {S : List Value} {x : Int32} (hd : decode code pc = .ok (.i2c, 1)) (k : Ok p l e R s m args below meth c own Z a0 EL n0 h0 ws wd Q sf h cells slots (mkF m (pc + 1) L (.int x.toUInt32.toUInt16.toUInt32.toInt32 :: S))) : Ok p l e R s m args below meth c own Z a0 EL n0 h0 ws wd Q sf h cells slots (mkF m pc L (.int x :: S)) :=
  ok_step (fun T t hA k => XS.i2c hA G.1 rfl (hb G.2.1 hd) rfl k) k
theorem ok_i2l (G : Good p meth c code maxL ret nm) {pc : Nat} {L : Array Slot} {S : List Value} {x : Int32} (hd : decode code pc = .ok (.i2l, 1)) (k : Ok p l e R s m args below meth c own Z a0 EL n0 h0 ws wd Q sf h cells slots (mkF m (pc + 1) L (.long x.toInt64 :: S))) : Ok p l e R s m args below meth c own Z a0 EL n0 h0 ws wd Q sf h cells slots (mkF m pc L (.int x :: S)) :=
  ok_step (fun T t hA k => XS.i2l hA G.1 rfl (hb G.2.1 hd) rfl k) k
theorem ok_l2i (G : Good p meth c code maxL ret nm) {pc : Nat} {L : Array Slot} {S : List Value} {x : Int64} (hd : decode code pc = .ok (.l2i, 1)) (k : Ok p l e R s m args below meth c own Z a0 EL n0 h0 ws wd Q sf h cells slots (mkF m (pc + 1) L (.int x.toInt32 :: S))) : Ok p l e R s m args below meth c own Z a0 EL n0 h0 ws wd Q sf h cells slots (mkF m pc L (.long x :: S)) :=
  ok_step (fun T t hA k => XS.l2i hA G.1 rfl (hb G.2.1 hd) rfl k) k
theorem ok_lcmp (G : Good p meth c code maxL ret nm) {pc : Nat} {L : Array Slot} {S : List Value} {x y : Int64} (hd : decode code pc = .ok (.lcmp, 1)) (k : Ok p l e R s m args below meth c own Z a0 EL n0 h0 ws wd Q sf h cells slots (mkF m (pc + 1) L (.int (lcmpW x y) :: S))) : Ok p l e R s m args below meth c own Z a0 EL n0 h0 ws wd Q sf h cells slots (mkF m pc L (.long y :: .long x :: S)) :=
  ok_step (fun T t hA k => XS.lcmp hA G.1 rfl (hb G.2.1 hd) rfl k) k
theorem ok_dup (G : Good p meth c code maxL ret nm) {pc : Nat} {L : Array Slot} {S : List Value} {v : Value} (hd : decode code pc = .ok (.dup, 1)) (hc : v.category = 1) (k : Ok p l e R s m args below meth c own Z a0 EL n0 h0 ws wd Q sf h cells slots (mkF m (pc + 1) L (v :: v :: S))) : Ok p l e R s m args below meth c own Z a0 EL n0 h0 ws wd Q sf h cells slots (mkF m pc L (v :: S)) :=
  ok_step (fun T t hA k => XS.dup hA G.1 rfl (hb G.2.1 hd) rfl hc k) k
theorem ok_pop (G : Good p meth c code maxL ret nm) {pc : Nat} {L : Array Slot} {S : List Value} {v : Value} (hd : decode code pc = .ok (.pop, 1)) (hc : v.category = 1) (k : Ok p l e R s m args below meth c own Z a0 EL n0 h0 ws wd Q sf h cells slots (mkF m (pc + 1) L S)) : Ok p l e R s m args below meth c own Z a0 EL n0 h0 ws wd Q sf h cells slots (mkF m pc L (v :: S)) :=
  ok_step (fun T t hA k => XS.pop hA G.1 rfl (hb G.2.1 hd) rfl hc k) k
theorem ok_dup_x1 (G : Good p meth c code maxL ret nm) {pc : Nat} {L : Array Slot} {S : List Value} {v w : Value} (hd : decode code pc = .ok (.dup_x1, 1)) (hc : v.category = 1) (hc2 : w.category = 1) (k : Ok p l e R s m args below meth c own Z a0 EL n0 h0 ws wd Q sf h cells slots (mkF m (pc + 1) L (v :: w :: v :: S))) : Ok p l e R s m args below meth c own Z a0 EL n0 h0 ws wd Q sf h cells slots (mkF m pc L (v :: w :: S)) :=
  ok_step (fun T t hA k => XS.dupX1 hA G.1 rfl (hb G.2.1 hd) rfl hc hc2 k) k
theorem ok_iinc (G : Good p meth c code maxL ret nm) {pc : Nat} {L : Array Slot} {S : List Value} {k0 : Nat} {cst : Int} {x : Int32} (v : Int32) (L' : Array Slot) (hd : decode code pc = .ok (.iinc k0 cst, 3)) (hl : L[k0]? = some (.val (.int x))) (hv : x + Int32.ofInt cst = v) (hl' : storeLocals L k0 (.int v) = some L') (k : Ok p l e R s m args below meth c own Z a0 EL n0 h0 ws wd Q sf h cells slots (mkF m (pc + 3) L' S)) : Ok p l e R s m args below meth c own Z a0 EL n0 h0 ws wd Q sf h cells slots (mkF m pc L S) :=
  ok_step (fun T t hA k => XS.iinc hA G.1 rfl (hb G.2.1 hd) hl (by rw [hv]; exact hl') k) k
theorem ok_goto (G : Good p meth c code maxL ret nm) {pc : Nat} {L : Array Slot} {S : List Value} {o : Int} (pc' : Nat) (hd : decode code pc = .ok (.goto o, 3)) (ho : 0 ≤ (pc : Int) + o) (hp : ((pc : Int) + o).toNat = pc') (k : Ok p l e R s m args below meth c own Z a0 EL n0 h0 ws wd Q sf h cells slots (mkF m pc' L S)) : Ok p l e R s m args below meth c own Z a0 EL n0 h0 ws wd Q sf h cells slots (mkF m pc L S) :=
  ok_step (fun T t hA k => XS.goto hA G.1 rfl rfl (hb G.2.1 hd) ho hp k) k
theorem ok_ifeq (G : Good p meth c code maxL ret nm) {pc : Nat} {L : Array Slot} {S : List Value} {x : Int32} {o : Int} (pc' : Nat) (hd : decode code pc = .ok (.ifCond .eq o, 3)) (ho : 0 ≤ (pc : Int) + o) (hp : ((pc : Int) + o).toNat = pc') (ky : x = 0 → Ok p l e R s m args below meth c own Z a0 EL n0 h0 ws wd Q sf h cells slots (mkF m pc' L S)) (kn : ¬ x = 0 → Ok p l e R s m args below meth c own Z a0 EL n0 h0 ws wd Q sf h cells slots (mkF m (pc + 3) L S)) : Ok p l e R s m args below meth c own Z a0 EL n0 h0 ws wd Q sf h cells slots (mkF m pc L (.int x :: S)) := by
  by_cases q : x = 0
  · exact ok_step (fun T t hA k => XS.ifYes hA G.1 rfl rfl (hb G.2.1 hd) rfl ((if0 _ _).trans (teq q).1) ho hp k) (ky q)
  · exact ok_step (fun T t hA k => XS.ifNo hA G.1 rfl (hb G.2.1 hd) rfl ((if0 _ _).trans (feq q).1) k) (kn q)
theorem ok_ifeqY (G : Good p meth c code maxL ret nm) {pc : Nat} {L : Array Slot} {S : List Value} {x : Int32} {o : Int} (pc' : Nat) (hd : decode code pc = .ok (.ifCond .eq o, 3)) (ho : 0 ≤ (pc : Int) + o) (hp : ((pc : Int) + o).toNat = pc') (q : x = 0) (k : Ok p l e R s m args below meth c own Z a0 EL n0 h0 ws wd Q sf h cells slots (mkF m pc' L S)) : Ok p l e R s m args below meth c own Z a0 EL n0 h0 ws wd Q sf h cells slots (mkF m pc L (.int x :: S)) := ok_ifeq G pc' hd ho hp (fun _ => k) (fun q' => absurd q q')
theorem ok_ifeqN (G : Good p meth c code maxL ret nm) {pc : Nat} {L : Array Slot} {S : List Value} {x : Int32} {o : Int} (hd : decode code pc = .ok (.ifCond .eq o, 3)) (q : ¬ x = 0) (k : Ok p l e R s m args below meth c own Z a0 EL n0 h0 ws wd Q sf h cells slots (mkF m (pc + 3) L S)) : Ok p l e R s m args below meth c own Z a0 EL n0 h0 ws wd Q sf h cells slots (mkF m pc L (.int x :: S)) :=
  ok_step (fun T t hA k => XS.ifNo hA G.1 rfl (hb G.2.1 hd) rfl ((if0 _ _).trans (feq q).1) k) k
theorem ok_icmpeq (G : Good p meth c code maxL ret nm) {pc : Nat} {L : Array Slot} {S : List Value} {x y : Int32} {o : Int} (pc' : Nat) (hd : decode code pc = .ok (.if_icmp .eq o, 3)) (ho : 0 ≤ (pc : Int) + o) (hp : ((pc : Int) + o).toNat = pc') (ky : x = y → Ok p l e R s m args below meth c own Z a0 EL n0 h0 ws wd Q sf h cells slots (mkF m pc' L S)) (kn : ¬ x = y → Ok p l e R s m args below meth c own Z a0 EL n0 h0 ws wd Q sf h cells slots (mkF m (pc + 3) L S)) : Ok p l e R s m args below meth c own Z a0 EL n0 h0 ws wd Q sf h cells slots (mkF m pc L (.int y :: .int x :: S)) := by
  by_cases q : x = y
  · exact ok_step (fun T t hA k => XS.icmpYes hA G.1 rfl rfl (hb G.2.1 hd) rfl (teq q).1 ho hp k) (ky q)
  · exact ok_step (fun T t hA k => XS.icmpNo hA G.1 rfl (hb G.2.1 hd) rfl (feq q).1 k) (kn q)
theorem ok_icmpeqY (G : Good p meth c code maxL ret nm) {pc : Nat} {L : Array Slot} {S : List Value} {x y : Int32} {o : Int} (pc' : Nat) (hd : decode code pc = .ok (.if_icmp .eq o, 3)) (ho : 0 ≤ (pc : Int) + o) (hp : ((pc : Int) + o).toNat = pc') (q : x = y) (k : Ok p l e R s m args below meth c own Z a0 EL n0 h0 ws wd Q sf h cells slots (mkF m pc' L S)) : Ok p l e R s m args below meth c own Z a0 EL n0 h0 ws wd Q sf h cells slots (mkF m pc L (.int y :: .int x :: S)) := ok_icmpeq G pc' hd ho hp (fun _ => k) (fun q' => absurd q q')
theorem ok_icmpeqN (G : Good p meth c code maxL ret nm) {pc : Nat} {L : Array Slot} {S : List Value} {x y : Int32} {o : Int} (hd : decode code pc = .ok (.if_icmp .eq o, 3)) (q : ¬ x = y) (k : Ok p l e R s m args below meth c own Z a0 EL n0 h0 ws wd Q sf h cells slots (mkF m (pc + 3) L S)) : Ok p l e R s m args below meth c own Z a0 EL n0 h0 ws wd Q sf h cells slots (mkF m pc L (.int y :: .int x :: S)) :=
  ok_step (fun T t hA k => XS.icmpNo hA G.1 rfl (hb G.2.1 hd) rfl (feq q).1 k) k
theorem ok_ifne (G : Good p meth c code maxL ret nm) {pc : Nat} {L : Array Slot} {S : List Value} {x : Int32} {o : Int} (pc' : Nat) (hd : decode code pc = .ok (.ifCond .ne o, 3)) (ho : 0 ≤ (pc : Int) + o) (hp : ((pc : Int) + o).toNat = pc') (ky : ¬ x = 0 → Ok p l e R s m args below meth c own Z a0 EL n0 h0 ws wd Q sf h cells slots (mkF m pc' L S)) (kn : x = 0 → Ok p l e R s m args below meth c own Z a0 EL n0 h0 ws wd Q sf h cells slots (mkF m (pc + 3) L S)) : Ok p l e R s m args below meth c own Z a0 EL n0 h0 ws wd Q sf h cells slots (mkF m pc L (.int x :: S)) := by
  by_cases q : x = 0
  · exact ok_step (fun T t hA k => XS.ifNo hA G.1 rfl (hb G.2.1 hd) rfl ((if0 _ _).trans (teq q).2) k) (kn q)
  · exact ok_step (fun T t hA k => XS.ifYes hA G.1 rfl rfl (hb G.2.1 hd) rfl ((if0 _ _).trans (feq q).2) ho hp k) (ky q)
theorem ok_ifneY (G : Good p meth c code maxL ret nm) {pc : Nat} {L : Array Slot} {S : List Value} {x : Int32} {o : Int} (pc' : Nat) (hd : decode code pc = .ok (.ifCond .ne o, 3)) (ho : 0 ≤ (pc : Int) + o) (hp : ((pc : Int) + o).toNat = pc') (q : ¬ x = 0) (k : Ok p l e R s m args below meth c own Z a0 EL n0 h0 ws wd Q sf h cells slots (mkF m pc' L S)) : Ok p l e R s m args below meth c own Z a0 EL n0 h0 ws wd Q sf h cells slots (mkF m pc L (.int x :: S)) := ok_ifne G pc' hd ho hp (fun _ => k) (fun q' => absurd q' q)
theorem ok_ifneN (G : Good p meth c code maxL ret nm) {pc : Nat} {L : Array Slot} {S : List Value} {x : Int32} {o : Int} (hd : decode code pc = .ok (.ifCond .ne o, 3)) (q : x = 0) (k : Ok p l e R s m args below meth c own Z a0 EL n0 h0 ws wd Q sf h cells slots (mkF m (pc + 3) L S)) : Ok p l e R s m args below meth c own Z a0 EL n0 h0 ws wd Q sf h cells slots (mkF m pc L (.int x :: S)) :=
  ok_step (fun T t hA k => XS.ifNo hA G.1 rfl (hb G.2.1 hd) rfl ((if0 _ _).trans (teq q).2) k) k
theorem ok_icmpne (G : Good p meth c code maxL ret nm) {pc : Nat} {L : Array Slot} {S : List Value} {x y : Int32} {o : Int} (pc' : Nat) (hd : decode code pc = .ok (.if_icmp .ne o, 3)) (ho : 0 ≤ (pc : Int) + o) (hp : ((pc : Int) + o).toNat = pc') (ky : ¬ x = y → Ok p l e R s m args below meth c own Z a0 EL n0 h0 ws wd Q sf h cells slots (mkF m pc' L S)) (kn : x = y → Ok p l e R s m args below meth c own Z a0 EL n0 h0 ws wd Q sf h cells slots (mkF m (pc + 3) L S)) : Ok p l e R s m args below meth c own Z a0 EL n0 h0 ws wd Q sf h cells slots (mkF m pc L (.int y :: .int x :: S)) := by
  by_cases q : x = y
  · exact ok_step (fun T t hA k => XS.icmpNo hA G.1 rfl (hb G.2.1 hd) rfl (teq q).2 k) (kn q)
  · exact ok_step (fun T t hA k => XS.icmpYes hA G.1 rfl rfl (hb G.2.1 hd) rfl (feq q).2 ho hp k) (ky q)
theorem ok_icmpneY (G : Good p meth c code maxL ret nm) {pc : Nat} {L : Array Slot} {S : List Value} {x y : Int32} {o : Int} (pc' : Nat) (hd : decode code pc = .ok (.if_icmp .ne o, 3)) (ho : 0 ≤ (pc : Int) + o) (hp : ((pc : Int) + o).toNat = pc') (q : ¬ x = y) (k : Ok p l e R s m args below meth c own Z a0 EL n0 h0 ws wd Q sf h cells slots (mkF m pc' L S)) : Ok p l e R s m args below meth c own Z a0 EL n0 h0 ws wd Q sf h cells slots (mkF m pc L (.int y :: .int x :: S)) := ok_icmpne G pc' hd ho hp (fun _ => k) (fun q' => absurd q' q)
theorem ok_icmpneN (G : Good p meth c code maxL ret nm) {pc : Nat} {L : Array Slot} {S : List Value} {x y : Int32} {o : Int} (hd : decode code pc = .ok (.if_icmp .ne o, 3)) (q : x = y) (k : Ok p l e R s m args below meth c own Z a0 EL n0 h0 ws wd Q sf h cells slots (mkF m (pc + 3) L S)) : Ok p l e R s m args below meth c own Z a0 EL n0 h0 ws wd Q sf h cells slots (mkF m pc L (.int y :: .int x :: S)) :=
  ok_step (fun T t hA k => XS.icmpNo hA G.1 rfl (hb G.2.1 hd) rfl (teq q).2 k) k
theorem ok_iflt (G : Good p meth c code maxL ret nm) {pc : Nat} {L : Array Slot} {S : List Value} {x : Int32} {o : Int} (pc' : Nat) (hd : decode code pc = .ok (.ifCond .lt o, 3)) (ho : 0 ≤ (pc : Int) + o) (hp : ((pc : Int) + o).toNat = pc') (ky : x < 0 → Ok p l e R s m args below meth c own Z a0 EL n0 h0 ws wd Q sf h cells slots (mkF m pc' L S)) (kn : ¬ x < 0 → Ok p l e R s m args below meth c own Z a0 EL n0 h0 ws wd Q sf h cells slots (mkF m (pc + 3) L S)) : Ok p l e R s m args below meth c own Z a0 EL n0 h0 ws wd Q sf h cells slots (mkF m pc L (.int x :: S)) := by
  by_cases q : x < 0
  · exact ok_step (fun T t hA k => XS.ifYes hA G.1 rfl rfl (hb G.2.1 hd) rfl ((if0 _ _).trans (tlt q).1) ho hp k) (ky q)
  · exact ok_step (fun T t hA k => XS.ifNo hA G.1 rfl (hb G.2.1 hd) rfl ((if0 _ _).trans (flt q).1) k) (kn q)
theorem ok_ifltY (G : Good p meth c code maxL ret nm) {pc : Nat} {L : Array Slot} {S : List Value} {x : Int32} {o : Int} (pc' : Nat) (hd : decode code pc = .ok (.ifCond .lt o, 3)) (ho : 0 ≤ (pc : Int) + o) (hp : ((pc : Int) + o).toNat = pc') (q : x < 0) (k : Ok p l e R s m args below meth c own Z a0 EL n0 h0 ws wd Q sf h cells slots (mkF m pc' L S)) : Ok p l e R s m args below meth c own Z a0 EL n0 h0 ws wd Q sf h cells slots (mkF m pc L (.int x :: S)) := ok_iflt G pc' hd ho hp (fun _ => k) (fun q' => absurd q q')
theorem ok_ifltN (G : Good p meth c code maxL ret nm) {pc : Nat} {L : Array Slot} {S : List Value} {x : Int32} {o : Int} (hd : decode code pc = .ok (.ifCond .lt o, 3)) (q : ¬ x < 0) (k : Ok p l e R s m args below meth c own Z a0 EL n0 h0 ws wd Q sf h cells slots (mkF m (pc + 3) L S)) : Ok p l e R s m args below meth c own Z a0 EL n0 h0 ws wd Q sf h cells slots (mkF m pc L (.int x :: S)) :=
  ok_step (fun T t hA k => XS.ifNo hA G.1 rfl (hb G.2.1 hd) rfl ((if0 _ _).trans (flt q).1) k) k
theorem ok_icmplt (G : Good p meth c code maxL ret nm) {pc : Nat} {L : Array Slot} {S : List Value} {x y : Int32} {o : Int} (pc' : Nat) (hd : decode code pc = .ok (.if_icmp .lt o, 3)) (ho : 0 ≤ (pc : Int) + o) (hp : ((pc : Int) + o).toNat = pc') (ky : x < y → Ok p l e R s m args below meth c own Z a0 EL n0 h0 ws wd Q sf h cells slots (mkF m pc' L S)) (kn : ¬ x < y → Ok p l e R s m args below meth c own Z a0 EL n0 h0 ws wd Q sf h cells slots (mkF m (pc + 3) L S)) : Ok p l e R s m args below meth c own Z a0 EL n0 h0 ws wd Q sf h cells slots (mkF m pc L (.int y :: .int x :: S)) := by
  by_cases q : x < y
  · exact ok_step (fun T t hA k => XS.icmpYes hA G.1 rfl rfl (hb G.2.1 hd) rfl (tlt q).1 ho hp k) (ky q)
  · exact ok_step (fun T t hA k => XS.icmpNo hA G.1 rfl (hb G.2.1 hd) rfl (flt q).1 k) (kn q)
theorem ok_icmpltY (G : Good p meth c code maxL ret nm) {pc : Nat} {L : Array Slot} {S : List Value} {x y : Int32} {o : Int} (pc' : Nat) (hd : decode code pc = .ok (.if_icmp .lt o, 3)) (ho : 0 ≤ (pc : Int) + o) (hp : ((pc : Int) + o).toNat = pc') (q : x < y) (k : Ok p l e R s m args below meth c own Z a0 EL n0 h0 ws wd Q sf h cells slots (mkF m pc' L S)) : Ok p l e R s m args below meth c own Z a0 EL n0 h0 ws wd Q sf h cells slots (mkF m pc L (.int y :: .int x :: S)) := ok_icmplt G pc' hd ho hp (fun _ => k) (fun q' => absurd q q')
theorem ok_icmpltN (G : Good p meth c code maxL ret nm) {pc : Nat} {L : Array Slot} {S : List Value} {x y : Int32} {o : Int} (hd : decode code pc = .ok (.if_icmp .lt o, 3)) (q : ¬ x < y) (k : Ok p l e R s m args below meth c own Z a0 EL n0 h0 ws wd Q sf h cells slots (mkF m (pc + 3) L S)) : Ok p l e R s m args below meth c own Z a0 EL n0 h0 ws wd Q sf h cells slots (mkF m pc L (.int y :: .int x :: S)) :=
  ok_step (fun T t hA k => XS.icmpNo hA G.1 rfl (hb G.2.1 hd) rfl (flt q).1 k) k
theorem ok_ifge (G : Good p meth c code maxL ret nm) {pc : Nat} {L : Array Slot} {S : List Value} {x : Int32} {o : Int} (pc' : Nat) (hd : decode code pc = .ok (.ifCond .ge o, 3)) (ho : 0 ≤ (pc : Int) + o) (hp : ((pc : Int) + o).toNat = pc') (ky : ¬ x < 0 → Ok p l e R s m args below meth c own Z a0 EL n0 h0 ws wd Q sf h cells slots (mkF m pc' L S)) (kn : x < 0 → Ok p l e R s m args below meth c own Z a0 EL n0 h0 ws wd Q sf h cells slots (mkF m (pc + 3) L S)) : Ok p l e R s m args below meth c own Z a0 EL n0 h0 ws wd Q sf h cells slots (mkF m pc L (.int x :: S)) := by
  by_cases q : x < 0
  · exact ok_step (fun T t hA k => XS.ifNo hA G.1 rfl (hb G.2.1 hd) rfl ((if0 _ _).trans (tlt q).2.1) k) (kn q)
  · exact ok_step (fun T t hA k => XS.ifYes hA G.1 rfl rfl (hb G.2.1 hd) rfl ((if0 _ _).trans (flt q).2.1) ho hp k) (ky q)
theorem ok_ifgeY (G : Good p meth c code maxL ret nm) {pc : Nat} {L : Array Slot} {S : List Value} {x : Int32} {o : Int} (pc' : Nat) (hd : decode code pc = .ok (.ifCond .ge o, 3)) (ho : 0 ≤ (pc : Int) + o) (hp : ((pc : Int) + o).toNat = pc') (q : ¬ x < 0) (k : Ok p l e R s m args below meth c own Z a0 EL n0 h0 ws wd Q sf h cells slots (mkF m pc' L S)) : Ok p l e R s m args below meth c own Z a0 EL n0 h0 ws wd Q sf h cells slots (mkF m pc L (.int x :: S)) := ok_ifge G pc' hd ho hp (fun _ => k) (fun q' => absurd q' q)
theorem ok_ifgeN (G : Good p meth c code maxL ret nm) {pc : Nat} {L : Array Slot} {S : List Value} {x : Int32} {o : Int} (hd : decode code pc = .ok (.ifCond .ge o, 3)) (q : x < 0) (k : Ok p l e R s m args below meth c own Z a0 EL n0 h0 ws wd Q sf h cells slots (mkF m (pc + 3) L S)) : Ok p l e R s m args below meth c own Z a0 EL n0 h0 ws wd Q sf h cells slots (mkF m pc L (.int x :: S)) :=
  ok_step (fun T t hA k => XS.ifNo hA G.1 rfl (hb G.2.1 hd) rfl ((if0 _ _).trans (tlt q).2.1) k) k
theorem ok_icmpge (G : Good p meth c code maxL ret nm) {pc : Nat} {L : Array Slot} {S : List Value} {x y : Int32} {o : Int} (pc' : Nat) (hd : decode code pc = .ok (.if_icmp .ge o, 3)) (ho : 0 ≤ (pc : Int) + o) (hp : ((pc : Int) + o).toNat = pc') (ky : ¬ x < y → Ok p l e R s m args below meth c own Z a0 EL n0 h0 ws wd Q sf h cells slots (mkF m pc' L S)) (kn : x < y → Ok p l e R s m args below meth c own Z a0 EL n0 h0 ws wd Q sf h cells slots (mkF m (pc + 3) L S)) : Ok p l e R s m args below meth c own Z a0 EL n0 h0 ws wd Q sf h cells slots (mkF m pc L (.int y :: .int x :: S)) := by
  by_cases q : x < y
  · exact ok_step (fun T t hA k => XS.icmpNo hA G.1 rfl (hb G.2.1 hd) rfl (tlt q).2.1 k) (kn q)
  · exact ok_step (fun T t hA k => XS.icmpYes hA G.1 rfl rfl (hb G.2.1 hd) rfl (flt q).2.1 ho hp k) (ky q)
theorem ok_icmpgeY (G : Good p meth c code maxL ret nm) {pc : Nat} {L : Array Slot} {S : List Value} {x y : Int32} {o : Int} (pc' : Nat) (hd : decode code pc = .ok (.if_icmp .ge o, 3)) (ho : 0 ≤ (pc : Int) + o) (hp : ((pc : Int) + o).toNat = pc') (q : ¬ x < y) (k : Ok p l e R s m args below meth c own Z a0 EL n0 h0 ws wd Q sf h cells slots (mkF m pc' L S)) : Ok p l e R s m args below meth c own Z a0 EL n0 h0 ws wd Q sf h cells slots (mkF m pc L (.int y :: .int x :: S)) := ok_icmpge G pc' hd ho hp (fun _ => k) (fun q' => absurd q' q)
theorem ok_icmpgeN (G : Good p meth c code maxL ret nm) {pc : Nat} {L : Array Slot} {S : List Value} {x y : Int32} {o : Int} (hd : decode code pc = .ok (.if_icmp .ge o, 3)) (q : x < y) (k : Ok p l e R s m args below meth c own Z a0 EL n0 h0 ws wd Q sf h cells slots (mkF m (pc + 3) L S)) : Ok p l e R s m args below meth c own Z a0 EL n0 h0 ws wd Q sf h cells slots (mkF m pc L (.int y :: .int x :: S)) :=
  ok_step (fun T t hA k => XS.icmpNo hA G.1 rfl (hb G.2.1 hd) rfl (tlt q).2.1 k) k
theorem ok_ifgt (G : Good p meth c code maxL ret nm) {pc : Nat} {L : Array Slot} {S : List Value} {x : Int32} {o : Int} (pc' : Nat) (hd : decode code pc = .ok (.ifCond .gt o, 3)) (ho : 0 ≤ (pc : Int) + o) (hp : ((pc : Int) + o).toNat = pc') (ky : (0 : Int32) < x → Ok p l e R s m args below meth c own Z a0 EL n0 h0 ws wd Q sf h cells slots (mkF m pc' L S)) (kn : ¬ (0 : Int32) < x → Ok p l e R s m args below meth c own Z a0 EL n0 h0 ws wd Q sf h cells slots (mkF m (pc + 3) L S)) : Ok p l e R s m args below meth c own Z a0 EL n0 h0 ws wd Q sf h cells slots (mkF m pc L (.int x :: S)) := by
  by_cases q : (0 : Int32) < x
  · exact ok_step (fun T t hA k => XS.ifYes hA G.1 rfl rfl (hb G.2.1 hd) rfl ((if0 _ _).trans (tlt q).2.2.1) ho hp k) (ky q)
  · exact ok_step (fun T t hA k => XS.ifNo hA G.1 rfl (hb G.2.1 hd) rfl ((if0 _ _).trans (flt q).2.2.1) k) (kn q)
theorem ok_ifgtY (G : Good p meth c code maxL ret nm) {pc : Nat} {L : Array Slot} {S : List Value} {x : Int32} {o : Int} (pc' : Nat) (hd : decode code pc = .ok (.ifCond .gt o, 3)) (ho : 0 ≤ (pc : Int) + o) (hp : ((pc : Int) + o).toNat = pc') (q : (0 : Int32) < x) (k : Ok p l e R s m args below meth c own Z a0 EL n0 h0 ws wd Q sf h cells slots (mkF m pc' L S)) : Ok p l e R s m args below meth c own Z a0 EL n0 h0 ws wd Q sf h cells slots (mkF m pc L (.int x :: S)) := ok_ifgt G pc' hd ho hp (fun _ => k) (fun q' => absurd q q')
theorem ok_ifgtN (G : Good p meth c code maxL ret nm) {pc : Nat} {L : Array Slot} {S : List Value} {x : Int32} {o : Int} (hd : decode code pc = .ok (.ifCond .gt o, 3)) (q : ¬ (0 : Int32) < x) (k : Ok p l e R s m args below meth c own Z a0 EL n0 h0 ws wd Q sf h cells slots (mkF m (pc + 3) L S)) : Ok p l e R s m args below meth c own Z a0 EL n0 h0 ws wd Q sf h cells slots (mkF m pc L (.int x :: S)) :=
  ok_step (fun T t hA k => XS.ifNo hA G.1 rfl (hb G.2.1 hd) rfl ((if0 _ _).trans (flt q).2.2.1) k) k
theorem ok_icmpgt (G : Good p meth c code maxL ret nm) {pc : Nat} {L : Array Slot} {S : List Value} {x y : Int32} {o : Int} (pc' : Nat) (hd : decode code pc = .ok (.if_icmp .gt o, 3)) (ho : 0 ≤ (pc : Int) + o) (hp : ((pc : Int) + o).toNat = pc') (ky : y < x → Ok p l e R s m args below meth c own Z a0 EL n0 h0 ws wd Q sf h cells slots (mkF m pc' L S)) (kn : ¬ y < x → Ok p l e R s m args below meth c own Z a0 EL n0 h0 ws wd Q sf h cells slots (mkF m (pc + 3) L S)) : Ok p l e R s m args below meth c own Z a0 EL n0 h0 ws wd Q sf h cells slots (mkF m pc L (.int y :: .int x :: S)) := by
  by_cases q : y < x
  · exact ok_step (fun T t hA k => XS.icmpYes hA G.1 rfl rfl (hb G.2.1 hd) rfl (tlt q).2.2.1 ho hp k) (ky q)
  · exact ok_step (fun T t hA k => XS.icmpNo hA G.1 rfl (hb G.2.1 hd) rfl (flt q).2.2.1 k) (kn q)
theorem ok_icmpgtY (G : Good p meth c code maxL ret nm) {pc : Nat} {L : Array Slot} {S : List Value} {x y : Int32} {o : Int} (pc' : Nat) (hd : decode code pc = .ok (.if_icmp .gt o, 3)) (ho : 0 ≤ (pc : Int) + o) (hp : ((pc : Int) + o).toNat = pc') (q : y < x) (k : Ok p l e R s m args below meth c own Z a0 EL n0 h0 ws wd Q sf h cells slots (mkF m pc' L S)) : Ok p l e R s m args below meth c own Z a0 EL n0 h0 ws wd Q sf h cells slots (mkF m pc L (.int y :: .int x :: S)) := ok_icmpgt G pc' hd ho hp (fun _ => k) (fun q' => absurd q q')
theorem ok_icmpgtN (G : Good p meth c code maxL ret nm) {pc : Nat} {L : Array Slot} {S : List Value} {x y : Int32} {o : Int} (hd : decode code pc = .ok (.if_icmp .gt o, 3)) (q : ¬ y < x) (k : Ok p l e R s m args below meth c own Z a0 EL n0 h0 ws wd Q sf h cells slots (mkF m (pc + 3) L S)) : Ok p l e R s m args below meth c own Z a0 EL n0 h0 ws wd Q sf h cells slots (mkF m pc L (.int y :: .int x :: S)) :=
  ok_step (fun T t hA k => XS.icmpNo hA G.1 rfl (hb G.2.1 hd) rfl (flt q).2.2.1 k) k
theorem ok_ifle (G : Good p meth c code maxL ret nm) {pc : Nat} {L : Array Slot} {S : List Value} {x : Int32} {o : Int} (pc' : Nat) (hd : decode code pc = .ok (.ifCond .le o, 3)) (ho : 0 ≤ (pc : Int) + o) (hp : ((pc : Int) + o).toNat = pc') (ky : ¬ (0 : Int32) < x → Ok p l e R s m args below meth c own Z a0 EL n0 h0 ws wd Q sf h cells slots (mkF m pc' L S)) (kn : (0 : Int32) < x → Ok p l e R s m args below meth c own Z a0 EL n0 h0 ws wd Q sf h cells slots (mkF m (pc + 3) L S)) : Ok p l e R s m args below meth c own Z a0 EL n0 h0 ws wd Q sf h cells slots (mkF m pc L (.int x :: S)) := by
  by_cases q : (0 : Int32) < x
  · exact ok_step (fun T t hA k => XS.ifNo hA G.1 rfl (hb G.2.1 hd) rfl ((if0 _ _).trans (tlt q).2.2.2) k) (kn q)
  · exact ok_step (fun T t hA k => XS.ifYes hA G.1 rfl rfl (hb G.2.1 hd) rfl ((if0 _ _).trans (flt q).2.2.2) ho hp k) (ky q)
theorem ok_ifleY (G : Good p meth c code maxL ret nm) {pc : Nat} {L : Array Slot} {S : List Value} {x : Int32} {o : Int} (pc' : Nat) (hd : decode code pc = .ok (.ifCond .le o, 3)) (ho : 0 ≤ (pc : Int) + o) (hp : ((pc : Int) + o).toNat = pc') (q : ¬ (0 : Int32) < x) (k : Ok p l e R s m args below meth c own Z a0 EL n0 h0 ws wd Q sf h cells slots (mkF m pc' L S)) : Ok p l e R s m args below meth c own Z a0 EL n0 h0 ws wd Q sf h cells slots (mkF m pc L (.int x :: S)) := ok_ifle G pc' hd ho hp (fun _ => k) (fun q' => absurd q' q)
theorem ok_ifleN (G : Good p meth c code maxL ret nm) {pc : Nat} {L : Array Slot} {S : List Value} {x : Int32} {o : Int} (hd : decode code pc = .ok (.ifCond .le o, 3)) (q : (0 : Int32) < x) (k : Ok p l e R s m args below meth c own Z a0 EL n0 h0 ws wd Q sf h cells slots (mkF m (pc + 3) L S)) : Ok p l e R s m args below meth c own Z a0 EL n0 h0 ws wd Q sf h cells slots (mkF m pc L (.int x :: S)) :=
  ok_step (fun T t hA k => XS.ifNo hA G.1 rfl (hb G.2.1 hd) rfl ((if0 _ _).trans (tlt q).2.2.2) k) k
theorem ok_icmple (G : Good p meth c code maxL ret nm) {pc : Nat} {L : Array Slot} {S : List Value} {x y : Int32} {o : Int} (pc' : Nat) (hd : decode code pc = .ok (.if_icmp .le o, 3)) (ho : 0 ≤ (pc : Int) + o) (hp : ((pc : Int) + o).toNat = pc') (ky : ¬ y < x → Ok p l e R s m args below meth c own Z a0 EL n0 h0 ws wd Q sf h cells slots (mkF m pc' L S)) (kn : y < x → Ok p l e R s m args below meth c own Z a0 EL n0 h0 ws wd Q sf h cells slots (mkF m (pc + 3) L S)) : Ok p l e R s m args below meth c own Z a0 EL n0 h0 ws wd Q sf h cells slots (mkF m pc L (.int y :: .int x :: S)) := by
  by_cases q : y < x
  · exact ok_step (fun T t hA k => XS.icmpNo hA G.1 rfl (hb G.2.1 hd) rfl (tlt q).2.2.2 k) (kn q)
  · exact ok_step (fun T t hA k => XS.icmpYes hA G.1 rfl rfl (hb G.2.1 hd) rfl (flt q).2.2.2 ho hp k) (ky q)
theorem ok_icmpleY (G : Good p meth c code maxL ret nm) {pc : Nat} {L : Array Slot} {S : List Value} {x y : Int32} {o : Int} (pc' : Nat) (hd : decode code pc = .ok (.if_icmp .le o, 3)) (ho : 0 ≤ (pc : Int) + o) (hp : ((pc : Int) + o).toNat = pc') (q : ¬ y < x) (k : Ok p l e R s m args below meth c own Z a0 EL n0 h0 ws wd Q sf h cells slots (mkF m pc' L S)) : Ok p l e R s m args below meth c own Z a0 EL n0 h0 ws wd Q sf h cells slots (mkF m pc L (.int y :: .int x :: S)) := ok_icmple G pc' hd ho hp (fun _ => k) (fun q' => absurd q' q)
theorem ok_icmpleN (G : Good p meth c code maxL ret nm) {pc : Nat} {L : Array Slot} {S : List Value} {x y : Int32} {o : Int} (hd : decode code pc = .ok (.if_icmp .le o, 3)) (q : y < x) (k : Ok p l e R s m args below meth c own Z a0 EL n0 h0 ws wd Q sf h cells slots (mkF m (pc + 3) L S)) : Ok p l e R s m args below meth c own Z a0 EL n0 h0 ws wd Q sf h cells slots (mkF m pc L (.int y :: .int x :: S)) :=
  ok_step (fun T t hA k => XS.icmpNo hA G.1 rfl (hb G.2.1 hd) rfl (tlt q).2.2.2 k) k
theorem ok_ifnullY (G : Good p meth c code maxL ret nm) {pc : Nat} {L : Array Slot} {S : List Value} {o : Int} (pc' : Nat) (hd : decode code pc = .ok (.ifnull o, 3)) (ho : 0 ≤ (pc : Int) + o) (hp : ((pc : Int) + o).toNat = pc') (k : Ok p l e R s m args below meth c own Z a0 EL n0 h0 ws wd Q sf h cells slots (mkF m pc' L S)) : Ok p l e R s m args below meth c own Z a0 EL n0 h0 ws wd Q sf h cells slots (mkF m pc L (.null :: S)) := ok_step (fun T t hA k => XS.ifnullYes hA G.1 rfl rfl (hb G.2.1 hd) rfl ho hp k) k
theorem ok_ifnullN (G : Good p meth c code maxL ret nm) {pc : Nat} {L : Array Slot} {S : List Value} {o : Int} {b : Addr} (hd : decode code pc = .ok (.ifnull o, 3)) (k : Ok p l e R s m args below meth c own Z a0 EL n0 h0 ws wd Q sf h cells slots (mkF m (pc + 3) L S)) : Ok p l e R s m args below meth c own Z a0 EL n0 h0 ws wd Q sf h cells slots (mkF m pc L (.ref b :: S)) := ok_step (fun T t hA k => XS.ifnullNo hA G.1 rfl (hb G.2.1 hd) rfl k) k
theorem ok_ifnonnullY (G : Good p meth c code maxL ret nm) {pc : Nat} {L : Array Slot} {S : List Value} {o : Int} {b : Addr} (pc' : Nat) (hd : decode code pc = .ok (.ifnonnull o, 3)) (ho : 0 ≤ (pc : Int) + o) (hp : ((pc : Int) + o).toNat = pc') (k : Ok p l e R s m args below meth c own Z a0 EL n0 h0 ws wd Q sf h cells slots (mkF m pc' L S)) : Ok p l e R s m args below meth c own Z a0 EL n0 h0 ws wd Q sf h cells slots (mkF m pc L (.ref b :: S)) := ok_step (fun T t hA k => XS.ifnonnullYes hA G.1 rfl rfl (hb G.2.1 hd) rfl ho hp k) k
theorem ok_ifnonnullN (G : Good p meth c code maxL ret nm) {pc : Nat} {L : Array Slot} {S : List Value} {o : Int} (hd : decode code pc = .ok (.ifnonnull o, 3)) (k : Ok p l e R s m args below meth c own Z a0 EL n0 h0 ws wd Q sf h cells slots (mkF m (pc + 3) L S)) : Ok p l e R s m args below meth c own Z a0 EL n0 h0 ws wd Q sf h cells slots (mkF m pc L (.null :: S)) := ok_step (fun T t hA k => XS.ifnonnullNo hA G.1 rfl (hb G.2.1 hd) rfl k) k
theorem ok_acmp (G : Good p meth c code maxL ret nm) {pc : Nat} {L : Array Slot} {S : List Value} {o : Int} {cd : ClassFile.ACond} {v w : Value} (same : Bool) (pc' : Nat) (hd : decode code pc = .ok (.if_acmp cd o, 3)) (h1 : v.isRef = true) (h2 : w.isRef = true) (hq : decide (v = w) = same) (ho : 0 ≤ (pc : Int) + o) (hp : pc' = if acV cd same = true then ((pc : Int) + o).toNat else pc + 3) (k : Ok p l e R s m args below meth c own Z a0 EL n0 h0 ws wd Q sf h cells slots (mkF m pc' L S)) : Ok p l e R s m args below meth c own Z a0 EL n0 h0 ws wd Q sf h cells slots (mkF m pc L (w :: v :: S)) :=
  ok_stepT (fun vm T locs X e0 hZ hown O => ⟨T, X, e0, fun t k => Jvm.RoadKit.acmp X G.1 rfl h1 h2 rfl (hb G.2.1 hd) rfl hq ho hp k⟩) k
theorem ok_ldcI (G : Good p meth c code maxL ret nm) {pc : Nat} {L : Array Slot} {S : List Value} {i : Nat} {v : Int32} (w : (Jvm.Cond.constant own i v).before a0 Z = true) (hd : decode code pc = .ok (.ldc i, 2)) (k : Ok p l e R s m args below meth c own Z a0 EL n0 h0 ws wd Q sf h cells slots (mkF m (pc + 2) L (.int v :: S))) : Ok p l e R s m args below meth c own Z a0 EL n0 h0 ws wd Q sf h cells slots (mkF m pc L S) :=
  ok_stepT (fun vm T locs X e0 hZ hown O => ⟨T, X, e0, fun t k => X.ldcInt G.1 hown (mvT (s := s.setVm vm) hZ w) (g := mkF m pc L S) rfl (hb G.2.1 hd) t k⟩) k
theorem ok_ldcJ (G : Good p meth c code maxL ret nm) {pc : Nat} {L : Array Slot} {S : List Value} {i : Nat} {v : Int64} (w : (Jvm.Cond.constantLong own i v).before a0 Z = true) (hd : decode code pc = .ok (.ldc2_w i, 3)) (k : Ok p l e R s m args below meth c own Z a0 EL n0 h0 ws wd Q sf h cells slots (mkF m (pc + 3) L (.long v :: S))) : Ok p l e R s m args below meth c own Z a0 EL n0 h0 ws wd Q sf h cells slots (mkF m pc L S) :=
  ok_stepT (fun vm T locs X e0 hZ hown O => ⟨T, X, e0, fun t k => X.ldc2Long G.1 hown (mvT (s := s.setVm vm) hZ w) (g := mkF m pc L S) rfl (hb G.2.1 hd) t k⟩) k
theorem ok_nameI {pc : Nat} {L : Array Slot} {S : List Value} {x : Int32} (k : ∀ z, z = x → Ok p l e R s m args below meth c own Z a0 EL n0 h0 ws wd Q sf h cells slots (mkF m pc L (.int z :: S))) : Ok p l e R s m args below meth c own Z a0 EL n0 h0 ws wd Q sf h cells slots (mkF m pc L (.int x :: S)) := k x rfl
theorem ok_nameJ {pc : Nat} {L : Array Slot} {S : List Value} {x : Int64} (k : ∀ z, z = x → Ok p l e R s m args below meth c own Z a0 EL n0 h0 ws wd Q sf h cells slots (mkF m pc L (.long z :: S))) : Ok p l e R s m args below meth c own Z a0 EL n0 h0 ws wd Q sf h cells slots (mkF m pc L (.long x :: S)) := k x rfl
theorem ok_sayI {pc : Nat} {L : Array Slot} {S : List Value} {x : Int32} (z : Int32) (q : x = z) (k : Ok p l e R s m args below meth c own Z a0 EL n0 h0 ws wd Q sf h cells slots (mkF m pc L (.int z :: S))) : Ok p l e R s m args below meth c own Z a0 EL n0 h0 ws wd Q sf h cells slots (mkF m pc L (.int x :: S)) := q ▸ k
theorem ok_sayJ {pc : Nat} {L : Array Slot} {S : List Value} {x : Int64} (z : Int64) (q : x = z) (k : Ok p l e R s m args below meth c own Z a0 EL n0 h0 ws wd Q sf h cells slots (mkF m pc L (.long z :: S))) : Ok p l e R s m args below meth c own Z a0 EL n0 h0 ws wd Q sf h cells slots (mkF m pc L (.long x :: S)) := q ▸ k
end Plain
end Jvm.Pilot.@@N@@.Own
namespace Jvm.Pilot.@@N@@.Own
open Jvm Jvm.ClassFile Sem Op Lib Jvm.Free Jvm.Stand Jvm.LawKit Jvm.RoadKit Bundle
section Heaps
variable {p : Program} {l : Launch} {e : Env} {R : Room} {s : State} {m : MethodId} {args : Array Value} {below : List Frame} {meth : Method} {c : Code}
  {own : String} {Z : State} {a0 : Array Value} {EL : List (String × Nat)} {n0 : Nat} {h0 : Heap} {ws : List Addr} {wd : Bool} {Q : Option Value → Heap → Prop}
  {sf : List Addr} {h : Heap} {cells slots : Nat} {code : ByteArray} {maxL : Nat} {ret : Option FieldType} {nm : String} {a : Addr}
theorem ok_getF (G : Good p meth c code maxL ret nm) {pc : Nat} {L : Array Slot} {S : List Value} {R0 O n d host : String} {index : Nat} (w : (Jvm.Cond.fieldLink own index R0 n d).before a0 Z = true ∨ (Jvm.Cond.fieldLinkNest own index R0 n d host).before a0 Z = true) (via : Via Z R0 O n d) {v : Value} (F : Fld Z h a O n d v) (hd : decode code pc = .ok (.getfield index, 3))
    (k : Ok p l e R s m args below meth c own Z a0 EL n0 h0 ws wd Q sf h cells slots (mkF m (pc + 3) L (v :: S))) : Ok p l e R s m args below meth c own Z a0 EL n0 h0 ws wd Q sf h cells slots (mkF m pc L (.ref a :: S)) :=
  ok_stepT (fun vm T locs X e0 hZ hown O => getF X G.1 hZ hown w via e0 F (g := mkF m pc L (.ref a :: S)) rfl rfl (hb G.2.1 hd)) k
theorem ok_getS (G : Good p meth c code maxL ret nm) {pc : Nat} {L : Array Slot} {S : List Value} {R0 O n d host : String} {index : Nat} (w : (Jvm.Cond.fieldLink own index R0 n d).before a0 Z = true ∨ (Jvm.Cond.fieldLinkNest own index R0 n d host).before a0 Z = true) (via : Via Z R0 O n d) {v : Value} (F : Sta Z Z.heap O n d v) (hd : decode code pc = .ok (.getstatic index, 3))
    (k : Ok p l e R s m args below meth c own Z a0 EL n0 h0 ws wd Q sf h cells slots (mkF m (pc + 3) L (v :: S))) : Ok p l e R s m args below meth c own Z a0 EL n0 h0 ws wd Q sf h cells slots (mkF m pc L S) :=
  ok_stepT (fun vm T locs X e0 hZ hown O' => getS2 X G.1 hZ hown w via e0 (F.ext O'.2) (g := mkF m pc L S) rfl (hb G.2.1 hd)) k
theorem ok_putF (G : Good p meth c code maxL ret nm) {pc : Nat} {L : Array Slot} {S : List Value} {R0 O n d host C : String} {index kk : Nat} {ty : FieldType} (w : (Jvm.Cond.fieldLink own index R0 n d).before a0 Z = true ∨ (Jvm.Cond.fieldLinkNest own index R0 n d host).before a0 Z = true) (via : Via Z R0 O n d) {v old : Value} (F : Fld Z h a O n d old) (E : Exa Z h a C)
    (Lw : (Jvm.Cond.lays C O n d).before a0 Z = true ∨ ((Jvm.Cond.laysFinal C O n d).before a0 Z = true ∧ own = O ∧ nm = "<init>")) (wi : (Jvm.Cond.instantiable C kk).before a0 Z = true) (hty : parseFieldDescriptor d = some ty) (hn : narrow ty v = v) (hf : fits ty v = true) (hd : decode code pc = .ok (.putfield index, 3))
    (hg : n0 ≤ a) (hw : a ∈ ws ∨ h0.size ≤ a) (hs : SafeFor wd Z EL sf h a)
    (k : ∀ h', Keep h h' [a] → Wr h h' a (Jvm.RoadKit.slotOf Z O n d) v → Fld Z h' a O n d v → Ok p l e R s m args below meth c own Z a0 EL n0 h0 ws wd Q sf h' cells slots (mkF m (pc + 3) L S)) : Ok p l e R s m args below meth c own Z a0 EL n0 h0 ws wd Q sf h cells slots (mkF m pc L (v :: .ref a :: S)) :=
  ok_stepW hg hw hs (fun vm T locs X e0 hZ hown O => putF X G.1 hZ hown w via e0 F E (Lw.imp id fun q => ⟨q.1, q.2.1, G.2.2.2.2.2.trans q.2.2⟩) wi hty hn hf (g := mkF m pc L (v :: .ref a :: S)) rfl rfl (hb G.2.1 hd)) (fun h' K W => k h' K W (F.same W))
theorem ok_new (G : Good p meth c code maxL ret nm) {pc : Nat} {L : Array Slot} {S : List Value} {C : String} {index n : Nat} (w : (Jvm.Cond.classLink own index C).before a0 Z = true) (wi : (Jvm.Cond.instantiable C n).before a0 Z = true) (wz : (Jvm.Cond.initialized C).before a0 Z = true) (hd : decode code pc = .ok (.new index, 3)) (hc : cells + 1 ≤ R.cells) (hl : slots + n ≤ R.slots)
    (k : ∀ h' a, a = h.size → Keep h h' [] → n0 ≤ a → h0.size ≤ a → Exa Z h' a C → (∀ (O nm d : String) (ty : FieldType), Laid Z a0 C O nm d → parseFieldDescriptor d = some ty → Fld Z h' a O nm d (defaultValue ty)) → Ok p l e R s m args below meth c own Z a0 EL n0 h0 ws wd Q (a :: sf) h' (cells + 1) (slots + n) (mkF m (pc + 3) L (.ref a :: S))) :
    Ok p l e R s m args below meth c own Z a0 EL n0 h0 ws wd Q sf h cells slots (mkF m pc L S) :=
  ok_stepE (sf' := h.size :: sf) (P := fun h' => Exa Z h' h.size C ∧ ∀ (O nm d : String) (ty : FieldType), Laid Z a0 C O nm d → parseFieldDescriptor d = some ty → Fld Z h' h.size O nm d (defaultValue ty)) (fun x hx => (List.mem_cons.mp hx).elim Or.inr Or.inl)
    (fun vm T locs X e0 hZ hown O => by
      obtain ⟨T', h', X', e1, E, A, D, -, st⟩ := newO X G.1 hZ hown w wi wz e0 (g := mkF m pc L S) rfl (hb G.2.1 hd) hc hl
      exact ⟨T', h', X', e1, E, A.lt, ⟨A, fun O nm d ty q1 q2 => D q1 q2⟩, st⟩) (fun h' K q1 q2 P => k h' h.size rfl K q1 q2 P.1 P.2)
theorem ok_newP (G : Good p meth c code maxL ret nm) {pc : Nat} {L : Array Slot} {S : List Value} {aty : ArrayType} {n : Int32} (w : (Jvm.Cond.arrayClass (newarray.typeOf aty)).before a0 Z = true) (hd : decode code pc = .ok (.newarray aty, 2)) (hn : ¬ n < 0) (cap : Nat) (hcap : n.toNatClampNeg ≤ cap) (hbig : cap * 8 ≤ 536870912) (hc : cells + 1 ≤ R.cells) (hl : slots + cap ≤ R.slots)
    (k : ∀ h' a kA, a = h.size → Keep h h' [] → n0 ≤ a → h0.size ≤ a → Arv Z h' a kA (newarray.typeOf aty) n [] (defaultValue (newarray.typeOf aty)) → Ok p l e R s m args below meth c own Z a0 EL n0 h0 ws wd Q (a :: sf) h' (cells + 1) (slots + cap) (mkF m (pc + 2) L (.ref a :: S))) :
    Ok p l e R s m args below meth c own Z a0 EL n0 h0 ws wd Q sf h cells slots (mkF m pc L (.int n :: S)) :=
  ok_stepE (sf' := h.size :: sf) (P := fun h' => ∃ kA, Arv Z h' h.size kA (newarray.typeOf aty) n [] (defaultValue (newarray.typeOf aty))) (fun x hx => (List.mem_cons.mp hx).elim Or.inr Or.inl)
    (fun vm T locs X e0 hZ hown O => by
      obtain ⟨T', h', kA, X', e1, E, A, st⟩ := newP X G.1 hZ w e0 (g := mkF m pc L (.int n :: S)) rfl (hb G.2.1 hd) rfl hn hcap hbig hc hl
      exact ⟨T', h', X', e1, E, A.lt, ⟨kA, Arv.new A hn⟩, st⟩) (fun h' K q1 q2 P => by obtain ⟨kA, P⟩ := P; exact k h' h.size kA rfl K q1 q2 P)
theorem ok_castore (G : Good p meth c code maxL ret nm) {pc : Nat} {L : Array Slot} {S : List Value} {kA : ClassId} {z j : Int32} {x : Int32} (x' : Int32) {vs : List Value} {dv : Value} (i : Nat) (F : Arv Z h a kA .char z vs dv) (hj : ¬ j < 0 ∧ j < z) (hi : j.toNatClampNeg = i) (hi' : i < vs.length) (hv : nar .char x = x') (hd : decode code pc = .ok (.castore, 1))
    (hg : n0 ≤ a) (hw : a ∈ ws ∨ h0.size ≤ a) (hs : SafeFor wd Z EL sf h a)
    (k : ∀ h', Keep h h' [a] → Arv Z h' a kA .char z (vs.set i (.int x')) dv → Ok p l e R s m args below meth c own Z a0 EL n0 h0 ws wd Q sf h' cells slots (mkF m (pc + 1) L S)) : Ok p l e R s m args below meth c own Z a0 EL n0 h0 ws wd Q sf h cells slots (mkF m pc L (.int x :: .int j :: .ref a :: S)) := by
  subst hv
  obtain ⟨cl, A, q, Sz, N, H, U⟩ := F
  exact ok_stepW hg hw hs (fun vm T locs X e0 hZ hown O => stC X G.1 hZ e0 A (inb_of Sz hj) (g := mkF m pc L (.int x :: .int j :: .ref a :: S)) rfl rfl (hb G.2.1 hd)) (fun h' K W => k h' K (Arv.set A q Sz N H U (fits_nar_char _) W i hi hi'))
theorem ok_bastore (G : Good p meth c code maxL ret nm) {pc : Nat} {L : Array Slot} {S : List Value} {kA : ClassId} {z j : Int32} {x : Int32} (x' : Int32) {vs : List Value} {dv : Value} (i : Nat) (F : Arv Z h a kA .byte z vs dv) (hj : ¬ j < 0 ∧ j < z) (hi : j.toNatClampNeg = i) (hi' : i < vs.length) (hv : nar .byte x = x') (hd : decode code pc = .ok (.bastore, 1))
    (hg : n0 ≤ a) (hw : a ∈ ws ∨ h0.size ≤ a) (hs : SafeFor wd Z EL sf h a)
    (k : ∀ h', Keep h h' [a] → Arv Z h' a kA .byte z (vs.set i (.int x')) dv → Ok p l e R s m args below meth c own Z a0 EL n0 h0 ws wd Q sf h' cells slots (mkF m (pc + 1) L S)) : Ok p l e R s m args below meth c own Z a0 EL n0 h0 ws wd Q sf h cells slots (mkF m pc L (.int x :: .int j :: .ref a :: S)) := by
  subst hv
  obtain ⟨cl, A, q, Sz, N, H, U⟩ := F
  exact ok_stepW hg hw hs (fun vm T locs X e0 hZ hown O => stB X G.1 hZ e0 A (inb_of Sz hj) (g := mkF m pc L (.int x :: .int j :: .ref a :: S)) rfl rfl (hb G.2.1 hd)) (fun h' K W => k h' K (Arv.set A q Sz N H U (fits_nar_byte _) W i hi hi'))
theorem ok_iastore (G : Good p meth c code maxL ret nm) {pc : Nat} {L : Array Slot} {S : List Value} {kA : ClassId} {z j : Int32} {x : Int32} {vs : List Value} {dv : Value} (i : Nat) (F : Arv Z h a kA .int z vs dv) (hj : ¬ j < 0 ∧ j < z) (hi : j.toNatClampNeg = i) (hi' : i < vs.length) (hd : decode code pc = .ok (.iastore, 1))
    (hg : n0 ≤ a) (hw : a ∈ ws ∨ h0.size ≤ a) (hs : SafeFor wd Z EL sf h a)
    (k : ∀ h', Keep h h' [a] → Arv Z h' a kA .int z (vs.set i (.int x)) dv → Ok p l e R s m args below meth c own Z a0 EL n0 h0 ws wd Q sf h' cells slots (mkF m (pc + 1) L S)) : Ok p l e R s m args below meth c own Z a0 EL n0 h0 ws wd Q sf h cells slots (mkF m pc L (.int x :: .int j :: .ref a :: S)) := by
  skip
  obtain ⟨cl, A, q, Sz, N, H, U⟩ := F
  exact ok_stepW hg hw hs (fun vm T locs X e0 hZ hown O => stI X G.1 hZ e0 A (inb_of Sz hj) (g := mkF m pc L (.int x :: .int j :: .ref a :: S)) rfl rfl (hb G.2.1 hd)) (fun h' K W => k h' K (Arv.set A q Sz N H U rfl W i hi hi'))
theorem ok_caload (G : Good p meth c code maxL ret nm) {pc : Nat} {L : Array Slot} {S : List Value} {kA : ClassId} {z j : Int32} {vs : List Value} {dv : Value} (v : Int32) (F : Arv Z h a kA .char z vs dv) (hj : ¬ j < 0 ∧ j < z) (hv : vs.getD j.toNatClampNeg dv = .int v) (hd : decode code pc = .ok (.caload, 1))
    (k : Ok p l e R s m args below meth c own Z a0 EL n0 h0 ws wd Q sf h cells slots (mkF m (pc + 1) L (.int v :: S))) : Ok p l e R s m args below meth c own Z a0 EL n0 h0 ws wd Q sf h cells slots (mkF m pc L (.int j :: .ref a :: S)) := by
  obtain ⟨cl, A, q, Sz, N, H, U⟩ := F
  exact ok_stepT (fun vm T locs X e0 hZ hown O => ⟨T, X, e0, fun t k => X.caload G.1 (j := j) (v := .int v) (by rw [e0]; exact A.1) (State.isArrayOf_alike hZ.alike A.2.1) A.2.2 (inb_of Sz hj) (H.at (inb_of Sz hj) hv) (g := mkF m pc L (.int j :: .ref a :: S)) rfl rfl (hb G.2.1 hd) t k⟩) k
theorem ok_baload (G : Good p meth c code maxL ret nm) {pc : Nat} {L : Array Slot} {S : List Value} {kA : ClassId} {z j : Int32} {vs : List Value} {dv : Value} (v : Int32) (F : Arv Z h a kA .byte z vs dv) (hj : ¬ j < 0 ∧ j < z) (hv : vs.getD j.toNatClampNeg dv = .int v) (hd : decode code pc = .ok (.baload, 1))
    (k : Ok p l e R s m args below meth c own Z a0 EL n0 h0 ws wd Q sf h cells slots (mkF m (pc + 1) L (.int v :: S))) : Ok p l e R s m args below meth c own Z a0 EL n0 h0 ws wd Q sf h cells slots (mkF m pc L (.int j :: .ref a :: S)) := by
  obtain ⟨cl, A, q, Sz, N, H, U⟩ := F
  exact ok_stepT (fun vm T locs X e0 hZ hown O => ⟨T, X, e0, fun t k => X.baloadBytes G.1 (j := j) (v := .int v) (by rw [e0]; exact A.1) (State.isArrayOf_alike hZ.alike A.2.1) A.2.2 (inb_of Sz hj) (H.at (inb_of Sz hj) hv) (g := mkF m pc L (.int j :: .ref a :: S)) rfl rfl (hb G.2.1 hd) t k⟩) k
theorem ok_iaload (G : Good p meth c code maxL ret nm) {pc : Nat} {L : Array Slot} {S : List Value} {kA : ClassId} {z j : Int32} {vs : List Value} {dv : Value} (v : Int32) (F : Arv Z h a kA .int z vs dv) (hj : ¬ j < 0 ∧ j < z) (hv : vs.getD j.toNatClampNeg dv = .int v) (hd : decode code pc = .ok (.iaload, 1))
    (k : Ok p l e R s m args below meth c own Z a0 EL n0 h0 ws wd Q sf h cells slots (mkF m (pc + 1) L (.int v :: S))) : Ok p l e R s m args below meth c own Z a0 EL n0 h0 ws wd Q sf h cells slots (mkF m pc L (.int j :: .ref a :: S)) := by
  obtain ⟨cl, A, q, Sz, N, H, U⟩ := F
  exact ok_stepT (fun vm T locs X e0 hZ hown O => ⟨T, X, e0, fun t k => X.iaload G.1 (j := j) (v := .int v) (by rw [e0]; exact A.1) (State.isArrayOf_alike hZ.alike A.2.1) A.2.2 (inb_of Sz hj) (H.at (inb_of Sz hj) hv) (g := mkF m pc L (.int j :: .ref a :: S)) rfl rfl (hb G.2.1 hd) t k⟩) k
theorem ok_arraylength (G : Good p meth c code maxL ret nm) {pc : Nat} {L : Array Slot} {S : List Value} {kA : ClassId} {ty : FieldType} {z : Int32} {vs : List Value} {dv : Value} (F : Arv Z h a kA ty z vs dv) (hd : decode code pc = .ok (.arraylength, 1))
    (k : Ok p l e R s m args below meth c own Z a0 EL n0 h0 ws wd Q sf h cells slots (mkF m (pc + 1) L (.int z :: S))) : Ok p l e R s m args below meth c own Z a0 EL n0 h0 ws wd Q sf h cells slots (mkF m pc L (.ref a :: S)) := by
  obtain ⟨cl, A, q, Sz, N, H, U⟩ := F
  exact ok_stepT (fun vm T locs X e0 hZ hown O => ⟨T, X, e0, fun t k => X.arraylength G.1 (by rw [e0]; exact A.1) (State.isArrayOf_alike hZ.alike A.2.1) (g := mkF m pc L (.ref a :: S)) rfl rfl (hb G.2.1 hd) t (by rw [len_of Sz N]; exact k)⟩) k
theorem ok_checkcast (G : Good p meth c code maxL ret nm) {pc : Nat} {L : Array Slot} {S : List Value} {K : String} {index : Nat} (w : (Jvm.Cond.classLink own index K).before a0 Z = true) (F : Ins Z h a K true) (hd : decode code pc = .ok (.checkcast index, 3))
    (k : Ok p l e R s m args below meth c own Z a0 EL n0 h0 ws wd Q sf h cells slots (mkF m (pc + 3) L (.ref a :: S))) : Ok p l e R s m args below meth c own Z a0 EL n0 h0 ws wd Q sf h cells slots (mkF m pc L (.ref a :: S)) :=
  ok_stepT (fun vm T locs X e0 hZ hown O => castY X G.1 hZ hown w e0 F (g := mkF m pc L (.ref a :: S)) rfl rfl (hb G.2.1 hd)) k
theorem ok_instanceof (G : Good p meth c code maxL ret nm) {pc : Nat} {L : Array Slot} {S : List Value} {K : String} {index : Nat} (w : (Jvm.Cond.classLink own index K).before a0 Z = true) (F : Ins Z h a K true) (hd : decode code pc = .ok (.instanceof index, 3))
    (k : Ok p l e R s m args below meth c own Z a0 EL n0 h0 ws wd Q sf h cells slots (mkF m (pc + 3) L (.int 1 :: S))) : Ok p l e R s m args below meth c own Z a0 EL n0 h0 ws wd Q sf h cells slots (mkF m pc L (.ref a :: S)) :=
  ok_stepT (fun vm T locs X e0 hZ hown O => instY X G.1 hZ hown w e0 F (g := mkF m pc L (.ref a :: S)) rfl rfl (hb G.2.1 hd)) k
theorem ok_instanceofNo (G : Good p meth c code maxL ret nm) {pc : Nat} {L : Array Slot} {S : List Value} {K C : String} {index : Nat} (w : (Jvm.Cond.classLink own index K).before a0 Z = true) (E : Exa Z h a C) (F : ∃ c t, Z.vm.findClass C = some c ∧ Z.vm.findClass K = some t ∧ Z.vm.assignable c t = false) (hd : decode code pc = .ok (.instanceof index, 3))
    (k : Ok p l e R s m args below meth c own Z a0 EL n0 h0 ws wd Q sf h cells slots (mkF m (pc + 3) L (.int 0 :: S))) : Ok p l e R s m args below meth c own Z a0 EL n0 h0 ws wd Q sf h cells slots (mkF m pc L (.ref a :: S)) :=
  ok_stepT (fun vm T locs X e0 hZ hown O => instNo X G.1 hZ hown w e0 E F (g := mkF m pc L (.ref a :: S)) rfl rfl (hb G.2.1 hd)) k
theorem ok_checkcastNull (G : Good p meth c code maxL ret nm) {pc : Nat} {L : Array Slot} {S : List Value} {index : Nat} (hd : decode code pc = .ok (.checkcast index, 3)) (k : Ok p l e R s m args below meth c own Z a0 EL n0 h0 ws wd Q sf h cells slots (mkF m (pc + 3) L (.null :: S))) : Ok p l e R s m args below meth c own Z a0 EL n0 h0 ws wd Q sf h cells slots (mkF m pc L (.null :: S)) :=
  ok_stepT (fun vm T locs X e0 hZ hown O => ⟨T, X, e0, fun t k => X.checkcastNull G.1 (g := mkF m pc L (.null :: S)) rfl rfl (hb G.2.1 hd) t k⟩) k
theorem ok_instanceofNull (G : Good p meth c code maxL ret nm) {pc : Nat} {L : Array Slot} {S : List Value} {index : Nat} (hd : decode code pc = .ok (.instanceof index, 3)) (k : Ok p l e R s m args below meth c own Z a0 EL n0 h0 ws wd Q sf h cells slots (mkF m (pc + 3) L (.int 0 :: S))) : Ok p l e R s m args below meth c own Z a0 EL n0 h0 ws wd Q sf h cells slots (mkF m pc L (.null :: S)) :=
  ok_stepT (fun vm T locs X e0 hZ hown O => ⟨T, X, e0, fun t k => X.instanceofNull G.1 (g := mkF m pc L (.null :: S)) rfl rfl (hb G.2.1 hd) t k⟩) k
theorem ok_initO (G : Good p meth c code maxL ret nm) {pc : Nat} {L : Array Slot} {S : List Value} {idx : Nat} (w1 : (Jvm.Cond.methodLink own idx Lib.objectInit).before a0 Z = true) (w2 : (Jvm.Cond.instanceMethod Lib.objectInit).before a0 Z = true) (w3 : (Jvm.Cond.code Lib.objectInit ⟨#[0xb1]⟩ 1 none).before a0 Z = true) (hsz : L.size = maxL) (hd : decode code pc = .ok (.invokespecial idx, 3)) (hf : 1 ≤ R.frames) (hl : (S.map fun v => v.category).sum + 12 ≤ R.locals)
    (k : Ok p l e R s m args below meth c own Z a0 EL n0 h0 ws wd Q sf h cells slots (mkF m (pc + 3) L S)) : Ok p l e R s m args below meth c own Z a0 EL n0 h0 ws wd Q sf h cells slots (mkF m pc L (.ref a :: S)) :=
  ok_stepT (fun vm T locs X e0 hZ hown O => initO X G.1 hZ hown w1 w2 w3 e0 (g := mkF m pc L (.ref a :: S)) rfl (by rw [G.2.2.1]; exact hsz) rfl (hb G.2.1 hd) hf (W := (S.map fun v => v.category).sum) (by show 2 * 0 + _ ≤ _; omega) hl) k
/-- behind a call that interned nothing -/
theorem ok_stepC {gn : Option Value → JFrame} {g : JFrame} {rc rs : Nat} {ws' : List Addr} {Q' : Option Value → Heap → Prop} (hws : ∀ x ∈ ws', (x ∈ ws ∨ h0.size ≤ x) ∧ SafeFor wd Z EL sf h x)
    (st : ∀ vm T locs, Stand p l e R (s.setVm vm) m args below meth c T locs cells slots → T.heap = h → Z.Warmed39 vm → vm.findClass own = some m.cls → Old Z n0 h →
      ∃ v T' L, Stand p l e R (s.setVm vm) m args below meth c T' (locs ++ L) (cells + rc) (slots + rs) ∧ (Fr n0 L ∧ Old Z n0 T'.heap ∧ Keep h T'.heap ws' ∧ Q' v T'.heap) ∧ ∀ target, Steps p.tables e below (T'.setTop (gn v)) target → Steps p.tables e below (T.setTop g) target)
    (k : ∀ v h', Keep h h' ws' → Q' v h' → Ok p l e R s m args below meth c own Z a0 EL n0 h0 ws wd Q sf h' (cells + rc) (slots + rs) (gn v)) : Ok p l e R s m args below meth c own Z a0 EL n0 h0 ws wd Q sf h cells slots g := by
  intro vm T locs W
  obtain ⟨X, e0, hZ, hown, hS, hh, N, O, K, r, r'⟩ := W
  obtain ⟨v, T', Ls, X', ⟨N', O', K', q⟩, st'⟩ := st vm T locs X e0 hZ hown O
  obtain ⟨s₂, o, h1, h2⟩ := k v T'.heap K' q vm T' _ ⟨X', rfl, hZ, hown, ⟨hS.1, hS.2.mono K'.1⟩, hh, N.app N', O', K.trans K' (fun x hx => (hws x hx).1), r, fun w => by
    obtain ⟨hE, hC, hs⟩ := r' w
    have hsw : ∀ x ∈ ws', Safe Z EL vm h x := fun x hx => ((hws x hx).2 w).elim (fun z => (hs x z).2) (fun z => z vm hZ.alike)
    exact ⟨hE, hC.trans (CHr.keep K' hsw hC.1), fun x hx => ⟨Nat.lt_of_lt_of_le (hs x hx).1 K'.1, Safe.keep K' hsw hC.1 (hs x hx).2⟩⟩⟩
  exact ⟨s₂, o, st' s₂ h1, h2⟩
/-- behind a step that may have interned -/
theorem ok_stepCW {gn : Option Value → JFrame} {g : JFrame} {rc rs : Nat} {ws' : List Addr} {Q' : Option Value → Heap → Vm → Prop} (hwd : wd = true) (hws : ∀ x ∈ ws', x ∈ ws ∨ h0.size ≤ x)
    (st : ∀ vm T locs, Stand p l e R (s.setVm vm) m args below meth c T locs cells slots → T.heap = h → Z.Warmed39 vm → vm.findClass own = some m.cls → s.Since vm h.size → Old Z n0 h → EW Z a0 EL → CHv Z EL vm h →
      ∃ v T' L, Stand p l e R (s.setVm T'.vm) m args below meth c T' (locs ++ L) (cells + rc) (slots + rs) ∧ s.Since T'.vm T'.heap.size ∧ Z.Warmed39 T'.vm ∧ T'.vm.findClass own = some m.cls ∧ CHr Z EL vm h T'.vm T'.heap ∧ (Fr n0 L ∧ Old Z n0 T'.heap ∧ Keep h T'.heap ws' ∧ Q' v T'.heap T'.vm) ∧ ∀ target, Steps p.tables e below (T'.setTop (gn v)) target → Steps p.tables e below (T.setTop g) target)
    (k : ∀ v h' vm', Keep h h' ws' → (∀ x ∈ sf, Safe Z EL vm' h' x) → Q' v h' vm' → Ok p l e R s m args below meth c own Z a0 EL n0 h0 ws wd Q sf h' (cells + rc) (slots + rs) (gn v)) : Ok p l e R s m args below meth c own Z a0 EL n0 h0 ws wd Q sf h cells slots g := by
  intro vm T locs W
  obtain ⟨X, e0, hZ, hown, hS, hh, N, O, K, r, r'⟩ := W
  obtain ⟨hE, hC, hs⟩ := r' hwd
  obtain ⟨v, T', Ls, X', hS', hZ', hown', hR, ⟨N', O', K', q⟩, st'⟩ := st vm T locs X e0 hZ hown hS O hE hC.1
  have hs' : ∀ x ∈ sf, x < T'.heap.size ∧ Safe Z EL T'.vm T'.heap x := fun x hx => ⟨Nat.lt_of_lt_of_le (hs x hx).1 K'.1, hR.safe (hs x hx).1 (hs x hx).2⟩
  obtain ⟨s₂, o, h1, h2⟩ := k v T'.heap T'.vm K' (fun x hx => (hs' x hx).2) q T'.vm T' _ ⟨X', rfl, hZ', hown', hS', hh, N.app N', O', K.trans K' hws, (fun w => absurd (hwd.symm.trans w) (fun z => nomatch z)), fun _ => ⟨hE, hC.trans hR, hs'⟩⟩
  exact ⟨s₂, o, st' s₂ h1, h2⟩
theorem Con.free {y : MethodName} {bytes : ByteArray} {maxL' : Nat} {ret' : Option FieldType} {rm : Room} {as' : Array Value} {ws' : List Addr} {Q' : Option Value → Heap → Prop} (hM : Con false l Z EL n0 y bytes maxL' ret' rm as' h ws' Q') :
    MetFree l y (head1 [Jvm.Cond.code y bytes maxL' ret'] rm) (fun a U => a = as' ∧ Z.Warmed39 U.vm ∧ U.heap = h) (fun _ _ _ _ _ => True) (fun _ U o U' => ∃ v L, o = .returned v ∧ (Fr n0 L ∧ Old Z n0 U'.heap ∧ Keep h U'.heap ws' ∧ Q' v U'.heap) ∧ FrameEnd U o U' L rm.cells rm.slots) :=
  fun p e ha hc hk s m args below hf happ hP hK => hM [] p e ha hc hk s m args below hf happ ⟨hP.1, hP.2.1, hP.2.2, fun q => nomatch q⟩ hK
theorem Con.freeW {y : MethodName} {bytes : ByteArray} {maxL' : Nat} {ret' : Option FieldType} {rm : Room} {as' : Array Value} {ws' : List Addr} {Q' : Option Value → Heap → Prop} (hM : Con true l Z EL n0 y bytes maxL' ret' rm as' h ws' Q') :
    MetFree l y (head1 [Jvm.Cond.code y bytes maxL' ret'] rm) (fun a U => a = as' ∧ Z.Warmed39 U.vm ∧ U.heap = h ∧ CHv Z EL U.vm h) (fun _ _ _ _ _ => True) (fun _ U o U' => ∃ v L, o = .returned v ∧ (Fr n0 L ∧ Old Z n0 U'.heap ∧ Keep h U'.heap ws' ∧ Q' v U'.heap) ∧ CHr Z EL U.vm U.heap U'.vm U'.heap ∧ ReturnedEndW U o U' L rm.cells rm.slots) :=
  fun p e ha hc hk s m args below hf happ hP hK => hM [] p e ha hc hk s m args below hf happ ⟨hP.1, hP.2.1, hP.2.2.1, fun _ => hP.2.2.2⟩ hK
theorem ok_static (G : Good p meth c code maxL ret nm) {pc : Nat} {L : Array Slot} {S : List Value} {y : MethodName} {bytes : ByteArray} {maxL' : Nat} {ret' : Option FieldType} {rm : Room} {ws' : List Addr} {Q' : Option Value → Heap → Prop} {index : Nat} {ps : List FieldType} {r : Option FieldType} {EL' : List (String × Nat)} {argsL rest : List Value} (w1 : (Jvm.Cond.methodLink own index y).before a0 Z = true) (w2 : (Jvm.Cond.static y).before a0 Z = true) (w3 : (Jvm.Cond.initialized y.cls).before a0 Z = true) (w4 : (Jvm.Cond.code y bytes maxL' ret').before a0 Z = true) (hy : y.cls ≠ "java/lang/invoke/MethodHandle" ∧ y.cls ≠ "java/lang/invoke/VarHandle") (hdesc : parseMethodDescriptor y.desc = some ⟨ps, r⟩)
    (hM : Con false l Z EL' n0 y bytes maxL' ret' rm argsL.toArray h ws' Q') (hln : argsL.length = ps.length) (hS : S = argsL.reverse ++ rest) (hsz : L.size = maxL) (hd : decode code pc = .ok (.invokestatic index, 3)) (hf : rm.frames + 1 ≤ R.frames) (hl : (rest.map fun v => v.category).sum + (maxL' + 11) + rm.locals ≤ R.locals) (hc : cells + rm.cells ≤ R.cells) (hsl : slots + rm.slots ≤ R.slots) (hws : ∀ x ∈ ws', (x ∈ ws ∨ h0.size ≤ x) ∧ SafeFor wd Z EL sf h x)
    (k : ∀ v h', Keep h h' ws' → Q' v h' → Ok p l e R s m args below meth c own Z a0 EL n0 h0 ws wd Q sf h' (cells + rm.cells) (slots + rm.slots) (mkF m (pc + 3) L (v.toList ++ rest))) : Ok p l e R s m args below meth c own Z a0 EL n0 h0 ws wd Q sf h cells slots (mkF m pc L S) := by
  subst hS
  exact ok_stepC (gn := fun v => mkF m (pc + 3) L (v.toList ++ rest)) hws (fun vm T locs X e0 hZ hown O => by
      obtain ⟨v, _, ⟨T', L', k', n'⟩, -, X', ⟨Lc, hQ, l1, y1, z1⟩, st⟩ := Jvm.LawKit.callS X G.1 (y := y) hown (mvT (s := s.setVm vm) hZ w1) (mvT (s := s.setVm vm) hZ w2) (mvT (s := s.setVm vm) hZ w3) (mvT (s := s.setVm vm) hZ w4) hy (backOf (s := s.setVm vm) (Q := fun v h' L => Fr n0 L ∧ Old Z n0 h' ∧ Keep h h' ws' ∧ Q' v h') (W := (rest.map fun v => v.category).sum) hM.free hZ w4 w3 hf hl) (g := mkF m pc L (argsL.reverse ++ rest)) rfl (by rw [G.2.2.1]; exact hsz) (argsL := argsL) (rest := rest) (lenOf hdesc hln) rfl (by show 2 * 0 + _ ≤ _; omega) (hb G.2.1 hd) (fun _ _ => ⟨rfl, e0, hc, hsl⟩)
      dsimp only [Pt.U, Pt.locs, Pt.cells, Pt.slots] at X' l1 y1 z1 st hQ
      subst l1 y1 z1
      exact ⟨v, T', Lc, X', hQ, st⟩) k
theorem ok_init (G : Good p meth c code maxL ret nm) {pc : Nat} {L : Array Slot} {S : List Value} {y : MethodName} {bytes : ByteArray} {maxL' : Nat} {rm : Room} {ws' : List Addr} {Q' : Option Value → Heap → Prop} {index : Nat} {ps : List FieldType} {r : Option FieldType} {EL' : List (String × Nat)} {argsL rest : List Value} (hy1 : y.name = "<init>") (w1 : (Jvm.Cond.methodLink own index y).before a0 Z = true) (w2 : (Jvm.Cond.instanceMethod y).before a0 Z = true) (w3 : (Jvm.Cond.initialized y.cls).before a0 Z = true) (w4 : (Jvm.Cond.code y bytes maxL' none).before a0 Z = true) (hy : y.cls ≠ "java/lang/invoke/MethodHandle" ∧ y.cls ≠ "java/lang/invoke/VarHandle") (hdesc : parseMethodDescriptor y.desc = some ⟨ps, r⟩)
    (hM : Con false l Z EL' n0 y bytes maxL' none rm (.ref a :: argsL).toArray h ws' Q') (hln : argsL.length = ps.length) (hS : S = argsL.reverse ++ .ref a :: rest) (hsz : L.size = maxL) (hd : decode code pc = .ok (.invokespecial index, 3)) (hf : rm.frames + 1 ≤ R.frames) (hl : (rest.map fun v => v.category).sum + (maxL' + 11) + rm.locals ≤ R.locals) (hc : cells + rm.cells ≤ R.cells) (hsl : slots + rm.slots ≤ R.slots) (hws : ∀ x ∈ ws', (x ∈ ws ∨ h0.size ≤ x) ∧ SafeFor wd Z EL sf h x)
    (k : ∀ v h', Keep h h' ws' → Q' v h' → Ok p l e R s m args below meth c own Z a0 EL n0 h0 ws wd Q sf h' (cells + rm.cells) (slots + rm.slots) (mkF m (pc + 3) L (v.toList ++ rest))) : Ok p l e R s m args below meth c own Z a0 EL n0 h0 ws wd Q sf h cells slots (mkF m pc L S) := by
  subst hS
  exact ok_stepC (gn := fun v => mkF m (pc + 3) L (v.toList ++ rest)) hws (fun vm T locs X e0 hZ hown O => by
      obtain ⟨v, _, ⟨T', L', k', n'⟩, -, X', ⟨Lc, hQ, l1, y1, z1⟩, st⟩ := X.specialBack G.1 (y := y) hy1 hown (mvT (s := s.setVm vm) hZ w1) (mvT (s := s.setVm vm) hZ w2) (mvT (s := s.setVm vm) hZ w4) hy (backOf (s := s.setVm vm) (Q := fun v h' L => Fr n0 L ∧ Old Z n0 h' ∧ Keep h h' ws' ∧ Q' v h') (W := (rest.map fun v => v.category).sum) hM.free hZ w4 w3 hf hl) (g := mkF m pc L (argsL.reverse ++ .ref a :: rest)) rfl (by rw [G.2.2.1]; exact hsz) (Steps.refl _) (a := a) (argsL := argsL) (rest := rest) (lenOf hdesc hln) rfl (by show 2 * 0 + _ ≤ _; omega) (hb G.2.1 hd) (fun _ _ => ⟨rfl, e0, hc, hsl⟩)
      dsimp only [Pt.U, Pt.locs, Pt.cells, Pt.slots] at X' l1 y1 z1 st hQ
      subst l1 y1 z1
      exact ⟨v, T', Lc, X', hQ, fun t k => st.trans k⟩) k
theorem ok_virtual (G : Good p meth c code maxL ret nm) {pc : Nat} {L : Array Slot} {S : List Value} {y : MethodName} {bytes : ByteArray} {maxL' : Nat} {ret' : Option FieldType} {rm : Room} {ws' : List Addr} {Q' : Option Value → Heap → Prop} {index : Nat} {ps : List FieldType} {r : Option FieldType} {EL' : List (String × Nat)} {y0 : MethodName} {C : String} {argsL rest : List Value} (E : Exa Z h a C) (w1 : (Jvm.Cond.methodLink own index y0).before a0 Z = true) (w5 : (Jvm.Cond.declares y0).before a0 Z = true) (w6 : (Jvm.Cond.selects C y0 y).before a0 Z = true) (hnf : ∀ vm, Z.Warmed39 vm → NotFace (s.setVm vm) y0) (w2 : (Jvm.Cond.instanceMethod y).before a0 Z = true) (w3 : (Jvm.Cond.initialized y.cls).before a0 Z = true) (w4 : (Jvm.Cond.code y bytes maxL' ret').before a0 Z = true) (hy : y0.cls ≠ "java/lang/invoke/MethodHandle" ∧ y0.cls ≠ "java/lang/invoke/VarHandle") (hdesc : parseMethodDescriptor y0.desc = some ⟨ps, r⟩)
    (hM : Con false l Z EL' n0 y bytes maxL' ret' rm (.ref a :: argsL).toArray h ws' Q') (hln : argsL.length = ps.length) (hS : S = argsL.reverse ++ .ref a :: rest) (hsz : L.size = maxL) (hd : decode code pc = .ok (.invokevirtual index, 3)) (hf : rm.frames + 1 ≤ R.frames) (hl : (rest.map fun v => v.category).sum + (maxL' + 11) + rm.locals ≤ R.locals) (hc : cells + rm.cells ≤ R.cells) (hsl : slots + rm.slots ≤ R.slots) (hws : ∀ x ∈ ws', (x ∈ ws ∨ h0.size ≤ x) ∧ SafeFor wd Z EL sf h x)
    (k : ∀ v h', Keep h h' ws' → Q' v h' → Ok p l e R s m args below meth c own Z a0 EL n0 h0 ws wd Q sf h' (cells + rm.cells) (slots + rm.slots) (mkF m (pc + 3) L (v.toList ++ rest))) : Ok p l e R s m args below meth c own Z a0 EL n0 h0 ws wd Q sf h cells slots (mkF m pc L S) := by
  subst hS
  exact ok_stepC (gn := fun v => mkF m (pc + 3) L (v.toList ++ rest)) hws (fun vm T locs X e0 hZ hown O => by
      obtain ⟨cq, kq, qa, qb, qc⟩ := isOf (s := s.setVm vm) hZ e0 E
      obtain ⟨v, _, ⟨T', L', k', n'⟩, -, X', ⟨Lc, hQ, l1, y1, z1⟩, st⟩ := X.virtualBack G.1 (y := y0) (z := y) hown (mvT (s := s.setVm vm) hZ w1) (mvT (s := s.setVm vm) hZ w5) (hnf vm hZ) (mvT (s := s.setVm vm) hZ w6) (mvT (s := s.setVm vm) hZ w2) hy (backOf (s := s.setVm vm) (Q := fun v h' L => Fr n0 L ∧ Old Z n0 h' ∧ Keep h h' ws' ∧ Q' v h') (W := (rest.map fun v => v.category).sum) hM.free hZ w4 w3 hf hl) qa qc (g := mkF m pc L (argsL.reverse ++ .ref a :: rest)) rfl (by rw [G.2.2.1]; exact hsz) (Steps.refl _) (argsL := argsL) (rest := rest) (lenOf hdesc hln) rfl (by show 2 * 0 + _ ≤ _; omega) (hb G.2.1 hd) (fun _ _ => ⟨rfl, e0, hc, hsl⟩)
      dsimp only [Pt.U, Pt.locs, Pt.cells, Pt.slots] at X' l1 y1 z1 st hQ
      subst l1 y1 z1
      exact ⟨v, T', Lc, X', hQ, fun t k => st.trans k⟩) k
theorem ok_interface (G : Good p meth c code maxL ret nm) {pc : Nat} {L : Array Slot} {S : List Value} {y : MethodName} {bytes : ByteArray} {maxL' : Nat} {ret' : Option FieldType} {rm : Room} {ws' : List Addr} {Q' : Option Value → Heap → Prop} {index : Nat} {ps : List FieldType} {r : Option FieldType} {EL' : List (String × Nat)} {y0 : MethodName} {C : String} {count : Nat} {argsL rest : List Value} (E : Exa Z h a C) (w1 : (Jvm.Cond.methodLink own index y0).before a0 Z = true) (w5 : (Jvm.Cond.declares y0).before a0 Z = true) (w7 : (Jvm.Cond.interfaceMethod y0.cls y0.cls y0.name y0.desc).before a0 Z = true) (hfc : ((Jvm.Cond.interfaceMethod y0.cls y0.cls y0.name y0.desc).onTables && (Jvm.Cond.interfaceMethod y0.cls y0.cls y0.name y0.desc).keepsFace) = true) (w6 : (Jvm.Cond.selects C y0 y).before a0 Z = true) (w2 : (Jvm.Cond.instanceMethod y).before a0 Z = true) (w8 : (Jvm.Cond.publicMethod y).before a0 Z = true) (w9 : (Jvm.Cond.unhidden C y0.name y0.desc).before a0 Z = true) (w10 : (Jvm.Cond.castable C y0.cls).before a0 Z = true) (w3 : (Jvm.Cond.initialized y.cls).before a0 Z = true) (w4 : (Jvm.Cond.code y bytes maxL' ret').before a0 Z = true) (hy : y0.cls ≠ "java/lang/invoke/MethodHandle" ∧ y0.cls ≠ "java/lang/invoke/VarHandle") (hdesc : parseMethodDescriptor y0.desc = some ⟨ps, r⟩)
    (hM : Con false l Z EL' n0 y bytes maxL' ret' rm (.ref a :: argsL).toArray h ws' Q') (hln : argsL.length = ps.length) (hS : S = argsL.reverse ++ .ref a :: rest) (hsz : L.size = maxL) (hd : decode code pc = .ok (.invokeinterface index count, 5)) (hf : rm.frames + 1 ≤ R.frames) (hl : (rest.map fun v => v.category).sum + (maxL' + 11) + rm.locals ≤ R.locals) (hc : cells + rm.cells ≤ R.cells) (hsl : slots + rm.slots ≤ R.slots) (hws : ∀ x ∈ ws', (x ∈ ws ∨ h0.size ≤ x) ∧ SafeFor wd Z EL sf h x)
    (k : ∀ v h', Keep h h' ws' → Q' v h' → Ok p l e R s m args below meth c own Z a0 EL n0 h0 ws wd Q sf h' (cells + rm.cells) (slots + rm.slots) (mkF m (pc + 5) L (v.toList ++ rest))) : Ok p l e R s m args below meth c own Z a0 EL n0 h0 ws wd Q sf h cells slots (mkF m pc L S) := by
  subst hS
  exact ok_stepC (gn := fun v => mkF m (pc + 5) L (v.toList ++ rest)) hws (fun vm T locs X e0 hZ hown O => by
      obtain ⟨cq, kq, qa, qb, qc⟩ := isOf (s := s.setVm vm) hZ e0 E
      obtain ⟨v, _, ⟨T', L', k', n'⟩, -, X', ⟨Lc, hQ, l1, y1, z1⟩, st⟩ := X.interfaceBack G.1 (xi := y0) (y := y) hown (mvT (s := s.setVm vm) hZ w1) (mvT (s := s.setVm vm) hZ w5) (mvT (s := s.setVm vm) hZ w7 hfc) (mvT (s := s.setVm vm) hZ w6) (mvT (s := s.setVm vm) hZ w2) (mvT (s := s.setVm vm) hZ w8) (mvT (s := s.setVm vm) hZ w9) (mvT (s := s.setVm vm) hZ w10) hy (backOf (s := s.setVm vm) (Q := fun v h' L => Fr n0 L ∧ Old Z n0 h' ∧ Keep h h' ws' ∧ Q' v h') (W := (rest.map fun v => v.category).sum) hM.free hZ w4 w3 hf hl) qa qb qc (g := mkF m pc L (argsL.reverse ++ .ref a :: rest)) rfl (by rw [G.2.2.1]; exact hsz) (Steps.refl _) (argsL := argsL) (rest := rest) (lenOf hdesc hln) rfl (by show 2 * 0 + _ ≤ _; omega) (hb G.2.1 hd) (fun _ _ => ⟨rfl, e0, hc, hsl⟩)
      dsimp only [Pt.U, Pt.locs, Pt.cells, Pt.slots] at X' l1 y1 z1 st hQ
      subst l1 y1 z1
      exact ⟨v, T', Lc, X', hQ, fun t k => st.trans k⟩) k
theorem ok_staticW (G : Good p meth c code maxL ret nm) {pc : Nat} {L : Array Slot} {S : List Value} {y : MethodName} {bytes : ByteArray} {maxL' : Nat} {ret' : Option FieldType} {rm : Room} {ws' : List Addr} {Q' : Option Value → Heap → Prop} {index : Nat} {ps : List FieldType} {r : Option FieldType} {argsL rest : List Value} (w1 : (Jvm.Cond.methodLink own index y).before a0 Z = true) (w2 : (Jvm.Cond.static y).before a0 Z = true) (w3 : (Jvm.Cond.initialized y.cls).before a0 Z = true) (w4 : (Jvm.Cond.code y bytes maxL' ret').before a0 Z = true) (hy : y.cls ≠ "java/lang/invoke/MethodHandle" ∧ y.cls ≠ "java/lang/invoke/VarHandle") (hdesc : parseMethodDescriptor y.desc = some ⟨ps, r⟩)
    (hM : Con true l Z EL n0 y bytes maxL' ret' rm argsL.toArray h ws' Q') (hln : argsL.length = ps.length) (hS : S = argsL.reverse ++ rest) (hsz : L.size = maxL) (hd : decode code pc = .ok (.invokestatic index, 3)) (hf : rm.frames + 1 ≤ R.frames) (hl : (rest.map fun v => v.category).sum + (maxL' + 11) + rm.locals ≤ R.locals) (hc : cells + rm.cells ≤ R.cells) (hsl : slots + rm.slots ≤ R.slots) (hwd : wd = true) (hws : ∀ x ∈ ws', x ∈ ws ∨ h0.size ≤ x)
    (k : ∀ v h', Keep h h' ws' → Q' v h' → Ok p l e R s m args below meth c own Z a0 EL n0 h0 ws wd Q sf h' (cells + rm.cells) (slots + rm.slots) (mkF m (pc + 3) L (v.toList ++ rest))) : Ok p l e R s m args below meth c own Z a0 EL n0 h0 ws wd Q sf h cells slots (mkF m pc L S) := by
  subst hS
  exact ok_stepCW (Q' := fun v h' _ => Q' v h') (gn := fun v => mkF m (pc + 3) L (v.toList ++ rest)) hwd hws (fun vm T locs X e0 hZ hown hSi O hE hC => by
      obtain ⟨v, _, ⟨T', L', k', n'⟩, -, X', hS2, hgr, ⟨Lc, hQ, l1, y1, z1, hR⟩, st⟩ := callSS X G.1 (y := y) hown (mvT (s := s.setVm vm) hZ w1) (mvT (s := s.setVm vm) hZ w2) (mvT (s := s.setVm vm) hZ w3) (mvT (s := s.setVm vm) hZ w4) hy (backOfSH (s := s) (Q := fun v h' L => Fr n0 L ∧ Old Z n0 h' ∧ Keep h h' ws' ∧ Q' v h') (W := (rest.map fun v => v.category).sum) hM.freeW hZ w4 w3 hf hl hE hC) (g := mkF m pc L (argsL.reverse ++ rest)) rfl (by rw [G.2.2.1]; exact hsz) (argsL := argsL) (rest := rest) (lenOf hdesc hln) rfl (by show 2 * 0 + _ ≤ _; omega) (hb G.2.1 hd) (fun _ _ => ⟨rfl, e0, hc, hsl⟩)
      dsimp only [Pt.U, Pt.locs, Pt.cells, Pt.slots] at X' l1 y1 z1 st hQ hS2 hgr hR
      subst l1 y1 z1
      obtain ⟨X2, S2, Z2, o2⟩ := rebS hSi (by rw [← e0]; exact Nat.le_refl _) X' hS2 hgr hZ hown
      exact ⟨v, T', Lc, X2, S2, Z2, o2, hR, hQ, fun t k => st.trans k⟩) (fun v h' vm' K' _ q => k v h' K' q)
theorem ok_initW (G : Good p meth c code maxL ret nm) {pc : Nat} {L : Array Slot} {S : List Value} {y : MethodName} {bytes : ByteArray} {maxL' : Nat} {rm : Room} {ws' : List Addr} {Q' : Option Value → Heap → Prop} {index : Nat} {ps : List FieldType} {r : Option FieldType} {argsL rest : List Value} (hy1 : y.name = "<init>") (w1 : (Jvm.Cond.methodLink own index y).before a0 Z = true) (w2 : (Jvm.Cond.instanceMethod y).before a0 Z = true) (w3 : (Jvm.Cond.initialized y.cls).before a0 Z = true) (w4 : (Jvm.Cond.code y bytes maxL' none).before a0 Z = true) (hy : y.cls ≠ "java/lang/invoke/MethodHandle" ∧ y.cls ≠ "java/lang/invoke/VarHandle") (hdesc : parseMethodDescriptor y.desc = some ⟨ps, r⟩)
    (hM : Con true l Z EL n0 y bytes maxL' none rm (.ref a :: argsL).toArray h ws' Q') (hln : argsL.length = ps.length) (hS : S = argsL.reverse ++ .ref a :: rest) (hsz : L.size = maxL) (hd : decode code pc = .ok (.invokespecial index, 3)) (hf : rm.frames + 1 ≤ R.frames) (hl : (rest.map fun v => v.category).sum + (maxL' + 11) + rm.locals ≤ R.locals) (hc : cells + rm.cells ≤ R.cells) (hsl : slots + rm.slots ≤ R.slots) (hwd : wd = true) (hws : ∀ x ∈ ws', x ∈ ws ∨ h0.size ≤ x)
    (k : ∀ v h', Keep h h' ws' → Q' v h' → Ok p l e R s m args below meth c own Z a0 EL n0 h0 ws wd Q sf h' (cells + rm.cells) (slots + rm.slots) (mkF m (pc + 3) L (v.toList ++ rest))) : Ok p l e R s m args below meth c own Z a0 EL n0 h0 ws wd Q sf h cells slots (mkF m pc L S) := by
  subst hS
  exact ok_stepCW (Q' := fun v h' _ => Q' v h') (gn := fun v => mkF m (pc + 3) L (v.toList ++ rest)) hwd hws (fun vm T locs X e0 hZ hown hSi O hE hC => by
      obtain ⟨v, _, ⟨T', L', k', n'⟩, -, X', hS2, hgr, ⟨Lc, hQ, l1, y1, z1, hR⟩, st⟩ := X.specialBackS G.1 (y := y) hy1 hown (mvT (s := s.setVm vm) hZ w1) (mvT (s := s.setVm vm) hZ w2) (mvT (s := s.setVm vm) hZ w4) hy (backOfSH (s := s) (Q := fun v h' L => Fr n0 L ∧ Old Z n0 h' ∧ Keep h h' ws' ∧ Q' v h') (W := (rest.map fun v => v.category).sum) hM.freeW hZ w4 w3 hf hl hE hC) (g := mkF m pc L (argsL.reverse ++ .ref a :: rest)) rfl (by rw [G.2.2.1]; exact hsz) (Steps.refl _) (a := a) (argsL := argsL) (rest := rest) (lenOf hdesc hln) rfl (by show 2 * 0 + _ ≤ _; omega) (hb G.2.1 hd) (fun _ _ => ⟨rfl, e0, hc, hsl⟩)
      dsimp only [Pt.U, Pt.locs, Pt.cells, Pt.slots] at X' l1 y1 z1 st hQ hS2 hgr hR
      subst l1 y1 z1
      obtain ⟨X2, S2, Z2, o2⟩ := rebS hSi (by rw [← e0]; exact Nat.le_refl _) X' hS2 hgr hZ hown
      exact ⟨v, T', Lc, X2, S2, Z2, o2, hR, hQ, fun t k => st.trans k⟩) (fun v h' vm' K' _ q => k v h' K' q)
theorem ok_virtualW (G : Good p meth c code maxL ret nm) {pc : Nat} {L : Array Slot} {S : List Value} {y : MethodName} {bytes : ByteArray} {maxL' : Nat} {ret' : Option FieldType} {rm : Room} {ws' : List Addr} {Q' : Option Value → Heap → Prop} {index : Nat} {ps : List FieldType} {r : Option FieldType} {y0 : MethodName} {C : String} {argsL rest : List Value} (E : Exa Z h a C) (w1 : (Jvm.Cond.methodLink own index y0).before a0 Z = true) (w5 : (Jvm.Cond.declares y0).before a0 Z = true) (w6 : (Jvm.Cond.selects C y0 y).before a0 Z = true) (hnf : ∀ vm, Z.Warmed39 vm → NotFace (s.setVm vm) y0) (w2 : (Jvm.Cond.instanceMethod y).before a0 Z = true) (w3 : (Jvm.Cond.initialized y.cls).before a0 Z = true) (w4 : (Jvm.Cond.code y bytes maxL' ret').before a0 Z = true) (hy : y0.cls ≠ "java/lang/invoke/MethodHandle" ∧ y0.cls ≠ "java/lang/invoke/VarHandle") (hdesc : parseMethodDescriptor y0.desc = some ⟨ps, r⟩)
    (hM : Con true l Z EL n0 y bytes maxL' ret' rm (.ref a :: argsL).toArray h ws' Q') (hln : argsL.length = ps.length) (hS : S = argsL.reverse ++ .ref a :: rest) (hsz : L.size = maxL) (hd : decode code pc = .ok (.invokevirtual index, 3)) (hf : rm.frames + 1 ≤ R.frames) (hl : (rest.map fun v => v.category).sum + (maxL' + 11) + rm.locals ≤ R.locals) (hc : cells + rm.cells ≤ R.cells) (hsl : slots + rm.slots ≤ R.slots) (hwd : wd = true) (hws : ∀ x ∈ ws', x ∈ ws ∨ h0.size ≤ x)
    (k : ∀ v h', Keep h h' ws' → Q' v h' → Ok p l e R s m args below meth c own Z a0 EL n0 h0 ws wd Q sf h' (cells + rm.cells) (slots + rm.slots) (mkF m (pc + 3) L (v.toList ++ rest))) : Ok p l e R s m args below meth c own Z a0 EL n0 h0 ws wd Q sf h cells slots (mkF m pc L S) := by
  subst hS
  exact ok_stepCW (Q' := fun v h' _ => Q' v h') (gn := fun v => mkF m (pc + 3) L (v.toList ++ rest)) hwd hws (fun vm T locs X e0 hZ hown hSi O hE hC => by
      obtain ⟨cq, kq, qa, qb, qc⟩ := isOf (s := s.setVm vm) hZ e0 E
      obtain ⟨v, _, ⟨T', L', k', n'⟩, -, X', hS2, hgr, ⟨Lc, hQ, l1, y1, z1, hR⟩, st⟩ := X.virtualBackS G.1 (y := y0) (z := y) hown (mvT (s := s.setVm vm) hZ w1) (mvT (s := s.setVm vm) hZ w5) (hnf vm hZ) (mvT (s := s.setVm vm) hZ w6) (mvT (s := s.setVm vm) hZ w2) hy (backOfSH (s := s) (Q := fun v h' L => Fr n0 L ∧ Old Z n0 h' ∧ Keep h h' ws' ∧ Q' v h') (W := (rest.map fun v => v.category).sum) hM.freeW hZ w4 w3 hf hl hE hC) qa qc (g := mkF m pc L (argsL.reverse ++ .ref a :: rest)) rfl (by rw [G.2.2.1]; exact hsz) (Steps.refl _) (argsL := argsL) (rest := rest) (lenOf hdesc hln) rfl (by show 2 * 0 + _ ≤ _; omega) (hb G.2.1 hd) (fun _ _ => ⟨rfl, e0, hc, hsl⟩)
      dsimp only [Pt.U, Pt.locs, Pt.cells, Pt.slots] at X' l1 y1 z1 st hQ hS2 hgr hR
      subst l1 y1 z1
      obtain ⟨X2, S2, Z2, o2⟩ := rebS hSi (by rw [← e0]; exact Nat.le_refl _) X' hS2 hgr hZ hown
      exact ⟨v, T', Lc, X2, S2, Z2, o2, hR, hQ, fun t k => st.trans k⟩) (fun v h' vm' K' _ q => k v h' K' q)
theorem ok_interfaceW (G : Good p meth c code maxL ret nm) {pc : Nat} {L : Array Slot} {S : List Value} {y : MethodName} {bytes : ByteArray} {maxL' : Nat} {ret' : Option FieldType} {rm : Room} {ws' : List Addr} {Q' : Option Value → Heap → Prop} {index : Nat} {ps : List FieldType} {r : Option FieldType} {y0 : MethodName} {C : String} {count : Nat} {argsL rest : List Value} (E : Exa Z h a C) (w1 : (Jvm.Cond.methodLink own index y0).before a0 Z = true) (w5 : (Jvm.Cond.declares y0).before a0 Z = true) (w7 : (Jvm.Cond.interfaceMethod y0.cls y0.cls y0.name y0.desc).before a0 Z = true) (hfc : ((Jvm.Cond.interfaceMethod y0.cls y0.cls y0.name y0.desc).onTables && (Jvm.Cond.interfaceMethod y0.cls y0.cls y0.name y0.desc).keepsFace) = true) (w6 : (Jvm.Cond.selects C y0 y).before a0 Z = true) (w2 : (Jvm.Cond.instanceMethod y).before a0 Z = true) (w8 : (Jvm.Cond.publicMethod y).before a0 Z = true) (w9 : (Jvm.Cond.unhidden C y0.name y0.desc).before a0 Z = true) (w10 : (Jvm.Cond.castable C y0.cls).before a0 Z = true) (w3 : (Jvm.Cond.initialized y.cls).before a0 Z = true) (w4 : (Jvm.Cond.code y bytes maxL' ret').before a0 Z = true) (hy : y0.cls ≠ "java/lang/invoke/MethodHandle" ∧ y0.cls ≠ "java/lang/invoke/VarHandle") (hdesc : parseMethodDescriptor y0.desc = some ⟨ps, r⟩)
    (hM : Con true l Z EL n0 y bytes maxL' ret' rm (.ref a :: argsL).toArray h ws' Q') (hln : argsL.length = ps.length) (hS : S = argsL.reverse ++ .ref a :: rest) (hsz : L.size = maxL) (hd : decode code pc = .ok (.invokeinterface index count, 5)) (hf : rm.frames + 1 ≤ R.frames) (hl : (rest.map fun v => v.category).sum + (maxL' + 11) + rm.locals ≤ R.locals) (hc : cells + rm.cells ≤ R.cells) (hsl : slots + rm.slots ≤ R.slots) (hwd : wd = true) (hws : ∀ x ∈ ws', x ∈ ws ∨ h0.size ≤ x)
    (k : ∀ v h', Keep h h' ws' → Q' v h' → Ok p l e R s m args below meth c own Z a0 EL n0 h0 ws wd Q sf h' (cells + rm.cells) (slots + rm.slots) (mkF m (pc + 5) L (v.toList ++ rest))) : Ok p l e R s m args below meth c own Z a0 EL n0 h0 ws wd Q sf h cells slots (mkF m pc L S) := by
  subst hS
  exact ok_stepCW (Q' := fun v h' _ => Q' v h') (gn := fun v => mkF m (pc + 5) L (v.toList ++ rest)) hwd hws (fun vm T locs X e0 hZ hown hSi O hE hC => by
      obtain ⟨cq, kq, qa, qb, qc⟩ := isOf (s := s.setVm vm) hZ e0 E
      obtain ⟨v, _, ⟨T', L', k', n'⟩, -, X', hS2, hgr, ⟨Lc, hQ, l1, y1, z1, hR⟩, st⟩ := X.interfaceBackS G.1 (xi := y0) (y := y) hown (mvT (s := s.setVm vm) hZ w1) (mvT (s := s.setVm vm) hZ w5) (mvT (s := s.setVm vm) hZ w7 hfc) (mvT (s := s.setVm vm) hZ w6) (mvT (s := s.setVm vm) hZ w2) (mvT (s := s.setVm vm) hZ w8) (mvT (s := s.setVm vm) hZ w9) (mvT (s := s.setVm vm) hZ w10) hy (backOfSH (s := s) (Q := fun v h' L => Fr n0 L ∧ Old Z n0 h' ∧ Keep h h' ws' ∧ Q' v h') (W := (rest.map fun v => v.category).sum) hM.freeW hZ w4 w3 hf hl hE hC) qa qb qc (g := mkF m pc L (argsL.reverse ++ .ref a :: rest)) rfl (by rw [G.2.2.1]; exact hsz) (Steps.refl _) (argsL := argsL) (rest := rest) (lenOf hdesc hln) rfl (by show 2 * 0 + _ ≤ _; omega) (hb G.2.1 hd) (fun _ _ => ⟨rfl, e0, hc, hsl⟩)
      dsimp only [Pt.U, Pt.locs, Pt.cells, Pt.slots] at X' l1 y1 z1 st hQ hS2 hgr hR
      subst l1 y1 z1
      obtain ⟨X2, S2, Z2, o2⟩ := rebS hSi (by rw [← e0]; exact Nat.le_refl _) X' hS2 hgr hZ hown
      exact ⟨v, T', Lc, X2, S2, Z2, o2, hR, hQ, fun t k => st.trans k⟩) (fun v h' vm' K' _ q => k v h' K' q)
theorem ok_ldcO (G : Good p meth c code maxL ret nm) {pc : Nat} {L : Array Slot} {S : List Value} {index : Nat} {text : String} (hwd : wd = true) (w : (Jvm.Cond.stringLink own index text).before a0 Z = true) (wS : ∀ a ∈ Bundle.stringAtoms, a.before a0 Z = true) (hd : decode code pc = .ok (.ldc index, 2)) (n : Nat) (hn : 4 * text.toList.length ≤ n) (hbig : n ≤ 536870912) (hc : cells + 2 ≤ R.cells) (hl : slots + (n + 4) ≤ R.slots)
    (k : ∀ a h', Keep h h' [] → Ok p l e R s m args below meth c own Z a0 EL n0 h0 ws wd Q sf h' (cells + 2) (slots + (n + 4)) (mkF m (pc + 2) L (.ref a :: S))) : Ok p l e R s m args below meth c own Z a0 EL n0 h0 ws wd Q sf h cells slots (mkF m pc L S) :=
  ok_stepCW (ws' := []) (Q' := fun v _ _ => ∃ a, v = some (.ref a)) (gn := fun v => mkF m (pc + 2) L (v.toList ++ S)) hwd (fun _ q => nomatch q) (fun vm T locs X e0 hZ hown hSi O hE hC => by
      obtain ⟨a, T', h', k1, X', e1, E, S1, hk1, hZ', hown', hR, -, st⟩ := ldcOH X G.1 hZ hown w wS e0 hSi (Nat.le_refl _) hE hC (g := mkF m pc L S) rfl (hb G.2.1 hd) hn hbig hc hl
      subst e1
      exact ⟨some (.ref a), T', [], by rw [List.append_nil]; exact X', ⟨S1.1, S1.2.mono hk1⟩, hZ', hown', hR, ⟨Fr.nil _, O.ext E, (Keep.refl h []).ext E, a, rfl⟩, st⟩) (fun v h' vm' K' _ q => by obtain ⟨a, rfl⟩ := q; exact k a h' K')
theorem ok_ldcR (G : Good p meth c code maxL ret nm) {pc : Nat} {L : Array Slot} {S : List Value} {index : Nat} {text : String} (hwd : wd = true) (w : (Jvm.Cond.stringLink own index text).before a0 Z = true) (wS : ∀ a ∈ Bundle.stringAtoms, a.before a0 Z = true) (hmem : (own, index) ∈ EL) {vs : List Value} {z : Int32} (ht : (∀ c ∈ text.toList, c.toNat < 256) ∧ text.toList.map (fun c => Value.int (Jvm.Lit.byteI c.toNat.toUInt16)) = vs) (hz : ¬ z < 0) (hzl : z.toNatClampNeg = vs.length)
    (hd : decode code pc = .ok (.ldc index, 2)) (n : Nat) (hn : 4 * text.toList.length ≤ n) (hbig : n ≤ 536870912) (hc : cells + 2 ≤ R.cells) (hl : slots + (n + 4) ≤ R.slots)
    (k : ∀ a h' b kb, Keep h h' [] → Exa Z h' a "java/lang/String" → Fld Z h' a "java/lang/String" "coder" "B" (.int 0) → Fld Z h' a "java/lang/String" "value" "[B" (.ref b) → Arv Z h' b kb .byte z vs (.int 0) → (∀ x ∈ sf, x ≠ a ∧ x ≠ b) → Ok p l e R s m args below meth c own Z a0 EL n0 h0 ws wd Q sf h' (cells + 2) (slots + (n + 4)) (mkF m (pc + 2) L (.ref a :: S))) : Ok p l e R s m args below meth c own Z a0 EL n0 h0 ws wd Q sf h cells slots (mkF m pc L S) :=
  ok_stepCW (ws' := []) (Q' := fun v h' vm' => ∃ a b kb, v = some (.ref a) ∧ Exa Z h' a "java/lang/String" ∧ Fld Z h' a "java/lang/String" "coder" "B" (.int 0) ∧ Fld Z h' a "java/lang/String" "value" "[B" (.ref b) ∧ Arv Z h' b kb .byte z vs (.int 0) ∧ ∀ x, Safe Z EL vm' h' x → x ≠ a ∧ x ≠ b) (gn := fun v => mkF m (pc + 2) L (v.toList ++ S)) hwd (fun _ q => nomatch q) (fun vm T locs X e0 hZ hown hSi O hE hC => by
      obtain ⟨a, T', h', k1, b, kb, X', e1, E, S1, hk1, hZ', hown', F1, F2, F3, F4, -, -, hR, -, hne, st⟩ := ldcCH X G.1 hZ hown w wS e0 hSi (Nat.le_refl _) hE hmem hC ht hz hzl (g := mkF m pc L S) rfl (hb G.2.1 hd) hn hbig hc hl
      subst e1
      exact ⟨some (.ref a), T', [], by rw [List.append_nil]; exact X', ⟨S1.1, S1.2.mono hk1⟩, hZ', hown', hR, ⟨Fr.nil _, O.ext E, (Keep.refl h []).ext E, a, b, kb, rfl, F1, F2, F3, F4, hne⟩, st⟩) (fun v h' vm' K' hsf q => by obtain ⟨a, b, kb, rfl, F1, F2, F3, F4, hne⟩ := q; exact k a h' b kb K' F1 F2 F3 F4 (fun x hx => hne x (hsf x hx)))
end Heaps
end Jvm.Pilot.@@N@@.Own
namespace Jvm.Pilot.@@N@@.Own
open Jvm Jvm.ClassFile Sem Op Lib Jvm.Free Jvm.Stand Jvm.LawKit Jvm.RoadKit Bundle
section Loops
variable {p : Program} {l : Launch} {e : Env} {R : Room} {s : State} {m : MethodId} {args : Array Value} {below : List Frame} {meth : Method} {c : Code}
  {own : String} {Z : State} {a0 : Array Value} {EL : List (String × Nat)} {n0 : Nat} {h0 : Heap} {ws : List Addr} {wd : Bool} {Q : Option Value → Heap → Prop}
  {sf : List Addr} {h : Heap} {cells slots : Nat} {g : JFrame}
theorem ok_loop {A : Type} (μ : A → Nat) (P : A → Prop) (hh : A → Heap) (gg : A → JFrame)
    (st : ∀ x, P x → (∀ x', μ x' < μ x → P x' → Ok p l e R s m args below meth c own Z a0 EL n0 h0 ws wd Q sf (hh x') cells slots (gg x')) → Ok p l e R s m args below meth c own Z a0 EL n0 h0 ws wd Q sf (hh x) cells slots (gg x)) (x : A) (hx : P x) :
    Ok p l e R s m args below meth c own Z a0 EL n0 h0 ws wd Q sf (hh x) cells slots (gg x) := by
  have q : ∀ k x, μ x < k → P x → Ok p l e R s m args below meth c own Z a0 EL n0 h0 ws wd Q sf (hh x) cells slots (gg x) := by
    intro k
    induction k with
    | zero => intro x hk; exact absurd hk (Nat.not_lt_zero _)
    | succ k ih => intro x hk hx; exact st x hx (fun x' h1 h2 => ih x' (Nat.lt_of_lt_of_le h1 (Nat.le_of_lt_succ hk)) h2)
  exact q (μ x + 1) x (Nat.lt_succ_self _) hx
/-- several roads meet: what is behind is walked once -/
theorem ok_meet {A : Type} (P : A → Prop) (hh : A → Heap) (sfs : A → List Addr) (cells' slots' : Nat) (gg : A → JFrame) (hk : (∀ x, P x → Ok p l e R s m args below meth c own Z a0 EL n0 h0 ws wd Q (sfs x) (hh x) cells' slots' (gg x)) → Ok p l e R s m args below meth c own Z a0 EL n0 h0 ws wd Q sf h cells slots g)
    (k : ∀ x, P x → Ok p l e R s m args below meth c own Z a0 EL n0 h0 ws wd Q (sfs x) (hh x) cells' slots' (gg x)) : Ok p l e R s m args below meth c own Z a0 EL n0 h0 ws wd Q sf h cells slots g := hk k
/-- .. where nothing but a value tells them apart -/
theorem ok_meetV {A : Type} (P : A → Prop) (gg : A → JFrame) (hk : (∀ x, P x → Ok p l e R s m args below meth c own Z a0 EL n0 h0 ws wd Q sf h cells slots (gg x)) → Ok p l e R s m args below meth c own Z a0 EL n0 h0 ws wd Q sf h cells slots g)
    (k : ∀ x, P x → Ok p l e R s m args below meth c own Z a0 EL n0 h0 ws wd Q sf h cells slots (gg x)) : Ok p l e R s m args below meth c own Z a0 EL n0 h0 ws wd Q sf h cells slots g := hk k
end Loops
/-! ints that are small naturals -/
theorem i32_int {i : Nat} (h : i < 2147483648) : (Int32.ofNat i).toInt = i := Int32.toInt_ofNat_small h
theorem i32_lt {i j : Nat} (hi : i < 2147483648) (hj : j < 2147483648) : Int32.ofNat i < Int32.ofNat j ↔ i < j := by
  rw [Int32.lt_iff_toInt_lt, i32_int hi, i32_int hj]; omega
theorem i32_nn {i : Nat} (h : i < 2147483648) : ¬ Int32.ofNat i < 0 := by
  rw [Int32.lt_iff_toInt_lt, i32_int h]; show ¬ ((i : Int) < 0); omega
theorem i32_clamp {i : Nat} (h : i < 2147483648) : (Int32.ofNat i).toNatClampNeg = i := by
  rw [Int32.toNatClampNeg, i32_int h]; omega
theorem i32_eq {i j : Nat} (hi : i < 2147483648) (hj : j < 2147483648) : Int32.ofNat i = Int32.ofNat j ↔ i = j := by
  rw [← Int32.toInt_inj, i32_int hi, i32_int hj]; omega
theorem i32_succ (i : Nat) : Int32.ofNat i + (1 : Int32) = Int32.ofNat (i + 1) := by
  rw [Int32.ofNat_add]; rfl
theorem i32_sub {i j : Nat} (h : j ≤ i) : Int32.ofNat i - Int32.ofNat j = Int32.ofNat (i - j) := by
  have e : Int32.ofNat i = Int32.ofNat (i - j) + Int32.ofNat j := by rw [← Int32.ofNat_add]; congr 1; omega
  rw [e, Int32.add_sub_cancel]
/-! chars -/
abbrev lo8 (c : Int32) : Value := .int c.toInt8.toInt32
def Lat (c : Int32) : Prop := ¬ c < 0 ∧ ¬ (255 : Int32) < c
theorem Lat.int {c : Int32} (h : Lat c) : 0 ≤ c.toInt ∧ c.toInt ≤ 255 := by
  obtain ⟨h1, h2⟩ := h
  rw [Int32.lt_iff_toInt_lt] at h1 h2
  have e1 : (0 : Int32).toInt = 0 := rfl
  have e2 : (255 : Int32).toInt = 255 := rfl
  omega
theorem lat_mask (x : Int32) : Lat ((x &&& (255 : Int32)).toUInt32.toUInt16.toUInt32.toInt32) := by
  have t : ∀ k : Fin 256, ¬ (Int32.ofNat k.val).toUInt32.toUInt16.toUInt32.toInt32 < 0 ∧ ¬ (255 : Int32) < (Int32.ofNat k.val).toUInt32.toUInt16.toUInt32.toInt32 := by decide +kernel
  have h : (x &&& 255).toBitVec.toNat < 256 := by
    simp only [Int32.toBitVec_and, BitVec.toNat_and]
    exact Nat.lt_succ_of_le Nat.and_le_right
  have e : (x &&& 255) = Int32.ofNat (x &&& 255).toBitVec.toNat := by
    apply Int32.toBitVec_inj.mp
    show _ = BitVec.ofNat 32 _
    rw [BitVec.ofNat_toNat]; simp
  rw [e]
  exact t ⟨_, h⟩
theorem nar_char {c : Int32} (h : fits .char (.int c) = true) : nar .char c = c := by
  simp only [fits, Bool.and_eq_true, decide_eq_true_eq, Int32.le_iff_toInt_le] at h
  show c.toUInt32.toUInt16.toUInt32.toInt32 = c
  have e1 : (0 : Int32).toInt = 0 := rfl
  have e2 : (65535 : Int32).toInt = 65535 := rfl
  apply Int32.toBitVec_inj.mp
  have hn : c.toBitVec.toNat < 65536 := by
    have hi := h
    have : c.toInt = c.toBitVec.toInt := rfl
    rw [BitVec.toInt_eq_toNat_cond] at this
    split at this <;> omega
  apply BitVec.eq_of_toNat_eq
  show ((c.toUInt32.toUInt16.toUInt32.toInt32).toBitVec).toNat = _
  have : ((c.toUInt32.toUInt16.toUInt32.toInt32).toBitVec).toNat = c.toBitVec.toNat % 65536 := by
    show c.toUInt32.toUInt16.toUInt32.toNat = _
    simp
    rfl
  rw [this, Nat.mod_eq_of_lt hn]
theorem Lat.fits {c : Int32} (h : Lat c) : fits .char (.int c) = true := by
  have := h.int
  simp only [Jvm.fits, Bool.and_eq_true, decide_eq_true_eq, Int32.le_iff_toInt_le]
  have e1 : (0 : Int32).toInt = 0 := rfl
  have e2 : (65535 : Int32).toInt = 65535 := rfl
  omega
theorem Lat.nar {c : Int32} (h : Lat c) : nar .char c = c := nar_char h.fits
theorem Lat.back {c : Int32} (h : Lat c) : (c.toInt8.toInt32 &&& (255 : Int32)).toUInt32.toUInt16.toUInt32.toInt32 = c := by
  have t : ∀ k : Fin 256, ((Int32.ofNat k.val).toInt8.toInt32 &&& (255 : Int32)).toUInt32.toUInt16.toUInt32.toInt32 = Int32.ofNat k.val := by decide +kernel
  have hi := h.int
  have e : c = Int32.ofNat c.toInt.toNat := by
    rw [← Int32.toInt_inj, i32_int (by omega)]; omega
  rw [e]
  exact t ⟨c.toInt.toNat, by omega⟩
theorem Lat.inj {c d : Int32} (h : Lat c) (h' : Lat d) (e : c.toInt8.toInt32 = d.toInt8.toInt32) : c = d := by rw [← h.back, ← h'.back, e]
theorem own_mid {pre p1 p2 : List Int32} {c d : Int32} (h : pre ++ c :: p1 = pre ++ d :: p2) : c = d := by
  have := List.append_cancel_left h
  exact (List.cons.inj this).1
theorem own_bool {b : Int32} (h : b = 0 ∨ b = 1) : narrow .boolean (.int b) = .int b ∧ fits .boolean (.int b) = true := by rcases h with rfl | rfl <;> exact ⟨rfl, rfl⟩
theorem own_bit {b : Int32} {P R : Prop} (h : (b = 1 ∧ P) ∨ (b = 0 ∧ R)) : b = 0 ∨ b = 1 := h.elim (fun q => Or.inr q.1) (fun q => Or.inl q.1)
theorem own_bitT {b : Int32} {P R : Prop} (h : (b = 1 ∧ P) ∨ (b = 0 ∧ R)) (q : ¬ b = 0) : P := h.elim (fun z => z.2) (fun z => absurd z.1 q)
theorem own_bitF {b : Int32} {P R : Prop} (h : (b = 1 ∧ P) ∨ (b = 0 ∧ R)) (q : b = 0) : R := h.elim (fun z => by rw [z.1] at q; cases q) (fun z => z.2)
theorem own_if0 {P : Prop} [Decidable P] (h : (if P then (1 : Int32) else 0) = 0) : ¬ P := fun q => by rw [if_pos q] at h; cases h
theorem own_if1 {P : Prop} [Decidable P] (h : ¬ (if P then (1 : Int32) else 0) = 0) : P := by
  by_cases q : P
  · exact q
  · rw [if_neg q] at h; exact absurd rfl h
theorem getD_mem {cs : List Int32} {k : Nat} {d : Int32} (h : k < cs.length) : cs.getD k d ∈ cs := by
  rw [List.getD_eq_getElem?_getD, List.getElem?_eq_getElem h]; exact List.getElem_mem h
theorem getD_map {α : Type} {f : Int32 → α} {cs : List Int32} {k : Nat} {d : α} {e : Int32} (h : k < cs.length) : (cs.map f).getD k d = f (cs.getD k e) := by
  rw [List.getD_eq_getElem?_getD, List.getD_eq_getElem?_getD, List.getElem?_map, List.getElem?_eq_getElem h]; rfl
theorem getD_mid {α : Type} (d : α) (f : Int32 → α) (pre post : List Int32) (c : Int32) : ((pre ++ c :: post).map f).getD pre.length d = f c := by simp
theorem old_le {Z : State} {n0 : Nat} {h : Heap} (O : Old Z n0 h) : n0 ≤ h.size := O.1 ▸ O.2.1
theorem allL {α : Type} {P : α → Prop} {y : α} {L : List α} (q : P y) (r : ∀ x ∈ L, P x) : ∀ x ∈ y :: L, P x := fun x z => (List.mem_cons.mp z).elim (fun u => u ▸ q) (r x)
/-- a String of Latin-1 chars -/
def LStr (Z : State) (h : Heap) (x t : Addr) (cs : List Int32) : Prop :=
  Exa Z h x "java/lang/String" ∧ Fld Z h x "java/lang/String" "coder" "B" (.int 0) ∧ Fld Z h x "java/lang/String" "value" "[B" (.ref t) ∧
    (∃ kb, Arv Z h t kb .byte (Int32.ofNat cs.length) (cs.map lo8) (.int 0)) ∧ (∀ c ∈ cs, Lat c) ∧ cs.length ≤ 16
section StrF
variable {Z : State} {h h' : Heap} {x t : Addr} {cs : List Int32} {ws : List Addr} {a0 : Array Value}
theorem LStr.keep (F : LStr Z h x t cs) (K : Keep h h' ws) (q1 : x ∉ ws) (q2 : t ∉ ws) : LStr Z h' x t cs := by
  obtain ⟨F1, F2, F3, ⟨kb, F4⟩, F5⟩ := F
  exact ⟨F1.keep K, F2.keep K q1, F3.keep K q1, ⟨kb, F4.keep K q2⟩, F5⟩
theorem LStr.exa (F : LStr Z h x t cs) : Exa Z h x "java/lang/String" := F.1
theorem LStr.lt (F : LStr Z h x t cs) : x < h.size := F.1.lt
theorem LStr.ltT (F : LStr Z h x t cs) : t < h.size := by obtain ⟨-, -, -, ⟨_, F4⟩, -⟩ := F; exact F4.lt
theorem LStr.neT {a : Addr} {C : String} {n : Nat} (F : LStr Z h x t cs) (E : Exa Z h a C) (w : (Jvm.Cond.instantiable C n).before a0 Z = true) : a ≠ t := by
  obtain ⟨-, -, -, ⟨_, F4⟩, -⟩ := F; exact E.neArv F4 w
end StrF
/-- a String whose value is null yet is no booked one -/
theorem safe_null {Z : State} {h : Heap} {x : Addr} {EL : List (String × Nat)} {wd : Bool} {sf : List Addr} (E : Exa Z h x "java/lang/String") (FV : Fld Z h x "java/lang/String" "value" "[B" .null) : SafeFor wd Z EL sf h x := fun _ => Or.inr fun vm hal B => by
  obtain ⟨q0, hq0, u, a, hb, q, hqa, F, hx⟩ := B
  obtain ⟨cell, cf, k, i, f, f1, f2, f3, f4, f5, f6, f7⟩ := FV
  obtain ⟨cell', ke, e1, e2, e3, e4, e5⟩ := E
  cases f1.symm.trans e1
  obtain ⟨cS, ⟨⟨s1, s2, s3, ⟨cv, kv, iv, s4, s4'⟩, ⟨cc, kc, ic, s5, s5'⟩, s6, s7, s8, s9, s10, s11, s12, s13, s14, s15, s16⟩, hfS, hcS⟩, ⟨kS, k1, k2, k3⟩, hB, hbyt⟩ := F
  have s1 : h[q.sa]? = some q.sC := s1
  have s10 : h[q.sd]? = some q.SA := s10
  rcases hx with rfl | rfl
  · cases f1.symm.trans s1
    obtain ⟨kv', z4⟩ := ff_back (U := Wst Z vm h) hal s4
    cases f2.symm.trans z4
    rw [s8] at f7
    cases f7
  · cases f1.symm.trans s10
    obtain ⟨hst, k9, hk9, comp, hkind9⟩ := s11
    have hfS : vm.findClass "java/lang/String" = some cS := hfS
    have hk9 : vm.classes[q.SA.cls]? = some k9 := hk9
    have k1 : vm.classes[cS]? = some kS := k1
    rw [hal.findClass] at hfS
    have ec : cS = q.SA.cls := Option.some.inj (hfS.symm.trans e2)
    rw [ec] at k1
    cases k1.symm.trans hk9
    rw [k2] at hkind9
    cases hkind9
/-- an array written behind its first values -/
theorem Arv.push {Z : State} {h h' : Heap} {a : Addr} {k : ClassId} {ty : FieldType} {z j : Int32} {vs : List Value} {dv v : Value} (F : Arv Z h a k ty z vs dv) (hv : fits ty v = true) (W : Wr h h' a j.toNatClampNeg v) (hj : j.toNatClampNeg = vs.length) : Arv Z h' a k ty z (vs ++ [v]) dv := by
  have F' := F.pad (pad_rep vs dv 1)
  obtain ⟨c, A, q, S, N, H, U⟩ := F'
  have := Arv.set A q S N H U hv W vs.length hj (by simp)
  simpa using this
section PushR
variable {p : Program} {l : Launch} {e : Env} {R : Room} {s : State} {m : MethodId} {args : Array Value} {below : List Frame} {meth : Method} {c : Code}
  {own : String} {Z : State} {a0 : Array Value} {EL : List (String × Nat)} {n0 : Nat} {h0 : Heap} {ws : List Addr} {wd : Bool} {Q : Option Value → Heap → Prop}
  {sf : List Addr} {h : Heap} {cells slots : Nat} {code : ByteArray} {maxL : Nat} {ret : Option FieldType} {nm : String} {a : Addr}
theorem ok_bastoreA (G : Good p meth c code maxL ret nm) {pc : Nat} {L : Array Slot} {S : List Value} {kA : ClassId} {z j x : Int32} (x' : Int32) {vs : List Value} {dv : Value} (F : Arv Z h a kA .byte z vs dv) (hj : ¬ j < 0 ∧ j < z) (hi : j.toNatClampNeg = vs.length) (hv : nar .byte x = x') (hd : decode code pc = .ok (.bastore, 1))
    (hg : n0 ≤ a) (hw : a ∈ ws ∨ h0.size ≤ a) (hs : SafeFor wd Z EL sf h a)
    (k : ∀ h', Keep h h' [a] → Arv Z h' a kA .byte z (vs ++ [.int x']) dv → Ok p l e R s m args below meth c own Z a0 EL n0 h0 ws wd Q sf h' cells slots (mkF m (pc + 1) L S)) : Ok p l e R s m args below meth c own Z a0 EL n0 h0 ws wd Q sf h cells slots (mkF m pc L (.int x :: .int j :: .ref a :: S)) := by
  subst hv
  obtain ⟨cl, A, q, Sz, N, H, U⟩ := id F
  exact ok_stepW hg hw hs (fun vm T locs X e0 hZ hown O => stB X G.1 hZ e0 A (inb_of Sz hj) (g := mkF m pc L (.int x :: .int j :: .ref a :: S)) rfl rfl (hb G.2.1 hd)) (fun h' K W => k h' K (Arv.push F (fits_nar_byte _) W hi))
end PushR
end Jvm.Pilot.@@N@@.Own
namespace Jvm.Pilot.@@N@@.Own
open Jvm Jvm.ClassFile Sem Op Lib Jvm.Free Jvm.Stand Jvm.LawKit Jvm.RoadKit Bundle
/-! Strings of any chars: Latin-1 or UTF-16 -/
def Chr (c : Int32) : Prop := ¬ c < 0 ∧ ¬ (65535 : Int32) < c
abbrev hi8 (c : Int32) : Value := .int (c >>> ((8 : Int32) &&& 31)).toInt8.toInt32
def u16 : List Int32 → List Value
  | [] => []
  | c :: cs => lo8 c :: hi8 c :: u16 cs
theorem u16_app (as bs : List Int32) : u16 (as ++ bs) = u16 as ++ u16 bs := by
  induction as with
  | nil => rfl
  | cons a as ih => show lo8 a :: hi8 a :: u16 (as ++ bs) = _; rw [ih]; rfl
theorem u16_len (as : List Int32) : (u16 as).length = 2 * as.length := by
  induction as with
  | nil => rfl
  | cons a as ih => show (u16 as).length + 1 + 1 = _; rw [ih, List.length_cons]; omega
theorem u16_lo (pre post : List Int32) (c : Int32) (d : Value) : (u16 (pre ++ c :: post)).getD (2 * pre.length) d = lo8 c := by
  rw [u16_app, ← u16_len]; show (u16 pre ++ lo8 c :: hi8 c :: u16 post).getD _ _ = _; simp
theorem u16_hi (pre post : List Int32) (c : Int32) (d : Value) : (u16 (pre ++ c :: post)).getD (2 * pre.length + 1) d = hi8 c := by
  rw [u16_app, ← u16_len]; show (u16 pre ++ lo8 c :: hi8 c :: u16 post).getD _ _ = _; simp
theorem Chr.int {c : Int32} (h : Chr c) : 0 ≤ c.toInt ∧ c.toInt ≤ 65535 := by
  obtain ⟨h1, h2⟩ := h
  rw [Int32.lt_iff_toInt_lt] at h1 h2
  have e1 : (0 : Int32).toInt = 0 := rfl
  have e2 : (65535 : Int32).toInt = 65535 := rfl
  omega
theorem Chr.fits {c : Int32} (h : Chr c) : fits .char (.int c) = true := by
  have := h.int
  simp only [Jvm.fits, Bool.and_eq_true, decide_eq_true_eq, Int32.le_iff_toInt_le]
  have e1 : (0 : Int32).toInt = 0 := rfl
  have e2 : (65535 : Int32).toInt = 65535 := rfl
  omega
theorem Chr.nar {c : Int32} (h : Chr c) : nar .char c = c := nar_char h.fits
theorem Lat.chr {c : Int32} (h : Lat c) : Chr c := ⟨h.1, fun q => h.2 (by rw [Int32.lt_iff_toInt_lt] at *; have e1 : (65535 : Int32).toInt = 65535 := rfl; have e2 : (255 : Int32).toInt = 255 := rfl; omega)⟩
theorem chr_i2c (x : Int32) : Chr (x.toUInt32.toUInt16.toUInt32.toInt32) := by
  have := fits_nar_char x
  simp only [Jvm.fits, Bool.and_eq_true, decide_eq_true_eq, Int32.le_iff_toInt_le] at this
  have e1 : (0 : Int32).toInt = 0 := rfl
  have e2 : (65535 : Int32).toInt = 65535 := rfl
  have e3 : nar .char x = x.toUInt32.toUInt16.toUInt32.toInt32 := rfl
  rw [e3] at this
  exact ⟨by rw [Int32.lt_iff_toInt_lt]; omega, by rw [Int32.lt_iff_toInt_lt]; omega⟩
/-- a String of UTF-16 -/
def WStr (Z : State) (h : Heap) (x t : Addr) (cs : List Int32) : Prop :=
  Exa Z h x "java/lang/String" ∧ Fld Z h x "java/lang/String" "coder" "B" (.int 1) ∧ Fld Z h x "java/lang/String" "value" "[B" (.ref t) ∧
    (∃ kb, Arv Z h t kb .byte (Int32.ofNat (2 * cs.length)) (u16 cs) (.int 0)) ∧ (∀ c ∈ cs, Chr c) ∧ cs.length ≤ 8
def GStr (Z : State) (h : Heap) (x t : Addr) (cs : List Int32) : Prop := (LStr Z h x t cs ∧ cs.length ≤ 8) ∨ WStr Z h x t cs
section StrG
variable {Z : State} {h h' : Heap} {x t : Addr} {cs : List Int32} {ws : List Addr} {a0 : Array Value}
theorem WStr.keep (F : WStr Z h x t cs) (K : Keep h h' ws) (q1 : x ∉ ws) (q2 : t ∉ ws) : WStr Z h' x t cs := by
  obtain ⟨F1, F2, F3, ⟨kb, F4⟩, F5⟩ := F
  exact ⟨F1.keep K, F2.keep K q1, F3.keep K q1, ⟨kb, F4.keep K q2⟩, F5⟩
theorem GStr.keep (F : GStr Z h x t cs) (K : Keep h h' ws) (q1 : x ∉ ws) (q2 : t ∉ ws) : GStr Z h' x t cs := F.imp (fun q => ⟨q.1.keep K q1 q2, q.2⟩) (fun q => q.keep K q1 q2)
theorem GStr.exa (F : GStr Z h x t cs) : Exa Z h x "java/lang/String" := F.elim (fun q => q.1.1) (fun q => q.1)
theorem GStr.lt (F : GStr Z h x t cs) : x < h.size := F.exa.lt
theorem GStr.ltT (F : GStr Z h x t cs) : t < h.size := F.elim (fun q => q.1.ltT) (fun q => by obtain ⟨-, -, -, ⟨_, F4⟩, -⟩ := q; exact F4.lt)
theorem GStr.neT {a : Addr} {C : String} {n : Nat} (F : GStr Z h x t cs) (E : Exa Z h a C) (w : (Jvm.Cond.instantiable C n).before a0 Z = true) : a ≠ t := F.elim (fun q => q.1.neT E w) (fun q => by obtain ⟨-, -, -, ⟨_, F4⟩, -⟩ := q; exact E.neArv F4 w)
theorem GStr.chr (F : GStr Z h x t cs) : ∀ c ∈ cs, Chr c := F.elim (fun q c hc => (q.1.2.2.2.2.1 c hc).chr) (fun q => q.2.2.2.2.1)
theorem GStr.len (F : GStr Z h x t cs) : cs.length ≤ 8 := F.elim (fun q => q.2) (fun q => q.2.2.2.2.2)
end StrG
/-! finite facts -/
theorem dbl_shl {k : Nat} (h : k ≤ 8) : Int32.ofNat k <<< ((1 : Int32) &&& 31) = Int32.ofNat (2 * k) := by
  have t : ∀ k : Fin 9, Int32.ofNat k.val <<< ((1 : Int32) &&& 31) = Int32.ofNat (2 * k.val) := by decide +kernel
  exact t ⟨k, by omega⟩
theorem dbl_shr {k : Nat} (h : k ≤ 8) : Int32.ofNat (2 * k) >>> ((1 : Int32) &&& 31) = Int32.ofNat k := by
  have t : ∀ k : Fin 9, Int32.ofNat (2 * k.val) >>> ((1 : Int32) &&& 31) = Int32.ofNat k.val := by decide +kernel
  exact t ⟨k, by omega⟩
theorem cod_one {k : Nat} (h0 : 0 < k) (h : k ≤ 8) : ((Int32.ofNat k - Int32.ofNat (2 * k)).toUInt32 >>> ((31 : Int32) &&& 31).toUInt32).toInt32.toInt8.toInt32 = 1 := by
  have t : ∀ k : Fin 8, ((Int32.ofNat (k.val + 1) - Int32.ofNat (2 * (k.val + 1))).toUInt32 >>> ((31 : Int32) &&& 31).toUInt32).toInt32.toInt8.toInt32 = 1 := by decide +kernel
  have := t ⟨k - 1, by omega⟩
  rwa [show k - 1 + 1 = k by omega] at this
theorem shr0 (c : Int32) : c >>> ((0 : Int32) &&& 31) = c := by
  have : ((0 : Int32) &&& 31) = 0 := by decide
  rw [this]; simp
theorem shl0 (c : Int32) : c <<< ((0 : Int32) &&& 31) = c := by
  have : ((0 : Int32) &&& 31) = 0 := by decide
  rw [this]; simp
theorem byte_and (x : BitVec 32) : ((x.signExtend 8).signExtend 32) &&& 255#32 = x &&& 255#32 := by
  apply BitVec.eq_of_getLsbD_eq
  intro i hi
  simp only [BitVec.getLsbD_and, BitVec.getLsbD_signExtend]
  by_cases h : i < 8
  · simp [h, hi]
  · have : (255#32).getLsbD i = false := by
      have e : ∀ i : Fin 32, ¬ i.val < 8 → (255#32).getLsbD i.val = false := by decide
      exact e ⟨i, hi⟩ h
    simp [this]
theorem m255 (i : Nat) (hi : i < 32) : (255#32).getLsbD i = decide (i < 8) := by
  have e : ∀ i : Fin 32, (255#32).getLsbD i.val = decide (i.val < 8) := by decide
  exact e ⟨i, hi⟩
theorem two_bytes (v : BitVec 32) (h : v.toNat < 65536) : ((((v &&& 255#32) ||| ((v.sshiftRight 8 &&& 255#32) <<< 8)).setWidth 16).setWidth 32) = v := by
  have hz : ∀ i, 16 ≤ i → v.getLsbD i = false := fun i hi => by
    show v.toNat.testBit i = false
    exact Nat.testBit_lt_two_pow (Nat.lt_of_lt_of_le h (Nat.pow_le_pow_right (n := 2) (by decide) hi))
  apply BitVec.eq_of_getLsbD_eq
  intro i hi
  simp only [BitVec.getLsbD_setWidth, BitVec.getLsbD_or, BitVec.getLsbD_and, BitVec.getLsbD_shiftLeft, BitVec.getLsbD_sshiftRight]
  by_cases h16 : i < 16
  · by_cases h8 : i < 8
    · simp [m255 i hi, h8, h16, hi]
    · have h3 : (255#32).getLsbD (i - 8) = true := by rw [m255 _ (by omega)]; simp; omega
      have h4 : 8 + (i - 8) = i := by omega
      have h5 : (255#32).getLsbD i = false := by rw [m255 _ hi]; simp; omega
      rw [h3, h5, h4]
      simp [h8, h16, hi]
      try omega
  · rw [hz i (by omega)]; simp [h16]
/-- two bytes make the char again -/
theorem Chr.back {c : Int32} (h : Chr c) : ((((c.toInt8.toInt32 &&& (255 : Int32)) <<< ((0 : Int32) &&& 31)) ||| (((c >>> ((8 : Int32) &&& 31)).toInt8.toInt32 &&& (255 : Int32)) <<< ((8 : Int32) &&& 31))).toUInt32.toUInt16.toUInt32.toInt32) = c := by
  apply Int32.toBitVec_inj.mp
  have hn : c.toBitVec.toNat < 65536 := by
    have hi := h.int
    have e : c.toInt = c.toBitVec.toInt := rfl
    rw [BitVec.toInt_eq_toNat_cond] at e
    split at e <;> omega
  show ((((((c.toBitVec.signExtend 8).signExtend 32) &&& 255#32) <<< 0) ||| (((((c.toBitVec.sshiftRight 8).signExtend 8).signExtend 32) &&& 255#32) <<< 8)).setWidth 16).setWidth 32 = c.toBitVec
  rw [byte_and, byte_and, BitVec.shiftLeft_zero]
  exact two_bytes _ hn
end Jvm.Pilot.@@N@@.Own
namespace Jvm.Pilot.@@N@@
open Jvm Jvm.ClassFile Sem Op Lib Jvm.Free Jvm.Stand Jvm.LawKit Jvm.RoadKit Bundle Jvm.Pilot.@@N@@.Jvm.D Jvm.Pilot.@@N@@.Own
def Cx (Z : State) (a0 : Array Value) : Prop := (∀ d ∈ tables_1, d.before a0 Z = true) ∧ (∃ cz : Int32, Sta Z Z.heap "java/lang/String" "COMPACT_STRINGS" "Z" (.int cz) ∧ ¬ cz = 0) ∧ (∃ fm : Value, Sta Z Z.heap "jdk/internal/util/Preconditions" "SIOOBE_FORMATTER" "Ljava/util/function/BiFunction;" fm ∧ (fm = .null ∨ ∃ fa, fm = .ref fa)) ∧ (Sta Z Z.heap "java/lang/StringUTF16" "$assertionsDisabled" "Z" (.int 1) ∧ Sta Z Z.heap "java/lang/StringUTF16" "HI_BYTE_SHIFT" "I" (.int 0) ∧ Sta Z Z.heap "java/lang/StringUTF16" "LO_BYTE_SHIFT" "I" (.int 8))
theorem Cx.w0 {Z : State} {a0 : Array Value} (C : Cx Z a0) : (Jvm.Cond.constant "com/example/logwright/logwright/CharactersSkipLettersPinLaw" (7 : Nat) (2147483647 : Int32)).before a0 Z = true := C.1 _ (List.mem_of_getElem? (i := 0) rfl)
theorem Cx.w1 {Z : State} {a0 : Array Value} (C : Cx Z a0) : (Jvm.Cond.methodLink "com/example/logwright/logwright/CharactersSkipLettersPinLaw" (8 : Nat) ({ cls := "com/example/logwright/logwright/CharactersSkipLettersPinLaw", name := "make", desc := "(ICCCC)Ljava/lang/String;" } : Jvm.MethodName)).before a0 Z = true := C.1 _ (List.mem_of_getElem? (i := 1) rfl)
theorem Cx.w2 {Z : State} {a0 : Array Value} (C : Cx Z a0) : (Jvm.Cond.static ({ cls := "com/example/logwright/logwright/CharactersSkipLettersPinLaw", name := "make", desc := "(ICCCC)Ljava/lang/String;" } : Jvm.MethodName)).before a0 Z = true := C.1 _ (List.mem_of_getElem? (i := 2) rfl)
theorem Cx.w3 {Z : State} {a0 : Array Value} (C : Cx Z a0) : (Jvm.Cond.initialized "com/example/logwright/logwright/CharactersSkipLettersPinLaw").before a0 Z = true := C.1 _ (List.mem_of_getElem? (i := 3) rfl)
theorem Cx.w4 {Z : State} {a0 : Array Value} (C : Cx Z a0) : (Jvm.Cond.code ({ cls := "com/example/logwright/logwright/CharactersSkipLettersPinLaw", name := "make", desc := "(ICCCC)Ljava/lang/String;" } : Jvm.MethodName) method_5_code (5 : Nat) (Option.some (Jvm.ClassFile.FieldType.object "java/lang/String"))).before a0 Z = true := C.1 _ (List.mem_of_getElem? (i := 4) rfl)
theorem Cx.w5 {Z : State} {a0 : Array Value} (C : Cx Z a0) : (Jvm.Cond.classLink "com/example/logwright/logwright/CharactersSkipLettersPinLaw" (28 : Nat) "java/lang/String").before a0 Z = true := C.1 _ (List.mem_of_getElem? (i := 5) rfl)
theorem Cx.w6 {Z : State} {a0 : Array Value} (C : Cx Z a0) : (Jvm.Cond.instantiable "java/lang/String" (4 : Nat)).before a0 Z = true := C.1 _ (List.mem_of_getElem? (i := 6) rfl)
theorem Cx.w7 {Z : State} {a0 : Array Value} (C : Cx Z a0) : (Jvm.Cond.initialized "java/lang/String").before a0 Z = true := C.1 _ (List.mem_of_getElem? (i := 7) rfl)
theorem Cx.w8 {Z : State} {a0 : Array Value} (C : Cx Z a0) : (Jvm.Cond.arrayClass Jvm.ClassFile.FieldType.char).before a0 Z = true := C.1 _ (List.mem_of_getElem? (i := 8) rfl)
theorem Cx.w9 {Z : State} {a0 : Array Value} (C : Cx Z a0) : (Jvm.Cond.methodLink "com/example/logwright/logwright/CharactersSkipLettersPinLaw" (30 : Nat) ({ cls := "java/lang/String", name := "<init>", desc := "([C)V" } : Jvm.MethodName)).before a0 Z = true := C.1 _ (List.mem_of_getElem? (i := 9) rfl)
theorem Cx.w10 {Z : State} {a0 : Array Value} (C : Cx Z a0) : (Jvm.Cond.instanceMethod ({ cls := "java/lang/String", name := "<init>", desc := "([C)V" } : Jvm.MethodName)).before a0 Z = true := C.1 _ (List.mem_of_getElem? (i := 10) rfl)
theorem Cx.w11 {Z : State} {a0 : Array Value} (C : Cx Z a0) : (Jvm.Cond.code ({ cls := "java/lang/String", name := "<init>", desc := "([C)V" } : Jvm.MethodName) jdk_42_method_3_code (2 : Nat) (Option.none : Option Jvm.ClassFile.FieldType)).before a0 Z = true := C.1 _ (List.mem_of_getElem? (i := 11) rfl)
theorem Cx.w12 {Z : State} {a0 : Array Value} (C : Cx Z a0) : (Jvm.Cond.methodLink "java/lang/String" (27 : Nat) ({ cls := "java/lang/String", name := "<init>", desc := "([CIILjava/lang/Void;)V" } : Jvm.MethodName)).before a0 Z = true := C.1 _ (List.mem_of_getElem? (i := 12) rfl)
theorem Cx.w13 {Z : State} {a0 : Array Value} (C : Cx Z a0) : (Jvm.Cond.instanceMethod ({ cls := "java/lang/String", name := "<init>", desc := "([CIILjava/lang/Void;)V" } : Jvm.MethodName)).before a0 Z = true := C.1 _ (List.mem_of_getElem? (i := 13) rfl)
theorem Cx.w15 {Z : State} {a0 : Array Value} (C : Cx Z a0) : (Jvm.Cond.code ({ cls := "java/lang/String", name := "<init>", desc := "([CIILjava/lang/Void;)V" } : Jvm.MethodName) jdk_42_method_149_code (6 : Nat) (Option.none : Option Jvm.ClassFile.FieldType)).before a0 Z = true := C.1 _ (List.mem_of_getElem? (i := 15) rfl)
theorem Cx.w16 {Z : State} {a0 : Array Value} (C : Cx Z a0) : (Jvm.Cond.methodLink "java/lang/String" (1 : Nat) ({ cls := "java/lang/Object", name := "<init>", desc := "()V" } : Jvm.MethodName)).before a0 Z = true := C.1 _ (List.mem_of_getElem? (i := 16) rfl)
theorem Cx.w17 {Z : State} {a0 : Array Value} (C : Cx Z a0) : (Jvm.Cond.instanceMethod ({ cls := "java/lang/Object", name := "<init>", desc := "()V" } : Jvm.MethodName)).before a0 Z = true := C.1 _ (List.mem_of_getElem? (i := 17) rfl)
theorem Cx.w18 {Z : State} {a0 : Array Value} (C : Cx Z a0) : (Jvm.Cond.code ({ cls := "java/lang/Object", name := "<init>", desc := "()V" } : Jvm.MethodName) object_method_1_code (1 : Nat) (Option.none : Option Jvm.ClassFile.FieldType)).before a0 Z = true := C.1 _ (List.mem_of_getElem? (i := 18) rfl)
theorem Cx.w19 {Z : State} {a0 : Array Value} (C : Cx Z a0) : (Jvm.Cond.stringLink "java/lang/String" (7 : Nat) "").before a0 Z = true := C.1 _ (List.mem_of_getElem? (i := 19) rfl)
theorem Cx.w20 {Z : State} {a0 : Array Value} (C : Cx Z a0) : (Jvm.Cond.arrayClass Jvm.ClassFile.FieldType.byte).before a0 Z = true := C.1 _ (List.mem_of_getElem? (i := 20) rfl)
theorem Cx.w21 {Z : State} {a0 : Array Value} (C : Cx Z a0) : (Jvm.Cond.laysFinal "java/lang/String" "java/lang/String" "value" "[B").before a0 Z = true := C.1 _ (List.mem_of_getElem? (i := 21) rfl)
theorem Cx.w22 {Z : State} {a0 : Array Value} (C : Cx Z a0) : (Jvm.Cond.laysFinal "java/lang/String" "java/lang/String" "coder" "B").before a0 Z = true := C.1 _ (List.mem_of_getElem? (i := 22) rfl)
theorem Cx.w25 {Z : State} {a0 : Array Value} (C : Cx Z a0) : (Jvm.Cond.fieldLink "java/lang/String" (9 : Nat) "java/lang/String" "value" "[B").before a0 Z = true := C.1 _ (List.mem_of_getElem? (i := 25) rfl)
theorem Cx.w26 {Z : State} {a0 : Array Value} (C : Cx Z a0) : (Jvm.Cond.fieldLink "java/lang/String" (15 : Nat) "java/lang/String" "coder" "B").before a0 Z = true := C.1 _ (List.mem_of_getElem? (i := 26) rfl)
theorem Cx.w27 {Z : State} {a0 : Array Value} (C : Cx Z a0) : (Jvm.Cond.methodLink "com/example/logwright/logwright/CharactersSkipLettersPinLaw" (14 : Nat) ({ cls := "com/example/logwright/logwright/Characters", name := "skipLetters", desc := "(Ljava/lang/String;I)I" } : Jvm.MethodName)).before a0 Z = true := C.1 _ (List.mem_of_getElem? (i := 27) rfl)
theorem Cx.w28 {Z : State} {a0 : Array Value} (C : Cx Z a0) : (Jvm.Cond.static ({ cls := "com/example/logwright/logwright/Characters", name := "skipLetters", desc := "(Ljava/lang/String;I)I" } : Jvm.MethodName)).before a0 Z = true := C.1 _ (List.mem_of_getElem? (i := 28) rfl)
theorem Cx.w29 {Z : State} {a0 : Array Value} (C : Cx Z a0) : (Jvm.Cond.initialized "com/example/logwright/logwright/Characters").before a0 Z = true := C.1 _ (List.mem_of_getElem? (i := 29) rfl)
theorem Cx.w30 {Z : State} {a0 : Array Value} (C : Cx Z a0) : (Jvm.Cond.code ({ cls := "com/example/logwright/logwright/Characters", name := "skipLetters", desc := "(Ljava/lang/String;I)I" } : Jvm.MethodName) prog_7_method_5_code (3 : Nat) (Option.some Jvm.ClassFile.FieldType.int)).before a0 Z = true := C.1 _ (List.mem_of_getElem? (i := 30) rfl)
theorem Cx.w31 {Z : State} {a0 : Array Value} (C : Cx Z a0) : (Jvm.Cond.methodLink "com/example/logwright/logwright/Characters" (19 : Nat) ({ cls := "java/lang/String", name := "length", desc := "()I" } : Jvm.MethodName)).before a0 Z = true := C.1 _ (List.mem_of_getElem? (i := 31) rfl)
theorem Cx.w32 {Z : State} {a0 : Array Value} (C : Cx Z a0) : (Jvm.Cond.declares ({ cls := "java/lang/String", name := "length", desc := "()I" } : Jvm.MethodName)).before a0 Z = true := C.1 _ (List.mem_of_getElem? (i := 32) rfl)
theorem Cx.w33 {Z : State} {a0 : Array Value} (C : Cx Z a0) : (Jvm.Cond.instanceMethod ({ cls := "java/lang/String", name := "length", desc := "()I" } : Jvm.MethodName)).before a0 Z = true := C.1 _ (List.mem_of_getElem? (i := 33) rfl)
theorem Cx.w34 {Z : State} {a0 : Array Value} (C : Cx Z a0) : (Jvm.Cond.selects "java/lang/String" ({ cls := "java/lang/String", name := "length", desc := "()I" } : Jvm.MethodName) ({ cls := "java/lang/String", name := "length", desc := "()I" } : Jvm.MethodName)).before a0 Z = true := C.1 _ (List.mem_of_getElem? (i := 34) rfl)
theorem Cx.w35 {Z : State} {a0 : Array Value} (C : Cx Z a0) : (Jvm.Cond.code ({ cls := "java/lang/String", name := "length", desc := "()I" } : Jvm.MethodName) jdk_42_method_54_code (1 : Nat) (Option.some Jvm.ClassFile.FieldType.int)).before a0 Z = true := C.1 _ (List.mem_of_getElem? (i := 35) rfl)
theorem Cx.w36 {Z : State} {a0 : Array Value} (C : Cx Z a0) : (Jvm.Cond.methodLink "java/lang/String" (335 : Nat) ({ cls := "java/lang/String", name := "coder", desc := "()B" } : Jvm.MethodName)).before a0 Z = true := C.1 _ (List.mem_of_getElem? (i := 36) rfl)
theorem Cx.w37 {Z : State} {a0 : Array Value} (C : Cx Z a0) : (Jvm.Cond.declares ({ cls := "java/lang/String", name := "coder", desc := "()B" } : Jvm.MethodName)).before a0 Z = true := C.1 _ (List.mem_of_getElem? (i := 37) rfl)
theorem Cx.w38 {Z : State} {a0 : Array Value} (C : Cx Z a0) : (Jvm.Cond.instanceMethod ({ cls := "java/lang/String", name := "coder", desc := "()B" } : Jvm.MethodName)).before a0 Z = true := C.1 _ (List.mem_of_getElem? (i := 38) rfl)
theorem Cx.w39 {Z : State} {a0 : Array Value} (C : Cx Z a0) : (Jvm.Cond.selects "java/lang/String" ({ cls := "java/lang/String", name := "coder", desc := "()B" } : Jvm.MethodName) ({ cls := "java/lang/String", name := "coder", desc := "()B" } : Jvm.MethodName)).before a0 Z = true := C.1 _ (List.mem_of_getElem? (i := 39) rfl)
theorem Cx.w40 {Z : State} {a0 : Array Value} (C : Cx Z a0) : (Jvm.Cond.code ({ cls := "java/lang/String", name := "coder", desc := "()B" } : Jvm.MethodName) jdk_42_method_152_code (1 : Nat) (Option.some Jvm.ClassFile.FieldType.byte)).before a0 Z = true := C.1 _ (List.mem_of_getElem? (i := 40) rfl)
theorem Cx.w41 {Z : State} {a0 : Array Value} (C : Cx Z a0) : (Jvm.Cond.fieldLink "java/lang/String" (38 : Nat) "java/lang/String" "COMPACT_STRINGS" "Z").before a0 Z = true := C.1 _ (List.mem_of_getElem? (i := 41) rfl)
theorem Cx.w42 {Z : State} {a0 : Array Value} (C : Cx Z a0) : (Jvm.Cond.methodLink "java/lang/String" (177 : Nat) ({ cls := "java/lang/StringUTF16", name := "compress", desc := "([CII)[B" } : Jvm.MethodName)).before a0 Z = true := C.1 _ (List.mem_of_getElem? (i := 42) rfl)
theorem Cx.w43 {Z : State} {a0 : Array Value} (C : Cx Z a0) : (Jvm.Cond.static ({ cls := "java/lang/StringUTF16", name := "compress", desc := "([CII)[B" } : Jvm.MethodName)).before a0 Z = true := C.1 _ (List.mem_of_getElem? (i := 43) rfl)
theorem Cx.w44 {Z : State} {a0 : Array Value} (C : Cx Z a0) : (Jvm.Cond.initialized "java/lang/StringUTF16").before a0 Z = true := C.1 _ (List.mem_of_getElem? (i := 44) rfl)
theorem Cx.w45 {Z : State} {a0 : Array Value} (C : Cx Z a0) : (Jvm.Cond.code ({ cls := "java/lang/StringUTF16", name := "compress", desc := "([CII)[B" } : Jvm.MethodName) jdk_52_method_16_code (6 : Nat) (Option.some (Jvm.ClassFile.FieldType.array Jvm.ClassFile.FieldType.byte))).before a0 Z = true := C.1 _ (List.mem_of_getElem? (i := 45) rfl)
theorem Cx.w46 {Z : State} {a0 : Array Value} (C : Cx Z a0) : (Jvm.Cond.methodLink "java/lang/StringUTF16" (115 : Nat) ({ cls := "java/lang/StringUTF16", name := "compress", desc := "([CI[BII)I" } : Jvm.MethodName)).before a0 Z = true := C.1 _ (List.mem_of_getElem? (i := 46) rfl)
theorem Cx.w47 {Z : State} {a0 : Array Value} (C : Cx Z a0) : (Jvm.Cond.static ({ cls := "java/lang/StringUTF16", name := "compress", desc := "([CI[BII)I" } : Jvm.MethodName)).before a0 Z = true := C.1 _ (List.mem_of_getElem? (i := 47) rfl)
theorem Cx.w48 {Z : State} {a0 : Array Value} (C : Cx Z a0) : (Jvm.Cond.code ({ cls := "java/lang/StringUTF16", name := "compress", desc := "([CI[BII)I" } : Jvm.MethodName) jdk_52_method_21_code (7 : Nat) (Option.some Jvm.ClassFile.FieldType.int)).before a0 Z = true := C.1 _ (List.mem_of_getElem? (i := 48) rfl)
theorem Cx.w49 {Z : State} {a0 : Array Value} (C : Cx Z a0) : (Jvm.Cond.methodLink "java/lang/String" (47 : Nat) ({ cls := "java/lang/StringUTF16", name := "coderFromArrayLen", desc := "([BI)B" } : Jvm.MethodName)).before a0 Z = true := C.1 _ (List.mem_of_getElem? (i := 49) rfl)
theorem Cx.w50 {Z : State} {a0 : Array Value} (C : Cx Z a0) : (Jvm.Cond.static ({ cls := "java/lang/StringUTF16", name := "coderFromArrayLen", desc := "([BI)B" } : Jvm.MethodName)).before a0 Z = true := C.1 _ (List.mem_of_getElem? (i := 50) rfl)
theorem Cx.w51 {Z : State} {a0 : Array Value} (C : Cx Z a0) : (Jvm.Cond.code ({ cls := "java/lang/StringUTF16", name := "coderFromArrayLen", desc := "([BI)B" } : Jvm.MethodName) jdk_52_method_15_code (2 : Nat) (Option.some Jvm.ClassFile.FieldType.byte)).before a0 Z = true := C.1 _ (List.mem_of_getElem? (i := 51) rfl)
theorem Cx.w52 {Z : State} {a0 : Array Value} (C : Cx Z a0) : (Jvm.Cond.methodLink "com/example/logwright/logwright/Characters" (26 : Nat) ({ cls := "java/lang/String", name := "charAt", desc := "(I)C" } : Jvm.MethodName)).before a0 Z = true := C.1 _ (List.mem_of_getElem? (i := 52) rfl)
theorem Cx.w53 {Z : State} {a0 : Array Value} (C : Cx Z a0) : (Jvm.Cond.declares ({ cls := "java/lang/String", name := "charAt", desc := "(I)C" } : Jvm.MethodName)).before a0 Z = true := C.1 _ (List.mem_of_getElem? (i := 53) rfl)
theorem Cx.w54 {Z : State} {a0 : Array Value} (C : Cx Z a0) : (Jvm.Cond.instanceMethod ({ cls := "java/lang/String", name := "charAt", desc := "(I)C" } : Jvm.MethodName)).before a0 Z = true := C.1 _ (List.mem_of_getElem? (i := 54) rfl)
theorem Cx.w55 {Z : State} {a0 : Array Value} (C : Cx Z a0) : (Jvm.Cond.selects "java/lang/String" ({ cls := "java/lang/String", name := "charAt", desc := "(I)C" } : Jvm.MethodName) ({ cls := "java/lang/String", name := "charAt", desc := "(I)C" } : Jvm.MethodName)).before a0 Z = true := C.1 _ (List.mem_of_getElem? (i := 55) rfl)
theorem Cx.w56 {Z : State} {a0 : Array Value} (C : Cx Z a0) : (Jvm.Cond.code ({ cls := "java/lang/String", name := "charAt", desc := "(I)C" } : Jvm.MethodName) jdk_42_method_56_code (2 : Nat) (Option.some Jvm.ClassFile.FieldType.char)).before a0 Z = true := C.1 _ (List.mem_of_getElem? (i := 56) rfl)
theorem Cx.w57 {Z : State} {a0 : Array Value} (C : Cx Z a0) : (Jvm.Cond.methodLink "java/lang/String" (492 : Nat) ({ cls := "java/lang/String", name := "isLatin1", desc := "()Z" } : Jvm.MethodName)).before a0 Z = true := C.1 _ (List.mem_of_getElem? (i := 57) rfl)
theorem Cx.w58 {Z : State} {a0 : Array Value} (C : Cx Z a0) : (Jvm.Cond.declares ({ cls := "java/lang/String", name := "isLatin1", desc := "()Z" } : Jvm.MethodName)).before a0 Z = true := C.1 _ (List.mem_of_getElem? (i := 58) rfl)
theorem Cx.w59 {Z : State} {a0 : Array Value} (C : Cx Z a0) : (Jvm.Cond.instanceMethod ({ cls := "java/lang/String", name := "isLatin1", desc := "()Z" } : Jvm.MethodName)).before a0 Z = true := C.1 _ (List.mem_of_getElem? (i := 59) rfl)
theorem Cx.w60 {Z : State} {a0 : Array Value} (C : Cx Z a0) : (Jvm.Cond.selects "java/lang/String" ({ cls := "java/lang/String", name := "isLatin1", desc := "()Z" } : Jvm.MethodName) ({ cls := "java/lang/String", name := "isLatin1", desc := "()Z" } : Jvm.MethodName)).before a0 Z = true := C.1 _ (List.mem_of_getElem? (i := 60) rfl)
theorem Cx.w61 {Z : State} {a0 : Array Value} (C : Cx Z a0) : (Jvm.Cond.code ({ cls := "java/lang/String", name := "isLatin1", desc := "()Z" } : Jvm.MethodName) jdk_42_method_154_code (1 : Nat) (Option.some Jvm.ClassFile.FieldType.boolean)).before a0 Z = true := C.1 _ (List.mem_of_getElem? (i := 61) rfl)
theorem Cx.w62 {Z : State} {a0 : Array Value} (C : Cx Z a0) : (Jvm.Cond.methodLink "java/lang/String" (495 : Nat) ({ cls := "java/lang/StringLatin1", name := "charAt", desc := "([BI)C" } : Jvm.MethodName)).before a0 Z = true := C.1 _ (List.mem_of_getElem? (i := 62) rfl)
theorem Cx.w63 {Z : State} {a0 : Array Value} (C : Cx Z a0) : (Jvm.Cond.static ({ cls := "java/lang/StringLatin1", name := "charAt", desc := "([BI)C" } : Jvm.MethodName)).before a0 Z = true := C.1 _ (List.mem_of_getElem? (i := 63) rfl)
theorem Cx.w64 {Z : State} {a0 : Array Value} (C : Cx Z a0) : (Jvm.Cond.initialized "java/lang/StringLatin1").before a0 Z = true := C.1 _ (List.mem_of_getElem? (i := 64) rfl)
theorem Cx.w65 {Z : State} {a0 : Array Value} (C : Cx Z a0) : (Jvm.Cond.code ({ cls := "java/lang/StringLatin1", name := "charAt", desc := "([BI)C" } : Jvm.MethodName) jdk_43_method_2_code (2 : Nat) (Option.some Jvm.ClassFile.FieldType.char)).before a0 Z = true := C.1 _ (List.mem_of_getElem? (i := 65) rfl)
theorem Cx.w66 {Z : State} {a0 : Array Value} (C : Cx Z a0) : (Jvm.Cond.methodLink "java/lang/StringLatin1" (9 : Nat) ({ cls := "java/lang/String", name := "checkIndex", desc := "(II)V" } : Jvm.MethodName)).before a0 Z = true := C.1 _ (List.mem_of_getElem? (i := 66) rfl)
theorem Cx.w67 {Z : State} {a0 : Array Value} (C : Cx Z a0) : (Jvm.Cond.static ({ cls := "java/lang/String", name := "checkIndex", desc := "(II)V" } : Jvm.MethodName)).before a0 Z = true := C.1 _ (List.mem_of_getElem? (i := 67) rfl)
theorem Cx.w68 {Z : State} {a0 : Array Value} (C : Cx Z a0) : (Jvm.Cond.code ({ cls := "java/lang/String", name := "checkIndex", desc := "(II)V" } : Jvm.MethodName) jdk_42_method_155_code (2 : Nat) (Option.none : Option Jvm.ClassFile.FieldType)).before a0 Z = true := C.1 _ (List.mem_of_getElem? (i := 68) rfl)
theorem Cx.w69 {Z : State} {a0 : Array Value} (C : Cx Z a0) : (Jvm.Cond.fieldLink "java/lang/String" (1053 : Nat) "jdk/internal/util/Preconditions" "SIOOBE_FORMATTER" "Ljava/util/function/BiFunction;").before a0 Z = true := C.1 _ (List.mem_of_getElem? (i := 69) rfl)
theorem Cx.w70 {Z : State} {a0 : Array Value} (C : Cx Z a0) : (Jvm.Cond.initialized "jdk/internal/util/Preconditions").before a0 Z = true := C.1 _ (List.mem_of_getElem? (i := 70) rfl)
theorem Cx.w71 {Z : State} {a0 : Array Value} (C : Cx Z a0) : (Jvm.Cond.methodLink "java/lang/String" (1059 : Nat) ({ cls := "jdk/internal/util/Preconditions", name := "checkIndex", desc := "(IILjava/util/function/BiFunction;)I" } : Jvm.MethodName)).before a0 Z = true := C.1 _ (List.mem_of_getElem? (i := 71) rfl)
theorem Cx.w72 {Z : State} {a0 : Array Value} (C : Cx Z a0) : (Jvm.Cond.static ({ cls := "jdk/internal/util/Preconditions", name := "checkIndex", desc := "(IILjava/util/function/BiFunction;)I" } : Jvm.MethodName)).before a0 Z = true := C.1 _ (List.mem_of_getElem? (i := 72) rfl)
theorem Cx.w73 {Z : State} {a0 : Array Value} (C : Cx Z a0) : (Jvm.Cond.code ({ cls := "jdk/internal/util/Preconditions", name := "checkIndex", desc := "(IILjava/util/function/BiFunction;)I" } : Jvm.MethodName) jdk_41_method_11_code (3 : Nat) (Option.some Jvm.ClassFile.FieldType.int)).before a0 Z = true := C.1 _ (List.mem_of_getElem? (i := 73) rfl)
theorem Cx.w74 {Z : State} {a0 : Array Value} (C : Cx Z a0) : (Jvm.Cond.methodLink "com/example/logwright/logwright/Characters" (30 : Nat) ({ cls := "com/example/logwright/logwright/Characters", name := "isLetter", desc := "(C)Z" } : Jvm.MethodName)).before a0 Z = true := C.1 _ (List.mem_of_getElem? (i := 74) rfl)
theorem Cx.w75 {Z : State} {a0 : Array Value} (C : Cx Z a0) : (Jvm.Cond.static ({ cls := "com/example/logwright/logwright/Characters", name := "isLetter", desc := "(C)Z" } : Jvm.MethodName)).before a0 Z = true := C.1 _ (List.mem_of_getElem? (i := 75) rfl)
theorem Cx.w76 {Z : State} {a0 : Array Value} (C : Cx Z a0) : (Jvm.Cond.code ({ cls := "com/example/logwright/logwright/Characters", name := "isLetter", desc := "(C)Z" } : Jvm.MethodName) prog_7_method_7_code (1 : Nat) (Option.some Jvm.ClassFile.FieldType.boolean)).before a0 Z = true := C.1 _ (List.mem_of_getElem? (i := 76) rfl)
theorem Cx.w77 {Z : State} {a0 : Array Value} (C : Cx Z a0) : (Jvm.Cond.methodLink "com/example/logwright/logwright/CharactersSkipLettersPinLaw" (24 : Nat) ({ cls := "com/example/logwright/logwright/CharactersSkipLettersPinLaw", name := "at", desc := "(ICCCC)C" } : Jvm.MethodName)).before a0 Z = true := C.1 _ (List.mem_of_getElem? (i := 77) rfl)
theorem Cx.w78 {Z : State} {a0 : Array Value} (C : Cx Z a0) : (Jvm.Cond.static ({ cls := "com/example/logwright/logwright/CharactersSkipLettersPinLaw", name := "at", desc := "(ICCCC)C" } : Jvm.MethodName)).before a0 Z = true := C.1 _ (List.mem_of_getElem? (i := 78) rfl)
theorem Cx.w79 {Z : State} {a0 : Array Value} (C : Cx Z a0) : (Jvm.Cond.code ({ cls := "com/example/logwright/logwright/CharactersSkipLettersPinLaw", name := "at", desc := "(ICCCC)C" } : Jvm.MethodName) method_4_code (5 : Nat) (Option.some Jvm.ClassFile.FieldType.char)).before a0 Z = true := C.1 _ (List.mem_of_getElem? (i := 79) rfl)
theorem Cx.w80 {Z : State} {a0 : Array Value} (C : Cx Z a0) : (Jvm.Cond.methodLink "com/example/logwright/logwright/CharactersSkipLettersPinLaw" (20 : Nat) ({ cls := "com/example/logwright/logwright/CharactersSkipLettersPinLaw", name := "letter", desc := "(C)Z" } : Jvm.MethodName)).before a0 Z = true := C.1 _ (List.mem_of_getElem? (i := 80) rfl)
theorem Cx.w81 {Z : State} {a0 : Array Value} (C : Cx Z a0) : (Jvm.Cond.static ({ cls := "com/example/logwright/logwright/CharactersSkipLettersPinLaw", name := "letter", desc := "(C)Z" } : Jvm.MethodName)).before a0 Z = true := C.1 _ (List.mem_of_getElem? (i := 81) rfl)
theorem Cx.w82 {Z : State} {a0 : Array Value} (C : Cx Z a0) : (Jvm.Cond.code ({ cls := "com/example/logwright/logwright/CharactersSkipLettersPinLaw", name := "letter", desc := "(C)Z" } : Jvm.MethodName) method_3_code (1 : Nat) (Option.some Jvm.ClassFile.FieldType.boolean)).before a0 Z = true := C.1 _ (List.mem_of_getElem? (i := 82) rfl)
theorem Cx.w83 {Z : State} {a0 : Array Value} (C : Cx Z a0) : (Jvm.Cond.methodLink "java/lang/StringUTF16" (119 : Nat) ({ cls := "java/lang/StringUTF16", name := "toBytes", desc := "([CII)[B" } : Jvm.MethodName)).before a0 Z = true := C.1 _ (List.mem_of_getElem? (i := 83) rfl)
theorem Cx.w84 {Z : State} {a0 : Array Value} (C : Cx Z a0) : (Jvm.Cond.static ({ cls := "java/lang/StringUTF16", name := "toBytes", desc := "([CII)[B" } : Jvm.MethodName)).before a0 Z = true := C.1 _ (List.mem_of_getElem? (i := 84) rfl)
theorem Cx.w85 {Z : State} {a0 : Array Value} (C : Cx Z a0) : (Jvm.Cond.code ({ cls := "java/lang/StringUTF16", name := "toBytes", desc := "([CII)[B" } : Jvm.MethodName) jdk_52_method_14_code (5 : Nat) (Option.some (Jvm.ClassFile.FieldType.array Jvm.ClassFile.FieldType.byte))).before a0 Z = true := C.1 _ (List.mem_of_getElem? (i := 85) rfl)
theorem Cx.w86 {Z : State} {a0 : Array Value} (C : Cx Z a0) : (Jvm.Cond.methodLink "java/lang/StringUTF16" (107 : Nat) ({ cls := "java/lang/StringUTF16", name := "newBytesFor", desc := "(I)[B" } : Jvm.MethodName)).before a0 Z = true := C.1 _ (List.mem_of_getElem? (i := 86) rfl)
theorem Cx.w87 {Z : State} {a0 : Array Value} (C : Cx Z a0) : (Jvm.Cond.static ({ cls := "java/lang/StringUTF16", name := "newBytesFor", desc := "(I)[B" } : Jvm.MethodName)).before a0 Z = true := C.1 _ (List.mem_of_getElem? (i := 87) rfl)
theorem Cx.w88 {Z : State} {a0 : Array Value} (C : Cx Z a0) : (Jvm.Cond.code ({ cls := "java/lang/StringUTF16", name := "newBytesFor", desc := "(I)[B" } : Jvm.MethodName) jdk_52_method_2_code (1 : Nat) (Option.some (Jvm.ClassFile.FieldType.array Jvm.ClassFile.FieldType.byte))).before a0 Z = true := C.1 _ (List.mem_of_getElem? (i := 88) rfl)
theorem Cx.w89 {Z : State} {a0 : Array Value} (C : Cx Z a0) : (Jvm.Cond.methodLink "java/lang/StringUTF16" (11 : Nat) ({ cls := "java/lang/StringUTF16", name := "newBytesLength", desc := "(I)I" } : Jvm.MethodName)).before a0 Z = true := C.1 _ (List.mem_of_getElem? (i := 89) rfl)
theorem Cx.w90 {Z : State} {a0 : Array Value} (C : Cx Z a0) : (Jvm.Cond.static ({ cls := "java/lang/StringUTF16", name := "newBytesLength", desc := "(I)I" } : Jvm.MethodName)).before a0 Z = true := C.1 _ (List.mem_of_getElem? (i := 90) rfl)
theorem Cx.w91 {Z : State} {a0 : Array Value} (C : Cx Z a0) : (Jvm.Cond.code ({ cls := "java/lang/StringUTF16", name := "newBytesLength", desc := "(I)I" } : Jvm.MethodName) jdk_52_method_3_code (1 : Nat) (Option.some Jvm.ClassFile.FieldType.int)).before a0 Z = true := C.1 _ (List.mem_of_getElem? (i := 91) rfl)
theorem Cx.w92 {Z : State} {a0 : Array Value} (C : Cx Z a0) : (Jvm.Cond.constant "java/lang/StringUTF16" (20 : Nat) (1073741823 : Int32)).before a0 Z = true := C.1 _ (List.mem_of_getElem? (i := 92) rfl)
theorem Cx.w93 {Z : State} {a0 : Array Value} (C : Cx Z a0) : (Jvm.Cond.methodLink "java/lang/StringUTF16" (111 : Nat) ({ cls := "java/lang/StringUTF16", name := "putChar", desc := "([BII)V" } : Jvm.MethodName)).before a0 Z = true := C.1 _ (List.mem_of_getElem? (i := 93) rfl)
theorem Cx.w94 {Z : State} {a0 : Array Value} (C : Cx Z a0) : (Jvm.Cond.static ({ cls := "java/lang/StringUTF16", name := "putChar", desc := "([BII)V" } : Jvm.MethodName)).before a0 Z = true := C.1 _ (List.mem_of_getElem? (i := 94) rfl)
theorem Cx.w95 {Z : State} {a0 : Array Value} (C : Cx Z a0) : (Jvm.Cond.code ({ cls := "java/lang/StringUTF16", name := "putChar", desc := "([BII)V" } : Jvm.MethodName) jdk_52_method_4_code (3 : Nat) (Option.none : Option Jvm.ClassFile.FieldType)).before a0 Z = true := C.1 _ (List.mem_of_getElem? (i := 95) rfl)
theorem Cx.w96 {Z : State} {a0 : Array Value} (C : Cx Z a0) : (Jvm.Cond.fieldLink "java/lang/StringUTF16" (44 : Nat) "java/lang/StringUTF16" "$assertionsDisabled" "Z").before a0 Z = true := C.1 _ (List.mem_of_getElem? (i := 96) rfl)
theorem Cx.w97 {Z : State} {a0 : Array Value} (C : Cx Z a0) : (Jvm.Cond.fieldLink "java/lang/StringUTF16" (59 : Nat) "java/lang/StringUTF16" "HI_BYTE_SHIFT" "I").before a0 Z = true := C.1 _ (List.mem_of_getElem? (i := 97) rfl)
theorem Cx.w98 {Z : State} {a0 : Array Value} (C : Cx Z a0) : (Jvm.Cond.fieldLink "java/lang/StringUTF16" (63 : Nat) "java/lang/StringUTF16" "LO_BYTE_SHIFT" "I").before a0 Z = true := C.1 _ (List.mem_of_getElem? (i := 98) rfl)
theorem Cx.w99 {Z : State} {a0 : Array Value} (C : Cx Z a0) : (Jvm.Cond.methodLink "java/lang/StringUTF16" (71 : Nat) ({ cls := "java/lang/StringUTF16", name := "getChar", desc := "([BI)C" } : Jvm.MethodName)).before a0 Z = true := C.1 _ (List.mem_of_getElem? (i := 99) rfl)
theorem Cx.w100 {Z : State} {a0 : Array Value} (C : Cx Z a0) : (Jvm.Cond.static ({ cls := "java/lang/StringUTF16", name := "getChar", desc := "([BI)C" } : Jvm.MethodName)).before a0 Z = true := C.1 _ (List.mem_of_getElem? (i := 100) rfl)
theorem Cx.w101 {Z : State} {a0 : Array Value} (C : Cx Z a0) : (Jvm.Cond.code ({ cls := "java/lang/StringUTF16", name := "getChar", desc := "([BI)C" } : Jvm.MethodName) jdk_52_method_5_code (2 : Nat) (Option.some Jvm.ClassFile.FieldType.char)).before a0 Z = true := C.1 _ (List.mem_of_getElem? (i := 101) rfl)
theorem Cx.w102 {Z : State} {a0 : Array Value} (C : Cx Z a0) : (Jvm.Cond.methodLink "java/lang/String" (498 : Nat) ({ cls := "java/lang/StringUTF16", name := "charAt", desc := "([BI)C" } : Jvm.MethodName)).before a0 Z = true := C.1 _ (List.mem_of_getElem? (i := 102) rfl)
theorem Cx.w103 {Z : State} {a0 : Array Value} (C : Cx Z a0) : (Jvm.Cond.static ({ cls := "java/lang/StringUTF16", name := "charAt", desc := "([BI)C" } : Jvm.MethodName)).before a0 Z = true := C.1 _ (List.mem_of_getElem? (i := 103) rfl)
theorem Cx.w104 {Z : State} {a0 : Array Value} (C : Cx Z a0) : (Jvm.Cond.code ({ cls := "java/lang/StringUTF16", name := "charAt", desc := "([BI)C" } : Jvm.MethodName) jdk_52_method_83_code (2 : Nat) (Option.some Jvm.ClassFile.FieldType.char)).before a0 Z = true := C.1 _ (List.mem_of_getElem? (i := 104) rfl)
theorem Cx.w105 {Z : State} {a0 : Array Value} (C : Cx Z a0) : (Jvm.Cond.methodLink "java/lang/StringUTF16" (67 : Nat) ({ cls := "java/lang/StringUTF16", name := "checkIndex", desc := "(I[B)V" } : Jvm.MethodName)).before a0 Z = true := C.1 _ (List.mem_of_getElem? (i := 105) rfl)
theorem Cx.w106 {Z : State} {a0 : Array Value} (C : Cx Z a0) : (Jvm.Cond.static ({ cls := "java/lang/StringUTF16", name := "checkIndex", desc := "(I[B)V" } : Jvm.MethodName)).before a0 Z = true := C.1 _ (List.mem_of_getElem? (i := 106) rfl)
theorem Cx.w107 {Z : State} {a0 : Array Value} (C : Cx Z a0) : (Jvm.Cond.code ({ cls := "java/lang/StringUTF16", name := "checkIndex", desc := "(I[B)V" } : Jvm.MethodName) jdk_52_method_91_code (2 : Nat) (Option.none : Option Jvm.ClassFile.FieldType)).before a0 Z = true := C.1 _ (List.mem_of_getElem? (i := 107) rfl)
theorem Cx.w108 {Z : State} {a0 : Array Value} (C : Cx Z a0) : (Jvm.Cond.methodLink "java/lang/StringUTF16" (48 : Nat) ({ cls := "java/lang/StringUTF16", name := "length", desc := "([B)I" } : Jvm.MethodName)).before a0 Z = true := C.1 _ (List.mem_of_getElem? (i := 108) rfl)
theorem Cx.w109 {Z : State} {a0 : Array Value} (C : Cx Z a0) : (Jvm.Cond.static ({ cls := "java/lang/StringUTF16", name := "length", desc := "([B)I" } : Jvm.MethodName)).before a0 Z = true := C.1 _ (List.mem_of_getElem? (i := 109) rfl)
theorem Cx.w110 {Z : State} {a0 : Array Value} (C : Cx Z a0) : (Jvm.Cond.code ({ cls := "java/lang/StringUTF16", name := "length", desc := "([B)I" } : Jvm.MethodName) jdk_52_method_6_code (1 : Nat) (Option.some Jvm.ClassFile.FieldType.int)).before a0 Z = true := C.1 _ (List.mem_of_getElem? (i := 110) rfl)
theorem Cx.w111 {Z : State} {a0 : Array Value} (C : Cx Z a0) : (Jvm.Cond.methodLink "java/lang/StringUTF16" (414 : Nat) ({ cls := "java/lang/String", name := "checkIndex", desc := "(II)V" } : Jvm.MethodName)).before a0 Z = true := C.1 _ (List.mem_of_getElem? (i := 111) rfl)
theorem Cx.compact {Z : State} {a0 : Array Value} (C : Cx Z a0) : (∃ cz : Int32, Sta Z Z.heap "java/lang/String" "COMPACT_STRINGS" "Z" (.int cz) ∧ ¬ cz = 0) := C.2.1
theorem Cx.sio {Z : State} {a0 : Array Value} (C : Cx Z a0) : (∃ fm : Value, Sta Z Z.heap "jdk/internal/util/Preconditions" "SIOOBE_FORMATTER" "Ljava/util/function/BiFunction;" fm ∧ (fm = .null ∨ ∃ fa, fm = .ref fa)) := C.2.2.1
theorem Cx.u16 {Z : State} {a0 : Array Value} (C : Cx Z a0) : (Sta Z Z.heap "java/lang/StringUTF16" "$assertionsDisabled" "Z" (.int 1) ∧ Sta Z Z.heap "java/lang/StringUTF16" "HI_BYTE_SHIFT" "I" (.int 0) ∧ Sta Z Z.heap "java/lang/StringUTF16" "LO_BYTE_SHIFT" "I" (.int 8)) := C.2.2.2
theorem Cx.strs {Z : State} {a0 : Array Value} (C : Cx Z a0) : ∀ a ∈ Bundle.stringAtoms, a.before a0 Z = true := fun d hd => C.1 d ((by decide +kernel : ∀ d ∈ Bundle.stringAtoms, d ∈ tables_1) d hd)
theorem own_remn {y : Int32} (hy : 0 ≤ y.toInt) {k : Nat} (hk : k ≤ 100) : ∃ n : Nat, n ≤ k ∧ y % Int32.ofNat (k + 1) = Int32.ofNat n := by
  have ek : (Int32.ofNat (k + 1)).toInt = (k + 1 : Nat) := i32_int (by omega)
  have e : (y % Int32.ofNat (k + 1)).toInt = y.toInt.tmod (k + 1 : Nat) := by rw [Int32.toInt_mod, ek]
  have h1 := Int.tmod_nonneg (k + 1 : Nat) hy
  have h2 := Int.tmod_lt_of_pos y.toInt (show (0 : Int) < (k + 1 : Nat) by omega)
  refine ⟨(y.toInt.tmod (k + 1 : Nat)).toNat, by omega, ?_⟩
  rw [← Int32.toInt_inj, e, i32_int (by omega)]; omega
theorem own_rem5n (x : Int32) : ∃ n : Nat, n ≤ 4 ∧ (x &&& (2147483647 : Int32)) % (5 : Int32) = Int32.ofNat n := by
  have h0 : (x &&& (2147483647 : Int32)).toBitVec.toNat < 2147483648 := by
    simp only [Int32.toBitVec_and, BitVec.toNat_and]
    exact Nat.lt_succ_of_le Nat.and_le_right
  generalize x &&& (2147483647 : Int32) = y at h0
  have hy : 0 ≤ y.toInt := by
    have : y.toInt = y.toBitVec.toInt := rfl
    rw [this, BitVec.toInt_eq_toNat_cond]; split <;> omega
  exact own_remn hy (k := 4) (by decide)
theorem own_ushr3 (x : Int32) : 0 ≤ ((x.toUInt32 >>> ((3 : Int32) &&& 31).toUInt32).toInt32).toInt := by
  have h : (x.toUInt32 >>> ((3 : Int32) &&& 31).toUInt32).toBitVec.toNat < 2147483648 := by
    have e : ((3 : Int32) &&& 31).toUInt32 = 3 := by decide
    rw [e]
    show (x.toUInt32.toBitVec >>> ((3 : UInt32).toBitVec.toNat % 32)).toNat < _
    rw [BitVec.toNat_ushiftRight]
    have h1 := x.toUInt32.toBitVec.isLt
    have e2 : (3 : UInt32).toBitVec.toNat % 32 = 3 := by decide
    rw [e2, Nat.shiftRight_eq_div_pow]
    omega
  generalize (x.toUInt32 >>> ((3 : Int32) &&& 31).toUInt32) = y at h
  show 0 ≤ (y.toBitVec).toInt
  rw [BitVec.toInt_eq_toNat_cond]; split <;> omega
theorem own_nz {n : Nat} (h : n ≤ 4) : Int32.ofNat (n + 1) ≠ 0 := fun q => by
  have := (i32_eq (i := n + 1) (j := 0) (by omega) (by omega)).mp q; omega
theorem own_split {cs : List Int32} {f : Nat} (h : f ≤ cs.length) : ∃ p q, p ++ q = cs ∧ p.length = f := ⟨cs.take f, cs.drop f, List.take_append_drop f cs, by rw [List.length_take]; omega⟩
theorem own_cut {cs : List Int32} {r : Nat} (h : r < cs.length) : ∃ p c q, cs = p ++ c :: q ∧ p.length = r := by
  refine ⟨cs.take r, cs[r], cs.drop (r + 1), ?_, by rw [List.length_take]; omega⟩
  rw [← List.drop_eq_getElem_cons h, List.take_append_drop]
theorem own_tget {c0 c1 c2 c3 : Int32} {n i : Nat} (hi : i < n) : ([c0, c1, c2, c3].take n).getD i 0 = [c0, c1, c2, c3].getD i 0 := by
  rw [List.getD_eq_getElem?_getD, List.getD_eq_getElem?_getD, List.getElem?_take_of_lt hi]
theorem own_tlen {c0 c1 c2 c3 : Int32} {n : Nat} (h : n ≤ 4) : ([c0, c1, c2, c3].take n).length = n := by rw [List.length_take]; simp; omega
theorem own_getmid {pre post : List Int32} {c d : Int32} : (pre ++ c :: post).getD pre.length d = c := by simp
abbrev Lt (c : Int32) : Prop := (¬ c < 65 ∧ ¬ (90 : Int32) < c) ∨ (¬ c < 97 ∧ ¬ (122 : Int32) < c)
theorem own_mask (x : Int32) : 0 ≤ (x &&& (2147483647 : Int32)).toInt := by
  have h0 : (x &&& (2147483647 : Int32)).toBitVec.toNat < 2147483648 := by
    simp only [Int32.toBitVec_and, BitVec.toNat_and]
    exact Nat.lt_succ_of_le Nat.and_le_right
  generalize x &&& (2147483647 : Int32) = y at h0
  have : y.toInt = y.toBitVec.toInt := rfl
  rw [this, BitVec.toInt_eq_toNat_cond]; split <;> omega
theorem own_rem57 (x : Int32) : ∃ n : Nat, n ≤ 4 ∧ (x &&& (7 : Int32)) % (5 : Int32) = Int32.ofNat n := by
  have h0 : (x &&& (7 : Int32)).toBitVec.toNat < 8 := by
    simp only [Int32.toBitVec_and, BitVec.toNat_and]
    exact Nat.lt_succ_of_le Nat.and_le_right
  generalize x &&& (7 : Int32) = y at h0
  have hy : 0 ≤ y.toInt := by
    have : y.toInt = y.toBitVec.toInt := rfl
    rw [this, BitVec.toInt_eq_toNat_cond]; split <;> omega
  exact own_remn hy (k := 4) (by decide)
theorem own_okd {c0 c1 c2 c3 ch : Int32} {n r f : Nat} (hrn : r ≤ n) (hn4 : n ≤ 4) (hdig : ∀ i, f ≤ i → i < r → Lt (([c0, c1, c2, c3].take n).getD i 0)) (i : Nat) (hi : i < 4) (hch : [c0, c1, c2, c3].getD i 0 = ch) (q1 : ¬ Int32.ofNat i < Int32.ofNat f) (q2 : Int32.ofNat i < Int32.ofNat r) (hf : f ≤ 4 := by omega) : Lt ch := by
  rw [i32_lt (by omega) (by omega)] at q1 q2
  have := hdig i (by omega) q2
  rw [own_tget (by omega), hch] at this
  exact this
theorem d_jdk_52_method_6_code_0 : decode jdk_52_method_6_code 0 = .ok (.aload_n 0, 1) := by decide +kernel
theorem d_jdk_52_method_6_code_1 : decode jdk_52_method_6_code 1 = .ok (.arraylength, 1) := by decide +kernel
theorem d_jdk_52_method_6_code_2 : decode jdk_52_method_6_code 2 = .ok (.iconst 1, 1) := by decide +kernel
theorem d_jdk_52_method_6_code_3 : decode jdk_52_method_6_code 3 = .ok (.ishr, 1) := by decide +kernel
theorem d_jdk_52_method_6_code_4 : decode jdk_52_method_6_code 4 = .ok (.ireturn, 1) := by decide +kernel
def R_d_len : Room := { frames := 0, cells := 0, slots := 0, locals := 0 }
theorem pl_b26 : plainFor (⟨"java/lang/StringUTF16", "length", "([B)I"⟩ : MethodName) = true := plainFor_of_name (by first | (simp [plainName, overriddenIn]; done) | decide +kernel)
set_option maxRecDepth 65536 in
set_option maxHeartbeats 40000000 in
theorem d_len {l : Launch} {Z : State} {a0 : Array Value} {n0 : Nat} {h0 : Heap} (C : Cx Z a0) (hO : Old Z n0 h0) {t : Addr} {kb : ClassId} {k : Nat} {vs : List Value} {dv : Value} (V : Arv Z h0 t kb .byte (Int32.ofNat (2 * k)) vs dv) (hk : k ≤ 8) :
    Con false l Z [] n0 (⟨"java/lang/StringUTF16", "length", "([B)I"⟩ : MethodName) jdk_52_method_6_code 1 (some .int) R_d_len #[(.ref t)] h0 [] (fun v h => v = some (.int (Int32.ofNat k)) ∧ h0 = h) := by
  refine Con.intro (a0 := a0) pl_b26 hO (fun q => nomatch q) ?_
  intro p e s m below meth c G
  refine ok_as (mkF m 0 #[.val (.ref t)] []) (by first | rfl | (simp [entryFrame, mkF, argsToLocals, Value.category]; done)) ?_
  refine ok_aloadN G d_jdk_52_method_6_code_0 rfl rfl ?_
  refine ok_arraylength G V d_jdk_52_method_6_code_1 ?_
  refine ok_iconst G (1 : Int32) d_jdk_52_method_6_code_2 rfl ?_
  refine ok_ishr G d_jdk_52_method_6_code_3 ?_
  refine ok_sayI (Int32.ofNat k) (dbl_shr hk) ?_
  exact ok_retI G rfl d_jdk_52_method_6_code_4 ⟨rfl, rfl⟩ (Nat.le_of_ble_eq_true rfl) (Nat.le_of_ble_eq_true rfl)
theorem d_jdk_52_method_4_code_0 : decode jdk_52_method_4_code 0 = .ok (.getstatic 44, 3) := by decide +kernel
theorem d_jdk_52_method_4_code_3 : decode jdk_52_method_4_code 3 = .ok (.ifCond .ne 25, 3) := by decide +kernel
theorem d_jdk_52_method_4_code_28 : decode jdk_52_method_4_code 28 = .ok (.iload_n 1, 1) := by decide +kernel
theorem d_jdk_52_method_4_code_29 : decode jdk_52_method_4_code 29 = .ok (.iconst 1, 1) := by decide +kernel
theorem d_jdk_52_method_4_code_30 : decode jdk_52_method_4_code 30 = .ok (.ishl, 1) := by decide +kernel
theorem d_jdk_52_method_4_code_31 : decode jdk_52_method_4_code 31 = .ok (.istore_n 1, 1) := by decide +kernel
theorem d_jdk_52_method_4_code_32 : decode jdk_52_method_4_code 32 = .ok (.aload_n 0, 1) := by decide +kernel
theorem d_jdk_52_method_4_code_33 : decode jdk_52_method_4_code 33 = .ok (.iload_n 1, 1) := by decide +kernel
theorem d_jdk_52_method_4_code_34 : decode jdk_52_method_4_code 34 = .ok (.iinc 1 1, 3) := by decide +kernel
theorem d_jdk_52_method_4_code_37 : decode jdk_52_method_4_code 37 = .ok (.iload_n 2, 1) := by decide +kernel
theorem d_jdk_52_method_4_code_38 : decode jdk_52_method_4_code 38 = .ok (.getstatic 59, 3) := by decide +kernel
theorem d_jdk_52_method_4_code_41 : decode jdk_52_method_4_code 41 = .ok (.ishr, 1) := by decide +kernel
theorem d_jdk_52_method_4_code_42 : decode jdk_52_method_4_code 42 = .ok (.i2b, 1) := by decide +kernel
theorem d_jdk_52_method_4_code_43 : decode jdk_52_method_4_code 43 = .ok (.bastore, 1) := by decide +kernel
theorem d_jdk_52_method_4_code_44 : decode jdk_52_method_4_code 44 = .ok (.aload_n 0, 1) := by decide +kernel
theorem d_jdk_52_method_4_code_45 : decode jdk_52_method_4_code 45 = .ok (.iload_n 1, 1) := by decide +kernel
theorem d_jdk_52_method_4_code_46 : decode jdk_52_method_4_code 46 = .ok (.iload_n 2, 1) := by decide +kernel
theorem d_jdk_52_method_4_code_47 : decode jdk_52_method_4_code 47 = .ok (.getstatic 63, 3) := by decide +kernel
theorem d_jdk_52_method_4_code_50 : decode jdk_52_method_4_code 50 = .ok (.ishr, 1) := by decide +kernel
theorem d_jdk_52_method_4_code_51 : decode jdk_52_method_4_code 51 = .ok (.i2b, 1) := by decide +kernel
theorem d_jdk_52_method_4_code_52 : decode jdk_52_method_4_code 52 = .ok (.bastore, 1) := by decide +kernel
theorem d_jdk_52_method_4_code_53 : decode jdk_52_method_4_code 53 = .ok (.return_, 1) := by decide +kernel
def R_d_put : Room := { frames := 0, cells := 0, slots := 0, locals := 0 }
theorem pl_b22 : plainFor (⟨"java/lang/StringUTF16", "putChar", "([BII)V"⟩ : MethodName) = true := plainFor_of_name (by first | (simp [plainName, overriddenIn]; done) | decide +kernel)
set_option maxRecDepth 65536 in
set_option maxHeartbeats 40000000 in
theorem d_put {l : Launch} {Z : State} {a0 : Array Value} {n0 : Nat} {h0 : Heap} (C : Cx Z a0) (hO : Old Z n0 h0) {b : Addr} {kb : ClassId} {k NN : Nat} {ch : Int32} {vs : List Value} {dv : Value} (B : Arv Z h0 b kb .byte (Int32.ofNat NN) vs dv) (hvs : vs.length = 2 * k) (hk : 2 * k + 1 < NN) (hN : NN ≤ 16) (g_b : n0 ≤ b) :
    Con false l Z [] n0 (⟨"java/lang/StringUTF16", "putChar", "([BII)V"⟩ : MethodName) jdk_52_method_4_code 3 none R_d_put #[(.ref b), (.int (Int32.ofNat k)), (.int ch)] h0 [b] (fun v h => v = none ∧ Arv Z h b kb .byte (Int32.ofNat NN) (vs ++ [lo8 ch, hi8 ch]) dv) := by
  refine Con.intro (a0 := a0) pl_b22 hO (fun q => nomatch q) ?_
  intro p e s m below meth c G
  refine ok_as (mkF m 0 #[.val (.ref b), .val (.int (Int32.ofNat k)), .val (.int ch)] []) (by first | rfl | (simp [entryFrame, mkF, argsToLocals, Value.category]; done)) ?_
  refine ok_getS G (host := "") (Or.inl (C.w96)) Via.refl C.u16.1 d_jdk_52_method_4_code_0 ?_
  refine ok_ifneY G 28 d_jdk_52_method_4_code_3 (by decide) (by decide) (by decide) ?_
  refine ok_iloadN G d_jdk_52_method_4_code_28 rfl ?_
  refine ok_iconst G (1 : Int32) d_jdk_52_method_4_code_29 rfl ?_
  refine ok_ishl G d_jdk_52_method_4_code_30 ?_
  refine ok_sayI (Int32.ofNat (2 * k)) (dbl_shl (by omega)) ?_
  refine ok_istoreN G #[.val (.ref b), .val (.int (Int32.ofNat (2 * k))), .val (.int ch)] d_jdk_52_method_4_code_31 rfl ?_
  refine ok_aloadN G d_jdk_52_method_4_code_32 rfl rfl ?_
  refine ok_iloadN G d_jdk_52_method_4_code_33 rfl ?_
  refine ok_iinc G ((Int32.ofNat (2 * k)) + (1 : Int32)) #[.val (.ref b), .val (.int ((Int32.ofNat (2 * k)) + (1 : Int32))), .val (.int ch)] d_jdk_52_method_4_code_34 rfl rfl rfl ?_
  refine ok_iloadN G d_jdk_52_method_4_code_37 rfl ?_
  refine ok_getS G (host := "") (Or.inl (C.w97)) Via.refl C.u16.2.1 d_jdk_52_method_4_code_38 ?_
  refine ok_ishr G d_jdk_52_method_4_code_41 ?_
  refine ok_sayI ch (shr0 ch) ?_
  refine ok_i2b G d_jdk_52_method_4_code_42 ?_
  refine ok_bastoreA G ch.toInt8.toInt32 B ⟨i32_nn (by omega), (i32_lt (by omega) (by omega)).mpr (by omega)⟩ (by rw [i32_clamp (by omega)]; simp [hvs]) (by simp [nar]) d_jdk_52_method_4_code_43 g_b (Or.inl (List.mem_of_getElem? (i := 0) rfl)) SafeFor.narrow ?_
  intro hp1 K2 Bn
  replace B := Bn
  clear Bn
  refine ok_aloadN G d_jdk_52_method_4_code_44 rfl rfl ?_
  refine ok_iloadN G d_jdk_52_method_4_code_45 rfl ?_
  refine ok_sayI (Int32.ofNat (2 * k + 1)) (i32_succ _) ?_
  refine ok_iloadN G d_jdk_52_method_4_code_46 rfl ?_
  refine ok_getS G (host := "") (Or.inl (C.w98)) Via.refl C.u16.2.2 d_jdk_52_method_4_code_47 ?_
  refine ok_ishr G d_jdk_52_method_4_code_50 ?_
  refine ok_i2b G d_jdk_52_method_4_code_51 ?_
  refine ok_bastoreA G (ch >>> ((8 : Int32) &&& 31)).toInt8.toInt32 B ⟨i32_nn (by omega), (i32_lt (by omega) (by omega)).mpr (by omega)⟩ (by rw [i32_clamp (by omega)]; simp [hvs]) (by simp [nar]) d_jdk_52_method_4_code_52 g_b (Or.inl (List.mem_of_getElem? (i := 0) rfl)) SafeFor.narrow ?_
  intro hp3 K4 Bn
  replace B := Bn
  clear Bn
  exact ok_return G rfl d_jdk_52_method_4_code_53 ⟨rfl, by simpa using B⟩ (Nat.le_of_ble_eq_true rfl) (Nat.le_of_ble_eq_true rfl)
theorem d_jdk_52_method_5_code_0 : decode jdk_52_method_5_code 0 = .ok (.getstatic 44, 3) := by decide +kernel
theorem d_jdk_52_method_5_code_3 : decode jdk_52_method_5_code 3 = .ok (.ifCond .ne 25, 3) := by decide +kernel
theorem d_jdk_52_method_5_code_28 : decode jdk_52_method_5_code 28 = .ok (.iload_n 1, 1) := by decide +kernel
theorem d_jdk_52_method_5_code_29 : decode jdk_52_method_5_code 29 = .ok (.iconst 1, 1) := by decide +kernel
theorem d_jdk_52_method_5_code_30 : decode jdk_52_method_5_code 30 = .ok (.ishl, 1) := by decide +kernel
theorem d_jdk_52_method_5_code_31 : decode jdk_52_method_5_code 31 = .ok (.istore_n 1, 1) := by decide +kernel
theorem d_jdk_52_method_5_code_32 : decode jdk_52_method_5_code 32 = .ok (.aload_n 0, 1) := by decide +kernel
theorem d_jdk_52_method_5_code_33 : decode jdk_52_method_5_code 33 = .ok (.iload_n 1, 1) := by decide +kernel
theorem d_jdk_52_method_5_code_34 : decode jdk_52_method_5_code 34 = .ok (.iinc 1 1, 3) := by decide +kernel
theorem d_jdk_52_method_5_code_37 : decode jdk_52_method_5_code 37 = .ok (.baload, 1) := by decide +kernel
theorem d_jdk_52_method_5_code_38 : decode jdk_52_method_5_code 38 = .ok (.sipush 255, 3) := by decide +kernel
theorem d_jdk_52_method_5_code_41 : decode jdk_52_method_5_code 41 = .ok (.iand, 1) := by decide +kernel
theorem d_jdk_52_method_5_code_42 : decode jdk_52_method_5_code 42 = .ok (.getstatic 59, 3) := by decide +kernel
theorem d_jdk_52_method_5_code_45 : decode jdk_52_method_5_code 45 = .ok (.ishl, 1) := by decide +kernel
theorem d_jdk_52_method_5_code_46 : decode jdk_52_method_5_code 46 = .ok (.aload_n 0, 1) := by decide +kernel
theorem d_jdk_52_method_5_code_47 : decode jdk_52_method_5_code 47 = .ok (.iload_n 1, 1) := by decide +kernel
theorem d_jdk_52_method_5_code_48 : decode jdk_52_method_5_code 48 = .ok (.baload, 1) := by decide +kernel
theorem d_jdk_52_method_5_code_49 : decode jdk_52_method_5_code 49 = .ok (.sipush 255, 3) := by decide +kernel
theorem d_jdk_52_method_5_code_52 : decode jdk_52_method_5_code 52 = .ok (.iand, 1) := by decide +kernel
theorem d_jdk_52_method_5_code_53 : decode jdk_52_method_5_code 53 = .ok (.getstatic 63, 3) := by decide +kernel
theorem d_jdk_52_method_5_code_56 : decode jdk_52_method_5_code 56 = .ok (.ishl, 1) := by decide +kernel
theorem d_jdk_52_method_5_code_57 : decode jdk_52_method_5_code 57 = .ok (.ior, 1) := by decide +kernel
theorem d_jdk_52_method_5_code_58 : decode jdk_52_method_5_code 58 = .ok (.i2c, 1) := by decide +kernel
theorem d_jdk_52_method_5_code_59 : decode jdk_52_method_5_code 59 = .ok (.ireturn, 1) := by decide +kernel
def R_d_get : Room := { frames := 0, cells := 0, slots := 0, locals := 0 }
theorem pl_b23 : plainFor (⟨"java/lang/StringUTF16", "getChar", "([BI)C"⟩ : MethodName) = true := plainFor_of_name (by first | (simp [plainName, overriddenIn]; done) | decide +kernel)
set_option maxRecDepth 65536 in
set_option maxHeartbeats 40000000 in
theorem d_get {l : Launch} {Z : State} {a0 : Array Value} {n0 : Nat} {h0 : Heap} (C : Cx Z a0) (hO : Old Z n0 h0) {b : Addr} {kb : ClassId} {k NN : Nat} {ch : Int32} {vs : List Value} {dv : Value} (B : Arv Z h0 b kb .byte (Int32.ofNat NN) vs dv) (hlo : vs.getD (2 * k) dv = lo8 ch) (hhi : vs.getD (2 * k + 1) dv = hi8 ch) (hk : 2 * k + 1 < NN) (hN : NN ≤ 16) (hch : Chr ch) :
    Con false l Z [] n0 (⟨"java/lang/StringUTF16", "getChar", "([BI)C"⟩ : MethodName) jdk_52_method_5_code 2 (some .char) R_d_get #[(.ref b), (.int (Int32.ofNat k))] h0 [] (fun v h => v = some (.int ch) ∧ h0 = h) := by
  refine Con.intro (a0 := a0) pl_b23 hO (fun q => nomatch q) ?_
  intro p e s m below meth c G
  refine ok_as (mkF m 0 #[.val (.ref b), .val (.int (Int32.ofNat k))] []) (by first | rfl | (simp [entryFrame, mkF, argsToLocals, Value.category]; done)) ?_
  refine ok_getS G (host := "") (Or.inl (C.w96)) Via.refl C.u16.1 d_jdk_52_method_5_code_0 ?_
  refine ok_ifneY G 28 d_jdk_52_method_5_code_3 (by decide) (by decide) (by decide) ?_
  refine ok_iloadN G d_jdk_52_method_5_code_28 rfl ?_
  refine ok_iconst G (1 : Int32) d_jdk_52_method_5_code_29 rfl ?_
  refine ok_ishl G d_jdk_52_method_5_code_30 ?_
  refine ok_sayI (Int32.ofNat (2 * k)) (dbl_shl (by omega)) ?_
  refine ok_istoreN G #[.val (.ref b), .val (.int (Int32.ofNat (2 * k)))] d_jdk_52_method_5_code_31 rfl ?_
  refine ok_aloadN G d_jdk_52_method_5_code_32 rfl rfl ?_
  refine ok_iloadN G d_jdk_52_method_5_code_33 rfl ?_
  refine ok_iinc G ((Int32.ofNat (2 * k)) + (1 : Int32)) #[.val (.ref b), .val (.int ((Int32.ofNat (2 * k)) + (1 : Int32)))] d_jdk_52_method_5_code_34 rfl rfl rfl ?_
  refine ok_baload G ch.toInt8.toInt32 B ⟨i32_nn (by omega), (i32_lt (by omega) (by omega)).mpr (by omega)⟩ (by rw [i32_clamp (by omega)]; exact hlo) d_jdk_52_method_5_code_37 ?_
  refine ok_sipush G (255 : Int32) d_jdk_52_method_5_code_38 rfl ?_
  refine ok_iand G d_jdk_52_method_5_code_41 ?_
  refine ok_getS G (host := "") (Or.inl (C.w97)) Via.refl C.u16.2.1 d_jdk_52_method_5_code_42 ?_
  refine ok_ishl G d_jdk_52_method_5_code_45 ?_
  refine ok_aloadN G d_jdk_52_method_5_code_46 rfl rfl ?_
  refine ok_iloadN G d_jdk_52_method_5_code_47 rfl ?_
  refine ok_sayI (Int32.ofNat (2 * k + 1)) (i32_succ _) ?_
  refine ok_baload G (ch >>> ((8 : Int32) &&& 31)).toInt8.toInt32 B ⟨i32_nn (by omega), (i32_lt (by omega) (by omega)).mpr (by omega)⟩ (by rw [i32_clamp (by omega)]; exact hhi) d_jdk_52_method_5_code_48 ?_
  refine ok_sipush G (255 : Int32) d_jdk_52_method_5_code_49 rfl ?_
  refine ok_iand G d_jdk_52_method_5_code_52 ?_
  refine ok_getS G (host := "") (Or.inl (C.w98)) Via.refl C.u16.2.2 d_jdk_52_method_5_code_53 ?_
  refine ok_ishl G d_jdk_52_method_5_code_56 ?_
  refine ok_ior G d_jdk_52_method_5_code_57 ?_
  refine ok_i2c G d_jdk_52_method_5_code_58 ?_
  refine ok_sayI ch hch.back ?_
  exact ok_retN G rfl (by simp) d_jdk_52_method_5_code_59 (congrArg Value.int hch.nar) ⟨rfl, rfl⟩ (Nat.le_of_ble_eq_true rfl) (Nat.le_of_ble_eq_true rfl)
theorem d_jdk_52_method_3_code_0 : decode jdk_52_method_3_code 0 = .ok (.iload_n 0, 1) := by decide +kernel
theorem d_jdk_52_method_3_code_1 : decode jdk_52_method_3_code 1 = .ok (.ifCond .ge 11, 3) := by decide +kernel
theorem d_jdk_52_method_3_code_12 : decode jdk_52_method_3_code 12 = .ok (.iload_n 0, 1) := by decide +kernel
theorem d_jdk_52_method_3_code_13 : decode jdk_52_method_3_code 13 = .ok (.ldc 20, 2) := by decide +kernel
theorem d_jdk_52_method_3_code_15 : decode jdk_52_method_3_code 15 = .ok (.if_icmp .lt 40, 3) := by decide +kernel
theorem d_jdk_52_method_3_code_55 : decode jdk_52_method_3_code 55 = .ok (.iload_n 0, 1) := by decide +kernel
theorem d_jdk_52_method_3_code_56 : decode jdk_52_method_3_code 56 = .ok (.iconst 1, 1) := by decide +kernel
theorem d_jdk_52_method_3_code_57 : decode jdk_52_method_3_code 57 = .ok (.ishl, 1) := by decide +kernel
theorem d_jdk_52_method_3_code_58 : decode jdk_52_method_3_code 58 = .ok (.ireturn, 1) := by decide +kernel
def R_d_nbl : Room := { frames := 0, cells := 0, slots := 0, locals := 0 }
theorem pl_b21 : plainFor (⟨"java/lang/StringUTF16", "newBytesLength", "(I)I"⟩ : MethodName) = true := plainFor_of_name (by first | (simp [plainName, overriddenIn]; done) | decide +kernel)
set_option maxRecDepth 65536 in
set_option maxHeartbeats 40000000 in
theorem d_nbl {l : Launch} {Z : State} {a0 : Array Value} {n0 : Nat} {h0 : Heap} (C : Cx Z a0) (hO : Old Z n0 h0) {k : Nat} (hk : k ≤ 8) :
    Con false l Z [] n0 (⟨"java/lang/StringUTF16", "newBytesLength", "(I)I"⟩ : MethodName) jdk_52_method_3_code 1 (some .int) R_d_nbl #[(.int (Int32.ofNat k))] h0 [] (fun v h => v = some (.int (Int32.ofNat (2 * k))) ∧ h0 = h) := by
  refine Con.intro (a0 := a0) pl_b21 hO (fun q => nomatch q) ?_
  intro p e s m below meth c G
  refine ok_as (mkF m 0 #[.val (.int (Int32.ofNat k))] []) (by first | rfl | (simp [entryFrame, mkF, argsToLocals, Value.category]; done)) ?_
  refine ok_iloadN G d_jdk_52_method_3_code_0 rfl ?_
  refine ok_ifgeY G 12 d_jdk_52_method_3_code_1 (by decide) (by decide) (i32_nn (by omega)) ?_
  refine ok_iloadN G d_jdk_52_method_3_code_12 rfl ?_
  refine ok_ldcI G (C.w92) d_jdk_52_method_3_code_13 ?_
  refine ok_icmpltY G 55 d_jdk_52_method_3_code_15 (by decide) (by decide) (show Int32.ofNat k < Int32.ofNat 1073741823 from (i32_lt (by omega) (by omega)).mpr (by omega)) ?_
  refine ok_iloadN G d_jdk_52_method_3_code_55 rfl ?_
  refine ok_iconst G (1 : Int32) d_jdk_52_method_3_code_56 rfl ?_
  refine ok_ishl G d_jdk_52_method_3_code_57 ?_
  refine ok_sayI (Int32.ofNat (2 * k)) (dbl_shl hk) ?_
  exact ok_retI G rfl d_jdk_52_method_3_code_58 ⟨rfl, rfl⟩ (Nat.le_of_ble_eq_true rfl) (Nat.le_of_ble_eq_true rfl)
theorem d_jdk_52_method_2_code_0 : decode jdk_52_method_2_code 0 = .ok (.iload_n 0, 1) := by decide +kernel
theorem d_jdk_52_method_2_code_1 : decode jdk_52_method_2_code 1 = .ok (.invokestatic 11, 3) := by decide +kernel
theorem pd0 : parseMethodDescriptor "(I)I" = some ⟨[.int], some .int⟩ := by decide +kernel
theorem d_jdk_52_method_2_code_4 : decode jdk_52_method_2_code 4 = .ok (.newarray .byte, 2) := by decide +kernel
theorem d_jdk_52_method_2_code_6 : decode jdk_52_method_2_code 6 = .ok (.areturn, 1) := by decide +kernel
def R_d_nbf : Room := { frames := 1, cells := 1, slots := 16, locals := 12 }
theorem pl_b20 : plainFor (⟨"java/lang/StringUTF16", "newBytesFor", "(I)[B"⟩ : MethodName) = true := plainFor_of_name (by first | (simp [plainName, overriddenIn]; done) | decide +kernel)
set_option maxRecDepth 65536 in
set_option maxHeartbeats 40000000 in
theorem d_nbf {l : Launch} {Z : State} {a0 : Array Value} {n0 : Nat} {h0 : Heap} (C : Cx Z a0) (hO : Old Z n0 h0) {k : Nat} (hk : k ≤ 8) :
    Con false l Z [] n0 (⟨"java/lang/StringUTF16", "newBytesFor", "(I)[B"⟩ : MethodName) jdk_52_method_2_code 1 (some (.array .byte)) R_d_nbf #[(.int (Int32.ofNat k))] h0 [] (fun v h => ∃ t kb, v = some (.ref t) ∧ h0.size ≤ t ∧ Arv Z h t kb .byte (Int32.ofNat (2 * k)) [] (.int 0)) := by
  refine Con.intro (a0 := a0) pl_b20 hO (fun q => nomatch q) ?_
  intro p e s m below meth c G
  refine ok_as (mkF m 0 #[.val (.int (Int32.ofNat k))] []) (by first | rfl | (simp [entryFrame, mkF, argsToLocals, Value.category]; done)) ?_
  refine ok_iloadN G d_jdk_52_method_2_code_0 rfl ?_
  refine ok_static G (argsL := [(.int (Int32.ofNat k))]) (rest := []) (C.w89) (C.w90) (C.w44) (C.w91) (by decide) pd0 (d_nbl C hO hk) rfl rfl rfl d_jdk_52_method_2_code_1 (Nat.le_of_ble_eq_true rfl) (Nat.le_of_ble_eq_true rfl) (Nat.le_of_ble_eq_true rfl) (Nat.le_of_ble_eq_true rfl) (fun _ q => nomatch q) ?_
  rintro _ _ _ ⟨rfl, rfl⟩
  refine ok_as (mkF m 4 #[.val (.int (Int32.ofNat k))] [(.int (Int32.ofNat (2 * k)))]) rfl ?_
  refine ok_newP G (aty := .byte) (C.w20) d_jdk_52_method_2_code_4 (i32_nn (by omega)) 16 (by rw [i32_clamp (by omega)]; omega) (by decide) (Nat.le_of_ble_eq_true rfl) (Nat.le_of_ble_eq_true rfl) ?_
  intro hp4 ob3 k_ob3 eq_ob3 K5 g_ob3 lb_ob3 V_ob3
  exact ok_retA G rfl rfl rfl d_jdk_52_method_2_code_6 rfl ⟨_, _, rfl, lb_ob3, V_ob3⟩ (Nat.le_of_ble_eq_true rfl) (Nat.le_of_ble_eq_true rfl)
theorem d_jdk_52_method_14_code_0 : decode jdk_52_method_14_code 0 = .ok (.iload_n 2, 1) := by decide +kernel
theorem d_jdk_52_method_14_code_1 : decode jdk_52_method_14_code 1 = .ok (.invokestatic 107, 3) := by decide +kernel
theorem pd1 : parseMethodDescriptor "(I)[B" = some ⟨[.int], some (.array .byte)⟩ := by decide +kernel
theorem d_jdk_52_method_14_code_4 : decode jdk_52_method_14_code 4 = .ok (.astore_n 3, 1) := by decide +kernel
theorem d_jdk_52_method_14_code_5 : decode jdk_52_method_14_code 5 = .ok (.iconst 0, 1) := by decide +kernel
theorem d_jdk_52_method_14_code_6 : decode jdk_52_method_14_code 6 = .ok (.istore 4, 2) := by decide +kernel
theorem d_jdk_52_method_14_code_8 : decode jdk_52_method_14_code 8 = .ok (.iload 4, 2) := by decide +kernel
theorem d_jdk_52_method_14_code_10 : decode jdk_52_method_14_code 10 = .ok (.iload_n 2, 1) := by decide +kernel
theorem d_jdk_52_method_14_code_11 : decode jdk_52_method_14_code 11 = .ok (.if_icmp .ge 21, 3) := by decide +kernel
theorem d_jdk_52_method_14_code_32 : decode jdk_52_method_14_code 32 = .ok (.aload_n 3, 1) := by decide +kernel
theorem d_jdk_52_method_14_code_33 : decode jdk_52_method_14_code 33 = .ok (.areturn, 1) := by decide +kernel
theorem d_jdk_52_method_14_code_14 : decode jdk_52_method_14_code 14 = .ok (.aload_n 3, 1) := by decide +kernel
theorem d_jdk_52_method_14_code_15 : decode jdk_52_method_14_code 15 = .ok (.iload 4, 2) := by decide +kernel
theorem d_jdk_52_method_14_code_17 : decode jdk_52_method_14_code 17 = .ok (.aload_n 0, 1) := by decide +kernel
theorem d_jdk_52_method_14_code_18 : decode jdk_52_method_14_code 18 = .ok (.iload_n 1, 1) := by decide +kernel
theorem d_jdk_52_method_14_code_19 : decode jdk_52_method_14_code 19 = .ok (.caload, 1) := by decide +kernel
theorem d_jdk_52_method_14_code_20 : decode jdk_52_method_14_code 20 = .ok (.invokestatic 111, 3) := by decide +kernel
theorem pd2 : parseMethodDescriptor "([BII)V" = some ⟨[(.array .byte), .int, .int], none⟩ := by decide +kernel
theorem d_jdk_52_method_14_code_23 : decode jdk_52_method_14_code 23 = .ok (.iinc 1 1, 3) := by decide +kernel
theorem d_jdk_52_method_14_code_26 : decode jdk_52_method_14_code 26 = .ok (.iinc 4 1, 3) := by decide +kernel
theorem d_jdk_52_method_14_code_29 : decode jdk_52_method_14_code 29 = .ok (.goto (-21), 3) := by decide +kernel
def R_d_toB : Room := { frames := 2, cells := 1, slots := 16, locals := 24 }
theorem pl_b19 : plainFor (⟨"java/lang/StringUTF16", "toBytes", "([CII)[B"⟩ : MethodName) = true := plainFor_of_name (by first | (simp [plainName, overriddenIn]; done) | decide +kernel)
set_option maxRecDepth 65536 in
set_option maxHeartbeats 40000000 in
theorem d_toB {l : Launch} {Z : State} {a0 : Array Value} {n0 : Nat} {h0 : Heap} (C : Cx Z a0) (hO : Old Z n0 h0) {a : Addr} {ka : ClassId} {cs : List Int32} {dv : Value} (A : Arv Z h0 a ka .char (Int32.ofNat cs.length) (cs.map Value.int) dv) (hl : cs.length ≤ 8) :
    Con false l Z [] n0 (⟨"java/lang/StringUTF16", "toBytes", "([CII)[B"⟩ : MethodName) jdk_52_method_14_code 5 (some (.array .byte)) R_d_toB #[(.ref a), (.int (0 : Int32)), (.int (Int32.ofNat cs.length))] h0 [] (fun v h => ∃ t kb, v = some (.ref t) ∧ h0.size ≤ t ∧ Arv Z h t kb .byte (Int32.ofNat (2 * cs.length)) (u16 cs) (.int 0)) := by
  refine Con.intro (a0 := a0) pl_b19 hO (fun q => nomatch q) ?_
  intro p e s m below meth c G
  refine ok_as (mkF m 0 #[.val (.ref a), .val (.int (0 : Int32)), .val (.int (Int32.ofNat cs.length)), .unset, .unset] []) (by first | rfl | (simp [entryFrame, mkF, argsToLocals, Value.category]; done)) ?_
  refine ok_iloadN G d_jdk_52_method_14_code_0 rfl ?_
  refine ok_static G (argsL := [(.int (Int32.ofNat cs.length))]) (rest := []) (C.w86) (C.w87) (C.w44) (C.w88) (by decide) pd1 (d_nbf (k := cs.length) C hO hl) rfl rfl rfl d_jdk_52_method_14_code_1 (Nat.le_of_ble_eq_true rfl) (Nat.le_of_ble_eq_true rfl) (Nat.le_of_ble_eq_true rfl) (Nat.le_of_ble_eq_true rfl) (fun _ q => nomatch q) ?_
  rintro _ hp1 K2 ⟨b, kb, rfl, lbq_b, B⟩
  have lbh_b := lbq_b
  have ne_a_b : a ≠ b := Nat.ne_of_lt (Nat.lt_of_lt_of_le A.lt lbh_b)
  have lb_b : h0.size ≤ b := lbh_b
  have g_b : n0 ≤ b := Nat.le_trans (old_le hO) lbh_b
  replace A := A.keep K2 nin0
  refine ok_as (mkF m 4 #[.val (.ref a), .val (.int (0 : Int32)), .val (.int (Int32.ofNat cs.length)), .unset, .unset] [(.ref b)]) rfl ?_
  refine ok_astoreN G #[.val (.ref a), .val (.int (0 : Int32)), .val (.int (Int32.ofNat cs.length)), .val (.ref b), .unset] d_jdk_52_method_14_code_4 rfl rfl ?_
  refine ok_iconst G (0 : Int32) d_jdk_52_method_14_code_5 rfl ?_
  refine ok_istore G #[.val (.ref a), .val (.int (0 : Int32)), .val (.int (Int32.ofNat cs.length)), .val (.ref b), .val (.int (0 : Int32))] d_jdk_52_method_14_code_6 rfl ?_
  refine ok_loop (A := List Int32 × List Int32 × Heap) (fun q => q.2.1.length) (fun q => q.1 ++ q.2.1 = cs ∧ Arv Z q.2.2 a ka .char (Int32.ofNat cs.length) (cs.map Value.int) dv ∧ Arv Z q.2.2 b kb .byte (Int32.ofNat (2 * cs.length)) (u16 q.1) (.int 0)) (fun q => q.2.2) (fun q => mkF m 8 #[.val (.ref a), .val (.int (Int32.ofNat q.1.length)), .val (.int (Int32.ofNat cs.length)), .val (.ref b), .val (.int (Int32.ofNat q.1.length))] []) ?_ ([], cs, hp1) ⟨rfl, A, B⟩
  clear A B
  rintro ⟨pre, post, h⟩ ⟨hcs, A, B⟩ ih
  dsimp only at hcs A B ih ⊢
  cases post with
  | nil =>
    rw [List.append_nil] at hcs
    have hge : ¬ pre.length < cs.length := by rw [hcs]; omega
    have hpc : pre.length ≤ cs.length := by rw [hcs]; omega
    refine ok_iload G d_jdk_52_method_14_code_8 rfl ?_
    refine ok_iloadN G d_jdk_52_method_14_code_10 rfl ?_
    refine ok_icmpgeY G 32 d_jdk_52_method_14_code_11 (by decide) (by decide) (by rw [i32_lt (by omega) (by omega)]; exact hge) ?_
    refine ok_aloadN G d_jdk_52_method_14_code_32 rfl rfl ?_
    exact ok_retA G rfl rfl rfl d_jdk_52_method_14_code_33 rfl ⟨_, _, rfl, lb_b, by rw [← hcs]; rw [← hcs] at B; exact B⟩ (Nat.le_of_ble_eq_true rfl) (Nat.le_of_ble_eq_true rfl)
  | cons ch post =>
    have hlt : pre.length < cs.length := by rw [← hcs]; simp
    refine ok_iload G d_jdk_52_method_14_code_8 rfl ?_
    refine ok_iloadN G d_jdk_52_method_14_code_10 rfl ?_
    refine ok_icmpgeN G d_jdk_52_method_14_code_11 ((i32_lt (by omega) (by omega)).mpr hlt) ?_
    refine ok_aloadN G d_jdk_52_method_14_code_14 rfl rfl ?_
    refine ok_iload G d_jdk_52_method_14_code_15 rfl ?_
    refine ok_aloadN G d_jdk_52_method_14_code_17 rfl rfl ?_
    refine ok_iloadN G d_jdk_52_method_14_code_18 rfl ?_
    refine ok_caload G ch A ⟨i32_nn (by omega), (i32_lt (by omega) (by omega)).mpr hlt⟩ (by rw [i32_clamp (by omega), ← hcs]; exact getD_mid _ _ _ _ _) d_jdk_52_method_14_code_19 ?_
    refine ok_old (fun hO_h => ?_)
    refine ok_static G (argsL := [(.ref b), (.int (Int32.ofNat pre.length)), (.int ch)]) (rest := []) (C.w93) (C.w94) (C.w44) (C.w95) (by decide) pd2 (d_put (k := pre.length) C hO_h B (u16_len pre) (by omega) (by omega) g_b) rfl rfl rfl d_jdk_52_method_14_code_20 (Nat.le_of_ble_eq_true rfl) (Nat.le_of_ble_eq_true rfl) (Nat.le_of_ble_eq_true rfl) (Nat.le_of_ble_eq_true rfl) (allS ⟨(Or.inr lb_b), SafeFor.narrow⟩ (fun _ q => nomatch q)) ?_
    rintro _ hp3 K4 ⟨rfl, B⟩
    replace A := A.keep K4 (ninS ne_a_b nin0)
    refine ok_as (mkF m 23 #[.val (.ref a), .val (.int (Int32.ofNat pre.length)), .val (.int (Int32.ofNat cs.length)), .val (.ref b), .val (.int (Int32.ofNat pre.length))] []) rfl ?_
    refine ok_iinc G ((Int32.ofNat pre.length) + (1 : Int32)) #[.val (.ref a), .val (.int ((Int32.ofNat pre.length) + (1 : Int32))), .val (.int (Int32.ofNat cs.length)), .val (.ref b), .val (.int (Int32.ofNat pre.length))] d_jdk_52_method_14_code_23 rfl rfl rfl ?_
    refine ok_iinc G ((Int32.ofNat pre.length) + (1 : Int32)) #[.val (.ref a), .val (.int ((Int32.ofNat pre.length) + (1 : Int32))), .val (.int (Int32.ofNat cs.length)), .val (.ref b), .val (.int ((Int32.ofNat pre.length) + (1 : Int32)))] d_jdk_52_method_14_code_26 rfl rfl rfl ?_
    refine ok_goto G 8 d_jdk_52_method_14_code_29 (by decide) (by decide) ?_
    have e1 : Int32.ofNat pre.length + (1 : Int32) = Int32.ofNat (pre ++ [ch]).length := by rw [i32_succ]; simp
    rw [e1]
    exact ih (pre ++ [ch], post, hp3) (by simp) ⟨by simpa using hcs, A, by rw [u16_app]; exact B⟩
theorem d_jdk_52_method_21_code_0 : decode jdk_52_method_21_code 0 = .ok (.iconst 0, 1) := by decide +kernel
theorem d_jdk_52_method_21_code_1 : decode jdk_52_method_21_code 1 = .ok (.istore 5, 2) := by decide +kernel
theorem d_jdk_52_method_21_code_3 : decode jdk_52_method_21_code 3 = .ok (.iload 5, 2) := by decide +kernel
theorem d_jdk_52_method_21_code_5 : decode jdk_52_method_21_code 5 = .ok (.iload 4, 2) := by decide +kernel
theorem d_jdk_52_method_21_code_7 : decode jdk_52_method_21_code 7 = .ok (.if_icmp .ge 37, 3) := by decide +kernel
theorem d_jdk_52_method_21_code_44 : decode jdk_52_method_21_code 44 = .ok (.iload 4, 2) := by decide +kernel
theorem d_jdk_52_method_21_code_46 : decode jdk_52_method_21_code 46 = .ok (.ireturn, 1) := by decide +kernel
theorem d_jdk_52_method_21_code_10 : decode jdk_52_method_21_code 10 = .ok (.aload_n 0, 1) := by decide +kernel
theorem d_jdk_52_method_21_code_11 : decode jdk_52_method_21_code 11 = .ok (.iload_n 1, 1) := by decide +kernel
theorem d_jdk_52_method_21_code_12 : decode jdk_52_method_21_code 12 = .ok (.caload, 1) := by decide +kernel
theorem d_jdk_52_method_21_code_13 : decode jdk_52_method_21_code 13 = .ok (.istore 6, 2) := by decide +kernel
theorem d_jdk_52_method_21_code_15 : decode jdk_52_method_21_code 15 = .ok (.iload 6, 2) := by decide +kernel
theorem d_jdk_52_method_21_code_17 : decode jdk_52_method_21_code 17 = .ok (.sipush 255, 3) := by decide +kernel
theorem d_jdk_52_method_21_code_20 : decode jdk_52_method_21_code 20 = .ok (.if_icmp .le 6, 3) := by decide +kernel
theorem d_jdk_52_method_21_code_26 : decode jdk_52_method_21_code 26 = .ok (.aload_n 2, 1) := by decide +kernel
theorem d_jdk_52_method_21_code_27 : decode jdk_52_method_21_code 27 = .ok (.iload_n 3, 1) := by decide +kernel
theorem d_jdk_52_method_21_code_28 : decode jdk_52_method_21_code 28 = .ok (.iload 6, 2) := by decide +kernel
theorem d_jdk_52_method_21_code_30 : decode jdk_52_method_21_code 30 = .ok (.i2b, 1) := by decide +kernel
theorem d_jdk_52_method_21_code_31 : decode jdk_52_method_21_code 31 = .ok (.bastore, 1) := by decide +kernel
theorem d_jdk_52_method_21_code_32 : decode jdk_52_method_21_code 32 = .ok (.iinc 1 1, 3) := by decide +kernel
theorem d_jdk_52_method_21_code_35 : decode jdk_52_method_21_code 35 = .ok (.iinc 3 1, 3) := by decide +kernel
theorem d_jdk_52_method_21_code_38 : decode jdk_52_method_21_code 38 = .ok (.iinc 5 1, 3) := by decide +kernel
theorem d_jdk_52_method_21_code_41 : decode jdk_52_method_21_code 41 = .ok (.goto (-38), 3) := by decide +kernel
theorem d_jdk_52_method_21_code_23 : decode jdk_52_method_21_code 23 = .ok (.iload 5, 2) := by decide +kernel
theorem d_jdk_52_method_21_code_25 : decode jdk_52_method_21_code 25 = .ok (.ireturn, 1) := by decide +kernel
def R_d_comp5 : Room := { frames := 0, cells := 0, slots := 0, locals := 0 }
theorem pl_b9 : plainFor (⟨"java/lang/StringUTF16", "compress", "([CI[BII)I"⟩ : MethodName) = true := plainFor_of_name (by first | (simp [plainName, overriddenIn]; done) | decide +kernel)
set_option maxRecDepth 65536 in
set_option maxHeartbeats 40000000 in
theorem d_comp5 {l : Launch} {Z : State} {a0 : Array Value} {n0 : Nat} {h0 : Heap} (C : Cx Z a0) (hO : Old Z n0 h0) {a b : Addr} {ka kb : ClassId} {cs : List Int32} {dv : Value} (A : Arv Z h0 a ka .char (Int32.ofNat cs.length) (cs.map Value.int) dv) (B : Arv Z h0 b kb .byte (Int32.ofNat cs.length) [] (.int 0)) (hab : a ≠ b) (hl : cs.length ≤ 8) (hc : ∀ c ∈ cs, Chr c) (g_b : n0 ≤ b) :
    Con false l Z [] n0 (⟨"java/lang/StringUTF16", "compress", "([CI[BII)I"⟩ : MethodName) jdk_52_method_21_code 7 (some .int) R_d_comp5 #[(.ref a), (.int (0 : Int32)), (.ref b), (.int (0 : Int32)), (.int (Int32.ofNat cs.length))] h0 [b] (fun v h => ∃ k, v = some (.int (Int32.ofNat k)) ∧ k ≤ cs.length ∧ (k = cs.length → (∀ c ∈ cs, Lat c) ∧ Arv Z h b kb .byte (Int32.ofNat cs.length) (cs.map lo8) (.int 0)) ∧ (k < cs.length → ∃ pre ch post, cs = pre ++ ch :: post ∧ pre.length = k ∧ (255 : Int32) < ch)) := by
  refine Con.intro (a0 := a0) pl_b9 hO (fun q => nomatch q) ?_
  intro p e s m below meth c G
  refine ok_as (mkF m 0 #[.val (.ref a), .val (.int (0 : Int32)), .val (.ref b), .val (.int (0 : Int32)), .val (.int (Int32.ofNat cs.length)), .unset, .unset] []) (by first | rfl | (simp [entryFrame, mkF, argsToLocals, Value.category]; done)) ?_
  refine ok_iconst G (0 : Int32) d_jdk_52_method_21_code_0 rfl ?_
  refine ok_istore G #[.val (.ref a), .val (.int (0 : Int32)), .val (.ref b), .val (.int (0 : Int32)), .val (.int (Int32.ofNat cs.length)), .val (.int (0 : Int32)), .unset] d_jdk_52_method_21_code_1 rfl ?_
  refine ok_loop (A := List Int32 × List Int32 × Heap × Slot) (fun q => q.2.1.length) (fun q => q.1 ++ q.2.1 = cs ∧ One q.2.2.2 ∧ (∀ c ∈ q.1, Lat c) ∧ Arv Z q.2.2.1 a ka .char (Int32.ofNat cs.length) (cs.map Value.int) dv ∧ Arv Z q.2.2.1 b kb .byte (Int32.ofNat cs.length) (q.1.map lo8) (.int 0)) (fun q => q.2.2.1) (fun q => mkF m 3 #[.val (.ref a), .val (.int (Int32.ofNat q.1.length)), .val (.ref b), .val (.int (Int32.ofNat q.1.length)), .val (.int (Int32.ofNat cs.length)), .val (.int (Int32.ofNat q.1.length)), q.2.2.2] []) ?_ ([], cs, h0, .unset) ⟨rfl, One.u, (fun _ q => nomatch q), A, B⟩
  clear A B
  rintro ⟨pre, post, h, sl⟩ ⟨hcs, hsl, hpl, A, B⟩ ih
  dsimp only at hcs hsl hpl A B ih ⊢
  cases post with
  | nil =>
    rw [List.append_nil] at hcs
    have hge : ¬ pre.length < cs.length := by rw [hcs]; omega
    have hpc : pre.length ≤ cs.length := by rw [hcs]; omega
    refine ok_iload G d_jdk_52_method_21_code_3 rfl ?_
    refine ok_iload G d_jdk_52_method_21_code_5 rfl ?_
    refine ok_icmpgeY G 44 d_jdk_52_method_21_code_7 (by decide) (by decide) (by rw [i32_lt (by omega) (by omega)]; exact hge) ?_
    refine ok_iload G d_jdk_52_method_21_code_44 rfl ?_
    exact ok_retI G rfl d_jdk_52_method_21_code_46 ⟨cs.length, rfl, Nat.le_refl _, fun _ => ⟨by rw [← hcs]; exact hpl, by rw [← hcs] at B ⊢; exact B⟩, fun q => absurd q (Nat.lt_irrefl _)⟩ (Nat.le_of_ble_eq_true rfl) (Nat.le_of_ble_eq_true rfl)
  | cons ch post =>
    have hlt : pre.length < cs.length := by rw [← hcs]; simp
    have hch : Chr ch := hc ch (by rw [← hcs]; simp)
    refine ok_iload G d_jdk_52_method_21_code_3 rfl ?_
    refine ok_iload G d_jdk_52_method_21_code_5 rfl ?_
    refine ok_icmpgeN G d_jdk_52_method_21_code_7 ((i32_lt (by omega) (by omega)).mpr hlt) ?_
    refine ok_aloadN G d_jdk_52_method_21_code_10 rfl rfl ?_
    refine ok_iloadN G d_jdk_52_method_21_code_11 rfl ?_
    refine ok_caload G ch A ⟨i32_nn (by omega), (i32_lt (by omega) (by omega)).mpr hlt⟩ (by rw [i32_clamp (by omega), ← hcs]; exact getD_mid _ _ _ _ _) d_jdk_52_method_21_code_12 ?_
    refine ok_istore G #[.val (.ref a), .val (.int (Int32.ofNat pre.length)), .val (.ref b), .val (.int (Int32.ofNat pre.length)), .val (.int (Int32.ofNat cs.length)), .val (.int (Int32.ofNat pre.length)), .val (.int ch)] d_jdk_52_method_21_code_13 (XS.store1 rfl hsl rfl) ?_
    refine ok_iload G d_jdk_52_method_21_code_15 rfl ?_
    refine ok_sipush G (255 : Int32) d_jdk_52_method_21_code_17 rfl ?_
    refine ok_icmple G 26 d_jdk_52_method_21_code_20 (by decide) (by decide) (fun cq1 => ?_) (fun cq1 => ?_)
    · skip
      refine ok_aloadN G d_jdk_52_method_21_code_26 rfl rfl ?_
      refine ok_iloadN G d_jdk_52_method_21_code_27 rfl ?_
      refine ok_iload G d_jdk_52_method_21_code_28 rfl ?_
      refine ok_i2b G d_jdk_52_method_21_code_30 ?_
      refine ok_bastoreA G ch.toInt8.toInt32 B ⟨i32_nn (by omega), (i32_lt (by omega) (by omega)).mpr hlt⟩ (by rw [i32_clamp (by omega)]; simp) (by simp [nar]) d_jdk_52_method_21_code_31 g_b (Or.inl (List.mem_of_getElem? (i := 0) rfl)) SafeFor.narrow ?_
      intro hp2 K3 Bn
      replace A := A.keep K3 (ninS hab nin0)
      replace B := Bn
      clear Bn
      refine ok_iinc G ((Int32.ofNat pre.length) + (1 : Int32)) #[.val (.ref a), .val (.int ((Int32.ofNat pre.length) + (1 : Int32))), .val (.ref b), .val (.int (Int32.ofNat pre.length)), .val (.int (Int32.ofNat cs.length)), .val (.int (Int32.ofNat pre.length)), .val (.int ch)] d_jdk_52_method_21_code_32 rfl rfl rfl ?_
      refine ok_iinc G ((Int32.ofNat pre.length) + (1 : Int32)) #[.val (.ref a), .val (.int ((Int32.ofNat pre.length) + (1 : Int32))), .val (.ref b), .val (.int ((Int32.ofNat pre.length) + (1 : Int32))), .val (.int (Int32.ofNat cs.length)), .val (.int (Int32.ofNat pre.length)), .val (.int ch)] d_jdk_52_method_21_code_35 rfl rfl rfl ?_
      refine ok_iinc G ((Int32.ofNat pre.length) + (1 : Int32)) #[.val (.ref a), .val (.int ((Int32.ofNat pre.length) + (1 : Int32))), .val (.ref b), .val (.int ((Int32.ofNat pre.length) + (1 : Int32))), .val (.int (Int32.ofNat cs.length)), .val (.int ((Int32.ofNat pre.length) + (1 : Int32))), .val (.int ch)] d_jdk_52_method_21_code_38 rfl rfl rfl ?_
      refine ok_goto G 3 d_jdk_52_method_21_code_41 (by decide) (by decide) ?_
      have e1 : Int32.ofNat pre.length + (1 : Int32) = Int32.ofNat (pre ++ [ch]).length := by rw [i32_succ]; simp
      rw [e1]
      exact ih (pre ++ [ch], post, hp2, .val (.int ch)) (by simp) ⟨by simpa using hcs, One.val rfl, (fun c q => (List.mem_append.mp q).elim (hpl c) (fun z => by rw [List.mem_singleton.mp z]; exact ⟨hch.1, cq1⟩)), A, by simpa using B⟩
    · skip
      refine ok_iload G d_jdk_52_method_21_code_23 rfl ?_
      exact ok_retI G rfl d_jdk_52_method_21_code_25 ⟨pre.length, rfl, Nat.le_of_lt hlt, fun q => absurd q (Nat.ne_of_lt hlt), fun _ => ⟨pre, ch, post, hcs.symm, rfl, cq1⟩⟩ (Nat.le_of_ble_eq_true rfl) (Nat.le_of_ble_eq_true rfl)
theorem d_jdk_52_method_16_code_0 : decode jdk_52_method_16_code 0 = .ok (.iload_n 2, 1) := by decide +kernel
theorem d_jdk_52_method_16_code_1 : decode jdk_52_method_16_code 1 = .ok (.newarray .byte, 2) := by decide +kernel
theorem d_jdk_52_method_16_code_3 : decode jdk_52_method_16_code 3 = .ok (.astore_n 3, 1) := by decide +kernel
theorem d_jdk_52_method_16_code_4 : decode jdk_52_method_16_code 4 = .ok (.aload_n 0, 1) := by decide +kernel
theorem d_jdk_52_method_16_code_5 : decode jdk_52_method_16_code 5 = .ok (.iload_n 1, 1) := by decide +kernel
theorem d_jdk_52_method_16_code_6 : decode jdk_52_method_16_code 6 = .ok (.aload_n 3, 1) := by decide +kernel
theorem d_jdk_52_method_16_code_7 : decode jdk_52_method_16_code 7 = .ok (.iconst 0, 1) := by decide +kernel
theorem d_jdk_52_method_16_code_8 : decode jdk_52_method_16_code 8 = .ok (.iload_n 2, 1) := by decide +kernel
theorem d_jdk_52_method_16_code_9 : decode jdk_52_method_16_code 9 = .ok (.invokestatic 115, 3) := by decide +kernel
theorem pd3 : parseMethodDescriptor "([CI[BII)I" = some ⟨[(.array .char), .int, (.array .byte), .int, .int], some .int⟩ := by decide +kernel
theorem d_jdk_52_method_16_code_12 : decode jdk_52_method_16_code 12 = .ok (.istore 4, 2) := by decide +kernel
theorem d_jdk_52_method_16_code_14 : decode jdk_52_method_16_code 14 = .ok (.iload 4, 2) := by decide +kernel
theorem d_jdk_52_method_16_code_16 : decode jdk_52_method_16_code 16 = .ok (.iload_n 2, 1) := by decide +kernel
theorem d_jdk_52_method_16_code_17 : decode jdk_52_method_16_code 17 = .ok (.if_icmp .eq 40, 3) := by decide +kernel
theorem d_jdk_52_method_16_code_57 : decode jdk_52_method_16_code 57 = .ok (.aload_n 3, 1) := by decide +kernel
theorem d_jdk_52_method_16_code_58 : decode jdk_52_method_16_code 58 = .ok (.areturn, 1) := by decide +kernel
theorem d_jdk_52_method_16_code_20 : decode jdk_52_method_16_code 20 = .ok (.aload_n 0, 1) := by decide +kernel
theorem d_jdk_52_method_16_code_21 : decode jdk_52_method_16_code 21 = .ok (.iload_n 1, 1) := by decide +kernel
theorem d_jdk_52_method_16_code_22 : decode jdk_52_method_16_code 22 = .ok (.iload_n 2, 1) := by decide +kernel
theorem d_jdk_52_method_16_code_23 : decode jdk_52_method_16_code 23 = .ok (.invokestatic 119, 3) := by decide +kernel
theorem pd4 : parseMethodDescriptor "([CII)[B" = some ⟨[(.array .char), .int, .int], some (.array .byte)⟩ := by decide +kernel
theorem d_jdk_52_method_16_code_26 : decode jdk_52_method_16_code 26 = .ok (.astore 5, 2) := by decide +kernel
theorem d_jdk_52_method_16_code_28 : decode jdk_52_method_16_code 28 = .ok (.aload 5, 2) := by decide +kernel
theorem d_jdk_52_method_16_code_30 : decode jdk_52_method_16_code 30 = .ok (.iload 4, 2) := by decide +kernel
theorem d_jdk_52_method_16_code_32 : decode jdk_52_method_16_code 32 = .ok (.invokestatic 71, 3) := by decide +kernel
theorem pd5 : parseMethodDescriptor "([BI)C" = some ⟨[(.array .byte), .int], some .char⟩ := by decide +kernel
theorem d_jdk_52_method_16_code_35 : decode jdk_52_method_16_code 35 = .ok (.sipush 255, 3) := by decide +kernel
theorem d_jdk_52_method_16_code_38 : decode jdk_52_method_16_code 38 = .ok (.if_icmp .gt 16, 3) := by decide +kernel
theorem d_jdk_52_method_16_code_54 : decode jdk_52_method_16_code 54 = .ok (.aload 5, 2) := by decide +kernel
theorem d_jdk_52_method_16_code_56 : decode jdk_52_method_16_code 56 = .ok (.areturn, 1) := by decide +kernel
def R_d_comp3 : Room := { frames := 3, cells := 2, slots := 32, locals := 40 }
theorem pl_b8 : plainFor (⟨"java/lang/StringUTF16", "compress", "([CII)[B"⟩ : MethodName) = true := plainFor_of_name (by first | (simp [plainName, overriddenIn]; done) | decide +kernel)
set_option maxRecDepth 65536 in
set_option maxHeartbeats 40000000 in
theorem d_comp3 {l : Launch} {Z : State} {a0 : Array Value} {n0 : Nat} {h0 : Heap} (C : Cx Z a0) (hO : Old Z n0 h0) {a : Addr} {ka : ClassId} {cs : List Int32} {dv : Value} (A : Arv Z h0 a ka .char (Int32.ofNat cs.length) (cs.map Value.int) dv) (hl : cs.length ≤ 8) (hc : ∀ c ∈ cs, Chr c) :
    Con false l Z [] n0 (⟨"java/lang/StringUTF16", "compress", "([CII)[B"⟩ : MethodName) jdk_52_method_16_code 6 (some (.array .byte)) R_d_comp3 #[(.ref a), (.int (0 : Int32)), (.int (Int32.ofNat cs.length))] h0 [] (fun v h => ∃ t kb, v = some (.ref t) ∧ h0.size ≤ t ∧ (((∀ c ∈ cs, Lat c) ∧ Arv Z h t kb .byte (Int32.ofNat cs.length) (cs.map lo8) (.int 0)) ∨ Arv Z h t kb .byte (Int32.ofNat (2 * cs.length)) (u16 cs) (.int 0))) := by
  refine Con.intro (a0 := a0) pl_b8 hO (fun q => nomatch q) ?_
  intro p e s m below meth c G
  refine ok_as (mkF m 0 #[.val (.ref a), .val (.int (0 : Int32)), .val (.int (Int32.ofNat cs.length)), .unset, .unset, .unset] []) (by first | rfl | (simp [entryFrame, mkF, argsToLocals, Value.category]; done)) ?_
  refine ok_iloadN G d_jdk_52_method_16_code_0 rfl ?_
  refine ok_newP G (aty := .byte) (C.w20) d_jdk_52_method_16_code_1 (i32_nn (by omega)) 16 (by rw [i32_clamp (by omega)]; omega) (by decide) (Nat.le_of_ble_eq_true rfl) (Nat.le_of_ble_eq_true rfl) ?_
  intro hp2 ob1 k_ob1 eq_ob1 K3 g_ob1 lb_ob1 V_ob1
  have ne_a_ob1 : a ≠ ob1 := Nat.ne_of_lt (Nat.lt_of_lt_of_le A.lt (Nat.le_of_eq eq_ob1.symm))
  replace A := A.keep K3 nin0
  refine ok_astoreN G #[.val (.ref a), .val (.int (0 : Int32)), .val (.int (Int32.ofNat cs.length)), .val (.ref ob1), .unset, .unset] d_jdk_52_method_16_code_3 rfl rfl ?_
  refine ok_aloadN G d_jdk_52_method_16_code_4 rfl rfl ?_
  refine ok_iloadN G d_jdk_52_method_16_code_5 rfl ?_
  refine ok_aloadN G d_jdk_52_method_16_code_6 rfl rfl ?_
  refine ok_iconst G (0 : Int32) d_jdk_52_method_16_code_7 rfl ?_
  refine ok_iloadN G d_jdk_52_method_16_code_8 rfl ?_
  refine ok_old (fun hO_hp2 => ?_)
  refine ok_static G (argsL := [(.ref a), (.int (0 : Int32)), (.ref ob1), (.int (0 : Int32)), (.int (Int32.ofNat cs.length))]) (rest := []) (C.w46) (C.w47) (C.w44) (C.w48) (by decide) pd3 (d_comp5 C hO_hp2 A V_ob1 ne_a_ob1 hl hc g_ob1) rfl rfl rfl d_jdk_52_method_16_code_9 (Nat.le_of_ble_eq_true rfl) (Nat.le_of_ble_eq_true rfl) (Nat.le_of_ble_eq_true rfl) (Nat.le_of_ble_eq_true rfl) (allS ⟨(Or.inr lb_ob1), SafeFor.narrow⟩ (fun _ q => nomatch q)) ?_
  rintro _ hp4 K5 ⟨kk, rfl, hkn, hfull, hpart⟩
  replace A := A.keep K5 (ninS ne_a_ob1 nin0)
  refine ok_as (mkF m 12 #[.val (.ref a), .val (.int (0 : Int32)), .val (.int (Int32.ofNat cs.length)), .val (.ref ob1), .unset, .unset] [(.int (Int32.ofNat kk))]) rfl ?_
  refine ok_istore G #[.val (.ref a), .val (.int (0 : Int32)), .val (.int (Int32.ofNat cs.length)), .val (.ref ob1), .val (.int (Int32.ofNat kk)), .unset] d_jdk_52_method_16_code_12 rfl ?_
  refine ok_iload G d_jdk_52_method_16_code_14 rfl ?_
  refine ok_iloadN G d_jdk_52_method_16_code_16 rfl ?_
  refine ok_icmpeq G 57 d_jdk_52_method_16_code_17 (by decide) (by decide) (fun cq6 => ?_) (fun cq6 => ?_)
  · skip
    have hkq := (i32_eq (by omega) (by omega)).mp cq6
    refine ok_aloadN G d_jdk_52_method_16_code_57 rfl rfl ?_
    exact ok_retA G rfl rfl rfl d_jdk_52_method_16_code_58 rfl ⟨_, _, rfl, lb_ob1, Or.inl ⟨(hfull hkq).1, (hfull hkq).2⟩⟩ (Nat.le_of_ble_eq_true rfl) (Nat.le_of_ble_eq_true rfl)
  · skip
    have hkq : ¬ kk = cs.length := fun q => cq6 (by rw [q])
    obtain ⟨pre, ch, post, hcs, hpre, h255⟩ := hpart (by omega)
    have hchr : Chr ch := hc ch (by rw [hcs]; simp)
    subst hpre
    refine ok_aloadN G d_jdk_52_method_16_code_20 rfl rfl ?_
    refine ok_iloadN G d_jdk_52_method_16_code_21 rfl ?_
    refine ok_iloadN G d_jdk_52_method_16_code_22 rfl ?_
    refine ok_old (fun hO_hp4 => ?_)
    refine ok_keep (fun hKp_hp4 => ?_)
    refine ok_static G (argsL := [(.ref a), (.int (0 : Int32)), (.int (Int32.ofNat cs.length))]) (rest := []) (C.w83) (C.w84) (C.w44) (C.w85) (by decide) pd4 (d_toB C hO_hp4 A hl) rfl rfl rfl d_jdk_52_method_16_code_23 (Nat.le_of_ble_eq_true rfl) (Nat.le_of_ble_eq_true rfl) (Nat.le_of_ble_eq_true rfl) (Nat.le_of_ble_eq_true rfl) (fun _ q => nomatch q) ?_
    rintro _ hp7 K8 ⟨tw, kw, rfl, lbq_tw, V_tw⟩
    have lbh_tw := lbq_tw
    have ne_a_tw : a ≠ tw := Nat.ne_of_lt (Nat.lt_of_lt_of_le A.lt lbh_tw)
    have lb_tw : h0.size ≤ tw := Nat.le_trans hKp_hp4.1 lbh_tw
    have g_tw : n0 ≤ tw := Nat.le_trans (old_le hO_hp4) lbh_tw
    replace A := A.keep K8 nin0
    refine ok_as (mkF m 26 #[.val (.ref a), .val (.int (0 : Int32)), .val (.int (Int32.ofNat cs.length)), .val (.ref ob1), .val (.int (Int32.ofNat pre.length)), .unset] [(.ref tw)]) rfl ?_
    refine ok_astore G #[.val (.ref a), .val (.int (0 : Int32)), .val (.int (Int32.ofNat cs.length)), .val (.ref ob1), .val (.int (Int32.ofNat pre.length)), .val (.ref tw)] d_jdk_52_method_16_code_26 rfl rfl ?_
    refine ok_aload G d_jdk_52_method_16_code_28 rfl rfl ?_
    refine ok_iload G d_jdk_52_method_16_code_30 rfl ?_
    refine ok_old (fun hO_hp7 => ?_)
    refine ok_static G (argsL := [(.ref tw), (.int (Int32.ofNat pre.length))]) (rest := []) (C.w99) (C.w100) (C.w44) (C.w101) (by decide) pd5 (d_get (ch := ch) (k := pre.length) C hO_hp7 V_tw (by rw [hcs]; exact u16_lo _ _ _ _) (by rw [hcs]; exact u16_hi _ _ _ _) (by rw [hcs] at hl ⊢; simp; omega) (by omega) hchr) rfl rfl rfl d_jdk_52_method_16_code_32 (Nat.le_of_ble_eq_true rfl) (Nat.le_of_ble_eq_true rfl) (Nat.le_of_ble_eq_true rfl) (Nat.le_of_ble_eq_true rfl) (fun _ q => nomatch q) ?_
    rintro _ _ _ ⟨rfl, rfl⟩
    refine ok_as (mkF m 35 #[.val (.ref a), .val (.int (0 : Int32)), .val (.int (Int32.ofNat cs.length)), .val (.ref ob1), .val (.int (Int32.ofNat pre.length)), .val (.ref tw)] [(.int ch)]) rfl ?_
    refine ok_sipush G (255 : Int32) d_jdk_52_method_16_code_35 rfl ?_
    refine ok_icmpgtY G 54 d_jdk_52_method_16_code_38 (by decide) (by decide) h255 ?_
    refine ok_aload G d_jdk_52_method_16_code_54 rfl rfl ?_
    exact ok_retA G rfl rfl rfl d_jdk_52_method_16_code_56 rfl ⟨_, _, rfl, lb_tw, Or.inr V_tw⟩ (Nat.le_of_ble_eq_true rfl) (Nat.le_of_ble_eq_true rfl)
theorem d_jdk_52_method_15_code_0 : decode jdk_52_method_15_code 0 = .ok (.iload_n 1, 1) := by decide +kernel
theorem d_jdk_52_method_15_code_1 : decode jdk_52_method_15_code 1 = .ok (.aload_n 0, 1) := by decide +kernel
theorem d_jdk_52_method_15_code_2 : decode jdk_52_method_15_code 2 = .ok (.arraylength, 1) := by decide +kernel
theorem d_jdk_52_method_15_code_3 : decode jdk_52_method_15_code 3 = .ok (.isub, 1) := by decide +kernel
theorem d_jdk_52_method_15_code_4 : decode jdk_52_method_15_code 4 = .ok (.bipush 31, 2) := by decide +kernel
theorem d_jdk_52_method_15_code_6 : decode jdk_52_method_15_code 6 = .ok (.iushr, 1) := by decide +kernel
theorem d_jdk_52_method_15_code_7 : decode jdk_52_method_15_code 7 = .ok (.i2b, 1) := by decide +kernel
theorem d_jdk_52_method_15_code_8 : decode jdk_52_method_15_code 8 = .ok (.ireturn, 1) := by decide +kernel
def R_d_cod1 : Room := { frames := 0, cells := 0, slots := 0, locals := 0 }
theorem pl_b10 : plainFor (⟨"java/lang/StringUTF16", "coderFromArrayLen", "([BI)B"⟩ : MethodName) = true := plainFor_of_name (by first | (simp [plainName, overriddenIn]; done) | decide +kernel)
set_option maxRecDepth 65536 in
set_option maxHeartbeats 40000000 in
theorem d_cod1 {l : Launch} {Z : State} {a0 : Array Value} {n0 : Nat} {h0 : Heap} (C : Cx Z a0) (hO : Old Z n0 h0) {b : Addr} {kb : ClassId} {k : Nat} {vs : List Value} {dv : Value} (B : Arv Z h0 b kb .byte (Int32.ofNat (2 * k)) vs dv) (h1 : 0 < k) (hk : k ≤ 8) :
    Con false l Z [] n0 (⟨"java/lang/StringUTF16", "coderFromArrayLen", "([BI)B"⟩ : MethodName) jdk_52_method_15_code 2 (some .byte) R_d_cod1 #[(.ref b), (.int (Int32.ofNat k))] h0 [] (fun v h => v = some (.int 1) ∧ h0 = h) := by
  refine Con.intro (a0 := a0) pl_b10 hO (fun q => nomatch q) ?_
  intro p e s m below meth c G
  refine ok_as (mkF m 0 #[.val (.ref b), .val (.int (Int32.ofNat k))] []) (by first | rfl | (simp [entryFrame, mkF, argsToLocals, Value.category]; done)) ?_
  refine ok_iloadN G d_jdk_52_method_15_code_0 rfl ?_
  refine ok_aloadN G d_jdk_52_method_15_code_1 rfl rfl ?_
  refine ok_arraylength G B d_jdk_52_method_15_code_2 ?_
  refine ok_isub G d_jdk_52_method_15_code_3 ?_
  refine ok_bipush G (31 : Int32) d_jdk_52_method_15_code_4 rfl ?_
  refine ok_iushr G d_jdk_52_method_15_code_6 ?_
  refine ok_i2b G d_jdk_52_method_15_code_7 ?_
  refine ok_sayI (1 : Int32) (cod_one h1 hk) ?_
  exact ok_retN G rfl (by simp) d_jdk_52_method_15_code_8 rfl ⟨rfl, rfl⟩ (Nat.le_of_ble_eq_true rfl) (Nat.le_of_ble_eq_true rfl)
def R_c_cod : Room := { frames := 0, cells := 0, slots := 0, locals := 0 }
set_option maxRecDepth 65536 in
set_option maxHeartbeats 40000000 in
theorem c_cod {l : Launch} {Z : State} {a0 : Array Value} {n0 : Nat} {h0 : Heap} (C : Cx Z a0) (hO : Old Z n0 h0) {b : Addr} {kb : ClassId} {n : Int32} {vs : List Value} {dv : Value} (B : Arv Z h0 b kb .byte n vs dv) :
    Con false l Z [] n0 (⟨"java/lang/StringUTF16", "coderFromArrayLen", "([BI)B"⟩ : MethodName) jdk_52_method_15_code 2 (some .byte) R_c_cod #[(.ref b), (.int n)] h0 [] (fun v h => v = some (.int 0) ∧ h0 = h) := by
  refine Con.intro (a0 := a0) pl_b10 hO (fun q => nomatch q) ?_
  intro p e s m below meth c G
  refine ok_as (mkF m 0 #[.val (.ref b), .val (.int n)] []) (by first | rfl | (simp [entryFrame, mkF, argsToLocals, Value.category]; done)) ?_
  refine ok_iloadN G d_jdk_52_method_15_code_0 rfl ?_
  refine ok_aloadN G d_jdk_52_method_15_code_1 rfl rfl ?_
  refine ok_arraylength G B d_jdk_52_method_15_code_2 ?_
  refine ok_isub G d_jdk_52_method_15_code_3 ?_
  refine ok_bipush G (31 : Int32) d_jdk_52_method_15_code_4 rfl ?_
  refine ok_iushr G d_jdk_52_method_15_code_6 ?_
  refine ok_i2b G d_jdk_52_method_15_code_7 ?_
  refine ok_sayI (0 : Int32) (by rw [Int32.sub_self]; rfl) ?_
  exact ok_retN G rfl (by simp) d_jdk_52_method_15_code_8 rfl ⟨rfl, rfl⟩ (Nat.le_of_ble_eq_true rfl) (Nat.le_of_ble_eq_true rfl)
theorem d_jdk_42_method_149_code_0 : decode jdk_42_method_149_code 0 = .ok (.aload_n 0, 1) := by decide +kernel
theorem d_jdk_42_method_149_code_1 : decode jdk_42_method_149_code 1 = .ok (.invokespecial 1, 3) := by decide +kernel
theorem d_jdk_42_method_149_code_4 : decode jdk_42_method_149_code 4 = .ok (.iload_n 3, 1) := by decide +kernel
theorem d_jdk_42_method_149_code_5 : decode jdk_42_method_149_code 5 = .ok (.ifCond .ne 22, 3) := by decide +kernel
theorem d_jdk_42_method_149_code_27 : decode jdk_42_method_149_code 27 = .ok (.getstatic 38, 3) := by decide +kernel
theorem d_jdk_42_method_149_code_30 : decode jdk_42_method_149_code 30 = .ok (.ifCond .eq 28, 3) := by decide +kernel
theorem d_jdk_42_method_149_code_33 : decode jdk_42_method_149_code 33 = .ok (.aload_n 1, 1) := by decide +kernel
theorem d_jdk_42_method_149_code_34 : decode jdk_42_method_149_code 34 = .ok (.iload_n 2, 1) := by decide +kernel
theorem d_jdk_42_method_149_code_35 : decode jdk_42_method_149_code 35 = .ok (.iload_n 3, 1) := by decide +kernel
theorem d_jdk_42_method_149_code_36 : decode jdk_42_method_149_code 36 = .ok (.invokestatic 177, 3) := by decide +kernel
theorem d_jdk_42_method_149_code_39 : decode jdk_42_method_149_code 39 = .ok (.astore 5, 2) := by decide +kernel
theorem d_jdk_42_method_149_code_41 : decode jdk_42_method_149_code 41 = .ok (.aload_n 0, 1) := by decide +kernel
theorem d_jdk_42_method_149_code_42 : decode jdk_42_method_149_code 42 = .ok (.aload 5, 2) := by decide +kernel
theorem d_jdk_42_method_149_code_44 : decode jdk_42_method_149_code 44 = .ok (.iload_n 3, 1) := by decide +kernel
theorem d_jdk_42_method_149_code_45 : decode jdk_42_method_149_code 45 = .ok (.invokestatic 47, 3) := by decide +kernel
theorem pd6 : parseMethodDescriptor "([BI)B" = some ⟨[(.array .byte), .int], some .byte⟩ := by decide +kernel
theorem d_jdk_42_method_149_code_48 : decode jdk_42_method_149_code 48 = .ok (.putfield 15, 3) := by decide +kernel
theorem d_jdk_42_method_149_code_51 : decode jdk_42_method_149_code 51 = .ok (.aload_n 0, 1) := by decide +kernel
theorem d_jdk_42_method_149_code_52 : decode jdk_42_method_149_code 52 = .ok (.aload 5, 2) := by decide +kernel
theorem d_jdk_42_method_149_code_54 : decode jdk_42_method_149_code 54 = .ok (.putfield 9, 3) := by decide +kernel
theorem d_jdk_42_method_149_code_57 : decode jdk_42_method_149_code 57 = .ok (.return_, 1) := by decide +kernel
def R_d_init4 : Room := { frames := 4, cells := 2, slots := 32, locals := 57 }
theorem pl_b3 : plainFor (⟨"java/lang/String", "<init>", "([CIILjava/lang/Void;)V"⟩ : MethodName) = true := plainFor_of_name (by first | (simp [plainName, overriddenIn]; done) | decide +kernel)
set_option maxRecDepth 65536 in
set_option maxHeartbeats 40000000 in
theorem d_init4 {l : Launch} {Z : State} {a0 : Array Value} {n0 : Nat} {h0 : Heap} (C : Cx Z a0) (hO : Old Z n0 h0) {x a : Addr} {ka : ClassId} {cs : List Int32} {dv : Value} (E : Exa Z h0 x "java/lang/String") (FV : Fld Z h0 x "java/lang/String" "value" "[B" .null) (FC : Fld Z h0 x "java/lang/String" "coder" "B" (.int (0 : Int32))) (g_x : n0 ≤ x) (A : Arv Z h0 a ka .char (Int32.ofNat cs.length) (cs.map Value.int) dv) (h1 : 0 < cs.length) (hl : cs.length ≤ 8) (hc : ∀ c ∈ cs, Chr c) (hxa : x ≠ a) :
    Con false l Z [] n0 (⟨"java/lang/String", "<init>", "([CIILjava/lang/Void;)V"⟩ : MethodName) jdk_42_method_149_code 6 none R_d_init4 #[(.ref x), (.ref a), (.int (0 : Int32)), (.int (Int32.ofNat cs.length)), .null] h0 [x] (fun v h => v = none ∧ ∃ t, GStr Z h x t cs) := by
  refine Con.intro (a0 := a0) pl_b3 hO (fun q => nomatch q) ?_
  intro p e s m below meth c G
  refine ok_as (mkF m 0 #[.val (.ref x), .val (.ref a), .val (.int (0 : Int32)), .val (.int (Int32.ofNat cs.length)), .val .null, .unset] []) (by first | rfl | (simp [entryFrame, mkF, argsToLocals, Value.category]; done)) ?_
  refine ok_aloadN G d_jdk_42_method_149_code_0 rfl rfl ?_
  refine ok_initO G (C.w16) (C.w17) (C.w18) rfl d_jdk_42_method_149_code_1 (Nat.le_of_ble_eq_true rfl) (Nat.le_of_ble_eq_true rfl) ?_
  refine ok_iloadN G d_jdk_42_method_149_code_4 rfl ?_
  refine ok_ifneY G 27 d_jdk_42_method_149_code_5 (by decide) (by decide) (by rw [show (0 : Int32) = Int32.ofNat 0 from rfl, i32_eq (by omega) (by omega)]; omega) ?_
  obtain ⟨cz, hCS, hcz⟩ := C.compact
  refine ok_getS G (host := "") (Or.inl (C.w41)) Via.refl hCS d_jdk_42_method_149_code_27 ?_
  refine ok_ifeqN G d_jdk_42_method_149_code_30 hcz ?_
  refine ok_aloadN G d_jdk_42_method_149_code_33 rfl rfl ?_
  refine ok_iloadN G d_jdk_42_method_149_code_34 rfl ?_
  refine ok_iloadN G d_jdk_42_method_149_code_35 rfl ?_
  refine ok_static G (argsL := [(.ref a), (.int (0 : Int32)), (.int (Int32.ofNat cs.length))]) (rest := []) (C.w42) (C.w43) (C.w44) (C.w45) (by decide) pd4 (d_comp3 C hO A hl hc) rfl rfl rfl d_jdk_42_method_149_code_36 (Nat.le_of_ble_eq_true rfl) (Nat.le_of_ble_eq_true rfl) (Nat.le_of_ble_eq_true rfl) (Nat.le_of_ble_eq_true rfl) (fun _ q => nomatch q) ?_
  rintro _ hp1 K2 ⟨tq, kq, rfl, lbq_tq, hV⟩
  have lbh_tq := lbq_tq
  have ne_x_tq : x ≠ tq := Nat.ne_of_lt (Nat.lt_of_lt_of_le E.lt lbh_tq)
  have ne_a_tq : a ≠ tq := Nat.ne_of_lt (Nat.lt_of_lt_of_le A.lt lbh_tq)
  have lb_tq : h0.size ≤ tq := lbh_tq
  have g_tq : n0 ≤ tq := Nat.le_trans (old_le hO) lbh_tq
  replace E := E.keep K2
  replace FV := FV.keep K2 nin0
  replace FC := FC.keep K2 nin0
  replace A := A.keep K2 nin0
  refine ok_as (mkF m 39 #[.val (.ref x), .val (.ref a), .val (.int (0 : Int32)), .val (.int (Int32.ofNat cs.length)), .val .null, .unset] [(.ref tq)]) rfl ?_
  rcases hV with ⟨hla, V_tq⟩ | V_tq
  · skip
    refine ok_astore G #[.val (.ref x), .val (.ref a), .val (.int (0 : Int32)), .val (.int (Int32.ofNat cs.length)), .val .null, .val (.ref tq)] d_jdk_42_method_149_code_39 rfl rfl ?_
    refine ok_aloadN G d_jdk_42_method_149_code_41 rfl rfl ?_
    refine ok_aload G d_jdk_42_method_149_code_42 rfl rfl ?_
    refine ok_iloadN G d_jdk_42_method_149_code_44 rfl ?_
    refine ok_old (fun hO_hp1 => ?_)
    refine ok_static G (argsL := [(.ref tq), (.int (Int32.ofNat cs.length))]) (rest := [(.ref x)]) (C.w49) (C.w50) (C.w44) (C.w51) (by decide) pd6 (c_cod C hO_hp1 V_tq) rfl rfl rfl d_jdk_42_method_149_code_45 (Nat.le_of_ble_eq_true rfl) (Nat.le_of_ble_eq_true rfl) (Nat.le_of_ble_eq_true rfl) (Nat.le_of_ble_eq_true rfl) (fun _ q => nomatch q) ?_
    rintro _ _ _ ⟨rfl, rfl⟩
    refine ok_as (mkF m 48 #[.val (.ref x), .val (.ref a), .val (.int (0 : Int32)), .val (.int (Int32.ofNat cs.length)), .val .null, .val (.ref tq)] [(.int (0 : Int32)), (.ref x)]) rfl ?_
    refine ok_putF G (host := "") (Or.inl (C.w26)) Via.refl FC E (Or.inr ⟨(C.w22), rfl, rfl⟩) (C.w6) (ty := .byte) (by decide) rfl rfl d_jdk_42_method_149_code_48 g_x (Or.inl (List.mem_of_getElem? (i := 0) rfl)) SafeFor.narrow ?_
    intro hp5 K6 Wn Fn
    replace FV := FV.other Wn (Or.inr (slot_ne (Or.inr (C.w21)) (Or.inr (C.w22)) (by decide) (t := (.array .byte)) (t' := .byte) (by decide) (by decide)))
    replace E := E.keep K6
    replace A := A.keep K6 (ninS (Ne.symm hxa) nin0)
    replace V_tq := V_tq.keep K6 (ninS (Ne.symm ne_x_tq) nin0)
    replace FC : Fld Z hp5 x "java/lang/String" "coder" "B" (.int (0 : Int32)) := Fn
    clear Wn Fn
    refine ok_aloadN G d_jdk_42_method_149_code_51 rfl rfl ?_
    refine ok_aload G d_jdk_42_method_149_code_52 rfl rfl ?_
    refine ok_putF G (host := "") (Or.inl (C.w25)) Via.refl FV E (Or.inr ⟨(C.w21), rfl, rfl⟩) (C.w6) (ty := (.array .byte)) (by decide) rfl rfl d_jdk_42_method_149_code_54 g_x (Or.inl (List.mem_of_getElem? (i := 0) rfl)) SafeFor.narrow ?_
    intro hp7 K8 Wn Fn
    replace FC := FC.other Wn (Or.inr (slot_ne (Or.inr (C.w22)) (Or.inr (C.w21)) (by decide) (t := .byte) (t' := (.array .byte)) (by decide) (by decide)))
    replace E := E.keep K8
    replace A := A.keep K8 (ninS (Ne.symm hxa) nin0)
    replace V_tq := V_tq.keep K8 (ninS (Ne.symm ne_x_tq) nin0)
    replace FV : Fld Z hp7 x "java/lang/String" "value" "[B" (.ref tq) := Fn
    clear Wn Fn
    exact ok_return G rfl d_jdk_42_method_149_code_57 ⟨rfl, _, Or.inl ⟨⟨E, FC, FV, ⟨_, V_tq⟩, hla, by omega⟩, hl⟩⟩ (Nat.le_of_ble_eq_true rfl) (Nat.le_of_ble_eq_true rfl)
  · skip
    refine ok_astore G #[.val (.ref x), .val (.ref a), .val (.int (0 : Int32)), .val (.int (Int32.ofNat cs.length)), .val .null, .val (.ref tq)] d_jdk_42_method_149_code_39 rfl rfl ?_
    refine ok_aloadN G d_jdk_42_method_149_code_41 rfl rfl ?_
    refine ok_aload G d_jdk_42_method_149_code_42 rfl rfl ?_
    refine ok_iloadN G d_jdk_42_method_149_code_44 rfl ?_
    refine ok_old (fun hO_hp1 => ?_)
    refine ok_static G (argsL := [(.ref tq), (.int (Int32.ofNat cs.length))]) (rest := [(.ref x)]) (C.w49) (C.w50) (C.w44) (C.w51) (by decide) pd6 (d_cod1 (k := cs.length) C hO_hp1 V_tq h1 hl) rfl rfl rfl d_jdk_42_method_149_code_45 (Nat.le_of_ble_eq_true rfl) (Nat.le_of_ble_eq_true rfl) (Nat.le_of_ble_eq_true rfl) (Nat.le_of_ble_eq_true rfl) (fun _ q => nomatch q) ?_
    rintro _ _ _ ⟨rfl, rfl⟩
    refine ok_as (mkF m 48 #[.val (.ref x), .val (.ref a), .val (.int (0 : Int32)), .val (.int (Int32.ofNat cs.length)), .val .null, .val (.ref tq)] [(.int (1 : Int32)), (.ref x)]) rfl ?_
    refine ok_putF G (host := "") (Or.inl (C.w26)) Via.refl FC E (Or.inr ⟨(C.w22), rfl, rfl⟩) (C.w6) (ty := .byte) (by decide) rfl rfl d_jdk_42_method_149_code_48 g_x (Or.inl (List.mem_of_getElem? (i := 0) rfl)) SafeFor.narrow ?_
    intro hp11 K12 Wn Fn
    replace FV := FV.other Wn (Or.inr (slot_ne (Or.inr (C.w21)) (Or.inr (C.w22)) (by decide) (t := (.array .byte)) (t' := .byte) (by decide) (by decide)))
    replace E := E.keep K12
    replace A := A.keep K12 (ninS (Ne.symm hxa) nin0)
    replace V_tq := V_tq.keep K12 (ninS (Ne.symm ne_x_tq) nin0)
    replace FC : Fld Z hp11 x "java/lang/String" "coder" "B" (.int (1 : Int32)) := Fn
    clear Wn Fn
    refine ok_aloadN G d_jdk_42_method_149_code_51 rfl rfl ?_
    refine ok_aload G d_jdk_42_method_149_code_52 rfl rfl ?_
    refine ok_putF G (host := "") (Or.inl (C.w25)) Via.refl FV E (Or.inr ⟨(C.w21), rfl, rfl⟩) (C.w6) (ty := (.array .byte)) (by decide) rfl rfl d_jdk_42_method_149_code_54 g_x (Or.inl (List.mem_of_getElem? (i := 0) rfl)) SafeFor.narrow ?_
    intro hp13 K14 Wn Fn
    replace FC := FC.other Wn (Or.inr (slot_ne (Or.inr (C.w22)) (Or.inr (C.w21)) (by decide) (t := .byte) (t' := (.array .byte)) (by decide) (by decide)))
    replace E := E.keep K14
    replace A := A.keep K14 (ninS (Ne.symm hxa) nin0)
    replace V_tq := V_tq.keep K14 (ninS (Ne.symm ne_x_tq) nin0)
    replace FV : Fld Z hp13 x "java/lang/String" "value" "[B" (.ref tq) := Fn
    clear Wn Fn
    exact ok_return G rfl d_jdk_42_method_149_code_57 ⟨rfl, _, Or.inr ⟨E, FC, FV, ⟨_, V_tq⟩, hc, hl⟩⟩ (Nat.le_of_ble_eq_true rfl) (Nat.le_of_ble_eq_true rfl)
theorem d_jdk_42_method_3_code_0 : decode jdk_42_method_3_code 0 = .ok (.aload_n 0, 1) := by decide +kernel
theorem d_jdk_42_method_3_code_1 : decode jdk_42_method_3_code 1 = .ok (.aload_n 1, 1) := by decide +kernel
theorem d_jdk_42_method_3_code_2 : decode jdk_42_method_3_code 2 = .ok (.iconst 0, 1) := by decide +kernel
theorem d_jdk_42_method_3_code_3 : decode jdk_42_method_3_code 3 = .ok (.aload_n 1, 1) := by decide +kernel
theorem d_jdk_42_method_3_code_4 : decode jdk_42_method_3_code 4 = .ok (.arraylength, 1) := by decide +kernel
theorem d_jdk_42_method_3_code_5 : decode jdk_42_method_3_code 5 = .ok (.aconst_null, 1) := by decide +kernel
theorem d_jdk_42_method_3_code_6 : decode jdk_42_method_3_code 6 = .ok (.invokespecial 27, 3) := by decide +kernel
theorem pd7 : parseMethodDescriptor "([CIILjava/lang/Void;)V" = some ⟨[(.array .char), .int, .int, (.object "java/lang/Void")], none⟩ := by decide +kernel
theorem d_jdk_42_method_3_code_9 : decode jdk_42_method_3_code 9 = .ok (.return_, 1) := by decide +kernel
def R_d_init1 : Room := { frames := 5, cells := 2, slots := 32, locals := 74 }
theorem pl_b2 : plainFor (⟨"java/lang/String", "<init>", "([C)V"⟩ : MethodName) = true := plainFor_of_name (by first | (simp [plainName, overriddenIn]; done) | decide +kernel)
set_option maxRecDepth 65536 in
set_option maxHeartbeats 40000000 in
theorem d_init1 {l : Launch} {Z : State} {a0 : Array Value} {n0 : Nat} {h0 : Heap} (C : Cx Z a0) (hO : Old Z n0 h0) {x a : Addr} {ka : ClassId} {cs : List Int32} {dv : Value} (E : Exa Z h0 x "java/lang/String") (FV : Fld Z h0 x "java/lang/String" "value" "[B" .null) (FC : Fld Z h0 x "java/lang/String" "coder" "B" (.int (0 : Int32))) (g_x : n0 ≤ x) (A : Arv Z h0 a ka .char (Int32.ofNat cs.length) (cs.map Value.int) dv) (h1 : 0 < cs.length) (hl : cs.length ≤ 8) (hc : ∀ c ∈ cs, Chr c) (hxa : x ≠ a) :
    Con false l Z [] n0 (⟨"java/lang/String", "<init>", "([C)V"⟩ : MethodName) jdk_42_method_3_code 2 none R_d_init1 #[(.ref x), (.ref a)] h0 [x] (fun v h => v = none ∧ ∃ t, GStr Z h x t cs) := by
  refine Con.intro (a0 := a0) pl_b2 hO (fun q => nomatch q) ?_
  intro p e s m below meth c G
  refine ok_as (mkF m 0 #[.val (.ref x), .val (.ref a)] []) (by first | rfl | (simp [entryFrame, mkF, argsToLocals, Value.category]; done)) ?_
  refine ok_aloadN G d_jdk_42_method_3_code_0 rfl rfl ?_
  refine ok_aloadN G d_jdk_42_method_3_code_1 rfl rfl ?_
  refine ok_iconst G (0 : Int32) d_jdk_42_method_3_code_2 rfl ?_
  refine ok_aloadN G d_jdk_42_method_3_code_3 rfl rfl ?_
  refine ok_arraylength G A d_jdk_42_method_3_code_4 ?_
  refine ok_aconst_null G d_jdk_42_method_3_code_5 ?_
  refine ok_init G (a := x) (argsL := [(.ref a), (.int (0 : Int32)), (.int (Int32.ofNat cs.length)), .null]) (rest := []) rfl (C.w12) (C.w13) (C.w7) (C.w15) (by decide) pd7 (d_init4 C hO E FV FC g_x A h1 hl hc hxa) rfl rfl rfl d_jdk_42_method_3_code_6 (Nat.le_of_ble_eq_true rfl) (Nat.le_of_ble_eq_true rfl) (Nat.le_of_ble_eq_true rfl) (Nat.le_of_ble_eq_true rfl) (allS ⟨(Or.inl (List.mem_of_getElem? (i := 0) rfl)), SafeFor.narrow⟩ (fun _ q => nomatch q)) ?_
  rintro _ hp1 K2 ⟨rfl, tt, S_x⟩
  replace E := E.keep K2
  replace A := A.keep K2 (ninS (Ne.symm hxa) nin0)
  refine ok_as (mkF m 9 #[.val (.ref x), .val (.ref a)] []) rfl ?_
  exact ok_return G rfl d_jdk_42_method_3_code_9 ⟨rfl, _, S_x⟩ (Nat.le_of_ble_eq_true rfl) (Nat.le_of_ble_eq_true rfl)
theorem d_jdk_42_method_149_code_8 : decode jdk_42_method_149_code 8 = .ok (.aload_n 0, 1) := by decide +kernel
theorem d_jdk_42_method_149_code_9 : decode jdk_42_method_149_code 9 = .ok (.ldc 7, 2) := by decide +kernel
theorem d_jdk_42_method_149_code_11 : decode jdk_42_method_149_code 11 = .ok (.getfield 9, 3) := by decide +kernel
theorem d_jdk_42_method_149_code_14 : decode jdk_42_method_149_code 14 = .ok (.putfield 9, 3) := by decide +kernel
theorem d_jdk_42_method_149_code_17 : decode jdk_42_method_149_code 17 = .ok (.aload_n 0, 1) := by decide +kernel
theorem d_jdk_42_method_149_code_18 : decode jdk_42_method_149_code 18 = .ok (.ldc 7, 2) := by decide +kernel
theorem d_jdk_42_method_149_code_20 : decode jdk_42_method_149_code 20 = .ok (.getfield 15, 3) := by decide +kernel
theorem d_jdk_42_method_149_code_23 : decode jdk_42_method_149_code 23 = .ok (.putfield 15, 3) := by decide +kernel
theorem d_jdk_42_method_149_code_26 : decode jdk_42_method_149_code 26 = .ok (.return_, 1) := by decide +kernel
def R_c_init4e : Room := { frames := 1, cells := 4, slots := 8, locals := 12 }
set_option maxRecDepth 65536 in
set_option maxHeartbeats 40000000 in
theorem c_init4e {l : Launch} {Z : State} {a0 : Array Value} {n0 : Nat} {h0 : Heap} (C : Cx Z a0) (hO : Old Z n0 h0) (hE : EW Z a0 consts_1) {x a : Addr} (E : Exa Z h0 x "java/lang/String") (FV : Fld Z h0 x "java/lang/String" "value" "[B" .null) (FC : Fld Z h0 x "java/lang/String" "coder" "B" (.int (0 : Int32))) (g_x : n0 ≤ x) :
    Con true l Z consts_1 n0 (⟨"java/lang/String", "<init>", "([CIILjava/lang/Void;)V"⟩ : MethodName) jdk_42_method_149_code 6 none R_c_init4e #[(.ref x), (.ref a), (.int (0 : Int32)), (.int (0 : Int32)), .null] h0 [x] (fun v h => v = none ∧ ∃ t, LStr Z h x t []) := by
  refine Con.intro (a0 := a0) pl_b3 hO (fun _ => hE) ?_
  intro p e s m below meth c G
  refine ok_as (mkF m 0 #[.val (.ref x), .val (.ref a), .val (.int (0 : Int32)), .val (.int (0 : Int32)), .val .null, .unset] []) (by first | rfl | (simp [entryFrame, mkF, argsToLocals, Value.category]; done)) ?_
  refine ok_sf [x] (allS ⟨E.lt, safe_null E FV⟩ all0) ?_
  refine ok_aloadN G d_jdk_42_method_149_code_0 rfl rfl ?_
  refine ok_initO G (C.w16) (C.w17) (C.w18) rfl d_jdk_42_method_149_code_1 (Nat.le_of_ble_eq_true rfl) (Nat.le_of_ble_eq_true rfl) ?_
  refine ok_iloadN G d_jdk_42_method_149_code_4 rfl ?_
  refine ok_ifneN G d_jdk_42_method_149_code_5 (by decide) ?_
  refine ok_aloadN G d_jdk_42_method_149_code_8 rfl rfl ?_
  refine ok_ldcR G (vs := ([] : List Int32).map lo8) (z := (0 : Int32)) rfl (C.w19) C.strs (List.mem_of_getElem? (i := 0) rfl) ⟨by decide, rfl⟩ (by decide) rfl d_jdk_42_method_149_code_9 0 (by decide) (by decide) (Nat.le_of_ble_eq_true rfl) (Nat.le_of_ble_eq_true rfl) ?_
  intro yl3 hp1 tr4 kb5 K2 E_yl3 FC_yl3 FV_yl3 V_tr4 hne
  have ne_x_yl3 := (hne x (List.mem_of_getElem? (i := 0) rfl)).1
  have ne_x_tr4 := (hne x (List.mem_of_getElem? (i := 0) rfl)).2
  replace E := E.keep K2
  replace FV := FV.keep K2 nin0
  replace FC := FC.keep K2 nin0
  refine ok_getF G (host := "") (Or.inl (C.w25)) Via.refl FV_yl3 d_jdk_42_method_149_code_11 ?_
  refine ok_putF G (host := "") (Or.inl (C.w25)) Via.refl FV E (Or.inr ⟨(C.w21), rfl, rfl⟩) (C.w6) (ty := (.array .byte)) (by decide) rfl rfl d_jdk_42_method_149_code_14 g_x (Or.inl (List.mem_of_getElem? (i := 0) rfl)) (SafeFor.mem (List.mem_of_getElem? (i := 0) rfl)) ?_
  intro hp6 K7 Wn Fn
  replace FC := FC.other Wn (Or.inr (slot_ne (Or.inr (C.w22)) (Or.inr (C.w21)) (by decide) (t := .byte) (t' := (.array .byte)) (by decide) (by decide)))
  replace E := E.keep K7
  replace E_yl3 := E_yl3.keep K7
  replace FC_yl3 := FC_yl3.keep K7 (ninS (Ne.symm ne_x_yl3) nin0)
  replace FV_yl3 := FV_yl3.keep K7 (ninS (Ne.symm ne_x_yl3) nin0)
  replace V_tr4 := V_tr4.keep K7 (ninS (Ne.symm ne_x_tr4) nin0)
  replace FV : Fld Z hp6 x "java/lang/String" "value" "[B" (.ref tr4) := Fn
  clear Wn Fn
  refine ok_aloadN G d_jdk_42_method_149_code_17 rfl rfl ?_
  refine ok_ldcR G (vs := ([] : List Int32).map lo8) (z := (0 : Int32)) rfl (C.w19) C.strs (List.mem_of_getElem? (i := 0) rfl) ⟨by decide, rfl⟩ (by decide) rfl d_jdk_42_method_149_code_18 0 (by decide) (by decide) (Nat.le_of_ble_eq_true rfl) (Nat.le_of_ble_eq_true rfl) ?_
  intro yl10 hp8 tr11 kb12 K9 E_yl10 FC_yl10 FV_yl10 V_tr11 hne
  have ne_x_yl10 := (hne x (List.mem_of_getElem? (i := 0) rfl)).1
  have ne_x_tr11 := (hne x (List.mem_of_getElem? (i := 0) rfl)).2
  replace E := E.keep K9
  replace FV := FV.keep K9 nin0
  replace FC := FC.keep K9 nin0
  replace E_yl3 := E_yl3.keep K9
  replace FC_yl3 := FC_yl3.keep K9 nin0
  replace FV_yl3 := FV_yl3.keep K9 nin0
  replace V_tr4 := V_tr4.keep K9 nin0
  refine ok_getF G (host := "") (Or.inl (C.w26)) Via.refl FC_yl10 d_jdk_42_method_149_code_20 ?_
  refine ok_putF G (host := "") (Or.inl (C.w26)) Via.refl FC E (Or.inr ⟨(C.w22), rfl, rfl⟩) (C.w6) (ty := .byte) (by decide) rfl rfl d_jdk_42_method_149_code_23 g_x (Or.inl (List.mem_of_getElem? (i := 0) rfl)) (SafeFor.mem (List.mem_of_getElem? (i := 0) rfl)) ?_
  intro hp13 K14 Wn Fn
  replace FV := FV.other Wn (Or.inr (slot_ne (Or.inr (C.w21)) (Or.inr (C.w22)) (by decide) (t := (.array .byte)) (t' := .byte) (by decide) (by decide)))
  replace E := E.keep K14
  replace E_yl3 := E_yl3.keep K14
  replace FC_yl3 := FC_yl3.keep K14 (ninS (Ne.symm ne_x_yl3) nin0)
  replace FV_yl3 := FV_yl3.keep K14 (ninS (Ne.symm ne_x_yl3) nin0)
  replace V_tr4 := V_tr4.keep K14 (ninS (Ne.symm ne_x_tr4) nin0)
  replace E_yl10 := E_yl10.keep K14
  replace FC_yl10 := FC_yl10.keep K14 (ninS (Ne.symm ne_x_yl10) nin0)
  replace FV_yl10 := FV_yl10.keep K14 (ninS (Ne.symm ne_x_yl10) nin0)
  replace V_tr11 := V_tr11.keep K14 (ninS (Ne.symm ne_x_tr11) nin0)
  replace FC : Fld Z hp13 x "java/lang/String" "coder" "B" (.int (0 : Int32)) := Fn
  clear Wn Fn
  exact ok_return G rfl d_jdk_42_method_149_code_26 ⟨rfl, _, E, FC, FV, ⟨_, V_tr4⟩, (fun _ q => nomatch q), (Nat.le_of_ble_eq_true rfl)⟩ (Nat.le_of_ble_eq_true rfl) (Nat.le_of_ble_eq_true rfl)
def R_c_init1e : Room := { frames := 2, cells := 4, slots := 8, locals := 29 }
set_option maxRecDepth 65536 in
set_option maxHeartbeats 40000000 in
theorem c_init1e {l : Launch} {Z : State} {a0 : Array Value} {n0 : Nat} {h0 : Heap} (C : Cx Z a0) (hO : Old Z n0 h0) (hE : EW Z a0 consts_1) {x a : Addr} {ka : ClassId} {vs : List Value} {dv : Value} (E : Exa Z h0 x "java/lang/String") (FV : Fld Z h0 x "java/lang/String" "value" "[B" .null) (FC : Fld Z h0 x "java/lang/String" "coder" "B" (.int (0 : Int32))) (g_x : n0 ≤ x) (A : Arv Z h0 a ka .char (0 : Int32) vs dv) (hxa : x ≠ a) :
    Con true l Z consts_1 n0 (⟨"java/lang/String", "<init>", "([C)V"⟩ : MethodName) jdk_42_method_3_code 2 none R_c_init1e #[(.ref x), (.ref a)] h0 [x] (fun v h => v = none ∧ ∃ t, LStr Z h x t []) := by
  refine Con.intro (a0 := a0) pl_b2 hO (fun _ => hE) ?_
  intro p e s m below meth c G
  refine ok_as (mkF m 0 #[.val (.ref x), .val (.ref a)] []) (by first | rfl | (simp [entryFrame, mkF, argsToLocals, Value.category]; done)) ?_
  refine ok_aloadN G d_jdk_42_method_3_code_0 rfl rfl ?_
  refine ok_aloadN G d_jdk_42_method_3_code_1 rfl rfl ?_
  refine ok_iconst G (0 : Int32) d_jdk_42_method_3_code_2 rfl ?_
  refine ok_aloadN G d_jdk_42_method_3_code_3 rfl rfl ?_
  refine ok_arraylength G A d_jdk_42_method_3_code_4 ?_
  refine ok_aconst_null G d_jdk_42_method_3_code_5 ?_
  refine ok_initW G (a := x) (argsL := [(.ref a), (.int (0 : Int32)), (.int (0 : Int32)), .null]) (rest := []) rfl (C.w12) (C.w13) (C.w7) (C.w15) (by decide) pd7 (c_init4e (a := a) C hO hE E FV FC g_x) rfl rfl rfl d_jdk_42_method_3_code_6 (Nat.le_of_ble_eq_true rfl) (Nat.le_of_ble_eq_true rfl) (Nat.le_of_ble_eq_true rfl) (Nat.le_of_ble_eq_true rfl) rfl (allS (Or.inl (List.mem_of_getElem? (i := 0) rfl)) (fun _ q => nomatch q)) ?_
  rintro _ hp2 K3 ⟨rfl, tr1, S_x⟩
  replace E := E.keep K3
  replace A := A.keep K3 (ninS (Ne.symm hxa) nin0)
  refine ok_as (mkF m 9 #[.val (.ref x), .val (.ref a)] []) rfl ?_
  exact ok_return G rfl d_jdk_42_method_3_code_9 ⟨rfl, _, S_x⟩ (Nat.le_of_ble_eq_true rfl) (Nat.le_of_ble_eq_true rfl)
theorem d_jdk_42_method_152_code_0 : decode jdk_42_method_152_code 0 = .ok (.getstatic 38, 3) := by decide +kernel
theorem d_jdk_42_method_152_code_3 : decode jdk_42_method_152_code 3 = .ok (.ifCond .eq 10, 3) := by decide +kernel
theorem d_jdk_42_method_152_code_6 : decode jdk_42_method_152_code 6 = .ok (.aload_n 0, 1) := by decide +kernel
theorem d_jdk_42_method_152_code_7 : decode jdk_42_method_152_code 7 = .ok (.getfield 15, 3) := by decide +kernel
theorem d_jdk_42_method_152_code_10 : decode jdk_42_method_152_code 10 = .ok (.goto 4, 3) := by decide +kernel
theorem d_jdk_42_method_152_code_14 : decode jdk_42_method_152_code 14 = .ok (.ireturn, 1) := by decide +kernel
def R_c_coder : Room := { frames := 0, cells := 0, slots := 0, locals := 0 }
theorem pl_b7 : plainFor (⟨"java/lang/String", "coder", "()B"⟩ : MethodName) = true := plainFor_of_name (by first | (simp [plainName, overriddenIn]; done) | decide +kernel)
set_option maxRecDepth 65536 in
set_option maxHeartbeats 40000000 in
theorem c_coder {l : Launch} {Z : State} {a0 : Array Value} {n0 : Nat} {h0 : Heap} (C : Cx Z a0) (hO : Old Z n0 h0) {x t : Addr} {cs : List Int32} (S : LStr Z h0 x t cs) :
    Con false l Z [] n0 (⟨"java/lang/String", "coder", "()B"⟩ : MethodName) jdk_42_method_152_code 1 (some .byte) R_c_coder #[(.ref x)] h0 [] (fun v h => v = some (.int 0) ∧ h0 = h) := by
  refine Con.intro (a0 := a0) pl_b7 hO (fun q => nomatch q) ?_
  intro p e s m below meth c G
  refine ok_as (mkF m 0 #[.val (.ref x)] []) (by first | rfl | (simp [entryFrame, mkF, argsToLocals, Value.category]; done)) ?_
  obtain ⟨E, FC, FV, ⟨kb, V⟩, hla, hle⟩ := S
  obtain ⟨cz, hCS, hcz⟩ := C.compact
  refine ok_getS G (host := "") (Or.inl (C.w41)) Via.refl hCS d_jdk_42_method_152_code_0 ?_
  refine ok_ifeqN G d_jdk_42_method_152_code_3 hcz ?_
  refine ok_aloadN G d_jdk_42_method_152_code_6 rfl rfl ?_
  refine ok_getF G (host := "") (Or.inl (C.w26)) Via.refl FC d_jdk_42_method_152_code_7 ?_
  refine ok_goto G 14 d_jdk_42_method_152_code_10 (by decide) (by decide) ?_
  exact ok_retN G rfl (by simp) d_jdk_42_method_152_code_14 rfl ⟨rfl, rfl⟩ (Nat.le_of_ble_eq_true rfl) (Nat.le_of_ble_eq_true rfl)
theorem d_jdk_42_method_54_code_0 : decode jdk_42_method_54_code 0 = .ok (.aload_n 0, 1) := by decide +kernel
theorem d_jdk_42_method_54_code_1 : decode jdk_42_method_54_code 1 = .ok (.getfield 9, 3) := by decide +kernel
theorem d_jdk_42_method_54_code_4 : decode jdk_42_method_54_code 4 = .ok (.arraylength, 1) := by decide +kernel
theorem d_jdk_42_method_54_code_5 : decode jdk_42_method_54_code 5 = .ok (.aload_n 0, 1) := by decide +kernel
theorem d_jdk_42_method_54_code_6 : decode jdk_42_method_54_code 6 = .ok (.invokevirtual 335, 3) := by decide +kernel
theorem pd8 : parseMethodDescriptor "()B" = some ⟨[], some .byte⟩ := by decide +kernel
theorem d_jdk_42_method_54_code_9 : decode jdk_42_method_54_code 9 = .ok (.ishr, 1) := by decide +kernel
theorem d_jdk_42_method_54_code_10 : decode jdk_42_method_54_code 10 = .ok (.ireturn, 1) := by decide +kernel
def R_c_length : Room := { frames := 1, cells := 0, slots := 0, locals := 13 }
theorem pl_b6 : plainFor (⟨"java/lang/String", "length", "()I"⟩ : MethodName) = true := plainFor_of_name (by first | (simp [plainName, overriddenIn]; done) | decide +kernel)
set_option maxRecDepth 65536 in
set_option maxHeartbeats 40000000 in
theorem c_length {l : Launch} {Z : State} {a0 : Array Value} {n0 : Nat} {h0 : Heap} (C : Cx Z a0) (hO : Old Z n0 h0) {x t : Addr} {cs : List Int32} (S : LStr Z h0 x t cs) :
    Con false l Z [] n0 (⟨"java/lang/String", "length", "()I"⟩ : MethodName) jdk_42_method_54_code 1 (some .int) R_c_length #[(.ref x)] h0 [] (fun v h => v = some (.int (Int32.ofNat cs.length)) ∧ h0 = h) := by
  refine Con.intro (a0 := a0) pl_b6 hO (fun q => nomatch q) ?_
  intro p e s m below meth c G
  refine ok_as (mkF m 0 #[.val (.ref x)] []) (by first | rfl | (simp [entryFrame, mkF, argsToLocals, Value.category]; done)) ?_
  obtain ⟨E, FC, FV, ⟨kb, V⟩, hla, hle⟩ := id S
  refine ok_aloadN G d_jdk_42_method_54_code_0 rfl rfl ?_
  refine ok_getF G (host := "") (Or.inl (C.w25)) Via.refl FV d_jdk_42_method_54_code_1 ?_
  refine ok_arraylength G V d_jdk_42_method_54_code_4 ?_
  refine ok_aloadN G d_jdk_42_method_54_code_5 rfl rfl ?_
  refine ok_virtual G (a := x) (y0 := (⟨"java/lang/String", "coder", "()B"⟩ : MethodName)) (y := (⟨"java/lang/String", "coder", "()B"⟩ : MethodName)) (argsL := []) (rest := [(.int (Int32.ofNat cs.length))]) E (C.w36) (C.w37) (C.w39) (fun vm hZ => notFace_of_selects (args := #[]) (mvT (s := s.setVm vm) hZ (C.w39))) (C.w38) (C.w7) (C.w40) (by decide) pd8 (c_coder C hO S) rfl rfl rfl d_jdk_42_method_54_code_6 (Nat.le_of_ble_eq_true rfl) (Nat.le_of_ble_eq_true rfl) (Nat.le_of_ble_eq_true rfl) (Nat.le_of_ble_eq_true rfl) (fun _ q => nomatch q) ?_
  rintro _ _ _ ⟨rfl, rfl⟩
  refine ok_as (mkF m 9 #[.val (.ref x)] [(.int (0 : Int32)), (.int (Int32.ofNat cs.length))]) rfl ?_
  refine ok_ishr G d_jdk_42_method_54_code_9 ?_
  refine ok_sayI (Int32.ofNat cs.length) (by simp) ?_
  exact ok_retI G rfl d_jdk_42_method_54_code_10 ⟨rfl, rfl⟩ (Nat.le_of_ble_eq_true rfl) (Nat.le_of_ble_eq_true rfl)
def R_d_coder : Room := { frames := 0, cells := 0, slots := 0, locals := 0 }
set_option maxRecDepth 65536 in
set_option maxHeartbeats 40000000 in
theorem d_coder {l : Launch} {Z : State} {a0 : Array Value} {n0 : Nat} {h0 : Heap} (C : Cx Z a0) (hO : Old Z n0 h0) {x t : Addr} {cs : List Int32} (S : WStr Z h0 x t cs) :
    Con false l Z [] n0 (⟨"java/lang/String", "coder", "()B"⟩ : MethodName) jdk_42_method_152_code 1 (some .byte) R_d_coder #[(.ref x)] h0 [] (fun v h => v = some (.int 1) ∧ h0 = h) := by
  refine Con.intro (a0 := a0) pl_b7 hO (fun q => nomatch q) ?_
  intro p e s m below meth c G
  refine ok_as (mkF m 0 #[.val (.ref x)] []) (by first | rfl | (simp [entryFrame, mkF, argsToLocals, Value.category]; done)) ?_
  obtain ⟨E, FC, FV, ⟨kb, V⟩, hcw, hlw⟩ := id S
  obtain ⟨cz, hCS, hcz⟩ := C.compact
  refine ok_getS G (host := "") (Or.inl (C.w41)) Via.refl hCS d_jdk_42_method_152_code_0 ?_
  refine ok_ifeqN G d_jdk_42_method_152_code_3 hcz ?_
  refine ok_aloadN G d_jdk_42_method_152_code_6 rfl rfl ?_
  refine ok_getF G (host := "") (Or.inl (C.w26)) Via.refl FC d_jdk_42_method_152_code_7 ?_
  refine ok_goto G 14 d_jdk_42_method_152_code_10 (by decide) (by decide) ?_
  exact ok_retN G rfl (by simp) d_jdk_42_method_152_code_14 rfl ⟨rfl, rfl⟩ (Nat.le_of_ble_eq_true rfl) (Nat.le_of_ble_eq_true rfl)
def R_d_length : Room := { frames := 1, cells := 0, slots := 0, locals := 13 }
set_option maxRecDepth 65536 in
set_option maxHeartbeats 40000000 in
theorem d_length {l : Launch} {Z : State} {a0 : Array Value} {n0 : Nat} {h0 : Heap} (C : Cx Z a0) (hO : Old Z n0 h0) {x t : Addr} {cs : List Int32} (SG : GStr Z h0 x t cs) :
    Con false l Z [] n0 (⟨"java/lang/String", "length", "()I"⟩ : MethodName) jdk_42_method_54_code 1 (some .int) R_d_length #[(.ref x)] h0 [] (fun v h => v = some (.int (Int32.ofNat cs.length)) ∧ h0 = h) := by
  refine Con.intro (a0 := a0) pl_b6 hO (fun q => nomatch q) ?_
  intro p e s m below meth c G
  refine ok_as (mkF m 0 #[.val (.ref x)] []) (by first | rfl | (simp [entryFrame, mkF, argsToLocals, Value.category]; done)) ?_
  rcases SG with ⟨S, h8⟩ | S
  · skip
    obtain ⟨E, FC, FV, ⟨kb, V⟩, hla, hle⟩ := id S
    refine ok_aloadN G d_jdk_42_method_54_code_0 rfl rfl ?_
    refine ok_getF G (host := "") (Or.inl (C.w25)) Via.refl FV d_jdk_42_method_54_code_1 ?_
    refine ok_arraylength G V d_jdk_42_method_54_code_4 ?_
    refine ok_aloadN G d_jdk_42_method_54_code_5 rfl rfl ?_
    refine ok_virtual G (a := x) (y0 := (⟨"java/lang/String", "coder", "()B"⟩ : MethodName)) (y := (⟨"java/lang/String", "coder", "()B"⟩ : MethodName)) (argsL := []) (rest := [(.int (Int32.ofNat cs.length))]) E (C.w36) (C.w37) (C.w39) (fun vm hZ => notFace_of_selects (args := #[]) (mvT (s := s.setVm vm) hZ (C.w39))) (C.w38) (C.w7) (C.w40) (by decide) pd8 (c_coder C hO S) rfl rfl rfl d_jdk_42_method_54_code_6 (Nat.le_of_ble_eq_true rfl) (Nat.le_of_ble_eq_true rfl) (Nat.le_of_ble_eq_true rfl) (Nat.le_of_ble_eq_true rfl) (fun _ q => nomatch q) ?_
    rintro _ _ _ ⟨rfl, rfl⟩
    refine ok_as (mkF m 9 #[.val (.ref x)] [(.int (0 : Int32)), (.int (Int32.ofNat cs.length))]) rfl ?_
    refine ok_ishr G d_jdk_42_method_54_code_9 ?_
    refine ok_sayI (Int32.ofNat cs.length) (by simp) ?_
    exact ok_retI G rfl d_jdk_42_method_54_code_10 ⟨rfl, rfl⟩ (Nat.le_of_ble_eq_true rfl) (Nat.le_of_ble_eq_true rfl)
  · skip
    obtain ⟨E, FC, FV, ⟨kb, V⟩, hcw, hlw⟩ := id S
    refine ok_aloadN G d_jdk_42_method_54_code_0 rfl rfl ?_
    refine ok_getF G (host := "") (Or.inl (C.w25)) Via.refl FV d_jdk_42_method_54_code_1 ?_
    refine ok_arraylength G V d_jdk_42_method_54_code_4 ?_
    refine ok_aloadN G d_jdk_42_method_54_code_5 rfl rfl ?_
    refine ok_virtual G (a := x) (y0 := (⟨"java/lang/String", "coder", "()B"⟩ : MethodName)) (y := (⟨"java/lang/String", "coder", "()B"⟩ : MethodName)) (argsL := []) (rest := [(.int (Int32.ofNat (2 * cs.length)))]) E (C.w36) (C.w37) (C.w39) (fun vm hZ => notFace_of_selects (args := #[]) (mvT (s := s.setVm vm) hZ (C.w39))) (C.w38) (C.w7) (C.w40) (by decide) pd8 (d_coder C hO S) rfl rfl rfl d_jdk_42_method_54_code_6 (Nat.le_of_ble_eq_true rfl) (Nat.le_of_ble_eq_true rfl) (Nat.le_of_ble_eq_true rfl) (Nat.le_of_ble_eq_true rfl) (fun _ q => nomatch q) ?_
    rintro _ _ _ ⟨rfl, rfl⟩
    refine ok_as (mkF m 9 #[.val (.ref x)] [(.int (1 : Int32)), (.int (Int32.ofNat (2 * cs.length)))]) rfl ?_
    refine ok_ishr G d_jdk_42_method_54_code_9 ?_
    refine ok_sayI (Int32.ofNat cs.length) (dbl_shr hlw) ?_
    exact ok_retI G rfl d_jdk_42_method_54_code_10 ⟨rfl, rfl⟩ (Nat.le_of_ble_eq_true rfl) (Nat.le_of_ble_eq_true rfl)
theorem d_jdk_41_method_11_code_0 : decode jdk_41_method_11_code 0 = .ok (.iload_n 0, 1) := by decide +kernel
theorem d_jdk_41_method_11_code_1 : decode jdk_41_method_11_code 1 = .ok (.ifCond .lt 8, 3) := by decide +kernel
theorem d_jdk_41_method_11_code_4 : decode jdk_41_method_11_code 4 = .ok (.iload_n 0, 1) := by decide +kernel
theorem d_jdk_41_method_11_code_5 : decode jdk_41_method_11_code 5 = .ok (.iload_n 1, 1) := by decide +kernel
theorem d_jdk_41_method_11_code_6 : decode jdk_41_method_11_code 6 = .ok (.if_icmp .lt 10, 3) := by decide +kernel
theorem d_jdk_41_method_11_code_16 : decode jdk_41_method_11_code 16 = .ok (.iload_n 0, 1) := by decide +kernel
theorem d_jdk_41_method_11_code_17 : decode jdk_41_method_11_code 17 = .ok (.ireturn, 1) := by decide +kernel
def R_c_pci_n : Room := { frames := 0, cells := 0, slots := 0, locals := 0 }
theorem pl_b15 : plainFor (⟨"jdk/internal/util/Preconditions", "checkIndex", "(IILjava/util/function/BiFunction;)I"⟩ : MethodName) = true := plainFor_of_name (by first | (simp [plainName, overriddenIn]; done) | decide +kernel)
set_option maxRecDepth 65536 in
set_option maxHeartbeats 40000000 in
theorem c_pci_n {l : Launch} {Z : State} {a0 : Array Value} {n0 : Nat} {h0 : Heap} (C : Cx Z a0) (hO : Old Z n0 h0) {i n : Int32} (hi : ¬ i < 0 ∧ i < n) :
    Con false l Z [] n0 (⟨"jdk/internal/util/Preconditions", "checkIndex", "(IILjava/util/function/BiFunction;)I"⟩ : MethodName) jdk_41_method_11_code 3 (some .int) R_c_pci_n #[(.int i), (.int n), .null] h0 [] (fun v h => v = some (.int i) ∧ h0 = h) := by
  refine Con.intro (a0 := a0) pl_b15 hO (fun q => nomatch q) ?_
  intro p e s m below meth c G
  refine ok_as (mkF m 0 #[.val (.int i), .val (.int n), .val .null] []) (by first | rfl | (simp [entryFrame, mkF, argsToLocals, Value.category]; done)) ?_
  refine ok_iloadN G d_jdk_41_method_11_code_0 rfl ?_
  refine ok_ifltN G d_jdk_41_method_11_code_1 hi.1 ?_
  refine ok_iloadN G d_jdk_41_method_11_code_4 rfl ?_
  refine ok_iloadN G d_jdk_41_method_11_code_5 rfl ?_
  refine ok_icmpltY G 16 d_jdk_41_method_11_code_6 (by decide) (by decide) hi.2 ?_
  refine ok_iloadN G d_jdk_41_method_11_code_16 rfl ?_
  exact ok_retI G rfl d_jdk_41_method_11_code_17 ⟨rfl, rfl⟩ (Nat.le_of_ble_eq_true rfl) (Nat.le_of_ble_eq_true rfl)
def R_c_pci_r : Room := { frames := 0, cells := 0, slots := 0, locals := 0 }
set_option maxRecDepth 65536 in
set_option maxHeartbeats 40000000 in
theorem c_pci_r {l : Launch} {Z : State} {a0 : Array Value} {n0 : Nat} {h0 : Heap} (C : Cx Z a0) (hO : Old Z n0 h0) {i n : Int32} {fa : Addr} (hi : ¬ i < 0 ∧ i < n) :
    Con false l Z [] n0 (⟨"jdk/internal/util/Preconditions", "checkIndex", "(IILjava/util/function/BiFunction;)I"⟩ : MethodName) jdk_41_method_11_code 3 (some .int) R_c_pci_r #[(.int i), (.int n), (.ref fa)] h0 [] (fun v h => v = some (.int i) ∧ h0 = h) := by
  refine Con.intro (a0 := a0) pl_b15 hO (fun q => nomatch q) ?_
  intro p e s m below meth c G
  refine ok_as (mkF m 0 #[.val (.int i), .val (.int n), .val (.ref fa)] []) (by first | rfl | (simp [entryFrame, mkF, argsToLocals, Value.category]; done)) ?_
  refine ok_iloadN G d_jdk_41_method_11_code_0 rfl ?_
  refine ok_ifltN G d_jdk_41_method_11_code_1 hi.1 ?_
  refine ok_iloadN G d_jdk_41_method_11_code_4 rfl ?_
  refine ok_iloadN G d_jdk_41_method_11_code_5 rfl ?_
  refine ok_icmpltY G 16 d_jdk_41_method_11_code_6 (by decide) (by decide) hi.2 ?_
  refine ok_iloadN G d_jdk_41_method_11_code_16 rfl ?_
  exact ok_retI G rfl d_jdk_41_method_11_code_17 ⟨rfl, rfl⟩ (Nat.le_of_ble_eq_true rfl) (Nat.le_of_ble_eq_true rfl)
theorem d_jdk_42_method_155_code_0 : decode jdk_42_method_155_code 0 = .ok (.iload_n 0, 1) := by decide +kernel
theorem d_jdk_42_method_155_code_1 : decode jdk_42_method_155_code 1 = .ok (.iload_n 1, 1) := by decide +kernel
theorem d_jdk_42_method_155_code_2 : decode jdk_42_method_155_code 2 = .ok (.getstatic 1053, 3) := by decide +kernel
theorem d_jdk_42_method_155_code_5 : decode jdk_42_method_155_code 5 = .ok (.invokestatic 1059, 3) := by decide +kernel
theorem pd9 : parseMethodDescriptor "(IILjava/util/function/BiFunction;)I" = some ⟨[.int, .int, (.object "java/util/function/BiFunction")], some .int⟩ := by decide +kernel
theorem d_jdk_42_method_155_code_8 : decode jdk_42_method_155_code 8 = .ok (.pop, 1) := by decide +kernel
theorem d_jdk_42_method_155_code_9 : decode jdk_42_method_155_code 9 = .ok (.return_, 1) := by decide +kernel
def R_c_sci : Room := { frames := 1, cells := 0, slots := 0, locals := 14 }
theorem pl_b14 : plainFor (⟨"java/lang/String", "checkIndex", "(II)V"⟩ : MethodName) = true := plainFor_of_name (by first | (simp [plainName, overriddenIn]; done) | decide +kernel)
set_option maxRecDepth 65536 in
set_option maxHeartbeats 40000000 in
theorem c_sci {l : Launch} {Z : State} {a0 : Array Value} {n0 : Nat} {h0 : Heap} (C : Cx Z a0) (hO : Old Z n0 h0) {i n : Int32} (hi : ¬ i < 0 ∧ i < n) :
    Con false l Z [] n0 (⟨"java/lang/String", "checkIndex", "(II)V"⟩ : MethodName) jdk_42_method_155_code 2 none R_c_sci #[(.int i), (.int n)] h0 [] (fun v h => v = none ∧ h0 = h) := by
  refine Con.intro (a0 := a0) pl_b14 hO (fun q => nomatch q) ?_
  intro p e s m below meth c G
  refine ok_as (mkF m 0 #[.val (.int i), .val (.int n)] []) (by first | rfl | (simp [entryFrame, mkF, argsToLocals, Value.category]; done)) ?_
  refine ok_iloadN G d_jdk_42_method_155_code_0 rfl ?_
  refine ok_iloadN G d_jdk_42_method_155_code_1 rfl ?_
  obtain ⟨fm, hfm, hr⟩ := C.sio
  rcases hr with rfl | ⟨fa, rfl⟩
  · skip
    refine ok_getS G (host := "") (Or.inl (C.w69)) Via.refl hfm d_jdk_42_method_155_code_2 ?_
    refine ok_static G (argsL := [(.int i), (.int n), .null]) (rest := []) (C.w71) (C.w72) (C.w70) (C.w73) (by decide) pd9 (c_pci_n C hO hi) rfl rfl rfl d_jdk_42_method_155_code_5 (Nat.le_of_ble_eq_true rfl) (Nat.le_of_ble_eq_true rfl) (Nat.le_of_ble_eq_true rfl) (Nat.le_of_ble_eq_true rfl) (fun _ q => nomatch q) ?_
    rintro _ _ _ ⟨rfl, rfl⟩
    refine ok_as (mkF m 8 #[.val (.int i), .val (.int n)] [(.int i)]) rfl ?_
    refine ok_pop G d_jdk_42_method_155_code_8 rfl ?_
    exact ok_return G rfl d_jdk_42_method_155_code_9 ⟨rfl, rfl⟩ (Nat.le_of_ble_eq_true rfl) (Nat.le_of_ble_eq_true rfl)
  · skip
    refine ok_getS G (host := "") (Or.inl (C.w69)) Via.refl hfm d_jdk_42_method_155_code_2 ?_
    refine ok_static G (argsL := [(.int i), (.int n), (.ref fa)]) (rest := []) (C.w71) (C.w72) (C.w70) (C.w73) (by decide) pd9 (c_pci_r C hO hi) rfl rfl rfl d_jdk_42_method_155_code_5 (Nat.le_of_ble_eq_true rfl) (Nat.le_of_ble_eq_true rfl) (Nat.le_of_ble_eq_true rfl) (Nat.le_of_ble_eq_true rfl) (fun _ q => nomatch q) ?_
    rintro _ _ _ ⟨rfl, rfl⟩
    refine ok_as (mkF m 8 #[.val (.int i), .val (.int n)] [(.int i)]) rfl ?_
    refine ok_pop G d_jdk_42_method_155_code_8 rfl ?_
    exact ok_return G rfl d_jdk_42_method_155_code_9 ⟨rfl, rfl⟩ (Nat.le_of_ble_eq_true rfl) (Nat.le_of_ble_eq_true rfl)
theorem d_jdk_43_method_2_code_0 : decode jdk_43_method_2_code 0 = .ok (.iload_n 1, 1) := by decide +kernel
theorem d_jdk_43_method_2_code_1 : decode jdk_43_method_2_code 1 = .ok (.aload_n 0, 1) := by decide +kernel
theorem d_jdk_43_method_2_code_2 : decode jdk_43_method_2_code 2 = .ok (.arraylength, 1) := by decide +kernel
theorem d_jdk_43_method_2_code_3 : decode jdk_43_method_2_code 3 = .ok (.invokestatic 9, 3) := by decide +kernel
theorem pd10 : parseMethodDescriptor "(II)V" = some ⟨[.int, .int], none⟩ := by decide +kernel
theorem d_jdk_43_method_2_code_6 : decode jdk_43_method_2_code 6 = .ok (.aload_n 0, 1) := by decide +kernel
theorem d_jdk_43_method_2_code_7 : decode jdk_43_method_2_code 7 = .ok (.iload_n 1, 1) := by decide +kernel
theorem d_jdk_43_method_2_code_8 : decode jdk_43_method_2_code 8 = .ok (.baload, 1) := by decide +kernel
theorem d_jdk_43_method_2_code_9 : decode jdk_43_method_2_code 9 = .ok (.sipush 255, 3) := by decide +kernel
theorem d_jdk_43_method_2_code_12 : decode jdk_43_method_2_code 12 = .ok (.iand, 1) := by decide +kernel
theorem d_jdk_43_method_2_code_13 : decode jdk_43_method_2_code 13 = .ok (.i2c, 1) := by decide +kernel
theorem d_jdk_43_method_2_code_14 : decode jdk_43_method_2_code 14 = .ok (.ireturn, 1) := by decide +kernel
def R_c_l1at : Room := { frames := 2, cells := 0, slots := 0, locals := 27 }
theorem pl_b13 : plainFor (⟨"java/lang/StringLatin1", "charAt", "([BI)C"⟩ : MethodName) = true := plainFor_of_name (by first | (simp [plainName, overriddenIn]; done) | decide +kernel)
set_option maxRecDepth 65536 in
set_option maxHeartbeats 40000000 in
theorem c_l1at {l : Launch} {Z : State} {a0 : Array Value} {n0 : Nat} {h0 : Heap} (C : Cx Z a0) (hO : Old Z n0 h0) {t : Addr} {kb : ClassId} {i n ch : Int32} {vs : List Value} {dv : Value} (V : Arv Z h0 t kb .byte n vs dv) (hi : ¬ i < 0 ∧ i < n) (hv : vs.getD i.toNatClampNeg dv = lo8 ch) (hch : Lat ch) :
    Con false l Z [] n0 (⟨"java/lang/StringLatin1", "charAt", "([BI)C"⟩ : MethodName) jdk_43_method_2_code 2 (some .char) R_c_l1at #[(.ref t), (.int i)] h0 [] (fun v h => v = some (.int ch) ∧ h0 = h) := by
  refine Con.intro (a0 := a0) pl_b13 hO (fun q => nomatch q) ?_
  intro p e s m below meth c G
  refine ok_as (mkF m 0 #[.val (.ref t), .val (.int i)] []) (by first | rfl | (simp [entryFrame, mkF, argsToLocals, Value.category]; done)) ?_
  refine ok_iloadN G d_jdk_43_method_2_code_0 rfl ?_
  refine ok_aloadN G d_jdk_43_method_2_code_1 rfl rfl ?_
  refine ok_arraylength G V d_jdk_43_method_2_code_2 ?_
  refine ok_static G (argsL := [(.int i), (.int n)]) (rest := []) (C.w66) (C.w67) (C.w7) (C.w68) (by decide) pd10 (c_sci C hO hi) rfl rfl rfl d_jdk_43_method_2_code_3 (Nat.le_of_ble_eq_true rfl) (Nat.le_of_ble_eq_true rfl) (Nat.le_of_ble_eq_true rfl) (Nat.le_of_ble_eq_true rfl) (fun _ q => nomatch q) ?_
  rintro _ _ _ ⟨rfl, rfl⟩
  refine ok_as (mkF m 6 #[.val (.ref t), .val (.int i)] []) rfl ?_
  refine ok_aloadN G d_jdk_43_method_2_code_6 rfl rfl ?_
  refine ok_iloadN G d_jdk_43_method_2_code_7 rfl ?_
  refine ok_baload G ch.toInt8.toInt32 V hi hv d_jdk_43_method_2_code_8 ?_
  refine ok_sipush G (255 : Int32) d_jdk_43_method_2_code_9 rfl ?_
  refine ok_iand G d_jdk_43_method_2_code_12 ?_
  refine ok_i2c G d_jdk_43_method_2_code_13 ?_
  refine ok_sayI ch hch.back ?_
  exact ok_retN G rfl (by simp) d_jdk_43_method_2_code_14 (congrArg Value.int hch.nar) ⟨rfl, rfl⟩ (Nat.le_of_ble_eq_true rfl) (Nat.le_of_ble_eq_true rfl)
theorem d_jdk_42_method_154_code_0 : decode jdk_42_method_154_code 0 = .ok (.getstatic 38, 3) := by decide +kernel
theorem d_jdk_42_method_154_code_3 : decode jdk_42_method_154_code 3 = .ok (.ifCond .eq 14, 3) := by decide +kernel
theorem d_jdk_42_method_154_code_6 : decode jdk_42_method_154_code 6 = .ok (.aload_n 0, 1) := by decide +kernel
theorem d_jdk_42_method_154_code_7 : decode jdk_42_method_154_code 7 = .ok (.getfield 15, 3) := by decide +kernel
theorem d_jdk_42_method_154_code_10 : decode jdk_42_method_154_code 10 = .ok (.ifCond .ne 7, 3) := by decide +kernel
theorem d_jdk_42_method_154_code_13 : decode jdk_42_method_154_code 13 = .ok (.iconst 1, 1) := by decide +kernel
theorem d_jdk_42_method_154_code_14 : decode jdk_42_method_154_code 14 = .ok (.goto 4, 3) := by decide +kernel
theorem d_jdk_42_method_154_code_18 : decode jdk_42_method_154_code 18 = .ok (.ireturn, 1) := by decide +kernel
def R_c_isL1 : Room := { frames := 0, cells := 0, slots := 0, locals := 0 }
theorem pl_b12 : plainFor (⟨"java/lang/String", "isLatin1", "()Z"⟩ : MethodName) = true := plainFor_of_name (by first | (simp [plainName, overriddenIn]; done) | decide +kernel)
set_option maxRecDepth 65536 in
set_option maxHeartbeats 40000000 in
theorem c_isL1 {l : Launch} {Z : State} {a0 : Array Value} {n0 : Nat} {h0 : Heap} (C : Cx Z a0) (hO : Old Z n0 h0) {x t : Addr} {cs : List Int32} (S : LStr Z h0 x t cs) :
    Con false l Z [] n0 (⟨"java/lang/String", "isLatin1", "()Z"⟩ : MethodName) jdk_42_method_154_code 1 (some .boolean) R_c_isL1 #[(.ref x)] h0 [] (fun v h => v = some (.int 1) ∧ h0 = h) := by
  refine Con.intro (a0 := a0) pl_b12 hO (fun q => nomatch q) ?_
  intro p e s m below meth c G
  refine ok_as (mkF m 0 #[.val (.ref x)] []) (by first | rfl | (simp [entryFrame, mkF, argsToLocals, Value.category]; done)) ?_
  obtain ⟨E, FC, FV, ⟨kb, V⟩, hla, hle⟩ := S
  obtain ⟨cz, hCS, hcz⟩ := C.compact
  refine ok_getS G (host := "") (Or.inl (C.w41)) Via.refl hCS d_jdk_42_method_154_code_0 ?_
  refine ok_ifeqN G d_jdk_42_method_154_code_3 hcz ?_
  refine ok_aloadN G d_jdk_42_method_154_code_6 rfl rfl ?_
  refine ok_getF G (host := "") (Or.inl (C.w26)) Via.refl FC d_jdk_42_method_154_code_7 ?_
  refine ok_ifneN G d_jdk_42_method_154_code_10 (by decide) ?_
  refine ok_iconst G (1 : Int32) d_jdk_42_method_154_code_13 rfl ?_
  refine ok_goto G 18 d_jdk_42_method_154_code_14 (by decide) (by decide) ?_
  exact ok_retN G rfl (by simp) d_jdk_42_method_154_code_18 rfl ⟨rfl, rfl⟩ (Nat.le_of_ble_eq_true rfl) (Nat.le_of_ble_eq_true rfl)
theorem d_jdk_42_method_56_code_0 : decode jdk_42_method_56_code 0 = .ok (.aload_n 0, 1) := by decide +kernel
theorem d_jdk_42_method_56_code_1 : decode jdk_42_method_56_code 1 = .ok (.invokevirtual 492, 3) := by decide +kernel
theorem pd11 : parseMethodDescriptor "()Z" = some ⟨[], some .boolean⟩ := by decide +kernel
theorem d_jdk_42_method_56_code_4 : decode jdk_42_method_56_code 4 = .ok (.ifCond .eq 12, 3) := by decide +kernel
theorem d_jdk_42_method_56_code_7 : decode jdk_42_method_56_code 7 = .ok (.aload_n 0, 1) := by decide +kernel
theorem d_jdk_42_method_56_code_8 : decode jdk_42_method_56_code 8 = .ok (.getfield 9, 3) := by decide +kernel
theorem d_jdk_42_method_56_code_11 : decode jdk_42_method_56_code 11 = .ok (.iload_n 1, 1) := by decide +kernel
theorem d_jdk_42_method_56_code_12 : decode jdk_42_method_56_code 12 = .ok (.invokestatic 495, 3) := by decide +kernel
theorem d_jdk_42_method_56_code_15 : decode jdk_42_method_56_code 15 = .ok (.ireturn, 1) := by decide +kernel
def R_c_charAt : Room := { frames := 3, cells := 0, slots := 0, locals := 40 }
theorem pl_b11 : plainFor (⟨"java/lang/String", "charAt", "(I)C"⟩ : MethodName) = true := plainFor_of_name (by first | (simp [plainName, overriddenIn]; done) | decide +kernel)
set_option maxRecDepth 65536 in
set_option maxHeartbeats 40000000 in
theorem c_charAt {l : Launch} {Z : State} {a0 : Array Value} {n0 : Nat} {h0 : Heap} (C : Cx Z a0) (hO : Old Z n0 h0) {x t : Addr} {i ch : Int32} {cs : List Int32} (S : LStr Z h0 x t cs) (k : Nat) (hk : k < cs.length) (hki : i = Int32.ofNat k) (hck : cs.getD k 0 = ch) :
    Con false l Z [] n0 (⟨"java/lang/String", "charAt", "(I)C"⟩ : MethodName) jdk_42_method_56_code 2 (some .char) R_c_charAt #[(.ref x), (.int i)] h0 [] (fun v h => v = some (.int ch) ∧ h0 = h) := by
  refine Con.intro (a0 := a0) pl_b11 hO (fun q => nomatch q) ?_
  intro p e s m below meth c G
  refine ok_as (mkF m 0 #[.val (.ref x), .val (.int i)] []) (by first | rfl | (simp [entryFrame, mkF, argsToLocals, Value.category]; done)) ?_
  obtain ⟨E, FC, FV, ⟨kb, V⟩, hla, hle⟩ := id S
  have hch : Lat ch := by rw [← hck]; exact hla _ (getD_mem hk)
  have hi : ¬ i < 0 ∧ i < Int32.ofNat cs.length := by subst hki; exact ⟨i32_nn (by omega), (i32_lt (by omega) (by omega)).mpr hk⟩
  have hv : (cs.map lo8).getD i.toNatClampNeg (.int 0) = lo8 ch := by subst hki hck; rw [i32_clamp (by omega)]; exact getD_map hk
  refine ok_aloadN G d_jdk_42_method_56_code_0 rfl rfl ?_
  refine ok_virtual G (a := x) (y0 := (⟨"java/lang/String", "isLatin1", "()Z"⟩ : MethodName)) (y := (⟨"java/lang/String", "isLatin1", "()Z"⟩ : MethodName)) (argsL := []) (rest := []) E (C.w57) (C.w58) (C.w60) (fun vm hZ => notFace_of_selects (args := #[]) (mvT (s := s.setVm vm) hZ (C.w60))) (C.w59) (C.w7) (C.w61) (by decide) pd11 (c_isL1 C hO S) rfl rfl rfl d_jdk_42_method_56_code_1 (Nat.le_of_ble_eq_true rfl) (Nat.le_of_ble_eq_true rfl) (Nat.le_of_ble_eq_true rfl) (Nat.le_of_ble_eq_true rfl) (fun _ q => nomatch q) ?_
  rintro _ _ _ ⟨rfl, rfl⟩
  refine ok_as (mkF m 4 #[.val (.ref x), .val (.int i)] [(.int (1 : Int32))]) rfl ?_
  refine ok_ifeqN G d_jdk_42_method_56_code_4 (by decide) ?_
  refine ok_aloadN G d_jdk_42_method_56_code_7 rfl rfl ?_
  refine ok_getF G (host := "") (Or.inl (C.w25)) Via.refl FV d_jdk_42_method_56_code_8 ?_
  refine ok_iloadN G d_jdk_42_method_56_code_11 rfl ?_
  refine ok_static G (argsL := [(.ref t), (.int i)]) (rest := []) (C.w62) (C.w63) (C.w64) (C.w65) (by decide) pd5 (c_l1at (ch := ch) C hO V hi hv hch) rfl rfl rfl d_jdk_42_method_56_code_12 (Nat.le_of_ble_eq_true rfl) (Nat.le_of_ble_eq_true rfl) (Nat.le_of_ble_eq_true rfl) (Nat.le_of_ble_eq_true rfl) (fun _ q => nomatch q) ?_
  rintro _ _ _ ⟨rfl, rfl⟩
  refine ok_as (mkF m 15 #[.val (.ref x), .val (.int i)] [(.int ch)]) rfl ?_
  exact ok_retN G rfl (by simp) d_jdk_42_method_56_code_15 (congrArg Value.int hch.nar) ⟨rfl, rfl⟩ (Nat.le_of_ble_eq_true rfl) (Nat.le_of_ble_eq_true rfl)
theorem d_jdk_52_method_91_code_0 : decode jdk_52_method_91_code 0 = .ok (.iload_n 0, 1) := by decide +kernel
theorem d_jdk_52_method_91_code_1 : decode jdk_52_method_91_code 1 = .ok (.aload_n 1, 1) := by decide +kernel
theorem d_jdk_52_method_91_code_2 : decode jdk_52_method_91_code 2 = .ok (.invokestatic 48, 3) := by decide +kernel
theorem pd12 : parseMethodDescriptor "([B)I" = some ⟨[(.array .byte)], some .int⟩ := by decide +kernel
theorem d_jdk_52_method_91_code_5 : decode jdk_52_method_91_code 5 = .ok (.invokestatic 414, 3) := by decide +kernel
theorem d_jdk_52_method_91_code_8 : decode jdk_52_method_91_code 8 = .ok (.return_, 1) := by decide +kernel
def R_d_uci : Room := { frames := 2, cells := 0, slots := 0, locals := 27 }
theorem pl_b25 : plainFor (⟨"java/lang/StringUTF16", "checkIndex", "(I[B)V"⟩ : MethodName) = true := plainFor_of_name (by first | (simp [plainName, overriddenIn]; done) | decide +kernel)
set_option maxRecDepth 65536 in
set_option maxHeartbeats 40000000 in
theorem d_uci {l : Launch} {Z : State} {a0 : Array Value} {n0 : Nat} {h0 : Heap} (C : Cx Z a0) (hO : Old Z n0 h0) {i : Int32} {t : Addr} {kb : ClassId} {n : Nat} {vs : List Value} {dv : Value} (V : Arv Z h0 t kb .byte (Int32.ofNat (2 * n)) vs dv) (hn : n ≤ 8) (hi : ¬ i < 0 ∧ i < Int32.ofNat n) :
    Con false l Z [] n0 (⟨"java/lang/StringUTF16", "checkIndex", "(I[B)V"⟩ : MethodName) jdk_52_method_91_code 2 none R_d_uci #[(.int i), (.ref t)] h0 [] (fun v h => v = none ∧ h0 = h) := by
  refine Con.intro (a0 := a0) pl_b25 hO (fun q => nomatch q) ?_
  intro p e s m below meth c G
  refine ok_as (mkF m 0 #[.val (.int i), .val (.ref t)] []) (by first | rfl | (simp [entryFrame, mkF, argsToLocals, Value.category]; done)) ?_
  refine ok_iloadN G d_jdk_52_method_91_code_0 rfl ?_
  refine ok_aloadN G d_jdk_52_method_91_code_1 rfl rfl ?_
  refine ok_static G (argsL := [(.ref t)]) (rest := [(.int i)]) (C.w108) (C.w109) (C.w44) (C.w110) (by decide) pd12 (d_len (k := n) C hO V hn) rfl rfl rfl d_jdk_52_method_91_code_2 (Nat.le_of_ble_eq_true rfl) (Nat.le_of_ble_eq_true rfl) (Nat.le_of_ble_eq_true rfl) (Nat.le_of_ble_eq_true rfl) (fun _ q => nomatch q) ?_
  rintro _ _ _ ⟨rfl, rfl⟩
  refine ok_as (mkF m 5 #[.val (.int i), .val (.ref t)] [(.int (Int32.ofNat n)), (.int i)]) rfl ?_
  refine ok_static G (argsL := [(.int i), (.int (Int32.ofNat n))]) (rest := []) (C.w111) (C.w67) (C.w7) (C.w68) (by decide) pd10 (c_sci C hO hi) rfl rfl rfl d_jdk_52_method_91_code_5 (Nat.le_of_ble_eq_true rfl) (Nat.le_of_ble_eq_true rfl) (Nat.le_of_ble_eq_true rfl) (Nat.le_of_ble_eq_true rfl) (fun _ q => nomatch q) ?_
  rintro _ _ _ ⟨rfl, rfl⟩
  refine ok_as (mkF m 8 #[.val (.int i), .val (.ref t)] []) rfl ?_
  exact ok_return G rfl d_jdk_52_method_91_code_8 ⟨rfl, rfl⟩ (Nat.le_of_ble_eq_true rfl) (Nat.le_of_ble_eq_true rfl)
theorem d_jdk_52_method_83_code_0 : decode jdk_52_method_83_code 0 = .ok (.iload_n 1, 1) := by decide +kernel
theorem d_jdk_52_method_83_code_1 : decode jdk_52_method_83_code 1 = .ok (.aload_n 0, 1) := by decide +kernel
theorem d_jdk_52_method_83_code_2 : decode jdk_52_method_83_code 2 = .ok (.invokestatic 67, 3) := by decide +kernel
theorem pd13 : parseMethodDescriptor "(I[B)V" = some ⟨[.int, (.array .byte)], none⟩ := by decide +kernel
theorem d_jdk_52_method_83_code_5 : decode jdk_52_method_83_code 5 = .ok (.aload_n 0, 1) := by decide +kernel
theorem d_jdk_52_method_83_code_6 : decode jdk_52_method_83_code 6 = .ok (.iload_n 1, 1) := by decide +kernel
theorem d_jdk_52_method_83_code_7 : decode jdk_52_method_83_code 7 = .ok (.invokestatic 71, 3) := by decide +kernel
theorem d_jdk_52_method_83_code_10 : decode jdk_52_method_83_code 10 = .ok (.ireturn, 1) := by decide +kernel
def R_d_uat : Room := { frames := 3, cells := 0, slots := 0, locals := 40 }
theorem pl_b24 : plainFor (⟨"java/lang/StringUTF16", "charAt", "([BI)C"⟩ : MethodName) = true := plainFor_of_name (by first | (simp [plainName, overriddenIn]; done) | decide +kernel)
set_option maxRecDepth 65536 in
set_option maxHeartbeats 40000000 in
theorem d_uat {l : Launch} {Z : State} {a0 : Array Value} {n0 : Nat} {h0 : Heap} (C : Cx Z a0) (hO : Old Z n0 h0) {t : Addr} {kb : ClassId} {n k : Nat} {ch : Int32} {vs : List Value} {dv : Value} (V : Arv Z h0 t kb .byte (Int32.ofNat (2 * n)) vs dv) (hn : n ≤ 8) (hk : k < n) (hi : ¬ Int32.ofNat k < 0 ∧ Int32.ofNat k < Int32.ofNat n) (hlo : vs.getD (2 * k) dv = lo8 ch) (hhi : vs.getD (2 * k + 1) dv = hi8 ch) (hch : Chr ch) :
    Con false l Z [] n0 (⟨"java/lang/StringUTF16", "charAt", "([BI)C"⟩ : MethodName) jdk_52_method_83_code 2 (some .char) R_d_uat #[(.ref t), (.int (Int32.ofNat k))] h0 [] (fun v h => v = some (.int ch) ∧ h0 = h) := by
  refine Con.intro (a0 := a0) pl_b24 hO (fun q => nomatch q) ?_
  intro p e s m below meth c G
  refine ok_as (mkF m 0 #[.val (.ref t), .val (.int (Int32.ofNat k))] []) (by first | rfl | (simp [entryFrame, mkF, argsToLocals, Value.category]; done)) ?_
  refine ok_iloadN G d_jdk_52_method_83_code_0 rfl ?_
  refine ok_aloadN G d_jdk_52_method_83_code_1 rfl rfl ?_
  refine ok_static G (argsL := [(.int (Int32.ofNat k)), (.ref t)]) (rest := []) (C.w105) (C.w106) (C.w44) (C.w107) (by decide) pd13 (d_uci C hO V hn hi) rfl rfl rfl d_jdk_52_method_83_code_2 (Nat.le_of_ble_eq_true rfl) (Nat.le_of_ble_eq_true rfl) (Nat.le_of_ble_eq_true rfl) (Nat.le_of_ble_eq_true rfl) (fun _ q => nomatch q) ?_
  rintro _ _ _ ⟨rfl, rfl⟩
  refine ok_as (mkF m 5 #[.val (.ref t), .val (.int (Int32.ofNat k))] []) rfl ?_
  refine ok_aloadN G d_jdk_52_method_83_code_5 rfl rfl ?_
  refine ok_iloadN G d_jdk_52_method_83_code_6 rfl ?_
  refine ok_static G (argsL := [(.ref t), (.int (Int32.ofNat k))]) (rest := []) (C.w99) (C.w100) (C.w44) (C.w101) (by decide) pd5 (d_get (ch := ch) (k := k) C hO V hlo hhi (by omega) (by omega) hch) rfl rfl rfl d_jdk_52_method_83_code_7 (Nat.le_of_ble_eq_true rfl) (Nat.le_of_ble_eq_true rfl) (Nat.le_of_ble_eq_true rfl) (Nat.le_of_ble_eq_true rfl) (fun _ q => nomatch q) ?_
  rintro _ _ _ ⟨rfl, rfl⟩
  refine ok_as (mkF m 10 #[.val (.ref t), .val (.int (Int32.ofNat k))] [(.int ch)]) rfl ?_
  exact ok_retN G rfl (by simp) d_jdk_52_method_83_code_10 (congrArg Value.int hch.nar) ⟨rfl, rfl⟩ (Nat.le_of_ble_eq_true rfl) (Nat.le_of_ble_eq_true rfl)
theorem d_jdk_42_method_154_code_17 : decode jdk_42_method_154_code 17 = .ok (.iconst 0, 1) := by decide +kernel
def R_d_isL1 : Room := { frames := 0, cells := 0, slots := 0, locals := 0 }
set_option maxRecDepth 65536 in
set_option maxHeartbeats 40000000 in
theorem d_isL1 {l : Launch} {Z : State} {a0 : Array Value} {n0 : Nat} {h0 : Heap} (C : Cx Z a0) (hO : Old Z n0 h0) {x t : Addr} {cs : List Int32} (S : WStr Z h0 x t cs) :
    Con false l Z [] n0 (⟨"java/lang/String", "isLatin1", "()Z"⟩ : MethodName) jdk_42_method_154_code 1 (some .boolean) R_d_isL1 #[(.ref x)] h0 [] (fun v h => v = some (.int 0) ∧ h0 = h) := by
  refine Con.intro (a0 := a0) pl_b12 hO (fun q => nomatch q) ?_
  intro p e s m below meth c G
  refine ok_as (mkF m 0 #[.val (.ref x)] []) (by first | rfl | (simp [entryFrame, mkF, argsToLocals, Value.category]; done)) ?_
  obtain ⟨E, FC, FV, ⟨kb, V⟩, hcw, hlw⟩ := id S
  obtain ⟨cz, hCS, hcz⟩ := C.compact
  refine ok_getS G (host := "") (Or.inl (C.w41)) Via.refl hCS d_jdk_42_method_154_code_0 ?_
  refine ok_ifeqN G d_jdk_42_method_154_code_3 hcz ?_
  refine ok_aloadN G d_jdk_42_method_154_code_6 rfl rfl ?_
  refine ok_getF G (host := "") (Or.inl (C.w26)) Via.refl FC d_jdk_42_method_154_code_7 ?_
  refine ok_ifneY G 17 d_jdk_42_method_154_code_10 (by decide) (by decide) (by decide) ?_
  refine ok_iconst G (0 : Int32) d_jdk_42_method_154_code_17 rfl ?_
  exact ok_retN G rfl (by simp) d_jdk_42_method_154_code_18 rfl ⟨rfl, rfl⟩ (Nat.le_of_ble_eq_true rfl) (Nat.le_of_ble_eq_true rfl)
theorem d_jdk_42_method_56_code_16 : decode jdk_42_method_56_code 16 = .ok (.aload_n 0, 1) := by decide +kernel
theorem d_jdk_42_method_56_code_17 : decode jdk_42_method_56_code 17 = .ok (.getfield 9, 3) := by decide +kernel
theorem d_jdk_42_method_56_code_20 : decode jdk_42_method_56_code 20 = .ok (.iload_n 1, 1) := by decide +kernel
theorem d_jdk_42_method_56_code_21 : decode jdk_42_method_56_code 21 = .ok (.invokestatic 498, 3) := by decide +kernel
theorem d_jdk_42_method_56_code_24 : decode jdk_42_method_56_code 24 = .ok (.ireturn, 1) := by decide +kernel
def R_d_charAt : Room := { frames := 4, cells := 0, slots := 0, locals := 53 }
set_option maxRecDepth 65536 in
set_option maxHeartbeats 40000000 in
theorem d_charAt {l : Launch} {Z : State} {a0 : Array Value} {n0 : Nat} {h0 : Heap} (C : Cx Z a0) (hO : Old Z n0 h0) {x t : Addr} {ch : Int32} {cs pre post : List Int32} (SG : GStr Z h0 x t cs) (hcs : cs = pre ++ ch :: post) :
    Con false l Z [] n0 (⟨"java/lang/String", "charAt", "(I)C"⟩ : MethodName) jdk_42_method_56_code 2 (some .char) R_d_charAt #[(.ref x), (.int (Int32.ofNat pre.length))] h0 [] (fun v h => v = some (.int ch) ∧ h0 = h) := by
  refine Con.intro (a0 := a0) pl_b11 hO (fun q => nomatch q) ?_
  intro p e s m below meth c G
  refine ok_as (mkF m 0 #[.val (.ref x), .val (.int (Int32.ofNat pre.length))] []) (by first | rfl | (simp [entryFrame, mkF, argsToLocals, Value.category]; done)) ?_
  have hlen := SG.len
  have hlt : pre.length < cs.length := by rw [hcs]; simp
  have hch : Chr ch := SG.chr ch (by rw [hcs]; simp)
  have hi : ¬ Int32.ofNat pre.length < 0 ∧ Int32.ofNat pre.length < Int32.ofNat cs.length := ⟨i32_nn (by omega), (i32_lt (by omega) (by omega)).mpr hlt⟩
  rcases SG with ⟨S, h8⟩ | S
  · skip
    obtain ⟨E, FC, FV, ⟨kb, V⟩, hla, hle⟩ := id S
    refine ok_aloadN G d_jdk_42_method_56_code_0 rfl rfl ?_
    refine ok_virtual G (a := x) (y0 := (⟨"java/lang/String", "isLatin1", "()Z"⟩ : MethodName)) (y := (⟨"java/lang/String", "isLatin1", "()Z"⟩ : MethodName)) (argsL := []) (rest := []) E (C.w57) (C.w58) (C.w60) (fun vm hZ => notFace_of_selects (args := #[]) (mvT (s := s.setVm vm) hZ (C.w60))) (C.w59) (C.w7) (C.w61) (by decide) pd11 (c_isL1 C hO S) rfl rfl rfl d_jdk_42_method_56_code_1 (Nat.le_of_ble_eq_true rfl) (Nat.le_of_ble_eq_true rfl) (Nat.le_of_ble_eq_true rfl) (Nat.le_of_ble_eq_true rfl) (fun _ q => nomatch q) ?_
    rintro _ _ _ ⟨rfl, rfl⟩
    refine ok_as (mkF m 4 #[.val (.ref x), .val (.int (Int32.ofNat pre.length))] [(.int (1 : Int32))]) rfl ?_
    refine ok_ifeqN G d_jdk_42_method_56_code_4 (by decide) ?_
    refine ok_aloadN G d_jdk_42_method_56_code_7 rfl rfl ?_
    refine ok_getF G (host := "") (Or.inl (C.w25)) Via.refl FV d_jdk_42_method_56_code_8 ?_
    refine ok_iloadN G d_jdk_42_method_56_code_11 rfl ?_
    refine ok_static G (argsL := [(.ref t), (.int (Int32.ofNat pre.length))]) (rest := []) (C.w62) (C.w63) (C.w64) (C.w65) (by decide) pd5 (c_l1at (ch := ch) C hO V hi (by rw [i32_clamp (by omega), hcs]; exact getD_mid _ _ _ _ _) (hla ch (by rw [hcs]; simp))) rfl rfl rfl d_jdk_42_method_56_code_12 (Nat.le_of_ble_eq_true rfl) (Nat.le_of_ble_eq_true rfl) (Nat.le_of_ble_eq_true rfl) (Nat.le_of_ble_eq_true rfl) (fun _ q => nomatch q) ?_
    rintro _ _ _ ⟨rfl, rfl⟩
    refine ok_as (mkF m 15 #[.val (.ref x), .val (.int (Int32.ofNat pre.length))] [(.int ch)]) rfl ?_
    exact ok_retN G rfl (by simp) d_jdk_42_method_56_code_15 (congrArg Value.int hch.nar) ⟨rfl, rfl⟩ (Nat.le_of_ble_eq_true rfl) (Nat.le_of_ble_eq_true rfl)
  · skip
    obtain ⟨E, FC, FV, ⟨kb, V⟩, hcw, hlw⟩ := id S
    refine ok_aloadN G d_jdk_42_method_56_code_0 rfl rfl ?_
    refine ok_virtual G (a := x) (y0 := (⟨"java/lang/String", "isLatin1", "()Z"⟩ : MethodName)) (y := (⟨"java/lang/String", "isLatin1", "()Z"⟩ : MethodName)) (argsL := []) (rest := []) E (C.w57) (C.w58) (C.w60) (fun vm hZ => notFace_of_selects (args := #[]) (mvT (s := s.setVm vm) hZ (C.w60))) (C.w59) (C.w7) (C.w61) (by decide) pd11 (d_isL1 C hO S) rfl rfl rfl d_jdk_42_method_56_code_1 (Nat.le_of_ble_eq_true rfl) (Nat.le_of_ble_eq_true rfl) (Nat.le_of_ble_eq_true rfl) (Nat.le_of_ble_eq_true rfl) (fun _ q => nomatch q) ?_
    rintro _ _ _ ⟨rfl, rfl⟩
    refine ok_as (mkF m 4 #[.val (.ref x), .val (.int (Int32.ofNat pre.length))] [(.int (0 : Int32))]) rfl ?_
    refine ok_ifeqY G 16 d_jdk_42_method_56_code_4 (by decide) (by decide) (by decide) ?_
    refine ok_aloadN G d_jdk_42_method_56_code_16 rfl rfl ?_
    refine ok_getF G (host := "") (Or.inl (C.w25)) Via.refl FV d_jdk_42_method_56_code_17 ?_
    refine ok_iloadN G d_jdk_42_method_56_code_20 rfl ?_
    refine ok_static G (argsL := [(.ref t), (.int (Int32.ofNat pre.length))]) (rest := []) (C.w102) (C.w103) (C.w44) (C.w104) (by decide) pd5 (d_uat (ch := ch) (k := pre.length) (n := cs.length) C hO V hlw (by rw [hcs]; simp) hi (by rw [hcs]; exact u16_lo _ _ _ _) (by rw [hcs]; exact u16_hi _ _ _ _) hch) rfl rfl rfl d_jdk_42_method_56_code_21 (Nat.le_of_ble_eq_true rfl) (Nat.le_of_ble_eq_true rfl) (Nat.le_of_ble_eq_true rfl) (Nat.le_of_ble_eq_true rfl) (fun _ q => nomatch q) ?_
    rintro _ _ _ ⟨rfl, rfl⟩
    refine ok_as (mkF m 24 #[.val (.ref x), .val (.int (Int32.ofNat pre.length))] [(.int ch)]) rfl ?_
    exact ok_retN G rfl (by simp) d_jdk_42_method_56_code_24 (congrArg Value.int hch.nar) ⟨rfl, rfl⟩ (Nat.le_of_ble_eq_true rfl) (Nat.le_of_ble_eq_true rfl)
theorem d_method_5_code_0 : decode method_5_code 0 = .ok (.iload_n 0, 1) := by decide +kernel
theorem d_method_5_code_1 : decode method_5_code 1 = .ok (.ifCond .ne 14, 3) := by decide +kernel
theorem d_method_5_code_15 : decode method_5_code 15 = .ok (.iload_n 0, 1) := by decide +kernel
theorem d_method_5_code_16 : decode method_5_code 16 = .ok (.iconst 1, 1) := by decide +kernel
theorem d_method_5_code_17 : decode method_5_code 17 = .ok (.if_icmp .ne 18, 3) := by decide +kernel
theorem d_method_5_code_35 : decode method_5_code 35 = .ok (.iload_n 0, 1) := by decide +kernel
theorem d_method_5_code_36 : decode method_5_code 36 = .ok (.iconst 2, 1) := by decide +kernel
theorem d_method_5_code_37 : decode method_5_code 37 = .ok (.if_icmp .ne 22, 3) := by decide +kernel
theorem d_method_5_code_59 : decode method_5_code 59 = .ok (.iload_n 0, 1) := by decide +kernel
theorem d_method_5_code_60 : decode method_5_code 60 = .ok (.iconst 3, 1) := by decide +kernel
theorem d_method_5_code_61 : decode method_5_code 61 = .ok (.if_icmp .ne 26, 3) := by decide +kernel
theorem d_method_5_code_87 : decode method_5_code 87 = .ok (.new 28, 3) := by decide +kernel
theorem d_method_5_code_90 : decode method_5_code 90 = .ok (.dup, 1) := by decide +kernel
theorem d_method_5_code_91 : decode method_5_code 91 = .ok (.iconst 4, 1) := by decide +kernel
theorem d_method_5_code_92 : decode method_5_code 92 = .ok (.newarray .char, 2) := by decide +kernel
theorem d_method_5_code_94 : decode method_5_code 94 = .ok (.dup, 1) := by decide +kernel
theorem d_method_5_code_95 : decode method_5_code 95 = .ok (.iconst 0, 1) := by decide +kernel
theorem d_method_5_code_96 : decode method_5_code 96 = .ok (.iload_n 1, 1) := by decide +kernel
theorem d_method_5_code_97 : decode method_5_code 97 = .ok (.castore, 1) := by decide +kernel
theorem d_method_5_code_98 : decode method_5_code 98 = .ok (.dup, 1) := by decide +kernel
theorem d_method_5_code_99 : decode method_5_code 99 = .ok (.iconst 1, 1) := by decide +kernel
theorem d_method_5_code_100 : decode method_5_code 100 = .ok (.iload_n 2, 1) := by decide +kernel
theorem d_method_5_code_101 : decode method_5_code 101 = .ok (.castore, 1) := by decide +kernel
theorem d_method_5_code_102 : decode method_5_code 102 = .ok (.dup, 1) := by decide +kernel
theorem d_method_5_code_103 : decode method_5_code 103 = .ok (.iconst 2, 1) := by decide +kernel
theorem d_method_5_code_104 : decode method_5_code 104 = .ok (.iload_n 3, 1) := by decide +kernel
theorem d_method_5_code_105 : decode method_5_code 105 = .ok (.castore, 1) := by decide +kernel
theorem d_method_5_code_106 : decode method_5_code 106 = .ok (.dup, 1) := by decide +kernel
theorem d_method_5_code_107 : decode method_5_code 107 = .ok (.iconst 3, 1) := by decide +kernel
theorem d_method_5_code_108 : decode method_5_code 108 = .ok (.iload 4, 2) := by decide +kernel
theorem d_method_5_code_110 : decode method_5_code 110 = .ok (.castore, 1) := by decide +kernel
theorem d_method_5_code_111 : decode method_5_code 111 = .ok (.invokespecial 30, 3) := by decide +kernel
theorem pd14 : parseMethodDescriptor "([C)V" = some ⟨[(.array .char)], none⟩ := by decide +kernel
theorem d_method_5_code_114 : decode method_5_code 114 = .ok (.areturn, 1) := by decide +kernel
theorem d_method_5_code_64 : decode method_5_code 64 = .ok (.new 28, 3) := by decide +kernel
theorem d_method_5_code_67 : decode method_5_code 67 = .ok (.dup, 1) := by decide +kernel
theorem d_method_5_code_68 : decode method_5_code 68 = .ok (.iconst 3, 1) := by decide +kernel
theorem d_method_5_code_69 : decode method_5_code 69 = .ok (.newarray .char, 2) := by decide +kernel
theorem d_method_5_code_71 : decode method_5_code 71 = .ok (.dup, 1) := by decide +kernel
theorem d_method_5_code_72 : decode method_5_code 72 = .ok (.iconst 0, 1) := by decide +kernel
theorem d_method_5_code_73 : decode method_5_code 73 = .ok (.iload_n 1, 1) := by decide +kernel
theorem d_method_5_code_74 : decode method_5_code 74 = .ok (.castore, 1) := by decide +kernel
theorem d_method_5_code_75 : decode method_5_code 75 = .ok (.dup, 1) := by decide +kernel
theorem d_method_5_code_76 : decode method_5_code 76 = .ok (.iconst 1, 1) := by decide +kernel
theorem d_method_5_code_77 : decode method_5_code 77 = .ok (.iload_n 2, 1) := by decide +kernel
theorem d_method_5_code_78 : decode method_5_code 78 = .ok (.castore, 1) := by decide +kernel
theorem d_method_5_code_79 : decode method_5_code 79 = .ok (.dup, 1) := by decide +kernel
theorem d_method_5_code_80 : decode method_5_code 80 = .ok (.iconst 2, 1) := by decide +kernel
theorem d_method_5_code_81 : decode method_5_code 81 = .ok (.iload_n 3, 1) := by decide +kernel
theorem d_method_5_code_82 : decode method_5_code 82 = .ok (.castore, 1) := by decide +kernel
theorem d_method_5_code_83 : decode method_5_code 83 = .ok (.invokespecial 30, 3) := by decide +kernel
theorem d_method_5_code_86 : decode method_5_code 86 = .ok (.areturn, 1) := by decide +kernel
theorem d_method_5_code_40 : decode method_5_code 40 = .ok (.new 28, 3) := by decide +kernel
theorem d_method_5_code_43 : decode method_5_code 43 = .ok (.dup, 1) := by decide +kernel
theorem d_method_5_code_44 : decode method_5_code 44 = .ok (.iconst 2, 1) := by decide +kernel
theorem d_method_5_code_45 : decode method_5_code 45 = .ok (.newarray .char, 2) := by decide +kernel
theorem d_method_5_code_47 : decode method_5_code 47 = .ok (.dup, 1) := by decide +kernel
theorem d_method_5_code_48 : decode method_5_code 48 = .ok (.iconst 0, 1) := by decide +kernel
theorem d_method_5_code_49 : decode method_5_code 49 = .ok (.iload_n 1, 1) := by decide +kernel
theorem d_method_5_code_50 : decode method_5_code 50 = .ok (.castore, 1) := by decide +kernel
theorem d_method_5_code_51 : decode method_5_code 51 = .ok (.dup, 1) := by decide +kernel
theorem d_method_5_code_52 : decode method_5_code 52 = .ok (.iconst 1, 1) := by decide +kernel
theorem d_method_5_code_53 : decode method_5_code 53 = .ok (.iload_n 2, 1) := by decide +kernel
theorem d_method_5_code_54 : decode method_5_code 54 = .ok (.castore, 1) := by decide +kernel
theorem d_method_5_code_55 : decode method_5_code 55 = .ok (.invokespecial 30, 3) := by decide +kernel
theorem d_method_5_code_58 : decode method_5_code 58 = .ok (.areturn, 1) := by decide +kernel
theorem d_method_5_code_20 : decode method_5_code 20 = .ok (.new 28, 3) := by decide +kernel
theorem d_method_5_code_23 : decode method_5_code 23 = .ok (.dup, 1) := by decide +kernel
theorem d_method_5_code_24 : decode method_5_code 24 = .ok (.iconst 1, 1) := by decide +kernel
theorem d_method_5_code_25 : decode method_5_code 25 = .ok (.newarray .char, 2) := by decide +kernel
theorem d_method_5_code_27 : decode method_5_code 27 = .ok (.dup, 1) := by decide +kernel
theorem d_method_5_code_28 : decode method_5_code 28 = .ok (.iconst 0, 1) := by decide +kernel
theorem d_method_5_code_29 : decode method_5_code 29 = .ok (.iload_n 1, 1) := by decide +kernel
theorem d_method_5_code_30 : decode method_5_code 30 = .ok (.castore, 1) := by decide +kernel
theorem d_method_5_code_31 : decode method_5_code 31 = .ok (.invokespecial 30, 3) := by decide +kernel
theorem d_method_5_code_34 : decode method_5_code 34 = .ok (.areturn, 1) := by decide +kernel
theorem d_method_5_code_4 : decode method_5_code 4 = .ok (.new 28, 3) := by decide +kernel
theorem d_method_5_code_7 : decode method_5_code 7 = .ok (.dup, 1) := by decide +kernel
theorem d_method_5_code_8 : decode method_5_code 8 = .ok (.iconst 0, 1) := by decide +kernel
theorem d_method_5_code_9 : decode method_5_code 9 = .ok (.newarray .char, 2) := by decide +kernel
theorem d_method_5_code_11 : decode method_5_code 11 = .ok (.invokespecial 30, 3) := by decide +kernel
theorem d_method_5_code_14 : decode method_5_code 14 = .ok (.areturn, 1) := by decide +kernel
def R_c_make : Room := { frames := 6, cells := 6, slots := 40, locals := 88 }
theorem pl_b1 : plainFor (⟨"com/example/logwright/logwright/CharactersSkipLettersPinLaw", "make", "(ICCCC)Ljava/lang/String;"⟩ : MethodName) = true := plainFor_of_name (by first | (simp [plainName, overriddenIn]; done) | decide +kernel)
set_option maxRecDepth 65536 in
set_option maxHeartbeats 40000000 in
theorem c_make {l : Launch} {Z : State} {a0 : Array Value} {n0 : Nat} {h0 : Heap} (C : Cx Z a0) (hO : Old Z n0 h0) (hE : EW Z a0 consts_1) {n : Nat} {c0 c1 c2 c3 : Int32} (hn : n ≤ 4) (l0 : Chr c0) (l1 : Chr c1) (l2 : Chr c2) (l3 : Chr c3) :
    Con true l Z consts_1 n0 (⟨"com/example/logwright/logwright/CharactersSkipLettersPinLaw", "make", "(ICCCC)Ljava/lang/String;"⟩ : MethodName) method_5_code 5 (some (.object "java/lang/String")) R_c_make #[(.int (Int32.ofNat n)), (.int c0), (.int c1), (.int c2), (.int c3)] h0 [] (fun v h => ∃ x t, v = some (.ref x) ∧ h0.size ≤ x ∧ GStr Z h x t ([c0, c1, c2, c3].take n)) := by
  refine Con.intro (a0 := a0) pl_b1 hO (fun _ => hE) ?_
  intro p e s m below meth c G
  refine ok_as (mkF m 0 #[.val (.int (Int32.ofNat n)), .val (.int c0), .val (.int c1), .val (.int c2), .val (.int c3)] []) (by first | rfl | (simp [entryFrame, mkF, argsToLocals, Value.category]; done)) ?_
  refine ok_iloadN G d_method_5_code_0 rfl ?_
  refine ok_ifne G 15 d_method_5_code_1 (by decide) (by decide) (fun cq1 => ?_) (fun cq1 => ?_)
  · skip
    have hn0 : ¬ n = 0 := fun q => cq1 (by rw [q]; rfl)
    refine ok_iloadN G d_method_5_code_15 rfl ?_
    refine ok_iconst G (1 : Int32) d_method_5_code_16 rfl ?_
    refine ok_icmpne G 35 d_method_5_code_17 (by decide) (by decide) (fun cq2 => ?_) (fun cq2 => ?_)
    · skip
      have hn1 : ¬ n = 1 := fun q => cq2 (by rw [q]; rfl)
      refine ok_iloadN G d_method_5_code_35 rfl ?_
      refine ok_iconst G (2 : Int32) d_method_5_code_36 rfl ?_
      refine ok_icmpne G 59 d_method_5_code_37 (by decide) (by decide) (fun cq3 => ?_) (fun cq3 => ?_)
      · skip
        have hn2 : ¬ n = 2 := fun q => cq3 (by rw [q]; rfl)
        refine ok_iloadN G d_method_5_code_59 rfl ?_
        refine ok_iconst G (3 : Int32) d_method_5_code_60 rfl ?_
        refine ok_icmpne G 87 d_method_5_code_61 (by decide) (by decide) (fun cq4 => ?_) (fun cq4 => ?_)
        · skip
          have hn3 : ¬ n = 3 := fun q => cq4 (by rw [q]; rfl)
          have hnk : n = 4 := by omega
          subst hnk
          refine ok_new G (C.w5) (C.w6) (C.w7) d_method_5_code_87 (Nat.le_of_ble_eq_true rfl) (Nat.le_of_ble_eq_true rfl) ?_
          intro hp6 ob5 eq_ob5 K7 g_ob5 lb_ob5 E_ob5 D_ob5
          have F_ob5_value : Fld Z hp6 ob5 "java/lang/String" "value" "[B" .null := D_ob5 _ _ _ (.array .byte) (Or.inr (C.w21)) (by decide)
          have F_ob5_coder : Fld Z hp6 ob5 "java/lang/String" "coder" "B" (.int (0 : Int32)) := D_ob5 _ _ _ .byte (Or.inr (C.w22)) (by decide)
          refine ok_dup G d_method_5_code_90 rfl ?_
          refine ok_iconst G (4 : Int32) d_method_5_code_91 rfl ?_
          refine ok_newP G (aty := .char) (C.w8) d_method_5_code_92 (by decide) 4 (by decide) (by decide) (Nat.le_of_ble_eq_true rfl) (Nat.le_of_ble_eq_true rfl) ?_
          intro hp9 ob8 k_ob8 eq_ob8 K10 g_ob8 lb_ob8 V_ob8
          have ne_ob5_ob8 : ob5 ≠ ob8 := Nat.ne_of_lt (Nat.lt_of_lt_of_le E_ob5.lt (Nat.le_of_eq eq_ob8.symm))
          replace E_ob5 := E_ob5.keep K10
          replace F_ob5_value := F_ob5_value.keep K10 nin0
          replace F_ob5_coder := F_ob5_coder.keep K10 nin0
          replace V_ob8 : Arv Z hp9 ob8 k_ob8 .char (4 : Int32) [(.int (0 : Int32)), (.int (0 : Int32)), (.int (0 : Int32)), (.int (0 : Int32))] (.int (0 : Int32)) := V_ob8.pad (pad_rep [] (.int (0 : Int32)) 4)
          refine ok_dup G d_method_5_code_94 rfl ?_
          refine ok_iconst G (0 : Int32) d_method_5_code_95 rfl ?_
          refine ok_iloadN G d_method_5_code_96 rfl ?_
          refine ok_castore G c0 0 V_ob8 ⟨by decide, by decide⟩ rfl (Nat.le_of_ble_eq_true rfl) (Chr.nar l0) d_method_5_code_97 g_ob8 (Or.inr lb_ob8) (SafeFor.mem (List.mem_of_getElem? (i := 0) rfl)) ?_
          intro hp11 K12 Vn
          replace E_ob5 := E_ob5.keep K12
          replace F_ob5_value := F_ob5_value.keep K12 (ninS ne_ob5_ob8 nin0)
          replace F_ob5_coder := F_ob5_coder.keep K12 (ninS ne_ob5_ob8 nin0)
          replace V_ob8 : Arv Z hp11 ob8 k_ob8 .char (4 : Int32) [(.int c0), (.int (0 : Int32)), (.int (0 : Int32)), (.int (0 : Int32))] (.int (0 : Int32)) := Vn
          clear Vn
          refine ok_dup G d_method_5_code_98 rfl ?_
          refine ok_iconst G (1 : Int32) d_method_5_code_99 rfl ?_
          refine ok_iloadN G d_method_5_code_100 rfl ?_
          refine ok_castore G c1 1 V_ob8 ⟨by decide, by decide⟩ rfl (Nat.le_of_ble_eq_true rfl) (Chr.nar l1) d_method_5_code_101 g_ob8 (Or.inr lb_ob8) (SafeFor.mem (List.mem_of_getElem? (i := 0) rfl)) ?_
          intro hp13 K14 Vn
          replace E_ob5 := E_ob5.keep K14
          replace F_ob5_value := F_ob5_value.keep K14 (ninS ne_ob5_ob8 nin0)
          replace F_ob5_coder := F_ob5_coder.keep K14 (ninS ne_ob5_ob8 nin0)
          replace V_ob8 : Arv Z hp13 ob8 k_ob8 .char (4 : Int32) [(.int c0), (.int c1), (.int (0 : Int32)), (.int (0 : Int32))] (.int (0 : Int32)) := Vn
          clear Vn
          refine ok_dup G d_method_5_code_102 rfl ?_
          refine ok_iconst G (2 : Int32) d_method_5_code_103 rfl ?_
          refine ok_iloadN G d_method_5_code_104 rfl ?_
          refine ok_castore G c2 2 V_ob8 ⟨by decide, by decide⟩ rfl (Nat.le_of_ble_eq_true rfl) (Chr.nar l2) d_method_5_code_105 g_ob8 (Or.inr lb_ob8) (SafeFor.mem (List.mem_of_getElem? (i := 0) rfl)) ?_
          intro hp15 K16 Vn
          replace E_ob5 := E_ob5.keep K16
          replace F_ob5_value := F_ob5_value.keep K16 (ninS ne_ob5_ob8 nin0)
          replace F_ob5_coder := F_ob5_coder.keep K16 (ninS ne_ob5_ob8 nin0)
          replace V_ob8 : Arv Z hp15 ob8 k_ob8 .char (4 : Int32) [(.int c0), (.int c1), (.int c2), (.int (0 : Int32))] (.int (0 : Int32)) := Vn
          clear Vn
          refine ok_dup G d_method_5_code_106 rfl ?_
          refine ok_iconst G (3 : Int32) d_method_5_code_107 rfl ?_
          refine ok_iload G d_method_5_code_108 rfl ?_
          refine ok_castore G c3 3 V_ob8 ⟨by decide, by decide⟩ rfl (Nat.le_of_ble_eq_true rfl) (Chr.nar l3) d_method_5_code_110 g_ob8 (Or.inr lb_ob8) (SafeFor.mem (List.mem_of_getElem? (i := 0) rfl)) ?_
          intro hp17 K18 Vn
          replace E_ob5 := E_ob5.keep K18
          replace F_ob5_value := F_ob5_value.keep K18 (ninS ne_ob5_ob8 nin0)
          replace F_ob5_coder := F_ob5_coder.keep K18 (ninS ne_ob5_ob8 nin0)
          replace V_ob8 : Arv Z hp17 ob8 k_ob8 .char (4 : Int32) [(.int c0), (.int c1), (.int c2), (.int c3)] (.int (0 : Int32)) := Vn
          clear Vn
          refine ok_old (fun hO_hp17 => ?_)
          refine ok_init G (a := ob5) (argsL := [(.ref ob8)]) (rest := [(.ref ob5)]) rfl (C.w9) (C.w10) (C.w7) (C.w11) (by decide) pd14 (d_init1 (cs := [c0, c1, c2, c3]) C hO_hp17 E_ob5 F_ob5_value F_ob5_coder g_ob5 V_ob8 (Nat.le_of_ble_eq_true rfl) (Nat.le_of_ble_eq_true rfl) (allL l0 (allL l1 (allL l2 (allL l3 (fun _ q => nomatch q))))) ne_ob5_ob8) rfl rfl rfl d_method_5_code_111 (Nat.le_of_ble_eq_true rfl) (Nat.le_of_ble_eq_true rfl) (Nat.le_of_ble_eq_true rfl) (Nat.le_of_ble_eq_true rfl) (allS ⟨(Or.inr lb_ob5), (SafeFor.mem (List.mem_of_getElem? (i := 1) rfl))⟩ (fun _ q => nomatch q)) ?_
          rintro _ hp20 K21 ⟨rfl, tr19, S_ob5⟩
          replace E_ob5 := E_ob5.keep K21
          replace V_ob8 := V_ob8.keep K21 (ninS (Ne.symm ne_ob5_ob8) nin0)
          refine ok_as (mkF m 114 #[.val (.int (Int32.ofNat 4)), .val (.int c0), .val (.int c1), .val (.int c2), .val (.int c3)] [(.ref ob5)]) rfl ?_
          exact ok_retA G rfl rfl rfl d_method_5_code_114 rfl ⟨_, _, rfl, lb_ob5, S_ob5⟩ (Nat.le_of_ble_eq_true rfl) (Nat.le_of_ble_eq_true rfl)
        · skip
          have hnk : n = 3 := (i32_eq (i := n) (j := 3) (by omega) (by omega)).mp cq4
          subst hnk
          refine ok_new G (C.w5) (C.w6) (C.w7) d_method_5_code_64 (Nat.le_of_ble_eq_true rfl) (Nat.le_of_ble_eq_true rfl) ?_
          intro hp23 ob22 eq_ob22 K24 g_ob22 lb_ob22 E_ob22 D_ob22
          have F_ob22_value : Fld Z hp23 ob22 "java/lang/String" "value" "[B" .null := D_ob22 _ _ _ (.array .byte) (Or.inr (C.w21)) (by decide)
          have F_ob22_coder : Fld Z hp23 ob22 "java/lang/String" "coder" "B" (.int (0 : Int32)) := D_ob22 _ _ _ .byte (Or.inr (C.w22)) (by decide)
          refine ok_dup G d_method_5_code_67 rfl ?_
          refine ok_iconst G (3 : Int32) d_method_5_code_68 rfl ?_
          refine ok_newP G (aty := .char) (C.w8) d_method_5_code_69 (by decide) 3 (by decide) (by decide) (Nat.le_of_ble_eq_true rfl) (Nat.le_of_ble_eq_true rfl) ?_
          intro hp26 ob25 k_ob25 eq_ob25 K27 g_ob25 lb_ob25 V_ob25
          have ne_ob22_ob25 : ob22 ≠ ob25 := Nat.ne_of_lt (Nat.lt_of_lt_of_le E_ob22.lt (Nat.le_of_eq eq_ob25.symm))
          replace E_ob22 := E_ob22.keep K27
          replace F_ob22_value := F_ob22_value.keep K27 nin0
          replace F_ob22_coder := F_ob22_coder.keep K27 nin0
          replace V_ob25 : Arv Z hp26 ob25 k_ob25 .char (3 : Int32) [(.int (0 : Int32)), (.int (0 : Int32)), (.int (0 : Int32))] (.int (0 : Int32)) := V_ob25.pad (pad_rep [] (.int (0 : Int32)) 3)
          refine ok_dup G d_method_5_code_71 rfl ?_
          refine ok_iconst G (0 : Int32) d_method_5_code_72 rfl ?_
          refine ok_iloadN G d_method_5_code_73 rfl ?_
          refine ok_castore G c0 0 V_ob25 ⟨by decide, by decide⟩ rfl (Nat.le_of_ble_eq_true rfl) (Chr.nar l0) d_method_5_code_74 g_ob25 (Or.inr lb_ob25) (SafeFor.mem (List.mem_of_getElem? (i := 0) rfl)) ?_
          intro hp28 K29 Vn
          replace E_ob22 := E_ob22.keep K29
          replace F_ob22_value := F_ob22_value.keep K29 (ninS ne_ob22_ob25 nin0)
          replace F_ob22_coder := F_ob22_coder.keep K29 (ninS ne_ob22_ob25 nin0)
          replace V_ob25 : Arv Z hp28 ob25 k_ob25 .char (3 : Int32) [(.int c0), (.int (0 : Int32)), (.int (0 : Int32))] (.int (0 : Int32)) := Vn
          clear Vn
          refine ok_dup G d_method_5_code_75 rfl ?_
          refine ok_iconst G (1 : Int32) d_method_5_code_76 rfl ?_
          refine ok_iloadN G d_method_5_code_77 rfl ?_
          refine ok_castore G c1 1 V_ob25 ⟨by decide, by decide⟩ rfl (Nat.le_of_ble_eq_true rfl) (Chr.nar l1) d_method_5_code_78 g_ob25 (Or.inr lb_ob25) (SafeFor.mem (List.mem_of_getElem? (i := 0) rfl)) ?_
          intro hp30 K31 Vn
          replace E_ob22 := E_ob22.keep K31
          replace F_ob22_value := F_ob22_value.keep K31 (ninS ne_ob22_ob25 nin0)
          replace F_ob22_coder := F_ob22_coder.keep K31 (ninS ne_ob22_ob25 nin0)
          replace V_ob25 : Arv Z hp30 ob25 k_ob25 .char (3 : Int32) [(.int c0), (.int c1), (.int (0 : Int32))] (.int (0 : Int32)) := Vn
          clear Vn
          refine ok_dup G d_method_5_code_79 rfl ?_
          refine ok_iconst G (2 : Int32) d_method_5_code_80 rfl ?_
          refine ok_iloadN G d_method_5_code_81 rfl ?_
          refine ok_castore G c2 2 V_ob25 ⟨by decide, by decide⟩ rfl (Nat.le_of_ble_eq_true rfl) (Chr.nar l2) d_method_5_code_82 g_ob25 (Or.inr lb_ob25) (SafeFor.mem (List.mem_of_getElem? (i := 0) rfl)) ?_
          intro hp32 K33 Vn
          replace E_ob22 := E_ob22.keep K33
          replace F_ob22_value := F_ob22_value.keep K33 (ninS ne_ob22_ob25 nin0)
          replace F_ob22_coder := F_ob22_coder.keep K33 (ninS ne_ob22_ob25 nin0)
          replace V_ob25 : Arv Z hp32 ob25 k_ob25 .char (3 : Int32) [(.int c0), (.int c1), (.int c2)] (.int (0 : Int32)) := Vn
          clear Vn
          refine ok_old (fun hO_hp32 => ?_)
          refine ok_init G (a := ob22) (argsL := [(.ref ob25)]) (rest := [(.ref ob22)]) rfl (C.w9) (C.w10) (C.w7) (C.w11) (by decide) pd14 (d_init1 (cs := [c0, c1, c2]) C hO_hp32 E_ob22 F_ob22_value F_ob22_coder g_ob22 V_ob25 (Nat.le_of_ble_eq_true rfl) (Nat.le_of_ble_eq_true rfl) (allL l0 (allL l1 (allL l2 (fun _ q => nomatch q)))) ne_ob22_ob25) rfl rfl rfl d_method_5_code_83 (Nat.le_of_ble_eq_true rfl) (Nat.le_of_ble_eq_true rfl) (Nat.le_of_ble_eq_true rfl) (Nat.le_of_ble_eq_true rfl) (allS ⟨(Or.inr lb_ob22), (SafeFor.mem (List.mem_of_getElem? (i := 1) rfl))⟩ (fun _ q => nomatch q)) ?_
          rintro _ hp35 K36 ⟨rfl, tr34, S_ob22⟩
          replace E_ob22 := E_ob22.keep K36
          replace V_ob25 := V_ob25.keep K36 (ninS (Ne.symm ne_ob22_ob25) nin0)
          refine ok_as (mkF m 86 #[.val (.int (Int32.ofNat 3)), .val (.int c0), .val (.int c1), .val (.int c2), .val (.int c3)] [(.ref ob22)]) rfl ?_
          exact ok_retA G rfl rfl rfl d_method_5_code_86 rfl ⟨_, _, rfl, lb_ob22, S_ob22⟩ (Nat.le_of_ble_eq_true rfl) (Nat.le_of_ble_eq_true rfl)
      · skip
        have hnk : n = 2 := (i32_eq (i := n) (j := 2) (by omega) (by omega)).mp cq3
        subst hnk
        refine ok_new G (C.w5) (C.w6) (C.w7) d_method_5_code_40 (Nat.le_of_ble_eq_true rfl) (Nat.le_of_ble_eq_true rfl) ?_
        intro hp38 ob37 eq_ob37 K39 g_ob37 lb_ob37 E_ob37 D_ob37
        have F_ob37_value : Fld Z hp38 ob37 "java/lang/String" "value" "[B" .null := D_ob37 _ _ _ (.array .byte) (Or.inr (C.w21)) (by decide)
        have F_ob37_coder : Fld Z hp38 ob37 "java/lang/String" "coder" "B" (.int (0 : Int32)) := D_ob37 _ _ _ .byte (Or.inr (C.w22)) (by decide)
        refine ok_dup G d_method_5_code_43 rfl ?_
        refine ok_iconst G (2 : Int32) d_method_5_code_44 rfl ?_
        refine ok_newP G (aty := .char) (C.w8) d_method_5_code_45 (by decide) 2 (by decide) (by decide) (Nat.le_of_ble_eq_true rfl) (Nat.le_of_ble_eq_true rfl) ?_
        intro hp41 ob40 k_ob40 eq_ob40 K42 g_ob40 lb_ob40 V_ob40
        have ne_ob37_ob40 : ob37 ≠ ob40 := Nat.ne_of_lt (Nat.lt_of_lt_of_le E_ob37.lt (Nat.le_of_eq eq_ob40.symm))
        replace E_ob37 := E_ob37.keep K42
        replace F_ob37_value := F_ob37_value.keep K42 nin0
        replace F_ob37_coder := F_ob37_coder.keep K42 nin0
        replace V_ob40 : Arv Z hp41 ob40 k_ob40 .char (2 : Int32) [(.int (0 : Int32)), (.int (0 : Int32))] (.int (0 : Int32)) := V_ob40.pad (pad_rep [] (.int (0 : Int32)) 2)
        refine ok_dup G d_method_5_code_47 rfl ?_
        refine ok_iconst G (0 : Int32) d_method_5_code_48 rfl ?_
        refine ok_iloadN G d_method_5_code_49 rfl ?_
        refine ok_castore G c0 0 V_ob40 ⟨by decide, by decide⟩ rfl (Nat.le_of_ble_eq_true rfl) (Chr.nar l0) d_method_5_code_50 g_ob40 (Or.inr lb_ob40) (SafeFor.mem (List.mem_of_getElem? (i := 0) rfl)) ?_
        intro hp43 K44 Vn
        replace E_ob37 := E_ob37.keep K44
        replace F_ob37_value := F_ob37_value.keep K44 (ninS ne_ob37_ob40 nin0)
        replace F_ob37_coder := F_ob37_coder.keep K44 (ninS ne_ob37_ob40 nin0)
        replace V_ob40 : Arv Z hp43 ob40 k_ob40 .char (2 : Int32) [(.int c0), (.int (0 : Int32))] (.int (0 : Int32)) := Vn
        clear Vn
        refine ok_dup G d_method_5_code_51 rfl ?_
        refine ok_iconst G (1 : Int32) d_method_5_code_52 rfl ?_
        refine ok_iloadN G d_method_5_code_53 rfl ?_
        refine ok_castore G c1 1 V_ob40 ⟨by decide, by decide⟩ rfl (Nat.le_of_ble_eq_true rfl) (Chr.nar l1) d_method_5_code_54 g_ob40 (Or.inr lb_ob40) (SafeFor.mem (List.mem_of_getElem? (i := 0) rfl)) ?_
        intro hp45 K46 Vn
        replace E_ob37 := E_ob37.keep K46
        replace F_ob37_value := F_ob37_value.keep K46 (ninS ne_ob37_ob40 nin0)
        replace F_ob37_coder := F_ob37_coder.keep K46 (ninS ne_ob37_ob40 nin0)
        replace V_ob40 : Arv Z hp45 ob40 k_ob40 .char (2 : Int32) [(.int c0), (.int c1)] (.int (0 : Int32)) := Vn
        clear Vn
        refine ok_old (fun hO_hp45 => ?_)
        refine ok_init G (a := ob37) (argsL := [(.ref ob40)]) (rest := [(.ref ob37)]) rfl (C.w9) (C.w10) (C.w7) (C.w11) (by decide) pd14 (d_init1 (cs := [c0, c1]) C hO_hp45 E_ob37 F_ob37_value F_ob37_coder g_ob37 V_ob40 (Nat.le_of_ble_eq_true rfl) (Nat.le_of_ble_eq_true rfl) (allL l0 (allL l1 (fun _ q => nomatch q))) ne_ob37_ob40) rfl rfl rfl d_method_5_code_55 (Nat.le_of_ble_eq_true rfl) (Nat.le_of_ble_eq_true rfl) (Nat.le_of_ble_eq_true rfl) (Nat.le_of_ble_eq_true rfl) (allS ⟨(Or.inr lb_ob37), (SafeFor.mem (List.mem_of_getElem? (i := 1) rfl))⟩ (fun _ q => nomatch q)) ?_
        rintro _ hp48 K49 ⟨rfl, tr47, S_ob37⟩
        replace E_ob37 := E_ob37.keep K49
        replace V_ob40 := V_ob40.keep K49 (ninS (Ne.symm ne_ob37_ob40) nin0)
        refine ok_as (mkF m 58 #[.val (.int (Int32.ofNat 2)), .val (.int c0), .val (.int c1), .val (.int c2), .val (.int c3)] [(.ref ob37)]) rfl ?_
        exact ok_retA G rfl rfl rfl d_method_5_code_58 rfl ⟨_, _, rfl, lb_ob37, S_ob37⟩ (Nat.le_of_ble_eq_true rfl) (Nat.le_of_ble_eq_true rfl)
    · skip
      have hnk : n = 1 := (i32_eq (i := n) (j := 1) (by omega) (by omega)).mp cq2
      subst hnk
      refine ok_new G (C.w5) (C.w6) (C.w7) d_method_5_code_20 (Nat.le_of_ble_eq_true rfl) (Nat.le_of_ble_eq_true rfl) ?_
      intro hp51 ob50 eq_ob50 K52 g_ob50 lb_ob50 E_ob50 D_ob50
      have F_ob50_value : Fld Z hp51 ob50 "java/lang/String" "value" "[B" .null := D_ob50 _ _ _ (.array .byte) (Or.inr (C.w21)) (by decide)
      have F_ob50_coder : Fld Z hp51 ob50 "java/lang/String" "coder" "B" (.int (0 : Int32)) := D_ob50 _ _ _ .byte (Or.inr (C.w22)) (by decide)
      refine ok_dup G d_method_5_code_23 rfl ?_
      refine ok_iconst G (1 : Int32) d_method_5_code_24 rfl ?_
      refine ok_newP G (aty := .char) (C.w8) d_method_5_code_25 (by decide) 1 (by decide) (by decide) (Nat.le_of_ble_eq_true rfl) (Nat.le_of_ble_eq_true rfl) ?_
      intro hp54 ob53 k_ob53 eq_ob53 K55 g_ob53 lb_ob53 V_ob53
      have ne_ob50_ob53 : ob50 ≠ ob53 := Nat.ne_of_lt (Nat.lt_of_lt_of_le E_ob50.lt (Nat.le_of_eq eq_ob53.symm))
      replace E_ob50 := E_ob50.keep K55
      replace F_ob50_value := F_ob50_value.keep K55 nin0
      replace F_ob50_coder := F_ob50_coder.keep K55 nin0
      replace V_ob53 : Arv Z hp54 ob53 k_ob53 .char (1 : Int32) [(.int (0 : Int32))] (.int (0 : Int32)) := V_ob53.pad (pad_rep [] (.int (0 : Int32)) 1)
      refine ok_dup G d_method_5_code_27 rfl ?_
      refine ok_iconst G (0 : Int32) d_method_5_code_28 rfl ?_
      refine ok_iloadN G d_method_5_code_29 rfl ?_
      refine ok_castore G c0 0 V_ob53 ⟨by decide, by decide⟩ rfl (Nat.le_of_ble_eq_true rfl) (Chr.nar l0) d_method_5_code_30 g_ob53 (Or.inr lb_ob53) (SafeFor.mem (List.mem_of_getElem? (i := 0) rfl)) ?_
      intro hp56 K57 Vn
      replace E_ob50 := E_ob50.keep K57
      replace F_ob50_value := F_ob50_value.keep K57 (ninS ne_ob50_ob53 nin0)
      replace F_ob50_coder := F_ob50_coder.keep K57 (ninS ne_ob50_ob53 nin0)
      replace V_ob53 : Arv Z hp56 ob53 k_ob53 .char (1 : Int32) [(.int c0)] (.int (0 : Int32)) := Vn
      clear Vn
      refine ok_old (fun hO_hp56 => ?_)
      refine ok_init G (a := ob50) (argsL := [(.ref ob53)]) (rest := [(.ref ob50)]) rfl (C.w9) (C.w10) (C.w7) (C.w11) (by decide) pd14 (d_init1 (cs := [c0]) C hO_hp56 E_ob50 F_ob50_value F_ob50_coder g_ob50 V_ob53 (Nat.le_of_ble_eq_true rfl) (Nat.le_of_ble_eq_true rfl) (allL l0 (fun _ q => nomatch q)) ne_ob50_ob53) rfl rfl rfl d_method_5_code_31 (Nat.le_of_ble_eq_true rfl) (Nat.le_of_ble_eq_true rfl) (Nat.le_of_ble_eq_true rfl) (Nat.le_of_ble_eq_true rfl) (allS ⟨(Or.inr lb_ob50), (SafeFor.mem (List.mem_of_getElem? (i := 1) rfl))⟩ (fun _ q => nomatch q)) ?_
      rintro _ hp59 K60 ⟨rfl, tr58, S_ob50⟩
      replace E_ob50 := E_ob50.keep K60
      replace V_ob53 := V_ob53.keep K60 (ninS (Ne.symm ne_ob50_ob53) nin0)
      refine ok_as (mkF m 34 #[.val (.int (Int32.ofNat 1)), .val (.int c0), .val (.int c1), .val (.int c2), .val (.int c3)] [(.ref ob50)]) rfl ?_
      exact ok_retA G rfl rfl rfl d_method_5_code_34 rfl ⟨_, _, rfl, lb_ob50, S_ob50⟩ (Nat.le_of_ble_eq_true rfl) (Nat.le_of_ble_eq_true rfl)
  · skip
    have hnk : n = 0 := (i32_eq (i := n) (j := 0) (by omega) (by omega)).mp cq1
    subst hnk
    refine ok_new G (C.w5) (C.w6) (C.w7) d_method_5_code_4 (Nat.le_of_ble_eq_true rfl) (Nat.le_of_ble_eq_true rfl) ?_
    intro hp62 ob61 eq_ob61 K63 g_ob61 lb_ob61 E_ob61 D_ob61
    have F_ob61_value : Fld Z hp62 ob61 "java/lang/String" "value" "[B" .null := D_ob61 _ _ _ (.array .byte) (Or.inr (C.w21)) (by decide)
    have F_ob61_coder : Fld Z hp62 ob61 "java/lang/String" "coder" "B" (.int (0 : Int32)) := D_ob61 _ _ _ .byte (Or.inr (C.w22)) (by decide)
    refine ok_dup G d_method_5_code_7 rfl ?_
    refine ok_iconst G (0 : Int32) d_method_5_code_8 rfl ?_
    refine ok_newP G (aty := .char) (C.w8) d_method_5_code_9 (by decide) 0 (by decide) (by decide) (Nat.le_of_ble_eq_true rfl) (Nat.le_of_ble_eq_true rfl) ?_
    intro hp65 ob64 k_ob64 eq_ob64 K66 g_ob64 lb_ob64 V_ob64
    have ne_ob61_ob64 : ob61 ≠ ob64 := Nat.ne_of_lt (Nat.lt_of_lt_of_le E_ob61.lt (Nat.le_of_eq eq_ob64.symm))
    replace E_ob61 := E_ob61.keep K66
    replace F_ob61_value := F_ob61_value.keep K66 nin0
    replace F_ob61_coder := F_ob61_coder.keep K66 nin0
    replace V_ob64 : Arv Z hp65 ob64 k_ob64 .char (0 : Int32) [] (.int (0 : Int32)) := V_ob64.pad (pad_rep [] (.int (0 : Int32)) 0)
    refine ok_old (fun hO_hp65 => ?_)
    refine ok_initW G (a := ob61) (argsL := [(.ref ob64)]) (rest := [(.ref ob61)]) rfl (C.w9) (C.w10) (C.w7) (C.w11) (by decide) pd14 (c_init1e C hO_hp65 hE E_ob61 F_ob61_value F_ob61_coder g_ob61 V_ob64 ne_ob61_ob64) rfl rfl rfl d_method_5_code_11 (Nat.le_of_ble_eq_true rfl) (Nat.le_of_ble_eq_true rfl) (Nat.le_of_ble_eq_true rfl) (Nat.le_of_ble_eq_true rfl) rfl (allS (Or.inr lb_ob61) (fun _ q => nomatch q)) ?_
    rintro _ hp68 K69 ⟨rfl, tr67, S_ob61⟩
    replace E_ob61 := E_ob61.keep K69
    replace V_ob64 := V_ob64.keep K69 (ninS (Ne.symm ne_ob61_ob64) nin0)
    refine ok_as (mkF m 14 #[.val (.int (Int32.ofNat 0)), .val (.int c0), .val (.int c1), .val (.int c2), .val (.int c3)] [(.ref ob61)]) rfl ?_
    exact ok_retA G rfl rfl rfl d_method_5_code_14 rfl ⟨_, _, rfl, lb_ob61, Or.inl ⟨S_ob61, (Nat.le_of_ble_eq_true rfl)⟩⟩ (Nat.le_of_ble_eq_true rfl) (Nat.le_of_ble_eq_true rfl)
theorem d_method_3_code_0 : decode method_3_code 0 = .ok (.iload_n 0, 1) := by decide +kernel
theorem d_method_3_code_1 : decode method_3_code 1 = .ok (.bipush 65, 2) := by decide +kernel
theorem d_method_3_code_3 : decode method_3_code 3 = .ok (.if_icmp .lt 11, 3) := by decide +kernel
theorem d_method_3_code_14 : decode method_3_code 14 = .ok (.iload_n 0, 1) := by decide +kernel
theorem d_method_3_code_15 : decode method_3_code 15 = .ok (.bipush 97, 2) := by decide +kernel
theorem d_method_3_code_17 : decode method_3_code 17 = .ok (.if_icmp .lt 11, 3) := by decide +kernel
theorem d_method_3_code_28 : decode method_3_code 28 = .ok (.iconst 0, 1) := by decide +kernel
theorem d_method_3_code_29 : decode method_3_code 29 = .ok (.ireturn, 1) := by decide +kernel
theorem d_method_3_code_20 : decode method_3_code 20 = .ok (.iload_n 0, 1) := by decide +kernel
theorem d_method_3_code_21 : decode method_3_code 21 = .ok (.bipush 122, 2) := by decide +kernel
theorem d_method_3_code_23 : decode method_3_code 23 = .ok (.if_icmp .gt 5, 3) := by decide +kernel
theorem d_method_3_code_26 : decode method_3_code 26 = .ok (.iconst 1, 1) := by decide +kernel
theorem d_method_3_code_27 : decode method_3_code 27 = .ok (.ireturn, 1) := by decide +kernel
theorem d_method_3_code_6 : decode method_3_code 6 = .ok (.iload_n 0, 1) := by decide +kernel
theorem d_method_3_code_7 : decode method_3_code 7 = .ok (.bipush 90, 2) := by decide +kernel
theorem d_method_3_code_9 : decode method_3_code 9 = .ok (.if_icmp .gt 5, 3) := by decide +kernel
theorem d_method_3_code_12 : decode method_3_code 12 = .ok (.iconst 1, 1) := by decide +kernel
theorem d_method_3_code_13 : decode method_3_code 13 = .ok (.ireturn, 1) := by decide +kernel
def R_c_letter : Room := { frames := 0, cells := 0, slots := 0, locals := 0 }
theorem pl_b18 : plainFor (⟨"com/example/logwright/logwright/CharactersSkipLettersPinLaw", "letter", "(C)Z"⟩ : MethodName) = true := plainFor_of_name (by first | (simp [plainName, overriddenIn]; done) | decide +kernel)
set_option maxRecDepth 65536 in
set_option maxHeartbeats 40000000 in
theorem c_letter {l : Launch} {Z : State} {a0 : Array Value} {n0 : Nat} {h0 : Heap} (C : Cx Z a0) (hO : Old Z n0 h0) {ch : Int32} :
    Con false l Z [] n0 (⟨"com/example/logwright/logwright/CharactersSkipLettersPinLaw", "letter", "(C)Z"⟩ : MethodName) method_3_code 1 (some .boolean) R_c_letter #[(.int ch)] h0 [] (fun v h => v = some (.int (if Lt ch then 1 else 0)) ∧ h0 = h) := by
  refine Con.intro (a0 := a0) pl_b18 hO (fun q => nomatch q) ?_
  intro p e s m below meth c G
  refine ok_as (mkF m 0 #[.val (.int ch)] []) (by first | rfl | (simp [entryFrame, mkF, argsToLocals, Value.category]; done)) ?_
  refine ok_iloadN G d_method_3_code_0 rfl ?_
  refine ok_bipush G (65 : Int32) d_method_3_code_1 rfl ?_
  refine ok_icmplt G 14 d_method_3_code_3 (by decide) (by decide) (fun cq1 => ?_) (fun cq1 => ?_)
  · skip
    refine ok_iloadN G d_method_3_code_14 rfl ?_
    refine ok_bipush G (97 : Int32) d_method_3_code_15 rfl ?_
    refine ok_icmplt G 28 d_method_3_code_17 (by decide) (by decide) (fun cq2 => ?_) (fun cq2 => ?_)
    · skip
      refine ok_iconst G (0 : Int32) d_method_3_code_28 rfl ?_
      exact ok_retN G rfl (by simp) d_method_3_code_29 rfl ⟨by rw [if_neg (fun q => q.elim (fun q => q.1 cq1) (fun q => q.1 cq2))], rfl⟩ (Nat.le_of_ble_eq_true rfl) (Nat.le_of_ble_eq_true rfl)
    · skip
      refine ok_iloadN G d_method_3_code_20 rfl ?_
      refine ok_bipush G (122 : Int32) d_method_3_code_21 rfl ?_
      refine ok_icmpgt G 28 d_method_3_code_23 (by decide) (by decide) (fun cq3 => ?_) (fun cq3 => ?_)
      · skip
        refine ok_iconst G (0 : Int32) d_method_3_code_28 rfl ?_
        exact ok_retN G rfl (by simp) d_method_3_code_29 rfl ⟨by rw [if_neg (fun q => q.elim (fun q => q.1 cq1) (fun q => q.2 cq3))], rfl⟩ (Nat.le_of_ble_eq_true rfl) (Nat.le_of_ble_eq_true rfl)
      · skip
        refine ok_iconst G (1 : Int32) d_method_3_code_26 rfl ?_
        exact ok_retN G rfl (by simp) d_method_3_code_27 rfl ⟨by rw [if_pos (Or.inr ⟨cq2, cq3⟩)], rfl⟩ (Nat.le_of_ble_eq_true rfl) (Nat.le_of_ble_eq_true rfl)
  · skip
    refine ok_iloadN G d_method_3_code_6 rfl ?_
    refine ok_bipush G (90 : Int32) d_method_3_code_7 rfl ?_
    refine ok_icmpgt G 14 d_method_3_code_9 (by decide) (by decide) (fun cq4 => ?_) (fun cq4 => ?_)
    · skip
      refine ok_iloadN G d_method_3_code_14 rfl ?_
      refine ok_bipush G (97 : Int32) d_method_3_code_15 rfl ?_
      refine ok_icmplt G 28 d_method_3_code_17 (by decide) (by decide) (fun cq5 => ?_) (fun cq5 => ?_)
      · skip
        refine ok_iconst G (0 : Int32) d_method_3_code_28 rfl ?_
        exact ok_retN G rfl (by simp) d_method_3_code_29 rfl ⟨by rw [if_neg (fun q => q.elim (fun q => q.2 cq4) (fun q => q.1 cq5))], rfl⟩ (Nat.le_of_ble_eq_true rfl) (Nat.le_of_ble_eq_true rfl)
      · skip
        refine ok_iloadN G d_method_3_code_20 rfl ?_
        refine ok_bipush G (122 : Int32) d_method_3_code_21 rfl ?_
        refine ok_icmpgt G 28 d_method_3_code_23 (by decide) (by decide) (fun cq6 => ?_) (fun cq6 => ?_)
        · skip
          refine ok_iconst G (0 : Int32) d_method_3_code_28 rfl ?_
          exact ok_retN G rfl (by simp) d_method_3_code_29 rfl ⟨by rw [if_neg (fun q => q.elim (fun q => q.2 cq4) (fun q => q.2 cq6))], rfl⟩ (Nat.le_of_ble_eq_true rfl) (Nat.le_of_ble_eq_true rfl)
        · skip
          refine ok_iconst G (1 : Int32) d_method_3_code_26 rfl ?_
          exact ok_retN G rfl (by simp) d_method_3_code_27 rfl ⟨by rw [if_pos (Or.inr ⟨cq5, cq6⟩)], rfl⟩ (Nat.le_of_ble_eq_true rfl) (Nat.le_of_ble_eq_true rfl)
    · skip
      refine ok_iconst G (1 : Int32) d_method_3_code_12 rfl ?_
      exact ok_retN G rfl (by simp) d_method_3_code_13 rfl ⟨by rw [if_pos (Or.inl ⟨cq1, cq4⟩)], rfl⟩ (Nat.le_of_ble_eq_true rfl) (Nat.le_of_ble_eq_true rfl)
theorem d_prog_7_method_7_code_0 : decode prog_7_method_7_code 0 = .ok (.iload_n 0, 1) := by decide +kernel
theorem d_prog_7_method_7_code_1 : decode prog_7_method_7_code 1 = .ok (.bipush 65, 2) := by decide +kernel
theorem d_prog_7_method_7_code_3 : decode prog_7_method_7_code 3 = .ok (.if_icmp .lt 9, 3) := by decide +kernel
theorem d_prog_7_method_7_code_12 : decode prog_7_method_7_code 12 = .ok (.iload_n 0, 1) := by decide +kernel
theorem d_prog_7_method_7_code_13 : decode prog_7_method_7_code 13 = .ok (.bipush 97, 2) := by decide +kernel
theorem d_prog_7_method_7_code_15 : decode prog_7_method_7_code 15 = .ok (.if_icmp .lt 13, 3) := by decide +kernel
theorem d_prog_7_method_7_code_28 : decode prog_7_method_7_code 28 = .ok (.iconst 0, 1) := by decide +kernel
theorem d_prog_7_method_7_code_29 : decode prog_7_method_7_code 29 = .ok (.ireturn, 1) := by decide +kernel
theorem d_prog_7_method_7_code_18 : decode prog_7_method_7_code 18 = .ok (.iload_n 0, 1) := by decide +kernel
theorem d_prog_7_method_7_code_19 : decode prog_7_method_7_code 19 = .ok (.bipush 122, 2) := by decide +kernel
theorem d_prog_7_method_7_code_21 : decode prog_7_method_7_code 21 = .ok (.if_icmp .gt 7, 3) := by decide +kernel
theorem d_prog_7_method_7_code_24 : decode prog_7_method_7_code 24 = .ok (.iconst 1, 1) := by decide +kernel
theorem d_prog_7_method_7_code_25 : decode prog_7_method_7_code 25 = .ok (.goto 4, 3) := by decide +kernel
theorem d_prog_7_method_7_code_6 : decode prog_7_method_7_code 6 = .ok (.iload_n 0, 1) := by decide +kernel
theorem d_prog_7_method_7_code_7 : decode prog_7_method_7_code 7 = .ok (.bipush 90, 2) := by decide +kernel
theorem d_prog_7_method_7_code_9 : decode prog_7_method_7_code 9 = .ok (.if_icmp .le 15, 3) := by decide +kernel
def R_c_isLetter : Room := { frames := 0, cells := 0, slots := 0, locals := 0 }
theorem pl_b16 : plainFor (⟨"com/example/logwright/logwright/Characters", "isLetter", "(C)Z"⟩ : MethodName) = true := plainFor_of_name (by first | (simp [plainName, overriddenIn]; done) | decide +kernel)
set_option maxRecDepth 65536 in
set_option maxHeartbeats 40000000 in
theorem c_isLetter {l : Launch} {Z : State} {a0 : Array Value} {n0 : Nat} {h0 : Heap} (C : Cx Z a0) (hO : Old Z n0 h0) {ch : Int32} :
    Con false l Z [] n0 (⟨"com/example/logwright/logwright/Characters", "isLetter", "(C)Z"⟩ : MethodName) prog_7_method_7_code 1 (some .boolean) R_c_isLetter #[(.int ch)] h0 [] (fun v h => v = some (.int (if Lt ch then 1 else 0)) ∧ h0 = h) := by
  refine Con.intro (a0 := a0) pl_b16 hO (fun q => nomatch q) ?_
  intro p e s m below meth c G
  refine ok_as (mkF m 0 #[.val (.int ch)] []) (by first | rfl | (simp [entryFrame, mkF, argsToLocals, Value.category]; done)) ?_
  refine ok_iloadN G d_prog_7_method_7_code_0 rfl ?_
  refine ok_bipush G (65 : Int32) d_prog_7_method_7_code_1 rfl ?_
  refine ok_icmplt G 12 d_prog_7_method_7_code_3 (by decide) (by decide) (fun cq1 => ?_) (fun cq1 => ?_)
  · skip
    refine ok_iloadN G d_prog_7_method_7_code_12 rfl ?_
    refine ok_bipush G (97 : Int32) d_prog_7_method_7_code_13 rfl ?_
    refine ok_icmplt G 28 d_prog_7_method_7_code_15 (by decide) (by decide) (fun cq2 => ?_) (fun cq2 => ?_)
    · skip
      refine ok_iconst G (0 : Int32) d_prog_7_method_7_code_28 rfl ?_
      exact ok_retN G rfl (by simp) d_prog_7_method_7_code_29 rfl ⟨by rw [if_neg (fun q => q.elim (fun q => q.1 cq1) (fun q => q.1 cq2))], rfl⟩ (Nat.le_of_ble_eq_true rfl) (Nat.le_of_ble_eq_true rfl)
    · skip
      refine ok_iloadN G d_prog_7_method_7_code_18 rfl ?_
      refine ok_bipush G (122 : Int32) d_prog_7_method_7_code_19 rfl ?_
      refine ok_icmpgt G 28 d_prog_7_method_7_code_21 (by decide) (by decide) (fun cq3 => ?_) (fun cq3 => ?_)
      · skip
        refine ok_iconst G (0 : Int32) d_prog_7_method_7_code_28 rfl ?_
        exact ok_retN G rfl (by simp) d_prog_7_method_7_code_29 rfl ⟨by rw [if_neg (fun q => q.elim (fun q => q.1 cq1) (fun q => q.2 cq3))], rfl⟩ (Nat.le_of_ble_eq_true rfl) (Nat.le_of_ble_eq_true rfl)
      · skip
        refine ok_iconst G (1 : Int32) d_prog_7_method_7_code_24 rfl ?_
        refine ok_goto G 29 d_prog_7_method_7_code_25 (by decide) (by decide) ?_
        exact ok_retN G rfl (by simp) d_prog_7_method_7_code_29 rfl ⟨by rw [if_pos (Or.inr ⟨cq2, cq3⟩)], rfl⟩ (Nat.le_of_ble_eq_true rfl) (Nat.le_of_ble_eq_true rfl)
  · skip
    refine ok_iloadN G d_prog_7_method_7_code_6 rfl ?_
    refine ok_bipush G (90 : Int32) d_prog_7_method_7_code_7 rfl ?_
    refine ok_icmple G 24 d_prog_7_method_7_code_9 (by decide) (by decide) (fun cq4 => ?_) (fun cq4 => ?_)
    · skip
      refine ok_iconst G (1 : Int32) d_prog_7_method_7_code_24 rfl ?_
      refine ok_goto G 29 d_prog_7_method_7_code_25 (by decide) (by decide) ?_
      exact ok_retN G rfl (by simp) d_prog_7_method_7_code_29 rfl ⟨by rw [if_pos (Or.inl ⟨cq1, cq4⟩)], rfl⟩ (Nat.le_of_ble_eq_true rfl) (Nat.le_of_ble_eq_true rfl)
    · skip
      refine ok_iloadN G d_prog_7_method_7_code_12 rfl ?_
      refine ok_bipush G (97 : Int32) d_prog_7_method_7_code_13 rfl ?_
      refine ok_icmplt G 28 d_prog_7_method_7_code_15 (by decide) (by decide) (fun cq5 => ?_) (fun cq5 => ?_)
      · skip
        refine ok_iconst G (0 : Int32) d_prog_7_method_7_code_28 rfl ?_
        exact ok_retN G rfl (by simp) d_prog_7_method_7_code_29 rfl ⟨by rw [if_neg (fun q => q.elim (fun q => q.2 cq4) (fun q => q.1 cq5))], rfl⟩ (Nat.le_of_ble_eq_true rfl) (Nat.le_of_ble_eq_true rfl)
      · skip
        refine ok_iloadN G d_prog_7_method_7_code_18 rfl ?_
        refine ok_bipush G (122 : Int32) d_prog_7_method_7_code_19 rfl ?_
        refine ok_icmpgt G 28 d_prog_7_method_7_code_21 (by decide) (by decide) (fun cq6 => ?_) (fun cq6 => ?_)
        · skip
          refine ok_iconst G (0 : Int32) d_prog_7_method_7_code_28 rfl ?_
          exact ok_retN G rfl (by simp) d_prog_7_method_7_code_29 rfl ⟨by rw [if_neg (fun q => q.elim (fun q => q.2 cq4) (fun q => q.2 cq6))], rfl⟩ (Nat.le_of_ble_eq_true rfl) (Nat.le_of_ble_eq_true rfl)
        · skip
          refine ok_iconst G (1 : Int32) d_prog_7_method_7_code_24 rfl ?_
          refine ok_goto G 29 d_prog_7_method_7_code_25 (by decide) (by decide) ?_
          exact ok_retN G rfl (by simp) d_prog_7_method_7_code_29 rfl ⟨by rw [if_pos (Or.inr ⟨cq5, cq6⟩)], rfl⟩ (Nat.le_of_ble_eq_true rfl) (Nat.le_of_ble_eq_true rfl)
theorem d_method_4_code_0 : decode method_4_code 0 = .ok (.iload_n 0, 1) := by decide +kernel
theorem d_method_4_code_1 : decode method_4_code 1 = .ok (.ifCond .ne 5, 3) := by decide +kernel
theorem d_method_4_code_6 : decode method_4_code 6 = .ok (.iload_n 0, 1) := by decide +kernel
theorem d_method_4_code_7 : decode method_4_code 7 = .ok (.iconst 1, 1) := by decide +kernel
theorem d_method_4_code_8 : decode method_4_code 8 = .ok (.if_icmp .ne 5, 3) := by decide +kernel
theorem d_method_4_code_13 : decode method_4_code 13 = .ok (.iload_n 0, 1) := by decide +kernel
theorem d_method_4_code_14 : decode method_4_code 14 = .ok (.iconst 2, 1) := by decide +kernel
theorem d_method_4_code_15 : decode method_4_code 15 = .ok (.if_icmp .ne 5, 3) := by decide +kernel
theorem d_method_4_code_20 : decode method_4_code 20 = .ok (.iload 4, 2) := by decide +kernel
theorem d_method_4_code_22 : decode method_4_code 22 = .ok (.ireturn, 1) := by decide +kernel
theorem d_method_4_code_18 : decode method_4_code 18 = .ok (.iload_n 3, 1) := by decide +kernel
theorem d_method_4_code_19 : decode method_4_code 19 = .ok (.ireturn, 1) := by decide +kernel
theorem d_method_4_code_11 : decode method_4_code 11 = .ok (.iload_n 2, 1) := by decide +kernel
theorem d_method_4_code_12 : decode method_4_code 12 = .ok (.ireturn, 1) := by decide +kernel
theorem d_method_4_code_4 : decode method_4_code 4 = .ok (.iload_n 1, 1) := by decide +kernel
theorem d_method_4_code_5 : decode method_4_code 5 = .ok (.ireturn, 1) := by decide +kernel
def R_c_at : Room := { frames := 0, cells := 0, slots := 0, locals := 0 }
theorem pl_b17 : plainFor (⟨"com/example/logwright/logwright/CharactersSkipLettersPinLaw", "at", "(ICCCC)C"⟩ : MethodName) = true := plainFor_of_name (by first | (simp [plainName, overriddenIn]; done) | decide +kernel)
set_option maxRecDepth 65536 in
set_option maxHeartbeats 40000000 in
theorem c_at {l : Launch} {Z : State} {a0 : Array Value} {n0 : Nat} {h0 : Heap} (C : Cx Z a0) (hO : Old Z n0 h0) {k : Nat} {c0 c1 c2 c3 : Int32} (hk : k < 4) (l0 : Chr c0) (l1 : Chr c1) (l2 : Chr c2) (l3 : Chr c3) :
    Con false l Z [] n0 (⟨"com/example/logwright/logwright/CharactersSkipLettersPinLaw", "at", "(ICCCC)C"⟩ : MethodName) method_4_code 5 (some .char) R_c_at #[(.int (Int32.ofNat k)), (.int c0), (.int c1), (.int c2), (.int c3)] h0 [] (fun v h => v = some (.int ([c0, c1, c2, c3].getD k 0)) ∧ h0 = h) := by
  refine Con.intro (a0 := a0) pl_b17 hO (fun q => nomatch q) ?_
  intro p e s m below meth c G
  refine ok_as (mkF m 0 #[.val (.int (Int32.ofNat k)), .val (.int c0), .val (.int c1), .val (.int c2), .val (.int c3)] []) (by first | rfl | (simp [entryFrame, mkF, argsToLocals, Value.category]; done)) ?_
  refine ok_iloadN G d_method_4_code_0 rfl ?_
  refine ok_ifne G 6 d_method_4_code_1 (by decide) (by decide) (fun cq1 => ?_) (fun cq1 => ?_)
  · skip
    have hn0 : ¬ k = 0 := fun q => cq1 (by rw [q]; rfl)
    refine ok_iloadN G d_method_4_code_6 rfl ?_
    refine ok_iconst G (1 : Int32) d_method_4_code_7 rfl ?_
    refine ok_icmpne G 13 d_method_4_code_8 (by decide) (by decide) (fun cq2 => ?_) (fun cq2 => ?_)
    · skip
      have hn1 : ¬ k = 1 := fun q => cq2 (by rw [q]; rfl)
      refine ok_iloadN G d_method_4_code_13 rfl ?_
      refine ok_iconst G (2 : Int32) d_method_4_code_14 rfl ?_
      refine ok_icmpne G 20 d_method_4_code_15 (by decide) (by decide) (fun cq3 => ?_) (fun cq3 => ?_)
      · skip
        have hn2 : ¬ k = 2 := fun q => cq3 (by rw [q]; rfl)
        have hnk : k = 3 := by omega
        subst hnk
        refine ok_iload G d_method_4_code_20 rfl ?_
        exact ok_retN G rfl (by simp) d_method_4_code_22 (congrArg Value.int l3.nar) ⟨rfl, rfl⟩ (Nat.le_of_ble_eq_true rfl) (Nat.le_of_ble_eq_true rfl)
      · skip
        have hnk : k = 2 := (i32_eq (i := k) (j := 2) (by omega) (by omega)).mp cq3
        subst hnk
        refine ok_iloadN G d_method_4_code_18 rfl ?_
        exact ok_retN G rfl (by simp) d_method_4_code_19 (congrArg Value.int l2.nar) ⟨rfl, rfl⟩ (Nat.le_of_ble_eq_true rfl) (Nat.le_of_ble_eq_true rfl)
    · skip
      have hnk : k = 1 := (i32_eq (i := k) (j := 1) (by omega) (by omega)).mp cq2
      subst hnk
      refine ok_iloadN G d_method_4_code_11 rfl ?_
      exact ok_retN G rfl (by simp) d_method_4_code_12 (congrArg Value.int l1.nar) ⟨rfl, rfl⟩ (Nat.le_of_ble_eq_true rfl) (Nat.le_of_ble_eq_true rfl)
  · skip
    have hnk : k = 0 := (i32_eq (i := k) (j := 0) (by omega) (by omega)).mp cq1
    subst hnk
    refine ok_iloadN G d_method_4_code_4 rfl ?_
    exact ok_retN G rfl (by simp) d_method_4_code_5 (congrArg Value.int l0.nar) ⟨rfl, rfl⟩ (Nat.le_of_ble_eq_true rfl) (Nat.le_of_ble_eq_true rfl)
theorem d_prog_7_method_5_code_0 : decode prog_7_method_5_code 0 = .ok (.iload_n 1, 1) := by decide +kernel
theorem d_prog_7_method_5_code_1 : decode prog_7_method_5_code 1 = .ok (.istore_n 2, 1) := by decide +kernel
theorem d_prog_7_method_5_code_2 : decode prog_7_method_5_code 2 = .ok (.iload_n 2, 1) := by decide +kernel
theorem d_prog_7_method_5_code_3 : decode prog_7_method_5_code 3 = .ok (.aload_n 0, 1) := by decide +kernel
theorem d_prog_7_method_5_code_4 : decode prog_7_method_5_code 4 = .ok (.invokevirtual 19, 3) := by decide +kernel
theorem pd15 : parseMethodDescriptor "()I" = some ⟨[], some .int⟩ := by decide +kernel
theorem d_prog_7_method_5_code_7 : decode prog_7_method_5_code 7 = .ok (.if_icmp .ge 20, 3) := by decide +kernel
theorem d_prog_7_method_5_code_27 : decode prog_7_method_5_code 27 = .ok (.iload_n 2, 1) := by decide +kernel
theorem d_prog_7_method_5_code_28 : decode prog_7_method_5_code 28 = .ok (.ireturn, 1) := by decide +kernel
theorem d_prog_7_method_5_code_10 : decode prog_7_method_5_code 10 = .ok (.aload_n 0, 1) := by decide +kernel
theorem d_prog_7_method_5_code_11 : decode prog_7_method_5_code 11 = .ok (.iload_n 2, 1) := by decide +kernel
theorem d_prog_7_method_5_code_12 : decode prog_7_method_5_code 12 = .ok (.invokevirtual 26, 3) := by decide +kernel
theorem pd16 : parseMethodDescriptor "(I)C" = some ⟨[.int], some .char⟩ := by decide +kernel
theorem d_prog_7_method_5_code_15 : decode prog_7_method_5_code 15 = .ok (.invokestatic 30, 3) := by decide +kernel
theorem pd17 : parseMethodDescriptor "(C)Z" = some ⟨[.char], some .boolean⟩ := by decide +kernel
theorem d_prog_7_method_5_code_18 : decode prog_7_method_5_code 18 = .ok (.ifCond .eq 9, 3) := by decide +kernel
theorem d_prog_7_method_5_code_21 : decode prog_7_method_5_code 21 = .ok (.iinc 2 1, 3) := by decide +kernel
theorem d_prog_7_method_5_code_24 : decode prog_7_method_5_code 24 = .ok (.goto (-22), 3) := by decide +kernel
def R_c_skip : Room := { frames := 5, cells := 0, slots := 0, locals := 66 }
theorem pl_b5 : plainFor (⟨"com/example/logwright/logwright/Characters", "skipLetters", "(Ljava/lang/String;I)I"⟩ : MethodName) = true := plainFor_of_name (by first | (simp [plainName, overriddenIn]; done) | decide +kernel)
set_option maxRecDepth 65536 in
set_option maxHeartbeats 40000000 in
theorem c_skip {l : Launch} {Z : State} {a0 : Array Value} {n0 : Nat} {h0 : Heap} (C : Cx Z a0) (hO : Old Z n0 h0) {x t : Addr} {cs pre0 post0 : List Int32} (S : GStr Z h0 x t cs) (hcs0 : pre0 ++ post0 = cs) :
    Con false l Z [] n0 (⟨"com/example/logwright/logwright/Characters", "skipLetters", "(Ljava/lang/String;I)I"⟩ : MethodName) prog_7_method_5_code 3 (some .int) R_c_skip #[(.ref x), (.int (Int32.ofNat pre0.length))] h0 [] (fun v h => (∃ r, v = some (.int (Int32.ofNat r)) ∧ pre0.length ≤ r ∧ r ≤ cs.length ∧ (∀ i, pre0.length ≤ i → i < r → Lt (cs.getD i 0)) ∧ (r < cs.length → ¬ Lt (cs.getD r 0))) ∧ h0 = h) := by
  refine Con.intro (a0 := a0) pl_b5 hO (fun q => nomatch q) ?_
  intro p e s m below meth c G
  refine ok_as (mkF m 0 #[.val (.ref x), .val (.int (Int32.ofNat pre0.length)), .unset] []) (by first | rfl | (simp [entryFrame, mkF, argsToLocals, Value.category]; done)) ?_
  have hlen := S.len
  refine ok_iloadN G d_prog_7_method_5_code_0 rfl ?_
  refine ok_istoreN G #[.val (.ref x), .val (.int (Int32.ofNat pre0.length)), .val (.int (Int32.ofNat pre0.length))] d_prog_7_method_5_code_1 rfl ?_
  refine ok_loop (A := List Int32 × List Int32) (fun q => q.2.length) (fun q => q.1 ++ q.2 = cs ∧ pre0.length ≤ q.1.length ∧ ∀ i, pre0.length ≤ i → i < q.1.length → Lt (cs.getD i 0)) (fun _ => h0) (fun q => mkF m 2 #[.val (.ref x), .val (.int (Int32.ofNat pre0.length)), .val (.int (Int32.ofNat q.1.length))] []) ?_ (pre0, post0) ⟨hcs0, Nat.le_refl _, fun i q1 q2 => absurd (Nat.lt_of_lt_of_le q2 q1) (Nat.lt_irrefl _)⟩
  rintro ⟨pre, post⟩ ⟨hcs, hpp, hdd⟩ ih
  dsimp only at hcs hpp hdd ih ⊢
  cases post with
  | nil =>
    rw [List.append_nil] at hcs
    have hge : ¬ pre.length < cs.length := by rw [hcs]; omega
    have hpc : pre.length ≤ cs.length := by rw [hcs]; omega
    refine ok_iloadN G d_prog_7_method_5_code_2 rfl ?_
    refine ok_aloadN G d_prog_7_method_5_code_3 rfl rfl ?_
    refine ok_virtual G (a := x) (y0 := (⟨"java/lang/String", "length", "()I"⟩ : MethodName)) (y := (⟨"java/lang/String", "length", "()I"⟩ : MethodName)) (argsL := []) (rest := [(.int (Int32.ofNat pre.length))]) S.exa (C.w31) (C.w32) (C.w34) (fun vm hZ => notFace_of_selects (args := #[]) (mvT (s := s.setVm vm) hZ (C.w34))) (C.w33) (C.w7) (C.w35) (by decide) pd15 (d_length C hO S) rfl rfl rfl d_prog_7_method_5_code_4 (Nat.le_of_ble_eq_true rfl) (Nat.le_of_ble_eq_true rfl) (Nat.le_of_ble_eq_true rfl) (Nat.le_of_ble_eq_true rfl) (fun _ q => nomatch q) ?_
    rintro _ _ _ ⟨rfl, rfl⟩
    refine ok_as (mkF m 7 #[.val (.ref x), .val (.int (Int32.ofNat pre0.length)), .val (.int (Int32.ofNat pre.length))] [(.int (Int32.ofNat cs.length)), (.int (Int32.ofNat pre.length))]) rfl ?_
    refine ok_icmpgeY G 27 d_prog_7_method_5_code_7 (by decide) (by decide) (by rw [i32_lt (by omega) (by omega)]; exact hge) ?_
    refine ok_iloadN G d_prog_7_method_5_code_27 rfl ?_
    exact ok_retI G rfl d_prog_7_method_5_code_28 ⟨⟨pre.length, rfl, hpp, by rw [hcs]; omega, hdd, fun q => absurd q hge⟩, rfl⟩ (Nat.le_of_ble_eq_true rfl) (Nat.le_of_ble_eq_true rfl)
  | cons ch post =>
    have hlt : pre.length < cs.length := by rw [← hcs]; simp
    have hgd : cs.getD pre.length 0 = ch := by rw [← hcs]; exact own_getmid
    refine ok_iloadN G d_prog_7_method_5_code_2 rfl ?_
    refine ok_aloadN G d_prog_7_method_5_code_3 rfl rfl ?_
    refine ok_virtual G (a := x) (y0 := (⟨"java/lang/String", "length", "()I"⟩ : MethodName)) (y := (⟨"java/lang/String", "length", "()I"⟩ : MethodName)) (argsL := []) (rest := [(.int (Int32.ofNat pre.length))]) S.exa (C.w31) (C.w32) (C.w34) (fun vm hZ => notFace_of_selects (args := #[]) (mvT (s := s.setVm vm) hZ (C.w34))) (C.w33) (C.w7) (C.w35) (by decide) pd15 (d_length C hO S) rfl rfl rfl d_prog_7_method_5_code_4 (Nat.le_of_ble_eq_true rfl) (Nat.le_of_ble_eq_true rfl) (Nat.le_of_ble_eq_true rfl) (Nat.le_of_ble_eq_true rfl) (fun _ q => nomatch q) ?_
    rintro _ _ _ ⟨rfl, rfl⟩
    refine ok_as (mkF m 7 #[.val (.ref x), .val (.int (Int32.ofNat pre0.length)), .val (.int (Int32.ofNat pre.length))] [(.int (Int32.ofNat cs.length)), (.int (Int32.ofNat pre.length))]) rfl ?_
    refine ok_icmpgeN G d_prog_7_method_5_code_7 ((i32_lt (by omega) (by omega)).mpr hlt) ?_
    refine ok_aloadN G d_prog_7_method_5_code_10 rfl rfl ?_
    refine ok_iloadN G d_prog_7_method_5_code_11 rfl ?_
    refine ok_virtual G (a := x) (y0 := (⟨"java/lang/String", "charAt", "(I)C"⟩ : MethodName)) (y := (⟨"java/lang/String", "charAt", "(I)C"⟩ : MethodName)) (argsL := [(.int (Int32.ofNat pre.length))]) (rest := []) S.exa (C.w52) (C.w53) (C.w55) (fun vm hZ => notFace_of_selects (args := #[]) (mvT (s := s.setVm vm) hZ (C.w55))) (C.w54) (C.w7) (C.w56) (by decide) pd16 (d_charAt (pre := pre) (post := post) (ch := ch) C hO S hcs.symm) rfl rfl rfl d_prog_7_method_5_code_12 (Nat.le_of_ble_eq_true rfl) (Nat.le_of_ble_eq_true rfl) (Nat.le_of_ble_eq_true rfl) (Nat.le_of_ble_eq_true rfl) (fun _ q => nomatch q) ?_
    rintro _ _ _ ⟨rfl, rfl⟩
    refine ok_as (mkF m 15 #[.val (.ref x), .val (.int (Int32.ofNat pre0.length)), .val (.int (Int32.ofNat pre.length))] [(.int ch)]) rfl ?_
    refine ok_static G (argsL := [(.int ch)]) (rest := []) (C.w74) (C.w75) (C.w29) (C.w76) (by decide) pd17 (c_isLetter C hO) rfl rfl rfl d_prog_7_method_5_code_15 (Nat.le_of_ble_eq_true rfl) (Nat.le_of_ble_eq_true rfl) (Nat.le_of_ble_eq_true rfl) (Nat.le_of_ble_eq_true rfl) (fun _ q => nomatch q) ?_
    rintro _ _ _ ⟨rfl, rfl⟩
    refine ok_as (mkF m 18 #[.val (.ref x), .val (.int (Int32.ofNat pre0.length)), .val (.int (Int32.ofNat pre.length))] [(.int (if Lt ch then (1 : Int32) else 0))]) rfl ?_
    refine ok_ifeq G 27 d_prog_7_method_5_code_18 (by decide) (by decide) (fun cq9 => ?_) (fun cq9 => ?_)
    · skip
      refine ok_iloadN G d_prog_7_method_5_code_27 rfl ?_
      exact ok_retI G rfl d_prog_7_method_5_code_28 ⟨⟨pre.length, rfl, hpp, by omega, hdd, fun _ q => by rw [hgd] at q; exact own_if0 cq9 q⟩, rfl⟩ (Nat.le_of_ble_eq_true rfl) (Nat.le_of_ble_eq_true rfl)
    · skip
      refine ok_iinc G ((Int32.ofNat pre.length) + (1 : Int32)) #[.val (.ref x), .val (.int (Int32.ofNat pre0.length)), .val (.int ((Int32.ofNat pre.length) + (1 : Int32)))] d_prog_7_method_5_code_21 rfl rfl rfl ?_
      refine ok_goto G 2 d_prog_7_method_5_code_24 (by decide) (by decide) ?_
      have e1 : Int32.ofNat pre.length + (1 : Int32) = Int32.ofNat (pre ++ [ch]).length := by rw [i32_succ]; simp
      rw [e1]
      exact ih (pre ++ [ch], post) (by simp) ⟨by simpa using hcs, by simp; omega, fun i q1 q2 => (Nat.lt_or_eq_of_le (show i ≤ pre.length by simp at q2; omega)).elim (fun q => hdd i q1 q) (fun q => by rw [q, hgd]; exact own_if1 cq9)⟩
theorem pd18 : parseMethodDescriptor "(ICCCC)Ljava/lang/String;" = some ⟨[.int, .char, .char, .char, .char], some (.object "java/lang/String")⟩ := by decide +kernel
theorem pd19 : parseMethodDescriptor "(Ljava/lang/String;I)I" = some ⟨[(.object "java/lang/String"), .int], some .int⟩ := by decide +kernel
theorem pd20 : parseMethodDescriptor "(ICCCC)C" = some ⟨[.int, .char, .char, .char, .char], some .char⟩ := by decide +kernel
theorem pl_b0 : plainFor x = true := plainFor_of_name (show plainName "com/example/logwright/logwright/CharactersSkipLettersPinLaw" = true by first | (simp [plainName, overriddenIn]; done) | decide +kernel)
set_option maxRecDepth 65536 in
set_option maxHeartbeats 40000000 in
theorem c_law {l : Launch} {Z : State} {a0 : Array Value} {n0 : Nat} {h0 : Heap} (C : Cx Z a0) (hO : Old Z n0 h0) (hE : EW Z a0 consts_1) {c0 c1 c2 c3 shape : Int32} :
    Con true l Z consts_1 n0 x code maxLocals ret room_1 #[(.int c0), (.int c1), (.int c2), (.int c3), (.int shape)] h0 [] (fun v h => v = some (.int 1)) := by
  refine Con.intro (a0 := a0) pl_b0 hO (fun _ => hE) ?_
  intro p e s m below meth c G
  refine ok_as (mkF m 0 #[.val (.int c0), .val (.int c1), .val (.int c2), .val (.int c3), .val (.int shape), .unset, .unset, .unset, .unset, .unset, .unset, .unset, .unset, .unset, .unset] []) (by first | rfl | (simp [entryFrame, mkF, argsToLocals, Value.category, maxLocals]; done)) ?_
  refine ok_iloadN G at_0 rfl ?_
  refine ok_i2c G at_1 ?_
  refine ok_nameI ?_
  intro chr1 qchr1
  have lchr1 : Chr chr1 := by rw [qchr1]; exact chr_i2c _
  refine ok_istore G #[.val (.int c0), .val (.int c1), .val (.int c2), .val (.int c3), .val (.int shape), .val (.int chr1), .unset, .unset, .unset, .unset, .unset, .unset, .unset, .unset, .unset] at_2 rfl ?_
  refine ok_iloadN G at_4 rfl ?_
  refine ok_i2c G at_5 ?_
  refine ok_nameI ?_
  intro chr2 qchr2
  have lchr2 : Chr chr2 := by rw [qchr2]; exact chr_i2c _
  refine ok_istore G #[.val (.int c0), .val (.int c1), .val (.int c2), .val (.int c3), .val (.int shape), .val (.int chr1), .val (.int chr2), .unset, .unset, .unset, .unset, .unset, .unset, .unset, .unset] at_6 rfl ?_
  refine ok_iloadN G at_8 rfl ?_
  refine ok_i2c G at_9 ?_
  refine ok_nameI ?_
  intro chr3 qchr3
  have lchr3 : Chr chr3 := by rw [qchr3]; exact chr_i2c _
  refine ok_istore G #[.val (.int c0), .val (.int c1), .val (.int c2), .val (.int c3), .val (.int shape), .val (.int chr1), .val (.int chr2), .val (.int chr3), .unset, .unset, .unset, .unset, .unset, .unset, .unset] at_10 rfl ?_
  refine ok_iloadN G at_12 rfl ?_
  refine ok_i2c G at_13 ?_
  refine ok_nameI ?_
  intro chr4 qchr4
  have lchr4 : Chr chr4 := by rw [qchr4]; exact chr_i2c _
  refine ok_istore G #[.val (.int c0), .val (.int c1), .val (.int c2), .val (.int c3), .val (.int shape), .val (.int chr1), .val (.int chr2), .val (.int chr3), .val (.int chr4), .unset, .unset, .unset, .unset, .unset, .unset] at_14 rfl ?_
  refine ok_iload G at_16 rfl ?_
  refine ok_bipush G (7 : Int32) at_18 rfl ?_
  refine ok_iand G at_20 ?_
  refine ok_iconst G (5 : Int32) at_21 rfl ?_
  refine ok_irem G at_22 (by decide) ?_
  obtain ⟨n, hn4, hn⟩ := own_rem57 shape
  refine ok_sayI (Int32.ofNat n) hn ?_
  refine ok_istore G #[.val (.int c0), .val (.int c1), .val (.int c2), .val (.int c3), .val (.int shape), .val (.int chr1), .val (.int chr2), .val (.int chr3), .val (.int chr4), .val (.int (Int32.ofNat n)), .unset, .unset, .unset, .unset, .unset] at_23 rfl ?_
  refine ok_iload G at_25 rfl ?_
  refine ok_iconst G (3 : Int32) at_27 rfl ?_
  refine ok_iushr G at_28 ?_
  refine ok_ldcI G (C.w0) at_29 ?_
  refine ok_iand G at_31 ?_
  refine ok_iload G at_32 rfl ?_
  refine ok_iconst G (1 : Int32) at_34 rfl ?_
  refine ok_iadd G at_35 ?_
  refine ok_sayI (Int32.ofNat (n + 1)) (i32_succ n) ?_
  refine ok_irem G at_36 (own_nz hn4) ?_
  obtain ⟨f, hfn, hf⟩ := own_remn (own_mask _) (k := n) (by omega)
  refine ok_sayI (Int32.ofNat f) hf ?_
  refine ok_istore G #[.val (.int c0), .val (.int c1), .val (.int c2), .val (.int c3), .val (.int shape), .val (.int chr1), .val (.int chr2), .val (.int chr3), .val (.int chr4), .val (.int (Int32.ofNat n)), .val (.int (Int32.ofNat f)), .unset, .unset, .unset, .unset] at_37 rfl ?_
  refine ok_iload G at_39 rfl ?_
  refine ok_iload G at_41 rfl ?_
  refine ok_iload G at_43 rfl ?_
  refine ok_iload G at_45 rfl ?_
  refine ok_iload G at_47 rfl ?_
  obtain ⟨pre0, post0, hcs0, hpre⟩ := own_split (cs := ([chr1, chr2, chr3, chr4].take n)) (f := f) (by rw [own_tlen hn4]; exact hfn)
  subst hpre
  refine ok_staticW G (argsL := [(.int (Int32.ofNat n)), (.int chr1), (.int chr2), (.int chr3), (.int chr4)]) (rest := []) (C.w1) (C.w2) (C.w3) (C.w4) (by decide) pd18 (c_make C hO hE hn4 lchr1 lchr2 lchr3 lchr4) rfl rfl rfl at_49 (Nat.le_of_ble_eq_true rfl) (Nat.le_of_ble_eq_true rfl) (Nat.le_of_ble_eq_true rfl) (Nat.le_of_ble_eq_true rfl) rfl (fun _ q => nomatch q) ?_
  rintro _ hp7 K8 ⟨xr5, tr6, rfl, lbq_xr5, S_xr5⟩
  have lbh_xr5 := lbq_xr5
  have lb_xr5 : h0.size ≤ xr5 := lbh_xr5
  have g_xr5 : n0 ≤ xr5 := Nat.le_trans (old_le hO) lbh_xr5
  refine ok_as (mkF m 52 #[.val (.int c0), .val (.int c1), .val (.int c2), .val (.int c3), .val (.int shape), .val (.int chr1), .val (.int chr2), .val (.int chr3), .val (.int chr4), .val (.int (Int32.ofNat n)), .val (.int (Int32.ofNat pre0.length)), .unset, .unset, .unset, .unset] [(.ref xr5)]) rfl ?_
  refine ok_astore G #[.val (.int c0), .val (.int c1), .val (.int c2), .val (.int c3), .val (.int shape), .val (.int chr1), .val (.int chr2), .val (.int chr3), .val (.int chr4), .val (.int (Int32.ofNat n)), .val (.int (Int32.ofNat pre0.length)), .val (.ref xr5), .unset, .unset, .unset] at_52 rfl rfl ?_
  refine ok_aload G at_54 rfl rfl ?_
  refine ok_iload G at_56 rfl ?_
  refine ok_old (fun hO_hp7 => ?_)
  refine ok_static G (argsL := [(.ref xr5), (.int (Int32.ofNat pre0.length))]) (rest := []) (C.w27) (C.w28) (C.w29) (C.w30) (by decide) pd19 (c_skip C hO_hp7 S_xr5 hcs0) rfl rfl rfl at_58 (Nat.le_of_ble_eq_true rfl) (Nat.le_of_ble_eq_true rfl) (Nat.le_of_ble_eq_true rfl) (Nat.le_of_ble_eq_true rfl) (fun _ q => nomatch q) ?_
  rintro _ _ _ ⟨⟨r, rfl, hfr, hrn, hdig, hstop⟩, rfl⟩
  refine ok_as (mkF m 61 #[.val (.int c0), .val (.int c1), .val (.int c2), .val (.int c3), .val (.int shape), .val (.int chr1), .val (.int chr2), .val (.int chr3), .val (.int chr4), .val (.int (Int32.ofNat n)), .val (.int (Int32.ofNat pre0.length)), .val (.ref xr5), .unset, .unset, .unset] [(.int (Int32.ofNat r))]) rfl ?_
  refine ok_istore G #[.val (.int c0), .val (.int c1), .val (.int c2), .val (.int c3), .val (.int shape), .val (.int chr1), .val (.int chr2), .val (.int chr3), .val (.int chr4), .val (.int (Int32.ofNat n)), .val (.int (Int32.ofNat pre0.length)), .val (.ref xr5), .val (.int (Int32.ofNat r)), .unset, .unset] at_61 rfl ?_
  rw [own_tlen hn4] at hrn
  refine ok_iload G at_63 rfl ?_
  refine ok_iload G at_65 rfl ?_
  refine ok_icmpltN G at_67 (by rw [i32_lt (by omega) (by omega)]; omega) ?_
  refine ok_iload G at_70 rfl ?_
  refine ok_iload G at_72 rfl ?_
  refine ok_icmpleY G 79 at_74 (by decide) (by decide) (by rw [i32_lt (by omega) (by omega)]; omega) ?_
  refine ok_meetV (A := Unit) (fun _ => True) (fun _ => (mkF m 99 #[.val (.int c0), .val (.int c1), .val (.int c2), .val (.int c3), .val (.int shape), .val (.int chr1), .val (.int chr2), .val (.int chr3), .val (.int chr4), .val (.int (Int32.ofNat n)), .val (.int (Int32.ofNat pre0.length)), .val (.ref xr5), .val (.int (Int32.ofNat r)), .unset, .unset] [])) (fun dm => ?_) ?_
  · skip
    refine ok_iconst G (0 : Int32) at_79 rfl ?_
    refine ok_iload G at_80 rfl ?_
    refine ok_icmplt G 99 at_82 (by decide) (by decide) (fun cq11 => ?_) (fun cq11 => ?_)
    · skip
      exact dm () trivial
    · skip
      refine ok_iconst G (0 : Int32) at_85 rfl ?_
      refine ok_iload G at_86 rfl ?_
      refine ok_icmpge G 99 at_88 (by decide) (by decide) (fun cq12 => ?_) (fun cq12 => ?_)
      · skip
        exact dm () trivial
      · skip
        refine ok_iload G at_91 rfl ?_
        refine ok_static G (argsL := [(.int chr1)]) (rest := []) (C.w80) (C.w81) (C.w3) (C.w82) (by decide) pd17 (c_letter C hO_hp7) rfl rfl rfl at_93 (Nat.le_of_ble_eq_true rfl) (Nat.le_of_ble_eq_true rfl) (Nat.le_of_ble_eq_true rfl) (Nat.le_of_ble_eq_true rfl) (fun _ q => nomatch q) ?_
        rintro _ _ _ ⟨rfl, rfl⟩
        refine ok_as (mkF m 96 #[.val (.int c0), .val (.int c1), .val (.int c2), .val (.int c3), .val (.int shape), .val (.int chr1), .val (.int chr2), .val (.int chr3), .val (.int chr4), .val (.int (Int32.ofNat n)), .val (.int (Int32.ofNat pre0.length)), .val (.ref xr5), .val (.int (Int32.ofNat r)), .unset, .unset] [(.int (if Lt chr1 then (1 : Int32) else 0))]) rfl ?_
        refine ok_ifeqN G at_96 (by rw [if_pos (own_okd (ch := chr1) hrn hn4 hdig 0 (by decide) rfl cq11 cq12)]; decide) ?_
        exact dm () trivial
  intro _ _
  try dsimp only
  refine ok_meetV (A := Unit) (fun _ => True) (fun _ => (mkF m 119 #[.val (.int c0), .val (.int c1), .val (.int c2), .val (.int c3), .val (.int shape), .val (.int chr1), .val (.int chr2), .val (.int chr3), .val (.int chr4), .val (.int (Int32.ofNat n)), .val (.int (Int32.ofNat pre0.length)), .val (.ref xr5), .val (.int (Int32.ofNat r)), .unset, .unset] [])) (fun dm => ?_) ?_
  · skip
    refine ok_iconst G (1 : Int32) at_99 rfl ?_
    refine ok_iload G at_100 rfl ?_
    refine ok_icmplt G 119 at_102 (by decide) (by decide) (fun cq15 => ?_) (fun cq15 => ?_)
    · skip
      exact dm () trivial
    · skip
      refine ok_iconst G (1 : Int32) at_105 rfl ?_
      refine ok_iload G at_106 rfl ?_
      refine ok_icmpge G 119 at_108 (by decide) (by decide) (fun cq16 => ?_) (fun cq16 => ?_)
      · skip
        exact dm () trivial
      · skip
        refine ok_iload G at_111 rfl ?_
        refine ok_static G (argsL := [(.int chr2)]) (rest := []) (C.w80) (C.w81) (C.w3) (C.w82) (by decide) pd17 (c_letter C hO_hp7) rfl rfl rfl at_113 (Nat.le_of_ble_eq_true rfl) (Nat.le_of_ble_eq_true rfl) (Nat.le_of_ble_eq_true rfl) (Nat.le_of_ble_eq_true rfl) (fun _ q => nomatch q) ?_
        rintro _ _ _ ⟨rfl, rfl⟩
        refine ok_as (mkF m 116 #[.val (.int c0), .val (.int c1), .val (.int c2), .val (.int c3), .val (.int shape), .val (.int chr1), .val (.int chr2), .val (.int chr3), .val (.int chr4), .val (.int (Int32.ofNat n)), .val (.int (Int32.ofNat pre0.length)), .val (.ref xr5), .val (.int (Int32.ofNat r)), .unset, .unset] [(.int (if Lt chr2 then (1 : Int32) else 0))]) rfl ?_
        refine ok_ifeqN G at_116 (by rw [if_pos (own_okd (ch := chr2) hrn hn4 hdig 1 (by decide) rfl cq15 cq16)]; decide) ?_
        exact dm () trivial
  intro _ _
  try dsimp only
  refine ok_meetV (A := Unit) (fun _ => True) (fun _ => (mkF m 139 #[.val (.int c0), .val (.int c1), .val (.int c2), .val (.int c3), .val (.int shape), .val (.int chr1), .val (.int chr2), .val (.int chr3), .val (.int chr4), .val (.int (Int32.ofNat n)), .val (.int (Int32.ofNat pre0.length)), .val (.ref xr5), .val (.int (Int32.ofNat r)), .unset, .unset] [])) (fun dm => ?_) ?_
  · skip
    refine ok_iconst G (2 : Int32) at_119 rfl ?_
    refine ok_iload G at_120 rfl ?_
    refine ok_icmplt G 139 at_122 (by decide) (by decide) (fun cq19 => ?_) (fun cq19 => ?_)
    · skip
      exact dm () trivial
    · skip
      refine ok_iconst G (2 : Int32) at_125 rfl ?_
      refine ok_iload G at_126 rfl ?_
      refine ok_icmpge G 139 at_128 (by decide) (by decide) (fun cq20 => ?_) (fun cq20 => ?_)
      · skip
        exact dm () trivial
      · skip
        refine ok_iload G at_131 rfl ?_
        refine ok_static G (argsL := [(.int chr3)]) (rest := []) (C.w80) (C.w81) (C.w3) (C.w82) (by decide) pd17 (c_letter C hO_hp7) rfl rfl rfl at_133 (Nat.le_of_ble_eq_true rfl) (Nat.le_of_ble_eq_true rfl) (Nat.le_of_ble_eq_true rfl) (Nat.le_of_ble_eq_true rfl) (fun _ q => nomatch q) ?_
        rintro _ _ _ ⟨rfl, rfl⟩
        refine ok_as (mkF m 136 #[.val (.int c0), .val (.int c1), .val (.int c2), .val (.int c3), .val (.int shape), .val (.int chr1), .val (.int chr2), .val (.int chr3), .val (.int chr4), .val (.int (Int32.ofNat n)), .val (.int (Int32.ofNat pre0.length)), .val (.ref xr5), .val (.int (Int32.ofNat r)), .unset, .unset] [(.int (if Lt chr3 then (1 : Int32) else 0))]) rfl ?_
        refine ok_ifeqN G at_136 (by rw [if_pos (own_okd (ch := chr3) hrn hn4 hdig 2 (by decide) rfl cq19 cq20)]; decide) ?_
        exact dm () trivial
  intro _ _
  try dsimp only
  refine ok_meetV (A := Unit) (fun _ => True) (fun _ => (mkF m 159 #[.val (.int c0), .val (.int c1), .val (.int c2), .val (.int c3), .val (.int shape), .val (.int chr1), .val (.int chr2), .val (.int chr3), .val (.int chr4), .val (.int (Int32.ofNat n)), .val (.int (Int32.ofNat pre0.length)), .val (.ref xr5), .val (.int (Int32.ofNat r)), .unset, .unset] [])) (fun dm => ?_) ?_
  · skip
    refine ok_iconst G (3 : Int32) at_139 rfl ?_
    refine ok_iload G at_140 rfl ?_
    refine ok_icmplt G 159 at_142 (by decide) (by decide) (fun cq23 => ?_) (fun cq23 => ?_)
    · skip
      exact dm () trivial
    · skip
      refine ok_iconst G (3 : Int32) at_145 rfl ?_
      refine ok_iload G at_146 rfl ?_
      refine ok_icmpge G 159 at_148 (by decide) (by decide) (fun cq24 => ?_) (fun cq24 => ?_)
      · skip
        exact dm () trivial
      · skip
        refine ok_iload G at_151 rfl ?_
        refine ok_static G (argsL := [(.int chr4)]) (rest := []) (C.w80) (C.w81) (C.w3) (C.w82) (by decide) pd17 (c_letter C hO_hp7) rfl rfl rfl at_153 (Nat.le_of_ble_eq_true rfl) (Nat.le_of_ble_eq_true rfl) (Nat.le_of_ble_eq_true rfl) (Nat.le_of_ble_eq_true rfl) (fun _ q => nomatch q) ?_
        rintro _ _ _ ⟨rfl, rfl⟩
        refine ok_as (mkF m 156 #[.val (.int c0), .val (.int c1), .val (.int c2), .val (.int c3), .val (.int shape), .val (.int chr1), .val (.int chr2), .val (.int chr3), .val (.int chr4), .val (.int (Int32.ofNat n)), .val (.int (Int32.ofNat pre0.length)), .val (.ref xr5), .val (.int (Int32.ofNat r)), .unset, .unset] [(.int (if Lt chr4 then (1 : Int32) else 0))]) rfl ?_
        refine ok_ifeqN G at_156 (by rw [if_pos (own_okd (ch := chr4) hrn hn4 hdig 3 (by decide) rfl cq23 cq24)]; decide) ?_
        exact dm () trivial
  intro _ _
  try dsimp only
  refine ok_iconst G (1 : Int32) at_159 rfl ?_
  refine ok_goto G 164 at_160 (by decide) (by decide) ?_
  refine ok_istore G #[.val (.int c0), .val (.int c1), .val (.int c2), .val (.int c3), .val (.int shape), .val (.int chr1), .val (.int chr2), .val (.int chr3), .val (.int chr4), .val (.int (Int32.ofNat n)), .val (.int (Int32.ofNat pre0.length)), .val (.ref xr5), .val (.int (Int32.ofNat r)), .val (.int (1 : Int32)), .unset] at_164 rfl ?_
  refine ok_iload G at_166 rfl ?_
  refine ok_iload G at_168 rfl ?_
  refine ok_icmpeq G 192 at_170 (by decide) (by decide) (fun cq27 => ?_) (fun cq27 => ?_)
  · skip
    refine ok_iconst G (1 : Int32) at_192 rfl ?_
    refine ok_goto G 197 at_193 (by decide) (by decide) ?_
    refine ok_istore G #[.val (.int c0), .val (.int c1), .val (.int c2), .val (.int c3), .val (.int shape), .val (.int chr1), .val (.int chr2), .val (.int chr3), .val (.int chr4), .val (.int (Int32.ofNat n)), .val (.int (Int32.ofNat pre0.length)), .val (.ref xr5), .val (.int (Int32.ofNat r)), .val (.int (1 : Int32)), .val (.int (1 : Int32))] at_197 rfl ?_
    refine ok_iload G at_199 rfl ?_
    refine ok_ifeqN G at_201 (by decide) ?_
    refine ok_iload G at_204 rfl ?_
    refine ok_ifeqN G at_206 (by decide) ?_
    refine ok_iconst G (1 : Int32) at_209 rfl ?_
    refine ok_goto G 214 at_210 (by decide) (by decide) ?_
    exact ok_retN G rfl (by simp) at_214 rfl rfl (Nat.le_of_ble_eq_true rfl) (Nat.le_of_ble_eq_true rfl)
  · skip
    have hrlt : r < n := by have : ¬ r = n := fun q => cq27 (by rw [q]); omega
    have hnd : ¬ Lt ([chr1, chr2, chr3, chr4].getD r 0) := by have z := hstop (by rw [own_tlen hn4]; exact hrlt); rwa [own_tget hrlt] at z
    refine ok_iload G at_173 rfl ?_
    refine ok_iload G at_175 rfl ?_
    refine ok_iload G at_177 rfl ?_
    refine ok_iload G at_179 rfl ?_
    refine ok_iload G at_181 rfl ?_
    refine ok_static G (argsL := [(.int (Int32.ofNat r)), (.int chr1), (.int chr2), (.int chr3), (.int chr4)]) (rest := []) (C.w77) (C.w78) (C.w3) (C.w79) (by decide) pd20 (c_at C hO_hp7 (by omega) lchr1 lchr2 lchr3 lchr4) rfl rfl rfl at_183 (Nat.le_of_ble_eq_true rfl) (Nat.le_of_ble_eq_true rfl) (Nat.le_of_ble_eq_true rfl) (Nat.le_of_ble_eq_true rfl) (fun _ q => nomatch q) ?_
    rintro _ _ _ ⟨rfl, rfl⟩
    refine ok_as (mkF m 186 #[.val (.int c0), .val (.int c1), .val (.int c2), .val (.int c3), .val (.int shape), .val (.int chr1), .val (.int chr2), .val (.int chr3), .val (.int chr4), .val (.int (Int32.ofNat n)), .val (.int (Int32.ofNat pre0.length)), .val (.ref xr5), .val (.int (Int32.ofNat r)), .val (.int (1 : Int32)), .unset] [(.int ([chr1, chr2, chr3, chr4].getD r 0))]) rfl ?_
    refine ok_static G (argsL := [(.int ([chr1, chr2, chr3, chr4].getD r 0))]) (rest := []) (C.w80) (C.w81) (C.w3) (C.w82) (by decide) pd17 (c_letter C hO_hp7) rfl rfl rfl at_186 (Nat.le_of_ble_eq_true rfl) (Nat.le_of_ble_eq_true rfl) (Nat.le_of_ble_eq_true rfl) (Nat.le_of_ble_eq_true rfl) (fun _ q => nomatch q) ?_
    rintro _ _ _ ⟨rfl, rfl⟩
    refine ok_as (mkF m 189 #[.val (.int c0), .val (.int c1), .val (.int c2), .val (.int c3), .val (.int shape), .val (.int chr1), .val (.int chr2), .val (.int chr3), .val (.int chr4), .val (.int (Int32.ofNat n)), .val (.int (Int32.ofNat pre0.length)), .val (.ref xr5), .val (.int (Int32.ofNat r)), .val (.int (1 : Int32)), .unset] [(.int (if Lt ([chr1, chr2, chr3, chr4].getD r 0) then (1 : Int32) else 0))]) rfl ?_
    refine ok_ifneN G at_189 (if_neg hnd) ?_
    refine ok_iconst G (1 : Int32) at_192 rfl ?_
    refine ok_goto G 197 at_193 (by decide) (by decide) ?_
    refine ok_istore G #[.val (.int c0), .val (.int c1), .val (.int c2), .val (.int c3), .val (.int shape), .val (.int chr1), .val (.int chr2), .val (.int chr3), .val (.int chr4), .val (.int (Int32.ofNat n)), .val (.int (Int32.ofNat pre0.length)), .val (.ref xr5), .val (.int (Int32.ofNat r)), .val (.int (1 : Int32)), .val (.int (1 : Int32))] at_197 rfl ?_
    refine ok_iload G at_199 rfl ?_
    refine ok_ifeqN G at_201 (by decide) ?_
    refine ok_iload G at_204 rfl ?_
    refine ok_ifeqN G at_206 (by decide) ?_
    refine ok_iconst G (1 : Int32) at_209 rfl ?_
    refine ok_goto G 214 at_210 (by decide) (by decide) ?_
    exact ok_retN G rfl (by simp) at_214 rfl rfl (Nat.le_of_ble_eq_true rfl) (Nat.le_of_ble_eq_true rfl)
theorem own_ord {args : Array Value} {s : State} {t : Term} {x : Addr} {k : Int32} {C n d : String} (ht : t.eval args s none [] s = some (.ref x)) (h : (Jvm.Cond.eq (Term.field t C n d) (Term.int k)).value args s none s [] = some true) : s.fieldOf? x C n d = some (.int k) := by
  rw [← fld_at (first := s) (o := none) (idx := []) (args := args) ht]
  have e2 : (Term.int k).eval args s none [] s = some (.int k) := rfl
  cases he : (Term.field t C n d).eval args s none [] s with
  | none => simp [Cond.value, he] at h
  | some v => cases v <;> simp [Cond.value, he, e2] at h ⊢ <;> first | exact h | (cases h)
theorem own_compact {args : Array Value} {s : State} (hsets : ∀ w ∈ jdkStatics_1, w.before args s = true) : ∃ cz : Int32, Sta s s.heap "java/lang/String" "COMPACT_STRINGS" "Z" (.int cz) ∧ ¬ cz = 0 := by
  have h0 := hsets _ (List.mem_of_getElem? (i := 0) rfl)
  obtain ⟨cz, ez⟩ := is_v (Cond.before_iff.mp (hsets _ (List.mem_of_getElem? (i := 1) rfl)))
  have h2 := not_v (Cond.before_iff.mp (hsets _ (List.mem_of_getElem? (i := 2) rfl)))
  refine ⟨cz, Sta.start ez (Or.inl h0), fun q => ?_⟩
  subst q
  have e2 : (Term.int 0).eval args s none [] s = some (.int 0) := rfl
  simp [Cond.value, ez, e2] at h2
theorem own_sio {args : Array Value} {s : State} (hsets : ∀ w ∈ jdkStatics_1, w.before args s = true) : ∃ fm : Value, Sta s s.heap "jdk/internal/util/Preconditions" "SIOOBE_FORMATTER" "Ljava/util/function/BiFunction;" fm ∧ (fm = .null ∨ ∃ fa, fm = .ref fa) := by
  obtain ⟨fm, e1, e2⟩ := isR_v (Cond.before_iff.mp (hsets _ (List.mem_of_getElem? (i := 8) rfl)))
  exact ⟨fm, Sta.start e1 (Or.inl (hsets _ (List.mem_of_getElem? (i := 7) rfl))), ref_cases e2⟩
theorem own_stv {args : Array Value} {s : State} {C n d : String} {k : Int32} (h : (Jvm.Cond.eq (Term.static C n d) (Term.int k)).before args s = true) (hi : (Jvm.Cond.initializedFor C n d).before args s = true) : Sta s s.heap C n d (.int k) := by
  have h := Cond.before_iff.mp h
  refine Sta.start ?_ (Or.inl hi)
  have e2 : (Term.int k).eval args s none [] s = some (.int k) := rfl
  cases he : (Term.static C n d).eval args s none [] s with
  | none => simp [Cond.value, he] at h
  | some v => cases v <;> simp [Cond.value, he, e2] at h ⊢ <;> first | exact h | (cases h)
theorem own_u16 {args : Array Value} {Z : State} (hsets : ∀ w ∈ jdkStatics_1, w.before args Z = true) : (Sta Z Z.heap "java/lang/StringUTF16" "$assertionsDisabled" "Z" (.int 1) ∧ Sta Z Z.heap "java/lang/StringUTF16" "HI_BYTE_SHIFT" "I" (.int 0) ∧ Sta Z Z.heap "java/lang/StringUTF16" "LO_BYTE_SHIFT" "I" (.int 8)) :=
  ⟨own_stv (hsets _ (List.mem_of_getElem? (i := 12) rfl)) (hsets _ (List.mem_of_getElem? (i := 11) rfl)), own_stv (hsets _ (List.mem_of_getElem? (i := 15) rfl)) (hsets _ (List.mem_of_getElem? (i := 14) rfl)), own_stv (hsets _ (List.mem_of_getElem? (i := 18) rfl)) (hsets _ (List.mem_of_getElem? (i := 17) rfl))⟩
set_option maxRecDepth 65536 in
set_option maxHeartbeats 40000000 in
theorem comes_1 {Post : Tables → Env → Array Value → State → Outcome → State → Prop} (hpost : ∀ tb e args s v u, (limb_1_1.after args s (.returned v) u = true ∧ limb_1_2.after args s (.returned v) u = true ∧ True) → Jvm.D.FramedW s (.returned v) u (Jvm.fieldLocs frame_1_writes args s ++ Jvm.arrayLocs frame_1_arrays args s ++ Jvm.staticLocs frame_1_statics s) 24 1152 → Post tb e args s (.returned v) u) :
    ArmFor flags0 classFile x code maxLocals ret World_1 tables_1 room_1 Calls_1 rest_1 Pre_1 Post := by
  intro l hfl _ _ p e ha hc hk s m args below hf hA hF happ hP
  obtain ⟨hcalls, hrest, hpre⟩ := hP
  obtain ⟨-, -, -, hnamed, -, -, -, hat⟩ := (Spec.applies_iff hf).mp happ
  obtain ⟨hg, hn⟩ := and_e (Cond.before_iff.mp (show (Jvm.Cond.and given_1 narrow_1).before args s = true from hpre))
  obtain ⟨gv1, gv2⟩ := and_e hg
  obtain ⟨gv3, gv4⟩ := and_e gv2
  obtain ⟨gv5, gv6⟩ := and_e gv4
  obtain ⟨gv7, gv8⟩ := and_e gv6
  obtain ⟨gv9, gv10⟩ := and_e gv8
  obtain ⟨w0, w1, w2, w3, w4, rfl⟩ : ∃ w0 w1 w2 w3 w4 : Value, args = #[w0, w1, w2, w3, w4] := by
    have hs : args.size = 5 := by simpa [Cond.value, given_1] using gv1
    obtain ⟨L⟩ := args
    match L, hs with
    | [w0, w1, w2, w3, w4], _ => exact ⟨w0, w1, w2, w3, w4, rfl⟩
  have hw := fun d (hd : d ∈ tables_1) => atoms_spec (ws := Jvm.Cond.code x code maxLocals ret :: tables_1) hat d (List.mem_cons_of_mem _ hd)
  obtain ⟨hsets, hown0⟩ := atoms_of _ (rest_1_c_eq ▸ (show rest_1_c.before _ s = true from hrest))
  obtain ⟨i0, ei0⟩ := is_v gv3
  obtain rfl : w0 = (.int i0) := Option.some.inj ei0
  obtain ⟨i1, ei1⟩ := is_v gv5
  obtain rfl : w1 = (.int i1) := Option.some.inj ei1
  obtain ⟨i2, ei2⟩ := is_v gv7
  obtain rfl : w2 = (.int i2) := Option.some.inj ei2
  obtain ⟨i3, ei3⟩ := is_v gv9
  obtain rfl : w3 = (.int i3) := Option.some.inj ei3
  obtain ⟨i4, ei4⟩ := is_v gv10
  obtain rfl : w4 = (.int i4) := Option.some.inj ei4
  have O := Old.start s
  have hcz := own_compact hsets
  have hsio := own_sio hsets
  have hu16 := own_u16 hsets
  have hE : EW s #[(.int i0), (.int i1), (.int i2), (.int i3), (.int i4)] consts_1 := (EW.cons (hw _ (List.mem_of_getElem? (i := 19) rfl)) (by decide) EW.nil)
  have hCH : CHv s consts_1 s.vm s.heap := CHv.start hE hcalls.1 (hsets _ (List.mem_of_getElem? (i := 2) rfl)) (hw _ (List.mem_of_getElem? (i := 20) rfl)) (hw _ (List.mem_of_getElem? (i := 6) rfl))
  obtain ⟨n, o, h1, h2, h3, _, L, rfl, ⟨N, -, -, rfl⟩, hq⟩ := c_law (n0 := s.heap.size) ⟨hw, hcz, hsio, hu16⟩ O hE tables_1 p e ha hc hk s m _ below hf ((Spec.applies_iff_loose hf).mp happ).1 ⟨rfl, State.Warmed39.refl s, rfl, fun _ => hCH⟩ trivial
  refine ⟨n, _, h1, h2, h3, hpost _ _ _ _ _ _ ⟨Cond.after_iff.mpr rfl, Cond.after_iff.mpr (eq_i res_at (Term.int_eval (1)) rfl), trivial⟩ ⟨hq.2.1, hq.2.2.1, hq.2.2.2.1, (hq.2.2.2.2.sift fun y hy => Or.inr (N y hy)).mono (Nat.le_of_ble_eq_true rfl) (Nat.le_of_ble_eq_true rfl)⟩⟩
theorem main_1_1 : Claimed_1_1 := comes_1 fun _ _ _ _ _ _ h hF => ⟨h.1, hF⟩
theorem main_1_2 : Claimed_1_2 := comes_1 fun _ _ _ _ _ _ h hF => ⟨h.2.1, hF⟩
end Jvm.Pilot.@@N@@
namespace Jvm.Pilot.@@N@@
open Jvm Jvm.ClassFile Sem Op Lib Jvm.Free Jvm.Stand Jvm.Pilot.@@N@@.Jvm.D
/-! MADE BY PROGRAM (witnessworld.py) out of the Statement's table words and the real class files: 20 classes; the members and pool entries that the words name. The judged class is class 1, her method 1. -/
namespace start1
open Jvm.ClassFile
def u (s : String) : CpInfo := .utf8 (stringToUtf16 s)
/-- a pool by its gaps: so many unusable entries, then the entry; so many at the end -/
def gap : Nat → List CpInfo → List CpInfo
  | 0, r => r
  | n + 1, r => .unusable :: gap n r
def poolList (es : List (Nat × CpInfo)) (last : Nat) : List CpInfo := es.foldr (fun e r => gap e.1 (e.2 :: r)) (gap last [])
def pool (es : List (Nat × CpInfo)) (last : Nat) : Array CpInfo := ⟨poolList es last⟩
def fileOf (pool : Array CpInfo) (this : Nat) (attrs : Array Attribute := #[]) (ms : Array MethodInfo := #[]) (fl : Nat := 33) (sup : Nat := 0) (ifs : Array Nat := #[]) (fds : Array FieldInfo := #[]) : ClassFile where
  minorVersion := 0
  majorVersion := 65
  constantPool := pool
  accessFlags := fl
  thisClass := this
  superClass := sup
  interfaces := ifs
  fields := fds
  methods := ms
  attributes := attrs
def plain (name : String) (sup : Option ClassId) : Class where
  name := name
  kind := .ordinary
  loader := none
  accessFlags := 33
  super := sup
  interfaces := #[]
  cf := none
  fields := #[]
  methods := #[]
  instanceTypes := #[]
  staticTypes := #[]
  resolved := #[]
  callSites := []
  init := .initialized
  statics := none
  mirror := none

def pool0 : Array CpInfo := pool [(5, u "<init>"), (0, u "()V"), (1, .class_ 10), (1, u "java/lang/Object")] 113

def k0c0 : Code := { maxStack := 0, maxLocals := 1, code := object_method_1_code, exceptionTable := #[], attributes := #[] }
def k0m0 : Method := { name := "<init>", desc := "()V", sig := { parameters := [], returnType := none }, accessFlags := 1, code := some k0c0 }
/-- java/lang/Object -/
def k0 : Class := { plain "java/lang/Object" none with
  accessFlags := 33
  interfaces := #[]
  cf := some (fileOf pool0 8 #[] #[{ accessFlags := 1, nameIndex := 5, descriptorIndex := 6, attributes := #[] }] 33 0 #[] #[])
  fields := #[]
  methods := #[k0m0]
  instanceTypes := #[]
  staticTypes := #[]
  resolved := Array.replicate 124 none
  statics := none }

def pool1 : Array CpInfo := pool [(2, .class_ 4), (1, u "java/lang/Object"), (0, u "<init>"), (0, u "()V"), (0, .integer 2147483647), (0, .methodref 9 10), (0, .class_ 11), (0, .nameAndType 12 13), (0, u "com/example/logwright/logwright/CharactersSkipLettersPinLaw"), (0, u "make"), (0, u "(ICCCC)Ljava/lang/String;"), (0, .methodref 15 16), (0, .class_ 17), (0, .nameAndType 18 19), (0, u "com/example/logwright/logwright/Characters"), (0, u "skipLetters"), (0, u "(Ljava/lang/String;I)I"), (0, .methodref 9 21), (0, .nameAndType 22 23), (0, u "letter"), (0, u "(C)Z"), (0, .methodref 9 25), (0, .nameAndType 26 27), (0, u "at"), (0, u "(ICCCC)C"), (0, .class_ 29), (0, u "java/lang/String"), (0, .methodref 28 31), (0, .nameAndType 5 32), (0, u "([C)V"), (2, u "law"), (0, u "(IIIII)Z")] 3

def k1m0 : Method := { name := "<init>", desc := "()V", sig := { parameters := [], returnType := none }, accessFlags := 2, code := none }
def k1c1 : Code := { maxStack := 5, maxLocals := 15, code := code, exceptionTable := #[], attributes := #[] }
def k1m1 : Method := { name := "law", desc := "(IIIII)Z", sig := { parameters := [.int, .int, .int, .int, .int], returnType := some .boolean }, accessFlags := 9, code := some k1c1 }
def k1c2 : Code := { maxStack := 2, maxLocals := 1, code := method_3_code, exceptionTable := #[], attributes := #[] }
def k1m2 : Method := { name := "letter", desc := "(C)Z", sig := { parameters := [.char], returnType := some .boolean }, accessFlags := 10, code := some k1c2 }
def k1c3 : Code := { maxStack := 2, maxLocals := 5, code := method_4_code, exceptionTable := #[], attributes := #[] }
def k1m3 : Method := { name := "at", desc := "(ICCCC)C", sig := { parameters := [.int, .char, .char, .char, .char], returnType := some .char }, accessFlags := 10, code := some k1c3 }
def k1c4 : Code := { maxStack := 6, maxLocals := 5, code := method_5_code, exceptionTable := #[], attributes := #[] }
def k1m4 : Method := { name := "make", desc := "(ICCCC)Ljava/lang/String;", sig := { parameters := [.int, .char, .char, .char, .char], returnType := some (.object "java/lang/String") }, accessFlags := 10, code := some k1c4 }
/-- com/example/logwright/logwright/CharactersSkipLettersPinLaw -/
def k1 : Class := { plain "com/example/logwright/logwright/CharactersSkipLettersPinLaw" (some 0) with
  accessFlags := 49
  interfaces := #[]
  cf := some (fileOf pool1 9 #[] #[{ accessFlags := 2, nameIndex := 5, descriptorIndex := 6, attributes := #[] }, { accessFlags := 9, nameIndex := 35, descriptorIndex := 36, attributes := #[] }, { accessFlags := 10, nameIndex := 22, descriptorIndex := 23, attributes := #[] }, { accessFlags := 10, nameIndex := 26, descriptorIndex := 27, attributes := #[] }, { accessFlags := 10, nameIndex := 12, descriptorIndex := 13, attributes := #[] }] 49 2 #[] #[])
  fields := #[]
  methods := #[k1m0, k1m1, k1m2, k1m3, k1m4]
  instanceTypes := #[]
  staticTypes := #[]
  resolved := Array.replicate 40 none
  statics := none }

def pool2 : Array CpInfo := pool [(1, .class_ 2), (0, u "java/io/Serializable"), (0, .class_ 4), (0, u "java/lang/Object")] 2

/-- java/io/Serializable -/
def k2 : Class := { plain "java/io/Serializable" (some 0) with
  accessFlags := 1537
  interfaces := #[]
  cf := some (fileOf pool2 1 #[] #[] 1537 3 #[] #[])
  fields := #[]
  methods := #[]
  instanceTypes := #[]
  staticTypes := #[]
  resolved := Array.replicate 7 none
  statics := none }

def pool3 : Array CpInfo := pool [(1, .class_ 2), (0, u "java/lang/Comparable"), (0, .class_ 4), (0, u "java/lang/Object")] 7

/-- java/lang/Comparable -/
def k3 : Class := { plain "java/lang/Comparable" (some 0) with
  accessFlags := 1537
  interfaces := #[]
  cf := some (fileOf pool3 1 #[] #[] 1537 3 #[] #[])
  fields := #[]
  methods := #[]
  instanceTypes := #[]
  staticTypes := #[]
  resolved := Array.replicate 12 none
  statics := none }

def pool4 : Array CpInfo := pool [(2, .class_ 4), (1, u "java/lang/CharSequence"), (42, .class_ 48), (0, u "java/lang/CharSequence$1CodePointIterator"), (10, .class_ 60), (0, u "java/lang/CharSequence$1CharIterator"), (5, .class_ 67), (0, u "java/lang/Object")] 63

/-- java/lang/CharSequence -/
def k4 : Class := { plain "java/lang/CharSequence" (some 0) with
  accessFlags := 1537
  interfaces := #[]
  cf := some (fileOf pool4 2 #[.nestMembers #[47, 59]] #[] 1537 66 #[] #[])
  fields := #[]
  methods := #[]
  instanceTypes := #[]
  staticTypes := #[]
  resolved := Array.replicate 131 none
  statics := none }

def pool5 : Array CpInfo := pool [(1, .class_ 2), (0, u "java/lang/constant/Constable"), (0, .class_ 4), (0, u "java/lang/Object")] 6

/-- java/lang/constant/Constable -/
def k5 : Class := { plain "java/lang/constant/Constable" (some 0) with
  accessFlags := 1537
  interfaces := #[]
  cf := some (fileOf pool5 1 #[] #[] 1537 3 #[] #[])
  fields := #[]
  methods := #[]
  instanceTypes := #[]
  staticTypes := #[]
  resolved := Array.replicate 11 none
  statics := none }

def pool6 : Array CpInfo := pool [(1, .class_ 2), (0, u "java/lang/constant/ConstantDesc"), (0, .class_ 4), (0, u "java/lang/Object")] 32

/-- java/lang/constant/ConstantDesc -/
def k6 : Class := { plain "java/lang/constant/ConstantDesc" (some 0) with
  accessFlags := 1537
  interfaces := #[]
  cf := some (fileOf pool6 1 #[] #[] 1537 3 #[] #[])
  fields := #[]
  methods := #[]
  instanceTypes := #[]
  staticTypes := #[]
  resolved := Array.replicate 37 none
  statics := none }

def pool7 : Array CpInfo := pool [(1, .methodref 2 3), (0, .class_ 4), (0, .nameAndType 5 6), (0, u "java/lang/Object"), (0, u "<init>"), (0, u "()V"), (0, .string 8), (0, u ""), (0, .fieldref 10 11), (0, .class_ 12), (0, .nameAndType 13 14), (0, u "java/lang/String"), (0, u "value"), (0, u "[B"), (0, .fieldref 10 16), (0, .nameAndType 17 18), (0, u "coder"), (0, u "B"), (2, u "hash"), (0, u "I"), (2, u "hashIsZero"), (0, u "Z"), (0, .methodref 10 28), (0, .nameAndType 5 29), (0, u "([CIILjava/lang/Void;)V"), (8, .fieldref 10 39), (0, .nameAndType 40 26), (0, u "COMPACT_STRINGS"), (1, .class_ 44), (1, u "java/lang/StringUTF16"), (0, u "compress"), (1, .methodref 42 48), (0, .nameAndType 49 50), (0, u "coderFromArrayLen"), (0, u "([BI)B"), (56, .class_ 109), (1, u "java/lang/StringLatin1"), (32, u "()Z"), (34, .methodref 42 178), (0, .nameAndType 45 179), (0, u "([CII)[B"), (154, u "()I"), (0, .methodref 10 336), (0, .nameAndType 17 337), (0, u "()B"), (25, u "([BI)C"), (27, u "(II)V"), (35, u "(I)C"), (64, .methodref 10 493), (0, .nameAndType 494 142), (0, u "isLatin1"), (0, .methodref 107 496), (0, .nameAndType 497 363), (0, u "charAt"), (0, .methodref 42 496), (2, u "checkIndex"), (5, u "length"), (67, .class_ 576), (0, u "java/lang/CharSequence"), (22, u "CASE_INSENSITIVE_ORDER"), (0, u "Ljava/util/Comparator;"), (409, u "([C)V"), (42, .fieldref 1054 1055), (0, .class_ 1056), (0, .nameAndType 1057 1058), (0, u "jdk/internal/util/Preconditions"), (0, u "SIOOBE_FORMATTER"), (0, u "Ljava/util/function/BiFunction;"), (0, .methodref 1054 1060), (0, .nameAndType 501 1061), (0, u "(IILjava/util/function/BiFunction;)I"), (39, u "serialPersistentFields"), (0, u "[Ljava/io/ObjectStreamField;"), (0, .class_ 1104), (0, u "java/lang/String$CaseInsensitiveComparator"), (1, .class_ 1107), (0, u "java/io/Serializable"), (0, .class_ 1109), (0, u "java/lang/Comparable"), (0, .class_ 1111), (0, u "java/lang/constant/Constable"), (0, .class_ 1113), (0, u "java/lang/constant/ConstantDesc"), (2, u "serialVersionUID"), (0, u "J"), (3, u "REPL"), (0, u "C"), (2, u "LATIN1"), (1, u "UTF16")] 323

def k7m0 : Method := { name := "<init>", desc := "()V", sig := { parameters := [], returnType := none }, accessFlags := 1, code := none }
def k7c1 : Code := { maxStack := 5, maxLocals := 2, code := jdk_42_method_3_code, exceptionTable := #[], attributes := #[] }
def k7m1 : Method := { name := "<init>", desc := "([C)V", sig := { parameters := [(.array .char)], returnType := none }, accessFlags := 1, code := some k7c1 }
def k7c2 : Code := { maxStack := 2, maxLocals := 1, code := jdk_42_method_54_code, exceptionTable := #[], attributes := #[] }
def k7m2 : Method := { name := "length", desc := "()I", sig := { parameters := [], returnType := some .int }, accessFlags := 1, code := some k7c2 }
def k7c3 : Code := { maxStack := 2, maxLocals := 2, code := jdk_42_method_56_code, exceptionTable := #[], attributes := #[] }
def k7m3 : Method := { name := "charAt", desc := "(I)C", sig := { parameters := [.int], returnType := some .char }, accessFlags := 1, code := some k7c3 }
def k7c4 : Code := { maxStack := 4, maxLocals := 6, code := jdk_42_method_149_code, exceptionTable := #[], attributes := #[] }
def k7m4 : Method := { name := "<init>", desc := "([CIILjava/lang/Void;)V", sig := { parameters := [(.array .char), .int, .int, (.object "java/lang/Void")], returnType := none }, accessFlags := 2, code := some k7c4 }
def k7c5 : Code := { maxStack := 1, maxLocals := 1, code := jdk_42_method_152_code, exceptionTable := #[], attributes := #[] }
def k7m5 : Method := { name := "coder", desc := "()B", sig := { parameters := [], returnType := some .byte }, accessFlags := 0, code := some k7c5 }
def k7c6 : Code := { maxStack := 1, maxLocals := 1, code := jdk_42_method_154_code, exceptionTable := #[], attributes := #[] }
def k7m6 : Method := { name := "isLatin1", desc := "()Z", sig := { parameters := [], returnType := some .boolean }, accessFlags := 0, code := some k7c6 }
def k7c7 : Code := { maxStack := 3, maxLocals := 2, code := jdk_42_method_155_code, exceptionTable := #[], attributes := #[] }
def k7m7 : Method := { name := "checkIndex", desc := "(II)V", sig := { parameters := [.int, .int], returnType := none }, accessFlags := 8, code := some k7c7 }
/-- java/lang/String -/
def k7 : Class := { plain "java/lang/String" (some 0) with
  accessFlags := 49
  interfaces := #[2, 3, 4, 5, 6]
  cf := some (fileOf pool7 10 #[.nestMembers #[1103]] #[{ accessFlags := 1, nameIndex := 5, descriptorIndex := 6, attributes := #[] }, { accessFlags := 1, nameIndex := 5, descriptorIndex := 1010, attributes := #[] }, { accessFlags := 1, nameIndex := 507, descriptorIndex := 334, attributes := #[] }, { accessFlags := 1, nameIndex := 497, descriptorIndex := 427, attributes := #[] }, { accessFlags := 2, nameIndex := 5, descriptorIndex := 29, attributes := #[] }, { accessFlags := 0, nameIndex := 17, descriptorIndex := 337, attributes := #[] }, { accessFlags := 0, nameIndex := 494, descriptorIndex := 142, attributes := #[] }, { accessFlags := 8, nameIndex := 501, descriptorIndex := 391, attributes := #[] }] 49 2 #[1106, 1108, 575, 1110, 1112] #[{ accessFlags := 18, nameIndex := 13, descriptorIndex := 14, attributes := #[] }, { accessFlags := 18, nameIndex := 17, descriptorIndex := 18, attributes := #[] }, { accessFlags := 2, nameIndex := 21, descriptorIndex := 22, attributes := #[] }, { accessFlags := 2, nameIndex := 25, descriptorIndex := 26, attributes := #[] }, { accessFlags := 26, nameIndex := 1116, descriptorIndex := 1117, attributes := #[] }, { accessFlags := 24, nameIndex := 40, descriptorIndex := 26, attributes := #[] }, { accessFlags := 26, nameIndex := 1101, descriptorIndex := 1102, attributes := #[] }, { accessFlags := 26, nameIndex := 1121, descriptorIndex := 1122, attributes := #[] }, { accessFlags := 25, nameIndex := 599, descriptorIndex := 600, attributes := #[] }, { accessFlags := 24, nameIndex := 1125, descriptorIndex := 18, attributes := #[] }, { accessFlags := 24, nameIndex := 1127, descriptorIndex := 18, attributes := #[] }])
  fields := #[{ name := "value", type := (.array .byte), accessFlags := 18, slot := 0, constantValue := 0 }, { name := "coder", type := .byte, accessFlags := 18, slot := 1, constantValue := 0 }, { name := "hash", type := .int, accessFlags := 2, slot := 2, constantValue := 0 }, { name := "hashIsZero", type := .boolean, accessFlags := 2, slot := 3, constantValue := 0 }, { name := "serialVersionUID", type := .long, accessFlags := 26, slot := 0, constantValue := 0 }, { name := "COMPACT_STRINGS", type := .boolean, accessFlags := 24, slot := 1, constantValue := 0 }, { name := "serialPersistentFields", type := (.array (.object "java/io/ObjectStreamField")), accessFlags := 26, slot := 2, constantValue := 0 }, { name := "REPL", type := .char, accessFlags := 26, slot := 3, constantValue := 0 }, { name := "CASE_INSENSITIVE_ORDER", type := (.object "java/util/Comparator"), accessFlags := 25, slot := 4, constantValue := 0 }, { name := "LATIN1", type := .byte, accessFlags := 24, slot := 5, constantValue := 0 }, { name := "UTF16", type := .byte, accessFlags := 24, slot := 6, constantValue := 0 }]
  methods := #[k7m0, k7m1, k7m2, k7m3, k7m4, k7m5, k7m6, k7m7]
  instanceTypes := #[(.array .byte), .byte, .int, .boolean]
  staticTypes := #[.long, .boolean, (.array (.object "java/io/ObjectStreamField")), .char, (.object "java/util/Comparator"), .byte, .byte]
  resolved := Array.replicate 1451 none
  statics := some 0 }

def pool8 : Array CpInfo := pool [(2, .class_ 4), (1, u "java/lang/Object"), (0, u "<init>"), (0, u "()V"), (1, .class_ 10), (1, u "java/lang/String"), (3, .class_ 16), (1, u "com/example/logwright/logwright/Characters"), (1, u "(Ljava/lang/String;I)I"), (0, .methodref 8 20), (0, .nameAndType 21 22), (0, u "length"), (0, u "()I"), (2, u "skipLetters"), (0, .methodref 8 27), (0, .nameAndType 28 29), (0, u "charAt"), (0, u "(I)C"), (0, .methodref 14 31), (0, .nameAndType 32 33), (0, u "isLetter"), (0, u "(C)Z"), (6, u "SPACES"), (0, u "Ljava/lang/String;")] 10

def k8m0 : Method := { name := "<init>", desc := "()V", sig := { parameters := [], returnType := none }, accessFlags := 2, code := none }
def k8c1 : Code := { maxStack := 2, maxLocals := 3, code := prog_7_method_5_code, exceptionTable := #[], attributes := #[] }
def k8m1 : Method := { name := "skipLetters", desc := "(Ljava/lang/String;I)I", sig := { parameters := [(.object "java/lang/String"), .int], returnType := some .int }, accessFlags := 8, code := some k8c1 }
def k8c2 : Code := { maxStack := 2, maxLocals := 1, code := prog_7_method_7_code, exceptionTable := #[], attributes := #[] }
def k8m2 : Method := { name := "isLetter", desc := "(C)Z", sig := { parameters := [.char], returnType := some .boolean }, accessFlags := 10, code := some k8c2 }
/-- com/example/logwright/logwright/Characters -/
def k8 : Class := { plain "com/example/logwright/logwright/Characters" (some 0) with
  accessFlags := 48
  interfaces := #[]
  cf := some (fileOf pool8 14 #[] #[{ accessFlags := 2, nameIndex := 5, descriptorIndex := 6, attributes := #[] }, { accessFlags := 8, nameIndex := 25, descriptorIndex := 18, attributes := #[] }, { accessFlags := 10, nameIndex := 32, descriptorIndex := 33, attributes := #[] }] 48 2 #[] #[{ accessFlags := 26, nameIndex := 40, descriptorIndex := 41, attributes := #[] }])
  fields := #[{ name := "SPACES", type := (.object "java/lang/String"), accessFlags := 26, slot := 0, constantValue := 0 }]
  methods := #[k8m0, k8m1, k8m2]
  instanceTypes := #[]
  staticTypes := #[(.object "java/lang/String")]
  resolved := Array.replicate 52 none
  statics := none }

def pool9 : Array CpInfo := pool [(3, .class_ 4), (0, u "java/lang/String"), (1, .class_ 8), (1, u "java/lang/Object"), (0, u "<init>"), (0, u "()V"), (0, .methodref 12 13), (0, .class_ 14), (0, .nameAndType 15 16), (0, u "java/lang/StringUTF16"), (0, u "newBytesLength"), (0, u "(I)I"), (3, .integer 1073741823), (23, .fieldref 12 45), (0, .nameAndType 46 47), (0, u "$assertionsDisabled"), (0, u "Z"), (0, .methodref 12 49), (0, .nameAndType 50 51), (0, u "length"), (0, u "([B)I"), (7, .fieldref 12 60), (0, .nameAndType 61 62), (0, u "HI_BYTE_SHIFT"), (0, u "I"), (0, .fieldref 12 64), (0, .nameAndType 65 62), (0, u "LO_BYTE_SHIFT"), (1, .methodref 12 68), (0, .nameAndType 69 70), (0, u "checkIndex"), (0, u "(I[B)V"), (0, .methodref 12 72), (0, .nameAndType 73 74), (0, u "getChar"), (0, u "([BI)C"), (32, .methodref 12 108), (0, .nameAndType 109 110), (0, u "newBytesFor"), (0, u "(I)[B"), (0, .methodref 12 112), (0, .nameAndType 113 114), (0, u "putChar"), (0, u "([BII)V"), (0, .methodref 12 116), (0, .nameAndType 117 118), (0, u "compress"), (0, u "([CI[BII)I"), (0, .methodref 12 120), (0, .nameAndType 121 122), (0, u "toBytes"), (0, u "([CII)[B"), (138, u "coderFromArrayLen"), (0, u "([BI)B"), (106, .class_ 371), (1, u "java/lang/StringUTF16$LinesSpliterator"), (20, u "charAt"), (21, .methodref 3 415), (0, .nameAndType 69 416), (0, u "(II)V"), (13, u "MAX_LENGTH"), (196, .class_ 628), (0, u "java/lang/StringUTF16$CodePointsSpliterator"), (0, .class_ 630), (0, u "java/lang/StringUTF16$CharsSpliterator")] 4

def k9m0 : Method := { name := "<init>", desc := "()V", sig := { parameters := [], returnType := none }, accessFlags := 0, code := none }
def k9c1 : Code := { maxStack := 1, maxLocals := 1, code := jdk_52_method_2_code, exceptionTable := #[], attributes := #[] }
def k9m1 : Method := { name := "newBytesFor", desc := "(I)[B", sig := { parameters := [.int], returnType := some (.array .byte) }, accessFlags := 9, code := some k9c1 }
def k9c2 : Code := { maxStack := 4, maxLocals := 1, code := jdk_52_method_3_code, exceptionTable := #[], attributes := #[] }
def k9m2 : Method := { name := "newBytesLength", desc := "(I)I", sig := { parameters := [.int], returnType := some .int }, accessFlags := 9, code := some k9c2 }
def k9c3 : Code := { maxStack := 4, maxLocals := 3, code := jdk_52_method_4_code, exceptionTable := #[], attributes := #[] }
def k9m3 : Method := { name := "putChar", desc := "([BII)V", sig := { parameters := [(.array .byte), .int, .int], returnType := none }, accessFlags := 8, code := some k9c3 }
def k9c4 : Code := { maxStack := 3, maxLocals := 2, code := jdk_52_method_5_code, exceptionTable := #[], attributes := #[] }
def k9m4 : Method := { name := "getChar", desc := "([BI)C", sig := { parameters := [(.array .byte), .int], returnType := some .char }, accessFlags := 8, code := some k9c4 }
def k9c5 : Code := { maxStack := 2, maxLocals := 1, code := jdk_52_method_6_code, exceptionTable := #[], attributes := #[] }
def k9m5 : Method := { name := "length", desc := "([B)I", sig := { parameters := [(.array .byte)], returnType := some .int }, accessFlags := 9, code := some k9c5 }
def k9c6 : Code := { maxStack := 4, maxLocals := 5, code := jdk_52_method_14_code, exceptionTable := #[], attributes := #[] }
def k9m6 : Method := { name := "toBytes", desc := "([CII)[B", sig := { parameters := [(.array .char), .int, .int], returnType := some (.array .byte) }, accessFlags := 9, code := some k9c6 }
def k9c7 : Code := { maxStack := 2, maxLocals := 2, code := jdk_52_method_15_code, exceptionTable := #[], attributes := #[] }
def k9m7 : Method := { name := "coderFromArrayLen", desc := "([BI)B", sig := { parameters := [(.array .byte), .int], returnType := some .byte }, accessFlags := 8, code := some k9c7 }
def k9c8 : Code := { maxStack := 5, maxLocals := 6, code := jdk_52_method_16_code, exceptionTable := #[], attributes := #[] }
def k9m8 : Method := { name := "compress", desc := "([CII)[B", sig := { parameters := [(.array .char), .int, .int], returnType := some (.array .byte) }, accessFlags := 9, code := some k9c8 }
def k9c9 : Code := { maxStack := 3, maxLocals := 7, code := jdk_52_method_21_code, exceptionTable := #[], attributes := #[] }
def k9m9 : Method := { name := "compress", desc := "([CI[BII)I", sig := { parameters := [(.array .char), .int, (.array .byte), .int, .int], returnType := some .int }, accessFlags := 9, code := some k9c9 }
def k9c10 : Code := { maxStack := 2, maxLocals := 2, code := jdk_52_method_83_code, exceptionTable := #[], attributes := #[] }
def k9m10 : Method := { name := "charAt", desc := "([BI)C", sig := { parameters := [(.array .byte), .int], returnType := some .char }, accessFlags := 9, code := some k9c10 }
def k9c11 : Code := { maxStack := 2, maxLocals := 2, code := jdk_52_method_91_code, exceptionTable := #[], attributes := #[] }
def k9m11 : Method := { name := "checkIndex", desc := "(I[B)V", sig := { parameters := [.int, (.array .byte)], returnType := none }, accessFlags := 9, code := some k9c11 }
/-- java/lang/StringUTF16 -/
def k9 : Class := { plain "java/lang/StringUTF16" (some 0) with
  accessFlags := 48
  interfaces := #[]
  cf := some (fileOf pool9 12 #[.nestMembers #[627, 629, 369]] #[{ accessFlags := 0, nameIndex := 9, descriptorIndex := 10, attributes := #[] }, { accessFlags := 9, nameIndex := 109, descriptorIndex := 110, attributes := #[] }, { accessFlags := 9, nameIndex := 15, descriptorIndex := 16, attributes := #[] }, { accessFlags := 8, nameIndex := 113, descriptorIndex := 114, attributes := #[] }, { accessFlags := 8, nameIndex := 73, descriptorIndex := 74, attributes := #[] }, { accessFlags := 9, nameIndex := 50, descriptorIndex := 51, attributes := #[] }, { accessFlags := 9, nameIndex := 121, descriptorIndex := 122, attributes := #[] }, { accessFlags := 8, nameIndex := 261, descriptorIndex := 262, attributes := #[] }, { accessFlags := 9, nameIndex := 117, descriptorIndex := 122, attributes := #[] }, { accessFlags := 9, nameIndex := 117, descriptorIndex := 118, attributes := #[] }, { accessFlags := 9, nameIndex := 392, descriptorIndex := 74, attributes := #[] }, { accessFlags := 9, nameIndex := 69, descriptorIndex := 70, attributes := #[] }] 48 6 #[] #[{ accessFlags := 26, nameIndex := 61, descriptorIndex := 62, attributes := #[] }, { accessFlags := 26, nameIndex := 65, descriptorIndex := 62, attributes := #[] }, { accessFlags := 24, nameIndex := 430, descriptorIndex := 62, attributes := #[] }, { accessFlags := 4120, nameIndex := 46, descriptorIndex := 47, attributes := #[] }])
  fields := #[{ name := "HI_BYTE_SHIFT", type := .int, accessFlags := 26, slot := 0, constantValue := 0 }, { name := "LO_BYTE_SHIFT", type := .int, accessFlags := 26, slot := 1, constantValue := 0 }, { name := "MAX_LENGTH", type := .int, accessFlags := 24, slot := 2, constantValue := 0 }, { name := "$assertionsDisabled", type := .boolean, accessFlags := 4120, slot := 3, constantValue := 0 }]
  methods := #[k9m0, k9m1, k9m2, k9m3, k9m4, k9m5, k9m6, k9m7, k9m8, k9m9, k9m10, k9m11]
  instanceTypes := #[]
  staticTypes := #[.int, .int, .int, .boolean]
  resolved := Array.replicate 635 none
  statics := some 1 }

def pool10 : Array CpInfo := pool [(1, .class_ 2), (0, u "java/lang/String"), (1, .class_ 6), (1, u "java/lang/Object"), (0, u "<init>"), (0, u "()V"), (0, .methodref 1 10), (0, .nameAndType 11 12), (0, u "checkIndex"), (0, u "(II)V"), (1, .class_ 16), (1, u "java/lang/StringLatin1"), (36, u "([BI)C"), (67, u "$assertionsDisabled"), (0, u "Z"), (98, .class_ 223), (1, u "java/lang/StringLatin1$LinesSpliterator"), (28, u "charAt"), (137, .class_ 391), (0, u "java/lang/StringLatin1$CharsSpliterator")] 3

def k10m0 : Method := { name := "<init>", desc := "()V", sig := { parameters := [], returnType := none }, accessFlags := 0, code := none }
def k10c1 : Code := { maxStack := 2, maxLocals := 2, code := jdk_43_method_2_code, exceptionTable := #[], attributes := #[] }
def k10m1 : Method := { name := "charAt", desc := "([BI)C", sig := { parameters := [(.array .byte), .int], returnType := some .char }, accessFlags := 9, code := some k10c1 }
/-- java/lang/StringLatin1 -/
def k10 : Class := { plain "java/lang/StringLatin1" (some 0) with
  accessFlags := 48
  interfaces := #[]
  cf := some (fileOf pool10 14 #[.nestMembers #[390, 221]] #[{ accessFlags := 0, nameIndex := 7, descriptorIndex := 8, attributes := #[] }, { accessFlags := 9, nameIndex := 252, descriptorIndex := 53, attributes := #[] }] 48 4 #[] #[{ accessFlags := 4120, nameIndex := 121, descriptorIndex := 122, attributes := #[] }])
  fields := #[{ name := "$assertionsDisabled", type := .boolean, accessFlags := 4120, slot := 0, constantValue := 0 }]
  methods := #[k10m0, k10m1]
  instanceTypes := #[]
  staticTypes := #[.boolean]
  resolved := Array.replicate 395 none
  statics := none }

def pool11 : Array CpInfo := pool [(2, .class_ 4), (1, u "java/lang/Object"), (0, u "<init>"), (0, u "()V"), (17, .class_ 26), (1, u "jdk/internal/util/Preconditions"), (6, u "checkIndex"), (21, .class_ 56), (0, u "jdk/internal/util/Preconditions$4"), (57, .class_ 115), (0, u "jdk/internal/util/Preconditions$1"), (7, u "SIOOBE_FORMATTER"), (0, u "Ljava/util/function/BiFunction;"), (0, .class_ 126), (0, u "jdk/internal/util/Preconditions$2"), (3, u "AIOOBE_FORMATTER"), (0, .class_ 132), (0, u "jdk/internal/util/Preconditions$3"), (3, u "IOOBE_FORMATTER"), (41, u "(IILjava/util/function/BiFunction;)I")] 15

def k11m0 : Method := { name := "<init>", desc := "()V", sig := { parameters := [], returnType := none }, accessFlags := 1, code := none }
def k11c1 : Code := { maxStack := 3, maxLocals := 3, code := jdk_41_method_11_code, exceptionTable := #[], attributes := #[] }
def k11m1 : Method := { name := "checkIndex", desc := "(IILjava/util/function/BiFunction;)I", sig := { parameters := [.int, .int, (.object "java/util/function/BiFunction")], returnType := some .int }, accessFlags := 9, code := some k11c1 }
/-- jdk/internal/util/Preconditions -/
def k11 : Class := { plain "jdk/internal/util/Preconditions" (some 0) with
  accessFlags := 33
  interfaces := #[]
  cf := some (fileOf pool11 24 #[.nestMembers #[55, 131, 125, 114]] #[{ accessFlags := 1, nameIndex := 5, descriptorIndex := 6, attributes := #[] }, { accessFlags := 9, nameIndex := 33, descriptorIndex := 178, attributes := #[] }] 33 2 #[] #[{ accessFlags := 25, nameIndex := 123, descriptorIndex := 124, attributes := #[] }, { accessFlags := 25, nameIndex := 130, descriptorIndex := 124, attributes := #[] }, { accessFlags := 25, nameIndex := 136, descriptorIndex := 124, attributes := #[] }])
  fields := #[{ name := "SIOOBE_FORMATTER", type := (.object "java/util/function/BiFunction"), accessFlags := 25, slot := 0, constantValue := 0 }, { name := "AIOOBE_FORMATTER", type := (.object "java/util/function/BiFunction"), accessFlags := 25, slot := 1, constantValue := 0 }, { name := "IOOBE_FORMATTER", type := (.object "java/util/function/BiFunction"), accessFlags := 25, slot := 2, constantValue := 0 }]
  methods := #[k11m0, k11m1]
  instanceTypes := #[]
  staticTypes := #[(.object "java/util/function/BiFunction"), (.object "java/util/function/BiFunction"), (.object "java/util/function/BiFunction")]
  resolved := Array.replicate 194 none
  statics := some 2 }

def pool12 : Array CpInfo := pool [(9, u "<init>"), (6, .class_ 18), (1, u "java/lang/Object"), (0, u "()V"), (1, .class_ 23), (1, u "jdk/internal/util/ArraysSupport"), (0, u "LOG2_ARRAY_LONG_INDEX_SCALE"), (0, u "I"), (2, u "U"), (0, u "Ljdk/internal/misc/Unsafe;"), (8, u "BIG_ENDIAN"), (0, u "Z"), (8, u "LOG2_BYTE_BIT_SIZE"), (4, u "LOG2_ARRAY_INT_INDEX_SCALE"), (54, u "JLA"), (0, u "Ljdk/internal/access/JavaLangAccess;"), (11, u "LOG2_ARRAY_BOOLEAN_INDEX_SCALE"), (9, u "LOG2_ARRAY_BYTE_INDEX_SCALE"), (5, u "LOG2_ARRAY_CHAR_INDEX_SCALE"), (5, u "LOG2_ARRAY_SHORT_INDEX_SCALE"), (18, u "LOG2_ARRAY_FLOAT_INDEX_SCALE"), (24, u "LOG2_ARRAY_DOUBLE_INDEX_SCALE"), (89, u "T_BOOLEAN"), (2, u "T_CHAR"), (1, u "T_FLOAT"), (1, u "T_DOUBLE"), (1, u "T_BYTE"), (1, u "T_SHORT"), (1, u "T_INT"), (1, u "T_LONG"), (1, u "SOFT_MAX_ARRAY_LENGTH")] 83

def k12m0 : Method := { name := "<init>", desc := "()V", sig := { parameters := [], returnType := none }, accessFlags := 2, code := none }
/-- jdk/internal/util/ArraysSupport -/
def k12 : Class := { plain "jdk/internal/util/ArraysSupport" (some 0) with
  accessFlags := 33
  interfaces := #[]
  cf := some (fileOf pool12 21 #[] #[{ accessFlags := 2, nameIndex := 9, descriptorIndex := 19, attributes := #[] }] 33 16 #[] #[{ accessFlags := 24, nameIndex := 28, descriptorIndex := 29, attributes := #[] }, { accessFlags := 26, nameIndex := 38, descriptorIndex := 39, attributes := #[] }, { accessFlags := 25, nameIndex := 121, descriptorIndex := 25, attributes := #[] }, { accessFlags := 25, nameIndex := 131, descriptorIndex := 25, attributes := #[] }, { accessFlags := 25, nameIndex := 137, descriptorIndex := 25, attributes := #[] }, { accessFlags := 25, nameIndex := 143, descriptorIndex := 25, attributes := #[] }, { accessFlags := 25, nameIndex := 53, descriptorIndex := 25, attributes := #[] }, { accessFlags := 25, nameIndex := 24, descriptorIndex := 25, attributes := #[] }, { accessFlags := 25, nameIndex := 162, descriptorIndex := 25, attributes := #[] }, { accessFlags := 25, nameIndex := 187, descriptorIndex := 25, attributes := #[] }, { accessFlags := 26, nameIndex := 48, descriptorIndex := 25, attributes := #[] }, { accessFlags := 25, nameIndex := 277, descriptorIndex := 25, attributes := #[] }, { accessFlags := 25, nameIndex := 280, descriptorIndex := 25, attributes := #[] }, { accessFlags := 25, nameIndex := 282, descriptorIndex := 25, attributes := #[] }, { accessFlags := 25, nameIndex := 284, descriptorIndex := 25, attributes := #[] }, { accessFlags := 25, nameIndex := 286, descriptorIndex := 25, attributes := #[] }, { accessFlags := 25, nameIndex := 288, descriptorIndex := 25, attributes := #[] }, { accessFlags := 25, nameIndex := 290, descriptorIndex := 25, attributes := #[] }, { accessFlags := 25, nameIndex := 292, descriptorIndex := 25, attributes := #[] }, { accessFlags := 26, nameIndex := 108, descriptorIndex := 109, attributes := #[] }, { accessFlags := 25, nameIndex := 294, descriptorIndex := 25, attributes := #[] }])
  fields := #[{ name := "U", type := (.object "jdk/internal/misc/Unsafe"), accessFlags := 24, slot := 0, constantValue := 0 }, { name := "BIG_ENDIAN", type := .boolean, accessFlags := 26, slot := 1, constantValue := 0 }, { name := "LOG2_ARRAY_BOOLEAN_INDEX_SCALE", type := .int, accessFlags := 25, slot := 2, constantValue := 0 }, { name := "LOG2_ARRAY_BYTE_INDEX_SCALE", type := .int, accessFlags := 25, slot := 3, constantValue := 0 }, { name := "LOG2_ARRAY_CHAR_INDEX_SCALE", type := .int, accessFlags := 25, slot := 4, constantValue := 0 }, { name := "LOG2_ARRAY_SHORT_INDEX_SCALE", type := .int, accessFlags := 25, slot := 5, constantValue := 0 }, { name := "LOG2_ARRAY_INT_INDEX_SCALE", type := .int, accessFlags := 25, slot := 6, constantValue := 0 }, { name := "LOG2_ARRAY_LONG_INDEX_SCALE", type := .int, accessFlags := 25, slot := 7, constantValue := 0 }, { name := "LOG2_ARRAY_FLOAT_INDEX_SCALE", type := .int, accessFlags := 25, slot := 8, constantValue := 0 }, { name := "LOG2_ARRAY_DOUBLE_INDEX_SCALE", type := .int, accessFlags := 25, slot := 9, constantValue := 0 }, { name := "LOG2_BYTE_BIT_SIZE", type := .int, accessFlags := 26, slot := 10, constantValue := 0 }, { name := "T_BOOLEAN", type := .int, accessFlags := 25, slot := 11, constantValue := 0 }, { name := "T_CHAR", type := .int, accessFlags := 25, slot := 12, constantValue := 0 }, { name := "T_FLOAT", type := .int, accessFlags := 25, slot := 13, constantValue := 0 }, { name := "T_DOUBLE", type := .int, accessFlags := 25, slot := 14, constantValue := 0 }, { name := "T_BYTE", type := .int, accessFlags := 25, slot := 15, constantValue := 0 }, { name := "T_SHORT", type := .int, accessFlags := 25, slot := 16, constantValue := 0 }, { name := "T_INT", type := .int, accessFlags := 25, slot := 17, constantValue := 0 }, { name := "T_LONG", type := .int, accessFlags := 25, slot := 18, constantValue := 0 }, { name := "JLA", type := (.object "jdk/internal/access/JavaLangAccess"), accessFlags := 26, slot := 19, constantValue := 0 }, { name := "SOFT_MAX_ARRAY_LENGTH", type := .int, accessFlags := 25, slot := 20, constantValue := 0 }]
  methods := #[k12m0]
  instanceTypes := #[]
  staticTypes := #[(.object "jdk/internal/misc/Unsafe"), .boolean, .int, .int, .int, .int, .int, .int, .int, .int, .int, .int, .int, .int, .int, .int, .int, .int, .int, (.object "jdk/internal/access/JavaLangAccess"), .int]
  resolved := Array.replicate 378 none
  statics := none }

def pool13 : Array CpInfo := pool [(1, u "java/lang/Cloneable"), (0, .class_ 1), (0, u "java/lang/Object"), (0, .class_ 3)] 3

/-- java/lang/Cloneable -/
def k13 : Class := { plain "java/lang/Cloneable" (some 0) with
  accessFlags := 1537
  interfaces := #[]
  cf := some (fileOf pool13 2 #[] #[] 1537 4 #[] #[])
  fields := #[]
  methods := #[]
  instanceTypes := #[]
  staticTypes := #[]
  resolved := Array.replicate 8 none
  statics := none }

/-- the primitive byte -/
def k14 : Class := { plain "byte" none with kind := .primitive 'B', accessFlags := 0x411 }
/-- [B -/
def k15 : Class := { plain "[B" (some 0) with kind := .array 14 .byte, interfaces := #[13, 2], accessFlags := 1041 }

/-- the primitive char -/
def k16 : Class := { plain "char" none with kind := .primitive 'C', accessFlags := 0x411 }
/-- [C -/
def k17 : Class := { plain "[C" (some 0) with kind := .array 16 .char, interfaces := #[13, 2], accessFlags := 1041 }

/-- the primitive int -/
def k18 : Class := { plain "int" none with kind := .primitive 'I', accessFlags := 0x411 }
/-- [I -/
def k19 : Class := { plain "[I" (some 0) with kind := .array 18 .int, interfaces := #[13, 2], accessFlags := 1041 }

def heap : Heap := #[{ cls := 7, slots := #[.long 0, .int 1, .null, .int 0, .null, .int 0, .int 0], vm := .statics 7 },
  { cls := 9, slots := #[.int 0, .int 8, .int 0, .int 1], vm := .statics 9 },
  { cls := 11, slots := #[.null, .null, .null], vm := .statics 11 }]
def classes : Array Class := #[k0, k1, k2, k3, k4, k5, k6, k7, k8, k9, k10, k11, k12, k13, k14, k15, k16, k17, k18, k19]
def interned : List (Array UInt16 × Addr) := []
def slotsUsed : Nat := 14
def theMethod : MethodId := ⟨1, 1⟩
def args0 : Array Value := #[.int 5, .int 6, .int 7, .int 8, .int 9]
def aboutOver (below : List Frame) : State where
  vm := { classes := classes, interned := interned.toArray }
  heap := heap
  slotsUsed := slotsUsed
  threads := #[{ frames := .invoking theMethod args0 :: below }]
def below0 : List Frame := [.native { method := ⟨0, 0⟩, args := #[] }]
def about1 : State := aboutOver below0
def p0 : Program := .bare "" "" ""
def e0 : Env := launch0.env 0 0 0
theorem w_frames : about1.frames = Frame.invoking theMethod args0 :: below0 := rfl
set_option maxRecDepth 65536 in
theorem w_args : argsFit about1.vm theMethod args0 = true := by decide +kernel
set_option maxRecDepth 65536 in
theorem w_heap : heapFits about1 = true := by decide +kernel
set_option maxRecDepth 65536 in
theorem w_runnable : about1.curStatus? = some .runnable := by decide +kernel
set_option maxRecDepth 65536 in
theorem w_alone : about1.alone = true := by decide +kernel
set_option maxRecDepth 65536 in
theorem w_named : about1.methodNamed? x = some theMethod := by decide +kernel
set_option maxRecDepth 65536 in
theorem w_hears : about1.hears theMethod below0 = true := by decide +kernel
set_option maxRecDepth 65536 in
theorem w_ripe : about1.ripe theMethod args0 below0 = true := by decide +kernel
theorem w_running : about1.status = .running := rfl
set_option maxRecDepth 65536 in
theorem w_room : about1.hasRoom e0.platform room_1 = true :=
  launch0.hasRoom_least _ room_1 (by decide +kernel) (by decide +kernel) (by decide +kernel) (by decide +kernel) (by decide +kernel) (by decide +kernel)
theorem allAtoms_all (ts : List Jvm.Cond) (a : Array Jvm.Value) (st : Jvm.State) : (allAtoms ts).before a st = ts.all (fun c => c.before a st) := by
  induction ts with
  | nil => rfl
  | cons c t ih =>
    show (Jvm.Cond.and c (allAtoms t)).before a st = _
    rw [Jvm.Cond.before_and, ih, List.all_cons]
def words1 : List Jvm.Cond := Jvm.Cond.code x code maxLocals ret :: tables_1
/-- a 'code' word, met by the world's own term for the bytes: nothing is compared byte by byte -/
theorem code_word {y : MethodName} {bytes : ByteArray} {mx : Nat} {rt : Option FieldType} {a : Array Value} {s : State} {m : MethodId} {meth : Method} {c : Code} (h1 : s.methodNamed? y = some m) (h2 : s.vm.method? m = some meth) (h3 : meth.code = some c) (h4 : c.code = bytes)
    (h5 : (c.maxLocals == mx && c.exceptionTable.isEmpty && decide (c.maxStack ≤ mostOperands) && decide (meth.sig.returnType = rt) && !meth.locks && decide (parseMethodDescriptor y.desc = some meth.sig)) = true) : (Jvm.Cond.code y bytes mx rt).before a s = true := by
  simp only [Bool.and_eq_true, beq_iff_eq, Bool.not_eq_true', decide_eq_true_eq] at h5
  obtain ⟨⟨⟨⟨⟨g1, g2⟩, g3⟩, g4⟩, g5⟩, g6⟩ := h5
  simp [Cond.before, Cond.holds, Cond.value, h1, h2, h3, h4, g1, g2, g3, g4, g5, g6]
def isCode : Jvm.Cond → Bool
  | .code _ _ _ _ => true
  | _ => false
theorem all_split {L : List Jvm.Cond} {P : Jvm.Cond → Bool} (h1 : L.all (fun c => isCode c || P c) = true) (h2 : ∀ c ∈ L.filter isCode, P c = true) : L.all P = true := by
  refine List.all_eq_true.mpr fun c hc => ?_
  have h := List.all_eq_true.mp h1 c hc
  rcases Bool.eq_false_or_eq_true (isCode c) with hi | hi
  · exact h2 c (List.mem_filter.mpr ⟨hc, hi⟩)
  · simpa [hi] using h
set_option maxRecDepth 65536 in
theorem w_c0 : (Jvm.Cond.code x code maxLocals ret).before args0 about1 = true := code_word (m := ⟨1, 1⟩) (meth := k1m1) (c := k1c1) (by decide +kernel) rfl rfl rfl (by decide +kernel)
set_option maxRecDepth 65536 in
theorem w_c1 : (Jvm.Cond.code ({ cls := "com/example/logwright/logwright/CharactersSkipLettersPinLaw", name := "make", desc := "(ICCCC)Ljava/lang/String;" } : Jvm.MethodName) method_5_code (5 : Nat) (Option.some (Jvm.ClassFile.FieldType.object "java/lang/String"))).before args0 about1 = true := code_word (m := ⟨1, 4⟩) (meth := k1m4) (c := k1c4) (by decide +kernel) rfl rfl rfl (by decide +kernel)
set_option maxRecDepth 65536 in
theorem w_c2 : (Jvm.Cond.code ({ cls := "java/lang/String", name := "<init>", desc := "([C)V" } : Jvm.MethodName) jdk_42_method_3_code (2 : Nat) (Option.none : Option Jvm.ClassFile.FieldType)).before args0 about1 = true := code_word (m := ⟨7, 1⟩) (meth := k7m1) (c := k7c1) (by decide +kernel) rfl rfl rfl (by decide +kernel)
set_option maxRecDepth 65536 in
theorem w_c3 : (Jvm.Cond.code ({ cls := "java/lang/String", name := "<init>", desc := "([CIILjava/lang/Void;)V" } : Jvm.MethodName) jdk_42_method_149_code (6 : Nat) (Option.none : Option Jvm.ClassFile.FieldType)).before args0 about1 = true := code_word (m := ⟨7, 4⟩) (meth := k7m4) (c := k7c4) (by decide +kernel) rfl rfl rfl (by decide +kernel)
set_option maxRecDepth 65536 in
theorem w_c4 : (Jvm.Cond.code ({ cls := "java/lang/Object", name := "<init>", desc := "()V" } : Jvm.MethodName) object_method_1_code (1 : Nat) (Option.none : Option Jvm.ClassFile.FieldType)).before args0 about1 = true := code_word (m := ⟨0, 0⟩) (meth := k0m0) (c := k0c0) (by decide +kernel) rfl rfl rfl (by decide +kernel)
set_option maxRecDepth 65536 in
theorem w_c5 : (Jvm.Cond.code ({ cls := "com/example/logwright/logwright/Characters", name := "skipLetters", desc := "(Ljava/lang/String;I)I" } : Jvm.MethodName) prog_7_method_5_code (3 : Nat) (Option.some Jvm.ClassFile.FieldType.int)).before args0 about1 = true := code_word (m := ⟨8, 1⟩) (meth := k8m1) (c := k8c1) (by decide +kernel) rfl rfl rfl (by decide +kernel)
set_option maxRecDepth 65536 in
theorem w_c6 : (Jvm.Cond.code ({ cls := "java/lang/String", name := "length", desc := "()I" } : Jvm.MethodName) jdk_42_method_54_code (1 : Nat) (Option.some Jvm.ClassFile.FieldType.int)).before args0 about1 = true := code_word (m := ⟨7, 2⟩) (meth := k7m2) (c := k7c2) (by decide +kernel) rfl rfl rfl (by decide +kernel)
set_option maxRecDepth 65536 in
theorem w_c7 : (Jvm.Cond.code ({ cls := "java/lang/String", name := "coder", desc := "()B" } : Jvm.MethodName) jdk_42_method_152_code (1 : Nat) (Option.some Jvm.ClassFile.FieldType.byte)).before args0 about1 = true := code_word (m := ⟨7, 5⟩) (meth := k7m5) (c := k7c5) (by decide +kernel) rfl rfl rfl (by decide +kernel)
set_option maxRecDepth 65536 in
theorem w_c8 : (Jvm.Cond.code ({ cls := "java/lang/StringUTF16", name := "compress", desc := "([CII)[B" } : Jvm.MethodName) jdk_52_method_16_code (6 : Nat) (Option.some (Jvm.ClassFile.FieldType.array Jvm.ClassFile.FieldType.byte))).before args0 about1 = true := code_word (m := ⟨9, 8⟩) (meth := k9m8) (c := k9c8) (by decide +kernel) rfl rfl rfl (by decide +kernel)
set_option maxRecDepth 65536 in
theorem w_c9 : (Jvm.Cond.code ({ cls := "java/lang/StringUTF16", name := "compress", desc := "([CI[BII)I" } : Jvm.MethodName) jdk_52_method_21_code (7 : Nat) (Option.some Jvm.ClassFile.FieldType.int)).before args0 about1 = true := code_word (m := ⟨9, 9⟩) (meth := k9m9) (c := k9c9) (by decide +kernel) rfl rfl rfl (by decide +kernel)
set_option maxRecDepth 65536 in
theorem w_c10 : (Jvm.Cond.code ({ cls := "java/lang/StringUTF16", name := "coderFromArrayLen", desc := "([BI)B" } : Jvm.MethodName) jdk_52_method_15_code (2 : Nat) (Option.some Jvm.ClassFile.FieldType.byte)).before args0 about1 = true := code_word (m := ⟨9, 7⟩) (meth := k9m7) (c := k9c7) (by decide +kernel) rfl rfl rfl (by decide +kernel)
set_option maxRecDepth 65536 in
theorem w_c11 : (Jvm.Cond.code ({ cls := "java/lang/String", name := "charAt", desc := "(I)C" } : Jvm.MethodName) jdk_42_method_56_code (2 : Nat) (Option.some Jvm.ClassFile.FieldType.char)).before args0 about1 = true := code_word (m := ⟨7, 3⟩) (meth := k7m3) (c := k7c3) (by decide +kernel) rfl rfl rfl (by decide +kernel)
set_option maxRecDepth 65536 in
theorem w_c12 : (Jvm.Cond.code ({ cls := "java/lang/String", name := "isLatin1", desc := "()Z" } : Jvm.MethodName) jdk_42_method_154_code (1 : Nat) (Option.some Jvm.ClassFile.FieldType.boolean)).before args0 about1 = true := code_word (m := ⟨7, 6⟩) (meth := k7m6) (c := k7c6) (by decide +kernel) rfl rfl rfl (by decide +kernel)
set_option maxRecDepth 65536 in
theorem w_c13 : (Jvm.Cond.code ({ cls := "java/lang/StringLatin1", name := "charAt", desc := "([BI)C" } : Jvm.MethodName) jdk_43_method_2_code (2 : Nat) (Option.some Jvm.ClassFile.FieldType.char)).before args0 about1 = true := code_word (m := ⟨10, 1⟩) (meth := k10m1) (c := k10c1) (by decide +kernel) rfl rfl rfl (by decide +kernel)
set_option maxRecDepth 65536 in
theorem w_c14 : (Jvm.Cond.code ({ cls := "java/lang/String", name := "checkIndex", desc := "(II)V" } : Jvm.MethodName) jdk_42_method_155_code (2 : Nat) (Option.none : Option Jvm.ClassFile.FieldType)).before args0 about1 = true := code_word (m := ⟨7, 7⟩) (meth := k7m7) (c := k7c7) (by decide +kernel) rfl rfl rfl (by decide +kernel)
set_option maxRecDepth 65536 in
theorem w_c15 : (Jvm.Cond.code ({ cls := "jdk/internal/util/Preconditions", name := "checkIndex", desc := "(IILjava/util/function/BiFunction;)I" } : Jvm.MethodName) jdk_41_method_11_code (3 : Nat) (Option.some Jvm.ClassFile.FieldType.int)).before args0 about1 = true := code_word (m := ⟨11, 1⟩) (meth := k11m1) (c := k11c1) (by decide +kernel) rfl rfl rfl (by decide +kernel)
set_option maxRecDepth 65536 in
theorem w_c16 : (Jvm.Cond.code ({ cls := "com/example/logwright/logwright/Characters", name := "isLetter", desc := "(C)Z" } : Jvm.MethodName) prog_7_method_7_code (1 : Nat) (Option.some Jvm.ClassFile.FieldType.boolean)).before args0 about1 = true := code_word (m := ⟨8, 2⟩) (meth := k8m2) (c := k8c2) (by decide +kernel) rfl rfl rfl (by decide +kernel)
set_option maxRecDepth 65536 in
theorem w_c17 : (Jvm.Cond.code ({ cls := "com/example/logwright/logwright/CharactersSkipLettersPinLaw", name := "at", desc := "(ICCCC)C" } : Jvm.MethodName) method_4_code (5 : Nat) (Option.some Jvm.ClassFile.FieldType.char)).before args0 about1 = true := code_word (m := ⟨1, 3⟩) (meth := k1m3) (c := k1c3) (by decide +kernel) rfl rfl rfl (by decide +kernel)
set_option maxRecDepth 65536 in
theorem w_c18 : (Jvm.Cond.code ({ cls := "com/example/logwright/logwright/CharactersSkipLettersPinLaw", name := "letter", desc := "(C)Z" } : Jvm.MethodName) method_3_code (1 : Nat) (Option.some Jvm.ClassFile.FieldType.boolean)).before args0 about1 = true := code_word (m := ⟨1, 2⟩) (meth := k1m2) (c := k1c2) (by decide +kernel) rfl rfl rfl (by decide +kernel)
set_option maxRecDepth 65536 in
theorem w_c19 : (Jvm.Cond.code ({ cls := "java/lang/StringUTF16", name := "toBytes", desc := "([CII)[B" } : Jvm.MethodName) jdk_52_method_14_code (5 : Nat) (Option.some (Jvm.ClassFile.FieldType.array Jvm.ClassFile.FieldType.byte))).before args0 about1 = true := code_word (m := ⟨9, 6⟩) (meth := k9m6) (c := k9c6) (by decide +kernel) rfl rfl rfl (by decide +kernel)
set_option maxRecDepth 65536 in
theorem w_c20 : (Jvm.Cond.code ({ cls := "java/lang/StringUTF16", name := "newBytesFor", desc := "(I)[B" } : Jvm.MethodName) jdk_52_method_2_code (1 : Nat) (Option.some (Jvm.ClassFile.FieldType.array Jvm.ClassFile.FieldType.byte))).before args0 about1 = true := code_word (m := ⟨9, 1⟩) (meth := k9m1) (c := k9c1) (by decide +kernel) rfl rfl rfl (by decide +kernel)
set_option maxRecDepth 65536 in
theorem w_c21 : (Jvm.Cond.code ({ cls := "java/lang/StringUTF16", name := "newBytesLength", desc := "(I)I" } : Jvm.MethodName) jdk_52_method_3_code (1 : Nat) (Option.some Jvm.ClassFile.FieldType.int)).before args0 about1 = true := code_word (m := ⟨9, 2⟩) (meth := k9m2) (c := k9c2) (by decide +kernel) rfl rfl rfl (by decide +kernel)
set_option maxRecDepth 65536 in
theorem w_c22 : (Jvm.Cond.code ({ cls := "java/lang/StringUTF16", name := "putChar", desc := "([BII)V" } : Jvm.MethodName) jdk_52_method_4_code (3 : Nat) (Option.none : Option Jvm.ClassFile.FieldType)).before args0 about1 = true := code_word (m := ⟨9, 3⟩) (meth := k9m3) (c := k9c3) (by decide +kernel) rfl rfl rfl (by decide +kernel)
set_option maxRecDepth 65536 in
theorem w_c23 : (Jvm.Cond.code ({ cls := "java/lang/StringUTF16", name := "getChar", desc := "([BI)C" } : Jvm.MethodName) jdk_52_method_5_code (2 : Nat) (Option.some Jvm.ClassFile.FieldType.char)).before args0 about1 = true := code_word (m := ⟨9, 4⟩) (meth := k9m4) (c := k9c4) (by decide +kernel) rfl rfl rfl (by decide +kernel)
set_option maxRecDepth 65536 in
theorem w_c24 : (Jvm.Cond.code ({ cls := "java/lang/StringUTF16", name := "charAt", desc := "([BI)C" } : Jvm.MethodName) jdk_52_method_83_code (2 : Nat) (Option.some Jvm.ClassFile.FieldType.char)).before args0 about1 = true := code_word (m := ⟨9, 10⟩) (meth := k9m10) (c := k9c10) (by decide +kernel) rfl rfl rfl (by decide +kernel)
set_option maxRecDepth 65536 in
theorem w_c25 : (Jvm.Cond.code ({ cls := "java/lang/StringUTF16", name := "checkIndex", desc := "(I[B)V" } : Jvm.MethodName) jdk_52_method_91_code (2 : Nat) (Option.none : Option Jvm.ClassFile.FieldType)).before args0 about1 = true := code_word (m := ⟨9, 11⟩) (meth := k9m11) (c := k9c11) (by decide +kernel) rfl rfl rfl (by decide +kernel)
set_option maxRecDepth 65536 in
theorem w_c26 : (Jvm.Cond.code ({ cls := "java/lang/StringUTF16", name := "length", desc := "([B)I" } : Jvm.MethodName) jdk_52_method_6_code (1 : Nat) (Option.some Jvm.ClassFile.FieldType.int)).before args0 about1 = true := code_word (m := ⟨9, 5⟩) (meth := k9m5) (c := k9c5) (by decide +kernel) rfl rfl rfl (by decide +kernel)
def codes1 : List Jvm.Cond := [Jvm.Cond.code x code maxLocals ret, Jvm.Cond.code ({ cls := "com/example/logwright/logwright/CharactersSkipLettersPinLaw", name := "make", desc := "(ICCCC)Ljava/lang/String;" } : Jvm.MethodName) method_5_code (5 : Nat) (Option.some (Jvm.ClassFile.FieldType.object "java/lang/String")), Jvm.Cond.code ({ cls := "java/lang/String", name := "<init>", desc := "([C)V" } : Jvm.MethodName) jdk_42_method_3_code (2 : Nat) (Option.none : Option Jvm.ClassFile.FieldType), Jvm.Cond.code ({ cls := "java/lang/String", name := "<init>", desc := "([CIILjava/lang/Void;)V" } : Jvm.MethodName) jdk_42_method_149_code (6 : Nat) (Option.none : Option Jvm.ClassFile.FieldType), Jvm.Cond.code ({ cls := "java/lang/Object", name := "<init>", desc := "()V" } : Jvm.MethodName) object_method_1_code (1 : Nat) (Option.none : Option Jvm.ClassFile.FieldType), Jvm.Cond.code ({ cls := "com/example/logwright/logwright/Characters", name := "skipLetters", desc := "(Ljava/lang/String;I)I" } : Jvm.MethodName) prog_7_method_5_code (3 : Nat) (Option.some Jvm.ClassFile.FieldType.int), Jvm.Cond.code ({ cls := "java/lang/String", name := "length", desc := "()I" } : Jvm.MethodName) jdk_42_method_54_code (1 : Nat) (Option.some Jvm.ClassFile.FieldType.int), Jvm.Cond.code ({ cls := "java/lang/String", name := "coder", desc := "()B" } : Jvm.MethodName) jdk_42_method_152_code (1 : Nat) (Option.some Jvm.ClassFile.FieldType.byte), Jvm.Cond.code ({ cls := "java/lang/StringUTF16", name := "compress", desc := "([CII)[B" } : Jvm.MethodName) jdk_52_method_16_code (6 : Nat) (Option.some (Jvm.ClassFile.FieldType.array Jvm.ClassFile.FieldType.byte)), Jvm.Cond.code ({ cls := "java/lang/StringUTF16", name := "compress", desc := "([CI[BII)I" } : Jvm.MethodName) jdk_52_method_21_code (7 : Nat) (Option.some Jvm.ClassFile.FieldType.int), Jvm.Cond.code ({ cls := "java/lang/StringUTF16", name := "coderFromArrayLen", desc := "([BI)B" } : Jvm.MethodName) jdk_52_method_15_code (2 : Nat) (Option.some Jvm.ClassFile.FieldType.byte), Jvm.Cond.code ({ cls := "java/lang/String", name := "charAt", desc := "(I)C" } : Jvm.MethodName) jdk_42_method_56_code (2 : Nat) (Option.some Jvm.ClassFile.FieldType.char), Jvm.Cond.code ({ cls := "java/lang/String", name := "isLatin1", desc := "()Z" } : Jvm.MethodName) jdk_42_method_154_code (1 : Nat) (Option.some Jvm.ClassFile.FieldType.boolean), Jvm.Cond.code ({ cls := "java/lang/StringLatin1", name := "charAt", desc := "([BI)C" } : Jvm.MethodName) jdk_43_method_2_code (2 : Nat) (Option.some Jvm.ClassFile.FieldType.char), Jvm.Cond.code ({ cls := "java/lang/String", name := "checkIndex", desc := "(II)V" } : Jvm.MethodName) jdk_42_method_155_code (2 : Nat) (Option.none : Option Jvm.ClassFile.FieldType), Jvm.Cond.code ({ cls := "jdk/internal/util/Preconditions", name := "checkIndex", desc := "(IILjava/util/function/BiFunction;)I" } : Jvm.MethodName) jdk_41_method_11_code (3 : Nat) (Option.some Jvm.ClassFile.FieldType.int), Jvm.Cond.code ({ cls := "com/example/logwright/logwright/Characters", name := "isLetter", desc := "(C)Z" } : Jvm.MethodName) prog_7_method_7_code (1 : Nat) (Option.some Jvm.ClassFile.FieldType.boolean), Jvm.Cond.code ({ cls := "com/example/logwright/logwright/CharactersSkipLettersPinLaw", name := "at", desc := "(ICCCC)C" } : Jvm.MethodName) method_4_code (5 : Nat) (Option.some Jvm.ClassFile.FieldType.char), Jvm.Cond.code ({ cls := "com/example/logwright/logwright/CharactersSkipLettersPinLaw", name := "letter", desc := "(C)Z" } : Jvm.MethodName) method_3_code (1 : Nat) (Option.some Jvm.ClassFile.FieldType.boolean), Jvm.Cond.code ({ cls := "java/lang/StringUTF16", name := "toBytes", desc := "([CII)[B" } : Jvm.MethodName) jdk_52_method_14_code (5 : Nat) (Option.some (Jvm.ClassFile.FieldType.array Jvm.ClassFile.FieldType.byte)), Jvm.Cond.code ({ cls := "java/lang/StringUTF16", name := "newBytesFor", desc := "(I)[B" } : Jvm.MethodName) jdk_52_method_2_code (1 : Nat) (Option.some (Jvm.ClassFile.FieldType.array Jvm.ClassFile.FieldType.byte)), Jvm.Cond.code ({ cls := "java/lang/StringUTF16", name := "newBytesLength", desc := "(I)I" } : Jvm.MethodName) jdk_52_method_3_code (1 : Nat) (Option.some Jvm.ClassFile.FieldType.int), Jvm.Cond.code ({ cls := "java/lang/StringUTF16", name := "putChar", desc := "([BII)V" } : Jvm.MethodName) jdk_52_method_4_code (3 : Nat) (Option.none : Option Jvm.ClassFile.FieldType), Jvm.Cond.code ({ cls := "java/lang/StringUTF16", name := "getChar", desc := "([BI)C" } : Jvm.MethodName) jdk_52_method_5_code (2 : Nat) (Option.some Jvm.ClassFile.FieldType.char), Jvm.Cond.code ({ cls := "java/lang/StringUTF16", name := "charAt", desc := "([BI)C" } : Jvm.MethodName) jdk_52_method_83_code (2 : Nat) (Option.some Jvm.ClassFile.FieldType.char), Jvm.Cond.code ({ cls := "java/lang/StringUTF16", name := "checkIndex", desc := "(I[B)V" } : Jvm.MethodName) jdk_52_method_91_code (2 : Nat) (Option.none : Option Jvm.ClassFile.FieldType), Jvm.Cond.code ({ cls := "java/lang/StringUTF16", name := "length", desc := "([B)I" } : Jvm.MethodName) jdk_52_method_6_code (1 : Nat) (Option.some Jvm.ClassFile.FieldType.int)]
set_option maxRecDepth 65536 in
theorem codes_eq : words1.filter isCode = codes1 := rfl
theorem w_codes : ∀ c ∈ words1.filter isCode, c.before args0 about1 = true := by
  rw [codes_eq]
  intro c hc
  simp only [codes1, List.mem_cons, List.not_mem_nil, or_false] at hc
  rcases hc with rfl | rfl | rfl | rfl | rfl | rfl | rfl | rfl | rfl | rfl | rfl | rfl | rfl | rfl | rfl | rfl | rfl | rfl | rfl | rfl | rfl | rfl | rfl | rfl | rfl | rfl | rfl
  · exact w_c0
  · exact w_c1
  · exact w_c2
  · exact w_c3
  · exact w_c4
  · exact w_c5
  · exact w_c6
  · exact w_c7
  · exact w_c8
  · exact w_c9
  · exact w_c10
  · exact w_c11
  · exact w_c12
  · exact w_c13
  · exact w_c14
  · exact w_c15
  · exact w_c16
  · exact w_c17
  · exact w_c18
  · exact w_c19
  · exact w_c20
  · exact w_c21
  · exact w_c22
  · exact w_c23
  · exact w_c24
  · exact w_c25
  · exact w_c26
set_option maxRecDepth 65536 in
theorem w_t1 : (words1.take 24).all (fun c => isCode c || c.before args0 about1) = true := by decide +kernel
set_option maxRecDepth 65536 in
theorem w_t2 : ((words1.drop 24).take 24).all (fun c => isCode c || c.before args0 about1) = true := by decide +kernel
set_option maxRecDepth 65536 in
theorem w_t3 : (((words1.drop 24).drop 24).take 24).all (fun c => isCode c || c.before args0 about1) = true := by decide +kernel
set_option maxRecDepth 65536 in
theorem w_t4 : ((((words1.drop 24).drop 24).drop 24).take 24).all (fun c => isCode c || c.before args0 about1) = true := by decide +kernel
set_option maxRecDepth 65536 in
theorem w_t5 : ((((words1.drop 24).drop 24).drop 24).drop 24).all (fun c => isCode c || c.before args0 about1) = true := by decide +kernel
theorem w_tables : (allAtoms (Jvm.Cond.code x code maxLocals ret :: tables_1)).before args0 about1 = true := by
  rw [allAtoms_all]
  show words1.all (fun c => c.before args0 about1) = true
  refine all_split ?_ w_codes
  rw [← List.take_append_drop 24 words1, List.all_append, w_t1, ← List.take_append_drop 24 (words1.drop 24), List.all_append, w_t2, ← List.take_append_drop 24 ((words1.drop 24).drop 24), List.all_append, w_t3, ← List.take_append_drop 24 (((words1.drop 24).drop 24).drop 24), List.all_append, w_t4, w_t5]
  rfl
set_option maxRecDepth 65536 in
theorem w_rest : rest_1_c.before args0 about1 = true := by decide +kernel
set_option maxRecDepth 65536 in
theorem w_case : (Jvm.Cond.and given_1 narrow_1).before args0 about1 = true := by decide +kernel
set_option maxRecDepth 65536 in
theorem w_consts : constsHeld consts_1 about1 := Jvm.Lit.constsHeldB_iff.mp (by decide +kernel)
theorem w_applies : (headSpec (Jvm.Cond.code x code maxLocals ret :: tables_1) room_1).applies x e0.platform about1 = true :=
  (Spec.applies_iff w_frames).mpr ⟨w_running, w_runnable, w_alone, w_named, w_hears, w_ripe, w_room, w_tables⟩
theorem atStart : AtStart classFile x code maxLocals ret World_1 tables_1 room_1 Calls_1 rest_1 Pre_1 launch0 p0 e0 about1 theMethod args0 below0 :=
  ⟨lists_1, trivial, launch0.admits_env _ _ _, launch0.least_env, fairChoices_fair.cas, fairChoices_fair.clock, w_frames, w_args, w_heap, w_applies, ⟨w_consts, trivial⟩, w_rest, w_case⟩
end start1
theorem witness_1 : WitnessClaimed_1 := ⟨start1.p0, start1.e0, start1.about1, start1.theMethod, start1.args0, start1.below0, start1.atStart⟩
end Jvm.Pilot.@@N@@
