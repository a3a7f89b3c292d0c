import PyProof.Rows.All
import Wide.All
import OpenK.AllK
import Wide.FinOn
import PySem.Challenge.RW_nb0087_02
set_option Elab.async false

/- Top02 -/
section
open PySem PySem.W PyProof.Rows
namespace Mine
set_option maxRecDepth 100000 in
set_option maxHeartbeats 8000000 in
open_top hd for PySem.Challenge.rw_nb0087_02
end Mine

end

/- Sre1 -/
section
open PySem PySem.Sre
namespace Mine

abbrev code1 : Array Nat := #[14, 4, 0, 1, 1, 6, 1, 16, 46, 1]
abbrev code2 : Array Nat := #[14, 9, 4, 1, 2, 16, 10, 16, 13, 0, 7, 7, 16, 13, 16, 10, 15, 18, 5, 16, 10, 15, 13, 11, 16, 13, 5, 5, 0, 16, 10, 1, 15, 2, 0, 1]

/-- the machine comes to an end where P holds -/
def Goes (P : M → Prop) (k : Nat) (m : M) : Prop := ∃ n, n ≤ k ∧ (M.runFor n m).outcome.isSome = true ∧ P (M.runFor n m)

theorem Goes.step {P : M → Prop} {k : Nat} {m : M} (h0 : m.outcome = none) (h : Goes P k m.step) : Goes P (k + 1) m := by
  obtain ⟨n, h0', h1, h2⟩ := h
  refine ⟨n + 1, Nat.succ_le_succ h0', ?_⟩
  rw [M.runFor, h0]
  exact ⟨h1, h2⟩

theorem Goes.to {P : M → Prop} {k : Nat} {m m' : M} (h0 : m.outcome = none) (hs : m.step = m') (h : Goes P k m') : Goes P (k + 1) m := Goes.step h0 (hs ▸ h)

theorem Goes.here {P : M → Prop} {k : Nat} {m : M} (h : m.outcome.isSome = true) (hp : P m) : Goes P k m := ⟨0, Nat.zero_le _, h, hp⟩

theorem Goes.mono {P Q : M → Prop} {k : Nat} {m : M} (h : Goes P k m) (hq : ∀ m, P m → Q m) : Goes Q k m := let ⟨n, h0, h1, h2⟩ := h; ⟨n, h0, h1, hq _ h2⟩
theorem Goes.le {P : M → Prop} {k k' : Nat} {m : M} (h : Goes P k m) (hk : k ≤ k') : Goes P k' m := let ⟨n, h0, h1⟩ := h; ⟨n, Nat.le_trans h0 hk, h1⟩

section
variable {P : M → Prop} {m : M} {k : Nat}

theorem step_exec (ho : m.outcome = none) (ha : m.answer = none) (hpc : m.pc < m.code.size) : m.step = m.exec := by
  unfold M.step; simp [ho, ha, hpc]

theorem word0 {k : Nat} (hop : m.code.getD m.pc 0 = k) : ops[m.word 0]? = ops[k]? := by unfold M.word; rw [Nat.add_zero, hop]

theorem g_lit_ok (ho : m.outcome = none) (ha : m.answer = none) (hpc : m.pc < m.code.size) (hop : m.code.getD m.pc 0 = 16)
    (hl : m.pos < m.lim) (hc : m.text.getD m.pos 0 = m.code.getD (m.pc + 1) 0)
    (h : ∀ sn, Goes P k { m with seen := sn, pc := m.pc + 2, pos := m.pos + 1 }) : Goes P (k + 1) m := by
  refine Goes.to ho ((step_exec ho ha hpc).trans ?_) (h (m.seen.add (m.word 0)))
  have e2 : ops[m.code.getD m.pc 0]? = some .LITERAL := by rw [hop]; rfl
  unfold M.exec
  rw [(word0 hop).trans (rfl : _ = some Op.LITERAL)]
  dsimp only
  rw [if_neg (Nat.not_le.mpr hl)]
  simp only [accepts, e2, hc, beq_self_eq_true, itemWidth]

theorem g_lit_end (ho : m.outcome = none) (ha : m.answer = none) (hpc : m.pc < m.code.size) (hop : m.code.getD m.pc 0 = 16)
    (hl : m.lim ≤ m.pos) (h : ∀ sn, Goes P k { m with seen := sn, answer := some false }) : Goes P (k + 1) m := by
  refine Goes.to ho ((step_exec ho ha hpc).trans ?_) (h (m.seen.add (m.word 0)))
  unfold M.exec
  rw [(word0 hop).trans (rfl : _ = some Op.LITERAL)]
  dsimp only
  rw [if_pos hl]; rfl

theorem g_lit_no (ho : m.outcome = none) (ha : m.answer = none) (hpc : m.pc < m.code.size) (hop : m.code.getD m.pc 0 = 16)
    (hc : m.text.getD m.pos 0 ≠ m.code.getD (m.pc + 1) 0)
    (h : ∀ sn, Goes P k { m with seen := sn, answer := some false }) : Goes P (k + 1) m := by
  by_cases hl : m.pos < m.lim
  · refine Goes.to ho ((step_exec ho ha hpc).trans ?_) (h (m.seen.add (m.word 0)))
    have e2 : ops[m.code.getD m.pc 0]? = some .LITERAL := by rw [hop]; rfl
    have e3 : (m.text.getD m.pos 0 == m.code.getD (m.pc + 1) 0) = false := by simpa using hc
    unfold M.exec
    rw [(word0 hop).trans (rfl : _ = some Op.LITERAL)]
    dsimp only
    rw [if_neg (Nat.not_le.mpr hl)]
    simp only [accepts, e2, e3]
    rfl
  · exact g_lit_end ho ha hpc hop (by omega) h

theorem g_jump (ho : m.outcome = none) (ha : m.answer = none) (hpc : m.pc < m.code.size) (hop : m.code.getD m.pc 0 = 15)
    (h : ∀ sn, Goes P k { m with seen := sn, pc := m.pc + 1 + m.code.getD (m.pc + 1) 0 }) : Goes P (k + 1) m := by
  refine Goes.to ho ((step_exec ho ha hpc).trans ?_) (h (m.seen.add (m.word 0)))
  unfold M.exec
  rw [(word0 hop).trans (rfl : _ = some Op.JUMP)]
  rfl

theorem g_success (ho : m.outcome = none) (ha : m.answer = none) (hpc : m.pc < m.code.size) (hop : m.code.getD m.pc 0 = 1)
    (hw : m.wholeText = false) (hm : m.mustAdvance = false)
    (h : ∀ sn, Goes P k { m with seen := sn, handed := m.pos, answer := some true }) : Goes P (k + 1) m := by
  refine Goes.to ho ((step_exec ho ha hpc).trans ?_) (h (m.seen.add (m.word 0)))
  unfold M.exec
  rw [(word0 hop).trans (rfl : _ = some Op.SUCCESS)]
  dsimp only
  rw [hw, hm]
  simp [M.say]

theorem g_branch (ho : m.outcome = none) (ha : m.answer = none) (hpc : m.pc < m.code.size) (hop : m.code.getD m.pc 0 = 7) (hi : m.inner = none)
    (hn : m.code.getD (m.pc + 1) 0 ≠ 0) (hw : m.weight < 1000)
    (h : ∀ sn, Goes P k { m with seen := sn, frames := { wait := .nextBranch, pc := m.pc + 1, pos := m.pos, outermost := m.outermost, kept := { lastmark := m.lastmark, lastindex := m.lastindex } } :: m.frames, weight := m.weight + 1, pc := m.pc + 2, handed := m.pos }) : Goes P (k + 1) m := by
  refine Goes.to ho ((step_exec ho ha hpc).trans ?_) (h (m.seen.add (m.word 0)))
  unfold M.exec
  rw [(word0 hop).trans (rfl : _ = some Op.BRANCH)]
  dsimp only
  unfold M.alternative
  simp only [hi, M.keep, Option.isSome_none, Bool.false_eq_true, if_false]
  rw [if_neg (by simpa using hn)]
  unfold M.attempt
  rw [if_neg (by simp; omega)]
  simp [M.frame]

theorem g_not (ho : m.outcome = none) (ha : m.answer = none) (hpc : m.pc < m.code.size) (hop : m.code.getD m.pc 0 = 5) (hi : m.inner = none)
    (hn : m.code.getD (m.pc + 2) 0 = 0) (hw : m.weight < 1000)
    (h : ∀ sn, Goes P k { m with seen := sn, frames := { wait := .lookNot, pc := m.pc, pos := m.pos, outermost := m.outermost, kept := { lastmark := m.lastmark, lastindex := m.lastindex } } :: m.frames, weight := m.weight + 1, pc := m.pc + 3, handed := m.pos, outermost := false }) : Goes P (k + 1) m := by
  refine Goes.to ho ((step_exec ho ha hpc).trans ?_) (h (m.seen.add (m.word 0)))
  unfold M.exec
  rw [(word0 hop).trans (rfl : _ = some Op.ASSERT_NOT)]
  dsimp only
  simp only [M.word, hn, Nat.not_lt_zero, if_false, if_true, Nat.sub_zero]
  unfold M.attempt
  simp only [hi, M.keep, Option.isSome_none, Bool.and_false, Bool.false_eq_true, if_false]
  rw [if_neg (by simp; omega)]
  simp [M.frame]

theorem g_at1_ok (ho : m.outcome = none) (ha : m.answer = none) (hpc : m.pc < m.code.size) (hop : m.code.getD m.pc 0 = 6) (hk : m.code.getD (m.pc + 1) 0 = 1)
    (hc : m.pos = 0 ∨ m.text.getD (m.pos - 1) 0 = 10) (h : ∀ sn, Goes P k { m with seen := sn, pc := m.pc + 2 }) : Goes P (k + 1) m := by
  refine Goes.to ho ((step_exec ho ha hpc).trans ?_) (h ((m.seen.add (m.word 0)).add (43 + m.word 1)))
  have e2 : (m.pos == 0 || m.text.getD (m.pos - 1) 0 == 10) = true := by simpa using hc
  have e3 : m.word 1 = 1 := hk
  unfold M.exec
  rw [(word0 hop).trans (rfl : _ = some Op.AT)]
  dsimp only
  have e4 : M.isAt { m with seen := m.seen.add (m.word 0) } (m.word 1) = .ok true := by
    rw [e3]
    show Except.ok (m.pos == 0 || m.text.getD (m.pos - 1) 0 == 10) = _
    rw [e2]
  show (match M.isAt { m with seen := m.seen.add (m.word 0) } (m.word 1) with | .error why => _ | .ok yes => _) = _
  rw [e4]
  rfl

theorem g_at1_no (ho : m.outcome = none) (ha : m.answer = none) (hpc : m.pc < m.code.size) (hop : m.code.getD m.pc 0 = 6) (hk : m.code.getD (m.pc + 1) 0 = 1)
    (hc : ¬ (m.pos = 0 ∨ m.text.getD (m.pos - 1) 0 = 10)) (h : ∀ sn, Goes P k { m with seen := sn, answer := some false }) : Goes P (k + 1) m := by
  refine Goes.to ho ((step_exec ho ha hpc).trans ?_) (h ((m.seen.add (m.word 0)).add (43 + m.word 1)))
  have e2 : (m.pos == 0 || m.text.getD (m.pos - 1) 0 == 10) = false := by simpa using hc
  have e3 : m.word 1 = 1 := hk
  unfold M.exec
  rw [(word0 hop).trans (rfl : _ = some Op.AT)]
  dsimp only
  have e4 : M.isAt { m with seen := m.seen.add (m.word 0) } (m.word 1) = .ok false := by
    rw [e3]
    show Except.ok (m.pos == 0 || m.text.getD (m.pos - 1) 0 == 10) = _
    rw [e2]
  show (match M.isAt { m with seen := m.seen.add (m.word 0) } (m.word 1) with | .error why => _ | .ok yes => _) = _
  rw [e4]
  rfl

theorem g_done {yes : Bool} (ho : m.outcome = none) (ha : m.answer = some yes) (hf : m.frames = []) (h : P { m with outcome := some (if yes then .matched else .failed) }) : Goes P (k + 1) m := by
  refine Goes.to ho (m' := { m with outcome := some (if yes then .matched else .failed) }) ?_ (Goes.here rfl h)
  unfold M.step; simp [ho, ha, hf]

theorem g_back {yes : Bool} {f : Sre.Frame} {rest : List Sre.Frame} (ho : m.outcome = none) (ha : m.answer = some yes) (hf : m.frames = f :: rest)
    (h : Goes P k (M.resume { m with answer := none, frames := rest, weight := m.weight - (1 + f.kept.marks.size), pc := f.pc, pos := f.pos, outermost := f.outermost } f yes)) : Goes P (k + 1) m := by
  refine Goes.to ho ?_ h
  unfold M.step; simp [ho, ha, hf]
end

/-- what the search finds: from s on, the first place of which S says a length, and that length -/
def Found (i j : Nat) (m : M) : Prop := m.outcome = some .matched ∧ m.start = i ∧ m.handed = j
def Failed (m : M) : Prop := m.outcome = some .failed

section
variable (text : Array Nat) (lim s ls : Nat) (sn : Seen) (om : Bool) (hd : Nat)
abbrev try2 : M := { code := code2, text := text, lim := lim, start := s, lastStart := ls, pc := 10, pos := s, handed := hd, outermost := om, marks := #[], frames := [{ wait := .nextStart, pc := 10, pos := s, outermost := om }], weight := 1, seen := sn }
abbrev try1 : M := { code := code1, text := text, lim := lim, start := s, lastStart := ls, pc := 5, pos := s, handed := hd, outermost := om, marks := #[], frames := [{ wait := .nextStart, pc := 5, pos := s, outermost := om }], weight := 1, seen := sn }

theorem tail2 {k : Nat} {m : M} {f : Sre.Frame} {i j : Nat} (h1 : m.outcome = none) (h2 : m.answer = some true) (h3 : m.frames = [f, { wait := .nextStart, pc := 10, pos := s, outermost := om }]) (h4 : f.wait = .nextBranch) (h5 : m.start = i) (h6 : m.handed = j) : Goes (Found i j) (k + 3) m := by
  refine g_back h1 h2 h3 ?_
  unfold M.resume; rw [h4]
  refine g_back (m := M.say _ true) h1 rfl rfl ?_
  refine g_done (m := M.say _ true) h1 rfl rfl ⟨rfl, h5, h6⟩

theorem run2_crlf (h1 : text.getD s 0 = 13) (h2 : text.getD (s + 1) 0 = 10) (hs : s + 1 < lim) : Goes (Found s (s + 2)) 20 (try2 text lim s ls sn om hd) := by
  refine g_branch rfl rfl (by exact of_decide_eq_true rfl) rfl rfl (by exact Nat.succ_ne_zero _) (by exact of_decide_eq_true rfl) fun sn => ?_
  dsimp only
  refine g_lit_ok rfl rfl (by exact of_decide_eq_true rfl) rfl (by show s < lim; omega) h1 fun sn => ?_
  dsimp only
  refine g_lit_ok rfl rfl (by exact of_decide_eq_true rfl) rfl hs h2 fun sn => ?_
  dsimp only
  refine g_jump rfl rfl (by exact of_decide_eq_true rfl) rfl fun sn => ?_
  dsimp only
  refine g_success rfl rfl (by exact of_decide_eq_true rfl) rfl rfl rfl fun sn => ?_
  dsimp only
  exact tail2 (s := s) (om := om) rfl rfl rfl rfl rfl rfl

theorem next2 {k : Nat} {P : M → Prop} {m : M} {f : Sre.Frame} {alt alt2 : Nat} {rest : List Sre.Frame} (h1 : m.outcome = none) (h2 : m.answer = some false) (h3 : m.frames = f :: rest) (h4 : f.wait = .nextBranch) (h5 : f.kept.whole = false) (h6 : f.kept.marks = #[])
    (h7 : f.pc = alt) (hn : alt + m.code.getD alt 0 = alt2) (hz : m.code.getD alt2 0 ≠ 0) (hw : m.weight < 1000)
    (h : ∀ sn, Goes P k { m with answer := none, frames := { wait := .nextBranch, pc := alt2, pos := f.pos, outermost := f.outermost, kept := f.kept } :: rest, weight := m.weight - 1 + 1, pc := alt2 + 1, pos := f.pos, handed := f.pos, outermost := f.outermost, lastmark := f.kept.lastmark, lastindex := f.kept.lastindex, seen := sn }) : Goes P (k + 1) m := by
  refine g_back h1 h2 h3 ?_
  unfold M.resume; rw [h4]
  simp only [Bool.false_eq_true, if_false, M.putBack, h5, h6, h7, hn]
  unfold M.alternative
  dsimp only
  rw [if_neg (by simpa using hz)]
  unfold M.attempt
  simp only [h6]
  rw [if_neg (by show ¬ (_ > _); simp; omega)]
  exact h m.seen

theorem run2_lf (h1 : text.getD s 0 = 10) (hs : s < lim) : Goes (Found s (s + 1)) 20 (try2 text lim s ls sn om hd) := by
  refine g_branch rfl rfl (by exact of_decide_eq_true rfl) rfl rfl (by exact Nat.succ_ne_zero _) (by exact of_decide_eq_true rfl) fun sn => ?_
  dsimp only
  refine g_lit_no rfl rfl (by exact of_decide_eq_true rfl) rfl (by show text.getD s 0 ≠ 13; omega) fun sn => ?_
  dsimp only
  refine next2 rfl rfl rfl rfl rfl rfl rfl rfl (by exact Nat.succ_ne_zero _) (by exact of_decide_eq_true rfl) fun sn => ?_
  dsimp only
  refine g_lit_ok rfl rfl (by exact of_decide_eq_true rfl) rfl hs h1 fun sn => ?_
  dsimp only
  refine g_jump rfl rfl (by exact of_decide_eq_true rfl) rfl fun sn => ?_
  dsimp only
  refine g_success rfl rfl (by exact of_decide_eq_true rfl) rfl rfl rfl fun sn => ?_
  dsimp only
  exact tail2 (s := s) (om := om) rfl rfl rfl rfl rfl rfl

theorem lookNot_no {k : Nat} {P : M → Prop} {m : M} {f : Sre.Frame} {rest : List Sre.Frame} (h1 : m.outcome = none) (h2 : m.answer = some false) (h3 : m.frames = f :: rest) (h4 : f.wait = .lookNot) (h5 : f.kept.whole = false)
    (h : ∀ sn, Goes P k { m with answer := none, frames := rest, weight := m.weight - (1 + f.kept.marks.size), pc := f.pc + 1 + m.code.getD (f.pc + 1) 0, pos := f.pos, outermost := f.outermost, lastmark := f.kept.lastmark, lastindex := f.kept.lastindex, seen := sn }) : Goes P (k + 1) m := by
  refine g_back h1 h2 h3 ?_
  unfold M.resume; rw [h4]; dsimp only [Bool.false_eq_true, if_false, M.putBack]
  have := h m.seen
  simpa [h5, M.word] using this

theorem run2_cr (h1 : text.getD s 0 = 13) (h2 : s + 1 < lim → text.getD (s + 1) 0 ≠ 10) (hs : s < lim) : Goes (Found s (s + 1)) 20 (try2 text lim s ls sn om hd) := by
  have no10 : ∀ {k : Nat} {P : M → Prop} {m : M}, m.outcome = none → m.answer = none → m.pc < m.code.size → m.code.getD m.pc 0 = 16 → m.code.getD (m.pc + 1) 0 = 10 → m.pos = s + 1 → m.text = text → m.lim = lim →
      (∀ sn, Goes P k { m with seen := sn, answer := some false }) → Goes P (k + 1) m := fun {k P m} a b c d e f g k h => by
    by_cases hl : s + 1 < lim
    · exact g_lit_no a b c d (by rw [e, f, g]; exact h2 hl) h
    · exact g_lit_end a b c d (by rw [f, k]; omega) h
  refine g_branch rfl rfl (by exact of_decide_eq_true rfl) rfl rfl (by exact Nat.succ_ne_zero _) (by exact of_decide_eq_true rfl) fun sn => ?_
  dsimp only
  refine g_lit_ok rfl rfl (by exact of_decide_eq_true rfl) rfl hs h1 fun sn => ?_
  dsimp only
  refine no10 rfl rfl (by exact of_decide_eq_true rfl) rfl rfl rfl rfl rfl fun sn => ?_
  dsimp only
  refine next2 rfl rfl rfl rfl rfl rfl rfl rfl (by exact Nat.succ_ne_zero _) (by exact of_decide_eq_true rfl) fun sn => ?_
  dsimp only
  refine g_lit_no rfl rfl (by exact of_decide_eq_true rfl) rfl (by show text.getD s 0 ≠ 10; omega) fun sn => ?_
  dsimp only
  refine next2 rfl rfl rfl rfl rfl rfl rfl rfl (by exact Nat.succ_ne_zero _) (by exact of_decide_eq_true rfl) fun sn => ?_
  dsimp only
  refine g_lit_ok rfl rfl (by exact of_decide_eq_true rfl) rfl hs h1 fun sn => ?_
  dsimp only
  refine g_not rfl rfl (by exact of_decide_eq_true rfl) rfl rfl rfl (by exact of_decide_eq_true rfl) fun sn => ?_
  dsimp only
  refine no10 rfl rfl (by exact of_decide_eq_true rfl) rfl rfl rfl rfl rfl fun sn => ?_
  dsimp only
  refine lookNot_no rfl rfl rfl rfl rfl fun sn => ?_
  dsimp only
  refine g_jump rfl rfl (by exact of_decide_eq_true rfl) rfl fun sn => ?_
  dsimp only
  refine g_success rfl rfl (by exact of_decide_eq_true rfl) rfl rfl rfl fun sn => ?_
  dsimp only
  exact tail2 (s := s) (om := om) rfl rfl rfl rfl rfl rfl
end
end Mine

end

/- Sre2 -/
section
open PySem PySem.Sre
namespace Mine

abbrev isNl (c : Nat) : Prop := c = 10 ∨ c = 13

theorem inSet2 (c : Nat) (sn : Seen) : ∃ sn', inSet code2 c code2.size 5 true sn = .ok (decide (isNl c), sn') := by
  show ∃ sn', inSet code2 c 36 5 true sn = _
  by_cases h1 : c = 10
  · subst h1; exact ⟨sn.add 16, rfl⟩
  · by_cases h2 : c = 13
    · subst h2; exact ⟨(sn.add 16).add 16, rfl⟩
    · refine ⟨((sn.add 16).add 16).add 0, ?_⟩
      have e1 : (c == 10) = false := by simpa using h1
      have e2 : (c == 13) = false := by simpa using h2
      have e3 : decide (isNl c) = false := by simp [isNl, h1, h2]
      rw [e3]
      show (if (c == 10) = true then _ else inSet code2 c 35 7 true (sn.add 16)) = _
      rw [e1]
      show (if (c == 13) = true then _ else inSet code2 c 34 9 true ((sn.add 16).add 16)) = _
      rw [e2]
      rfl

theorem admitted_found {m : M} (hc : m.code = code2) {i : Nat} (hi : i < m.lim) (hnl : isNl (m.text.getD i 0)) : ∀ (fuel s : Nat) (sn : Seen), s ≤ i → i < s + fuel → (∀ j, s ≤ j → j < i → ¬ isNl (m.text.getD j 0)) →
    ∃ sn', M.admitted m fuel s sn = .ok (some i, sn')
  | 0, s, sn, h1, h2, _ => by omega
  | fuel + 1, s, sn, h1, h2, h3 => by
    unfold M.admitted
    rw [if_neg (by omega), hc]
    obtain ⟨sn', e⟩ := inSet2 (m.text.getD s 0) sn
    rw [e]
    by_cases hs : s = i
    · subst hs
      rw [decide_eq_true hnl]
      exact ⟨sn', rfl⟩
    · rw [decide_eq_false (h3 s (Nat.le_refl _) (by omega))]
      exact admitted_found hc hi hnl fuel (s + 1) sn' (by omega) (by omega) fun j a b => h3 j (by omega) b

theorem admitted_none {m : M} (hc : m.code = code2) : ∀ (fuel s : Nat) (sn : Seen), (∀ j, s ≤ j → j < m.lim → ¬ isNl (m.text.getD j 0)) → ∃ sn', M.admitted m fuel s sn = .ok (none, sn')
  | 0, s, sn, _ => ⟨sn, rfl⟩
  | fuel + 1, s, sn, h3 => by
    unfold M.admitted
    by_cases hs : m.lim ≤ s
    · rw [if_pos hs]; exact ⟨sn, rfl⟩
    · rw [if_neg hs, hc]
      obtain ⟨sn', e⟩ := inSet2 (m.text.getD s 0) sn
      rw [e, decide_eq_false (h3 s (Nat.le_refl _) (by omega))]
      exact admitted_none hc fuel (s + 1) sn' fun j a b => h3 j (by omega) b

section
variable (text : Array Nat) (s lim : Nat)
abbrev m0_2 (sn : Seen) : M := { code := code2, text := text, lim := lim, start := s, lastStart := lim, pc := 10, pos := s, handed := s, marks := #[], seen := sn }
abbrev m0_1 (sn : Seen) : M := { code := code1, text := text, lim := lim, start := s, lastStart := lim, pc := 5, pos := s, handed := s, marks := #[], seen := sn }

theorem forSearch2 (h : s < lim) : ∃ sn, forSearch code2 text 0 s lim false = (m0_2 text s lim sn).attemptFrom s true := by
  refine ⟨({} : Seen).add 14, ?_⟩
  unfold forSearch
  dsimp only
  rw [if_neg (by show ¬ ((decide (s > lim) || decide (lim - s < 1)) = true); simp; omega)]
  rfl

theorem forSearch1 (h : s < lim) : ∃ sn, forSearch code1 text 0 s lim false = (m0_1 text s lim sn).attemptFrom s true := by
  refine ⟨({} : Seen).add 14, ?_⟩
  unfold forSearch
  dsimp only
  rw [if_neg (by show ¬ ((decide (s > lim) || decide (lim - s < 1)) = true); simp; omega)]
  rfl

theorem forSearch_end (h : lim ≤ s) : Goes Failed 1 (forSearch code2 text 0 s lim false) ∧ Goes Failed 1 (forSearch code1 text 0 s lim false) := by
  constructor
  · unfold forSearch
    dsimp only
    rw [if_pos (by show (decide (s > lim) || decide (lim - s < 1)) = true; simp; omega)]
    exact g_done (yes := false) rfl rfl rfl rfl
  · unfold forSearch
    dsimp only
    rw [if_pos (by show (decide (s > lim) || decide (lim - s < 1)) = true; simp; omega)]
    exact g_done (yes := false) rfl rfl rfl rfl

/-- how much a line's end at i takes -/
def nlW (i : Nat) : Nat := if text.getD i 0 = 13 ∧ i + 1 < lim ∧ text.getD (i + 1) 0 = 10 then 2 else 1

theorem search2_found {i : Nat} (hs : s ≤ i) (hi : i < lim) (hnl : isNl (text.getD i 0)) (hno : ∀ j, s ≤ j → j < i → ¬ isNl (text.getD j 0)) :
    Goes (Found i (i + nlW text lim i)) 20 (forSearch code2 text 0 s lim false) := by
  obtain ⟨sn, e⟩ := forSearch2 text s lim (by omega)
  rw [e]
  unfold M.attemptFrom
  rw [if_neg (by show ¬ (false = true); decide)]
  obtain ⟨sn', e2⟩ := admitted_found (m := m0_2 text s lim sn) rfl (i := i) hi hnl (lim + 1 - s) s sn hs (by omega) hno
  show Goes _ _ (match M.admitted (m0_2 text s lim sn) (lim + 1 - s) s sn with | .ok (some s, seen) => _ | .ok (none, seen) => _ | .error why => _)
  rw [e2]
  show Goes _ _ (try2 text lim i lim sn' true i)
  unfold nlW
  by_cases h1 : text.getD i 0 = 13
  · by_cases h2 : i + 1 < lim ∧ text.getD (i + 1) 0 = 10
    · rw [if_pos ⟨h1, h2⟩]; exact run2_crlf text lim i lim sn' true i h1 h2.2 h2.1
    · rw [if_neg fun q => h2 q.2]; exact run2_cr text lim i lim sn' true i h1 (fun a b => h2 ⟨a, b⟩) hi
  · rw [if_neg fun q => h1 q.1]
    exact run2_lf text lim i lim sn' true i (hnl.resolve_right h1) hi

theorem search2_none (hno : ∀ j, s ≤ j → j < lim → ¬ isNl (text.getD j 0)) : Goes Failed 20 (forSearch code2 text 0 s lim false) := by
  by_cases hs : lim ≤ s
  · exact (forSearch_end text s lim hs).1.le (by decide)
  obtain ⟨sn, e⟩ := forSearch2 text s lim (by omega)
  rw [e]
  unfold M.attemptFrom
  rw [if_neg (by show ¬ (false = true); decide)]
  obtain ⟨sn', e2⟩ := admitted_none (m := m0_2 text s lim sn) rfl (lim + 1 - s) s sn hno
  show Goes _ _ (match M.admitted (m0_2 text s lim sn) (lim + 1 - s) s sn with | .ok (some s, seen) => _ | .ok (none, seen) => _ | .error why => _)
  rw [e2]
  exact Goes.le (k := 1) (g_done (m := M.say _ false) (yes := false) rfl rfl rfl rfl) (by decide)

def isDot (i : Nat) : Prop := text.getD i 0 = 46 ∧ (i = 0 ∨ text.getD (i - 1) 0 = 10)

theorem run1_ok (ls : Nat) (sn : Seen) (om : Bool) (hd : Nat) (hs : s < lim) (h : isDot text s) : Goes (Found s (s + 1)) 6 (try1 text lim s ls sn om hd) := by
  refine g_at1_ok rfl rfl (by exact of_decide_eq_true rfl) rfl rfl h.2 fun sn => ?_
  dsimp only
  refine g_lit_ok rfl rfl (by exact of_decide_eq_true rfl) rfl hs h.1 fun sn => ?_
  dsimp only
  refine g_success rfl rfl (by exact of_decide_eq_true rfl) rfl rfl rfl fun sn => ?_
  dsimp only
  refine g_back rfl rfl rfl ?_
  refine g_done (m := M.say _ true) rfl rfl rfl ⟨rfl, rfl, rfl⟩

theorem run1_no {P : M → Prop} {k : Nat} (ls : Nat) (sn : Seen) (om : Bool) (hd : Nat) (h : ¬ (s < lim ∧ isDot text s))
    (hk : ∀ sn hd, Goes P k (M.resume { code := code1, text := text, lim := lim, start := s, lastStart := ls, pc := 5, pos := s, handed := hd, outermost := om, marks := #[], frames := [], weight := 0, seen := sn } { wait := .nextStart, pc := 5, pos := s, outermost := om } false)) :
    Goes P (k + 3) (try1 text lim s ls sn om hd) := by
  have fin : ∀ {k' : Nat} {m : M}, Goes P k' m → k' ≤ k + 2 → Goes P (k + 2) m := fun h q => h.le q
  by_cases h1 : s = 0 ∨ text.getD (s - 1) 0 = 10
  · refine g_at1_ok rfl rfl (by exact of_decide_eq_true rfl) rfl rfl h1 fun sn => ?_
    dsimp only
    have no46 : ∀ {m : M}, m.outcome = none → m.answer = none → m.pc < m.code.size → m.code.getD m.pc 0 = 16 → m.code.getD (m.pc + 1) 0 = 46 → m.pos = s → m.text = text → m.lim = lim →
        (∀ sn, Goes P (k + 1) { m with seen := sn, answer := some false }) → Goes P (k + 1 + 1) m := fun {m} a b c d e f g k h' => by
      by_cases hl : s < lim
      · exact g_lit_no a b c d (by rw [e, f, g]; exact fun q => h ⟨hl, q, h1⟩) h'
      · exact g_lit_end a b c d (by rw [f, k]; omega) h'
    refine no46 rfl rfl (by exact of_decide_eq_true rfl) rfl rfl rfl rfl rfl fun sn => ?_
    dsimp only
    exact g_back rfl rfl rfl (hk _ _)
  · refine g_at1_no rfl rfl (by exact of_decide_eq_true rfl) rfl rfl h1 fun sn => ?_
    dsimp only
    exact fin (g_back (k := k) rfl rfl rfl (hk _ _)) (by omega)

theorem walk1_found {i : Nat} (hi : i < lim) (hdot : isDot text i) : ∀ (d s : Nat) (sn : Seen) (om : Bool) (hd : Nat), i = s + d → (∀ j, s ≤ j → j < i → ¬ isDot text j) →
    Goes (Found i (i + 1)) (3 * d + 6) (try1 text lim s lim sn om hd)
  | 0, s, sn, om, hd, e, _ => by
    have e : i = s := by omega
    subst e; exact run1_ok text i lim lim sn om hd hi hdot
  | d + 1, s, sn, om, hd, e, hno => by
    refine Goes.le (k := (3 * d + 6) + 3) (run1_no text s lim lim sn om hd (fun q => hno s (Nat.le_refl _) (by omega) q.2) fun sn hd => ?_) (by omega)
    unfold M.resume
    dsimp only
    rw [if_neg (by decide), if_pos (by omega)]
    unfold M.attemptFrom
    rw [if_pos (by exact of_decide_eq_true rfl)]
    show Goes _ _ (try1 text lim (s + 1) lim sn false (s + 1))
    exact walk1_found hi hdot d (s + 1) sn false (s + 1) (by omega) fun j a b => hno j (by omega) b

theorem walk1_none : ∀ (d s : Nat) (sn : Seen) (om : Bool) (hd : Nat), lim = s + d → (∀ j, s ≤ j → j < lim → ¬ isDot text j) →
    Goes Failed (3 * d + 6) (try1 text lim s lim sn om hd)
  | 0, s, sn, om, hd, e, _ => by
    refine Goes.le (k := 1 + 3) (run1_no text s lim lim sn om hd (fun q => by omega) fun sn hd => ?_) (by omega)
    unfold M.resume
    dsimp only
    rw [if_neg (by decide), if_neg (by omega)]
    exact g_done (yes := false) rfl rfl rfl rfl
  | d + 1, s, sn, om, hd, e, hno => by
    refine Goes.le (k := (3 * d + 6) + 3) (run1_no text s lim lim sn om hd (fun q => hno s (Nat.le_refl _) q.1 q.2) fun sn hd => ?_) (by omega)
    unfold M.resume
    dsimp only
    rw [if_neg (by decide), if_pos (by omega)]
    unfold M.attemptFrom
    rw [if_pos (by exact of_decide_eq_true rfl)]
    show Goes _ _ (try1 text lim (s + 1) lim sn false (s + 1))
    exact walk1_none d (s + 1) sn false (s + 1) (by omega) fun j a b => hno j (by omega) b

theorem search1_found {i : Nat} (hs : s ≤ i) (hi : i < lim) (hdot : isDot text i) (hno : ∀ j, s ≤ j → j < i → ¬ isDot text j) :
    Goes (Found i (i + 1)) (3 * lim + 6) (forSearch code1 text 0 s lim false) := by
  obtain ⟨sn, e⟩ := forSearch1 text s lim (by omega)
  rw [e]
  unfold M.attemptFrom
  rw [if_pos (by exact of_decide_eq_true rfl)]
  show Goes _ _ (try1 text lim s lim sn true s)
  exact (walk1_found text lim hi hdot (i - s) s sn true s (by omega) hno).le (by omega)

theorem search1_none (hno : ∀ j, s ≤ j → j < lim → ¬ isDot text j) : Goes Failed (3 * lim + 6) (forSearch code1 text 0 s lim false) := by
  by_cases hs : lim ≤ s
  · exact (forSearch_end text s lim hs).2.le (by omega)
  obtain ⟨sn, e⟩ := forSearch1 text s lim (by omega)
  rw [e]
  unfold M.attemptFrom
  rw [if_pos (by exact of_decide_eq_true rfl)]
  show Goes _ _ (try1 text lim s lim sn true s)
  exact (walk1_none text lim (lim - s) s sn true s (by omega) hno).le (by omega)
end
end Mine

end

/- Sub1 -/
section
open PySem PySem.Builtin PySem.Builtin.Re PyProof.Rows
namespace Mine
set_option maxRecDepth 100000

section facts
theorem slot_sub : Slot "re.Pattern" "sub" "re.Pattern.sub" :=
  .of (owner := "re.Pattern") (n := "sub") (by rw [typeLookup_type, builtinLookup_eq_fast]; kernel_rfl) (by decide +kernel) (by decide +kernel) (by decide +kernel)
    (by first | exact .inl (by decide +kernel) | exact .inr (by decide +kernel)) (by rw [isSubtype_type]; kernel_rfl)
theorem type_sub : typeOf (.builtin "re.Pattern.sub") = pure (.type "method_descriptor") := by show builtinType _ = _; rw [builtinType_eq_fast]; kernel_rfl
theorem entry_sub : entryFor table "re.Pattern.sub" = some Builtin.«re.Pattern.sub» := entryFor_of_tree (by kernel_rfl)
theorem entry_loop : entryFor table "re.Pattern.sub.loop" = some Builtin.«re.Pattern.sub.loop» := entryFor_of_tree (by kernel_rfl)
theorem args_sub (a b c : Value) : argsOk "re.Pattern.sub" ⟨[a, b, c], []⟩ := by
  unfold argsOk; kernel_rfl
theorem str_no_call : typeLookup (.type "str") "__call__" = pure none := by rw [typeLookup_type, builtinLookup_eq_fast]; kernel_rfl
theorem loop_plain : plainId "re.Pattern.sub.loop" = true := by decide +kernel
end facts

section
variable {M : Model} {A : Around} {E : Value → Shared → Prop} {s : Shared}

theorem runFor_stable : ∀ (n : Nat) (m : Sre.M), m.outcome.isSome = true → Sre.M.runFor n m = m
  | 0, _, _ => rfl
  | n + 1, m, h => by rw [Sre.M.runFor, if_pos h]
theorem runFor_add : ∀ (a b : Nat) (m : Sre.M), Sre.M.runFor (a + b) m = Sre.M.runFor b (Sre.M.runFor a m)
  | 0, b, m => by rw [Nat.zero_add]; rfl
  | a + 1, b, m => by
    by_cases h : m.outcome.isSome = true
    · rw [runFor_stable _ m h, runFor_stable _ m h, runFor_stable _ m h]
    · rw [Nat.add_right_comm, Sre.M.runFor, if_neg h, Sre.M.runFor, if_neg h, runFor_add a b]

theorem goes_four {P : Sre.M → Prop} {k : Nat} {m : Sre.M} (h : Goes P (k + 4) m) :
    ((Sre.M.runFor 4 m).outcome.isSome = true ∧ P (Sre.M.runFor 4 m)) ∨ Goes P k (Sre.M.runFor 4 m) := by
  obtain ⟨n, h0, h1, h2⟩ := h
  by_cases hn : n ≤ 4
  · left
    obtain ⟨d, e⟩ : ∃ d, 4 = n + d := ⟨4 - n, by omega⟩
    rw [e, runFor_add, runFor_stable d _ h1]
    exact ⟨h1, h2⟩
  · right
    refine ⟨n - 4, by omega, ?_⟩
    rw [← runFor_add, show 4 + (n - 4) = n by omega]
    exact ⟨h1, h2⟩

theorem reDrive_goes {P : Sre.M → Prop} {Q : Sre.M → Shared → Prop} (hQ : ∀ m, m.outcome.isSome = true → P m → Q m s) : ∀ (turns k : Nat) (m : Sre.M), Goes P k m → k < 4 * turns → wpAny M A (reDrive turns m) Q E s
  | 0, k, m, _, h => by omega
  | turns + 1, k, m, hg, hk => by
    rw [reDrive]
    show wpAny M A (if (Sre.M.runFor 4 m).outcome.isSome = true then pure (Sre.M.runFor 4 m) else (do rule "sre.turn"; reDrive turns (Sre.M.runFor 4 m))) Q E s
    by_cases hs : (Sre.M.runFor 4 m).outcome.isSome = true
    · rw [if_pos hs]
      refine wpAny_pure ?_
      obtain ⟨n, h0, h1, h2⟩ := hg
      have e : Sre.M.runFor n m = Sre.M.runFor 4 m := by
        by_cases hn : n ≤ 4
        · obtain ⟨d, e⟩ : ∃ d, 4 = n + d := ⟨4 - n, by omega⟩
          rw [e, runFor_add, runFor_stable d _ h1]
        · obtain ⟨d, e⟩ : ∃ d, n = 4 + d := ⟨n - 4, by omega⟩
          rw [e, runFor_add, runFor_stable d _ hs]
      rw [e] at h2
      exact hQ _ hs h2
    · rw [if_neg hs]
      refine wpAny_bind (wpAny_rule ?_)
      rcases goes_four (hg.le (Nat.le_add_right k 4)) with h | h
      · exact absurd h.1 hs
      · by_cases h4 : k < 4
        · exfalso
          obtain ⟨n, h0, h1, h2⟩ := hg
          obtain ⟨d, e⟩ : ∃ d, 4 = n + d := ⟨4 - n, by omega⟩
          rw [e, runFor_add, runFor_stable d _ h1] at hs
          exact hs h1
        · have h' : Goes P (k - 4) (Sre.M.runFor 4 m) := by
            rcases goes_four (k := k - 4) (hg.le (by omega)) with q | q
            · exact absurd q.1 hs
            · exact q
          exact reDrive_goes hQ turns (k - 4) _ h' (by omega)

theorem forIn_silent {α : Type} {f : α → PUnit → Sem (ForInStep PUnit)} (hf : ∀ a, ∀ (Q : ForInStep PUnit → Shared → Prop), Q (.yield ⟨⟩) s → wpAny M A (f a ⟨⟩) Q E s) {Q : PUnit → Shared → Prop} (h : Q ⟨⟩ s) :
    ∀ l : List α, wpAny M A (forIn l (⟨⟩ : PUnit) f) Q E s
  | [] => by rw [List.forIn_nil]; exact wpAny_pure h
  | a :: l => by
    rw [List.forIn_cons]
    exact wpAny_bind (hf a _ (forIn_silent hf h l))

theorem runToEnd_found {i j k : Nat} {m : Sre.M} {Q : Option Sre.M → Shared → Prop} (hg : Goes (Found i j) k m) (hk : k < 1000000000) (hQ : ∀ m, m.start = i → m.handed = j → Q (some m) s) : wpAny M A (reRunToEnd m) Q E s := by
  unfold reRunToEnd
  refine wpAny_bind (reDrive_goes (fun m' hs hp => ?_) _ k m hg (by show k < 4 * 18446744073709551616; omega))
  refine wpAny_bind (forIn_silent (fun a Q' h' => ?_) ?_ _)
  · split
    · exact wpAny_bind (wpAny_rule (wpAny_pure h'))
    · exact wpAny_pure h'
  · obtain ⟨h1, h2, h3⟩ := hp
    rw [h1]
    exact wpAny_pure (hQ _ h2 h3)

theorem runToEnd_failed {k : Nat} {m : Sre.M} {Q : Option Sre.M → Shared → Prop} (hg : Goes Failed k m) (hk : k < 1000000000) (hQ : Q none s) : wpAny M A (reRunToEnd m) Q E s := by
  unfold reRunToEnd
  refine wpAny_bind (reDrive_goes (fun m' hs hp => ?_) _ k m hg (by show k < 4 * 18446744073709551616; omega))
  refine wpAny_bind (forIn_silent (fun a Q' h' => ?_) ?_ _)
  · split
    · exact wpAny_bind (wpAny_rule (wpAny_pure h'))
    · exact wpAny_pure h'
  · have h1 : m'.outcome = some .failed := hp
    rw [h1]
    exact wpAny_pure hQ
end

section
variable {prog : Program} {w : World} {A : Around} {E : Value → Shared → Prop} {s : Shared}

/-- the compiled pattern stands at a, its words at c -/
def IsPat (h : Heap) (a : Addr) (code : Array Nat) : Prop :=
  ∃ c p0 p1 o d2, h.get? a = some { cls := .type "re.Pattern", data := .fields #[p0, p1, .int 0 0, .none, .none, .ref c, .int 0 0] } ∧ h.get? c = some o ∧ (∃ its n, o.data = .seq its n ∧ its = d2 ∧ (d2.map reRawOf).map (·.toNat) = code)

theorem IsPat.keeps {h h' : Heap} {a : Addr} {code : Array Nat} (x : IsPat h a code) (hk : ∀ b o, h.get? b = some o → h'.get? b = some o) : IsPat h' a code :=
  let ⟨c, p0, p1, o, d2, e1, e2, r⟩ := x; ⟨c, p0, p1, o, d2, hk _ _ e1, hk _ _ e2, r⟩

theorem wholeTarget {pat : Addr} {code : Array Nat} {x : Str} {t : Tok} {Q : ReTarget → Shared → Prop} (hp : IsPat s.heap pat code)
    (hQ : Q { pattern := .ref pat, string := .str x t, code := code, text := x.cps, kind := 0, groups := 0, pos := 0, lim := x.cps.size } s) :
    wpAny (model prog w) A (reWholeTarget (.ref pat) (.str x t)) Q E s := by
  obtain ⟨c, p0, p1, o, d2, e1, e2, its, n, e3, rfl, e4⟩ := hp
  unfold reWholeTarget
  refine wpAny_bind (wpAny_fieldsOf e1 rfl ?_)
  unfold reTextOf
  refine wpAny_bind (wpAny_bind (wpAny_pure (wpAny_pure ?_)))
  show wpAny _ _ (reNoCollectionInside (.str x t) 0 >>= _) _ _ _
  refine wpAny_bind (wpAny_pure ?_)
  unfold reRawItems
  refine wpAny_bind (wpAny_bind (wpAny_seqItems e2 e3 (wpAny_pure (wpAny_pure ?_))))
  show Q _ _
  dsimp only [Option.getD]
  rw [e4]
  exact hQ
end
end Mine

end

/- Sub2 -/
section
open PySem PySem.Builtin PySem.Builtin.Re PyProof.Rows
namespace Mine
set_option maxRecDepth 100000

/-- what sub makes of the text from d on -/
inductive Subs (code text : Array Nat) (r : List Nat) : Nat → List Nat → Prop
  | stop {d : Nat} (k : Nat) (hk : k < 1000000000) (h : Goes Failed k (Sre.forSearch code text 0 d text.size false)) : Subs code text r d (text.toList.drop d)
  | go {d i j : Nat} {out : List Nat} (k : Nat) (hk : k < 1000000000) (h : Goes (Found i j) k (Sre.forSearch code text 0 d text.size false)) (hd : d ≤ i) (hij : i < j) (hj : j ≤ text.size) (rest : Subs code text r j out) :
      Subs code text r d ((text.toList.drop d).take (i - d) ++ (r ++ out))

theorem Subs.len {code text : Array Nat} {r : List Nat} {d : Nat} {out : List Nat} (h : Subs code text r d out) (hr : r.length ≤ 2) : out.length ≤ 3 * (text.size - d) := by
  induction h with
  | stop k hk h => simp; omega
  | go k hk h hd hij hj rest ih =>
    simp only [List.length_append, List.length_take, List.length_drop, Array.length_toList]
    omega

def flat (ys : List Str) : List Nat := (ys.map (fun y : Str => y.cps.toList)).flatten

theorem flat_snoc (ys : List Str) (y : Str) : flat (ys ++ [y]) = flat ys ++ y.cps.toList := by simp [flat]

theorem flat_len (ys : List Str) : (ys.map (·.length)).sum = (flat ys).length := by
  unfold flat
  rw [List.length_flatten, List.map_map]
  rfl

theorem str_join_flat : ∀ ys : List Str, Str.join ⟨#[]⟩ ys = ⟨(flat ys).toArray⟩
  | [] => rfl
  | [x] => by simp [Str.join, flat]
  | x :: y :: r => by
    rw [Str.join, str_join_flat (y :: r)]
    · show Str.append (Str.append x ⟨#[]⟩) _ = _
      simp [Str.append, flat]
    · intro h; cases h

theorem join_flat (ys : List Str) : Txt.join ⟨#[]⟩ ys = ⟨(flat ys).toArray⟩ := (StrLaws.glued_eq_join _ ys).trans (str_join_flat ys)

theorem strsAre_snoc {vs : List Value} {ys : List Str} (h : StrsAre vs ys) (y : Str) (t : Tok) : StrsAre (vs ++ [.str y t]) (ys ++ [y]) := by
  induction h with
  | nil => exact .cons y t .nil
  | cons y' t' r ih => exact .cons y' t' ih

section
variable {prog : Program} {w : World} {A : Around} {E : Value → Shared → Prop} {s : Shared}

theorem push_piece {l : Addr} {items : Array Value} {v : Value} {Q : Unit → Shared → Prop} (hl : s.heap.PlainList l items) (hsz : items.size ≤ 100000)
    (hQ : ∀ h', h'.PlainList l (items.push v) → Heap.SameBut l s.heap h' → Q () { s with heap := h' }) : wpAny (model prog w) A (updateSeq l (·.push v)) Q E s := by
  obtain ⟨n, ho⟩ := hl
  refine wpAny_updateSeq ho rfl (hQ _ ⟨n + 1, ?_⟩ (Heap.SameBut.update ..)) (by unfold sizeLine; omega) (by unfold sizeLine; rw [Array.size_push]; omega)
  rw [Heap.get?_update_self _ ho (by rw [Obj.mapSeq_push_plain]; rfl), Obj.mapSeq_push_plain]

abbrev loopCode (pat : Addr) (x : Str) (t : Tok) (r : Str) (tr : Tok) (n d : Int) (l : Addr) : Code :=
  .builtin "re.Pattern.sub.loop" ⟨[.ref pat, .str x t, .str r tr, rawInt 0, rawInt 0, rawInt n, rawInt d, rawInt d, .bool false, .ref l, .bool false], []⟩

theorem sub_loop {h₀ : Heap} {pat l : Addr} {code : Array Nat} {x : Str} {t : Tok} {r : Str} {tr : Tok} {R : Result → Shared → Prop} (hp : IsPat h₀ pat code) (hl₀ : h₀.get? l = none) (hr : r.cps.size ≤ 2) (hx : x.cps.size ≤ 10000) {d : Nat} {out : List Nat} (hsub : Subs code x.cps r.cps.toList d out) :
    ∀ (n : Int) (s : Shared) (items : Array Value) (ys : List Str), (∀ b o, h₀.get? b = some o → s.heap.get? b = some o) → s.heap.PlainList l items → StrsAre items.toList ys →
      items.size ≤ 2 * d → (flat ys).length ≤ 3 * d → d ≤ x.cps.size →
      (∀ h' tk t', (∀ b o, h₀.get? b = some o → h'.get? b = some o) → R (.ok (.ret (.str ⟨(flat ys ++ out).toArray⟩ t'))) { s with heap := h', toks := tk }) →
      codeAny (model prog w) A (loopCode pat x t r tr n d l) R s := by
  have keepL : ∀ {h h' : Heap}, (∀ b o, h₀.get? b = some o → h.get? b = some o) → Heap.SameBut l h h' → ∀ b o, h₀.get? b = some o → h'.get? b = some o := fun k sb b o e =>
    sb.extBut b o (by rintro rfl; rw [hl₀] at e; cases e) (k b o e)
  have hz : (⟨x.cps.extract 0 0⟩ : Str).length = 0 := by simp [Str.length]
  have cut : ∀ a b : Nat, (⟨x.cps.extract a b⟩ : Str).cps.toList = (x.cps.toList.drop a).take (b - a) := fun a b => by simp
  induction hsub with
  | @stop d k hk hg =>
    intro n s items ys hk₀ hl hI hsz hfl hd hR
    refine codeAny_builtin entry_loop ?_
    rw [Around.under_plainId loop_plain]
    unfold Builtin.«re.Pattern.sub.loop»
    dsimp only [rawInt]
    refine wpAny_bind (wholeTarget (hp.keeps hk₀) ?_)
    show wpAny _ _ (reLiteralCannotBeTurned (.str r tr) >>= _) _ _ _
    refine wpAny_bind (wpAny_bind (wpAny_pure (wpAny_pure ?_)))
    dsimp only
    refine wpAny_bind (m := reNextFound _ _ _) ?_
    unfold reNextFound
    refine runToEnd_failed (k := k) hg hk ?_
    dsimp only
    by_cases hlt : d < x.cps.size
    · rw [if_pos (by show (Int.toNat (d : Int)) < x.cps.size; simpa using hlt)]
      refine wpAny_bind (m := reSlice _ _ _ _) (wpAny_mkStr ?_ (by show (x.cps.extract _ _).size ≤ 16777216; simp; omega))
      refine wpAny_bind (push_piece hl (by omega) fun h₁ hl₁ sb₁ => ?_)
      refine wpAny_bind (m := reSlice _ _ _ _) (wpAny_mkStr ?_ (by show (x.cps.extract _ _).size ≤ 16777216; simp))
      obtain ⟨nn, ho⟩ := hl₁
      refine wpAny_bind (m := seqItems? _) (wpAny_seqItems ho rfl ?_)
      rw [if_neg (by show ¬ ((items.push _).isEmpty = true); simp)]
      refine wpAny_bind (m := call _ _) ?_
      have hI' := strsAre_snoc hI (⟨x.cps.extract d x.cps.size⟩ : Str) s.toks
      have hc := cut d x.cps.size
      have hfl' : (flat (ys ++ [(⟨x.cps.extract d x.cps.size⟩ : Str)])).length ≤ 3 * x.cps.size := by
        rw [flat_snoc, List.length_append, hc]; simp; omega
      refine join_list (ys := ys ++ [(⟨x.cps.extract d x.cps.size⟩ : Str)]) (s := { s with heap := h₁, toks := s.toks + 1 + 1 }) ⟨_, ho, rfl, nn, rfl⟩ (by simpa using hI') (by rw [flat_len, hz]; omega) fun t' kk => ?_
      refine wpAny_pure ?_
      have := hR h₁ kk t' (keepL hk₀ sb₁)
      rw [show (⟨x.cps.extract 0 0⟩ : Str) = ⟨#[]⟩ by simp, join_flat, flat_snoc, hc, List.take_of_length_le (by simp)]
      exact this
    · rw [if_neg (by show ¬ ((Int.toNat (d : Int)) < x.cps.size); simpa using hlt)]
      refine wpAny_bind (m := reSlice _ _ _ _) (wpAny_mkStr ?_ (by show (x.cps.extract _ _).size ≤ 16777216; simp))
      obtain ⟨nn, ho⟩ := hl
      have hnil : x.cps.toList.drop d = [] := by rw [List.drop_eq_nil_iff]; simpa using hlt
      refine wpAny_bind (m := seqItems? _) (wpAny_seqItems ho rfl ?_)
      by_cases hE : items.isEmpty = true
      · rw [if_pos (show ((some items).getD #[]).isEmpty = true from hE)]
        refine wpAny_bind (wpAny_pure ?_)
        refine wpAny_pure ?_
        have e1 : items = #[] := by simpa using hE
        subst e1
        cases hI
        have := hR s.heap (s.toks + 1) s.toks hk₀
        rw [hnil] at this
        rw [show (⟨x.cps.extract 0 0⟩ : Str) = ⟨#[]⟩ by simp]
        exact this
      · rw [if_neg (show ¬ ((some items).getD #[]).isEmpty = true from hE)]
        refine wpAny_bind (m := call _ _) ?_
        refine join_list (ys := ys) (s := { s with toks := s.toks + 1 }) ⟨_, ho, rfl, nn, rfl⟩ hI (by rw [flat_len, hz]; omega) fun t' kk => ?_
        refine wpAny_pure ?_
        have := hR s.heap kk t' hk₀
        rw [hnil, List.append_nil] at this
        rw [show (⟨x.cps.extract 0 0⟩ : Str) = ⟨#[]⟩ by simp, join_flat]
        exact this
  | @go d i j out k hk hg hdi hij hj rest ih =>
    intro n s items ys hk₀ hl hI hsz hfl hd hR
    refine codeAny_builtin entry_loop ?_
    rw [Around.under_plainId loop_plain]
    unfold Builtin.«re.Pattern.sub.loop»
    dsimp only [rawInt]
    refine wpAny_bind (wholeTarget (hp.keeps hk₀) ?_)
    show wpAny _ _ (reLiteralCannotBeTurned (.str r tr) >>= _) _ _ _
    refine wpAny_bind (wpAny_bind (wpAny_pure (wpAny_pure ?_)))
    dsimp only
    refine wpAny_bind (m := reNextFound _ _ _) ?_
    unfold reNextFound
    refine runToEnd_found (k := k) hg hk fun m hs hh => ?_
    dsimp only
    have hne : (m.handed == m.start) = false := by rw [hs, hh]; simpa using (by omega : ¬ j = i)
    rw [hne, hs, hh]
    by_cases hlt : d < i
    · rw [if_pos (by show (Int.toNat (d : Int)) < i; simpa using hlt)]
      refine wpAny_bind (m := reSlice _ _ _ _) (wpAny_mkStr ?_ (by show (x.cps.extract _ _).size ≤ 16777216; simp; omega))
      refine wpAny_bind (push_piece hl (by omega) fun h₁ hl₁ sb₁ => ?_)
      rw [if_pos (by rfl)]
      refine wpAny_bind (wpAny_pure ?_)
      rw [if_pos (by rfl)]
      refine wpAny_bind (push_piece hl₁ (by rw [Array.size_push]; omega) fun h₂ hl₂ sb₂ => ?_)
      refine wpAny_pure ⟨plainId_quiet loop_plain _, ?_⟩
      have hc := cut d i
      have hI' := strsAre_snoc (strsAre_snoc hI (⟨x.cps.extract d i⟩ : Str) s.toks) r tr
      refine ih (n + 1) _ _ ((ys ++ [(⟨x.cps.extract d i⟩ : Str)]) ++ [r]) (keepL (keepL hk₀ sb₁) sb₂) hl₂ (by simpa using hI') (by simp; omega) ?_ hj fun h' tk t' hk' => ?_
      · rw [flat_snoc, flat_snoc, List.length_append, List.length_append, hc]; simp; omega
      · have := hR h' tk t' hk'
        rw [flat_snoc, flat_snoc, hc]
        simpa [List.append_assoc] using this
    · have hdi' : d = i := by omega
      rw [if_neg (by show ¬ ((Int.toNat (d : Int)) < i); simpa using hlt)]
      rw [if_pos (by rfl)]
      refine wpAny_bind (wpAny_pure ?_)
      rw [if_pos (by rfl)]
      refine wpAny_bind (push_piece hl (by omega) fun h₂ hl₂ sb₂ => ?_)
      refine wpAny_pure ⟨plainId_quiet loop_plain _, ?_⟩
      have hI' := strsAre_snoc hI r tr
      refine ih (n + 1) _ _ (ys ++ [r]) (keepL hk₀ sb₂) hl₂ (by simpa using hI') (by simp; omega) ?_ hj fun h' tk t' hk' => ?_
      · rw [flat_snoc, List.length_append]; simp; omega
      · have := hR h' tk t' hk'
        rw [flat_snoc]
        subst hdi'
        simpa [List.append_assoc] using this

theorem getD_ofText {x : Str} (d : Nat) : x.cps.getD d 0 = x.cps.toList.getD d 0 := by simp

/-- pattern.sub(repl, text), the pattern without groups, the replacement a text without backslashes -/
theorem sub_call {pat : Addr} {code : Array Nat} {x : Str} {t : Tok} {r : Str} {tr : Tok} {out : List Nat} {Q : Value → Shared → Prop} (hp : IsPat s.heap pat code) (hr : r.cps.size ≤ 2) (hx : x.cps.size ≤ 10000) (hb : r.cps.contains 92 = false)
    (hsub : Subs code x.cps r.cps.toList 0 out) (hQ : ∀ h' tk t', (∀ b o, s.heap.get? b = some o → h'.get? b = some o) → Q (.str ⟨out.toArray⟩ t') { s with heap := h', toks := tk }) :
    wpAny (model prog w) A (call (.builtin "re.Pattern.sub") [.ref pat, .str r tr, .str x t]) Q E s := by
  have hT : s.TypeIs (.ref pat) "re.Pattern" := by
    obtain ⟨c, p0, p1, o, d2, e1, _⟩ := hp
    exact ⟨_, e1, rfl⟩
  refine wpAny_call (codeAny_call_builtin slot_sub.plain entry_sub (slot_sub.check _ _ _ _ _ _ _ _ hT (args_sub _ _ _) ?_))
  unfold Builtin.«re.Pattern.sub» reSubstitute
  dsimp only
  have hn : reNamed "re.Pattern.sub" "sub" ["repl", "string", "count"] 2 [.str r tr, .str x t] [] = pure [some (.str r tr), some (.str x t), none] := rfl
  rw [hn]
  refine wpAny_bind (wpAny_pure ?_)
  dsimp only
  refine wpAny_bind (wpAny_pure ?_)
  refine wpAny_bind (wpAny_specialOf_val (T := "str") rfl str_no_call ?_)
  dsimp only [Option.isSome]
  refine wpAny_bind (m := asStr? _) (wpAny_pure ?_)
  dsimp only
  refine wpAny_bind (wpAny_pure ?_)
  rw [hb]
  refine wpAny_bind (wpAny_pure ?_)
  dsimp only
  refine wpAny_bind (wpAny_holding (wholeTarget hp ?_))
  refine wpAny_bind (m := newList []) (wpAny_newList ?_)
  refine wpAny_pure ⟨plainId_quiet loop_plain _, ?_⟩
  refine sub_loop (h₀ := s.heap) (code := code) (d := 0) hp (Heap.get?_none_of_le (Nat.le_refl _)) hr hx hsub 0 _ #[] [] (fun b o e => Heap.get?_push_of_some _ e) ⟨0, Heap.get?_push_size _ rfl⟩ .nil (by simp) (by simp [flat]) (Nat.zero_le _) fun h' tk t' hk => ?_
  exact hQ h' tk t' hk
end
end Mine

end

/- Qd -/
section
open PySem PySem.Builtin PyProof.Rows
namespace Mine

/-- line ends made whole; last: the sign ahead -/
def norm : Nat → List Nat → List Nat
  | _, [] => []
  | last, c :: r => (if c = 13 ∨ (c = 10 ∧ last ≠ 13) then [13, 10] else if c = 10 then [] else [c]) ++ norm c r

/-- a dot at a line's beginning doubled -/
def dots : Nat → List Nat → List Nat
  | _, [] => []
  | prev, c :: r => (if c = 46 ∧ prev = 10 then [46, 46] else [c]) ++ dots c r

/-- what one sign adds to what is sent -/
def piece (last c : Nat) : List Nat :=
  if c = 13 ∨ (c = 10 ∧ last ≠ 13) then [13, 10]
  else if c = 46 ∧ (last = 13 ∨ last = 10) then [46, 46]
  else if c ≠ 10 then [c] else []

/-- the law's own walk -/
def beg : Nat → List Nat → List Nat
  | _, [] => []
  | last, c :: r => piece last c ++ beg c r

theorem dots_cons (prev c : Nat) (r : List Nat) : dots prev (c :: r) = (if c = 46 ∧ prev = 10 then [46, 46] else [c]) ++ dots c r := rfl

theorem dots_norm : ∀ (l : List Nat) (last prev : Nat), (prev = 10 ↔ last = 13 ∨ last = 10) → dots prev (norm last l) = beg last l
  | [], _, _, _ => rfl
  | c :: r, last, prev, h => by
    unfold norm beg piece
    by_cases h1 : c = 13 ∨ (c = 10 ∧ last ≠ 13)
    · rw [if_pos h1, if_pos h1]
      have e : dots prev ([13, 10] ++ norm c r) = [13, 10] ++ dots 10 (norm c r) := by simp [dots]
      rw [e, dots_norm r c 10 (by simp; omega)]
    · rw [if_neg h1, if_neg h1]
      by_cases h2 : c = 10
      · subst h2
        have hl : last = 13 := by simpa using h1
        simp only [if_true, List.nil_append, ne_eq, not_true_eq_false, if_false, show ¬ ((10 : Nat) = 46) by decide, false_and]
        exact dots_norm r 10 prev (by simp [h, hl])
      · rw [if_neg h2]
        have e : dots prev ([c] ++ norm c r) = (if c = 46 ∧ prev = 10 then [46, 46] else [c]) ++ dots c (norm c r) := rfl
        rw [e, dots_norm r c c (by simp; omega)]
        by_cases h3 : c = 46
        · simp [h3, h]
        · simp [h3, h2]

/-- quotedata -/
def qd (l : List Nat) : List Nat := beg 10 l

theorem first_or {p : Nat → Prop} (hp : ∀ i, Decidable (p i)) : ∀ (k d : Nat), (∀ j, d ≤ j → j < d + k → ¬ p j) ∨ ∃ i, d ≤ i ∧ i < d + k ∧ p i ∧ ∀ j, d ≤ j → j < i → ¬ p j
  | 0, d => .inl fun j a b => by omega
  | k + 1, d => by
    rcases hp d with h | h
    · rcases first_or hp k (d + 1) with q | ⟨i, a, b, c, e⟩
      · exact .inl fun j a b => if hj : j = d then hj ▸ h else q j (by omega) (by omega)
      · exact .inr ⟨i, by omega, by omega, c, fun j x y => if hj : j = d then hj ▸ h else e j (by omega) y⟩
    · exact .inr ⟨d, Nat.le_refl _, by omega, h, fun j a b => by omega⟩

theorem norm_skip : ∀ (k : Nat) (l : List Nat) (last : Nat), (∀ j, j < k → ¬ isNl (l.getD j 0)) → k ≤ l.length → norm last l = l.take k ++ norm (if k = 0 then last else l.getD (k - 1) 0) (l.drop k)
  | 0, l, last, _, _ => by simp
  | k + 1, [], last, _, h => by simp at h
  | k + 1, c :: r, last, hn, h => by
    have h0 : ¬ isNl c := by simpa using hn 0 (by omega)
    have ih := norm_skip k r c (fun j hj => by simpa using hn (j + 1) (by omega)) (by simpa using h)
    have hc : ¬ (c = 13 ∨ (c = 10 ∧ last ≠ 13)) := fun q => h0 (by unfold isNl; omega)
    have hc2 : ¬ c = 10 := fun q => h0 (.inl q)
    rw [norm, if_neg hc, if_neg hc2, ih]
    cases k with
    | zero => simp
    | succ k => simp

theorem dots_skip : ∀ (k : Nat) (l : List Nat) (prev : Nat), (∀ j, j < k → ¬ (l.getD j 0 = 46 ∧ (if j = 0 then prev else l.getD (j - 1) 0) = 10)) → k ≤ l.length → dots prev l = l.take k ++ dots (if k = 0 then prev else l.getD (k - 1) 0) (l.drop k)
  | 0, l, prev, _, _ => by simp
  | k + 1, [], prev, _, h => by simp at h
  | k + 1, c :: r, prev, hn, h => by
    have h0 : ¬ (c = 46 ∧ prev = 10) := by simpa using hn 0 (by omega)
    have ih := dots_skip k r c (fun j hj => by
      have := hn (j + 1) (by omega)
      cases j with
      | zero => simpa using this
      | succ j => simpa using this) (by simpa using h)
    rw [dots, if_neg h0, ih]
    cases k with
    | zero => simp
    | succ k => simp

theorem subs2 (text : Array Nat) (hsz : text.size ≤ 10000) : ∀ (n d last : Nat), text.size - d ≤ n → d ≤ text.size → (d < text.size → last = 13 → text.getD d 0 ≠ 10) → Subs code2 text [13, 10] d (norm last (text.toList.drop d)) := by
  intro n
  induction n with
  | zero =>
    intro d last hn hd hl
    have e : text.toList.drop d = [] := by rw [List.drop_eq_nil_iff]; simp; omega
    have := Subs.stop (r := [13, 10]) (d := d) 20 (by omega) (search2_none text d text.size (fun j a b => by omega))
    rw [e] at this ⊢
    exact this
  | succ n ih =>
    intro d last hn hd hl
    rcases first_or (p := fun i => isNl (text.getD i 0)) (fun i => inferInstance) (text.size - d) d with q | ⟨i, a, b, c, e⟩
    · have hs := Subs.stop (r := [13, 10]) (d := d) 20 (by omega) (search2_none text d text.size (fun j a b => q j a (by omega)))
      have := norm_skip (text.size - d) (text.toList.drop d) last (fun j hj => by have := q (d + j) (by omega) (by omega); simpa using this) (by simp)
      have e0 : (text.toList.drop d).drop (text.size - d) = [] := by rw [List.drop_drop, List.drop_eq_nil_iff]; simp; omega
      rw [e0, List.take_of_length_le (by simp), norm, List.append_nil] at this
      rw [this]
      exact hs
    · have hi : i < text.size := by omega
      have hsk := norm_skip (i - d) (text.toList.drop d) last (fun j hj => by have := e (d + j) (by omega) (by omega); simpa using this) (by simp; omega)
      rw [List.drop_drop, show d + (i - d) = i by omega] at hsk
      have hcons : text.toList.drop i = text.getD i 0 :: text.toList.drop (i + 1) := by
        rw [List.drop_eq_getElem_cons (by simpa using hi)]; simp [hi]
      -- the sign ahead of i is no return that i's feed belongs to
      have hlast : ∀ L, L = (if i - d = 0 then last else (text.toList.drop d).getD (i - d - 1) 0) → text.getD i 0 = 10 → L ≠ 13 := by
        intro L hL h10 h13
        by_cases h0 : i - d = 0
        · have : i = d := by omega
          subst this
          rw [if_pos (by omega)] at hL
          exact hl hi (hL ▸ h13) h10
        · rw [if_neg h0] at hL
          have := e (i - 1) (by omega) (by omega)
          have e3 : (text.toList.drop d).getD (i - d - 1) 0 = text.getD (i - 1) 0 := by
            simp [show d + (i - d - 1) = i - 1 by omega]
          rw [e3] at hL
          exact this (.inr (hL ▸ h13))
      have hgo := search2_found text d text.size a hi c e
      generalize hL : (if i - d = 0 then last else (text.toList.drop d).getD (i - d - 1) 0) = L at hsk
      have hL' := hlast L hL.symm
      rw [hsk, hcons, norm]
      have hcond : text.getD i 0 = 13 ∨ (text.getD i 0 = 10 ∧ L ≠ 13) := by
        rcases c with c | c
        · exact .inr ⟨c, hL' c⟩
        · exact .inl c
      rw [if_pos hcond]
      by_cases hw : text.getD i 0 = 13 ∧ i + 1 < text.size ∧ text.getD (i + 1) 0 = 10
      · have hW : nlW text text.size i = 2 := by unfold nlW; rw [if_pos hw]
        rw [hW] at hgo
        have hcons2 : text.toList.drop (i + 1) = 10 :: text.toList.drop (i + 2) := by
          rw [List.drop_eq_getElem_cons (by simpa using hw.2.1)]
          have := hw.2.2
          simp [hw.2.1] at this
          simp [this]
        have hrest := ih (i + 2) 10 (by omega) (by omega) (fun _ h => by omega)
        have := Subs.go (r := [13, 10]) 20 (by omega) hgo a (by omega) (by omega) hrest
        rw [hcons2, norm, hw.1]
        simpa using this
      · have hW : nlW text text.size i = 1 := by unfold nlW; rw [if_neg hw]
        rw [hW] at hgo
        have hrest := ih (i + 1) (text.getD i 0) (by omega) (by omega) (fun x y z => hw ⟨y, x, z⟩)
        exact Subs.go (r := [13, 10]) 20 (by omega) hgo a (by omega) (by omega) hrest

theorem subs1 (text : Array Nat) (hsz : text.size ≤ 10000) : ∀ (n d prev : Nat), text.size - d ≤ n → d ≤ text.size → prev = (if d = 0 then 10 else text.getD (d - 1) 0) → Subs code1 text [46, 46] d (dots prev (text.toList.drop d)) := by
  intro n
  induction n with
  | zero =>
    intro d prev hn hd hl
    have e : text.toList.drop d = [] := by rw [List.drop_eq_nil_iff]; simp; omega
    have := Subs.stop (r := [46, 46]) (d := d) (3 * text.size + 6) (by omega) (search1_none text d text.size (fun j a b => by omega))
    rw [e] at this ⊢
    exact this
  | succ n ih =>
    intro d prev hn hd hl
    have key : ∀ j, ((text.toList.drop d).getD j 0 = 46 ∧ (if j = 0 then prev else (text.toList.drop d).getD (j - 1) 0) = 10) ↔ isDot text (d + j) := by
      intro j
      unfold isDot
      have e1 : (text.toList.drop d).getD j 0 = text.getD (d + j) 0 := by simp
      rw [e1]
      refine and_congr_right fun _ => ?_
      by_cases hj : j = 0
      · subst hj
        rw [if_pos rfl, hl]
        by_cases h0 : d = 0
        · simp [h0]
        · simp [h0]
      · rw [if_neg hj]
        have e2 : (text.toList.drop d).getD (j - 1) 0 = text.getD (d + j - 1) 0 := by simp [show d + (j - 1) = d + j - 1 by omega]
        rw [e2]
        constructor
        · exact .inr
        · rintro (h | h)
          · omega
          · exact h
    rcases first_or (p := isDot text) (fun i => inferInstanceAs (Decidable (_ ∧ _))) (text.size - d) d with q | ⟨i, a, b, c, e⟩
    · have hs := Subs.stop (r := [46, 46]) (d := d) (3 * text.size + 6) (by omega) (search1_none text d text.size (fun j a b => q j a (by omega)))
      have := dots_skip (text.size - d) (text.toList.drop d) prev (fun j hj => by rw [key]; exact q (d + j) (by omega) (by omega)) (by simp)
      have e0 : (text.toList.drop d).drop (text.size - d) = [] := by rw [List.drop_drop, List.drop_eq_nil_iff]; simp; omega
      rw [e0, List.take_of_length_le (by simp), dots, List.append_nil] at this
      rw [this]
      exact hs
    · have hi : i < text.size := by omega
      have hsk := dots_skip (i - d) (text.toList.drop d) prev (fun j hj => by rw [key]; exact e (d + j) (by omega) (by omega)) (by simp; omega)
      rw [List.drop_drop, show d + (i - d) = i by omega] at hsk
      have hcons : text.toList.drop i = text.getD i 0 :: text.toList.drop (i + 1) := by
        rw [List.drop_eq_getElem_cons (by simpa using hi)]; simp [hi]
      have hk := (key (i - d)).mpr (by rw [show d + (i - d) = i by omega]; exact c)
      have hgo := search1_found text d text.size a hi c e
      rw [hsk, hcons, dots, if_pos ⟨c.1, hk.2⟩, c.1]
      have hrest := ih (i + 1) 46 (by omega) (by omega) (by simp [c.1])
      exact Subs.go (r := [46, 46]) (3 * text.size + 6) (by omega) hgo a (by omega) (by omega) hrest

section
variable {prog : Program} {w : World} {A : Around} {E : Value → Shared → Prop} {s : Shared}
theorem beg_len : ∀ (l : List Nat) (last : Nat), (beg last l).length ≤ 2 * l.length
  | [], _ => by simp [beg]
  | c :: r, last => by
    have := beg_len r c
    rw [beg, List.length_append]
    have h2 : (piece last c).length ≤ 2 := by unfold piece; (repeat' split) <;> simp
    simp; omega
theorem norm_len : ∀ (l : List Nat) (last : Nat), (norm last l).length ≤ 2 * l.length
  | [], _ => by simp [norm]
  | c :: r, last => by
    have := norm_len r c
    rw [norm, List.length_append]
    have h2 : (if c = 13 ∨ (c = 10 ∧ last ≠ 13) then [13, 10] else if c = 10 then [] else [c]).length ≤ 2 := by (repeat' split) <;> simp
    rw [List.length_cons]; omega

/-- the two calls of sub, one behind the other -/
theorem two_subs {p1 p2 : Addr} {x : Str} {t t1 t2 : Tok} {Q : Value → Shared → Prop} (h1 : IsPat s.heap p1 code1) (h2 : IsPat s.heap p2 code2) (hx : x.cps.size ≤ 4000)
    (hQ : ∀ h' tk t', (∀ b o, s.heap.get? b = some o → h'.get? b = some o) → Q (.str ⟨(qd x.cps.toList).toArray⟩ t') { s with heap := h', toks := tk }) :
    wpAny (model prog w) A (call (.builtin "re.Pattern.sub") [.ref p2, .str ⟨#[13, 10]⟩ t2, .str x t]) (fun v s₁ => wpAny (model prog w) A (call (.builtin "re.Pattern.sub") [.ref p1, .str ⟨#[46, 46]⟩ t1, v]) Q E s₁) E s := by
  refine sub_call (out := norm 10 x.cps.toList) h2 (by decide) (by omega) (by decide +kernel) ?_ fun h' tk t' hk => ?_
  · have := subs2 x.cps (by omega) x.cps.size 0 10 (by omega) (by omega) (fun _ h => by omega)
    simpa using this
  · have hl := norm_len x.cps.toList 10
    refine sub_call (out := qd x.cps.toList) (h1.keeps hk) (by decide) (by show (norm 10 x.cps.toList).toArray.size ≤ 10000; simp at hl ⊢; omega) (by decide +kernel) ?_ fun h'' tk' t'' hk' => hQ h'' tk' t'' fun b o e => hk' b o (hk b o e)
    have := subs1 (norm 10 x.cps.toList).toArray (by simp at hl ⊢; omega) (norm 10 x.cps.toList).toArray.size 0 10 (by omega) (by omega) (by simp)
    rw [List.drop_zero, dots_norm _ 10 10 (by simp)] at this
    exact this
end
end Mine

end

/- Ev -/
section
open PySem PySem.Calls PyProof.Rows
namespace Mine
set_option maxRecDepth 100000
set_option linter.unusedVariables false

abbrev Kp (h h' : Heap) : Prop := ∀ b o, h.get? b = some o → h'.get? b = some o

structure Kps (s s' : Shared) : Prop where
  same : ∃ h tk, s' = { s with heap := h, toks := tk }
  heap : Kp s.heap s'.heap

theorem Kps.refl (s : Shared) : Kps s s := ⟨⟨s.heap, s.toks, rfl⟩, fun _ _ e => e⟩
theorem Kps.trans {a b c : Shared} (x : Kps a b) (y : Kps b c) : Kps a c :=
  ⟨by obtain ⟨h, tk, e⟩ := y.same; obtain ⟨h', tk', e'⟩ := x.same; exact ⟨h, tk, by rw [e, e']⟩, fun b o e => y.heap b o (x.heap b o e)⟩
theorem Kps.mk' {s : Shared} {h : Heap} {tk : Nat} (k : Kp s.heap h) : Kps s { s with heap := h, toks := tk } := ⟨⟨h, tk, rfl⟩, k⟩
theorem Kps.tok (s : Shared) (tk : Nat) : Kps s { s with toks := tk } := ⟨⟨s.heap, tk, rfl⟩, fun _ _ e => e⟩
theorem Kps.push (s : Shared) (o : Obj) (tk : Nat) : Kps s { s with heap := s.heap.push o, toks := tk } := ⟨⟨_, tk, rfl⟩, fun _ _ e => Heap.get?_push_of_some _ e⟩
theorem Kps.of {s s' : Shared} (x : Keeps s s') : Kps s s' := by obtain ⟨h, tk, rfl, k⟩ := x; exact ⟨⟨h, tk, rfl⟩, k⟩
theorem Kps.to {s s' : Shared} (x : Kps s s') : Keeps s s' := by obtain ⟨⟨h, tk, rfl⟩, k⟩ := x; exact ⟨h, tk, rfl, k⟩

/-- the tree keeps all that stands at b, and what it hands on is of R -/
def Ev {α : Type} (M : Model) (A : Around) (b : Shared) (t : Sem α) (R : α → Heap → Prop) : Prop :=
  ∀ s, Kps b s → ∀ (Q : α → Shared → Prop) (E : Value → Shared → Prop), (∀ v s', Kps s s' → R v s'.heap → Q v s') → wpAny M A t Q E s

abbrev rI (i : Int) (v : Value) (_ : Heap) : Prop := ∃ t, v = .int i t
abbrev rS (x : Str) (v : Value) (_ : Heap) : Prop := ∃ t, v = .str x t
abbrev rV (u : Value) (v : Value) (_ : Heap) : Prop := v = u
abbrev rB (b : Bool) (v : Bool) (_ : Heap) : Prop := v = b

section
variable {α β : Type} {M : Model} {A : Around} {b : Shared} {env : Env}

theorem Ev.base {t : Sem α} {R : α → Heap → Prop} {b' : Shared} (h : Ev M A b t R) (k : Kps b b') : Ev M A b' t R := fun s ks Q E hQ => h s (k.trans ks) Q E hQ
theorem Ev.weak {t : Sem α} {R R' : α → Heap → Prop} (h : Ev M A b t R) (hr : ∀ v h, R v h → R' v h) : Ev M A b t R' := fun s ks Q E hQ => h s ks Q E fun v s' k r => hQ v s' k (hr _ _ r)
theorem Ev.seq {m : Sem α} {f : α → Sem β} {R : α → Heap → Prop} {R' : β → Heap → Prop} (h : Ev M A b m R) (hf : ∀ v s, Kps b s → R v s.heap → Ev M A s (f v) R') : Ev M A b (m >>= f) R' :=
  fun s ks Q E hQ => wpAny_bind (h s ks _ _ fun v s' k r => hf v s' (ks.trans k) r s' (Kps.refl s') _ _ fun v' s'' k' r' => hQ v' s'' (k.trans k') r')
theorem Ev.fin {v : α} {R : α → Heap → Prop} (h : ∀ s, Kps b s → R v s.heap) : Ev M A b (pure v) R := fun s ks _ _ hQ => wpAny_pure (hQ v s (Kps.refl s) (h s ks))
theorem Ev.go {t : Sem α} {R : α → Heap → Prop} (h : Ev M A b t R) {Q : α → Shared → Prop} {E : Value → Shared → Prop} (hQ : ∀ v s', Kps b s' → R v s'.heap → Q v s') : wpAny M A t Q E b := h b (Kps.refl b) Q E hQ
theorem Ev.keeps {t : Sem α} {R : α → Heap → Prop} (h : Ev M A b t R) {E : Value → Shared → Prop} : wpAny M A t (fun v s' => R v s'.heap ∧ Kps b s') E b := h.go fun v s' k r => ⟨r, k⟩

-- names
theorem Ev.loc {m : Str → Option Value} {x : Str} {pos : Pos} {v : Value} (hn : b.heap.Ns env.locals m) (hv : m x = some v) (hk : env.scope.kind = .function := by rfl) (hl : env.kindOf x = some .local := by rfl)
    (hd : (x == ("__debug__" : Str)) = false := by decide +kernel) : Ev M A b (eval (.Name x pos) env) (rV v) := fun s ks _ _ hQ =>
  wpAny_Name (wpAny_loadName_local hk hl (hn.keeps ks.heap) hv (hQ v s (Kps.refl s) rfl)) hd
theorem Ev.cell {x : Str} {pos : Pos} {c : Addr} {v : Value} (hv : b.heap.IsCell c (some v)) (hc : env.cells.lookup x = some c := by rfl) (hk : env.scope.kind = .function := by rfl) (hl : env.kindOf x = some .cell := by rfl)
    (hd : (x == ("__debug__" : Str)) = false := by decide +kernel) : Ev M A b (eval (.Name x pos) env) (rV v) := fun s ks _ _ hQ =>
  wpAny_Name (wpAny_loadName_cell hk hl hc (hv.keeps ks.heap) (hQ v s (Kps.refl s) rfl)) hd
theorem Ev.free {x : Str} {pos : Pos} {c : Addr} {v : Value} (hv : b.heap.IsCell c (some v)) (hc : env.cells.lookup x = some c := by rfl) (hk : env.scope.kind = .function := by rfl) (hl : env.kindOf x = some .free := by rfl)
    (hd : (x == ("__debug__" : Str)) = false := by decide +kernel) (hcd : (x == ("__classdict__" : Str)) = false := by decide +kernel) : Ev M A b (eval (.Name x pos) env) (rV v) := fun s ks _ _ hQ =>
  wpAny_Name (wpAny_loadName_free hk hl hc (hv.keeps ks.heap) (hQ v s (Kps.refl s) rfl) hcd) hd

/-- the world: the module's names, the built-in ones -/
structure Wd (mg mb : Str → Option Value) (h : Heap) : Prop where
  g : h.Ns mainGlobals mg
  b : h.Ns builtinsNs mb
  lim : h.NoLimit
theorem Wd.keeps {mg mb : Str → Option Value} {h h' : Heap} (W : Wd mg mb h) (k : Kp h h') : Wd mg mb h' := ⟨W.g.keeps k, W.b.keeps k, W.lim.keeps k⟩

theorem Ev.glob {mg mb : Str → Option Value} {x : Str} {pos : Pos} {v : Value} (W : Wd mg mb b.heap) (hv : mg x = some v) (hg : env.globals = mainGlobals := by rfl) (hk : env.scope.kind = .function := by rfl) (hx : env.kindOf x = some .globalImplicit := by rfl)
    (hd : (x == ("__debug__" : Str)) = false := by decide +kernel) : Ev M A b (eval (.Name x pos) env) (rV v) := fun s ks _ _ hQ =>
  Name_function_global hk hx (loadGlobal_global (by rw [hg]; exact W.g.keeps ks.heap) hv (hQ v s (Kps.refl s) rfl)) hd
theorem Ev.blt {mg mb : Str → Option Value} {x : Str} {pos : Pos} {v : Value} (W : Wd mg mb b.heap) (hno : mg x = none) (hv : mb x = some v) (hg : env.globals = mainGlobals := by rfl) (hb : env.builtins = builtinsNs := by rfl) (hk : env.scope.kind = .function := by rfl) (hx : env.kindOf x = some .globalImplicit := by rfl)
    (hd : (x == ("__debug__" : Str)) = false := by decide +kernel) : Ev M A b (eval (.Name x pos) env) (rV v) := fun s ks _ _ hQ =>
  Name_function_global hk hx (loadGlobal_builtin (by rw [hg]; exact W.g.keeps ks.heap) hno (by rw [hb]; exact W.b.keeps ks.heap) hv (hQ v s (Kps.refl s) rfl)) hd

-- constants
theorem Ev.kI {i : Int} {k : Nat} {pos : Pos} : Ev M A b (eval (.Constant (.int i) k pos) env) (rI i) := fun s _ _ _ hQ => wpAny_Constant_int (hQ _ _ (Kps.tok _ _) ⟨_, rfl⟩)
theorem Ev.kS {x : Str} {k : Nat} {pos : Pos} : Ev M A b (eval (.Constant (.str x) k pos) env) (rS x) := fun s _ _ _ hQ => wpAny_Constant_str (hQ _ _ (Kps.tok _ _) ⟨_, rfl⟩)
theorem Ev.kN {k : Nat} {pos : Pos} : Ev M A b (eval (.Constant .none k pos) env) (rV .none) := fun s _ _ _ hQ => wpAny_Constant_none (hQ _ _ (Kps.refl _) rfl)
theorem Ev.kB {c : Bool} {k : Nat} {pos : Pos} : Ev M A b (eval (.Constant (.bool c) k pos) env) (rV (.bool c)) := fun s _ _ _ hQ => wpAny_Constant_bool (hQ _ _ (Kps.refl _) rfl)

-- an exact value as an int, a text
theorem Ev.asI {t : Sem Value} {i : Int} {u : Tok} (h : Ev M A b t (rV (.int i u))) : Ev M A b t (rI i) := h.weak fun _ _ r => ⟨u, r⟩
theorem Ev.asS {t : Sem Value} {x : Str} {u : Tok} (h : Ev M A b t (rV (.str x u))) : Ev M A b t (rS x) := h.weak fun _ _ r => ⟨u, r⟩

/-- two operands, then the operation -/
theorem Ev.binop {l r : Expr} {op : Operator} {pos : Pos} {R1 R2 R : Value → Heap → Prop} (h1 : Ev M A b (eval l env) R1) (h2 : Ev M A b (eval r env) R2) (m1 : ∀ v h h', Kp h h' → R1 v h → R1 v h')
    (hop : ∀ v1 v2 s, Kps b s → R1 v1 s.heap → R2 v2 s.heap → Ev M A s (binaryOp op v1 v2) R) : Ev M A b (eval (.BinOp l op r pos) env) R := fun s ks Q E hQ =>
  wpAny_BinOp (h1 s ks _ _ fun v1 s1 k1 r1 => h2 s1 (ks.trans k1) _ _ fun v2 s2 k2 r2 => hop v1 v2 s2 ((ks.trans k1).trans k2) (m1 _ _ _ k2.heap r1) r2 s2 (Kps.refl s2) _ _ fun v s' k r => hQ v s' ((k1.trans k2).trans k) r)
theorem Ev.cmp {l r : Expr} {op : CmpOp} {pos : Pos} {R1 R2 R : Value → Heap → Prop} (h1 : Ev M A b (eval l env) R1) (h2 : Ev M A b (eval r env) R2) (m1 : ∀ v h h', Kp h h' → R1 v h → R1 v h')
    (hop : ∀ v1 v2 s, Kps b s → R1 v1 s.heap → R2 v2 s.heap → Ev M A s (compareOp op v1 v2) R) (hm : behindInMarks op r = false := by rfl) : Ev M A b (eval (.Compare l [op] [r] pos) env) R := fun s ks Q E hQ =>
  wpAny_Compare1 (h1 s ks _ _ fun v1 s1 k1 r1 => h2 s1 (ks.trans k1) _ _ fun v2 s2 k2 r2 => hop v1 v2 s2 ((ks.trans k1).trans k2) (m1 _ _ _ k2.heap r1) r2 s2 (Kps.refl s2) _ _ fun v s' k r => hQ v s' ((k1.trans k2).trans k) r) hm
/-- a test by one comparison -/
theorem Ev.test {l r : Expr} {op : CmpOp} {pos : Pos} {whole : Sem Value} {R1 R2 : Value → Heap → Prop} {c : Bool} (h1 : Ev M A b (eval l env) R1) (h2 : Ev M A b (eval r env) R2) (m1 : ∀ v h h', Kp h h' → R1 v h → R1 v h')
    (hop : ∀ v1 v2 s, Kps b s → R1 v1 s.heap → R2 v2 s.heap → Ev M A s (compareOp op v1 v2) (rV (.bool c))) (hm : behindInMarks op r = false := by rfl) : Ev M A b (isTrue (.Compare l [op] [r] pos) env whole) (rB c) := fun s ks Q E hQ =>
  wpAny_isTrue_Compare1 (h1 s ks _ _ fun v1 s1 k1 r1 => h2 s1 (ks.trans k1) _ _ fun v2 s2 k2 r2 => hop v1 v2 s2 ((ks.trans k1).trans k2) (m1 _ _ _ k2.heap r1) r2 s2 (Kps.refl s2) _ _ fun v s' k r => by
    cases (r : v = .bool c); exact wpAny_truthy_bool (hQ c s' ((k1.trans k2).trans k) rfl)) hm
/-- a test by a value -/
theorem Ev.testV {e : Expr} {c : Bool} (h : Ev M A b (eval e env) (rV (.bool c))) (he : isTrue e env (eval e env) = (do let v ← eval e env; standAt e.pos; holding [v] (truthy v)) := by rfl) : Ev M A b (isTrue e env (eval e env)) (rB c) := fun s ks Q E hQ =>
  wpAny_isTrue_value (h s ks _ _ fun v s1 k1 r1 => by cases (r1 : v = .bool c); exact wpAny_truthy_bool (hQ c s1 k1 rfl)) he
theorem Ev.and2 {x y : Expr} {pos : Pos} {whole : Sem Value} {c d : Bool} (h1 : Ev M A b (isTrue x env (eval x env)) (rB c)) (h2 : c = true → Ev M A b (isTrue y env (eval y env)) (rB d)) : Ev M A b (isTrue (.BoolOp .And [x, y] pos) env whole) (rB (c && d)) := fun s ks Q E hQ =>
  wpAny_isTrue_BoolOp (wpAny_allTrue_And_cons (h1 s ks _ _ fun v s1 k1 r1 => by
    cases (r1 : v = c)
    cases c with
    | false => exact hQ false s1 k1 rfl
    | true => exact wpAny_allTrue_And_cons (h2 rfl s1 (ks.trans k1) _ _ fun v s2 k2 r2 => by
        cases (r2 : v = d)
        cases d with
        | false => exact hQ false s2 (k1.trans k2) rfl
        | true => exact wpAny_allTrue_And_nil (hQ true s2 (k1.trans k2) rfl))))
theorem Ev.or2 {x y : Expr} {pos : Pos} {whole : Sem Value} {c d : Bool} (h1 : Ev M A b (isTrue x env (eval x env)) (rB c)) (h2 : c = false → Ev M A b (isTrue y env (eval y env)) (rB d)) : Ev M A b (isTrue (.BoolOp .Or [x, y] pos) env whole) (rB (c || d)) := fun s ks Q E hQ =>
  wpAny_isTrue_BoolOp (wpAny_allTrue_Or_cons (h1 s ks _ _ fun v s1 k1 r1 => by
    cases (r1 : v = c)
    cases c with
    | true => exact hQ true s1 k1 rfl
    | false => exact wpAny_allTrue_Or_cons (h2 rfl s1 (ks.trans k1) _ _ fun v s2 k2 r2 => by
        cases (r2 : v = d)
        cases d with
        | true => exact hQ true s2 (k1.trans k2) rfl
        | false => exact wpAny_allTrue_Or_nil (hQ false s2 (k1.trans k2) rfl))))
theorem Ev.notT {x : Expr} {pos : Pos} {whole : Sem Value} {c : Bool} (h1 : Ev M A b (isTrue x env (eval x env)) (rB c)) : Ev M A b (isTrue (.UnaryOp .Not x pos) env whole) (rB (!c)) := fun s ks Q E hQ =>
  wpAny_isTrue_Not (h1 s ks _ _ fun v s1 k1 r1 => by cases (r1 : v = c); exact hQ _ s1 k1 rfl)
end

section
variable {prog : Program} {w : World} {A : Around} {b : Shared} {env : Env}

theorem monoI {i : Int} : ∀ v h h', Kp h h' → rI i v h → rI i v h' := fun _ _ _ _ r => r
theorem monoS {x : Str} : ∀ v h h', Kp h h' → rS x v h → rS x v h' := fun _ _ _ _ r => r
theorem monoV {u : Value} : ∀ v h h', Kp h h' → rV u v h → rV u v h' := fun _ _ _ _ r => r

theorem Ev.add {l r : Expr} {pos : Pos} {i j : Int} (h1 : Ev (model prog w) A b (eval l env) (rI i)) (h2 : Ev (model prog w) A b (eval r env) (rI j)) : Ev (model prog w) A b (eval (.BinOp l .Add r pos) env) (rI (i + j)) :=
  Ev.binop h1 h2 monoI fun v1 v2 s ks ⟨_, e1⟩ ⟨_, e2⟩ s' ks' Q E hQ => by subst e1 e2; exact add_int (hQ _ _ (Kps.tok _ _) ⟨_, rfl⟩)
theorem Ev.sub {l r : Expr} {pos : Pos} {i j : Int} (h1 : Ev (model prog w) A b (eval l env) (rI i)) (h2 : Ev (model prog w) A b (eval r env) (rI j)) : Ev (model prog w) A b (eval (.BinOp l .Sub r pos) env) (rI (i - j)) :=
  Ev.binop h1 h2 monoI fun v1 v2 s ks ⟨_, e1⟩ ⟨_, e2⟩ s' ks' Q E hQ => by subst e1 e2; exact sub_int (hQ _ _ (Kps.tok _ _) ⟨_, rfl⟩)
theorem Ev.fmod {l r : Expr} {pos : Pos} {i j : Int} (h1 : Ev (model prog w) A b (eval l env) (rI i)) (h2 : Ev (model prog w) A b (eval r env) (rI j)) (hj : j ≠ 0) : Ev (model prog w) A b (eval (.BinOp l .Mod r pos) env) (rI (i.fmod j)) :=
  Ev.binop h1 h2 monoI fun v1 v2 s ks ⟨_, e1⟩ ⟨_, e2⟩ s' ks' Q E hQ => by subst e1 e2; exact mod_int' hj (hQ _ _ (Kps.tok _ _) ⟨_, rfl⟩)
theorem Ev.fdiv {l r : Expr} {pos : Pos} {i j : Int} (h1 : Ev (model prog w) A b (eval l env) (rI i)) (h2 : Ev (model prog w) A b (eval r env) (rI j)) (hj : j ≠ 0) (hp : Builtin.divisionGoesByPylong i j = false) : Ev (model prog w) A b (eval (.BinOp l .FloorDiv r pos) env) (rI (i.fdiv j)) :=
  Ev.binop h1 h2 monoI fun v1 v2 s ks ⟨_, e1⟩ ⟨_, e2⟩ s' ks' Q E hQ => by subst e1 e2; exact floordiv_int hj (hQ _ _ (Kps.tok _ _) ⟨_, rfl⟩) (.inl hp)
theorem Ev.neg {x : Expr} {pos : Pos} {i : Int} (h1 : Ev (model prog w) A b (eval x env) (rI i)) : Ev (model prog w) A b (eval (.UnaryOp .USub x pos) env) (rI (-i)) := fun s ks Q E hQ =>
  wpAny_UnaryOp (h1 s ks _ _ fun v s1 k1 ⟨_, e⟩ => by subst e; exact neg_int (hQ _ _ (k1.trans (Kps.tok _ _)) ⟨_, rfl⟩))
theorem Ev.cat {l r : Expr} {pos : Pos} {x y : Str} (h1 : Ev (model prog w) A b (eval l env) (rS x)) (h2 : Ev (model prog w) A b (eval r env) (rS y)) (hsz : x.length + y.length ≤ sizeLine) : Ev (model prog w) A b (eval (.BinOp l .Add r pos) env) (rS (x ++ y)) :=
  Ev.binop h1 h2 monoS fun v1 v2 s ks ⟨_, e1⟩ ⟨_, e2⟩ s' ks' Q E hQ => by subst e1 e2; exact add_str (fun t' tk => hQ _ _ (Kps.tok _ _) ⟨_, rfl⟩) hsz

theorem opLt {i j : Int} {v1 v2 : Value} {s : Shared} (h1 : rI i v1 s.heap) (h2 : rI j v2 s.heap) : Ev (model prog w) A s (compareOp .Lt v1 v2) (rV (.bool (decide (i < j)))) := fun s' ks' Q E hQ => by
  obtain ⟨_, rfl⟩ := h1; obtain ⟨_, rfl⟩ := h2; exact lt_int (hQ _ _ (Kps.refl _) rfl)
theorem opLe {i j : Int} {v1 v2 : Value} {s : Shared} (h1 : rI i v1 s.heap) (h2 : rI j v2 s.heap) : Ev (model prog w) A s (compareOp .LtE v1 v2) (rV (.bool (decide (i ≤ j)))) := fun s' ks' Q E hQ => by
  obtain ⟨_, rfl⟩ := h1; obtain ⟨_, rfl⟩ := h2; exact le_int (hQ _ _ (Kps.refl _) rfl)
theorem opGt {i j : Int} {v1 v2 : Value} {s : Shared} (h1 : rI i v1 s.heap) (h2 : rI j v2 s.heap) : Ev (model prog w) A s (compareOp .Gt v1 v2) (rV (.bool (decide (j < i)))) := fun s' ks' Q E hQ => by
  obtain ⟨_, rfl⟩ := h1; obtain ⟨_, rfl⟩ := h2; exact gt_int (hQ _ _ (Kps.refl _) rfl)
theorem opEq {i j : Int} {v1 v2 : Value} {s : Shared} (h1 : rI i v1 s.heap) (h2 : rI j v2 s.heap) : Ev (model prog w) A s (compareOp .Eq v1 v2) (rV (.bool (i == j))) := fun s' ks' Q E hQ => by
  obtain ⟨_, rfl⟩ := h1; obtain ⟨_, rfl⟩ := h2; exact eq_int (hQ _ _ (Kps.refl _) rfl)
theorem opNe {i j : Int} {v1 v2 : Value} {s : Shared} (h1 : rI i v1 s.heap) (h2 : rI j v2 s.heap) : Ev (model prog w) A s (compareOp .NotEq v1 v2) (rV (.bool (i != j))) := fun s' ks' Q E hQ => by
  obtain ⟨_, rfl⟩ := h1; obtain ⟨_, rfl⟩ := h2; exact ne_int (hQ _ _ (Kps.refl _) rfl)
theorem opEqS {x y : Str} {v1 v2 : Value} {s : Shared} (h1 : rS x v1 s.heap) (h2 : rS y v2 s.heap) : Ev (model prog w) A s (compareOp .Eq v1 v2) (rV (.bool (x == y))) := fun s' ks' Q E hQ => by
  obtain ⟨_, rfl⟩ := h1; obtain ⟨_, rfl⟩ := h2; exact eq_str (hQ _ _ (Kps.refl _) rfl)
theorem opNeS {x y : Str} {v1 v2 : Value} {s : Shared} (h1 : rS x v1 s.heap) (h2 : rS y v2 s.heap) : Ev (model prog w) A s (compareOp .NotEq v1 v2) (rV (.bool (x != y))) := fun s' ks' Q E hQ => by
  obtain ⟨_, rfl⟩ := h1; obtain ⟨_, rfl⟩ := h2; exact ne_str (hQ _ _ (Kps.refl _) rfl)
theorem opIsNone {u v1 v2 : Value} {s : Shared} (h1 : rV u v1 s.heap) (h2 : rV .none v2 s.heap) : Ev (model prog w) A s (compareOp .Is v1 v2) (rV (.bool (u == .none))) := fun s' ks' Q E hQ => by
  cases h1; cases h2; exact is_none (hQ _ _ (Kps.refl _) rfl)

-- tests of ints and texts
theorem Ev.tLt {l r : Expr} {pos : Pos} {whole : Sem Value} {i j : Int} (h1 : Ev (model prog w) A b (eval l env) (rI i)) (h2 : Ev (model prog w) A b (eval r env) (rI j)) (hm : behindInMarks .Lt r = false := by rfl) : Ev (model prog w) A b (isTrue (.Compare l [.Lt] [r] pos) env whole) (rB (decide (i < j))) := Ev.test h1 h2 monoI (fun _ _ _ _ a c => opLt a c) hm
theorem Ev.tLe {l r : Expr} {pos : Pos} {whole : Sem Value} {i j : Int} (h1 : Ev (model prog w) A b (eval l env) (rI i)) (h2 : Ev (model prog w) A b (eval r env) (rI j)) (hm : behindInMarks .LtE r = false := by rfl) : Ev (model prog w) A b (isTrue (.Compare l [.LtE] [r] pos) env whole) (rB (decide (i ≤ j))) := Ev.test h1 h2 monoI (fun _ _ _ _ a c => opLe a c) hm
theorem Ev.tGt {l r : Expr} {pos : Pos} {whole : Sem Value} {i j : Int} (h1 : Ev (model prog w) A b (eval l env) (rI i)) (h2 : Ev (model prog w) A b (eval r env) (rI j)) (hm : behindInMarks .Gt r = false := by rfl) : Ev (model prog w) A b (isTrue (.Compare l [.Gt] [r] pos) env whole) (rB (decide (j < i))) := Ev.test h1 h2 monoI (fun _ _ _ _ a c => opGt a c) hm
theorem Ev.tEq {l r : Expr} {pos : Pos} {whole : Sem Value} {i j : Int} (h1 : Ev (model prog w) A b (eval l env) (rI i)) (h2 : Ev (model prog w) A b (eval r env) (rI j)) (hm : behindInMarks .Eq r = false := by rfl) : Ev (model prog w) A b (isTrue (.Compare l [.Eq] [r] pos) env whole) (rB (i == j)) := Ev.test h1 h2 monoI (fun _ _ _ _ a c => opEq a c) hm
theorem Ev.tNe {l r : Expr} {pos : Pos} {whole : Sem Value} {i j : Int} (h1 : Ev (model prog w) A b (eval l env) (rI i)) (h2 : Ev (model prog w) A b (eval r env) (rI j)) (hm : behindInMarks .NotEq r = false := by rfl) : Ev (model prog w) A b (isTrue (.Compare l [.NotEq] [r] pos) env whole) (rB (i != j)) := Ev.test h1 h2 monoI (fun _ _ _ _ a c => opNe a c) hm
theorem Ev.tEqS {l r : Expr} {pos : Pos} {whole : Sem Value} {x y : Str} (h1 : Ev (model prog w) A b (eval l env) (rS x)) (h2 : Ev (model prog w) A b (eval r env) (rS y)) (hm : behindInMarks .Eq r = false := by rfl) : Ev (model prog w) A b (isTrue (.Compare l [.Eq] [r] pos) env whole) (rB (x == y)) := Ev.test h1 h2 monoS (fun _ _ _ _ a c => opEqS a c) hm
theorem Ev.tNeS {l r : Expr} {pos : Pos} {whole : Sem Value} {x y : Str} (h1 : Ev (model prog w) A b (eval l env) (rS x)) (h2 : Ev (model prog w) A b (eval r env) (rS y)) (hm : behindInMarks .NotEq r = false := by rfl) : Ev (model prog w) A b (isTrue (.Compare l [.NotEq] [r] pos) env whole) (rB (x != y)) := Ev.test h1 h2 monoS (fun _ _ _ _ a c => opNeS a c) hm
theorem Ev.tIsNone {l r : Expr} {pos : Pos} {whole : Sem Value} {u : Value} (h1 : Ev (model prog w) A b (eval l env) (rV u)) (h2 : Ev (model prog w) A b (eval r env) (rV .none)) (hm : behindInMarks .Is r = false := by rfl) : Ev (model prog w) A b (isTrue (.Compare l [.Is] [r] pos) env whole) (rB (u == .none)) := Ev.test h1 h2 monoV (fun _ _ _ _ a c => opIsNone a c) hm
end
end Mine

end

/- Ev2 -/
section
open PySem PySem.Calls PyProof.Rows
namespace Mine
set_option maxRecDepth 100000
set_option linter.unusedVariables false

abbrev evs (es : List Expr) (env : Env) : List (Bool × Sem Value) := es.map fun e => (false, eval e env)
abbrev T (l : List Nat) : Str := ⟨l.toArray⟩

/-- the values of a call, one after the other -/
def ListR : List (Value → Heap → Prop) → List Value → Heap → Prop
  | [], vs, _ => vs = []
  | R :: Rs, vs, h => ∃ v r, vs = v :: r ∧ R v h ∧ ListR Rs r h

section
variable {M : Model} {A : Around} {b : Shared} {env : Env}

theorem Ev.sNil {Rs : List (Value → Heap → Prop)} (e : Rs = []) : Ev M A b (spliced []) (ListR Rs) := fun s ks Q E hQ => spliced_nil (hQ [] s (Kps.refl s) (by subst e; rfl))
theorem Ev.sCons {t : Sem Value} {rest : List (Bool × Sem Value)} {R : Value → Heap → Prop} {Rs : List (Value → Heap → Prop)} (h : Ev M A b t R) (m : ∀ v h h', Kp h h' → R v h → R v h') (hr : Ev M A b (spliced rest) (ListR Rs)) :
    Ev M A b (spliced ((false, t) :: rest)) (ListR (R :: Rs)) := fun s ks Q E hQ =>
  spliced_cons (h s ks _ _ fun v s1 k1 r1 => hr s1 (ks.trans k1) _ _ fun vs s2 k2 r2 => hQ (v :: vs) s2 (k1.trans k2) ⟨v, vs, rfl, m _ _ _ k2.heap r1, r2⟩)

theorem Ev.s1 {t1 : Sem Value} {R1 : Value → Heap → Prop} (h1 : Ev M A b t1 R1) (m1 : ∀ v h h', Kp h h' → R1 v h → R1 v h') : Ev M A b (spliced [(false, t1)]) (ListR [R1]) := Ev.sCons h1 m1 (Ev.sNil rfl)
theorem Ev.s2 {t1 t2 : Sem Value} {R1 R2 : Value → Heap → Prop} (h1 : Ev M A b t1 R1) (m1 : ∀ v h h', Kp h h' → R1 v h → R1 v h') (h2 : Ev M A b t2 R2) (m2 : ∀ v h h', Kp h h' → R2 v h → R2 v h') :
    Ev M A b (spliced [(false, t1), (false, t2)]) (ListR [R1, R2]) := Ev.sCons h1 m1 (Ev.s1 h2 m2)
theorem Ev.s3 {t1 t2 t3 : Sem Value} {R1 R2 R3 : Value → Heap → Prop} (h1 : Ev M A b t1 R1) (m1 : ∀ v h h', Kp h h' → R1 v h → R1 v h') (h2 : Ev M A b t2 R2) (m2 : ∀ v h h', Kp h h' → R2 v h → R2 v h') (h3 : Ev M A b t3 R3) (m3 : ∀ v h h', Kp h h' → R3 v h → R3 v h') :
    Ev M A b (spliced [(false, t1), (false, t2), (false, t3)]) (ListR [R1, R2, R3]) := Ev.sCons h1 m1 (Ev.s2 h2 m2 h3 m3)
theorem Ev.s4 {t1 t2 t3 t4 : Sem Value} {R1 R2 R3 R4 : Value → Heap → Prop} (h1 : Ev M A b t1 R1) (m1 : ∀ v h h', Kp h h' → R1 v h → R1 v h') (h2 : Ev M A b t2 R2) (m2 : ∀ v h h', Kp h h' → R2 v h → R2 v h') (h3 : Ev M A b t3 R3) (m3 : ∀ v h h', Kp h h' → R3 v h → R3 v h')
    (h4 : Ev M A b t4 R4) (m4 : ∀ v h h', Kp h h' → R4 v h → R4 v h') :
    Ev M A b (spliced [(false, t1), (false, t2), (false, t3), (false, t4)]) (ListR [R1, R2, R3, R4]) := Ev.sCons h1 m1 (Ev.s3 h2 m2 h3 m3 h4 m4)

/-- a def of the text, called by its name -/
theorem Ev.callF {f : Str} {p pos : Pos} {e1 : Expr} {es : List Expr} {fa : Addr} {o : Obj} {fd : FuncData} {Rs : List (Value → Heap → Prop)} {R : Value → Heap → Prop}
    (hf : Ev M A b (eval (.Name f p) env) (rV (.ref fa))) (ho : b.heap.get? fa = some o) (hd : o.data = .func fd)
    (ha : Ev M A b (spliced ((false, eval e1 env) :: evs es env)) (ListR Rs)) (hc : ∀ vs s, Kps b s → ListR Rs vs s.heap → Ev M A s (call (.ref fa) vs []) R)
    (hs : backTo pos (starEach (e1 :: es) env) = (false, eval e1 env) :: evs es env := by rfl) : Ev M A b (eval (.Call (.Name f p) (e1 :: es) [] pos) env) R := fun s ks Q E hQ => by
  refine wpAny_Call_Name_kw (hf s ks _ _ fun v s1 k1 r1 => ?_)
  cases (r1 : v = .ref fa)
  rw [hs]
  show wpAny M A (callWith pos (.ref fa) [] ((false, eval e1 env) :: evs es env) []) Q E s1
  refine callWith_function (o := o) (fd := fd) (evalArgs_plain (ha s1 (ks.trans k1) _ _ fun vs s2 k2 r2 => ⟨⟨((ks.trans k1).trans k2).heap _ _ ho, hd⟩, ?_⟩))
  exact hc vs s2 ((ks.trans k1).trans k2) r2 s2 (Kps.refl s2) _ _ fun v s' k r => hQ v s' ((k1.trans k2).trans k) r

theorem callWith_machine {E : Value → Shared → Prop} {s : Shared} {pos : Pos} {f : Value} {first : List Value} {args : List (Bool × Sem Value)} {Q : Value → Shared → Prop} (hplain : args.any (·.1) = false) (hk : keeperOf f = pure .machine)
    (h : wpAny M A (evalArgs f true args []) (fun a s₁ => wpAny M A (call f (first ++ a.pos) a.kw) Q E s₁) E s) :
    wpAny M A (callWith pos f first args []) Q E s := by
  unfold callWith
  refine wpAny_bind (wpAny_holding (wpAny_mono h (fun a s₁ h₁ => wpAny_bind (wpAny_standAt ?_)) fun _ _ x => x))
  simp only [hplain, List.any_nil, Bool.or_false, hk]
  refine wpAny_bind (wpAny_pure ?_)
  exact wpAny_bind (wpAny_mono h₁ (fun r s₂ hr => wpAny_bind (wpAny_holding (wpAny_point (wpAny_pure hr)))) fun _ _ x => x)

/-- a built-in function or type, called by its name -/
theorem Ev.callB {f : Str} {p pos : Pos} {e1 : Expr} {es : List Expr} {fv : Value} {Rs : List (Value → Heap → Prop)} {R : Value → Heap → Prop}
    (hf : Ev M A b (eval (.Name f p) env) (rV fv)) (ha : Ev M A b (spliced ((false, eval e1 env) :: evs es env)) (ListR Rs)) (hc : ∀ vs s, Kps b s → ListR Rs vs s.heap → Ev M A s (call fv vs []) R)
    (hk : keeperOf fv = pure .machine := by rfl) (hs : backTo pos (starEach (e1 :: es) env) = (false, eval e1 env) :: evs es env := by rfl) (hpl : (((false, eval e1 env) :: evs es env).any (·.1)) = false := by rfl) : Ev M A b (eval (.Call (.Name f p) (e1 :: es) [] pos) env) R := fun s ks Q E hQ => by
  refine wpAny_Call_Name_kw (hf s ks _ _ fun v s1 k1 r1 => ?_)
  cases (r1 : v = fv)
  rw [hs]
  show wpAny M A (callWith pos fv [] ((false, eval e1 env) :: evs es env) []) Q E s1
  refine callWith_machine hpl hk (evalArgs_plain (ha s1 (ks.trans k1) _ _ fun vs s2 k2 r2 => ?_))
  exact hc vs s2 ((ks.trans k1).trans k2) r2 s2 (Kps.refl s2) _ _ fun v s' k r => hQ v s' ((k1.trans k2).trans k) r

/-- an item or a slice -/
theorem Ev.item {value slice : Expr} {pos : Pos} {R1 R2 R : Value → Heap → Prop} (h1 : Ev M A b (eval value env) R1) (h2 : Ev M A b (eval slice env) R2) (m1 : ∀ v h h', Kp h h' → R1 v h → R1 v h')
    (hop : ∀ v1 v2 s, Kps b s → R1 v1 s.heap → R2 v2 s.heap → Ev M A s (subscriptTail value slice v1 v2) R) : Ev M A b (eval (.Subscript value slice pos) env) R := fun s ks Q E hQ =>
  Subscript_ (h1 s ks _ _ fun v1 s1 k1 r1 => h2 s1 (ks.trans k1) _ _ fun v2 s2 k2 r2 => hop v1 v2 s2 ((ks.trans k1).trans k2) (m1 _ _ _ k2.heap r1) r2 s2 (Kps.refl s2) _ _ fun v s' k r => hQ v s' ((k1.trans k2).trans k) r)
end

section
variable {prog : Program} {w : World} {A : Around} {b : Shared} {env : Env}

theorem Ev.lenS {x : Str} {v : Value} {s : Shared} (h : rS x v s.heap) (hx : x.length < 2 ^ 62) : Ev (model prog w) A s (call (.builtin "len") [v] []) (rI x.length) := fun s' ks Q E hQ => by
  obtain ⟨t, rfl⟩ := h
  exact len_str (by omega) (hQ _ _ (Kps.tok _ _) ⟨_, rfl⟩)
theorem Ev.lenL {l : Addr} {items : Array Value} {s : Shared} (h : s.heap.IsList l items) (hx : items.size < 2 ^ 62) : Ev (model prog w) A s (call (.builtin "len") [.ref l] []) (rI items.size) := fun s' ks Q E hQ =>
  call_len_list (h.at fun o e => ks.heap _ o e) (by omega) (hQ _ _ (Kps.tok _ _) ⟨_, rfl⟩)
theorem Ev.chr {i : Int} {v : Value} {s : Shared} (h : rI i v s.heap) (h0 : 0 ≤ i) (h1 : i < 1114112) : Ev (model prog w) A s (call (.builtin "chr") [v] []) (rS (T [i.toNat])) := fun s' ks Q E hQ => by
  obtain ⟨t, rfl⟩ := h
  exact P.chr_of_int (by rw [decide_eq_false (by omega), decide_eq_false (by omega)]; rfl) (hQ _ _ (Kps.tok _ _) ⟨_, rfl⟩)

theorem tail_on {value slice : Expr} {o i : Value} {ops : List Value} {U id : String} {Q : Value → Shared → Prop} {E : Value → Shared → Prop} {s : Shared} (hT : s.TypeIs o U) (hl : typeLookup (.type U) "__getitem__" = pure (some (.builtin id)))
    (h : wpAny (model prog w) A (getItem o i) Q E s) (hs : subscripted slice false o i = operate ops (getItem o i)) : wpAny (model prog w) A (subscriptTail value slice o i) Q E s := tail_any hT hl h hs

/-- an item of a list, at a place in bounds -/
theorem Ev.itemL {value slice : Expr} {l : Addr} {items : Array Value} {k : Int} {v1 v2 x : Value} {s : Shared} (h1 : v1 = .ref l) (hl : s.heap.IsList l items) (h2 : rI k v2 s.heap) (h0 : 0 ≤ k) (hx : items[k.toNat]? = some x) (hk : k < 2 ^ 62)
    (hs : ∀ t, subscripted slice false (.ref l) (.int k t) = operate [.ref l, .int k t] (getItem (.ref l) (.int k t))) : Ev (model prog w) A s (subscriptTail value slice v1 v2) (rV x) := fun s' ks Q E hQ => by
  obtain ⟨t, rfl⟩ := h2
  subst h1
  have hl' := hl.at fun o e => ks.heap _ o e
  exact tail_any (s := s') hl'.typeIs slot_list_getitem.lookup (wpAny_getItem_list hl' h0 (by omega) hx (hQ _ _ (Kps.refl _) rfl)) (hs t)
theorem Ev.itemLneg {value slice : Expr} {l : Addr} {items : Array Value} {k : Int} {v1 v2 x : Value} {s : Shared} (h1 : v1 = .ref l) (hl : s.heap.IsList l items) (h2 : rI k v2 s.heap) (h0 : k < 0) (hk : -(2 ^ 62) ≤ k) (hsz : -(items.size : Int) ≤ k) (hx : items[(k + items.size).toNat]? = some x)
    (hs : ∀ t, subscripted slice false (.ref l) (.int k t) = operate [.ref l, .int k t] (getItem (.ref l) (.int k t))) : Ev (model prog w) A s (subscriptTail value slice v1 v2) (rV x) := fun s' ks Q E hQ => by
  obtain ⟨t, rfl⟩ := h2
  subst h1
  have hl' := hl.at fun o e => ks.heap _ o e
  exact tail_any (s := s') hl'.typeIs slot_list_getitem.lookup (wpAny_getItem_list_neg hl' h0 hsz (by omega) hx (hQ _ _ (Kps.refl _) rfl)) (hs t)
/-- a sign of a text -/
theorem Ev.itemS {value slice : Expr} {x : Str} {k : Int} {c : Nat} {v1 v2 : Value} {s : Shared} (h1 : rS x v1 s.heap) (h2 : rI k v2 s.heap) (h0 : 0 ≤ k) (hk : k < 2 ^ 62) (hc : x.cps[k.toNat]? = some c)
    (hs : ∀ t u, subscripted slice false (.str x t) (.int k u) = operate [.str x t, .int k u] (getItem (.str x t) (.int k u))) : Ev (model prog w) A s (subscriptTail value slice v1 v2) (rS (T [c])) := fun s' ks Q E hQ => by
  obtain ⟨t, rfl⟩ := h1
  obtain ⟨u, rfl⟩ := h2
  have hlt : k.toNat < x.length := (Array.getElem?_eq_some_iff.mp hc).1
  refine tail_any (s := s') (typeIs_str _ _ _) slot_str_getitem.lookup (PyProof.Rows.getItem_str (c := c) (by rw [decide_eq_false (by omega), decide_eq_false (by omega)]; rfl) ?_ (hQ _ _ (Kps.tok _ _) ⟨_, rfl⟩)) (hs t u)
  have e : seqIndex? k x.length = some k.toNat := by
    unfold seqIndex?
    have h1 : ¬ k < 0 := by omega
    simp only [h1, if_false]
    rw [if_pos (by simp; omega)]
  rw [e]
  exact hc

theorem post_slice {x : Str} {t : Tok} {l u : Option (Int × Tok)} {s : Shared} {Q : Value → Shared → Prop} (hx : x.length ≤ sizeLine) (h : ∀ t' k, Q (.str (Txt.slice x (l.map (·.1)) (u.map (·.1))) t') { s with toks := k }) : (sliceMade x t l u none).post Q s := by
  have e : sliceMade x t l u none = (if ((1 : Int) == 1 && (Builtin.Str.strSliceIndices (l.map (·.1)) (u.map (·.1)) 1 x.length).length == x.length) = true then Made.val (.str x t) else Made.str ⟨((Builtin.Str.strSliceIndices (l.map (·.1)) (u.map (·.1)) 1 x.length).filterMap (x.cps[·]?)).toArray⟩) := rfl
  rw [e]
  have hl := Txt.slice_le x (l.map (·.1)) (u.map (·.1))
  unfold Txt.slice at h hl
  exact post_val_or_str ⟨Nat.le_trans hl hx, h⟩

/-- a cut of a text -/
theorem Ev.cut {value : Expr} {lo hi : Option Expr} {p pos : Pos} {x y : Str} {l u : Option Int} (h1 : Ev (model prog w) A b (eval value env) (rS x))
    (h2 : Ev (model prog w) A b (evalPart lo env) (fun v _ => ∃ q, v = partValue q ∧ q.map (·.1) = l)) (h3 : Ev (model prog w) A b (evalPart hi env) (fun v _ => ∃ q, v = partValue q ∧ q.map (·.1) = u))
    (hy : Txt.slice x l u = y) (hx : x.length ≤ sizeLine) (ht : ∀ o r, letTemporaryGo value o r = pure () := by intro _ _; rfl) : Ev (model prog w) A b (eval (.Subscript value (.Slice lo hi none p) pos) env) (rS y) := fun s ks Q E hQ => by
  refine wpAny_Subscript_str_slice (h1 s ks _ _ fun v1 s1 k1 ⟨t1, e1⟩ => h2 s1 (ks.trans k1) _ _ fun v2 s2 k2 ⟨q2, e2, f2⟩ => h3 s2 ((ks.trans k1).trans k2) _ _ fun v3 s3 k3 ⟨q3, e3, f3⟩ => ?_) ht
  refine ⟨x, t1, q2, q3, e1, e2, e3, post_slice hx fun t' k => ?_⟩
  rw [f2, f3, hy]
  exact hQ (.str y t') { s3 with heap := s3.heap.push { cls := .type "slice", data := .fields #[v2, v3, .none] }, toks := k } (((k1.trans k2).trans k3).trans (Kps.push _ _ _)) ⟨t', rfl⟩
theorem Ev.part {e : Expr} {i : Int} (h : Ev (model prog w) A b (eval e env) (rI i)) : Ev (model prog w) A b (evalPart (some e) env) (fun v _ => ∃ q, v = partValue q ∧ q.map (·.1) = some i) := fun s ks Q E hQ =>
  wpAny_evalPart_some (h s ks _ _ fun v s1 k1 ⟨t, e⟩ => hQ v s1 k1 ⟨some (i, t), e, rfl⟩)
theorem Ev.nopart : Ev (model prog w) A b (evalPart none env) (fun v _ => ∃ q, v = partValue q ∧ q.map (·.1) = none) := fun s ks Q E hQ =>
  wpAny_evalPart_none (hQ .none s (Kps.refl s) ⟨none, rfl, rfl⟩)

theorem T_toList (x : Str) : T x.cps.toList = x := by cases x; simp
theorem slice_mid {l : List Nat} {i j : Nat} (h1 : i ≤ j) (h2 : j ≤ l.length) : Txt.slice (T l) (some i) (some j) = T ((l.drop i).take (j - i)) := by
  have := eq_of_beq (slice_closes (x := T l) (i := i) (j := j) (by simp; omega))
  rw [this]
  simp [show ((j : Int) - (i : Int)).toNat = j - i by omega]
theorem slice_pre {l : List Nat} {j : Nat} (h2 : j ≤ l.length) : Txt.slice (T l) none (some j) = T (l.take j) := by
  have := eq_of_beq (slice_closes_to (x := T l) (j := j) (by simp; omega))
  rw [this]
  simp
theorem slice_suf {l : List Nat} {i : Nat} (h2 : i ≤ l.length) : Txt.slice (T l) (some i) none = T (l.drop i) := by
  have := slice_from_eq (x := T l) (i := i) (b := l.length) (by omega) (by simp [Str.length]; omega) (by simp [Str.length])
  rw [this]
  simp [show ((l.length : Int) - (i : Int)).toNat = l.length - i by omega]
  rw [List.take_of_length_le (by simp)]
end
end Mine

end

/- Fn -/
section
open PySem PySem.Calls PyProof.Rows
namespace Mine
set_option maxRecDepth 100000
set_option linter.unusedVariables false

/-- room for n more frames -/
structure Rm (A : Around) (n : Nat) : Prop where
  hd : A.handled = none
  dp : A.depth + n < recursionLimit
  un : A.units + 10 * n < cLine

theorem Rm.less {A : Around} {n m : Nat} (x : Rm A n) (h : m ≤ n) : Rm A m := ⟨x.hd, by have := x.dp; omega, by have := x.un; omega⟩
theorem Rm.deeper {A : Around} {n : Nat} {env : Env} (x : Rm A (n + 1)) : Rm (A.deeper env) n := ⟨x.hd, by have := x.dp; show A.depth + 1 + n < _; omega, by have := x.un; show A.units + 3 + 10 * n < _; omega⟩
theorem Rm.in1 {A : Around} {n : Nat} (x : Rm A (n + 1)) : Rm A.in1 n := ⟨x.hd, by have := x.dp; show A.depth + n < _; omega, by have := x.un; show A.units + 1 + 10 * n < _; omega⟩
theorem Rm.room {A : Around} {n : Nat} (x : Rm A n) : A.depth < recursionLimit := by have := x.dp; omega
theorem Rm.units {A : Around} {n : Nat} (x : Rm A n) : A.units < cLine := by have := x.un; omega

/-- a def of the text stands at fa -/
structure Fn (h : Heap) (fa : Addr) (fd : FuncData) : Prop where
  at_ : ∃ o, h.get? fa = some o ∧ o.data = .func fd
  code : h.CodeRec fd.code fd.qualname
theorem Fn.keeps {h h' : Heap} {fa : Addr} {fd : FuncData} (x : Fn h fa fd) (k : Kp h h') : Fn h' fa fd := ⟨let ⟨o, e, d⟩ := x.at_; ⟨o, k _ _ e, d⟩, x.code.keeps k⟩

abbrev envF (fd : FuncData) (L fa : Addr) : Env := newEnv fd.scope L fd.globals fd.closure (fd.qualname ++ (".<locals>." : Str)) (some fa) fd.code none fd.builtins

section
variable {prog : Program} {w : World} {A : Around} {s : Shared}

/-- a call of a def without cells of its own -/
theorem enter_plain {fa : Addr} {fd : FuncData} {body : List Stmt} {args : Args} {binds : List (Str × Value)} {R : Result → Shared → Prop} (hf : Fn s.heap fa fd) (hlim : s.heap.NoLimit) (hroom : A.depth < recursionLimit) (hbody : fd.body = .stmts body)
    (hbind : BindsTo s fd args binds) (hloc : ∀ x ∈ binds, fd.scope.names.lookup x.1 = some .local)
    (h : ∀ s₁, Kps s s₁ → s₁.heap.Ns s.heap.objs.size (fun x => binds.reverse.lookup x) →
      wpAny (model prog w) (A.deeper (envF fd s.heap.objs.size fa)) (execs body (envF fd s.heap.objs.size fa)) (fun f s' => R (.ok (.ret (match f with | .ret v => v | _ => .none))) s') (fun _ _ => False) s₁)
    (hcell : ∀ x ∈ fd.scope.names, x.2 ≠ .cell) (hco : fd.scope.isCoroutine = false) (hgen : fd.scope.isGenerator = false) (hk : fd.scope.kind = .function) :
    codeAny (model prog w) A (.call (.ref fa) args) R s := by
  obtain ⟨o, ho, hd⟩ := hf.at_
  refine codeAny_call_function hroom ho hd hco hgen hbody hf.code (hbind _ _ _ _ ?_)
  refine wpAny_newFunctionEnv hcell hloc (fun h₁ hns hsb => ?_) hk
  have hkp : Kp s.heap h₁ := fun b o e => hsb.extBut b o (Nat.ne_of_lt (Heap.lt_size e)) (Heap.get?_push_of_some _ e)
  refine ⟨hlim.keeps hkp, codeAny_func (wpAny_mono (h _ (Kps.mk' hkp) hns) (fun _ _ x => x) fun _ _ x => x.elim)⟩

theorem locsB {names : List (Str × NameKind)} {binds : List (Str × Value)} (h : (binds.map (·.1)).all (fun x => names.lookup x == some .local) = true) : ∀ x ∈ binds, names.lookup x.1 = some .local := fun x hx => by
  have := List.all_eq_true.mp h x.1 (List.mem_map_of_mem hx)
  simpa using this
theorem cellsB {names : List (Str × NameKind)} (h : names.all (fun x => x.2 != .cell) = true) : ∀ x ∈ names, x.2 ≠ .cell := fun x hx => by
  have := List.all_eq_true.mp h x hx
  simpa using this

/-- what is asked of a def's scope -/
def okScope (fd : FuncData) (names : List Str) : Bool := names.all (fun x => fd.scope.names.lookup x == some .local) && fd.scope.names.all (fun x => x.2 != .cell) && !fd.scope.isCoroutine && !fd.scope.isGenerator && fd.scope.kind == .function

/-- the same, what is handed on kept apart -/
theorem Ev.fn {b : Shared} {fa : Addr} {fd : FuncData} {body : List Stmt} {vs : List Value} {kw : List (Str × Value)} {binds : List (Str × Value)} {R : Value → Heap → Prop} (hf : Fn b.heap fa fd) (hlim : b.heap.NoLimit) (hroom : A.depth < recursionLimit) (hbody : fd.body = .stmts body)
    (hbind : ∀ s, Kps b s → BindsTo s fd ⟨vs, kw⟩ binds) (hok : okScope fd (binds.map (·.1)) = true)
    (h : ∀ s L s₁, Kps b s → L = s.heap.objs.size → Kps s s₁ → s₁.heap.Ns L (fun x => binds.reverse.lookup x) →
      wpAny (model prog w) (A.deeper (envF fd L fa)) (execs body (envF fd L fa)) (fun f s' => ∃ v, f = .ret v ∧ Kps s s' ∧ R v s'.heap) (fun _ _ => False) s₁) :
    Ev (model prog w) A b (call (.ref fa) vs kw) R := fun s ks Q E hQ => by
  unfold okScope at hok
  simp only [Bool.and_eq_true, Bool.not_eq_true', beq_iff_eq] at hok
  obtain ⟨⟨⟨⟨h1, h2⟩, h3⟩, h4⟩, h5⟩ := hok
  refine wpAny_call (enter_plain (hf.keeps ks.heap) (hlim.keeps ks.heap) hroom hbody (hbind s ks) (locsB h1) (fun s₁ k₁ hn => ?_) (cellsB h2) h3 h4 h5)
  refine wpAny_mono (h s _ s₁ ks rfl k₁ hn) (fun f s' hx => ?_) fun _ _ x => x
  obtain ⟨v, rfl, k, r⟩ := hx
  exact hQ v s' k r

/-- a method of a built-in type -/
theorem Ev.meth {b : Shared} {env : Env} {o : Expr} {name : Str} {apos pos : Pos} {e1 : Expr} {es : List Expr} {U id : String} {ov : Value} {Rs : List (Value → Heap → Prop)} {R : Value → Heap → Prop}
    (ho : Ev (model prog w) A b (eval o env) (rV ov)) (hp : PlainAttrs U) (hsl : Slot U name id) (hty : typeOf (.builtin id) = pure (.type "method_descriptor"))
    (hT : b.TypeIs ov U) (hdict : ∀ a, ov = .ref a → ∃ ob, b.heap.get? a = some ob ∧ ob.dict = none)
    (ha : Ev (model prog w) A b (spliced ((false, eval e1 env) :: evs es env)) (ListR Rs)) (hc : ∀ vs s, Kps b s → ListR Rs vs s.heap → Ev (model prog w) A s (call (.builtin id) (ov :: vs) []) R)
    (hbase : attributeBase o name env (eval o env) = eval o env := by rfl)
    (hfew : ((backTo pos (starEach (e1 :: es) env)).all (fun x => !x.1) && (backToKw pos (keywordEach [] env)).all (fun x => x.1.isSome) && decide ((e1 :: es).length + ([] : List Keyword).length + (if ([] : List Keyword).isEmpty then 0 else 1) < 30)) = true := by rfl)
    (hline : (apos.endLine == pos.line) = true := by rfl) (hs : backTo pos (starEach (e1 :: es) env) = (false, eval e1 env) :: evs es env := by rfl) (hpl : (((false, eval e1 env) :: evs es env).any (·.1)) = false := by rfl) :
    Ev (model prog w) A b (eval (.Call (.Attribute o name apos) (e1 :: es) [] pos) env) R := fun s ks Q E hQ => by
  refine wpAny_Call_method hbase hfew hline hp hsl hty (ho s ks _ _ fun v s1 k1 r1 => ?_)
  cases (r1 : v = ov)
  have k := ks.trans k1
  refine ⟨?_, fun a e => let ⟨ob, q, r⟩ := hdict a e; ⟨ob, k.heap _ _ q, r⟩, ?_⟩
  · cases ov with
    | ref a => obtain ⟨x, e, r⟩ := hT; exact ⟨x, k.heap _ _ e, r⟩
    | _ => exact hT
  · rw [hs]
    refine callWith_machine hpl rfl (evalArgs_plain (ha s1 k _ _ fun vs s2 k2 r2 => ?_))
    exact hc vs s2 (k.trans k2) r2 s2 (Kps.refl s2) _ _ fun v s' k3 r => hQ v s' ((k1.trans k2).trans k3) r
end
end Mine

end

/- St -/
section
open PySem PySem.Calls PyProof.Rows
namespace Mine
set_option maxRecDepth 100000
set_option linter.unusedVariables false

/-- a thing of the call's own: where it stands, what is so of it -/
structure Ent where
  fp : List Addr
  P : Heap → Prop
  loc : ∀ {h h' : Heap}, (∀ a ∈ fp, ∀ o, h.get? a = some o → h'.get? a = some o) → P h → P h'
  has : ∀ {h : Heap}, P h → ∀ a ∈ fp, ∃ o, h.get? a = some o

def eL (a : Addr) (items : Array Value) : Ent where
  fp := [a]
  P := fun h => h.PlainList a items
  loc := fun k x => x.at fun o e => k a (by simp) o e
  has := fun ⟨n, e⟩ b hb => by simp at hb; subst hb; exact ⟨_, e⟩
def eC (c : Addr) (v : Option Value) : Ent where
  fp := [c]
  P := fun h => h.IsCell c v
  loc := fun k ⟨o, e, r⟩ => ⟨o, k c (by simp) o e, r⟩
  has := fun ⟨o, e, _⟩ b hb => by simp at hb; subst hb; exact ⟨_, e⟩
def eI (I ax : Addr) (i : Nat) : Ent where
  fp := [I]
  P := fun h => h.IsListIter I ax i
  loc := fun k x => x.at fun o e => k I (by simp) o e
  has := fun ⟨o, e, _⟩ b hb => by simp at hb; subst hb; exact ⟨_, e⟩
def eR (I : Addr) (x left step : Int) : Ent where
  fp := [I]
  P := fun h => IsRangeIter h I x left step
  loc := fun k x => k I (by simp) _ x
  has := fun x b hb => by simp at hb; subst hb; exact ⟨_, x⟩
/-- an object, whole -/
def eO (a : Addr) (o : Obj) : Ent where
  fp := [a]
  P := fun h => h.get? a = some o
  loc := fun k e => k a (by simp) _ e
  has := fun e b hb => by simp at hb; subst hb; exact ⟨_, e⟩

def Agree (m : Str → Option Value) (vals : List (Str × Value)) : Prop := ∀ x v, vals.lookup x = some v → m x = some v
theorem Agree.nil {m : Str → Option Value} : Agree m [] := fun x v e => by cases e
theorem Agree.cons {m : Str → Option Value} {vals : List (Str × Value)} {x : Str} {v : Value} (h : m x = some v) (a : Agree m vals) : Agree m ((x, v) :: vals) := fun y u e => by
  rw [List.lookup_cons] at e
  cases hy : y == x with
  | true => rw [hy] at e; cases e; rw [eq_of_beq hy]; exact h
  | false => rw [hy] at e; exact a y u e
theorem Agree.set {m : Str → Option Value} {vals : List (Str × Value)} (a : Agree m vals) (x : Str) (v : Value) : Agree (fun y => if y = x then some v else m y) ((x, v) :: vals) := fun y u e => by
  rw [List.lookup_cons] at e
  cases hy : y == x with
  | true => rw [hy] at e; cases e; rw [eq_of_beq hy]; simp
  | false =>
    rw [hy] at e
    have : ¬ y = x := fun q => by rw [q] at hy; simp at hy
    simp only [this, if_false]
    exact a y u e
theorem Agree.of_eq {m : Str → Option Value} {vals : List (Str × Value)} (h : ∀ x, m x = vals.lookup x) : Agree m vals := fun x v e => (h x).trans e

/-- the state within a call: the frame at L, its names; the call's own things; all else as it was -/
structure St (s₀ : Shared) (X : List Addr) (L : Addr) (vals : List (Str × Value)) (l : List Ent) (s : Shared) : Prop where
  same : ∃ h tk, s = { s₀ with heap := h, toks := tk }
  keep : ∀ b o, b ∉ X → s₀.heap.get? b = some o → s.heap.get? b = some o
  ns : ∃ m, s.heap.Ns L m ∧ Agree m vals
  Lnew : s₀.heap.get? L = none
  LX : L ∉ X
  own : ∀ e ∈ l, e.P s.heap
  nd : l.Pairwise (fun e e' => ∀ a ∈ e.fp, a ∉ e'.fp)
  ndL : ∀ e ∈ l, L ∉ e.fp
  new : ∀ e ∈ l, ∀ a ∈ e.fp, a ∈ X ∨ s₀.heap.get? a = none

section
variable {s₀ s : Shared} {X : List Addr} {L : Addr} {vals : List (Str × Value)} {l : List Ent}

theorem St.kps (S : St s₀ X L vals l s) {s' : Shared} (k : Kps s s') : St s₀ X L vals l s' where
  same := by obtain ⟨h, tk, e⟩ := S.same; obtain ⟨h', tk', e'⟩ := k.same; exact ⟨h', tk', by rw [e', e]⟩
  keep := fun b o hb e => k.heap _ _ (S.keep b o hb e)
  ns := let ⟨m, n, a⟩ := S.ns; ⟨m, n.keeps k.heap, a⟩
  Lnew := S.Lnew
  LX := S.LX
  own := fun e he => e.loc (fun a _ o q => k.heap a o q) (S.own e he)
  nd := S.nd
  ndL := S.ndL
  new := S.new

theorem St.out (S : St s₀ [] L vals l s) : Kps s₀ s := ⟨S.same, fun b o e => S.keep b o (by simp) e⟩

/-- a new thing -/
theorem St.add (S : St s₀ X L vals l s) {s' : Shared} (k : Kps s s') (e : Ent) (hP : e.P s'.heap) (hnew : ∀ a ∈ e.fp, s.heap.get? a = none) : St s₀ X L vals (e :: l) s' := by
  have S' := S.kps k
  refine { S' with own := ?_, nd := ?_, ndL := ?_, new := ?_ }
  · intro e' he'
    rcases List.mem_cons.mp he' with rfl | he'
    · exact hP
    · exact S'.own e' he'
  · refine List.pairwise_cons.mpr ⟨fun e' he' a ha ha' => ?_, S.nd⟩
    obtain ⟨o, q⟩ := e'.has (S.own e' he') a ha'
    rw [hnew a ha] at q; cases q
  · intro e' he'
    rcases List.mem_cons.mp he' with rfl | he'
    · intro hL
      obtain ⟨m, ⟨o, _, _, q, _⟩, _⟩ := S.ns
      rw [hnew L hL] at q; cases q
    · exact S.ndL e' he'
  · intro e' he' a ha
    rcases List.mem_cons.mp he' with rfl | he'
    · by_cases hX : a ∈ X
      · exact .inl hX
      · right
        cases q : s₀.heap.get? a with
        | none => rfl
        | some o => have := S.keep a o hX q; rw [hnew a ha] at this; cases this
    · exact S.new e' he' a ha

/-- the frame's map changes -/
theorem St.frame (S : St s₀ X L vals l s) {h' : Heap} {tk : Nat} {m' : Str → Option Value} {vals' : List (Str × Value)} (hn : h'.Ns L m') (hs : Heap.ExtBut L s.heap h') (ha : Agree m' vals') : St s₀ X L vals' l { s with heap := h', toks := tk } where
  same := by obtain ⟨h, tk, e⟩ := S.same; exact ⟨h', _, by rw [e]⟩
  keep := fun b o hb e => hs b o (fun q => by rw [q, S.Lnew] at e; cases e) (S.keep b o hb e)
  ns := ⟨m', hn, ha⟩
  Lnew := S.Lnew
  LX := S.LX
  own := fun e he => e.loc (fun a ha o q => hs a o (fun p => S.ndL e he (p ▸ ha)) q) (S.own e he)
  nd := S.nd
  ndL := S.ndL
  new := S.new

/-- the names known may be forgotten, told in another order -/
theorem St.renam (S : St s₀ X L vals l s) {vals' : List (Str × Value)} (h : ∀ m, Agree m vals → Agree m vals') : St s₀ X L vals' l s := { S with ns := let ⟨m, n, a⟩ := S.ns; ⟨m, n, h m a⟩ }

/-- one thing changes -/
theorem St.upd (S : St s₀ X L vals l s) {pre post : List Ent} {e e' : Ent} (hl : l = pre ++ e :: post) {h' : Heap} {tk : Nat} (hs : ∀ b o, b ∉ e.fp → s.heap.get? b = some o → h'.get? b = some o) (hfp : e'.fp = e.fp) (hP : e'.P h') :
    St s₀ X L vals (pre ++ e' :: post) { s with heap := h', toks := tk } := by
  subst hl
  have hm : e ∈ pre ++ e :: post := List.mem_append_right _ (.head _)
  have old : ∀ x, x ∈ pre ++ e' :: post → x = e' ∨ (x ∈ pre ++ e :: post ∧ (∀ a ∈ x.fp, a ∉ e.fp)) := by
    intro x hx
    have hnd := List.pairwise_append.mp S.nd
    rcases List.mem_append.mp hx with hx | hx
    · exact .inr ⟨List.mem_append_left _ hx, hnd.2.2 x hx e (.head _)⟩
    · rcases List.mem_cons.mp hx with rfl | hx
      · exact .inl rfl
      · exact .inr ⟨List.mem_append_right _ (.tail _ hx), fun a ha ha' => (List.pairwise_cons.mp hnd.2.1).1 x hx a ha' ha⟩
  refine { same := ?_, keep := ?_, ns := ?_, Lnew := S.Lnew, LX := S.LX, own := ?_, nd := ?_, ndL := ?_, new := ?_ }
  · obtain ⟨h, tk, e⟩ := S.same; exact ⟨h', _, by rw [e]⟩
  · intro b o hb q
    refine hs b o (fun hbe => ?_) (S.keep b o hb q)
    rcases S.new e hm b hbe with h1 | h1
    · exact hb h1
    · rw [h1] at q; cases q
  · obtain ⟨m, n, a⟩ := S.ns
    exact ⟨m, n.at' fun o q => hs L o (S.ndL e hm) q, a⟩
  · intro x hx
    rcases old x hx with rfl | ⟨hx, ha⟩
    · exact hP
    · exact x.loc (fun a q o r => hs a o (ha a q) r) (S.own x hx)
  · have hnd := List.pairwise_append.mp S.nd
    have h2 := List.pairwise_cons.mp hnd.2.1
    refine List.pairwise_append.mpr ⟨hnd.1, List.pairwise_cons.mpr ⟨fun x hx => by rw [hfp]; exact h2.1 x hx, h2.2⟩, fun x hx y hy => ?_⟩
    rcases List.mem_cons.mp hy with rfl | hy
    · rw [hfp]; exact hnd.2.2 x hx e (.head _)
    · exact hnd.2.2 x hx y (.tail _ hy)
  · intro x hx
    rcases old x hx with rfl | ⟨hx, _⟩
    · rw [hfp]; exact S.ndL e hm
    · exact S.ndL x hx
  · intro x hx
    rcases old x hx with rfl | ⟨hx, _⟩
    · rw [hfp]; exact S.new e hm
    · exact S.new x hx

theorem St.upd0 {e e' : Ent} (S : St s₀ X L vals (e :: l) s) {h' : Heap} {tk : Nat} (hs : ∀ b o, b ∉ e.fp → s.heap.get? b = some o → h'.get? b = some o) (hfp : e'.fp = e.fp) (hP : e'.P h') : St s₀ X L vals (e' :: l) { s with heap := h', toks := tk } :=
  S.upd (pre := []) rfl hs hfp hP
theorem St.upd1 {d e e' : Ent} (S : St s₀ X L vals (d :: e :: l) s) {h' : Heap} {tk : Nat} (hs : ∀ b o, b ∉ e.fp → s.heap.get? b = some o → h'.get? b = some o) (hfp : e'.fp = e.fp) (hP : e'.P h') : St s₀ X L vals (d :: e' :: l) { s with heap := h', toks := tk } :=
  S.upd (pre := [d]) rfl hs hfp hP
theorem St.upd2 {c d e e' : Ent} (S : St s₀ X L vals (c :: d :: e :: l) s) {h' : Heap} {tk : Nat} (hs : ∀ b o, b ∉ e.fp → s.heap.get? b = some o → h'.get? b = some o) (hfp : e'.fp = e.fp) (hP : e'.P h') : St s₀ X L vals (c :: d :: e' :: l) { s with heap := h', toks := tk } :=
  S.upd (pre := [c, d]) rfl hs hfp hP
theorem St.upd3 {a c d e e' : Ent} (S : St s₀ X L vals (a :: c :: d :: e :: l) s) {h' : Heap} {tk : Nat} (hs : ∀ b o, b ∉ e.fp → s.heap.get? b = some o → h'.get? b = some o) (hfp : e'.fp = e.fp) (hP : e'.P h') : St s₀ X L vals (a :: c :: d :: e' :: l) { s with heap := h', toks := tk } :=
  S.upd (pre := [a, c, d]) rfl hs hfp hP
theorem St.upd4 {z a c d e e' : Ent} (S : St s₀ X L vals (z :: a :: c :: d :: e :: l) s) {h' : Heap} {tk : Nat} (hs : ∀ b o, b ∉ e.fp → s.heap.get? b = some o → h'.get? b = some o) (hfp : e'.fp = e.fp) (hP : e'.P h') : St s₀ X L vals (z :: a :: c :: d :: e' :: l) { s with heap := h', toks := tk } :=
  S.upd (pre := [z, a, c, d]) rfl hs hfp hP

/-- things may be forgotten, told in another order -/
theorem St.perm {l' : List Ent} (S : St s₀ X L vals l s) (h : l.Perm l') : St s₀ X L vals l' s where
  same := S.same
  keep := S.keep
  ns := S.ns
  Lnew := S.Lnew
  LX := S.LX
  own := fun e he => S.own e (h.mem_iff.mpr he)
  nd := (h.pairwise_iff (fun {x y} q a ha ha' => q a ha' ha)).mp S.nd
  ndL := fun e he => S.ndL e (h.mem_iff.mpr he)
  new := fun e he => S.new e (h.mem_iff.mpr he)
theorem St.sub {l' : List Ent} (S : St s₀ X L vals l s) (h : l'.Sublist l) : St s₀ X L vals l' s where
  same := S.same
  keep := S.keep
  ns := S.ns
  Lnew := S.Lnew
  LX := S.LX
  own := fun e he => S.own e (h.subset he)
  nd := S.nd.sublist h
  ndL := fun e he => S.ndL e (h.subset he)
  new := fun e he => S.new e (h.subset he)
theorem St.drop0 {e : Ent} (S : St s₀ X L vals (e :: l) s) : St s₀ X L vals l s := S.sub (List.sublist_cons_self _ _)
theorem St.drop1 {d e : Ent} (S : St s₀ X L vals (d :: e :: l) s) : St s₀ X L vals (d :: l) s := S.sub ((List.sublist_cons_self _ _).cons_cons _)
theorem St.drop2 {c d e : Ent} (S : St s₀ X L vals (c :: d :: e :: l) s) : St s₀ X L vals (c :: d :: l) s := S.sub (((List.sublist_cons_self _ _).cons_cons _).cons_cons _)

theorem St.at0 {e : Ent} (S : St s₀ X L vals (e :: l) s) : e.P s.heap := S.own _ (.head _)
theorem St.at1 {d e : Ent} (S : St s₀ X L vals (d :: e :: l) s) : e.P s.heap := S.own _ (.tail _ (.head _))
theorem St.at2 {c d e : Ent} (S : St s₀ X L vals (c :: d :: e :: l) s) : e.P s.heap := S.own _ (.tail _ (.tail _ (.head _)))
theorem St.at3 {a c d e : Ent} (S : St s₀ X L vals (a :: c :: d :: e :: l) s) : e.P s.heap := S.own _ (.tail _ (.tail _ (.tail _ (.head _))))
theorem St.at4 {z a c d e : Ent} (S : St s₀ X L vals (z :: a :: c :: d :: e :: l) s) : e.P s.heap := S.own _ (.tail _ (.tail _ (.tail _ (.tail _ (.head _)))))
end

section
variable {M : Model} {A : Around} {env : Env} {s₀ s : Shared} {X : List Addr} {L : Addr} {vals : List (Str × Value)} {l : List Ent} {E : Value → Shared → Prop}

/-- a name of the frame -/
theorem St.v (S : St s₀ X L vals l s) {x : Str} {pos : Pos} {v : Value} (hv : vals.lookup x = some v) (hL : env.locals = L := by rfl) (hk : env.scope.kind = .function := by rfl) (hl : env.kindOf x = some .local := by rfl)
    (hd : (x == ("__debug__" : Str)) = false := by decide +kernel) : Ev M A s (eval (.Name x pos) env) (rV v) := by
  obtain ⟨m, n, a⟩ := S.ns
  exact Ev.loc (by rw [hL]; exact n) (a x v hv) hk hl hd

theorem St.store (S : St s₀ X L vals l s) {x : Str} {v : Value} {Q : Unit → Shared → Prop} (hQ : ∀ s', St s₀ X L ((x, v) :: vals) l s' → Heap.SameBut L s.heap s'.heap → Q () s') (hL : env.locals = L := by rfl) (hl : env.kindOf x = some .local := by rfl)
    (hp : (env.scope.kind == .class || (env.scope.kind == .module && env.locals != env.globals)) = false := by rfl) : wpAny M A (storeName env x v) Q E s := by
  obtain ⟨m, n, a⟩ := S.ns
  refine wpAny_storeName_local hl (by rw [hL]; exact n) (fun h' hn hs => ?_) hp
  rw [hL] at hn hs
  exact hQ _ (S.frame hn hs.extBut (a.set x v)) hs

/-- x = e, x a plain local, e no comprehension -/
theorem St.assign (S : St s₀ X L vals l s) {x : Str} {pos' pos : Pos} {e : Expr} {R : Value → Heap → Prop} {Q : Flow → Shared → Prop} (he : Ev M A s (eval e env) R)
    (hQ : ∀ v s1 s', Kps s s1 → R v s1.heap → Heap.SameBut L s1.heap s'.heap → St s₀ X L ((x, v) :: vals) l s' → Q .next s')
    (hsw : swapsWith e (some (.Name x pos')) pos.line env = pure false := by rfl) (hL : env.locals = L := by rfl) (hl : env.kindOf x = some .local := by rfl)
    (hp : (env.scope.kind == .class || (env.scope.kind == .module && env.locals != env.globals)) = false := by rfl) : wpAny M A (exec (.Assign [.Name x pos'] e pos) env) Q E s :=
  wpAny_Assign_Name (he.go fun v s1 k1 r1 => (S.kps k1).store (fun s' S' sb => hQ v s1 s' k1 r1 sb S') hL hl hp) hsw
end
end Mine

end

/- Bis -/
section
open PySem PySem.Calls PyProof.Rows
namespace Mine
set_option maxRecDepth 100000
set_option linter.unusedVariables false

theorem short_div (i j : Int) (h : j.natAbs.log2 < 8000) : Builtin.divisionGoesByPylong i j = false := by
  unfold Builtin.divisionGoesByPylong
  dsimp only
  have : ¬ ((if j == 0 then 0 else j.natAbs.log2 / 30 + 1) > 300) := by split <;> omega
  rw [decide_eq_false this]; rfl

theorem Agree.get {m : Str → Option Value} {vals : List (Str × Value)} (a : Agree m vals) {x : Str} {v : Value} (h : vals.lookup x = some v) : m x = some v := a x v h

section
variable {prog : Program} {w : World} {A : Around} {s₀ s : Shared} {X : List Addr} {L : Addr} {env : Env} {l : List Ent}

/-- the halving: lo, hi close in on r -/
theorem bis_while {base : List (Str × Value)} {step : Stmt} {p1 p2 p3 p4 p5 p6 p7 p8 p9 p10 : Pos} {p11 : Pos} {k : Nat} {p : Nat → Bool} {lo hi r : Nat} {tl th : Tok} {E : Value → Shared → Prop} {Q : Flow → Shared → Prop}
    (S : St s₀ X L (("lo", .int lo tl) :: ("hi", .int hi th) :: base) l s) (h1 : lo ≤ r) (h2 : r ≤ hi) (hlo : ∀ i, lo ≤ i → i < r → p i = false) (hup : ∀ i, r ≤ i → i < hi → p i = true)
    (hstep : ∀ (lo' hi' mid : Nat) (tl th tm : Tok) (s : Shared), lo ≤ mid → mid < hi → St s₀ X L (("mid", .int mid tm) :: ("lo", .int lo' tl) :: ("hi", .int hi' th) :: base) l s → ∀ (Q : Flow → Shared → Prop) (E : Value → Shared → Prop),
      (p mid = true → ∀ s' t, St s₀ X L (("lo", .int lo' tl) :: ("hi", .int mid t) :: base) l s' → Q .next s') →
      (p mid = false → ∀ s' t, St s₀ X L (("lo", .int (mid + 1 : Nat) t) :: ("hi", .int hi' th) :: base) l s' → Q .next s') → wpAny (model prog w) A (exec step env) Q E s)
    (hQ : ∀ s' t th (hi' : Nat), St s₀ X L (("lo", .int r t) :: ("hi", .int hi' th) :: base) l s' → Q .next s')
    (hL : env.locals = L) (hk : env.scope.kind = .function) (kl : env.kindOf "lo" = some .local) (kh : env.kindOf "hi" = some .local) (km : env.kindOf "mid" = some .local)
    (hp : (env.scope.kind == .class || (env.scope.kind == .module && env.locals != env.globals)) = false) :
    wpAny (model prog w) A (exec (.While (.Compare (.Name "lo" p1) [.Lt] [.Name "hi" p2] p3) [.Assign [.Name "mid" p4] (.BinOp (.BinOp (.Name "lo" p5) .Add (.Name "hi" p6) p7) .FloorDiv (.Constant (.int 2) k p8) p9) p10, step] [] p11) env) Q E s := by
  refine wpAny_While (codeAny_whileLoop (fun n s' => ∃ (lo' hi' : Nat) (tl th : Tok), St s₀ X L (("lo", .int lo' tl) :: ("hi", .int hi' th) :: base) l s' ∧ lo ≤ lo' ∧ lo' ≤ r ∧ r ≤ hi' ∧ hi' ≤ hi ∧ n = hi' - lo') ?_ (hi - lo) ⟨lo, hi, tl, th, S, Nat.le_refl _, h1, h2, Nat.le_refl _, rfl⟩)
  rintro n s' ⟨lo', hi', tl, th, S', a1, a2, a3, a4, rfl⟩
  refine (Ev.tLt (i := lo') (j := hi') (Ev.asI (S'.v (by rfl) hL hk kl)) (Ev.asI (S'.v (by rfl) hL hk kh))).go fun c s1 k1 hc => ?_
  have S1 := S'.kps k1
  cases (hc : c = _)
  by_cases hlt : lo' < hi'
  · rw [if_pos (by simpa using hlt)]
    refine wpAny_execs_cons (S1.assign (R := rI (((lo' : Int) + hi').fdiv 2)) (Ev.fdiv (j := 2) (Ev.add (i := lo') (j := hi') (Ev.asI (S1.v (by rfl) hL hk kl)) (Ev.asI (S1.v (by rfl) hL hk kh))) Ev.kI (by decide) (short_div _ _ (by decide +kernel))) (fun v s2 s3 k2 hv sb S3 => ?_) (by rfl) hL km hp)
    obtain ⟨tm, rfl⟩ := hv
    have em : ((lo' : Int) + hi').fdiv 2 = (((lo' + hi') / 2 : Nat) : Int) := by
      rw [Int.fdiv_eq_ediv_of_nonneg _ (by decide)]; omega
    rw [em] at S3
    have b1 : lo' ≤ (lo' + hi') / 2 := by omega
    have b2 : (lo' + hi') / 2 < hi' := by omega
    generalize (lo' + hi') / 2 = mid at S3 b1 b2
    dsimp only
    refine wpAny_execs_cons (hstep lo' hi' mid tl th tm s3 (by omega) (by omega) S3 _ _ (fun hp s4 t S4 => ?_) (fun hp s4 t S4 => ?_))
    · refine wpAny_execs_nil ⟨mid - lo', by omega, lo', mid, tl, t, S4, a1, a2, ?_, by omega, rfl⟩
      refine Nat.le_of_not_lt fun q => ?_
      rw [hlo mid (by omega) q] at hp; cases hp
    · refine wpAny_execs_nil ⟨hi' - (mid + 1), by omega, mid + 1, hi', t, th, S4, by omega, ?_, a3, a4, rfl⟩
      refine Nat.lt_of_not_le fun q => ?_
      rw [hup mid q (by omega)] at hp; cases hp
  · rw [if_neg (by simpa using hlt)]
    have : lo' = r := by omega
    subst this
    exact wpAny_execs_nil (hQ s1 tl th hi' S1)
end
end Mine

end

/- Loop -/
section
open PySem PySem.Calls PyProof.Rows
namespace Mine
set_option maxRecDepth 100000
set_option linter.unusedVariables false

def eS (I : Addr) (ty : String) (x : Str) (t : Tok) (i : Nat) : Ent where
  fp := [I]
  P := fun h => h.IsStrIter I ty x t i
  loc := fun k ⟨o, e, r⟩ => ⟨o, k I (by simp) o e, r⟩
  has := fun ⟨o, e, _⟩ b hb => by simp at hb; subst hb; exact ⟨_, e⟩

/-- an iterator, item by item -/
structure Itr (prog : Program) (w : World) (A : Around) (ia : Addr) (n : Nat) (P : Nat → Value → Prop) (C : Heap → Prop) (e : Nat → Ent) : Prop where
  fp : ∀ i, (e i).fp = [ia]
  item : ∀ i (s : Shared) (Q : Option Value → Shared → Prop) (E : Value → Shared → Prop), i < n → (e i).P s.heap → C s.heap →
    (∀ v h' tk, P i v → (e (i + 1)).P h' → (∀ b o, b ≠ ia → s.heap.get? b = some o → h'.get? b = some o) → Q (some v) { s with heap := h', toks := tk }) → wpAny (model prog w) A (pyNext (.ref ia)) Q E s
  done : ∀ (s : Shared) (Q : Option Value → Shared → Prop) (E : Value → Shared → Prop), (e n).P s.heap → C s.heap →
    (∀ h' tk, (∀ b o, b ≠ ia → s.heap.get? b = some o → h'.get? b = some o) → Q none { s with heap := h', toks := tk }) → wpAny (model prog w) A (pyNext (.ref ia)) Q E s

section
variable {prog : Program} {w : World} {A : Around}

theorem Itr.list (hh : A.handled = none) (ia ax : Addr) (items : Array Value) : Itr prog w A ia items.size (fun i v => items[i]? = some v) (fun h => h.IsList ax items) (fun i => eI ia ax i) where
  fp := fun _ => rfl
  item := fun i s Q E hi he hc hQ => wpAny_pyNext_list_item (x := items[i]) he hc (by simp [hi]) fun h' hit' hs' => hQ _ h' s.toks (by simp [hi]) hit' fun b o hb e => hs'.extBut b o hb e
  done := fun s Q E he hc hQ => wpAny_pyNext_list_end hh he hc (by simp) fun h' he' => hQ h' s.toks fun b o hb e => he' b o hb e
theorem Itr.range (hh : A.handled = none) (ia : Addr) (a c : Int) (n : Nat) : Itr prog w A ia n (fun i v => ∃ t, v = .int (a + i * c) t) (fun _ => True) (fun i => eR ia (a + i * c) (n - i) c) where
  fp := fun _ => rfl
  item := fun i s Q E hi he hc hQ => wpAny_pyNext_range_item he (by omega) fun h' hit' hs' => hQ _ h' _ ⟨_, rfl⟩ (by
    show IsRangeIter _ _ _ _ _
    have e1 : a + ((i + 1 : Nat) : Int) * c = a + (i : Int) * c + c := by rw [Int.natCast_succ, Int.add_mul]; omega
    have e2 : ((n : Int) - ((i + 1 : Nat) : Int)) = (n : Int) - i - 1 := by omega
    rw [e1, e2]; exact hit') fun b o hb e => hs'.extBut b o hb e
  done := fun s Q E he hc hQ => wpAny_pyNext_range_end hh he (by omega) fun h' he' => hQ h' s.toks fun b o hb e => he' b o hb e
theorem Itr.ascii (hh : A.handled = none) (ia : Addr) (x : Str) (t : Tok) : Itr prog w A ia x.cps.size (fun i v => ∃ c u, x.cps[i]? = some c ∧ v = .str ⟨#[c]⟩ u) (fun _ => True) (fun i => eS ia "str_ascii_iterator" x t i) where
  fp := fun _ => rfl
  item := fun i s Q E hi he hc hQ => wpAny_pyNext_ascii_item (c := x.cps[i]) he (by simp [hi]) fun h' hit' hs' => hQ _ h' _ ⟨_, _, by simp [hi], rfl⟩ hit' fun b o hb e => hs'.extBut b o hb e
  done := fun s Q E he hc hQ => wpAny_pyNext_ascii_end hh he (by simp) fun h' he' => hQ h' s.toks fun b o hb e => he' b o hb e
theorem Itr.wide (hh : A.handled = none) (ia : Addr) (x : Str) (t : Tok) : Itr prog w A ia x.cps.size (fun i v => ∃ c u, x.cps[i]? = some c ∧ v = .str ⟨#[c]⟩ u) (fun _ => True) (fun i => eS ia "str_iterator" x t i) where
  fp := fun _ => rfl
  item := fun i s Q E hi he hc hQ => wpAny_pyNext_wide_item (c := x.cps[i]) he (by simp [hi]) fun h' hit' hs' => hQ _ h' _ ⟨_, _, by simp [hi], rfl⟩ hit' fun b o hb e => hs'.extBut b o hb e
  done := fun s Q E he hc hQ => wpAny_pyNext_wide_end hh he (by simp) fun h' he' => hQ h' s.toks fun b o hb e => he' b o hb e
end

section
variable {prog : Program} {w : World} {A : Around} {env : Env} {s₀ s : Shared} {X : List Addr} {L : Addr} {vals : List (Str × Value)} {l : List Ent}

theorem for_loop {ia : Addr} {n : Nat} {P : Nat → Value → Prop} {C : Heap → Prop} {e : Nat → Ent} {target : Expr} {body : List Stmt} {R : Result → Shared → Prop} (J : Nat → List (Str × Value) → List Ent → Prop)
    (I : Itr prog w A ia n P C e) (hC : ∀ i vals l s, i ≤ n → J i vals l → St s₀ X L vals (e i :: l) s → C s.heap)
    (turn : ∀ i vals l s v, i < n → J i vals l → P i v → St s₀ X L vals (e (i + 1) :: l) s → ∀ (Q : Flow → Shared → Prop) (E : Value → Shared → Prop), (∀ vals' l' s', J (i + 1) vals' l' → St s₀ X L vals' (e (i + 1) :: l') s' → Q .next s') →
      wpAny (model prog w) A (PySem.assign target env v) (fun _ s₂ => wpAny (model prog w) A (execs body env) Q E s₂) E s)
    (S : St s₀ X L vals (e 0 :: l) s) (h0 : J 0 vals l) (hR : ∀ vals l s, J n vals l → St s₀ X L vals l s → R (.ok .next) s)
    (ht : ∀ v, letOwnedTupleGo target (.ref ia) v = pure ()) : codeAny (model prog w) A (.forLoop target (.ref ia) body [] env) R s := by
  refine codeAny_forLoop (fun k s' => ∃ i vals l, J i vals l ∧ St s₀ X L vals (e i :: l) s' ∧ i ≤ n ∧ k = n - i) ?_ n ⟨0, vals, l, h0, S, Nat.zero_le _, rfl⟩ ht
  rintro k s' ⟨i, vals, l, hJ, S', hi, rfl⟩
  by_cases hlt : i < n
  · refine I.item i s' _ _ hlt S'.at0 (hC i vals l s' hi hJ S') fun v h' tk hv he hk => ?_
    have S2 : St s₀ X L vals (e (i + 1) :: l) { s' with heap := h', toks := tk } := S'.upd0 (by rw [I.fp]; exact fun b o hb q => hk b o (by simpa using hb) q) (by rw [I.fp, I.fp]) he
    exact turn i vals l _ v hlt hJ hv S2 _ _ fun vals' l' s3 hJ' S3 => ⟨n - (i + 1), by omega, i + 1, vals', l', hJ', S3, hlt, rfl⟩
  · have : i = n := by omega
    subst this
    refine I.done s' _ _ S'.at0 (hC i vals l s' hi hJ S') fun h' tk hk => wpAny_execs_nil ?_
    have hfp : ia ∈ (e i).fp := by rw [I.fp]; simp
    have nw := S'.new _ (.head _) ia hfp
    have S0 := S'.drop0
    refine hR vals l _ hJ { same := ?_, keep := ?_, ns := ?_, Lnew := S'.Lnew, LX := S'.LX, own := ?_, nd := S0.nd, ndL := S0.ndL, new := S0.new }
    · obtain ⟨h, tk, q⟩ := S'.same; exact ⟨h', _, by rw [q]⟩
    · intro b o hb q
      refine hk b o (fun p => ?_) (S'.keep b o hb q)
      subst p
      rcases nw with h1 | h1
      · exact hb h1
      · rw [h1] at q; cases q
    · obtain ⟨m, nn, a⟩ := S'.ns
      exact ⟨m, nn.at' fun o q => hk L o (fun p => S'.ndL _ (.head _) (p ▸ hfp)) q, a⟩
    · intro x hx
      exact x.loc (fun a ha o q => hk a o (fun p => (List.pairwise_cons.mp S'.nd).1 x hx ia hfp (p ▸ ha)) q) (S0.own x hx)

/-- a made range -/
abbrev rRange (a b c : Int) (v : Value) (h : Heap) : Prop := ∃ r t u x, v = .ref r ∧ IsRange h r a b c t u x

theorem fresh_size {s s' : Shared} (k : Kps s s') : s.heap.get? s'.heap.objs.size = none := by
  cases q : s.heap.get? s'.heap.objs.size with
  | none => rfl
  | some o => exact absurd (Heap.lt_size (k.heap _ _ q)) (Nat.lt_irrefl _)

theorem St.forRange {a b c : Int} {n : Nat} {target iter : Expr} {body : List Stmt} {pos : Pos} {E : Value → Shared → Prop} {Q : Flow → Shared → Prop} (J : Nat → List (Str × Value) → List Ent → Prop) (hh : A.handled = none)
    (S : St s₀ X L vals l s) (hit : Ev (model prog w) A s (eval iter env) (rRange a b c)) (hsm : Builtin.Range.small a b c = true) (hn : Builtin.Range.rangeSize a b c = n) (h0 : J 0 vals l)
    (turn : ∀ i vals l e s t, i < n → J i vals l → St s₀ X L vals (e :: l) s → ∀ (Q : Flow → Shared → Prop) (E : Value → Shared → Prop), (∀ vals' l' s', J (i + 1) vals' l' → St s₀ X L vals' (e :: l') s' → Q .next s') →
      wpAny (model prog w) A (PySem.assign target env (.int (a + i * c) t)) (fun _ s₂ => wpAny (model prog w) A (execs body env) Q E s₂) E s)
    (hQ : ∀ vals l s, J n vals l → St s₀ X L vals l s → Q .next s) (hs : ∀ x, foldedSetIterable iter env x = pure x := by intro _; rfl) (ht : ∀ ia v, letOwnedTupleGo target (.ref ia) v = pure () := by intro _ _; rfl) :
    wpAny (model prog w) A (exec (.For target iter body [] pos) env) Q E s := by
  refine wpAny_For (hit.go fun v s1 k1 hv => ?_) hs
  obtain ⟨r, t, u, x, rfl, hr⟩ := hv
  refine wpAny_pyIter_range hr hsm ?_
  have S1 := S.kps k1
  have S2 : St s₀ X L vals (eR s1.heap.objs.size (a + (0 : Nat) * c) (n - (0 : Nat)) c :: l) _ := S1.add (Kps.push s1 { cls := .type "range_iterator", data := .fields #[rawInt a, rawInt (Builtin.Range.rangeSize a b c), rawInt c] } s1.toks) _ (by
    show IsRangeIter _ _ _ _ _
    rw [hn]
    have e1 : a + ((0 : Nat) : Int) * c = a := by simp
    have e2 : ((n : Int) - ((0 : Nat) : Int)) = n := by simp
    rw [e1, e2]
    exact Heap.get?_push_size _ rfl) (by intro a ha; simp [eR] at ha; subst ha; exact fresh_size (Kps.refl s1))
  exact for_loop J (Itr.range hh s1.heap.objs.size a c n) (fun _ _ _ _ _ _ _ => trivial) (fun i vals l s v hi hJ ⟨t, hv⟩ S' Q E hq => by subst hv; exact turn i vals l _ s t hi hJ S' Q E hq) S2 h0 hQ (ht _)

theorem St.forStr {x : Str} {target iter : Expr} {body : List Stmt} {pos : Pos} {E : Value → Shared → Prop} {Q : Flow → Shared → Prop} (J : Nat → List (Str × Value) → List Ent → Prop) (hh : A.handled = none)
    (S : St s₀ X L vals l s) (hit : Ev (model prog w) A s (eval iter env) (rS x)) (h0 : J 0 vals l)
    (turn : ∀ i c vals l e s t, x.cps[i]? = some c → J i vals l → St s₀ X L vals (e :: l) s → ∀ (Q : Flow → Shared → Prop) (E : Value → Shared → Prop), (∀ vals' l' s', J (i + 1) vals' l' → St s₀ X L vals' (e :: l') s' → Q .next s') →
      wpAny (model prog w) A (PySem.assign target env (.str ⟨#[c]⟩ t)) (fun _ s₂ => wpAny (model prog w) A (execs body env) Q E s₂) E s)
    (hQ : ∀ vals l s, J x.cps.size vals l → St s₀ X L vals l s → Q .next s) (hs : ∀ x, foldedSetIterable iter env x = pure x := by intro _; rfl) (ht : ∀ ia v, letOwnedTupleGo target (.ref ia) v = pure () := by intro _ _; rfl) :
    wpAny (model prog w) A (exec (.For target iter body [] pos) env) Q E s := by
  refine wpAny_For (hit.go fun v s1 k1 hv => ?_) hs
  obtain ⟨t, rfl⟩ := hv
  have S1 := S.kps k1
  cases ha : x.cps.all (· < 128) with
  | true =>
    refine wpAny_pyIter_ascii ha ?_
    have S2 : St s₀ X L vals (eS s1.heap.objs.size "str_ascii_iterator" x t 0 :: l) _ := S1.add (Kps.push s1 { cls := .type "str_ascii_iterator", data := .fields #[.str x t, .int 0 0] } s1.toks) _ (by
      exact ⟨_, Heap.get?_push_size _ rfl, rfl, rfl⟩) (by intro a ha; simp [eS] at ha; subst ha; exact fresh_size (Kps.refl s1))
    exact for_loop J (Itr.ascii hh s1.heap.objs.size x t) (fun _ _ _ _ _ _ _ => trivial) (fun i vals l s v hi hJ ⟨c, u, hc, hv⟩ S' Q E hq => by subst hv; exact turn i c vals l _ s u hc hJ S' Q E hq) S2 h0 hQ (ht _)
  | false =>
    refine wpAny_pyIter_wide ha ?_
    have S2 : St s₀ X L vals (eS s1.heap.objs.size "str_iterator" x t 0 :: l) _ := S1.add (Kps.push s1 { cls := .type "str_iterator", data := .fields #[.str x t, .int 0 0] } s1.toks) _ (by
      exact ⟨_, Heap.get?_push_size _ rfl, rfl, rfl⟩) (by intro a ha; simp [eS] at ha; subst ha; exact fresh_size (Kps.refl s1))
    exact for_loop J (Itr.wide hh s1.heap.objs.size x t) (fun _ _ _ _ _ _ _ => trivial) (fun i vals l s v hi hJ ⟨c, u, hc, hv⟩ S' Q E hq => by subst hv; exact turn i c vals l _ s u hc hJ S' Q E hq) S2 h0 hQ (ht _)

theorem St.forList {ax : Addr} {items : Array Value} {target iter : Expr} {body : List Stmt} {pos : Pos} {E : Value → Shared → Prop} {Q : Flow → Shared → Prop} (J : Nat → List (Str × Value) → List Ent → Prop) (hh : A.handled = none)
    (S : St s₀ X L vals l s) (hit : Ev (model prog w) A s (eval iter env) (rV (.ref ax))) (h0 : J 0 vals l) (hC : ∀ i vals l e s, J i vals l → St s₀ X L vals (e :: l) s → s.heap.IsList ax items) (hl : s.heap.IsList ax items)
    (turn : ∀ i v vals l e s, items[i]? = some v → J i vals l → St s₀ X L vals (e :: l) s → ∀ (Q : Flow → Shared → Prop) (E : Value → Shared → Prop), (∀ vals' l' s', J (i + 1) vals' l' → St s₀ X L vals' (e :: l') s' → Q .next s') →
      wpAny (model prog w) A (PySem.assign target env v) (fun _ s₂ => wpAny (model prog w) A (execs body env) Q E s₂) E s)
    (hQ : ∀ vals l s, J items.size vals l → St s₀ X L vals l s → Q .next s) (hs : ∀ x, foldedSetIterable iter env x = pure x := by intro _; rfl) (ht : ∀ ia v, letOwnedTupleGo target (.ref ia) v = pure () := by intro _ _; rfl) :
    wpAny (model prog w) A (exec (.For target iter body [] pos) env) Q E s := by
  refine wpAny_For (hit.go fun v s1 k1 hv => ?_) hs
  cases (hv : v = _)
  refine wpAny_pyIter_list (hl.at fun o e => k1.heap _ o e) ?_
  have S1 := S.kps k1
  have S2 : St s₀ X L vals (eI s1.heap.objs.size ax 0 :: l) _ := S1.add (Kps.push s1 { cls := .type "list_iterator", data := .fields #[.ref ax, .int 0 0] } s1.toks) _ (by
    exact ⟨_, Heap.get?_push_size _ rfl, rfl, rfl⟩) (by intro a ha; simp [eI] at ha; subst ha; exact fresh_size (Kps.refl s1))
  exact for_loop J (Itr.list hh s1.heap.objs.size ax items) (fun i vals l s _ hJ S' => hC i vals l _ s hJ S') (fun i vals l s v hi hJ hv S' Q E hq => turn i v vals l _ s hv hJ S' Q E hq) S2 h0 hQ (ht _)
end
end Mine

end

/- Ru -/
section
open PySem PySem.Calls PyProof.Rows
namespace Mine
set_option maxRecDepth 100000
set_option linter.unusedVariables false

abbrev VL := List (Str × Value)

/-- a list of the tree's own making -/
abbrev rNew (b : Shared) (P : Array Value → Prop) (v : Value) (h : Heap) : Prop := ∃ a items, v = .ref a ∧ b.heap.get? a = none ∧ h.PlainList a items ∧ P items
theorem monoNew {b : Shared} {P : Array Value → Prop} : ∀ v h h', Kp h h' → rNew b P v h → rNew b P v h' := fun v h h' k ⟨a, its, e, n, p, q⟩ => ⟨a, its, e, n, p.at fun o e => k _ o e, q⟩
/-- a list that stands -/
abbrev rList (P : Array Value → Prop) (v : Value) (h : Heap) : Prop := ∃ a items, v = .ref a ∧ h.IsList a items ∧ P items
theorem monoList {P : Array Value → Prop} : ∀ v h h', Kp h h' → rList P v h → rList P v h' := fun v h h' k ⟨a, its, e, p, q⟩ => ⟨a, its, e, p.at fun o e => k _ o e, q⟩
theorem monoRange {a b c : Int} : ∀ v h h', Kp h h' → rRange a b c v h → rRange a b c v h' := fun v h h' k ⟨r, t, u, x, e, p⟩ => ⟨r, t, u, x, e, k _ _ p⟩
theorem new_list {b : Shared} {P : Array Value → Prop} {v : Value} {h : Heap} (x : rNew b P v h) : rList P v h := let ⟨a, its, e, _, p, q⟩ := x; ⟨a, its, e, p.isList, q⟩

section
variable {prog : Program} {w : World} {A : Around} {env : Env} {b : Shared}

theorem Ev.disp {e1 : Expr} {es : List Expr} {pos : Pos} {Rs : List (Value → Heap → Prop)} {P : Array Value → Prop} (h : Ev (model prog w) A b (spliced ((false, eval e1 env) :: evs es env)) (ListR Rs))
    (hP : ∀ vs h, ListR Rs vs h → vs.length ≤ 1000 ∧ P vs.toArray) (hs : backTo pos (starEach (e1 :: es) env) = (false, eval e1 env) :: evs es env := by rfl) :
    Ev (model prog w) A b (eval (.List (e1 :: es) pos) env) (rNew b P) := fun s ks Q E hQ => by
  refine wpAny_List ?_
  rw [hs]
  refine h s ks _ _ fun vs s1 k1 r => ?_
  obtain ⟨h1, h2⟩ := hP vs _ r
  exact ⟨by unfold sizeLine; omega, hQ _ { s1 with heap := s1.heap.push { cls := .type "list", data := .seq vs.toArray } } (k1.trans ⟨⟨_, _, rfl⟩, fun _ _ e => Heap.get?_push_of_some _ e⟩) ⟨_, vs.toArray, rfl, fresh_size (ks.trans k1), ⟨0, Heap.get?_push_size _ rfl⟩, h2⟩⟩

theorem Ev.range1 {v : Value} {n : Int} (h : rI n v b.heap) : Ev (model prog w) A b (call (.type "range") [v] []) (rRange 0 n 1) := fun s ks Q E hQ => by
  obtain ⟨t, rfl⟩ := h
  exact call_range_1 (hQ _ _ (Kps.push _ _ _) ⟨_, _, _, _, rfl, IsRange.new _ _ _ _ _ _ _⟩)
theorem Ev.range2 {v1 v2 : Value} {i j : Int} (h1 : rI i v1 b.heap) (h2 : rI j v2 b.heap) : Ev (model prog w) A b (call (.type "range") [v1, v2] []) (rRange i j 1) := fun s ks Q E hQ => by
  obtain ⟨t, rfl⟩ := h1
  obtain ⟨u, rfl⟩ := h2
  exact call_range_2 (hQ _ _ (Kps.push _ _ _) ⟨_, _, _, _, rfl, IsRange.new _ _ _ _ _ _ _⟩)
theorem Ev.range3 {v1 v2 v3 : Value} {i j c : Int} (h1 : rI i v1 b.heap) (h2 : rI j v2 b.heap) (h3 : rI c v3 b.heap) (hc : c ≠ 0) (hp : Builtin.divisionGoesByPylong (j - i) c = false) : Ev (model prog w) A b (call (.type "range") [v1, v2, v3] []) (rRange i j c) := fun s ks Q E hQ => by
  obtain ⟨t, rfl⟩ := h1
  obtain ⟨u, rfl⟩ := h2
  obtain ⟨x, rfl⟩ := h3
  exact call_range_3 hc (hQ _ _ (Kps.push _ _ _) ⟨_, _, _, _, rfl, IsRange.new _ _ _ _ _ _ _⟩) (.inl hp)

/-- list(range(..)) -/
theorem Ev.listRange {v : Value} {i j : Int} {n : Nat} (hh : A.handled = none) (h : rRange i j 1 v b.heap) (hsm : Builtin.Range.small i j 1 = true) (hn : Builtin.Range.rangeSize i j 1 = n) (hlen : n ≤ 2 ^ 24) :
    Ev (model prog w) A b (call (.type "list") [v] []) (rNew b fun its => its.size = n ∧ ∀ k, k < n → ∃ t, its[k]? = some (.int (i + (k : Int)) t)) := fun s ks Q E hQ => by
  obtain ⟨r, t, u, x, rfl, hr⟩ := h
  refine call_list_range hh (ks.heap _ _ hr) hsm hn hlen fun h' tk acc c' hk hS hacc => hQ _ _ (Kps.mk' hk) ⟨_, acc, rfl, fresh_size ks, ⟨c', hS⟩, hacc.1, fun k hk' => ?_⟩
  have hlt : k < acc.size := by rw [hacc.1]; exact hk'
  obtain ⟨t, e⟩ := hacc.2 k (acc[k]'hlt) (by simp [hlt])
  exact ⟨t, by rw [Array.getElem?_eq_getElem hlt, e]; simp⟩
theorem Ev.nb {t : Sem Value} {s : Shared} {P : Array Value → Prop} (h : Ev (model prog w) A s t (rNew s P)) (k : Kps b s) : Ev (model prog w) A s t (rNew b P) := h.weak fun v h' ⟨a, its, e, n, p, q⟩ => ⟨a, its, e, (by
  cases e1 : b.heap.get? a with
  | none => rfl
  | some o => have := k.heap _ _ e1; rw [n] at this; cases this), p, q⟩
theorem size_up {i j : Int} (h : i ≤ j) : Builtin.Range.rangeSize i j 1 = ((j - i).toNat : Int) := by
  rw [rangeSize_one]; split <;> omega
end

section
variable {prog : Program} {w : World} {A : Around} {env : Env} {s₀ s : Shared} {X : List Addr} {L : Addr} {vals : List (Str × Value)} {l : List Ent} {E : Value → Shared → Prop}

/-- x = a new list -/
theorem St.assignL (S : St s₀ X L vals l s) {x : Str} {pos' pos : Pos} {e : Expr} {P : Array Value → Prop} {Q : Flow → Shared → Prop} (he : Ev (model prog w) A s (eval e env) (rNew s P))
    (hQ : ∀ a items s', P items → s.heap.get? a = none → St s₀ X L ((x, .ref a) :: vals) (eL a items :: l) s' → Q .next s')
    (hsw : swapsWith e (some (.Name x pos')) pos.line env = pure false := by rfl) (hL : env.locals = L := by rfl) (hl : env.kindOf x = some .local := by rfl)
    (hp : (env.scope.kind == .class || (env.scope.kind == .module && env.locals != env.globals)) = false := by rfl) : wpAny (model prog w) A (exec (.Assign [.Name x pos'] e pos) env) Q E s := by
  refine wpAny_Assign_Name (he.go fun v s1 k1 r1 => ?_) hsw
  obtain ⟨a, items, rfl, hn, hp', hP⟩ := r1
  have S1 : St s₀ X L vals (eL a items :: l) s1 := S.add k1 (eL a items) hp' (by intro b hb; simp [eL] at hb; subst hb; exact hn)
  exact S1.store (fun s' S' _ => hQ a items s' hP hn S') hL hl hp

theorem call_append {D : Addr} {items : Array Value} {v : Value} {Q : Value → Shared → Prop} (S : St s₀ X L vals l s) {pre post : List Ent} (hl : l = pre ++ eL D items :: post) (hsz : items.size ≤ 100000)
    (hQ : ∀ s', St s₀ X L vals (pre ++ eL D (items.push v) :: post) s' → Q .none s') : wpAny (model prog w) A (call (.builtin "list.append") [.ref D, v]) Q E s := by
  have hD : s.heap.PlainList D items := S.own (eL D items) (by rw [hl]; exact List.mem_append_right _ (.head _))
  exact wpAny_list_append_plain hD (fun h' hp hs => hQ _ (S.upd hl (tk := s.toks) (e' := eL D (items.push v)) (fun b o hb q => hs.extBut b o (by simpa [eL] using hb) q) rfl hp)) (by unfold sizeLine; omega)

/-- out.append(g) -/
theorem St.append (S : St s₀ X L vals l s) {o g : Expr} {apos cpos epos : Pos} {D : Addr} {items : Array Value} {R : Value → Heap → Prop} {Q : Flow → Shared → Prop} {pre post : List Ent} (hl : l = pre ++ eL D items :: post) (hsz : items.size ≤ 100000)
    (ho : Ev (model prog w) A s (eval o env) (rV (.ref D))) (hg : Ev (model prog w) A s (eval g env) R)
    (hQ : ∀ v s1 s', Kps s s1 → R v s1.heap → St s₀ X L vals (pre ++ eL D (items.push v) :: post) s' → Q .next s')
    (hint : interactive env = false := by rfl) (hsw : swapsWith (.Call (.Attribute o "append" apos) [g] [] cpos) none epos.line env = pure false := by rfl) (hbase : attributeBase o "append" env (eval o env) = eval o env := by rfl)
    (hfew : ((backTo cpos (starEach [g] env)).all (fun x => !x.1) && (backToKw cpos (keywordEach [] env)).all (fun x => x.1.isSome) && decide (([g] : List Expr).length + ([] : List Keyword).length + (if ([] : List Keyword).isEmpty then 0 else 1) < 30)) = true := by rfl)
    (hline : (apos.endLine == cpos.line) = true := by rfl) (htrees : backTo cpos (starEach [g] env) = [(false, eval g env)] := by rfl) :
    wpAny (model prog w) A (exec (.Expr (.Call (.Attribute o "append" apos) [g] [] cpos) epos) env) Q E s := by
  refine wpAny_Expr (wpAny_Call_append hbase hfew hline htrees (ho.go fun v s1 k1 hv => ?_)) hint hsw
  cases (hv : v = _)
  have S1 := S.kps k1
  obtain ⟨n, hD⟩ := S1.own (eL D items) (by rw [hl]; exact List.mem_append_right _ (.head _))
  refine ⟨D, items, rfl, ⟨_, n, hD, rfl, rfl, rfl⟩, (hg.base k1).go fun v s2 k2 hv => ?_⟩
  exact call_append (S1.kps k2) hl hsz fun s' S' => hQ v s2 s' (k1.trans k2) hv S'

/-- x += e, texts -/
theorem St.augS (S : St s₀ X L vals l s) {x : Str} {pos' pos : Pos} {e : Expr} {y z : Str} {t : Tok} {Q : Flow → Shared → Prop} (hx : vals.lookup x = some (.str y t)) (he : Ev (model prog w) A s (eval e env) (rS z)) (hsz : y.length + z.length ≤ sizeLine)
    (hQ : ∀ s' t', St s₀ X L ((x, .str (y ++ z) t') :: vals) l s' → Q .next s')
    (hL : env.locals = L := by rfl) (hk : env.scope.kind = .function := by rfl) (hl : env.kindOf x = some .local := by rfl) (hp : (env.scope.kind == .class || (env.scope.kind == .module && env.locals != env.globals)) = false := by rfl) :
    wpAny (model prog w) A (exec (.AugAssign (.Name x pos') .Add e pos) env) Q E s := by
  refine wpAny_AugAssign_Name ?_
  obtain ⟨m, n, a⟩ := S.ns
  refine wpAny_loadName_local hk hl (by rw [hL]; exact n) (a x _ hx) (he.go fun v s1 k1 hv => ?_)
  obtain ⟨u, rfl⟩ := hv
  refine iadd_str (fun t' tk => ?_) hsz
  exact (S.kps (k1.trans (Kps.tok _ _))).store (fun s' S' _ => hQ s' t' S') hL hl hp

/-- for x in ..: the name -/
theorem St.bind (S : St s₀ X L vals l s) {x : Str} {pos : Pos} {v : Value} {Q : Unit → Shared → Prop} (hQ : ∀ s', St s₀ X L ((x, v) :: vals) l s' → Q () s') (hL : env.locals = L := by rfl) (hl : env.kindOf x = some .local := by rfl)
    (hp : (env.scope.kind == .class || (env.scope.kind == .module && env.locals != env.globals)) = false := by rfl) : wpAny (model prog w) A (PySem.assign (.Name x pos) env v) Q E s :=
  wpAny_assign_Name (S.store (fun s' S' _ => hQ s' S') hL hl hp)
end
end Mine

end

/- Cell -/
section
open PySem PySem.Calls PyProof.Rows PySem.W
namespace Mine
set_option maxRecDepth 100000
set_option linter.unusedVariables false

section
variable {prog : Program} {w : World} {A : Around} {s : Shared} {E : Value → Shared → Prop}

/-- a call of a def whose names are captured -/
theorem fnC {fa : Addr} {fd : FuncData} {body : List Stmt} {vs : List Value} {kw : List (Str × Value)} {binds : List (Str × Value)} {Q : Value → Shared → Prop} (hf : Fn s.heap fa fd) (hlim : s.heap.NoLimit) (hroom : A.depth < recursionLimit) (hbody : fd.body = .stmts body)
    (hclo : fd.closure = []) (hbind : BindsTo s fd ⟨vs, kw⟩ binds) (hkind : (binds.all fun y => fd.scope.names.lookup y.1 == some .local || fd.scope.names.lookup y.1 == some .cell) = true)
    (hco : (!fd.scope.isCoroutine && !fd.scope.isGenerator && fd.scope.kind == .function) = true)
    (h : ∀ L s₁, L = s.heap.objs.size → Kps s s₁ → s₁.heap.Ns L (bindL (callEnvC fd L fa).kindOf binds fun _ => none) →
      (∀ n c, (cellsFrom (L + 1) fd.scope.names []).lookup n = some c → s₁.heap.IsCell c (bindC (callEnvC fd L fa).kindOf binds (fun _ => none) n)) →
      wpAny (model prog w) (A.deeper (callEnvC fd L fa)) (execs body (callEnvC fd L fa)) (fun f s' => ∃ v, f = .ret v ∧ Q v s') (fun _ _ => False) s₁) :
    wpAny (model prog w) A (call (.ref fa) vs kw) Q E s := by
  simp only [Bool.and_eq_true, Bool.not_eq_true', beq_iff_eq] at hco
  obtain ⟨⟨h1, h2⟩, h3⟩ := hco
  obtain ⟨o, ho, hd⟩ := hf.at_
  refine wpAny_call (codeAny_call_function hroom ho hd h1 h2 hbody hf.code (hbind _ _ _ _ ?_))
  rw [hclo]
  refine wpAny_newFunctionEnv_cells h3 (kindsX hkind _) fun env he s' x => ?_
  subst he
  refine ⟨hlim.keeps x.toInCall.keep, codeAny_func ?_⟩
  refine wpAny_mono (h s.heap.objs.size s' rfl ⟨x.toInCall.same, x.toInCall.keep⟩ x.toInCall.ns x.cell) (fun f s' hx => ?_) fun _ _ x => x.elim
  obtain ⟨v, rfl, r⟩ := hx
  exact r
end

section
variable {s₀ s : Shared} {X : List Addr} {L : Addr} {vals : List (Str × Value)} {l : List Ent}

/-- one thing changes, and may grow -/
theorem St.updG (S : St s₀ X L vals l s) {pre post : List Ent} {e e' : Ent} (hl : l = pre ++ e :: post) {s' : Shared} (hsame : ∃ h tk, s' = { s with heap := h, toks := tk }) (hs : ∀ b o, b ∉ e.fp → s.heap.get? b = some o → s'.heap.get? b = some o)
    (hfp : ∀ a ∈ e'.fp, a ∈ e.fp ∨ s.heap.get? a = none) (hP : e'.P s'.heap) : St s₀ X L vals (pre ++ e' :: post) s' := by
  subst hl
  have hm : e ∈ pre ++ e :: post := List.mem_append_right _ (.head _)
  have hnd := List.pairwise_append.mp S.nd
  have h2 := List.pairwise_cons.mp hnd.2.1
  have old : ∀ x, x ∈ pre ++ e' :: post → x = e' ∨ (x ∈ pre ++ e :: post ∧ (∀ a ∈ x.fp, a ∉ e.fp)) := by
    intro x hx
    rcases List.mem_append.mp hx with hx | hx
    · exact .inr ⟨List.mem_append_left _ hx, hnd.2.2 x hx e (.head _)⟩
    · rcases List.mem_cons.mp hx with rfl | hx
      · exact .inl rfl
      · exact .inr ⟨List.mem_append_right _ (.tail _ hx), fun a ha ha' => h2.1 x hx a ha' ha⟩
  -- no other thing stands where the grown one stands
  have apart : ∀ x, x ∈ pre ++ e :: post → (∀ a ∈ x.fp, a ∉ e.fp) → ∀ a ∈ x.fp, a ∉ e'.fp := by
    intro x hx hne a ha ha'
    rcases hfp a ha' with h | h
    · exact hne a ha h
    · obtain ⟨o, q⟩ := x.has (S.own x hx) a ha
      rw [h] at q; cases q
  refine { same := ?_, keep := ?_, ns := ?_, Lnew := S.Lnew, LX := S.LX, own := ?_, nd := ?_, ndL := ?_, new := ?_ }
  · obtain ⟨h, tk, e⟩ := S.same; obtain ⟨h', tk', e'⟩ := hsame; exact ⟨h', tk', by rw [e', e]⟩
  · intro b o hb q
    refine hs b o (fun hbe => ?_) (S.keep b o hb q)
    rcases S.new e hm b hbe with h1 | h1
    · exact hb h1
    · rw [h1] at q; cases q
  · obtain ⟨m, n, a⟩ := S.ns
    exact ⟨m, n.at' fun o q => hs L o (S.ndL e hm) q, a⟩
  · intro x hx
    rcases old x hx with rfl | ⟨hx, ha⟩
    · exact hP
    · exact x.loc (fun a q o r => hs a o (ha a q) r) (S.own x hx)
  · refine List.pairwise_append.mpr ⟨hnd.1, List.pairwise_cons.mpr ⟨fun x hx a ha ha' => ?_, h2.2⟩, fun x hx y hy => ?_⟩
    · exact apart x (List.mem_append_right _ (.tail _ hx)) (fun b hb hb' => h2.1 x hx b hb' hb) a ha' ha
    · rcases List.mem_cons.mp hy with rfl | hy
      · exact apart x (List.mem_append_left _ hx) (hnd.2.2 x hx e (.head _))
      · exact hnd.2.2 x hx y (.tail _ hy)
  · intro x hx
    rcases old x hx with rfl | ⟨hx, _⟩
    · intro hL
      rcases hfp L hL with h | h
      · exact S.ndL e hm h
      · obtain ⟨m, ⟨o, _, _, q, _⟩, _⟩ := S.ns
        rw [h] at q; cases q
    · exact S.ndL x hx
  · intro x hx a ha
    rcases old x hx with rfl | ⟨hx, _⟩
    · rcases hfp a ha with h | h
      · exact S.new e hm a h
      · by_cases hX : a ∈ X
        · exact .inl hX
        · right
          cases q : s₀.heap.get? a with
          | none => rfl
          | some o => have := S.keep a o hX q; rw [h] at this; cases this
    · exact S.new x hx a ha

/-- the table of a def's own code objects: empty, or with the one lambda -/
def eTab (P : Addr) (ln cl : Nat) (q : Str) (oc : Option Addr) : Ent where
  fp := P :: oc.toList
  P := fun h => match oc with
    | none => h.get? P = some (tabObj #[])
    | some c => h.get? P = some (tabObj #[rawInt ln, rawInt cl, .ref c]) ∧ h.CodeRec (.ref c) q
  loc := fun {h h'} k x => by
    cases oc with
    | none => exact k P (by simp) _ x
    | some c =>
      obtain ⟨e, c₂, o, vs, t, e2, g, r⟩ := x
      cases e2
      exact ⟨k P (by simp) _ e, c, o, vs, t, rfl, k c (by simp) _ g, r⟩
  has := fun {h} x a ha => by
    cases oc with
    | none => simp at ha; subst ha; exact ⟨_, x⟩
    | some c =>
      obtain ⟨e, c₂, o, vs, t, e2, g, r⟩ := x
      cases e2
      simp at ha
      rcases ha with rfl | rfl
      · exact ⟨_, e⟩
      · exact ⟨_, g⟩
end

section
variable {prog : Program} {w : World} {A : Around} {env : Env} {s₀ s : Shared} {X : List Addr} {L : Addr} {vals : List (Str × Value)} {l : List Ent} {E : Value → Shared → Prop}

theorem St.storeC (S : St s₀ X L vals l s) {pre post : List Ent} {c : Addr} {v₀ : Option Value} (hl : l = pre ++ eC c v₀ :: post) {x : Str} {v : Value} {Q : Unit → Shared → Prop} (hQ : ∀ s', St s₀ X L vals (pre ++ eC c (some v) :: post) s' → Q () s')
    (hc : env.cells.lookup x = some c := by rfl) (hk : env.scope.kind = .function := by rfl) (hx : env.kindOf x = some .cell := by rfl) : wpAny (model prog w) A (storeName env x v) Q E s := by
  have h0 : s.heap.IsCell c v₀ := S.own (eC c v₀) (by rw [hl]; exact List.mem_append_right _ (.head _))
  exact wpAny_storeName_cell hk hx hc h0 fun h' hv hs => hQ _ (S.updG (e' := eC c (some v)) hl ⟨h', s.toks, rfl⟩ (fun b o hb q => hs.extBut b o (by simpa [eC] using hb) q) (fun a ha => .inl ha) hv)

/-- x = e, x captured -/
theorem St.assignC (S : St s₀ X L vals l s) {pre post : List Ent} {c : Addr} {v₀ : Option Value} (hl : l = pre ++ eC c v₀ :: post) {x : Str} {pos' pos : Pos} {e : Expr} {R : Value → Heap → Prop} {Q : Flow → Shared → Prop} (he : Ev (model prog w) A s (eval e env) R)
    (hQ : ∀ v s1 s', Kps s s1 → R v s1.heap → St s₀ X L vals (pre ++ eC c (some v) :: post) s' → Q .next s')
    (hsw : swapsWith e (some (.Name x pos')) pos.line env = pure false := by rfl) (hc : env.cells.lookup x = some c := by rfl) (hk : env.scope.kind = .function := by rfl) (hx : env.kindOf x = some .cell := by rfl) :
    wpAny (model prog w) A (exec (.Assign [.Name x pos'] e pos) env) Q E s :=
  wpAny_Assign_Name (he.go fun v s1 k1 r1 => (S.kps k1).storeC hl (fun s' S' => hQ v s1 s' k1 r1 S') hc hk hx) hsw
theorem St.bindC (S : St s₀ X L vals l s) {pre post : List Ent} {c : Addr} {v₀ : Option Value} (hl : l = pre ++ eC c v₀ :: post) {x : Str} {pos : Pos} {v : Value} {Q : Unit → Shared → Prop} (hQ : ∀ s', St s₀ X L vals (pre ++ eC c (some v) :: post) s' → Q () s')
    (hc : env.cells.lookup x = some c := by rfl) (hk : env.scope.kind = .function := by rfl) (hx : env.kindOf x = some .cell := by rfl) : wpAny (model prog w) A (PySem.assign (.Name x pos) env v) Q E s :=
  wpAny_assign_Name (S.storeC hl hQ hc hk hx)

/-- a lambda made: its code object is noted at the first making -/
theorem St.lambda (S : St s₀ X L vals l s) {pre post : List Ent} {c P : Addr} {oc : Option Addr} {params : Arguments} {body : Expr} {scope : Scope} {pos : Pos} {clos : List (Str × Addr)} {mg : Str → Option Value} {Q : Value → Shared → Prop}
    (hl : l = pre ++ eTab P pos.line pos.col (env.qual ++ ("<lambda>" : Str)) oc :: post) (hdef : defaultsOf params env = ([], [])) (hcl : closureFor scope env = pure clos) (hge0 : env.globals = mainGlobals) (hg : s.heap.Ns mainGlobals mg) (hcode : env.code = .ref c) (C : CodeHd s.heap c P)
    (hgP : mainGlobals ≠ P) (hb : s.heap.BuiltinsAt mg P)
    (hQ : ∀ f c' ctv s' q, St s₀ X L vals (pre ++ eTab P pos.line pos.col (env.qual ++ ("<lambda>" : Str)) (some c') :: post) s' → (∀ b o, b ∉ P :: oc.toList → s.heap.get? b = some o → s'.heap.get? b = some o) → s'.heap.CodeRec (.ref c') (env.qual ++ ("<lambda>" : Str)) →
      s'.heap.get? f = some (kla_obj "<lambda>" (env.qual ++ ("<lambda>" : Str)) params body scope clos q c' ctv) → Q (.ref f) s') :
    wpAny (model prog w) A (eval (.Lambda params body scope pos) env) Q E s := by
  refine kla_eval hdef ?_
  have hm := S.own (eTab P pos.line pos.col (env.qual ++ ("<lambda>" : Str)) oc) (by rw [hl]; exact List.mem_append_right _ (.head _))
  cases oc with
  | none =>
    have hP : s.heap.get? P = some (tabObj #[]) := hm
    refine kla_makeFunction hcl hge0 hg hcode C hP trivial rfl hgP hb fun c' ctv h' tk hx hge hlt hrec htb => ?_
    have hrec' : (h'.push (kla_obj "<lambda>" (env.qual ++ ("<lambda>" : Str)) params body scope clos ((mg "__name__").getD .none) c' ctv)).CodeRec (.ref c') (env.qual ++ ("<lambda>" : Str)) := hrec.push _
    refine hQ _ c' ctv _ _ (S.updG hl ⟨_, tk, rfl⟩ ?_ ?_ ?_) ?_ hrec' (Heap.get?_push_size _ rfl)
    · intro b o hb q
      exact Heap.get?_push_of_some _ (hx b o (by simpa [eTab] using hb) q)
    · intro a ha
      simp [eTab] at ha
      rcases ha with rfl | rfl
      · exact .inl (by simp [eTab])
      · exact .inr (Heap.get?_none_of_le hge)
    · exact ⟨Heap.get?_push_of_some _ htb, hrec'⟩
    · intro b o hb q
      exact Heap.get?_push_of_some _ (hx b o (by simpa using hb) q)
  | some c' =>
    obtain ⟨hP, hrec⟩ := hm
    refine kla_makeFunctionHit hcl hge0 hg hcode C hP trivial (cv := .ref c') ?_ hb fun ctv h' tk hk hsz => ?_
    · show codeAmong pos [rawInt pos.line, rawInt pos.col, .ref c'] = _
      simp [codeAmong, rawInt]
    have k : Kps s { s with heap := h'.push { cls := .type "function", data := .func (kla_fn "<lambda>" (env.qual ++ ("<lambda>" : Str)) params body scope clos ((mg "__name__").getD .none) (.ref c') ctv) }, toks := tk } := Kps.mk' fun b o e => Heap.get?_push_of_some _ (hk b o e)
    have S' := S.kps k
    rw [hl] at S'
    exact hQ _ c' ctv _ _ S' (fun b o _ q => k.heap b o q) (hrec.keeps k.heap) (Heap.get?_push_size _ rfl)
end

section
variable {prog : Program} {w : World} {A : Around} {b : Shared}

abbrev envX' (fd : FuncData) (L fa : Addr) : Env := newEnv fd.scope L fd.globals fd.closure (fd.qualname ++ (".<locals>." : Str)) (some fa) fd.code none fd.builtins

/-- a call of a lambda -/
theorem Ev.lam {fa : Addr} {o : Obj} {fd : FuncData} {body : Expr} {vs : List Value} {binds : List (Str × Value)} {R : Value → Heap → Prop} (ho : b.heap.get? fa = some o) (hd : o.data = .func fd) (hcd : b.heap.CodeRec fd.code fd.qualname) (hlim : b.heap.NoLimit) (hroom : A.depth < recursionLimit) (hbody : fd.body = .expr body)
    (hbind : bindArgs fd ⟨vs, []⟩ = pure binds) (hok : okScope fd (binds.map (·.1)) = true)
    (h : ∀ L s₁, Kps b s₁ → s₁.heap.Ns L (fun x => binds.reverse.lookup x) → Ev (model prog w) (A.deeper (envX' fd L fa)) s₁ (eval body (envX' fd L fa)) R) :
    Ev (model prog w) A b (call (.ref fa) vs []) R := fun s ks Q E hQ => by
  unfold okScope at hok
  simp only [Bool.and_eq_true, Bool.not_eq_true', beq_iff_eq] at hok
  obtain ⟨⟨⟨⟨h1, h2⟩, h3⟩, h4⟩, h5⟩ := hok
  refine wpAny_call (kla_callFunE hroom (ks.heap _ _ ho) hd h3 h4 hbody (hcd.keeps ks.heap) ?_)
  rw [hbind]
  refine wpAny_pure (wpAny_newFunctionEnv (cellsB h2) (locsB h1) (fun h₁ hns hsb => ?_) h5)
  have hkp : Kp s.heap h₁ := fun b o e => hsb.extBut b o (Nat.ne_of_lt (Heap.lt_size e)) (Heap.get?_push_of_some _ e)
  refine ⟨(hlim.keeps ks.heap).keeps hkp, kla_codeExpr ?_⟩
  have k1 : Kps s { s with heap := h₁, toks := s.toks + binds.length } := Kps.mk' hkp
  exact h s.heap.objs.size _ (ks.trans k1) hns _ (Kps.refl _) _ _ fun v s' k r => hQ v s' (k1.trans k) r
end
end Mine

end

/- E01 -/
section
open PySem PySem.Calls PyProof.Rows
namespace Mine
set_option maxRecDepth 100000
set_option linter.unusedVariables false

abbrev prg : Program := PySem.Challenge.rw_nb0087_02.row.prog
def P0 : Params := { strHash := fun _ => 0, shareClass := fun _ => 0, mergeTok := id, idOf := fun _ => 0, idOfShared := fun _ _ => 0, followText := fun _ => false, idOfImm := fun _ => 0 }
noncomputable def ko (a : Addr) : Obj := ((hd.heap_39 P0).lookup a).getD default
noncomputable def kf (a : Addr) : FuncData := match (ko a).data with | .func fd => fd | _ => default
def bodyOf (fd : FuncData) : List Stmt := match fd.body with | .stmts b => b | .expr _ => []

theorem plainAttrs_pat : PlainAttrs "re.Pattern" :=
  ⟨⟨"object.__getattribute__", by rw [typeLookup_type, builtinLookup_eq_fast]; kernel_rfl, by decide +kernel⟩, by rw [typeLookup_type, builtinLookup_eq_fast]; kernel_rfl⟩

/-- the ground: the text's own objects, the names -/
structure Gd (w : World) (mg mb : Str → Option Value) (h : Heap) : Prop where
  wd : Wd mg mb h
  fn : ∀ a fd, (hd.heap_39 w.params).lookup a = some { cls := .type "function", data := .func fd } → Fn h a fd
  k : (hd.heap_39 w.params).In h
  mgl : ∀ x v, (PySem.W.nsIn (hd.heap_39 w.params) 3 x) = some v → mg x = v
  mbl : ∀ x v, bootBuiltins x = some v → x ≠ "__name__" → mb x = some v
  bm : ∃ ob, h.get? 4 = some ob ∧ ob.cls = .type "module" ∧ ob.dict = some builtinsNs ∧ ob.data = .plain

theorem Gd.keeps {w : World} {mg mb : Str → Option Value} {h h' : Heap} (G : Gd w mg mb h) (k : Kp h h') : Gd w mg mb h' :=
  ⟨G.wd.keeps k, fun a fd e => (G.fn a fd e).keeps k, fun a o e => k _ _ (G.k a o e), G.mgl, G.mbl, let ⟨ob, e, r⟩ := G.bm; ⟨ob, k _ _ e, r⟩⟩

section
variable {w : World} {A : Around} {b : Shared} {mg mb : Str → Option Value}

theorem Gd.at {h : Heap} (G : Gd w mg mb h) (a : Addr) (e : (hd.heap_39 w.params).lookup a = some (ko a)) : h.get? a = some (ko a) := G.k a _ e
theorem Gd.builtinsAt {h : Heap} (G : Gd w mg mb h) (P : Addr) (hP : (4 : Addr) ≠ P) : h.BuiltinsAt mg P := let ⟨ob, e, r⟩ := G.bm; ⟨4, ob, G.mgl "__builtins__" _ (by kernel_rfl), by decide, by decide, hP, e, r⟩
theorem pat1 {h : Heap} (G : Gd w mg mb h) : IsPat h 36 code1 := ⟨35, _, _, _, _, G.at 36 (by kernel_rfl), G.at 35 (by kernel_rfl), _, _, by exact rfl, rfl, by kernel_rfl⟩
theorem pat2 {h : Heap} (G : Gd w mg mb h) : IsPat h 41 code2 := ⟨40, _, _, _, _, G.at 41 (by kernel_rfl), G.at 40 (by kernel_rfl), _, _, by exact rfl, rfl, by kernel_rfl⟩

theorem sub2_ev {p : Addr} {x r : Str} {v1 v2 : Value} (hp : IsPat b.heap p code2) (hr : rS r v1 b.heap) (er : r = ⟨#[13, 10]⟩) (hv : rS x v2 b.heap) (hx : x.cps.size ≤ 10000) : Ev (model prg w) A b (call (.builtin "re.Pattern.sub") [.ref p, v1, v2] []) (rS (T (norm 10 x.cps.toList))) := fun s ks Q E hQ => by
  obtain ⟨t1, rfl⟩ := hr
  obtain ⟨t2, rfl⟩ := hv
  subst er
  refine sub_call (out := norm 10 x.cps.toList) (hp.keeps ks.heap) (by decide) hx (by decide +kernel) ?_ fun h' tk t' hk => hQ _ _ (Kps.mk' hk) ⟨_, rfl⟩
  have := subs2 x.cps (by omega) x.cps.size 0 10 (by omega) (by omega) (fun _ h => by omega)
  simpa using this
theorem sub1_ev {p : Addr} {x r : Str} {v1 v2 : Value} (hp : IsPat b.heap p code1) (hr : rS r v1 b.heap) (er : r = ⟨#[46, 46]⟩) (hv : rS x v2 b.heap) (hx : x.cps.size ≤ 10000) : Ev (model prg w) A b (call (.builtin "re.Pattern.sub") [.ref p, v1, v2] []) (rS (T (dots 10 x.cps.toList))) := fun s ks Q E hQ => by
  obtain ⟨t1, rfl⟩ := hr
  obtain ⟨t2, rfl⟩ := hv
  subst er
  refine sub_call (out := dots 10 x.cps.toList) (hp.keeps ks.heap) (by decide) hx (by decide +kernel) ?_ fun h' tk t' hk => hQ _ _ (Kps.mk' hk) ⟨_, rfl⟩
  have := subs1 x.cps (by omega) x.cps.size 0 10 (by omega) (by omega) (by simp)
  simpa using this

theorem IsPat.type {h : Heap} {p : Addr} {code : Array Nat} (hp : IsPat h p code) : ∃ ob, h.get? p = some ob ∧ ob.cls = .type "re.Pattern" ∧ ob.dict = none := by
  obtain ⟨c, p0, p1, o, d2, e1, _⟩ := hp
  exact ⟨_, e1, rfl, rfl⟩

theorem quotedata_ev {x : Str} {v : Value} (G : Gd w mg mb b.heap) (hA : Rm A 3) (hv : rS x v b.heap) (hx : x.cps.size ≤ 4000) : Ev (model prg w) A b (call (.ref 48) [v] []) (rS (T (qd x.cps.toList))) := by
  obtain ⟨t, rfl⟩ := hv
  refine Ev.fn (fd := kf 48) (body := bodyOf (kf 48)) (binds := [("data", .str x t)]) (G.fn 48 _ (by kernel_rfl)) G.wd.lim hA.room (by kernel_rfl) (fun s ks => BindsTo.of_eq (by kernel_rfl)) (by kernel_rfl) fun s L s₁ k0 hL k1 hn => ?_
  have G' := (G.keeps k0.heap).keeps k1.heap
  refine wpAny_execs_cons (wpAny_Return_some ?_)
  have hl := norm_len x.cps.toList 10
  refine Ev.go (R := rS (T (qd x.cps.toList))) ?_ fun v s' k r => ⟨v, rfl, k1.trans k, r⟩
  refine Ev.meth (ov := .ref 36) (Rs := [rS ⟨#[46, 46]⟩, rS (T (norm 10 x.cps.toList))]) (Ev.glob G'.wd (G'.mgl "_twin_re_1" (some (.ref 36)) (by kernel_rfl))) plainAttrs_pat slot_sub type_sub
    (by obtain ⟨ob, e, c, _⟩ := (pat1 G').type; exact ⟨ob, e, c⟩) (fun a e => by cases e; obtain ⟨ob, e, _, d⟩ := (pat1 G').type; exact ⟨ob, e, d⟩) ?_ ?_
  · refine Ev.s2 Ev.kS monoS ?_ monoS
    refine Ev.meth (ov := .ref 41) (Rs := [rS ⟨#[13, 10]⟩, rS x]) (Ev.glob G'.wd (G'.mgl "_twin_re_2" (some (.ref 41)) (by kernel_rfl))) plainAttrs_pat slot_sub type_sub
      (by obtain ⟨ob, e, c, _⟩ := (pat2 G').type; exact ⟨ob, e, c⟩) (fun a e => by cases e; obtain ⟨ob, e, _, d⟩ := (pat2 G').type; exact ⟨ob, e, d⟩) ?_ ?_
    · exact Ev.s2 (Ev.asS (Ev.glob G'.wd (G'.mgl "CRLF" (some (.str ⟨#[13, 10]⟩ 342)) (by kernel_rfl)))) monoS (Ev.asS (Ev.loc hn (v := .str x t) (by kernel_rfl))) monoS
    · intro vs s2 k2 hvs
      obtain ⟨v1, _, rfl, h1, v2, _, rfl, h2, rfl⟩ := hvs
      exact sub2_ev (pat2 (G'.keeps k2.heap)) h1 rfl h2 (by omega)
  · intro vs s2 k2 hvs
    obtain ⟨v1, _, rfl, h1, v2, _, rfl, h2, rfl⟩ := hvs
    have := sub1_ev (w := w) (A := A.deeper (envF (kf 48) L 48)) (pat1 (G'.keeps k2.heap)) h1 rfl h2 (by show (norm 10 x.cps.toList).toArray.size ≤ 10000; simp at hl ⊢; omega)
    rw [show (T (norm 10 x.cps.toList)).cps.toList = norm 10 x.cps.toList by rfl, dots_norm _ 10 10 (by simp)] at this
    exact this
theorem quotedata_T {l : List Nat} {v : Value} (G : Gd w mg mb b.heap) (hA : Rm A 3) (hv : rS (T l) v b.heap) (hx : l.length ≤ 4000) : Ev (model prg w) A b (call (.ref 48) [v] []) (rS (T (qd l))) := by
  have := quotedata_ev (A := A) G hA hv (by show l.toArray.size ≤ 4000; simpa using hx)
  simpa using this
end
end Mine

end

/- E02 -/
section
open PySem PySem.Calls PyProof.Rows
namespace Mine
set_option maxRecDepth 100000
set_option linter.unusedVariables false

theorem lookup_reverse5 {m : Str → Option Value} {a b c d e : Str} {va vb vc vd ve : Value} (h : m = fun x => [(a, va), (b, vb), (c, vc), (d, vd), (e, ve)].reverse.lookup x) : Agree m [(e, ve), (d, vd), (c, vc), (b, vb), (a, va)] := by subst h; exact Agree.of_eq fun _ => rfl

section
variable {w : World} {A : Around} {b : Shared} {mg mb : Str → Option Value}

theorem bindR3 {h : Shared} (G : Gd w mg mb h.heap) (va vx vlo vk : Value) : BindsTo h (kf 57) ⟨[va, vx, vlo], [("key", vk)]⟩ [("a", va), ("x", vx), ("lo", vlo), ("hi", .none), ("key", vk)] :=
  BindsTo.of_defaults (T := 49) (by kernel_rfl) (G.at 49 (by kernel_rfl)) (by exact rfl) (by exact rfl) (by kernel_rfl)
theorem bindL4 {h : Shared} (G : Gd w mg mb h.heap) (va vx vlo vhi vk : Value) : BindsTo h (kf 66) ⟨[va, vx, vlo, vhi], [("key", vk)]⟩ [("a", va), ("x", vx), ("lo", vlo), ("hi", vhi), ("key", vk)] :=
  BindsTo.of_defaults (T := 58) (by kernel_rfl) (G.at 58 (by kernel_rfl)) (by exact rfl) (by exact rfl) (by kernel_rfl)

/-- what the halving looks at: the items themselves, or a key of them -/
def Probe (w : World) (b : Shared) (n : Nat) (vk : Value) (items : Array Value) (lo hi : Nat) (f : Nat → Int) : Prop :=
  (vk = .none ∧ ∀ i, i < hi → ∃ t, items[i]? = some (.int (f i) t)) ∨
  (∃ fk o fd, vk = .ref fk ∧ b.heap.get? fk = some o ∧ o.data = .func fd ∧ (∀ i, i < hi → ∃ t, items[i]? = some (.int (i : Nat) t)) ∧
    ∀ A s i t, Rm A n → Kps b s → lo ≤ i → i < hi → Ev (model prg w) A s (call (.ref fk) [.int (i : Nat) t] []) (rI (f i)))

/-- the end of the stretch: told, or the list's -/
def Upto (vhi : Value) (size hi : Nat) : Prop := (vhi = .none ∧ hi = size) ∨ ∃ t, vhi = .int hi t

theorem bisectR_ev {la : Addr} {items : Array Value} {n lo hi r : Nat} {f : Nat → Int} {x : Int} {tx tlo : Tok} {vhi vk : Value} {args : Args}
    (G : Gd w mg mb b.heap) (hA : Rm A (n + 1)) (hbind : ∀ s, Gd w mg mb s.heap → BindsTo s (kf 57) args [("a", .ref la), ("x", .int x tx), ("lo", .int lo tlo), ("hi", vhi), ("key", vk)])
    (hl : b.heap.IsList la items) (hsz : items.size < 2 ^ 60) (hhi : hi ≤ items.size) (hu : Upto vhi items.size hi) (hk : Probe w b n vk items lo hi f)
    (h1 : lo ≤ r) (h2 : r ≤ hi) (hlo : ∀ i, lo ≤ i → i < r → ¬ x < f i) (hup : ∀ i, r ≤ i → i < hi → x < f i) : Ev (model prg w) A b (call (.ref 57) args.pos args.kw) (rI r) := by
  refine Ev.fn (fd := kf 57) (body := bodyOf (kf 57)) (binds := [("a", .ref la), ("x", .int x tx), ("lo", .int lo tlo), ("hi", vhi), ("key", vk)]) (G.fn 57 _ (by kernel_rfl)) G.wd.lim hA.room (by kernel_rfl) (fun s ks => hbind s (G.keeps ks.heap)) (by kernel_rfl) fun s L s₁ k0 hL k1 hn => ?_
  have hA' : Rm (A.deeper (envF (kf 57) L 57)) n := hA.deeper
  have Gs := G.keeps k0.heap
  have S : St s [] L [("key", vk), ("hi", vhi), ("lo", .int lo tlo), ("x", .int x tx), ("a", .ref la)] [] s₁ :=
    ⟨k1.same, fun b o _ e => k1.heap b o e, ⟨_, hn, lookup_reverse5 rfl⟩, by subst hL; exact Heap.get?_none_of_le (Nat.le_refl _), by simp, by simp, List.Pairwise.nil, by simp, by simp⟩
  generalize hAA : A.deeper (envF (kf 57) L 57) = A' at hA'
  refine wpAny_execs_cons (wpAny_If ((Ev.tLt (i := lo) (j := 0) (Ev.asI (S.v (by rfl))) Ev.kI).go fun c s2 k2 hc => ?_))
  cases (hc : c = _)
  rw [if_neg (by simp)]
  refine wpAny_execs_nil ?_
  have S2 := S.kps k2
  refine wpAny_execs_cons (wpAny_mono (Q := fun fl s' => fl = .next ∧ ∃ th, St s [] L [("lo", .int lo tlo), ("hi", .int hi th), ("a", .ref la), ("x", .int x tx), ("key", vk)] [] s') ?_ (fun fl s3 h3 => ?_) fun _ _ x => x)
  · refine wpAny_If ((Ev.tIsNone (u := vhi) (S2.v (by rfl)) Ev.kN).go fun c s3 k3 hc => ?_)
    cases (hc : c = _)
    have S3 := S2.kps k3
    rcases hu with ⟨rfl, rfl⟩ | ⟨th, rfl⟩
    · rw [if_pos (by rfl)]
      have hl3 : s3.heap.IsList la items := hl.at fun o e => ((k0.trans k1).trans (k2.trans k3)).heap _ o e
      have G3 := ((Gs.keeps k1.heap).keeps k2.heap).keeps k3.heap
      refine wpAny_execs_cons (S3.assign (R := rI items.size) (Ev.callB (Rs := [rV (.ref la)]) (Ev.blt G3.wd (G3.mgl "len" none (by kernel_rfl)) (G3.mbl "len" (.builtin "len") (by kernel_rfl) (by decide +kernel))) ?_ ?_) fun v s4 s5 k4 hv sb S5 => ?_)
      · exact Ev.s1 (S3.v (by rfl)) monoV
      · intro vs s4 k4 hvs
        obtain ⟨v1, _, rfl, rfl, rfl⟩ := hvs
        exact Ev.lenL (hl3.at fun o e => k4.heap _ o e) (by omega)
      · obtain ⟨th, rfl⟩ := hv
        exact wpAny_execs_nil ⟨rfl, th, S5.renam fun m a => .cons (a.get rfl) (.cons (a.get rfl) (.cons (a.get rfl) (.cons (a.get rfl) (.cons (a.get rfl) .nil))))⟩
    · rw [if_neg (by simp)]
      exact wpAny_execs_nil ⟨rfl, th, S3.renam fun m a => .cons (a.get rfl) (.cons (a.get rfl) (.cons (a.get rfl) (.cons (a.get rfl) (.cons (a.get rfl) .nil))))⟩
  obtain ⟨rfl, th, S3⟩ := h3
  dsimp only
  have Gs3 : ∀ {s' vals}, St s [] L vals [] s' → Gd w mg mb s'.heap := fun S' => Gs.keeps S'.out.heap
  have hls : ∀ {s' vals}, St s [] L vals [] s' → s'.heap.IsList la items := fun S' => hl.at fun o e => (k0.trans S'.out).heap _ o e
  refine wpAny_execs_cons (wpAny_mono (Q := fun fl s' => fl = .next ∧ ∃ t th, ∃ hi' : Nat, St s [] L [("lo", .int r t), ("hi", .int hi' th), ("a", .ref la), ("x", .int x tx), ("key", vk)] [] s') ?_ (fun fl s4 h4 => ?_) fun _ _ x => x)
  · refine wpAny_If ((Ev.tIsNone (u := vk) (S3.v (by rfl)) Ev.kN).go fun c s4 k4 hc => ?_)
    cases (hc : c = _)
    have S4 := S3.kps k4
    rcases hk with ⟨rfl, hit⟩ | ⟨fk, o, fd, rfl, ho, hd, hit, hcall⟩
    · rw [if_pos (by rfl)]
      refine wpAny_execs_cons (bis_while (p := fun i => decide (x < f i)) S4 h1 h2 (fun i a b => by simpa using hlo i a b) (fun i a b => by simpa using hup i a b) ?_ (fun s' t th hi' S' => wpAny_execs_nil ⟨rfl, t, th, hi', S'⟩) (by rfl) (by rfl) (by rfl) (by rfl) (by rfl) (by rfl))
      intro lo' hi' mid tl th tm s5 b1 b2 S5 Q E hq1 hq2
      obtain ⟨ti, hti⟩ := hit mid b2
      refine wpAny_If ((Ev.tLt (i := x) (j := f mid) (Ev.asI (S5.v (by rfl))) (Ev.item (R1 := rV (.ref la)) (R2 := rI mid) (S5.v (by rfl)) (Ev.asI (S5.v (by rfl))) monoV ?_)).go fun c s6 k6 hc => ?_)
      · intro v1 v2 s6 k6 r1 r2
        exact (Ev.itemL r1 ((hls S5).at fun o e => k6.heap _ o e) r2 (by omega) (by simpa using hti) (by omega) (fun t => by rfl)).asI
      · cases (hc : c = _)
        have S6 := S5.kps k6
        by_cases hp : x < f mid
        · rw [if_pos (by simpa using hp)]
          refine wpAny_execs_cons (S6.assign (S6.v (by rfl)) fun v s7 s8 k7 hv sb S8 => ?_)
          cases (hv : v = _)
          exact wpAny_execs_nil (hq1 (by simpa using hp) s8 tm (S8.renam fun m a => .cons (a.get rfl) (.cons (a.get rfl) (.cons (a.get rfl) (.cons (a.get rfl) (.cons (a.get rfl) .nil))))))
        · rw [if_neg (by simpa using hp)]
          refine wpAny_execs_cons (S6.assign (R := rI ((mid : Int) + 1)) (Ev.add (Ev.asI (S6.v (by rfl))) Ev.kI) fun v s7 s8 k7 hv sb S8 => ?_)
          obtain ⟨t, rfl⟩ := hv
          exact wpAny_execs_nil (hq2 (by simpa using hp) s8 t (S8.renam fun m a => .cons (a.get rfl) (.cons (a.get rfl) (.cons (a.get rfl) (.cons (a.get rfl) (.cons (a.get rfl) .nil))))))
    · rw [if_neg (by simp)]
      refine wpAny_execs_cons (bis_while (p := fun i => decide (x < f i)) S4 h1 h2 (fun i a b => by simpa using hlo i a b) (fun i a b => by simpa using hup i a b) ?_ (fun s' t th hi' S' => wpAny_execs_nil ⟨rfl, t, th, hi', S'⟩) (by rfl) (by rfl) (by rfl) (by rfl) (by rfl) (by rfl))
      intro lo' hi' mid tl th tm s5 b1 b2 S5 Q E hq1 hq2
      obtain ⟨ti, hti⟩ := hit mid b2
      refine wpAny_If ((Ev.tLt (i := x) (j := f mid) (Ev.asI (S5.v (by rfl))) (Ev.callF (Rs := [rV (.int (mid : Nat) ti)]) (S5.v (by rfl)) ((k0.trans S5.out).heap _ _ ho) hd ?_ ?_)).go fun c s6 k6 hc => ?_)
      · refine Ev.s1 (Ev.item (R1 := rV (.ref la)) (R2 := rI mid) (S5.v (by rfl)) (Ev.asI (S5.v (by rfl))) monoV ?_) monoV
        intro v1 v2 s6 k6 r1 r2
        exact Ev.itemL r1 ((hls S5).at fun o e => k6.heap _ o e) r2 (by omega) (by simpa using hti) (by omega) (fun t => by rfl)
      · intro vs s6 k6 hvs
        obtain ⟨v1, _, rfl, rfl, rfl⟩ := hvs
        exact hcall _ s6 mid ti hA' ((k0.trans S5.out).trans k6) b1 b2
      · cases (hc : c = _)
        have S6 := S5.kps k6
        by_cases hp : x < f mid
        · rw [if_pos (by simpa using hp)]
          refine wpAny_execs_cons (S6.assign (S6.v (by rfl)) fun v s7 s8 k7 hv sb S8 => ?_)
          cases (hv : v = _)
          exact wpAny_execs_nil (hq1 (by simpa using hp) s8 tm (S8.renam fun m a => .cons (a.get rfl) (.cons (a.get rfl) (.cons (a.get rfl) (.cons (a.get rfl) (.cons (a.get rfl) .nil))))))
        · rw [if_neg (by simpa using hp)]
          refine wpAny_execs_cons (S6.assign (R := rI ((mid : Int) + 1)) (Ev.add (Ev.asI (S6.v (by rfl))) Ev.kI) fun v s7 s8 k7 hv sb S8 => ?_)
          obtain ⟨t, rfl⟩ := hv
          exact wpAny_execs_nil (hq2 (by simpa using hp) s8 t (S8.renam fun m a => .cons (a.get rfl) (.cons (a.get rfl) (.cons (a.get rfl) (.cons (a.get rfl) (.cons (a.get rfl) .nil))))))
  obtain ⟨rfl, t, th, hi', S4⟩ := h4
  dsimp only
  refine wpAny_execs_cons (wpAny_Return_some ((S4.v (by rfl)).go fun v s' k hv => ?_))
  cases (hv : v = _)
  exact ⟨_, rfl, S4.out.trans k, t, rfl⟩
theorem bisectL_ev {la : Addr} {items : Array Value} {n lo hi r : Nat} {f : Nat → Int} {x : Int} {tx tlo : Tok} {vhi vk : Value} {args : Args}
    (G : Gd w mg mb b.heap) (hA : Rm A (n + 1)) (hbind : ∀ s, Gd w mg mb s.heap → BindsTo s (kf 66) args [("a", .ref la), ("x", .int x tx), ("lo", .int lo tlo), ("hi", vhi), ("key", vk)])
    (hl : b.heap.IsList la items) (hsz : items.size < 2 ^ 60) (hhi : hi ≤ items.size) (hu : Upto vhi items.size hi) (hk : Probe w b n vk items lo hi f)
    (h1 : lo ≤ r) (h2 : r ≤ hi) (hlo : ∀ i, lo ≤ i → i < r → f i < x) (hup : ∀ i, r ≤ i → i < hi → ¬ f i < x) : Ev (model prg w) A b (call (.ref 66) args.pos args.kw) (rI r) := by
  refine Ev.fn (fd := kf 66) (body := bodyOf (kf 66)) (binds := [("a", .ref la), ("x", .int x tx), ("lo", .int lo tlo), ("hi", vhi), ("key", vk)]) (G.fn 66 _ (by kernel_rfl)) G.wd.lim hA.room (by kernel_rfl) (fun s ks => hbind s (G.keeps ks.heap)) (by kernel_rfl) fun s L s₁ k0 hL k1 hn => ?_
  have hA' : Rm (A.deeper (envF (kf 66) L 66)) n := hA.deeper
  have Gs := G.keeps k0.heap
  have S : St s [] L [("key", vk), ("hi", vhi), ("lo", .int lo tlo), ("x", .int x tx), ("a", .ref la)] [] s₁ :=
    ⟨k1.same, fun b o _ e => k1.heap b o e, ⟨_, hn, lookup_reverse5 rfl⟩, by subst hL; exact Heap.get?_none_of_le (Nat.le_refl _), by simp, by simp, List.Pairwise.nil, by simp, by simp⟩
  generalize hAA : A.deeper (envF (kf 66) L 66) = A' at hA'
  refine wpAny_execs_cons (wpAny_If ((Ev.tLt (i := lo) (j := 0) (Ev.asI (S.v (by rfl))) Ev.kI).go fun c s2 k2 hc => ?_))
  cases (hc : c = _)
  rw [if_neg (by simp)]
  refine wpAny_execs_nil ?_
  have S2 := S.kps k2
  refine wpAny_execs_cons (wpAny_mono (Q := fun fl s' => fl = .next ∧ ∃ th, St s [] L [("lo", .int lo tlo), ("hi", .int hi th), ("a", .ref la), ("x", .int x tx), ("key", vk)] [] s') ?_ (fun fl s3 h3 => ?_) fun _ _ x => x)
  · refine wpAny_If ((Ev.tIsNone (u := vhi) (S2.v (by rfl)) Ev.kN).go fun c s3 k3 hc => ?_)
    cases (hc : c = _)
    have S3 := S2.kps k3
    rcases hu with ⟨rfl, rfl⟩ | ⟨th, rfl⟩
    · rw [if_pos (by rfl)]
      have hl3 : s3.heap.IsList la items := hl.at fun o e => ((k0.trans k1).trans (k2.trans k3)).heap _ o e
      have G3 := ((Gs.keeps k1.heap).keeps k2.heap).keeps k3.heap
      refine wpAny_execs_cons (S3.assign (R := rI items.size) (Ev.callB (Rs := [rV (.ref la)]) (Ev.blt G3.wd (G3.mgl "len" none (by kernel_rfl)) (G3.mbl "len" (.builtin "len") (by kernel_rfl) (by decide +kernel))) ?_ ?_) fun v s4 s5 k4 hv sb S5 => ?_)
      · exact Ev.s1 (S3.v (by rfl)) monoV
      · intro vs s4 k4 hvs
        obtain ⟨v1, _, rfl, rfl, rfl⟩ := hvs
        exact Ev.lenL (hl3.at fun o e => k4.heap _ o e) (by omega)
      · obtain ⟨th, rfl⟩ := hv
        exact wpAny_execs_nil ⟨rfl, th, S5.renam fun m a => .cons (a.get rfl) (.cons (a.get rfl) (.cons (a.get rfl) (.cons (a.get rfl) (.cons (a.get rfl) .nil))))⟩
    · rw [if_neg (by simp)]
      exact wpAny_execs_nil ⟨rfl, th, S3.renam fun m a => .cons (a.get rfl) (.cons (a.get rfl) (.cons (a.get rfl) (.cons (a.get rfl) (.cons (a.get rfl) .nil))))⟩
  obtain ⟨rfl, th, S3⟩ := h3
  dsimp only
  have Gs3 : ∀ {s' vals}, St s [] L vals [] s' → Gd w mg mb s'.heap := fun S' => Gs.keeps S'.out.heap
  have hls : ∀ {s' vals}, St s [] L vals [] s' → s'.heap.IsList la items := fun S' => hl.at fun o e => (k0.trans S'.out).heap _ o e
  refine wpAny_execs_cons (wpAny_mono (Q := fun fl s' => fl = .next ∧ ∃ t th, ∃ hi' : Nat, St s [] L [("lo", .int r t), ("hi", .int hi' th), ("a", .ref la), ("x", .int x tx), ("key", vk)] [] s') ?_ (fun fl s4 h4 => ?_) fun _ _ x => x)
  · refine wpAny_If ((Ev.tIsNone (u := vk) (S3.v (by rfl)) Ev.kN).go fun c s4 k4 hc => ?_)
    cases (hc : c = _)
    have S4 := S3.kps k4
    rcases hk with ⟨rfl, hit⟩ | ⟨fk, o, fd, rfl, ho, hd, hit, hcall⟩
    · rw [if_pos (by rfl)]
      refine wpAny_execs_cons (bis_while (p := fun i => decide (¬ f i < x)) S4 h1 h2 (fun i a b => by simpa using hlo i a b) (fun i a b => by simpa using hup i a b) ?_ (fun s' t th hi' S' => wpAny_execs_nil ⟨rfl, t, th, hi', S'⟩) (by rfl) (by rfl) (by rfl) (by rfl) (by rfl) (by rfl))
      intro lo' hi' mid tl th tm s5 b1 b2 S5 Q E hq1 hq2
      obtain ⟨ti, hti⟩ := hit mid b2
      refine wpAny_If ((Ev.tLt (i := f mid) (j := x) (Ev.item (R1 := rV (.ref la)) (R2 := rI mid) (S5.v (by rfl)) (Ev.asI (S5.v (by rfl))) monoV ?_) (Ev.asI (S5.v (by rfl)))).go fun c s6 k6 hc => ?_)
      · intro v1 v2 s6 k6 r1 r2
        exact (Ev.itemL r1 ((hls S5).at fun o e => k6.heap _ o e) r2 (by omega) (by simpa using hti) (by omega) (fun t => by rfl)).asI
      · cases (hc : c = _)
        have S6 := S5.kps k6
        by_cases hp : f mid < x
        · rw [if_pos (by simpa using hp)]
          refine wpAny_execs_cons (S6.assign (R := rI ((mid : Int) + 1)) (Ev.add (Ev.asI (S6.v (by rfl))) Ev.kI) fun v s7 s8 k7 hv sb S8 => ?_)
          obtain ⟨t, rfl⟩ := hv
          exact wpAny_execs_nil (hq2 (by simpa using hp) s8 t (S8.renam fun m a => .cons (a.get rfl) (.cons (a.get rfl) (.cons (a.get rfl) (.cons (a.get rfl) (.cons (a.get rfl) .nil))))))
        · rw [if_neg (by simpa using hp)]
          refine wpAny_execs_cons (S6.assign (S6.v (by rfl)) fun v s7 s8 k7 hv sb S8 => ?_)
          cases (hv : v = _)
          exact wpAny_execs_nil (hq1 (by simpa using hp) s8 tm (S8.renam fun m a => .cons (a.get rfl) (.cons (a.get rfl) (.cons (a.get rfl) (.cons (a.get rfl) (.cons (a.get rfl) .nil))))))
    · rw [if_neg (by simp)]
      refine wpAny_execs_cons (bis_while (p := fun i => decide (¬ f i < x)) S4 h1 h2 (fun i a b => by simpa using hlo i a b) (fun i a b => by simpa using hup i a b) ?_ (fun s' t th hi' S' => wpAny_execs_nil ⟨rfl, t, th, hi', S'⟩) (by rfl) (by rfl) (by rfl) (by rfl) (by rfl) (by rfl))
      intro lo' hi' mid tl th tm s5 b1 b2 S5 Q E hq1 hq2
      obtain ⟨ti, hti⟩ := hit mid b2
      refine wpAny_If ((Ev.tLt (i := f mid) (j := x) (Ev.callF (Rs := [rV (.int (mid : Nat) ti)]) (S5.v (by rfl)) ((k0.trans S5.out).heap _ _ ho) hd ?_ ?_) (Ev.asI (S5.v (by rfl)))).go fun c s6 k6 hc => ?_)
      · refine Ev.s1 (Ev.item (R1 := rV (.ref la)) (R2 := rI mid) (S5.v (by rfl)) (Ev.asI (S5.v (by rfl))) monoV ?_) monoV
        intro v1 v2 s6 k6 r1 r2
        exact Ev.itemL r1 ((hls S5).at fun o e => k6.heap _ o e) r2 (by omega) (by simpa using hti) (by omega) (fun t => by rfl)
      · intro vs s6 k6 hvs
        obtain ⟨v1, _, rfl, rfl, rfl⟩ := hvs
        exact hcall _ s6 mid ti hA' ((k0.trans S5.out).trans k6) b1 b2
      · cases (hc : c = _)
        have S6 := S5.kps k6
        by_cases hp : f mid < x
        · rw [if_pos (by simpa using hp)]
          refine wpAny_execs_cons (S6.assign (R := rI ((mid : Int) + 1)) (Ev.add (Ev.asI (S6.v (by rfl))) Ev.kI) fun v s7 s8 k7 hv sb S8 => ?_)
          obtain ⟨t, rfl⟩ := hv
          exact wpAny_execs_nil (hq2 (by simpa using hp) s8 t (S8.renam fun m a => .cons (a.get rfl) (.cons (a.get rfl) (.cons (a.get rfl) (.cons (a.get rfl) (.cons (a.get rfl) .nil))))))
        · rw [if_neg (by simpa using hp)]
          refine wpAny_execs_cons (S6.assign (S6.v (by rfl)) fun v s7 s8 k7 hv sb S8 => ?_)
          cases (hv : v = _)
          exact wpAny_execs_nil (hq1 (by simpa using hp) s8 tm (S8.renam fun m a => .cons (a.get rfl) (.cons (a.get rfl) (.cons (a.get rfl) (.cons (a.get rfl) (.cons (a.get rfl) .nil))))))
  obtain ⟨rfl, t, th, hi', S4⟩ := h4
  dsimp only
  refine wpAny_execs_cons (wpAny_Return_some ((S4.v (by rfl)).go fun v s' k hv => ?_))
  cases (hv : v = _)
  exact ⟨_, rfl, S4.out.trans k, t, rfl⟩
end
end Mine

end

/- E03 -/
section
open PySem PySem.Calls PyProof.Rows
namespace Mine
set_option maxRecDepth 100000
set_option linter.unusedVariables false

section
variable {w : World} {A : Around} {b : Shared} {mg mb : Str → Option Value}

theorem fm (n : Int) {k : Int} (h : 0 < k) : n.fmod k = n % k := by rw [Int.fmod_eq_emod_of_nonneg _ (by omega)]
theorem fd' (n : Int) {k : Int} (h : 0 < k) : n.fdiv k = n / k := by rw [Int.fdiv_eq_ediv_of_nonneg _ (by omega)]

theorem Gd.blt {env : Env} {x : Str} {v : Value} {pos : Pos} (G : Gd w mg mb b.heap) (h1 : PySem.W.nsIn (hd.heap_39 w.params) 3 x = some none) (h2 : bootBuiltins x = some v) (h3 : x ≠ "__name__") (hg : env.globals = mainGlobals) (hb : env.builtins = builtinsNs) (hk : env.scope.kind = .function) (hx : env.kindOf x = some .globalImplicit)
    (hd : (x == ("__debug__" : Str)) = false) : Ev (model prg w) A b (eval (.Name x pos) env) (rV v) := Ev.blt G.wd (G.mgl x none h1) (G.mbl x v h2 h3) hg hb hk hx hd

section
variable {env : Env}
theorem len_ev {ex : Expr} {p pos : Pos} {x : Str} (G : Gd w mg mb b.heap) (hx : Ev (model prg w) A b (eval ex env) (rS x)) (hsz : x.length < 2 ^ 62) (hg : env.globals = mainGlobals := by rfl) (hb : env.builtins = builtinsNs := by rfl) (hk : env.scope.kind = .function := by rfl) (hkd : env.kindOf "len" = some .globalImplicit := by rfl)
    (hs : backTo pos (starEach [ex] env) = (false, eval ex env) :: evs [] env := by rfl) : Ev (model prg w) A b (eval (.Call (.Name "len" p) [ex] [] pos) env) (rI x.length) := by
  refine Ev.callB (Rs := [rS x]) (G.blt (v := .builtin "len") (by kernel_rfl) (by kernel_rfl) (by decide +kernel) hg hb hk hkd (by decide +kernel)) (Ev.s1 hx monoS) (fun vs s3 k3 hvs => ?_) (by rfl) hs (by rfl)
  obtain ⟨x1, _, rfl, q1, rfl⟩ := hvs
  exact Ev.lenS q1 hsz
theorem lenL_ev {ex : Expr} {p pos : Pos} {P : Array Value → Prop} {n : Nat} (G : Gd w mg mb b.heap) (hx : Ev (model prg w) A b (eval ex env) (rList P)) (hP : ∀ its, P its → its.size = n) (hsz : n < 2 ^ 62) (hg : env.globals = mainGlobals := by rfl) (hb : env.builtins = builtinsNs := by rfl) (hk : env.scope.kind = .function := by rfl) (hkd : env.kindOf "len" = some .globalImplicit := by rfl)
    (hs : backTo pos (starEach [ex] env) = (false, eval ex env) :: evs [] env := by rfl) : Ev (model prg w) A b (eval (.Call (.Name "len" p) [ex] [] pos) env) (rI n) := by
  refine Ev.callB (Rs := [rList P]) (G.blt (v := .builtin "len") (by kernel_rfl) (by kernel_rfl) (by decide +kernel) hg hb hk hkd (by decide +kernel)) (Ev.s1 hx monoList) (fun vs s3 k3 hvs => ?_) (by rfl) hs (by rfl)
  obtain ⟨x1, _, rfl, ⟨a, its, rfl, hl, hp⟩, rfl⟩ := hvs
  have := Ev.lenL (prog := prg) (w := w) (A := A) hl (by rw [hP _ hp]; exact hsz)
  rw [hP _ hp] at this
  exact this
theorem range1_ev {ex : Expr} {p pos : Pos} {n : Int} (G : Gd w mg mb b.heap) (hx : Ev (model prg w) A b (eval ex env) (rI n)) (hg : env.globals = mainGlobals := by rfl) (hb : env.builtins = builtinsNs := by rfl) (hk : env.scope.kind = .function := by rfl) (hkd : env.kindOf "range" = some .globalImplicit := by rfl)
    (hs : backTo pos (starEach [ex] env) = (false, eval ex env) :: evs [] env := by rfl) : Ev (model prg w) A b (eval (.Call (.Name "range" p) [ex] [] pos) env) (rRange 0 n 1) := by
  refine Ev.callB (Rs := [rI n]) (G.blt (v := .type "range") (by kernel_rfl) (by kernel_rfl) (by decide +kernel) hg hb hk hkd (by decide +kernel)) (Ev.s1 hx monoI) (fun vs s3 k3 hvs => ?_) (by rfl) hs (by rfl)
  obtain ⟨x1, _, rfl, q1, rfl⟩ := hvs
  exact Ev.range1 q1
theorem range2_ev {e1 e2 : Expr} {p pos : Pos} {i j : Int} (G : Gd w mg mb b.heap) (h1 : Ev (model prg w) A b (eval e1 env) (rI i)) (h2 : Ev (model prg w) A b (eval e2 env) (rI j)) (hg : env.globals = mainGlobals := by rfl) (hb : env.builtins = builtinsNs := by rfl) (hk : env.scope.kind = .function := by rfl) (hkd : env.kindOf "range" = some .globalImplicit := by rfl)
    (hs : backTo pos (starEach [e1, e2] env) = (false, eval e1 env) :: evs [e2] env := by rfl) : Ev (model prg w) A b (eval (.Call (.Name "range" p) [e1, e2] [] pos) env) (rRange i j 1) := by
  refine Ev.callB (Rs := [rI i, rI j]) (G.blt (v := .type "range") (by kernel_rfl) (by kernel_rfl) (by decide +kernel) hg hb hk hkd (by decide +kernel)) (Ev.s2 h1 monoI h2 monoI) (fun vs s3 k3 hvs => ?_) (by rfl) hs (by rfl)
  obtain ⟨x1, _, rfl, q1, x2, _, rfl, q2, rfl⟩ := hvs
  exact Ev.range2 q1 q2
/-- list(range(..)), counted -/
theorem listRange_ev {ex : Expr} {p pos : Pos} {i j : Int} {n : Nat} (G : Gd w mg mb b.heap) (hh : A.handled = none) (hx : Ev (model prg w) A b (eval ex env) (rRange i j 1)) (hi : -1000000 ≤ i) (hj : j ≤ 1000000) (hij : i ≤ j) (hn : j - i = n) (hg : env.globals = mainGlobals := by rfl) (hb : env.builtins = builtinsNs := by rfl) (hk : env.scope.kind = .function := by rfl) (hkd : env.kindOf "list" = some .globalImplicit := by rfl)
    (hs : backTo pos (starEach [ex] env) = (false, eval ex env) :: evs [] env := by rfl) : Ev (model prg w) A b (eval (.Call (.Name "list" p) [ex] [] pos) env) (rNew b fun its => its.size = n ∧ ∀ k, k < n → ∃ t, its[k]? = some (.int (i + (k : Int)) t)) := by
  refine Ev.callB (Rs := [rRange i j 1]) (G.blt (v := .type "list") (by kernel_rfl) (by kernel_rfl) (by decide +kernel) hg hb hk hkd (by decide +kernel)) (Ev.s1 hx monoRange) (fun vs s3 k3 hvs => ?_) (by rfl) hs (by rfl)
  obtain ⟨x1, _, rfl, q1, rfl⟩ := hvs
  exact (Ev.listRange hh q1 (small_one (by omega) (by omega) (by omega) (by omega)) (by rw [size_up hij, hn]; simp) (by omega)).nb k3
end

theorem T_beq (c d : Nat) : (T [c] == T [d]) = (c == d) := by
  rw [Bool.eq_iff_iff, beq_iff_eq, beq_iff_eq]
  constructor
  · intro h; simpa using congrArg (fun s : Str => s.cps.toList) h
  · intro h; rw [h]
theorem T_bne (c d : Nat) : (T [c] != T [d]) = (c != d) := by unfold bne; rw [T_beq]
theorem T_app (a b : List Nat) : (T a ++ T b : Str) = T (a ++ b) := by show Str.append _ _ = _; simp [Str.append]
theorem strsAre_length {vs : List Value} {ys : List Str} (h : StrsAre vs ys) : vs.length = ys.length := by
  induction h with
  | nil => rfl
  | cons y t r ih => simp [ih]

/-- what stands in the table's row -/
def begs (l : List Nat) : List Str := (List.range (l.length + 1)).map fun k => T (beg 10 (l.take k))

theorem beg_snoc : ∀ (l : List Nat) (last c : Nat), beg last (l ++ [c]) = beg last l ++ piece (if l = [] then last else l.getLastD 0) c
  | [], last, c => by simp [beg]
  | d :: r, last, c => by
    rw [List.cons_append, beg, beg, beg_snoc r d c, List.append_assoc]
    congr 2
    cases r with
    | nil => simp
    | cons e r => simp
end
end Mine

end

/- Lc -/
section
open PySem PySem.Calls PyProof.Rows
namespace Mine
set_option maxRecDepth 100000
set_option linter.unusedVariables false

/-- nothing -/
def eU : Ent where
  fp := []
  P := fun _ => True
  loc := fun _ x => x
  has := fun _ b hb => by cases hb
/-- a frame -/
def eN (C : Addr) : Ent where
  fp := [C]
  P := fun h => ∃ m, h.Ns C m
  loc := fun k ⟨m, n⟩ => ⟨m, n.at' fun o q => k C (by simp) o q⟩
  has := fun ⟨m, ⟨o, _, _, q, _⟩⟩ b hb => by simp at hb; subst hb; exact ⟨_, q⟩

section
variable {prog : Program} {w : World} {A : Around}

/-- what is walked through, sign by sign -/
def Its (prog : Program) (w : World) (A : Around) (b : Shared) (n : Nat) (P : Nat → Value → Prop) (v : Value) : Prop :=
  ∀ s, Kps b s → ∀ (Q : Value → Shared → Prop) (E : Value → Shared → Prop),
    (∀ ia e Cc s', Itr prog w A ia n P Cc e → (∀ i (s : Shared) (Q : Value → Shared → Prop) (E : Value → Shared → Prop), (e i).P s.heap → Q (.ref ia) s → wpAny (model prog w) A (pyIter (.ref ia)) Q E s) →
      Kps s s' → s.heap.get? ia = none → (e 0).P s'.heap → (∀ h, Kp b.heap h → Cc h) → Q (.ref ia) s') → wpAny (model prog w) A (pyIter v) Q E s

theorem Its.range {b : Shared} {i j c : Int} {n : Nat} {v : Value} (hh : A.handled = none) (h : rRange i j c v b.heap) (hsm : Builtin.Range.small i j c = true) (hn : Builtin.Range.rangeSize i j c = n) :
    Its prog w A b n (fun k v => ∃ t, v = .int (i + k * c) t) v := fun s ks Q E hQ => by
  obtain ⟨r, t, u, x, rfl, hr⟩ := h
  refine wpAny_pyIter_range (ks.heap _ _ hr) hsm ?_
  refine hQ _ _ _ _ (Itr.range hh s.heap.objs.size i c n) (fun k s Q E st hQ => wpAny_pyIter_rangeiter st hQ) (Kps.push s _ s.toks) (fresh_size (Kps.refl s)) ?_ fun _ _ => trivial
  show IsRangeIter _ _ _ _ _
  rw [hn]
  have e1 : i + ((0 : Nat) : Int) * c = i := by simp
  have e2 : ((n : Int) - ((0 : Nat) : Int)) = n := by simp
  rw [e1, e2]
  exact Heap.get?_push_size _ rfl
theorem Its.list {b : Shared} {ax : Addr} {items : Array Value} (hh : A.handled = none) (h : b.heap.IsList ax items) : Its prog w A b items.size (fun k v => items[k]? = some v) (.ref ax) := fun s ks Q E hQ => by
  have hl := h.at fun o e => ks.heap _ o e
  refine wpAny_pyIter_list hl ?_
  refine hQ _ _ _ _ (Itr.list hh s.heap.objs.size ax items) (fun k s Q E st hQ => wpAny_pyIter_listiter st hQ) (Kps.push s _ s.toks) (fresh_size (Kps.refl s)) ?_ fun h' k => h.at fun o e => k _ o e
  exact ⟨_, Heap.get?_push_size _ rfl, rfl, rfl⟩
theorem Its.str {b : Shared} {x : Str} {v : Value} (hh : A.handled = none) (h : rS x v b.heap) : Its prog w A b x.cps.size (fun i v => ∃ c u, x.cps[i]? = some c ∧ v = .str ⟨#[c]⟩ u) v := fun s ks Q E hQ => by
  obtain ⟨t, rfl⟩ := h
  cases ha : x.cps.all (· < 128) with
  | true =>
    refine wpAny_pyIter_ascii ha ?_
    exact hQ _ _ _ _ (Itr.ascii hh s.heap.objs.size x t) (fun k s Q E st hQ => wpAny_pyIter_striter_ascii st hQ) (Kps.push s _ s.toks) (fresh_size (Kps.refl s)) ⟨_, Heap.get?_push_size _ rfl, rfl, rfl⟩ fun _ _ => trivial
  | false =>
    refine wpAny_pyIter_wide ha ?_
    exact hQ _ _ _ _ (Itr.wide hh s.heap.objs.size x t) (fun k s Q E st hQ => wpAny_pyIter_striter_wide st hQ) (Kps.push s _ s.toks) (fresh_size (Kps.refl s)) ⟨_, Heap.get?_push_size _ rfl, rfl, rfl⟩ fun _ _ => trivial

/-- the tests behind a comprehension's for -/
abbrev tst (ifs : List Expr) (env : Env) : Sem Bool := forIn ifs true fun c r => if r = true then do let ok ← isTrue c env (eval c env); pure (ForInStep.yield ok) else pure (ForInStep.yield r)
theorem Ev.tst0 {M : Model} {b : Shared} {env : Env} : Ev M A b (tst [] env) (rB true) := Ev.fin fun _ _ => rfl
theorem Ev.tst1 {M : Model} {b : Shared} {env : Env} {c : Expr} {ok : Bool} (h : Ev M A b (isTrue c env (eval c env)) (rB ok)) : Ev M A b (tst [c] env) (rB ok) := by
  unfold tst
  rw [List.forIn_cons]
  simp only [if_true]
  refine Ev.seq (R := fun (r : ForInStep Bool) _ => r = .yield ok) (Ev.seq h fun v s ks hv => by cases (hv : v = ok); exact Ev.fin fun _ _ => rfl) fun v s ks hv => ?_
  subst hv
  exact Ev.fin fun _ _ => rfl
end

section
variable {prog : Program} {w : World} {A : Around} {s : Shared}

/-- the loop of a comprehension -/
theorem comp_loop {s₀ : Shared} {X : List Addr} {ia D : Addr} {n : Nat} {P : Nat → Value → Prop} {Cc : Heap → Prop} {e : Nat → Ent} {elt iter : Expr} {x : Str} {px : Pos} {ifs : List Expr} {scope : Scope} {pos : Pos} {cenv : Env} {R : Result → Shared → Prop} {l : List Ent}
    (J : Nat → Array Value → List Ent → Prop) (I : Itr prog w A ia n P Cc e) (hC : ∀ i ys l s vals, i ≤ n → J i ys l → St s₀ X cenv.locals vals (e i :: eL D ys :: l) s → Cc s.heap)
    (turn : ∀ i ys l s v, i < n → J i ys l → P i v → St s₀ X cenv.locals [(x, v)] (e (i + 1) :: eL D ys :: l) s → ∀ (E : Value → Shared → Prop),
      wpAny (model prog w) A (tst ifs cenv) (fun ok s₃ => if ok = true then wpAny (model prog w) A (eval elt cenv) (fun y s₄ => ys.size ≤ 100000 ∧ ∃ l', J (i + 1) (ys.push y) l' ∧ St s₀ X cenv.locals [(x, v)] (e (i + 1) :: eL D ys :: l') s₄) E s₃
        else ∃ l', J (i + 1) ys l' ∧ St s₀ X cenv.locals [(x, v)] (e (i + 1) :: eL D ys :: l') s₃) E s)
    (S : St s₀ X cenv.locals [] (e 0 :: eL D #[] :: l) s) (h0 : J 0 #[] l) (hR : ∀ ys l s, J n ys l → St s₀ X cenv.locals [] (eL D ys :: l) s → R (.ok .next) s)
    (hx : cenv.kindOf x = some .local) (hp : (cenv.scope.kind == .class || (cenv.scope.kind == .module && cenv.locals != cenv.globals)) = false) :
    codeAny (model prog w) A (.compLoop (.ListComp elt [⟨.Name x px, iter, ifs, 0⟩] scope pos) 0 (.ref ia) (.ref D) cenv) R s := by
  refine codeAny_compLoop_tests (fun k s' => ∃ i ys l, J i ys l ∧ St s₀ X cenv.locals [] (e i :: eL D ys :: l) s' ∧ i ≤ n ∧ k = n - i) ?_ n ⟨0, #[], l, h0, S, Nat.zero_le _, rfl⟩
  rintro k s' ⟨i, ys, l, hJ, S', hi, rfl⟩
  by_cases hlt : i < n
  · refine I.item i s' _ _ hlt S'.at0 (hC i ys l s' _ hi hJ S') fun v h' tk hv he hk => ?_
    have S2 : St s₀ X cenv.locals [] (e (i + 1) :: eL D ys :: l) { s' with heap := h', toks := tk } := S'.upd0 (by rw [I.fp]; exact fun b o hb q => hk b o (by simpa using hb) q) (by rw [I.fp, I.fp]) he
    refine wpAny_assign_Name (S2.store (fun s3 S3 _ => ?_) rfl hx hp)
    refine wpAny_mono (turn i ys l s3 v hlt hJ hv S3 _) (fun ok s4 h4 => ?_) fun _ _ q => q
    cases ok with
    | false =>
      simp only [Bool.false_eq_true, if_false] at h4 ⊢
      obtain ⟨l', hJ', S4⟩ := h4
      exact ⟨n - (i + 1), by omega, i + 1, ys, l', hJ', S4.renam fun m a => Agree.nil, hlt, rfl⟩
    | true =>
      simp only [if_true] at h4 ⊢
      refine wpAny_mono h4 (fun y s5 h5 => ?_) fun _ _ q => q
      obtain ⟨hsz, l', hJ', S5⟩ := h5
      exact call_append S5 (pre := [e (i + 1)]) rfl hsz fun s6 S6 => ⟨n - (i + 1), by omega, i + 1, ys.push y, l', hJ', S6.renam fun m a => Agree.nil, hlt, rfl⟩
  · have : i = n := by omega
    subst this
    refine I.done s' _ _ S'.at0 (hC i ys l s' _ hi hJ S') fun h' tk hk => ?_
    have hfp : ia ∈ (e i).fp := by rw [I.fp]; simp
    have nw := S'.new _ (.head _) ia hfp
    have S0 := S'.drop0
    refine hR ys l _ hJ { same := ?_, keep := ?_, ns := ?_, Lnew := S'.Lnew, LX := S'.LX, own := ?_, nd := S0.nd, ndL := S0.ndL, new := S0.new }
    · obtain ⟨h, tk, q⟩ := S'.same; exact ⟨h', _, by rw [q]⟩
    · intro b o hb q
      refine hk b o (fun p => ?_) (S'.keep b o hb q)
      subst p
      rcases nw with h1 | h1
      · exact hb h1
      · rw [h1] at q; cases q
    · obtain ⟨m, nn, a⟩ := S'.ns
      exact ⟨m, nn.at' fun o q => hk _ o (fun p => S'.ndL _ (.head _) (p ▸ hfp)) q, a⟩
    · intro x hx
      exact x.loc (fun a ha o q => hk a o (fun p => (List.pairwise_cons.mp S'.nd).1 x hx ia hfp (p ▸ ha)) q) (S0.own x hx)

/-- conditions on the comprehension's scope -/
def okComp (scope : Scope) (x : Str) : Bool := (scope.names.all fun y => y.2 != .cell) && scope.kind == .function && (scope.names.all fun y => y.2 != .local || scope.names.lookup y.1 == some .local) && scope.names.lookup x == some .local
theorem okComp.spec {scope : Scope} {x : Str} (h : okComp scope x = true) : (∀ y ∈ scope.names, y.2 ≠ .cell) ∧ scope.kind = .function ∧ (∀ y ∈ scope.names, y.2 = .local → scope.names.lookup y.1 = some .local) ∧ scope.names.lookup x = some .local := by
  unfold okComp at h
  simp only [Bool.and_eq_true, List.all_eq_true, beq_iff_eq, Bool.or_eq_true, bne_iff_ne, ne_eq] at h
  obtain ⟨⟨⟨h1, h2⟩, h3⟩, h4⟩ := h
  exact ⟨h1, h2, fun y hy hl => (h3 y hy).resolve_left (fun n => n hl), h4⟩

/-- the whole comprehension, the iterator at hand; C and D are new, all of s kept but X -/
theorem comp_block {env : Env} {s₀ : Shared} {X : List Addr} {ia : Addr} {n : Nat} {P : Nat → Value → Prop} {Cc : Heap → Prop} {e : Nat → Ent} {elt iter : Expr} {x : Str} {px : Pos} {ifs : List Expr} {scope : Scope} {cl : List (Str × Addr)} {pos : Pos} {RR : Value → Addr → Result → Shared → Prop} {l : List Ent} {E : Value → Shared → Prop}
    (J : Nat → Array Value → List Ent → Prop) (I : Itr prog w A ia n P Cc e) (hself : ∀ i (s : Shared) (Q : Value → Shared → Prop) (E : Value → Shared → Prop), (e i).P s.heap → Q (.ref ia) s → wpAny (model prog w) A (pyIter (.ref ia)) Q E s)
    (hsc : okComp scope x = true) (hst : (e 0).P s.heap) (hC : ∀ h, (∀ b o, b ∉ X → s₀.heap.get? b = some o → h.get? b = some o) → Cc h)
    (k : Kps s₀ s) (hia : s₀.heap.get? ia = none) (hiaX : ia ∉ X) (hX : ∀ a ∈ X, a < s.heap.objs.size) (hl : ∀ y ∈ l, y.P s.heap) (hnd : l.Pairwise fun e e' => ∀ a ∈ e.fp, a ∉ e'.fp) (hnew : ∀ y ∈ l, ∀ a ∈ y.fp, a ∈ X)
    (turn : ∀ C D i ys l s v, s₀.heap.get? C = none → i < n → J i ys l → P i v → St s₀ X C [(x, v)] (e (i + 1) :: eL D ys :: l) s → ∀ (E : Value → Shared → Prop),
      wpAny (model prog w) A (tst ifs (compEnvC scope cl C env)) (fun ok s₃ => if ok = true then wpAny (model prog w) A (eval elt (compEnvC scope cl C env)) (fun y s₄ => ys.size ≤ 100000 ∧ ∃ l', J (i + 1) (ys.push y) l' ∧ St s₀ X C [(x, v)] (e (i + 1) :: eL D ys :: l') s₄) E s₃
        else ∃ l', J (i + 1) ys l' ∧ St s₀ X C [(x, v)] (e (i + 1) :: eL D ys :: l') s₃) E s)
    (h0 : J 0 #[] l) (hR : ∀ C D ys l s', J n ys l → St s₀ X C [] (eL D ys :: l) s' → s.heap.get? C = none → s.heap.get? D = none → RR (.ref D) C (.ok .next) s') :
    wpAny (model prog w) A (newList []) (fun acc s₃ => wpAny (model prog w) A (newFunctionEnv scope env.globals cl [] env.qual none .none (some env)) (fun cenv s₄ =>
      codeAny (model prog w) A (.compStart (.ListComp elt [⟨.Name x px, iter, ifs, 0⟩] scope pos) 0 (.ref ia) acc { cenv with scope := relabel scope env }) (RR acc cenv.locals) s₄) E s₃) E s := by
  obtain ⟨hcell, hkind, hnames, hx⟩ := okComp.spec hsc
  refine wpAny_newObj_type (wpAny_newFunctionEnv hcell (by intro y hy; simp at hy) (fun h₁ hns₁ hsb₁ => ?_) hkind)
  dsimp only at hns₁ hsb₁ ⊢
  generalize hH2 : s.heap.push { cls := .type "list", dict := none, data := .seq ([] : List Value).toArray } = H2 at hns₁ hsb₁ ⊢
  have hCs : H2.objs.size = s.heap.objs.size + 1 := by rw [← hH2, Heap.size_push]
  have old : ∀ b o, s.heap.get? b = some o → h₁.get? b = some o := fun b o q => hsb₁.extBut b o (by rw [hCs]; exact Nat.ne_of_lt (Nat.lt_succ_of_lt (Heap.lt_size q))) (Heap.get?_push_of_some _ (hH2 ▸ Heap.get?_push_of_some _ q))
  have hDC : @Ne Nat s.heap.objs.size H2.objs.size := by rw [hCs]; exact Nat.ne_of_lt (Nat.lt_succ_self _)
  have hacc : h₁.PlainList s.heap.objs.size #[] := ⟨_, hsb₁.extBut _ _ hDC (Heap.get?_push_of_some _ (hH2 ▸ Heap.get?_push_size _ rfl))⟩
  have hia' : ∃ o, s.heap.get? ia = some o := (e 0).has hst ia (by rw [I.fp]; simp)
  have nC : s.heap.get? H2.objs.size = none := Heap.get?_none_of_le (by rw [hCs]; exact Nat.le_succ _)
  have nD : s.heap.get? s.heap.objs.size = none := Heap.get?_none_of_le (Nat.le_refl _)
  have up : ∀ a, s.heap.get? a = none → s₀.heap.get? a = none := fun a h => by
    cases q : s₀.heap.get? a with
    | none => rfl
    | some o => rw [k.heap _ _ q] at h; cases h
  have S : St s₀ X H2.objs.size [] (e 0 :: eL s.heap.objs.size #[] :: l) { s with heap := h₁, toks := s.toks + ([] : List (Str × Value)).length } := {
    same := by obtain ⟨h, tk, q⟩ := k.same; exact ⟨h₁, _, by rw [q]⟩
    keep := fun b o _ q => old b o (k.heap b o q)
    ns := ⟨_, hns₁, Agree.nil⟩
    Lnew := up _ nC
    LX := fun h => by have := hX _ h; rw [hCs] at this; exact absurd this (Nat.not_lt.mpr (Nat.le_succ _))
    own := by
      intro y hy
      rcases List.mem_cons.mp hy with rfl | hy
      · exact (e 0).loc (fun a _ o q => old a o q) hst
      · rcases List.mem_cons.mp hy with rfl | hy
        · exact hacc
        · exact y.loc (fun a _ o q => old a o q) (hl y hy)
    nd := by
      refine List.pairwise_cons.mpr ⟨fun y hy a ha => ?_, List.pairwise_cons.mpr ⟨fun y hy a ha hay => ?_, hnd⟩⟩
      · rw [I.fp] at ha
        simp at ha; subst ha
        rcases List.mem_cons.mp hy with rfl | hy
        · intro h
          simp [eL] at h
          obtain ⟨o, q⟩ := hia'
          rw [h, nD] at q; cases q
        · exact fun h => hiaX (hnew y hy _ h)
      · simp [eL] at ha; subst ha
        obtain ⟨o, q⟩ := y.has (hl y hy) _ hay
        rw [nD] at q; cases q
    ndL := by
      intro y hy h
      rcases List.mem_cons.mp hy with rfl | hy
      · rw [I.fp] at h; simp at h
        obtain ⟨o, q⟩ := hia'
        rw [← h, nC] at q; cases q
      · rcases List.mem_cons.mp hy with rfl | hy
        · simp [eL] at h; exact hDC h.symm
        · obtain ⟨o, q⟩ := y.has (hl y hy) _ h
          rw [nC] at q; cases q
    new := by
      intro y hy a ha
      rcases List.mem_cons.mp hy with rfl | hy
      · rw [I.fp] at ha; simp at ha; subst ha; exact .inr hia
      · rcases List.mem_cons.mp hy with rfl | hy
        · simp [eL] at ha; subst ha; exact .inr (up _ nD)
        · exact .inl (hnew y hy a ha) }
  have loop : ∀ s₃ : Shared, s₃ = { s with heap := h₁, toks := s.toks + ([] : List (Str × Value)).length } →
      codeAny (model prog w) A (.compLoop (.ListComp elt [⟨.Name x px, iter, ifs, 0⟩] scope pos) 0 (.ref ia) (.ref s.heap.objs.size) (compEnvC scope cl H2.objs.size env)) (RR (.ref s.heap.objs.size) H2.objs.size) s₃ := by
    rintro s₃ rfl
    exact comp_loop (cenv := compEnvC scope cl H2.objs.size env) J I (fun i ys l s' vals hi hJ S' => hC _ fun b o hb q => S'.keep b o hb q) (fun i ys l s' v hi hJ hv S' E' => turn _ _ i ys l s' v (up _ nC) hi hJ hv S' E') S h0 (fun ys l s' hJ S' => hR _ _ ys l s' hJ S' nC nD) (lookup_relabel_local hx) (by simp [compEnvC, relabel, hkind])
  exact codeAny_compStart_list (loop _ rfl) (hself 0 _ _ _ S.at0 (loop _ rfl))
end

section
variable {prog : Program} {w : World} {A : Around} {b : Shared} {env : Env}

/-- the outcome of a comprehension -/
abbrev rComp (b : Shared) (J : Array Value → List Ent → Prop) (v : Value) (h : Heap) : Prop := ∃ D ys l, v = .ref D ∧ b.heap.get? D = none ∧ h.PlainList D ys ∧ J ys l ∧ (∀ e ∈ l, e.P h) ∧ (∀ e ∈ l, ∀ a ∈ e.fp, b.heap.get? a = none ∧ a ≠ D)

/-- one turn, all kept -/
def Turn (prog : Program) (w : World) (A : Around) (b : Shared) (env : Env) (scope : Scope) (cl : List (Str × Addr)) (x : Str) (ifs : List Expr) (elt : Expr) (n : Nat) (P : Nat → Value → Prop) (J : Nat → Array Value → List Ent → Prop) : Prop :=
  ∀ C D i ys l e s v, i < n → J i ys l → P i v → St b [] C [(x, v)] (e :: eL D ys :: l) s →
    ∃ ok, Ev (model prog w) A s (tst ifs (compEnvC scope cl C env)) (rB ok) ∧ (ok = true → ys.size ≤ 100000 ∧ Ev (model prog w) A s (eval elt (compEnvC scope cl C env)) (fun y h => ∃ y' : Ent, J (i + 1) (ys.push y) (y' :: l) ∧ y'.P h ∧ ∀ a ∈ y'.fp, s.heap.get? a = none)) ∧ (ok = false → J (i + 1) ys l)

theorem turn_wp {scope : Scope} {cl : List (Str × Addr)} {x : Str} {ifs : List Expr} {elt : Expr} {n : Nat} {P : Nat → Value → Prop} {J : Nat → Array Value → List Ent → Prop} {e : Nat → Ent} (turn : Turn prog w A b env scope cl x ifs elt n P J) :
    ∀ C D i ys l s v, b.heap.get? C = none → i < n → J i ys l → P i v → St b [] C [(x, v)] (e (i + 1) :: eL D ys :: l) s → ∀ (E : Value → Shared → Prop),
      wpAny (model prog w) A (tst ifs (compEnvC scope cl C env)) (fun ok s₃ => if ok = true then wpAny (model prog w) A (eval elt (compEnvC scope cl C env)) (fun y s₄ => ys.size ≤ 100000 ∧ ∃ l', J (i + 1) (ys.push y) l' ∧ St b [] C [(x, v)] (e (i + 1) :: eL D ys :: l') s₄) E s₃
        else ∃ l', J (i + 1) ys l' ∧ St b [] C [(x, v)] (e (i + 1) :: eL D ys :: l') s₃) E s := by
  intro C D i ys l s v _ hi hJ hv S E
  obtain ⟨ok, h1, h2, h3⟩ := turn C D i ys l _ s v hi hJ hv S
  refine h1.go fun ok' s₃ k₃ ho => ?_
  cases (ho : ok' = ok)
  cases ok with
  | false => exact ⟨l, h3 rfl, S.kps k₃⟩
  | true =>
    simp only [if_true]
    obtain ⟨hsz, h2⟩ := h2 rfl
    refine h2 s₃ k₃ _ _ fun y s₄ k₄ hy => ?_
    obtain ⟨y', hJ', hP, hn⟩ := hy
    refine ⟨hsz, y' :: l, hJ', ?_⟩
    have S' := S.add (k₃.trans k₄) y' hP hn
    exact (S'.perm (List.Perm.swap _ _ _)).perm ((List.Perm.swap _ _ _).cons _)

theorem Ev.comp {elt iter : Expr} {x : Str} {px : Pos} {ifs : List Expr} {scope : Scope} {cl : List (Str × Addr)} {pos : Pos} {n : Nat} {P : Nat → Value → Prop} {R : Value → Heap → Prop} (J : Nat → Array Value → List Ent → Prop)
    (hit : Ev (model prog w) A b (eval iter env) R) (hR : ∀ v s, Kps b s → R v s.heap → Its prog w A s n P v) (turn : Turn prog w A b env scope cl x ifs elt n P J) (h0 : J 0 #[] [])
    (hclos : closureFor scope env = pure cl := by rfl) (hsc : okComp scope x = true := by rfl) (hs : ∀ x, foldedSetIterable iter env x = pure x := by intro _; rfl) :
    Ev (model prog w) A b (eval (.ListComp elt [⟨.Name x px, iter, ifs, 0⟩] scope pos) env) (rComp b (J n)) := fun s ks Q E hQ => by
  rw [eval_ListComp]
  obtain ⟨hcell, hkind, hnames, hx⟩ := okComp.spec hsc
  refine wpAny_comprehension_free (use := none) rfl hs hclos hkind hnames (hit s ks _ _ fun v s₁ k₁ hv => hR v s₁ (ks.trans k₁) hv s₁ (Kps.refl _) _ _ fun ia e Cc s₂ I hself k₂ hn he hCc => ?_)
  have kb : Kps b s₂ := (ks.trans k₁).trans k₂
  have up : ∀ {a : Addr} {s' s'' : Shared}, Kps s' s'' → s''.heap.get? a = none → s'.heap.get? a = none := fun {a s' s''} k h => by
    cases q : s'.heap.get? a with
    | none => rfl
    | some o => rw [k.heap _ _ q] at h; cases h
  refine comp_block (s₀ := s₁) (X := []) (RR := fun acc C => compPost (model prog w) A E none Q acc C) (l := []) J I hself hsc he (fun h k => hCc h fun b o q => k b o (by simp) q) k₂ hn (by simp) (by simp) (by simp) .nil (by simp) ?_ h0 ?_
  · refine turn_wp fun C D i ys l e' s' v hi hJ hv S => turn C D i ys l e' s' v hi hJ hv { S with same := ?_, keep := fun a o h q => S.keep a o h ((ks.trans k₁).heap a o q), Lnew := up (ks.trans k₁) S.Lnew, new := fun y hy a ha => .inr (up (ks.trans k₁) ((S.new y hy a ha).resolve_left (by simp))) }
    obtain ⟨h, tk, q⟩ := S.same; obtain ⟨h2, tk2, q2⟩ := (ks.trans k₁).same; exact ⟨h, tk, by rw [q, q2]⟩
  · intro C D ys l s' hJ S nC nD
    obtain ⟨m, hm, _⟩ := S.ns
    refine ⟨m, hm, fun h' hs' => ?_⟩
    have kk : Kps s₁ { s' with heap := h' } := by
      refine ⟨?_, fun a o q => hs'.extBut a o (fun p => ?_) (S.keep a o (by simp) q)⟩
      · obtain ⟨h, tk, q⟩ := S.same; exact ⟨h', tk, by rw [q]⟩
      · subst p; rw [up k₂ nC] at q; cases q
    refine hQ _ _ (k₁.trans kk) ⟨D, ys, l, rfl, up kb nD, ?_, hJ, ?_, ?_⟩
    · exact (eL D ys).loc (fun a ha o q => hs'.extBut a o (fun p => S.ndL _ (.head _) (p ▸ ha)) q) S.at0
    · intro y hy
      exact y.loc (fun a ha o q => hs'.extBut a o (fun p => S.ndL y (.tail _ hy) (p ▸ ha)) q) (S.own y (.tail _ hy))
    · intro y hy a ha
      refine ⟨up (ks.trans k₁) ((S.new y (.tail _ hy) a ha).resolve_left (by simp)), fun p => ?_⟩
      subst p
      exact (List.pairwise_cons.mp S.nd).1 y hy a (by simp [eL]) ha
end

section
variable {prog : Program} {w : World} {A : Around} {env : Env} {s₀ s : Shared} {X : List Addr} {L : Addr} {vals : List (Str × Value)} {l : List Ent} {E : Value → Shared → Prop}

theorem St.lose {e : Ent} (S : St s₀ X L vals (e :: l) s) {h' : Heap} {tk : Nat} (hs : ∀ b o, b ∉ e.fp → s.heap.get? b = some o → h'.get? b = some o) : St s₀ X L vals l { s with heap := h', toks := tk } where
  same := by obtain ⟨h, tk, q⟩ := S.same; exact ⟨h', _, by rw [q]⟩
  keep := fun b o hb q => hs b o (fun p => (S.new e (.head _) b p).elim (fun h => hb h) fun h => by rw [h] at q; cases q) (S.keep b o hb q)
  ns := let ⟨m, n, a⟩ := S.ns; ⟨m, n.at' fun o q => hs L o (S.ndL e (.head _)) q, a⟩
  Lnew := S.Lnew
  LX := S.LX
  own := fun x hx => x.loc (fun a ha o q => hs a o (fun p => (List.pairwise_cons.mp S.nd).1 x hx a p ha) q) (S.drop0.own x hx)
  nd := S.drop0.nd
  ndL := S.drop0.ndL
  new := S.drop0.new

/-- y = [.. for x in ..] -/
theorem St.assignComp (S : St s₀ X L vals l s) {y : Str} {py spos : Pos} {elt iter : Expr} {x : Str} {px : Pos} {ifs : List Expr} {scope : Scope} {cl : List (Str × Addr)} {pos : Pos} {n : Nat} {P : Nat → Value → Prop} {R : Value → Heap → Prop} {Q : Flow → Shared → Prop} (J : Nat → Array Value → List Ent → Prop)
    (hit : Ev (model prog w) A s (eval iter env) R) (hR : ∀ v s', Kps s s' → R v s'.heap → Its prog w A s' n P v) (turn : Turn prog w A s env scope cl x ifs elt n P J) (h0 : J 0 #[] [])
    (hQ : ∀ D ys l' s', J n ys l' → s.heap.get? D = none → St s₀ X L ((y, .ref D) :: vals) (eL D ys :: (l' ++ l)) s' → Q .next s')
    (hclos : closureFor scope env = pure cl := by rfl) (hsc : okComp scope x = true := by rfl) (hs : ∀ x, foldedSetIterable iter env x = pure x := by intro _; rfl)
    (hsw : swapsWith (.ListComp elt [⟨.Name x px, iter, ifs, 0⟩] scope pos) (some (.Name y py)) spos.line env = pure true := by rfl) (hL : env.locals = L := by rfl) (hl : env.kindOf y = some .local := by rfl)
    (hp : (env.scope.kind == .class || (env.scope.kind == .module && env.locals != env.globals)) = false := by rfl) :
    wpAny (model prog w) A (exec (.Assign [.Name y py] (.ListComp elt [⟨.Name x px, iter, ifs, 0⟩] scope pos) spos) env) Q E s := by
  rw [exec_Assign_Name_used _ _ _ _ hsw]
  obtain ⟨hcell, hkind, hnames, hx⟩ := okComp.spec hsc
  refine wpAny_bind (wpAny_standAt (wpAny_bind ?_))
  show wpAny _ A (do let _ ← comprehension (.ListComp elt [⟨.Name x px, iter, ifs, 0⟩] scope pos) scope env _ (newList []) false (eval iter env) (some (PySem.assign (.Name y py) env))) _ _ s
  refine wpAny_bind (wpAny_mono (wpAny_comprehension_free (use := some (PySem.assign (.Name y py) env)) (Q := fun _ s' => Q .next s') rfl hs hclos hkind hnames
    (hit.go fun v s₁ k₁ hv => hR v s₁ k₁ hv s₁ (Kps.refl _) _ _ fun ia e Cc s₂ I hself k₂ hn he hCc => ?_)) (fun _ s' hq => wpAny_pure (wpAny_pure hq)) fun _ _ e => e)
  have up : ∀ {a : Addr} {s' s'' : Shared}, Kps s' s'' → s''.heap.get? a = none → s'.heap.get? a = none := fun {a s' s''} k h => by
    cases q : s'.heap.get? a with
    | none => rfl
    | some o => rw [k.heap _ _ q] at h; cases h
  refine comp_block (s₀ := s₁) (X := []) (RR := fun acc C => compPost (model prog w) A E (some (PySem.assign (.Name y py) env)) (fun _ s' => Q .next s') acc C) (l := []) J I hself hsc he (fun h k => hCc h fun b o q => k b o (by simp) q) k₂ hn (by simp) (by simp) (by simp) .nil (by simp) ?_ h0 ?_
  · refine turn_wp fun C D i ys l e' s' v hi hJ hv S => turn C D i ys l e' s' v hi hJ hv { S with same := ?_, keep := fun a o h q => S.keep a o h (k₁.heap a o q), Lnew := up k₁ S.Lnew, new := fun y hy a ha => .inr (up k₁ ((S.new y hy a ha).resolve_left (by simp))) }
    obtain ⟨h, tk, q⟩ := S.same; obtain ⟨h2, tk2, q2⟩ := k₁.same; exact ⟨h, tk, by rw [q, q2]⟩
  · intro C D ys l' s' hJ S' nC nD
    -- the outer call's state, the frame and the lists among its things
    have S1 := S.kps k₁
    have kk : Kps s₁ s' := S'.out
    have T : St s₀ X L vals (eN C :: eL D ys :: (l' ++ l)) s' := by
      have all : ∀ es : List Ent, (∀ e ∈ es, e.P s'.heap) → es.Pairwise (fun e e' => ∀ a ∈ e.fp, a ∉ e'.fp) → (∀ e ∈ es, ∀ a ∈ e.fp, s₁.heap.get? a = none) → St s₀ X L vals (es ++ l) s' := by
        intro es
        induction es with
        | nil => intro _ _ _; exact S1.kps kk
        | cons e es ih =>
          intro h1 h2 h3
          have T := ih (fun y hy => h1 y (.tail _ hy)) (List.pairwise_cons.mp h2).2 fun y hy => h3 y (.tail _ hy)
          refine { T with own := ?_, nd := ?_, ndL := ?_, new := ?_ }
          · intro y hy
            rcases List.mem_cons.mp hy with rfl | hy
            · exact h1 _ (.head _)
            · exact T.own y hy
          · refine List.pairwise_cons.mpr ⟨fun y hy a ha ha' => ?_, T.nd⟩
            rcases List.mem_append.mp hy with hy | hy
            · exact (List.pairwise_cons.mp h2).1 y hy a ha ha'
            · obtain ⟨o, q⟩ := y.has (S1.own y hy) a ha'
              rw [h3 e (.head _) a ha] at q; cases q
          · intro y hy
            rcases List.mem_cons.mp hy with rfl | hy
            · intro h
              obtain ⟨m, ⟨o, _, _, q, _⟩, _⟩ := S1.ns
              rw [h3 y (.head _) L h] at q; cases q
            · exact T.ndL y hy
          · intro y hy a ha
            rcases List.mem_cons.mp hy with rfl | hy
            · by_cases hX : a ∈ X
              · exact .inl hX
              · right
                cases q : s₀.heap.get? a with
                | none => rfl
                | some o => have := S1.keep a o hX q; rw [h3 y (.head _) a ha] at this; cases this
            · exact T.new y hy a ha
      refine all (eN C :: eL D ys :: l') ?_ ?_ ?_
      · intro y hy
        rcases List.mem_cons.mp hy with rfl | hy
        · obtain ⟨m, hm, _⟩ := S'.ns; exact ⟨m, hm⟩
        · exact S'.own y hy
      · refine List.pairwise_cons.mpr ⟨fun y hy a ha => ?_, S'.nd⟩
        simp [eN] at ha; subst ha; exact S'.ndL y hy
      · intro y hy a ha
        rcases List.mem_cons.mp hy with rfl | hy
        · simp [eN] at ha; subst ha; exact up k₂ nC
        · exact (S'.new y hy a ha).resolve_left (by simp)
    show wpAny _ A (PySem.assign (.Name y py) env (.ref D)) _ _ _
    refine wpAny_assign_Name (T.store (fun s3 T3 _ => ?_) hL hl hp)
    obtain ⟨m, hm⟩ := T3.at0
    refine ⟨m, hm, fun h' hs' => ?_⟩
    exact hQ D ys l' _ hJ (up k₁ (up k₂ nD)) (T3.lose (tk := s3.toks) fun a o ha q => hs'.extBut a o (by simpa [eN] using ha) q)
end
end Mine

end

/- Lc2 -/
section
open PySem PySem.Calls PyProof.Rows
namespace Mine
set_option maxRecDepth 100000
set_option linter.unusedVariables false

section
variable {prog : Program} {w : World} {A : Around} {R : Result → Shared → Prop} {s : Shared}

/-- as Its, what is walked through of the base b, seen at s' -/
def ItsB (prog : Program) (w : World) (A : Around) (b s' : Shared) (n : Nat) (P : Nat → Value → Prop) (v : Value) : Prop :=
  ∀ s, Kps s' s → ∀ (Q : Value → Shared → Prop) (E : Value → Shared → Prop),
    (∀ ia e Cc s'', Itr prog w A ia n P Cc e → (∀ i (s : Shared) (Q : Value → Shared → Prop) (E : Value → Shared → Prop), (e i).P s.heap → Q (.ref ia) s → wpAny (model prog w) A (pyIter (.ref ia)) Q E s) →
      Kps s s'' → s.heap.get? ia = none → (e 0).P s''.heap → (∀ h, Kp b.heap h → Cc h) → Q (.ref ia) s'') → wpAny (model prog w) A (pyIter v) Q E s

theorem ItsB.range {b s' : Shared} {i j c : Int} {n : Nat} {v : Value} (hh : A.handled = none) (h : rRange i j c v s'.heap) (hsm : Builtin.Range.small i j c = true) (hn : Builtin.Range.rangeSize i j c = n) :
    ItsB prog w A b s' n (fun k v => ∃ t, v = .int (i + k * c) t) v := fun s ks Q E hQ => by
  obtain ⟨r, t, u, x, rfl, hr⟩ := h
  refine wpAny_pyIter_range (ks.heap _ _ hr) hsm ?_
  refine hQ _ _ _ _ (Itr.range hh s.heap.objs.size i c n) (fun k s Q E st hQ => wpAny_pyIter_rangeiter st hQ) (Kps.push s _ s.toks) (fresh_size (Kps.refl s)) ?_ fun _ _ => trivial
  show IsRangeIter _ _ _ _ _
  rw [hn]
  have e1 : i + ((0 : Nat) : Int) * c = i := by simp
  have e2 : ((n : Int) - ((0 : Nat) : Int)) = n := by simp
  rw [e1, e2]
  exact Heap.get?_push_size _ rfl
theorem ItsB.list {b s' : Shared} {ax : Addr} {items : Array Value} (hh : A.handled = none) (h : b.heap.IsList ax items) (k : Kps b s') : ItsB prog w A b s' items.size (fun k v => items[k]? = some v) (.ref ax) := fun s ks Q E hQ => by
  have hl := h.at fun o e => (k.trans ks).heap _ o e
  refine wpAny_pyIter_list hl ?_
  refine hQ _ _ _ _ (Itr.list hh s.heap.objs.size ax items) (fun k s Q E st hQ => wpAny_pyIter_listiter st hQ) (Kps.push s _ s.toks) (fresh_size (Kps.refl s)) ?_ fun h' k => h.at fun o e => k _ o e
  exact ⟨_, Heap.get?_push_size _ rfl, rfl, rfl⟩

theorem compTurn_two0 (elt t1 i1 t2 i2 : Expr) (scope : Scope) (pos : Pos) (it acc : Value) (env : Env) :
    compTurn (.ListComp elt [⟨t1, i1, [], 0⟩, ⟨t2, i2, [], 0⟩] scope pos) 0 it acc env = (standAt i1.pos >>= fun _ => pyNext it >>= fun r => match r with
      | none => pure (.done .next)
      | some v => letOwnedTupleGo t1 it v >>= fun _ => assign t1 env v >>= fun _ =>
        eval i2 env >>= fun x => standAt i2.pos >>= fun _ => foldedSetIterable i2 env x >>= fun x => holding [x] (pyIter x) >>= fun it2 =>
          runOwn (.compStart (.ListComp elt [⟨t1, i1, [], 0⟩, ⟨t2, i2, [], 0⟩] scope pos) 1 it2 acc env) env >>= fun _ =>
          again (.compLoop (.ListComp elt [⟨t1, i1, [], 0⟩, ⟨t2, i2, [], 0⟩] scope pos) 0 it acc env)) := by rfl
theorem compTurn_two1 (elt t1 i1 t2 i2 : Expr) (scope : Scope) (pos : Pos) (it acc : Value) (env : Env) :
    compTurn (.ListComp elt [⟨t1, i1, [], 0⟩, ⟨t2, i2, [], 0⟩] scope pos) 1 it acc env = (standAt i2.pos >>= fun _ => pyNext it >>= fun r => match r with
      | none => pure (.done .next)
      | some v => letOwnedTupleGo t2 it v >>= fun _ => assign t2 env v >>= fun _ =>
        (eval elt env >>= fun x => call (.builtin "list.append") [acc, x] >>= fun _ => pure ()) >>= fun _ =>
          again (.compLoop (.ListComp elt [⟨t1, i1, [], 0⟩, ⟨t2, i2, [], 0⟩] scope pos) 1 it acc env)) := by rfl

theorem codeAny_compStart_two1 {elt t1 i1 t2 i2 : Expr} {scope : Scope} {pos : Pos} {it acc : Value} {env : Env}
    (h0 : codeAny (model prog w) A (.compLoop (.ListComp elt [⟨t1, i1, [], 0⟩, ⟨t2, i2, [], 0⟩] scope pos) 1 it acc env) R s)
    (h : wpAny (model prog w) A (pyIter it) (fun it' s' => codeAny (model prog w) A (.compLoop (.ListComp elt [⟨t1, i1, [], 0⟩, ⟨t2, i2, [], 0⟩] scope pos) 1 it' acc env) R s')
      (notedBy (model prog w) A env fun x s' => R (.error x) s') s) :
    codeAny (model prog w) A (.compStart (.ListComp elt [⟨t1, i1, [], 0⟩, ⟨t2, i2, [], 0⟩] scope pos) 1 it acc env) R s := by
  refine codeAny_of_tree ?_
  show wpAny _ _ ((compStart (.ListComp elt [⟨t1, i1, [], 0⟩, ⟨t2, i2, [], 0⟩] scope pos) 1 it acc env).onRaise (fun x => do noteFrame x env; standAt theWindowsPlace)) _ _ s
  refine wpAny_notedAt ?_
  unfold compStart
  show wpAny _ _ (ask >>= _) _ _ s
  refine wpAny_bind (wpAny_askSetting (wpAny_ite ?_))
  split
  · first
      | exact wpAny_bind (wpAny_pure (wpAny_pure (And.intro rfl h0)))
      | exact wpAny_pure (And.intro rfl h0)
  · first
      | exact wpAny_bind (wpAny_rule (wpAny_bind (wpAny_standAt (wpAny_bind (wpAny_mono h (fun it' s' h' => wpAny_pure (And.intro rfl h')) fun _ _ x => x)))))
      | (refine wpAny_bind (wpAny_rule ?_); show wpAny _ _ (standAt i2.pos >>= _) _ _ s; exact wpAny_bind (wpAny_standAt (wpAny_bind (wpAny_mono h (fun it' s' h' => wpAny_pure (And.intro rfl h')) fun _ _ x => x))))

/-- the inner loop -/
theorem comp_inner {s₀ : Shared} {X : List Addr} {ia D : Addr} {n : Nat} {P : Nat → Value → Prop} {Cc : Heap → Prop} {e : Nat → Ent} {e1 : Ent} {elt t1 i1 i2 : Expr} {x2 : Str} {p2 : Pos} {scope : Scope} {pos : Pos} {cenv : Env} {l : List Ent} {vals : List (Str × Value)} {ys₀ : Array Value}
    (J : Nat → Array Value → List Ent → Prop) (I : Itr prog w A ia n P Cc e) (hC : ∀ i ys l s vals, i ≤ n → J i ys l → St s₀ X cenv.locals vals (e i :: e1 :: eL D ys :: l) s → Cc s.heap)
    (turn : ∀ i ys l s v, i < n → J i ys l → P i v → St s₀ X cenv.locals ((x2, v) :: vals) (e (i + 1) :: e1 :: eL D ys :: l) s → ∀ (E : Value → Shared → Prop),
      wpAny (model prog w) A (eval elt cenv) (fun y s₄ => ys.size ≤ 100000 ∧ ∃ l', J (i + 1) (ys.push y) l' ∧ St s₀ X cenv.locals ((x2, v) :: vals) (e (i + 1) :: e1 :: eL D ys :: l') s₄) E s)
    (hvals : vals.lookup x2 = none) (S : St s₀ X cenv.locals vals (e 0 :: e1 :: eL D ys₀ :: l) s) (h0 : J 0 ys₀ l) (hR : ∀ ys l s, J n ys l → St s₀ X cenv.locals vals (e1 :: eL D ys :: l) s → R (.ok .next) s)
    (hx : cenv.kindOf x2 = some .local) (hp : (cenv.scope.kind == .class || (cenv.scope.kind == .module && cenv.locals != cenv.globals)) = false) :
    codeAny (model prog w) A (.compLoop (.ListComp elt [⟨t1, i1, [], 0⟩, ⟨.Name x2 p2, i2, [], 0⟩] scope pos) 1 (.ref ia) (.ref D) cenv) R s := by
  have cut : ∀ {m v}, Agree m ((x2, v) :: vals) → Agree m vals := fun {m v} a y u hy => a y u (by
    rw [List.lookup_cons]
    cases hb : y == x2 with
    | false => exact hy
    | true => rw [eq_of_beq hb, hvals] at hy; cases hy)
  refine codeAny_loop rfl (fun k s' => ∃ i ys l, J i ys l ∧ St s₀ X cenv.locals vals (e i :: e1 :: eL D ys :: l) s' ∧ i ≤ n ∧ k = n - i) (fun k s' hI => ?_) n ⟨0, ys₀, l, h0, S, Nat.zero_le _, rfl⟩
  show wpAny _ A ((compTurn (.ListComp elt [⟨t1, i1, [], 0⟩, ⟨.Name x2 p2, i2, [], 0⟩] scope pos) 1 (.ref ia) (.ref D) cenv).onRaise (fun x => do noteFrame x cenv; theTreesLotGoes x)) _ _ s'
  refine wpAny_noted ?_
  rw [compTurn_two1]
  obtain ⟨i, ys, l, hJ, S', hi, rfl⟩ := hI
  by_cases hlt : i < n
  · refine wpAny_bind (wpAny_standAt (wpAny_bind (I.item i s' _ _ hlt S'.at0 (hC i ys l s' _ hi hJ S') fun v h' tk hv he hk => ?_)))
    have S2 : St s₀ X cenv.locals vals (e (i + 1) :: e1 :: eL D ys :: l) { s' with heap := h', toks := tk } := S'.upd0 (by rw [I.fp]; exact fun b o hb q => hk b o (by simpa using hb) q) (by rw [I.fp, I.fp]) he
    refine wpAny_bind (wpAny_of_eq (show letOwnedTupleGo (.Name x2 p2) (.ref ia) v = pure () from rfl) (wpAny_bind (wpAny_assign_Name (S2.store (fun s3 S3 _ => ?_) rfl hx hp))))
    refine wpAny_bind (wpAny_bind (wpAny_mono (turn i ys l s3 v hlt hJ hv S3 _) (fun y s4 h4 => wpAny_bind ?_) fun _ _ q => q))
    obtain ⟨hsz, l', hJ', S4⟩ := h4
    exact call_append S4 (pre := [e (i + 1), e1]) rfl hsz fun s5 S5 => wpAny_pure (wpAny_pure ⟨rfl, n - (i + 1), by omega, i + 1, ys.push y, l', hJ', S5.renam fun m a => cut a, hlt, rfl⟩)
  · have : i = n := by omega
    subst this
    refine wpAny_bind (wpAny_standAt (wpAny_bind (I.done s' _ _ S'.at0 (hC i ys l s' _ hi hJ S') fun h' tk hk => ?_)))
    refine wpAny_pure (hR ys l _ hJ (S'.lose (h' := h') (tk := tk) ?_))
    rw [I.fp]; exact fun b o hb q => hk b o (by simpa using hb) q

/-- two fors: what one turn of the outer one does -/
structure In2 (prog : Program) (w : World) (A : Around) (s₀ : Shared) (s : Shared) (C D : Addr) (cenv : Env) (x1 x2 : Str) (v1 : Value) (i2 elt : Expr) (ys : Array Value) (l : List Ent) (Jn : Array Value → List Ent → Prop)
    (n2 : Nat) (P2 : Nat → Value → Prop) (R2 : Value → Heap → Prop) (J2 : Nat → Array Value → List Ent → Prop) : Prop where
  it : Ev (model prog w) A s (eval i2 cenv) R2
  its : ∀ v s', Kps s s' → R2 v s'.heap → ItsB prog w A s₀ s' n2 P2 v
  z : J2 0 ys l
  n : ∀ ys' l', J2 n2 ys' l' → Jn ys' l'
  turn : ∀ j ys l e1 e2 s v2, j < n2 → J2 j ys l → P2 j v2 → St s₀ [] C [(x2, v2), (x1, v1)] (e2 :: e1 :: eL D ys :: l) s →
    ys.size ≤ 100000 ∧ Ev (model prog w) A s (eval elt cenv) (fun y h => ∃ y' : Ent, J2 (j + 1) (ys.push y) (y' :: l) ∧ y'.P h ∧ ∀ a ∈ y'.fp, s.heap.get? a = none)

theorem comp_outer {s₀ : Shared} {ia D : Addr} {n : Nat} {P : Nat → Value → Prop} {Cc : Heap → Prop} {e : Nat → Ent} {elt i1 i2 : Expr} {x1 x2 : Str} {p1 p2 : Pos} {scope : Scope} {pos : Pos} {cenv : Env} {l : List Ent}
    (J : Nat → Array Value → List Ent → Prop) (I : Itr prog w A ia n P Cc e) (hC : ∀ i ys l s vals, i ≤ n → J i ys l → St s₀ [] cenv.locals vals (e i :: eL D ys :: l) s → Cc s.heap)
    (turn : ∀ i ys l s v, i < n → J i ys l → P i v → St s₀ [] cenv.locals [(x1, v)] (e (i + 1) :: eL D ys :: l) s → ∃ n2 P2 R2 J2, In2 prog w A s₀ s cenv.locals D cenv x1 x2 v i2 elt ys l (J (i + 1)) n2 P2 R2 J2)
    (hne : (x2 == x1) = false) (S : St s₀ [] cenv.locals [] (e 0 :: eL D #[] :: l) s) (h0 : J 0 #[] l) (hR : ∀ ys l s, J n ys l → St s₀ [] cenv.locals [] (eL D ys :: l) s → R (.ok .next) s)
    (hx1 : cenv.kindOf x1 = some .local) (hx2 : cenv.kindOf x2 = some .local) (hp : (cenv.scope.kind == .class || (cenv.scope.kind == .module && cenv.locals != cenv.globals)) = false) (hs : ∀ x, foldedSetIterable i2 cenv x = pure x) :
    codeAny (model prog w) A (.compLoop (.ListComp elt [⟨.Name x1 p1, i1, [], 0⟩, ⟨.Name x2 p2, i2, [], 0⟩] scope pos) 0 (.ref ia) (.ref D) cenv) R s := by
  refine codeAny_loop rfl (fun k s' => ∃ i ys l, J i ys l ∧ St s₀ [] cenv.locals [] (e i :: eL D ys :: l) s' ∧ i ≤ n ∧ k = n - i) (fun k s' hI => ?_) n ⟨0, #[], l, h0, S, Nat.zero_le _, rfl⟩
  show wpAny _ A ((compTurn (.ListComp elt [⟨.Name x1 p1, i1, [], 0⟩, ⟨.Name x2 p2, i2, [], 0⟩] scope pos) 0 (.ref ia) (.ref D) cenv).onRaise (fun x => do noteFrame x cenv; theTreesLotGoes x)) _ _ s'
  refine wpAny_noted ?_
  rw [compTurn_two0]
  obtain ⟨i, ys, l, hJ, S', hi, rfl⟩ := hI
  by_cases hlt : i < n
  · refine wpAny_bind (wpAny_standAt (wpAny_bind (I.item i s' _ _ hlt S'.at0 (hC i ys l s' _ hi hJ S') fun v h' tk hv he hk => ?_)))
    have S2 : St s₀ [] cenv.locals [] (e (i + 1) :: eL D ys :: l) { s' with heap := h', toks := tk } := S'.upd0 (by rw [I.fp]; exact fun b o hb q => hk b o (by simpa using hb) q) (by rw [I.fp, I.fp]) he
    refine wpAny_bind (wpAny_of_eq (show letOwnedTupleGo (.Name x1 p1) (.ref ia) v = pure () from rfl) (wpAny_bind (wpAny_assign_Name (S2.store (fun s3 S3 _ => ?_) rfl hx1 hp))))
    obtain ⟨n2, P2, R2, J2, T⟩ := turn i ys l s3 v hlt hJ hv S3
    refine wpAny_bind (T.it.go fun v2 s4 k4 hv2 => wpAny_bind (wpAny_standAt (wpAny_bind (wpAny_of_eq (hs v2) (wpAny_bind (wpAny_holding (T.its v2 s4 k4 hv2 s4 (Kps.refl _) _ _ fun ib e2 Cc2 s5 I2 hself k5 hn5 he5 hC5 => ?_)))))))
    have S5 : St s₀ [] cenv.locals [(x1, v)] (e2 0 :: e (i + 1) :: eL D ys :: l) s5 := (S3.kps k4).add k5 (e2 0) he5 (by rw [I2.fp]; intro a ha; simp at ha; subst ha; exact hn5)
    have loop : codeAny (model prog w) A (.compLoop (.ListComp elt [⟨.Name x1 p1, i1, [], 0⟩, ⟨.Name x2 p2, i2, [], 0⟩] scope pos) 1 (.ref ib) (.ref D) cenv)
        (fun r s' => match r with
          | .ok f => wpAny (model prog w) A (again (.compLoop (.ListComp elt [⟨.Name x1 p1, i1, [], 0⟩, ⟨.Name x2 p2, i2, [], 0⟩] scope pos) 0 (.ref ia) (.ref D) cenv)) (fun fin s' => (match fin with
            | .done f => R (.ok f) s'
            | .again c' => c' = Code.compLoop (.ListComp elt [⟨.Name x1 p1, i1, [], 0⟩, ⟨.Name x2 p2, i2, [], 0⟩] scope pos) 0 (.ref ia) (.ref D) cenv ∧ ∃ m, m < n - i ∧ ∃ i ys l, J i ys l ∧ St s₀ [] cenv.locals [] (e i :: eL D ys :: l) s' ∧ i ≤ n ∧ m = n - i)) (notedBy (model prog w) A cenv fun x s' => R (.error x) s') s'
          | .error x => cameBackBy (model prog w) A cenv (notedBy (model prog w) A cenv fun x s' => R (.error x) s') x s') s5 := by
      refine comp_inner J2 I2 (fun j ys l s vals hj hJ2 S6 => hC5 _ fun b o q => S6.keep b o (by simp) q) (fun j ys l s v2 hj hJ2 hv2 S6 E => ?_) (by rw [List.lookup_cons, hne]; rfl) S5 T.z (fun ys' l' s6 hJ2 S6 => ?_) hx2 hp
      · obtain ⟨hsz, hel⟩ := T.turn j ys l _ _ s v2 hj hJ2 hv2 S6
        refine hel.go fun y s7 k7 hy => ?_
        obtain ⟨y', hJ', hP, hn⟩ := hy
        refine ⟨hsz, y' :: l, hJ', ?_⟩
        have S7 := S6.add k7 y' hP hn
        exact ((S7.perm (List.Perm.swap _ _ _)).perm ((List.Perm.swap _ _ _).cons _)).perm (((List.Perm.swap _ _ _).cons _).cons _)
      · exact wpAny_pure ⟨rfl, n - (i + 1), by omega, i + 1, ys', l', T.n ys' l' hJ2, S6.renam fun m a => Agree.nil, hlt, rfl⟩
    exact wpAny_bind (wpAny_runOwn (codeAny_compStart_two1 loop (hself 0 _ _ _ S5.at0 loop)))
  · have : i = n := by omega
    subst this
    refine wpAny_bind (wpAny_standAt (wpAny_bind (I.done s' _ _ S'.at0 (hC i ys l s' _ hi hJ S') fun h' tk hk => ?_)))
    refine wpAny_pure (hR ys l _ hJ (S'.lose (h' := h') (tk := tk) ?_))
    rw [I.fp]; exact fun b o hb q => hk b o (by simpa using hb) q
end
end Mine

end

/- Lc3 -/
section
open PySem PySem.Calls PyProof.Rows
namespace Mine
set_option maxRecDepth 100000
set_option linter.unusedVariables false

section
variable {prog : Program} {w : World} {A : Around} {s : Shared}

/-- the whole comprehension, the iterator at hand; C and D are new, all of s kept but X -/
theorem comp_blockG {env : Env} {s₀ : Shared} {X : List Addr} {ia : Addr} {n : Nat} {P : Nat → Value → Prop} {Cc : Heap → Prop} {e : Nat → Ent} {elt iter : Expr} {x : Str} {px : Pos} {ifs : List Expr} {rest : List Comprehension} {scope : Scope} {cl : List (Str × Addr)} {pos : Pos} {RR : Value → Addr → Result → Shared → Prop} {l : List Ent} {E : Value → Shared → Prop}
    (I : Itr prog w A ia n P Cc e) (hself : ∀ i (s : Shared) (Q : Value → Shared → Prop) (E : Value → Shared → Prop), (e i).P s.heap → Q (.ref ia) s → wpAny (model prog w) A (pyIter (.ref ia)) Q E s)
    (hsc : okComp scope x = true) (hst : (e 0).P s.heap)
    (k : Kps s₀ s) (hia : s₀.heap.get? ia = none) (hiaX : ia ∉ X) (hX : ∀ a ∈ X, a < s.heap.objs.size) (hl : ∀ y ∈ l, y.P s.heap) (hnd : l.Pairwise fun e e' => ∀ a ∈ e.fp, a ∉ e'.fp) (hnew : ∀ y ∈ l, ∀ a ∈ y.fp, a ∈ X)
    (hloop : ∀ C D s', St s₀ X C [] (e 0 :: eL D #[] :: l) s' → s₀.heap.get? C = none → s.heap.get? C = none → s.heap.get? D = none → codeAny (model prog w) A (.compLoop (.ListComp elt (⟨.Name x px, iter, ifs, 0⟩ :: rest) scope pos) 0 (.ref ia) (.ref D) (compEnvC scope cl C env)) (RR (.ref D) C) s') :
    wpAny (model prog w) A (newList []) (fun acc s₃ => wpAny (model prog w) A (newFunctionEnv scope env.globals cl [] env.qual none .none (some env)) (fun cenv s₄ =>
      codeAny (model prog w) A (.compStart (.ListComp elt (⟨.Name x px, iter, ifs, 0⟩ :: rest) scope pos) 0 (.ref ia) acc { cenv with scope := relabel scope env }) (RR acc cenv.locals) s₄) E s₃) E s := by
  obtain ⟨hcell, hkind, hnames, hx⟩ := okComp.spec hsc
  refine wpAny_newObj_type (wpAny_newFunctionEnv hcell (by intro y hy; simp at hy) (fun h₁ hns₁ hsb₁ => ?_) hkind)
  dsimp only at hns₁ hsb₁ ⊢
  generalize hH2 : s.heap.push { cls := .type "list", dict := none, data := .seq ([] : List Value).toArray } = H2 at hns₁ hsb₁ ⊢
  have hCs : H2.objs.size = s.heap.objs.size + 1 := by rw [← hH2, Heap.size_push]
  have old : ∀ b o, s.heap.get? b = some o → h₁.get? b = some o := fun b o q => hsb₁.extBut b o (by rw [hCs]; exact Nat.ne_of_lt (Nat.lt_succ_of_lt (Heap.lt_size q))) (Heap.get?_push_of_some _ (hH2 ▸ Heap.get?_push_of_some _ q))
  have hDC : @Ne Nat s.heap.objs.size H2.objs.size := by rw [hCs]; exact Nat.ne_of_lt (Nat.lt_succ_self _)
  have hacc : h₁.PlainList s.heap.objs.size #[] := ⟨_, hsb₁.extBut _ _ hDC (Heap.get?_push_of_some _ (hH2 ▸ Heap.get?_push_size _ rfl))⟩
  have hia' : ∃ o, s.heap.get? ia = some o := (e 0).has hst ia (by rw [I.fp]; simp)
  have nC : s.heap.get? H2.objs.size = none := Heap.get?_none_of_le (by rw [hCs]; exact Nat.le_succ _)
  have nD : s.heap.get? s.heap.objs.size = none := Heap.get?_none_of_le (Nat.le_refl _)
  have up : ∀ a, s.heap.get? a = none → s₀.heap.get? a = none := fun a h => by
    cases q : s₀.heap.get? a with
    | none => rfl
    | some o => rw [k.heap _ _ q] at h; cases h
  have S : St s₀ X H2.objs.size [] (e 0 :: eL s.heap.objs.size #[] :: l) { s with heap := h₁, toks := s.toks + ([] : List (Str × Value)).length } := {
    same := by obtain ⟨h, tk, q⟩ := k.same; exact ⟨h₁, _, by rw [q]⟩
    keep := fun b o _ q => old b o (k.heap b o q)
    ns := ⟨_, hns₁, Agree.nil⟩
    Lnew := up _ nC
    LX := fun h => by have := hX _ h; rw [hCs] at this; exact absurd this (Nat.not_lt.mpr (Nat.le_succ _))
    own := by
      intro y hy
      rcases List.mem_cons.mp hy with rfl | hy
      · exact (e 0).loc (fun a _ o q => old a o q) hst
      · rcases List.mem_cons.mp hy with rfl | hy
        · exact hacc
        · exact y.loc (fun a _ o q => old a o q) (hl y hy)
    nd := by
      refine List.pairwise_cons.mpr ⟨fun y hy a ha => ?_, List.pairwise_cons.mpr ⟨fun y hy a ha hay => ?_, hnd⟩⟩
      · rw [I.fp] at ha
        simp at ha; subst ha
        rcases List.mem_cons.mp hy with rfl | hy
        · intro h
          simp [eL] at h
          obtain ⟨o, q⟩ := hia'
          rw [h, nD] at q; cases q
        · exact fun h => hiaX (hnew y hy _ h)
      · simp [eL] at ha; subst ha
        obtain ⟨o, q⟩ := y.has (hl y hy) _ hay
        rw [nD] at q; cases q
    ndL := by
      intro y hy h
      rcases List.mem_cons.mp hy with rfl | hy
      · rw [I.fp] at h; simp at h
        obtain ⟨o, q⟩ := hia'
        rw [← h, nC] at q; cases q
      · rcases List.mem_cons.mp hy with rfl | hy
        · simp [eL] at h; exact hDC h.symm
        · obtain ⟨o, q⟩ := y.has (hl y hy) _ h
          rw [nC] at q; cases q
    new := by
      intro y hy a ha
      rcases List.mem_cons.mp hy with rfl | hy
      · rw [I.fp] at ha; simp at ha; subst ha; exact .inr hia
      · rcases List.mem_cons.mp hy with rfl | hy
        · simp [eL] at ha; subst ha; exact .inr (up _ nD)
        · exact .inl (hnew y hy a ha) }
  have loop : ∀ s₃ : Shared, s₃ = { s with heap := h₁, toks := s.toks + ([] : List (Str × Value)).length } →
      codeAny (model prog w) A (.compLoop (.ListComp elt (⟨.Name x px, iter, ifs, 0⟩ :: rest) scope pos) 0 (.ref ia) (.ref s.heap.objs.size) (compEnvC scope cl H2.objs.size env)) (RR (.ref s.heap.objs.size) H2.objs.size) s₃ := by
    rintro s₃ rfl
    exact hloop _ _ _ S (up _ nC) nC nD
  exact codeAny_compStart_list (loop _ rfl) (hself 0 _ _ _ S.at0 (loop _ rfl))
end

section
variable {prog : Program} {w : World} {A : Around} {env : Env} {s₀ s : Shared} {X : List Addr} {L : Addr} {vals : List (Str × Value)} {l : List Ent} {E : Value → Shared → Prop}

/-- y = [.. for x1 in .. for x2 in ..] -/
theorem St.assignComp2 (S : St s₀ X L vals l s) {y : Str} {py spos : Pos} {elt iter i2 : Expr} {x x2 : Str} {px p2 : Pos} {scope : Scope} {cl : List (Str × Addr)} {pos : Pos} {n : Nat} {P : Nat → Value → Prop} {R : Value → Heap → Prop} {Q : Flow → Shared → Prop} (J : Nat → Array Value → List Ent → Prop)
    (hit : Ev (model prog w) A s (eval iter env) R) (hR : ∀ v s', Kps s s' → R v s'.heap → Its prog w A s' n P v) (turn : ∀ C D i ys l e s' v, i < n → J i ys l → P i v → St s [] C [(x, v)] (e :: eL D ys :: l) s' → ∃ n2 P2 R2 J2, In2 prog w A s s' C D (compEnvC scope cl C env) x x2 v i2 elt ys l (J (i + 1)) n2 P2 R2 J2) (h0 : J 0 #[] [])
    (hQ : ∀ D ys l' s', J n ys l' → s.heap.get? D = none → St s₀ X L ((y, .ref D) :: vals) (eL D ys :: (l' ++ l)) s' → Q .next s')
    (hclos : closureFor scope env = pure cl := by rfl) (hsc : okComp scope x = true := by rfl) (hx2 : scope.names.lookup x2 = some .local := by rfl) (hne : (x2 == x) = false := by decide +kernel) (hs2 : ∀ C v, foldedSetIterable i2 (compEnvC scope cl C env) v = pure v := by intro _ _; rfl) (hs : ∀ x, foldedSetIterable iter env x = pure x := by intro _; rfl)
    (hsw : swapsWith (.ListComp elt [⟨.Name x px, iter, [], 0⟩, ⟨.Name x2 p2, i2, [], 0⟩] scope pos) (some (.Name y py)) spos.line env = pure true := by rfl) (hL : env.locals = L := by rfl) (hl : env.kindOf y = some .local := by rfl)
    (hp : (env.scope.kind == .class || (env.scope.kind == .module && env.locals != env.globals)) = false := by rfl) :
    wpAny (model prog w) A (exec (.Assign [.Name y py] (.ListComp elt [⟨.Name x px, iter, [], 0⟩, ⟨.Name x2 p2, i2, [], 0⟩] scope pos) spos) env) Q E s := by
  rw [exec_Assign_Name_used _ _ _ _ hsw]
  obtain ⟨hcell, hkind, hnames, hx⟩ := okComp.spec hsc
  refine wpAny_bind (wpAny_standAt (wpAny_bind ?_))
  show wpAny _ A (do let _ ← comprehension (.ListComp elt [⟨.Name x px, iter, [], 0⟩, ⟨.Name x2 p2, i2, [], 0⟩] scope pos) scope env _ (newList []) false (eval iter env) (some (PySem.assign (.Name y py) env))) _ _ s
  refine wpAny_bind (wpAny_mono (wpAny_comprehension_free (use := some (PySem.assign (.Name y py) env)) (Q := fun _ s' => Q .next s') rfl hs hclos hkind hnames
    (hit.go fun v s₁ k₁ hv => hR v s₁ k₁ hv s₁ (Kps.refl _) _ _ fun ia e Cc s₂ I hself k₂ hn he hCc => ?_)) (fun _ s' hq => wpAny_pure (wpAny_pure hq)) fun _ _ e => e)
  have up : ∀ {a : Addr} {s' s'' : Shared}, Kps s' s'' → s''.heap.get? a = none → s'.heap.get? a = none := fun {a s' s''} k h => by
    cases q : s'.heap.get? a with
    | none => rfl
    | some o => rw [k.heap _ _ q] at h; cases h
  refine comp_blockG (s₀ := s₁) (X := []) (RR := fun acc C => compPost (model prog w) A E (some (PySem.assign (.Name y py) env)) (fun _ s' => Q .next s') acc C) (l := []) I hself hsc he k₂ hn (by simp) (by simp) (by simp) .nil (by simp) fun C D s3 S3 nC1 nC nD => ?_
  -- the base moved down
  have dn : ∀ {C vals l s'}, St s₁ [] C vals l s' → St s [] C vals l s' := fun {C vals l s'} S => { S with same := (by obtain ⟨h, tk, q⟩ := S.same; obtain ⟨h2, tk2, q2⟩ := k₁.same; exact ⟨h, tk, by rw [q, q2]⟩), keep := fun a o h q => S.keep a o h (k₁.heap a o q), Lnew := up k₁ S.Lnew, new := fun y hy a ha => .inr (up k₁ ((S.new y hy a ha).resolve_left (by simp))) }
  refine comp_outer (s₀ := s₁) (cenv := compEnvC scope cl C env) J I (fun i ys l s' vals hi hJ S' => hCc _ fun b o q => S'.keep b o (by simp) q) (fun i ys l s' v hi hJ hv S' => ?_) hne S3 h0 (fun ys l' s' hJ S' => ?_) (lookup_relabel_local hx) (lookup_relabel_local hx2) (by simp [compEnvC, relabel, hkind]) (hs2 C)
  · obtain ⟨n2, P2, R2, J2, T⟩ := turn C D i ys l _ s' v hi hJ hv (dn S')
    refine ⟨n2, P2, R2, J2, T.it, fun v s'' k hv s3 k3 Q E hQ => T.its v s'' k hv s3 k3 Q E fun ia e Cc s4 I hself k4 hn he hC => hQ ia e Cc s4 I hself k4 hn he fun h hk => hC h fun b o q => hk b o (k₁.heap b o q), T.z, T.n, fun j ys l e1 e2 s'' v2 hj hJ2 hv2 S'' => T.turn j ys l e1 e2 s'' v2 hj hJ2 hv2 (dn S'')⟩
  ·
    -- the outer call's state, the frame and the lists among its things
    have S1 := S.kps k₁
    have kk : Kps s₁ s' := S'.out
    have T : St s₀ X L vals (eN C :: eL D ys :: (l' ++ l)) s' := by
      have all : ∀ es : List Ent, (∀ e ∈ es, e.P s'.heap) → es.Pairwise (fun e e' => ∀ a ∈ e.fp, a ∉ e'.fp) → (∀ e ∈ es, ∀ a ∈ e.fp, s₁.heap.get? a = none) → St s₀ X L vals (es ++ l) s' := by
        intro es
        induction es with
        | nil => intro _ _ _; exact S1.kps kk
        | cons e es ih =>
          intro h1 h2 h3
          have T := ih (fun y hy => h1 y (.tail _ hy)) (List.pairwise_cons.mp h2).2 fun y hy => h3 y (.tail _ hy)
          refine { T with own := ?_, nd := ?_, ndL := ?_, new := ?_ }
          · intro y hy
            rcases List.mem_cons.mp hy with rfl | hy
            · exact h1 _ (.head _)
            · exact T.own y hy
          · refine List.pairwise_cons.mpr ⟨fun y hy a ha ha' => ?_, T.nd⟩
            rcases List.mem_append.mp hy with hy | hy
            · exact (List.pairwise_cons.mp h2).1 y hy a ha ha'
            · obtain ⟨o, q⟩ := y.has (S1.own y hy) a ha'
              rw [h3 e (.head _) a ha] at q; cases q
          · intro y hy
            rcases List.mem_cons.mp hy with rfl | hy
            · intro h
              obtain ⟨m, ⟨o, _, _, q, _⟩, _⟩ := S1.ns
              rw [h3 y (.head _) L h] at q; cases q
            · exact T.ndL y hy
          · intro y hy a ha
            rcases List.mem_cons.mp hy with rfl | hy
            · by_cases hX : a ∈ X
              · exact .inl hX
              · right
                cases q : s₀.heap.get? a with
                | none => rfl
                | some o => have := S1.keep a o hX q; rw [h3 y (.head _) a ha] at this; cases this
            · exact T.new y hy a ha
      refine all (eN C :: eL D ys :: l') ?_ ?_ ?_
      · intro y hy
        rcases List.mem_cons.mp hy with rfl | hy
        · obtain ⟨m, hm, _⟩ := S'.ns; exact ⟨m, hm⟩
        · exact S'.own y hy
      · refine List.pairwise_cons.mpr ⟨fun y hy a ha => ?_, S'.nd⟩
        simp [eN] at ha; subst ha; exact S'.ndL y hy
      · intro y hy a ha
        rcases List.mem_cons.mp hy with rfl | hy
        · simp [eN] at ha; subst ha; exact up k₂ nC
        · exact (S'.new y hy a ha).resolve_left (by simp)
    show wpAny _ A (PySem.assign (.Name y py) env (.ref D)) _ _ _
    refine wpAny_assign_Name (T.store (fun s3 T3 _ => ?_) hL hl hp)
    obtain ⟨m, hm⟩ := T3.at0
    refine ⟨m, hm, fun h' hs' => ?_⟩
    exact hQ D ys l' _ hJ (up k₁ (up k₂ nD)) (T3.lose (tk := s3.toks) fun a o ha q => hs'.extBut a o (by simpa [eN] using ha) q)
end
end Mine

end

/- Ls -/
section
open PySem PySem.Calls PyProof.Rows
namespace Mine
set_option maxRecDepth 100000
set_option linter.unusedVariables false

section
variable {s s₁ : Shared} {L : Addr} {m : Str → Option Value} {vals : List (Str × Value)}

/-- the state on entry to a call: the frame, its cells, what may change -/
theorem St.enter {X : List Addr} {es : List Ent} (hL : L = s.heap.objs.size) (k : Kps s s₁) (hn : s₁.heap.Ns L m) (ha : Agree m vals) (cs : List (Nat × Option Value)) (hc : ∀ p ∈ cs, s₁.heap.IsCell (L + p.1) p.2) (hgt : ∀ p ∈ cs, 0 < p.1) (hnd : cs.Pairwise fun p q => p.1 ≠ q.1)
    (hX : ∀ a ∈ X, a < s.heap.objs.size) (hes : ∀ e ∈ es, e.P s.heap) (hend : es.Pairwise fun e e' => ∀ a ∈ e.fp, a ∉ e'.fp) (hfp : ∀ e ∈ es, ∀ a ∈ e.fp, a ∈ X) :
    St s X L vals (cs.map (fun p => eC (L + p.1) p.2) ++ es) s₁ where
  same := k.same
  keep := fun b o _ e => k.heap b o e
  ns := ⟨_, hn, ha⟩
  Lnew := by rw [hL]; exact Heap.get?_none_of_le (Nat.le_refl _)
  LX := fun h => by have := hX L h; rw [hL] at this; exact Nat.lt_irrefl _ this
  own := by
    intro e he
    rcases List.mem_append.mp he with he | he
    · obtain ⟨p, hp, rfl⟩ := List.mem_map.mp he
      exact hc p hp
    · exact e.loc (fun a _ o q => k.heap a o q) (hes e he)
  nd := by
    refine List.pairwise_append.mpr ⟨?_, hend, ?_⟩
    · refine List.pairwise_map.mpr (hnd.imp fun {p q} h a ha ha' => h ?_)
      simp [eC] at ha ha'
      subst ha
      exact Nat.add_left_cancel ha'
    · intro e he e' he' a ha ha'
      obtain ⟨p, hp, rfl⟩ := List.mem_map.mp he
      simp [eC] at ha
      subst ha
      have := hX _ (hfp e' he' _ ha')
      rw [hL] at this
      exact Nat.not_lt.mpr (Nat.le_add_right _ _) this
  ndL := by
    intro e he h
    rcases List.mem_append.mp he with he | he
    · obtain ⟨p, hp, rfl⟩ := List.mem_map.mp he
      simp [eC] at h
      have := hgt p hp
      omega
    · have := hX _ (hfp e he _ h)
      rw [hL] at this
      exact Nat.lt_irrefl _ this
  new := by
    intro e he a ha
    rcases List.mem_append.mp he with he | he
    · obtain ⟨p, hp, rfl⟩ := List.mem_map.mp he
      simp [eC] at ha
      subst ha
      right
      refine Heap.get?_none_of_le ?_
      rw [hL]; exact Nat.le_add_right _ _
    · exact .inl (hfp e he a ha)
end

section
variable {prog : Program} {w : World} {A : Around} {env : Env} {s₀ s : Shared} {X : List Addr} {L : Addr} {vals : List (Str × Value)} {l : List Ent} {E : Value → Shared → Prop}

/-- x = a new list, x captured -/
theorem St.assignCL (S : St s₀ X L vals l s) {pre post : List Ent} {c : Addr} {v₀ : Option Value} (hl : l = pre ++ eC c v₀ :: post) {x : Str} {pos' pos : Pos} {e : Expr} {P : Array Value → Prop} {Q : Flow → Shared → Prop} (he : Ev (model prog w) A s (eval e env) (rNew s P))
    (hQ : ∀ a items s', P items → s.heap.get? a = none → St s₀ X L vals (eL a items :: (pre ++ eC c (some (.ref a)) :: post)) s' → Q .next s')
    (hsw : swapsWith e (some (.Name x pos')) pos.line env = pure false := by rfl) (hc : env.cells.lookup x = some c := by rfl) (hk : env.scope.kind = .function := by rfl) (hx : env.kindOf x = some .cell := by rfl) :
    wpAny (model prog w) A (exec (.Assign [.Name x pos'] e pos) env) Q E s := by
  refine wpAny_Assign_Name (he.go fun v s1 k1 r1 => ?_) hsw
  obtain ⟨a, items, rfl, hn, hp', hP⟩ := r1
  have S1 : St s₀ X L vals (eL a items :: l) s1 := S.add k1 (eL a items) hp' (by intro b hb; simp [eL] at hb; subst hb; exact hn)
  subst hl
  exact S1.storeC (pre := eL a items :: pre) rfl (fun s' S' => hQ a items s' hP hn S') hc hk hx
end

section
variable {prog : Program} {w : World} {A : Around} {b : Shared} {env : Env}

/-- list[k] -/
theorem Ev.at_ {value slice : Expr} {pos : Pos} {a : Addr} {items : Array Value} {k : Nat} {x : Value} (h1 : Ev (model prog w) A b (eval value env) (rV (.ref a))) (hl : b.heap.IsList a items) (h2 : Ev (model prog w) A b (eval slice env) (rI k)) (hx : items[k]? = some x) (hk : k < 1000000)
    (hs : ∀ t, subscripted slice false (.ref a) (.int k t) = operate [.ref a, .int k t] (getItem (.ref a) (.int k t)) := by intro _; rfl) : Ev (model prog w) A b (eval (.Subscript value slice pos) env) (rV x) :=
  Ev.item h1 h2 monoV fun v1 v2 s ks r1 r2 => Ev.itemL r1 (hl.at fun o e => ks.heap _ o e) r2 (by omega) (by simpa using hx) (by omega) hs

/-- the least of a list of ints -/
theorem Ev.minL {v : Value} {P : List Int → Prop} (hh : A.handled = none) (h : rList (fun its => ∃ ns, IntsAre its.toList ns ∧ ns ≠ [] ∧ P ns) v b.heap) :
    Ev (model prog w) A b (call (.builtin "min") [v] []) (fun v _ => ∃ M t, v = .int M t ∧ ∃ ns, P ns ∧ M ∈ ns ∧ ∀ a, a ∈ ns → M ≤ a) := fun s ks Q E hQ => by
  obtain ⟨a, its, rfl, hl, ns, hi, hne, hP⟩ := h
  have hl := hl.at fun o e => ks.heap _ o e
  obtain ⟨xs, e⟩ := hi.allInts.items
  have hns : ns = xs.toList.map (·.1) := by rw [← hi.numsOf, ← nums_intItems, ← e]
  have hsz : 0 < xs.size := by
    have h3 := List.length_pos_iff.mpr hne; rw [hns, List.length_map, Array.length_toList] at h3; exact h3
  have e' : its = intItems xs := by rw [← e]
  rw [e'] at hl
  refine min_intList hh hl hsz fun v h' tk hv hk => ?_
  obtain ⟨t, rfl⟩ := intItems_at hv
  obtain ⟨h1, h2⟩ := argBest_lt (numAt xs) (xs.size - 1)
  refine hQ _ _ (Kps.mk' hk) ⟨_, t, rfl, ns, hP, ?_, fun a ha => ?_⟩
  · rw [hns, numAt_eq]; exact getD_mem (by rw [List.length_map, Array.length_toList]; omega)
  · rw [hns] at ha
    obtain ⟨j, hj, rfl⟩ := mem_getD ha
    rw [List.length_map, Array.length_toList] at hj
    rw [← numAt_eq]; exact h2 j (by omega)
theorem monoMin {P : Int → Prop} : ∀ v h h', Kp h h' → (fun (v : Value) (_ : Heap) => ∃ M t, v = .int M t ∧ P M) v h → (fun (v : Value) (_ : Heap) => ∃ M t, v = .int M t ∧ P M) v h' := fun _ _ _ _ r => r

theorem comp_list {J : Array Value → List Ent → Prop} {v : Value} {h : Heap} {P : Array Value → Prop} (x : rComp b J v h) (hJ : ∀ ys l, J ys l → P ys) : rNew b P v h := let ⟨D, ys, l, e, n, p, j, _⟩ := x; ⟨D, ys, e, n, p, hJ ys l j⟩
end
end Mine

end

/- Ls2 -/
section
open PySem PySem.Calls PyProof.Rows
namespace Mine
set_option maxRecDepth 100000
set_option linter.unusedVariables false

/-- a plain list that stands -/
abbrev rPlain (P : Array Value → Prop) (v : Value) (h : Heap) : Prop := ∃ a items, v = .ref a ∧ h.PlainList a items ∧ P items
theorem monoPlain {P : Array Value → Prop} : ∀ v h h', Kp h h' → rPlain P v h → rPlain P v h' := fun v h h' k ⟨a, its, e, p, q⟩ => ⟨a, its, e, p.at fun o e => k _ o e, q⟩
theorem new_plain {b : Shared} {P : Array Value → Prop} {v : Value} {h : Heap} (x : rNew b P v h) : rPlain P v h := let ⟨a, its, e, _, p, q⟩ := x; ⟨a, its, e, p, q⟩

section
variable {prog : Program} {w : World} {A : Around} {b : Shared} {env : Env}

/-- list + list -/
theorem Ev.catL {l r : Expr} {pos : Pos} {P1 P2 : Array Value → Prop} (h1 : Ev (model prog w) A b (eval l env) (rPlain P1)) (h2 : Ev (model prog w) A b (eval r env) (rPlain P2)) (hsz : ∀ x y, P1 x → P2 y → x.size + y.size ≤ 1000000) :
    Ev (model prog w) A b (eval (.BinOp l .Add r pos) env) (rNew b fun its => ∃ x y, P1 x ∧ P2 y ∧ its = x ++ y) :=
  Ev.binop h1 h2 monoPlain fun v1 v2 s ks r1 r2 s' ks' Q E hQ => by
    obtain ⟨a, x, rfl, p1, q1⟩ := r1
    obtain ⟨c, y, rfl, p2, q2⟩ := r2
    obtain ⟨n1, e1⟩ := p1
    obtain ⟨n2, e2⟩ := p2
    refine P.add_list (ks'.heap _ _ e1) (ks'.heap _ _ e2) ?_ (by have := hsz x y q1 q2; unfold sizeLine; omega)
    exact hQ _ { s' with heap := s'.heap.push { cls := .type "list", data := .seq (x ++ y) } } (Kps.push s' _ s'.toks) ⟨_, _, rfl, fresh_size (ks.trans ks'), ⟨0, Heap.get?_push_size _ rfl⟩, x, y, q1, q2, rfl⟩

/-- ints of two lists, compared -/
theorem Ev.tNeL {l r : Expr} {pos : Pos} {whole : Sem Value} {ns ms : List Int} (hu : A.units + 64 < cLine) (h1 : Ev (model prog w) A b (eval l env) (rList fun its => IntsAre its.toList ns)) (h2 : Ev (model prog w) A b (eval r env) (rList fun its => IntsAre its.toList ms)) (hm : behindInMarks .NotEq r = false := by rfl) :
    Ev (model prog w) A b (isTrue (.Compare l [.NotEq] [r] pos) env whole) (rB (!decide (ns = ms))) :=
  Ev.test h1 h2 monoList (fun v1 v2 s ks r1 r2 s' ks' Q E hQ => by
    obtain ⟨a, x, rfl, p1, q1⟩ := r1
    obtain ⟨c, y, rfl, p2, q2⟩ := r2
    exact PySem.W.ke_ne_ints (xs := x.toList) (ys := y.toList) (by simpa using p1.at fun o e => ks'.heap _ o e) (by simpa using p2.at fun o e => ks'.heap _ o e) q1 q2 hu (hQ _ _ (Kps.refl _) rfl)) hm
theorem Ev.eqL {l r : Expr} {pos : Pos} {ns ms : List Int} (hu : A.units + 64 < cLine) (h1 : Ev (model prog w) A b (eval l env) (rList fun its => IntsAre its.toList ns)) (h2 : Ev (model prog w) A b (eval r env) (rList fun its => IntsAre its.toList ms)) (hm : behindInMarks .Eq r = false := by rfl) :
    Ev (model prog w) A b (eval (.Compare l [.Eq] [r] pos) env) (rV (.bool (decide (ns = ms)))) :=
  Ev.cmp h1 h2 monoList (fun v1 v2 s ks r1 r2 s' ks' Q E hQ => by
    obtain ⟨a, x, rfl, p1, q1⟩ := r1
    obtain ⟨c, y, rfl, p2, q2⟩ := r2
    exact PySem.W.ke_eq_ints (xs := x.toList) (ys := y.toList) (by simpa using p1.at fun o e => ks'.heap _ o e) (by simpa using p2.at fun o e => ks'.heap _ o e) q1 q2 hu (hQ _ _ (Kps.refl _) rfl)) hm
end
end Mine

end

/- Ls4 -/
section
open PySem PySem.Calls PyProof.Rows
namespace Mine
set_option maxRecDepth 100000
set_option linter.unusedVariables false

section
variable {prog : Program} {w : World} {A : Around} {b : Shared} {env : Env}

/-- a method of a text -/
theorem Ev.methS {o : Expr} {name : Str} {apos pos : Pos} {e1 : Expr} {es : List Expr} {id : String} {x : Str} {Rs : List (Value → Heap → Prop)} {R : Value → Heap → Prop}
    (ho : Ev (model prog w) A b (eval o env) (rS x)) (hsl : Slot "str" name id) (hty : typeOf (.builtin id) = pure (.type "method_descriptor"))
    (ha : Ev (model prog w) A b (spliced ((false, eval e1 env) :: evs es env)) (ListR Rs)) (hc : ∀ ov vs s, Kps b s → rS x ov s.heap → ListR Rs vs s.heap → Ev (model prog w) A s (call (.builtin id) (ov :: vs) []) R)
    (hbase : attributeBase o name env (eval o env) = eval o env := by rfl)
    (hfew : ((backTo pos (starEach (e1 :: es) env)).all (fun x => !x.1) && (backToKw pos (keywordEach [] env)).all (fun x => x.1.isSome) && decide ((e1 :: es).length + ([] : List Keyword).length + (if ([] : List Keyword).isEmpty then 0 else 1) < 30)) = true := by rfl)
    (hline : (apos.endLine == pos.line) = true := by rfl) (hs : backTo pos (starEach (e1 :: es) env) = (false, eval e1 env) :: evs es env := by rfl) (hpl : (((false, eval e1 env) :: evs es env).any (·.1)) = false := by rfl) :
    Ev (model prog w) A b (eval (.Call (.Attribute o name apos) (e1 :: es) [] pos) env) R := fun s ks Q E hQ => by
  refine wpAny_Call_method hbase hfew hline F.plainAttrs_str hsl hty (ho s ks _ _ fun v s1 k1 r1 => ?_)
  obtain ⟨t, rfl⟩ := r1
  have k := ks.trans k1
  refine ⟨typeIs_str _ _ _, fun a e => (by cases e), ?_⟩
  rw [hs]
  refine callWith_machine hpl rfl (evalArgs_plain (ha s1 k _ _ fun vs s2 k2 r2 => ?_))
  exact hc _ vs s2 (k.trans k2) ⟨t, rfl⟩ r2 s2 (Kps.refl s2) _ _ fun v s' k3 r => hQ v s' ((k1.trans k2).trans k3) r

/-- x.join(list) -/
theorem Ev.join {o e1 : Expr} {apos pos : Pos} {x : Str} {ys : List Str} (ho : Ev (model prog w) A b (eval o env) (rS x)) (ha : Ev (model prog w) A b (eval e1 env) (rList fun its => StrsAre its.toList ys)) (hsep : x.length ≤ 16) (hw : (ys.map (·.length)).sum + ys.length ≤ 1048576)
    (hbase : attributeBase o "join" env (eval o env) = eval o env := by rfl)
    (hfew : ((backTo pos (starEach [e1] env)).all (fun x => !x.1) && (backToKw pos (keywordEach [] env)).all (fun x => x.1.isSome) && decide (([e1] : List Expr).length + ([] : List Keyword).length + (if ([] : List Keyword).isEmpty then 0 else 1) < 30)) = true := by rfl)
    (hline : (apos.endLine == pos.line) = true := by rfl) (hs : backTo pos (starEach [e1] env) = (false, eval e1 env) :: evs [] env := by rfl) (hpl : (((false, eval e1 env) :: evs [] env).any (·.1)) = false := by rfl) :
    Ev (model prog w) A b (eval (.Call (.Attribute o "join" apos) [e1] [] pos) env) (rS (Txt.join x ys)) := by
  refine Ev.methS (Rs := [rList fun its => StrsAre its.toList ys]) ho F.slot_str_join F.type_str_join (Ev.s1 ha monoList) (fun ov vs s ks hov hvs => ?_) hbase hfew hline hs hpl
  obtain ⟨v, _, rfl, ⟨a, its, rfl, hl, hst⟩, rfl⟩ := hvs
  obtain ⟨t, rfl⟩ := hov
  exact fun s' k' Q E hQ => join_listW (hl.at fun o e => k'.heap _ o e) hst hsep hw fun t' k => hQ _ _ (Kps.tok _ _) ⟨t', rfl⟩

/-- list[lo:hi] -/
theorem Ev.sliceL {value : Expr} {lower upper : Option Expr} {p pos : Pos} {P : Array Value → Prop} {lo hi : Option Int} (h1 : Ev (model prog w) A b (eval value env) (rList P)) (hsz : ∀ its, P its → its.size ≤ 1000000)
    (h2 : Ev (model prog w) A b (evalPart lower env) (fun v _ => IsPart v lo)) (h3 : Ev (model prog w) A b (evalPart upper env) (fun v _ => IsPart v hi)) (ht : ∀ o r, letTemporaryGo value o r = pure () := by intro _ _; rfl) :
    Ev (model prog w) A b (eval (.Subscript value (.Slice lower upper none p) pos) env) (rNew b fun its => ∃ src, P src ∧ its = slicePick src lo hi none) := fun s ks Q E hQ => by
  refine wpAny_Subscript_list_slice (h1 s ks _ _ fun v1 s1 k1 r1 => h2 s1 (ks.trans k1) _ _ fun v2 s2 k2 r2 => h3 s2 ((ks.trans k1).trans k2) _ _ fun v3 s3 k3 r3 => ?_) ht
  obtain ⟨a, its, rfl, hl, hP⟩ := r1
  refine ⟨a, its, lo, hi, rfl, hl.at fun o e => (k2.trans k3).heap _ o e, by have := hsz its hP; unfold sizeLine; omega, r2, r3, ?_⟩
  have k4 := Kps.push s3 { cls := .type "slice", data := .fields #[v2, v3, .none] } s3.toks
  have k5 := Kps.push { s3 with heap := s3.heap.push { cls := .type "slice", data := .fields #[v2, v3, .none] } } { cls := .type "list", data := .seq (slicePick its lo hi none) } s3.toks
  have kk := ((k1.trans k2).trans k3).trans (k4.trans k5)
  refine hQ _ { s3 with heap := (s3.heap.push { cls := .type "slice", data := .fields #[v2, v3, .none] }).push { cls := .type "list", data := .seq (slicePick its lo hi none) } } kk ⟨_, _, rfl, ?_, ⟨0, ?_⟩, its, hP, rfl⟩
  · have := fresh_size (((ks.trans k1).trans k2).trans (k3.trans k4))
    rw [Heap.size_push] at this
    exact this
  · have : ((s3.heap.push { cls := .type "slice", data := .fields #[v2, v3, .none] }).push { cls := .type "list", data := .seq (slicePick its lo hi none) }).get? (s3.heap.push { cls := .type "slice", data := .fields #[v2, v3, .none] }).objs.size = some { cls := .type "list", data := .seq (slicePick its lo hi none) } := Heap.get?_push_size _ rfl
    rw [Heap.size_push] at this
    exact this
theorem Ev.pI {e : Expr} {i : Int} (h : Ev (model prog w) A b (eval e env) (rI i)) : Ev (model prog w) A b (evalPart (some e) env) (fun v _ => IsPart v (some i)) := fun s ks Q E hQ =>
  wpAny_evalPart_some (h s ks _ _ fun v s1 k1 ⟨t, e⟩ => hQ v s1 k1 (by subst e; exact .int i t))
theorem Ev.pN : Ev (model prog w) A b (evalPart none env) (fun v _ => IsPart v none) := fun s ks Q E hQ => wpAny_evalPart_none (hQ .none s (Kps.refl s) .none)

/-- the sum of a list of ints -/
theorem Ev.sumL {v : Value} {P : List Int → Prop} (hh : A.handled = none) (h : rList (fun its => ∃ ns, IntsAre its.toList ns ∧ P ns) v b.heap) :
    Ev (model prog w) A b (call (.builtin "sum") [v] []) (fun v _ => ∃ M t, v = .int M t ∧ ∃ ns, P ns ∧ M = ns.sum) := fun s ks Q E hQ => by
  obtain ⟨a, its, rfl, hl, ns, hi, hP⟩ := h
  have hl := hl.at fun o e => ks.heap _ o e
  obtain ⟨xs, e⟩ := hi.allInts.items
  have hns : ns = xs.toList.map (·.1) := by rw [← hi.numsOf, ← nums_intItems, ← e]
  have e' : its = intItems xs := by rw [← e]
  rw [e'] at hl
  refine sum_intListG hh hl fun h' tk t' hk => hQ _ _ (Kps.mk' hk) ⟨_, t', rfl, ns, hP, ?_⟩
  rw [preSum_eq, List.take_of_length_le (by simp), hns]
end

theorem intsAre_take {vs : List Value} {ns : List Int} (h : IntsAre vs ns) : ∀ k, IntsAre (vs.take k) (ns.take k) := by
  induction h with
  | nil => intro k; simp; exact .nil
  | cons n t r ih => intro k; cases k with
    | zero => simp; exact .nil
    | succ k => simp; exact .cons n t (ih k)
theorem intsAre_drop {vs : List Value} {ns : List Int} (h : IntsAre vs ns) : ∀ k, IntsAre (vs.drop k) (ns.drop k) := by
  induction h with
  | nil => intro k; simp; exact .nil
  | cons n t r ih => intro k; cases k with
    | zero => simp; exact .cons n t r
    | succ k => simp; exact ih k
end Mine

end

/- Ls5 -/
section
open PySem PySem.Calls PyProof.Rows
namespace Mine
set_option maxRecDepth 100000
set_option linter.unusedVariables false

/-- a tuple -/
def eT (a : Addr) (items : Array Value) : Ent where
  fp := [a]
  P := fun h => IsTup h a items
  loc := fun k ⟨o, e, r⟩ => ⟨o, k a (by simp) o e, r⟩
  has := fun ⟨o, e, _⟩ b hb => by simp at hb; subst hb; exact ⟨_, e⟩

section
variable {prog : Program} {w : World} {A : Around} {env : Env} {s₀ s : Shared} {X : List Addr} {L : Addr} {vals : List (Str × Value)} {l : List Ent} {E : Value → Shared → Prop}

/-- x op= e, ints -/
theorem St.augI (S : St s₀ X L vals l s) {op : Operator} {x : Str} {pos' pos : Pos} {e : Expr} {i j k : Int} {t : Tok} {Q : Flow → Shared → Prop} (hx : vals.lookup x = some (.int i t)) (he : Ev (model prog w) A s (eval e env) (rI j))
    (hop : ∀ (s : Shared) (t u : Tok) (Q : Value → Shared → Prop) (E : Value → Shared → Prop), (∀ t' tk, Q (.int k t') { s with toks := tk }) → wpAny (model prog w) A (inplaceOp op (.int i t) (.int j u)) Q E s)
    (hQ : ∀ s' t', St s₀ X L ((x, .int k t') :: vals) l s' → Q .next s')
    (hL : env.locals = L := by rfl) (hk : env.scope.kind = .function := by rfl) (hl : env.kindOf x = some .local := by rfl) (hp : (env.scope.kind == .class || (env.scope.kind == .module && env.locals != env.globals)) = false := by rfl) :
    wpAny (model prog w) A (exec (.AugAssign (.Name x pos') op e pos) env) Q E s := by
  refine wpAny_AugAssign_Name ?_
  obtain ⟨m, n, a⟩ := S.ns
  refine wpAny_loadName_local hk hl (by rw [hL]; exact n) (a x _ hx) (he.go fun v s1 k1 hv => ?_)
  obtain ⟨u, rfl⟩ := hv
  refine hop s1 t u _ _ fun t' tk => ?_
  exact (S.kps (k1.trans (Kps.tok _ _))).store (fun s' S' _ => hQ s' t' S') hL hl hp
theorem St.augSub (S : St s₀ X L vals l s) {x : Str} {pos' pos : Pos} {e : Expr} {i j : Int} {t : Tok} {Q : Flow → Shared → Prop} (hx : vals.lookup x = some (.int i t)) (he : Ev (model prog w) A s (eval e env) (rI j))
    (hQ : ∀ s' t', St s₀ X L ((x, .int (i - j) t') :: vals) l s' → Q .next s')
    (hL : env.locals = L := by rfl) (hk : env.scope.kind = .function := by rfl) (hl : env.kindOf x = some .local := by rfl) (hp : (env.scope.kind == .class || (env.scope.kind == .module && env.locals != env.globals)) = false := by rfl) :
    wpAny (model prog w) A (exec (.AugAssign (.Name x pos') .Sub e pos) env) Q E s :=
  S.augI hx he (fun s t u Q E h => isub_int (h _ _)) hQ hL hk hl hp
theorem St.augDiv (S : St s₀ X L vals l s) {x : Str} {pos' pos : Pos} {e : Expr} {i j : Int} {t : Tok} {Q : Flow → Shared → Prop} (hx : vals.lookup x = some (.int i t)) (he : Ev (model prog w) A s (eval e env) (rI j)) (hj : j ≠ 0) (hd : Builtin.divisionGoesByPylong i j = false)
    (hQ : ∀ s' t', St s₀ X L ((x, .int (i.fdiv j) t') :: vals) l s' → Q .next s')
    (hL : env.locals = L := by rfl) (hk : env.scope.kind = .function := by rfl) (hl : env.kindOf x = some .local := by rfl) (hp : (env.scope.kind == .class || (env.scope.kind == .module && env.locals != env.globals)) = false := by rfl) :
    wpAny (model prog w) A (exec (.AugAssign (.Name x pos') .FloorDiv e pos) env) Q E s :=
  S.augI hx he (fun s t u Q E h => AutoIntOps.ifloordiv_1 (by simpa using hj) (by simp [hd]) (h _ _)) hQ hL hk hl hp

/-- out.extend(e) -/
theorem St.extend (S : St s₀ X L vals l s) {o g : Expr} {apos cpos epos : Pos} {D : Addr} {items : Array Value} {P : Array Value → Prop} {Q : Flow → Shared → Prop} {pre post : List Ent} (hl : l = pre ++ eL D items :: post)
    (ho : Ev (model prog w) A s (eval o env) (rV (.ref D))) (hg : Ev (model prog w) A s (eval g env) (rNew s P)) (hsz : ∀ y, P y → items.size + y.size ≤ 100000)
    (hQ : ∀ y s', P y → St s₀ X L vals (pre ++ eL D (items ++ y) :: post) s' → Q .next s')
    (hint : interactive env = false := by rfl) (hsw : swapsWith (.Call (.Attribute o "extend" apos) [g] [] cpos) none epos.line env = pure false := by rfl) (hbase : attributeBase o "extend" env (eval o env) = eval o env := by rfl)
    (hfew : ((backTo cpos (starEach [g] env)).all (fun x => !x.1) && (backToKw cpos (keywordEach [] env)).all (fun x => x.1.isSome) && decide (([g] : List Expr).length + ([] : List Keyword).length + (if ([] : List Keyword).isEmpty then 0 else 1) < 30)) = true := by rfl)
    (hline : (apos.endLine == cpos.line) = true := by rfl) (htrees : backTo cpos (starEach [g] env) = [(false, eval g env)] := by rfl) :
    wpAny (model prog w) A (exec (.Expr (.Call (.Attribute o "extend" apos) [g] [] cpos) epos) env) Q E s := by
  refine wpAny_Expr (wpAny_Call_method hbase hfew hline F.plainAttrs_list F.slot_list_extend F.type_list_extend (ho.go fun v s1 k1 hv => ?_)) hint hsw
  cases (hv : v = _)
  have S1 := S.kps k1
  obtain ⟨n, hD⟩ := S1.own (eL D items) (by rw [hl]; exact List.mem_append_right _ (.head _))
  refine ⟨⟨_, hD, rfl⟩, fun a e => (by cases e; exact ⟨_, hD, rfl⟩), ?_⟩
  rw [htrees]
  refine PySem.P.extend_list ((hg.base k1).go fun v s2 k2 hv => ?_)
  obtain ⟨c, y, rfl, hn, ⟨n2, hy⟩, hP⟩ := hv
  have S2 := S1.kps k2
  have hs := hsz y hP
  have hD2 := k2.heap _ _ hD
  refine ⟨c, items, y, n, n2, by unfold sizeLine; omega, by unfold sizeLine; omega, ?_, rfl, hD2, hy, ?_⟩
  · have : Builtin.List.listTooLong (items.size + y.size) = false := by unfold Builtin.List.listTooLong sizeLine; simp; omega
    simp [this]
  · refine hQ y _ hP (S2.upd hl (tk := s2.toks) (e' := eL D (items ++ y)) (fun b o hb q => ?_) rfl ⟨_, PySem.IsL.update hD2 _⟩)
    rw [Heap.get?_update_ne _ _ _ _ (by simpa [eL] using hb)]; exact q
end

section
variable {prog : Program} {w : World} {A : Around} {b : Shared} {env : Env}

/-- (x, y) -/
theorem Ev.tup2 {e1 e2 : Expr} {k : Nat} {pos : Pos} {R1 R2 : Value → Heap → Prop} (h : Ev (model prog w) A b (spliced ((false, eval e1 env) :: evs [e2] env)) (ListR [R1, R2])) (m1 : ∀ v h h', Kp h h' → R1 v h → R1 v h') (m2 : ∀ v h h', Kp h h' → R2 v h → R2 v h')
    (hs : backTo pos (starEach [e1, e2] env) = (false, eval e1 env) :: evs [e2] env := by rfl) :
    Ev (model prog w) A b (eval (.Tuple [e1, e2] k pos) env) (fun v h => ∃ a v1 v2, v = .ref a ∧ b.heap.get? a = none ∧ IsTup h a #[v1, v2] ∧ R1 v1 h ∧ R2 v2 h) := fun s ks Q E hQ => by
  refine wpAny_Tuple ?_
  rw [hs]
  refine h s ks _ _ fun vs s1 k1 r => ?_
  obtain ⟨v1, _, rfl, r1, v2, _, rfl, r2, rfl⟩ := r
  have k2 : Kps s1 { s1 with heap := s1.heap.push { cls := .type "tuple", data := .seq [v1, v2].toArray } } := Kps.push s1 _ s1.toks
  exact ⟨by show 2 ≤ sizeLine; decide, hQ _ _ (k1.trans k2) ⟨_, v1, v2, rfl, fresh_size (ks.trans k1), IsTup.new _ _, m1 _ _ _ k2.heap r1, m2 _ _ _ k2.heap r2⟩⟩

/-- tuple[k] -/
theorem Ev.tat {value slice : Expr} {pos : Pos} {a : Addr} {items : Array Value} {k : Nat} {x : Value} (h1 : Ev (model prog w) A b (eval value env) (rV (.ref a))) (hl : IsTup b.heap a items) (h2 : Ev (model prog w) A b (eval slice env) (rI k)) (hx : items[k]? = some x) (hk : k < 1000000)
    (hs : ∀ t, subscripted slice false (.ref a) (.int k t) = operate [.ref a, .int k t] (getItem (.ref a) (.int k t)) := by intro _; rfl) : Ev (model prog w) A b (eval (.Subscript value slice pos) env) (rV x) :=
  Ev.item h1 h2 monoV fun v1 v2 s ks r1 r2 s' ks' Q E hQ => by
    obtain ⟨t, rfl⟩ := r2
    cases (r1 : v1 = _)
    have hl' := hl.keeps (ks.trans ks').heap
    have hlt : k < items.size := (Array.getElem?_eq_some_iff.mp hx).1
    refine tail_any (s := s') hl'.typeIs slot_tuple_getitem.lookup (getItem_tuple hl' (by omega) (by omega) (j := k) ?_ hx (hQ _ _ (Kps.refl _) rfl)) (hs t)
    unfold seqIndex?
    have h1 : ¬ (k : Int) < 0 := by omega
    simp only [h1, if_false]
    rw [if_pos (by simp; omega)]
    simp

/-- text.count(text) -/
theorem Ev.count {o e1 : Expr} {apos pos : Pos} {x y : Str} (ho : Ev (model prog w) A b (eval o env) (rS x)) (ha : Ev (model prog w) A b (eval e1 env) (rS y))
    (hbase : attributeBase o "count" env (eval o env) = eval o env := by rfl)
    (hfew : ((backTo pos (starEach [e1] env)).all (fun x => !x.1) && (backToKw pos (keywordEach [] env)).all (fun x => x.1.isSome) && decide (([e1] : List Expr).length + ([] : List Keyword).length + (if ([] : List Keyword).isEmpty then 0 else 1) < 30)) = true := by rfl)
    (hline : (apos.endLine == pos.line) = true := by rfl) (hs : backTo pos (starEach [e1] env) = (false, eval e1 env) :: evs [] env := by rfl) (hpl : (((false, eval e1 env) :: evs [] env).any (·.1)) = false := by rfl) :
    Ev (model prog w) A b (eval (.Call (.Attribute o "count" apos) [e1] [] pos) env) (rI (Txt.count x y)) := by
  refine Ev.methS (Rs := [rS y]) ho F.slot_str_count F.type_str_count (Ev.s1 ha monoS) (fun ov vs s ks hov hvs => ?_) hbase hfew hline hs hpl
  obtain ⟨v, _, rfl, ⟨u, rfl⟩, rfl⟩ := hvs
  obtain ⟨t, rfl⟩ := hov
  exact fun s' k' Q E hQ => SC.count (hQ _ _ (Kps.tok _ _) ⟨_, rfl⟩)
end
end Mine

end

/- E04 -/
section
open PySem PySem.Calls PyProof.Rows PySem.W
namespace Mine
set_option maxRecDepth 100000
set_option linter.unusedVariables false

section
variable {w : World} {A : Around} {b : Shared} {mg mb : Str → Option Value}

theorem bindR2 : ∃ t : Tok, ∀ {w : World} {mg mb : Str → Option Value} {h : Shared} (G : Gd w mg mb h.heap) (va vx : Value), BindsTo h (kf 57) ⟨[va, vx], []⟩ [("a", va), ("x", vx), ("lo", .int 0 t), ("hi", .none), ("key", .none)] :=
  ⟨_, fun {w mg mb h} G _ _ => kp_binds G.k fun S => by exact rfl⟩
theorem bindR4 {h : Shared} (G : Gd w mg mb h.heap) (va vx vlo vhi : Value) : BindsTo h (kf 57) ⟨[va, vx, vlo, vhi], []⟩ [("a", va), ("x", vx), ("lo", vlo), ("hi", vhi), ("key", .none)] :=
  kp_binds G.k fun S => by exact rfl
theorem bindL4' {h : Shared} (G : Gd w mg mb h.heap) (va vx vlo vhi : Value) : BindsTo h (kf 66) ⟨[va, vx, vlo, vhi], []⟩ [("a", va), ("x", vx), ("lo", vlo), ("hi", vhi), ("key", .none)] :=
  kp_binds G.k fun S => by exact rfl
theorem bindL2 : ∃ t : Tok, ∀ {w : World} {mg mb : Str → Option Value} {h : Shared} (G : Gd w mg mb h.heap) (va vx vk : Value), BindsTo h (kf 66) ⟨[va, vx], [("key", vk)]⟩ [("a", va), ("x", vx), ("lo", .int 0 t), ("hi", .none), ("key", vk)] :=
  ⟨_, fun {w mg mb h} G _ _ _ => kp_binds G.k fun S => by exact rfl⟩
end
end Mine

end

/- E05 -/
section
open PySem PySem.Calls PyProof.Rows PySem.W
namespace Mine
set_option maxRecDepth 100000
set_option linter.unusedVariables false

section
variable {w : World} {A : Around} {b : Shared} {mg mb : Str → Option Value}

/-- a mail is a short text -/
abbrev rMail (n : Nat) (v : Value) (_ : Heap) : Prop := ∃ (l : List Nat) (t : Tok), l.length ≤ n ∧ v = .str (T l) t

theorem mail_ev {n : Int} {v : Value} (G : Gd w mg mb b.heap) (hA : Rm A 1) (hv : rI n v b.heap) : Ev (model prg w) A b (call (.ref 73) [v] []) (rMail 300) := by
  obtain ⟨t, rfl⟩ := hv
  refine Ev.fn (fd := kf 73) (body := bodyOf (kf 73)) (binds := [("number", .int n t)]) (G.fn 73 _ (by kernel_rfl)) G.wd.lim hA.room (by kernel_rfl) (fun s ks => BindsTo.of_eq (by kernel_rfl)) (by kernel_rfl) fun s L s₁ k0 hL k1 hn => ?_
  have S : St s [] L [("number", .int n t)] [] s₁ :=
    ⟨k1.same, fun b o _ e => k1.heap b o e, ⟨_, hn, Agree.of_eq fun _ => rfl⟩, by subst hL; exact Heap.get?_none_of_le (Nat.le_refl _), by simp, by simp, List.Pairwise.nil, by simp, by simp⟩
  generalize hAA : A.deeper (envF (kf 73) L 73) = A'
  refine wpAny_execs_cons (S.assign Ev.kS fun v s2 s3 k2 hv sb S3 => ?_)
  obtain ⟨t1, rfl⟩ := hv
  refine wpAny_execs_cons (S3.assign (R := rI (n.fmod 259)) (Ev.fmod (Ev.asI (S3.v (by rfl))) Ev.kI (by decide)) fun v s4 s5 k4 hv sb S5 => ?_)
  obtain ⟨t2, rfl⟩ := hv
  have em : n.fmod 259 = (((n % 259).toNat : Nat) : Int) := by rw [fm n (by decide)]; omega
  rw [em] at S5
  have hm : (n % 259).toNat < 259 := by omega
  generalize (n % 259).toNat = m at S5 hm
  refine wpAny_execs_cons (wpAny_While (codeAny_whileLoop (fun k s' => ∃ (left : Nat) (l : List Nat) (tl tt : Tok), St s [] L [("left", .int left tl), ("text", .str (T l) tt)] [] s' ∧ left + l.length ≤ 299 ∧ k = left) ?_ m ⟨m, [], t2, t1, S5.renam fun m a => .cons (a.get rfl) (.cons (a.get rfl) .nil), by simp; omega, rfl⟩))
  rintro k s' ⟨left, l, tl, tt, S', hb, hkl⟩
  refine (Ev.tGt (i := left) (j := 0) (Ev.asI (S'.v (by rfl))) Ev.kI).go fun c s6 k6 hc => ?_
  cases (hc : c = _)
  have S6 := S'.kps k6
  by_cases h0 : 0 < left
  · rw [if_pos (by simpa using h0)]
    refine wpAny_execs_cons (S6.augSub (by rfl) Ev.kI fun s7 t7 S7 => ?_)
    have e7 : ((left : Int) - 1) = ((left - 1 : Nat) : Int) := by omega
    rw [e7] at S7
    have h6 : (((left - 1 : Nat) : Int).fmod 6) = (((left - 1) % 6 : Nat) : Int) := by rw [fm _ (by decide)]; omega
    obtain ⟨c, hc⟩ : ∃ c, ([97, 46, 13, 10, 45, 12] : List Nat)[(left - 1) % 6]? = some c := ⟨_, List.getElem?_eq_getElem (by show _ < 6; omega)⟩
    refine wpAny_execs_cons (S7.augS (y := T l) (z := T [c]) (by rfl) ?_ ?_ fun s8 t8 S8 => ?_)
    · refine Ev.item (R1 := rS (T [97, 46, 13, 10, 45, 12])) (R2 := rI (((left - 1 : Nat) : Int).fmod 6)) Ev.kS (Ev.fmod (Ev.asI (S7.v (by rfl))) Ev.kI (by decide)) monoS ?_
      intro v1 v2 s8 k8 r1 r2
      rw [h6] at r2
      exact Ev.itemS r1 r2 (by omega) (by omega) (by rw [Int.toNat_natCast]; simpa using hc) (fun t u => by rfl)
    · show l.toArray.size + ([c] : List Nat).toArray.size ≤ _; unfold sizeLine; simp; omega
    rw [T_app] at S8
    refine wpAny_execs_cons (S8.augDiv (i := ((left - 1 : Nat) : Int)) (j := 6) (by rfl) Ev.kI (by decide) (short_div _ _ (by decide +kernel)) fun s9 t9 S9 => wpAny_execs_nil ?_)
    have e9 : ((left - 1 : Nat) : Int).fdiv 6 = (((left - 1) / 6 : Nat) : Int) := by rw [fd' _ (by decide)]; omega
    rw [e9] at S9
    exact ⟨(left - 1) / 6, by omega, (left - 1) / 6, l ++ [c], t9, t8, S9.renam fun m a => .cons (a.get rfl) (.cons (a.get rfl) .nil), by simp; omega, rfl⟩
  · rw [if_neg (by simpa using h0)]
    refine wpAny_execs_nil ?_
    refine wpAny_execs_cons (wpAny_Return_some ((S6.v (by rfl)).go fun v s7 k7 hv => ?_))
    cases (hv : v = _)
    exact ⟨_, rfl, (S6.kps k7).out, l, tt, by omega, rfl⟩
end
end Mine

end

/- Pure3 -/
section
namespace Mine
set_option linter.unusedVariables false

theorem beg_snoc' : ∀ (l : List Nat) (last c : Nat), beg last (l ++ [c]) = beg last l ++ piece (l.getLastD last) c
  | [], last, c => by simp [beg]
  | d :: r, last, c => by
    rw [List.cons_append, beg, beg, beg_snoc' r d c, List.append_assoc]
    rw [List.getLastD_cons]

/-- the sign ahead of place k -/
def lastAt (l : List Nat) (k : Nat) : Nat := (l.take k).getLastD 10
theorem lastAt_zero (l : List Nat) : lastAt l 0 = 10 := by simp [lastAt]
theorem lastAt_succ {l : List Nat} {k c : Nat} (h : l[k]? = some c) : lastAt l (k + 1) = c := by
  unfold lastAt
  rw [List.take_add_one, h]
  simp
theorem beg_take {l : List Nat} {k c : Nat} (h : l[k]? = some c) : beg 10 (l.take (k + 1)) = beg 10 (l.take k) ++ piece (lastAt l k) c := by
  rw [List.take_add_one, h]
  exact beg_snoc' _ _ _

/-- how a mail's part ends -/
def ending (l : List Nat) : List Nat := if l = [] ∨ (lastAt l l.length ≠ 13 ∧ lastAt l l.length ≠ 10) then [13, 10, 46, 13, 10] else [46, 13, 10]
/-- what is sent of a mail -/
def out (l : List Nat) : List Nat := beg 10 l ++ ending l
/-- which place of the mail wrote each sign -/
def ownU (l : List Nat) : Nat → List Nat
  | 0 => []
  | k + 1 => ownU l k ++ List.replicate (piece (lastAt l k) (l.getD k 0)).length k
def own (l : List Nat) : List Nat := ownU l l.length ++ List.replicate (ending l).length l.length

theorem lastAt_snoc (l : List Nat) (c : Nat) : lastAt (l ++ [c]) (l ++ [c]).length = c := by
  unfold lastAt; rw [List.take_of_length_le (Nat.le_refl _)]; simp

theorem list_snoc_cases (l : List Nat) : l = [] ∨ ∃ r c, l = r ++ [c] := by
  rcases List.eq_nil_or_concat l with h | ⟨r, c, h⟩
  · exact .inl h
  · exact .inr ⟨r, c, by simpa using h⟩

/-- a row's end at the end of the mail shows in what is sent -/
theorem beg_ends {l : List Nat} (h0 : l ≠ []) (h : lastAt l l.length = 13 ∨ lastAt l l.length = 10) : ∃ pre, beg 10 l = pre ++ [13, 10] := by
  rcases list_snoc_cases l with rfl | ⟨r, c, rfl⟩
  · exact absurd rfl h0
  · rw [lastAt_snoc] at h
    rw [beg_snoc']
    by_cases h1 : c = 13 ∨ (c = 10 ∧ r.getLastD 10 ≠ 13)
    · exact ⟨beg 10 r, by rw [piece, if_pos h1]⟩
    · have hc : c = 10 ∧ r.getLastD 10 = 13 := by omega
      rcases list_snoc_cases r with rfl | ⟨r', d, rfl⟩
      · simp at hc
      · have hd : d = 13 := by simpa using hc.2
        refine ⟨beg 10 r', ?_⟩
        have e1 : piece ((r' ++ [d]).getLastD 10) c = [] := by rw [piece, if_neg h1, if_neg (by omega), if_neg (by omega)]
        rw [e1, List.append_nil, beg_snoc', hd]
        rw [piece, if_pos (.inl rfl)]
theorem beg_not_ends {l : List Nat} (h0 : l ≠ []) (h : lastAt l l.length ≠ 13 ∧ lastAt l l.length ≠ 10) : ∃ pre c, beg 10 l = pre ++ [c] ∧ c ≠ 10 := by
  rcases list_snoc_cases l with rfl | ⟨r, c, rfl⟩
  · exact absurd rfl h0
  · rw [lastAt_snoc] at h
    rw [beg_snoc']
    have h1 : ¬ (c = 13 ∨ (c = 10 ∧ r.getLastD 10 ≠ 13)) := by omega
    rw [piece, if_neg h1]
    by_cases h2 : c = 46 ∧ (r.getLastD 10 = 13 ∨ r.getLastD 10 = 10)
    · rw [if_pos h2]; exact ⟨beg 10 r ++ [46], 46, by simp, by omega⟩
    · rw [if_neg h2, if_pos h.2]; exact ⟨beg 10 r, c, rfl, h.2⟩

/-- the test that _law_part makes -/
theorem ends_test (l : List Nat) : ((qd l).drop ((qd l).length - 2) = [13, 10]) ↔ ¬ (l = [] ∨ (lastAt l l.length ≠ 13 ∧ lastAt l l.length ≠ 10)) := by
  unfold qd
  by_cases h0 : l = []
  · subst h0; simp [beg]
  · by_cases h1 : lastAt l l.length ≠ 13 ∧ lastAt l l.length ≠ 10
    · obtain ⟨pre, c, e, hc⟩ := beg_not_ends h0 h1
      rw [e]
      refine ⟨fun q => ?_, fun q => absurd (.inr h1) q⟩
      have := congrArg (fun x : List Nat => x.getLast?) q
      simp only [List.getLast?_drop] at this
      simp at this
      exact absurd this.2 hc
    · obtain ⟨pre, e⟩ := beg_ends h0 (by omega)
      rw [e]
      refine ⟨fun _ q => q.elim h0 h1, fun _ => by simp⟩
end Mine

end

/- E06 -/
section
open PySem PySem.Calls PyProof.Rows PySem.W
namespace Mine
set_option maxRecDepth 100000
set_option linter.unusedVariables false

theorem T_inj (a b : List Nat) : (T a = T b) ↔ a = b := ⟨fun h => by simpa using congrArg (fun s : Str => s.cps.toList) h, fun h => by rw [h]⟩
theorem Ev.kS' {M : Model} {A : Around} {b : Shared} {env : Env} {x y : Str} {k : Nat} {pos : Pos} (h : x = y) : Ev M A b (eval (.Constant (.str x) k pos) env) (rS y) := h ▸ Ev.kS
theorem T_len (l : List Nat) : (T l).length = l.length := by show (T l).cps.size = _; simp
theorem slice_lasts (l : List Nat) : Txt.slice (T l) (some (-2)) none = T (l.drop (l.length - 2)) := by
  rw [slice_from_neg (by decide), T_len]
  have : max (0 : Int) ((l.length : Int) + -2) = ((l.length - 2 : Nat) : Int) := by omega
  rw [this]
  exact slice_suf (by omega)

section
variable {w : World} {A : Around} {b : Shared} {mg mb : Str → Option Value}

theorem part_ev {l : List Nat} {v : Value} (G : Gd w mg mb b.heap) (hA : Rm A 4) (hl : l.length ≤ 1000) (hv : rS (T l) v b.heap) : Ev (model prg w) A b (call (.ref 80) [v] []) (rS (T (out l))) := by
  obtain ⟨t, rfl⟩ := hv
  refine Ev.fn (fd := kf 80) (body := bodyOf (kf 80)) (binds := [("mail", .str (T l) t)]) (G.fn 80 _ (by kernel_rfl)) G.wd.lim hA.room (by kernel_rfl) (fun s ks => BindsTo.of_eq (by kernel_rfl)) (by kernel_rfl) fun s L s₁ k0 hL k1 hn => ?_
  have S : St s [] L [("mail", .str (T l) t)] [] s₁ :=
    ⟨k1.same, fun b o _ e => k1.heap b o e, ⟨_, hn, Agree.of_eq fun _ => rfl⟩, by subst hL; exact Heap.get?_none_of_le (Nat.le_refl _), by simp, by simp, List.Pairwise.nil, by simp, by simp⟩
  have hA' : Rm (A.deeper (envF (kf 80) L 80)) 3 := hA.deeper
  generalize hAA : A.deeper (envF (kf 80) L 80) = A' at hA'
  have Gs := (G.keeps k0.heap).keeps k1.heap
  have hq := beg_len l 10
  have hq' : (qd l).length ≤ 2000 := by unfold qd; omega
  refine wpAny_execs_cons (S.assign (R := rS (T (qd l))) ?_ fun v s2 s3 k2 hv sb S3 => ?_)
  · refine Ev.callF (Rs := [rS (T l)]) (Ev.glob Gs.wd (Gs.mgl "quotedata" (some (.ref 48)) (by kernel_rfl))) (Gs.at 48 (by kernel_rfl)) (fd := kf 48) (by kernel_rfl) ?_ ?_
    · exact Ev.s1 (Ev.asS (S.v (by rfl))) monoS
    · intro vs s2 k2 hvs
      obtain ⟨x1, _, rfl, q1, rfl⟩ := hvs
      exact quotedata_T (Gs.keeps k2.heap) hA' q1 (by omega)
  obtain ⟨t1, rfl⟩ := hv
  refine wpAny_execs_cons (wpAny_mono (Q := fun fl s' => fl = .next ∧ ∃ u, St s [] L [("sent", .str (T (qd l ++ (if l = [] ∨ (lastAt l l.length ≠ 13 ∧ lastAt l l.length ≠ 10) then [13, 10] else []))) u)] [] s') ?_ (fun fl s4 h4 => ?_) fun _ _ x => x)
  · refine wpAny_If ((Ev.tNeS (x := T ((qd l).drop ((qd l).length - 2))) (y := T [13, 10]) ?_ ?_).go fun c s4 k4 hc => ?_)
    · exact Ev.cut (x := T (qd l)) (l := some (-2)) (u := none) (Ev.asS (S3.v (by rfl))) (Ev.part (Ev.neg Ev.kI)) Ev.nopart (slice_lasts _) (by rw [T_len]; unfold sizeLine; omega)
    · exact Ev.kS' (by kernel_rfl)
    cases (hc : c = _)
    have S4 := S3.kps k4
    have ht := ends_test l
    by_cases hh : l = [] ∨ (lastAt l l.length ≠ 13 ∧ lastAt l l.length ≠ 10)
    · rw [if_pos (by rw [bne_iff_ne, ne_eq, T_inj, ht]; exact fun q => q hh), if_pos hh]
      refine wpAny_execs_cons (S4.augS (y := T (qd l)) (z := T [13, 10]) (by rfl) (Ev.kS' (by kernel_rfl)) (by rw [T_len, T_len]; unfold sizeLine; simp; omega) fun s' t' S' => wpAny_execs_nil ⟨rfl, t', ?_⟩)
      rw [T_app] at S'
      exact S'.renam fun m a => .cons (a.get rfl) .nil
    · rw [if_neg (by rw [bne_iff_ne, ne_eq, T_inj, ht, Decidable.not_not]; exact hh), if_neg hh, List.append_nil]
      exact wpAny_execs_nil ⟨rfl, t1, S4.renam fun m a => .cons (a.get rfl) .nil⟩
  obtain ⟨rfl, u, S4⟩ := h4
  dsimp only
  refine wpAny_execs_cons (wpAny_Return_some (Ev.go (R := rS (T (out l))) ?_ fun v s5 k5 hv => ⟨v, rfl, (S4.kps k5).out, hv⟩))
  have eo : out l = (qd l ++ (if l = [] ∨ (lastAt l l.length ≠ 13 ∧ lastAt l l.length ≠ 10) then [13, 10] else [])) ++ [46, 13, 10] := by
    unfold out ending qd
    split <;> simp
  rw [eo, ← T_app]
  refine Ev.cat (Ev.asS (S4.v (by rfl))) (Ev.kS' (by kernel_rfl)) ?_
  rw [T_len, T_len, List.length_append]
  unfold sizeLine
  split <;> simp <;> omega
end
end Mine

end

/- E07 -/
section
open PySem PySem.Calls PyProof.Rows PySem.W
namespace Mine
set_option maxRecDepth 100000
set_option linter.unusedVariables false

def natsI (l : List Nat) : List Int := l.map fun n : Nat => (n : Int)
theorem natsI_app (a b : List Nat) : natsI (a ++ b) = natsI a ++ natsI b := by simp [natsI]
theorem intsAre_get {vs : List Value} {ns : List Int} (h : IntsAre vs ns) : ∀ {k : Nat} {n : Int}, ns[k]? = some n → ∃ t, vs[k]? = some (.int n t) := by
  induction h with
  | nil => intro k n e; simp at e
  | cons m t r ih =>
    intro k n e
    cases k with
    | zero => simp at e; subst e; exact ⟨t, rfl⟩
    | succ k => exact ih (by simpa using e)
theorem intsAre_snoc {vs : List Value} {ns : List Int} (h : IntsAre vs ns) (n : Int) (t : Tok) : IntsAre (vs ++ [.int n t]) (ns ++ [n]) := by
  induction h with
  | nil => exact .cons n t .nil
  | cons m t' r ih => exact .cons m t' ih

section
variable {w : World} {A : Around} {b : Shared} {mg mb : Str → Option Value}

/-- what _law_walk gives back -/
def rWalk (b : Shared) (l : List Nat) (v : Value) (h : Heap) : Prop := ∃ ta oa t its, v = .ref ta ∧ b.heap.get? ta = none ∧ IsTup h ta #[.str (T (out l)) t, .ref oa] ∧ b.heap.get? oa = none ∧ ta ≠ oa ∧ h.PlainList oa its ∧ IntsAre its.toList (natsI (own l))

theorem ownU_len (l : List Nat) : ∀ k, (ownU l k).length ≤ 2 * k
  | 0 => by simp [ownU]
  | k + 1 => by
    have := ownU_len l k
    have h2 : (piece (lastAt l k) (l.getD k 0)).length ≤ 2 := by unfold piece; (repeat' split) <;> simp
    rw [ownU, List.length_append, List.length_replicate]
    omega

set_option maxHeartbeats 2000000 in
theorem walk_ev {l : List Nat} {v : Value} (G : Gd w mg mb b.heap) (hA : Rm A 1) (hl : l.length ≤ 1000) (hv : rS (T l) v b.heap) : Ev (model prg w) A b (call (.ref 85) [v] []) (rWalk b l) := fun s ks Q E hQ => by
  obtain ⟨t, rfl⟩ := hv
  replace G := G.keeps ks.heap
  refine fnC (fd := kf 85) (body := bodyOf (kf 85)) (binds := [("mail", .str (T l) t)]) (G.fn 85 _ (by kernel_rfl)) G.wd.lim hA.room (by kernel_rfl) (by kernel_rfl) (BindsTo.of_eq (by kernel_rfl)) (by kernel_rfl) (by kernel_rfl) fun L s₁ hL k1 hn hc => ?_
  have hA' : Rm (A.deeper (callEnvC (kf 85) L 85)) 0 := hA.deeper
  generalize hAA : A.deeper (callEnvC (kf 85) L 85) = A' at hA'
  have S : St s [] L [] [eC (L + 1) (some (.str (T l) t)), eC (L + 2) none] s₁ := St.enter (X := []) (es := []) hL k1 hn (vals := []) Agree.nil [(1, some (.str (T l) t)), (2, none)] (by
    intro p hp
    simp only [List.mem_cons, List.not_mem_nil, or_false] at hp
    rcases hp with rfl | rfl
    · exact hc "mail" (L + 1) (by rfl)
    · exact hc "place" (L + 2) (by rfl)) (by simp) (by simp) (by simp) (by simp) .nil (by simp)
  have Gs : ∀ {s' vals ents}, St s [] L vals ents s' → Gd w mg mb s'.heap := fun S' => G.keeps S'.out.heap
  have sz : ∀ i, (beg 10 (l.take i)).length ≤ 2000 := fun i => by
    have := beg_len (l.take i) 10
    rw [List.length_take] at this
    omega
  refine wpAny_execs_cons (S.assign (Ev.kS' (y := T []) (by kernel_rfl)) fun v s2 s3 k2 hv sb S3 => ?_)
  obtain ⟨t1, rfl⟩ := hv
  refine wpAny_execs_cons (S3.assignL (P := fun its => its = #[]) ?_ fun oa its s4 hP hon S4 => ?_)
  · intro s4 k4 Q' E' hQ'
    refine wpAny_List ?_
    exact spliced_nil ⟨by show 0 ≤ _; decide, hQ' _ _ (Kps.push s4 { cls := .type "list", data := .seq ([] : List Value).toArray } s4.toks) ⟨_, _, rfl, fresh_size k4, ⟨0, Heap.get?_push_size _ rfl⟩, rfl⟩⟩
  subst hP
  refine wpAny_execs_cons (S4.assign (Ev.kS' (y := T [10]) (by kernel_rfl)) fun v s5 s6 k5 hv sb S6 => ?_)
  obtain ⟨t2, rfl⟩ := hv
  have S6' : St s [] L [("part", .str (T (beg 10 (l.take 0))) t1), ("owners", .ref oa), ("last", .str (T [lastAt l 0]) t2)] [eL oa #[], eC (L + 1) (some (.str (T l) t)), eC (L + 2) none] s6 :=
    S6.renam fun m a => .cons (a.get rfl) (.cons (a.get rfl) (.cons (a.get rfl) .nil))
  have lenM : ∀ {s' : Shared} {p p2 p3 : Pos} {vals ents}, St s [] L vals ents s' → s'.heap.IsCell (L + 1) (some (.str (T l) t)) → Ev (model prg w) A' s' (eval (.Call (.Name "len" p) [.Name "mail" p2] [] p3) (callEnvC (kf 85) L 85)) (rI l.length) := fun S' hc' => by
    rw [← T_len]
    exact len_ev (Gs S') (Ev.asS (Ev.cell hc')) (by rw [T_len]; omega)
  refine wpAny_execs_cons (S6'.forRange (n := l.length) (a := 0) (b := l.length) (c := 1) (fun i vals ents => ∃ t1 t2 its vp, vals = ([("part", .str (T (beg 10 (l.take i))) t1), ("owners", .ref oa), ("last", .str (T [lastAt l i]) t2)] : VL) ∧ ents = [eL oa its, eC (L + 1) (some (.str (T l) t)), eC (L + 2) vp] ∧ IntsAre its.toList (natsI (ownU l i))) hA'.hd (range1_ev (Gs S6') (lenM S6' S6'.at1)) (small_one (by omega) (by omega) (by omega) (by omega)) (by rw [size_up (by omega)]; omega) ⟨t1, t2, #[], none, rfl, rfl, .nil⟩ ?_ ?_)
  · rintro i vals ents e s7 t7 hi ⟨t1, t2, its, vp, rfl, rfl, hits⟩ S7 Q' E' hq
    obtain ⟨c, hc'⟩ : ∃ c, l[i]? = some c := ⟨_, List.getElem?_eq_getElem hi⟩
    have hgd : l.getD i 0 = c := by rw [List.getD_eq_getElem?_getD, hc']; rfl
    have hbeg := beg_take hc'
    refine S7.bindC (pre := [e, eL oa its, eC (L + 1) (some (.str (T l) t))]) rfl fun s8 S8 => ?_
    have ei : (0 : Int) + (i : Int) * 1 = (i : Int) := by omega
    rw [ei] at S8
    generalize hlast : lastAt l i = last at S8 hbeg
    have S8' : St s [] L [("part", .str (T (beg 10 (l.take i))) t1), ("owners", .ref oa), ("last", .str (T [last]) t2)] [e, eL oa its, eC (L + 1) (some (.str (T l) t)), eC (L + 2) (some (.int i t7))] s8 := S8
    refine wpAny_execs_cons (S8'.assign (R := rS (T [c])) ?_ fun v s9 s10 k9 hv sb S10 => ?_)
    · refine Ev.item (R1 := rV (.str (T l) t)) (R2 := rV (.int i t7)) (Ev.cell S8'.at2) (Ev.cell S8'.at3) monoV ?_
      intro v1 v2 s9 k9 r1 r2
      exact Ev.itemS ⟨t, r1⟩ ⟨t7, r2⟩ (by omega) (by omega) (by simpa using hc') (fun t u => by rfl)
    obtain ⟨ts, rfl⟩ := hv
    refine wpAny_execs_cons (S10.assign (S10.v (by rfl)) fun v s11 s12 k11 hv sb S12 => ?_)
    cases (hv : v = _)
    refine wpAny_execs_cons (wpAny_mono (Q := fun fl s' => fl = .next ∧ ∃ u, St s [] L [("piece", .str (T (piece last c)) u), ("sign", .str (T [c]) ts), ("part", .str (T (beg 10 (l.take i))) t1), ("owners", .ref oa), ("last", .str (T [last]) t2)] [e, eL oa its, eC (L + 1) (some (.str (T l) t)), eC (L + 2) (some (.int i t7))] s') ?_ (fun fl s13 h13 => ?_) fun _ _ x => x)
    · have sign : ∀ {s2 : Shared} {pos : Pos}, Kps s12 s2 → Ev (model prg w) A' s2 (eval (.Name "sign" pos) (callEnvC (kf 85) L 85)) (rS (T [c])) := fun k => Ev.asS ((S12.kps k).v (by rfl))
      have lst : ∀ {s2 : Shared} {pos : Pos}, Kps s12 s2 → Ev (model prg w) A' s2 (eval (.Name "last" pos) (callEnvC (kf 85) L 85)) (rS (T [last])) := fun k => Ev.asS ((S12.kps k).v (by rfl))
      have r0 := Kps.refl s12
      have kk {x : List Nat} {s'' u} (S' : St s [] L (("piece", .str (T x) u) :: ([("piece", .str (T [c]) ts), ("sign", .str (T [c]) ts), ("part", .str (T (beg 10 (l.take i))) t1), ("owners", .ref oa), ("last", .str (T [last]) t2)] : VL)) [e, eL oa its, eC (L + 1) (some (.str (T l) t)), eC (L + 2) (some (.int i t7))] s'') : St s [] L [("piece", .str (T x) u), ("sign", .str (T [c]) ts), ("part", .str (T (beg 10 (l.take i))) t1), ("owners", .ref oa), ("last", .str (T [last]) t2)] [e, eL oa its, eC (L + 1) (some (.str (T l) t)), eC (L + 2) (some (.int i t7))] s'' :=
        S'.renam fun m a => .cons (a.get rfl) (.cons (a.get rfl) (.cons (a.get rfl) (.cons (a.get rfl) (.cons (a.get rfl) .nil))))
      refine wpAny_If ((Ev.or2 (Ev.tEqS (y := T [13]) (sign r0) Ev.kS) fun _ => Ev.and2 (Ev.tEqS (y := T [10]) (sign r0) Ev.kS) fun _ => Ev.tNeS (y := T [13]) (lst r0) Ev.kS).go fun cc s9 k9 hcc => ?_)
      cases (hcc : cc = _)
      have S13 := S12.kps k9
      rw [T_beq, T_beq, T_bne]
      unfold piece
      by_cases h1 : c = 13 ∨ (c = 10 ∧ last ≠ 13)
      · rw [if_pos (by simpa using h1), if_pos h1]
        refine wpAny_execs_cons (S13.assign (Ev.kS' (y := T [13, 10]) (by kernel_rfl)) fun v s14 s15 k14 hv sb S15 => wpAny_execs_nil ?_)
        obtain ⟨u, rfl⟩ := hv
        exact ⟨rfl, u, kk S15⟩
      · rw [if_neg (by simpa using h1), if_neg h1]
        refine wpAny_execs_cons (wpAny_If ((Ev.tEqS (y := T [10]) (sign k9) Ev.kS).go fun cc s14 k14 hcc => ?_))
        cases (hcc : cc = _)
        have S14 := S13.kps k14
        rw [T_beq]
        by_cases h2 : c = 10
        · rw [if_pos (by simpa using h2), if_neg (by omega), if_neg (by omega)]
          refine wpAny_execs_cons (S14.assign (Ev.kS' (y := T []) (by kernel_rfl)) fun v s15 s16 k15 hv sb S16 => wpAny_execs_nil (wpAny_execs_nil ?_))
          obtain ⟨u, rfl⟩ := hv
          exact ⟨rfl, u, kk S16⟩
        · rw [if_neg (by simpa using h2)]
          have k914 := k9.trans k14
          refine wpAny_execs_cons (wpAny_If ((Ev.and2 (Ev.tEqS (y := T [46]) (sign k914) Ev.kS) fun _ => Ev.or2 (Ev.tEqS (y := T [13]) (lst k914) Ev.kS) fun _ => Ev.tEqS (y := T [10]) (lst k914) Ev.kS).go fun cc s15 k15 hcc => ?_))
          cases (hcc : cc = _)
          have S15 := S14.kps k15
          rw [T_beq, T_beq, T_beq]
          by_cases h3 : c = 46 ∧ (last = 13 ∨ last = 10)
          · rw [if_pos (by simpa using h3), if_pos h3]
            refine wpAny_execs_cons (S15.assign (Ev.kS' (y := T [46, 46]) (by kernel_rfl)) fun v s16 s17 k16 hv sb S17 => wpAny_execs_nil (wpAny_execs_nil (wpAny_execs_nil ?_)))
            obtain ⟨u, rfl⟩ := hv
            exact ⟨rfl, u, kk S17⟩
          · rw [if_neg (by simpa using h3), if_neg h3, if_pos h2]
            exact wpAny_execs_nil (wpAny_execs_nil (wpAny_execs_nil ⟨rfl, ts, S15⟩))
    obtain ⟨rfl, tp, S13⟩ := h13
    dsimp only
    have hp2 : (piece last c).length ≤ 2 := by unfold piece; (repeat' split) <;> simp
    have hsi := sz i
    refine wpAny_execs_cons (S13.augS (y := T (beg 10 (l.take i))) (z := T (piece last c)) (by rfl) (Ev.asS (S13.v (by rfl))) (by rw [T_len, T_len]; unfold sizeLine; omega) fun s14 t14 S14 => ?_)
    rw [T_app, ← hbeg] at S14
    have hown : its.size ≤ 2000 := by have := hits.length; have h2 := ownU_len l i; simp [natsI] at this; omega
    have c14 : s14.heap.IsCell (L + 2) (some (.int i t7)) := S14.at3
    refine wpAny_execs_cons (S14.extend (pre := [e]) (D := oa) (items := its) (P := fun y => IntsAre y.toList (natsI (List.replicate (piece last c).length i))) rfl (S14.v (by rfl)) ?_ ?_ fun y s15 hy S15 => ?_)
    · refine Ev.weak (Ev.comp (n := (T (piece last c)).cps.size) (P := fun k v => ∃ d u, (T (piece last c)).cps[k]? = some d ∧ v = .str ⟨#[d]⟩ u) (R := rS (T (piece last c))) (cl := [("place", L + 2)]) (fun k ys _ => IntsAre ys.toList (natsI (List.replicate k i))) ?_ ?_ ?_ .nil) ?_
      · exact Ev.asS (S14.v (by rfl))
      · exact fun v s15 k15 hv => Its.str hA'.hd hv
      · intro C D k ys ents' e' s15 v hk hJ hv S15
        have hys : ys.size = k := by have := hJ.length; simpa [natsI] using this
        have hk2 : k < 2 := by have : (T (piece last c)).cps.size = (piece last c).length := by simp
                               omega
        refine ⟨true, Ev.tst0, fun _ => ⟨by omega, ?_⟩, fun h => by cases h⟩
        refine (Ev.cell (c14.keeps S15.out.heap)).weak fun v h hv => ?_
        cases (hv : v = _)
        refine ⟨eU, ?_, trivial, by simp [eU]⟩
        show IntsAre _ (natsI (List.replicate (k + 1) i))
        rw [List.replicate_succ', natsI_app, Array.toList_push]
        exact intsAre_snoc hJ _ _
      · intro v h hv
        exact comp_list hv fun ys _ hJ => by simpa using hJ
    · intro y hy
      have := hy.length
      simp [natsI] at this
      omega
    · refine wpAny_execs_cons (S15.assign (S15.v (by rfl)) fun v s16 s17 k16 hv sb S17 => ?_)
      cases (hv : v = _)
      refine wpAny_execs_nil (hq _ _ s17 ⟨t14, ts, its ++ y, some (.int i t7), rfl, rfl, ?_⟩ ?_)
      · rw [ownU, natsI_app, hgd, hlast, Array.toList_append]
        exact hits.append hy
      · rw [lastAt_succ hc']
        exact S17.renam fun m a => .cons (a.get rfl) (.cons (a.get rfl) (.cons (a.get rfl) .nil))
  · rintro vals ents s7 ⟨t1, t2, its, vp, rfl, rfl, hits⟩ S7
    rw [List.take_of_length_le (Nat.le_refl _)] at S7
    refine wpAny_execs_cons (S7.assign (Ev.kS' (y := T [46, 13, 10]) (by kernel_rfl)) fun v s8 s9 k8 hv sb S9 => ?_)
    obtain ⟨te, rfl⟩ := hv
    refine wpAny_execs_cons (wpAny_mono (Q := fun fl s' => fl = .next ∧ ∃ u, St s [] L [("ending", .str (T (ending l)) u), ("part", .str (T (beg 10 l)) t1), ("owners", .ref oa)] [eL oa its, eC (L + 1) (some (.str (T l) t)), eC (L + 2) vp] s') ?_ (fun fl s10 h10 => ?_) fun _ _ x => x)
    · refine wpAny_If ((Ev.or2 (Ev.tEqS (x := T l) (y := T []) (Ev.asS (Ev.cell S9.at1)) (Ev.kS' (by kernel_rfl))) fun _ => Ev.and2 (Ev.tNeS (x := T [lastAt l l.length]) (y := T [13]) (Ev.asS (S9.v (by rfl))) Ev.kS) fun _ => Ev.tNeS (x := T [lastAt l l.length]) (y := T [10]) (Ev.asS (S9.v (by rfl))) Ev.kS).go fun cc s10 k10 hcc => ?_)
      cases (hcc : cc = _)
      have S10 := S9.kps k10
      rw [T_bne, T_bne]
      have e0 : (T l == T []) = decide (l = []) := by rw [Bool.eq_iff_iff, beq_iff_eq, T_inj, decide_eq_true_eq]
      rw [e0]
      unfold ending
      by_cases hh : l = [] ∨ (lastAt l l.length ≠ 13 ∧ lastAt l l.length ≠ 10)
      · rw [if_pos (by simpa using hh), if_pos hh]
        refine wpAny_execs_cons (S10.assign (Ev.kS' (y := T [13, 10, 46, 13, 10]) (by kernel_rfl)) fun v s11 s12 k11 hv sb S12 => wpAny_execs_nil ?_)
        obtain ⟨u, rfl⟩ := hv
        exact ⟨rfl, u, S12.renam fun m a => .cons (a.get rfl) (.cons (a.get rfl) (.cons (a.get rfl) .nil))⟩
      · rw [if_neg (by simpa using hh), if_neg hh]
        exact wpAny_execs_nil ⟨rfl, te, S10.renam fun m a => .cons (a.get rfl) (.cons (a.get rfl) (.cons (a.get rfl) .nil))⟩
    obtain ⟨rfl, te, S10⟩ := h10
    dsimp only
    have he5 : (ending l).length ≤ 5 := by unfold ending; split <;> simp
    have hown : its.size ≤ 2000 := by have := hits.length; have h2 := ownU_len l l.length; simp [natsI] at this; omega
    refine wpAny_execs_cons (S10.extend (pre := []) (D := oa) (items := its) (P := fun y => IntsAre y.toList (natsI (List.replicate (ending l).length l.length))) rfl (S10.v (by rfl)) ?_ ?_ fun y s11 hy S11 => ?_)
    · refine Ev.weak (Ev.comp (n := (T (ending l)).cps.size) (P := fun k v => ∃ d u, (T (ending l)).cps[k]? = some d ∧ v = .str ⟨#[d]⟩ u) (R := rS (T (ending l))) (cl := [("mail", L + 1)]) (fun k ys _ => IntsAre ys.toList (natsI (List.replicate k l.length))) ?_ ?_ ?_ .nil) ?_
      · exact Ev.asS (S10.v (by rfl))
      · exact fun v s15 k15 hv => Its.str hA'.hd hv
      · intro C D k ys ents' e' s15 v hk hJ hv S15
        have hys : ys.size = k := by have := hJ.length; simpa [natsI] using this
        have hk2 : k < 5 := by have : (T (ending l)).cps.size = (ending l).length := by simp
                               omega
        refine ⟨true, Ev.tst0, fun _ => ⟨by omega, ?_⟩, fun h => by cases h⟩
        have el : Ev (model prg w) A' s15 (eval (.Call (.Name "len" ⟨80, 20, 80, 23⟩) [.Name "mail" ⟨80, 24, 80, 28⟩] [] ⟨80, 20, 80, 29⟩) (compEnvC { kind := .function, names := [(".0", .local), ("one", .local), ("len", .globalImplicit), ("mail", .free)], isGenerator := false, isCoroutine := false, more := [] } [("mail", L + 1)] C (callEnvC (kf 85) L 85))) (rI (T l).length) := len_ev ((Gs S10).keeps S15.out.heap) (Ev.asS (Ev.cell (S10.at1.keeps S15.out.heap))) (by rw [T_len]; omega)
        refine (len_ev (x := T l) ((Gs S10).keeps S15.out.heap) (Ev.asS (Ev.cell (S10.at1.keeps S15.out.heap))) (by rw [T_len]; omega)).weak fun v h hv => ?_
        obtain ⟨u, rfl⟩ := hv
        refine ⟨eU, ?_, trivial, by simp [eU]⟩
        show IntsAre _ (natsI (List.replicate (k + 1) l.length))
        rw [List.replicate_succ', natsI_app, Array.toList_push, T_len]
        exact intsAre_snoc hJ _ _
      · intro v h hv
        exact comp_list hv fun ys _ hJ => by simpa using hJ
    · intro y hy
      have := hy.length
      simp [natsI] at this
      omega
    · have hb := beg_len l 10
      refine wpAny_execs_cons (wpAny_Return_some ((Ev.tup2 (R1 := rS (T (out l))) (R2 := rV (.ref oa)) ?_ monoS monoV).go fun v s12 k12 hv => ?_))
      · refine Ev.s2 ?_ monoS (S11.v (by rfl)) monoV
        unfold out
        rw [← T_app]
        exact Ev.cat (Ev.asS (S11.v (by rfl))) (Ev.asS (S11.v (by rfl))) (by rw [T_len, T_len]; unfold sizeLine; omega)
      · obtain ⟨ta, x1, x2, rfl, htn, htup, ⟨u, rfl⟩, rfl⟩ := hv
        have S12 := S11.kps k12
        have up : ∀ {a : Addr} {s' : Shared}, Kps b s' → s'.heap.get? a = none → b.heap.get? a = none := fun {a s'} k h => by
          cases q : b.heap.get? a with
          | none => rfl
          | some o => rw [k.heap _ _ q] at h; cases h
        have hoa : ∃ o, s11.heap.get? oa = some o := (eL oa (its ++ y)).has S11.at0 oa (by simp [eL])
        refine ⟨_, rfl, hQ _ _ S12.out ⟨ta, oa, u, its ++ y, rfl, up (ks.trans S11.out) htn, htup, up (ks.trans S3.out) hon, ?_, S12.at0, ?_⟩⟩
        · rintro rfl
          obtain ⟨o, q⟩ := hoa
          rw [htn] at q; cases q
        · rw [own, natsI_app, Array.toList_append]
          exact hits.append hy
end
end Mine

end

/- Pure4 -/
section
namespace Mine
set_option linter.unusedVariables false

/-- how much is sent of a beginning -/
def ln (l : List Nat) (k : Nat) : Nat := (beg 10 (l.take k)).length

theorem getElem?_getD {l : List Nat} {k : Nat} (h : k < l.length) : l[k]? = some (l.getD k 0) := by
  rw [List.getD_eq_getElem?_getD, List.getElem?_eq_getElem h]; rfl
theorem ln_zero (l : List Nat) : ln l 0 = 0 := by simp [ln, beg]
theorem ln_succ {l : List Nat} {k : Nat} (h : k < l.length) : ln l (k + 1) = ln l k + (piece (lastAt l k) (l.getD k 0)).length := by
  unfold ln; rw [beg_take (getElem?_getD h), List.length_append]
theorem ln_step (l : List Nat) (k : Nat) : ln l k ≤ ln l (k + 1) := by
  by_cases h : k < l.length
  · rw [ln_succ h]; omega
  · unfold ln; rw [List.take_of_length_le (by omega), List.take_of_length_le (by omega)]; omega
theorem ln_mono (l : List Nat) {j k : Nat} (h : j ≤ k) : ln l j ≤ ln l k := by
  induction k with
  | zero => have : j = 0 := by omega
            subst this; omega
  | succ k ih =>
    by_cases hj : j = k + 1
    · subst hj; omega
    · exact Nat.le_trans (ih (by omega)) (ln_step l k)

theorem ownU_length (l : List Nat) : ∀ k, k ≤ l.length → (ownU l k).length = ln l k
  | 0, _ => by simp [ownU, ln_zero]
  | k + 1, h => by rw [ownU, List.length_append, List.length_replicate, ownU_length l k (by omega), ln_succ (by omega)]
theorem ownU_get (l : List Nat) : ∀ k, k ≤ l.length → ∀ q, q < ln l k → ∃ j, (ownU l k)[q]? = some j ∧ j < k ∧ ln l j ≤ q ∧ q < ln l (j + 1)
  | 0, _, q, h => by rw [ln_zero] at h; omega
  | k + 1, hk, q, h => by
    have hl := ownU_length l k (by omega)
    by_cases hq : q < ln l k
    · obtain ⟨j, e, h1, h2, h3⟩ := ownU_get l k (by omega) q hq
      exact ⟨j, by rw [ownU, List.getElem?_append_left (by omega)]; exact e, by omega, h2, h3⟩
    · refine ⟨k, ?_, by omega, by omega, h⟩
      rw [ownU, List.getElem?_append_right (by omega), List.getElem?_replicate, if_pos]
      rw [ln_succ (by omega)] at h
      omega
theorem own_length (l : List Nat) : (own l).length = (out l).length := by
  unfold own out
  rw [List.length_append, List.length_append, List.length_replicate, ownU_length l _ (Nat.le_refl _)]
  unfold ln
  rw [List.take_of_length_le (Nat.le_refl _)]
/-- the place that wrote a sign, by how much is sent of each beginning -/
theorem own_get {l : List Nat} {q : Nat} (h : q < (out l).length) : ∃ k, (own l)[q]? = some k ∧ k ≤ l.length ∧ ln l k ≤ q ∧ (k < l.length → q < ln l (k + 1)) := by
  by_cases hq : q < ln l l.length
  · obtain ⟨j, e, h1, h2, h3⟩ := ownU_get l _ (Nat.le_refl _) q hq
    exact ⟨j, by rw [own, List.getElem?_append_left (by rw [ownU_length l _ (Nat.le_refl _)]; exact hq)]; exact e, by omega, h2, fun _ => h3⟩
  · have hl := ownU_length l _ (Nat.le_refl _)
    refine ⟨l.length, ?_, Nat.le_refl _, by omega, fun h => by omega⟩
    rw [← own_length, own, List.length_append, List.length_replicate] at h
    rw [own, List.getElem?_append_right (by omega), List.getElem?_replicate, if_pos (by omega)]

theorem out_pos (l : List Nat) : 5 ≤ (out l).length := by
  unfold out ending
  by_cases h : l = [] ∨ (lastAt l l.length ≠ 13 ∧ lastAt l l.length ≠ 10)
  · rw [if_pos h, List.length_append]; simp
  · rw [if_neg h, List.length_append]
    obtain ⟨pre, e⟩ := beg_ends (l := l) (fun q => h (.inl q)) (by omega)
    rw [e]; simp

/-- an item of a row of lists -/
theorem flat_get {α : Type} : ∀ (Ls : List (List α)) (m q : Nat) (L : List α), Ls[m]? = some L → q < L.length → Ls.flatten[((Ls.take m).map List.length).sum + q]? = L[q]?
  | [], m, q, L, h, hq => by simp at h
  | A :: r, 0, q, L, h, hq => by
    simp at h; subst h
    rw [List.flatten_cons, List.getElem?_append_left (by simpa using hq)]
    simp
  | A :: r, m + 1, q, L, h, hq => by
    have ih := flat_get r m q L (by simpa using h) hq
    rw [List.flatten_cons, List.getElem?_append_right (by simp; omega)]
    rw [← ih]
    congr 1
    simp; omega

/-- no row of one dot within what quotedata sends -/
structure Bare (l : List Nat) : Prop where
  a : ∀ i, ¬ ((beg 10 l)[i]? = some 10 ∧ (beg 10 l)[i + 1]? = some 46 ∧ (beg 10 l)[i + 2]? = some 13)
  b : ∀ i, i + 2 = (beg 10 l).length → ¬ ((beg 10 l)[i]? = some 10 ∧ (beg 10 l)[i + 1]? = some 46)
  c : ∀ i, i + 1 = (beg 10 l).length → (beg 10 l)[i]? = some 10 → l.getLastD 10 = 13 ∨ l.getLastD 10 = 10

theorem bare_snoc {l : List Nat} (h : Bare l) (c : Nat) : Bare (l ++ [c]) := by
  have e := beg_snoc' l 10 c
  have el : (l ++ [c]).getLastD 10 = c := by simp
  generalize hB : beg 10 l = B at *
  obtain ⟨ha, hb, hc⟩ := h
  rw [hB] at ha hb hc
  have lt : ∀ {X : List Nat} {i x : Nat}, X[i]? = some x → i < X.length := fun {X i x} q => (List.getElem?_eq_some_iff.mp q).1
  generalize hlast : l.getLastD 10 = last at *
  by_cases h1 : c = 13 ∨ (c = 10 ∧ last ≠ 13)
  · have ep : piece last c = [13, 10] := by rw [piece, if_pos h1]
    rw [ep] at e
    have e1 : (beg 10 (l ++ [c]))[B.length]? = some 13 := by rw [e, List.getElem?_append_right (Nat.le_refl _)]; simp
    have e2 : (beg 10 (l ++ [c]))[B.length + 1]? = some 10 := by rw [e, List.getElem?_append_right (by omega)]; simp
    have eo : ∀ i, i < B.length → (beg 10 (l ++ [c]))[i]? = B[i]? := fun i hi => by rw [e, List.getElem?_append_left hi]
    have hlen : (beg 10 (l ++ [c])).length = B.length + 2 := by rw [e]; simp
    refine ⟨fun i ⟨q1, q2, q3⟩ => ?_, fun i hi ⟨q1, q2⟩ => ?_, fun i hi q => ?_⟩
    · have := lt q3
      by_cases hi : i + 2 < B.length
      · rw [eo _ (by omega)] at q1; rw [eo _ (by omega)] at q2; rw [eo _ hi] at q3; exact ha i ⟨q1, q2, q3⟩
      · by_cases hi2 : i + 2 = B.length
        · rw [eo _ (by omega)] at q1; rw [eo _ (by omega)] at q2; exact hb i hi2 ⟨q1, q2⟩
        · have : i + 2 = B.length + 1 := by omega
          rw [this, e2] at q3; simp at q3
    · have : i + 1 = B.length + 1 := by omega
      rw [this, e2] at q2; simp at q2
    · rw [el]; omega
  · by_cases h2 : c = 46 ∧ (last = 13 ∨ last = 10)
    · have ep : piece last c = [46, 46] := by rw [piece, if_neg h1, if_pos h2]
      rw [ep] at e
      have e1 : (beg 10 (l ++ [c]))[B.length]? = some 46 := by rw [e, List.getElem?_append_right (Nat.le_refl _)]; simp
      have e2 : (beg 10 (l ++ [c]))[B.length + 1]? = some 46 := by rw [e, List.getElem?_append_right (by omega)]; simp
      have eo : ∀ i, i < B.length → (beg 10 (l ++ [c]))[i]? = B[i]? := fun i hi => by rw [e, List.getElem?_append_left hi]
      have hlen : (beg 10 (l ++ [c])).length = B.length + 2 := by rw [e]; simp
      refine ⟨fun i ⟨q1, q2, q3⟩ => ?_, fun i hi ⟨q1, q2⟩ => ?_, fun i hi q => ?_⟩
      · have := lt q3
        by_cases hi : i + 2 < B.length
        · rw [eo _ (by omega)] at q1; rw [eo _ (by omega)] at q2; rw [eo _ hi] at q3; exact ha i ⟨q1, q2, q3⟩
        · by_cases hi2 : i + 2 = B.length
          · rw [hi2, e1] at q3; simp at q3
          · have : i + 2 = B.length + 1 := by omega
            rw [this, e2] at q3; simp at q3
      · have : i = B.length := by omega
        rw [this, e1] at q1; simp at q1
      · have : i = B.length + 1 := by omega
        rw [this, e2] at q; simp at q
    · by_cases h3 : c ≠ 10
      · have ep : piece last c = [c] := by rw [piece, if_neg h1, if_neg h2, if_pos h3]
        rw [ep] at e
        have e1 : (beg 10 (l ++ [c]))[B.length]? = some c := by rw [e, List.getElem?_append_right (Nat.le_refl _)]; simp
        have eo : ∀ i, i < B.length → (beg 10 (l ++ [c]))[i]? = B[i]? := fun i hi => by rw [e, List.getElem?_append_left hi]
        have hlen : (beg 10 (l ++ [c])).length = B.length + 1 := by rw [e]; simp
        refine ⟨fun i ⟨q1, q2, q3⟩ => ?_, fun i hi ⟨q1, q2⟩ => ?_, fun i hi q => ?_⟩
        · have := lt q3
          by_cases hi : i + 2 < B.length
          · rw [eo _ (by omega)] at q1; rw [eo _ (by omega)] at q2; rw [eo _ hi] at q3; exact ha i ⟨q1, q2, q3⟩
          · have : i + 2 = B.length := by omega
            rw [this, e1] at q3; simp at q3; omega
        · have hi1 : i + 1 = B.length := by omega
          rw [hi1, e1] at q2; simp at q2
          rw [eo _ (by omega)] at q1
          have := hc i hi1 q1
          omega
        · have : i = B.length := by omega
          rw [this, e1] at q; simp at q; omega
      · have ep : piece last c = [] := by rw [piece, if_neg h1, if_neg h2, if_neg h3]
        rw [ep, List.append_nil] at e
        refine ⟨fun i => by rw [e]; exact ha i, fun i hi => by rw [e] at hi ⊢; exact hb i hi, fun i hi q => by rw [el]; omega⟩
theorem bare_nil : Bare [] := ⟨fun i => by simp [beg], fun i => by simp [beg], fun i => by simp [beg]⟩
theorem bare : ∀ l : List Nat, Bare l := by
  intro l
  induction hn : l.length generalizing l with
  | zero => have : l = [] := List.length_eq_zero_iff.mp hn
            subst this; exact bare_nil
  | succ n ih =>
    rcases list_snoc_cases l with rfl | ⟨r, c, rfl⟩
    · simp at hn
    · exact bare_snoc (ih r (by simp at hn; omega)) c
end Mine

end

/- Cnt -/
section
open PySem PySem.Builtin PySem.Builtin.Str PySem.StrLaws
namespace Mine
set_option linter.unusedVariables false

section
variable (x y : Str)
def occB (i : Nat) : Bool := decide (i + y.length ≤ x.length) && subAt x y i

theorem occ_loop {x y : Str} (hgap : ∀ i j, occB x y i = true → occB x y j = true → i < j → i + y.length ≤ j) (limit : Nat) : ∀ (n k : Nat) (st : Array Nat × Nat), st.fst.size + n ≤ limit → (∀ j, k ≤ j → occB x y j = true → st.snd ≤ j) →
    (forIn (List.range' k n) st (occBody x y x.length limit)).run.fst.size = st.fst.size + ((List.range' k n).filter (occB x y)).length
  | 0, k, st, _, _ => by simp
  | n + 1, k, st, hsz, hfree => by
    rw [List.range'_succ, List.forIn_cons]
    unfold occBody
    by_cases hk : occB x y k = true
    · have hk' := hk
      unfold occB at hk'
      rw [Bool.and_eq_true, decide_eq_true_eq] at hk'
      rw [if_pos ⟨⟨⟨by omega, hfree k (Nat.le_refl _) hk⟩, hk'.1⟩, hk'.2⟩]
      have ih := occ_loop hgap limit n (k + 1) (st.fst.push k, k + y.length) (by simp; omega) (fun j hj hoj => hgap k j hk hoj (by omega))
      rw [List.filter_cons_of_pos hk]
      simp only [Array.size_push] at ih
      show (forIn (List.range' (k + 1) n) (st.fst.push k, k + y.length) (occBody x y x.length limit)).run.fst.size = _
      rw [ih]; simp; omega
    · rw [if_neg (fun h => hk (by unfold occB; rw [Bool.and_eq_true, decide_eq_true_eq]; exact ⟨h.1.2, h.2⟩))]
      have ih := occ_loop hgap limit n (k + 1) st (by omega) (fun j hj hoj => hfree j (by omega) hoj)
      rw [List.filter_cons_of_neg hk]
      show (forIn (List.range' (k + 1) n) st (occBody x y x.length limit)).run.fst.size = _
      exact ih
theorem count_filter {x y : Str} (hgap : ∀ i j, occB x y i = true → occB x y j = true → i < j → i + y.length ≤ j) : Txt.count x y = (((List.range (x.length + 1)).filter (occB x y)).length : Nat) := by
  unfold Txt.count
  rw [occ_eq, Array.length_toList, occ_loop hgap (x.length + 1) (x.length + 1 - 0) 0 (#[], 0) (by simp) (fun j _ _ => Nat.zero_le _)]
  simp [List.range_eq_range']
end

/-- the row of one dot -/
abbrev pat : List Nat := [13, 10, 46, 13, 10]
def occS (s : List Nat) (i : Nat) : Bool := (s.drop i).take 5 == pat
/-- how many end within the first p signs -/
def cnt (s : List Nat) (p : Nat) : Nat := ((List.range (p + 1)).filter fun i => decide (i + 5 ≤ p) && occS s i).length

theorem cnt_step (s : List Nat) (p : Nat) : cnt s (p + 1) = cnt s p + (if 5 ≤ p + 1 ∧ occS s (p + 1 - 5) = true then 1 else 0) := by
  have key : ∀ N, ((List.range N).filter fun i => decide (i + 5 ≤ p + 1) && occS s i).length = ((List.range N).filter fun i => decide (i + 5 ≤ p) && occS s i).length + (if 5 ≤ p + 1 ∧ p + 1 - 5 < N ∧ occS s (p + 1 - 5) = true then 1 else 0) := by
    intro N
    induction N with
    | zero => simp
    | succ N ih =>
      rw [List.range_succ, List.filter_append, List.filter_append, List.length_append, List.length_append, ih]
      by_cases h1 : N + 5 ≤ p
      · have e1 : (decide (N + 5 ≤ p + 1) && occS s N) = (decide (N + 5 ≤ p) && occS s N) := by simp [h1, show N + 5 ≤ p + 1 by omega]
        simp only [List.filter_cons, e1, List.filter_nil]
        have e2 : (5 ≤ p + 1 ∧ p + 1 - 5 < N ∧ occS s (p + 1 - 5) = true) ↔ (5 ≤ p + 1 ∧ p + 1 - 5 < N + 1 ∧ occS s (p + 1 - 5) = true) := by
          constructor <;> intro ⟨a, b, c⟩ <;> exact ⟨a, by omega, c⟩
        simp only [e2]
        omega
      · by_cases h2 : N + 5 = p + 1
        · have e3 : p + 1 - 5 = N := by omega
          have e4 : ¬ (N + 5 ≤ p) := by omega
          simp only [List.filter_cons, List.filter_nil, e3, e4, decide_false, Bool.false_and, show N + 5 ≤ p + 1 by omega, decide_true, Bool.true_and, Nat.lt_irrefl, false_and, and_false, if_false, Nat.lt_succ_self, true_and, show 5 ≤ p + 1 by omega]
          cases occS s N <;> simp
        · have e5 : ¬ (N + 5 ≤ p + 1) := by omega
          have e6 : ¬ (N + 5 ≤ p) := by omega
          simp only [List.filter_cons, List.filter_nil, e5, e6, decide_false, Bool.false_and]
          have e2 : (5 ≤ p + 1 ∧ p + 1 - 5 < N ∧ occS s (p + 1 - 5) = true) ↔ (5 ≤ p + 1 ∧ p + 1 - 5 < N + 1 ∧ occS s (p + 1 - 5) = true) := by
            constructor <;> intro ⟨a, b, c⟩ <;> exact ⟨a, by omega, c⟩
          simp only [e2]
          simp
  unfold cnt
  rw [key (p + 1 + 1)]
  have e1 : ((List.range (p + 1 + 1)).filter fun i => decide (i + 5 ≤ p) && occS s i) = ((List.range (p + 1)).filter fun i => decide (i + 5 ≤ p) && occS s i) := by
    rw [List.range_succ, List.filter_append]
    simp [show ¬ (p + 1 + 5 ≤ p) by omega]
  rw [e1]
  congr 1
  have e2 : (5 ≤ p + 1 ∧ p + 1 - 5 < p + 1 + 1 ∧ occS s (p + 1 - 5) = true) ↔ (5 ≤ p + 1 ∧ occS s (p + 1 - 5) = true) := by
    constructor
    · intro ⟨a, b, c⟩; exact ⟨a, c⟩
    · intro ⟨a, c⟩; exact ⟨a, by omega, c⟩
  simp only [e2]

/-- the ends, told -/
structure Ends (s : List Nat) (M : Nat) (E : Nat → Nat) : Prop where
  first : ∀ m, m < M → 5 ≤ E m
  up : ∀ m, m + 1 < M → E m + 5 ≤ E (m + 1)
  in_ : ∀ m, m < M → E m ≤ s.length
  occ : ∀ i, i + 5 ≤ s.length → (occS s i = true ↔ ∃ m, m < M ∧ i + 5 = E m)

theorem Ends.lt {s : List Nat} {M : Nat} {E : Nat → Nat} (h : Ends s M E) : ∀ k j, j < k → k < M → E j + 5 ≤ E k
  | 0, j, hj, _ => by omega
  | k + 1, j, hj, hk => by
    have := h.up k hk
    by_cases hjk : j = k
    · subst hjk; exact this
    · have := h.lt k j (by omega) (by omega); omega

theorem cnt_is {s : List Nat} {M : Nat} {E : Nat → Nat} (h : Ends s M E) : ∀ p, p ≤ s.length → ∀ m, m ≤ M → (∀ j, j < m → E j ≤ p) → (m < M → p < E m) → cnt s p = m
  | 0, hp, m, hm, h1, h2 => by
    have : m = 0 := by
      apply Nat.eq_zero_of_not_pos
      intro h0
      have := h1 0 h0
      have := h.first 0 (by omega)
      omega
    subst this
    simp [cnt]
  | p + 1, hp, m, hm, h1, h2 => by
    rw [cnt_step]
    by_cases hh : 0 < m ∧ E (m - 1) = p + 1
    · have ih := cnt_is h p (by omega) (m - 1) (by omega) (fun j hj => by have := h.lt (m - 1) j hj (by omega); omega) (fun _ => by omega)
      have h5 := h.first (m - 1) (by omega)
      have ho := (h.occ (p + 1 - 5) (by omega)).mpr ⟨m - 1, by omega, by omega⟩
      rw [ih, if_pos ⟨by omega, ho⟩]; omega
    · have ih := cnt_is h p (by omega) m hm (fun j hj => by
        have := h1 j hj
        by_cases hjm : j = m - 1
        · subst hjm
          have : E (m - 1) ≠ p + 1 := fun q => hh ⟨by omega, q⟩
          omega
        · have := h.lt (m - 1) j (by omega) (by omega)
          have := h1 (m - 1) (by omega)
          omega) (fun hmM => by have := h2 hmM; omega)
      have hno : ¬ (5 ≤ p + 1 ∧ occS s (p + 1 - 5) = true) := ?_
      · rw [ih, if_neg hno]; omega
      rintro ⟨h5, ho⟩
      obtain ⟨j, hj, ej⟩ := (h.occ (p + 1 - 5) (by omega)).mp ho
      have ej' : E j = p + 1 := by omega
      by_cases hjm : j < m
      · by_cases hj1 : j = m - 1
        · subst hj1; exact hh ⟨by omega, ej'⟩
        · have := h.lt (m - 1) j (by omega) (by omega)
          have := h1 (m - 1) (by omega)
          omega
      · have := h2 (by omega)
        by_cases hj1 : j = m
        · subst hj1; omega
        · have := h.lt j m (by omega) hj
          omega

/-- the m-th end is the first place where m + 1 are counted -/
theorem cnt_end {s : List Nat} {M : Nat} {E : Nat → Nat} (h : Ends s M E) {m : Nat} (hm : m < M) {p : Nat} (hp : p ≤ s.length) : cnt s p < m + 1 ↔ p < E m := by
  have find : ∀ n, n ≤ M → ∃ k, k ≤ n ∧ (∀ j, j < k → E j ≤ p) ∧ (k < n → p < E k) := by
    intro n
    induction n with
    | zero => intro _; exact ⟨0, Nat.le_refl _, fun j hj => by omega, fun h => by omega⟩
    | succ n ih =>
      intro hn
      obtain ⟨k, h1, h2, h3⟩ := ih (by omega)
      by_cases hk : k < n
      · exact ⟨k, by omega, h2, fun _ => h3 hk⟩
      · have : k = n := by omega
        subst this
        by_cases hE : E k ≤ p
        · exact ⟨k + 1, Nat.le_refl _, fun j hj => by by_cases q : j = k; (subst q; exact hE); exact h2 j (by omega), fun h => by omega⟩
        · exact ⟨k, by omega, h2, fun _ => by omega⟩
  obtain ⟨k, h1, h2, h3⟩ := find M (Nat.le_refl _)
  rw [cnt_is h p hp k h1 h2 h3]
  constructor
  · intro hk
    by_cases q : k = m
    · subst q; exact h3 hm
    · have := h3 (by omega)
      have := h.lt m k (by omega) hm
      omega
  · intro hk
    apply Nat.lt_of_not_le
    intro q
    have := h2 m (by omega)
    omega
end Mine

end

/- Pure5 -/
section
open PySem PySem.Builtin PySem.Builtin.Str PySem.StrLaws
namespace Mine
set_option linter.unusedVariables false

theorem out_nil : out [] = [13, 10, 46, 13, 10] := by unfold out ending; simp [beg]
theorem out_cons (c : Nat) (r : List Nat) : ∃ z, out (c :: r) = piece 10 c ++ z := ⟨beg c r ++ ending (c :: r), by unfold out; rw [beg, List.append_assoc]⟩
theorem out_head (l : List Nat) : (out l)[0]? ≠ some 10 ∧ ¬ ((out l)[0]? = some 46 ∧ (out l)[1]? = some 13) := by
  cases l with
  | nil => rw [out_nil]; simp
  | cons c r =>
    obtain ⟨z, e⟩ := out_cons c r
    rw [e]
    unfold piece
    by_cases h1 : c = 13 ∨ (c = 10 ∧ (10 : Nat) ≠ 13)
    · rw [if_pos h1]; simp
    · rw [if_neg h1]
      by_cases h2 : c = 46 ∧ ((10 : Nat) = 13 ∨ (10 : Nat) = 10)
      · rw [if_pos h2]; simp
      · rw [if_neg h2, if_pos (by omega)]
        simp
        omega
theorem out_bare (l : List Nat) {t : Nat} (h1 : (out l)[t]? = some 10) (h2 : (out l)[t + 1]? = some 46) (h3 : (out l)[t + 2]? = some 13) : t + 4 = (out l).length := by
  have hb := bare l
  generalize hB : beg 10 l = B at *
  obtain ⟨ha, hbb, hc⟩ := hb
  rw [hB] at ha hbb
  have eo : out l = B ++ ending l := by unfold out; rw [hB]
  have el : ∀ i, i < B.length → (out l)[i]? = B[i]? := fun i hi => by rw [eo, List.getElem?_append_left hi]
  have er : ∀ i, (out l)[B.length + i]? = (ending l)[i]? := fun i => by rw [eo, List.getElem?_append_right (by omega)]; simp
  have elen : (out l).length = B.length + (ending l).length := by rw [eo, List.length_append]
  by_cases q1 : t + 2 < B.length
  · rw [el _ (by omega)] at h1; rw [el _ (by omega)] at h2; rw [el _ q1] at h3
    exact absurd ⟨h1, h2, h3⟩ (ha t)
  · by_cases q2 : t + 2 = B.length
    · rw [el _ (by omega)] at h1; rw [el _ (by omega)] at h2
      exact absurd ⟨h1, h2⟩ (hbb t q2)
    · obtain ⟨d, hd⟩ : ∃ d, t + 1 = B.length + d := ⟨t + 1 - B.length, by omega⟩
      rw [hd, er] at h2
      rw [show t + 2 = B.length + (d + 1) by omega, er] at h3
      unfold ending at h2 h3 elen er
      by_cases hh : l = [] ∨ (lastAt l l.length ≠ 13 ∧ lastAt l l.length ≠ 10)
      · rw [if_pos hh] at h2 h3 elen
        match d, h2, h3, hd with
        | 0, h2, _, _ => simp at h2
        | 1, h2, _, _ => simp at h2
        | 2, h2, h3, hd => rw [elen]; simp; omega
        | 3, h2, _, _ => simp at h2
        | 4, h2, _, _ => simp at h2
        | d + 5, h2, _, _ => simp at h2
      · rw [if_neg hh] at h2 h3 elen
        match d, h2, h3, hd with
        | 0, h2, h3, hd => rw [elen]; simp; omega
        | 1, h2, _, _ => simp at h2
        | 2, h2, _, _ => simp at h2
        | d + 3, h2, _, _ => simp at h2
theorem out_tail (l : List Nat) : ∃ pre, out l = pre ++ pat := by
  unfold out ending
  by_cases h : l = [] ∨ (lastAt l l.length ≠ 13 ∧ lastAt l l.length ≠ 10)
  · rw [if_pos h]; exact ⟨beg 10 l, rfl⟩
  · rw [if_neg h]
    obtain ⟨pre, e⟩ := beg_ends (l := l) (fun q => h (.inl q)) (by omega)
    rw [e]; exact ⟨pre, by simp⟩

def stream (ms : List (List Nat)) : List Nat := (ms.map out).flatten
/-- where mail m begins -/
def startOf (ms : List (List Nat)) (m : Nat) : Nat := (((ms.map out).take m).map List.length).sum
theorem startOf_zero (ms : List (List Nat)) : startOf ms 0 = 0 := by simp [startOf]
theorem startOf_succ {ms : List (List Nat)} {m : Nat} {l : List Nat} (h : ms[m]? = some l) : startOf ms (m + 1) = startOf ms m + (out l).length := by
  unfold startOf
  rw [List.take_add_one, List.getElem?_map, h]
  simp
theorem startOf_len (ms : List (List Nat)) : startOf ms ms.length = (stream ms).length := by
  unfold startOf stream
  rw [List.take_of_length_le (by simp), List.length_flatten]
theorem stream_get {ms : List (List Nat)} {m q : Nat} {l : List Nat} (h : ms[m]? = some l) (hq : q < (out l).length) : (stream ms)[startOf ms m + q]? = (out l)[q]? := by
  unfold stream startOf
  exact flat_get (ms.map out) m q (out l) (by rw [List.getElem?_map, h]; rfl) hq
theorem startOf_mono (ms : List (List Nat)) : ∀ k j, j ≤ k → k ≤ ms.length → startOf ms j ≤ startOf ms k
  | 0, j, hj, _ => by have : j = 0 := by omega
                      subst this; omega
  | k + 1, j, hj, hk => by
    by_cases q : j = k + 1
    · subst q; omega
    · have := startOf_mono ms k j (by omega) (by omega)
      rw [startOf_succ (List.getElem?_eq_getElem (show k < ms.length by omega))]
      omega
/-- the mail of a sign -/
theorem find_mail (ms : List (List Nat)) {p : Nat} : ∀ n, n ≤ ms.length → p < startOf ms n → ∃ m l, m < n ∧ ms[m]? = some l ∧ startOf ms m ≤ p ∧ p < startOf ms m + (out l).length
  | 0, _, h => by rw [startOf_zero] at h; omega
  | n + 1, hn, h => by
    by_cases q : p < startOf ms n
    · obtain ⟨m, l, h1, h2⟩ := find_mail ms n (by omega) q
      exact ⟨m, l, by omega, h2⟩
    · have hg := List.getElem?_eq_getElem (show n < ms.length by omega)
      rw [startOf_succ hg] at h
      exact ⟨n, _, by omega, hg, by omega, h⟩

theorem occS_iff (s : List Nat) (i : Nat) : occS s i = true ↔ s[i]? = some 13 ∧ s[i + 1]? = some 10 ∧ s[i + 2]? = some 46 ∧ s[i + 3]? = some 13 ∧ s[i + 4]? = some 10 := by
  unfold occS
  rw [beq_iff_eq]
  have g : ∀ k, k < 5 → ((s.drop i).take 5)[k]? = s[i + k]? := fun k hk => by rw [List.getElem?_take_of_lt hk, List.getElem?_drop]
  constructor
  · intro h
    have g0 := g 0 (by omega); have g1 := g 1 (by omega); have g2 := g 2 (by omega); have g3 := g 3 (by omega); have g4 := g 4 (by omega)
    rw [h] at g0 g1 g2 g3 g4
    exact ⟨g0.symm, g1.symm, g2.symm, g3.symm, g4.symm⟩
  · rintro ⟨h0, h1, h2, h3, h4⟩
    apply List.ext_getElem?
    intro k
    by_cases hk : k < 5
    · rw [g k hk]
      match k, hk with
      | 0, _ => rw [Nat.add_zero, h0]; rfl
      | 1, _ => rw [h1]; rfl
      | 2, _ => rw [h2]; rfl
      | 3, _ => rw [h3]; rfl
      | 4, _ => rw [h4]; rfl
    · rw [List.getElem?_eq_none (by rw [List.length_take]; omega), List.getElem?_eq_none (by show 5 ≤ k; omega)]

theorem ends_stream (ms : List (List Nat)) : Ends (stream ms) ms.length (fun m => startOf ms (m + 1)) where
  first := fun m hm => by
    rw [startOf_succ (List.getElem?_eq_getElem hm)]
    have := out_pos ms[m]
    omega
  up := fun m hm => by
    show startOf ms (m + 1) + 5 ≤ startOf ms (m + 1 + 1)
    rw [startOf_succ (m := m + 1) (List.getElem?_eq_getElem hm)]
    have := out_pos ms[m + 1]
    omega
  in_ := fun m hm => by rw [← startOf_len]; exact startOf_mono ms _ _ (by omega) (Nat.le_refl _)
  occ := fun i hi => by
    rw [occS_iff]
    obtain ⟨m, l, hm, hl, h1, h2⟩ := find_mail ms (p := i + 4) ms.length (Nat.le_refl _) (by rw [startOf_len]; omega)
    have hml : m < ms.length := hm
    have hs := startOf_succ hl
    have hpos := out_pos l
    have get : ∀ t, t < (out l).length → (stream ms)[startOf ms m + t]? = (out l)[t]? := fun t ht => stream_get hl ht
    have hd := out_head l
    obtain ⟨q, hq⟩ : ∃ q, i + 4 = startOf ms m + q := ⟨i + 4 - startOf ms m, by omega⟩
    constructor
    · rintro ⟨a0, a1, a2, a3, a4⟩
      refine ⟨m, hml, ?_⟩
      show i + 5 = startOf ms (m + 1)
      rw [hs]
      -- the sign ahead of the mail is a row's end
      have prev : 0 < startOf ms m → (stream ms)[startOf ms m - 1]? = some 10 := fun h0 => by
        have hm0 : 0 < m := by
          apply Nat.pos_of_ne_zero
          intro e
          subst e
          rw [startOf_zero] at h0; omega
        have hg := List.getElem?_eq_getElem (show m - 1 < ms.length by omega)
        have hs' := startOf_succ hg
        rw [show m - 1 + 1 = m by omega] at hs'
        have hp := out_pos ms[m - 1]
        have := stream_get hg (q := (out ms[m - 1]).length - 1) (by omega)
        rw [show startOf ms (m - 1) + ((out ms[m - 1]).length - 1) = startOf ms m - 1 by omega] at this
        rw [this]
        obtain ⟨pre, e⟩ := out_tail ms[m - 1]
        rw [e, List.getElem?_append_right (by simp)]
        simp
      match q, hq with
      | 0, hq =>
        rw [show i + 4 = startOf ms m + 0 by omega, get 0 (by omega)] at a4
        exact absurd a4 hd.1
      | 1, hq =>
        have h0 : 0 < startOf ms m := by omega
        have := prev h0
        rw [show startOf ms m - 1 = i + 2 by omega, a2] at this
        simp at this
      | 2, hq =>
        rw [show i + 2 = startOf ms m + 0 by omega, get 0 (by omega)] at a2
        rw [show i + 3 = startOf ms m + 1 by omega, get 1 (by omega)] at a3
        exact absurd ⟨a2, a3⟩ hd.2
      | 3, hq =>
        rw [show i + 1 = startOf ms m + 0 by omega, get 0 (by omega)] at a1
        exact absurd a1 hd.1
      | q + 4, hq =>
        rw [show i + 1 = startOf ms m + (q + 1) by omega, get _ (by omega)] at a1
        rw [show i + 2 = startOf ms m + (q + 1 + 1) by omega, get _ (by omega)] at a2
        rw [show i + 3 = startOf ms m + (q + 1 + 2) by omega, get _ (by omega)] at a3
        have := out_bare l a1 a2 a3
        omega
    · rintro ⟨m', hm', e⟩
      have hg := List.getElem?_eq_getElem hm'
      have e' : i + 5 = startOf ms (m' + 1) := e
      rw [startOf_succ hg] at e'
      have hp := out_pos ms[m']
      obtain ⟨pre, eo⟩ := out_tail ms[m']
      have hlen : (out ms[m']).length = pre.length + 5 := by rw [eo]; simp
      have g : ∀ k, k < 5 → (stream ms)[i + k]? = pat[k]? := fun k hk => by
        have := stream_get hg (q := pre.length + k) (by omega)
        rw [show startOf ms m' + (pre.length + k) = i + k by omega] at this
        rw [this, eo, List.getElem?_append_right (by omega)]
        simp
      exact ⟨g 0 (by omega), g 1 (by omega), g 2 (by omega), g 3 (by omega), g 4 (by omega)⟩

/-- what text.count gives -/
theorem count_is (ms : List (List Nat)) {p : Nat} (hp : p ≤ (stream ms).length) : Txt.count (⟨((stream ms).take p).toArray⟩ : Str) (⟨pat.toArray⟩ : Str) = (cnt (stream ms) p : Nat) := by
  have H := ends_stream ms
  generalize stream ms = s at *
  have hlen : (⟨(s.take p).toArray⟩ : Str).length = p := by show (s.take p).toArray.size = p; simp; omega
  have hpl : (⟨pat.toArray⟩ : Str).length = 5 := rfl
  have eB : ∀ i, occB ⟨(s.take p).toArray⟩ ⟨pat.toArray⟩ i = (decide (i + 5 ≤ p) && occS s i) := fun i => by
    unfold occB occS
    rw [hlen, hpl, subAt_eq]
    by_cases hi : i + 5 ≤ p
    · have : ((s.take p).drop i).take 5 = (s.drop i).take 5 := by rw [List.drop_take, List.take_take, Nat.min_eq_left (by omega)]
      simp only [hi, decide_true, Bool.true_and]
      show ((List.take 5 (List.drop i (s.take p))) == pat) = _
      rw [this]
    · simp [hi]
  rw [count_filter (fun i j hi hj hij => by
    rw [eB, Bool.and_eq_true, decide_eq_true_eq] at hi hj
    rw [hpl]
    obtain ⟨a, ha, ea⟩ := (H.occ i (by omega)).mp hi.2
    obtain ⟨c, hc, ec⟩ := (H.occ j (by omega)).mp hj.2
    have hac : a < c := by
      apply Nat.lt_of_not_le
      intro hca
      by_cases q : a = c
      · subst q; omega
      · have := H.lt a c (by omega) ha; omega
    have := H.lt c a hac hc
    omega)]
  unfold cnt
  rw [hlen]
  congr 2
  exact List.filter_congr fun i _ => eB i
end Mine

end

/- Pure6 -/
section
namespace Mine
set_option linter.unusedVariables false

def lens (l : List Nat) : List Nat := (List.range (l.length + 1)).map (ln l)
def lensAll (ms : List (List Nat)) : List Nat := (ms.map lens).flatten
def headOf (ms : List (List Nat)) (m : Nat) : Nat := ((ms.take m).map fun l => l.length + 1).sum

theorem headOf_succ {ms : List (List Nat)} {m : Nat} {l : List Nat} (h : ms[m]? = some l) : headOf ms (m + 1) = headOf ms m + (l.length + 1) := by
  unfold headOf
  rw [List.take_add_one, h]
  simp
theorem headOf_mono (ms : List (List Nat)) : ∀ k j, j ≤ k → k ≤ ms.length → headOf ms j ≤ headOf ms k
  | 0, j, hj, _ => by have : j = 0 := by omega
                      subst this; omega
  | k + 1, j, hj, hk => by
    by_cases q : j = k + 1
    · subst q; omega
    · have := headOf_mono ms k j (by omega) (by omega)
      rw [headOf_succ (List.getElem?_eq_getElem (show k < ms.length by omega))]
      omega
theorem headOf_eq (ms : List (List Nat)) (m : Nat) : (((ms.map lens).take m).map List.length).sum = headOf ms m := by
  unfold headOf
  rw [← List.map_take, List.map_map]
  congr 1
  refine List.map_congr_left fun l _ => ?_
  simp [lens]
theorem lensAll_length (ms : List (List Nat)) : (lensAll ms).length = headOf ms ms.length := by
  rw [← headOf_eq, List.take_of_length_le (by simp), lensAll, List.length_flatten]
theorem lensAll_get {ms : List (List Nat)} {m j : Nat} {l : List Nat} (h : ms[m]? = some l) (hj : j ≤ l.length) : (lensAll ms)[headOf ms m + j]? = some (ln l j) := by
  rw [← headOf_eq]
  unfold lensAll
  rw [flat_get (ms.map lens) m j (lens l) (by rw [List.getElem?_map, h]; rfl) (by simp [lens]; omega)]
  simp [lens, List.getElem?_range (show j < l.length + 1 by omega)]

/-- who wrote sign p of the stream -/
def Who (ms : List (List Nat)) (p m k : Nat) : Prop := ∃ l q, ms[m]? = some l ∧ p = startOf ms m + q ∧ q < (out l).length ∧ (own l)[q]? = some k
theorem Who.mail {ms : List (List Nat)} {p m k : Nat} (h : Who ms p m k) {l : List Nat} (hl : ms[m]? = some l) : startOf ms m ≤ p ∧ p - startOf ms m < (out l).length ∧ k ≤ l.length ∧ ln l k ≤ p - startOf ms m ∧ (k < l.length → p - startOf ms m < ln l (k + 1)) := by
  obtain ⟨l', q, h1, h2, h3, h4⟩ := h
  rw [hl] at h1; cases h1
  obtain ⟨k', e, a, b, c⟩ := own_get h3
  rw [h4] at e; cases e
  have : p - startOf ms m = q := by omega
  rw [this]
  exact ⟨by omega, h3, a, b, c⟩
/-- the sign ahead is of the same mail -/
theorem Who.prev {ms : List (List Nat)} {p m k m' k' : Nat} (h : Who ms p m k) (hp : startOf ms m < p) (h' : Who ms (p - 1) m' k') : m' = m := by
  obtain ⟨l, q, h1, h2, h3, _⟩ := h
  obtain ⟨l', q', h1', h2', h3', _⟩ := h'
  have hm := (List.getElem?_eq_some_iff.mp h1).1
  have hm' := (List.getElem?_eq_some_iff.mp h1').1
  have s1 := startOf_succ h1
  have s2 := startOf_succ h1'
  rcases Nat.lt_trichotomy m' m with c | c | c
  · have := startOf_mono ms m (m' + 1) (by omega) (by omega); omega
  · exact c
  · have := startOf_mono ms m' (m + 1) (by omega) (by omega); omega
end Mine

end

/- E08 -/
section
open PySem PySem.Calls PyProof.Rows PySem.W
namespace Mine
set_option maxRecDepth 100000
set_option linter.unusedVariables false

theorem strsAre_get {vs : List Value} {ns : List Str} (h : StrsAre vs ns) : ∀ {k : Nat} {n : Str}, ns[k]? = some n → ∃ t, vs[k]? = some (.str n t) := by
  induction h with
  | nil => intro k n e; simp at e
  | cons m t r ih =>
    intro k n e
    cases k with
    | zero => simp at e; subst e; exact ⟨t, rfl⟩
    | succ k => exact ih (by simpa using e)
theorem strsAre_take {vs : List Value} {ns : List Str} (h : StrsAre vs ns) : ∀ k, StrsAre (vs.take k) (ns.take k) := by
  induction h with
  | nil => intro k; simp; exact .nil
  | cons n t r ih => intro k; cases k with
    | zero => simp; exact .nil
    | succ k => simp; exact .cons n t (ih k)
theorem natsI_get {l : List Nat} {k : Nat} (h : k < l.length) : (natsI l)[k]? = some ((l.getD k 0 : Nat) : Int) := by
  unfold natsI
  rw [List.getElem?_map, List.getD_eq_getElem?_getD, List.getElem?_eq_getElem h]
  rfl
theorem ints_at {its : Array Value} {F : List Nat} (h : IntsAre its.toList (natsI F)) {k n : Nat} (hk : F[k]? = some n) : ∃ t, its[k]? = some (.int n t) := by
  obtain ⟨t, e⟩ := intsAre_get h (k := k) (n := n) (by unfold natsI; rw [List.getElem?_map, hk]; rfl)
  exact ⟨t, by simpa using e⟩
theorem natsI_sum (l : List Nat) : (natsI l).sum = (l.sum : Int) := by
  unfold natsI
  induction l with
  | nil => rfl
  | cons a r ih => simp [ih]

section
variable {w : World} {A : Around} {b : Shared} {mg mb : Str → Option Value}

theorem sum_ev {env : Env} {ex : Expr} {p pos : Pos} {P : List Int → Prop} (G : Gd w mg mb b.heap) (hh : A.handled = none) (hx : Ev (model prg w) A b (eval ex env) (rList (fun its => ∃ ns, IntsAre its.toList ns ∧ P ns))) (hg : env.globals = mainGlobals := by rfl) (hb : env.builtins = builtinsNs := by rfl) (hk : env.scope.kind = .function := by rfl) (hkd : env.kindOf "sum" = some .globalImplicit := by rfl)
    (hs : backTo pos (starEach [ex] env) = (false, eval ex env) :: evs [] env := by rfl) : Ev (model prg w) A b (eval (.Call (.Name "sum" p) [ex] [] pos) env) (fun v _ => ∃ M t, v = .int M t ∧ ∃ ns, P ns ∧ M = ns.sum) := by
  refine Ev.callB (Rs := [rList (fun its => ∃ ns, IntsAre its.toList ns ∧ P ns)]) (G.blt (v := .builtin "sum") (by kernel_rfl) (by kernel_rfl) (by decide +kernel) hg hb hk hkd (by decide +kernel)) (Ev.s1 hx monoList) (fun vs s3 k3 hvs => ?_) (by rfl) hs (by rfl)
  obtain ⟨x1, _, rfl, q1, rfl⟩ := hvs
  exact Ev.sumL hh q1

/-- the list of the mails -/
def Mails (ms : List (List Nat)) (v : Value) (h : Heap) : Prop := ∃ ma mits, v = .ref ma ∧ h.IsList ma mits ∧ StrsAre mits.toList (ms.map T)
theorem monoMails {ms : List (List Nat)} : ∀ v h h', Kp h h' → Mails ms v h → Mails ms v h' := fun v h h' k ⟨a, i, e, l, s⟩ => ⟨a, i, e, l.at fun o e => k _ o e, s⟩
/-- who wrote each sign -/
def Owners (ms : List (List Nat)) (v : Value) (h : Heap) : Prop := ∃ oa oits, v = .ref oa ∧ h.IsList oa oits ∧ oits.size = (stream ms).length ∧ ∀ p, p < (stream ms).length → ∃ ta t1 t2 m k, oits[p]? = some (.ref ta) ∧ IsTup h ta #[.int (m : Nat) t1, .int (k : Nat) t2] ∧ Who ms p m k
theorem monoOwners {ms : List (List Nat)} : ∀ v h h', Kp h h' → Owners ms v h → Owners ms v h' := fun v h h' k ⟨a, i, e, l, z, s⟩ => ⟨a, i, e, l.at fun o e => k _ o e, z, fun p hp => let ⟨ta, t1, t2, m, kk, q1, q2, q3⟩ := s p hp; ⟨ta, t1, t2, m, kk, q1, q2.keeps k, q3⟩⟩
def Starts (ms : List (List Nat)) (v : Value) (h : Heap) : Prop := ∃ sa sits, v = .ref sa ∧ h.IsList sa sits ∧ IntsAre sits.toList (natsI ((List.range ms.length).map (startOf ms)))
theorem monoStarts {ms : List (List Nat)} : ∀ v h h', Kp h h' → Starts ms v h → Starts ms v h' := fun v h h' k ⟨a, i, e, l, s⟩ => ⟨a, i, e, l.at fun o e => k _ o e, s⟩

set_option maxHeartbeats 4000000 in
theorem told_ev {ms : List (List Nat)} {v1 v2 v3 : Value} (G : Gd w mg mb b.heap) (hA : Rm A 6) (hM : ms.length ≤ 100) (hl : ∀ l ∈ ms, l.length ≤ 1000) (hsl : (stream ms).length ≤ 1000000) (hll : (lensAll ms).length ≤ 90000) (h1 : Mails ms v1 b.heap) (h2 : Starts ms v2 b.heap) (h3 : Owners ms v3 b.heap) :
    Ev (model prg w) A b (call (.ref 90) [v1, v2, v3] []) (rV (.bool true)) := fun s ks Q E hQ => by
  replace G := G.keeps ks.heap
  replace h1 := monoMails _ _ _ ks.heap h1
  replace h2 := monoStarts _ _ _ ks.heap h2
  replace h3 := monoOwners _ _ _ ks.heap h3
  obtain ⟨ma, mits, rfl, hml, hms⟩ := h1
  obtain ⟨sa, sits, rfl, hsal, hsi⟩ := h2
  obtain ⟨oa, oits, rfl, hol, hosz, how⟩ := h3
  refine fnC (fd := kf 90) (body := bodyOf (kf 90)) (binds := [("mails", .ref ma), ("starts", .ref sa), ("owners", .ref oa)]) (G.fn 90 _ (by kernel_rfl)) G.wd.lim hA.room (by kernel_rfl) (by kernel_rfl) (BindsTo.of_eq (by kernel_rfl)) (by kernel_rfl) (by kernel_rfl) fun L s₁ hL k1 hn hc => ?_
  have hA' : Rm (A.deeper (callEnvC (kf 90) L 90)) 5 := hA.deeper
  generalize hAA : A.deeper (callEnvC (kf 90) L 90) = A' at hA'
  have S : St s [] L [("starts", .ref sa), ("owners", .ref oa)] [eC (L + 1) (some (.ref ma))] s₁ := St.enter (X := []) (es := []) hL k1 hn (vals := [("starts", .ref sa), ("owners", .ref oa)]) (.cons (by rfl) (.cons (by rfl) .nil)) [(1, some (.ref ma))] (by
    intro p hp
    simp only [List.mem_cons, List.not_mem_nil, or_false] at hp
    subst hp
    exact hc "mails" (L + 1) (by rfl)) (by simp) (by simp) (by simp) (by simp) .nil (by simp)
  have Gs : ∀ {s' vals ents}, St s [] L vals ents s' → Gd w mg mb s'.heap := fun S' => G.keeps S'.out.heap
  have hmsz : mits.size = ms.length := by have := strsAre_length hms; simpa using this
  -- a mail of the list
  have mailAt : ∀ {k : Nat} {v : Value}, mits[k]? = some v → ∃ l t, ms[k]? = some l ∧ v = .str (T l) t := fun {k v} hv => by
    have hk : k < mits.size := (Array.getElem?_eq_some_iff.mp hv).1
    have hg := List.getElem?_eq_getElem (show k < ms.length by omega)
    obtain ⟨t, e⟩ := strsAre_get hms (k := k) (n := T ms[k]) (by rw [List.getElem?_map, hg]; rfl)
    refine ⟨_, t, hg, ?_⟩
    have : mits.toList[k]? = some v := by simpa using hv
    rw [e] at this; cases this; rfl
  -- heads
  refine wpAny_execs_cons (S.assignComp (n := ms.length + 1) (P := fun k v => ∃ t, v = .int (0 + k * 1) t) (R := rRange 0 (ms.length + 1 : Nat) 1) (cl := [("mails", L + 1)]) (fun k ys _ => IntsAre ys.toList (natsI ((List.range k).map (headOf ms)))) ?_ ?_ ?_ .nil fun ha hits l' s2 hJ hhn S2 => ?_)
  · have e1 : ((ms.length + 1 : Nat) : Int) = ((mits.size : Nat) : Int) + 1 := by omega
    rw [e1]
    refine range1_ev (Gs S) (Ev.add (lenL_ev (P := fun its => its = mits) (Gs S) (fun s2 k2 Q E hQ => (Ev.cell S.at0) s2 k2 _ _ fun v s3 k3 hv => hQ v s3 k3 ⟨ma, mits, hv, hml.at fun o e => ((S.out.trans k2).trans k3).heap _ o e, rfl⟩) (fun _ h => by rw [h]) (by omega)) Ev.kI)
  · exact fun v s2 k2 hv => Its.range hA'.hd hv (small_one (by omega) (by omega) (by omega) (by omega)) (by rw [size_up (by omega)]; omega)
  · intro C D k ys ents e' s2 v hk hJ hv S2
    obtain ⟨t2, rfl⟩ := hv
    have ek : (0 : Int) + (k : Int) * 1 = (k : Int) := by omega
    rw [ek] at S2
    have G2 := (Gs S).keeps S2.out.heap
    have hys : ys.size = k := by have := hJ.length; simpa [natsI] using this
    refine ⟨true, Ev.tst0, fun _ => ⟨by omega, ?_⟩, fun h => by cases h⟩
    refine Ev.weak (sum_ev (P := fun ns => ns = natsI ((ms.take k).map fun l => l.length + 1)) G2 hA'.hd ?_) fun v h hv => ?_
    · refine Ev.weak (Ev.comp (n := (mits.toList.take k).length) (P := fun j v => (mits.toList.take k)[j]? = some v) (R := rNew s2 fun its => its = (mits.toList.take k).toArray) (cl := []) (fun j ys _ => IntsAre ys.toList (natsI (((ms.take k).take j).map fun l => l.length + 1))) ?_ ?_ ?_ .nil) ?_
      · refine Ev.weak (Ev.sliceL (P := fun its => its = mits) (lo := none) (hi := some (k : Int)) (fun s3 k3 Q E hQ => (Ev.cell (S.at0.keeps S2.out.heap)) s3 k3 _ _ fun v s4 k4 hv => hQ v s4 k4 ⟨ma, mits, hv, hml.at fun o e => (((S.out.trans S2.out).trans k3).trans k4).heap _ o e, rfl⟩) (fun its h => by rw [h]; omega) Ev.pN (Ev.pI (Ev.asI (S2.v (by rfl))))) ?_
        rintro v h ⟨a, its, rfl, hn, hp, src, rfl, rfl⟩
        exact ⟨a, _, rfl, hn, hp, slicePick_upto' _ _⟩
      · rintro v s3 k3 ⟨a, its, rfl, _, hp, rfl⟩
        have := Its.list (prog := prg) (w := w) (A := A') hA'.hd hp.isList
        simpa using this
      · intro C2 D2 j ys2 ents2 e2 s3 v hj hJ2 hv S3
        have hjk : j < k ∧ j < mits.size := by
          have := (List.getElem?_eq_some_iff.mp hv).1
          rw [List.length_take] at this
          simp at this; omega
        rw [List.getElem?_take_of_lt hjk.1] at hv
        obtain ⟨l, t3, hl3, rfl⟩ := mailAt (k := j) (v := v) (by simpa using hv)
        have G3 := G2.keeps S3.out.heap
        have hys2 : ys2.size ≤ j := by have := hJ2.length; simp [natsI] at this; omega
        have hl1 := hl l (List.mem_of_getElem? hl3)
        refine ⟨true, Ev.tst0, fun _ => ⟨by omega, ?_⟩, fun h => by cases h⟩
        refine (Ev.add (len_ev (x := T l) G3 (Ev.asS (S3.v (by rfl))) (by rw [T_len]; omega)) Ev.kI).weak fun v h hv => ?_
        obtain ⟨u, rfl⟩ := hv
        refine ⟨eU, ?_, trivial, by simp [eU]⟩
        show IntsAre _ (natsI (((ms.take k).take (j + 1)).map _))
        rw [List.take_add_one, List.getElem?_take_of_lt hjk.1, hl3, List.map_append, natsI_app, Array.toList_push, T_len]
        exact intsAre_snoc hJ2 _ _
      · intro v h hv
        refine new_list (comp_list hv fun ys _ hJ => ⟨_, hJ, ?_⟩)
        rw [List.take_of_length_le]
        rw [List.length_take, List.length_take]; simp; omega
    · obtain ⟨M, u, rfl, ns, rfl, rfl⟩ := hv
      refine ⟨eU, ?_, trivial, by simp [eU]⟩
      show IntsAre _ (natsI ((List.range (k + 1)).map (headOf ms)))
      rw [List.range_succ, List.map_append, natsI_app, Array.toList_push, natsI_sum]
      exact intsAre_snoc hJ _ _
  have S2' : St s [] L [("heads", .ref ha), ("starts", .ref sa), ("owners", .ref oa)] [eL ha hits, eC (L + 1) (some (.ref ma))] s2 := S2.sub (List.Sublist.cons_cons _ (List.sublist_append_right l' _))
  -- lengths
  refine wpAny_execs_cons (S2'.assignComp2 (n := mits.size) (P := fun k v => mits[k]? = some v) (R := rV (.ref ma)) (cl := []) (fun k ys _ => IntsAre ys.toList (natsI ((ms.take k).map lens).flatten)) (Ev.cell S2'.at1) ?_ ?_ .nil fun la lits l2' s3 hJ2 hln S3 => ?_)
  · rintro v s3 k3 hv
    cases (hv : v = _)
    exact Its.list hA'.hd (hml.at fun o e => (S2'.out.trans k3).heap _ o e)
  · intro C D i ys ents e s3 v hi hJi hv S3
    obtain ⟨l, tl, hli, rfl⟩ := mailAt hv
    have G3 := (Gs S2').keeps S3.out.heap
    have hl1 := hl l (List.mem_of_getElem? hli)
    have hiM : i < ms.length := (List.getElem?_eq_some_iff.mp hli).1
    have hpre : (((ms.take i).map lens).flatten).length ≤ 90000 := by
      rw [List.length_flatten, List.map_take, headOf_eq]
      have := headOf_mono ms ms.length i (by omega) (Nat.le_refl _)
      rw [lensAll_length] at hll
      omega
    refine ⟨l.length + 1, fun k v => ∃ t, v = .int (0 + k * 1) t, rRange 0 (l.length + 1 : Nat) 1, fun j ys _ => IntsAre ys.toList (natsI (((ms.take i).map lens).flatten ++ (List.range j).map (ln l))), ?_, ?_, ?_, ?_, ?_⟩
    · have e1 : ((l.length + 1 : Nat) : Int) = ((T l).length : Int) + 1 := by rw [T_len]; omega
      rw [e1]
      exact range1_ev G3 (Ev.add (len_ev (x := T l) G3 (Ev.asS (S3.v (by rfl))) (by rw [T_len]; omega)) Ev.kI)
    · exact fun v s4 k4 hv => ItsB.range hA'.hd hv (small_one (by omega) (by omega) (by omega) (by omega)) (by rw [size_up (by omega)]; omega)
    · simpa using hJi
    · intro ys' l'' hy
      show IntsAre _ (natsI ((ms.take (i + 1)).map lens).flatten)
      rw [List.take_add_one, hli]
      simpa [lens] using hy
    · intro j ys2 ents2 e1 e2 s4 v2 hj hJ2 hv2 S4
      obtain ⟨t4, rfl⟩ := hv2
      have ej : (0 : Int) + (j : Int) * 1 = (j : Int) := by omega
      rw [ej] at S4
      have G4 := (Gs S2').keeps S4.out.heap
      have hys2 : ys2.size ≤ 91000 := by have := hJ2.length; simp only [natsI, List.length_map, List.length_append, List.length_range, Array.length_toList] at this; omega
      refine ⟨by omega, ?_⟩
      have hb := beg_len (l.take j) 10
      have hlt : (l.take j).length ≤ 1000 := by rw [List.length_take]; omega
      refine (len_ev (x := T (qd (l.take j))) G4 (Ev.callF (Rs := [rS (T (l.take j))]) (Ev.glob G4.wd (G4.mgl "quotedata" (some (.ref 48)) (by kernel_rfl))) (G4.at 48 (by kernel_rfl)) (fd := kf 48) (by kernel_rfl) ?_ ?_) (by rw [T_len]; unfold qd; omega)).weak fun v h hv => ?_
      · exact Ev.s1 (Ev.cut (x := T l) (l := none) (u := some (j : Int)) (Ev.asS (S4.v (by rfl))) Ev.nopart (Ev.part (Ev.asI (S4.v (by rfl)))) (slice_pre (by omega)) (by rw [T_len]; unfold sizeLine; omega)) monoS
      · intro vs s5 k5 hvs
        obtain ⟨x1, _, rfl, q1, rfl⟩ := hvs
        exact quotedata_T (G4.keeps k5.heap) (hA'.less (by omega)) q1 (by omega)
      · obtain ⟨u, rfl⟩ := hv
        refine ⟨eU, ?_, trivial, by simp [eU]⟩
        rw [List.range_succ, List.map_append, ← List.append_assoc, natsI_app, Array.toList_push, T_len]
        exact intsAre_snoc hJ2 _ _
  have hJL : IntsAre lits.toList (natsI (lensAll ms)) := by
    rw [hmsz, List.take_of_length_le (Nat.le_refl _)] at hJ2
    exact hJ2
  have S3' : St s [] L [("lengths", .ref la), ("heads", .ref ha), ("starts", .ref sa), ("owners", .ref oa)] [eL la lits, eL ha hits, eC (L + 1) (some (.ref ma))] s3 := S3.sub (List.Sublist.cons_cons _ (List.sublist_append_right l2' _))
  -- what stands at the loop's places
  have hlitsz : lits.size = (lensAll ms).length := by have := hJL.length; simpa [natsI] using this
  have hsisz : sits.size = ms.length := by have := hsi.length; simpa [natsI] using this
  obtain ⟨tb, hbind⟩ := bindR2
  refine wpAny_execs_cons (S3'.forRange (n := (stream ms).length) (a := 0) (b := (oits.size : Nat)) (c := 1) (fun i vals ents => vals = ([("lengths", .ref la), ("heads", .ref ha), ("starts", .ref sa), ("owners", .ref oa)] : VL) ∧ ents = [eL la lits, eL ha hits, eC (L + 1) (some (.ref ma))]) hA'.hd ?_ (small_one (by omega) (by omega) (by omega) (by omega)) (by rw [size_up (by omega)]; omega) ⟨rfl, rfl⟩ ?_ ?_)
  · exact range1_ev (Gs S3') (lenL_ev (P := fun its => its = oits) (Gs S3') (fun s4 k4 Q E hQ => (S3'.v (by rfl)) s4 k4 _ _ fun v s5 k5 hv => hQ v s5 k5 ⟨oa, oits, hv, hol.at fun o e => ((S3'.out.trans k4).trans k5).heap _ o e, rfl⟩) (fun _ h => by rw [h]) (by omega))
  · rintro p vals ents e s4 t hp ⟨rfl, rfl⟩ S4 Q' E' hq
    have ep : (0 : Int) + (p : Int) * 1 = (p : Int) := by omega
    rw [ep]
    obtain ⟨ta, t1, t2, m, k, ho, htup, hwho⟩ := how p hp
    obtain ⟨l, hlm⟩ : ∃ l, ms[m]? = some l := let ⟨l, _, h, _⟩ := hwho; ⟨l, h⟩
    have hmM : m < ms.length := (List.getElem?_eq_some_iff.mp hlm).1
    obtain ⟨w1, w2, w3, w4, w5⟩ := hwho.mail hlm
    have hss := startOf_succ hlm
    have hhs := headOf_succ hlm
    have hl1 := hl l (List.mem_of_getElem? hlm)
    have hhm := headOf_mono ms ms.length (m + 1) (by omega) (Nat.le_refl _)
    rw [← lensAll_length] at hhm
    have hsm := startOf_mono ms ms.length m (by omega) (Nat.le_refl _)
    rw [startOf_len] at hsm
    obtain ⟨q, hq0⟩ : ∃ q, p = startOf ms m + q := ⟨p - startOf ms m, by omega⟩
    have hqe : p - startOf ms m = q := by omega
    rw [hqe] at w2 w4 w5
    have lget : ∀ j, j ≤ l.length → (lensAll ms).getD (headOf ms m + j) 0 = ln l j := fun j hj => by rw [List.getD_eq_getElem?_getD, lensAll_get hlm hj]; rfl
    obtain ⟨ts, hst⟩ := ints_at hsi (k := m) (n := startOf ms m) (by rw [List.getElem?_map, List.getElem?_range hmM]; rfl)
    obtain ⟨th, hht⟩ := ints_at hJ (k := m) (n := headOf ms m) (by rw [List.getElem?_map, List.getElem?_range (by omega)]; rfl)
    obtain ⟨th', hht'⟩ := ints_at hJ (k := m + 1) (n := headOf ms (m + 1)) (by rw [List.getElem?_map, List.getElem?_range (by omega)]; rfl)
    refine S4.bind fun s5 S5 => ?_
    have S5' : St s [] L [("p", .int p t), ("lengths", .ref la), ("heads", .ref ha), ("starts", .ref sa), ("owners", .ref oa)] [e, eL la lits, eL ha hits, eC (L + 1) (some (.ref ma))] s5 := S5
    -- m
    refine wpAny_execs_cons (S5'.assign (R := rI ((m + 1 : Nat) - 1)) (Ev.sub (Ev.callF (Rs := [rV (.ref sa), rV (.int p t)]) (Ev.glob (Gs S5').wd ((Gs S5').mgl "bisect_right" (some (.ref 57)) (by kernel_rfl))) ((Gs S5').at 57 (by kernel_rfl)) (fd := kf 57) (by kernel_rfl) ?_ ?_) Ev.kI) fun v s6 s7 k6 hv sb S7 => ?_)
    · exact Ev.s2 (S5'.v (by rfl)) monoV (S5'.v (by rfl)) monoV
    · intro vs s6 k6 hvs
      obtain ⟨x1, _, rfl, rfl, x2, _, rfl, rfl, rfl⟩ := hvs
      refine bisectR_ev (n := 4) (lo := 0) (hi := ms.length) (r := m + 1) (f := fun i => (startOf ms i : Int)) (items := sits) (vhi := .none) (vk := .none) (x := (p : Int)) (tx := t) (tlo := tb) (args := ⟨[.ref sa, .int p t], []⟩) ((Gs S5').keeps k6.heap) hA' (fun s' G' => hbind G' _ _) (hsal.at fun o e => (S5'.out.trans k6).heap _ o e) (by omega) (by omega) (.inl ⟨rfl, hsisz.symm⟩) (.inl ⟨rfl, fun i hi => ints_at hsi (by rw [List.getElem?_map, List.getElem?_range hi]; rfl)⟩) (by omega) (by omega) (fun i _ hi => ?_) (fun i hi hi2 => ?_)
      · have := startOf_mono ms m i (by omega) (by omega); omega
      · have := startOf_mono ms i (m + 1) (by omega) (by omega); omega
    obtain ⟨tm, rfl⟩ := hv
    have em : (((m + 1 : Nat) : Int) - 1) = (m : Int) := by omega
    rw [em] at S7
    have tup0 : ∀ {s' : Shared} {p1 p2 p3 p4 p5 : Pos} {vals ents}, St s [] L vals ents s' → vals.lookup ("owners" : Str) = some (.ref oa) → vals.lookup ("p" : Str) = some (.int p t) → Ev (model prg w) A' s' (eval (.Subscript (.Subscript (.Name "owners" p1) (.Name "p" p2) p3) (.Constant (.int 0) 0 p4) p5) (callEnvC (kf 90) L 90)) (rI m) := fun {s' p1 p2 p3 p4 p5 vals ents} S' h1 h2 => Ev.asI (Ev.tat (k := 0) (Ev.at_ (S'.v h1) (hol.at fun o e => S'.out.heap _ o e) (Ev.asI (S'.v h2)) ho (by omega)) (htup.keeps S'.out.heap) Ev.kI (by rfl) (by omega))
    have tup1 : ∀ {s' : Shared} {p1 p2 p3 p4 p5 : Pos} {vals ents}, St s [] L vals ents s' → vals.lookup ("owners" : Str) = some (.ref oa) → vals.lookup ("p" : Str) = some (.int p t) → Ev (model prg w) A' s' (eval (.Subscript (.Subscript (.Name "owners" p1) (.Name "p" p2) p3) (.Constant (.int 1) 0 p4) p5) (callEnvC (kf 90) L 90)) (rI k) := fun {s' p1 p2 p3 p4 p5 vals ents} S' h1 h2 => Ev.asI (Ev.tat (k := 1) (Ev.at_ (S'.v h1) (hol.at fun o e => S'.out.heap _ o e) (Ev.asI (S'.v h2)) ho (by omega)) (htup.keeps S'.out.heap) Ev.kI (by rfl) (by omega))
    refine wpAny_execs_cons (wpAny_If ((Ev.tNe (i := m) (j := m) (Ev.asI (S7.v (by rfl))) (tup0 S7 (by rfl) (by rfl))).go fun c s8 k8 hc8 => ?_))
    cases (hc8 : c = _)
    rw [if_neg (by simp)]
    refine wpAny_execs_nil ?_
    have S8 : St s [] L [("m", .int m tm), ("p", .int p t), ("lengths", .ref la), ("heads", .ref ha), ("starts", .ref sa), ("owners", .ref oa)] [e, eL la lits, eL ha hits, eC (L + 1) (some (.ref ma))] s8 := S7.kps k8
    -- the arguments of the searches in the mail's own stretch
    have args4 : ∀ {s' : Shared} {p1 p2 p3 p4 p5 p6 p7 p8 p9 p10 p11 p12 p13 p14 : Pos} {vals ents}, St s [] L vals ents s' → s'.heap.PlainList ha hits → vals.lookup ("m" : Str) = some (.int m tm) → vals.lookup ("p" : Str) = some (.int p t) → vals.lookup ("lengths" : Str) = some (.ref la) → vals.lookup ("heads" : Str) = some (.ref ha) → vals.lookup ("starts" : Str) = some (.ref sa) →
        Ev (model prg w) A' s' (spliced ((false, eval (.Name "lengths" p1) (callEnvC (kf 90) L 90)) :: evs [.BinOp (.Name "p" p2) .Sub (.Subscript (.Name "starts" p3) (.Name "m" p4) p5) p6, .Subscript (.Name "heads" p7) (.Name "m" p8) p9, .Subscript (.Name "heads" p10) (.BinOp (.Name "m" p11) .Add (.Constant (.int 1) 0 p12) p13) p14] (callEnvC (kf 90) L 90))) (ListR [rV (.ref la), rI q, rI (headOf ms m), rI (headOf ms (m + 1))]) := fun {s' p1 p2 p3 p4 p5 p6 p7 p8 p9 p10 p11 p12 p13 p14 vals ents} S' hhp hm hp' hla hha hsa => by
      refine Ev.s4 (S'.v hla) monoV ?_ monoI ?_ monoI ?_ monoI
      · have e1 : (q : Int) = (p : Int) - ((startOf ms m : Nat) : Int) := by omega
        rw [e1]
        exact Ev.sub (Ev.asI (S'.v hp')) (Ev.asI (Ev.at_ (S'.v hsa) (hsal.at fun o e => S'.out.heap _ o e) (Ev.asI (S'.v hm)) hst (by omega)))
      · exact Ev.asI (Ev.at_ (S'.v hha) hhp.isList (Ev.asI (S'.v hm)) hht (by omega))
      · exact Ev.asI (Ev.at_ (k := m + 1) (S'.v hha) hhp.isList (Ev.add (Ev.asI (S'.v hm)) Ev.kI) hht' (by omega))
    have fprobe : ∀ i, i < headOf ms (m + 1) → ∃ t, lits[i]? = some (.int ((lensAll ms).getD i 0 : Nat) t) := fun i hi => by
      have := intsAre_get hJL (natsI_get (l := lensAll ms) (k := i) (by omega))
      simpa using this
    -- k
    refine wpAny_execs_cons (S8.assign (R := rI (((headOf ms m + k + 1 : Nat) : Int) - 1 - (headOf ms m : Nat))) (Ev.sub (Ev.sub (Ev.callF (Rs := [rV (.ref la), rI q, rI (headOf ms m), rI (headOf ms (m + 1))]) (Ev.glob (Gs S8).wd ((Gs S8).mgl "bisect_right" (some (.ref 57)) (by kernel_rfl))) ((Gs S8).at 57 (by kernel_rfl)) (fd := kf 57) (by kernel_rfl) ?_ ?_) Ev.kI) ?_) fun v s9 s10 k9 hv sb S10 => ?_)
    · exact args4 S8 S8.at2 (by rfl) (by rfl) (by rfl) (by rfl) (by rfl)
    · intro vs s9 k9 hvs
      obtain ⟨x1, _, rfl, rfl, x2, _, rfl, ⟨u2, rfl⟩, x3, _, rfl, ⟨u3, rfl⟩, x4, _, rfl, ⟨u4, rfl⟩, rfl⟩ := hvs
      refine bisectR_ev (n := 4) (lo := headOf ms m) (hi := headOf ms (m + 1)) (r := headOf ms m + k + 1) (f := fun i => ((lensAll ms).getD i 0 : Nat)) (items := lits) (vhi := .int (headOf ms (m + 1) : Nat) u4) (vk := .none) (x := (q : Int)) (tx := u2) (tlo := u3) (args := ⟨[.ref la, .int q u2, .int (headOf ms m : Nat) u3, .int (headOf ms (m + 1) : Nat) u4], []⟩) ((Gs S8).keeps k9.heap) hA' (fun s' G' => bindR4 G' _ _ _ _) (Heap.PlainList.isList (S8.at1.at fun o e => k9.heap _ o e)) (by omega) (by omega) (.inr ⟨u4, rfl⟩) (.inl ⟨rfl, fprobe⟩) (by omega) (by omega) (fun i hi hi2 => ?_) (fun i hi hi2 => ?_)
      · have := lget (i - headOf ms m) (by omega)
        rw [show headOf ms m + (i - headOf ms m) = i by omega] at this
        rw [this]
        have := ln_mono l (show i - headOf ms m ≤ k by omega)
        omega
      · have := lget (i - headOf ms m) (by omega)
        rw [show headOf ms m + (i - headOf ms m) = i by omega] at this
        rw [this]
        have h1 := w5 (by omega)
        have := ln_mono l (show k + 1 ≤ i - headOf ms m by omega)
        omega
    · exact Ev.asI (Ev.at_ (S8.v (by rfl)) (Heap.PlainList.isList S8.at2) (Ev.asI (S8.v (by rfl))) hht (by omega))
    obtain ⟨tk, rfl⟩ := hv
    have ekk : (((headOf ms m + k + 1 : Nat) : Int) - 1 - (headOf ms m : Nat)) = (k : Int) := by omega
    rw [ekk] at S10
    refine wpAny_execs_cons (wpAny_If ((Ev.tNe (i := k) (j := k) (Ev.asI (S10.v (by rfl))) (tup1 S10 (by rfl) (by rfl))).go fun c s11 k11 hc11 => ?_))
    cases (hc11 : c = _)
    rw [if_neg (by simp)]
    refine wpAny_execs_nil ?_
    have S11 := S10.kps k11
    refine wpAny_execs_cons (S11.assign Ev.kI fun v s12 s13 k12 hv sb S13 => ?_)
    obtain ⟨t0, rfl⟩ := hv
    -- need
    obtain ⟨nd, hnd⟩ : ∃ nd : Nat, nd ≤ l.length + 1 ∧ (∀ j, j < nd → ln l j < q) ∧ (∀ j, nd ≤ j → j ≤ l.length → q ≤ ln l j) ∧ ((q = 0 ∧ nd = 0) ∨ (0 < q ∧ ∃ ta' t1' t2' k', oits[p - 1]? = some (.ref ta') ∧ IsTup s.heap ta' #[.int (m : Nat) t1', .int (k' : Nat) t2'] ∧ nd = k' + 1)) := by
      by_cases hq00 : q = 0
      · exact ⟨0, by omega, fun j hj => by omega, fun j _ _ => by omega, .inl ⟨hq00, rfl⟩⟩
      · obtain ⟨ta', t1', t2', m', k', ho', htup', hwho'⟩ := how (p - 1) (by omega)
        have := hwho.prev (by omega) hwho'
        subst this
        obtain ⟨a1, a2, a3, a4, a5⟩ := hwho'.mail hlm
        have e1 : p - 1 - startOf ms m' = q - 1 := by omega
        rw [e1] at a2 a4 a5
        refine ⟨k' + 1, by omega, fun j hj => ?_, fun j hj hj2 => ?_, .inr ⟨by omega, ta', t1', t2', k', ho', htup', rfl⟩⟩
        · have := ln_mono l (show j ≤ k' by omega); omega
        · have h1 := a5 (by omega)
          have := ln_mono l (show k' + 1 ≤ j by omega); omega
    obtain ⟨n1, n2, n3, n4⟩ := hnd
    refine wpAny_execs_cons (wpAny_mono (Q := fun fl s' => fl = .next ∧ ∃ u, St s [] L [("need", .int nd u), ("m", .int m tm), ("p", .int p t), ("lengths", .ref la), ("heads", .ref ha), ("starts", .ref sa), ("owners", .ref oa)] [e, eL la lits, eL ha hits, eC (L + 1) (some (.ref ma))] s') ?_ (fun fl s14 h14 => ?_) fun _ _ x => x)
    · refine wpAny_If ((Ev.tGt (i := p) (j := (startOf ms m : Nat)) (Ev.asI (S13.v (by rfl))) (Ev.asI (Ev.at_ (S13.v (by rfl)) (hsal.at fun o e => S13.out.heap _ o e) (Ev.asI (S13.v (by rfl))) hst (by omega)))).go fun c s14 k14 hc14 => ?_)
      cases (hc14 : c = _)
      have S14 := S13.kps k14
      rcases n4 with ⟨hq00, rfl⟩ | ⟨hq00, ta', t1', t2', k', ho', htup', rfl⟩
      · rw [if_neg (by simp; omega)]
        exact wpAny_execs_nil ⟨rfl, t0, S14.renam fun m a => .cons (a.get rfl) (.cons (a.get rfl) (.cons (a.get rfl) (.cons (a.get rfl) (.cons (a.get rfl) (.cons (a.get rfl) (.cons (a.get rfl) .nil))))))⟩
      · rw [if_pos (by simp; omega)]
        refine wpAny_execs_cons (S14.assign (R := rI ((k' : Int) + 1)) (Ev.add (Ev.asI (Ev.tat (k := 1) (Ev.at_ (k := p - 1) (S14.v (by rfl)) (hol.at fun o e => S14.out.heap _ o e) ?_ ho' (by omega)) (htup'.keeps S14.out.heap) Ev.kI (by rfl) (by omega))) Ev.kI) fun v s15 s16 k15 hv sb S16 => wpAny_execs_nil ?_)
        · have e1 : ((p - 1 : Nat) : Int) = (p : Int) - 1 := by omega
          rw [e1]
          exact Ev.sub (Ev.asI (S14.v (by rfl))) Ev.kI
        · obtain ⟨u, rfl⟩ := hv
          have e1 : (k' : Int) + 1 = ((k' + 1 : Nat) : Int) := by omega
          rw [e1] at S16
          exact ⟨rfl, u, S16.renam fun m a => .cons (a.get rfl) (.cons (a.get rfl) (.cons (a.get rfl) (.cons (a.get rfl) (.cons (a.get rfl) (.cons (a.get rfl) (.cons (a.get rfl) .nil))))))⟩
    obtain ⟨rfl, u, S14⟩ := h14
    dsimp only
    refine wpAny_execs_cons (wpAny_If ((Ev.tNe (i := ((headOf ms m + nd : Nat) : Int) - (headOf ms m : Nat)) (j := nd) (Ev.sub (Ev.callF (Rs := [rV (.ref la), rI q, rI (headOf ms m), rI (headOf ms (m + 1))]) (Ev.glob (Gs S14).wd ((Gs S14).mgl "bisect_left" (some (.ref 66)) (by kernel_rfl))) ((Gs S14).at 66 (by kernel_rfl)) (fd := kf 66) (by kernel_rfl) ?_ ?_) ?_) (Ev.asI (S14.v (by rfl)))).go fun c s15 k15 hc15 => ?_))
    · exact args4 S14 S14.at2 (by rfl) (by rfl) (by rfl) (by rfl) (by rfl)
    · intro vs s15 k15 hvs
      obtain ⟨x1, _, rfl, rfl, x2, _, rfl, ⟨u2, rfl⟩, x3, _, rfl, ⟨u3, rfl⟩, x4, _, rfl, ⟨u4, rfl⟩, rfl⟩ := hvs
      refine bisectL_ev (n := 4) (lo := headOf ms m) (hi := headOf ms (m + 1)) (r := headOf ms m + nd) (f := fun i => ((lensAll ms).getD i 0 : Nat)) (items := lits) (vhi := .int (headOf ms (m + 1) : Nat) u4) (vk := .none) (x := (q : Int)) (tx := u2) (tlo := u3) (args := ⟨[.ref la, .int q u2, .int (headOf ms m : Nat) u3, .int (headOf ms (m + 1) : Nat) u4], []⟩) ((Gs S14).keeps k15.heap) hA' (fun s' G' => bindL4' G' _ _ _ _) (Heap.PlainList.isList (S14.at1.at fun o e => k15.heap _ o e)) (by omega) (by omega) (.inr ⟨u4, rfl⟩) (.inl ⟨rfl, fprobe⟩) (by omega) (by omega) (fun i hi hi2 => ?_) (fun i hi hi2 => ?_)
      · have := lget (i - headOf ms m) (by omega)
        rw [show headOf ms m + (i - headOf ms m) = i by omega] at this
        rw [this]
        have := n2 (i - headOf ms m) (by omega)
        omega
      · have := lget (i - headOf ms m) (by omega)
        rw [show headOf ms m + (i - headOf ms m) = i by omega] at this
        rw [this]
        have := n3 (i - headOf ms m) (by omega) (by omega)
        omega
    · exact Ev.asI (Ev.at_ (S14.v (by rfl)) (Heap.PlainList.isList S14.at2) (Ev.asI (S14.v (by rfl))) hht (by omega))
    cases (hc15 : c = _)
    rw [if_neg (by simp; omega)]
    exact wpAny_execs_nil (wpAny_execs_nil (hq _ _ s15 ⟨rfl, rfl⟩ ((S14.kps k15).renam fun m a => .cons (a.get rfl) (.cons (a.get rfl) (.cons (a.get rfl) (.cons (a.get rfl) .nil))))))
  · rintro vals ents s4 ⟨rfl, rfl⟩ S4
    refine wpAny_execs_cons (wpAny_Return_some (Ev.kB.go fun v s5 k5 hv => ?_))
    cases (hv : v = _)
    exact ⟨_, rfl, hQ _ _ (S4.kps k5).out rfl⟩
end
end Mine

end

/- H02 -/
section
open PySem PySem.Calls PyProof.Rows PySem.W
namespace Mine
set_option maxRecDepth 100000
set_option linter.unusedVariables false

/-- each def of the laid heap has its code object there -/
def codesOk (K : Frag) : Bool := K.all fun p => match p.2.data with
  | .func fd => (match fd.code with
    | .ref c => (match K.lookup c with
      | some o => (match o.data with
        | .fields vs => (match (vs : Array Value)[1]? with
          | some (Value.str q _) => q == fd.qualname
          | _ => false)
        | _ => false)
      | none => false)
    | _ => false)
  | _ => true

theorem codesOk.spec {K : Frag} (h : codesOk K = true) {H : Heap} (X : K.In H) {a : Addr} {o : Obj} {fd : FuncData} (hl : K.lookup a = some o) (hd : o.data = .func fd) : H.CodeRec fd.code fd.qualname := by
  have hm : (a, o) ∈ K := by
    clear h X
    induction K with
    | nil => simp at hl
    | cons p r ih =>
      rw [List.lookup_cons] at hl
      cases hp : a == p.1 with
      | true => rw [hp] at hl; cases hl; rw [eq_of_beq hp]; exact .head _
      | false => rw [hp] at hl; exact .tail _ (ih hl)
  have := List.all_eq_true.mp h _ hm
  simp only [hd] at this
  split at this
  · rename_i c hc
    split at this
    · rename_i o' ho'
      split at this
      · rename_i vs hvs
        split at this
        · rename_i q t hq
          refine ⟨c, o', vs, t, hc, X _ _ ho', hvs, ?_⟩
          rw [hq, eq_of_beq this]
        · cases this
      · cases this
    · cases this
  · cases this

theorem gd_of {w : World} {p : Program} {loose : List Str} {mean : ExcName → Option Value} {mg mb : Str → Option Value} {h : Heap} (T : Top p loose mean mg mb h) (X : (hd.heap_39 w.params).In h) : Gd w mg mb h where
  wd := ⟨T.g, T.b, T.nolimit⟩
  fn := fun a fd e => ⟨⟨_, X _ _ e, rfl⟩, codesOk.spec (by kernel_rfl) X e rfl⟩
  k := X
  mgl := fun x v e => by
    cases v with
    | none => exact ns_none_of X T.g e
    | some v => exact mg_of X T.g e
  mbl := fun x v e hx => by rw [T.builtins x hx]; exact e
  bm := by
    obtain ⟨bm, ob, e1, _, e2, r⟩ := T.bmain
    have : mg "__builtins__" = some (.ref 4) := mg_of X T.g (by kernel_rfl)
    rw [this] at e1
    cases e1
    exact ⟨ob, e2, r⟩
end Mine

end

/- Lc4 -/
section
open PySem PySem.Calls PyProof.Rows
namespace Mine
set_option maxRecDepth 100000
set_option linter.unusedVariables false

section
variable {prog : Program} {w : World} {A : Around} {b : Shared} {env : Env}

/-- the outcome of a comprehension, its things apart -/
abbrev rCompE (b : Shared) (J : Array Value → List Ent → Prop) (v : Value) (h : Heap) : Prop := ∃ D ys l, v = .ref D ∧ b.heap.get? D = none ∧ h.PlainList D ys ∧ J ys l ∧ (∀ e ∈ l, e.P h) ∧ (∀ e ∈ l, ∀ a ∈ e.fp, b.heap.get? a = none ∧ a ≠ D) ∧ (eL D ys :: l).Pairwise (fun e e' => ∀ a ∈ e.fp, a ∉ e'.fp)

theorem Ev.compE {elt iter : Expr} {x : Str} {px : Pos} {ifs : List Expr} {scope : Scope} {cl : List (Str × Addr)} {pos : Pos} {n : Nat} {P : Nat → Value → Prop} {R : Value → Heap → Prop} (J : Nat → Array Value → List Ent → Prop)
    (hit : Ev (model prog w) A b (eval iter env) R) (hR : ∀ v s, Kps b s → R v s.heap → Its prog w A s n P v) (turn : Turn prog w A b env scope cl x ifs elt n P J) (h0 : J 0 #[] [])
    (hclos : closureFor scope env = pure cl := by rfl) (hsc : okComp scope x = true := by rfl) (hs : ∀ x, foldedSetIterable iter env x = pure x := by intro _; rfl) :
    Ev (model prog w) A b (eval (.ListComp elt [⟨.Name x px, iter, ifs, 0⟩] scope pos) env) (rCompE b (J n)) := fun s ks Q E hQ => by
  rw [eval_ListComp]
  obtain ⟨hcell, hkind, hnames, hx⟩ := okComp.spec hsc
  refine wpAny_comprehension_free (use := none) rfl hs hclos hkind hnames (hit s ks _ _ fun v s₁ k₁ hv => hR v s₁ (ks.trans k₁) hv s₁ (Kps.refl _) _ _ fun ia e Cc s₂ I hself k₂ hn he hCc => ?_)
  have kb : Kps b s₂ := (ks.trans k₁).trans k₂
  have up : ∀ {a : Addr} {s' s'' : Shared}, Kps s' s'' → s''.heap.get? a = none → s'.heap.get? a = none := fun {a s' s''} k h => by
    cases q : s'.heap.get? a with
    | none => rfl
    | some o => rw [k.heap _ _ q] at h; cases h
  refine comp_block (s₀ := s₁) (X := []) (RR := fun acc C => compPost (model prog w) A E none Q acc C) (l := []) J I hself hsc he (fun h k => hCc h fun b o q => k b o (by simp) q) k₂ hn (by simp) (by simp) (by simp) .nil (by simp) ?_ h0 ?_
  · refine turn_wp fun C D i ys l e' s' v hi hJ hv S => turn C D i ys l e' s' v hi hJ hv { S with same := ?_, keep := fun a o h q => S.keep a o h ((ks.trans k₁).heap a o q), Lnew := up (ks.trans k₁) S.Lnew, new := fun y hy a ha => .inr (up (ks.trans k₁) ((S.new y hy a ha).resolve_left (by simp))) }
    obtain ⟨h, tk, q⟩ := S.same; obtain ⟨h2, tk2, q2⟩ := (ks.trans k₁).same; exact ⟨h, tk, by rw [q, q2]⟩
  · intro C D ys l s' hJ S nC nD
    obtain ⟨m, hm, _⟩ := S.ns
    refine ⟨m, hm, fun h' hs' => ?_⟩
    have kk : Kps s₁ { s' with heap := h' } := by
      refine ⟨?_, fun a o q => hs'.extBut a o (fun p => ?_) (S.keep a o (by simp) q)⟩
      · obtain ⟨h, tk, q⟩ := S.same; exact ⟨h', tk, by rw [q]⟩
      · subst p; rw [up k₂ nC] at q; cases q
    refine hQ _ _ (k₁.trans kk) ⟨D, ys, l, rfl, up kb nD, ?_, hJ, ?_, ?_, S.nd⟩
    · exact (eL D ys).loc (fun a ha o q => hs'.extBut a o (fun p => S.ndL _ (.head _) (p ▸ ha)) q) S.at0
    · intro y hy
      exact y.loc (fun a ha o q => hs'.extBut a o (fun p => S.ndL y (.tail _ hy) (p ▸ ha)) q) (S.own y (.tail _ hy))
    · intro y hy a ha
      refine ⟨up (ks.trans k₁) ((S.new y (.tail _ hy) a ha).resolve_left (by simp)), fun p => ?_⟩
      subst p
      exact (List.pairwise_cons.mp S.nd).1 y hy a (by simp [eL]) ha
end

section
variable {s₀ s : Shared} {X : List Addr} {L : Addr} {vals : List (Str × Value)} {l : List Ent}
/-- many new things -/
theorem St.adds (S : St s₀ X L vals l s) {s' : Shared} (k : Kps s s') : ∀ es : List Ent, (∀ e ∈ es, e.P s'.heap) → es.Pairwise (fun e e' => ∀ a ∈ e.fp, a ∉ e'.fp) → (∀ e ∈ es, ∀ a ∈ e.fp, s.heap.get? a = none) → St s₀ X L vals (es ++ l) s' := by
  intro es
  induction es with
  | nil => intro _ _ _; exact S.kps k
  | cons e es ih =>
    intro h1 h2 h3
    have T := ih (fun y hy => h1 y (.tail _ hy)) (List.pairwise_cons.mp h2).2 fun y hy => h3 y (.tail _ hy)
    refine { T with own := ?_, nd := ?_, ndL := ?_, new := ?_ }
    · intro y hy
      rcases List.mem_cons.mp hy with rfl | hy
      · exact h1 _ (.head _)
      · exact T.own y hy
    · refine List.pairwise_cons.mpr ⟨fun y hy a ha ha' => ?_, T.nd⟩
      rcases List.mem_append.mp hy with hy | hy
      · exact (List.pairwise_cons.mp h2).1 y hy a ha ha'
      · obtain ⟨o, q⟩ := y.has (S.own y hy) a ha'
        rw [h3 e (.head _) a ha] at q; cases q
    · intro y hy
      rcases List.mem_cons.mp hy with rfl | hy
      · intro h
        obtain ⟨m, ⟨o, _, _, q, _⟩, _⟩ := S.ns
        rw [h3 y (.head _) L h] at q; cases q
      · exact T.ndL y hy
    · intro y hy a ha
      rcases List.mem_cons.mp hy with rfl | hy
      · by_cases hX : a ∈ X
        · exact .inl hX
        · right
          cases q : s₀.heap.get? a with
          | none => rfl
          | some o => have := S.keep a o hX q; rw [h3 y (.head _) a ha] at this; cases this
      · exact T.new y hy a ha
end
end Mine

end

/- E09 -/
section
open PySem PySem.Calls PyProof.Rows PySem.W
namespace Mine
set_option maxRecDepth 100000
set_option linter.unusedVariables false

theorem strsAre_append {vs ws : List Value} {xs ys : List Str} (h : StrsAre vs xs) (h' : StrsAre ws ys) : StrsAre (vs ++ ws) (xs ++ ys) := by
  induction h with
  | nil => exact h'
  | cons y t r ih => exact .cons y t ih

section
variable {w : World} {A : Around} {b : Shared} {mg mb : Str → Option Value}

/-- the mails that the script gives: the comprehension -/
theorem mails_ev {L fa sa : Addr} {cd : Value} {vs : List Value} {ns : List Int} {s₀ s : Shared} {X : List Addr} {vals ents} {p1 p2 p3 p4 p5 p6 p7 p8 p9 p10 : Pos} {sc : Scope} (G : Gd w mg mb s.heap) (hA : Rm A 2) (S : St s₀ X L vals ents s) (hv : vals.lookup ("script" : Str) = some (.ref sa)) (hs : s.heap.IsList sa vs.toArray) (hi : IntsAre vs ns) (hlen : ns.length ≤ 63)
    (hsc : sc = { kind := .function, names := [(".0", .local), ("number", .local), ("_law_mail", .globalImplicit)], isGenerator := false, isCoroutine := false, more := [] }) :
    Ev (model prg w) A s (eval (.ListComp (.Call (.Name "_law_mail" p1) [.Name "number" p2] [] p3) [⟨.Name "number" p4, .Subscript (.Name "script" p5) (.Slice none (some (.Constant (.int 4) 0 p6)) none p7) p8, [], 0⟩] sc p9) (envOfC "law" (kf 95).scope L fa cd)) (rPlain fun x => ∃ ms1 : List (List Nat), StrsAre x.toList (ms1.map T) ∧ ms1.length ≤ 4 ∧ ∀ l ∈ ms1, l.length ≤ 300) := by
  subst hsc
  have hvl := hi.length
  refine Ev.weak (Ev.comp (n := (vs.take 4).toArray.size) (P := fun k v => (vs.take 4).toArray[k]? = some v) (R := rNew s fun its => its = (vs.take 4).toArray) (cl := []) (fun k ys _ => ∃ ms1 : List (List Nat), StrsAre ys.toList (ms1.map T) ∧ ms1.length = k ∧ ∀ l ∈ ms1, l.length ≤ 300) ?_ ?_ ?_ ⟨[], .nil, rfl, by simp⟩) ?_
  · refine Ev.weak (Ev.sliceL (P := fun its => its = vs.toArray) (lo := none) (hi := some (4 : Int)) (fun s2 k2 Q E hQ => (S.v hv) s2 k2 _ _ fun v s3 k3 hv => hQ v s3 k3 ⟨sa, vs.toArray, hv, hs.at fun o e => (k2.trans k3).heap _ o e, rfl⟩) (fun its h => by rw [h]; simp; omega) Ev.pN (Ev.pI Ev.kI)) ?_
    rintro v h ⟨a, its, rfl, hn, hp, src, rfl, rfl⟩
    exact ⟨a, _, rfl, hn, hp, (by have := slicePick_upto' vs.toArray 4; simpa using this)⟩
  · rintro v s1 k1 ⟨a, its, rfl, _, hp, rfl⟩
    exact Its.list hA.hd hp.isList
  · intro C D k ys ents' e' s1 v hk hJ hv' S1
    obtain ⟨ms1, hst, hml, hmb⟩ := hJ
    have hk4 : k < (vs.take 4).length := by simpa using hk
    obtain ⟨q, hq⟩ : ∃ q, (ns.take 4)[k]? = some q := ⟨_, List.getElem?_eq_getElem (by rw [List.length_take] at hk4 ⊢; omega)⟩
    obtain ⟨t, ht⟩ := intsAre_get (intsAre_take hi 4) hq
    rw [List.getElem?_toArray, ht] at hv'
    cases hv'
    have G1 := G.keeps S1.out.heap
    have hys : ys.size ≤ k := by have := strsAre_length hst; simp at this; omega
    have hk5 : k < 4 := by rw [List.length_take] at hk4; omega
    refine ⟨true, Ev.tst0, fun _ => ⟨by omega, ?_⟩, fun h => by cases h⟩
    refine (Ev.callF (Rs := [rI q]) (Ev.glob G1.wd (G1.mgl "_law_mail" (some (.ref 73)) (by kernel_rfl))) (G1.at 73 (by kernel_rfl)) (fd := kf 73) (by kernel_rfl) ?_ (R := rMail 300) ?_).weak fun v h hv => ?_
    · exact Ev.s1 (Ev.asI (S1.v (by rfl))) monoI
    · intro vs' s3 k3 hvs
      obtain ⟨x1, _, rfl, q1, rfl⟩ := hvs
      exact mail_ev (G1.keeps k3.heap) (hA.less (by omega)) q1
    · obtain ⟨l, u, hl, rfl⟩ := hv
      refine ⟨eU, ⟨ms1 ++ [l], ?_, by simp [hml], ?_⟩, trivial, by simp [eU]⟩
      · rw [Array.toList_push, List.map_append]
        exact strsAre_snoc hst _ _
      · intro x hx
        rcases List.mem_append.mp hx with h | h
        · exact hmb x h
        · simp at h; subst h; exact hl
  · intro v h hv
    obtain ⟨a, its, rfl, hn, hp, ms1, q1, q2, q3⟩ := comp_list hv fun ys _ hJ => hJ
    exact ⟨a, its, rfl, hp, ms1, q1, by rw [q2]; simp; omega, q3⟩
end
end Mine

end

/- E10 -/
section
open PySem PySem.Calls PyProof.Rows PySem.W
namespace Mine
set_option maxRecDepth 100000
set_option linter.unusedVariables false

section
variable {w : World} {A : Around} {b : Shared} {mg mb : Str → Option Value}

theorem mail_at {ms : List (List Nat)} {mits : Array Value} (hms : StrsAre mits.toList (ms.map T)) {k : Nat} {v : Value} (hv : mits[k]? = some v) : ∃ l t, ms[k]? = some l ∧ v = .str (T l) t := by
  have hmsz : mits.size = ms.length := by have := strsAre_length hms; simpa using this
  have hk : k < mits.size := (Array.getElem?_eq_some_iff.mp hv).1
  have hg := List.getElem?_eq_getElem (show k < ms.length by omega)
  obtain ⟨t, e⟩ := strsAre_get hms (k := k) (n := T ms[k]) (by rw [List.getElem?_map, hg]; rfl)
  refine ⟨_, t, hg, ?_⟩
  have : mits.toList[k]? = some v := by simpa using hv
  rw [e] at this; cases this; rfl

/-- what is sent of each mail: the comprehension -/
theorem parts_ev {L fa ma : Addr} {cd : Value} {ms : List (List Nat)} {mits : Array Value} {s₀ s : Shared} {X : List Addr} {vals ents} {p1 p2 p3 p4 p5 p6 : Pos} {sc : Scope} (G : Gd w mg mb s.heap) (hA : Rm A 6) (S : St s₀ X L vals ents s) (hv : vals.lookup ("mails" : Str) = some (.ref ma)) (hml : s.heap.IsList ma mits) (hms : StrsAre mits.toList (ms.map T)) (hM : ms.length ≤ 100) (hl : ∀ l ∈ ms, l.length ≤ 1000)
    (hsc : sc = { kind := .function, names := [(".0", .local), ("mail", .local), ("_law_part", .globalImplicit)], isGenerator := false, isCoroutine := false, more := [] }) :
    Ev (model prg w) A s (eval (.ListComp (.Call (.Name "_law_part" p1) [.Name "mail" p2] [] p3) [⟨.Name "mail" p4, .Name "mails" p5, [], 0⟩] sc p6) (envOfC "law" (kf 95).scope L fa cd)) (rList fun its => StrsAre its.toList (ms.map fun l => T (out l))) := by
  subst hsc
  have hmsz : mits.size = ms.length := by have := strsAre_length hms; simpa using this
  refine Ev.weak (Ev.comp (n := mits.size) (P := fun k v => mits[k]? = some v) (R := rV (.ref ma)) (cl := []) (fun k ys _ => StrsAre ys.toList ((ms.take k).map fun l => T (out l))) (S.v hv) ?_ ?_ .nil) ?_
  · rintro v s1 k1 hv
    cases (hv : v = _)
    exact Its.list hA.hd (hml.at fun o e => k1.heap _ o e)
  · intro C D k ys ents' e' s1 v hk hJ hv' S1
    obtain ⟨l, t, hlk, rfl⟩ := mail_at hms hv'
    have G1 := G.keeps S1.out.heap
    have hys : ys.size ≤ k := by have := strsAre_length hJ; simp at this; omega
    refine ⟨true, Ev.tst0, fun _ => ⟨by omega, ?_⟩, fun h => by cases h⟩
    refine (Ev.callF (Rs := [rS (T l)]) (Ev.glob G1.wd (G1.mgl "_law_part" (some (.ref 80)) (by kernel_rfl))) (G1.at 80 (by kernel_rfl)) (fd := kf 80) (by kernel_rfl) ?_ (R := rS (T (out l))) ?_).weak fun v h hv => ?_
    · exact Ev.s1 (Ev.asS (S1.v (by rfl))) monoS
    · intro vs' s3 k3 hvs
      obtain ⟨x1, _, rfl, q1, rfl⟩ := hvs
      exact part_ev (G1.keeps k3.heap) (hA.less (by omega)) (hl l (List.mem_of_getElem? hlk)) q1
    · obtain ⟨u, rfl⟩ := hv
      refine ⟨eU, ?_, trivial, by simp [eU]⟩
      show StrsAre _ ((ms.take (k + 1)).map _)
      rw [List.take_add_one, hlk, List.map_append, Array.toList_push]
      exact strsAre_snoc hJ _ _
  · intro v h hv
    refine new_list (comp_list hv fun ys _ hJ => ?_)
    rw [hmsz, List.take_of_length_le (Nat.le_refl _)] at hJ
    exact hJ
end
end Mine

end

/- Ls3g -/
section
open PySem PySem.Calls PyProof.Rows PySem.W
namespace Mine
set_option maxRecDepth 100000
set_option linter.unusedVariables false

section
variable {s₀ s : Shared} {X : List Addr} {L : Addr} {vals : List (Str × Value)} {l : List Ent}

/-- one thing changes and grows, another comes -/
theorem St.moved (S : St s₀ X L vals l s) {pre post : List Ent} {e e' : Ent} (hl : l = pre ++ e :: post) {s' : Shared} (hsame : ∃ h tk, s' = { s with heap := h, toks := tk }) (hs : ∀ b o, b ∉ e.fp → s.heap.get? b = some o → s'.heap.get? b = some o)
    (hfp : ∀ a ∈ e'.fp, a ∈ e.fp ∨ s.heap.get? a = none) (hP : e'.P s'.heap) (y : Ent) (hy : y.P s'.heap) (hyn : ∀ a ∈ y.fp, s.heap.get? a = none ∧ a ∉ e'.fp) : St s₀ X L vals (y :: (pre ++ e' :: post)) s' := by
  have T := S.updG hl hsame hs hfp hP
  refine { T with own := ?_, nd := ?_, ndL := ?_, new := ?_ }
  · intro z hz
    rcases List.mem_cons.mp hz with rfl | hz
    · exact hy
    · exact T.own z hz
  · refine List.pairwise_cons.mpr ⟨fun z hz a ha ha' => ?_, T.nd⟩
    have : z = e' ∨ z ∈ l := by
      rw [hl]
      rcases List.mem_append.mp hz with h | h
      · exact .inr (List.mem_append_left _ h)
      · rcases List.mem_cons.mp h with h | h
        · exact .inl h
        · exact .inr (List.mem_append_right _ (.tail _ h))
    rcases this with rfl | hz
    · exact (hyn a ha).2 ha'
    · obtain ⟨o, q⟩ := z.has (S.own z hz) a ha'
      rw [(hyn a ha).1] at q; cases q
  · intro z hz
    rcases List.mem_cons.mp hz with rfl | hz
    · intro h
      obtain ⟨m, ⟨o, _, _, q, _⟩, _⟩ := S.ns
      rw [(hyn L h).1] at q; cases q
    · exact T.ndL z hz
  · intro z hz a ha
    rcases List.mem_cons.mp hz with rfl | hz
    · by_cases hX : a ∈ X
      · exact .inl hX
      · right
        cases q : s₀.heap.get? a with
        | none => rfl
        | some o => have := S.keep a o hX q; rw [(hyn a ha).1] at this; cases this
    · exact T.new z hz a ha
end

section
variable {M : Model} {A : Around} {s : Shared} {env : Env} {E : Value → Shared → Prop}
/-- a def of the text, called by its name, that may change what stands -/
theorem callF_wp {f : Str} {p pos : Pos} {e1 : Expr} {es : List Expr} {fa : Addr} {o : Obj} {fd : FuncData} {Rs : List (Value → Heap → Prop)} {Q : Value → Shared → Prop}
    (hf : Ev M A s (eval (.Name f p) env) (rV (.ref fa))) (ho : s.heap.get? fa = some o) (hd : o.data = .func fd)
    (ha : Ev M A s (spliced ((false, eval e1 env) :: evs es env)) (ListR Rs)) (hc : ∀ vs s', Kps s s' → ListR Rs vs s'.heap → wpAny M A (call (.ref fa) vs []) Q E s')
    (hs : backTo pos (starEach (e1 :: es) env) = (false, eval e1 env) :: evs es env := by rfl) : wpAny M A (eval (.Call (.Name f p) (e1 :: es) [] pos) env) Q E s := by
  refine wpAny_Call_Name_kw (hf.go fun v s1 k1 r1 => ?_)
  cases (r1 : v = .ref fa)
  rw [hs]
  show wpAny M A (callWith pos (.ref fa) [] ((false, eval e1 env) :: evs es env) []) Q E s1
  exact callWith_function (o := o) (fd := fd) (evalArgs_plain (ha s1 k1 _ _ fun vs s2 k2 r2 => ⟨⟨(k1.trans k2).heap _ _ ho, hd⟩, hc vs s2 (k1.trans k2) r2⟩))
end

theorem tab_no_list {P : Addr} {ln cl : Nat} {q : Str} {oc : Option Addr} {h : Heap} {a : Addr} {items : Array Value} (h1 : (eTab P ln cl q oc).P h) (h2 : h.PlainList a items) : a ∉ (eTab P ln cl q oc).fp := by
  intro ha
  obtain ⟨n, e⟩ := h2
  cases oc with
  | none =>
    simp [eTab] at ha
    subst ha
    have h1 : h.get? a = some (tabObj #[]) := h1
    rw [e] at h1; simp [tabObj] at h1
  | some c =>
    obtain ⟨h3, c₂, o, vs, t, e2, g, r, _⟩ := h1
    cases e2
    simp [eTab] at ha
    rcases ha with rfl | rfl
    · rw [e] at h3; simp [tabObj] at h3
    · rw [e] at g; cases g; simp at r

/-- two things as one -/
def eP (x y : Ent) : Ent where
  fp := x.fp ++ y.fp
  P := fun h => x.P h ∧ y.P h ∧ ∀ a ∈ x.fp, a ∉ y.fp
  loc := fun k ⟨h1, h2, h3⟩ => ⟨x.loc (fun a ha o q => k a (List.mem_append_left _ ha) o q) h1, y.loc (fun a ha o q => k a (List.mem_append_right _ ha) o q) h2, h3⟩
  has := fun ⟨h1, h2, _⟩ a ha => (List.mem_append.mp ha).elim (fun h => x.has h1 a h) fun h => y.has h2 a h

theorem intsAre_of_get {vs : List Value} {f : Nat → Int} : ∀ {n : Nat}, vs.length = n → (∀ k, k < n → ∃ t, vs[k]? = some (.int (f k) t)) → IntsAre vs ((List.range n).map f) := by
  intro n hn h
  subst hn
  induction vs generalizing f with
  | nil => exact .nil
  | cons v r ih =>
    obtain ⟨t, e⟩ := h 0 (by simp)
    simp at e; subst e
    rw [List.length_cons, List.range_succ_eq_map, List.map_cons, List.map_map]
    exact .cons _ t (ih (f := fun k => f (k + 1)) fun k hk => by simpa using h (k + 1) (by simp; omega))

theorem filter_between {a b : Nat} : ∀ {n : Nat}, b < n → a ≤ b + 1 → (List.range n).filter (fun p => decide (a ≤ p ∧ p ≤ b)) = (List.range (b + 1 - a)).map (fun k => a + k) := by
  intro n hb ha
  have e1 : List.range n = List.range' 0 a ++ (List.range' a (b + 1 - a) ++ List.range' (b + 1) (n - (b + 1))) := by
    rw [List.range_eq_range']
    have h1 : n = a + ((b + 1 - a) + (n - (b + 1))) := by omega
    conv => lhs; rw [h1]
    rw [← List.range'_append_1 (m := a), ← List.range'_append_1]
    simp [show a + (b + 1 - a) = b + 1 by omega]
  rw [e1, List.filter_append, List.filter_append]
  have f1 : (List.range' 0 a).filter (fun p => decide (a ≤ p ∧ p ≤ b)) = [] := by
    rw [List.filter_eq_nil_iff]; intro x hx; rw [List.mem_range'_1] at hx; simp; omega
  have f2 : (List.range' (b + 1) (n - (b + 1))).filter (fun p => decide (a ≤ p ∧ p ≤ b)) = [] := by
    rw [List.filter_eq_nil_iff]; intro x hx; rw [List.mem_range'_1] at hx; simp; omega
  have f3 : (List.range' a (b + 1 - a)).filter (fun p => decide (a ≤ p ∧ p ≤ b)) = List.range' a (b + 1 - a) := by
    rw [List.filter_eq_self]; intro x hx; rw [List.mem_range'_1] at hx; simp; omega
  rw [f1, f2, f3, List.range'_eq_map_range]
  simp
end Mine

end

/- E11 -/
section
open PySem PySem.Calls PyProof.Rows PySem.W
namespace Mine
set_option maxRecDepth 100000
set_option linter.unusedVariables false

/-- the walks' things -/
def WalkJ (ms : List (List Nat)) (k : Nat) (ys : Array Value) (l' : List Ent) : Prop := ys.size = k ∧ ∀ m, m < k → ∃ l ta oa t its, ms[m]? = some l ∧ ys[m]? = some (.ref ta) ∧ eP (eT ta #[.str (T (out l)) t, .ref oa]) (eL oa its) ∈ l' ∧ IntsAre its.toList (natsI (own l))

section
variable {w : World} {A : Around} {b : Shared} {mg mb : Str → Option Value}

/-- the walk of each mail: the comprehension -/
theorem walks_ev {L fa ma : Addr} {cd : Value} {ms : List (List Nat)} {mits : Array Value} {s₀ s : Shared} {X : List Addr} {vals ents} {p1 p2 p3 p4 p5 p6 : Pos} {sc : Scope} (G : Gd w mg mb s.heap) (hA : Rm A 6) (S : St s₀ X L vals ents s) (hv : vals.lookup ("mails" : Str) = some (.ref ma)) (hml : s.heap.IsList ma mits) (hms : StrsAre mits.toList (ms.map T)) (hM : ms.length ≤ 100) (hl : ∀ l ∈ ms, l.length ≤ 1000)
    (hsc : sc = { kind := .function, names := [(".0", .local), ("mail", .local), ("_law_walk", .globalImplicit)], isGenerator := false, isCoroutine := false, more := [] }) :
    Ev (model prg w) A s (eval (.ListComp (.Call (.Name "_law_walk" p1) [.Name "mail" p2] [] p3) [⟨.Name "mail" p4, .Name "mails" p5, [], 0⟩] sc p6) (envOfC "law" (kf 95).scope L fa cd)) (rCompE s (WalkJ ms ms.length)) := by
  subst hsc
  have hmsz : mits.size = ms.length := by have := strsAre_length hms; simpa using this
  rw [← hmsz]
  refine Ev.compE (n := mits.size) (P := fun k v => mits[k]? = some v) (R := rV (.ref ma)) (cl := []) (WalkJ ms) (S.v hv) ?_ ?_ ⟨rfl, fun m hm => by omega⟩
  · rintro v s1 k1 hv
    cases (hv : v = _)
    exact Its.list hA.hd (hml.at fun o e => k1.heap _ o e)
  · intro C D k ys ents' e' s1 v hk hJ hv' S1
    obtain ⟨l, t, hlk, rfl⟩ := mail_at hms hv'
    have G1 := G.keeps S1.out.heap
    refine ⟨true, Ev.tst0, fun _ => ⟨by have := hJ.1; omega, ?_⟩, fun h => by cases h⟩
    refine (Ev.callF (Rs := [rS (T l)]) (Ev.glob G1.wd (G1.mgl "_law_walk" (some (.ref 85)) (by kernel_rfl))) (G1.at 85 (by kernel_rfl)) (fd := kf 85) (by kernel_rfl) ?_ (R := rWalk s1 l) ?_).weak fun v h hv => ?_
    · exact Ev.s1 (Ev.asS (S1.v (by rfl))) monoS
    · intro vs' s3 k3 hvs
      obtain ⟨x1, _, rfl, q1, rfl⟩ := hvs
      refine (walk_ev (G1.keeps k3.heap) (hA.less (by omega)) (hl l (List.mem_of_getElem? hlk)) q1).weak fun v h hv => ?_
      have up : ∀ {a : Addr}, s3.heap.get? a = none → s1.heap.get? a = none := fun {a} h => by
        cases q : s1.heap.get? a with
        | none => rfl
        | some o => rw [k3.heap _ _ q] at h; cases h
      obtain ⟨ta, oa, u, its, rfl, n1, q1, n2, ne, q2, q3⟩ := hv
      exact ⟨ta, oa, u, its, rfl, up n1, q1, up n2, ne, q2, q3⟩
    · obtain ⟨ta, oa, u, its, rfl, n1, q1, n2, ne, q2, q3⟩ := hv
      refine ⟨eP (eT ta #[.str (T (out l)) u, .ref oa]) (eL oa its), ⟨by rw [Array.size_push, hJ.1], fun m hm => ?_⟩, ⟨q1, q2, by simp [eT, eL]; exact ne⟩, ?_⟩
      · by_cases hmk : m < k
        · obtain ⟨l2, ta2, oa2, t2, its2, a1, a2, a3, a4⟩ := hJ.2 m hmk
          refine ⟨l2, ta2, oa2, t2, its2, a1, ?_, .tail _ a3, a4⟩
          rw [Array.getElem?_push, if_neg (by rw [hJ.1]; omega)]; exact a2
        · have : m = k := by omega
          subst this
          refine ⟨l, ta, oa, u, its, hlk, ?_, .head _, q3⟩
          rw [Array.getElem?_push, if_pos hJ.1.symm]
      · intro a ha
        simp [eP, eT, eL] at ha
        rcases ha with rfl | rfl
        · exact n1
        · exact n2
end
end Mine

end

/- E12 -/
section
open PySem PySem.Calls PyProof.Rows PySem.W
namespace Mine
set_option maxRecDepth 100000
set_option linter.unusedVariables false

/-- the walks, as they stand -/
def WalksAt (ms : List (List Nat)) (v : Value) (h : Heap) : Prop := ∃ wa wits, v = .ref wa ∧ h.IsList wa wits ∧ wits.size = ms.length ∧ ∀ m, m < ms.length → ∃ l ta oa t its, ms[m]? = some l ∧ wits[m]? = some (.ref ta) ∧ IsTup h ta #[.str (T (out l)) t, .ref oa] ∧ h.IsList oa its ∧ IntsAre its.toList (natsI (own l))
theorem monoWalks {ms : List (List Nat)} : ∀ v h h', Kp h h' → WalksAt ms v h → WalksAt ms v h' := fun v h h' k ⟨a, i, e, l, z, s⟩ => ⟨a, i, e, l.at fun o e => k _ o e, z, fun m hm => let ⟨l, ta, oa, t, its, q1, q2, q3, q4, q5⟩ := s m hm; ⟨l, ta, oa, t, its, q1, q2, q3.keeps k, q4.at fun o e => k _ o e, q5⟩⟩

section
variable {w : World} {A : Around} {b : Shared} {mg mb : Str → Option Value}

/-- the texts of the walks: the comprehension -/
theorem outs_ev {L fa wa : Addr} {cd : Value} {ms : List (List Nat)} {s : Shared} {p1 p2 p3 p4 p5 p6 : Pos} {sc : Scope} (hh : A.handled = none) (hc : s.heap.IsCell (L + 1) (some (.ref wa))) (hW : WalksAt ms (.ref wa) s.heap) (hM : ms.length ≤ 100)
    (hsc : sc = { kind := .function, names := [(".0", .local), ("walk", .local)], isGenerator := false, isCoroutine := false, more := [] }) :
    Ev (model prg w) A s (eval (.ListComp (.Subscript (.Name "walk" p1) (.Constant (.int 0) 0 p2) p3) [⟨.Name "walk" p4, .Name "walks" p5, [], 0⟩] sc p6) (envOfC "law" (kf 95).scope L fa cd)) (rList fun its => StrsAre its.toList (ms.map fun l => T (out l))) := by
  subst hsc
  obtain ⟨_, wits, e, hwl, hwz, hw⟩ := hW
  cases e
  refine Ev.weak (Ev.comp (n := wits.size) (P := fun k v => wits[k]? = some v) (R := rV (.ref wa)) (cl := []) (fun k ys _ => StrsAre ys.toList ((ms.take k).map fun l => T (out l))) (Ev.cell hc) ?_ ?_ .nil) ?_
  · rintro v s1 k1 hv
    cases (hv : v = _)
    exact Its.list hh (hwl.at fun o e => k1.heap _ o e)
  · intro C D k ys ents' e' s1 v hk hJ hv' S1
    obtain ⟨l, ta, oa, t, its, q1, q2, q3, q4, q5⟩ := hw k (by omega)
    rw [q2] at hv'; cases hv'
    have hys : ys.size ≤ k := by have := strsAre_length hJ; simp at this; omega
    refine ⟨true, Ev.tst0, fun _ => ⟨by omega, ?_⟩, fun h => by cases h⟩
    refine (Ev.tat (k := 0) (x := .str (T (out l)) t) (S1.v (by rfl)) (q3.keeps S1.out.heap) Ev.kI (by rfl) (by omega)).weak fun v h hv => ?_
    cases (hv : v = _)
    refine ⟨eU, ?_, trivial, by simp [eU]⟩
    show StrsAre _ ((ms.take (k + 1)).map _)
    rw [List.take_add_one, q1, List.map_append, Array.toList_push]
    exact strsAre_snoc hJ _ _
  · intro v h hv
    refine new_list (comp_list hv fun ys _ hJ => ?_)
    rw [hwz, List.take_of_length_le (Nat.le_refl _)] at hJ
    exact hJ
end
end Mine

end

/- E13 -/
section
open PySem PySem.Calls PyProof.Rows PySem.W
namespace Mine
set_option maxRecDepth 100000
set_option linter.unusedVariables false

theorem join_texts : ∀ ls : List (List Nat), Str.join (⟨#[]⟩ : Str) (ls.map T) = T ls.flatten
  | [] => rfl
  | [a] => by simp [Str.join]
  | a :: c :: r => by
    have ih := join_texts (c :: r)
    rw [List.map_cons, List.map_cons, List.flatten_cons]
    show (T a ++ (⟨#[]⟩ : Str) ++ Str.join ⟨#[]⟩ ((c :: r).map T)) = _
    rw [ih]
    have e1 : (T a ++ (⟨#[]⟩ : Str)) = T a := by show Str.append _ _ = _; simp [Str.append]
    rw [e1, T_app]
theorem join_stream (ms : List (List Nat)) : Txt.join (⟨#[]⟩ : Str) (ms.map fun l => T (out l)) = T (stream ms) := by
  unfold Txt.join
  rw [StrLaws.glued_eq_join, stream, ← join_texts, List.map_map]
  rfl
theorem out_len {l : List Nat} (h : l.length ≤ 300) : (out l).length ≤ 605 := by
  have := beg_len l 10
  unfold out ending
  rw [List.length_append]
  split <;> simp <;> omega
theorem stream_len {ms : List (List Nat)} (h : ∀ l ∈ ms, l.length ≤ 300) : (stream ms).length ≤ 605 * ms.length := by
  unfold stream
  rw [List.length_flatten, List.map_map]
  induction ms with
  | nil => simp
  | cons a r ih =>
    have h1 := out_len (h a (.head _))
    have h2 := ih fun l hl => h l (.tail _ hl)
    simp at h2 ⊢
    omega
theorem lensAll_le {ms : List (List Nat)} (h : ∀ l ∈ ms, l.length ≤ 300) : (lensAll ms).length ≤ 301 * ms.length := by
  unfold lensAll
  rw [List.length_flatten, List.map_map]
  induction ms with
  | nil => simp
  | cons a r ih =>
    have h1 := h a (.head _)
    have h2 := ih fun l hl => h l (.tail _ hl)
    simp [lens] at h2 ⊢
    omega
end Mine

end

/- E15 -/
section
open PySem PySem.Calls PyProof.Rows PySem.W
namespace Mine
set_option maxRecDepth 100000
set_option linter.unusedVariables false

theorem startOf_sum (ms : List (List Nat)) (k : Nat) : ((ms.take k).map fun l => (out l).length).sum = startOf ms k := by
  unfold startOf
  rw [← List.map_take, List.map_map]
  rfl

/-- the tuples that say who wrote each sign, the first n -/
def OwnJ (ms : List (List Nat)) (n : Nat) (ys : Array Value) (l : List Ent) : Prop := ys.size = n ∧ ∀ p, p < n → ∃ ta t1 t2 m k, ys[p]? = some (.ref ta) ∧ eT ta #[.int (m : Nat) t1, .int (k : Nat) t2] ∈ l ∧ Who ms p m k

section
variable {w : World} {A : Around} {b : Shared} {mg mb : Str → Option Value}

/-- where each mail begins: one turn of the comprehension -/
theorem starts_turn {L fa wa : Addr} {cd : Value} {ms : List (List Nat)} {s : Shared} {p1 p2 p3 p4 p5 p6 p7 p8 p9 p10 p11 p12 p13 : Pos} {sc sc2 : Scope} (G : Gd w mg mb s.heap) (hh : A.handled = none) (hc : s.heap.IsCell (L + 1) (some (.ref wa))) (hW : WalksAt ms (.ref wa) s.heap) (hM : ms.length ≤ 100) (hl : ∀ l ∈ ms, l.length ≤ 300)
    (hsc : sc = { kind := .function, names := [(".0", .local), ("m", .local), ("sum", .globalImplicit), ("walks", .free)], isGenerator := false, isCoroutine := false, more := [] })
    (hsc2 : sc2 = { kind := .function, names := [(".0", .local), ("walk", .local), ("len", .globalImplicit)], isGenerator := false, isCoroutine := false, more := [] }) :
    Turn prg w A s (envOfC "law" (kf 95).scope L fa cd) sc [("walks", L + 1)] "m" [] (.Call (.Name "sum" p1) [.ListComp (.Call (.Name "len" p2) [.Subscript (.Name "walk" p3) (.Constant (.int 0) 0 p4) p5] [] p6) [⟨.Name "walk" p7, .Subscript (.Name "walks" p8) (.Slice none (some (.Name "m" p9)) none p10) p11, [], 0⟩] sc2 p12] [] p13)
      ms.length (fun k v => ∃ t, v = .int (0 + k * 1) t) (fun k ys _ => IntsAre ys.toList (natsI ((List.range k).map (startOf ms)))) := by
  subst hsc hsc2
  obtain ⟨_, wits, e, hwl, hwz, hw⟩ := hW
  cases e
  intro C D k ys ents e' s2 v hk hJ hv S2
  obtain ⟨t2, rfl⟩ := hv
  have ek : (0 : Int) + (k : Int) * 1 = (k : Int) := by omega
  rw [ek] at S2
  have G2 := G.keeps S2.out.heap
  have hys : ys.size = k := by have := hJ.length; simpa [natsI] using this
  refine ⟨true, Ev.tst0, fun _ => ⟨by omega, ?_⟩, fun h => by cases h⟩
  refine Ev.weak (sum_ev (P := fun ns => ns = natsI ((ms.take k).map fun l => (out l).length)) G2 hh ?_) fun v h hv => ?_
  · refine Ev.weak (Ev.comp (n := (wits.toList.take k).length) (P := fun j v => (wits.toList.take k)[j]? = some v) (R := rNew s2 fun its => its = (wits.toList.take k).toArray) (cl := []) (fun j ys _ => IntsAre ys.toList (natsI (((ms.take k).take j).map fun l => (out l).length))) ?_ ?_ ?_ .nil) ?_
    · refine Ev.weak (Ev.sliceL (P := fun its => its = wits) (lo := none) (hi := some (k : Int)) (fun s3 k3 Q E hQ => (Ev.cell (hc.keeps S2.out.heap)) s3 k3 _ _ fun v s4 k4 hv => hQ v s4 k4 ⟨wa, wits, hv, hwl.at fun o e => ((S2.out.trans k3).trans k4).heap _ o e, rfl⟩) (fun its h => by rw [h]; omega) Ev.pN (Ev.pI (Ev.asI (S2.v (by rfl))))) ?_
      rintro v h ⟨a, its, rfl, hn, hp, src, rfl, rfl⟩
      exact ⟨a, _, rfl, hn, hp, slicePick_upto' _ _⟩
    · rintro v s3 k3 ⟨a, its, rfl, _, hp, rfl⟩
      have := Its.list (prog := prg) (w := w) (A := A) hh hp.isList
      simpa using this
    · intro C2 D2 j ys2 ents2 e2 s3 v hj hJ2 hv S3
      have hjk : j < k ∧ j < wits.size := by
        have := (List.getElem?_eq_some_iff.mp hv).1
        rw [List.length_take] at this
        simp at this; omega
      rw [List.getElem?_take_of_lt hjk.1] at hv
      obtain ⟨l, ta, oa, t, its, q1, q2, q3, q4, q5⟩ := hw j (by omega)
      have hv2 : wits[j]? = some v := by simpa using hv
      rw [q2] at hv2; cases hv2
      have G3 := G2.keeps S3.out.heap
      have hys2 : ys2.size ≤ j := by have := hJ2.length; simp [natsI] at this; omega
      have hl1 := out_len (hl l (List.mem_of_getElem? q1))
      refine ⟨true, Ev.tst0, fun _ => ⟨by omega, ?_⟩, fun h => by cases h⟩
      refine (len_ev (x := T (out l)) G3 (Ev.asS (Ev.tat (k := 0) (x := .str (T (out l)) t) (S3.v (by rfl)) ((q3.keeps S2.out.heap).keeps S3.out.heap) Ev.kI (by rfl) (by omega))) (by rw [T_len]; omega)).weak fun v h hv => ?_
      obtain ⟨u, rfl⟩ := hv
      refine ⟨eU, ?_, trivial, by simp [eU]⟩
      show IntsAre _ (natsI (((ms.take k).take (j + 1)).map _))
      rw [List.take_add_one, List.getElem?_take_of_lt hjk.1, q1, List.map_append, natsI_app, Array.toList_push, T_len]
      exact intsAre_snoc hJ2 _ _
    · intro v h hv
      refine new_list (comp_list hv fun ys _ hJ => ⟨_, hJ, ?_⟩)
      rw [List.take_of_length_le]
      rw [List.length_take, List.length_take]; simp; omega
  · obtain ⟨M, u, rfl, ns, rfl, rfl⟩ := hv
    refine ⟨eU, ?_, trivial, by simp [eU]⟩
    show IntsAre _ (natsI ((List.range (k + 1)).map (startOf ms)))
    rw [List.range_succ, List.map_append, natsI_app, Array.toList_push, natsI_sum, startOf_sum]
    exact intsAre_snoc hJ _ _

/-- who wrote each sign: one turn of the outer for -/
theorem owners_turn {L fa wa : Addr} {cd : Value} {ms : List (List Nat)} {s : Shared} {p1 p2 p3 p4 p5 p6 p7 p8 : Pos} {sc : Scope} (hh : A.handled = none) (hc : s.heap.IsCell (L + 1) (some (.ref wa))) (hW : WalksAt ms (.ref wa) s.heap) (hM : ms.length ≤ 100) (hl : ∀ l ∈ ms, l.length ≤ 300)
    (hsc : sc = { kind := .function, names := [(".0", .local), ("m", .local), ("k", .local), ("walks", .free)], isGenerator := false, isCoroutine := false, more := [] }) :
    ∀ (C D : Addr) (i : Nat) (ys : Array Value) (l : List Ent) (e : Ent) (s' : Shared) (v : Value), i < ms.length → OwnJ ms (startOf ms i) ys l → (∃ t, v = .int (0 + i * 1) t) → St s [] C [("m", v)] (e :: eL D ys :: l) s' →
      ∃ n2 P2 R2 J2, In2 prg w A s s' C D (compEnvC sc [("walks", L + 1)] C (envOfC "law" (kf 95).scope L fa cd)) "m" "k" v (.Subscript (.Subscript (.Name "walks" p1) (.Name "m" p2) p3) (.Constant (.int 1) 0 p4) p5) (.Tuple [.Name "m" p6, .Name "k" p7] 0 p8) ys l (OwnJ ms (startOf ms (i + 1))) n2 P2 R2 J2 := by
  subst hsc
  obtain ⟨_, wits, e, hwl, hwz, hw⟩ := hW
  cases e
  intro C D i ys ents e s2 v hi hJ hv S2
  obtain ⟨t2, rfl⟩ := hv
  have ei : (0 : Int) + (i : Int) * 1 = (i : Int) := by omega
  rw [ei] at S2 ⊢
  obtain ⟨l, ta, oa, t, its, q1, q2, q3, q4, q5⟩ := hw i hi
  have hss := startOf_succ q1
  have hsl := stream_len hl
  have hsm := startOf_mono ms ms.length (i + 1) (by omega) (Nat.le_refl _)
  rw [startOf_len] at hsm
  have hisz : its.size = (out l).length := by have := q5.length; rw [← own_length]; simpa [natsI] using this
  refine ⟨its.size, fun k v => its[k]? = some v, rV (.ref oa), fun j ys l => OwnJ ms (startOf ms i + j) ys l, ?_, ?_, ?_, ?_, ?_⟩
  · exact Ev.tat (k := 1) (Ev.at_ (k := i) (Ev.cell (hc.keeps S2.out.heap)) (hwl.at fun o e => S2.out.heap _ o e) (Ev.asI (S2.v (by rfl))) q2 (by omega)) (q3.keeps S2.out.heap) Ev.kI (by rfl) (by omega)
  · rintro v s3 k3 hv
    cases (hv : v = _)
    exact ItsB.list hh q4 (S2.out.trans k3)
  · simpa using hJ
  · intro ys' l' hy
    rw [hss, ← hisz]
    exact hy
  · intro j ys2 ents2 e1 e2 s4 v2 hj hJ2 hv2 S4
    have hjo : j < (out l).length := by omega
    obtain ⟨kk, hkk, _⟩ := own_get hjo
    obtain ⟨t4, ht4⟩ := ints_at q5 hkk
    rw [ht4] at hv2; cases hv2
    refine ⟨by have := hJ2.1; omega, ?_⟩
    refine (Ev.tup2 (R1 := rV (.int (i : Nat) t2)) (R2 := rV (.int (kk : Nat) t4)) ?_ monoV monoV).weak fun v h hv => ?_
    · exact Ev.s2 (S4.v (by rfl)) monoV (S4.v (by rfl)) monoV
    · obtain ⟨a, v1, v2, rfl, hn, hp, rfl, rfl⟩ := hv
      refine ⟨eT a #[.int (i : Nat) t2, .int (kk : Nat) t4], ⟨by rw [Array.size_push, hJ2.1]; omega, fun p hp' => ?_⟩, hp, by intro x hx; simp [eT] at hx; subst hx; exact hn⟩
      by_cases hpk : p < startOf ms i + j
      · obtain ⟨ta2, u1, u2, m2, k2, a1, a2, a3⟩ := hJ2.2 p hpk
        refine ⟨ta2, u1, u2, m2, k2, ?_, .tail _ a2, a3⟩
        rw [Array.getElem?_push, if_neg (by rw [hJ2.1]; omega)]; exact a1
      · have : p = startOf ms i + j := by omega
        subst this
        refine ⟨a, t2, t4, i, kk, ?_, .head _, l, j, q1, rfl, hjo, hkk⟩
        rw [Array.getElem?_push, if_pos hJ2.1.symm]
end
end Mine

end

/- Lc5 -/
section
open PySem PySem.Calls PyProof.Rows
namespace Mine
set_option maxRecDepth 100000
set_option linter.unusedVariables false

section
variable {s₀ s : Shared} {X : List Addr} {L : Addr} {vals : List (Str × Value)} {l : List Ent}
/-- one thing changes and grows, others come -/
theorem St.moveds (S : St s₀ X L vals l s) {pre post : List Ent} {e e' : Ent} (hl : l = pre ++ e :: post) {s' : Shared} (hsame : ∃ h tk, s' = { s with heap := h, toks := tk }) (hs : ∀ b o, b ∉ e.fp → s.heap.get? b = some o → s'.heap.get? b = some o)
    (hfp : ∀ a ∈ e'.fp, a ∈ e.fp ∨ s.heap.get? a = none) (hP : e'.P s'.heap) (es : List Ent) : (∀ y ∈ es, y.P s'.heap) → es.Pairwise (fun e e' => ∀ a ∈ e.fp, a ∉ e'.fp) → (∀ y ∈ es, ∀ a ∈ y.fp, s.heap.get? a = none ∧ a ∉ e'.fp) → St s₀ X L vals (es ++ (pre ++ e' :: post)) s' := by
  induction es with
  | nil => intro _ _ _; exact S.updG hl hsame hs hfp hP
  | cons y es ih =>
    intro h1 h2 h3
    have T := ih (fun z hz => h1 z (.tail _ hz)) (List.pairwise_cons.mp h2).2 fun z hz => h3 z (.tail _ hz)
    refine { T with own := ?_, nd := ?_, ndL := ?_, new := ?_ }
    · intro z hz
      rcases List.mem_cons.mp hz with rfl | hz
      · exact h1 _ (.head _)
      · exact T.own z hz
    · refine List.pairwise_cons.mpr ⟨fun z hz a ha ha' => ?_, T.nd⟩
      have hn := h3 y (.head _) a ha
      rcases List.mem_append.mp hz with hz | hz
      · exact (List.pairwise_cons.mp h2).1 z hz a ha ha'
      · have : z = e' ∨ z ∈ l := by
          rw [hl]
          rcases List.mem_append.mp hz with h | h
          · exact .inr (List.mem_append_left _ h)
          · rcases List.mem_cons.mp h with h | h
            · exact .inl h
            · exact .inr (List.mem_append_right _ (.tail _ h))
        rcases this with rfl | hz
        · exact hn.2 ha'
        · obtain ⟨o, q⟩ := z.has (S.own z hz) a ha'
          rw [hn.1] at q; cases q
    · intro z hz
      rcases List.mem_cons.mp hz with rfl | hz
      · intro h
        obtain ⟨m, ⟨o, _, _, q, _⟩, _⟩ := S.ns
        rw [(h3 z (.head _) L h).1] at q; cases q
      · exact T.ndL z hz
    · intro z hz a ha
      rcases List.mem_cons.mp hz with rfl | hz
      · by_cases hX : a ∈ X
        · exact .inl hX
        · right
          cases q : s₀.heap.get? a with
          | none => rfl
          | some o => have := S.keep a o hX q; rw [(h3 z (.head _) a ha).1] at this; cases this
      · exact T.new z hz a ha
end

section
variable {prog : Program} {w : World} {A : Around} {env : Env} {s₀ s : Shared} {X : List Addr} {L : Addr} {vals : List (Str × Value)} {l : List Ent} {E : Value → Shared → Prop}

/-- y = [.. for x in range(..)], one thing f may change in a turn -/
theorem St.assignCompM (S : St s₀ X L vals l s) {pre post : List Ent} {f : Option Addr → Ent} {oc : Option Addr} (hl : l = pre ++ f oc :: post) {y : Str} {py spos : Pos} {elt iter : Expr} {x : Str} {px : Pos} {scope : Scope} {cl : List (Str × Addr)} {pos : Pos} {a b c : Int} {n : Nat} {Q : Flow → Shared → Prop} (J : Nat → Array Value → Prop) (hh : A.handled = none)
    (hit : Ev (model prog w) A s (eval iter env) (rRange a b c)) (hsm : Builtin.Range.small a b c = true) (hn : Builtin.Range.rangeSize a b c = n)
    (turn : ∀ C D i ys oc' e s' t, i < n → J i ys → St s (f oc).fp C [(x, .int (a + (i : Int) * c) t)] [e, eL D ys, f oc'] s' → ∀ (E : Value → Shared → Prop),
      wpAny (model prog w) A (eval elt (compEnvC scope cl C env)) (fun y s₄ => ys.size ≤ 100000 ∧ J (i + 1) (ys.push y) ∧ ∃ oc'', St s (f oc).fp C [(x, .int (a + (i : Int) * c) t)] [e, eL D ys, f oc''] s₄) E s')
    (h0 : J 0 #[])
    (hQ : ∀ D ys oc' s', J n ys → s.heap.get? D = none → St s₀ X L ((y, .ref D) :: vals) (eL D ys :: (pre ++ f oc' :: post)) s' → Q .next s')
    (hclos : closureFor scope env = pure cl := by rfl) (hsc : okComp scope x = true := by rfl) (hs : ∀ x, foldedSetIterable iter env x = pure x := by intro _; rfl)
    (hsw : swapsWith (.ListComp elt [⟨.Name x px, iter, [], 0⟩] scope pos) (some (.Name y py)) spos.line env = pure true := by rfl) (hL : env.locals = L := by rfl) (hlk : env.kindOf y = some .local := by rfl)
    (hp : (env.scope.kind == .class || (env.scope.kind == .module && env.locals != env.globals)) = false := by rfl) :
    wpAny (model prog w) A (exec (.Assign [.Name y py] (.ListComp elt [⟨.Name x px, iter, [], 0⟩] scope pos) spos) env) Q E s := by
  rw [exec_Assign_Name_used _ _ _ _ hsw]
  obtain ⟨hcell, hkind, hnames, hx⟩ := okComp.spec hsc
  refine wpAny_bind (wpAny_standAt (wpAny_bind ?_))
  show wpAny _ A (do let _ ← comprehension (.ListComp elt [⟨.Name x px, iter, [], 0⟩] scope pos) scope env _ (newList []) false (eval iter env) (some (PySem.assign (.Name y py) env))) _ _ s
  refine wpAny_bind (wpAny_mono (wpAny_comprehension_free (use := some (PySem.assign (.Name y py) env)) (Q := fun _ s' => Q .next s') rfl hs hclos hkind hnames
    (hit.go fun v s₁ k₁ hv => ?_)) (fun _ s' hq => wpAny_pure (wpAny_pure hq)) fun _ _ e => e)
  obtain ⟨r, tr, ur, xr, rfl, hr⟩ := hv
  refine wpAny_pyIter_range hr hsm ?_
  have k₂ : Kps s₁ _ := Kps.push s₁ { cls := .type "range_iterator", data := .fields #[rawInt a, rawInt (Builtin.Range.rangeSize a b c), rawInt c] } s₁.toks
  have he : (eR s₁.heap.objs.size (a + (0 : Nat) * c) (n - (0 : Nat)) c).P (s₁.heap.push { cls := .type "range_iterator", data := .fields #[rawInt a, rawInt (Builtin.Range.rangeSize a b c), rawInt c] }) := by
    show IsRangeIter _ _ _ _ _
    rw [hn]
    have e1 : a + ((0 : Nat) : Int) * c = a := by simp
    have e2 : ((n : Int) - ((0 : Nat) : Int)) = n := by simp
    rw [e1, e2]
    exact Heap.get?_push_size _ rfl
  have up : ∀ {a : Addr} {s' s'' : Shared}, Kps s' s'' → s''.heap.get? a = none → s'.heap.get? a = none := fun {a s' s''} k h => by
    cases q : s'.heap.get? a with
    | none => rfl
    | some o => rw [k.heap _ _ q] at h; cases h
  have hoc0 : (f oc).P s.heap := S.own (f oc) (by rw [hl]; exact List.mem_append_right _ (.head _))
  have kk : Kps s _ := k₁.trans k₂
  have hXs : ∀ a ∈ (f oc).fp, ∃ o, s.heap.get? a = some o := (f oc).has hoc0
  have hian : s.heap.get? s₁.heap.objs.size = none := fresh_size k₁
  refine comp_block (s₀ := s) (X := (f oc).fp) (RR := fun acc C => compPost (model prog w) A E (some (PySem.assign (.Name y py) env)) (fun _ s' => Q .next s') acc C) (l := [f oc]) (fun i ys l => J i ys ∧ ∃ oc', l = [f oc']) (Itr.range hh s₁.heap.objs.size a c n) (fun k s Q E st hQ => wpAny_pyIter_rangeiter st hQ) hsc he (fun _ _ => trivial) kk hian ?_ ?_ ?_ (List.pairwise_singleton _ _) ?_ ?_ ⟨h0, oc, rfl⟩ ?_
  · intro h
    obtain ⟨o, q⟩ := hXs _ h
    rw [hian] at q; cases q
  · intro d hd
    obtain ⟨o, q⟩ := hXs d hd
    exact Heap.lt_size (kk.heap _ _ q)
  · intro z hz
    simp only [List.mem_singleton] at hz
    subst hz
    exact (f oc).loc (fun d _ o q => kk.heap d o q) hoc0
  · intro z hz d hd
    simp only [List.mem_singleton] at hz
    subst hz
    exact hd
  · rintro C D i ys _ s3 v _ hi ⟨hJ, oc', rfl⟩ ⟨t, rfl⟩ S3 E'
    refine Ev.tst0.go fun ok s4 k4 hok => ?_
    cases (hok : ok = true)
    rw [if_pos rfl]
    refine wpAny_mono (turn C D i ys oc' _ s4 t hi hJ (S3.kps k4) E') (fun y s5 h5 => ?_) fun _ _ q => q
    obtain ⟨hsz, hJ', oc'', S5⟩ := h5
    exact ⟨hsz, _, ⟨hJ', oc'', rfl⟩, S5⟩
  · rintro C D ys _ s3 ⟨hJ, oc', rfl⟩ S3 nC nD
    have nC' := up kk nC
    have nD' := up kk nD
    have T : St s₀ X L vals ([eN C, eL D ys] ++ (pre ++ f oc' :: post)) s3 := by
      refine S.moveds hl S3.same (fun b o hb q => S3.keep b o hb q) (fun d hd => S3.new (f oc') (.tail _ (.head _)) d hd) (S3.own _ (.tail _ (.head _))) [eN C, eL D ys] ?_ ?_ ?_
      · intro z hz
        simp only [List.mem_cons, List.not_mem_nil, or_false] at hz
        rcases hz with rfl | rfl
        · obtain ⟨m, hm, _⟩ := S3.ns; exact ⟨m, hm⟩
        · exact S3.at0
      · refine List.pairwise_cons.mpr ⟨fun z hz d hd => ?_, List.pairwise_singleton _ _⟩
        simp only [List.mem_singleton] at hz
        simp [eN] at hd; subst hd hz; exact S3.ndL _ (.head _)
      · intro z hz d hd
        simp only [List.mem_cons, List.not_mem_nil, or_false] at hz
        rcases hz with rfl | rfl
        · simp [eN] at hd; subst hd
          exact ⟨nC', S3.ndL _ (.tail _ (.head _))⟩
        · simp [eL] at hd; subst hd
          exact ⟨nD', (List.pairwise_cons.mp S3.nd).1 _ (.head _) d (by simp [eL])⟩
    show wpAny _ A (PySem.assign (.Name y py) env (.ref D)) _ _ _
    refine wpAny_assign_Name (T.store (fun s4 T4 _ => ?_) hL hlk hp)
    obtain ⟨m, hm⟩ := T4.at0
    refine ⟨m, hm, fun h' hs' => ?_⟩
    exact hQ D ys oc' _ hJ nD' (T4.lose (tk := s4.toks) fun d o hd q => hs'.extBut d o (by simpa [eN] using hd) q)
end
end Mine

end

/- E16 -/
section
open PySem PySem.Calls PyProof.Rows PySem.W
namespace Mine
set_option maxRecDepth 100000
set_option linter.unusedVariables false

abbrev tabL (oc : Option Addr) : Ent := eTab 92 111 43 ("law.<locals>.<lambda>" : Str) oc

theorem ends_eq {ms : List (List Nat)} (h : ms ≠ []) : natsI ((List.range ms.length).map fun m => startOf ms (m + 1)) = (natsI ((List.range ms.length).map (startOf ms))).drop 1 ++ [((stream ms).length : Int)] := by
  obtain ⟨n, hn⟩ : ∃ n, ms.length = n + 1 := ⟨ms.length - 1, by have := List.length_pos_iff.mpr h; omega⟩
  rw [← startOf_len, hn]
  conv => lhs; rw [List.range_succ]
  conv => rhs; rw [List.range_succ_eq_map]
  simp [natsI]

section
variable {w : World} {A : Around} {s : Shared} {mg mb : Str → Option Value} {E : Value → Shared → Prop}

theorem codeHd94 {h : Heap} (G : Gd w mg mb h) : CodeHd h 94 92 := ⟨_, _, _, _, _, _, _, _, _, G.at 94 (by kernel_rfl), by exact rfl, by exact rfl, by exact rfl, by exact rfl, by exact rfl, by exact rfl, by exact rfl, by exact rfl, by decide⟩

/-- what stands while the ends are sought -/
structure EndsAt (w : World) (mg mb : Str → Option Value) (L pa : Addr) (pits : Array Value) (ms : List (List Nat)) (ts : Tok) (h : Heap) : Prop where
  g : Gd w mg mb h
  c2 : h.IsCell (L + 2) (some (.ref pa))
  c3 : h.IsCell (L + 3) (some (.str (T (stream ms)) ts))
  l : h.IsList pa pits
theorem EndsAt.keeps {L pa : Addr} {pits : Array Value} {ms : List (List Nat)} {ts : Tok} {h h' : Heap} (x : EndsAt w mg mb L pa pits ms ts h) (k : Kp h h') : EndsAt w mg mb L pa pits ms ts h' := ⟨x.g.keeps k, x.c2.keeps k, x.c3.keeps k, x.l.at fun o e => k _ o e⟩

set_option maxHeartbeats 4000000 in
/-- where the stream's beginnings come to hold one row of one dot more: one turn -/
theorem ends_turn {L fa pa C D : Addr} {ms : List (List Nat)} {ts : Tok} {pits : Array Value} {p15 : Pos} {sc sc2 : Scope} {pars : Arguments} {i : Nat} {ys : Array Value} {oc' : Option Addr} {e : Ent} {s s' : Shared} {t : Tok} {X : List Addr}
    (hX : ∀ h, (∀ b o, b ∉ X → s.heap.get? b = some o → h.get? b = some o) → EndsAt w mg mb L pa pits ms ts h) (hA : Rm A 6)
    (hP : pits.size = (stream ms).length + 1 ∧ ∀ k, k < (stream ms).length + 1 → ∃ t, pits[k]? = some (.int (0 + (k : Int)) t)) (hsl : (stream ms).length ≤ 100000) (hi : i < ms.length) (hys : ys.size ≤ 100000) (hJ : IntsAre ys.toList (natsI ((List.range i).map fun m => startOf ms (m + 1))))
    (S : St s X C [("m", .int (0 + (i : Int) * 1) t)] [e, eL D ys, tabL oc'] s')
    (hpars : pars = { posonlyargs := [], args := [{ arg := "p", annotation := none, pos := p15 }], vararg := none, kwonlyargs := [], kw_defaults := [], kwarg := none, defaults := [] })
    (hsc : sc = { kind := .function, names := [(".0", .local), ("m", .local), ("bisect_left", .globalImplicit), ("places", .free), ("stream", .free)], isGenerator := false, isCoroutine := false, more := [] })
    (hsc2 : sc2 = { kind := .function, names := [("p", .local), ("stream", .free)], isGenerator := false, isCoroutine := false, more := [] }) :
    wpAny (model prg w) A (eval (.Call (.Name "bisect_left" ⟨111, 12, 111, 23⟩) [.Name "places" ⟨111, 24, 111, 30⟩, .BinOp (.Name "m" ⟨111, 32, 111, 33⟩) .Add (.Constant (.int 1) 0 ⟨111, 36, 111, 37⟩) ⟨111, 32, 111, 37⟩] [⟨some "key", .Lambda pars (.Call (.Attribute (.Subscript (.Name "stream" ⟨111, 53, 111, 59⟩) (.Slice none (some (.Name "p" ⟨111, 61, 111, 62⟩)) none ⟨111, 60, 111, 62⟩) ⟨111, 53, 111, 63⟩) "count" ⟨111, 53, 111, 69⟩) [.Constant (.str "\r\n.\r\n") 0 ⟨111, 70, 111, 81⟩] [] ⟨111, 53, 111, 82⟩) sc2 ⟨111, 43, 111, 82⟩, ⟨111, 39, 111, 82⟩⟩] ⟨111, 12, 111, 83⟩) (compEnvC sc [("stream", L + 3), ("places", L + 2)] C (envOfC "law" (kf 95).scope L fa (.ref 94))))
      (fun y s₄ => ys.size ≤ 100000 ∧ IntsAre (ys.push y).toList (natsI ((List.range (i + 1)).map fun m => startOf ms (m + 1))) ∧ ∃ oc'', St s X C [("m", .int (0 + (i : Int) * 1) t)] [e, eL D ys, tabL oc''] s₄) E s' := by
  subst hsc hsc2 hpars
  have At : ∀ {s' vals ents}, St s X C vals ents s' → EndsAt w mg mb L pa pits ms ts s'.heap := fun S' => hX _ fun b o hb q => S'.keep b o hb q
  refine wpAny_Call_Name_kw ((Ev.glob (At S).g.wd ((At S).g.mgl "bisect_left" (some (.ref 66)) (by kernel_rfl))).go fun v10 s10 k10 hv10 => ?_)
  cases (hv10 : v10 = _)
  have S10 := S.kps k10
  refine callWith_function_kw (o := ko 66) (fd := kf 66) ?_
  refine evalArgs_kw (by rfl) ?_
  refine Ev.go (R := ListR [rV (.ref pa), rI ((0 + (i : Int) * 1) + 1)]) (Ev.s2 (Ev.cell (At S10).c2) monoV (Ev.add (Ev.asI (S10.v (by rfl))) Ev.kI) monoI) fun vs s11 k11 hvs => ?_
  obtain ⟨x1, _, rfl, rfl, x2, _, rfl, ⟨t3, rfl⟩, rfl⟩ := hvs
  have S11 := S10.kps k11
  have G11 := (At S11).g
  refine wpAny_evalAll_cons (wpAny_bind (S11.lambda (P := 92) (c := 94) (clos := [("stream", L + 3)]) (pre := [e, eL D ys]) (post := []) rfl (by rfl) (by rfl) (by rfl) G11.wd.g (by rfl) (codeHd94 G11) (by decide) (G11.builtinsAt 92 (by decide)) fun f c' ctv s12 q S12 hk12 hcr hf => ?_))
  refine wpAny_bind (wpAny_standAt (wpAny_pure (wpAny_evalAll_nil ?_)))
  have A12 := At S12
  refine ⟨⟨A12.g.at 66 (by kernel_rfl), by kernel_rfl⟩, ?_⟩
  have ei : ((0 + (i : Int) * 1) + 1) = ((i + 1 : Nat) : Int) := by omega
  rw [ei]
  obtain ⟨tb, hbind⟩ := bindL2
  have He := ends_stream ms
  have hin : startOf ms (i + 1) ≤ (stream ms).length := He.in_ i hi
  refine Ev.go (bisectL_ev (n := 4) (lo := 0) (hi := (stream ms).length + 1) (r := startOf ms (i + 1)) (f := fun p => (cnt (stream ms) p : Int)) (items := pits) (vhi := .none) (vk := .ref f) (x := ((i + 1 : Nat) : Int)) (tx := t3) (tlo := tb) (args := ⟨[.ref pa, .int ((i + 1 : Nat) : Int) t3], [("key", .ref f)]⟩) A12.g (hA.less (by omega)) (fun s' G' => hbind G' _ _ _) A12.l (by rw [hP.1]; omega) (by rw [hP.1]; exact Nat.le_refl _) (.inl ⟨rfl, hP.1.symm⟩)
    (.inr ⟨f, _, _, rfl, hf, rfl, fun i hi => by obtain ⟨t, e⟩ := hP.2 i hi; exact ⟨t, by simpa using e⟩, ?_⟩) (by omega) (by omega) (fun p _ hp => ?_) (fun p hp hp2 => ?_)) fun v13 s13 k13 hv13 => ?_
  · -- the key
    intro A2 s13 p tp hA2 k13 hp1 hp2
    have A13 := A12.keeps k13.heap
    refine Ev.lam (binds := [("p", .int p tp)]) (k13.heap _ _ hf) rfl (hcr.keeps k13.heap) A13.g.wd.lim hA2.room rfl (by rfl) (by rfl) fun L2 s14 k14 hn2 => ?_
    have A14 := A13.keeps k14.heap
    have ew := count_is ms (p := p) (by omega)
    show Ev _ _ _ _ (rI ((cnt (stream ms) p : Nat) : Int))
    rw [← ew]
    exact Ev.count (Ev.cut (x := T (stream ms)) (l := none) (u := some (p : Int)) (Ev.asS (Ev.free A14.c3)) Ev.nopart (Ev.part (Ev.asI (Ev.loc hn2 (v := .int (p : Nat) tp) (by rfl)))) (slice_pre (by omega)) (by rw [T_len]; unfold sizeLine; omega)) (Ev.kS' (by kernel_rfl))
  · have := (cnt_end He hi (p := p) (by omega)).mpr hp
    omega
  · have := mt (cnt_end He hi (p := p) (by omega)).mp (by omega)
    omega
  · obtain ⟨t13, rfl⟩ := hv13
    refine ⟨hys, ?_, some c', S12.kps k13⟩
    rw [List.range_succ, List.map_append, natsI_app, Array.toList_push]
    exact intsAre_snoc hJ _ _
end
end Mine

end

/- E14 -/
section
open PySem PySem.Calls PyProof.Rows PySem.W
namespace Mine
set_option maxRecDepth 100000
set_option linter.unusedVariables false

/-- the walks, out of the call's things -/
theorem WalkJ.at {ms : List (List Nat)} {D : Addr} {ys : Array Value} {l : List Ent} {h : Heap} (J : WalkJ ms ms.length ys l) (hD : h.PlainList D ys) (hl : ∀ e ∈ l, e.P h) : WalksAt ms (.ref D) h :=
  ⟨D, ys, rfl, hD.isList, J.1, fun m hm => by
    obtain ⟨l', ta, oa, t, its, a1, a2, a3, a4⟩ := J.2 m hm
    obtain ⟨b1, b2, _⟩ := hl _ a3
    exact ⟨l', ta, oa, t, its, a1, a2, b1, Heap.PlainList.isList b2, a4⟩⟩
theorem OwnJ.at {ms : List (List Nat)} {D : Addr} {ys : Array Value} {l : List Ent} {h : Heap} (J : OwnJ ms (startOf ms ms.length) ys l) (hD : h.PlainList D ys) (hl : ∀ e ∈ l, e.P h) : Owners ms (.ref D) h := by
  rw [startOf_len] at J
  exact ⟨D, ys, rfl, hD.isList, J.1, fun p hp => by
    obtain ⟨ta, t1, t2, m, k, a1, a2, a3⟩ := J.2 p hp
    exact ⟨ta, t1, t2, m, k, a1, hl _ a2, a3⟩⟩

section
variable {w : World} {A : Around} {s : Shared} {mg mb : Str → Option Value} {E : Value → Shared → Prop}

set_option maxHeartbeats 8000000 in
theorem law_wp {g : Heap} {L sa fa : Addr} {vs : List Value} {ns : List Int} {m : Str → Option Value} {Q : Flow → Shared → Prop} (G0 : Gd w mg mb g) (hA : Rm A 10) (h92 : g.get? 92 = none) (hLg : g.get? L = none) (hg1 : g.get? (L + 1) = none) (hg2 : g.get? (L + 2) = none) (hg3 : g.get? (L + 3) = none) (hL1 : 92 < L)
    (hg : Kp g s.heap) (hn : s.heap.Ns L m) (hm : m "script" = some (.ref sa)) (hc1 : s.heap.IsCell (L + 1) none) (hc2 : s.heap.IsCell (L + 2) none) (hc3 : s.heap.IsCell (L + 3) none) (t92 : s.heap.get? 92 = some (tabObj #[])) (hs : g.IsList sa vs.toArray) (hi : IntsAre vs ns) (hlen : ns.length ≤ 63)
    (hQ : ∀ s' oc, (∃ h tk, s' = { s with heap := h, toks := tk }) → Kp g s'.heap → (tabL oc).P s'.heap → Q (.ret (.bool true)) s') :
    wpAny (model prg w) A (execs (bodyOf (kf 95)) (envOfC "law" (kf 95).scope L fa (.ref 94))) Q E s := by
  have S : St { s with heap := g } [] L [("script", .ref sa)] [eC (L + 1) none, eC (L + 2) none, eC (L + 3) none, tabL none] s := {
    same := ⟨s.heap, s.toks, rfl⟩
    keep := fun b o _ e => hg b o e
    ns := ⟨m, hn, .cons hm .nil⟩
    Lnew := hLg
    LX := by simp
    own := by
      intro e he
      simp only [List.mem_cons, List.not_mem_nil, or_false] at he
      rcases he with rfl | rfl | rfl | rfl
      · exact hc1
      · exact hc2
      · exact hc3
      · exact t92
    nd := by
      have hlt : @LT.lt Nat _ 92 L := hL1
      simp only [List.pairwise_cons, List.mem_cons, List.not_mem_nil, or_false, forall_eq_or_imp, forall_eq, List.Pairwise.nil, and_true, eC, eTab, Option.toList, List.mem_cons, false_imp_iff, implies_true]
      refine ⟨⟨?_, ?_, ?_⟩, ⟨?_, ?_⟩, ?_⟩ <;> (show ¬ (@Eq Nat _ _)) <;> omega
    ndL := by
      intro e he
      have hlt : @LT.lt Nat _ 92 L := hL1
      simp only [List.mem_cons, List.not_mem_nil, or_false] at he
      rcases he with rfl | rfl | rfl | rfl <;> simp [eC, eTab]
      exact fun h => absurd h (by show ¬ (@Eq Nat L 92); omega)
    new := by
      intro e he a ha
      simp only [List.mem_cons, List.not_mem_nil, or_false] at he
      right
      rcases he with rfl | rfl | rfl | rfl
      · have : a = L + 1 := by simpa [eC] using ha
        subst this; exact hg1
      · have : a = L + 2 := by simpa [eC] using ha
        subst this; exact hg2
      · have : a = L + 3 := by simpa [eC] using ha
        subst this; exact hg3
      · have : a = 92 := by simpa [eTab] using ha
        subst this; exact h92 }
  have gk : ∀ {s' vals ents}, St { s with heap := g } [] L vals ents s' → Kp g s'.heap := fun S' b o e => S'.keep b o (by simp) e
  have Gs : ∀ {s' vals ents}, St { s with heap := g } [] L vals ents s' → Gd w mg mb s'.heap := fun S' => G0.keeps (gk S')
  -- mails
  refine wpAny_execs_cons (S.assignL (P := fun its => ∃ ms : List (List Nat), StrsAre its.toList (ms.map T) ∧ ms ≠ [] ∧ ms.length ≤ 6 ∧ ∀ l ∈ ms, l.length ≤ 300) ?_ fun ma mits s1 hms hman S1 => ?_)
  · refine (Ev.catL (P1 := fun x => ∃ ms1 : List (List Nat), StrsAre x.toList (ms1.map T) ∧ ms1.length ≤ 4 ∧ ∀ l ∈ ms1, l.length ≤ 300) (P2 := fun x => StrsAre x.toList ([[46, 13, 10, 46], []].map T)) ?_ ?_ ?_).weak fun v h hv => ?_
    · exact mails_ev (p10 := ⟨0, 0, 0, 0⟩) (Gs S) (hA.less (by omega)) S (by rfl) (hs.at fun o e => gk S _ o e) hi hlen (by rfl)
    · refine (Ev.disp (Rs := [rS (T [46, 13, 10, 46]), rS (T [])]) (P := fun x => StrsAre x.toList ([[46, 13, 10, 46], []].map T)) ?_ fun vs h hvs => ?_).weak fun v h hv => new_plain hv
      · exact Ev.s2 (Ev.kS' (by kernel_rfl)) monoS (Ev.kS' (by kernel_rfl)) monoS
      · obtain ⟨x1, _, rfl, ⟨u1, rfl⟩, x2, _, rfl, ⟨u2, rfl⟩, rfl⟩ := hvs
        exact ⟨by simp, .cons _ _ (.cons _ _ .nil)⟩
    · rintro x y ⟨ms1, h1, h2, _⟩ h3
      have e1 := strsAre_length h1
      have e2 := strsAre_length h3
      simp at e1 e2
      omega
    · obtain ⟨a, its, rfl, hn', hp, x, y, ⟨ms1, h1, h2, h3⟩, h4, rfl⟩ := hv
      refine ⟨a, _, rfl, hn', hp, ms1 ++ [[46, 13, 10, 46], []], ?_, by simp, by simp; omega, ?_⟩
      · rw [Array.toList_append, List.map_append]
        exact strsAre_append h1 h4
      · intro l hl
        rcases List.mem_append.mp hl with h | h
        · exact h3 l h
        · simp at h; rcases h with rfl | rfl <;> simp
  obtain ⟨ms, hst, hne, hM, hl⟩ := hms
  have hmsz : mits.size = ms.length := by have := strsAre_length hst; simpa using this
  have hl1 : ∀ l ∈ ms, l.length ≤ 1000 := fun l h => by have := hl l h; omega
  have hsl := stream_len hl
  have hll := lensAll_le hl
  have hjs : (((ms.map fun l => T (out l)).map (·.length)).sum) = (stream ms).length := by
    unfold stream
    rw [List.length_flatten, List.map_map, List.map_map]
    congr 1
  have S1' : St { s with heap := g } [] L [("mails", .ref ma), ("script", .ref sa)] [eL ma mits, eC (L + 1) none, eC (L + 2) none, eC (L + 3) none, tabL none] s1 := S1
  -- stream
  refine wpAny_execs_cons (S1'.assignC (pre := [eL ma mits, eC (L + 1) none, eC (L + 2) none]) (post := [tabL none]) rfl (R := rS (T (stream ms))) ?_ fun v s2 s3 k2 hv S3 => ?_)
  · rw [← join_stream]
    refine Ev.join (Ev.kS' (by kernel_rfl)) ?_ (by decide) (by rw [hjs, List.length_map]; omega)
    exact parts_ev (Gs S1') (hA.less (by omega)) S1' (by rfl) (Heap.PlainList.isList S1'.at0) hst (by omega) hl1 (by rfl)
  obtain ⟨ts, rfl⟩ := hv
  have S3' : St { s with heap := g } [] L [("mails", .ref ma), ("script", .ref sa)] [eL ma mits, eC (L + 1) none, eC (L + 2) none, eC (L + 3) (some (.str (T (stream ms)) ts)), tabL none] s3 := S3
  -- walks
  refine wpAny_execs_cons (wpAny_Assign_Name ((walks_ev (ms := ms) (Gs S3') (hA.less (by omega)) S3' (by rfl) (Heap.PlainList.isList S3'.at0) hst (by omega) hl1 (by rfl)).go fun v s4 k4 hv => ?_) (by rfl))
  obtain ⟨wa, wits, lw, rfl, hwn, hwp, hwJ, hwP, hwf, hwd⟩ := hv
  have S4 := S3'.adds k4 (eL wa wits :: lw) (by
    intro e he
    rcases List.mem_cons.mp he with rfl | he
    · exact hwp
    · exact hwP e he) hwd (by
    intro e he a ha
    rcases List.mem_cons.mp he with rfl | he
    · simp [eL] at ha; subst ha; exact hwn
    · exact (hwf e he a ha).1)
  refine S4.storeC (c := L + 1) (v₀ := none) (pre := eL wa wits :: (lw ++ [eL ma mits])) (post := [eC (L + 2) none, eC (L + 3) (some (.str (T (stream ms)) ts)), tabL none]) (by simp) fun s5 S5 => ?_
  obtain ⟨B, hB⟩ : ∃ B, B = [eL ma mits, eC (L + 1) (some (.ref wa)), eC (L + 2) none, eC (L + 3) (some (.str (T (stream ms)) ts)), tabL none] := ⟨_, rfl⟩
  have S5' : St { s with heap := g } [] L [("mails", .ref ma), ("script", .ref sa)] (eL wa wits :: (lw ++ B)) s5 := by rw [hB]; simpa using S5
  have B0 : eL ma mits ∈ B := by rw [hB]; simp
  have B1 : eC (L + 1) (some (.ref wa)) ∈ B := by rw [hB]; simp
  have B3 : eC (L + 3) (some (.str (T (stream ms)) ts)) ∈ B := by rw [hB]; simp
  have hWa : ∀ {s' vals ents}, St { s with heap := g } [] L vals (ents ++ (eL wa wits :: (lw ++ B))) s' → WalksAt ms (.ref wa) s'.heap ∧ s'.heap.IsCell (L + 1) (some (.ref wa)) ∧ s'.heap.IsCell (L + 3) (some (.str (T (stream ms)) ts)) ∧ s'.heap.IsList ma mits := fun {s' vals ents} S' =>
    ⟨hwJ.at (S'.own (eL wa wits) (List.mem_append_right _ (.head _))) fun e he => S'.own e (List.mem_append_right _ (.tail _ (List.mem_append_left _ he))), S'.own _ (List.mem_append_right _ (.tail _ (List.mem_append_right _ B1))), S'.own _ (List.mem_append_right _ (.tail _ (List.mem_append_right _ B3))), Heap.PlainList.isList (S'.own (eL ma mits) (List.mem_append_right _ (.tail _ (List.mem_append_right _ B0))))⟩
  -- the stream is what the walks write
  obtain ⟨w5, c51, c53, m5⟩ := hWa (ents := []) S5'
  refine wpAny_execs_cons (wpAny_If ((Ev.tNeS (x := T (stream ms)) (y := T (stream ms)) (Ev.asS (Ev.cell c53)) ?_).go fun c s6 k6 hc => ?_))
  · rw [← join_stream]
    refine Ev.join (Ev.kS' (by kernel_rfl)) ?_ (by decide) (by rw [hjs, List.length_map]; omega)
    exact outs_ev hA.hd c51 w5 (by omega) (by rfl)
  cases (hc : c = _)
  rw [if_neg (by simp)]
  refine wpAny_execs_nil ?_
  have S6 := S5'.kps k6
  -- range(len(mails))
  have rng : ∀ {s' : Shared} {p1 p2 p3 p4 p5 : Pos} {vals ents}, St { s with heap := g } [] L vals ents s' → vals.lookup ("mails" : Str) = some (.ref ma) → s'.heap.IsList ma mits → Ev (model prg w) A s' (eval (.Call (.Name "range" p1) [.Call (.Name "len" p2) [.Name "mails" p3] [] p4] [] p5) (envOfC "law" (kf 95).scope L fa (.ref 94))) (rRange 0 (ms.length : Nat) 1) := fun {s' p1 p2 p3 p4 p5 vals ents} S' h1 h2 => by
    rw [← hmsz]
    exact range1_ev (Gs S') (lenL_ev (P := fun its => its = mits) (Gs S') (fun s2 k2 Q E hQ => (S'.v h1) s2 k2 _ _ fun v s3 k3 hv => hQ v s3 k3 ⟨ma, mits, hv, h2.at fun o e => (k2.trans k3).heap _ o e, rfl⟩) (fun _ h => by rw [h]) (by omega))
  have hsm : Builtin.Range.small 0 (ms.length : Nat) 1 = true := small_one (by omega) (by omega) (by omega) (by omega)
  have hrs : Builtin.Range.rangeSize 0 (ms.length : Nat) 1 = (ms.length : Nat) := by rw [size_up (by omega)]; omega
  -- starts
  obtain ⟨w6, c61, c63, m6⟩ := hWa (ents := []) S6
  refine wpAny_execs_cons (S6.assignComp (n := ms.length) (P := fun k v => ∃ t, v = .int (0 + k * 1) t) (R := rRange 0 (ms.length : Nat) 1) (cl := [("walks", L + 1)]) (fun k ys _ => IntsAre ys.toList (natsI ((List.range k).map (startOf ms)))) ?_ ?_ ?_ .nil fun xa xits lx s7 hxJ hxn S7 => ?_)
  · exact rng S6 (by rfl) m6
  · exact fun v s2 k2 hv => Its.range hA.hd hv hsm hrs
  · exact starts_turn (Gs S6) hA.hd c61 w6 (by omega) hl (by rfl) (by rfl)
  have S7' : St { s with heap := g } [] L [("starts", .ref xa), ("mails", .ref ma), ("script", .ref sa)] ([eL xa xits] ++ (eL wa wits :: (lw ++ B))) s7 := S7.sub (List.Sublist.cons_cons _ (List.sublist_append_right lx _))
  obtain ⟨w7, c71, c73, m7⟩ := hWa S7'
  -- owners
  refine wpAny_execs_cons (S7'.assignComp2 (n := ms.length) (P := fun k v => ∃ t, v = .int (0 + k * 1) t) (R := rRange 0 (ms.length : Nat) 1) (cl := [("walks", L + 1)]) (fun k ys l => OwnJ ms (startOf ms k) ys l) ?_ ?_ ?_ ⟨by rw [startOf_zero]; rfl, fun p hp => by rw [startOf_zero] at hp; omega⟩ fun oa oits lo s8 hoJ hon S8 => ?_)
  · exact rng S7' (by rfl) m7
  · exact fun v s2 k2 hv => Its.range hA.hd hv hsm hrs
  · exact owners_turn hA.hd c71 w7 (by omega) hl (by rfl)
  have S8' : St { s with heap := g } [] L [("owners", .ref oa), ("starts", .ref xa), ("mails", .ref ma), ("script", .ref sa)] ((eL oa oits :: (lo ++ [eL xa xits])) ++ (eL wa wits :: (lw ++ B))) s8 := by simpa using S8
  obtain ⟨w8, c81, c83, m8⟩ := hWa S8'
  have x8 : s8.heap.PlainList xa xits := S8'.own (eL xa xits) (by simp)
  have o8 : s8.heap.PlainList oa oits := S8'.own (eL oa oits) (by simp)
  -- told
  have tm : Mails ms (.ref ma) s8.heap := ⟨ma, mits, rfl, m8, hst⟩
  have tx : Starts ms (.ref xa) s8.heap := ⟨xa, xits, rfl, x8.isList, hxJ⟩
  have to : Owners ms (.ref oa) s8.heap := hoJ.at o8 fun e he => S8'.own e (by simp [he])
  refine wpAny_execs_cons (wpAny_If ((Ev.notT (c := true) (Ev.testV (Ev.callF (Rs := [Mails ms, Starts ms, Owners ms]) (Ev.glob (Gs S8').wd ((Gs S8').mgl "_law_told" (some (.ref 90)) (by kernel_rfl))) ((Gs S8').at 90 (by kernel_rfl)) (fd := kf 90) (by kernel_rfl) ?_ ?_))).go fun c s9 k9 hc => ?_))
  · refine Ev.s3 (fun s2 k2 Q E hQ => (S8'.v (by rfl)) s2 k2 _ _ fun v s3 k3 hv => hQ v s3 k3 ?_) monoMails (fun s2 k2 Q E hQ => (S8'.v (by rfl)) s2 k2 _ _ fun v s3 k3 hv => hQ v s3 k3 ?_) monoStarts (fun s2 k2 Q E hQ => (S8'.v (by rfl)) s2 k2 _ _ fun v s3 k3 hv => hQ v s3 k3 ?_) monoOwners
    · cases (hv : v = _); exact monoMails _ _ _ (k2.trans k3).heap tm
    · cases (hv : v = _); exact monoStarts _ _ _ (k2.trans k3).heap tx
    · cases (hv : v = _); exact monoOwners _ _ _ (k2.trans k3).heap to
  · intro vs' s2 k2 hvs
    obtain ⟨x1, _, rfl, q1, x2, _, rfl, q2, x3, _, rfl, q3, rfl⟩ := hvs
    exact told_ev ((Gs S8').keeps k2.heap) (hA.less (by omega)) (by omega) hl1 (by omega) (by omega) q1 q2 q3
  cases (hc : c = _)
  rw [if_neg (by simp)]
  refine wpAny_execs_nil ?_
  have S9 : St { s with heap := g } [] L [("owners", .ref oa), ("starts", .ref xa), ("mails", .ref ma), ("script", .ref sa)] [eL xa xits, eL ma mits, eC (L + 1) (some (.ref wa)), eC (L + 2) none, eC (L + 3) (some (.str (T (stream ms)) ts)), tabL none] s9 := by
    refine (S8'.kps k9).sub ?_
    rw [hB, List.cons_append, List.append_assoc]
    exact .cons _ ((List.Sublist.cons_cons _ (.cons _ (List.sublist_append_right lw _))).trans (List.sublist_append_right lo _))
  -- places
  have len_s : ∀ {s' : Shared} {p1 p2 p3 : Pos} {vals ents}, St { s with heap := g } [] L vals ents s' → s'.heap.IsCell (L + 3) (some (.str (T (stream ms)) ts)) → Ev (model prg w) A s' (eval (.Call (.Name "len" p1) [.Name "stream" p2] [] p3) (envOfC "law" (kf 95).scope L fa (.ref 94))) (rI (stream ms).length) := fun {s' p1 p2 p3 vals ents} S' h1 => by
    rw [← T_len]
    exact len_ev (Gs S') (Ev.asS (Ev.cell h1)) (by rw [T_len]; omega)
  refine wpAny_execs_cons (S9.assignCL (c := L + 2) (v₀ := none) (pre := [eL xa xits, eL ma mits, eC (L + 1) (some (.ref wa))]) (post := [eC (L + 3) (some (.str (T (stream ms)) ts)), tabL none]) rfl (listRange_ev (i := 0) (j := ((stream ms).length : Int) + 1) (n := (stream ms).length + 1) (Gs S9) hA.hd ?_ (by omega) (by omega) (by omega) (by omega)) fun pa pits s10 hP hpn S10 => ?_)
  · exact range1_ev (Gs S9) (Ev.add (len_s S9 (S9.own (eC (L + 3) (some (.str (T (stream ms)) ts))) (by simp))) Ev.kI)
  have S10' : St { s with heap := g } [] L [("owners", .ref oa), ("starts", .ref xa), ("mails", .ref ma), ("script", .ref sa)] ([eL pa pits, eL xa xits, eL ma mits, eC (L + 1) (some (.ref wa)), eC (L + 2) (some (.ref pa)), eC (L + 3) (some (.str (T (stream ms)) ts))] ++ [tabL none]) s10 := S10
  -- ends
  have hnd := (List.pairwise_append.mp S10'.nd).2.2
  have far : ∀ (h : Heap), (∀ b o, b ∉ (tabL none).fp → s10.heap.get? b = some o → h.get? b = some o) → EndsAt w mg mb L pa pits ms ts h := fun h hk => by
    have tr : ∀ e ∈ [eL pa pits, eL xa xits, eL ma mits, eC (L + 1) (some (.ref wa)), eC (L + 2) (some (.ref pa)), eC (L + 3) (some (.str (T (stream ms)) ts))], e.P h := fun e he => e.loc (fun a ha o q => hk a o (hnd e he _ (by simp) a ha) q) (S10'.own e (List.mem_append_left _ he))
    refine ⟨G0.keeps fun b o e => hk b o (fun hb => ?_) (gk S10' b o e), tr (eC (L + 2) (some (.ref pa))) (by simp), tr (eC (L + 3) (some (.str (T (stream ms)) ts))) (by simp), Heap.PlainList.isList (tr (eL pa pits) (by simp))⟩
    have : b = 92 := by simpa [eTab] using hb
    subst this
    rw [h92] at e; cases e
  refine wpAny_execs_cons (S10'.assignCompM (f := tabL) (oc := none) (pre := [eL pa pits, eL xa xits, eL ma mits, eC (L + 1) (some (.ref wa)), eC (L + 2) (some (.ref pa)), eC (L + 3) (some (.str (T (stream ms)) ts))]) (post := []) rfl (n := ms.length) (a := 0) (b := (ms.length : Nat)) (c := 1) (cl := [("stream", L + 3), ("places", L + 2)]) (fun i ys => IntsAre ys.toList (natsI ((List.range i).map fun m => startOf ms (m + 1)))) hA.hd ?_ hsm hrs ?_ .nil fun da dits oc s11 hJ hdn S11 => ?_)
  · exact rng S10' (by rfl) (Heap.PlainList.isList (S10'.own (eL ma mits) (by simp)))
  · intro C D i ys oc' e s' t hi' hJ' S' E'
    have hys : ys.size ≤ 100000 := by have := hJ'.length; simp [natsI] at this; omega
    exact ends_turn (pars := _) (sc := _) (sc2 := _) far (hA.less (by omega)) hP (by omega) hi' hys hJ' S' (by rfl) (by rfl) (by rfl)
  -- the end
  have d11 : s11.heap.PlainList da dits := S11.at0
  have x11 : s11.heap.PlainList xa xits := S11.own (eL xa xits) (by simp)
  have c11 : s11.heap.IsCell (L + 3) (some (.str (T (stream ms)) ts)) := S11.own (eC (L + 3) (some (.str (T (stream ms)) ts))) (by simp)
  have hxsz : xits.size = ms.length := by have := hxJ.length; simpa [natsI] using this
  refine wpAny_execs_cons (wpAny_Return_some (Ev.go (R := rV (.bool true)) ?_ fun v s12 k12 hv => ?_))
  · have := Ev.eqL (prog := prg) (w := w) (A := A) (b := s11) (env := envOfC "law" (kf 95).scope L fa (.ref 94)) (pos := ⟨112, 11, 112, 45⟩) (l := .Name "ends" ⟨112, 11, 112, 15⟩)
      (r := .BinOp (.Subscript (.Name "starts" ⟨112, 19, 112, 25⟩) (.Slice (some (.Constant (.int 1) 0 ⟨112, 26, 112, 27⟩)) none none ⟨112, 26, 112, 28⟩) ⟨112, 19, 112, 29⟩) .Add (.List [.Call (.Name "len" ⟨112, 33, 112, 36⟩) [.Name "stream" ⟨112, 37, 112, 43⟩] [] ⟨112, 33, 112, 44⟩] ⟨112, 32, 112, 45⟩) ⟨112, 19, 112, 45⟩)
      (ns := natsI ((List.range ms.length).map fun m => startOf ms (m + 1))) (ms := (natsI ((List.range ms.length).map (startOf ms))).drop 1 ++ [((stream ms).length : Int)]) (by have := hA.un; omega)
      (fun s2 k2 Q E hQ => (S11.v (by rfl)) s2 k2 _ _ fun v s3 k3 hv => hQ v s3 k3 ⟨da, dits, hv, (d11.isList).at fun o e => (k2.trans k3).heap _ o e, hJ⟩)
      ((Ev.catL (P1 := fun x => x = (xits.toList.drop 1).toArray) (P2 := fun x => IntsAre x.toList [((stream ms).length : Int)]) ?_ ?_ ?_).weak ?_)
    · rw [decide_eq_true (ends_eq hne)] at this
      exact this
    · refine (Ev.sliceL (P := fun its => its = xits) (lo := some (1 : Int)) (hi := none) (fun s2 k2 Q E hQ => (S11.v (by rfl)) s2 k2 _ _ fun v s3 k3 hv => hQ v s3 k3 ⟨xa, xits, hv, (x11.isList).at fun o e => (k2.trans k3).heap _ o e, rfl⟩) (fun its h => by rw [h]; omega) (Ev.pI Ev.kI) Ev.pN).weak ?_
      rintro v h ⟨a, its, rfl, hn', hp, src, rfl, rfl⟩
      exact ⟨a, _, rfl, hp, slicePick_from' _ 1⟩
    · refine (Ev.disp (Rs := [rI ((stream ms).length : Nat)]) (P := fun x => IntsAre x.toList [((stream ms).length : Int)]) ?_ fun vs h hvs => ?_).weak fun v h hv => new_plain hv
      · exact Ev.s1 (len_s S11 c11) monoI
      · obtain ⟨x1, _, rfl, ⟨u1, rfl⟩, rfl⟩ := hvs
        exact ⟨by simp, .cons _ _ .nil⟩
    · rintro x y rfl h3
      have e2 := h3.length
      simp at e2 ⊢
      omega
    · rintro v h ⟨a, its, rfl, hn', hp, x, y, rfl, h4, rfl⟩
      refine ⟨a, _, rfl, hp.isList, ?_⟩
      show IntsAre ((xits.toList.drop 1).toArray ++ y).toList _
      rw [Array.toList_append]
      exact IntsAre.append (intsAre_drop hxJ 1) h4
  · cases (hv : v = _)
    have S12 := S11.kps k12
    obtain ⟨h, tk, e⟩ := S12.same
    exact hQ s12 oc ⟨h, tk, e⟩ (gk S12) (S12.own (tabL oc) (by simp))
end
end Mine

end

/- E17 -/
section
open PySem PySem.W PyProof.Rows
namespace Mine

theorem tab_grown {P : Addr} {ln cl : Nat} {q : Str} {oc : Option Addr} {h : Heap} (x : (eTab P ln cl q oc).P h) : GrownAt P h := by
  cases oc with
  | none => exact ⟨_, x⟩
  | some c => exact ⟨_, x.1⟩

end Mine
open Mine
set_option maxRecDepth 100000 in
set_option maxHeartbeats 8000000 in
theorem PySem.Challenge.cw_nb0087_02_holds : PySem.Challenge.rw_nb0087_02.Holds := by
  apply Mine.hd
  w_strict (k_go0; rename_i hp1 tk1 wo3 wo2 wo1 hwo3 hwo2 hwo1 X0 X1 T1 K1 F1 N1 l0; refine Mine.law_wp (Mine.gd_of T1 X1) ⟨rfl, (by show callerA.depth + 1 + 10 < recursionLimit; decide), (by show callerA.units + 3 + 10 * 10 < cLine; decide)⟩ (N1 _ (.tail _ (.tail _ (.tail _ (.head _))))).2.2 (ghost_fresh (Heap.get?_none_of_le (Nat.le_refl _))) (N1 _ (.tail _ (.tail _ (.head _)))).2.2 (N1 _ (.tail _ (.head _))).2.2 (N1 _ (.head _)).2.2 l0 F1.keep F1.ns (by rfl) ⟨_, (N1 _ (.tail _ (.tail _ (.head _)))).1, hwo1⟩ ⟨_, (N1 _ (.tail _ (.head _))).1, hwo2⟩ ⟨_, (N1 _ (.head _)).1, hwo3⟩ (N1 _ (.tail _ (.tail _ (.tail _ (.head _))))).1 lifted ‹IntsAre _ _› (by omega) ?_; intro s' oc hs' hk hP; obtain ⟨hh, tk, rfl⟩ := hs'; refine ⟨⟨.inl ⟨_, .bool true, [], rfl, raisesW_false ?_, .bool true, ?_, unshared_nil⟩, hk, rfl, ‹_ = #[]›⟩, Mine.tab_grown hP, trivial⟩; (· wrow_none_raised); (· wrow_post))

end
