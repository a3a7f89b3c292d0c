import PyProof.Rows.All
import Wide.All
import OpenK.AllK
import Wide.FinOn
import PySem.Challenge.RW_nb0087_01
set_option Elab.async false

/- Top01 -/
section
open PySem PySem.W PyProof.Rows
namespace Mine
set_option maxRecDepth 100000 in
set_option maxHeartbeats 8000000 in
open_top hd for PySem.Challenge.rw_nb0087_01
end Mine

end

/- Sre1 -/
section
open PySem PySem.Sre
namespace Mine

abbrev code1 : Array Nat := #[14, 4, 0, 1, 1, 6, 1, 16, 46, 1]
abbrev code2 : Array Nat := #[14, 9, 4, 1, 2, 16, 10, 16, 13, 0, 7, 7, 16, 13, 16, 10, 15, 18, 5, 16, 10, 15, 13, 11, 16, 13, 5, 5, 0, 16, 10, 1, 15, 2, 0, 1]

/-- the machine comes to an end where P holds -/
def Goes (P : M → Prop) (k : Nat) (m : M) : Prop := ∃ n, n ≤ k ∧ (M.runFor n m).outcome.isSome = true ∧ P (M.runFor n m)

theorem Goes.step {P : M → Prop} {k : Nat} {m : M} (h0 : m.outcome = none) (h : Goes P k m.step) : Goes P (k + 1) m := by
  obtain ⟨n, h0', h1, h2⟩ := h
  refine ⟨n + 1, Nat.succ_le_succ h0', ?_⟩
  rw [M.runFor, h0]
  exact ⟨h1, h2⟩

theorem Goes.to {P : M → Prop} {k : Nat} {m m' : M} (h0 : m.outcome = none) (hs : m.step = m') (h : Goes P k m') : Goes P (k + 1) m := Goes.step h0 (hs ▸ h)

theorem Goes.here {P : M → Prop} {k : Nat} {m : M} (h : m.outcome.isSome = true) (hp : P m) : Goes P k m := ⟨0, Nat.zero_le _, h, hp⟩

theorem Goes.mono {P Q : M → Prop} {k : Nat} {m : M} (h : Goes P k m) (hq : ∀ m, P m → Q m) : Goes Q k m := let ⟨n, h0, h1, h2⟩ := h; ⟨n, h0, h1, hq _ h2⟩
theorem Goes.le {P : M → Prop} {k k' : Nat} {m : M} (h : Goes P k m) (hk : k ≤ k') : Goes P k' m := let ⟨n, h0, h1⟩ := h; ⟨n, Nat.le_trans h0 hk, h1⟩

section
variable {P : M → Prop} {m : M} {k : Nat}

theorem step_exec (ho : m.outcome = none) (ha : m.answer = none) (hpc : m.pc < m.code.size) : m.step = m.exec := by
  unfold M.step; simp [ho, ha, hpc]

theorem word0 {k : Nat} (hop : m.code.getD m.pc 0 = k) : ops[m.word 0]? = ops[k]? := by unfold M.word; rw [Nat.add_zero, hop]

theorem g_lit_ok (ho : m.outcome = none) (ha : m.answer = none) (hpc : m.pc < m.code.size) (hop : m.code.getD m.pc 0 = 16)
    (hl : m.pos < m.lim) (hc : m.text.getD m.pos 0 = m.code.getD (m.pc + 1) 0)
    (h : ∀ sn, Goes P k { m with seen := sn, pc := m.pc + 2, pos := m.pos + 1 }) : Goes P (k + 1) m := by
  refine Goes.to ho ((step_exec ho ha hpc).trans ?_) (h (m.seen.add (m.word 0)))
  have e2 : ops[m.code.getD m.pc 0]? = some .LITERAL := by rw [hop]; rfl
  unfold M.exec
  rw [(word0 hop).trans (rfl : _ = some Op.LITERAL)]
  dsimp only
  rw [if_neg (Nat.not_le.mpr hl)]
  simp only [accepts, e2, hc, beq_self_eq_true, itemWidth]

theorem g_lit_end (ho : m.outcome = none) (ha : m.answer = none) (hpc : m.pc < m.code.size) (hop : m.code.getD m.pc 0 = 16)
    (hl : m.lim ≤ m.pos) (h : ∀ sn, Goes P k { m with seen := sn, answer := some false }) : Goes P (k + 1) m := by
  refine Goes.to ho ((step_exec ho ha hpc).trans ?_) (h (m.seen.add (m.word 0)))
  unfold M.exec
  rw [(word0 hop).trans (rfl : _ = some Op.LITERAL)]
  dsimp only
  rw [if_pos hl]; rfl

theorem g_lit_no (ho : m.outcome = none) (ha : m.answer = none) (hpc : m.pc < m.code.size) (hop : m.code.getD m.pc 0 = 16)
    (hc : m.text.getD m.pos 0 ≠ m.code.getD (m.pc + 1) 0)
    (h : ∀ sn, Goes P k { m with seen := sn, answer := some false }) : Goes P (k + 1) m := by
  by_cases hl : m.pos < m.lim
  · refine Goes.to ho ((step_exec ho ha hpc).trans ?_) (h (m.seen.add (m.word 0)))
    have e2 : ops[m.code.getD m.pc 0]? = some .LITERAL := by rw [hop]; rfl
    have e3 : (m.text.getD m.pos 0 == m.code.getD (m.pc + 1) 0) = false := by simpa using hc
    unfold M.exec
    rw [(word0 hop).trans (rfl : _ = some Op.LITERAL)]
    dsimp only
    rw [if_neg (Nat.not_le.mpr hl)]
    simp only [accepts, e2, e3]
    rfl
  · exact g_lit_end ho ha hpc hop (by omega) h

theorem g_jump (ho : m.outcome = none) (ha : m.answer = none) (hpc : m.pc < m.code.size) (hop : m.code.getD m.pc 0 = 15)
    (h : ∀ sn, Goes P k { m with seen := sn, pc := m.pc + 1 + m.code.getD (m.pc + 1) 0 }) : Goes P (k + 1) m := by
  refine Goes.to ho ((step_exec ho ha hpc).trans ?_) (h (m.seen.add (m.word 0)))
  unfold M.exec
  rw [(word0 hop).trans (rfl : _ = some Op.JUMP)]
  rfl

theorem g_success (ho : m.outcome = none) (ha : m.answer = none) (hpc : m.pc < m.code.size) (hop : m.code.getD m.pc 0 = 1)
    (hw : m.wholeText = false) (hm : m.mustAdvance = false)
    (h : ∀ sn, Goes P k { m with seen := sn, handed := m.pos, answer := some true }) : Goes P (k + 1) m := by
  refine Goes.to ho ((step_exec ho ha hpc).trans ?_) (h (m.seen.add (m.word 0)))
  unfold M.exec
  rw [(word0 hop).trans (rfl : _ = some Op.SUCCESS)]
  dsimp only
  rw [hw, hm]
  simp [M.say]

theorem g_branch (ho : m.outcome = none) (ha : m.answer = none) (hpc : m.pc < m.code.size) (hop : m.code.getD m.pc 0 = 7) (hi : m.inner = none)
    (hn : m.code.getD (m.pc + 1) 0 ≠ 0) (hw : m.weight < 1000)
    (h : ∀ sn, Goes P k { m with seen := sn, frames := { wait := .nextBranch, pc := m.pc + 1, pos := m.pos, outermost := m.outermost, kept := { lastmark := m.lastmark, lastindex := m.lastindex } } :: m.frames, weight := m.weight + 1, pc := m.pc + 2, handed := m.pos }) : Goes P (k + 1) m := by
  refine Goes.to ho ((step_exec ho ha hpc).trans ?_) (h (m.seen.add (m.word 0)))
  unfold M.exec
  rw [(word0 hop).trans (rfl : _ = some Op.BRANCH)]
  dsimp only
  unfold M.alternative
  simp only [hi, M.keep, Option.isSome_none, Bool.false_eq_true, if_false]
  rw [if_neg (by simpa using hn)]
  unfold M.attempt
  rw [if_neg (by simp; omega)]
  simp [M.frame]

theorem g_not (ho : m.outcome = none) (ha : m.answer = none) (hpc : m.pc < m.code.size) (hop : m.code.getD m.pc 0 = 5) (hi : m.inner = none)
    (hn : m.code.getD (m.pc + 2) 0 = 0) (hw : m.weight < 1000)
    (h : ∀ sn, Goes P k { m with seen := sn, frames := { wait := .lookNot, pc := m.pc, pos := m.pos, outermost := m.outermost, kept := { lastmark := m.lastmark, lastindex := m.lastindex } } :: m.frames, weight := m.weight + 1, pc := m.pc + 3, handed := m.pos, outermost := false }) : Goes P (k + 1) m := by
  refine Goes.to ho ((step_exec ho ha hpc).trans ?_) (h (m.seen.add (m.word 0)))
  unfold M.exec
  rw [(word0 hop).trans (rfl : _ = some Op.ASSERT_NOT)]
  dsimp only
  simp only [M.word, hn, Nat.not_lt_zero, if_false, if_true, Nat.sub_zero]
  unfold M.attempt
  simp only [hi, M.keep, Option.isSome_none, Bool.and_false, Bool.false_eq_true, if_false]
  rw [if_neg (by simp; omega)]
  simp [M.frame]

theorem g_at1_ok (ho : m.outcome = none) (ha : m.answer = none) (hpc : m.pc < m.code.size) (hop : m.code.getD m.pc 0 = 6) (hk : m.code.getD (m.pc + 1) 0 = 1)
    (hc : m.pos = 0 ∨ m.text.getD (m.pos - 1) 0 = 10) (h : ∀ sn, Goes P k { m with seen := sn, pc := m.pc + 2 }) : Goes P (k + 1) m := by
  refine Goes.to ho ((step_exec ho ha hpc).trans ?_) (h ((m.seen.add (m.word 0)).add (43 + m.word 1)))
  have e2 : (m.pos == 0 || m.text.getD (m.pos - 1) 0 == 10) = true := by simpa using hc
  have e3 : m.word 1 = 1 := hk
  unfold M.exec
  rw [(word0 hop).trans (rfl : _ = some Op.AT)]
  dsimp only
  have e4 : M.isAt { m with seen := m.seen.add (m.word 0) } (m.word 1) = .ok true := by
    rw [e3]
    show Except.ok (m.pos == 0 || m.text.getD (m.pos - 1) 0 == 10) = _
    rw [e2]
  show (match M.isAt { m with seen := m.seen.add (m.word 0) } (m.word 1) with | .error why => _ | .ok yes => _) = _
  rw [e4]
  rfl

theorem g_at1_no (ho : m.outcome = none) (ha : m.answer = none) (hpc : m.pc < m.code.size) (hop : m.code.getD m.pc 0 = 6) (hk : m.code.getD (m.pc + 1) 0 = 1)
    (hc : ¬ (m.pos = 0 ∨ m.text.getD (m.pos - 1) 0 = 10)) (h : ∀ sn, Goes P k { m with seen := sn, answer := some false }) : Goes P (k + 1) m := by
  refine Goes.to ho ((step_exec ho ha hpc).trans ?_) (h ((m.seen.add (m.word 0)).add (43 + m.word 1)))
  have e2 : (m.pos == 0 || m.text.getD (m.pos - 1) 0 == 10) = false := by simpa using hc
  have e3 : m.word 1 = 1 := hk
  unfold M.exec
  rw [(word0 hop).trans (rfl : _ = some Op.AT)]
  dsimp only
  have e4 : M.isAt { m with seen := m.seen.add (m.word 0) } (m.word 1) = .ok false := by
    rw [e3]
    show Except.ok (m.pos == 0 || m.text.getD (m.pos - 1) 0 == 10) = _
    rw [e2]
  show (match M.isAt { m with seen := m.seen.add (m.word 0) } (m.word 1) with | .error why => _ | .ok yes => _) = _
  rw [e4]
  rfl

theorem g_done {yes : Bool} (ho : m.outcome = none) (ha : m.answer = some yes) (hf : m.frames = []) (h : P { m with outcome := some (if yes then .matched else .failed) }) : Goes P (k + 1) m := by
  refine Goes.to ho (m' := { m with outcome := some (if yes then .matched else .failed) }) ?_ (Goes.here rfl h)
  unfold M.step; simp [ho, ha, hf]

theorem g_back {yes : Bool} {f : Sre.Frame} {rest : List Sre.Frame} (ho : m.outcome = none) (ha : m.answer = some yes) (hf : m.frames = f :: rest)
    (h : Goes P k (M.resume { m with answer := none, frames := rest, weight := m.weight - (1 + f.kept.marks.size), pc := f.pc, pos := f.pos, outermost := f.outermost } f yes)) : Goes P (k + 1) m := by
  refine Goes.to ho ?_ h
  unfold M.step; simp [ho, ha, hf]
end

/-- what the search finds: from s on, the first place of which S says a length, and that length -/
def Found (i j : Nat) (m : M) : Prop := m.outcome = some .matched ∧ m.start = i ∧ m.handed = j
def Failed (m : M) : Prop := m.outcome = some .failed

section
variable (text : Array Nat) (lim s ls : Nat) (sn : Seen) (om : Bool) (hd : Nat)
abbrev try2 : M := { code := code2, text := text, lim := lim, start := s, lastStart := ls, pc := 10, pos := s, handed := hd, outermost := om, marks := #[], frames := [{ wait := .nextStart, pc := 10, pos := s, outermost := om }], weight := 1, seen := sn }
abbrev try1 : M := { code := code1, text := text, lim := lim, start := s, lastStart := ls, pc := 5, pos := s, handed := hd, outermost := om, marks := #[], frames := [{ wait := .nextStart, pc := 5, pos := s, outermost := om }], weight := 1, seen := sn }

theorem tail2 {k : Nat} {m : M} {f : Sre.Frame} {i j : Nat} (h1 : m.outcome = none) (h2 : m.answer = some true) (h3 : m.frames = [f, { wait := .nextStart, pc := 10, pos := s, outermost := om }]) (h4 : f.wait = .nextBranch) (h5 : m.start = i) (h6 : m.handed = j) : Goes (Found i j) (k + 3) m := by
  refine g_back h1 h2 h3 ?_
  unfold M.resume; rw [h4]
  refine g_back (m := M.say _ true) h1 rfl rfl ?_
  refine g_done (m := M.say _ true) h1 rfl rfl ⟨rfl, h5, h6⟩

theorem run2_crlf (h1 : text.getD s 0 = 13) (h2 : text.getD (s + 1) 0 = 10) (hs : s + 1 < lim) : Goes (Found s (s + 2)) 20 (try2 text lim s ls sn om hd) := by
  refine g_branch rfl rfl (by exact of_decide_eq_true rfl) rfl rfl (by exact Nat.succ_ne_zero _) (by exact of_decide_eq_true rfl) fun sn => ?_
  dsimp only
  refine g_lit_ok rfl rfl (by exact of_decide_eq_true rfl) rfl (by show s < lim; omega) h1 fun sn => ?_
  dsimp only
  refine g_lit_ok rfl rfl (by exact of_decide_eq_true rfl) rfl hs h2 fun sn => ?_
  dsimp only
  refine g_jump rfl rfl (by exact of_decide_eq_true rfl) rfl fun sn => ?_
  dsimp only
  refine g_success rfl rfl (by exact of_decide_eq_true rfl) rfl rfl rfl fun sn => ?_
  dsimp only
  exact tail2 (s := s) (om := om) rfl rfl rfl rfl rfl rfl

theorem next2 {k : Nat} {P : M → Prop} {m : M} {f : Sre.Frame} {alt alt2 : Nat} {rest : List Sre.Frame} (h1 : m.outcome = none) (h2 : m.answer = some false) (h3 : m.frames = f :: rest) (h4 : f.wait = .nextBranch) (h5 : f.kept.whole = false) (h6 : f.kept.marks = #[])
    (h7 : f.pc = alt) (hn : alt + m.code.getD alt 0 = alt2) (hz : m.code.getD alt2 0 ≠ 0) (hw : m.weight < 1000)
    (h : ∀ sn, Goes P k { m with answer := none, frames := { wait := .nextBranch, pc := alt2, pos := f.pos, outermost := f.outermost, kept := f.kept } :: rest, weight := m.weight - 1 + 1, pc := alt2 + 1, pos := f.pos, handed := f.pos, outermost := f.outermost, lastmark := f.kept.lastmark, lastindex := f.kept.lastindex, seen := sn }) : Goes P (k + 1) m := by
  refine g_back h1 h2 h3 ?_
  unfold M.resume; rw [h4]
  simp only [Bool.false_eq_true, if_false, M.putBack, h5, h6, h7, hn]
  unfold M.alternative
  dsimp only
  rw [if_neg (by simpa using hz)]
  unfold M.attempt
  simp only [h6]
  rw [if_neg (by show ¬ (_ > _); simp; omega)]
  exact h m.seen

theorem run2_lf (h1 : text.getD s 0 = 10) (hs : s < lim) : Goes (Found s (s + 1)) 20 (try2 text lim s ls sn om hd) := by
  refine g_branch rfl rfl (by exact of_decide_eq_true rfl) rfl rfl (by exact Nat.succ_ne_zero _) (by exact of_decide_eq_true rfl) fun sn => ?_
  dsimp only
  refine g_lit_no rfl rfl (by exact of_decide_eq_true rfl) rfl (by show text.getD s 0 ≠ 13; omega) fun sn => ?_
  dsimp only
  refine next2 rfl rfl rfl rfl rfl rfl rfl rfl (by exact Nat.succ_ne_zero _) (by exact of_decide_eq_true rfl) fun sn => ?_
  dsimp only
  refine g_lit_ok rfl rfl (by exact of_decide_eq_true rfl) rfl hs h1 fun sn => ?_
  dsimp only
  refine g_jump rfl rfl (by exact of_decide_eq_true rfl) rfl fun sn => ?_
  dsimp only
  refine g_success rfl rfl (by exact of_decide_eq_true rfl) rfl rfl rfl fun sn => ?_
  dsimp only
  exact tail2 (s := s) (om := om) rfl rfl rfl rfl rfl rfl

theorem lookNot_no {k : Nat} {P : M → Prop} {m : M} {f : Sre.Frame} {rest : List Sre.Frame} (h1 : m.outcome = none) (h2 : m.answer = some false) (h3 : m.frames = f :: rest) (h4 : f.wait = .lookNot) (h5 : f.kept.whole = false)
    (h : ∀ sn, Goes P k { m with answer := none, frames := rest, weight := m.weight - (1 + f.kept.marks.size), pc := f.pc + 1 + m.code.getD (f.pc + 1) 0, pos := f.pos, outermost := f.outermost, lastmark := f.kept.lastmark, lastindex := f.kept.lastindex, seen := sn }) : Goes P (k + 1) m := by
  refine g_back h1 h2 h3 ?_
  unfold M.resume; rw [h4]; dsimp only [Bool.false_eq_true, if_false, M.putBack]
  have := h m.seen
  simpa [h5, M.word] using this

theorem run2_cr (h1 : text.getD s 0 = 13) (h2 : s + 1 < lim → text.getD (s + 1) 0 ≠ 10) (hs : s < lim) : Goes (Found s (s + 1)) 20 (try2 text lim s ls sn om hd) := by
  have no10 : ∀ {k : Nat} {P : M → Prop} {m : M}, m.outcome = none → m.answer = none → m.pc < m.code.size → m.code.getD m.pc 0 = 16 → m.code.getD (m.pc + 1) 0 = 10 → m.pos = s + 1 → m.text = text → m.lim = lim →
      (∀ sn, Goes P k { m with seen := sn, answer := some false }) → Goes P (k + 1) m := fun {k P m} a b c d e f g k h => by
    by_cases hl : s + 1 < lim
    · exact g_lit_no a b c d (by rw [e, f, g]; exact h2 hl) h
    · exact g_lit_end a b c d (by rw [f, k]; omega) h
  refine g_branch rfl rfl (by exact of_decide_eq_true rfl) rfl rfl (by exact Nat.succ_ne_zero _) (by exact of_decide_eq_true rfl) fun sn => ?_
  dsimp only
  refine g_lit_ok rfl rfl (by exact of_decide_eq_true rfl) rfl hs h1 fun sn => ?_
  dsimp only
  refine no10 rfl rfl (by exact of_decide_eq_true rfl) rfl rfl rfl rfl rfl fun sn => ?_
  dsimp only
  refine next2 rfl rfl rfl rfl rfl rfl rfl rfl (by exact Nat.succ_ne_zero _) (by exact of_decide_eq_true rfl) fun sn => ?_
  dsimp only
  refine g_lit_no rfl rfl (by exact of_decide_eq_true rfl) rfl (by show text.getD s 0 ≠ 10; omega) fun sn => ?_
  dsimp only
  refine next2 rfl rfl rfl rfl rfl rfl rfl rfl (by exact Nat.succ_ne_zero _) (by exact of_decide_eq_true rfl) fun sn => ?_
  dsimp only
  refine g_lit_ok rfl rfl (by exact of_decide_eq_true rfl) rfl hs h1 fun sn => ?_
  dsimp only
  refine g_not rfl rfl (by exact of_decide_eq_true rfl) rfl rfl rfl (by exact of_decide_eq_true rfl) fun sn => ?_
  dsimp only
  refine no10 rfl rfl (by exact of_decide_eq_true rfl) rfl rfl rfl rfl rfl fun sn => ?_
  dsimp only
  refine lookNot_no rfl rfl rfl rfl rfl fun sn => ?_
  dsimp only
  refine g_jump rfl rfl (by exact of_decide_eq_true rfl) rfl fun sn => ?_
  dsimp only
  refine g_success rfl rfl (by exact of_decide_eq_true rfl) rfl rfl rfl fun sn => ?_
  dsimp only
  exact tail2 (s := s) (om := om) rfl rfl rfl rfl rfl rfl
end
end Mine

end

/- Sre2 -/
section
open PySem PySem.Sre
namespace Mine

abbrev isNl (c : Nat) : Prop := c = 10 ∨ c = 13

theorem inSet2 (c : Nat) (sn : Seen) : ∃ sn', inSet code2 c code2.size 5 true sn = .ok (decide (isNl c), sn') := by
  show ∃ sn', inSet code2 c 36 5 true sn = _
  by_cases h1 : c = 10
  · subst h1; exact ⟨sn.add 16, rfl⟩
  · by_cases h2 : c = 13
    · subst h2; exact ⟨(sn.add 16).add 16, rfl⟩
    · refine ⟨((sn.add 16).add 16).add 0, ?_⟩
      have e1 : (c == 10) = false := by simpa using h1
      have e2 : (c == 13) = false := by simpa using h2
      have e3 : decide (isNl c) = false := by simp [isNl, h1, h2]
      rw [e3]
      show (if (c == 10) = true then _ else inSet code2 c 35 7 true (sn.add 16)) = _
      rw [e1]
      show (if (c == 13) = true then _ else inSet code2 c 34 9 true ((sn.add 16).add 16)) = _
      rw [e2]
      rfl

theorem admitted_found {m : M} (hc : m.code = code2) {i : Nat} (hi : i < m.lim) (hnl : isNl (m.text.getD i 0)) : ∀ (fuel s : Nat) (sn : Seen), s ≤ i → i < s + fuel → (∀ j, s ≤ j → j < i → ¬ isNl (m.text.getD j 0)) →
    ∃ sn', M.admitted m fuel s sn = .ok (some i, sn')
  | 0, s, sn, h1, h2, _ => by omega
  | fuel + 1, s, sn, h1, h2, h3 => by
    unfold M.admitted
    rw [if_neg (by omega), hc]
    obtain ⟨sn', e⟩ := inSet2 (m.text.getD s 0) sn
    rw [e]
    by_cases hs : s = i
    · subst hs
      rw [decide_eq_true hnl]
      exact ⟨sn', rfl⟩
    · rw [decide_eq_false (h3 s (Nat.le_refl _) (by omega))]
      exact admitted_found hc hi hnl fuel (s + 1) sn' (by omega) (by omega) fun j a b => h3 j (by omega) b

theorem admitted_none {m : M} (hc : m.code = code2) : ∀ (fuel s : Nat) (sn : Seen), (∀ j, s ≤ j → j < m.lim → ¬ isNl (m.text.getD j 0)) → ∃ sn', M.admitted m fuel s sn = .ok (none, sn')
  | 0, s, sn, _ => ⟨sn, rfl⟩
  | fuel + 1, s, sn, h3 => by
    unfold M.admitted
    by_cases hs : m.lim ≤ s
    · rw [if_pos hs]; exact ⟨sn, rfl⟩
    · rw [if_neg hs, hc]
      obtain ⟨sn', e⟩ := inSet2 (m.text.getD s 0) sn
      rw [e, decide_eq_false (h3 s (Nat.le_refl _) (by omega))]
      exact admitted_none hc fuel (s + 1) sn' fun j a b => h3 j (by omega) b

section
variable (text : Array Nat) (s lim : Nat)
abbrev m0_2 (sn : Seen) : M := { code := code2, text := text, lim := lim, start := s, lastStart := lim, pc := 10, pos := s, handed := s, marks := #[], seen := sn }
abbrev m0_1 (sn : Seen) : M := { code := code1, text := text, lim := lim, start := s, lastStart := lim, pc := 5, pos := s, handed := s, marks := #[], seen := sn }

theorem forSearch2 (h : s < lim) : ∃ sn, forSearch code2 text 0 s lim false = (m0_2 text s lim sn).attemptFrom s true := by
  refine ⟨({} : Seen).add 14, ?_⟩
  unfold forSearch
  dsimp only
  rw [if_neg (by show ¬ ((decide (s > lim) || decide (lim - s < 1)) = true); simp; omega)]
  rfl

theorem forSearch1 (h : s < lim) : ∃ sn, forSearch code1 text 0 s lim false = (m0_1 text s lim sn).attemptFrom s true := by
  refine ⟨({} : Seen).add 14, ?_⟩
  unfold forSearch
  dsimp only
  rw [if_neg (by show ¬ ((decide (s > lim) || decide (lim - s < 1)) = true); simp; omega)]
  rfl

theorem forSearch_end (h : lim ≤ s) : Goes Failed 1 (forSearch code2 text 0 s lim false) ∧ Goes Failed 1 (forSearch code1 text 0 s lim false) := by
  constructor
  · unfold forSearch
    dsimp only
    rw [if_pos (by show (decide (s > lim) || decide (lim - s < 1)) = true; simp; omega)]
    exact g_done (yes := false) rfl rfl rfl rfl
  · unfold forSearch
    dsimp only
    rw [if_pos (by show (decide (s > lim) || decide (lim - s < 1)) = true; simp; omega)]
    exact g_done (yes := false) rfl rfl rfl rfl

/-- how much a line's end at i takes -/
def nlW (i : Nat) : Nat := if text.getD i 0 = 13 ∧ i + 1 < lim ∧ text.getD (i + 1) 0 = 10 then 2 else 1

theorem search2_found {i : Nat} (hs : s ≤ i) (hi : i < lim) (hnl : isNl (text.getD i 0)) (hno : ∀ j, s ≤ j → j < i → ¬ isNl (text.getD j 0)) :
    Goes (Found i (i + nlW text lim i)) 20 (forSearch code2 text 0 s lim false) := by
  obtain ⟨sn, e⟩ := forSearch2 text s lim (by omega)
  rw [e]
  unfold M.attemptFrom
  rw [if_neg (by show ¬ (false = true); decide)]
  obtain ⟨sn', e2⟩ := admitted_found (m := m0_2 text s lim sn) rfl (i := i) hi hnl (lim + 1 - s) s sn hs (by omega) hno
  show Goes _ _ (match M.admitted (m0_2 text s lim sn) (lim + 1 - s) s sn with | .ok (some s, seen) => _ | .ok (none, seen) => _ | .error why => _)
  rw [e2]
  show Goes _ _ (try2 text lim i lim sn' true i)
  unfold nlW
  by_cases h1 : text.getD i 0 = 13
  · by_cases h2 : i + 1 < lim ∧ text.getD (i + 1) 0 = 10
    · rw [if_pos ⟨h1, h2⟩]; exact run2_crlf text lim i lim sn' true i h1 h2.2 h2.1
    · rw [if_neg fun q => h2 q.2]; exact run2_cr text lim i lim sn' true i h1 (fun a b => h2 ⟨a, b⟩) hi
  · rw [if_neg fun q => h1 q.1]
    exact run2_lf text lim i lim sn' true i (hnl.resolve_right h1) hi

theorem search2_none (hno : ∀ j, s ≤ j → j < lim → ¬ isNl (text.getD j 0)) : Goes Failed 20 (forSearch code2 text 0 s lim false) := by
  by_cases hs : lim ≤ s
  · exact (forSearch_end text s lim hs).1.le (by decide)
  obtain ⟨sn, e⟩ := forSearch2 text s lim (by omega)
  rw [e]
  unfold M.attemptFrom
  rw [if_neg (by show ¬ (false = true); decide)]
  obtain ⟨sn', e2⟩ := admitted_none (m := m0_2 text s lim sn) rfl (lim + 1 - s) s sn hno
  show Goes _ _ (match M.admitted (m0_2 text s lim sn) (lim + 1 - s) s sn with | .ok (some s, seen) => _ | .ok (none, seen) => _ | .error why => _)
  rw [e2]
  exact Goes.le (k := 1) (g_done (m := M.say _ false) (yes := false) rfl rfl rfl rfl) (by decide)

def isDot (i : Nat) : Prop := text.getD i 0 = 46 ∧ (i = 0 ∨ text.getD (i - 1) 0 = 10)

theorem run1_ok (ls : Nat) (sn : Seen) (om : Bool) (hd : Nat) (hs : s < lim) (h : isDot text s) : Goes (Found s (s + 1)) 6 (try1 text lim s ls sn om hd) := by
  refine g_at1_ok rfl rfl (by exact of_decide_eq_true rfl) rfl rfl h.2 fun sn => ?_
  dsimp only
  refine g_lit_ok rfl rfl (by exact of_decide_eq_true rfl) rfl hs h.1 fun sn => ?_
  dsimp only
  refine g_success rfl rfl (by exact of_decide_eq_true rfl) rfl rfl rfl fun sn => ?_
  dsimp only
  refine g_back rfl rfl rfl ?_
  refine g_done (m := M.say _ true) rfl rfl rfl ⟨rfl, rfl, rfl⟩

theorem run1_no {P : M → Prop} {k : Nat} (ls : Nat) (sn : Seen) (om : Bool) (hd : Nat) (h : ¬ (s < lim ∧ isDot text s))
    (hk : ∀ sn hd, Goes P k (M.resume { code := code1, text := text, lim := lim, start := s, lastStart := ls, pc := 5, pos := s, handed := hd, outermost := om, marks := #[], frames := [], weight := 0, seen := sn } { wait := .nextStart, pc := 5, pos := s, outermost := om } false)) :
    Goes P (k + 3) (try1 text lim s ls sn om hd) := by
  have fin : ∀ {k' : Nat} {m : M}, Goes P k' m → k' ≤ k + 2 → Goes P (k + 2) m := fun h q => h.le q
  by_cases h1 : s = 0 ∨ text.getD (s - 1) 0 = 10
  · refine g_at1_ok rfl rfl (by exact of_decide_eq_true rfl) rfl rfl h1 fun sn => ?_
    dsimp only
    have no46 : ∀ {m : M}, m.outcome = none → m.answer = none → m.pc < m.code.size → m.code.getD m.pc 0 = 16 → m.code.getD (m.pc + 1) 0 = 46 → m.pos = s → m.text = text → m.lim = lim →
        (∀ sn, Goes P (k + 1) { m with seen := sn, answer := some false }) → Goes P (k + 1 + 1) m := fun {m} a b c d e f g k h' => by
      by_cases hl : s < lim
      · exact g_lit_no a b c d (by rw [e, f, g]; exact fun q => h ⟨hl, q, h1⟩) h'
      · exact g_lit_end a b c d (by rw [f, k]; omega) h'
    refine no46 rfl rfl (by exact of_decide_eq_true rfl) rfl rfl rfl rfl rfl fun sn => ?_
    dsimp only
    exact g_back rfl rfl rfl (hk _ _)
  · refine g_at1_no rfl rfl (by exact of_decide_eq_true rfl) rfl rfl h1 fun sn => ?_
    dsimp only
    exact fin (g_back (k := k) rfl rfl rfl (hk _ _)) (by omega)

theorem walk1_found {i : Nat} (hi : i < lim) (hdot : isDot text i) : ∀ (d s : Nat) (sn : Seen) (om : Bool) (hd : Nat), i = s + d → (∀ j, s ≤ j → j < i → ¬ isDot text j) →
    Goes (Found i (i + 1)) (3 * d + 6) (try1 text lim s lim sn om hd)
  | 0, s, sn, om, hd, e, _ => by
    have e : i = s := by omega
    subst e; exact run1_ok text i lim lim sn om hd hi hdot
  | d + 1, s, sn, om, hd, e, hno => by
    refine Goes.le (k := (3 * d + 6) + 3) (run1_no text s lim lim sn om hd (fun q => hno s (Nat.le_refl _) (by omega) q.2) fun sn hd => ?_) (by omega)
    unfold M.resume
    dsimp only
    rw [if_neg (by decide), if_pos (by omega)]
    unfold M.attemptFrom
    rw [if_pos (by exact of_decide_eq_true rfl)]
    show Goes _ _ (try1 text lim (s + 1) lim sn false (s + 1))
    exact walk1_found hi hdot d (s + 1) sn false (s + 1) (by omega) fun j a b => hno j (by omega) b

theorem walk1_none : ∀ (d s : Nat) (sn : Seen) (om : Bool) (hd : Nat), lim = s + d → (∀ j, s ≤ j → j < lim → ¬ isDot text j) →
    Goes Failed (3 * d + 6) (try1 text lim s lim sn om hd)
  | 0, s, sn, om, hd, e, _ => by
    refine Goes.le (k := 1 + 3) (run1_no text s lim lim sn om hd (fun q => by omega) fun sn hd => ?_) (by omega)
    unfold M.resume
    dsimp only
    rw [if_neg (by decide), if_neg (by omega)]
    exact g_done (yes := false) rfl rfl rfl rfl
  | d + 1, s, sn, om, hd, e, hno => by
    refine Goes.le (k := (3 * d + 6) + 3) (run1_no text s lim lim sn om hd (fun q => hno s (Nat.le_refl _) q.1 q.2) fun sn hd => ?_) (by omega)
    unfold M.resume
    dsimp only
    rw [if_neg (by decide), if_pos (by omega)]
    unfold M.attemptFrom
    rw [if_pos (by exact of_decide_eq_true rfl)]
    show Goes _ _ (try1 text lim (s + 1) lim sn false (s + 1))
    exact walk1_none d (s + 1) sn false (s + 1) (by omega) fun j a b => hno j (by omega) b

theorem search1_found {i : Nat} (hs : s ≤ i) (hi : i < lim) (hdot : isDot text i) (hno : ∀ j, s ≤ j → j < i → ¬ isDot text j) :
    Goes (Found i (i + 1)) (3 * lim + 6) (forSearch code1 text 0 s lim false) := by
  obtain ⟨sn, e⟩ := forSearch1 text s lim (by omega)
  rw [e]
  unfold M.attemptFrom
  rw [if_pos (by exact of_decide_eq_true rfl)]
  show Goes _ _ (try1 text lim s lim sn true s)
  exact (walk1_found text lim hi hdot (i - s) s sn true s (by omega) hno).le (by omega)

theorem search1_none (hno : ∀ j, s ≤ j → j < lim → ¬ isDot text j) : Goes Failed (3 * lim + 6) (forSearch code1 text 0 s lim false) := by
  by_cases hs : lim ≤ s
  · exact (forSearch_end text s lim hs).2.le (by omega)
  obtain ⟨sn, e⟩ := forSearch1 text s lim (by omega)
  rw [e]
  unfold M.attemptFrom
  rw [if_pos (by exact of_decide_eq_true rfl)]
  show Goes _ _ (try1 text lim s lim sn true s)
  exact (walk1_none text lim (lim - s) s sn true s (by omega) hno).le (by omega)
end
end Mine

end

/- Sub1 -/
section
open PySem PySem.Builtin PySem.Builtin.Re PyProof.Rows
namespace Mine
set_option maxRecDepth 100000

section facts
theorem slot_sub : Slot "re.Pattern" "sub" "re.Pattern.sub" :=
  .of (owner := "re.Pattern") (n := "sub") (by rw [typeLookup_type, builtinLookup_eq_fast]; kernel_rfl) (by decide +kernel) (by decide +kernel) (by decide +kernel)
    (by first | exact .inl (by decide +kernel) | exact .inr (by decide +kernel)) (by rw [isSubtype_type]; kernel_rfl)
theorem type_sub : typeOf (.builtin "re.Pattern.sub") = pure (.type "method_descriptor") := by show builtinType _ = _; rw [builtinType_eq_fast]; kernel_rfl
theorem entry_sub : entryFor table "re.Pattern.sub" = some Builtin.«re.Pattern.sub» := entryFor_of_tree (by kernel_rfl)
theorem entry_loop : entryFor table "re.Pattern.sub.loop" = some Builtin.«re.Pattern.sub.loop» := entryFor_of_tree (by kernel_rfl)
theorem args_sub (a b c : Value) : argsOk "re.Pattern.sub" ⟨[a, b, c], []⟩ := by
  unfold argsOk; kernel_rfl
theorem str_no_call : typeLookup (.type "str") "__call__" = pure none := by rw [typeLookup_type, builtinLookup_eq_fast]; kernel_rfl
theorem loop_plain : plainId "re.Pattern.sub.loop" = true := by decide +kernel
end facts

section
variable {M : Model} {A : Around} {E : Value → Shared → Prop} {s : Shared}

theorem runFor_stable : ∀ (n : Nat) (m : Sre.M), m.outcome.isSome = true → Sre.M.runFor n m = m
  | 0, _, _ => rfl
  | n + 1, m, h => by rw [Sre.M.runFor, if_pos h]
theorem runFor_add : ∀ (a b : Nat) (m : Sre.M), Sre.M.runFor (a + b) m = Sre.M.runFor b (Sre.M.runFor a m)
  | 0, b, m => by rw [Nat.zero_add]; rfl
  | a + 1, b, m => by
    by_cases h : m.outcome.isSome = true
    · rw [runFor_stable _ m h, runFor_stable _ m h, runFor_stable _ m h]
    · rw [Nat.add_right_comm, Sre.M.runFor, if_neg h, Sre.M.runFor, if_neg h, runFor_add a b]

theorem goes_four {P : Sre.M → Prop} {k : Nat} {m : Sre.M} (h : Goes P (k + 4) m) :
    ((Sre.M.runFor 4 m).outcome.isSome = true ∧ P (Sre.M.runFor 4 m)) ∨ Goes P k (Sre.M.runFor 4 m) := by
  obtain ⟨n, h0, h1, h2⟩ := h
  by_cases hn : n ≤ 4
  · left
    obtain ⟨d, e⟩ : ∃ d, 4 = n + d := ⟨4 - n, by omega⟩
    rw [e, runFor_add, runFor_stable d _ h1]
    exact ⟨h1, h2⟩
  · right
    refine ⟨n - 4, by omega, ?_⟩
    rw [← runFor_add, show 4 + (n - 4) = n by omega]
    exact ⟨h1, h2⟩

theorem reDrive_goes {P : Sre.M → Prop} {Q : Sre.M → Shared → Prop} (hQ : ∀ m, m.outcome.isSome = true → P m → Q m s) : ∀ (turns k : Nat) (m : Sre.M), Goes P k m → k < 4 * turns → wpAny M A (reDrive turns m) Q E s
  | 0, k, m, _, h => by omega
  | turns + 1, k, m, hg, hk => by
    rw [reDrive]
    show wpAny M A (if (Sre.M.runFor 4 m).outcome.isSome = true then pure (Sre.M.runFor 4 m) else (do rule "sre.turn"; reDrive turns (Sre.M.runFor 4 m))) Q E s
    by_cases hs : (Sre.M.runFor 4 m).outcome.isSome = true
    · rw [if_pos hs]
      refine wpAny_pure ?_
      obtain ⟨n, h0, h1, h2⟩ := hg
      have e : Sre.M.runFor n m = Sre.M.runFor 4 m := by
        by_cases hn : n ≤ 4
        · obtain ⟨d, e⟩ : ∃ d, 4 = n + d := ⟨4 - n, by omega⟩
          rw [e, runFor_add, runFor_stable d _ h1]
        · obtain ⟨d, e⟩ : ∃ d, n = 4 + d := ⟨n - 4, by omega⟩
          rw [e, runFor_add, runFor_stable d _ hs]
      rw [e] at h2
      exact hQ _ hs h2
    · rw [if_neg hs]
      refine wpAny_bind (wpAny_rule ?_)
      rcases goes_four (hg.le (Nat.le_add_right k 4)) with h | h
      · exact absurd h.1 hs
      · by_cases h4 : k < 4
        · exfalso
          obtain ⟨n, h0, h1, h2⟩ := hg
          obtain ⟨d, e⟩ : ∃ d, 4 = n + d := ⟨4 - n, by omega⟩
          rw [e, runFor_add, runFor_stable d _ h1] at hs
          exact hs h1
        · have h' : Goes P (k - 4) (Sre.M.runFor 4 m) := by
            rcases goes_four (k := k - 4) (hg.le (by omega)) with q | q
            · exact absurd q.1 hs
            · exact q
          exact reDrive_goes hQ turns (k - 4) _ h' (by omega)

theorem forIn_silent {α : Type} {f : α → PUnit → Sem (ForInStep PUnit)} (hf : ∀ a, ∀ (Q : ForInStep PUnit → Shared → Prop), Q (.yield ⟨⟩) s → wpAny M A (f a ⟨⟩) Q E s) {Q : PUnit → Shared → Prop} (h : Q ⟨⟩ s) :
    ∀ l : List α, wpAny M A (forIn l (⟨⟩ : PUnit) f) Q E s
  | [] => by rw [List.forIn_nil]; exact wpAny_pure h
  | a :: l => by
    rw [List.forIn_cons]
    exact wpAny_bind (hf a _ (forIn_silent hf h l))

theorem runToEnd_found {i j k : Nat} {m : Sre.M} {Q : Option Sre.M → Shared → Prop} (hg : Goes (Found i j) k m) (hk : k < 1000000000) (hQ : ∀ m, m.start = i → m.handed = j → Q (some m) s) : wpAny M A (reRunToEnd m) Q E s := by
  unfold reRunToEnd
  refine wpAny_bind (reDrive_goes (fun m' hs hp => ?_) _ k m hg (by show k < 4 * 18446744073709551616; omega))
  refine wpAny_bind (forIn_silent (fun a Q' h' => ?_) ?_ _)
  · split
    · exact wpAny_bind (wpAny_rule (wpAny_pure h'))
    · exact wpAny_pure h'
  · obtain ⟨h1, h2, h3⟩ := hp
    rw [h1]
    exact wpAny_pure (hQ _ h2 h3)

theorem runToEnd_failed {k : Nat} {m : Sre.M} {Q : Option Sre.M → Shared → Prop} (hg : Goes Failed k m) (hk : k < 1000000000) (hQ : Q none s) : wpAny M A (reRunToEnd m) Q E s := by
  unfold reRunToEnd
  refine wpAny_bind (reDrive_goes (fun m' hs hp => ?_) _ k m hg (by show k < 4 * 18446744073709551616; omega))
  refine wpAny_bind (forIn_silent (fun a Q' h' => ?_) ?_ _)
  · split
    · exact wpAny_bind (wpAny_rule (wpAny_pure h'))
    · exact wpAny_pure h'
  · have h1 : m'.outcome = some .failed := hp
    rw [h1]
    exact wpAny_pure hQ
end

section
variable {prog : Program} {w : World} {A : Around} {E : Value → Shared → Prop} {s : Shared}

/-- the compiled pattern stands at a, its words at c -/
def IsPat (h : Heap) (a : Addr) (code : Array Nat) : Prop :=
  ∃ c p0 p1 o d2, h.get? a = some { cls := .type "re.Pattern", data := .fields #[p0, p1, .int 0 0, .none, .none, .ref c, .int 0 0] } ∧ h.get? c = some o ∧ (∃ its n, o.data = .seq its n ∧ its = d2 ∧ (d2.map reRawOf).map (·.toNat) = code)

theorem IsPat.keeps {h h' : Heap} {a : Addr} {code : Array Nat} (x : IsPat h a code) (hk : ∀ b o, h.get? b = some o → h'.get? b = some o) : IsPat h' a code :=
  let ⟨c, p0, p1, o, d2, e1, e2, r⟩ := x; ⟨c, p0, p1, o, d2, hk _ _ e1, hk _ _ e2, r⟩

theorem wholeTarget {pat : Addr} {code : Array Nat} {x : Str} {t : Tok} {Q : ReTarget → Shared → Prop} (hp : IsPat s.heap pat code)
    (hQ : Q { pattern := .ref pat, string := .str x t, code := code, text := x.cps, kind := 0, groups := 0, pos := 0, lim := x.cps.size } s) :
    wpAny (model prog w) A (reWholeTarget (.ref pat) (.str x t)) Q E s := by
  obtain ⟨c, p0, p1, o, d2, e1, e2, its, n, e3, rfl, e4⟩ := hp
  unfold reWholeTarget
  refine wpAny_bind (wpAny_fieldsOf e1 rfl ?_)
  unfold reTextOf
  refine wpAny_bind (wpAny_bind (wpAny_pure (wpAny_pure ?_)))
  show wpAny _ _ (reNoCollectionInside (.str x t) 0 >>= _) _ _ _
  refine wpAny_bind (wpAny_pure ?_)
  unfold reRawItems
  refine wpAny_bind (wpAny_bind (wpAny_seqItems e2 e3 (wpAny_pure (wpAny_pure ?_))))
  show Q _ _
  dsimp only [Option.getD]
  rw [e4]
  exact hQ
end
end Mine

end

/- Sub2 -/
section
open PySem PySem.Builtin PySem.Builtin.Re PyProof.Rows
namespace Mine
set_option maxRecDepth 100000

/-- what sub makes of the text from d on -/
inductive Subs (code text : Array Nat) (r : List Nat) : Nat → List Nat → Prop
  | stop {d : Nat} (k : Nat) (hk : k < 1000000000) (h : Goes Failed k (Sre.forSearch code text 0 d text.size false)) : Subs code text r d (text.toList.drop d)
  | go {d i j : Nat} {out : List Nat} (k : Nat) (hk : k < 1000000000) (h : Goes (Found i j) k (Sre.forSearch code text 0 d text.size false)) (hd : d ≤ i) (hij : i < j) (hj : j ≤ text.size) (rest : Subs code text r j out) :
      Subs code text r d ((text.toList.drop d).take (i - d) ++ (r ++ out))

theorem Subs.len {code text : Array Nat} {r : List Nat} {d : Nat} {out : List Nat} (h : Subs code text r d out) (hr : r.length ≤ 2) : out.length ≤ 3 * (text.size - d) := by
  induction h with
  | stop k hk h => simp; omega
  | go k hk h hd hij hj rest ih =>
    simp only [List.length_append, List.length_take, List.length_drop, Array.length_toList]
    omega

def flat (ys : List Str) : List Nat := (ys.map (fun y : Str => y.cps.toList)).flatten

theorem flat_snoc (ys : List Str) (y : Str) : flat (ys ++ [y]) = flat ys ++ y.cps.toList := by simp [flat]

theorem flat_len (ys : List Str) : (ys.map (·.length)).sum = (flat ys).length := by
  unfold flat
  rw [List.length_flatten, List.map_map]
  rfl

theorem str_join_flat : ∀ ys : List Str, Str.join ⟨#[]⟩ ys = ⟨(flat ys).toArray⟩
  | [] => rfl
  | [x] => by simp [Str.join, flat]
  | x :: y :: r => by
    rw [Str.join, str_join_flat (y :: r)]
    · show Str.append (Str.append x ⟨#[]⟩) _ = _
      simp [Str.append, flat]
    · intro h; cases h

theorem join_flat (ys : List Str) : Txt.join ⟨#[]⟩ ys = ⟨(flat ys).toArray⟩ := (StrLaws.glued_eq_join _ ys).trans (str_join_flat ys)

theorem strsAre_snoc {vs : List Value} {ys : List Str} (h : StrsAre vs ys) (y : Str) (t : Tok) : StrsAre (vs ++ [.str y t]) (ys ++ [y]) := by
  induction h with
  | nil => exact .cons y t .nil
  | cons y' t' r ih => exact .cons y' t' ih

section
variable {prog : Program} {w : World} {A : Around} {E : Value → Shared → Prop} {s : Shared}

theorem push_piece {l : Addr} {items : Array Value} {v : Value} {Q : Unit → Shared → Prop} (hl : s.heap.PlainList l items) (hsz : items.size ≤ 100000)
    (hQ : ∀ h', h'.PlainList l (items.push v) → Heap.SameBut l s.heap h' → Q () { s with heap := h' }) : wpAny (model prog w) A (updateSeq l (·.push v)) Q E s := by
  obtain ⟨n, ho⟩ := hl
  refine wpAny_updateSeq ho rfl (hQ _ ⟨n + 1, ?_⟩ (Heap.SameBut.update ..)) (by unfold sizeLine; omega) (by unfold sizeLine; rw [Array.size_push]; omega)
  rw [Heap.get?_update_self _ ho (by rw [Obj.mapSeq_push_plain]; rfl), Obj.mapSeq_push_plain]

abbrev loopCode (pat : Addr) (x : Str) (t : Tok) (r : Str) (tr : Tok) (n d : Int) (l : Addr) : Code :=
  .builtin "re.Pattern.sub.loop" ⟨[.ref pat, .str x t, .str r tr, rawInt 0, rawInt 0, rawInt n, rawInt d, rawInt d, .bool false, .ref l, .bool false], []⟩

theorem sub_loop {h₀ : Heap} {pat l : Addr} {code : Array Nat} {x : Str} {t : Tok} {r : Str} {tr : Tok} {R : Result → Shared → Prop} (hp : IsPat h₀ pat code) (hl₀ : h₀.get? l = none) (hr : r.cps.size ≤ 2) (hx : x.cps.size ≤ 10000) {d : Nat} {out : List Nat} (hsub : Subs code x.cps r.cps.toList d out) :
    ∀ (n : Int) (s : Shared) (items : Array Value) (ys : List Str), (∀ b o, h₀.get? b = some o → s.heap.get? b = some o) → s.heap.PlainList l items → StrsAre items.toList ys →
      items.size ≤ 2 * d → (flat ys).length ≤ 3 * d → d ≤ x.cps.size →
      (∀ h' tk t', (∀ b o, h₀.get? b = some o → h'.get? b = some o) → R (.ok (.ret (.str ⟨(flat ys ++ out).toArray⟩ t'))) { s with heap := h', toks := tk }) →
      codeAny (model prog w) A (loopCode pat x t r tr n d l) R s := by
  have keepL : ∀ {h h' : Heap}, (∀ b o, h₀.get? b = some o → h.get? b = some o) → Heap.SameBut l h h' → ∀ b o, h₀.get? b = some o → h'.get? b = some o := fun k sb b o e =>
    sb.extBut b o (by rintro rfl; rw [hl₀] at e; cases e) (k b o e)
  have hz : (⟨x.cps.extract 0 0⟩ : Str).length = 0 := by simp [Str.length]
  have cut : ∀ a b : Nat, (⟨x.cps.extract a b⟩ : Str).cps.toList = (x.cps.toList.drop a).take (b - a) := fun a b => by simp
  induction hsub with
  | @stop d k hk hg =>
    intro n s items ys hk₀ hl hI hsz hfl hd hR
    refine codeAny_builtin entry_loop ?_
    rw [Around.under_plainId loop_plain]
    unfold Builtin.«re.Pattern.sub.loop»
    dsimp only [rawInt]
    refine wpAny_bind (wholeTarget (hp.keeps hk₀) ?_)
    show wpAny _ _ (reLiteralCannotBeTurned (.str r tr) >>= _) _ _ _
    refine wpAny_bind (wpAny_bind (wpAny_pure (wpAny_pure ?_)))
    dsimp only
    refine wpAny_bind (m := reNextFound _ _ _) ?_
    unfold reNextFound
    refine runToEnd_failed (k := k) hg hk ?_
    dsimp only
    by_cases hlt : d < x.cps.size
    · rw [if_pos (by show (Int.toNat (d : Int)) < x.cps.size; simpa using hlt)]
      refine wpAny_bind (m := reSlice _ _ _ _) (wpAny_mkStr ?_ (by show (x.cps.extract _ _).size ≤ 16777216; simp; omega))
      refine wpAny_bind (push_piece hl (by omega) fun h₁ hl₁ sb₁ => ?_)
      refine wpAny_bind (m := reSlice _ _ _ _) (wpAny_mkStr ?_ (by show (x.cps.extract _ _).size ≤ 16777216; simp))
      obtain ⟨nn, ho⟩ := hl₁
      refine wpAny_bind (m := seqItems? _) (wpAny_seqItems ho rfl ?_)
      rw [if_neg (by show ¬ ((items.push _).isEmpty = true); simp)]
      refine wpAny_bind (m := call _ _) ?_
      have hI' := strsAre_snoc hI (⟨x.cps.extract d x.cps.size⟩ : Str) s.toks
      have hc := cut d x.cps.size
      have hfl' : (flat (ys ++ [(⟨x.cps.extract d x.cps.size⟩ : Str)])).length ≤ 3 * x.cps.size := by
        rw [flat_snoc, List.length_append, hc]; simp; omega
      refine join_list (ys := ys ++ [(⟨x.cps.extract d x.cps.size⟩ : Str)]) (s := { s with heap := h₁, toks := s.toks + 1 + 1 }) ⟨_, ho, rfl, nn, rfl⟩ (by simpa using hI') (by rw [flat_len, hz]; omega) fun t' kk => ?_
      refine wpAny_pure ?_
      have := hR h₁ kk t' (keepL hk₀ sb₁)
      rw [show (⟨x.cps.extract 0 0⟩ : Str) = ⟨#[]⟩ by simp, join_flat, flat_snoc, hc, List.take_of_length_le (by simp)]
      exact this
    · rw [if_neg (by show ¬ ((Int.toNat (d : Int)) < x.cps.size); simpa using hlt)]
      refine wpAny_bind (m := reSlice _ _ _ _) (wpAny_mkStr ?_ (by show (x.cps.extract _ _).size ≤ 16777216; simp))
      obtain ⟨nn, ho⟩ := hl
      have hnil : x.cps.toList.drop d = [] := by rw [List.drop_eq_nil_iff]; simpa using hlt
      refine wpAny_bind (m := seqItems? _) (wpAny_seqItems ho rfl ?_)
      by_cases hE : items.isEmpty = true
      · rw [if_pos (show ((some items).getD #[]).isEmpty = true from hE)]
        refine wpAny_bind (wpAny_pure ?_)
        refine wpAny_pure ?_
        have e1 : items = #[] := by simpa using hE
        subst e1
        cases hI
        have := hR s.heap (s.toks + 1) s.toks hk₀
        rw [hnil] at this
        rw [show (⟨x.cps.extract 0 0⟩ : Str) = ⟨#[]⟩ by simp]
        exact this
      · rw [if_neg (show ¬ ((some items).getD #[]).isEmpty = true from hE)]
        refine wpAny_bind (m := call _ _) ?_
        refine join_list (ys := ys) (s := { s with toks := s.toks + 1 }) ⟨_, ho, rfl, nn, rfl⟩ hI (by rw [flat_len, hz]; omega) fun t' kk => ?_
        refine wpAny_pure ?_
        have := hR s.heap kk t' hk₀
        rw [hnil, List.append_nil] at this
        rw [show (⟨x.cps.extract 0 0⟩ : Str) = ⟨#[]⟩ by simp, join_flat]
        exact this
  | @go d i j out k hk hg hdi hij hj rest ih =>
    intro n s items ys hk₀ hl hI hsz hfl hd hR
    refine codeAny_builtin entry_loop ?_
    rw [Around.under_plainId loop_plain]
    unfold Builtin.«re.Pattern.sub.loop»
    dsimp only [rawInt]
    refine wpAny_bind (wholeTarget (hp.keeps hk₀) ?_)
    show wpAny _ _ (reLiteralCannotBeTurned (.str r tr) >>= _) _ _ _
    refine wpAny_bind (wpAny_bind (wpAny_pure (wpAny_pure ?_)))
    dsimp only
    refine wpAny_bind (m := reNextFound _ _ _) ?_
    unfold reNextFound
    refine runToEnd_found (k := k) hg hk fun m hs hh => ?_
    dsimp only
    have hne : (m.handed == m.start) = false := by rw [hs, hh]; simpa using (by omega : ¬ j = i)
    rw [hne, hs, hh]
    by_cases hlt : d < i
    · rw [if_pos (by show (Int.toNat (d : Int)) < i; simpa using hlt)]
      refine wpAny_bind (m := reSlice _ _ _ _) (wpAny_mkStr ?_ (by show (x.cps.extract _ _).size ≤ 16777216; simp; omega))
      refine wpAny_bind (push_piece hl (by omega) fun h₁ hl₁ sb₁ => ?_)
      rw [if_pos (by rfl)]
      refine wpAny_bind (wpAny_pure ?_)
      rw [if_pos (by rfl)]
      refine wpAny_bind (push_piece hl₁ (by rw [Array.size_push]; omega) fun h₂ hl₂ sb₂ => ?_)
      refine wpAny_pure ⟨plainId_quiet loop_plain _, ?_⟩
      have hc := cut d i
      have hI' := strsAre_snoc (strsAre_snoc hI (⟨x.cps.extract d i⟩ : Str) s.toks) r tr
      refine ih (n + 1) _ _ ((ys ++ [(⟨x.cps.extract d i⟩ : Str)]) ++ [r]) (keepL (keepL hk₀ sb₁) sb₂) hl₂ (by simpa using hI') (by simp; omega) ?_ hj fun h' tk t' hk' => ?_
      · rw [flat_snoc, flat_snoc, List.length_append, List.length_append, hc]; simp; omega
      · have := hR h' tk t' hk'
        rw [flat_snoc, flat_snoc, hc]
        simpa [List.append_assoc] using this
    · have hdi' : d = i := by omega
      rw [if_neg (by show ¬ ((Int.toNat (d : Int)) < i); simpa using hlt)]
      rw [if_pos (by rfl)]
      refine wpAny_bind (wpAny_pure ?_)
      rw [if_pos (by rfl)]
      refine wpAny_bind (push_piece hl (by omega) fun h₂ hl₂ sb₂ => ?_)
      refine wpAny_pure ⟨plainId_quiet loop_plain _, ?_⟩
      have hI' := strsAre_snoc hI r tr
      refine ih (n + 1) _ _ (ys ++ [r]) (keepL hk₀ sb₂) hl₂ (by simpa using hI') (by simp; omega) ?_ hj fun h' tk t' hk' => ?_
      · rw [flat_snoc, List.length_append]; simp; omega
      · have := hR h' tk t' hk'
        rw [flat_snoc]
        subst hdi'
        simpa [List.append_assoc] using this

theorem getD_ofText {x : Str} (d : Nat) : x.cps.getD d 0 = x.cps.toList.getD d 0 := by simp

/-- pattern.sub(repl, text), the pattern without groups, the replacement a text without backslashes -/
theorem sub_call {pat : Addr} {code : Array Nat} {x : Str} {t : Tok} {r : Str} {tr : Tok} {out : List Nat} {Q : Value → Shared → Prop} (hp : IsPat s.heap pat code) (hr : r.cps.size ≤ 2) (hx : x.cps.size ≤ 10000) (hb : r.cps.contains 92 = false)
    (hsub : Subs code x.cps r.cps.toList 0 out) (hQ : ∀ h' tk t', (∀ b o, s.heap.get? b = some o → h'.get? b = some o) → Q (.str ⟨out.toArray⟩ t') { s with heap := h', toks := tk }) :
    wpAny (model prog w) A (call (.builtin "re.Pattern.sub") [.ref pat, .str r tr, .str x t]) Q E s := by
  have hT : s.TypeIs (.ref pat) "re.Pattern" := by
    obtain ⟨c, p0, p1, o, d2, e1, _⟩ := hp
    exact ⟨_, e1, rfl⟩
  refine wpAny_call (codeAny_call_builtin slot_sub.plain entry_sub (slot_sub.check _ _ _ _ _ _ _ _ hT (args_sub _ _ _) ?_))
  unfold Builtin.«re.Pattern.sub» reSubstitute
  dsimp only
  have hn : reNamed "re.Pattern.sub" "sub" ["repl", "string", "count"] 2 [.str r tr, .str x t] [] = pure [some (.str r tr), some (.str x t), none] := rfl
  rw [hn]
  refine wpAny_bind (wpAny_pure ?_)
  dsimp only
  refine wpAny_bind (wpAny_pure ?_)
  refine wpAny_bind (wpAny_specialOf_val (T := "str") rfl str_no_call ?_)
  dsimp only [Option.isSome]
  refine wpAny_bind (m := asStr? _) (wpAny_pure ?_)
  dsimp only
  refine wpAny_bind (wpAny_pure ?_)
  rw [hb]
  refine wpAny_bind (wpAny_pure ?_)
  dsimp only
  refine wpAny_bind (wpAny_holding (wholeTarget hp ?_))
  refine wpAny_bind (m := newList []) (wpAny_newList ?_)
  refine wpAny_pure ⟨plainId_quiet loop_plain _, ?_⟩
  refine sub_loop (h₀ := s.heap) (code := code) (d := 0) hp (Heap.get?_none_of_le (Nat.le_refl _)) hr hx hsub 0 _ #[] [] (fun b o e => Heap.get?_push_of_some _ e) ⟨0, Heap.get?_push_size _ rfl⟩ .nil (by simp) (by simp [flat]) (Nat.zero_le _) fun h' tk t' hk => ?_
  exact hQ h' tk t' hk
end
end Mine

end

/- Qd -/
section
open PySem PySem.Builtin PyProof.Rows
namespace Mine

/-- line ends made whole; last: the sign ahead -/
def norm : Nat → List Nat → List Nat
  | _, [] => []
  | last, c :: r => (if c = 13 ∨ (c = 10 ∧ last ≠ 13) then [13, 10] else if c = 10 then [] else [c]) ++ norm c r

/-- a dot at a line's beginning doubled -/
def dots : Nat → List Nat → List Nat
  | _, [] => []
  | prev, c :: r => (if c = 46 ∧ prev = 10 then [46, 46] else [c]) ++ dots c r

/-- what one sign adds to what is sent -/
def piece (last c : Nat) : List Nat :=
  if c = 13 ∨ (c = 10 ∧ last ≠ 13) then [13, 10]
  else if c = 46 ∧ (last = 13 ∨ last = 10) then [46, 46]
  else if c ≠ 10 then [c] else []

/-- the law's own walk -/
def beg : Nat → List Nat → List Nat
  | _, [] => []
  | last, c :: r => piece last c ++ beg c r

theorem dots_cons (prev c : Nat) (r : List Nat) : dots prev (c :: r) = (if c = 46 ∧ prev = 10 then [46, 46] else [c]) ++ dots c r := rfl

theorem dots_norm : ∀ (l : List Nat) (last prev : Nat), (prev = 10 ↔ last = 13 ∨ last = 10) → dots prev (norm last l) = beg last l
  | [], _, _, _ => rfl
  | c :: r, last, prev, h => by
    unfold norm beg piece
    by_cases h1 : c = 13 ∨ (c = 10 ∧ last ≠ 13)
    · rw [if_pos h1, if_pos h1]
      have e : dots prev ([13, 10] ++ norm c r) = [13, 10] ++ dots 10 (norm c r) := by simp [dots]
      rw [e, dots_norm r c 10 (by simp; omega)]
    · rw [if_neg h1, if_neg h1]
      by_cases h2 : c = 10
      · subst h2
        have hl : last = 13 := by simpa using h1
        simp only [if_true, List.nil_append, ne_eq, not_true_eq_false, if_false, show ¬ ((10 : Nat) = 46) by decide, false_and]
        exact dots_norm r 10 prev (by simp [h, hl])
      · rw [if_neg h2]
        have e : dots prev ([c] ++ norm c r) = (if c = 46 ∧ prev = 10 then [46, 46] else [c]) ++ dots c (norm c r) := rfl
        rw [e, dots_norm r c c (by simp; omega)]
        by_cases h3 : c = 46
        · simp [h3, h]
        · simp [h3, h2]

/-- quotedata -/
def qd (l : List Nat) : List Nat := beg 10 l

theorem first_or {p : Nat → Prop} (hp : ∀ i, Decidable (p i)) : ∀ (k d : Nat), (∀ j, d ≤ j → j < d + k → ¬ p j) ∨ ∃ i, d ≤ i ∧ i < d + k ∧ p i ∧ ∀ j, d ≤ j → j < i → ¬ p j
  | 0, d => .inl fun j a b => by omega
  | k + 1, d => by
    rcases hp d with h | h
    · rcases first_or hp k (d + 1) with q | ⟨i, a, b, c, e⟩
      · exact .inl fun j a b => if hj : j = d then hj ▸ h else q j (by omega) (by omega)
      · exact .inr ⟨i, by omega, by omega, c, fun j x y => if hj : j = d then hj ▸ h else e j (by omega) y⟩
    · exact .inr ⟨d, Nat.le_refl _, by omega, h, fun j a b => by omega⟩

theorem norm_skip : ∀ (k : Nat) (l : List Nat) (last : Nat), (∀ j, j < k → ¬ isNl (l.getD j 0)) → k ≤ l.length → norm last l = l.take k ++ norm (if k = 0 then last else l.getD (k - 1) 0) (l.drop k)
  | 0, l, last, _, _ => by simp
  | k + 1, [], last, _, h => by simp at h
  | k + 1, c :: r, last, hn, h => by
    have h0 : ¬ isNl c := by simpa using hn 0 (by omega)
    have ih := norm_skip k r c (fun j hj => by simpa using hn (j + 1) (by omega)) (by simpa using h)
    have hc : ¬ (c = 13 ∨ (c = 10 ∧ last ≠ 13)) := fun q => h0 (by unfold isNl; omega)
    have hc2 : ¬ c = 10 := fun q => h0 (.inl q)
    rw [norm, if_neg hc, if_neg hc2, ih]
    cases k with
    | zero => simp
    | succ k => simp

theorem dots_skip : ∀ (k : Nat) (l : List Nat) (prev : Nat), (∀ j, j < k → ¬ (l.getD j 0 = 46 ∧ (if j = 0 then prev else l.getD (j - 1) 0) = 10)) → k ≤ l.length → dots prev l = l.take k ++ dots (if k = 0 then prev else l.getD (k - 1) 0) (l.drop k)
  | 0, l, prev, _, _ => by simp
  | k + 1, [], prev, _, h => by simp at h
  | k + 1, c :: r, prev, hn, h => by
    have h0 : ¬ (c = 46 ∧ prev = 10) := by simpa using hn 0 (by omega)
    have ih := dots_skip k r c (fun j hj => by
      have := hn (j + 1) (by omega)
      cases j with
      | zero => simpa using this
      | succ j => simpa using this) (by simpa using h)
    rw [dots, if_neg h0, ih]
    cases k with
    | zero => simp
    | succ k => simp

theorem subs2 (text : Array Nat) (hsz : text.size ≤ 10000) : ∀ (n d last : Nat), text.size - d ≤ n → d ≤ text.size → (d < text.size → last = 13 → text.getD d 0 ≠ 10) → Subs code2 text [13, 10] d (norm last (text.toList.drop d)) := by
  intro n
  induction n with
  | zero =>
    intro d last hn hd hl
    have e : text.toList.drop d = [] := by rw [List.drop_eq_nil_iff]; simp; omega
    have := Subs.stop (r := [13, 10]) (d := d) 20 (by omega) (search2_none text d text.size (fun j a b => by omega))
    rw [e] at this ⊢
    exact this
  | succ n ih =>
    intro d last hn hd hl
    rcases first_or (p := fun i => isNl (text.getD i 0)) (fun i => inferInstance) (text.size - d) d with q | ⟨i, a, b, c, e⟩
    · have hs := Subs.stop (r := [13, 10]) (d := d) 20 (by omega) (search2_none text d text.size (fun j a b => q j a (by omega)))
      have := norm_skip (text.size - d) (text.toList.drop d) last (fun j hj => by have := q (d + j) (by omega) (by omega); simpa using this) (by simp)
      have e0 : (text.toList.drop d).drop (text.size - d) = [] := by rw [List.drop_drop, List.drop_eq_nil_iff]; simp; omega
      rw [e0, List.take_of_length_le (by simp), norm, List.append_nil] at this
      rw [this]
      exact hs
    · have hi : i < text.size := by omega
      have hsk := norm_skip (i - d) (text.toList.drop d) last (fun j hj => by have := e (d + j) (by omega) (by omega); simpa using this) (by simp; omega)
      rw [List.drop_drop, show d + (i - d) = i by omega] at hsk
      have hcons : text.toList.drop i = text.getD i 0 :: text.toList.drop (i + 1) := by
        rw [List.drop_eq_getElem_cons (by simpa using hi)]; simp [hi]
      -- the sign ahead of i is no return that i's feed belongs to
      have hlast : ∀ L, L = (if i - d = 0 then last else (text.toList.drop d).getD (i - d - 1) 0) → text.getD i 0 = 10 → L ≠ 13 := by
        intro L hL h10 h13
        by_cases h0 : i - d = 0
        · have : i = d := by omega
          subst this
          rw [if_pos (by omega)] at hL
          exact hl hi (hL ▸ h13) h10
        · rw [if_neg h0] at hL
          have := e (i - 1) (by omega) (by omega)
          have e3 : (text.toList.drop d).getD (i - d - 1) 0 = text.getD (i - 1) 0 := by
            simp [show d + (i - d - 1) = i - 1 by omega]
          rw [e3] at hL
          exact this (.inr (hL ▸ h13))
      have hgo := search2_found text d text.size a hi c e
      generalize hL : (if i - d = 0 then last else (text.toList.drop d).getD (i - d - 1) 0) = L at hsk
      have hL' := hlast L hL.symm
      rw [hsk, hcons, norm]
      have hcond : text.getD i 0 = 13 ∨ (text.getD i 0 = 10 ∧ L ≠ 13) := by
        rcases c with c | c
        · exact .inr ⟨c, hL' c⟩
        · exact .inl c
      rw [if_pos hcond]
      by_cases hw : text.getD i 0 = 13 ∧ i + 1 < text.size ∧ text.getD (i + 1) 0 = 10
      · have hW : nlW text text.size i = 2 := by unfold nlW; rw [if_pos hw]
        rw [hW] at hgo
        have hcons2 : text.toList.drop (i + 1) = 10 :: text.toList.drop (i + 2) := by
          rw [List.drop_eq_getElem_cons (by simpa using hw.2.1)]
          have := hw.2.2
          simp [hw.2.1] at this
          simp [this]
        have hrest := ih (i + 2) 10 (by omega) (by omega) (fun _ h => by omega)
        have := Subs.go (r := [13, 10]) 20 (by omega) hgo a (by omega) (by omega) hrest
        rw [hcons2, norm, hw.1]
        simpa using this
      · have hW : nlW text text.size i = 1 := by unfold nlW; rw [if_neg hw]
        rw [hW] at hgo
        have hrest := ih (i + 1) (text.getD i 0) (by omega) (by omega) (fun x y z => hw ⟨y, x, z⟩)
        exact Subs.go (r := [13, 10]) 20 (by omega) hgo a (by omega) (by omega) hrest

theorem subs1 (text : Array Nat) (hsz : text.size ≤ 10000) : ∀ (n d prev : Nat), text.size - d ≤ n → d ≤ text.size → prev = (if d = 0 then 10 else text.getD (d - 1) 0) → Subs code1 text [46, 46] d (dots prev (text.toList.drop d)) := by
  intro n
  induction n with
  | zero =>
    intro d prev hn hd hl
    have e : text.toList.drop d = [] := by rw [List.drop_eq_nil_iff]; simp; omega
    have := Subs.stop (r := [46, 46]) (d := d) (3 * text.size + 6) (by omega) (search1_none text d text.size (fun j a b => by omega))
    rw [e] at this ⊢
    exact this
  | succ n ih =>
    intro d prev hn hd hl
    have key : ∀ j, ((text.toList.drop d).getD j 0 = 46 ∧ (if j = 0 then prev else (text.toList.drop d).getD (j - 1) 0) = 10) ↔ isDot text (d + j) := by
      intro j
      unfold isDot
      have e1 : (text.toList.drop d).getD j 0 = text.getD (d + j) 0 := by simp
      rw [e1]
      refine and_congr_right fun _ => ?_
      by_cases hj : j = 0
      · subst hj
        rw [if_pos rfl, hl]
        by_cases h0 : d = 0
        · simp [h0]
        · simp [h0]
      · rw [if_neg hj]
        have e2 : (text.toList.drop d).getD (j - 1) 0 = text.getD (d + j - 1) 0 := by simp [show d + (j - 1) = d + j - 1 by omega]
        rw [e2]
        constructor
        · exact .inr
        · rintro (h | h)
          · omega
          · exact h
    rcases first_or (p := isDot text) (fun i => inferInstanceAs (Decidable (_ ∧ _))) (text.size - d) d with q | ⟨i, a, b, c, e⟩
    · have hs := Subs.stop (r := [46, 46]) (d := d) (3 * text.size + 6) (by omega) (search1_none text d text.size (fun j a b => q j a (by omega)))
      have := dots_skip (text.size - d) (text.toList.drop d) prev (fun j hj => by rw [key]; exact q (d + j) (by omega) (by omega)) (by simp)
      have e0 : (text.toList.drop d).drop (text.size - d) = [] := by rw [List.drop_drop, List.drop_eq_nil_iff]; simp; omega
      rw [e0, List.take_of_length_le (by simp), dots, List.append_nil] at this
      rw [this]
      exact hs
    · have hi : i < text.size := by omega
      have hsk := dots_skip (i - d) (text.toList.drop d) prev (fun j hj => by rw [key]; exact e (d + j) (by omega) (by omega)) (by simp; omega)
      rw [List.drop_drop, show d + (i - d) = i by omega] at hsk
      have hcons : text.toList.drop i = text.getD i 0 :: text.toList.drop (i + 1) := by
        rw [List.drop_eq_getElem_cons (by simpa using hi)]; simp [hi]
      have hk := (key (i - d)).mpr (by rw [show d + (i - d) = i by omega]; exact c)
      have hgo := search1_found text d text.size a hi c e
      rw [hsk, hcons, dots, if_pos ⟨c.1, hk.2⟩, c.1]
      have hrest := ih (i + 1) 46 (by omega) (by omega) (by simp [c.1])
      exact Subs.go (r := [46, 46]) (3 * text.size + 6) (by omega) hgo a (by omega) (by omega) hrest

section
variable {prog : Program} {w : World} {A : Around} {E : Value → Shared → Prop} {s : Shared}
theorem beg_len : ∀ (l : List Nat) (last : Nat), (beg last l).length ≤ 2 * l.length
  | [], _ => by simp [beg]
  | c :: r, last => by
    have := beg_len r c
    rw [beg, List.length_append]
    have h2 : (piece last c).length ≤ 2 := by unfold piece; (repeat' split) <;> simp
    simp; omega
theorem norm_len : ∀ (l : List Nat) (last : Nat), (norm last l).length ≤ 2 * l.length
  | [], _ => by simp [norm]
  | c :: r, last => by
    have := norm_len r c
    rw [norm, List.length_append]
    have h2 : (if c = 13 ∨ (c = 10 ∧ last ≠ 13) then [13, 10] else if c = 10 then [] else [c]).length ≤ 2 := by (repeat' split) <;> simp
    rw [List.length_cons]; omega

/-- the two calls of sub, one behind the other -/
theorem two_subs {p1 p2 : Addr} {x : Str} {t t1 t2 : Tok} {Q : Value → Shared → Prop} (h1 : IsPat s.heap p1 code1) (h2 : IsPat s.heap p2 code2) (hx : x.cps.size ≤ 4000)
    (hQ : ∀ h' tk t', (∀ b o, s.heap.get? b = some o → h'.get? b = some o) → Q (.str ⟨(qd x.cps.toList).toArray⟩ t') { s with heap := h', toks := tk }) :
    wpAny (model prog w) A (call (.builtin "re.Pattern.sub") [.ref p2, .str ⟨#[13, 10]⟩ t2, .str x t]) (fun v s₁ => wpAny (model prog w) A (call (.builtin "re.Pattern.sub") [.ref p1, .str ⟨#[46, 46]⟩ t1, v]) Q E s₁) E s := by
  refine sub_call (out := norm 10 x.cps.toList) h2 (by decide) (by omega) (by decide +kernel) ?_ fun h' tk t' hk => ?_
  · have := subs2 x.cps (by omega) x.cps.size 0 10 (by omega) (by omega) (fun _ h => by omega)
    simpa using this
  · have hl := norm_len x.cps.toList 10
    refine sub_call (out := qd x.cps.toList) (h1.keeps hk) (by decide) (by show (norm 10 x.cps.toList).toArray.size ≤ 10000; simp at hl ⊢; omega) (by decide +kernel) ?_ fun h'' tk' t'' hk' => hQ h'' tk' t'' fun b o e => hk' b o (hk b o e)
    have := subs1 (norm 10 x.cps.toList).toArray (by simp at hl ⊢; omega) (norm 10 x.cps.toList).toArray.size 0 10 (by omega) (by omega) (by simp)
    rw [List.drop_zero, dots_norm _ 10 10 (by simp)] at this
    exact this
end
end Mine

end

/- Ev -/
section
open PySem PySem.Calls PyProof.Rows
namespace Mine
set_option maxRecDepth 100000
set_option linter.unusedVariables false

abbrev Kp (h h' : Heap) : Prop := ∀ b o, h.get? b = some o → h'.get? b = some o

structure Kps (s s' : Shared) : Prop where
  same : ∃ h tk, s' = { s with heap := h, toks := tk }
  heap : Kp s.heap s'.heap

theorem Kps.refl (s : Shared) : Kps s s := ⟨⟨s.heap, s.toks, rfl⟩, fun _ _ e => e⟩
theorem Kps.trans {a b c : Shared} (x : Kps a b) (y : Kps b c) : Kps a c :=
  ⟨by obtain ⟨h, tk, e⟩ := y.same; obtain ⟨h', tk', e'⟩ := x.same; exact ⟨h, tk, by rw [e, e']⟩, fun b o e => y.heap b o (x.heap b o e)⟩
theorem Kps.mk' {s : Shared} {h : Heap} {tk : Nat} (k : Kp s.heap h) : Kps s { s with heap := h, toks := tk } := ⟨⟨h, tk, rfl⟩, k⟩
theorem Kps.tok (s : Shared) (tk : Nat) : Kps s { s with toks := tk } := ⟨⟨s.heap, tk, rfl⟩, fun _ _ e => e⟩
theorem Kps.push (s : Shared) (o : Obj) (tk : Nat) : Kps s { s with heap := s.heap.push o, toks := tk } := ⟨⟨_, tk, rfl⟩, fun _ _ e => Heap.get?_push_of_some _ e⟩
theorem Kps.of {s s' : Shared} (x : Keeps s s') : Kps s s' := by obtain ⟨h, tk, rfl, k⟩ := x; exact ⟨⟨h, tk, rfl⟩, k⟩
theorem Kps.to {s s' : Shared} (x : Kps s s') : Keeps s s' := by obtain ⟨⟨h, tk, rfl⟩, k⟩ := x; exact ⟨h, tk, rfl, k⟩

/-- the tree keeps all that stands at b, and what it hands on is of R -/
def Ev {α : Type} (M : Model) (A : Around) (b : Shared) (t : Sem α) (R : α → Heap → Prop) : Prop :=
  ∀ s, Kps b s → ∀ (Q : α → Shared → Prop) (E : Value → Shared → Prop), (∀ v s', Kps s s' → R v s'.heap → Q v s') → wpAny M A t Q E s

abbrev rI (i : Int) (v : Value) (_ : Heap) : Prop := ∃ t, v = .int i t
abbrev rS (x : Str) (v : Value) (_ : Heap) : Prop := ∃ t, v = .str x t
abbrev rV (u : Value) (v : Value) (_ : Heap) : Prop := v = u
abbrev rB (b : Bool) (v : Bool) (_ : Heap) : Prop := v = b

section
variable {α β : Type} {M : Model} {A : Around} {b : Shared} {env : Env}

theorem Ev.base {t : Sem α} {R : α → Heap → Prop} {b' : Shared} (h : Ev M A b t R) (k : Kps b b') : Ev M A b' t R := fun s ks Q E hQ => h s (k.trans ks) Q E hQ
theorem Ev.weak {t : Sem α} {R R' : α → Heap → Prop} (h : Ev M A b t R) (hr : ∀ v h, R v h → R' v h) : Ev M A b t R' := fun s ks Q E hQ => h s ks Q E fun v s' k r => hQ v s' k (hr _ _ r)
theorem Ev.seq {m : Sem α} {f : α → Sem β} {R : α → Heap → Prop} {R' : β → Heap → Prop} (h : Ev M A b m R) (hf : ∀ v s, Kps b s → R v s.heap → Ev M A s (f v) R') : Ev M A b (m >>= f) R' :=
  fun s ks Q E hQ => wpAny_bind (h s ks _ _ fun v s' k r => hf v s' (ks.trans k) r s' (Kps.refl s') _ _ fun v' s'' k' r' => hQ v' s'' (k.trans k') r')
theorem Ev.fin {v : α} {R : α → Heap → Prop} (h : ∀ s, Kps b s → R v s.heap) : Ev M A b (pure v) R := fun s ks _ _ hQ => wpAny_pure (hQ v s (Kps.refl s) (h s ks))
theorem Ev.go {t : Sem α} {R : α → Heap → Prop} (h : Ev M A b t R) {Q : α → Shared → Prop} {E : Value → Shared → Prop} (hQ : ∀ v s', Kps b s' → R v s'.heap → Q v s') : wpAny M A t Q E b := h b (Kps.refl b) Q E hQ
theorem Ev.keeps {t : Sem α} {R : α → Heap → Prop} (h : Ev M A b t R) {E : Value → Shared → Prop} : wpAny M A t (fun v s' => R v s'.heap ∧ Kps b s') E b := h.go fun v s' k r => ⟨r, k⟩

-- names
theorem Ev.loc {m : Str → Option Value} {x : Str} {pos : Pos} {v : Value} (hn : b.heap.Ns env.locals m) (hv : m x = some v) (hk : env.scope.kind = .function := by rfl) (hl : env.kindOf x = some .local := by rfl)
    (hd : (x == ("__debug__" : Str)) = false := by decide +kernel) : Ev M A b (eval (.Name x pos) env) (rV v) := fun s ks _ _ hQ =>
  wpAny_Name (wpAny_loadName_local hk hl (hn.keeps ks.heap) hv (hQ v s (Kps.refl s) rfl)) hd
theorem Ev.cell {x : Str} {pos : Pos} {c : Addr} {v : Value} (hv : b.heap.IsCell c (some v)) (hc : env.cells.lookup x = some c := by rfl) (hk : env.scope.kind = .function := by rfl) (hl : env.kindOf x = some .cell := by rfl)
    (hd : (x == ("__debug__" : Str)) = false := by decide +kernel) : Ev M A b (eval (.Name x pos) env) (rV v) := fun s ks _ _ hQ =>
  wpAny_Name (wpAny_loadName_cell hk hl hc (hv.keeps ks.heap) (hQ v s (Kps.refl s) rfl)) hd
theorem Ev.free {x : Str} {pos : Pos} {c : Addr} {v : Value} (hv : b.heap.IsCell c (some v)) (hc : env.cells.lookup x = some c := by rfl) (hk : env.scope.kind = .function := by rfl) (hl : env.kindOf x = some .free := by rfl)
    (hd : (x == ("__debug__" : Str)) = false := by decide +kernel) (hcd : (x == ("__classdict__" : Str)) = false := by decide +kernel) : Ev M A b (eval (.Name x pos) env) (rV v) := fun s ks _ _ hQ =>
  wpAny_Name (wpAny_loadName_free hk hl hc (hv.keeps ks.heap) (hQ v s (Kps.refl s) rfl) hcd) hd

/-- the world: the module's names, the built-in ones -/
structure Wd (mg mb : Str → Option Value) (h : Heap) : Prop where
  g : h.Ns mainGlobals mg
  b : h.Ns builtinsNs mb
  lim : h.NoLimit
theorem Wd.keeps {mg mb : Str → Option Value} {h h' : Heap} (W : Wd mg mb h) (k : Kp h h') : Wd mg mb h' := ⟨W.g.keeps k, W.b.keeps k, W.lim.keeps k⟩

theorem Ev.glob {mg mb : Str → Option Value} {x : Str} {pos : Pos} {v : Value} (W : Wd mg mb b.heap) (hv : mg x = some v) (hg : env.globals = mainGlobals := by rfl) (hk : env.scope.kind = .function := by rfl) (hx : env.kindOf x = some .globalImplicit := by rfl)
    (hd : (x == ("__debug__" : Str)) = false := by decide +kernel) : Ev M A b (eval (.Name x pos) env) (rV v) := fun s ks _ _ hQ =>
  Name_function_global hk hx (loadGlobal_global (by rw [hg]; exact W.g.keeps ks.heap) hv (hQ v s (Kps.refl s) rfl)) hd
theorem Ev.blt {mg mb : Str → Option Value} {x : Str} {pos : Pos} {v : Value} (W : Wd mg mb b.heap) (hno : mg x = none) (hv : mb x = some v) (hg : env.globals = mainGlobals := by rfl) (hb : env.builtins = builtinsNs := by rfl) (hk : env.scope.kind = .function := by rfl) (hx : env.kindOf x = some .globalImplicit := by rfl)
    (hd : (x == ("__debug__" : Str)) = false := by decide +kernel) : Ev M A b (eval (.Name x pos) env) (rV v) := fun s ks _ _ hQ =>
  Name_function_global hk hx (loadGlobal_builtin (by rw [hg]; exact W.g.keeps ks.heap) hno (by rw [hb]; exact W.b.keeps ks.heap) hv (hQ v s (Kps.refl s) rfl)) hd

-- constants
theorem Ev.kI {i : Int} {k : Nat} {pos : Pos} : Ev M A b (eval (.Constant (.int i) k pos) env) (rI i) := fun s _ _ _ hQ => wpAny_Constant_int (hQ _ _ (Kps.tok _ _) ⟨_, rfl⟩)
theorem Ev.kS {x : Str} {k : Nat} {pos : Pos} : Ev M A b (eval (.Constant (.str x) k pos) env) (rS x) := fun s _ _ _ hQ => wpAny_Constant_str (hQ _ _ (Kps.tok _ _) ⟨_, rfl⟩)
theorem Ev.kN {k : Nat} {pos : Pos} : Ev M A b (eval (.Constant .none k pos) env) (rV .none) := fun s _ _ _ hQ => wpAny_Constant_none (hQ _ _ (Kps.refl _) rfl)
theorem Ev.kB {c : Bool} {k : Nat} {pos : Pos} : Ev M A b (eval (.Constant (.bool c) k pos) env) (rV (.bool c)) := fun s _ _ _ hQ => wpAny_Constant_bool (hQ _ _ (Kps.refl _) rfl)

-- an exact value as an int, a text
theorem Ev.asI {t : Sem Value} {i : Int} {u : Tok} (h : Ev M A b t (rV (.int i u))) : Ev M A b t (rI i) := h.weak fun _ _ r => ⟨u, r⟩
theorem Ev.asS {t : Sem Value} {x : Str} {u : Tok} (h : Ev M A b t (rV (.str x u))) : Ev M A b t (rS x) := h.weak fun _ _ r => ⟨u, r⟩

/-- two operands, then the operation -/
theorem Ev.binop {l r : Expr} {op : Operator} {pos : Pos} {R1 R2 R : Value → Heap → Prop} (h1 : Ev M A b (eval l env) R1) (h2 : Ev M A b (eval r env) R2) (m1 : ∀ v h h', Kp h h' → R1 v h → R1 v h')
    (hop : ∀ v1 v2 s, Kps b s → R1 v1 s.heap → R2 v2 s.heap → Ev M A s (binaryOp op v1 v2) R) : Ev M A b (eval (.BinOp l op r pos) env) R := fun s ks Q E hQ =>
  wpAny_BinOp (h1 s ks _ _ fun v1 s1 k1 r1 => h2 s1 (ks.trans k1) _ _ fun v2 s2 k2 r2 => hop v1 v2 s2 ((ks.trans k1).trans k2) (m1 _ _ _ k2.heap r1) r2 s2 (Kps.refl s2) _ _ fun v s' k r => hQ v s' ((k1.trans k2).trans k) r)
theorem Ev.cmp {l r : Expr} {op : CmpOp} {pos : Pos} {R1 R2 R : Value → Heap → Prop} (h1 : Ev M A b (eval l env) R1) (h2 : Ev M A b (eval r env) R2) (m1 : ∀ v h h', Kp h h' → R1 v h → R1 v h')
    (hop : ∀ v1 v2 s, Kps b s → R1 v1 s.heap → R2 v2 s.heap → Ev M A s (compareOp op v1 v2) R) (hm : behindInMarks op r = false := by rfl) : Ev M A b (eval (.Compare l [op] [r] pos) env) R := fun s ks Q E hQ =>
  wpAny_Compare1 (h1 s ks _ _ fun v1 s1 k1 r1 => h2 s1 (ks.trans k1) _ _ fun v2 s2 k2 r2 => hop v1 v2 s2 ((ks.trans k1).trans k2) (m1 _ _ _ k2.heap r1) r2 s2 (Kps.refl s2) _ _ fun v s' k r => hQ v s' ((k1.trans k2).trans k) r) hm
/-- a test by one comparison -/
theorem Ev.test {l r : Expr} {op : CmpOp} {pos : Pos} {whole : Sem Value} {R1 R2 : Value → Heap → Prop} {c : Bool} (h1 : Ev M A b (eval l env) R1) (h2 : Ev M A b (eval r env) R2) (m1 : ∀ v h h', Kp h h' → R1 v h → R1 v h')
    (hop : ∀ v1 v2 s, Kps b s → R1 v1 s.heap → R2 v2 s.heap → Ev M A s (compareOp op v1 v2) (rV (.bool c))) (hm : behindInMarks op r = false := by rfl) : Ev M A b (isTrue (.Compare l [op] [r] pos) env whole) (rB c) := fun s ks Q E hQ =>
  wpAny_isTrue_Compare1 (h1 s ks _ _ fun v1 s1 k1 r1 => h2 s1 (ks.trans k1) _ _ fun v2 s2 k2 r2 => hop v1 v2 s2 ((ks.trans k1).trans k2) (m1 _ _ _ k2.heap r1) r2 s2 (Kps.refl s2) _ _ fun v s' k r => by
    cases (r : v = .bool c); exact wpAny_truthy_bool (hQ c s' ((k1.trans k2).trans k) rfl)) hm
/-- a test by a value -/
theorem Ev.testV {e : Expr} {c : Bool} (h : Ev M A b (eval e env) (rV (.bool c))) (he : isTrue e env (eval e env) = (do let v ← eval e env; standAt e.pos; holding [v] (truthy v)) := by rfl) : Ev M A b (isTrue e env (eval e env)) (rB c) := fun s ks Q E hQ =>
  wpAny_isTrue_value (h s ks _ _ fun v s1 k1 r1 => by cases (r1 : v = .bool c); exact wpAny_truthy_bool (hQ c s1 k1 rfl)) he
theorem Ev.and2 {x y : Expr} {pos : Pos} {whole : Sem Value} {c d : Bool} (h1 : Ev M A b (isTrue x env (eval x env)) (rB c)) (h2 : c = true → Ev M A b (isTrue y env (eval y env)) (rB d)) : Ev M A b (isTrue (.BoolOp .And [x, y] pos) env whole) (rB (c && d)) := fun s ks Q E hQ =>
  wpAny_isTrue_BoolOp (wpAny_allTrue_And_cons (h1 s ks _ _ fun v s1 k1 r1 => by
    cases (r1 : v = c)
    cases c with
    | false => exact hQ false s1 k1 rfl
    | true => exact wpAny_allTrue_And_cons (h2 rfl s1 (ks.trans k1) _ _ fun v s2 k2 r2 => by
        cases (r2 : v = d)
        cases d with
        | false => exact hQ false s2 (k1.trans k2) rfl
        | true => exact wpAny_allTrue_And_nil (hQ true s2 (k1.trans k2) rfl))))
theorem Ev.or2 {x y : Expr} {pos : Pos} {whole : Sem Value} {c d : Bool} (h1 : Ev M A b (isTrue x env (eval x env)) (rB c)) (h2 : c = false → Ev M A b (isTrue y env (eval y env)) (rB d)) : Ev M A b (isTrue (.BoolOp .Or [x, y] pos) env whole) (rB (c || d)) := fun s ks Q E hQ =>
  wpAny_isTrue_BoolOp (wpAny_allTrue_Or_cons (h1 s ks _ _ fun v s1 k1 r1 => by
    cases (r1 : v = c)
    cases c with
    | true => exact hQ true s1 k1 rfl
    | false => exact wpAny_allTrue_Or_cons (h2 rfl s1 (ks.trans k1) _ _ fun v s2 k2 r2 => by
        cases (r2 : v = d)
        cases d with
        | true => exact hQ true s2 (k1.trans k2) rfl
        | false => exact wpAny_allTrue_Or_nil (hQ false s2 (k1.trans k2) rfl))))
theorem Ev.notT {x : Expr} {pos : Pos} {whole : Sem Value} {c : Bool} (h1 : Ev M A b (isTrue x env (eval x env)) (rB c)) : Ev M A b (isTrue (.UnaryOp .Not x pos) env whole) (rB (!c)) := fun s ks Q E hQ =>
  wpAny_isTrue_Not (h1 s ks _ _ fun v s1 k1 r1 => by cases (r1 : v = c); exact hQ _ s1 k1 rfl)
end

section
variable {prog : Program} {w : World} {A : Around} {b : Shared} {env : Env}

theorem monoI {i : Int} : ∀ v h h', Kp h h' → rI i v h → rI i v h' := fun _ _ _ _ r => r
theorem monoS {x : Str} : ∀ v h h', Kp h h' → rS x v h → rS x v h' := fun _ _ _ _ r => r
theorem monoV {u : Value} : ∀ v h h', Kp h h' → rV u v h → rV u v h' := fun _ _ _ _ r => r

theorem Ev.add {l r : Expr} {pos : Pos} {i j : Int} (h1 : Ev (model prog w) A b (eval l env) (rI i)) (h2 : Ev (model prog w) A b (eval r env) (rI j)) : Ev (model prog w) A b (eval (.BinOp l .Add r pos) env) (rI (i + j)) :=
  Ev.binop h1 h2 monoI fun v1 v2 s ks ⟨_, e1⟩ ⟨_, e2⟩ s' ks' Q E hQ => by subst e1 e2; exact add_int (hQ _ _ (Kps.tok _ _) ⟨_, rfl⟩)
theorem Ev.sub {l r : Expr} {pos : Pos} {i j : Int} (h1 : Ev (model prog w) A b (eval l env) (rI i)) (h2 : Ev (model prog w) A b (eval r env) (rI j)) : Ev (model prog w) A b (eval (.BinOp l .Sub r pos) env) (rI (i - j)) :=
  Ev.binop h1 h2 monoI fun v1 v2 s ks ⟨_, e1⟩ ⟨_, e2⟩ s' ks' Q E hQ => by subst e1 e2; exact sub_int (hQ _ _ (Kps.tok _ _) ⟨_, rfl⟩)
theorem Ev.fmod {l r : Expr} {pos : Pos} {i j : Int} (h1 : Ev (model prog w) A b (eval l env) (rI i)) (h2 : Ev (model prog w) A b (eval r env) (rI j)) (hj : j ≠ 0) : Ev (model prog w) A b (eval (.BinOp l .Mod r pos) env) (rI (i.fmod j)) :=
  Ev.binop h1 h2 monoI fun v1 v2 s ks ⟨_, e1⟩ ⟨_, e2⟩ s' ks' Q E hQ => by subst e1 e2; exact mod_int' hj (hQ _ _ (Kps.tok _ _) ⟨_, rfl⟩)
theorem Ev.fdiv {l r : Expr} {pos : Pos} {i j : Int} (h1 : Ev (model prog w) A b (eval l env) (rI i)) (h2 : Ev (model prog w) A b (eval r env) (rI j)) (hj : j ≠ 0) (hp : Builtin.divisionGoesByPylong i j = false) : Ev (model prog w) A b (eval (.BinOp l .FloorDiv r pos) env) (rI (i.fdiv j)) :=
  Ev.binop h1 h2 monoI fun v1 v2 s ks ⟨_, e1⟩ ⟨_, e2⟩ s' ks' Q E hQ => by subst e1 e2; exact floordiv_int hj (hQ _ _ (Kps.tok _ _) ⟨_, rfl⟩) (.inl hp)
theorem Ev.neg {x : Expr} {pos : Pos} {i : Int} (h1 : Ev (model prog w) A b (eval x env) (rI i)) : Ev (model prog w) A b (eval (.UnaryOp .USub x pos) env) (rI (-i)) := fun s ks Q E hQ =>
  wpAny_UnaryOp (h1 s ks _ _ fun v s1 k1 ⟨_, e⟩ => by subst e; exact neg_int (hQ _ _ (k1.trans (Kps.tok _ _)) ⟨_, rfl⟩))
theorem Ev.cat {l r : Expr} {pos : Pos} {x y : Str} (h1 : Ev (model prog w) A b (eval l env) (rS x)) (h2 : Ev (model prog w) A b (eval r env) (rS y)) (hsz : x.length + y.length ≤ sizeLine) : Ev (model prog w) A b (eval (.BinOp l .Add r pos) env) (rS (x ++ y)) :=
  Ev.binop h1 h2 monoS fun v1 v2 s ks ⟨_, e1⟩ ⟨_, e2⟩ s' ks' Q E hQ => by subst e1 e2; exact add_str (fun t' tk => hQ _ _ (Kps.tok _ _) ⟨_, rfl⟩) hsz

theorem opLt {i j : Int} {v1 v2 : Value} {s : Shared} (h1 : rI i v1 s.heap) (h2 : rI j v2 s.heap) : Ev (model prog w) A s (compareOp .Lt v1 v2) (rV (.bool (decide (i < j)))) := fun s' ks' Q E hQ => by
  obtain ⟨_, rfl⟩ := h1; obtain ⟨_, rfl⟩ := h2; exact lt_int (hQ _ _ (Kps.refl _) rfl)
theorem opLe {i j : Int} {v1 v2 : Value} {s : Shared} (h1 : rI i v1 s.heap) (h2 : rI j v2 s.heap) : Ev (model prog w) A s (compareOp .LtE v1 v2) (rV (.bool (decide (i ≤ j)))) := fun s' ks' Q E hQ => by
  obtain ⟨_, rfl⟩ := h1; obtain ⟨_, rfl⟩ := h2; exact le_int (hQ _ _ (Kps.refl _) rfl)
theorem opGt {i j : Int} {v1 v2 : Value} {s : Shared} (h1 : rI i v1 s.heap) (h2 : rI j v2 s.heap) : Ev (model prog w) A s (compareOp .Gt v1 v2) (rV (.bool (decide (j < i)))) := fun s' ks' Q E hQ => by
  obtain ⟨_, rfl⟩ := h1; obtain ⟨_, rfl⟩ := h2; exact gt_int (hQ _ _ (Kps.refl _) rfl)
theorem opEq {i j : Int} {v1 v2 : Value} {s : Shared} (h1 : rI i v1 s.heap) (h2 : rI j v2 s.heap) : Ev (model prog w) A s (compareOp .Eq v1 v2) (rV (.bool (i == j))) := fun s' ks' Q E hQ => by
  obtain ⟨_, rfl⟩ := h1; obtain ⟨_, rfl⟩ := h2; exact eq_int (hQ _ _ (Kps.refl _) rfl)
theorem opNe {i j : Int} {v1 v2 : Value} {s : Shared} (h1 : rI i v1 s.heap) (h2 : rI j v2 s.heap) : Ev (model prog w) A s (compareOp .NotEq v1 v2) (rV (.bool (i != j))) := fun s' ks' Q E hQ => by
  obtain ⟨_, rfl⟩ := h1; obtain ⟨_, rfl⟩ := h2; exact ne_int (hQ _ _ (Kps.refl _) rfl)
theorem opEqS {x y : Str} {v1 v2 : Value} {s : Shared} (h1 : rS x v1 s.heap) (h2 : rS y v2 s.heap) : Ev (model prog w) A s (compareOp .Eq v1 v2) (rV (.bool (x == y))) := fun s' ks' Q E hQ => by
  obtain ⟨_, rfl⟩ := h1; obtain ⟨_, rfl⟩ := h2; exact eq_str (hQ _ _ (Kps.refl _) rfl)
theorem opNeS {x y : Str} {v1 v2 : Value} {s : Shared} (h1 : rS x v1 s.heap) (h2 : rS y v2 s.heap) : Ev (model prog w) A s (compareOp .NotEq v1 v2) (rV (.bool (x != y))) := fun s' ks' Q E hQ => by
  obtain ⟨_, rfl⟩ := h1; obtain ⟨_, rfl⟩ := h2; exact ne_str (hQ _ _ (Kps.refl _) rfl)
theorem opIsNone {u v1 v2 : Value} {s : Shared} (h1 : rV u v1 s.heap) (h2 : rV .none v2 s.heap) : Ev (model prog w) A s (compareOp .Is v1 v2) (rV (.bool (u == .none))) := fun s' ks' Q E hQ => by
  cases h1; cases h2; exact is_none (hQ _ _ (Kps.refl _) rfl)

-- tests of ints and texts
theorem Ev.tLt {l r : Expr} {pos : Pos} {whole : Sem Value} {i j : Int} (h1 : Ev (model prog w) A b (eval l env) (rI i)) (h2 : Ev (model prog w) A b (eval r env) (rI j)) (hm : behindInMarks .Lt r = false := by rfl) : Ev (model prog w) A b (isTrue (.Compare l [.Lt] [r] pos) env whole) (rB (decide (i < j))) := Ev.test h1 h2 monoI (fun _ _ _ _ a c => opLt a c) hm
theorem Ev.tLe {l r : Expr} {pos : Pos} {whole : Sem Value} {i j : Int} (h1 : Ev (model prog w) A b (eval l env) (rI i)) (h2 : Ev (model prog w) A b (eval r env) (rI j)) (hm : behindInMarks .LtE r = false := by rfl) : Ev (model prog w) A b (isTrue (.Compare l [.LtE] [r] pos) env whole) (rB (decide (i ≤ j))) := Ev.test h1 h2 monoI (fun _ _ _ _ a c => opLe a c) hm
theorem Ev.tGt {l r : Expr} {pos : Pos} {whole : Sem Value} {i j : Int} (h1 : Ev (model prog w) A b (eval l env) (rI i)) (h2 : Ev (model prog w) A b (eval r env) (rI j)) (hm : behindInMarks .Gt r = false := by rfl) : Ev (model prog w) A b (isTrue (.Compare l [.Gt] [r] pos) env whole) (rB (decide (j < i))) := Ev.test h1 h2 monoI (fun _ _ _ _ a c => opGt a c) hm
theorem Ev.tEq {l r : Expr} {pos : Pos} {whole : Sem Value} {i j : Int} (h1 : Ev (model prog w) A b (eval l env) (rI i)) (h2 : Ev (model prog w) A b (eval r env) (rI j)) (hm : behindInMarks .Eq r = false := by rfl) : Ev (model prog w) A b (isTrue (.Compare l [.Eq] [r] pos) env whole) (rB (i == j)) := Ev.test h1 h2 monoI (fun _ _ _ _ a c => opEq a c) hm
theorem Ev.tNe {l r : Expr} {pos : Pos} {whole : Sem Value} {i j : Int} (h1 : Ev (model prog w) A b (eval l env) (rI i)) (h2 : Ev (model prog w) A b (eval r env) (rI j)) (hm : behindInMarks .NotEq r = false := by rfl) : Ev (model prog w) A b (isTrue (.Compare l [.NotEq] [r] pos) env whole) (rB (i != j)) := Ev.test h1 h2 monoI (fun _ _ _ _ a c => opNe a c) hm
theorem Ev.tEqS {l r : Expr} {pos : Pos} {whole : Sem Value} {x y : Str} (h1 : Ev (model prog w) A b (eval l env) (rS x)) (h2 : Ev (model prog w) A b (eval r env) (rS y)) (hm : behindInMarks .Eq r = false := by rfl) : Ev (model prog w) A b (isTrue (.Compare l [.Eq] [r] pos) env whole) (rB (x == y)) := Ev.test h1 h2 monoS (fun _ _ _ _ a c => opEqS a c) hm
theorem Ev.tNeS {l r : Expr} {pos : Pos} {whole : Sem Value} {x y : Str} (h1 : Ev (model prog w) A b (eval l env) (rS x)) (h2 : Ev (model prog w) A b (eval r env) (rS y)) (hm : behindInMarks .NotEq r = false := by rfl) : Ev (model prog w) A b (isTrue (.Compare l [.NotEq] [r] pos) env whole) (rB (x != y)) := Ev.test h1 h2 monoS (fun _ _ _ _ a c => opNeS a c) hm
theorem Ev.tIsNone {l r : Expr} {pos : Pos} {whole : Sem Value} {u : Value} (h1 : Ev (model prog w) A b (eval l env) (rV u)) (h2 : Ev (model prog w) A b (eval r env) (rV .none)) (hm : behindInMarks .Is r = false := by rfl) : Ev (model prog w) A b (isTrue (.Compare l [.Is] [r] pos) env whole) (rB (u == .none)) := Ev.test h1 h2 monoV (fun _ _ _ _ a c => opIsNone a c) hm
end
end Mine

end

/- Ev2 -/
section
open PySem PySem.Calls PyProof.Rows
namespace Mine
set_option maxRecDepth 100000
set_option linter.unusedVariables false

abbrev evs (es : List Expr) (env : Env) : List (Bool × Sem Value) := es.map fun e => (false, eval e env)
abbrev T (l : List Nat) : Str := ⟨l.toArray⟩

/-- the values of a call, one after the other -/
def ListR : List (Value → Heap → Prop) → List Value → Heap → Prop
  | [], vs, _ => vs = []
  | R :: Rs, vs, h => ∃ v r, vs = v :: r ∧ R v h ∧ ListR Rs r h

section
variable {M : Model} {A : Around} {b : Shared} {env : Env}

theorem Ev.sNil {Rs : List (Value → Heap → Prop)} (e : Rs = []) : Ev M A b (spliced []) (ListR Rs) := fun s ks Q E hQ => spliced_nil (hQ [] s (Kps.refl s) (by subst e; rfl))
theorem Ev.sCons {t : Sem Value} {rest : List (Bool × Sem Value)} {R : Value → Heap → Prop} {Rs : List (Value → Heap → Prop)} (h : Ev M A b t R) (m : ∀ v h h', Kp h h' → R v h → R v h') (hr : Ev M A b (spliced rest) (ListR Rs)) :
    Ev M A b (spliced ((false, t) :: rest)) (ListR (R :: Rs)) := fun s ks Q E hQ =>
  spliced_cons (h s ks _ _ fun v s1 k1 r1 => hr s1 (ks.trans k1) _ _ fun vs s2 k2 r2 => hQ (v :: vs) s2 (k1.trans k2) ⟨v, vs, rfl, m _ _ _ k2.heap r1, r2⟩)

theorem Ev.s1 {t1 : Sem Value} {R1 : Value → Heap → Prop} (h1 : Ev M A b t1 R1) (m1 : ∀ v h h', Kp h h' → R1 v h → R1 v h') : Ev M A b (spliced [(false, t1)]) (ListR [R1]) := Ev.sCons h1 m1 (Ev.sNil rfl)
theorem Ev.s2 {t1 t2 : Sem Value} {R1 R2 : Value → Heap → Prop} (h1 : Ev M A b t1 R1) (m1 : ∀ v h h', Kp h h' → R1 v h → R1 v h') (h2 : Ev M A b t2 R2) (m2 : ∀ v h h', Kp h h' → R2 v h → R2 v h') :
    Ev M A b (spliced [(false, t1), (false, t2)]) (ListR [R1, R2]) := Ev.sCons h1 m1 (Ev.s1 h2 m2)
theorem Ev.s3 {t1 t2 t3 : Sem Value} {R1 R2 R3 : Value → Heap → Prop} (h1 : Ev M A b t1 R1) (m1 : ∀ v h h', Kp h h' → R1 v h → R1 v h') (h2 : Ev M A b t2 R2) (m2 : ∀ v h h', Kp h h' → R2 v h → R2 v h') (h3 : Ev M A b t3 R3) (m3 : ∀ v h h', Kp h h' → R3 v h → R3 v h') :
    Ev M A b (spliced [(false, t1), (false, t2), (false, t3)]) (ListR [R1, R2, R3]) := Ev.sCons h1 m1 (Ev.s2 h2 m2 h3 m3)
theorem Ev.s4 {t1 t2 t3 t4 : Sem Value} {R1 R2 R3 R4 : Value → Heap → Prop} (h1 : Ev M A b t1 R1) (m1 : ∀ v h h', Kp h h' → R1 v h → R1 v h') (h2 : Ev M A b t2 R2) (m2 : ∀ v h h', Kp h h' → R2 v h → R2 v h') (h3 : Ev M A b t3 R3) (m3 : ∀ v h h', Kp h h' → R3 v h → R3 v h')
    (h4 : Ev M A b t4 R4) (m4 : ∀ v h h', Kp h h' → R4 v h → R4 v h') :
    Ev M A b (spliced [(false, t1), (false, t2), (false, t3), (false, t4)]) (ListR [R1, R2, R3, R4]) := Ev.sCons h1 m1 (Ev.s3 h2 m2 h3 m3 h4 m4)

/-- a def of the text, called by its name -/
theorem Ev.callF {f : Str} {p pos : Pos} {e1 : Expr} {es : List Expr} {fa : Addr} {o : Obj} {fd : FuncData} {Rs : List (Value → Heap → Prop)} {R : Value → Heap → Prop}
    (hf : Ev M A b (eval (.Name f p) env) (rV (.ref fa))) (ho : b.heap.get? fa = some o) (hd : o.data = .func fd)
    (ha : Ev M A b (spliced ((false, eval e1 env) :: evs es env)) (ListR Rs)) (hc : ∀ vs s, Kps b s → ListR Rs vs s.heap → Ev M A s (call (.ref fa) vs []) R)
    (hs : backTo pos (starEach (e1 :: es) env) = (false, eval e1 env) :: evs es env := by rfl) : Ev M A b (eval (.Call (.Name f p) (e1 :: es) [] pos) env) R := fun s ks Q E hQ => by
  refine wpAny_Call_Name_kw (hf s ks _ _ fun v s1 k1 r1 => ?_)
  cases (r1 : v = .ref fa)
  rw [hs]
  show wpAny M A (callWith pos (.ref fa) [] ((false, eval e1 env) :: evs es env) []) Q E s1
  refine callWith_function (o := o) (fd := fd) (evalArgs_plain (ha s1 (ks.trans k1) _ _ fun vs s2 k2 r2 => ⟨⟨((ks.trans k1).trans k2).heap _ _ ho, hd⟩, ?_⟩))
  exact hc vs s2 ((ks.trans k1).trans k2) r2 s2 (Kps.refl s2) _ _ fun v s' k r => hQ v s' ((k1.trans k2).trans k) r

theorem callWith_machine {E : Value → Shared → Prop} {s : Shared} {pos : Pos} {f : Value} {first : List Value} {args : List (Bool × Sem Value)} {Q : Value → Shared → Prop} (hplain : args.any (·.1) = false) (hk : keeperOf f = pure .machine)
    (h : wpAny M A (evalArgs f true args []) (fun a s₁ => wpAny M A (call f (first ++ a.pos) a.kw) Q E s₁) E s) :
    wpAny M A (callWith pos f first args []) Q E s := by
  unfold callWith
  refine wpAny_bind (wpAny_holding (wpAny_mono h (fun a s₁ h₁ => wpAny_bind (wpAny_standAt ?_)) fun _ _ x => x))
  simp only [hplain, List.any_nil, Bool.or_false, hk]
  refine wpAny_bind (wpAny_pure ?_)
  exact wpAny_bind (wpAny_mono h₁ (fun r s₂ hr => wpAny_bind (wpAny_holding (wpAny_point (wpAny_pure hr)))) fun _ _ x => x)

/-- a built-in function or type, called by its name -/
theorem Ev.callB {f : Str} {p pos : Pos} {e1 : Expr} {es : List Expr} {fv : Value} {Rs : List (Value → Heap → Prop)} {R : Value → Heap → Prop}
    (hf : Ev M A b (eval (.Name f p) env) (rV fv)) (ha : Ev M A b (spliced ((false, eval e1 env) :: evs es env)) (ListR Rs)) (hc : ∀ vs s, Kps b s → ListR Rs vs s.heap → Ev M A s (call fv vs []) R)
    (hk : keeperOf fv = pure .machine := by rfl) (hs : backTo pos (starEach (e1 :: es) env) = (false, eval e1 env) :: evs es env := by rfl) (hpl : (((false, eval e1 env) :: evs es env).any (·.1)) = false := by rfl) : Ev M A b (eval (.Call (.Name f p) (e1 :: es) [] pos) env) R := fun s ks Q E hQ => by
  refine wpAny_Call_Name_kw (hf s ks _ _ fun v s1 k1 r1 => ?_)
  cases (r1 : v = fv)
  rw [hs]
  show wpAny M A (callWith pos fv [] ((false, eval e1 env) :: evs es env) []) Q E s1
  refine callWith_machine hpl hk (evalArgs_plain (ha s1 (ks.trans k1) _ _ fun vs s2 k2 r2 => ?_))
  exact hc vs s2 ((ks.trans k1).trans k2) r2 s2 (Kps.refl s2) _ _ fun v s' k r => hQ v s' ((k1.trans k2).trans k) r

/-- an item or a slice -/
theorem Ev.item {value slice : Expr} {pos : Pos} {R1 R2 R : Value → Heap → Prop} (h1 : Ev M A b (eval value env) R1) (h2 : Ev M A b (eval slice env) R2) (m1 : ∀ v h h', Kp h h' → R1 v h → R1 v h')
    (hop : ∀ v1 v2 s, Kps b s → R1 v1 s.heap → R2 v2 s.heap → Ev M A s (subscriptTail value slice v1 v2) R) : Ev M A b (eval (.Subscript value slice pos) env) R := fun s ks Q E hQ =>
  Subscript_ (h1 s ks _ _ fun v1 s1 k1 r1 => h2 s1 (ks.trans k1) _ _ fun v2 s2 k2 r2 => hop v1 v2 s2 ((ks.trans k1).trans k2) (m1 _ _ _ k2.heap r1) r2 s2 (Kps.refl s2) _ _ fun v s' k r => hQ v s' ((k1.trans k2).trans k) r)
end

section
variable {prog : Program} {w : World} {A : Around} {b : Shared} {env : Env}

theorem Ev.lenS {x : Str} {v : Value} {s : Shared} (h : rS x v s.heap) (hx : x.length < 2 ^ 62) : Ev (model prog w) A s (call (.builtin "len") [v] []) (rI x.length) := fun s' ks Q E hQ => by
  obtain ⟨t, rfl⟩ := h
  exact len_str (by omega) (hQ _ _ (Kps.tok _ _) ⟨_, rfl⟩)
theorem Ev.lenL {l : Addr} {items : Array Value} {s : Shared} (h : s.heap.IsList l items) (hx : items.size < 2 ^ 62) : Ev (model prog w) A s (call (.builtin "len") [.ref l] []) (rI items.size) := fun s' ks Q E hQ =>
  call_len_list (h.at fun o e => ks.heap _ o e) (by omega) (hQ _ _ (Kps.tok _ _) ⟨_, rfl⟩)
theorem Ev.chr {i : Int} {v : Value} {s : Shared} (h : rI i v s.heap) (h0 : 0 ≤ i) (h1 : i < 1114112) : Ev (model prog w) A s (call (.builtin "chr") [v] []) (rS (T [i.toNat])) := fun s' ks Q E hQ => by
  obtain ⟨t, rfl⟩ := h
  exact P.chr_of_int (by rw [decide_eq_false (by omega), decide_eq_false (by omega)]; rfl) (hQ _ _ (Kps.tok _ _) ⟨_, rfl⟩)

theorem tail_on {value slice : Expr} {o i : Value} {ops : List Value} {U id : String} {Q : Value → Shared → Prop} {E : Value → Shared → Prop} {s : Shared} (hT : s.TypeIs o U) (hl : typeLookup (.type U) "__getitem__" = pure (some (.builtin id)))
    (h : wpAny (model prog w) A (getItem o i) Q E s) (hs : subscripted slice false o i = operate ops (getItem o i)) : wpAny (model prog w) A (subscriptTail value slice o i) Q E s := tail_any hT hl h hs

/-- an item of a list, at a place in bounds -/
theorem Ev.itemL {value slice : Expr} {l : Addr} {items : Array Value} {k : Int} {v1 v2 x : Value} {s : Shared} (h1 : v1 = .ref l) (hl : s.heap.IsList l items) (h2 : rI k v2 s.heap) (h0 : 0 ≤ k) (hx : items[k.toNat]? = some x) (hk : k < 2 ^ 62)
    (hs : ∀ t, subscripted slice false (.ref l) (.int k t) = operate [.ref l, .int k t] (getItem (.ref l) (.int k t))) : Ev (model prog w) A s (subscriptTail value slice v1 v2) (rV x) := fun s' ks Q E hQ => by
  obtain ⟨t, rfl⟩ := h2
  subst h1
  have hl' := hl.at fun o e => ks.heap _ o e
  exact tail_any (s := s') hl'.typeIs slot_list_getitem.lookup (wpAny_getItem_list hl' h0 (by omega) hx (hQ _ _ (Kps.refl _) rfl)) (hs t)
theorem Ev.itemLneg {value slice : Expr} {l : Addr} {items : Array Value} {k : Int} {v1 v2 x : Value} {s : Shared} (h1 : v1 = .ref l) (hl : s.heap.IsList l items) (h2 : rI k v2 s.heap) (h0 : k < 0) (hk : -(2 ^ 62) ≤ k) (hsz : -(items.size : Int) ≤ k) (hx : items[(k + items.size).toNat]? = some x)
    (hs : ∀ t, subscripted slice false (.ref l) (.int k t) = operate [.ref l, .int k t] (getItem (.ref l) (.int k t))) : Ev (model prog w) A s (subscriptTail value slice v1 v2) (rV x) := fun s' ks Q E hQ => by
  obtain ⟨t, rfl⟩ := h2
  subst h1
  have hl' := hl.at fun o e => ks.heap _ o e
  exact tail_any (s := s') hl'.typeIs slot_list_getitem.lookup (wpAny_getItem_list_neg hl' h0 hsz (by omega) hx (hQ _ _ (Kps.refl _) rfl)) (hs t)
/-- a sign of a text -/
theorem Ev.itemS {value slice : Expr} {x : Str} {k : Int} {c : Nat} {v1 v2 : Value} {s : Shared} (h1 : rS x v1 s.heap) (h2 : rI k v2 s.heap) (h0 : 0 ≤ k) (hk : k < 2 ^ 62) (hc : x.cps[k.toNat]? = some c)
    (hs : ∀ t u, subscripted slice false (.str x t) (.int k u) = operate [.str x t, .int k u] (getItem (.str x t) (.int k u))) : Ev (model prog w) A s (subscriptTail value slice v1 v2) (rS (T [c])) := fun s' ks Q E hQ => by
  obtain ⟨t, rfl⟩ := h1
  obtain ⟨u, rfl⟩ := h2
  have hlt : k.toNat < x.length := (Array.getElem?_eq_some_iff.mp hc).1
  refine tail_any (s := s') (typeIs_str _ _ _) slot_str_getitem.lookup (PyProof.Rows.getItem_str (c := c) (by rw [decide_eq_false (by omega), decide_eq_false (by omega)]; rfl) ?_ (hQ _ _ (Kps.tok _ _) ⟨_, rfl⟩)) (hs t u)
  have e : seqIndex? k x.length = some k.toNat := by
    unfold seqIndex?
    have h1 : ¬ k < 0 := by omega
    simp only [h1, if_false]
    rw [if_pos (by simp; omega)]
  rw [e]
  exact hc

theorem post_slice {x : Str} {t : Tok} {l u : Option (Int × Tok)} {s : Shared} {Q : Value → Shared → Prop} (hx : x.length ≤ sizeLine) (h : ∀ t' k, Q (.str (Txt.slice x (l.map (·.1)) (u.map (·.1))) t') { s with toks := k }) : (sliceMade x t l u none).post Q s := by
  have e : sliceMade x t l u none = (if ((1 : Int) == 1 && (Builtin.Str.strSliceIndices (l.map (·.1)) (u.map (·.1)) 1 x.length).length == x.length) = true then Made.val (.str x t) else Made.str ⟨((Builtin.Str.strSliceIndices (l.map (·.1)) (u.map (·.1)) 1 x.length).filterMap (x.cps[·]?)).toArray⟩) := rfl
  rw [e]
  have hl := Txt.slice_le x (l.map (·.1)) (u.map (·.1))
  unfold Txt.slice at h hl
  exact post_val_or_str ⟨Nat.le_trans hl hx, h⟩

/-- a cut of a text -/
theorem Ev.cut {value : Expr} {lo hi : Option Expr} {p pos : Pos} {x y : Str} {l u : Option Int} (h1 : Ev (model prog w) A b (eval value env) (rS x))
    (h2 : Ev (model prog w) A b (evalPart lo env) (fun v _ => ∃ q, v = partValue q ∧ q.map (·.1) = l)) (h3 : Ev (model prog w) A b (evalPart hi env) (fun v _ => ∃ q, v = partValue q ∧ q.map (·.1) = u))
    (hy : Txt.slice x l u = y) (hx : x.length ≤ sizeLine) (ht : ∀ o r, letTemporaryGo value o r = pure () := by intro _ _; rfl) : Ev (model prog w) A b (eval (.Subscript value (.Slice lo hi none p) pos) env) (rS y) := fun s ks Q E hQ => by
  refine wpAny_Subscript_str_slice (h1 s ks _ _ fun v1 s1 k1 ⟨t1, e1⟩ => h2 s1 (ks.trans k1) _ _ fun v2 s2 k2 ⟨q2, e2, f2⟩ => h3 s2 ((ks.trans k1).trans k2) _ _ fun v3 s3 k3 ⟨q3, e3, f3⟩ => ?_) ht
  refine ⟨x, t1, q2, q3, e1, e2, e3, post_slice hx fun t' k => ?_⟩
  rw [f2, f3, hy]
  exact hQ (.str y t') { s3 with heap := s3.heap.push { cls := .type "slice", data := .fields #[v2, v3, .none] }, toks := k } (((k1.trans k2).trans k3).trans (Kps.push _ _ _)) ⟨t', rfl⟩
theorem Ev.part {e : Expr} {i : Int} (h : Ev (model prog w) A b (eval e env) (rI i)) : Ev (model prog w) A b (evalPart (some e) env) (fun v _ => ∃ q, v = partValue q ∧ q.map (·.1) = some i) := fun s ks Q E hQ =>
  wpAny_evalPart_some (h s ks _ _ fun v s1 k1 ⟨t, e⟩ => hQ v s1 k1 ⟨some (i, t), e, rfl⟩)
theorem Ev.nopart : Ev (model prog w) A b (evalPart none env) (fun v _ => ∃ q, v = partValue q ∧ q.map (·.1) = none) := fun s ks Q E hQ =>
  wpAny_evalPart_none (hQ .none s (Kps.refl s) ⟨none, rfl, rfl⟩)

theorem T_toList (x : Str) : T x.cps.toList = x := by cases x; simp
theorem slice_mid {l : List Nat} {i j : Nat} (h1 : i ≤ j) (h2 : j ≤ l.length) : Txt.slice (T l) (some i) (some j) = T ((l.drop i).take (j - i)) := by
  have := eq_of_beq (slice_closes (x := T l) (i := i) (j := j) (by simp; omega))
  rw [this]
  simp [show ((j : Int) - (i : Int)).toNat = j - i by omega]
theorem slice_pre {l : List Nat} {j : Nat} (h2 : j ≤ l.length) : Txt.slice (T l) none (some j) = T (l.take j) := by
  have := eq_of_beq (slice_closes_to (x := T l) (j := j) (by simp; omega))
  rw [this]
  simp
theorem slice_suf {l : List Nat} {i : Nat} (h2 : i ≤ l.length) : Txt.slice (T l) (some i) none = T (l.drop i) := by
  have := slice_from_eq (x := T l) (i := i) (b := l.length) (by omega) (by simp [Str.length]; omega) (by simp [Str.length])
  rw [this]
  simp [show ((l.length : Int) - (i : Int)).toNat = l.length - i by omega]
  rw [List.take_of_length_le (by simp)]
end
end Mine

end

/- Fn -/
section
open PySem PySem.Calls PyProof.Rows
namespace Mine
set_option maxRecDepth 100000
set_option linter.unusedVariables false

/-- room for n more frames -/
structure Rm (A : Around) (n : Nat) : Prop where
  hd : A.handled = none
  dp : A.depth + n < recursionLimit
  un : A.units + 10 * n < cLine

theorem Rm.less {A : Around} {n m : Nat} (x : Rm A n) (h : m ≤ n) : Rm A m := ⟨x.hd, by have := x.dp; omega, by have := x.un; omega⟩
theorem Rm.deeper {A : Around} {n : Nat} {env : Env} (x : Rm A (n + 1)) : Rm (A.deeper env) n := ⟨x.hd, by have := x.dp; show A.depth + 1 + n < _; omega, by have := x.un; show A.units + 3 + 10 * n < _; omega⟩
theorem Rm.in1 {A : Around} {n : Nat} (x : Rm A (n + 1)) : Rm A.in1 n := ⟨x.hd, by have := x.dp; show A.depth + n < _; omega, by have := x.un; show A.units + 1 + 10 * n < _; omega⟩
theorem Rm.room {A : Around} {n : Nat} (x : Rm A n) : A.depth < recursionLimit := by have := x.dp; omega
theorem Rm.units {A : Around} {n : Nat} (x : Rm A n) : A.units < cLine := by have := x.un; omega

/-- a def of the text stands at fa -/
structure Fn (h : Heap) (fa : Addr) (fd : FuncData) : Prop where
  at_ : ∃ o, h.get? fa = some o ∧ o.data = .func fd
  code : h.CodeRec fd.code fd.qualname
theorem Fn.keeps {h h' : Heap} {fa : Addr} {fd : FuncData} (x : Fn h fa fd) (k : Kp h h') : Fn h' fa fd := ⟨let ⟨o, e, d⟩ := x.at_; ⟨o, k _ _ e, d⟩, x.code.keeps k⟩

abbrev envF (fd : FuncData) (L fa : Addr) : Env := newEnv fd.scope L fd.globals fd.closure (fd.qualname ++ (".<locals>." : Str)) (some fa) fd.code none fd.builtins

section
variable {prog : Program} {w : World} {A : Around} {s : Shared}

/-- a call of a def without cells of its own -/
theorem enter_plain {fa : Addr} {fd : FuncData} {body : List Stmt} {args : Args} {binds : List (Str × Value)} {R : Result → Shared → Prop} (hf : Fn s.heap fa fd) (hlim : s.heap.NoLimit) (hroom : A.depth < recursionLimit) (hbody : fd.body = .stmts body)
    (hbind : BindsTo s fd args binds) (hloc : ∀ x ∈ binds, fd.scope.names.lookup x.1 = some .local)
    (h : ∀ s₁, Kps s s₁ → s₁.heap.Ns s.heap.objs.size (fun x => binds.reverse.lookup x) →
      wpAny (model prog w) (A.deeper (envF fd s.heap.objs.size fa)) (execs body (envF fd s.heap.objs.size fa)) (fun f s' => R (.ok (.ret (match f with | .ret v => v | _ => .none))) s') (fun _ _ => False) s₁)
    (hcell : ∀ x ∈ fd.scope.names, x.2 ≠ .cell) (hco : fd.scope.isCoroutine = false) (hgen : fd.scope.isGenerator = false) (hk : fd.scope.kind = .function) :
    codeAny (model prog w) A (.call (.ref fa) args) R s := by
  obtain ⟨o, ho, hd⟩ := hf.at_
  refine codeAny_call_function hroom ho hd hco hgen hbody hf.code (hbind _ _ _ _ ?_)
  refine wpAny_newFunctionEnv hcell hloc (fun h₁ hns hsb => ?_) hk
  have hkp : Kp s.heap h₁ := fun b o e => hsb.extBut b o (Nat.ne_of_lt (Heap.lt_size e)) (Heap.get?_push_of_some _ e)
  refine ⟨hlim.keeps hkp, codeAny_func (wpAny_mono (h _ (Kps.mk' hkp) hns) (fun _ _ x => x) fun _ _ x => x.elim)⟩

theorem locsB {names : List (Str × NameKind)} {binds : List (Str × Value)} (h : (binds.map (·.1)).all (fun x => names.lookup x == some .local) = true) : ∀ x ∈ binds, names.lookup x.1 = some .local := fun x hx => by
  have := List.all_eq_true.mp h x.1 (List.mem_map_of_mem hx)
  simpa using this
theorem cellsB {names : List (Str × NameKind)} (h : names.all (fun x => x.2 != .cell) = true) : ∀ x ∈ names, x.2 ≠ .cell := fun x hx => by
  have := List.all_eq_true.mp h x hx
  simpa using this

/-- what is asked of a def's scope -/
def okScope (fd : FuncData) (names : List Str) : Bool := names.all (fun x => fd.scope.names.lookup x == some .local) && fd.scope.names.all (fun x => x.2 != .cell) && !fd.scope.isCoroutine && !fd.scope.isGenerator && fd.scope.kind == .function

/-- the same, what is handed on kept apart -/
theorem Ev.fn {b : Shared} {fa : Addr} {fd : FuncData} {body : List Stmt} {vs : List Value} {kw : List (Str × Value)} {binds : List (Str × Value)} {R : Value → Heap → Prop} (hf : Fn b.heap fa fd) (hlim : b.heap.NoLimit) (hroom : A.depth < recursionLimit) (hbody : fd.body = .stmts body)
    (hbind : ∀ s, Kps b s → BindsTo s fd ⟨vs, kw⟩ binds) (hok : okScope fd (binds.map (·.1)) = true)
    (h : ∀ s L s₁, Kps b s → L = s.heap.objs.size → Kps s s₁ → s₁.heap.Ns L (fun x => binds.reverse.lookup x) →
      wpAny (model prog w) (A.deeper (envF fd L fa)) (execs body (envF fd L fa)) (fun f s' => ∃ v, f = .ret v ∧ Kps s s' ∧ R v s'.heap) (fun _ _ => False) s₁) :
    Ev (model prog w) A b (call (.ref fa) vs kw) R := fun s ks Q E hQ => by
  unfold okScope at hok
  simp only [Bool.and_eq_true, Bool.not_eq_true', beq_iff_eq] at hok
  obtain ⟨⟨⟨⟨h1, h2⟩, h3⟩, h4⟩, h5⟩ := hok
  refine wpAny_call (enter_plain (hf.keeps ks.heap) (hlim.keeps ks.heap) hroom hbody (hbind s ks) (locsB h1) (fun s₁ k₁ hn => ?_) (cellsB h2) h3 h4 h5)
  refine wpAny_mono (h s _ s₁ ks rfl k₁ hn) (fun f s' hx => ?_) fun _ _ x => x
  obtain ⟨v, rfl, k, r⟩ := hx
  exact hQ v s' k r

/-- a method of a built-in type -/
theorem Ev.meth {b : Shared} {env : Env} {o : Expr} {name : Str} {apos pos : Pos} {e1 : Expr} {es : List Expr} {U id : String} {ov : Value} {Rs : List (Value → Heap → Prop)} {R : Value → Heap → Prop}
    (ho : Ev (model prog w) A b (eval o env) (rV ov)) (hp : PlainAttrs U) (hsl : Slot U name id) (hty : typeOf (.builtin id) = pure (.type "method_descriptor"))
    (hT : b.TypeIs ov U) (hdict : ∀ a, ov = .ref a → ∃ ob, b.heap.get? a = some ob ∧ ob.dict = none)
    (ha : Ev (model prog w) A b (spliced ((false, eval e1 env) :: evs es env)) (ListR Rs)) (hc : ∀ vs s, Kps b s → ListR Rs vs s.heap → Ev (model prog w) A s (call (.builtin id) (ov :: vs) []) R)
    (hbase : attributeBase o name env (eval o env) = eval o env := by rfl)
    (hfew : ((backTo pos (starEach (e1 :: es) env)).all (fun x => !x.1) && (backToKw pos (keywordEach [] env)).all (fun x => x.1.isSome) && decide ((e1 :: es).length + ([] : List Keyword).length + (if ([] : List Keyword).isEmpty then 0 else 1) < 30)) = true := by rfl)
    (hline : (apos.endLine == pos.line) = true := by rfl) (hs : backTo pos (starEach (e1 :: es) env) = (false, eval e1 env) :: evs es env := by rfl) (hpl : (((false, eval e1 env) :: evs es env).any (·.1)) = false := by rfl) :
    Ev (model prog w) A b (eval (.Call (.Attribute o name apos) (e1 :: es) [] pos) env) R := fun s ks Q E hQ => by
  refine wpAny_Call_method hbase hfew hline hp hsl hty (ho s ks _ _ fun v s1 k1 r1 => ?_)
  cases (r1 : v = ov)
  have k := ks.trans k1
  refine ⟨?_, fun a e => let ⟨ob, q, r⟩ := hdict a e; ⟨ob, k.heap _ _ q, r⟩, ?_⟩
  · cases ov with
    | ref a => obtain ⟨x, e, r⟩ := hT; exact ⟨x, k.heap _ _ e, r⟩
    | _ => exact hT
  · rw [hs]
    refine callWith_machine hpl rfl (evalArgs_plain (ha s1 k _ _ fun vs s2 k2 r2 => ?_))
    exact hc vs s2 (k.trans k2) r2 s2 (Kps.refl s2) _ _ fun v s' k3 r => hQ v s' ((k1.trans k2).trans k3) r
end
end Mine

end

/- St -/
section
open PySem PySem.Calls PyProof.Rows
namespace Mine
set_option maxRecDepth 100000
set_option linter.unusedVariables false

/-- a thing of the call's own: where it stands, what is so of it -/
structure Ent where
  fp : List Addr
  P : Heap → Prop
  loc : ∀ {h h' : Heap}, (∀ a ∈ fp, ∀ o, h.get? a = some o → h'.get? a = some o) → P h → P h'
  has : ∀ {h : Heap}, P h → ∀ a ∈ fp, ∃ o, h.get? a = some o

def eL (a : Addr) (items : Array Value) : Ent where
  fp := [a]
  P := fun h => h.PlainList a items
  loc := fun k x => x.at fun o e => k a (by simp) o e
  has := fun ⟨n, e⟩ b hb => by simp at hb; subst hb; exact ⟨_, e⟩
def eC (c : Addr) (v : Option Value) : Ent where
  fp := [c]
  P := fun h => h.IsCell c v
  loc := fun k ⟨o, e, r⟩ => ⟨o, k c (by simp) o e, r⟩
  has := fun ⟨o, e, _⟩ b hb => by simp at hb; subst hb; exact ⟨_, e⟩
def eI (I ax : Addr) (i : Nat) : Ent where
  fp := [I]
  P := fun h => h.IsListIter I ax i
  loc := fun k x => x.at fun o e => k I (by simp) o e
  has := fun ⟨o, e, _⟩ b hb => by simp at hb; subst hb; exact ⟨_, e⟩
def eR (I : Addr) (x left step : Int) : Ent where
  fp := [I]
  P := fun h => IsRangeIter h I x left step
  loc := fun k x => k I (by simp) _ x
  has := fun x b hb => by simp at hb; subst hb; exact ⟨_, x⟩
/-- an object, whole -/
def eO (a : Addr) (o : Obj) : Ent where
  fp := [a]
  P := fun h => h.get? a = some o
  loc := fun k e => k a (by simp) _ e
  has := fun e b hb => by simp at hb; subst hb; exact ⟨_, e⟩

def Agree (m : Str → Option Value) (vals : List (Str × Value)) : Prop := ∀ x v, vals.lookup x = some v → m x = some v
theorem Agree.nil {m : Str → Option Value} : Agree m [] := fun x v e => by cases e
theorem Agree.cons {m : Str → Option Value} {vals : List (Str × Value)} {x : Str} {v : Value} (h : m x = some v) (a : Agree m vals) : Agree m ((x, v) :: vals) := fun y u e => by
  rw [List.lookup_cons] at e
  cases hy : y == x with
  | true => rw [hy] at e; cases e; rw [eq_of_beq hy]; exact h
  | false => rw [hy] at e; exact a y u e
theorem Agree.set {m : Str → Option Value} {vals : List (Str × Value)} (a : Agree m vals) (x : Str) (v : Value) : Agree (fun y => if y = x then some v else m y) ((x, v) :: vals) := fun y u e => by
  rw [List.lookup_cons] at e
  cases hy : y == x with
  | true => rw [hy] at e; cases e; rw [eq_of_beq hy]; simp
  | false =>
    rw [hy] at e
    have : ¬ y = x := fun q => by rw [q] at hy; simp at hy
    simp only [this, if_false]
    exact a y u e
theorem Agree.of_eq {m : Str → Option Value} {vals : List (Str × Value)} (h : ∀ x, m x = vals.lookup x) : Agree m vals := fun x v e => (h x).trans e

/-- the state within a call: the frame at L, its names; the call's own things; all else as it was -/
structure St (s₀ : Shared) (X : List Addr) (L : Addr) (vals : List (Str × Value)) (l : List Ent) (s : Shared) : Prop where
  same : ∃ h tk, s = { s₀ with heap := h, toks := tk }
  keep : ∀ b o, b ∉ X → s₀.heap.get? b = some o → s.heap.get? b = some o
  ns : ∃ m, s.heap.Ns L m ∧ Agree m vals
  Lnew : s₀.heap.get? L = none
  LX : L ∉ X
  own : ∀ e ∈ l, e.P s.heap
  nd : l.Pairwise (fun e e' => ∀ a ∈ e.fp, a ∉ e'.fp)
  ndL : ∀ e ∈ l, L ∉ e.fp
  new : ∀ e ∈ l, ∀ a ∈ e.fp, a ∈ X ∨ s₀.heap.get? a = none

section
variable {s₀ s : Shared} {X : List Addr} {L : Addr} {vals : List (Str × Value)} {l : List Ent}

theorem St.kps (S : St s₀ X L vals l s) {s' : Shared} (k : Kps s s') : St s₀ X L vals l s' where
  same := by obtain ⟨h, tk, e⟩ := S.same; obtain ⟨h', tk', e'⟩ := k.same; exact ⟨h', tk', by rw [e', e]⟩
  keep := fun b o hb e => k.heap _ _ (S.keep b o hb e)
  ns := let ⟨m, n, a⟩ := S.ns; ⟨m, n.keeps k.heap, a⟩
  Lnew := S.Lnew
  LX := S.LX
  own := fun e he => e.loc (fun a _ o q => k.heap a o q) (S.own e he)
  nd := S.nd
  ndL := S.ndL
  new := S.new

theorem St.out (S : St s₀ [] L vals l s) : Kps s₀ s := ⟨S.same, fun b o e => S.keep b o (by simp) e⟩

/-- a new thing -/
theorem St.add (S : St s₀ X L vals l s) {s' : Shared} (k : Kps s s') (e : Ent) (hP : e.P s'.heap) (hnew : ∀ a ∈ e.fp, s.heap.get? a = none) : St s₀ X L vals (e :: l) s' := by
  have S' := S.kps k
  refine { S' with own := ?_, nd := ?_, ndL := ?_, new := ?_ }
  · intro e' he'
    rcases List.mem_cons.mp he' with rfl | he'
    · exact hP
    · exact S'.own e' he'
  · refine List.pairwise_cons.mpr ⟨fun e' he' a ha ha' => ?_, S.nd⟩
    obtain ⟨o, q⟩ := e'.has (S.own e' he') a ha'
    rw [hnew a ha] at q; cases q
  · intro e' he'
    rcases List.mem_cons.mp he' with rfl | he'
    · intro hL
      obtain ⟨m, ⟨o, _, _, q, _⟩, _⟩ := S.ns
      rw [hnew L hL] at q; cases q
    · exact S.ndL e' he'
  · intro e' he' a ha
    rcases List.mem_cons.mp he' with rfl | he'
    · by_cases hX : a ∈ X
      · exact .inl hX
      · right
        cases q : s₀.heap.get? a with
        | none => rfl
        | some o => have := S.keep a o hX q; rw [hnew a ha] at this; cases this
    · exact S.new e' he' a ha

/-- the frame's map changes -/
theorem St.frame (S : St s₀ X L vals l s) {h' : Heap} {tk : Nat} {m' : Str → Option Value} {vals' : List (Str × Value)} (hn : h'.Ns L m') (hs : Heap.ExtBut L s.heap h') (ha : Agree m' vals') : St s₀ X L vals' l { s with heap := h', toks := tk } where
  same := by obtain ⟨h, tk, e⟩ := S.same; exact ⟨h', _, by rw [e]⟩
  keep := fun b o hb e => hs b o (fun q => by rw [q, S.Lnew] at e; cases e) (S.keep b o hb e)
  ns := ⟨m', hn, ha⟩
  Lnew := S.Lnew
  LX := S.LX
  own := fun e he => e.loc (fun a ha o q => hs a o (fun p => S.ndL e he (p ▸ ha)) q) (S.own e he)
  nd := S.nd
  ndL := S.ndL
  new := S.new

/-- the names known may be forgotten, told in another order -/
theorem St.renam (S : St s₀ X L vals l s) {vals' : List (Str × Value)} (h : ∀ m, Agree m vals → Agree m vals') : St s₀ X L vals' l s := { S with ns := let ⟨m, n, a⟩ := S.ns; ⟨m, n, h m a⟩ }

/-- one thing changes -/
theorem St.upd (S : St s₀ X L vals l s) {pre post : List Ent} {e e' : Ent} (hl : l = pre ++ e :: post) {h' : Heap} {tk : Nat} (hs : ∀ b o, b ∉ e.fp → s.heap.get? b = some o → h'.get? b = some o) (hfp : e'.fp = e.fp) (hP : e'.P h') :
    St s₀ X L vals (pre ++ e' :: post) { s with heap := h', toks := tk } := by
  subst hl
  have hm : e ∈ pre ++ e :: post := List.mem_append_right _ (.head _)
  have old : ∀ x, x ∈ pre ++ e' :: post → x = e' ∨ (x ∈ pre ++ e :: post ∧ (∀ a ∈ x.fp, a ∉ e.fp)) := by
    intro x hx
    have hnd := List.pairwise_append.mp S.nd
    rcases List.mem_append.mp hx with hx | hx
    · exact .inr ⟨List.mem_append_left _ hx, hnd.2.2 x hx e (.head _)⟩
    · rcases List.mem_cons.mp hx with rfl | hx
      · exact .inl rfl
      · exact .inr ⟨List.mem_append_right _ (.tail _ hx), fun a ha ha' => (List.pairwise_cons.mp hnd.2.1).1 x hx a ha' ha⟩
  refine { same := ?_, keep := ?_, ns := ?_, Lnew := S.Lnew, LX := S.LX, own := ?_, nd := ?_, ndL := ?_, new := ?_ }
  · obtain ⟨h, tk, e⟩ := S.same; exact ⟨h', _, by rw [e]⟩
  · intro b o hb q
    refine hs b o (fun hbe => ?_) (S.keep b o hb q)
    rcases S.new e hm b hbe with h1 | h1
    · exact hb h1
    · rw [h1] at q; cases q
  · obtain ⟨m, n, a⟩ := S.ns
    exact ⟨m, n.at' fun o q => hs L o (S.ndL e hm) q, a⟩
  · intro x hx
    rcases old x hx with rfl | ⟨hx, ha⟩
    · exact hP
    · exact x.loc (fun a q o r => hs a o (ha a q) r) (S.own x hx)
  · have hnd := List.pairwise_append.mp S.nd
    have h2 := List.pairwise_cons.mp hnd.2.1
    refine List.pairwise_append.mpr ⟨hnd.1, List.pairwise_cons.mpr ⟨fun x hx => by rw [hfp]; exact h2.1 x hx, h2.2⟩, fun x hx y hy => ?_⟩
    rcases List.mem_cons.mp hy with rfl | hy
    · rw [hfp]; exact hnd.2.2 x hx e (.head _)
    · exact hnd.2.2 x hx y (.tail _ hy)
  · intro x hx
    rcases old x hx with rfl | ⟨hx, _⟩
    · rw [hfp]; exact S.ndL e hm
    · exact S.ndL x hx
  · intro x hx
    rcases old x hx with rfl | ⟨hx, _⟩
    · rw [hfp]; exact S.new e hm
    · exact S.new x hx

theorem St.upd0 {e e' : Ent} (S : St s₀ X L vals (e :: l) s) {h' : Heap} {tk : Nat} (hs : ∀ b o, b ∉ e.fp → s.heap.get? b = some o → h'.get? b = some o) (hfp : e'.fp = e.fp) (hP : e'.P h') : St s₀ X L vals (e' :: l) { s with heap := h', toks := tk } :=
  S.upd (pre := []) rfl hs hfp hP
theorem St.upd1 {d e e' : Ent} (S : St s₀ X L vals (d :: e :: l) s) {h' : Heap} {tk : Nat} (hs : ∀ b o, b ∉ e.fp → s.heap.get? b = some o → h'.get? b = some o) (hfp : e'.fp = e.fp) (hP : e'.P h') : St s₀ X L vals (d :: e' :: l) { s with heap := h', toks := tk } :=
  S.upd (pre := [d]) rfl hs hfp hP
theorem St.upd2 {c d e e' : Ent} (S : St s₀ X L vals (c :: d :: e :: l) s) {h' : Heap} {tk : Nat} (hs : ∀ b o, b ∉ e.fp → s.heap.get? b = some o → h'.get? b = some o) (hfp : e'.fp = e.fp) (hP : e'.P h') : St s₀ X L vals (c :: d :: e' :: l) { s with heap := h', toks := tk } :=
  S.upd (pre := [c, d]) rfl hs hfp hP
theorem St.upd3 {a c d e e' : Ent} (S : St s₀ X L vals (a :: c :: d :: e :: l) s) {h' : Heap} {tk : Nat} (hs : ∀ b o, b ∉ e.fp → s.heap.get? b = some o → h'.get? b = some o) (hfp : e'.fp = e.fp) (hP : e'.P h') : St s₀ X L vals (a :: c :: d :: e' :: l) { s with heap := h', toks := tk } :=
  S.upd (pre := [a, c, d]) rfl hs hfp hP
theorem St.upd4 {z a c d e e' : Ent} (S : St s₀ X L vals (z :: a :: c :: d :: e :: l) s) {h' : Heap} {tk : Nat} (hs : ∀ b o, b ∉ e.fp → s.heap.get? b = some o → h'.get? b = some o) (hfp : e'.fp = e.fp) (hP : e'.P h') : St s₀ X L vals (z :: a :: c :: d :: e' :: l) { s with heap := h', toks := tk } :=
  S.upd (pre := [z, a, c, d]) rfl hs hfp hP

/-- things may be forgotten, told in another order -/
theorem St.perm {l' : List Ent} (S : St s₀ X L vals l s) (h : l.Perm l') : St s₀ X L vals l' s where
  same := S.same
  keep := S.keep
  ns := S.ns
  Lnew := S.Lnew
  LX := S.LX
  own := fun e he => S.own e (h.mem_iff.mpr he)
  nd := (h.pairwise_iff (fun {x y} q a ha ha' => q a ha' ha)).mp S.nd
  ndL := fun e he => S.ndL e (h.mem_iff.mpr he)
  new := fun e he => S.new e (h.mem_iff.mpr he)
theorem St.sub {l' : List Ent} (S : St s₀ X L vals l s) (h : l'.Sublist l) : St s₀ X L vals l' s where
  same := S.same
  keep := S.keep
  ns := S.ns
  Lnew := S.Lnew
  LX := S.LX
  own := fun e he => S.own e (h.subset he)
  nd := S.nd.sublist h
  ndL := fun e he => S.ndL e (h.subset he)
  new := fun e he => S.new e (h.subset he)
theorem St.drop0 {e : Ent} (S : St s₀ X L vals (e :: l) s) : St s₀ X L vals l s := S.sub (List.sublist_cons_self _ _)
theorem St.drop1 {d e : Ent} (S : St s₀ X L vals (d :: e :: l) s) : St s₀ X L vals (d :: l) s := S.sub ((List.sublist_cons_self _ _).cons_cons _)
theorem St.drop2 {c d e : Ent} (S : St s₀ X L vals (c :: d :: e :: l) s) : St s₀ X L vals (c :: d :: l) s := S.sub (((List.sublist_cons_self _ _).cons_cons _).cons_cons _)

theorem St.at0 {e : Ent} (S : St s₀ X L vals (e :: l) s) : e.P s.heap := S.own _ (.head _)
theorem St.at1 {d e : Ent} (S : St s₀ X L vals (d :: e :: l) s) : e.P s.heap := S.own _ (.tail _ (.head _))
theorem St.at2 {c d e : Ent} (S : St s₀ X L vals (c :: d :: e :: l) s) : e.P s.heap := S.own _ (.tail _ (.tail _ (.head _)))
theorem St.at3 {a c d e : Ent} (S : St s₀ X L vals (a :: c :: d :: e :: l) s) : e.P s.heap := S.own _ (.tail _ (.tail _ (.tail _ (.head _))))
theorem St.at4 {z a c d e : Ent} (S : St s₀ X L vals (z :: a :: c :: d :: e :: l) s) : e.P s.heap := S.own _ (.tail _ (.tail _ (.tail _ (.tail _ (.head _)))))
end

section
variable {M : Model} {A : Around} {env : Env} {s₀ s : Shared} {X : List Addr} {L : Addr} {vals : List (Str × Value)} {l : List Ent} {E : Value → Shared → Prop}

/-- a name of the frame -/
theorem St.v (S : St s₀ X L vals l s) {x : Str} {pos : Pos} {v : Value} (hv : vals.lookup x = some v) (hL : env.locals = L := by rfl) (hk : env.scope.kind = .function := by rfl) (hl : env.kindOf x = some .local := by rfl)
    (hd : (x == ("__debug__" : Str)) = false := by decide +kernel) : Ev M A s (eval (.Name x pos) env) (rV v) := by
  obtain ⟨m, n, a⟩ := S.ns
  exact Ev.loc (by rw [hL]; exact n) (a x v hv) hk hl hd

theorem St.store (S : St s₀ X L vals l s) {x : Str} {v : Value} {Q : Unit → Shared → Prop} (hQ : ∀ s', St s₀ X L ((x, v) :: vals) l s' → Heap.SameBut L s.heap s'.heap → Q () s') (hL : env.locals = L := by rfl) (hl : env.kindOf x = some .local := by rfl)
    (hp : (env.scope.kind == .class || (env.scope.kind == .module && env.locals != env.globals)) = false := by rfl) : wpAny M A (storeName env x v) Q E s := by
  obtain ⟨m, n, a⟩ := S.ns
  refine wpAny_storeName_local hl (by rw [hL]; exact n) (fun h' hn hs => ?_) hp
  rw [hL] at hn hs
  exact hQ _ (S.frame hn hs.extBut (a.set x v)) hs

/-- x = e, x a plain local, e no comprehension -/
theorem St.assign (S : St s₀ X L vals l s) {x : Str} {pos' pos : Pos} {e : Expr} {R : Value → Heap → Prop} {Q : Flow → Shared → Prop} (he : Ev M A s (eval e env) R)
    (hQ : ∀ v s1 s', Kps s s1 → R v s1.heap → Heap.SameBut L s1.heap s'.heap → St s₀ X L ((x, v) :: vals) l s' → Q .next s')
    (hsw : swapsWith e (some (.Name x pos')) pos.line env = pure false := by rfl) (hL : env.locals = L := by rfl) (hl : env.kindOf x = some .local := by rfl)
    (hp : (env.scope.kind == .class || (env.scope.kind == .module && env.locals != env.globals)) = false := by rfl) : wpAny M A (exec (.Assign [.Name x pos'] e pos) env) Q E s :=
  wpAny_Assign_Name (he.go fun v s1 k1 r1 => (S.kps k1).store (fun s' S' sb => hQ v s1 s' k1 r1 sb S') hL hl hp) hsw
end
end Mine

end

/- Bis -/
section
open PySem PySem.Calls PyProof.Rows
namespace Mine
set_option maxRecDepth 100000
set_option linter.unusedVariables false

theorem short_div (i j : Int) (h : j.natAbs.log2 < 8000) : Builtin.divisionGoesByPylong i j = false := by
  unfold Builtin.divisionGoesByPylong
  dsimp only
  have : ¬ ((if j == 0 then 0 else j.natAbs.log2 / 30 + 1) > 300) := by split <;> omega
  rw [decide_eq_false this]; rfl

theorem Agree.get {m : Str → Option Value} {vals : List (Str × Value)} (a : Agree m vals) {x : Str} {v : Value} (h : vals.lookup x = some v) : m x = some v := a x v h

section
variable {prog : Program} {w : World} {A : Around} {s₀ s : Shared} {X : List Addr} {L : Addr} {env : Env} {l : List Ent}

/-- the halving: lo, hi close in on r -/
theorem bis_while {base : List (Str × Value)} {step : Stmt} {p1 p2 p3 p4 p5 p6 p7 p8 p9 p10 : Pos} {p11 : Pos} {k : Nat} {p : Nat → Bool} {lo hi r : Nat} {tl th : Tok} {E : Value → Shared → Prop} {Q : Flow → Shared → Prop}
    (S : St s₀ X L (("lo", .int lo tl) :: ("hi", .int hi th) :: base) l s) (h1 : lo ≤ r) (h2 : r ≤ hi) (hlo : ∀ i, lo ≤ i → i < r → p i = false) (hup : ∀ i, r ≤ i → i < hi → p i = true)
    (hstep : ∀ (lo' hi' mid : Nat) (tl th tm : Tok) (s : Shared), lo ≤ mid → mid < hi → St s₀ X L (("mid", .int mid tm) :: ("lo", .int lo' tl) :: ("hi", .int hi' th) :: base) l s → ∀ (Q : Flow → Shared → Prop) (E : Value → Shared → Prop),
      (p mid = true → ∀ s' t, St s₀ X L (("lo", .int lo' tl) :: ("hi", .int mid t) :: base) l s' → Q .next s') →
      (p mid = false → ∀ s' t, St s₀ X L (("lo", .int (mid + 1 : Nat) t) :: ("hi", .int hi' th) :: base) l s' → Q .next s') → wpAny (model prog w) A (exec step env) Q E s)
    (hQ : ∀ s' t th (hi' : Nat), St s₀ X L (("lo", .int r t) :: ("hi", .int hi' th) :: base) l s' → Q .next s')
    (hL : env.locals = L) (hk : env.scope.kind = .function) (kl : env.kindOf "lo" = some .local) (kh : env.kindOf "hi" = some .local) (km : env.kindOf "mid" = some .local)
    (hp : (env.scope.kind == .class || (env.scope.kind == .module && env.locals != env.globals)) = false) :
    wpAny (model prog w) A (exec (.While (.Compare (.Name "lo" p1) [.Lt] [.Name "hi" p2] p3) [.Assign [.Name "mid" p4] (.BinOp (.BinOp (.Name "lo" p5) .Add (.Name "hi" p6) p7) .FloorDiv (.Constant (.int 2) k p8) p9) p10, step] [] p11) env) Q E s := by
  refine wpAny_While (codeAny_whileLoop (fun n s' => ∃ (lo' hi' : Nat) (tl th : Tok), St s₀ X L (("lo", .int lo' tl) :: ("hi", .int hi' th) :: base) l s' ∧ lo ≤ lo' ∧ lo' ≤ r ∧ r ≤ hi' ∧ hi' ≤ hi ∧ n = hi' - lo') ?_ (hi - lo) ⟨lo, hi, tl, th, S, Nat.le_refl _, h1, h2, Nat.le_refl _, rfl⟩)
  rintro n s' ⟨lo', hi', tl, th, S', a1, a2, a3, a4, rfl⟩
  refine (Ev.tLt (i := lo') (j := hi') (Ev.asI (S'.v (by rfl) hL hk kl)) (Ev.asI (S'.v (by rfl) hL hk kh))).go fun c s1 k1 hc => ?_
  have S1 := S'.kps k1
  cases (hc : c = _)
  by_cases hlt : lo' < hi'
  · rw [if_pos (by simpa using hlt)]
    refine wpAny_execs_cons (S1.assign (R := rI (((lo' : Int) + hi').fdiv 2)) (Ev.fdiv (j := 2) (Ev.add (i := lo') (j := hi') (Ev.asI (S1.v (by rfl) hL hk kl)) (Ev.asI (S1.v (by rfl) hL hk kh))) Ev.kI (by decide) (short_div _ _ (by decide +kernel))) (fun v s2 s3 k2 hv sb S3 => ?_) (by rfl) hL km hp)
    obtain ⟨tm, rfl⟩ := hv
    have em : ((lo' : Int) + hi').fdiv 2 = (((lo' + hi') / 2 : Nat) : Int) := by
      rw [Int.fdiv_eq_ediv_of_nonneg _ (by decide)]; omega
    rw [em] at S3
    have b1 : lo' ≤ (lo' + hi') / 2 := by omega
    have b2 : (lo' + hi') / 2 < hi' := by omega
    generalize (lo' + hi') / 2 = mid at S3 b1 b2
    dsimp only
    refine wpAny_execs_cons (hstep lo' hi' mid tl th tm s3 (by omega) (by omega) S3 _ _ (fun hp s4 t S4 => ?_) (fun hp s4 t S4 => ?_))
    · refine wpAny_execs_nil ⟨mid - lo', by omega, lo', mid, tl, t, S4, a1, a2, ?_, by omega, rfl⟩
      refine Nat.le_of_not_lt fun q => ?_
      rw [hlo mid (by omega) q] at hp; cases hp
    · refine wpAny_execs_nil ⟨hi' - (mid + 1), by omega, mid + 1, hi', t, th, S4, by omega, ?_, a3, a4, rfl⟩
      refine Nat.lt_of_not_le fun q => ?_
      rw [hup mid q (by omega)] at hp; cases hp
  · rw [if_neg (by simpa using hlt)]
    have : lo' = r := by omega
    subst this
    exact wpAny_execs_nil (hQ s1 tl th hi' S1)
end
end Mine

end

/- Loop -/
section
open PySem PySem.Calls PyProof.Rows
namespace Mine
set_option maxRecDepth 100000
set_option linter.unusedVariables false

def eS (I : Addr) (ty : String) (x : Str) (t : Tok) (i : Nat) : Ent where
  fp := [I]
  P := fun h => h.IsStrIter I ty x t i
  loc := fun k ⟨o, e, r⟩ => ⟨o, k I (by simp) o e, r⟩
  has := fun ⟨o, e, _⟩ b hb => by simp at hb; subst hb; exact ⟨_, e⟩

/-- an iterator, item by item -/
structure Itr (prog : Program) (w : World) (A : Around) (ia : Addr) (n : Nat) (P : Nat → Value → Prop) (C : Heap → Prop) (e : Nat → Ent) : Prop where
  fp : ∀ i, (e i).fp = [ia]
  item : ∀ i (s : Shared) (Q : Option Value → Shared → Prop) (E : Value → Shared → Prop), i < n → (e i).P s.heap → C s.heap →
    (∀ v h' tk, P i v → (e (i + 1)).P h' → (∀ b o, b ≠ ia → s.heap.get? b = some o → h'.get? b = some o) → Q (some v) { s with heap := h', toks := tk }) → wpAny (model prog w) A (pyNext (.ref ia)) Q E s
  done : ∀ (s : Shared) (Q : Option Value → Shared → Prop) (E : Value → Shared → Prop), (e n).P s.heap → C s.heap →
    (∀ h' tk, (∀ b o, b ≠ ia → s.heap.get? b = some o → h'.get? b = some o) → Q none { s with heap := h', toks := tk }) → wpAny (model prog w) A (pyNext (.ref ia)) Q E s

section
variable {prog : Program} {w : World} {A : Around}

theorem Itr.list (hh : A.handled = none) (ia ax : Addr) (items : Array Value) : Itr prog w A ia items.size (fun i v => items[i]? = some v) (fun h => h.IsList ax items) (fun i => eI ia ax i) where
  fp := fun _ => rfl
  item := fun i s Q E hi he hc hQ => wpAny_pyNext_list_item (x := items[i]) he hc (by simp [hi]) fun h' hit' hs' => hQ _ h' s.toks (by simp [hi]) hit' fun b o hb e => hs'.extBut b o hb e
  done := fun s Q E he hc hQ => wpAny_pyNext_list_end hh he hc (by simp) fun h' he' => hQ h' s.toks fun b o hb e => he' b o hb e
theorem Itr.range (hh : A.handled = none) (ia : Addr) (a c : Int) (n : Nat) : Itr prog w A ia n (fun i v => ∃ t, v = .int (a + i * c) t) (fun _ => True) (fun i => eR ia (a + i * c) (n - i) c) where
  fp := fun _ => rfl
  item := fun i s Q E hi he hc hQ => wpAny_pyNext_range_item he (by omega) fun h' hit' hs' => hQ _ h' _ ⟨_, rfl⟩ (by
    show IsRangeIter _ _ _ _ _
    have e1 : a + ((i + 1 : Nat) : Int) * c = a + (i : Int) * c + c := by rw [Int.natCast_succ, Int.add_mul]; omega
    have e2 : ((n : Int) - ((i + 1 : Nat) : Int)) = (n : Int) - i - 1 := by omega
    rw [e1, e2]; exact hit') fun b o hb e => hs'.extBut b o hb e
  done := fun s Q E he hc hQ => wpAny_pyNext_range_end hh he (by omega) fun h' he' => hQ h' s.toks fun b o hb e => he' b o hb e
theorem Itr.ascii (hh : A.handled = none) (ia : Addr) (x : Str) (t : Tok) : Itr prog w A ia x.cps.size (fun i v => ∃ c u, x.cps[i]? = some c ∧ v = .str ⟨#[c]⟩ u) (fun _ => True) (fun i => eS ia "str_ascii_iterator" x t i) where
  fp := fun _ => rfl
  item := fun i s Q E hi he hc hQ => wpAny_pyNext_ascii_item (c := x.cps[i]) he (by simp [hi]) fun h' hit' hs' => hQ _ h' _ ⟨_, _, by simp [hi], rfl⟩ hit' fun b o hb e => hs'.extBut b o hb e
  done := fun s Q E he hc hQ => wpAny_pyNext_ascii_end hh he (by simp) fun h' he' => hQ h' s.toks fun b o hb e => he' b o hb e
theorem Itr.wide (hh : A.handled = none) (ia : Addr) (x : Str) (t : Tok) : Itr prog w A ia x.cps.size (fun i v => ∃ c u, x.cps[i]? = some c ∧ v = .str ⟨#[c]⟩ u) (fun _ => True) (fun i => eS ia "str_iterator" x t i) where
  fp := fun _ => rfl
  item := fun i s Q E hi he hc hQ => wpAny_pyNext_wide_item (c := x.cps[i]) he (by simp [hi]) fun h' hit' hs' => hQ _ h' _ ⟨_, _, by simp [hi], rfl⟩ hit' fun b o hb e => hs'.extBut b o hb e
  done := fun s Q E he hc hQ => wpAny_pyNext_wide_end hh he (by simp) fun h' he' => hQ h' s.toks fun b o hb e => he' b o hb e
end

section
variable {prog : Program} {w : World} {A : Around} {env : Env} {s₀ s : Shared} {X : List Addr} {L : Addr} {vals : List (Str × Value)} {l : List Ent}

theorem for_loop {ia : Addr} {n : Nat} {P : Nat → Value → Prop} {C : Heap → Prop} {e : Nat → Ent} {target : Expr} {body : List Stmt} {R : Result → Shared → Prop} (J : Nat → List (Str × Value) → List Ent → Prop)
    (I : Itr prog w A ia n P C e) (hC : ∀ i vals l s, i ≤ n → J i vals l → St s₀ X L vals (e i :: l) s → C s.heap)
    (turn : ∀ i vals l s v, i < n → J i vals l → P i v → St s₀ X L vals (e (i + 1) :: l) s → ∀ (Q : Flow → Shared → Prop) (E : Value → Shared → Prop), (∀ vals' l' s', J (i + 1) vals' l' → St s₀ X L vals' (e (i + 1) :: l') s' → Q .next s') →
      wpAny (model prog w) A (PySem.assign target env v) (fun _ s₂ => wpAny (model prog w) A (execs body env) Q E s₂) E s)
    (S : St s₀ X L vals (e 0 :: l) s) (h0 : J 0 vals l) (hR : ∀ vals l s, J n vals l → St s₀ X L vals l s → R (.ok .next) s)
    (ht : ∀ v, letOwnedTupleGo target (.ref ia) v = pure ()) : codeAny (model prog w) A (.forLoop target (.ref ia) body [] env) R s := by
  refine codeAny_forLoop (fun k s' => ∃ i vals l, J i vals l ∧ St s₀ X L vals (e i :: l) s' ∧ i ≤ n ∧ k = n - i) ?_ n ⟨0, vals, l, h0, S, Nat.zero_le _, rfl⟩ ht
  rintro k s' ⟨i, vals, l, hJ, S', hi, rfl⟩
  by_cases hlt : i < n
  · refine I.item i s' _ _ hlt S'.at0 (hC i vals l s' hi hJ S') fun v h' tk hv he hk => ?_
    have S2 : St s₀ X L vals (e (i + 1) :: l) { s' with heap := h', toks := tk } := S'.upd0 (by rw [I.fp]; exact fun b o hb q => hk b o (by simpa using hb) q) (by rw [I.fp, I.fp]) he
    exact turn i vals l _ v hlt hJ hv S2 _ _ fun vals' l' s3 hJ' S3 => ⟨n - (i + 1), by omega, i + 1, vals', l', hJ', S3, hlt, rfl⟩
  · have : i = n := by omega
    subst this
    refine I.done s' _ _ S'.at0 (hC i vals l s' hi hJ S') fun h' tk hk => wpAny_execs_nil ?_
    have hfp : ia ∈ (e i).fp := by rw [I.fp]; simp
    have nw := S'.new _ (.head _) ia hfp
    have S0 := S'.drop0
    refine hR vals l _ hJ { same := ?_, keep := ?_, ns := ?_, Lnew := S'.Lnew, LX := S'.LX, own := ?_, nd := S0.nd, ndL := S0.ndL, new := S0.new }
    · obtain ⟨h, tk, q⟩ := S'.same; exact ⟨h', _, by rw [q]⟩
    · intro b o hb q
      refine hk b o (fun p => ?_) (S'.keep b o hb q)
      subst p
      rcases nw with h1 | h1
      · exact hb h1
      · rw [h1] at q; cases q
    · obtain ⟨m, nn, a⟩ := S'.ns
      exact ⟨m, nn.at' fun o q => hk L o (fun p => S'.ndL _ (.head _) (p ▸ hfp)) q, a⟩
    · intro x hx
      exact x.loc (fun a ha o q => hk a o (fun p => (List.pairwise_cons.mp S'.nd).1 x hx ia hfp (p ▸ ha)) q) (S0.own x hx)

/-- a made range -/
abbrev rRange (a b c : Int) (v : Value) (h : Heap) : Prop := ∃ r t u x, v = .ref r ∧ IsRange h r a b c t u x

theorem fresh_size {s s' : Shared} (k : Kps s s') : s.heap.get? s'.heap.objs.size = none := by
  cases q : s.heap.get? s'.heap.objs.size with
  | none => rfl
  | some o => exact absurd (Heap.lt_size (k.heap _ _ q)) (Nat.lt_irrefl _)

theorem St.forRange {a b c : Int} {n : Nat} {target iter : Expr} {body : List Stmt} {pos : Pos} {E : Value → Shared → Prop} {Q : Flow → Shared → Prop} (J : Nat → List (Str × Value) → List Ent → Prop) (hh : A.handled = none)
    (S : St s₀ X L vals l s) (hit : Ev (model prog w) A s (eval iter env) (rRange a b c)) (hsm : Builtin.Range.small a b c = true) (hn : Builtin.Range.rangeSize a b c = n) (h0 : J 0 vals l)
    (turn : ∀ i vals l e s t, i < n → J i vals l → St s₀ X L vals (e :: l) s → ∀ (Q : Flow → Shared → Prop) (E : Value → Shared → Prop), (∀ vals' l' s', J (i + 1) vals' l' → St s₀ X L vals' (e :: l') s' → Q .next s') →
      wpAny (model prog w) A (PySem.assign target env (.int (a + i * c) t)) (fun _ s₂ => wpAny (model prog w) A (execs body env) Q E s₂) E s)
    (hQ : ∀ vals l s, J n vals l → St s₀ X L vals l s → Q .next s) (hs : ∀ x, foldedSetIterable iter env x = pure x := by intro _; rfl) (ht : ∀ ia v, letOwnedTupleGo target (.ref ia) v = pure () := by intro _ _; rfl) :
    wpAny (model prog w) A (exec (.For target iter body [] pos) env) Q E s := by
  refine wpAny_For (hit.go fun v s1 k1 hv => ?_) hs
  obtain ⟨r, t, u, x, rfl, hr⟩ := hv
  refine wpAny_pyIter_range hr hsm ?_
  have S1 := S.kps k1
  have S2 : St s₀ X L vals (eR s1.heap.objs.size (a + (0 : Nat) * c) (n - (0 : Nat)) c :: l) _ := S1.add (Kps.push s1 { cls := .type "range_iterator", data := .fields #[rawInt a, rawInt (Builtin.Range.rangeSize a b c), rawInt c] } s1.toks) _ (by
    show IsRangeIter _ _ _ _ _
    rw [hn]
    have e1 : a + ((0 : Nat) : Int) * c = a := by simp
    have e2 : ((n : Int) - ((0 : Nat) : Int)) = n := by simp
    rw [e1, e2]
    exact Heap.get?_push_size _ rfl) (by intro a ha; simp [eR] at ha; subst ha; exact fresh_size (Kps.refl s1))
  exact for_loop J (Itr.range hh s1.heap.objs.size a c n) (fun _ _ _ _ _ _ _ => trivial) (fun i vals l s v hi hJ ⟨t, hv⟩ S' Q E hq => by subst hv; exact turn i vals l _ s t hi hJ S' Q E hq) S2 h0 hQ (ht _)

theorem St.forStr {x : Str} {target iter : Expr} {body : List Stmt} {pos : Pos} {E : Value → Shared → Prop} {Q : Flow → Shared → Prop} (J : Nat → List (Str × Value) → List Ent → Prop) (hh : A.handled = none)
    (S : St s₀ X L vals l s) (hit : Ev (model prog w) A s (eval iter env) (rS x)) (h0 : J 0 vals l)
    (turn : ∀ i c vals l e s t, x.cps[i]? = some c → J i vals l → St s₀ X L vals (e :: l) s → ∀ (Q : Flow → Shared → Prop) (E : Value → Shared → Prop), (∀ vals' l' s', J (i + 1) vals' l' → St s₀ X L vals' (e :: l') s' → Q .next s') →
      wpAny (model prog w) A (PySem.assign target env (.str ⟨#[c]⟩ t)) (fun _ s₂ => wpAny (model prog w) A (execs body env) Q E s₂) E s)
    (hQ : ∀ vals l s, J x.cps.size vals l → St s₀ X L vals l s → Q .next s) (hs : ∀ x, foldedSetIterable iter env x = pure x := by intro _; rfl) (ht : ∀ ia v, letOwnedTupleGo target (.ref ia) v = pure () := by intro _ _; rfl) :
    wpAny (model prog w) A (exec (.For target iter body [] pos) env) Q E s := by
  refine wpAny_For (hit.go fun v s1 k1 hv => ?_) hs
  obtain ⟨t, rfl⟩ := hv
  have S1 := S.kps k1
  cases ha : x.cps.all (· < 128) with
  | true =>
    refine wpAny_pyIter_ascii ha ?_
    have S2 : St s₀ X L vals (eS s1.heap.objs.size "str_ascii_iterator" x t 0 :: l) _ := S1.add (Kps.push s1 { cls := .type "str_ascii_iterator", data := .fields #[.str x t, .int 0 0] } s1.toks) _ (by
      exact ⟨_, Heap.get?_push_size _ rfl, rfl, rfl⟩) (by intro a ha; simp [eS] at ha; subst ha; exact fresh_size (Kps.refl s1))
    exact for_loop J (Itr.ascii hh s1.heap.objs.size x t) (fun _ _ _ _ _ _ _ => trivial) (fun i vals l s v hi hJ ⟨c, u, hc, hv⟩ S' Q E hq => by subst hv; exact turn i c vals l _ s u hc hJ S' Q E hq) S2 h0 hQ (ht _)
  | false =>
    refine wpAny_pyIter_wide ha ?_
    have S2 : St s₀ X L vals (eS s1.heap.objs.size "str_iterator" x t 0 :: l) _ := S1.add (Kps.push s1 { cls := .type "str_iterator", data := .fields #[.str x t, .int 0 0] } s1.toks) _ (by
      exact ⟨_, Heap.get?_push_size _ rfl, rfl, rfl⟩) (by intro a ha; simp [eS] at ha; subst ha; exact fresh_size (Kps.refl s1))
    exact for_loop J (Itr.wide hh s1.heap.objs.size x t) (fun _ _ _ _ _ _ _ => trivial) (fun i vals l s v hi hJ ⟨c, u, hc, hv⟩ S' Q E hq => by subst hv; exact turn i c vals l _ s u hc hJ S' Q E hq) S2 h0 hQ (ht _)

theorem St.forList {ax : Addr} {items : Array Value} {target iter : Expr} {body : List Stmt} {pos : Pos} {E : Value → Shared → Prop} {Q : Flow → Shared → Prop} (J : Nat → List (Str × Value) → List Ent → Prop) (hh : A.handled = none)
    (S : St s₀ X L vals l s) (hit : Ev (model prog w) A s (eval iter env) (rV (.ref ax))) (h0 : J 0 vals l) (hC : ∀ i vals l e s, J i vals l → St s₀ X L vals (e :: l) s → s.heap.IsList ax items) (hl : s.heap.IsList ax items)
    (turn : ∀ i v vals l e s, items[i]? = some v → J i vals l → St s₀ X L vals (e :: l) s → ∀ (Q : Flow → Shared → Prop) (E : Value → Shared → Prop), (∀ vals' l' s', J (i + 1) vals' l' → St s₀ X L vals' (e :: l') s' → Q .next s') →
      wpAny (model prog w) A (PySem.assign target env v) (fun _ s₂ => wpAny (model prog w) A (execs body env) Q E s₂) E s)
    (hQ : ∀ vals l s, J items.size vals l → St s₀ X L vals l s → Q .next s) (hs : ∀ x, foldedSetIterable iter env x = pure x := by intro _; rfl) (ht : ∀ ia v, letOwnedTupleGo target (.ref ia) v = pure () := by intro _ _; rfl) :
    wpAny (model prog w) A (exec (.For target iter body [] pos) env) Q E s := by
  refine wpAny_For (hit.go fun v s1 k1 hv => ?_) hs
  cases (hv : v = _)
  refine wpAny_pyIter_list (hl.at fun o e => k1.heap _ o e) ?_
  have S1 := S.kps k1
  have S2 : St s₀ X L vals (eI s1.heap.objs.size ax 0 :: l) _ := S1.add (Kps.push s1 { cls := .type "list_iterator", data := .fields #[.ref ax, .int 0 0] } s1.toks) _ (by
    exact ⟨_, Heap.get?_push_size _ rfl, rfl, rfl⟩) (by intro a ha; simp [eI] at ha; subst ha; exact fresh_size (Kps.refl s1))
  exact for_loop J (Itr.list hh s1.heap.objs.size ax items) (fun i vals l s _ hJ S' => hC i vals l _ s hJ S') (fun i vals l s v hi hJ hv S' Q E hq => turn i v vals l _ s hv hJ S' Q E hq) S2 h0 hQ (ht _)
end
end Mine

end

/- Ru -/
section
open PySem PySem.Calls PyProof.Rows
namespace Mine
set_option maxRecDepth 100000
set_option linter.unusedVariables false

abbrev VL := List (Str × Value)

/-- a list of the tree's own making -/
abbrev rNew (b : Shared) (P : Array Value → Prop) (v : Value) (h : Heap) : Prop := ∃ a items, v = .ref a ∧ b.heap.get? a = none ∧ h.PlainList a items ∧ P items
theorem monoNew {b : Shared} {P : Array Value → Prop} : ∀ v h h', Kp h h' → rNew b P v h → rNew b P v h' := fun v h h' k ⟨a, its, e, n, p, q⟩ => ⟨a, its, e, n, p.at fun o e => k _ o e, q⟩
/-- a list that stands -/
abbrev rList (P : Array Value → Prop) (v : Value) (h : Heap) : Prop := ∃ a items, v = .ref a ∧ h.IsList a items ∧ P items
theorem monoList {P : Array Value → Prop} : ∀ v h h', Kp h h' → rList P v h → rList P v h' := fun v h h' k ⟨a, its, e, p, q⟩ => ⟨a, its, e, p.at fun o e => k _ o e, q⟩
theorem monoRange {a b c : Int} : ∀ v h h', Kp h h' → rRange a b c v h → rRange a b c v h' := fun v h h' k ⟨r, t, u, x, e, p⟩ => ⟨r, t, u, x, e, k _ _ p⟩
theorem new_list {b : Shared} {P : Array Value → Prop} {v : Value} {h : Heap} (x : rNew b P v h) : rList P v h := let ⟨a, its, e, _, p, q⟩ := x; ⟨a, its, e, p.isList, q⟩

section
variable {prog : Program} {w : World} {A : Around} {env : Env} {b : Shared}

theorem Ev.disp {e1 : Expr} {es : List Expr} {pos : Pos} {Rs : List (Value → Heap → Prop)} {P : Array Value → Prop} (h : Ev (model prog w) A b (spliced ((false, eval e1 env) :: evs es env)) (ListR Rs))
    (hP : ∀ vs h, ListR Rs vs h → vs.length ≤ 1000 ∧ P vs.toArray) (hs : backTo pos (starEach (e1 :: es) env) = (false, eval e1 env) :: evs es env := by rfl) :
    Ev (model prog w) A b (eval (.List (e1 :: es) pos) env) (rNew b P) := fun s ks Q E hQ => by
  refine wpAny_List ?_
  rw [hs]
  refine h s ks _ _ fun vs s1 k1 r => ?_
  obtain ⟨h1, h2⟩ := hP vs _ r
  exact ⟨by unfold sizeLine; omega, hQ _ { s1 with heap := s1.heap.push { cls := .type "list", data := .seq vs.toArray } } (k1.trans ⟨⟨_, _, rfl⟩, fun _ _ e => Heap.get?_push_of_some _ e⟩) ⟨_, vs.toArray, rfl, fresh_size (ks.trans k1), ⟨0, Heap.get?_push_size _ rfl⟩, h2⟩⟩

theorem Ev.range1 {v : Value} {n : Int} (h : rI n v b.heap) : Ev (model prog w) A b (call (.type "range") [v] []) (rRange 0 n 1) := fun s ks Q E hQ => by
  obtain ⟨t, rfl⟩ := h
  exact call_range_1 (hQ _ _ (Kps.push _ _ _) ⟨_, _, _, _, rfl, IsRange.new _ _ _ _ _ _ _⟩)
theorem Ev.range2 {v1 v2 : Value} {i j : Int} (h1 : rI i v1 b.heap) (h2 : rI j v2 b.heap) : Ev (model prog w) A b (call (.type "range") [v1, v2] []) (rRange i j 1) := fun s ks Q E hQ => by
  obtain ⟨t, rfl⟩ := h1
  obtain ⟨u, rfl⟩ := h2
  exact call_range_2 (hQ _ _ (Kps.push _ _ _) ⟨_, _, _, _, rfl, IsRange.new _ _ _ _ _ _ _⟩)
theorem Ev.range3 {v1 v2 v3 : Value} {i j c : Int} (h1 : rI i v1 b.heap) (h2 : rI j v2 b.heap) (h3 : rI c v3 b.heap) (hc : c ≠ 0) (hp : Builtin.divisionGoesByPylong (j - i) c = false) : Ev (model prog w) A b (call (.type "range") [v1, v2, v3] []) (rRange i j c) := fun s ks Q E hQ => by
  obtain ⟨t, rfl⟩ := h1
  obtain ⟨u, rfl⟩ := h2
  obtain ⟨x, rfl⟩ := h3
  exact call_range_3 hc (hQ _ _ (Kps.push _ _ _) ⟨_, _, _, _, rfl, IsRange.new _ _ _ _ _ _ _⟩) (.inl hp)

/-- list(range(..)) -/
theorem Ev.listRange {v : Value} {i j : Int} {n : Nat} (hh : A.handled = none) (h : rRange i j 1 v b.heap) (hsm : Builtin.Range.small i j 1 = true) (hn : Builtin.Range.rangeSize i j 1 = n) (hlen : n ≤ 2 ^ 24) :
    Ev (model prog w) A b (call (.type "list") [v] []) (rNew b fun its => its.size = n ∧ ∀ k, k < n → ∃ t, its[k]? = some (.int (i + (k : Int)) t)) := fun s ks Q E hQ => by
  obtain ⟨r, t, u, x, rfl, hr⟩ := h
  refine call_list_range hh (ks.heap _ _ hr) hsm hn hlen fun h' tk acc c' hk hS hacc => hQ _ _ (Kps.mk' hk) ⟨_, acc, rfl, fresh_size ks, ⟨c', hS⟩, hacc.1, fun k hk' => ?_⟩
  have hlt : k < acc.size := by rw [hacc.1]; exact hk'
  obtain ⟨t, e⟩ := hacc.2 k (acc[k]'hlt) (by simp [hlt])
  exact ⟨t, by rw [Array.getElem?_eq_getElem hlt, e]; simp⟩
theorem Ev.nb {t : Sem Value} {s : Shared} {P : Array Value → Prop} (h : Ev (model prog w) A s t (rNew s P)) (k : Kps b s) : Ev (model prog w) A s t (rNew b P) := h.weak fun v h' ⟨a, its, e, n, p, q⟩ => ⟨a, its, e, (by
  cases e1 : b.heap.get? a with
  | none => rfl
  | some o => have := k.heap _ _ e1; rw [n] at this; cases this), p, q⟩
theorem size_up {i j : Int} (h : i ≤ j) : Builtin.Range.rangeSize i j 1 = ((j - i).toNat : Int) := by
  rw [rangeSize_one]; split <;> omega
end

section
variable {prog : Program} {w : World} {A : Around} {env : Env} {s₀ s : Shared} {X : List Addr} {L : Addr} {vals : List (Str × Value)} {l : List Ent} {E : Value → Shared → Prop}

/-- x = a new list -/
theorem St.assignL (S : St s₀ X L vals l s) {x : Str} {pos' pos : Pos} {e : Expr} {P : Array Value → Prop} {Q : Flow → Shared → Prop} (he : Ev (model prog w) A s (eval e env) (rNew s P))
    (hQ : ∀ a items s', P items → s.heap.get? a = none → St s₀ X L ((x, .ref a) :: vals) (eL a items :: l) s' → Q .next s')
    (hsw : swapsWith e (some (.Name x pos')) pos.line env = pure false := by rfl) (hL : env.locals = L := by rfl) (hl : env.kindOf x = some .local := by rfl)
    (hp : (env.scope.kind == .class || (env.scope.kind == .module && env.locals != env.globals)) = false := by rfl) : wpAny (model prog w) A (exec (.Assign [.Name x pos'] e pos) env) Q E s := by
  refine wpAny_Assign_Name (he.go fun v s1 k1 r1 => ?_) hsw
  obtain ⟨a, items, rfl, hn, hp', hP⟩ := r1
  have S1 : St s₀ X L vals (eL a items :: l) s1 := S.add k1 (eL a items) hp' (by intro b hb; simp [eL] at hb; subst hb; exact hn)
  exact S1.store (fun s' S' _ => hQ a items s' hP hn S') hL hl hp

theorem call_append {D : Addr} {items : Array Value} {v : Value} {Q : Value → Shared → Prop} (S : St s₀ X L vals l s) {pre post : List Ent} (hl : l = pre ++ eL D items :: post) (hsz : items.size ≤ 100000)
    (hQ : ∀ s', St s₀ X L vals (pre ++ eL D (items.push v) :: post) s' → Q .none s') : wpAny (model prog w) A (call (.builtin "list.append") [.ref D, v]) Q E s := by
  have hD : s.heap.PlainList D items := S.own (eL D items) (by rw [hl]; exact List.mem_append_right _ (.head _))
  exact wpAny_list_append_plain hD (fun h' hp hs => hQ _ (S.upd hl (tk := s.toks) (e' := eL D (items.push v)) (fun b o hb q => hs.extBut b o (by simpa [eL] using hb) q) rfl hp)) (by unfold sizeLine; omega)

/-- out.append(g) -/
theorem St.append (S : St s₀ X L vals l s) {o g : Expr} {apos cpos epos : Pos} {D : Addr} {items : Array Value} {R : Value → Heap → Prop} {Q : Flow → Shared → Prop} {pre post : List Ent} (hl : l = pre ++ eL D items :: post) (hsz : items.size ≤ 100000)
    (ho : Ev (model prog w) A s (eval o env) (rV (.ref D))) (hg : Ev (model prog w) A s (eval g env) R)
    (hQ : ∀ v s1 s', Kps s s1 → R v s1.heap → St s₀ X L vals (pre ++ eL D (items.push v) :: post) s' → Q .next s')
    (hint : interactive env = false := by rfl) (hsw : swapsWith (.Call (.Attribute o "append" apos) [g] [] cpos) none epos.line env = pure false := by rfl) (hbase : attributeBase o "append" env (eval o env) = eval o env := by rfl)
    (hfew : ((backTo cpos (starEach [g] env)).all (fun x => !x.1) && (backToKw cpos (keywordEach [] env)).all (fun x => x.1.isSome) && decide (([g] : List Expr).length + ([] : List Keyword).length + (if ([] : List Keyword).isEmpty then 0 else 1) < 30)) = true := by rfl)
    (hline : (apos.endLine == cpos.line) = true := by rfl) (htrees : backTo cpos (starEach [g] env) = [(false, eval g env)] := by rfl) :
    wpAny (model prog w) A (exec (.Expr (.Call (.Attribute o "append" apos) [g] [] cpos) epos) env) Q E s := by
  refine wpAny_Expr (wpAny_Call_append hbase hfew hline htrees (ho.go fun v s1 k1 hv => ?_)) hint hsw
  cases (hv : v = _)
  have S1 := S.kps k1
  obtain ⟨n, hD⟩ := S1.own (eL D items) (by rw [hl]; exact List.mem_append_right _ (.head _))
  refine ⟨D, items, rfl, ⟨_, n, hD, rfl, rfl, rfl⟩, (hg.base k1).go fun v s2 k2 hv => ?_⟩
  exact call_append (S1.kps k2) hl hsz fun s' S' => hQ v s2 s' (k1.trans k2) hv S'

/-- x += e, texts -/
theorem St.augS (S : St s₀ X L vals l s) {x : Str} {pos' pos : Pos} {e : Expr} {y z : Str} {t : Tok} {Q : Flow → Shared → Prop} (hx : vals.lookup x = some (.str y t)) (he : Ev (model prog w) A s (eval e env) (rS z)) (hsz : y.length + z.length ≤ sizeLine)
    (hQ : ∀ s' t', St s₀ X L ((x, .str (y ++ z) t') :: vals) l s' → Q .next s')
    (hL : env.locals = L := by rfl) (hk : env.scope.kind = .function := by rfl) (hl : env.kindOf x = some .local := by rfl) (hp : (env.scope.kind == .class || (env.scope.kind == .module && env.locals != env.globals)) = false := by rfl) :
    wpAny (model prog w) A (exec (.AugAssign (.Name x pos') .Add e pos) env) Q E s := by
  refine wpAny_AugAssign_Name ?_
  obtain ⟨m, n, a⟩ := S.ns
  refine wpAny_loadName_local hk hl (by rw [hL]; exact n) (a x _ hx) (he.go fun v s1 k1 hv => ?_)
  obtain ⟨u, rfl⟩ := hv
  refine iadd_str (fun t' tk => ?_) hsz
  exact (S.kps (k1.trans (Kps.tok _ _))).store (fun s' S' _ => hQ s' t' S') hL hl hp

/-- for x in ..: the name -/
theorem St.bind (S : St s₀ X L vals l s) {x : Str} {pos : Pos} {v : Value} {Q : Unit → Shared → Prop} (hQ : ∀ s', St s₀ X L ((x, v) :: vals) l s' → Q () s') (hL : env.locals = L := by rfl) (hl : env.kindOf x = some .local := by rfl)
    (hp : (env.scope.kind == .class || (env.scope.kind == .module && env.locals != env.globals)) = false := by rfl) : wpAny (model prog w) A (PySem.assign (.Name x pos) env v) Q E s :=
  wpAny_assign_Name (S.store (fun s' S' _ => hQ s' S') hL hl hp)
end
end Mine

end

/- Cell -/
section
open PySem PySem.Calls PyProof.Rows PySem.W
namespace Mine
set_option maxRecDepth 100000
set_option linter.unusedVariables false

section
variable {prog : Program} {w : World} {A : Around} {s : Shared} {E : Value → Shared → Prop}

/-- a call of a def whose names are captured -/
theorem fnC {fa : Addr} {fd : FuncData} {body : List Stmt} {vs : List Value} {kw : List (Str × Value)} {binds : List (Str × Value)} {Q : Value → Shared → Prop} (hf : Fn s.heap fa fd) (hlim : s.heap.NoLimit) (hroom : A.depth < recursionLimit) (hbody : fd.body = .stmts body)
    (hclo : fd.closure = []) (hbind : BindsTo s fd ⟨vs, kw⟩ binds) (hkind : (binds.all fun y => fd.scope.names.lookup y.1 == some .local || fd.scope.names.lookup y.1 == some .cell) = true)
    (hco : (!fd.scope.isCoroutine && !fd.scope.isGenerator && fd.scope.kind == .function) = true)
    (h : ∀ L s₁, L = s.heap.objs.size → Kps s s₁ → s₁.heap.Ns L (bindL (callEnvC fd L fa).kindOf binds fun _ => none) →
      (∀ n c, (cellsFrom (L + 1) fd.scope.names []).lookup n = some c → s₁.heap.IsCell c (bindC (callEnvC fd L fa).kindOf binds (fun _ => none) n)) →
      wpAny (model prog w) (A.deeper (callEnvC fd L fa)) (execs body (callEnvC fd L fa)) (fun f s' => ∃ v, f = .ret v ∧ Q v s') (fun _ _ => False) s₁) :
    wpAny (model prog w) A (call (.ref fa) vs kw) Q E s := by
  simp only [Bool.and_eq_true, Bool.not_eq_true', beq_iff_eq] at hco
  obtain ⟨⟨h1, h2⟩, h3⟩ := hco
  obtain ⟨o, ho, hd⟩ := hf.at_
  refine wpAny_call (codeAny_call_function hroom ho hd h1 h2 hbody hf.code (hbind _ _ _ _ ?_))
  rw [hclo]
  refine wpAny_newFunctionEnv_cells h3 (kindsX hkind _) fun env he s' x => ?_
  subst he
  refine ⟨hlim.keeps x.toInCall.keep, codeAny_func ?_⟩
  refine wpAny_mono (h s.heap.objs.size s' rfl ⟨x.toInCall.same, x.toInCall.keep⟩ x.toInCall.ns x.cell) (fun f s' hx => ?_) fun _ _ x => x.elim
  obtain ⟨v, rfl, r⟩ := hx
  exact r
end

section
variable {s₀ s : Shared} {X : List Addr} {L : Addr} {vals : List (Str × Value)} {l : List Ent}

/-- one thing changes, and may grow -/
theorem St.updG (S : St s₀ X L vals l s) {pre post : List Ent} {e e' : Ent} (hl : l = pre ++ e :: post) {s' : Shared} (hsame : ∃ h tk, s' = { s with heap := h, toks := tk }) (hs : ∀ b o, b ∉ e.fp → s.heap.get? b = some o → s'.heap.get? b = some o)
    (hfp : ∀ a ∈ e'.fp, a ∈ e.fp ∨ s.heap.get? a = none) (hP : e'.P s'.heap) : St s₀ X L vals (pre ++ e' :: post) s' := by
  subst hl
  have hm : e ∈ pre ++ e :: post := List.mem_append_right _ (.head _)
  have hnd := List.pairwise_append.mp S.nd
  have h2 := List.pairwise_cons.mp hnd.2.1
  have old : ∀ x, x ∈ pre ++ e' :: post → x = e' ∨ (x ∈ pre ++ e :: post ∧ (∀ a ∈ x.fp, a ∉ e.fp)) := by
    intro x hx
    rcases List.mem_append.mp hx with hx | hx
    · exact .inr ⟨List.mem_append_left _ hx, hnd.2.2 x hx e (.head _)⟩
    · rcases List.mem_cons.mp hx with rfl | hx
      · exact .inl rfl
      · exact .inr ⟨List.mem_append_right _ (.tail _ hx), fun a ha ha' => h2.1 x hx a ha' ha⟩
  -- no other thing stands where the grown one stands
  have apart : ∀ x, x ∈ pre ++ e :: post → (∀ a ∈ x.fp, a ∉ e.fp) → ∀ a ∈ x.fp, a ∉ e'.fp := by
    intro x hx hne a ha ha'
    rcases hfp a ha' with h | h
    · exact hne a ha h
    · obtain ⟨o, q⟩ := x.has (S.own x hx) a ha
      rw [h] at q; cases q
  refine { same := ?_, keep := ?_, ns := ?_, Lnew := S.Lnew, LX := S.LX, own := ?_, nd := ?_, ndL := ?_, new := ?_ }
  · obtain ⟨h, tk, e⟩ := S.same; obtain ⟨h', tk', e'⟩ := hsame; exact ⟨h', tk', by rw [e', e]⟩
  · intro b o hb q
    refine hs b o (fun hbe => ?_) (S.keep b o hb q)
    rcases S.new e hm b hbe with h1 | h1
    · exact hb h1
    · rw [h1] at q; cases q
  · obtain ⟨m, n, a⟩ := S.ns
    exact ⟨m, n.at' fun o q => hs L o (S.ndL e hm) q, a⟩
  · intro x hx
    rcases old x hx with rfl | ⟨hx, ha⟩
    · exact hP
    · exact x.loc (fun a q o r => hs a o (ha a q) r) (S.own x hx)
  · refine List.pairwise_append.mpr ⟨hnd.1, List.pairwise_cons.mpr ⟨fun x hx a ha ha' => ?_, h2.2⟩, fun x hx y hy => ?_⟩
    · exact apart x (List.mem_append_right _ (.tail _ hx)) (fun b hb hb' => h2.1 x hx b hb' hb) a ha' ha
    · rcases List.mem_cons.mp hy with rfl | hy
      · exact apart x (List.mem_append_left _ hx) (hnd.2.2 x hx e (.head _))
      · exact hnd.2.2 x hx y (.tail _ hy)
  · intro x hx
    rcases old x hx with rfl | ⟨hx, _⟩
    · intro hL
      rcases hfp L hL with h | h
      · exact S.ndL e hm h
      · obtain ⟨m, ⟨o, _, _, q, _⟩, _⟩ := S.ns
        rw [h] at q; cases q
    · exact S.ndL x hx
  · intro x hx a ha
    rcases old x hx with rfl | ⟨hx, _⟩
    · rcases hfp a ha with h | h
      · exact S.new e hm a h
      · by_cases hX : a ∈ X
        · exact .inl hX
        · right
          cases q : s₀.heap.get? a with
          | none => rfl
          | some o => have := S.keep a o hX q; rw [h] at this; cases this
    · exact S.new x hx a ha

/-- the table of a def's own code objects: empty, or with the one lambda -/
def eTab (P : Addr) (ln cl : Nat) (q : Str) (oc : Option Addr) : Ent where
  fp := P :: oc.toList
  P := fun h => match oc with
    | none => h.get? P = some (tabObj #[])
    | some c => h.get? P = some (tabObj #[rawInt ln, rawInt cl, .ref c]) ∧ h.CodeRec (.ref c) q
  loc := fun {h h'} k x => by
    cases oc with
    | none => exact k P (by simp) _ x
    | some c =>
      obtain ⟨e, c₂, o, vs, t, e2, g, r⟩ := x
      cases e2
      exact ⟨k P (by simp) _ e, c, o, vs, t, rfl, k c (by simp) _ g, r⟩
  has := fun {h} x a ha => by
    cases oc with
    | none => simp at ha; subst ha; exact ⟨_, x⟩
    | some c =>
      obtain ⟨e, c₂, o, vs, t, e2, g, r⟩ := x
      cases e2
      simp at ha
      rcases ha with rfl | rfl
      · exact ⟨_, e⟩
      · exact ⟨_, g⟩
end

section
variable {prog : Program} {w : World} {A : Around} {env : Env} {s₀ s : Shared} {X : List Addr} {L : Addr} {vals : List (Str × Value)} {l : List Ent} {E : Value → Shared → Prop}

theorem St.storeC (S : St s₀ X L vals l s) {pre post : List Ent} {c : Addr} {v₀ : Option Value} (hl : l = pre ++ eC c v₀ :: post) {x : Str} {v : Value} {Q : Unit → Shared → Prop} (hQ : ∀ s', St s₀ X L vals (pre ++ eC c (some v) :: post) s' → Q () s')
    (hc : env.cells.lookup x = some c := by rfl) (hk : env.scope.kind = .function := by rfl) (hx : env.kindOf x = some .cell := by rfl) : wpAny (model prog w) A (storeName env x v) Q E s := by
  have h0 : s.heap.IsCell c v₀ := S.own (eC c v₀) (by rw [hl]; exact List.mem_append_right _ (.head _))
  exact wpAny_storeName_cell hk hx hc h0 fun h' hv hs => hQ _ (S.updG (e' := eC c (some v)) hl ⟨h', s.toks, rfl⟩ (fun b o hb q => hs.extBut b o (by simpa [eC] using hb) q) (fun a ha => .inl ha) hv)

/-- x = e, x captured -/
theorem St.assignC (S : St s₀ X L vals l s) {pre post : List Ent} {c : Addr} {v₀ : Option Value} (hl : l = pre ++ eC c v₀ :: post) {x : Str} {pos' pos : Pos} {e : Expr} {R : Value → Heap → Prop} {Q : Flow → Shared → Prop} (he : Ev (model prog w) A s (eval e env) R)
    (hQ : ∀ v s1 s', Kps s s1 → R v s1.heap → St s₀ X L vals (pre ++ eC c (some v) :: post) s' → Q .next s')
    (hsw : swapsWith e (some (.Name x pos')) pos.line env = pure false := by rfl) (hc : env.cells.lookup x = some c := by rfl) (hk : env.scope.kind = .function := by rfl) (hx : env.kindOf x = some .cell := by rfl) :
    wpAny (model prog w) A (exec (.Assign [.Name x pos'] e pos) env) Q E s :=
  wpAny_Assign_Name (he.go fun v s1 k1 r1 => (S.kps k1).storeC hl (fun s' S' => hQ v s1 s' k1 r1 S') hc hk hx) hsw
theorem St.bindC (S : St s₀ X L vals l s) {pre post : List Ent} {c : Addr} {v₀ : Option Value} (hl : l = pre ++ eC c v₀ :: post) {x : Str} {pos : Pos} {v : Value} {Q : Unit → Shared → Prop} (hQ : ∀ s', St s₀ X L vals (pre ++ eC c (some v) :: post) s' → Q () s')
    (hc : env.cells.lookup x = some c := by rfl) (hk : env.scope.kind = .function := by rfl) (hx : env.kindOf x = some .cell := by rfl) : wpAny (model prog w) A (PySem.assign (.Name x pos) env v) Q E s :=
  wpAny_assign_Name (S.storeC hl hQ hc hk hx)

/-- a lambda made: its code object is noted at the first making -/
theorem St.lambda (S : St s₀ X L vals l s) {pre post : List Ent} {c P : Addr} {oc : Option Addr} {params : Arguments} {body : Expr} {scope : Scope} {pos : Pos} {clos : List (Str × Addr)} {mg : Str → Option Value} {Q : Value → Shared → Prop}
    (hl : l = pre ++ eTab P pos.line pos.col (env.qual ++ ("<lambda>" : Str)) oc :: post) (hdef : defaultsOf params env = ([], [])) (hcl : closureFor scope env = pure clos) (hge0 : env.globals = mainGlobals) (hg : s.heap.Ns mainGlobals mg) (hcode : env.code = .ref c) (C : CodeHd s.heap c P)
    (hgP : mainGlobals ≠ P) (hb : s.heap.BuiltinsAt mg P)
    (hQ : ∀ f c' ctv s' q, St s₀ X L vals (pre ++ eTab P pos.line pos.col (env.qual ++ ("<lambda>" : Str)) (some c') :: post) s' → (∀ b o, b ∉ P :: oc.toList → s.heap.get? b = some o → s'.heap.get? b = some o) → s'.heap.CodeRec (.ref c') (env.qual ++ ("<lambda>" : Str)) →
      s'.heap.get? f = some (kla_obj "<lambda>" (env.qual ++ ("<lambda>" : Str)) params body scope clos q c' ctv) → Q (.ref f) s') :
    wpAny (model prog w) A (eval (.Lambda params body scope pos) env) Q E s := by
  refine kla_eval hdef ?_
  have hm := S.own (eTab P pos.line pos.col (env.qual ++ ("<lambda>" : Str)) oc) (by rw [hl]; exact List.mem_append_right _ (.head _))
  cases oc with
  | none =>
    have hP : s.heap.get? P = some (tabObj #[]) := hm
    refine kla_makeFunction hcl hge0 hg hcode C hP trivial rfl hgP hb fun c' ctv h' tk hx hge hlt hrec htb => ?_
    have hrec' : (h'.push (kla_obj "<lambda>" (env.qual ++ ("<lambda>" : Str)) params body scope clos ((mg "__name__").getD .none) c' ctv)).CodeRec (.ref c') (env.qual ++ ("<lambda>" : Str)) := hrec.push _
    refine hQ _ c' ctv _ _ (S.updG hl ⟨_, tk, rfl⟩ ?_ ?_ ?_) ?_ hrec' (Heap.get?_push_size _ rfl)
    · intro b o hb q
      exact Heap.get?_push_of_some _ (hx b o (by simpa [eTab] using hb) q)
    · intro a ha
      simp [eTab] at ha
      rcases ha with rfl | rfl
      · exact .inl (by simp [eTab])
      · exact .inr (Heap.get?_none_of_le hge)
    · exact ⟨Heap.get?_push_of_some _ htb, hrec'⟩
    · intro b o hb q
      exact Heap.get?_push_of_some _ (hx b o (by simpa using hb) q)
  | some c' =>
    obtain ⟨hP, hrec⟩ := hm
    refine kla_makeFunctionHit hcl hge0 hg hcode C hP trivial (cv := .ref c') ?_ hb fun ctv h' tk hk hsz => ?_
    · show codeAmong pos [rawInt pos.line, rawInt pos.col, .ref c'] = _
      simp [codeAmong, rawInt]
    have k : Kps s { s with heap := h'.push { cls := .type "function", data := .func (kla_fn "<lambda>" (env.qual ++ ("<lambda>" : Str)) params body scope clos ((mg "__name__").getD .none) (.ref c') ctv) }, toks := tk } := Kps.mk' fun b o e => Heap.get?_push_of_some _ (hk b o e)
    have S' := S.kps k
    rw [hl] at S'
    exact hQ _ c' ctv _ _ S' (fun b o _ q => k.heap b o q) (hrec.keeps k.heap) (Heap.get?_push_size _ rfl)
end

section
variable {prog : Program} {w : World} {A : Around} {b : Shared}

abbrev envX' (fd : FuncData) (L fa : Addr) : Env := newEnv fd.scope L fd.globals fd.closure (fd.qualname ++ (".<locals>." : Str)) (some fa) fd.code none fd.builtins

/-- a call of a lambda -/
theorem Ev.lam {fa : Addr} {o : Obj} {fd : FuncData} {body : Expr} {vs : List Value} {binds : List (Str × Value)} {R : Value → Heap → Prop} (ho : b.heap.get? fa = some o) (hd : o.data = .func fd) (hcd : b.heap.CodeRec fd.code fd.qualname) (hlim : b.heap.NoLimit) (hroom : A.depth < recursionLimit) (hbody : fd.body = .expr body)
    (hbind : bindArgs fd ⟨vs, []⟩ = pure binds) (hok : okScope fd (binds.map (·.1)) = true)
    (h : ∀ L s₁, Kps b s₁ → s₁.heap.Ns L (fun x => binds.reverse.lookup x) → Ev (model prog w) (A.deeper (envX' fd L fa)) s₁ (eval body (envX' fd L fa)) R) :
    Ev (model prog w) A b (call (.ref fa) vs []) R := fun s ks Q E hQ => by
  unfold okScope at hok
  simp only [Bool.and_eq_true, Bool.not_eq_true', beq_iff_eq] at hok
  obtain ⟨⟨⟨⟨h1, h2⟩, h3⟩, h4⟩, h5⟩ := hok
  refine wpAny_call (kla_callFunE hroom (ks.heap _ _ ho) hd h3 h4 hbody (hcd.keeps ks.heap) ?_)
  rw [hbind]
  refine wpAny_pure (wpAny_newFunctionEnv (cellsB h2) (locsB h1) (fun h₁ hns hsb => ?_) h5)
  have hkp : Kp s.heap h₁ := fun b o e => hsb.extBut b o (Nat.ne_of_lt (Heap.lt_size e)) (Heap.get?_push_of_some _ e)
  refine ⟨(hlim.keeps ks.heap).keeps hkp, kla_codeExpr ?_⟩
  have k1 : Kps s { s with heap := h₁, toks := s.toks + binds.length } := Kps.mk' hkp
  exact h s.heap.objs.size _ (ks.trans k1) hns _ (Kps.refl _) _ _ fun v s' k r => hQ v s' (k1.trans k) r
end
end Mine

end

/- Pure1 -/
section
namespace Mine

theorem beg_append : ∀ (x y : List Nat) (last : Nat), beg last (x ++ y) = beg last x ++ beg (x.getLastD last) y
  | [], y, last => by simp [beg]
  | c :: r, y, last => by
    rw [List.cons_append, beg, beg, beg_append r y c, List.append_assoc]
    congr 2
    cases r with
    | nil => simp
    | cons d r => rfl

/-- how much is sent of the text between two places -/
def wd (l : List Nat) (b e : Nat) : Nat := (qd ((l.drop b).take (e - b))).length

theorem wd_mono_e (l : List Nat) (b : Nat) {e e' : Nat} (h : e ≤ e') : wd l b e ≤ wd l b e' := by
  unfold wd qd
  have e1 : (l.drop b).take (e' - b) = (l.drop b).take (e - b) ++ ((l.drop b).take (e' - b)).drop (e - b) := by
    have := List.take_append_drop (e - b) ((l.drop b).take (e' - b))
    rw [List.take_take, Nat.min_eq_left (by omega)] at this
    exact this.symm
  rw [e1, beg_append, List.length_append]
  omega

theorem piece_len (last c : Nat) : (piece last c).length ≤ 2 := by unfold piece; (repeat' split) <;> simp
theorem piece_step (c d : Nat) : (piece 10 d).length ≤ (piece 10 c).length + (piece c d).length := by
  unfold piece
  (repeat' split) <;> simp <;> omega

theorem beg_drop (c : Nat) (r : List Nat) : (beg 10 r).length ≤ (beg 10 (c :: r)).length := by
  rw [beg, List.length_append]
  cases r with
  | nil => simp [beg]
  | cons d r =>
    rw [beg, beg, List.length_append, List.length_append]
    have := piece_step c d
    omega

theorem wd_step (l : List Nat) (b e : Nat) (h : e ≤ l.length) : wd l (b + 1) e ≤ wd l b e := by
  unfold wd qd
  by_cases hb : b + 1 ≤ e
  · have hlt : b < l.length := by omega
    rw [List.drop_eq_getElem_cons hlt, show e - b = (e - (b + 1)) + 1 by omega, List.take_succ_cons]
    exact beg_drop _ _
  · rw [show e - (b + 1) = 0 by omega]; simp [beg]
theorem wd_mono_b (l : List Nat) (e : Nat) (he : e ≤ l.length) {b b' : Nat} (h : b ≤ b') : wd l b' e ≤ wd l b e := by
  induction h with
  | refl => exact Nat.le_refl _
  | step h ih => exact Nat.le_trans (wd_step l _ e he) ih
theorem wd_one (l : List Nat) (b : Nat) : wd l b (b + 1) ≤ 2 := by
  unfold wd qd
  rw [show b + 1 - b = 1 by omega]
  cases h : l.drop b with
  | nil => simp [beg]
  | cons c r => simp [beg]; exact piece_len _ _

def lastP (p : Nat → Bool) : Nat → Nat
  | 0 => 0
  | n + 1 => if p (n + 1) then n + 1 else lastP p n
theorem lastP_le (p : Nat → Bool) : ∀ n, lastP p n ≤ n
  | 0 => Nat.le_refl _
  | n + 1 => by rw [lastP]; split; exact Nat.le_refl _; exact Nat.le_succ_of_le (lastP_le p n)
theorem lastP_no (p : Nat → Bool) : ∀ n i, lastP p n < i → i ≤ n → p i = false
  | 0, i, h1, h2 => by have : i = 0 := by omega
                       subst this; simp [lastP] at h1
  | n + 1, i, h1, h2 => by
    rw [lastP] at h1
    split at h1
    · omega
    · rename_i hp
      by_cases hi : i = n + 1
      · subst hi; simpa using hp
      · exact lastP_no p n i h1 (by omega)
theorem lastP_ge (p : Nat → Bool) : ∀ n i, i ≤ n → p i = true → i ≤ lastP p n
  | 0, i, h1, _ => by simp [lastP]; omega
  | n + 1, i, h1, h2 => by
    rw [lastP]
    split
    · exact h1
    · rename_i hp
      by_cases hi : i = n + 1
      · subst hi; exact absurd h2 hp
      · exact lastP_ge p n i (by omega) h2
theorem lastP_yes (p : Nat → Bool) : ∀ n, lastP p n ≠ 0 → p (lastP p n) = true
  | 0, h => absurd rfl h
  | n + 1, h => by
    rw [lastP] at h ⊢
    split
    · assumption
    · rename_i hp; rw [if_neg hp] at h; exact lastP_yes p n h

def firstP (p : Nat → Bool) : Nat → Nat → Nat
  | 0, i => i
  | k + 1, i => if p i then i else firstP p k (i + 1)
theorem firstP_ge (p : Nat → Bool) : ∀ k i, i ≤ firstP p k i
  | 0, i => Nat.le_refl _
  | k + 1, i => by rw [firstP]; split; exact Nat.le_refl _; exact Nat.le_trans (Nat.le_succ _) (firstP_ge p k (i + 1))
theorem firstP_le (p : Nat → Bool) : ∀ k i j, i ≤ j → j ≤ i + k → p j = true → firstP p k i ≤ j
  | 0, i, j, h1, h2, _ => by simp [firstP]; omega
  | k + 1, i, j, h1, h2, h3 => by
    rw [firstP]
    split
    · exact h1
    · rename_i hp
      by_cases hi : i = j
      · subst hi; exact absurd h3 hp
      · exact firstP_le p k (i + 1) j (by omega) (by omega) h3
theorem firstP_no (p : Nat → Bool) : ∀ k i j, i ≤ j → j < firstP p k i → p j = false
  | 0, i, j, h1, h2 => by simp [firstP] at h2; omega
  | k + 1, i, j, h1, h2 => by
    rw [firstP] at h2
    split at h2
    · omega
    · rename_i hp
      by_cases hi : i = j
      · subst hi; simpa using hp
      · exact firstP_no p k (i + 1) j (by omega) h2
theorem firstP_yes (p : Nat → Bool) : ∀ k i j, i ≤ j → j ≤ i + k → p j = true → p (firstP p k i) = true
  | 0, i, j, h1, h2, h3 => by have : i = j := by omega
                              subst this; exact h3
  | k + 1, i, j, h1, h2, h3 => by
    rw [firstP]
    split
    · assumption
    · rename_i hp
      by_cases hi : i = j
      · subst hi; exact absurd h3 hp
      · exact firstP_yes p k (i + 1) j (by omega) (by omega) h3

section
variable (l : List Nat) (room : Nat)
def nextF (b : Nat) : Nat := lastP (fun e => decide (wd l b e ≤ room)) l.length
def prevB (e : Nat) : Nat := firstP (fun b => decide (wd l b e ≤ room)) e 0
def cutsF : Nat → List Nat
  | 0 => [0]
  | i + 1 => if (cutsF i).getLastD 0 < l.length then cutsF i ++ [nextF l room ((cutsF i).getLastD 0)] else cutsF i
def cutsB : Nat → List Nat
  | 0 => [l.length]
  | i + 1 => if 0 < (cutsB i).headD 0 then prevB l room ((cutsB i).headD 0) :: cutsB i else cutsB i

variable {l room}
theorem nextF_gt (hr : 2 ≤ room) {b : Nat} (hb : b < l.length) : b + 1 ≤ nextF l room b :=
  lastP_ge _ _ _ (by omega) (by have := wd_one l b; simp; omega)
theorem nextF_le (b : Nat) : nextF l room b ≤ l.length := lastP_le _ _
theorem nextF_ok (hr : 2 ≤ room) {b : Nat} (hb : b < l.length) {i : Nat} (hi : i ≤ nextF l room b) : wd l b i ≤ room := by
  have h := lastP_yes (fun e => decide (wd l b e ≤ room)) l.length (by have := nextF_gt hr hb; unfold nextF at this; omega)
  have h2 : wd l b (nextF l room b) ≤ room := of_decide_eq_true h
  exact Nat.le_trans (wd_mono_e l b hi) h2
theorem nextF_no {b i : Nat} (h1 : nextF l room b < i) (h2 : i ≤ l.length) : room < wd l b i := by
  have := lastP_no (fun e => decide (wd l b e ≤ room)) l.length i h1 h2
  simpa using this
theorem prevB_lt (hr : 2 ≤ room) {e : Nat} (he : 0 < e) : prevB l room e < e := by
  have : firstP (fun b => decide (wd l b e ≤ room)) e 0 ≤ e - 1 := firstP_le _ _ _ _ (by omega) (by omega) (by
    have := wd_one l (e - 1)
    rw [show e - 1 + 1 = e by omega] at this
    simp; omega)
  unfold prevB; omega
theorem prevB_no {e i : Nat} (h : i < prevB l room e) : room < wd l i e := by
  have := firstP_no (fun b => decide (wd l b e ≤ room)) e 0 i (by omega) h
  simpa using this
theorem prevB_ok (hr : 2 ≤ room) {e : Nat} (he : 0 < e) (hel : e ≤ l.length) {i : Nat} (hi : prevB l room e ≤ i) : wd l i e ≤ room := by
  have h := firstP_yes (fun b => decide (wd l b e ≤ room)) e 0 (e - 1) (by omega) (by omega) (by
    have := wd_one l (e - 1)
    rw [show e - 1 + 1 = e by omega] at this
    simp; omega)
  have h2 : wd l (prevB l room e) e ≤ room := of_decide_eq_true h
  exact Nat.le_trans (wd_mono_b l e hel hi) h2
end
end Mine

end

/- F01 -/
section
open PySem PySem.Calls PyProof.Rows
namespace Mine
set_option maxRecDepth 100000
set_option linter.unusedVariables false

abbrev prg : Program := PySem.Challenge.rw_nb0087_01.row.prog
def P0 : Params := { strHash := fun _ => 0, shareClass := fun _ => 0, mergeTok := id, idOf := fun _ => 0, idOfShared := fun _ _ => 0, followText := fun _ => false, idOfImm := fun _ => 0 }
noncomputable def ko (a : Addr) : Obj := ((hd.heap_39 P0).lookup a).getD default
noncomputable def kf (a : Addr) : FuncData := match (ko a).data with | .func fd => fd | _ => default
def bodyOf (fd : FuncData) : List Stmt := match fd.body with | .stmts b => b | .expr _ => []

theorem plainAttrs_pat : PlainAttrs "re.Pattern" :=
  ⟨⟨"object.__getattribute__", by rw [typeLookup_type, builtinLookup_eq_fast]; kernel_rfl, by decide +kernel⟩, by rw [typeLookup_type, builtinLookup_eq_fast]; kernel_rfl⟩

/-- the ground: the text's own objects, the names -/
structure Gd (w : World) (mg mb : Str → Option Value) (h : Heap) : Prop where
  wd : Wd mg mb h
  fn : ∀ a fd, (hd.heap_39 w.params).lookup a = some { cls := .type "function", data := .func fd } → Fn h a fd
  k : (hd.heap_39 w.params).In h
  mgl : ∀ x v, (PySem.W.nsIn (hd.heap_39 w.params) 3 x) = some v → mg x = v
  mbl : ∀ x v, bootBuiltins x = some v → x ≠ "__name__" → mb x = some v
  bm : ∃ ob, h.get? 4 = some ob ∧ ob.cls = .type "module" ∧ ob.dict = some builtinsNs ∧ ob.data = .plain

theorem Gd.keeps {w : World} {mg mb : Str → Option Value} {h h' : Heap} (G : Gd w mg mb h) (k : Kp h h') : Gd w mg mb h' :=
  ⟨G.wd.keeps k, fun a fd e => (G.fn a fd e).keeps k, fun a o e => k _ _ (G.k a o e), G.mgl, G.mbl, let ⟨ob, e, r⟩ := G.bm; ⟨ob, k _ _ e, r⟩⟩

section
variable {w : World} {A : Around} {b : Shared} {mg mb : Str → Option Value}

theorem Gd.at {h : Heap} (G : Gd w mg mb h) (a : Addr) (e : (hd.heap_39 w.params).lookup a = some (ko a)) : h.get? a = some (ko a) := G.k a _ e
theorem Gd.builtinsAt {h : Heap} (G : Gd w mg mb h) (P : Addr) (hP : (4 : Addr) ≠ P) : h.BuiltinsAt mg P := let ⟨ob, e, r⟩ := G.bm; ⟨4, ob, G.mgl "__builtins__" _ (by kernel_rfl), by decide, by decide, hP, e, r⟩
theorem pat1 {h : Heap} (G : Gd w mg mb h) : IsPat h 36 code1 := ⟨35, _, _, _, _, G.at 36 (by kernel_rfl), G.at 35 (by kernel_rfl), _, _, by exact rfl, rfl, by kernel_rfl⟩
theorem pat2 {h : Heap} (G : Gd w mg mb h) : IsPat h 41 code2 := ⟨40, _, _, _, _, G.at 41 (by kernel_rfl), G.at 40 (by kernel_rfl), _, _, by exact rfl, rfl, by kernel_rfl⟩

theorem sub2_ev {p : Addr} {x r : Str} {v1 v2 : Value} (hp : IsPat b.heap p code2) (hr : rS r v1 b.heap) (er : r = ⟨#[13, 10]⟩) (hv : rS x v2 b.heap) (hx : x.cps.size ≤ 10000) : Ev (model prg w) A b (call (.builtin "re.Pattern.sub") [.ref p, v1, v2] []) (rS (T (norm 10 x.cps.toList))) := fun s ks Q E hQ => by
  obtain ⟨t1, rfl⟩ := hr
  obtain ⟨t2, rfl⟩ := hv
  subst er
  refine sub_call (out := norm 10 x.cps.toList) (hp.keeps ks.heap) (by decide) hx (by decide +kernel) ?_ fun h' tk t' hk => hQ _ _ (Kps.mk' hk) ⟨_, rfl⟩
  have := subs2 x.cps (by omega) x.cps.size 0 10 (by omega) (by omega) (fun _ h => by omega)
  simpa using this
theorem sub1_ev {p : Addr} {x r : Str} {v1 v2 : Value} (hp : IsPat b.heap p code1) (hr : rS r v1 b.heap) (er : r = ⟨#[46, 46]⟩) (hv : rS x v2 b.heap) (hx : x.cps.size ≤ 10000) : Ev (model prg w) A b (call (.builtin "re.Pattern.sub") [.ref p, v1, v2] []) (rS (T (dots 10 x.cps.toList))) := fun s ks Q E hQ => by
  obtain ⟨t1, rfl⟩ := hr
  obtain ⟨t2, rfl⟩ := hv
  subst er
  refine sub_call (out := dots 10 x.cps.toList) (hp.keeps ks.heap) (by decide) hx (by decide +kernel) ?_ fun h' tk t' hk => hQ _ _ (Kps.mk' hk) ⟨_, rfl⟩
  have := subs1 x.cps (by omega) x.cps.size 0 10 (by omega) (by omega) (by simp)
  simpa using this

theorem IsPat.type {h : Heap} {p : Addr} {code : Array Nat} (hp : IsPat h p code) : ∃ ob, h.get? p = some ob ∧ ob.cls = .type "re.Pattern" ∧ ob.dict = none := by
  obtain ⟨c, p0, p1, o, d2, e1, _⟩ := hp
  exact ⟨_, e1, rfl, rfl⟩

theorem quotedata_ev {x : Str} {v : Value} (G : Gd w mg mb b.heap) (hA : Rm A 3) (hv : rS x v b.heap) (hx : x.cps.size ≤ 4000) : Ev (model prg w) A b (call (.ref 48) [v] []) (rS (T (qd x.cps.toList))) := by
  obtain ⟨t, rfl⟩ := hv
  refine Ev.fn (fd := kf 48) (body := bodyOf (kf 48)) (binds := [("data", .str x t)]) (G.fn 48 _ (by kernel_rfl)) G.wd.lim hA.room (by kernel_rfl) (fun s ks => BindsTo.of_eq (by kernel_rfl)) (by kernel_rfl) fun s L s₁ k0 hL k1 hn => ?_
  have G' := (G.keeps k0.heap).keeps k1.heap
  refine wpAny_execs_cons (wpAny_Return_some ?_)
  have hl := norm_len x.cps.toList 10
  refine Ev.go (R := rS (T (qd x.cps.toList))) ?_ fun v s' k r => ⟨v, rfl, k1.trans k, r⟩
  refine Ev.meth (ov := .ref 36) (Rs := [rS ⟨#[46, 46]⟩, rS (T (norm 10 x.cps.toList))]) (Ev.glob G'.wd (G'.mgl "_twin_re_1" (some (.ref 36)) (by kernel_rfl))) plainAttrs_pat slot_sub type_sub
    (by obtain ⟨ob, e, c, _⟩ := (pat1 G').type; exact ⟨ob, e, c⟩) (fun a e => by cases e; obtain ⟨ob, e, _, d⟩ := (pat1 G').type; exact ⟨ob, e, d⟩) ?_ ?_
  · refine Ev.s2 Ev.kS monoS ?_ monoS
    refine Ev.meth (ov := .ref 41) (Rs := [rS ⟨#[13, 10]⟩, rS x]) (Ev.glob G'.wd (G'.mgl "_twin_re_2" (some (.ref 41)) (by kernel_rfl))) plainAttrs_pat slot_sub type_sub
      (by obtain ⟨ob, e, c, _⟩ := (pat2 G').type; exact ⟨ob, e, c⟩) (fun a e => by cases e; obtain ⟨ob, e, _, d⟩ := (pat2 G').type; exact ⟨ob, e, d⟩) ?_ ?_
    · exact Ev.s2 (Ev.asS (Ev.glob G'.wd (G'.mgl "CRLF" (some (.str ⟨#[13, 10]⟩ 342)) (by kernel_rfl)))) monoS (Ev.asS (Ev.loc hn (v := .str x t) (by kernel_rfl))) monoS
    · intro vs s2 k2 hvs
      obtain ⟨v1, _, rfl, h1, v2, _, rfl, h2, rfl⟩ := hvs
      exact sub2_ev (pat2 (G'.keeps k2.heap)) h1 rfl h2 (by omega)
  · intro vs s2 k2 hvs
    obtain ⟨v1, _, rfl, h1, v2, _, rfl, h2, rfl⟩ := hvs
    have := sub1_ev (w := w) (A := A.deeper (envF (kf 48) L 48)) (pat1 (G'.keeps k2.heap)) h1 rfl h2 (by show (norm 10 x.cps.toList).toArray.size ≤ 10000; simp at hl ⊢; omega)
    rw [show (T (norm 10 x.cps.toList)).cps.toList = norm 10 x.cps.toList by rfl, dots_norm _ 10 10 (by simp)] at this
    exact this
theorem quotedata_T {l : List Nat} {v : Value} (G : Gd w mg mb b.heap) (hA : Rm A 3) (hv : rS (T l) v b.heap) (hx : l.length ≤ 4000) : Ev (model prg w) A b (call (.ref 48) [v] []) (rS (T (qd l))) := by
  have := quotedata_ev (A := A) G hA hv (by show l.toArray.size ≤ 4000; simpa using hx)
  simpa using this
end
end Mine

end

/- F02 -/
section
open PySem PySem.Calls PyProof.Rows
namespace Mine
set_option maxRecDepth 100000
set_option linter.unusedVariables false

theorem lookup_reverse5 {m : Str → Option Value} {a b c d e : Str} {va vb vc vd ve : Value} (h : m = fun x => [(a, va), (b, vb), (c, vc), (d, vd), (e, ve)].reverse.lookup x) : Agree m [(e, ve), (d, vd), (c, vc), (b, vb), (a, va)] := by subst h; exact Agree.of_eq fun _ => rfl

section
variable {w : World} {A : Around} {b : Shared} {mg mb : Str → Option Value}

theorem bindR3 {h : Shared} (G : Gd w mg mb h.heap) (va vx vlo vk : Value) : BindsTo h (kf 57) ⟨[va, vx, vlo], [("key", vk)]⟩ [("a", va), ("x", vx), ("lo", vlo), ("hi", .none), ("key", vk)] :=
  BindsTo.of_defaults (T := 49) (by kernel_rfl) (G.at 49 (by kernel_rfl)) (by exact rfl) (by exact rfl) (by kernel_rfl)
theorem bindL4 {h : Shared} (G : Gd w mg mb h.heap) (va vx vlo vhi vk : Value) : BindsTo h (kf 66) ⟨[va, vx, vlo, vhi], [("key", vk)]⟩ [("a", va), ("x", vx), ("lo", vlo), ("hi", vhi), ("key", vk)] :=
  BindsTo.of_defaults (T := 58) (by kernel_rfl) (G.at 58 (by kernel_rfl)) (by exact rfl) (by exact rfl) (by kernel_rfl)

/-- what the halving looks at: the items themselves, or a key of them -/
def Probe (w : World) (b : Shared) (n : Nat) (vk : Value) (items : Array Value) (lo hi : Nat) (f : Nat → Int) : Prop :=
  (vk = .none ∧ ∀ i, i < hi → ∃ t, items[i]? = some (.int (f i) t)) ∨
  (∃ fk o fd, vk = .ref fk ∧ b.heap.get? fk = some o ∧ o.data = .func fd ∧ (∀ i, i < hi → ∃ t, items[i]? = some (.int (i : Nat) t)) ∧
    ∀ A s i t, Rm A n → Kps b s → lo ≤ i → i < hi → Ev (model prg w) A s (call (.ref fk) [.int (i : Nat) t] []) (rI (f i)))

/-- the end of the stretch: told, or the list's -/
def Upto (vhi : Value) (size hi : Nat) : Prop := (vhi = .none ∧ hi = size) ∨ ∃ t, vhi = .int hi t

theorem bisectR_ev {la : Addr} {items : Array Value} {n lo hi r : Nat} {f : Nat → Int} {x : Int} {tx tlo : Tok} {vhi vk : Value} {args : Args}
    (G : Gd w mg mb b.heap) (hA : Rm A (n + 1)) (hbind : ∀ s, Gd w mg mb s.heap → BindsTo s (kf 57) args [("a", .ref la), ("x", .int x tx), ("lo", .int lo tlo), ("hi", vhi), ("key", vk)])
    (hl : b.heap.IsList la items) (hsz : items.size < 2 ^ 60) (hhi : hi ≤ items.size) (hu : Upto vhi items.size hi) (hk : Probe w b n vk items lo hi f)
    (h1 : lo ≤ r) (h2 : r ≤ hi) (hlo : ∀ i, lo ≤ i → i < r → ¬ x < f i) (hup : ∀ i, r ≤ i → i < hi → x < f i) : Ev (model prg w) A b (call (.ref 57) args.pos args.kw) (rI r) := by
  refine Ev.fn (fd := kf 57) (body := bodyOf (kf 57)) (binds := [("a", .ref la), ("x", .int x tx), ("lo", .int lo tlo), ("hi", vhi), ("key", vk)]) (G.fn 57 _ (by kernel_rfl)) G.wd.lim hA.room (by kernel_rfl) (fun s ks => hbind s (G.keeps ks.heap)) (by kernel_rfl) fun s L s₁ k0 hL k1 hn => ?_
  have hA' : Rm (A.deeper (envF (kf 57) L 57)) n := hA.deeper
  have Gs := G.keeps k0.heap
  have S : St s [] L [("key", vk), ("hi", vhi), ("lo", .int lo tlo), ("x", .int x tx), ("a", .ref la)] [] s₁ :=
    ⟨k1.same, fun b o _ e => k1.heap b o e, ⟨_, hn, lookup_reverse5 rfl⟩, by subst hL; exact Heap.get?_none_of_le (Nat.le_refl _), by simp, by simp, List.Pairwise.nil, by simp, by simp⟩
  generalize hAA : A.deeper (envF (kf 57) L 57) = A' at hA'
  refine wpAny_execs_cons (wpAny_If ((Ev.tLt (i := lo) (j := 0) (Ev.asI (S.v (by rfl))) Ev.kI).go fun c s2 k2 hc => ?_))
  cases (hc : c = _)
  rw [if_neg (by simp)]
  refine wpAny_execs_nil ?_
  have S2 := S.kps k2
  refine wpAny_execs_cons (wpAny_mono (Q := fun fl s' => fl = .next ∧ ∃ th, St s [] L [("lo", .int lo tlo), ("hi", .int hi th), ("a", .ref la), ("x", .int x tx), ("key", vk)] [] s') ?_ (fun fl s3 h3 => ?_) fun _ _ x => x)
  · refine wpAny_If ((Ev.tIsNone (u := vhi) (S2.v (by rfl)) Ev.kN).go fun c s3 k3 hc => ?_)
    cases (hc : c = _)
    have S3 := S2.kps k3
    rcases hu with ⟨rfl, rfl⟩ | ⟨th, rfl⟩
    · rw [if_pos (by rfl)]
      have hl3 : s3.heap.IsList la items := hl.at fun o e => ((k0.trans k1).trans (k2.trans k3)).heap _ o e
      have G3 := ((Gs.keeps k1.heap).keeps k2.heap).keeps k3.heap
      refine wpAny_execs_cons (S3.assign (R := rI items.size) (Ev.callB (Rs := [rV (.ref la)]) (Ev.blt G3.wd (G3.mgl "len" none (by kernel_rfl)) (G3.mbl "len" (.builtin "len") (by kernel_rfl) (by decide +kernel))) ?_ ?_) fun v s4 s5 k4 hv sb S5 => ?_)
      · exact Ev.s1 (S3.v (by rfl)) monoV
      · intro vs s4 k4 hvs
        obtain ⟨v1, _, rfl, rfl, rfl⟩ := hvs
        exact Ev.lenL (hl3.at fun o e => k4.heap _ o e) (by omega)
      · obtain ⟨th, rfl⟩ := hv
        exact wpAny_execs_nil ⟨rfl, th, S5.renam fun m a => .cons (a.get rfl) (.cons (a.get rfl) (.cons (a.get rfl) (.cons (a.get rfl) (.cons (a.get rfl) .nil))))⟩
    · rw [if_neg (by simp)]
      exact wpAny_execs_nil ⟨rfl, th, S3.renam fun m a => .cons (a.get rfl) (.cons (a.get rfl) (.cons (a.get rfl) (.cons (a.get rfl) (.cons (a.get rfl) .nil))))⟩
  obtain ⟨rfl, th, S3⟩ := h3
  dsimp only
  have Gs3 : ∀ {s' vals}, St s [] L vals [] s' → Gd w mg mb s'.heap := fun S' => Gs.keeps S'.out.heap
  have hls : ∀ {s' vals}, St s [] L vals [] s' → s'.heap.IsList la items := fun S' => hl.at fun o e => (k0.trans S'.out).heap _ o e
  refine wpAny_execs_cons (wpAny_mono (Q := fun fl s' => fl = .next ∧ ∃ t th, ∃ hi' : Nat, St s [] L [("lo", .int r t), ("hi", .int hi' th), ("a", .ref la), ("x", .int x tx), ("key", vk)] [] s') ?_ (fun fl s4 h4 => ?_) fun _ _ x => x)
  · refine wpAny_If ((Ev.tIsNone (u := vk) (S3.v (by rfl)) Ev.kN).go fun c s4 k4 hc => ?_)
    cases (hc : c = _)
    have S4 := S3.kps k4
    rcases hk with ⟨rfl, hit⟩ | ⟨fk, o, fd, rfl, ho, hd, hit, hcall⟩
    · rw [if_pos (by rfl)]
      refine wpAny_execs_cons (bis_while (p := fun i => decide (x < f i)) S4 h1 h2 (fun i a b => by simpa using hlo i a b) (fun i a b => by simpa using hup i a b) ?_ (fun s' t th hi' S' => wpAny_execs_nil ⟨rfl, t, th, hi', S'⟩) (by rfl) (by rfl) (by rfl) (by rfl) (by rfl) (by rfl))
      intro lo' hi' mid tl th tm s5 b1 b2 S5 Q E hq1 hq2
      obtain ⟨ti, hti⟩ := hit mid b2
      refine wpAny_If ((Ev.tLt (i := x) (j := f mid) (Ev.asI (S5.v (by rfl))) (Ev.item (R1 := rV (.ref la)) (R2 := rI mid) (S5.v (by rfl)) (Ev.asI (S5.v (by rfl))) monoV ?_)).go fun c s6 k6 hc => ?_)
      · intro v1 v2 s6 k6 r1 r2
        exact (Ev.itemL r1 ((hls S5).at fun o e => k6.heap _ o e) r2 (by omega) (by simpa using hti) (by omega) (fun t => by rfl)).asI
      · cases (hc : c = _)
        have S6 := S5.kps k6
        by_cases hp : x < f mid
        · rw [if_pos (by simpa using hp)]
          refine wpAny_execs_cons (S6.assign (S6.v (by rfl)) fun v s7 s8 k7 hv sb S8 => ?_)
          cases (hv : v = _)
          exact wpAny_execs_nil (hq1 (by simpa using hp) s8 tm (S8.renam fun m a => .cons (a.get rfl) (.cons (a.get rfl) (.cons (a.get rfl) (.cons (a.get rfl) (.cons (a.get rfl) .nil))))))
        · rw [if_neg (by simpa using hp)]
          refine wpAny_execs_cons (S6.assign (R := rI ((mid : Int) + 1)) (Ev.add (Ev.asI (S6.v (by rfl))) Ev.kI) fun v s7 s8 k7 hv sb S8 => ?_)
          obtain ⟨t, rfl⟩ := hv
          exact wpAny_execs_nil (hq2 (by simpa using hp) s8 t (S8.renam fun m a => .cons (a.get rfl) (.cons (a.get rfl) (.cons (a.get rfl) (.cons (a.get rfl) (.cons (a.get rfl) .nil))))))
    · rw [if_neg (by simp)]
      refine wpAny_execs_cons (bis_while (p := fun i => decide (x < f i)) S4 h1 h2 (fun i a b => by simpa using hlo i a b) (fun i a b => by simpa using hup i a b) ?_ (fun s' t th hi' S' => wpAny_execs_nil ⟨rfl, t, th, hi', S'⟩) (by rfl) (by rfl) (by rfl) (by rfl) (by rfl) (by rfl))
      intro lo' hi' mid tl th tm s5 b1 b2 S5 Q E hq1 hq2
      obtain ⟨ti, hti⟩ := hit mid b2
      refine wpAny_If ((Ev.tLt (i := x) (j := f mid) (Ev.asI (S5.v (by rfl))) (Ev.callF (Rs := [rV (.int (mid : Nat) ti)]) (S5.v (by rfl)) ((k0.trans S5.out).heap _ _ ho) hd ?_ ?_)).go fun c s6 k6 hc => ?_)
      · refine Ev.s1 (Ev.item (R1 := rV (.ref la)) (R2 := rI mid) (S5.v (by rfl)) (Ev.asI (S5.v (by rfl))) monoV ?_) monoV
        intro v1 v2 s6 k6 r1 r2
        exact Ev.itemL r1 ((hls S5).at fun o e => k6.heap _ o e) r2 (by omega) (by simpa using hti) (by omega) (fun t => by rfl)
      · intro vs s6 k6 hvs
        obtain ⟨v1, _, rfl, rfl, rfl⟩ := hvs
        exact hcall _ s6 mid ti hA' ((k0.trans S5.out).trans k6) b1 b2
      · cases (hc : c = _)
        have S6 := S5.kps k6
        by_cases hp : x < f mid
        · rw [if_pos (by simpa using hp)]
          refine wpAny_execs_cons (S6.assign (S6.v (by rfl)) fun v s7 s8 k7 hv sb S8 => ?_)
          cases (hv : v = _)
          exact wpAny_execs_nil (hq1 (by simpa using hp) s8 tm (S8.renam fun m a => .cons (a.get rfl) (.cons (a.get rfl) (.cons (a.get rfl) (.cons (a.get rfl) (.cons (a.get rfl) .nil))))))
        · rw [if_neg (by simpa using hp)]
          refine wpAny_execs_cons (S6.assign (R := rI ((mid : Int) + 1)) (Ev.add (Ev.asI (S6.v (by rfl))) Ev.kI) fun v s7 s8 k7 hv sb S8 => ?_)
          obtain ⟨t, rfl⟩ := hv
          exact wpAny_execs_nil (hq2 (by simpa using hp) s8 t (S8.renam fun m a => .cons (a.get rfl) (.cons (a.get rfl) (.cons (a.get rfl) (.cons (a.get rfl) (.cons (a.get rfl) .nil))))))
  obtain ⟨rfl, t, th, hi', S4⟩ := h4
  dsimp only
  refine wpAny_execs_cons (wpAny_Return_some ((S4.v (by rfl)).go fun v s' k hv => ?_))
  cases (hv : v = _)
  exact ⟨_, rfl, S4.out.trans k, t, rfl⟩
theorem bisectL_ev {la : Addr} {items : Array Value} {n lo hi r : Nat} {f : Nat → Int} {x : Int} {tx tlo : Tok} {vhi vk : Value} {args : Args}
    (G : Gd w mg mb b.heap) (hA : Rm A (n + 1)) (hbind : ∀ s, Gd w mg mb s.heap → BindsTo s (kf 66) args [("a", .ref la), ("x", .int x tx), ("lo", .int lo tlo), ("hi", vhi), ("key", vk)])
    (hl : b.heap.IsList la items) (hsz : items.size < 2 ^ 60) (hhi : hi ≤ items.size) (hu : Upto vhi items.size hi) (hk : Probe w b n vk items lo hi f)
    (h1 : lo ≤ r) (h2 : r ≤ hi) (hlo : ∀ i, lo ≤ i → i < r → f i < x) (hup : ∀ i, r ≤ i → i < hi → ¬ f i < x) : Ev (model prg w) A b (call (.ref 66) args.pos args.kw) (rI r) := by
  refine Ev.fn (fd := kf 66) (body := bodyOf (kf 66)) (binds := [("a", .ref la), ("x", .int x tx), ("lo", .int lo tlo), ("hi", vhi), ("key", vk)]) (G.fn 66 _ (by kernel_rfl)) G.wd.lim hA.room (by kernel_rfl) (fun s ks => hbind s (G.keeps ks.heap)) (by kernel_rfl) fun s L s₁ k0 hL k1 hn => ?_
  have hA' : Rm (A.deeper (envF (kf 66) L 66)) n := hA.deeper
  have Gs := G.keeps k0.heap
  have S : St s [] L [("key", vk), ("hi", vhi), ("lo", .int lo tlo), ("x", .int x tx), ("a", .ref la)] [] s₁ :=
    ⟨k1.same, fun b o _ e => k1.heap b o e, ⟨_, hn, lookup_reverse5 rfl⟩, by subst hL; exact Heap.get?_none_of_le (Nat.le_refl _), by simp, by simp, List.Pairwise.nil, by simp, by simp⟩
  generalize hAA : A.deeper (envF (kf 66) L 66) = A' at hA'
  refine wpAny_execs_cons (wpAny_If ((Ev.tLt (i := lo) (j := 0) (Ev.asI (S.v (by rfl))) Ev.kI).go fun c s2 k2 hc => ?_))
  cases (hc : c = _)
  rw [if_neg (by simp)]
  refine wpAny_execs_nil ?_
  have S2 := S.kps k2
  refine wpAny_execs_cons (wpAny_mono (Q := fun fl s' => fl = .next ∧ ∃ th, St s [] L [("lo", .int lo tlo), ("hi", .int hi th), ("a", .ref la), ("x", .int x tx), ("key", vk)] [] s') ?_ (fun fl s3 h3 => ?_) fun _ _ x => x)
  · refine wpAny_If ((Ev.tIsNone (u := vhi) (S2.v (by rfl)) Ev.kN).go fun c s3 k3 hc => ?_)
    cases (hc : c = _)
    have S3 := S2.kps k3
    rcases hu with ⟨rfl, rfl⟩ | ⟨th, rfl⟩
    · rw [if_pos (by rfl)]
      have hl3 : s3.heap.IsList la items := hl.at fun o e => ((k0.trans k1).trans (k2.trans k3)).heap _ o e
      have G3 := ((Gs.keeps k1.heap).keeps k2.heap).keeps k3.heap
      refine wpAny_execs_cons (S3.assign (R := rI items.size) (Ev.callB (Rs := [rV (.ref la)]) (Ev.blt G3.wd (G3.mgl "len" none (by kernel_rfl)) (G3.mbl "len" (.builtin "len") (by kernel_rfl) (by decide +kernel))) ?_ ?_) fun v s4 s5 k4 hv sb S5 => ?_)
      · exact Ev.s1 (S3.v (by rfl)) monoV
      · intro vs s4 k4 hvs
        obtain ⟨v1, _, rfl, rfl, rfl⟩ := hvs
        exact Ev.lenL (hl3.at fun o e => k4.heap _ o e) (by omega)
      · obtain ⟨th, rfl⟩ := hv
        exact wpAny_execs_nil ⟨rfl, th, S5.renam fun m a => .cons (a.get rfl) (.cons (a.get rfl) (.cons (a.get rfl) (.cons (a.get rfl) (.cons (a.get rfl) .nil))))⟩
    · rw [if_neg (by simp)]
      exact wpAny_execs_nil ⟨rfl, th, S3.renam fun m a => .cons (a.get rfl) (.cons (a.get rfl) (.cons (a.get rfl) (.cons (a.get rfl) (.cons (a.get rfl) .nil))))⟩
  obtain ⟨rfl, th, S3⟩ := h3
  dsimp only
  have Gs3 : ∀ {s' vals}, St s [] L vals [] s' → Gd w mg mb s'.heap := fun S' => Gs.keeps S'.out.heap
  have hls : ∀ {s' vals}, St s [] L vals [] s' → s'.heap.IsList la items := fun S' => hl.at fun o e => (k0.trans S'.out).heap _ o e
  refine wpAny_execs_cons (wpAny_mono (Q := fun fl s' => fl = .next ∧ ∃ t th, ∃ hi' : Nat, St s [] L [("lo", .int r t), ("hi", .int hi' th), ("a", .ref la), ("x", .int x tx), ("key", vk)] [] s') ?_ (fun fl s4 h4 => ?_) fun _ _ x => x)
  · refine wpAny_If ((Ev.tIsNone (u := vk) (S3.v (by rfl)) Ev.kN).go fun c s4 k4 hc => ?_)
    cases (hc : c = _)
    have S4 := S3.kps k4
    rcases hk with ⟨rfl, hit⟩ | ⟨fk, o, fd, rfl, ho, hd, hit, hcall⟩
    · rw [if_pos (by rfl)]
      refine wpAny_execs_cons (bis_while (p := fun i => decide (¬ f i < x)) S4 h1 h2 (fun i a b => by simpa using hlo i a b) (fun i a b => by simpa using hup i a b) ?_ (fun s' t th hi' S' => wpAny_execs_nil ⟨rfl, t, th, hi', S'⟩) (by rfl) (by rfl) (by rfl) (by rfl) (by rfl) (by rfl))
      intro lo' hi' mid tl th tm s5 b1 b2 S5 Q E hq1 hq2
      obtain ⟨ti, hti⟩ := hit mid b2
      refine wpAny_If ((Ev.tLt (i := f mid) (j := x) (Ev.item (R1 := rV (.ref la)) (R2 := rI mid) (S5.v (by rfl)) (Ev.asI (S5.v (by rfl))) monoV ?_) (Ev.asI (S5.v (by rfl)))).go fun c s6 k6 hc => ?_)
      · intro v1 v2 s6 k6 r1 r2
        exact (Ev.itemL r1 ((hls S5).at fun o e => k6.heap _ o e) r2 (by omega) (by simpa using hti) (by omega) (fun t => by rfl)).asI
      · cases (hc : c = _)
        have S6 := S5.kps k6
        by_cases hp : f mid < x
        · rw [if_pos (by simpa using hp)]
          refine wpAny_execs_cons (S6.assign (R := rI ((mid : Int) + 1)) (Ev.add (Ev.asI (S6.v (by rfl))) Ev.kI) fun v s7 s8 k7 hv sb S8 => ?_)
          obtain ⟨t, rfl⟩ := hv
          exact wpAny_execs_nil (hq2 (by simpa using hp) s8 t (S8.renam fun m a => .cons (a.get rfl) (.cons (a.get rfl) (.cons (a.get rfl) (.cons (a.get rfl) (.cons (a.get rfl) .nil))))))
        · rw [if_neg (by simpa using hp)]
          refine wpAny_execs_cons (S6.assign (S6.v (by rfl)) fun v s7 s8 k7 hv sb S8 => ?_)
          cases (hv : v = _)
          exact wpAny_execs_nil (hq1 (by simpa using hp) s8 tm (S8.renam fun m a => .cons (a.get rfl) (.cons (a.get rfl) (.cons (a.get rfl) (.cons (a.get rfl) (.cons (a.get rfl) .nil))))))
    · rw [if_neg (by simp)]
      refine wpAny_execs_cons (bis_while (p := fun i => decide (¬ f i < x)) S4 h1 h2 (fun i a b => by simpa using hlo i a b) (fun i a b => by simpa using hup i a b) ?_ (fun s' t th hi' S' => wpAny_execs_nil ⟨rfl, t, th, hi', S'⟩) (by rfl) (by rfl) (by rfl) (by rfl) (by rfl) (by rfl))
      intro lo' hi' mid tl th tm s5 b1 b2 S5 Q E hq1 hq2
      obtain ⟨ti, hti⟩ := hit mid b2
      refine wpAny_If ((Ev.tLt (i := f mid) (j := x) (Ev.callF (Rs := [rV (.int (mid : Nat) ti)]) (S5.v (by rfl)) ((k0.trans S5.out).heap _ _ ho) hd ?_ ?_) (Ev.asI (S5.v (by rfl)))).go fun c s6 k6 hc => ?_)
      · refine Ev.s1 (Ev.item (R1 := rV (.ref la)) (R2 := rI mid) (S5.v (by rfl)) (Ev.asI (S5.v (by rfl))) monoV ?_) monoV
        intro v1 v2 s6 k6 r1 r2
        exact Ev.itemL r1 ((hls S5).at fun o e => k6.heap _ o e) r2 (by omega) (by simpa using hti) (by omega) (fun t => by rfl)
      · intro vs s6 k6 hvs
        obtain ⟨v1, _, rfl, rfl, rfl⟩ := hvs
        exact hcall _ s6 mid ti hA' ((k0.trans S5.out).trans k6) b1 b2
      · cases (hc : c = _)
        have S6 := S5.kps k6
        by_cases hp : f mid < x
        · rw [if_pos (by simpa using hp)]
          refine wpAny_execs_cons (S6.assign (R := rI ((mid : Int) + 1)) (Ev.add (Ev.asI (S6.v (by rfl))) Ev.kI) fun v s7 s8 k7 hv sb S8 => ?_)
          obtain ⟨t, rfl⟩ := hv
          exact wpAny_execs_nil (hq2 (by simpa using hp) s8 t (S8.renam fun m a => .cons (a.get rfl) (.cons (a.get rfl) (.cons (a.get rfl) (.cons (a.get rfl) (.cons (a.get rfl) .nil))))))
        · rw [if_neg (by simpa using hp)]
          refine wpAny_execs_cons (S6.assign (S6.v (by rfl)) fun v s7 s8 k7 hv sb S8 => ?_)
          cases (hv : v = _)
          exact wpAny_execs_nil (hq1 (by simpa using hp) s8 tm (S8.renam fun m a => .cons (a.get rfl) (.cons (a.get rfl) (.cons (a.get rfl) (.cons (a.get rfl) (.cons (a.get rfl) .nil))))))
  obtain ⟨rfl, t, th, hi', S4⟩ := h4
  dsimp only
  refine wpAny_execs_cons (wpAny_Return_some ((S4.v (by rfl)).go fun v s' k hv => ?_))
  cases (hv : v = _)
  exact ⟨_, rfl, S4.out.trans k, t, rfl⟩
end
end Mine

end

/- F03 -/
section
open PySem PySem.Calls PyProof.Rows
namespace Mine
set_option maxRecDepth 100000
set_option linter.unusedVariables false

/-- the sign that a number of the script stands for -/
def sg (n : Int) : Nat := if n % 5 = 4 then (n / 5 % 55000).toNat else ([97, 46, 13, 10] : List Nat).getD (n % 5).toNat 0

section
variable {w : World} {A : Around} {b : Shared} {mg mb : Str → Option Value}

theorem fm (n : Int) {k : Int} (h : 0 < k) : n.fmod k = n % k := by rw [Int.fmod_eq_emod_of_nonneg _ (by omega)]
theorem fd' (n : Int) {k : Int} (h : 0 < k) : n.fdiv k = n / k := by rw [Int.fdiv_eq_ediv_of_nonneg _ (by omega)]

theorem Gd.blt {env : Env} {x : Str} {v : Value} {pos : Pos} (G : Gd w mg mb b.heap) (h1 : PySem.W.nsIn (hd.heap_39 w.params) 3 x = some none) (h2 : bootBuiltins x = some v) (h3 : x ≠ "__name__") (hg : env.globals = mainGlobals) (hb : env.builtins = builtinsNs) (hk : env.scope.kind = .function) (hx : env.kindOf x = some .globalImplicit)
    (hd : (x == ("__debug__" : Str)) = false) : Ev (model prg w) A b (eval (.Name x pos) env) (rV v) := Ev.blt G.wd (G.mgl x none h1) (G.mbl x v h2 h3) hg hb hk hx hd

section
variable {env : Env}
theorem len_ev {ex : Expr} {p pos : Pos} {x : Str} (G : Gd w mg mb b.heap) (hx : Ev (model prg w) A b (eval ex env) (rS x)) (hsz : x.length < 2 ^ 62) (hg : env.globals = mainGlobals := by rfl) (hb : env.builtins = builtinsNs := by rfl) (hk : env.scope.kind = .function := by rfl) (hkd : env.kindOf "len" = some .globalImplicit := by rfl)
    (hs : backTo pos (starEach [ex] env) = (false, eval ex env) :: evs [] env := by rfl) : Ev (model prg w) A b (eval (.Call (.Name "len" p) [ex] [] pos) env) (rI x.length) := by
  refine Ev.callB (Rs := [rS x]) (G.blt (v := .builtin "len") (by kernel_rfl) (by kernel_rfl) (by decide +kernel) hg hb hk hkd (by decide +kernel)) (Ev.s1 hx monoS) (fun vs s3 k3 hvs => ?_) (by rfl) hs (by rfl)
  obtain ⟨x1, _, rfl, q1, rfl⟩ := hvs
  exact Ev.lenS q1 hsz
theorem lenL_ev {ex : Expr} {p pos : Pos} {P : Array Value → Prop} {n : Nat} (G : Gd w mg mb b.heap) (hx : Ev (model prg w) A b (eval ex env) (rList P)) (hP : ∀ its, P its → its.size = n) (hsz : n < 2 ^ 62) (hg : env.globals = mainGlobals := by rfl) (hb : env.builtins = builtinsNs := by rfl) (hk : env.scope.kind = .function := by rfl) (hkd : env.kindOf "len" = some .globalImplicit := by rfl)
    (hs : backTo pos (starEach [ex] env) = (false, eval ex env) :: evs [] env := by rfl) : Ev (model prg w) A b (eval (.Call (.Name "len" p) [ex] [] pos) env) (rI n) := by
  refine Ev.callB (Rs := [rList P]) (G.blt (v := .builtin "len") (by kernel_rfl) (by kernel_rfl) (by decide +kernel) hg hb hk hkd (by decide +kernel)) (Ev.s1 hx monoList) (fun vs s3 k3 hvs => ?_) (by rfl) hs (by rfl)
  obtain ⟨x1, _, rfl, ⟨a, its, rfl, hl, hp⟩, rfl⟩ := hvs
  have := Ev.lenL (prog := prg) (w := w) (A := A) hl (by rw [hP _ hp]; exact hsz)
  rw [hP _ hp] at this
  exact this
theorem range1_ev {ex : Expr} {p pos : Pos} {n : Int} (G : Gd w mg mb b.heap) (hx : Ev (model prg w) A b (eval ex env) (rI n)) (hg : env.globals = mainGlobals := by rfl) (hb : env.builtins = builtinsNs := by rfl) (hk : env.scope.kind = .function := by rfl) (hkd : env.kindOf "range" = some .globalImplicit := by rfl)
    (hs : backTo pos (starEach [ex] env) = (false, eval ex env) :: evs [] env := by rfl) : Ev (model prg w) A b (eval (.Call (.Name "range" p) [ex] [] pos) env) (rRange 0 n 1) := by
  refine Ev.callB (Rs := [rI n]) (G.blt (v := .type "range") (by kernel_rfl) (by kernel_rfl) (by decide +kernel) hg hb hk hkd (by decide +kernel)) (Ev.s1 hx monoI) (fun vs s3 k3 hvs => ?_) (by rfl) hs (by rfl)
  obtain ⟨x1, _, rfl, q1, rfl⟩ := hvs
  exact Ev.range1 q1
theorem range2_ev {e1 e2 : Expr} {p pos : Pos} {i j : Int} (G : Gd w mg mb b.heap) (h1 : Ev (model prg w) A b (eval e1 env) (rI i)) (h2 : Ev (model prg w) A b (eval e2 env) (rI j)) (hg : env.globals = mainGlobals := by rfl) (hb : env.builtins = builtinsNs := by rfl) (hk : env.scope.kind = .function := by rfl) (hkd : env.kindOf "range" = some .globalImplicit := by rfl)
    (hs : backTo pos (starEach [e1, e2] env) = (false, eval e1 env) :: evs [e2] env := by rfl) : Ev (model prg w) A b (eval (.Call (.Name "range" p) [e1, e2] [] pos) env) (rRange i j 1) := by
  refine Ev.callB (Rs := [rI i, rI j]) (G.blt (v := .type "range") (by kernel_rfl) (by kernel_rfl) (by decide +kernel) hg hb hk hkd (by decide +kernel)) (Ev.s2 h1 monoI h2 monoI) (fun vs s3 k3 hvs => ?_) (by rfl) hs (by rfl)
  obtain ⟨x1, _, rfl, q1, x2, _, rfl, q2, rfl⟩ := hvs
  exact Ev.range2 q1 q2
/-- list(range(..)), counted -/
theorem listRange_ev {ex : Expr} {p pos : Pos} {i j : Int} {n : Nat} (G : Gd w mg mb b.heap) (hh : A.handled = none) (hx : Ev (model prg w) A b (eval ex env) (rRange i j 1)) (hi : -1000000 ≤ i) (hj : j ≤ 1000000) (hij : i ≤ j) (hn : j - i = n) (hg : env.globals = mainGlobals := by rfl) (hb : env.builtins = builtinsNs := by rfl) (hk : env.scope.kind = .function := by rfl) (hkd : env.kindOf "list" = some .globalImplicit := by rfl)
    (hs : backTo pos (starEach [ex] env) = (false, eval ex env) :: evs [] env := by rfl) : Ev (model prg w) A b (eval (.Call (.Name "list" p) [ex] [] pos) env) (rNew b fun its => its.size = n ∧ ∀ k, k < n → ∃ t, its[k]? = some (.int (i + (k : Int)) t)) := by
  refine Ev.callB (Rs := [rRange i j 1]) (G.blt (v := .type "list") (by kernel_rfl) (by kernel_rfl) (by decide +kernel) hg hb hk hkd (by decide +kernel)) (Ev.s1 hx monoRange) (fun vs s3 k3 hvs => ?_) (by rfl) hs (by rfl)
  obtain ⟨x1, _, rfl, q1, rfl⟩ := hvs
  exact (Ev.listRange hh q1 (small_one (by omega) (by omega) (by omega) (by omega)) (by rw [size_up hij, hn]; simp) (by omega)).nb k3
end

theorem sign_ev {n : Int} {v : Value} (G : Gd w mg mb b.heap) (hA : Rm A 1) (hv : rI n v b.heap) : Ev (model prg w) A b (call (.ref 73) [v] []) (rS (T [sg n])) := by
  obtain ⟨t, rfl⟩ := hv
  refine Ev.fn (fd := kf 73) (body := bodyOf (kf 73)) (binds := [("number", .int n t)]) (G.fn 73 _ (by kernel_rfl)) G.wd.lim hA.room (by kernel_rfl) (fun s ks => BindsTo.of_eq (by kernel_rfl)) (by kernel_rfl) fun s L s₁ k0 hL k1 hn => ?_
  have G' := (G.keeps k0.heap).keeps k1.heap
  have nm : ∀ {s2 : Shared} {pos : Pos}, Kps s₁ s2 → Ev (model prg w) (A.deeper (envF (kf 73) L 73)) s2 (eval (.Name "number" pos) (envF (kf 73) L 73)) (rI n) := fun k => Ev.asI (Ev.loc (hn.keeps k.heap) (v := .int n t) (by kernel_rfl))
  generalize hAA : A.deeper (envF (kf 73) L 73) = A' at nm
  refine wpAny_execs_cons (wpAny_If ((Ev.tEq (i := n.fmod 5) (j := 4) (Ev.fmod (nm (Kps.refl _)) Ev.kI (by decide)) Ev.kI).go fun c s2 k2 hc => ?_))
  cases (hc : c = _)
  rw [fm n (by decide)]
  unfold sg
  by_cases h4 : n % 5 = 4
  · rw [if_pos (by simpa using h4), if_pos h4]
    refine wpAny_execs_cons (wpAny_Return_some (Ev.go (R := rS (T [(n / 5 % 55000).toNat])) ?_ fun v s3 k3 hv => ⟨v, rfl, (k1.trans k2).trans k3, hv⟩))
    have G2 := G'.keeps k2.heap
    refine Ev.callB (Rs := [rI ((n.fdiv 5).fmod 55000)]) (Ev.blt G2.wd (G2.mgl "chr" none (by kernel_rfl)) (G2.mbl "chr" (.builtin "chr") (by kernel_rfl) (by decide +kernel))) ?_ ?_
    · exact Ev.s1 (Ev.fmod (j := 55000) (Ev.fdiv (j := 5) (nm k2) Ev.kI (by decide) (short_div _ _ (by decide +kernel))) Ev.kI (by decide)) monoI
    · intro vs s3 k3 hvs
      obtain ⟨v1, _, rfl, h1, rfl⟩ := hvs
      rw [fd' n (by decide), fm _ (by decide)] at h1
      exact Ev.chr h1 (by omega) (by omega)
  · rw [if_neg (by simpa using h4), if_neg h4]
    refine wpAny_execs_nil ?_
    refine wpAny_execs_cons (wpAny_Return_some (Ev.go (R := rS (T [([97, 46, 13, 10] : List Nat).getD (n % 5).toNat 0])) ?_ fun v s3 k3 hv => ⟨v, rfl, (k1.trans k2).trans k3, hv⟩))
    refine Ev.item (R1 := rS (T [97, 46, 13, 10])) (R2 := rI (n.fmod 5)) Ev.kS (Ev.fmod (j := 5) (nm k2) Ev.kI (by decide)) monoS ?_
    intro v1 v2 s3 k3 r1 r2
    rw [fm n (by decide)] at r2
    refine Ev.itemS r1 r2 (by omega) (by omega) ?_ (fun t u => by rfl)
    have : (n % 5).toNat < 4 := by omega
    generalize (n % 5).toNat = q at this
    match q, this with
    | 0, _ => rfl
    | 1, _ => rfl
    | 2, _ => rfl
    | 3, _ => rfl

theorem T_beq (c d : Nat) : (T [c] == T [d]) = (c == d) := by
  rw [Bool.eq_iff_iff, beq_iff_eq, beq_iff_eq]
  constructor
  · intro h; simpa using congrArg (fun s : Str => s.cps.toList) h
  · intro h; rw [h]
theorem T_bne (c d : Nat) : (T [c] != T [d]) = (c != d) := by unfold bne; rw [T_beq]
theorem T_app (a b : List Nat) : (T a ++ T b : Str) = T (a ++ b) := by show Str.append _ _ = _; simp [Str.append]
theorem strsAre_length {vs : List Value} {ys : List Str} (h : StrsAre vs ys) : vs.length = ys.length := by
  induction h with
  | nil => rfl
  | cons y t r ih => simp [ih]

/-- what stands in the table's row -/
def begs (l : List Nat) : List Str := (List.range (l.length + 1)).map fun k => T (beg 10 (l.take k))

theorem beg_snoc : ∀ (l : List Nat) (last c : Nat), beg last (l ++ [c]) = beg last l ++ piece (if l = [] then last else l.getLastD 0) c
  | [], last, c => by simp [beg]
  | d :: r, last, c => by
    rw [List.cons_append, beg, beg, beg_snoc r d c, List.append_assoc]
    congr 2
    cases r with
    | nil => simp
    | cons e r => simp

theorem beginnings_ev {l : List Nat} {v : Value} (G : Gd w mg mb b.heap) (hA : Rm A 1) (hl : l.length ≤ 1000) (hv : rS (T l) v b.heap) : Ev (model prg w) A b (call (.ref 80) [v] []) (rNew b fun its => StrsAre its.toList (begs l)) := by
  obtain ⟨t, rfl⟩ := hv
  refine Ev.fn (fd := kf 80) (body := bodyOf (kf 80)) (binds := [("text", .str (T l) t)]) (G.fn 80 _ (by kernel_rfl)) G.wd.lim hA.room (by kernel_rfl) (fun s ks => BindsTo.of_eq (by kernel_rfl)) (by kernel_rfl) fun s L s₁ k0 hL k1 hn => ?_
  have S : St s [] L [("text", .str (T l) t)] [] s₁ :=
    ⟨k1.same, fun b o _ e => k1.heap b o e, ⟨_, hn, Agree.of_eq fun _ => rfl⟩, by subst hL; exact Heap.get?_none_of_le (Nat.le_refl _), by simp, by simp, List.Pairwise.nil, by simp, by simp⟩
  have hh : (A.deeper (envF (kf 80) L 80)).handled = none := (Rm.deeper (n := 0) hA).hd
  generalize hAA : A.deeper (envF (kf 80) L 80) = A' at hh
  refine wpAny_execs_cons (S.assign Ev.kS fun v s2 s3 k2 hv sb S3 => ?_)
  obtain ⟨t1, rfl⟩ := hv
  refine wpAny_execs_cons (S3.assign Ev.kS fun v s4 s5 k4 hv sb S5 => ?_)
  obtain ⟨t2, rfl⟩ := hv
  refine wpAny_execs_cons (S5.assignL (P := fun its => StrsAre its.toList [T []]) (Ev.disp (Rs := [rS (T [])]) ?_ ?_) fun a items s6 hP hn' S6 => ?_)
  · exact Ev.s1 (Ev.asS (S5.v (by rfl))) monoS
  · intro vs h hvs
    obtain ⟨v1, _, rfl, ⟨u, rfl⟩, rfl⟩ := hvs
    exact ⟨by simp, .cons _ _ .nil⟩
  have sz : ∀ i, (beg 10 (l.take i)).length ≤ 2000 := fun i => by
    have := beg_len (l.take i) 10
    rw [List.length_take] at this
    omega
  have S6' : St s [] L [("sent", .str (T (beg 10 (l.take 0))) t1), ("last", .str (T [if 0 = 0 then 10 else l.getD (0 - 1) 0]) t2), ("row", .ref a), ("text", .str (T l) t)] [eL a items] s6 :=
    S6.renam fun m a => .cons (a.get rfl) (.cons (a.get rfl) (.cons (a.get rfl) (.cons (a.get rfl) .nil)))
  refine wpAny_execs_cons (S6'.forStr (x := T l) (fun i vals ents => ∃ t1 t2 its, vals = ([("sent", .str (T (beg 10 (l.take i))) t1), ("last", .str (T [if i = 0 then 10 else l.getD (i - 1) 0]) t2), ("row", .ref a), ("text", .str (T l) t)] : VL) ∧ ents = [eL a its] ∧ its.size = i + 1 ∧ StrsAre its.toList ((List.range (i + 1)).map fun k => T (beg 10 (l.take k)))) hh (Ev.asS (S6'.v (by rfl))) ?_ ?_ ?_)
  · have e0 : items.size = 1 := by
      have := strsAre_length hP
      simpa using this
    refine ⟨t1, t2, items, rfl, rfl, e0, ?_⟩
    simpa [beg] using hP
  · rintro i c vals ents e s7 t7 hc ⟨t1, t2, its, rfl, rfl, hsz, hits⟩ S7 Q E hq
    have hi : i < l.length := by
      have := (Array.getElem?_eq_some_iff.mp hc).1
      simpa using this
    have hc' : l[i]? = some c := by simpa using hc
    have htk : l.take (i + 1) = l.take i ++ [c] := by rw [List.take_add_one, hc']; rfl
    generalize hlast : (if i = 0 then 10 else l.getD (i - 1) 0) = last at S7
    have hbeg : beg 10 (l.take (i + 1)) = beg 10 (l.take i) ++ piece last c := by
      rw [htk, beg_snoc]
      congr 2
      rw [← hlast]
      by_cases h0 : i = 0
      · subst h0; simp
      · rw [if_neg (by intro q; have := congrArg List.length q; rw [List.length_take, Nat.min_eq_left (by omega)] at this; simp at this; omega), if_neg h0]
        rw [List.getLastD_eq_getLast?, List.getLast?_take]
        simp [h0]
        have : i - 1 < l.length := by omega
        simp [this]
    refine S7.bind fun s8 S8 => ?_
    refine wpAny_execs_cons (wpAny_mono (Q := fun fl s' => fl = .next ∧ ∃ u, St s [] L [("sent", .str (T (beg 10 (l.take i) ++ piece last c)) u), ("sign", .str (T [c]) t7), ("last", .str (T [last]) t2), ("row", .ref a), ("text", .str (T l) t)] [e, eL a its] s') ?_ (fun fl s9 h9 => ?_) fun _ _ x => x)
    · have sz1 : (T (beg 10 (l.take i))).length ≤ 2000 := by have := sz i; show (beg 10 (l.take i)).toArray.size ≤ 2000; simpa using this
      have sign : ∀ {s2 : Shared} {pos : Pos}, Kps s8 s2 → Ev (model prg w) A' s2 (eval (.Name "sign" pos) (envF (kf 80) L 80)) (rS (T [c])) := fun k => Ev.asS ((S8.kps k).v (by rfl))
      have lst : ∀ {s2 : Shared} {pos : Pos}, Kps s8 s2 → Ev (model prg w) A' s2 (eval (.Name "last" pos) (envF (kf 80) L 80)) (rS (T [last])) := fun k => Ev.asS ((S8.kps k).v (by rfl))
      have r8 := Kps.refl s8
      refine wpAny_If ((Ev.or2 (Ev.tEqS (y := T [13]) (sign r8) Ev.kS) fun _ => Ev.and2 (Ev.tEqS (y := T [10]) (sign r8) Ev.kS) fun _ => Ev.tNeS (y := T [13]) (lst r8) Ev.kS).go fun cc s9 k9 hcc => ?_)
      cases (hcc : cc = _)
      have S9 := S8.kps k9
      rw [T_beq, T_beq, T_bne]
      unfold piece
      by_cases h1 : c = 13 ∨ (c = 10 ∧ last ≠ 13)
      · rw [if_pos (by simpa using h1), if_pos h1]
        refine wpAny_execs_cons (S9.augS (y := T (beg 10 (l.take i))) (z := T [13, 10]) (by rfl) Ev.kS (by show _ + 2 ≤ 16777216; omega) fun s' t' S' => wpAny_execs_nil ⟨rfl, t', ?_⟩)
        rw [T_app] at S'
        exact S'.renam fun m a => .cons (a.get rfl) (.cons (a.get rfl) (.cons (a.get rfl) (.cons (a.get rfl) (.cons (a.get rfl) .nil))))
      · rw [if_neg (by simpa using h1), if_neg h1]
        refine wpAny_execs_cons (wpAny_If ((Ev.and2 (Ev.tEqS (y := T [46]) (sign k9) Ev.kS) fun _ => Ev.or2 (Ev.tEqS (y := T [13]) (lst k9) Ev.kS) fun _ => Ev.tEqS (y := T [10]) (lst k9) Ev.kS).go fun cc s10 k10 hcc => ?_))
        cases (hcc : cc = _)
        have S10 := S9.kps k10
        have k910 := k9.trans k10
        rw [T_beq, T_beq, T_beq]
        by_cases h2 : c = 46 ∧ (last = 13 ∨ last = 10)
        · rw [if_pos (by simpa using h2), if_pos h2]
          refine wpAny_execs_cons (S10.augS (y := T (beg 10 (l.take i))) (z := T [46, 46]) (by rfl) Ev.kS (by show _ + 2 ≤ 16777216; omega) fun s' t' S' => wpAny_execs_nil (wpAny_execs_nil ⟨rfl, t', ?_⟩))
          rw [T_app] at S'
          exact S'.renam fun m a => .cons (a.get rfl) (.cons (a.get rfl) (.cons (a.get rfl) (.cons (a.get rfl) (.cons (a.get rfl) .nil))))
        · rw [if_neg (by simpa using h2), if_neg h2]
          refine wpAny_execs_cons (wpAny_If ((Ev.tNeS (y := T [10]) (sign k910) Ev.kS).go fun cc s11 k11 hcc => ?_))
          cases (hcc : cc = _)
          have S11 := S10.kps k11
          rw [T_bne]
          by_cases h3 : c ≠ 10
          · rw [if_pos (by simpa using h3), if_pos h3]
            refine wpAny_execs_cons (S11.augS (y := T (beg 10 (l.take i))) (z := T [c]) (by rfl) (sign (k910.trans k11)) (by show _ + 1 ≤ 16777216; omega) fun s' t' S' => wpAny_execs_nil (wpAny_execs_nil (wpAny_execs_nil ⟨rfl, t', ?_⟩)))
            rw [T_app] at S'
            exact S'.renam fun m a => .cons (a.get rfl) (.cons (a.get rfl) (.cons (a.get rfl) (.cons (a.get rfl) (.cons (a.get rfl) .nil))))
          · rw [if_neg (by simpa using h3), if_neg h3]
            refine wpAny_execs_nil (wpAny_execs_nil (wpAny_execs_nil ⟨rfl, t1, ?_⟩))
            rw [List.append_nil]
            exact S11.renam fun m a => .cons (a.get rfl) (.cons (a.get rfl) (.cons (a.get rfl) (.cons (a.get rfl) (.cons (a.get rfl) .nil))))
    obtain ⟨rfl, t9, S9⟩ := h9
    dsimp only
    refine wpAny_execs_cons (S9.assign (S9.v (by rfl)) fun v s10 s11 k10 hv sb S11 => ?_)
    cases (hv : v = _)
    refine wpAny_execs_cons (S11.append (pre := [e]) (post := []) rfl (by omega) (S11.v (by rfl)) (S11.v (by rfl)) fun v s12 s13 k12 hv S13 => ?_)
    cases (hv : v = _)
    refine wpAny_execs_nil (hq _ _ s13 ⟨t9, t7, its.push (.str (T (beg 10 (l.take i) ++ piece last c)) t9), rfl, rfl, by simp [hsz], ?_⟩ ?_)
    · rw [List.range_succ, List.map_append, Array.toList_push]
      have := strsAre_snoc hits (T (beg 10 (l.take (i + 1)))) t9
      rw [hbeg] at this
      show StrsAre _ (_ ++ [T (beg 10 (l.take (i + 1)))])
      rw [hbeg]
      exact this
    · rw [hbeg]
      refine S13.renam fun m a => .cons (a.get rfl) (.cons ?_ (.cons (a.get rfl) (.cons (a.get rfl) .nil)))
      rw [a.get (v := .str (T [c]) t7) rfl]
      simp [hc']
  · rintro vals ents s7 ⟨t1, t2, its, rfl, rfl, hsz, hits⟩ S7
    refine wpAny_execs_cons (wpAny_Return_some ((S7.v (by rfl)).go fun v s' k hv => ?_))
    cases (hv : v = _)
    have S8 := S7.kps k
    refine ⟨_, rfl, S8.out, a, its, rfl, ?_, S8.at0, ?_⟩
    · cases q : b.heap.get? a with
      | none => rfl
      | some o => have := (k0.trans S5.out).heap _ _ q; rw [hn'] at this; cases this
    · have e : (T l).cps.size = l.length := by simp
      rw [e] at hits
      exact hits
end
end Mine

end

/- F04 -/
section
open PySem PySem.Calls PyProof.Rows PySem.W
namespace Mine
set_option maxRecDepth 100000
set_option linter.unusedVariables false

def natsI (l : List Nat) : List Int := l.map fun n : Nat => (n : Int)

theorem intsAre_get {vs : List Value} {ns : List Int} (h : IntsAre vs ns) : ∀ {k : Nat} {n : Int}, ns[k]? = some n → ∃ t, vs[k]? = some (.int n t) := by
  induction h with
  | nil => intro k n e; simp at e
  | cons m t r ih =>
    intro k n e
    cases k with
    | zero => simp at e; subst e; exact ⟨t, rfl⟩
    | succ k => exact ih (by simpa using e)
theorem intsAre_snoc {vs : List Value} {ns : List Int} (h : IntsAre vs ns) (n : Int) (t : Tok) : IntsAre (vs ++ [.int n t]) (ns ++ [n]) := by
  induction h with
  | nil => exact .cons n t .nil
  | cons m t' r ih => exact .cons m t' ih

theorem cutsF_facts {l : List Nat} {room : Nat} (hr : 2 ≤ room) : ∀ i, cutsF l room i ≠ [] ∧ (cutsF l room i).length ≤ i + 1 ∧ (cutsF l room i).getLastD 0 ≤ l.length
  | 0 => by simp [cutsF]
  | i + 1 => by
    obtain ⟨h1, h2, h3⟩ := cutsF_facts hr i
    rw [cutsF]
    split
    · refine ⟨by simp, by simp; omega, ?_⟩
      rw [List.getLastD_concat]
      exact nextF_le _
    · exact ⟨h1, by omega, h3⟩

section
variable {w : World} {A : Around} {s : Shared} {mg mb : Str → Option Value} {E : Value → Shared → Prop}

theorem codeHd86 {h : Heap} (G : Gd w mg mb h) : CodeHd h 86 82 := ⟨_, _, _, _, _, _, _, _, _, G.at 86 (by kernel_rfl), by exact rfl, by exact rfl, by exact rfl, by exact rfl, by exact rfl, by exact rfl, by exact rfl, by exact rfl, by decide⟩
theorem codeHd93 {h : Heap} (G : Gd w mg mb h) : CodeHd h 93 89 := ⟨_, _, _, _, _, _, _, _, _, G.at 93 (by kernel_rfl), by exact rfl, by exact rfl, by exact rfl, by exact rfl, by exact rfl, by exact rfl, by exact rfl, by exact rfl, by decide⟩

abbrev tabF (oc : Option Addr) : Ent := eTab 82 74 66 ("_law_front.<locals>.<lambda>" : Str) oc
abbrev tabB (oc : Option Addr) : Ent := eTab 89 82 59 ("_law_back.<locals>.<lambda>" : Str) oc

/-- a call that may note a lambda's code, all else kept -/
structure Moves (P : Addr) (oc oc' : Option Addr) (s s' : Shared) : Prop where
  same : ∃ h tk, s' = { s with heap := h, toks := tk }
  keep : ∀ b o, b ∉ P :: oc.toList → s.heap.get? b = some o → s'.heap.get? b = some o
  grow : ∀ a ∈ P :: oc'.toList, a ∈ P :: oc.toList ∨ s.heap.get? a = none

theorem front_wp {l : List Nat} {room : Nat} {v1 v2 : Value} {oc : Option Addr} {Q : Value → Shared → Prop} {g : Heap} (G0 : Gd w mg mb g) (hg : Kp g s.heap) (hX : ∀ a ∈ 82 :: oc.toList, g.get? a = none) (hA : Rm A 6) (hl : l.length ≤ 1000) (hr : 2 ≤ room) (hT : (tabF oc).P s.heap) (h1 : rS (T l) v1 s.heap) (h2 : rI room v2 s.heap)
    (hQ : ∀ a items s' oc', Moves 82 oc oc' s s' → s.heap.get? a = none → s'.heap.PlainList a items → IntsAre items.toList (natsI (cutsF l room (l.length + 1))) → (tabF oc').P s'.heap → Q (.ref a) s') :
    wpAny (model prg w) A (call (.ref 87) [v1, v2] []) Q E s := by
  have G := G0.keeps hg
  obtain ⟨t1, rfl⟩ := h1
  obtain ⟨t2, rfl⟩ := h2
  refine fnC (fd := kf 87) (body := bodyOf (kf 87)) (binds := [("text", .str (T l) t1), ("room", .int room t2)]) (G.fn 87 _ (by kernel_rfl)) G.wd.lim hA.room (by kernel_rfl) (by kernel_rfl) (BindsTo.of_eq (by kernel_rfl)) (by kernel_rfl) (by kernel_rfl) fun L s₁ hL k1 hn hc => ?_
  have hA' : Rm (A.deeper (callEnvC (kf 87) L 87)) 5 := hA.deeper
  generalize hAA : A.deeper (callEnvC (kf 87) L 87) = A' at hA'
  have c1 : s₁.heap.IsCell (L + 1) (some (.str (T l) t1)) := hc "text" (L + 1) (by rfl)
  have c2 : s₁.heap.IsCell (L + 1 + 1) none := hc "begin" (L + 1 + 1) (by rfl)
  have hlt : ∀ a ∈ (tabF oc).fp, @LT.lt Nat _ a L := fun a ha => by obtain ⟨o, q⟩ := (tabF oc).has hT a ha; rw [hL]; exact Heap.lt_size q
  have S : St s (82 :: oc.toList) L [("room", .int room t2)] [eC (L + 1) (some (.str (T l) t1)), eC (L + 1 + 1) none, tabF oc] s₁ := {
    same := k1.same
    keep := fun b o _ e => k1.heap b o e
    ns := ⟨_, hn, .cons (by rfl) .nil⟩
    Lnew := by rw [hL]; exact Heap.get?_none_of_le (Nat.le_refl _)
    LX := fun h => Nat.lt_irrefl _ (hlt L h)
    own := by
      intro e he
      simp only [List.mem_cons, List.not_mem_nil, or_false] at he
      rcases he with rfl | rfl | rfl
      · exact c1
      · exact c2
      · exact (tabF oc).loc (fun a _ o q => k1.heap a o q) hT
    nd := by
      refine List.pairwise_cons.mpr ⟨fun e he a ha => ?_, List.pairwise_cons.mpr ⟨fun e he a ha => ?_, List.pairwise_singleton _ _⟩⟩
      · simp only [List.mem_cons, List.not_mem_nil, or_false] at he
        have : a = L + 1 := by simpa [eC] using ha
        subst this
        rcases he with rfl | rfl
        · simp [eC]
        · exact fun h => by have := hlt _ h; omega
      · simp only [List.mem_cons, List.not_mem_nil, or_false] at he
        have : a = L + 1 + 1 := by simpa [eC] using ha
        subst this he
        exact fun h => by have := hlt _ h; omega
    ndL := by
      intro e he
      simp only [List.mem_cons, List.not_mem_nil, or_false] at he
      rcases he with rfl | rfl | rfl
      · simp [eC]
      · simp [eC]; exact fun h => absurd h (by show ¬ (@Eq Nat L (L + 1 + 1)); omega)
      · exact fun h => Nat.lt_irrefl _ (hlt L h)
    new := by
      intro e he a ha
      simp only [List.mem_cons, List.not_mem_nil, or_false] at he
      rcases he with rfl | rfl | rfl
      · right; have : a = L + 1 := by simpa [eC] using ha
        subst this; exact Heap.get?_none_of_le (by omega)
      · right; have : a = L + 1 + 1 := by simpa [eC] using ha
        subst this; exact Heap.get?_none_of_le (by omega)
      · exact .inl ha }
  -- the ground at every state of the call
  have Gs : ∀ {s' vals ents}, St s (82 :: oc.toList) L vals ents s' → Gd w mg mb s'.heap := fun S' => G0.keeps fun b o e => S'.keep b o (fun h => by rw [hX b h] at e; cases e) (hg b o e)
  have eT : (T l).length = l.length := by show (T l).cps.size = _; simp
  have lenT : ∀ {s2 : Shared} {pos p2 p3 : Pos} {vals ents}, St s (82 :: oc.toList) L vals ents s2 → s2.heap.IsCell (L + 1) (some (.str (T l) t1)) → Ev (model prg w) A' s2 (eval (.Call (.Name "len" p2) [.Name "text" pos] [] p3) (callEnvC (kf 87) L 87)) (rI l.length) := fun S' hc' => by
    rw [← eT]
    exact len_ev (Gs S') (Ev.asS (Ev.cell hc')) (by rw [eT]; omega)
  refine wpAny_execs_cons (S.assignL (listRange_ev (n := l.length + 1) (Gs S) hA'.hd (range1_ev (Gs S) (Ev.add (lenT S S.at0) Ev.kI)) (by omega) (by omega) (by omega) (by omega)) fun pa pits s2 hP hpn S2 => ?_)
  refine wpAny_execs_cons (S2.assignL (P := fun its => IntsAre its.toList (natsI (cutsF l room 0))) (Ev.disp (Rs := [rI 0]) ?_ ?_) fun ca items s3 hci hcn S3 => ?_)
  · exact Ev.s1 Ev.kI monoI
  · intro vs h hvs
    obtain ⟨x1, _, rfl, ⟨u, rfl⟩, rfl⟩ := hvs
    exact ⟨by simp, .cons _ _ .nil⟩
  have S3' : St s (82 :: oc.toList) L [("cuts", .ref ca), ("places", .ref pa), ("room", .int room t2)] [eL ca items, eL pa pits, eC (L + 1) (some (.str (T l) t1)), eC (L + 1 + 1) none, tabF oc] s3 := S3
  refine wpAny_execs_cons (S3'.forList (items := pits) (fun i vals ents => ∃ ci vb oc', vals = ([("cuts", .ref ca), ("places", .ref pa), ("room", .int room t2)] : VL) ∧ ents = [eL ca ci, eL pa pits, eC (L + 1) (some (.str (T l) t1)), eC (L + 1 + 1) vb, tabF oc'] ∧ IntsAre ci.toList (natsI (cutsF l room i))) hA'.hd (S3'.v (by rfl)) ⟨items, none, oc, rfl, rfl, hci⟩ ?_ (Heap.PlainList.isList S3'.at1) ?_ ?_)
  · rintro i vals ents e s4 ⟨ci, vb, oc', rfl, rfl, _⟩ S4
    exact Heap.PlainList.isList S4.at2
  · rintro i v vals ents e s4 hv ⟨ci, vb, oc', rfl, rfl, hints⟩ S4 Q' E' hq
    obtain ⟨f1, f2, f3⟩ := cutsF_facts (l := l) hr i
    have hil : i < l.length + 1 := by rw [← hP.1]; exact (Array.getElem?_eq_some_iff.mp hv).1
    have hcs : ci.size = (cutsF l room i).length := by have := hints.length; simpa [natsI] using this
    generalize hbl : (cutsF l room i).getLastD 0 = bl at f3
    refine S4.bind fun s5 S5 => ?_
    obtain ⟨tb, htb⟩ : ∃ t, ci[(-1 + (ci.size : Int)).toNat]? = some (.int bl t) := by
      have e1 : (-1 + (ci.size : Int)).toNat = (cutsF l room i).length - 1 := by rw [hcs]; omega
      have := intsAre_get hints (k := (cutsF l room i).length - 1) (n := bl) (by
        rw [natsI, List.getElem?_map, ← List.getLast?_eq_getElem?, ← hbl, List.getLastD_eq_getLast?]
        cases h : (cutsF l room i).getLast? with
        | none => exact absurd (List.getLast?_eq_none_iff.mp h) f1
        | some x => simp)
      rw [e1]; simpa using this
    refine wpAny_execs_cons (S5.assignC (pre := [e, eL ca ci, eL pa pits, eC (L + 1) (some (.str (T l) t1))]) (post := [tabF oc']) rfl (R := rV (.int bl tb)) (Ev.item (R1 := rV (.ref ca)) (R2 := rI (-1)) (S5.v (by rfl)) (Ev.neg Ev.kI) monoV ?_) fun v s6 s7 k6 hv S7 => ?_)
    · intro v1 v2 s6 k6 r1 r2
      have hne : 0 < ci.size := by rw [hcs]; exact List.length_pos_iff.mpr f1
      exact Ev.itemLneg r1 ((Heap.PlainList.isList (S5.kps k6).at1)) r2 (by decide) (by decide) (by omega) htb (fun t => by rfl)
    cases (hv : v = _)
    have S7' : St s (82 :: oc.toList) L [("turn", v), ("cuts", .ref ca), ("places", .ref pa), ("room", .int room t2)] [e, eL ca ci, eL pa pits, eC (L + 1) (some (.str (T l) t1)), eC (L + 1 + 1) (some (.int bl tb)), tabF oc'] s7 := S7
    refine wpAny_execs_cons (wpAny_mono (Q := fun fl s' => fl = .next ∧ ∃ ci' oc'', IntsAre ci'.toList (natsI (cutsF l room (i + 1))) ∧ St s (82 :: oc.toList) L [("turn", v), ("cuts", .ref ca), ("places", .ref pa), ("room", .int room t2)] [e, eL ca ci', eL pa pits, eC (L + 1) (some (.str (T l) t1)), eC (L + 1 + 1) (some (.int bl tb)), tabF oc''] s') ?_ (fun fl s8 h8 => ?_) fun _ _ x => x)
    · refine wpAny_If ((Ev.tLt (i := bl) (j := l.length) (Ev.asI (Ev.cell S7'.at4)) (lenT S7' S7'.at3)).go fun c s8 k8 hc => ?_)
      cases (hc : c = _)
      have S8 := S7'.kps k8
      have hstep : cutsF l room (i + 1) = if bl < l.length then cutsF l room i ++ [nextF l room bl] else cutsF l room i := by rw [cutsF, hbl]
      by_cases hlt' : bl < l.length
      · rw [if_pos (by simpa using hlt')]
        rw [if_pos hlt'] at hstep
        refine wpAny_execs_cons (wpAny_Expr (wpAny_Call_append (by rfl) (by rfl) (by rfl) (by rfl) ((S8.v (by rfl)).go fun v9 s9 k9 hv9 => ?_)) (by rfl) (by rfl))
        cases (hv9 : v9 = _)
        have S9 := S8.kps k9
        obtain ⟨n9, hD9⟩ := S9.at1
        refine ⟨ca, ci, rfl, ⟨_, n9, hD9, rfl, rfl, rfl⟩, ?_⟩
        refine wpAny_BinOp ?_
        refine wpAny_Call_Name_kw ((Ev.glob (Gs S9).wd ((Gs S9).mgl "bisect_right" (some (.ref 57)) (by kernel_rfl))).go fun v10 s10 k10 hv10 => ?_)
        cases (hv10 : v10 = _)
        have S10 := S9.kps k10
        refine callWith_function_kw (o := ko 57) (fd := kf 57) ?_
        refine evalArgs_kw (by rfl) ?_
        refine Ev.go (R := ListR [rV (.ref pa), rV (.int room t2), rI ((bl : Int) + 1)]) (Ev.s3 (S10.v (by rfl)) monoV (S10.v (by rfl)) monoV (Ev.add (Ev.asI (Ev.cell S10.at4)) Ev.kI) monoI) fun vs s11 k11 hvs => ?_
        obtain ⟨x1, _, rfl, rfl, x2, _, rfl, rfl, x3, _, rfl, ⟨t3, rfl⟩, rfl⟩ := hvs
        have S11 := S10.kps k11
        have G11 := Gs S11
        refine wpAny_evalAll_cons (wpAny_bind (S11.lambda (P := 82) (c := 86) (clos := [("text", L + 1), ("begin", L + 1 + 1)]) (pre := [e, eL ca ci, eL pa pits, eC (L + 1) (some (.str (T l) t1)), eC (L + 1 + 1) (some (.int bl tb))]) (post := []) rfl (by rfl) (by rfl) (by rfl) G11.wd.g (by rfl) (codeHd86 G11) (by decide) (G11.builtinsAt 82 (by decide)) fun f c' ctv s12 q S12 hk12 hcr hf => ?_))
        refine wpAny_bind (wpAny_standAt (wpAny_pure (wpAny_evalAll_nil ?_)))
        have G12 := Gs S12
        have hpl : s12.heap.IsList pa pits := Heap.PlainList.isList S12.at2
        have hct : s12.heap.IsCell (L + 1) (some (.str (T l) t1)) := S12.at3
        have hcb : s12.heap.IsCell (L + 1 + 1) (some (.int bl tb)) := S12.at4
        refine ⟨⟨G12.at 57 (by kernel_rfl), by kernel_rfl⟩, ?_⟩
        have hb1 : ((bl : Int) + 1) = ((bl + 1 : Nat) : Int) := by omega
        rw [hb1]
        have hx1 := nextF_gt hr hlt'
        have hx2 := nextF_le (l := l) (room := room) bl
        refine Ev.go (bisectR_ev (n := 4) (lo := bl + 1) (hi := l.length + 1) (r := nextF l room bl + 1) (f := fun i => (wd l bl i : Int)) (items := pits) (vhi := .none) (vk := .ref f) (args := ⟨[.ref pa, .int room t2, .int (bl + 1 : Nat) t3], [("key", .ref f)]⟩) G12 hA' (fun s' G' => bindR3 G' _ _ _ _) hpl (by rw [hP.1]; omega) (by rw [hP.1]; exact Nat.le_refl _) (.inl ⟨rfl, hP.1.symm⟩)
          (.inr ⟨f, _, _, rfl, hf, rfl, fun i hi => by obtain ⟨t, e⟩ := hP.2 i hi; exact ⟨t, by simpa using e⟩, ?_⟩) (by omega) (by omega) (fun i a b => by have := nextF_ok hr hlt' (i := i) (by omega); omega) (fun i a b => by have := nextF_no (l := l) (room := room) (b := bl) (i := i) (by omega) (by omega); omega)) fun v13 s13 k13 hv13 => ?_
        · -- the key
          intro A2 s13 i t hA2 k13 hi1 hi2
          have G13 := G12.keeps k13.heap
          refine Ev.lam (binds := [("end", .int i t)]) (k13.heap _ _ hf) rfl (hcr.keeps k13.heap) G13.wd.lim hA2.room rfl (by rfl) (by rfl) fun L2 s14 k14 hn2 => ?_
          have G14 := G13.keeps k14.heap
          have kk := k13.trans k14
          have ew : (wd l bl i : Int) = ((T (qd ((l.drop bl).take (i - bl)))).length : Int) := by unfold wd; show _ = (((qd _).toArray.size : Nat) : Int); simp
          show Ev _ _ _ _ (rI ((wd l bl i : Nat) : Int))
          rw [ew]
          have hlq := beg_len ((l.drop bl).take (i - bl)) 10
          have hlt2 : ((l.drop bl).take (i - bl)).length ≤ 1000 := by rw [List.length_take, List.length_drop]; omega
          refine len_ev G14 (Ev.callF (Rs := [rS (T ((l.drop bl).take (i - bl)))]) (Ev.glob G14.wd (G14.mgl "quotedata" (some (.ref 48)) (by kernel_rfl))) (G14.at 48 (by kernel_rfl)) (fd := kf 48) (by kernel_rfl) ?_ ?_) (by show (qd _).toArray.size < _; unfold qd; simp; omega)
          · refine Ev.s1 (Ev.cut (x := T l) (l := some (bl : Int)) (u := some (i : Int)) (Ev.asS (Ev.free (hct.keeps kk.heap))) (Ev.part (Ev.asI (Ev.free (hcb.keeps kk.heap)))) (Ev.part (Ev.asI (Ev.loc hn2 (v := .int (i : Nat) t) (by rfl)))) (slice_mid (by omega) (by omega)) (by rw [eT]; unfold sizeLine; omega)) monoS
          · intro vs s15 k15 hvs
            obtain ⟨y1, _, rfl, r1, rfl⟩ := hvs
            exact quotedata_T (G14.keeps k15.heap) (Rm.deeper (n := 3) hA2) r1 (by omega)
        · obtain ⟨t13, rfl⟩ := hv13
          have S13 := S12.kps k13
          refine Ev.go Ev.kI fun v14 s14 k14 hv14 => ?_
          obtain ⟨t14, rfl⟩ := hv14
          refine sub_int ?_
          have e3 : (((nextF l room bl + 1 : Nat) : Int) - 1) = ((nextF l room bl : Nat) : Int) := by omega
          rw [e3]
          refine call_append (S13.kps (k14.trans (Kps.tok _ _))) (pre := [e]) (post := _) rfl (by omega) fun s' S' => ?_
          refine wpAny_execs_nil ⟨rfl, ci.push (.int (nextF l room bl : Nat) s14.toks), some c', ?_, S'⟩
          rw [hstep, Array.toList_push, natsI, List.map_append]
          exact intsAre_snoc hints _ _
      · rw [if_neg (by simpa using hlt')]
        rw [if_neg hlt'] at hstep
        exact wpAny_execs_nil ⟨rfl, ci, oc', by rw [hstep]; exact hints, S8⟩
    obtain ⟨rfl, ci', oc'', hi', S8⟩ := h8
    dsimp only
    exact wpAny_execs_nil (hq _ _ s8 ⟨ci', some (.int bl tb), oc'', rfl, rfl, hi'⟩ (S8.renam fun m a => .cons (a.get rfl) (.cons (a.get rfl) (.cons (a.get rfl) .nil))))
  · rintro vals ents s4 ⟨ci, vb, oc', rfl, rfl, hints⟩ S4
    refine wpAny_execs_cons (wpAny_Return_some ((S4.v (by rfl)).go fun v s5 k5 hv => ?_))
    cases (hv : v = _)
    have S5 := S4.kps k5
    refine ⟨_, rfl, hQ ca ci s5 oc' ⟨S5.same, fun b o hb q => S5.keep b o hb q, fun a ha => ?_⟩ ?_ S5.at0 (by rw [hP.1] at hints; exact hints) S5.at4⟩
    · exact S5.new (tabF oc') (by simp) a ha
    · cases q : s.heap.get? ca with
      | none => rfl
      | some o =>
        exfalso
        rcases S5.new (eL ca ci) (by simp) ca (by simp [eL]) with h | h
        · obtain ⟨o', q'⟩ := (tabF oc).has S2.at3 ca h
          rw [hcn] at q'; cases q'
        · rw [h] at q; cases q
end
end Mine

end

/- F05 -/
section
open PySem PySem.Calls PyProof.Rows PySem.W
namespace Mine
set_option maxRecDepth 100000
set_option linter.unusedVariables false

theorem cutsB_facts {l : List Nat} {room : Nat} (hr : 2 ≤ room) : ∀ i, cutsB l room i ≠ [] ∧ (cutsB l room i).length ≤ i + 1 ∧ (cutsB l room i).headD 0 ≤ l.length
  | 0 => by simp [cutsB]
  | i + 1 => by
    obtain ⟨h1, h2, h3⟩ := cutsB_facts hr i
    rw [cutsB]
    split
    · rename_i h
      refine ⟨by simp, by simp; omega, ?_⟩
      have := prevB_lt (l := l) (room := room) hr h
      simp at this h3 ⊢
      omega
    · exact ⟨h1, by omega, h3⟩

section
variable {w : World} {A : Around} {s : Shared} {mg mb : Str → Option Value} {E : Value → Shared → Prop}

theorem back_wp {l : List Nat} {room : Nat} {v1 v2 : Value} {oc : Option Addr} {Q : Value → Shared → Prop} {g : Heap} (G0 : Gd w mg mb g) (hg : Kp g s.heap) (hX : ∀ a ∈ 89 :: oc.toList, g.get? a = none) (hA : Rm A 6) (hl : l.length ≤ 1000) (hr : 2 ≤ room) (hT : (tabB oc).P s.heap) (h1 : rS (T l) v1 s.heap) (h2 : rI room v2 s.heap)
    (hQ : ∀ a items s' oc', Moves 89 oc oc' s s' → s.heap.get? a = none → s'.heap.PlainList a items → IntsAre items.toList (natsI (cutsB l room (l.length + 1))) → (tabB oc').P s'.heap → Q (.ref a) s') :
    wpAny (model prg w) A (call (.ref 94) [v1, v2] []) Q E s := by
  have G := G0.keeps hg
  obtain ⟨t1, rfl⟩ := h1
  obtain ⟨t2, rfl⟩ := h2
  refine fnC (fd := kf 94) (body := bodyOf (kf 94)) (binds := [("text", .str (T l) t1), ("room", .int room t2)]) (G.fn 94 _ (by kernel_rfl)) G.wd.lim hA.room (by kernel_rfl) (by kernel_rfl) (BindsTo.of_eq (by kernel_rfl)) (by kernel_rfl) (by kernel_rfl) fun L s₁ hL k1 hn hc => ?_
  have hA' : Rm (A.deeper (callEnvC (kf 94) L 94)) 5 := hA.deeper
  generalize hAA : A.deeper (callEnvC (kf 94) L 94) = A' at hA'
  have c1 : s₁.heap.IsCell (L + 1) (some (.str (T l) t1)) := hc "text" (L + 1) (by rfl)
  have c2 : s₁.heap.IsCell (L + 1 + 1) none := hc "end" (L + 1 + 1) (by rfl)
  have hlt : ∀ a ∈ (tabB oc).fp, @LT.lt Nat _ a L := fun a ha => by obtain ⟨o, q⟩ := (tabB oc).has hT a ha; rw [hL]; exact Heap.lt_size q
  have S : St s (89 :: oc.toList) L [("room", .int room t2)] [eC (L + 1) (some (.str (T l) t1)), eC (L + 1 + 1) none, tabB oc] s₁ := {
    same := k1.same
    keep := fun b o _ e => k1.heap b o e
    ns := ⟨_, hn, .cons (by rfl) .nil⟩
    Lnew := by rw [hL]; exact Heap.get?_none_of_le (Nat.le_refl _)
    LX := fun h => Nat.lt_irrefl _ (hlt L h)
    own := by
      intro e he
      simp only [List.mem_cons, List.not_mem_nil, or_false] at he
      rcases he with rfl | rfl | rfl
      · exact c1
      · exact c2
      · exact (tabB oc).loc (fun a _ o q => k1.heap a o q) hT
    nd := by
      refine List.pairwise_cons.mpr ⟨fun e he a ha => ?_, List.pairwise_cons.mpr ⟨fun e he a ha => ?_, List.pairwise_singleton _ _⟩⟩
      · simp only [List.mem_cons, List.not_mem_nil, or_false] at he
        have : a = L + 1 := by simpa [eC] using ha
        subst this
        rcases he with rfl | rfl
        · simp [eC]
        · exact fun h => by have := hlt _ h; omega
      · simp only [List.mem_cons, List.not_mem_nil, or_false] at he
        have : a = L + 1 + 1 := by simpa [eC] using ha
        subst this he
        exact fun h => by have := hlt _ h; omega
    ndL := by
      intro e he
      simp only [List.mem_cons, List.not_mem_nil, or_false] at he
      rcases he with rfl | rfl | rfl
      · simp [eC]
      · simp [eC]; exact fun h => absurd h (by show ¬ (@Eq Nat L (L + 1 + 1)); omega)
      · exact fun h => Nat.lt_irrefl _ (hlt L h)
    new := by
      intro e he a ha
      simp only [List.mem_cons, List.not_mem_nil, or_false] at he
      rcases he with rfl | rfl | rfl
      · right; have : a = L + 1 := by simpa [eC] using ha
        subst this; exact Heap.get?_none_of_le (by omega)
      · right; have : a = L + 1 + 1 := by simpa [eC] using ha
        subst this; exact Heap.get?_none_of_le (by omega)
      · exact .inl ha }
  -- the ground at every state of the call
  have Gs : ∀ {s' vals ents}, St s (89 :: oc.toList) L vals ents s' → Gd w mg mb s'.heap := fun S' => G0.keeps fun b o e => S'.keep b o (fun h => by rw [hX b h] at e; cases e) (hg b o e)
  have eT : (T l).length = l.length := by show (T l).cps.size = _; simp
  have lenT : ∀ {s2 : Shared} {pos p2 p3 : Pos} {vals ents}, St s (89 :: oc.toList) L vals ents s2 → s2.heap.IsCell (L + 1) (some (.str (T l) t1)) → Ev (model prg w) A' s2 (eval (.Call (.Name "len" p2) [.Name "text" pos] [] p3) (callEnvC (kf 94) L 94)) (rI l.length) := fun S' hc' => by
    rw [← eT]
    exact len_ev (Gs S') (Ev.asS (Ev.cell hc')) (by rw [eT]; omega)
  refine wpAny_execs_cons (S.assignL (listRange_ev (n := l.length + 1) (Gs S) hA'.hd (range1_ev (Gs S) (Ev.add (lenT S S.at0) Ev.kI)) (by omega) (by omega) (by omega) (by omega)) fun pa pits s2 hP hpn S2 => ?_)
  refine wpAny_execs_cons (S2.assignL (P := fun its => IntsAre its.toList (natsI (cutsB l room 0))) (Ev.disp (Rs := [rI l.length]) ?_ ?_) fun ca items s3 hci hcn S3 => ?_)
  · exact Ev.s1 (lenT S2 S2.at1) monoI
  · intro vs h hvs
    obtain ⟨x1, _, rfl, ⟨u, rfl⟩, rfl⟩ := hvs
    exact ⟨by simp, .cons _ _ .nil⟩
  have S3' : St s (89 :: oc.toList) L [("cuts", .ref ca), ("places", .ref pa), ("room", .int room t2)] [eL ca items, eL pa pits, eC (L + 1) (some (.str (T l) t1)), eC (L + 1 + 1) none, tabB oc] s3 := S3
  refine wpAny_execs_cons (S3'.forList (items := pits) (fun i vals ents => ∃ ca ci vb oc', vals = ([("cuts", .ref ca), ("places", .ref pa), ("room", .int room t2)] : VL) ∧ ents = [eL ca ci, eL pa pits, eC (L + 1) (some (.str (T l) t1)), eC (L + 1 + 1) vb, tabB oc'] ∧ IntsAre ci.toList (natsI (cutsB l room i)) ∧ s.heap.get? ca = none) hA'.hd (S3'.v (by rfl)) ⟨ca, items, none, oc, rfl, rfl, hci, ?_⟩ ?_ (Heap.PlainList.isList S3'.at1) ?_ ?_)
  · cases q : s.heap.get? ca with
    | none => rfl
    | some o =>
      exfalso
      rcases S3'.new (eL ca items) (by simp) ca (by simp [eL]) with h | h
      · obtain ⟨o', q'⟩ := (tabB oc).has S2.at3 ca h
        rw [hcn] at q'; cases q'
      · rw [h] at q; cases q
  · rintro i vals ents e s4 ⟨ca, ci, vb, oc', rfl, rfl, _, _⟩ S4
    exact Heap.PlainList.isList S4.at2
  · rintro i v vals ents e s4 hv ⟨ca, ci, vb, oc', rfl, rfl, hints, hca⟩ S4 Q' E' hq
    obtain ⟨f1, f2, f3⟩ := cutsB_facts (l := l) hr i
    have hil : i < l.length + 1 := by rw [← hP.1]; exact (Array.getElem?_eq_some_iff.mp hv).1
    have hcs : ci.size = (cutsB l room i).length := by have := hints.length; simpa [natsI] using this
    generalize hbl : (cutsB l room i).headD 0 = bl at f3
    refine S4.bind fun s5 S5 => ?_
    obtain ⟨tb, htb⟩ : ∃ t, ci[(0 : Int).toNat]? = some (.int bl t) := by
      have := intsAre_get hints (k := 0) (n := bl) (by
        rw [natsI, List.getElem?_map, ← hbl]
        cases h : cutsB l room i with
        | nil => exact absurd h f1
        | cons x r => simp)
      simpa using this
    refine wpAny_execs_cons (S5.assignC (pre := [e, eL ca ci, eL pa pits, eC (L + 1) (some (.str (T l) t1))]) (post := [tabB oc']) rfl (R := rV (.int bl tb)) (Ev.item (R1 := rV (.ref ca)) (R2 := rI 0) (S5.v (by rfl)) Ev.kI monoV ?_) fun v s6 s7 k6 hv S7 => ?_)
    · intro v1 v2 s6 k6 r1 r2
      exact Ev.itemL r1 ((Heap.PlainList.isList (S5.kps k6).at1)) r2 (by decide) htb (by decide) (fun t => by rfl)
    cases (hv : v = _)
    have S7' : St s (89 :: oc.toList) L [("turn", v), ("cuts", .ref ca), ("places", .ref pa), ("room", .int room t2)] [e, eL ca ci, eL pa pits, eC (L + 1) (some (.str (T l) t1)), eC (L + 1 + 1) (some (.int bl tb)), tabB oc'] s7 := S7
    refine wpAny_execs_cons (wpAny_mono (Q := fun fl s' => fl = .next ∧ ∃ ca' ci' oc'', IntsAre ci'.toList (natsI (cutsB l room (i + 1))) ∧ s.heap.get? ca' = none ∧ St s (89 :: oc.toList) L [("cuts", .ref ca'), ("places", .ref pa), ("room", .int room t2)] [e, eL ca' ci', eL pa pits, eC (L + 1) (some (.str (T l) t1)), eC (L + 1 + 1) (some (.int bl tb)), tabB oc''] s') ?_ (fun fl s8 h8 => ?_) fun _ _ x => x)
    · refine wpAny_If ((Ev.tGt (i := bl) (j := 0) (Ev.asI (Ev.cell S7'.at4)) Ev.kI).go fun c s8 k8 hc => ?_)
      cases (hc : c = _)
      have S8 := S7'.kps k8
      have hstep : cutsB l room (i + 1) = if 0 < bl then prevB l room bl :: cutsB l room i else cutsB l room i := by rw [cutsB, hbl]
      by_cases hlt' : 0 < bl
      · rw [if_pos (by simpa using hlt')]
        rw [if_pos hlt'] at hstep
        refine wpAny_execs_cons (wpAny_Assign_Name ?_ (by rfl))
        refine wpAny_BinOp (wpAny_List (wpAny_items_cons ?_ (by rfl)))
        refine wpAny_Call_Name_kw ((Ev.glob (Gs S8).wd ((Gs S8).mgl "bisect_left" (some (.ref 66)) (by kernel_rfl))).go fun v10 s10 k10 hv10 => ?_)
        cases (hv10 : v10 = _)
        have S10 := S8.kps k10
        refine callWith_function_kw (o := ko 66) (fd := kf 66) ?_
        refine evalArgs_kw (by rfl) ?_
        refine Ev.go (R := ListR [rV (.ref pa), rI (-(room : Int)), rI 0, rV (.int bl tb)]) ?_ fun vs s11 k11 hvs => ?_
        · refine Ev.s4 (S10.v (by rfl)) monoV ?_ monoI ?_ monoI (Ev.cell S10.at4) monoV
          · exact Ev.neg (Ev.asI (S10.v (by rfl)))
          · rw [if_neg (by decide)]; exact Ev.kI
        obtain ⟨x1, _, rfl, rfl, x2, _, rfl, ⟨t3, rfl⟩, x3, _, rfl, ⟨t4, rfl⟩, x4, _, rfl, rfl, rfl⟩ := hvs
        have S11 := S10.kps k11
        have G11 := Gs S11
        refine wpAny_evalAll_cons (wpAny_bind (S11.lambda (P := 89) (c := 93) (clos := [("text", L + 1), ("end", L + 1 + 1)]) (pre := [e, eL ca ci, eL pa pits, eC (L + 1) (some (.str (T l) t1)), eC (L + 1 + 1) (some (.int bl tb))]) (post := []) rfl (by rfl) (by rfl) (by rfl) G11.wd.g (by rfl) (codeHd93 G11) (by decide) (G11.builtinsAt 89 (by decide)) fun f c' ctv s12 q S12 hk12 hcr hf => ?_))
        refine wpAny_bind (wpAny_standAt (wpAny_pure (wpAny_evalAll_nil ?_)))
        have G12 := Gs S12
        have hpl : s12.heap.IsList pa pits := Heap.PlainList.isList S12.at2
        have hct : s12.heap.IsCell (L + 1) (some (.str (T l) t1)) := S12.at3
        have hcb : s12.heap.IsCell (L + 1 + 1) (some (.int bl tb)) := S12.at4
        refine ⟨⟨G12.at 66 (by kernel_rfl), by kernel_rfl⟩, ?_⟩
        have hx1 := prevB_lt (l := l) hr hlt'
        refine Ev.go (bisectL_ev (n := 4) (lo := 0) (hi := bl) (r := prevB l room bl) (f := fun i => (-(wd l i bl : Int))) (items := pits) (vhi := .int bl tb) (vk := .ref f) (x := -(room : Int)) (args := ⟨[.ref pa, .int (-(room : Int)) t3, .int (0 : Nat) t4, .int bl tb], [("key", .ref f)]⟩) G12 hA' (fun s' G' => bindL4 G' _ _ _ _ _) hpl (by rw [hP.1]; omega) (by rw [hP.1]; omega) (.inr ⟨tb, rfl⟩)
          (.inr ⟨f, _, _, rfl, hf, rfl, fun i hi => by obtain ⟨t, e⟩ := hP.2 i (by omega); exact ⟨t, by simpa using e⟩, ?_⟩) (by omega) (by omega) (fun i a b => by have := prevB_no (l := l) (room := room) (e := bl) (i := i) b; omega) (fun i a b => by have := prevB_ok (l := l) hr hlt' f3 a; omega)) fun v13 s13 k13 hv13 => ?_
        · -- the key
          intro A2 s13 i t hA2 k13 hi1 hi2
          have G13 := G12.keeps k13.heap
          refine Ev.lam (binds := [("begin", .int i t)]) (k13.heap _ _ hf) rfl (hcr.keeps k13.heap) G13.wd.lim hA2.room rfl (by rfl) (by rfl) fun L2 s14 k14 hn2 => ?_
          have G14 := G13.keeps k14.heap
          have kk := k13.trans k14
          have ew : (wd l i bl : Int) = ((T (qd ((l.drop i).take (bl - i)))).length : Int) := by unfold wd; show _ = (((qd _).toArray.size : Nat) : Int); simp
          show Ev _ _ _ _ (rI (-((wd l i bl : Nat) : Int)))
          rw [ew]
          have hlq := beg_len ((l.drop i).take (bl - i)) 10
          have hlt2 : ((l.drop i).take (bl - i)).length ≤ 1000 := by rw [List.length_take, List.length_drop]; omega
          refine Ev.neg (len_ev G14 (Ev.callF (Rs := [rS (T ((l.drop i).take (bl - i)))]) (Ev.glob G14.wd (G14.mgl "quotedata" (some (.ref 48)) (by kernel_rfl))) (G14.at 48 (by kernel_rfl)) (fd := kf 48) (by kernel_rfl) ?_ ?_) (by show (qd _).toArray.size < _; unfold qd; simp; omega))
          · refine Ev.s1 (Ev.cut (x := T l) (l := some (i : Int)) (u := some (bl : Int)) (Ev.asS (Ev.free (hct.keeps kk.heap))) (Ev.part (Ev.asI (Ev.loc hn2 (v := .int (i : Nat) t) (by rfl)))) (Ev.part (Ev.asI (Ev.free (hcb.keeps kk.heap)))) (slice_mid (by omega) (by omega)) (by rw [eT]; unfold sizeLine; omega)) monoS
          · intro vs s15 k15 hvs
            obtain ⟨y1, _, rfl, r1, rfl⟩ := hvs
            exact quotedata_T (G14.keeps k15.heap) (Rm.deeper (n := 3) hA2) r1 (by omega)
        · obtain ⟨t13, rfl⟩ := hv13
          have S13 := S12.kps k13
          refine wpAny_items_nil ⟨(by show 1 ≤ _; decide), ?_⟩
          have k14 : Kps s13 { s13 with heap := s13.heap.push { cls := .type "list", data := .seq [Value.int (prevB l room bl : Nat) t13].toArray } } := Kps.push _ _ _
          have S14 := S13.kps k14
          refine Ev.go (S14.v (by rfl)) fun v15 s15 k15 hv15 => ?_
          cases (hv15 : v15 = _)
          have S15 := S14.kps k15
          obtain ⟨n15, hD15⟩ := S15.at1
          have hnew : s15.heap.get? s13.heap.objs.size = some { cls := .type "list", data := .seq [Value.int (prevB l room bl : Nat) t13].toArray } := k15.heap _ _ (Heap.get?_push_size _ rfl)
          refine P.add_list hnew hD15 ?_ (by unfold sizeLine; simp; omega)
          have S16 : St s (89 :: oc.toList) L _ (eL s15.heap.objs.size ([Value.int (prevB l room bl : Nat) t13].toArray ++ ci) :: _) _ := S15.add (Kps.push s15 { cls := .type "list", data := .seq ([Value.int (prevB l room bl : Nat) t13].toArray ++ ci) } s15.toks) (eL s15.heap.objs.size _) ⟨0, Heap.get?_push_size _ rfl⟩ (by intro a ha; simp [eL] at ha; subst ha; exact fresh_size (Kps.refl s15))
          refine S16.store fun s17 S17 _ => wpAny_execs_nil ⟨rfl, s15.heap.objs.size, _, some c', ?_, ?_, ((S17.perm (List.Perm.swap _ _ _)).drop2).renam fun m a => .cons (a.get rfl) (.cons (a.get rfl) (.cons (a.get rfl) .nil))⟩
          · rw [hstep, natsI, List.map_cons]
            simpa [natsI] using IntsAre.cons _ t13 hints
          · cases q : s.heap.get? s15.heap.objs.size with
            | none => rfl
            | some o =>
              exfalso
              rcases S16.new _ (.head _) s15.heap.objs.size (by simp [eL]) with h | h
              · obtain ⟨o', q'⟩ := (tabB oc).has hT _ h
                have hlt3 := hlt _ h
                have hL15 := S15.ns
                obtain ⟨m, hn15, _⟩ := hL15
                have := hn15.lt
                exact absurd (Nat.lt_trans hlt3 this) (Nat.lt_irrefl _)
              · rw [h] at q; cases q
      · rw [if_neg (by simpa using hlt')]
        rw [if_neg hlt'] at hstep
        exact wpAny_execs_nil ⟨rfl, ca, ci, oc', by rw [hstep]; exact hints, hca, S8.renam fun m a => .cons (a.get rfl) (.cons (a.get rfl) (.cons (a.get rfl) .nil))⟩
    obtain ⟨rfl, ca', ci', oc'', hi', hca', S8⟩ := h8
    dsimp only
    exact wpAny_execs_nil (hq _ _ s8 ⟨ca', ci', some (.int bl tb), oc'', rfl, rfl, hi', hca'⟩ S8)
  · rintro vals ents s4 ⟨ca, ci, vb, oc', rfl, rfl, hints, hca⟩ S4
    refine wpAny_execs_cons (wpAny_Return_some ((S4.v (by rfl)).go fun v s5 k5 hv => ?_))
    cases (hv : v = _)
    have S5 := S4.kps k5
    refine ⟨_, rfl, hQ ca ci s5 oc' ⟨S5.same, fun b o hb q => S5.keep b o hb q, fun a ha => ?_⟩ hca S5.at0 (by rw [hP.1] at hints; exact hints) S5.at4⟩
    exact S5.new (tabB oc') (by simp) a ha
end
end Mine

end

/- Lc -/
section
open PySem PySem.Calls PyProof.Rows
namespace Mine
set_option maxRecDepth 100000
set_option linter.unusedVariables false

/-- nothing -/
def eU : Ent where
  fp := []
  P := fun _ => True
  loc := fun _ x => x
  has := fun _ b hb => by cases hb
/-- a frame -/
def eN (C : Addr) : Ent where
  fp := [C]
  P := fun h => ∃ m, h.Ns C m
  loc := fun k ⟨m, n⟩ => ⟨m, n.at' fun o q => k C (by simp) o q⟩
  has := fun ⟨m, ⟨o, _, _, q, _⟩⟩ b hb => by simp at hb; subst hb; exact ⟨_, q⟩

section
variable {prog : Program} {w : World} {A : Around}

/-- what is walked through, sign by sign -/
def Its (prog : Program) (w : World) (A : Around) (b : Shared) (n : Nat) (P : Nat → Value → Prop) (v : Value) : Prop :=
  ∀ s, Kps b s → ∀ (Q : Value → Shared → Prop) (E : Value → Shared → Prop),
    (∀ ia e Cc s', Itr prog w A ia n P Cc e → (∀ i (s : Shared) (Q : Value → Shared → Prop) (E : Value → Shared → Prop), (e i).P s.heap → Q (.ref ia) s → wpAny (model prog w) A (pyIter (.ref ia)) Q E s) →
      Kps s s' → s.heap.get? ia = none → (e 0).P s'.heap → (∀ h, Kp b.heap h → Cc h) → Q (.ref ia) s') → wpAny (model prog w) A (pyIter v) Q E s

theorem Its.range {b : Shared} {i j c : Int} {n : Nat} {v : Value} (hh : A.handled = none) (h : rRange i j c v b.heap) (hsm : Builtin.Range.small i j c = true) (hn : Builtin.Range.rangeSize i j c = n) :
    Its prog w A b n (fun k v => ∃ t, v = .int (i + k * c) t) v := fun s ks Q E hQ => by
  obtain ⟨r, t, u, x, rfl, hr⟩ := h
  refine wpAny_pyIter_range (ks.heap _ _ hr) hsm ?_
  refine hQ _ _ _ _ (Itr.range hh s.heap.objs.size i c n) (fun k s Q E st hQ => wpAny_pyIter_rangeiter st hQ) (Kps.push s _ s.toks) (fresh_size (Kps.refl s)) ?_ fun _ _ => trivial
  show IsRangeIter _ _ _ _ _
  rw [hn]
  have e1 : i + ((0 : Nat) : Int) * c = i := by simp
  have e2 : ((n : Int) - ((0 : Nat) : Int)) = n := by simp
  rw [e1, e2]
  exact Heap.get?_push_size _ rfl
theorem Its.list {b : Shared} {ax : Addr} {items : Array Value} (hh : A.handled = none) (h : b.heap.IsList ax items) : Its prog w A b items.size (fun k v => items[k]? = some v) (.ref ax) := fun s ks Q E hQ => by
  have hl := h.at fun o e => ks.heap _ o e
  refine wpAny_pyIter_list hl ?_
  refine hQ _ _ _ _ (Itr.list hh s.heap.objs.size ax items) (fun k s Q E st hQ => wpAny_pyIter_listiter st hQ) (Kps.push s _ s.toks) (fresh_size (Kps.refl s)) ?_ fun h' k => h.at fun o e => k _ o e
  exact ⟨_, Heap.get?_push_size _ rfl, rfl, rfl⟩
theorem Its.str {b : Shared} {x : Str} {v : Value} (hh : A.handled = none) (h : rS x v b.heap) : Its prog w A b x.cps.size (fun i v => ∃ c u, x.cps[i]? = some c ∧ v = .str ⟨#[c]⟩ u) v := fun s ks Q E hQ => by
  obtain ⟨t, rfl⟩ := h
  cases ha : x.cps.all (· < 128) with
  | true =>
    refine wpAny_pyIter_ascii ha ?_
    exact hQ _ _ _ _ (Itr.ascii hh s.heap.objs.size x t) (fun k s Q E st hQ => wpAny_pyIter_striter_ascii st hQ) (Kps.push s _ s.toks) (fresh_size (Kps.refl s)) ⟨_, Heap.get?_push_size _ rfl, rfl, rfl⟩ fun _ _ => trivial
  | false =>
    refine wpAny_pyIter_wide ha ?_
    exact hQ _ _ _ _ (Itr.wide hh s.heap.objs.size x t) (fun k s Q E st hQ => wpAny_pyIter_striter_wide st hQ) (Kps.push s _ s.toks) (fresh_size (Kps.refl s)) ⟨_, Heap.get?_push_size _ rfl, rfl, rfl⟩ fun _ _ => trivial

/-- the tests behind a comprehension's for -/
abbrev tst (ifs : List Expr) (env : Env) : Sem Bool := forIn ifs true fun c r => if r = true then do let ok ← isTrue c env (eval c env); pure (ForInStep.yield ok) else pure (ForInStep.yield r)
theorem Ev.tst0 {M : Model} {b : Shared} {env : Env} : Ev M A b (tst [] env) (rB true) := Ev.fin fun _ _ => rfl
theorem Ev.tst1 {M : Model} {b : Shared} {env : Env} {c : Expr} {ok : Bool} (h : Ev M A b (isTrue c env (eval c env)) (rB ok)) : Ev M A b (tst [c] env) (rB ok) := by
  unfold tst
  rw [List.forIn_cons]
  simp only [if_true]
  refine Ev.seq (R := fun (r : ForInStep Bool) _ => r = .yield ok) (Ev.seq h fun v s ks hv => by cases (hv : v = ok); exact Ev.fin fun _ _ => rfl) fun v s ks hv => ?_
  subst hv
  exact Ev.fin fun _ _ => rfl
end

section
variable {prog : Program} {w : World} {A : Around} {s : Shared}

/-- the loop of a comprehension -/
theorem comp_loop {s₀ : Shared} {X : List Addr} {ia D : Addr} {n : Nat} {P : Nat → Value → Prop} {Cc : Heap → Prop} {e : Nat → Ent} {elt iter : Expr} {x : Str} {px : Pos} {ifs : List Expr} {scope : Scope} {pos : Pos} {cenv : Env} {R : Result → Shared → Prop} {l : List Ent}
    (J : Nat → Array Value → List Ent → Prop) (I : Itr prog w A ia n P Cc e) (hC : ∀ i ys l s vals, i ≤ n → J i ys l → St s₀ X cenv.locals vals (e i :: eL D ys :: l) s → Cc s.heap)
    (turn : ∀ i ys l s v, i < n → J i ys l → P i v → St s₀ X cenv.locals [(x, v)] (e (i + 1) :: eL D ys :: l) s → ∀ (E : Value → Shared → Prop),
      wpAny (model prog w) A (tst ifs cenv) (fun ok s₃ => if ok = true then wpAny (model prog w) A (eval elt cenv) (fun y s₄ => ys.size ≤ 100000 ∧ ∃ l', J (i + 1) (ys.push y) l' ∧ St s₀ X cenv.locals [(x, v)] (e (i + 1) :: eL D ys :: l') s₄) E s₃
        else ∃ l', J (i + 1) ys l' ∧ St s₀ X cenv.locals [(x, v)] (e (i + 1) :: eL D ys :: l') s₃) E s)
    (S : St s₀ X cenv.locals [] (e 0 :: eL D #[] :: l) s) (h0 : J 0 #[] l) (hR : ∀ ys l s, J n ys l → St s₀ X cenv.locals [] (eL D ys :: l) s → R (.ok .next) s)
    (hx : cenv.kindOf x = some .local) (hp : (cenv.scope.kind == .class || (cenv.scope.kind == .module && cenv.locals != cenv.globals)) = false) :
    codeAny (model prog w) A (.compLoop (.ListComp elt [⟨.Name x px, iter, ifs, 0⟩] scope pos) 0 (.ref ia) (.ref D) cenv) R s := by
  refine codeAny_compLoop_tests (fun k s' => ∃ i ys l, J i ys l ∧ St s₀ X cenv.locals [] (e i :: eL D ys :: l) s' ∧ i ≤ n ∧ k = n - i) ?_ n ⟨0, #[], l, h0, S, Nat.zero_le _, rfl⟩
  rintro k s' ⟨i, ys, l, hJ, S', hi, rfl⟩
  by_cases hlt : i < n
  · refine I.item i s' _ _ hlt S'.at0 (hC i ys l s' _ hi hJ S') fun v h' tk hv he hk => ?_
    have S2 : St s₀ X cenv.locals [] (e (i + 1) :: eL D ys :: l) { s' with heap := h', toks := tk } := S'.upd0 (by rw [I.fp]; exact fun b o hb q => hk b o (by simpa using hb) q) (by rw [I.fp, I.fp]) he
    refine wpAny_assign_Name (S2.store (fun s3 S3 _ => ?_) rfl hx hp)
    refine wpAny_mono (turn i ys l s3 v hlt hJ hv S3 _) (fun ok s4 h4 => ?_) fun _ _ q => q
    cases ok with
    | false =>
      simp only [Bool.false_eq_true, if_false] at h4 ⊢
      obtain ⟨l', hJ', S4⟩ := h4
      exact ⟨n - (i + 1), by omega, i + 1, ys, l', hJ', S4.renam fun m a => Agree.nil, hlt, rfl⟩
    | true =>
      simp only [if_true] at h4 ⊢
      refine wpAny_mono h4 (fun y s5 h5 => ?_) fun _ _ q => q
      obtain ⟨hsz, l', hJ', S5⟩ := h5
      exact call_append S5 (pre := [e (i + 1)]) rfl hsz fun s6 S6 => ⟨n - (i + 1), by omega, i + 1, ys.push y, l', hJ', S6.renam fun m a => Agree.nil, hlt, rfl⟩
  · have : i = n := by omega
    subst this
    refine I.done s' _ _ S'.at0 (hC i ys l s' _ hi hJ S') fun h' tk hk => ?_
    have hfp : ia ∈ (e i).fp := by rw [I.fp]; simp
    have nw := S'.new _ (.head _) ia hfp
    have S0 := S'.drop0
    refine hR ys l _ hJ { same := ?_, keep := ?_, ns := ?_, Lnew := S'.Lnew, LX := S'.LX, own := ?_, nd := S0.nd, ndL := S0.ndL, new := S0.new }
    · obtain ⟨h, tk, q⟩ := S'.same; exact ⟨h', _, by rw [q]⟩
    · intro b o hb q
      refine hk b o (fun p => ?_) (S'.keep b o hb q)
      subst p
      rcases nw with h1 | h1
      · exact hb h1
      · rw [h1] at q; cases q
    · obtain ⟨m, nn, a⟩ := S'.ns
      exact ⟨m, nn.at' fun o q => hk _ o (fun p => S'.ndL _ (.head _) (p ▸ hfp)) q, a⟩
    · intro x hx
      exact x.loc (fun a ha o q => hk a o (fun p => (List.pairwise_cons.mp S'.nd).1 x hx ia hfp (p ▸ ha)) q) (S0.own x hx)

/-- conditions on the comprehension's scope -/
def okComp (scope : Scope) (x : Str) : Bool := (scope.names.all fun y => y.2 != .cell) && scope.kind == .function && (scope.names.all fun y => y.2 != .local || scope.names.lookup y.1 == some .local) && scope.names.lookup x == some .local
theorem okComp.spec {scope : Scope} {x : Str} (h : okComp scope x = true) : (∀ y ∈ scope.names, y.2 ≠ .cell) ∧ scope.kind = .function ∧ (∀ y ∈ scope.names, y.2 = .local → scope.names.lookup y.1 = some .local) ∧ scope.names.lookup x = some .local := by
  unfold okComp at h
  simp only [Bool.and_eq_true, List.all_eq_true, beq_iff_eq, Bool.or_eq_true, bne_iff_ne, ne_eq] at h
  obtain ⟨⟨⟨h1, h2⟩, h3⟩, h4⟩ := h
  exact ⟨h1, h2, fun y hy hl => (h3 y hy).resolve_left (fun n => n hl), h4⟩

/-- the whole comprehension, the iterator at hand; C and D are new, all of s kept but X -/
theorem comp_block {env : Env} {s₀ : Shared} {X : List Addr} {ia : Addr} {n : Nat} {P : Nat → Value → Prop} {Cc : Heap → Prop} {e : Nat → Ent} {elt iter : Expr} {x : Str} {px : Pos} {ifs : List Expr} {scope : Scope} {cl : List (Str × Addr)} {pos : Pos} {RR : Value → Addr → Result → Shared → Prop} {l : List Ent} {E : Value → Shared → Prop}
    (J : Nat → Array Value → List Ent → Prop) (I : Itr prog w A ia n P Cc e) (hself : ∀ i (s : Shared) (Q : Value → Shared → Prop) (E : Value → Shared → Prop), (e i).P s.heap → Q (.ref ia) s → wpAny (model prog w) A (pyIter (.ref ia)) Q E s)
    (hsc : okComp scope x = true) (hst : (e 0).P s.heap) (hC : ∀ h, (∀ b o, b ∉ X → s₀.heap.get? b = some o → h.get? b = some o) → Cc h)
    (k : Kps s₀ s) (hia : s₀.heap.get? ia = none) (hiaX : ia ∉ X) (hX : ∀ a ∈ X, a < s.heap.objs.size) (hl : ∀ y ∈ l, y.P s.heap) (hnd : l.Pairwise fun e e' => ∀ a ∈ e.fp, a ∉ e'.fp) (hnew : ∀ y ∈ l, ∀ a ∈ y.fp, a ∈ X)
    (turn : ∀ C D i ys l s v, s₀.heap.get? C = none → i < n → J i ys l → P i v → St s₀ X C [(x, v)] (e (i + 1) :: eL D ys :: l) s → ∀ (E : Value → Shared → Prop),
      wpAny (model prog w) A (tst ifs (compEnvC scope cl C env)) (fun ok s₃ => if ok = true then wpAny (model prog w) A (eval elt (compEnvC scope cl C env)) (fun y s₄ => ys.size ≤ 100000 ∧ ∃ l', J (i + 1) (ys.push y) l' ∧ St s₀ X C [(x, v)] (e (i + 1) :: eL D ys :: l') s₄) E s₃
        else ∃ l', J (i + 1) ys l' ∧ St s₀ X C [(x, v)] (e (i + 1) :: eL D ys :: l') s₃) E s)
    (h0 : J 0 #[] l) (hR : ∀ C D ys l s', J n ys l → St s₀ X C [] (eL D ys :: l) s' → s.heap.get? C = none → s.heap.get? D = none → RR (.ref D) C (.ok .next) s') :
    wpAny (model prog w) A (newList []) (fun acc s₃ => wpAny (model prog w) A (newFunctionEnv scope env.globals cl [] env.qual none .none (some env)) (fun cenv s₄ =>
      codeAny (model prog w) A (.compStart (.ListComp elt [⟨.Name x px, iter, ifs, 0⟩] scope pos) 0 (.ref ia) acc { cenv with scope := relabel scope env }) (RR acc cenv.locals) s₄) E s₃) E s := by
  obtain ⟨hcell, hkind, hnames, hx⟩ := okComp.spec hsc
  refine wpAny_newObj_type (wpAny_newFunctionEnv hcell (by intro y hy; simp at hy) (fun h₁ hns₁ hsb₁ => ?_) hkind)
  dsimp only at hns₁ hsb₁ ⊢
  generalize hH2 : s.heap.push { cls := .type "list", dict := none, data := .seq ([] : List Value).toArray } = H2 at hns₁ hsb₁ ⊢
  have hCs : H2.objs.size = s.heap.objs.size + 1 := by rw [← hH2, Heap.size_push]
  have old : ∀ b o, s.heap.get? b = some o → h₁.get? b = some o := fun b o q => hsb₁.extBut b o (by rw [hCs]; exact Nat.ne_of_lt (Nat.lt_succ_of_lt (Heap.lt_size q))) (Heap.get?_push_of_some _ (hH2 ▸ Heap.get?_push_of_some _ q))
  have hDC : @Ne Nat s.heap.objs.size H2.objs.size := by rw [hCs]; exact Nat.ne_of_lt (Nat.lt_succ_self _)
  have hacc : h₁.PlainList s.heap.objs.size #[] := ⟨_, hsb₁.extBut _ _ hDC (Heap.get?_push_of_some _ (hH2 ▸ Heap.get?_push_size _ rfl))⟩
  have hia' : ∃ o, s.heap.get? ia = some o := (e 0).has hst ia (by rw [I.fp]; simp)
  have nC : s.heap.get? H2.objs.size = none := Heap.get?_none_of_le (by rw [hCs]; exact Nat.le_succ _)
  have nD : s.heap.get? s.heap.objs.size = none := Heap.get?_none_of_le (Nat.le_refl _)
  have up : ∀ a, s.heap.get? a = none → s₀.heap.get? a = none := fun a h => by
    cases q : s₀.heap.get? a with
    | none => rfl
    | some o => rw [k.heap _ _ q] at h; cases h
  have S : St s₀ X H2.objs.size [] (e 0 :: eL s.heap.objs.size #[] :: l) { s with heap := h₁, toks := s.toks + ([] : List (Str × Value)).length } := {
    same := by obtain ⟨h, tk, q⟩ := k.same; exact ⟨h₁, _, by rw [q]⟩
    keep := fun b o _ q => old b o (k.heap b o q)
    ns := ⟨_, hns₁, Agree.nil⟩
    Lnew := up _ nC
    LX := fun h => by have := hX _ h; rw [hCs] at this; exact absurd this (Nat.not_lt.mpr (Nat.le_succ _))
    own := by
      intro y hy
      rcases List.mem_cons.mp hy with rfl | hy
      · exact (e 0).loc (fun a _ o q => old a o q) hst
      · rcases List.mem_cons.mp hy with rfl | hy
        · exact hacc
        · exact y.loc (fun a _ o q => old a o q) (hl y hy)
    nd := by
      refine List.pairwise_cons.mpr ⟨fun y hy a ha => ?_, List.pairwise_cons.mpr ⟨fun y hy a ha hay => ?_, hnd⟩⟩
      · rw [I.fp] at ha
        simp at ha; subst ha
        rcases List.mem_cons.mp hy with rfl | hy
        · intro h
          simp [eL] at h
          obtain ⟨o, q⟩ := hia'
          rw [h, nD] at q; cases q
        · exact fun h => hiaX (hnew y hy _ h)
      · simp [eL] at ha; subst ha
        obtain ⟨o, q⟩ := y.has (hl y hy) _ hay
        rw [nD] at q; cases q
    ndL := by
      intro y hy h
      rcases List.mem_cons.mp hy with rfl | hy
      · rw [I.fp] at h; simp at h
        obtain ⟨o, q⟩ := hia'
        rw [← h, nC] at q; cases q
      · rcases List.mem_cons.mp hy with rfl | hy
        · simp [eL] at h; exact hDC h.symm
        · obtain ⟨o, q⟩ := y.has (hl y hy) _ h
          rw [nC] at q; cases q
    new := by
      intro y hy a ha
      rcases List.mem_cons.mp hy with rfl | hy
      · rw [I.fp] at ha; simp at ha; subst ha; exact .inr hia
      · rcases List.mem_cons.mp hy with rfl | hy
        · simp [eL] at ha; subst ha; exact .inr (up _ nD)
        · exact .inl (hnew y hy a ha) }
  have loop : ∀ s₃ : Shared, s₃ = { s with heap := h₁, toks := s.toks + ([] : List (Str × Value)).length } →
      codeAny (model prog w) A (.compLoop (.ListComp elt [⟨.Name x px, iter, ifs, 0⟩] scope pos) 0 (.ref ia) (.ref s.heap.objs.size) (compEnvC scope cl H2.objs.size env)) (RR (.ref s.heap.objs.size) H2.objs.size) s₃ := by
    rintro s₃ rfl
    exact comp_loop (cenv := compEnvC scope cl H2.objs.size env) J I (fun i ys l s' vals hi hJ S' => hC _ fun b o hb q => S'.keep b o hb q) (fun i ys l s' v hi hJ hv S' E' => turn _ _ i ys l s' v (up _ nC) hi hJ hv S' E') S h0 (fun ys l s' hJ S' => hR _ _ ys l s' hJ S' nC nD) (lookup_relabel_local hx) (by simp [compEnvC, relabel, hkind])
  exact codeAny_compStart_list (loop _ rfl) (hself 0 _ _ _ S.at0 (loop _ rfl))
end

section
variable {prog : Program} {w : World} {A : Around} {b : Shared} {env : Env}

/-- the outcome of a comprehension -/
abbrev rComp (b : Shared) (J : Array Value → List Ent → Prop) (v : Value) (h : Heap) : Prop := ∃ D ys l, v = .ref D ∧ b.heap.get? D = none ∧ h.PlainList D ys ∧ J ys l ∧ (∀ e ∈ l, e.P h) ∧ (∀ e ∈ l, ∀ a ∈ e.fp, b.heap.get? a = none ∧ a ≠ D)

/-- one turn, all kept -/
def Turn (prog : Program) (w : World) (A : Around) (b : Shared) (env : Env) (scope : Scope) (cl : List (Str × Addr)) (x : Str) (ifs : List Expr) (elt : Expr) (n : Nat) (P : Nat → Value → Prop) (J : Nat → Array Value → List Ent → Prop) : Prop :=
  ∀ C D i ys l e s v, i < n → J i ys l → P i v → St b [] C [(x, v)] (e :: eL D ys :: l) s →
    ∃ ok, Ev (model prog w) A s (tst ifs (compEnvC scope cl C env)) (rB ok) ∧ (ok = true → ys.size ≤ 100000 ∧ Ev (model prog w) A s (eval elt (compEnvC scope cl C env)) (fun y h => ∃ y' : Ent, J (i + 1) (ys.push y) (y' :: l) ∧ y'.P h ∧ ∀ a ∈ y'.fp, s.heap.get? a = none)) ∧ (ok = false → J (i + 1) ys l)

theorem turn_wp {scope : Scope} {cl : List (Str × Addr)} {x : Str} {ifs : List Expr} {elt : Expr} {n : Nat} {P : Nat → Value → Prop} {J : Nat → Array Value → List Ent → Prop} {e : Nat → Ent} (turn : Turn prog w A b env scope cl x ifs elt n P J) :
    ∀ C D i ys l s v, b.heap.get? C = none → i < n → J i ys l → P i v → St b [] C [(x, v)] (e (i + 1) :: eL D ys :: l) s → ∀ (E : Value → Shared → Prop),
      wpAny (model prog w) A (tst ifs (compEnvC scope cl C env)) (fun ok s₃ => if ok = true then wpAny (model prog w) A (eval elt (compEnvC scope cl C env)) (fun y s₄ => ys.size ≤ 100000 ∧ ∃ l', J (i + 1) (ys.push y) l' ∧ St b [] C [(x, v)] (e (i + 1) :: eL D ys :: l') s₄) E s₃
        else ∃ l', J (i + 1) ys l' ∧ St b [] C [(x, v)] (e (i + 1) :: eL D ys :: l') s₃) E s := by
  intro C D i ys l s v _ hi hJ hv S E
  obtain ⟨ok, h1, h2, h3⟩ := turn C D i ys l _ s v hi hJ hv S
  refine h1.go fun ok' s₃ k₃ ho => ?_
  cases (ho : ok' = ok)
  cases ok with
  | false => exact ⟨l, h3 rfl, S.kps k₃⟩
  | true =>
    simp only [if_true]
    obtain ⟨hsz, h2⟩ := h2 rfl
    refine h2 s₃ k₃ _ _ fun y s₄ k₄ hy => ?_
    obtain ⟨y', hJ', hP, hn⟩ := hy
    refine ⟨hsz, y' :: l, hJ', ?_⟩
    have S' := S.add (k₃.trans k₄) y' hP hn
    exact (S'.perm (List.Perm.swap _ _ _)).perm ((List.Perm.swap _ _ _).cons _)

theorem Ev.comp {elt iter : Expr} {x : Str} {px : Pos} {ifs : List Expr} {scope : Scope} {cl : List (Str × Addr)} {pos : Pos} {n : Nat} {P : Nat → Value → Prop} {R : Value → Heap → Prop} (J : Nat → Array Value → List Ent → Prop)
    (hit : Ev (model prog w) A b (eval iter env) R) (hR : ∀ v s, Kps b s → R v s.heap → Its prog w A s n P v) (turn : Turn prog w A b env scope cl x ifs elt n P J) (h0 : J 0 #[] [])
    (hclos : closureFor scope env = pure cl := by rfl) (hsc : okComp scope x = true := by rfl) (hs : ∀ x, foldedSetIterable iter env x = pure x := by intro _; rfl) :
    Ev (model prog w) A b (eval (.ListComp elt [⟨.Name x px, iter, ifs, 0⟩] scope pos) env) (rComp b (J n)) := fun s ks Q E hQ => by
  rw [eval_ListComp]
  obtain ⟨hcell, hkind, hnames, hx⟩ := okComp.spec hsc
  refine wpAny_comprehension_free (use := none) rfl hs hclos hkind hnames (hit s ks _ _ fun v s₁ k₁ hv => hR v s₁ (ks.trans k₁) hv s₁ (Kps.refl _) _ _ fun ia e Cc s₂ I hself k₂ hn he hCc => ?_)
  have kb : Kps b s₂ := (ks.trans k₁).trans k₂
  have up : ∀ {a : Addr} {s' s'' : Shared}, Kps s' s'' → s''.heap.get? a = none → s'.heap.get? a = none := fun {a s' s''} k h => by
    cases q : s'.heap.get? a with
    | none => rfl
    | some o => rw [k.heap _ _ q] at h; cases h
  refine comp_block (s₀ := s₁) (X := []) (RR := fun acc C => compPost (model prog w) A E none Q acc C) (l := []) J I hself hsc he (fun h k => hCc h fun b o q => k b o (by simp) q) k₂ hn (by simp) (by simp) (by simp) .nil (by simp) ?_ h0 ?_
  · refine turn_wp fun C D i ys l e' s' v hi hJ hv S => turn C D i ys l e' s' v hi hJ hv { S with same := ?_, keep := fun a o h q => S.keep a o h ((ks.trans k₁).heap a o q), Lnew := up (ks.trans k₁) S.Lnew, new := fun y hy a ha => .inr (up (ks.trans k₁) ((S.new y hy a ha).resolve_left (by simp))) }
    obtain ⟨h, tk, q⟩ := S.same; obtain ⟨h2, tk2, q2⟩ := (ks.trans k₁).same; exact ⟨h, tk, by rw [q, q2]⟩
  · intro C D ys l s' hJ S nC nD
    obtain ⟨m, hm, _⟩ := S.ns
    refine ⟨m, hm, fun h' hs' => ?_⟩
    have kk : Kps s₁ { s' with heap := h' } := by
      refine ⟨?_, fun a o q => hs'.extBut a o (fun p => ?_) (S.keep a o (by simp) q)⟩
      · obtain ⟨h, tk, q⟩ := S.same; exact ⟨h', tk, by rw [q]⟩
      · subst p; rw [up k₂ nC] at q; cases q
    refine hQ _ _ (k₁.trans kk) ⟨D, ys, l, rfl, up kb nD, ?_, hJ, ?_, ?_⟩
    · exact (eL D ys).loc (fun a ha o q => hs'.extBut a o (fun p => S.ndL _ (.head _) (p ▸ ha)) q) S.at0
    · intro y hy
      exact y.loc (fun a ha o q => hs'.extBut a o (fun p => S.ndL y (.tail _ hy) (p ▸ ha)) q) (S.own y (.tail _ hy))
    · intro y hy a ha
      refine ⟨up (ks.trans k₁) ((S.new y (.tail _ hy) a ha).resolve_left (by simp)), fun p => ?_⟩
      subst p
      exact (List.pairwise_cons.mp S.nd).1 y hy a (by simp [eL]) ha
end

section
variable {prog : Program} {w : World} {A : Around} {env : Env} {s₀ s : Shared} {X : List Addr} {L : Addr} {vals : List (Str × Value)} {l : List Ent} {E : Value → Shared → Prop}

theorem St.lose {e : Ent} (S : St s₀ X L vals (e :: l) s) {h' : Heap} {tk : Nat} (hs : ∀ b o, b ∉ e.fp → s.heap.get? b = some o → h'.get? b = some o) : St s₀ X L vals l { s with heap := h', toks := tk } where
  same := by obtain ⟨h, tk, q⟩ := S.same; exact ⟨h', _, by rw [q]⟩
  keep := fun b o hb q => hs b o (fun p => (S.new e (.head _) b p).elim (fun h => hb h) fun h => by rw [h] at q; cases q) (S.keep b o hb q)
  ns := let ⟨m, n, a⟩ := S.ns; ⟨m, n.at' fun o q => hs L o (S.ndL e (.head _)) q, a⟩
  Lnew := S.Lnew
  LX := S.LX
  own := fun x hx => x.loc (fun a ha o q => hs a o (fun p => (List.pairwise_cons.mp S.nd).1 x hx a p ha) q) (S.drop0.own x hx)
  nd := S.drop0.nd
  ndL := S.drop0.ndL
  new := S.drop0.new

/-- y = [.. for x in ..] -/
theorem St.assignComp (S : St s₀ X L vals l s) {y : Str} {py spos : Pos} {elt iter : Expr} {x : Str} {px : Pos} {ifs : List Expr} {scope : Scope} {cl : List (Str × Addr)} {pos : Pos} {n : Nat} {P : Nat → Value → Prop} {R : Value → Heap → Prop} {Q : Flow → Shared → Prop} (J : Nat → Array Value → List Ent → Prop)
    (hit : Ev (model prog w) A s (eval iter env) R) (hR : ∀ v s', Kps s s' → R v s'.heap → Its prog w A s' n P v) (turn : Turn prog w A s env scope cl x ifs elt n P J) (h0 : J 0 #[] [])
    (hQ : ∀ D ys l' s', J n ys l' → s.heap.get? D = none → St s₀ X L ((y, .ref D) :: vals) (eL D ys :: (l' ++ l)) s' → Q .next s')
    (hclos : closureFor scope env = pure cl := by rfl) (hsc : okComp scope x = true := by rfl) (hs : ∀ x, foldedSetIterable iter env x = pure x := by intro _; rfl)
    (hsw : swapsWith (.ListComp elt [⟨.Name x px, iter, ifs, 0⟩] scope pos) (some (.Name y py)) spos.line env = pure true := by rfl) (hL : env.locals = L := by rfl) (hl : env.kindOf y = some .local := by rfl)
    (hp : (env.scope.kind == .class || (env.scope.kind == .module && env.locals != env.globals)) = false := by rfl) :
    wpAny (model prog w) A (exec (.Assign [.Name y py] (.ListComp elt [⟨.Name x px, iter, ifs, 0⟩] scope pos) spos) env) Q E s := by
  rw [exec_Assign_Name_used _ _ _ _ hsw]
  obtain ⟨hcell, hkind, hnames, hx⟩ := okComp.spec hsc
  refine wpAny_bind (wpAny_standAt (wpAny_bind ?_))
  show wpAny _ A (do let _ ← comprehension (.ListComp elt [⟨.Name x px, iter, ifs, 0⟩] scope pos) scope env _ (newList []) false (eval iter env) (some (PySem.assign (.Name y py) env))) _ _ s
  refine wpAny_bind (wpAny_mono (wpAny_comprehension_free (use := some (PySem.assign (.Name y py) env)) (Q := fun _ s' => Q .next s') rfl hs hclos hkind hnames
    (hit.go fun v s₁ k₁ hv => hR v s₁ k₁ hv s₁ (Kps.refl _) _ _ fun ia e Cc s₂ I hself k₂ hn he hCc => ?_)) (fun _ s' hq => wpAny_pure (wpAny_pure hq)) fun _ _ e => e)
  have up : ∀ {a : Addr} {s' s'' : Shared}, Kps s' s'' → s''.heap.get? a = none → s'.heap.get? a = none := fun {a s' s''} k h => by
    cases q : s'.heap.get? a with
    | none => rfl
    | some o => rw [k.heap _ _ q] at h; cases h
  refine comp_block (s₀ := s₁) (X := []) (RR := fun acc C => compPost (model prog w) A E (some (PySem.assign (.Name y py) env)) (fun _ s' => Q .next s') acc C) (l := []) J I hself hsc he (fun h k => hCc h fun b o q => k b o (by simp) q) k₂ hn (by simp) (by simp) (by simp) .nil (by simp) ?_ h0 ?_
  · refine turn_wp fun C D i ys l e' s' v hi hJ hv S => turn C D i ys l e' s' v hi hJ hv { S with same := ?_, keep := fun a o h q => S.keep a o h (k₁.heap a o q), Lnew := up k₁ S.Lnew, new := fun y hy a ha => .inr (up k₁ ((S.new y hy a ha).resolve_left (by simp))) }
    obtain ⟨h, tk, q⟩ := S.same; obtain ⟨h2, tk2, q2⟩ := k₁.same; exact ⟨h, tk, by rw [q, q2]⟩
  · intro C D ys l' s' hJ S' nC nD
    -- the outer call's state, the frame and the lists among its things
    have S1 := S.kps k₁
    have kk : Kps s₁ s' := S'.out
    have T : St s₀ X L vals (eN C :: eL D ys :: (l' ++ l)) s' := by
      have all : ∀ es : List Ent, (∀ e ∈ es, e.P s'.heap) → es.Pairwise (fun e e' => ∀ a ∈ e.fp, a ∉ e'.fp) → (∀ e ∈ es, ∀ a ∈ e.fp, s₁.heap.get? a = none) → St s₀ X L vals (es ++ l) s' := by
        intro es
        induction es with
        | nil => intro _ _ _; exact S1.kps kk
        | cons e es ih =>
          intro h1 h2 h3
          have T := ih (fun y hy => h1 y (.tail _ hy)) (List.pairwise_cons.mp h2).2 fun y hy => h3 y (.tail _ hy)
          refine { T with own := ?_, nd := ?_, ndL := ?_, new := ?_ }
          · intro y hy
            rcases List.mem_cons.mp hy with rfl | hy
            · exact h1 _ (.head _)
            · exact T.own y hy
          · refine List.pairwise_cons.mpr ⟨fun y hy a ha ha' => ?_, T.nd⟩
            rcases List.mem_append.mp hy with hy | hy
            · exact (List.pairwise_cons.mp h2).1 y hy a ha ha'
            · obtain ⟨o, q⟩ := y.has (S1.own y hy) a ha'
              rw [h3 e (.head _) a ha] at q; cases q
          · intro y hy
            rcases List.mem_cons.mp hy with rfl | hy
            · intro h
              obtain ⟨m, ⟨o, _, _, q, _⟩, _⟩ := S1.ns
              rw [h3 y (.head _) L h] at q; cases q
            · exact T.ndL y hy
          · intro y hy a ha
            rcases List.mem_cons.mp hy with rfl | hy
            · by_cases hX : a ∈ X
              · exact .inl hX
              · right
                cases q : s₀.heap.get? a with
                | none => rfl
                | some o => have := S1.keep a o hX q; rw [h3 y (.head _) a ha] at this; cases this
            · exact T.new y hy a ha
      refine all (eN C :: eL D ys :: l') ?_ ?_ ?_
      · intro y hy
        rcases List.mem_cons.mp hy with rfl | hy
        · obtain ⟨m, hm, _⟩ := S'.ns; exact ⟨m, hm⟩
        · exact S'.own y hy
      · refine List.pairwise_cons.mpr ⟨fun y hy a ha => ?_, S'.nd⟩
        simp [eN] at ha; subst ha; exact S'.ndL y hy
      · intro y hy a ha
        rcases List.mem_cons.mp hy with rfl | hy
        · simp [eN] at ha; subst ha; exact up k₂ nC
        · exact (S'.new y hy a ha).resolve_left (by simp)
    show wpAny _ A (PySem.assign (.Name y py) env (.ref D)) _ _ _
    refine wpAny_assign_Name (T.store (fun s3 T3 _ => ?_) hL hl hp)
    obtain ⟨m, hm⟩ := T3.at0
    refine ⟨m, hm, fun h' hs' => ?_⟩
    exact hQ D ys l' _ hJ (up k₁ (up k₂ nD)) (T3.lose (tk := s3.toks) fun a o ha q => hs'.extBut a o (by simpa [eN] using ha) q)
end
end Mine

end

/- Ls -/
section
open PySem PySem.Calls PyProof.Rows
namespace Mine
set_option maxRecDepth 100000
set_option linter.unusedVariables false

section
variable {s s₁ : Shared} {L : Addr} {m : Str → Option Value} {vals : List (Str × Value)}

/-- the state on entry to a call: the frame, its cells, what may change -/
theorem St.enter {X : List Addr} {es : List Ent} (hL : L = s.heap.objs.size) (k : Kps s s₁) (hn : s₁.heap.Ns L m) (ha : Agree m vals) (cs : List (Nat × Option Value)) (hc : ∀ p ∈ cs, s₁.heap.IsCell (L + p.1) p.2) (hgt : ∀ p ∈ cs, 0 < p.1) (hnd : cs.Pairwise fun p q => p.1 ≠ q.1)
    (hX : ∀ a ∈ X, a < s.heap.objs.size) (hes : ∀ e ∈ es, e.P s.heap) (hend : es.Pairwise fun e e' => ∀ a ∈ e.fp, a ∉ e'.fp) (hfp : ∀ e ∈ es, ∀ a ∈ e.fp, a ∈ X) :
    St s X L vals (cs.map (fun p => eC (L + p.1) p.2) ++ es) s₁ where
  same := k.same
  keep := fun b o _ e => k.heap b o e
  ns := ⟨_, hn, ha⟩
  Lnew := by rw [hL]; exact Heap.get?_none_of_le (Nat.le_refl _)
  LX := fun h => by have := hX L h; rw [hL] at this; exact Nat.lt_irrefl _ this
  own := by
    intro e he
    rcases List.mem_append.mp he with he | he
    · obtain ⟨p, hp, rfl⟩ := List.mem_map.mp he
      exact hc p hp
    · exact e.loc (fun a _ o q => k.heap a o q) (hes e he)
  nd := by
    refine List.pairwise_append.mpr ⟨?_, hend, ?_⟩
    · refine List.pairwise_map.mpr (hnd.imp fun {p q} h a ha ha' => h ?_)
      simp [eC] at ha ha'
      subst ha
      exact Nat.add_left_cancel ha'
    · intro e he e' he' a ha ha'
      obtain ⟨p, hp, rfl⟩ := List.mem_map.mp he
      simp [eC] at ha
      subst ha
      have := hX _ (hfp e' he' _ ha')
      rw [hL] at this
      exact Nat.not_lt.mpr (Nat.le_add_right _ _) this
  ndL := by
    intro e he h
    rcases List.mem_append.mp he with he | he
    · obtain ⟨p, hp, rfl⟩ := List.mem_map.mp he
      simp [eC] at h
      have := hgt p hp
      omega
    · have := hX _ (hfp e he _ h)
      rw [hL] at this
      exact Nat.lt_irrefl _ this
  new := by
    intro e he a ha
    rcases List.mem_append.mp he with he | he
    · obtain ⟨p, hp, rfl⟩ := List.mem_map.mp he
      simp [eC] at ha
      subst ha
      right
      refine Heap.get?_none_of_le ?_
      rw [hL]; exact Nat.le_add_right _ _
    · exact .inl (hfp e he a ha)
end

section
variable {prog : Program} {w : World} {A : Around} {env : Env} {s₀ s : Shared} {X : List Addr} {L : Addr} {vals : List (Str × Value)} {l : List Ent} {E : Value → Shared → Prop}

/-- x = a new list, x captured -/
theorem St.assignCL (S : St s₀ X L vals l s) {pre post : List Ent} {c : Addr} {v₀ : Option Value} (hl : l = pre ++ eC c v₀ :: post) {x : Str} {pos' pos : Pos} {e : Expr} {P : Array Value → Prop} {Q : Flow → Shared → Prop} (he : Ev (model prog w) A s (eval e env) (rNew s P))
    (hQ : ∀ a items s', P items → s.heap.get? a = none → St s₀ X L vals (eL a items :: (pre ++ eC c (some (.ref a)) :: post)) s' → Q .next s')
    (hsw : swapsWith e (some (.Name x pos')) pos.line env = pure false := by rfl) (hc : env.cells.lookup x = some c := by rfl) (hk : env.scope.kind = .function := by rfl) (hx : env.kindOf x = some .cell := by rfl) :
    wpAny (model prog w) A (exec (.Assign [.Name x pos'] e pos) env) Q E s := by
  refine wpAny_Assign_Name (he.go fun v s1 k1 r1 => ?_) hsw
  obtain ⟨a, items, rfl, hn, hp', hP⟩ := r1
  have S1 : St s₀ X L vals (eL a items :: l) s1 := S.add k1 (eL a items) hp' (by intro b hb; simp [eL] at hb; subst hb; exact hn)
  subst hl
  exact S1.storeC (pre := eL a items :: pre) rfl (fun s' S' => hQ a items s' hP hn S') hc hk hx
end

section
variable {prog : Program} {w : World} {A : Around} {b : Shared} {env : Env}

/-- list[k] -/
theorem Ev.at_ {value slice : Expr} {pos : Pos} {a : Addr} {items : Array Value} {k : Nat} {x : Value} (h1 : Ev (model prog w) A b (eval value env) (rV (.ref a))) (hl : b.heap.IsList a items) (h2 : Ev (model prog w) A b (eval slice env) (rI k)) (hx : items[k]? = some x) (hk : k < 1000000)
    (hs : ∀ t, subscripted slice false (.ref a) (.int k t) = operate [.ref a, .int k t] (getItem (.ref a) (.int k t)) := by intro _; rfl) : Ev (model prog w) A b (eval (.Subscript value slice pos) env) (rV x) :=
  Ev.item h1 h2 monoV fun v1 v2 s ks r1 r2 => Ev.itemL r1 (hl.at fun o e => ks.heap _ o e) r2 (by omega) (by simpa using hx) (by omega) hs

/-- the least of a list of ints -/
theorem Ev.minL {v : Value} {P : List Int → Prop} (hh : A.handled = none) (h : rList (fun its => ∃ ns, IntsAre its.toList ns ∧ ns ≠ [] ∧ P ns) v b.heap) :
    Ev (model prog w) A b (call (.builtin "min") [v] []) (fun v _ => ∃ M t, v = .int M t ∧ ∃ ns, P ns ∧ M ∈ ns ∧ ∀ a, a ∈ ns → M ≤ a) := fun s ks Q E hQ => by
  obtain ⟨a, its, rfl, hl, ns, hi, hne, hP⟩ := h
  have hl := hl.at fun o e => ks.heap _ o e
  obtain ⟨xs, e⟩ := hi.allInts.items
  have hns : ns = xs.toList.map (·.1) := by rw [← hi.numsOf, ← nums_intItems, ← e]
  have hsz : 0 < xs.size := by
    have h3 := List.length_pos_iff.mpr hne; rw [hns, List.length_map, Array.length_toList] at h3; exact h3
  have e' : its = intItems xs := by rw [← e]
  rw [e'] at hl
  refine min_intList hh hl hsz fun v h' tk hv hk => ?_
  obtain ⟨t, rfl⟩ := intItems_at hv
  obtain ⟨h1, h2⟩ := argBest_lt (numAt xs) (xs.size - 1)
  refine hQ _ _ (Kps.mk' hk) ⟨_, t, rfl, ns, hP, ?_, fun a ha => ?_⟩
  · rw [hns, numAt_eq]; exact getD_mem (by rw [List.length_map, Array.length_toList]; omega)
  · rw [hns] at ha
    obtain ⟨j, hj, rfl⟩ := mem_getD ha
    rw [List.length_map, Array.length_toList] at hj
    rw [← numAt_eq]; exact h2 j (by omega)
theorem monoMin {P : Int → Prop} : ∀ v h h', Kp h h' → (fun (v : Value) (_ : Heap) => ∃ M t, v = .int M t ∧ P M) v h → (fun (v : Value) (_ : Heap) => ∃ M t, v = .int M t ∧ P M) v h' := fun _ _ _ _ r => r

theorem comp_list {J : Array Value → List Ent → Prop} {v : Value} {h : Heap} {P : Array Value → Prop} (x : rComp b J v h) (hJ : ∀ ys l, J ys l → P ys) : rNew b P v h := let ⟨D, ys, l, e, n, p, j, _⟩ := x; ⟨D, ys, e, n, p, hJ ys l j⟩
end
end Mine

end

/- Pure2 -/
section
namespace Mine
set_option linter.unusedVariables false

section
variable (l : List Nat) (room : Nat)

/-- fewest parts up to a place, told from the left -/
structure AhOk (ah : List Nat) : Prop where
  pos : 0 < ah.length
  zero : ah.getD 0 0 = 0
  some_ : ∀ e, 0 < e → e < ah.length → ∃ b, b < e ∧ wd l b e ≤ room ∧ ah.getD e 0 = 1 + ah.getD b 0
  all_ : ∀ e, 0 < e → e < ah.length → ∀ b, b < e → wd l b e ≤ room → ah.getD e 0 ≤ 1 + ah.getD b 0
/-- fewest parts from a place on, told from the right, the first item that of place p -/
structure BhOk (n p : Nat) (bh : List Nat) : Prop where
  le : p ≤ n
  len : bh.length = n - p + 1
  zero : bh.getD (n - p) 0 = 0
  some_ : ∀ q, p ≤ q → q < n → ∃ e, q < e ∧ e ≤ n ∧ wd l q e ≤ room ∧ bh.getD (q - p) 0 = 1 + bh.getD (e - p) 0
  all_ : ∀ q, p ≤ q → q < n → ∀ e, q < e → e ≤ n → wd l q e ≤ room → bh.getD (q - p) 0 ≤ 1 + bh.getD (e - p) 0

def candA (ah : List Nat) (e i : Nat) : List Nat := ((List.range i).filter fun b => decide (wd l b e ≤ room)).map fun b => ah.getD b 0
def candB (bh : List Nat) (p i : Nat) : List Nat := ((List.range i).filter fun j => decide (wd l p (p + 1 + j) ≤ room)).map fun j => bh.getD j 0
end

section
variable {l : List Nat} {room : Nat}

theorem AhOk.start : AhOk l room [0] := ⟨by simp, by simp, fun e h1 h2 => by simp at h2; omega, fun e h1 h2 => by simp at h2; omega⟩
theorem BhOk.start (n : Nat) : BhOk l room n n [0] := ⟨Nat.le_refl _, by simp, by simp, fun q h1 h2 => by omega, fun q h1 h2 => by omega⟩

theorem candA_succ (ah : List Nat) (e i : Nat) : candA l room ah e (i + 1) = if wd l i e ≤ room then candA l room ah e i ++ [ah.getD i 0] else candA l room ah e i := by
  unfold candA
  rw [List.range_succ, List.filter_append]
  split <;> rename_i h <;> simp [h]
theorem candB_succ (bh : List Nat) (p i : Nat) : candB l room bh p (i + 1) = if wd l p (p + 1 + i) ≤ room then candB l room bh p i ++ [bh.getD i 0] else candB l room bh p i := by
  unfold candB
  rw [List.range_succ, List.filter_append]
  split <;> rename_i h <;> simp [h]
theorem candA_len (ah : List Nat) (e i : Nat) : (candA l room ah e i).length ≤ i := by
  unfold candA; rw [List.length_map]; exact Nat.le_trans (List.length_filter_le _ _) (by simp)
theorem candB_len (bh : List Nat) (p i : Nat) : (candB l room bh p i).length ≤ i := by
  unfold candB; rw [List.length_map]; exact Nat.le_trans (List.length_filter_le _ _) (by simp)
theorem candA_ne (hr : 2 ≤ room) {ah : List Nat} {e : Nat} (he : 0 < e) : candA l room ah e e ≠ [] := by
  have : ah.getD (e - 1) 0 ∈ candA l room ah e e := by
    unfold candA
    refine List.mem_map.mpr ⟨e - 1, List.mem_filter.mpr ⟨List.mem_range.mpr (by omega), ?_⟩, rfl⟩
    have := wd_one l (e - 1)
    rw [show e - 1 + 1 = e by omega] at this
    simp; omega
  exact List.ne_nil_of_mem this
theorem candB_ne (hr : 2 ≤ room) {bh : List Nat} {p i : Nat} (hi : 0 < i) : candB l room bh p i ≠ [] := by
  have : bh.getD 0 0 ∈ candB l room bh p i := by
    unfold candB
    refine List.mem_map.mpr ⟨0, List.mem_filter.mpr ⟨List.mem_range.mpr hi, ?_⟩, rfl⟩
    have := wd_one l p
    simp; omega
  exact List.ne_nil_of_mem this

theorem AhOk.step {ah : List Nat} (h : AhOk l room ah) {M : Nat} (h1 : M ∈ candA l room ah ah.length ah.length) (h2 : ∀ a ∈ candA l room ah ah.length ah.length, M ≤ a) : AhOk l room (ah ++ [1 + M]) := by
  have old : ∀ b, b < ah.length → (ah ++ [1 + M]).getD b 0 = ah.getD b 0 := fun b hb => by rw [List.getD_eq_getElem?_getD, List.getD_eq_getElem?_getD, List.getElem?_append_left hb]
  have new : (ah ++ [1 + M]).getD ah.length 0 = 1 + M := by rw [List.getD_eq_getElem?_getD]; simp
  refine ⟨by simp, ?_, fun e h3 h4 => ?_, fun e h3 h4 b h5 h6 => ?_⟩
  · rw [old 0 h.pos]; exact h.zero
  · by_cases he : e < ah.length
    · obtain ⟨b, hb, hw, q⟩ := h.some_ e h3 he
      exact ⟨b, hb, hw, by rw [old e he, old b (by omega)]; exact q⟩
    · have : e = ah.length := by simp at h4; omega
      subst this
      unfold candA at h1
      obtain ⟨b, hb, rfl⟩ := List.mem_map.mp h1
      obtain ⟨hb1, hb2⟩ := List.mem_filter.mp hb
      have hb1 := List.mem_range.mp hb1
      exact ⟨b, hb1, by simpa using hb2, by rw [new, old b hb1]⟩
  · by_cases he : e < ah.length
    · rw [old e he, old b (by omega)]; exact h.all_ e h3 he b h5 h6
    · have : e = ah.length := by simp at h4; omega
      subst this
      rw [new, old b h5]
      have := h2 (ah.getD b 0) (by unfold candA; exact List.mem_map.mpr ⟨b, List.mem_filter.mpr ⟨List.mem_range.mpr h5, by simpa using h6⟩, rfl⟩)
      omega
theorem BhOk.step {bh : List Nat} {n p : Nat} (h : BhOk l room n (p + 1) bh) {M : Nat} (h1 : M ∈ candB l room bh p (n - p)) (h2 : ∀ a ∈ candB l room bh p (n - p), M ≤ a) : BhOk l room n p ((1 + M) :: bh) := by
  have hle := h.le
  have hlen := h.len
  have old : ∀ q, p < q → ((1 + M) :: bh).getD (q - p) 0 = bh.getD (q - (p + 1)) 0 := fun q hq => by
    rw [show q - p = (q - (p + 1)) + 1 by omega]; rfl
  have new : ((1 + M) :: bh).getD (p - p) 0 = 1 + M := by simp
  refine ⟨by omega, by simp; omega, ?_, fun q h3 h4 => ?_, fun q h3 h4 e h5 h6 h7 => ?_⟩
  · rw [old n (by omega)]; exact h.zero
  · by_cases hq : p < q
    · obtain ⟨e, he1, he2, hw, z⟩ := h.some_ q hq h4
      exact ⟨e, he1, he2, hw, by rw [old q hq, old e (by omega)]; exact z⟩
    · have : q = p := by omega
      subst this
      unfold candB at h1
      obtain ⟨j, hj, rfl⟩ := List.mem_map.mp h1
      obtain ⟨hj1, hj2⟩ := List.mem_filter.mp hj
      have hj1 := List.mem_range.mp hj1
      refine ⟨q + 1 + j, by omega, by omega, by simpa using hj2, ?_⟩
      rw [new, old _ (by omega), show q + 1 + j - (q + 1) = j by omega]
  · by_cases hq : p < q
    · rw [old q hq, old e (by omega)]; exact h.all_ q hq h4 e h5 h6 h7
    · have : q = p := by omega
      subst this
      rw [new, old e h5]
      have := h2 (bh.getD (e - (q + 1)) 0) (by
        unfold candB
        refine List.mem_map.mpr ⟨e - (q + 1), List.mem_filter.mpr ⟨List.mem_range.mpr (by omega), ?_⟩, rfl⟩
        rw [show q + 1 + (e - (q + 1)) = e by omega]
        simpa using h7)
      omega

/-- the cuts from the front -/
structure FOk (F : List Nat) : Prop where
  pos : 0 < F.length
  zero : F.getD 0 0 = 0
  next : ∀ k, k + 1 < F.length → F.getD k 0 < l.length ∧ F.getD (k + 1) 0 = nextF l room (F.getD k 0)
  last : F.getD (F.length - 1) 0 = l.length
structure BOk (B : List Nat) : Prop where
  pos : 0 < B.length
  zero : B.getD 0 0 = 0
  next : ∀ k, k + 1 < B.length → 0 < B.getD (k + 1) 0 ∧ B.getD k 0 = prevB l room (B.getD (k + 1) 0)
  last : B.getD (B.length - 1) 0 = l.length

theorem getLastD_getD (L : List Nat) (h : 0 < L.length) : L.getLastD 0 = L.getD (L.length - 1) 0 := by
  rw [List.getLastD_eq_getLast?, List.getLast?_eq_getElem?, List.getD_eq_getElem?_getD]
theorem headD_getD (L : List Nat) : L.headD 0 = L.getD 0 0 := by cases L <;> rfl

theorem cutsF_ok (hr : 2 ≤ room) : ∀ i, 0 < (cutsF l room i).length ∧ (cutsF l room i).getD 0 0 = 0 ∧ (∀ k, k + 1 < (cutsF l room i).length → (cutsF l room i).getD k 0 < l.length ∧ (cutsF l room i).getD (k + 1) 0 = nextF l room ((cutsF l room i).getD k 0)) ∧
    (cutsF l room i).getD ((cutsF l room i).length - 1) 0 ≤ l.length ∧ (i ≤ (cutsF l room i).getD ((cutsF l room i).length - 1) 0 ∨ (cutsF l room i).getD ((cutsF l room i).length - 1) 0 = l.length)
  | 0 => by simp [cutsF]
  | i + 1 => by
    obtain ⟨h1, h2, h3, h4, h5⟩ := cutsF_ok hr i
    rw [cutsF]
    rw [getLastD_getD _ h1]
    generalize cutsF l room i = L at *
    generalize hq : L.getD (L.length - 1) 0 = q at *
    split
    · rename_i hlt
      have old : ∀ b, b < L.length → (L ++ [nextF l room q]).getD b 0 = L.getD b 0 := fun b hb => by rw [List.getD_eq_getElem?_getD, List.getD_eq_getElem?_getD, List.getElem?_append_left hb]
      have new : (L ++ [nextF l room q]).getD L.length 0 = nextF l room q := by rw [List.getD_eq_getElem?_getD]; simp
      have hgt := nextF_gt (room := room) hr hlt
      have hle := nextF_le (l := l) (room := room) q
      have e1 : (L ++ [nextF l room q]).length = L.length + 1 := by simp
      refine ⟨by omega, by rw [old 0 h1]; exact h2, fun k hk => ?_, ?_, ?_⟩
      · rw [e1] at hk
        by_cases hk' : k + 1 < L.length
        · rw [old k (by omega), old (k + 1) hk']; exact h3 k hk'
        · have : k = L.length - 1 := by omega
          have e2 : k + 1 = L.length := by omega
          rw [e2, new, old k (by omega), this, hq]
          exact ⟨hlt, rfl⟩
      · rw [e1, Nat.add_sub_cancel, new]; exact hle
      · rw [e1, Nat.add_sub_cancel, new]; omega
    · exact ⟨h1, h2, h3, by omega, by omega⟩
theorem cutsF_fok (hr : 2 ≤ room) : FOk (l := l) (room := room) (cutsF l room (l.length + 1)) := by
  obtain ⟨h1, h2, h3, h4, h5⟩ := cutsF_ok (l := l) hr (l.length + 1)
  exact ⟨h1, h2, h3, by omega⟩

theorem cutsB_ok (hr : 2 ≤ room) : ∀ i, 0 < (cutsB l room i).length ∧ (cutsB l room i).getD ((cutsB l room i).length - 1) 0 = l.length ∧ (∀ k, k + 1 < (cutsB l room i).length → 0 < (cutsB l room i).getD (k + 1) 0 ∧ (cutsB l room i).getD k 0 = prevB l room ((cutsB l room i).getD (k + 1) 0)) ∧
    ((cutsB l room i).getD 0 0 + i ≤ l.length ∨ (cutsB l room i).getD 0 0 = 0)
  | 0 => by simp [cutsB]
  | i + 1 => by
    obtain ⟨h1, h2, h3, h5⟩ := cutsB_ok hr i
    rw [cutsB]
    rw [headD_getD]
    generalize cutsB l room i = L at *
    generalize hq : L.getD 0 0 = q at *
    split
    · rename_i hlt
      have hgt := prevB_lt (l := l) (room := room) hr hlt
      refine ⟨by simp, ?_, fun k hk => ?_, ?_⟩
      · rw [List.length_cons, Nat.add_sub_cancel]
        have : L.length = (L.length - 1) + 1 := by omega
        rw [this, List.getD_cons_succ]; exact h2
      · cases k with
        | zero => rw [List.getD_cons_succ, hq]; exact ⟨hlt, rfl⟩
        | succ k => rw [List.getD_cons_succ, List.getD_cons_succ]; exact h3 k (by simpa using hk)
      · rw [List.getD_cons_zero]; omega
    · exact ⟨h1, h2, h3, by omega⟩
theorem cutsB_bok (hr : 2 ≤ room) : BOk (l := l) (room := room) (cutsB l room (l.length + 1)) := by
  obtain ⟨h1, h2, h3, h4⟩ := cutsB_ok (l := l) hr (l.length + 1)
  exact ⟨h1, by omega, h3, h2⟩

theorem FOk.le {F : List Nat} (hF : FOk (l := l) (room := room) F) : ∀ k, k < F.length → F.getD k 0 ≤ l.length
  | 0, _ => by rw [hF.zero]; omega
  | k + 1, hk => by rw [(hF.next k hk).2]; exact nextF_le _
theorem BOk.le {B : List Nat} (hr : 2 ≤ room) (hB : BOk (l := l) (room := room) B) : ∀ j, j < B.length → B.getD (B.length - 1 - j) 0 ≤ l.length
  | 0, _ => by rw [Nat.sub_zero, hB.last]; omega
  | j + 1, hj => by
    have ih := BOk.le hr hB j (by omega)
    obtain ⟨h1, h2⟩ := hB.next (B.length - 1 - (j + 1)) (by omega)
    rw [show B.length - 1 - (j + 1) + 1 = B.length - 1 - j by omega] at h1 h2
    have := prevB_lt (l := l) (room := room) hr h1
    omega

/-- as few parts as k reach just to the k-th cut -/
theorem ahead_iff (hr : 2 ≤ room) {F ah : List Nat} (hF : FOk (l := l) (room := room) F) (ha : AhOk l room ah) (hlen : ah.length = l.length + 1) : ∀ k, k < F.length → ∀ p, p ≤ l.length → (ah.getD p 0 ≤ k ↔ p ≤ F.getD k 0)
  | 0, hk, p, hp => by
    rw [hF.zero]
    constructor
    · intro h
      apply Nat.le_of_not_lt
      intro h0
      obtain ⟨b, _, _, q⟩ := ha.some_ p (by omega) (by omega)
      omega
    · intro h
      have : p = 0 := by omega
      subst this
      rw [ha.zero]; omega
  | k + 1, hk, p, hp => by
    have ih := ahead_iff hr hF ha hlen k (by omega)
    obtain ⟨n1, n2⟩ := hF.next k hk
    rw [n2]
    have hgt := nextF_gt (room := room) hr n1
    constructor
    · intro h
      apply Nat.le_of_not_lt
      intro hn
      have hno := nextF_no (l := l) (room := room) hn hp
      obtain ⟨b, hb, hw, q⟩ := ha.some_ p (by omega) (by omega)
      have hb' := (ih b (by omega)).mp (by omega)
      have := wd_mono_b l p hp hb'
      omega
    · intro h
      by_cases hle : p ≤ F.getD k 0
      · have := (ih p hp).mpr hle; omega
      · have hok := nextF_ok (l := l) hr n1 h
        have := ha.all_ p (by omega) (by omega) (F.getD k 0) (by omega) hok
        have := (ih (F.getD k 0) (by omega)).mpr (Nat.le_refl _)
        omega
theorem behind_iff (hr : 2 ≤ room) {B bh : List Nat} (hB : BOk (l := l) (room := room) B) (hb : BhOk l room l.length 0 bh) : ∀ j, j < B.length → ∀ p, p ≤ l.length → (bh.getD p 0 ≤ j ↔ B.getD (B.length - 1 - j) 0 ≤ p)
  | 0, hk, p, hp => by
    rw [Nat.sub_zero, hB.last]
    have hz : bh.getD l.length 0 = 0 := hb.zero
    constructor
    · intro h
      apply Nat.le_of_not_lt
      intro h0
      obtain ⟨e, _, _, _, q⟩ := hb.some_ p (by omega) h0
      rw [Nat.sub_zero] at q
      omega
    · intro h
      have : p = l.length := by omega
      subst this
      rw [hz]; omega
  | j + 1, hj, p, hp => by
    have ih := behind_iff hr hB hb j (by omega)
    have hBl := hB.le hr j (by omega)
    obtain ⟨n1, n2⟩ := hB.next (B.length - 1 - (j + 1)) (by omega)
    rw [show B.length - 1 - (j + 1) + 1 = B.length - 1 - j by omega] at n1 n2
    rw [n2]
    generalize B.getD (B.length - 1 - j) 0 = q at *
    have hlt := prevB_lt (l := l) (room := room) hr n1
    constructor
    · intro h
      apply Nat.le_of_not_lt
      intro hn
      have hno := prevB_no (l := l) (room := room) hn
      obtain ⟨e, he1, he2, hw, z⟩ := hb.some_ p (by omega) (by omega)
      rw [Nat.sub_zero, Nat.sub_zero] at z
      have he' := (ih e he2).mp (by omega)
      have := wd_mono_e l p he'
      omega
    · intro h
      by_cases hle : q ≤ p
      · have := (ih p hp).mpr hle; omega
      · have hok := prevB_ok (l := l) hr n1 hBl h
        have h1 := hb.all_ p (by omega) (by omega) q (by omega) hBl hok
        rw [Nat.sub_zero, Nat.sub_zero] at h1
        have := (ih q hBl).mpr (Nat.le_refl _)
        omega

/-- what the law asks of the four lists -/
theorem cuts_law (hr : 2 ≤ room) {F B ah bh : List Nat} (hF : FOk (l := l) (room := room) F) (hB : BOk (l := l) (room := room) B) (ha : AhOk l room ah) (hlen : ah.length = l.length + 1) (hb : BhOk l room l.length 0 bh) :
    F.length = ah.getD l.length 0 + 1 ∧ B.length = ah.getD l.length 0 + 1 ∧
    (∀ k, k ≤ ah.getD l.length 0 → B.getD k 0 ≤ F.getD k 0 ∧ ∀ p, p ≤ l.length → ((ah.getD p 0 = k ∧ bh.getD p 0 + k = ah.getD l.length 0) ↔ (B.getD k 0 ≤ p ∧ p ≤ F.getD k 0))) := by
  have hF0 := hF.pos
  have hB0 := hB.pos
  have A := ahead_iff hr hF ha hlen
  have Bi := behind_iff hr hB hb
  -- the sum of both is never less than the fewest, on either side
  have s1 : ∀ d p, p ≤ l.length → l.length - p = d → ah.getD l.length 0 ≤ ah.getD p 0 + bh.getD p 0 := by
    intro d
    induction d using Nat.strongRecOn with
    | _ d ih =>
      intro p hp hd
      by_cases h : p = l.length
      · subst h; omega
      · obtain ⟨e, he1, he2, hw, z⟩ := hb.some_ p (by omega) (by omega)
        rw [Nat.sub_zero, Nat.sub_zero] at z
        have h1 := ha.all_ e (by omega) (by omega) p he1 hw
        have := ih (l.length - e) (by omega) e he2 rfl
        omega
  have s2 : ∀ p, p ≤ l.length → bh.getD 0 0 ≤ ah.getD p 0 + bh.getD p 0 := by
    intro p
    induction p using Nat.strongRecOn with
    | _ p ih =>
      intro hp
      by_cases h : p = 0
      · subst h; omega
      · obtain ⟨b, hb1, hw, z⟩ := ha.some_ p (by omega) (by omega)
        have h1 := hb.all_ b (by omega) (by omega) p hb1 hp hw
        rw [Nat.sub_zero, Nat.sub_zero] at h1
        have := ih b hb1 (by omega)
        omega
  have hz : bh.getD l.length 0 = 0 := hb.zero
  have e1 : ah.getD l.length 0 ≤ bh.getD 0 0 := by have := s1 _ 0 (by omega) rfl; rw [ha.zero] at this; omega
  have e2 : bh.getD 0 0 ≤ ah.getD l.length 0 := by have := s2 l.length (Nat.le_refl _); omega
  have f1 : F.length = ah.getD l.length 0 + 1 := by
    have h1 := (A (F.length - 1) (by omega) l.length (Nat.le_refl _)).mpr (by rw [hF.last]; omega)
    by_cases hk : ah.getD l.length 0 + 1 < F.length
    · have h2 := (A (ah.getD l.length 0) (by omega) l.length (Nat.le_refl _)).mp (Nat.le_refl _)
      have := (hF.next _ hk).1
      omega
    · omega
  have f2 : B.length = bh.getD 0 0 + 1 := by
    have h1 := (Bi (B.length - 1) (by omega) 0 (by omega)).mpr (by rw [Nat.sub_self, hB.zero]; omega)
    by_cases hk : bh.getD 0 0 + 1 < B.length
    · have h2 := (Bi (bh.getD 0 0) (by omega) 0 (by omega)).mp (Nat.le_refl _)
      obtain ⟨h3, _⟩ := hB.next (B.length - 1 - (bh.getD 0 0 + 1)) (by omega)
      rw [show B.length - 1 - (bh.getD 0 0 + 1) + 1 = B.length - 1 - bh.getD 0 0 by omega] at h3
      omega
    · omega
  have em : ah.getD l.length 0 = bh.getD 0 0 := by omega
  refine ⟨f1, by omega, fun k hk => ?_⟩
  have key : ∀ p, p ≤ l.length → ((ah.getD p 0 = k ∧ bh.getD p 0 + k = ah.getD l.length 0) ↔ (B.getD k 0 ≤ p ∧ p ≤ F.getD k 0)) := by
    intro p hp
    have a1 := A k (by omega) p hp
    have b1 := Bi (B.length - 1 - k) (by omega) p hp
    rw [show B.length - 1 - (B.length - 1 - k) = k by omega] at b1
    have c1 := s1 _ p hp rfl
    constructor
    · rintro ⟨h1, h2⟩
      exact ⟨b1.mp (by omega), a1.mp (by omega)⟩
    · rintro ⟨h1, h2⟩
      have := b1.mpr h1
      have := a1.mpr h2
      omega
  refine ⟨?_, key⟩
  -- from the k-th cut on the front's own parts are few enough
  have path : ∀ j, j ≤ ah.getD l.length 0 → bh.getD (F.getD (ah.getD l.length 0 - j) 0) 0 ≤ j := by
    intro j
    induction j with
    | zero =>
      intro _
      have := hF.last
      rw [f1, Nat.add_sub_cancel] at this
      rw [Nat.sub_zero, this, hz]; omega
    | succ j ih =>
      intro hj
      have h1 := ih (by omega)
      obtain ⟨n1, n2⟩ := hF.next (ah.getD l.length 0 - (j + 1)) (by omega)
      rw [show ah.getD l.length 0 - (j + 1) + 1 = ah.getD l.length 0 - j by omega] at n2
      have hgt := nextF_gt (room := room) hr n1
      have hok := nextF_ok (l := l) hr n1 (Nat.le_refl _)
      have h2 := hb.all_ _ (Nat.zero_le _) n1 _ (show F.getD (ah.getD l.length 0 - (j + 1)) 0 < nextF l room (F.getD (ah.getD l.length 0 - (j + 1)) 0) by omega) (nextF_le _) hok
      rw [Nat.sub_zero, Nat.sub_zero, ← n2] at h2
      omega
  have h1 := path (ah.getD l.length 0 - k) (by omega)
  rw [show ah.getD l.length 0 - (ah.getD l.length 0 - k) = k by omega] at h1
  have hFl := hF.le k (by omega)
  have b1 := Bi (B.length - 1 - k) (by omega) (F.getD k 0) hFl
  rw [show B.length - 1 - (B.length - 1 - k) = k by omega] at b1
  exact b1.mp (by omega)
end
end Mine

end

/- F06 -/
section
open PySem PySem.Calls PyProof.Rows PySem.W
namespace Mine
set_option maxRecDepth 100000
set_option linter.unusedVariables false

theorem strsAre_get {vs : List Value} {ns : List Str} (h : StrsAre vs ns) : ∀ {k : Nat} {n : Str}, ns[k]? = some n → ∃ t, vs[k]? = some (.str n t) := by
  induction h with
  | nil => intro k n e; simp at e
  | cons m t r ih =>
    intro k n e
    cases k with
    | zero => simp at e; subst e; exact ⟨t, rfl⟩
    | succ k => exact ih (by simpa using e)

/-- the table: what is sent of each beginning of each end of the text -/
def Tab (l : List Nat) (v : Value) (h : Heap) : Prop := ∃ ta tits, v = .ref ta ∧ h.IsList ta tits ∧ tits.size = l.length + 1 ∧ ∀ b, b ≤ l.length → ∃ ra row, tits[b]? = some (.ref ra) ∧ h.IsList ra row ∧ StrsAre row.toList (begs (l.drop b))
theorem monoTab {l : List Nat} : ∀ v h h', Kp h h' → Tab l v h → Tab l v h' := fun v h h' k ⟨ta, tits, e, hl, hs, hr⟩ => ⟨ta, tits, e, hl.at fun o e => k _ o e, hs, fun b hb => let ⟨ra, row, e1, h1, h2⟩ := hr b hb; ⟨ra, row, e1, h1.at fun o e => k _ o e, h2⟩⟩

theorem begs_get {l : List Nat} {b k : Nat} (h : k ≤ l.length - b) : (begs (l.drop b))[k]? = some (T (qd ((l.drop b).take k))) := by
  unfold begs qd
  rw [List.getElem?_map, List.getElem?_range (by rw [List.length_drop]; omega)]
  rfl

section
variable {w : World} {A : Around} {b : Shared} {mg mb : Str → Option Value} {env : Env}

/-- table[i][j - i] -/
theorem tab_ev {l : List Nat} {ta : Addr} {e1 e2 e3 : Expr} {p1 p2 : Pos} {i k : Nat} (hT : Tab l (.ref ta) b.heap) (h1 : Ev (model prg w) A b (eval e1 env) (rV (.ref ta))) (h2 : Ev (model prg w) A b (eval e2 env) (rI i)) (h3 : Ev (model prg w) A b (eval e3 env) (rI k)) (hi : i ≤ l.length) (hk : k ≤ l.length - i) (hl : l.length ≤ 1000)
    (hs : ∀ a t, subscripted e2 false (.ref a) (.int i t) = operate [.ref a, .int i t] (getItem (.ref a) (.int i t)) := by intro _ _; rfl)
    (hs' : ∀ a t, subscripted e3 false (.ref a) (.int k t) = operate [.ref a, .int k t] (getItem (.ref a) (.int k t)) := by intro _ _; rfl) :
    Ev (model prg w) A b (eval (.Subscript (.Subscript e1 e2 p1) e3 p2) env) (rS (T (qd ((l.drop i).take k)))) := by
  obtain ⟨_, tits, e, hl1, hsz, hr⟩ := hT
  cases e
  obtain ⟨ra, row, e1, h4, h5⟩ := hr i hi
  obtain ⟨t, e2⟩ := strsAre_get h5 (begs_get hk)
  exact Ev.asS (Ev.at_ (Ev.at_ h1 hl1 h2 e1 (by omega) (hs _)) h4 h3 (by simpa using e2) (by omega) (hs' _))

theorem min_ev {ex : Expr} {p pos : Pos} {P : List Int → Prop} (G : Gd w mg mb b.heap) (hh : A.handled = none) (hx : Ev (model prg w) A b (eval ex env) (rList (fun its => ∃ ns, IntsAre its.toList ns ∧ ns ≠ [] ∧ P ns))) (hg : env.globals = mainGlobals := by rfl) (hb : env.builtins = builtinsNs := by rfl) (hk : env.scope.kind = .function := by rfl) (hkd : env.kindOf "min" = some .globalImplicit := by rfl)
    (hs : backTo pos (starEach [ex] env) = (false, eval ex env) :: evs [] env := by rfl) : Ev (model prg w) A b (eval (.Call (.Name "min" p) [ex] [] pos) env) (fun v _ => ∃ M t, v = .int M t ∧ ∃ ns, P ns ∧ M ∈ ns ∧ ∀ a, a ∈ ns → M ≤ a) := by
  refine Ev.callB (Rs := [rList (fun its => ∃ ns, IntsAre its.toList ns ∧ ns ≠ [] ∧ P ns)]) (G.blt (v := .builtin "min") (by kernel_rfl) (by kernel_rfl) (by decide +kernel) hg hb hk hkd (by decide +kernel)) (Ev.s1 hx monoList) (fun vs s3 k3 hvs => ?_) (by rfl) hs (by rfl)
  obtain ⟨x1, _, rfl, q1, rfl⟩ := hvs
  exact Ev.minL hh q1
/-- len(table) -/
theorem lenTab_ev {l : List Nat} {ta : Addr} {ex : Expr} {p pos : Pos} (G : Gd w mg mb b.heap) (hT : Tab l (.ref ta) b.heap) (hl : l.length ≤ 1000) (hx : Ev (model prg w) A b (eval ex env) (rV (.ref ta))) (hg : env.globals = mainGlobals := by rfl) (hb : env.builtins = builtinsNs := by rfl) (hk : env.scope.kind = .function := by rfl) (hkd : env.kindOf "len" = some .globalImplicit := by rfl)
    (hs : backTo pos (starEach [ex] env) = (false, eval ex env) :: evs [] env := by rfl) : Ev (model prg w) A b (eval (.Call (.Name "len" p) [ex] [] pos) env) (rI (l.length + 1 : Nat)) := by
  obtain ⟨_, tits, e, hl1, hsz, hr⟩ := hT
  cases e
  refine lenL_ev (P := fun its => its.size = l.length + 1) G (fun s ks Q E hQ => hx s ks _ _ fun v s1 k1 hv => hQ v s1 k1 ?_) (fun its h => h) (by omega) hg hb hk hkd hs
  exact ⟨ta, tits, hv, hl1.at fun o e => (ks.trans k1).heap _ o e, hsz⟩
end

theorem mem_natsI {l : List Nat} {M : Int} (h : M ∈ natsI l) : ∃ n : Nat, n ∈ l ∧ M = n := by
  unfold natsI at h
  obtain ⟨n, hn, e⟩ := List.mem_map.mp h
  exact ⟨n, hn, e.symm⟩
theorem natsI_mem {l : List Nat} {n : Nat} (h : n ∈ l) : (n : Int) ∈ natsI l := List.mem_map.mpr ⟨n, h, rfl⟩
theorem natsI_get {l : List Nat} {k : Nat} (h : k < l.length) : (natsI l)[k]? = some ((l.getD k 0 : Nat) : Int) := by
  unfold natsI
  rw [List.getElem?_map, List.getD_eq_getElem?_getD, List.getElem?_eq_getElem h]
  rfl

section
variable {w : World} {A : Around} {b : Shared} {mg mb : Str → Option Value}

theorem ahead_ev {l : List Nat} {room : Nat} {v1 v2 : Value} (G : Gd w mg mb b.heap) (hA : Rm A 1) (hl : l.length ≤ 1000) (hr : 2 ≤ room) (h1 : Tab l v1 b.heap) (h2 : rI room v2 b.heap) :
    Ev (model prg w) A b (call (.ref 99) [v1, v2] []) (rNew b fun its => ∃ ah, IntsAre its.toList (natsI ah) ∧ ah.length = l.length + 1 ∧ AhOk l room ah) := fun s ks Q E hQ => by
  obtain ⟨ta, tits, rfl, -⟩ := id h1
  obtain ⟨t2, rfl⟩ := h2
  replace G := G.keeps ks.heap
  replace h1 := monoTab _ _ _ ks.heap h1
  refine fnC (fd := kf 99) (body := bodyOf (kf 99)) (binds := [("table", .ref ta), ("room", .int room t2)]) (G.fn 99 _ (by kernel_rfl)) G.wd.lim hA.room (by kernel_rfl) (by kernel_rfl) (BindsTo.of_eq (by kernel_rfl)) (by kernel_rfl) (by kernel_rfl) fun L s₁ hL k1 hn hc => ?_
  have hA' : Rm (A.deeper (callEnvC (kf 99) L 99)) 0 := hA.deeper
  generalize hAA : A.deeper (callEnvC (kf 99) L 99) = A' at hA'
  have S : St s [] L [] [eC (L + 1) (some (.ref ta)), eC (L + 2) (some (.int room t2)), eC (L + 3) none, eC (L + 4) none] s₁ := St.enter (X := []) (es := []) hL k1 hn (vals := []) Agree.nil [(1, some (.ref ta)), (2, some (.int room t2)), (3, none), (4, none)] (by
    intro p hp
    simp only [List.mem_cons, List.not_mem_nil, or_false] at hp
    rcases hp with rfl | rfl | rfl | rfl
    · exact hc "table" (L + 1) (by rfl)
    · exact hc "room" (L + 2) (by rfl)
    · exact hc "ahead" (L + 3) (by rfl)
    · exact hc "end" (L + 4) (by rfl)) (by simp) (by simp) (by simp) (by simp) .nil (by simp)
  have Gs : ∀ {s' vals ents}, St s [] L vals ents s' → Gd w mg mb s'.heap := fun S' => G.keeps S'.out.heap
  have Ts : ∀ {s' vals ents}, St s [] L vals ents s' → Tab l (.ref ta) s'.heap := fun S' => monoTab _ _ _ S'.out.heap h1
  refine wpAny_execs_cons (S.assignCL (pre := [eC (L + 1) (some (.ref ta)), eC (L + 2) (some (.int room t2))]) rfl (P := fun its => IntsAre its.toList (natsI [0])) (Ev.disp (Rs := [rI 0]) ?_ ?_) fun ca items s3 hci hcn S3 => ?_)
  · exact Ev.s1 Ev.kI monoI
  · intro vs h hvs
    obtain ⟨x1, _, rfl, ⟨u, rfl⟩, rfl⟩ := hvs
    exact ⟨by simp, .cons _ _ .nil⟩
  have S3' : St s [] L [] [eL ca items, eC (L + 1) (some (.ref ta)), eC (L + 2) (some (.int room t2)), eC (L + 3) (some (.ref ca)), eC (L + 4) none] s3 := S3
  have hcb : b.heap.get? ca = none := by
    cases q : b.heap.get? ca with
    | none => rfl
    | some o => have := k1.heap _ _ (ks.heap _ _ q); rw [hcn] at this; cases this
  refine wpAny_execs_cons (S3'.forRange (n := l.length) (a := 1) (b := (l.length + 1 : Nat)) (c := 1) (fun i vals ents => ∃ ci vb ah, vals = ([] : VL) ∧ ents = [eL ca ci, eC (L + 1) (some (.ref ta)), eC (L + 2) (some (.int room t2)), eC (L + 3) (some (.ref ca)), eC (L + 4) vb] ∧ IntsAre ci.toList (natsI ah) ∧ ah.length = i + 1 ∧ AhOk l room ah) hA'.hd (range2_ev (Gs S3') Ev.kI (lenTab_ev (Gs S3') (Ts S3') hl (Ev.cell S3'.at1))) (small_one (by omega) (by omega) (by omega) (by omega)) (by rw [size_up (by omega)]; omega) ⟨items, none, [0], rfl, rfl, hci, rfl, AhOk.start⟩ ?_ ?_)
  · rintro i vals ents e s4 t hi ⟨ci, vb, ah, rfl, rfl, hints, hlen, hok⟩ S4 Q' E' hq
    have hcs : ci.size = ah.length := by have := hints.length; simpa [natsI] using this
    refine S4.bindC (pre := [e, eL ca ci, eC (L + 1) (some (.ref ta)), eC (L + 2) (some (.int room t2)), eC (L + 3) (some (.ref ca))]) rfl fun s5 S5 => ?_
    have ei : (1 : Int) + (i : Int) * 1 = ((i + 1 : Nat) : Int) := by omega
    rw [ei] at S5
    have S5' : St s [] L [] [e, eL ca ci, eC (L + 1) (some (.ref ta)), eC (L + 2) (some (.int room t2)), eC (L + 3) (some (.ref ca)), eC (L + 4) (some (.int (i + 1 : Nat) t))] s5 := S5
    have c5 : s5.heap.IsCell (L + 4) (some (.int (i + 1 : Nat) t)) := S5'.own (eC (L + 4) (some (.int (i + 1 : Nat) t))) (by simp)
    refine wpAny_execs_cons (S5'.append (pre := [e]) (D := ca) (items := ci) rfl (by omega) (R := fun v _ => ∃ M t, v = .int M t ∧ ∃ n : Nat, M = ((1 + n : Nat) : Int) ∧ n ∈ candA l room ah (i + 1) (i + 1) ∧ ∀ a ∈ candA l room ah (i + 1) (i + 1), n ≤ a) (Ev.cell S5'.at4) ?_ fun v s6 s7 k6 hv S7 => ?_)
    · refine Ev.binop (R1 := rI 1) (R2 := fun v _ => ∃ M t, v = .int M t ∧ ∃ ns, ns = natsI (candA l room ah (i + 1) (i + 1)) ∧ M ∈ ns ∧ ∀ a, a ∈ ns → M ≤ a) Ev.kI (min_ev (Gs S5') hA'.hd ?_) monoI ?_
      · refine Ev.weak (Ev.comp (n := i + 1) (P := fun k v => ∃ t, v = .int (0 + k * 1) t) (R := rRange 0 (i + 1 : Nat) 1) (cl := [("table", L + 1), ("room", L + 2), ("end", L + 4), ("ahead", L + 3)]) (fun k ys _ => IntsAre ys.toList (natsI (candA l room ah (i + 1) k))) ?_ ?_ ?_ .nil) ?_
        · exact range1_ev (Gs S5') (Ev.asI (Ev.cell c5))
        · exact fun v s6 k6 hv => Its.range hA'.hd hv (small_one (by omega) (by omega) (by omega) (by omega)) (by rw [size_up (by omega)]; omega)
        · intro C D k ys ents e' s6 v hk hJ hv S6
          obtain ⟨t6, rfl⟩ := hv
          have ek : (0 : Int) + (k : Int) * 1 = (k : Int) := by omega
          rw [ek] at S6
          have G6 := (Gs S5').keeps S6.out.heap
          have T6 := monoTab _ _ _ S6.out.heap (Ts S5')
          have hys : ys.size ≤ k := by have := hJ.length; have h2 := candA_len (l := l) (room := room) ah (i + 1) k; simp [natsI] at this; omega
          refine ⟨decide (wd l k (i + 1) ≤ room), Ev.tst1 ?_, fun hok' => ⟨by omega, ?_⟩, fun hno => ?_⟩
          · have e1 : ((wd l k (i + 1) : Nat) : Int) = ((T (qd ((l.drop k).take (i + 1 - k)))).length : Int) := by unfold wd; show _ = (((qd _).toArray.size : Nat) : Int); simp
            have e2 : (decide (wd l k (i + 1) ≤ room)) = decide (((wd l k (i + 1) : Nat) : Int) ≤ (room : Int)) := by simp
            rw [e2, e1]
            have hlq := beg_len ((l.drop k).take (i + 1 - k)) 10
            have hlt2 : ((l.drop k).take (i + 1 - k)).length ≤ 1000 := by rw [List.length_take, List.length_drop]; omega
            have e3 : ((i + 1 : Nat) : Int) - (k : Int) = ((i + 1 - k : Nat) : Int) := by omega
            refine Ev.tLe (len_ev G6 (tab_ev (i := k) (k := i + 1 - k) T6 (Ev.cell (S5'.at2.keeps S6.out.heap)) (Ev.asI (S6.v (by rfl))) (by rw [← e3]; exact Ev.sub (Ev.asI (Ev.cell (c5.keeps S6.out.heap))) (Ev.asI (S6.v (by rfl)))) (by omega) (by omega) hl) (by show (qd _).toArray.size < _; unfold qd; simp; omega)) (Ev.asI (Ev.cell (S5'.at3.keeps S6.out.heap)))
          · obtain ⟨tk, hkx⟩ := intsAre_get hints (natsI_get (l := ah) (k := k) (by omega))
            refine (Ev.at_ (items := ci) (Ev.cell (S5'.at4.keeps S6.out.heap)) (Heap.PlainList.isList (S5'.at1.at fun o q => S6.out.heap _ o q)) (Ev.asI (S6.v (by rfl))) (by simpa using hkx) (by omega)).weak fun v h hv => ?_
            cases (hv : v = _)
            refine ⟨eU, ?_, trivial, by simp [eU]⟩
            show IntsAre _ (natsI (candA l room ah (i + 1) (k + 1)))
            rw [candA_succ, if_pos (by simpa using hok'), Array.toList_push, natsI, List.map_append]
            exact intsAre_snoc hJ _ _
          · show IntsAre _ (natsI (candA l room ah (i + 1) (k + 1)))
            rw [candA_succ, if_neg (by simpa using hno)]; exact hJ
        · intro v h hv
          exact new_list (comp_list hv fun ys _ hJ => ⟨_, hJ, by
            intro h0
            have := candA_ne (l := l) hr (ah := ah) (e := i + 1) (by omega)
            exact this (by simpa [natsI] using h0), rfl⟩)
      · intro v1 v2 s6 k6 r1 r2 s7 k7 Q'' E'' hQ''
        obtain ⟨u1, rfl⟩ := r1
        obtain ⟨M, u2, rfl, ns, rfl, hM1, hM2⟩ := r2
        obtain ⟨n, hn1, rfl⟩ := mem_natsI hM1
        refine add_int (hQ'' _ _ (Kps.tok _ _) ⟨_, _, rfl, n, by omega, hn1, fun a ha => ?_⟩)
        have := hM2 a (natsI_mem ha)
        omega
    · obtain ⟨M, t7, rfl, n, rfl, hn1, hn2⟩ := hv
      refine wpAny_execs_nil (hq _ _ s7 ⟨ci.push (.int (1 + n : Nat) t7), some (.int (i + 1 : Nat) t), ah ++ [1 + n], rfl, rfl, ?_, by simp [hlen], ?_⟩ S7)
      · rw [Array.toList_push, natsI, List.map_append]
        exact intsAre_snoc hints _ _
      · exact hok.step (by rw [hlen]; exact hn1) (by rw [hlen]; exact hn2)
  · rintro vals ents s4 ⟨ci, vb, ah, rfl, rfl, hints, hlen, hok⟩ S4
    refine wpAny_execs_cons (wpAny_Return_some ((Ev.cell S4.at3).go fun v s5 k5 hv => ?_))
    cases (hv : v = _)
    have S5 := S4.kps k5
    exact ⟨_, rfl, hQ _ _ S5.out ⟨ca, ci, rfl, hcb, S5.at0, ah, hints, hlen, hok⟩⟩
end
end Mine

end

/- Ls2 -/
section
open PySem PySem.Calls PyProof.Rows
namespace Mine
set_option maxRecDepth 100000
set_option linter.unusedVariables false

/-- a plain list that stands -/
abbrev rPlain (P : Array Value → Prop) (v : Value) (h : Heap) : Prop := ∃ a items, v = .ref a ∧ h.PlainList a items ∧ P items
theorem monoPlain {P : Array Value → Prop} : ∀ v h h', Kp h h' → rPlain P v h → rPlain P v h' := fun v h h' k ⟨a, its, e, p, q⟩ => ⟨a, its, e, p.at fun o e => k _ o e, q⟩
theorem new_plain {b : Shared} {P : Array Value → Prop} {v : Value} {h : Heap} (x : rNew b P v h) : rPlain P v h := let ⟨a, its, e, _, p, q⟩ := x; ⟨a, its, e, p, q⟩

section
variable {prog : Program} {w : World} {A : Around} {b : Shared} {env : Env}

/-- list + list -/
theorem Ev.catL {l r : Expr} {pos : Pos} {P1 P2 : Array Value → Prop} (h1 : Ev (model prog w) A b (eval l env) (rPlain P1)) (h2 : Ev (model prog w) A b (eval r env) (rPlain P2)) (hsz : ∀ x y, P1 x → P2 y → x.size + y.size ≤ 1000000) :
    Ev (model prog w) A b (eval (.BinOp l .Add r pos) env) (rNew b fun its => ∃ x y, P1 x ∧ P2 y ∧ its = x ++ y) :=
  Ev.binop h1 h2 monoPlain fun v1 v2 s ks r1 r2 s' ks' Q E hQ => by
    obtain ⟨a, x, rfl, p1, q1⟩ := r1
    obtain ⟨c, y, rfl, p2, q2⟩ := r2
    obtain ⟨n1, e1⟩ := p1
    obtain ⟨n2, e2⟩ := p2
    refine P.add_list (ks'.heap _ _ e1) (ks'.heap _ _ e2) ?_ (by have := hsz x y q1 q2; unfold sizeLine; omega)
    exact hQ _ { s' with heap := s'.heap.push { cls := .type "list", data := .seq (x ++ y) } } (Kps.push s' _ s'.toks) ⟨_, _, rfl, fresh_size (ks.trans ks'), ⟨0, Heap.get?_push_size _ rfl⟩, x, y, q1, q2, rfl⟩

/-- ints of two lists, compared -/
theorem Ev.tNeL {l r : Expr} {pos : Pos} {whole : Sem Value} {ns ms : List Int} (hu : A.units + 64 < cLine) (h1 : Ev (model prog w) A b (eval l env) (rList fun its => IntsAre its.toList ns)) (h2 : Ev (model prog w) A b (eval r env) (rList fun its => IntsAre its.toList ms)) (hm : behindInMarks .NotEq r = false := by rfl) :
    Ev (model prog w) A b (isTrue (.Compare l [.NotEq] [r] pos) env whole) (rB (!decide (ns = ms))) :=
  Ev.test h1 h2 monoList (fun v1 v2 s ks r1 r2 s' ks' Q E hQ => by
    obtain ⟨a, x, rfl, p1, q1⟩ := r1
    obtain ⟨c, y, rfl, p2, q2⟩ := r2
    exact PySem.W.ke_ne_ints (xs := x.toList) (ys := y.toList) (by simpa using p1.at fun o e => ks'.heap _ o e) (by simpa using p2.at fun o e => ks'.heap _ o e) q1 q2 hu (hQ _ _ (Kps.refl _) rfl)) hm
theorem Ev.eqL {l r : Expr} {pos : Pos} {ns ms : List Int} (hu : A.units + 64 < cLine) (h1 : Ev (model prog w) A b (eval l env) (rList fun its => IntsAre its.toList ns)) (h2 : Ev (model prog w) A b (eval r env) (rList fun its => IntsAre its.toList ms)) (hm : behindInMarks .Eq r = false := by rfl) :
    Ev (model prog w) A b (eval (.Compare l [.Eq] [r] pos) env) (rV (.bool (decide (ns = ms)))) :=
  Ev.cmp h1 h2 monoList (fun v1 v2 s ks r1 r2 s' ks' Q E hQ => by
    obtain ⟨a, x, rfl, p1, q1⟩ := r1
    obtain ⟨c, y, rfl, p2, q2⟩ := r2
    exact PySem.W.ke_eq_ints (xs := x.toList) (ys := y.toList) (by simpa using p1.at fun o e => ks'.heap _ o e) (by simpa using p2.at fun o e => ks'.heap _ o e) q1 q2 hu (hQ _ _ (Kps.refl _) rfl)) hm
end
end Mine

end

/- F07 -/
section
open PySem PySem.Calls PyProof.Rows PySem.W
namespace Mine
set_option maxRecDepth 100000
set_option linter.unusedVariables false

section
variable {w : World} {A : Around} {b : Shared} {mg mb : Str → Option Value}

theorem range3_ev {env : Env} {e1 e2 e3 : Expr} {p pos : Pos} {i j c : Int} (G : Gd w mg mb b.heap) (h1 : Ev (model prg w) A b (eval e1 env) (rI i)) (h2 : Ev (model prg w) A b (eval e2 env) (rI j)) (h3 : Ev (model prg w) A b (eval e3 env) (rI c)) (hc : c ≠ 0) (hp : Builtin.divisionGoesByPylong (j - i) c = false) (hg : env.globals = mainGlobals := by rfl) (hb : env.builtins = builtinsNs := by rfl) (hk : env.scope.kind = .function := by rfl) (hkd : env.kindOf "range" = some .globalImplicit := by rfl)
    (hs : backTo pos (starEach [e1, e2, e3] env) = (false, eval e1 env) :: evs [e2, e3] env := by rfl) : Ev (model prg w) A b (eval (.Call (.Name "range" p) [e1, e2, e3] [] pos) env) (rRange i j c) := by
  refine Ev.callB (Rs := [rI i, rI j, rI c]) (G.blt (v := .type "range") (by kernel_rfl) (by kernel_rfl) (by decide +kernel) hg hb hk hkd (by decide +kernel)) (Ev.s3 h1 monoI h2 monoI h3 monoI) (fun vs s3 k3 hvs => ?_) (by rfl) hs (by rfl)
  obtain ⟨x1, _, rfl, q1, x2, _, rfl, q2, x3, _, rfl, q3, rfl⟩ := hvs
  exact Ev.range3 q1 q2 q3 hc hp

theorem behind_ev {l : List Nat} {room : Nat} {v1 v2 : Value} (G : Gd w mg mb b.heap) (hA : Rm A 1) (hl : l.length ≤ 1000) (hr : 2 ≤ room) (h1 : Tab l v1 b.heap) (h2 : rI room v2 b.heap) :
    Ev (model prg w) A b (call (.ref 104) [v1, v2] []) (rNew b fun its => ∃ bh, IntsAre its.toList (natsI bh) ∧ BhOk l room l.length 0 bh) := fun s ks Q E hQ => by
  obtain ⟨ta, tits, rfl, -⟩ := id h1
  obtain ⟨t2, rfl⟩ := h2
  replace G := G.keeps ks.heap
  replace h1 := monoTab _ _ _ ks.heap h1
  refine fnC (fd := kf 104) (body := bodyOf (kf 104)) (binds := [("table", .ref ta), ("room", .int room t2)]) (G.fn 104 _ (by kernel_rfl)) G.wd.lim hA.room (by kernel_rfl) (by kernel_rfl) (BindsTo.of_eq (by kernel_rfl)) (by kernel_rfl) (by kernel_rfl) fun L s₁ hL k1 hn hc => ?_
  have hA' : Rm (A.deeper (callEnvC (kf 104) L 104)) 0 := hA.deeper
  generalize hAA : A.deeper (callEnvC (kf 104) L 104) = A' at hA'
  have S : St s [] L [] [eC (L + 1) (some (.ref ta)), eC (L + 2) (some (.int room t2)), eC (L + 3) none, eC (L + 4) none] s₁ := St.enter (X := []) (es := []) hL k1 hn (vals := []) Agree.nil [(1, some (.ref ta)), (2, some (.int room t2)), (3, none), (4, none)] (by
    intro p hp
    simp only [List.mem_cons, List.not_mem_nil, or_false] at hp
    rcases hp with rfl | rfl | rfl | rfl
    · exact hc "table" (L + 1) (by rfl)
    · exact hc "room" (L + 2) (by rfl)
    · exact hc "behind" (L + 3) (by rfl)
    · exact hc "begin" (L + 4) (by rfl)) (by simp) (by simp) (by simp) (by simp) .nil (by simp)
  have Gs : ∀ {s' vals ents}, St s [] L vals ents s' → Gd w mg mb s'.heap := fun S' => G.keeps S'.out.heap
  have Ts : ∀ {s' vals ents}, St s [] L vals ents s' → Tab l (.ref ta) s'.heap := fun S' => monoTab _ _ _ S'.out.heap h1
  refine wpAny_execs_cons (S.assignCL (pre := [eC (L + 1) (some (.ref ta)), eC (L + 2) (some (.int room t2))]) rfl (P := fun its => IntsAre its.toList (natsI [0])) (Ev.disp (Rs := [rI 0]) ?_ ?_) fun ca items s3 hci hcn S3 => ?_)
  · exact Ev.s1 Ev.kI monoI
  · intro vs h hvs
    obtain ⟨x1, _, rfl, ⟨u, rfl⟩, rfl⟩ := hvs
    exact ⟨by simp, .cons _ _ .nil⟩
  have S3' : St s [] L [] [eL ca items, eC (L + 1) (some (.ref ta)), eC (L + 2) (some (.int room t2)), eC (L + 3) (some (.ref ca)), eC (L + 4) none] s3 := S3
  refine wpAny_execs_cons (S3'.forRange (n := l.length) (a := ((l.length + 1 : Nat) : Int) - 2) (b := -1) (c := -1) (fun i vals ents => ∃ ca ci vb bh, vals = ([] : VL) ∧ ents = [eL ca ci, eC (L + 1) (some (.ref ta)), eC (L + 2) (some (.int room t2)), eC (L + 3) (some (.ref ca)), eC (L + 4) vb] ∧ IntsAre ci.toList (natsI bh) ∧ i ≤ l.length ∧ BhOk l room l.length (l.length - i) bh) hA'.hd (range3_ev (Gs S3') (Ev.sub (lenTab_ev (Gs S3') (Ts S3') hl (Ev.cell S3'.at1)) Ev.kI) (Ev.neg Ev.kI) (Ev.neg Ev.kI) (by decide) (short_div _ _ (by decide +kernel))) (small_down (by omega) (by omega) (by omega) (by omega)) (by rw [rangeSize_downNat]; omega) ⟨ca, items, none, [0], rfl, rfl, hci, Nat.zero_le _, BhOk.start _⟩ ?_ ?_)
  · rintro i vals ents e s4 t hi ⟨ca, ci, vb, bh, rfl, rfl, hints, hil, hok⟩ S4 Q' E' hq
    have hcs : ci.size = bh.length := by have := hints.length; simpa [natsI] using this
    have hbl := hok.len
    refine S4.bindC (pre := [e, eL ca ci, eC (L + 1) (some (.ref ta)), eC (L + 2) (some (.int room t2)), eC (L + 3) (some (.ref ca))]) rfl fun s5 S5 => ?_
    have ei : ((l.length + 1 : Nat) : Int) - 2 + (i : Int) * (-1) = ((l.length - (i + 1) : Nat) : Int) := by omega
    rw [ei] at S5
    generalize hp : l.length - (i + 1) = p at S5
    rw [show l.length - i = p + 1 by omega] at hok
    have S5' : St s [] L [] [e, eL ca ci, eC (L + 1) (some (.ref ta)), eC (L + 2) (some (.int room t2)), eC (L + 3) (some (.ref ca)), eC (L + 4) (some (.int p t))] s5 := S5
    have c5 : s5.heap.IsCell (L + 4) (some (.int p t)) := S5'.own (eC (L + 4) (some (.int p t))) (by simp)
    refine wpAny_execs_cons (S5'.assignComp (n := l.length - p) (P := fun k v => ∃ t, v = .int (((p : Int) + 1) + k * 1) t) (R := rRange ((p : Int) + 1) (l.length + 1 : Nat) 1) (cl := [("table", L + 1), ("room", L + 2), ("behind", L + 3), ("begin", L + 4)]) (fun k ys _ => IntsAre ys.toList (natsI (candB l room bh p k))) ?_ ?_ ?_ .nil fun D ys l' s6 hJ hDn S6 => ?_)
    · exact range2_ev (Gs S5') (Ev.add (Ev.asI (Ev.cell c5)) Ev.kI) (lenTab_ev (Gs S5') (Ts S5') hl (Ev.cell S5'.at2))
    · exact fun v s6 k6 hv => Its.range hA'.hd hv (small_one (by omega) (by omega) (by omega) (by omega)) (by rw [size_up (by omega)]; omega)
    · intro C D k ys ents e' s6 v hk hJ hv S6
      obtain ⟨t6, rfl⟩ := hv
      have ek : (p : Int) + 1 + (k : Int) * 1 = ((p + 1 + k : Nat) : Int) := by omega
      rw [ek] at S6
      have G6 := (Gs S5').keeps S6.out.heap
      have T6 := monoTab _ _ _ S6.out.heap (Ts S5')
      have hys : ys.size ≤ k := by have := hJ.length; have h2 := candB_len (l := l) (room := room) bh p k; simp [natsI] at this; omega
      have ep : Ev (model prg w) A' s6 (eval (.Name "begin" ⟨92, 94, 92, 99⟩) (compEnvC { kind := .function, names := [(".0", .local), ("end", .local), ("len", .globalImplicit), ("begin", .free), ("behind", .free), ("room", .free), ("table", .free)], isGenerator := false, isCoroutine := false, more := [] } [("table", L + 1), ("room", L + 2), ("behind", L + 3), ("begin", L + 4)] C (callEnvC (kf 104) L 104))) (rI p) := Ev.asI (Ev.cell (c5.keeps S6.out.heap))
      refine ⟨decide (wd l p (p + 1 + k) ≤ room), Ev.tst1 ?_, fun hok' => ⟨by omega, ?_⟩, fun hno => ?_⟩
      · have e1 : ((wd l p (p + 1 + k) : Nat) : Int) = ((T (qd ((l.drop p).take (p + 1 + k - p)))).length : Int) := by unfold wd; show _ = (((qd _).toArray.size : Nat) : Int); simp
        have e2 : (decide (wd l p (p + 1 + k) ≤ room)) = decide (((wd l p (p + 1 + k) : Nat) : Int) ≤ (room : Int)) := by simp
        rw [e2, e1]
        have hlq := beg_len ((l.drop p).take (p + 1 + k - p)) 10
        have hlt2 : ((l.drop p).take (p + 1 + k - p)).length ≤ 1000 := by rw [List.length_take, List.length_drop]; omega
        have e3 : ((p + 1 + k : Nat) : Int) - (p : Int) = ((p + 1 + k - p : Nat) : Int) := by omega
        refine Ev.tLe (len_ev G6 (tab_ev (i := p) (k := p + 1 + k - p) T6 (Ev.cell (S5'.at2.keeps S6.out.heap)) (Ev.asI (Ev.cell (c5.keeps S6.out.heap))) (by rw [← e3]; exact Ev.sub (Ev.asI (S6.v (by rfl))) (Ev.asI (Ev.cell (c5.keeps S6.out.heap)))) (by omega) (by omega) hl) (by show (qd _).toArray.size < _; unfold qd; simp; omega)) (Ev.asI (Ev.cell (S5'.at3.keeps S6.out.heap)))
      · obtain ⟨tk, hkx⟩ := intsAre_get hints (natsI_get (l := bh) (k := k) (by omega))
        have e3 : ((p + 1 + k : Nat) : Int) - (p : Int) - 1 = (k : Int) := by omega
        refine (Ev.at_ (items := ci) (k := k) (Ev.cell (S5'.at4.keeps S6.out.heap)) (Heap.PlainList.isList (S5'.at1.at fun o q => S6.out.heap _ o q)) (by rw [← e3]; exact Ev.sub (Ev.sub (Ev.asI (S6.v (by rfl))) (Ev.asI (Ev.cell (c5.keeps S6.out.heap)))) Ev.kI) (by simpa using hkx) (by omega)).weak fun v h hv => ?_
        cases (hv : v = _)
        refine ⟨eU, ?_, trivial, by simp [eU]⟩
        show IntsAre _ (natsI (candB l room bh p (k + 1)))
        rw [candB_succ, if_pos (by simpa using hok'), Array.toList_push, natsI, List.map_append]
        exact intsAre_snoc hJ _ _
      · show IntsAre _ (natsI (candB l room bh p (k + 1)))
        rw [candB_succ, if_neg (by simpa using hno)]; exact hJ
    have S6' : St s [] L [("later", .ref D)] [eL D ys, e, eL ca ci, eC (L + 1) (some (.ref ta)), eC (L + 2) (some (.int room t2)), eC (L + 3) (some (.ref ca)), eC (L + 4) (some (.int p t))] s6 := S6.sub (List.Sublist.cons_cons _ (List.sublist_append_right l' _))
    have c6 : s6.heap.IsCell (L + 3) (some (.ref ca)) := S6'.own (eC (L + 3) (some (.ref ca))) (by simp)
    refine wpAny_execs_cons (S6'.assignCL (pre := [eL D ys, e, eL ca ci, eC (L + 1) (some (.ref ta)), eC (L + 2) (some (.int room t2))]) rfl (P := fun its => ∃ x y, (∃ n : Nat, ∃ t, x = #[.int (1 + n : Nat) t] ∧ n ∈ candB l room bh p (l.length - p) ∧ ∀ a ∈ candB l room bh p (l.length - p), n ≤ a) ∧ y = ci ∧ its = x ++ y) (Ev.catL (P1 := fun x => ∃ n : Nat, ∃ t, x = #[.int (1 + n : Nat) t] ∧ n ∈ candB l room bh p (l.length - p) ∧ ∀ a ∈ candB l room bh p (l.length - p), n ≤ a) (P2 := fun y => y = ci) ?_ ?_ ?_) fun ca' its s7 hits hcan S7 => ?_)
    · refine Ev.weak (Ev.disp (P := fun x => ∃ n : Nat, ∃ t, x = #[.int (1 + n : Nat) t] ∧ n ∈ candB l room bh p (l.length - p) ∧ ∀ a ∈ candB l room bh p (l.length - p), n ≤ a) (Rs := [fun v _ => ∃ M t, v = .int M t ∧ ∃ n : Nat, M = ((1 + n : Nat) : Int) ∧ n ∈ candB l room bh p (l.length - p) ∧ ∀ a ∈ candB l room bh p (l.length - p), n ≤ a]) ?_ ?_) fun v h hv => new_plain hv
      · refine Ev.s1 (Ev.binop (R1 := rI 1) (R2 := fun v _ => ∃ M t, v = .int M t ∧ ∃ ns, ns = natsI (candB l room bh p (l.length - p)) ∧ M ∈ ns ∧ ∀ a, a ∈ ns → M ≤ a) Ev.kI (min_ev (Gs S6') hA'.hd ?_) monoI ?_) (fun _ _ _ _ r => r)
        · refine fun s7 k7 Q'' E'' hQ'' => (S6'.v (by rfl)) s7 k7 _ _ fun v s8 k8 hv => hQ'' v s8 k8 ⟨D, ys, hv, ?_, natsI (candB l room bh p (l.length - p)), hJ, ?_, rfl⟩
          · exact Heap.PlainList.isList (S6'.at0.at fun o q => (k7.trans k8).heap _ o q)
          · intro h0
            exact candB_ne (l := l) hr (bh := bh) (p := p) (i := l.length - p) (by omega) (by simpa [natsI] using h0)
        · intro v1 v2 s7 k7 r1 r2 s8 k8 Q'' E'' hQ''
          obtain ⟨u1, rfl⟩ := r1
          obtain ⟨M, u2, rfl, ns, rfl, hM1, hM2⟩ := r2
          obtain ⟨n, hn1, rfl⟩ := mem_natsI hM1
          refine add_int (hQ'' _ _ (Kps.tok _ _) ⟨_, _, rfl, n, by omega, hn1, fun a ha => ?_⟩)
          have := hM2 a (natsI_mem ha)
          omega
      · intro vs h hvs
        obtain ⟨x1, _, rfl, ⟨M, t7, rfl, n, rfl, hn1, hn2⟩, rfl⟩ := hvs
        exact ⟨by simp, n, t7, rfl, hn1, hn2⟩
    · exact fun s7 k7 Q'' E'' hQ'' => (Ev.cell c6) s7 k7 _ _ fun v s8 k8 hv => hQ'' v s8 k8 ⟨ca, ci, hv, S6'.at2.at fun o q => (k7.trans k8).heap _ o q, rfl⟩
    · rintro x y ⟨n, t7, rfl, _⟩ rfl
      simp; omega
    · obtain ⟨x, y, ⟨n, t7, rfl, hn1, hn2⟩, rfl, rfl⟩ := hits
      have S7' : St s [] L [("later", .ref D)] [eL ca' (#[.int (1 + n : Nat) t7] ++ y), eL D ys, e, eL ca y, eC (L + 1) (some (.ref ta)), eC (L + 2) (some (.int room t2)), eC (L + 3) (some (.ref ca')), eC (L + 4) (some (.int p t))] s7 := S7
      have S8 := ((((S7'.drop1).perm (List.Perm.swap _ _ _)).drop2).renam (vals' := []) fun m a => Agree.nil)
      refine wpAny_execs_nil (hq _ _ s7 ⟨ca', _, some (.int p t), (1 + n) :: bh, rfl, rfl, ?_, by omega, ?_⟩ S8)
      · rw [natsI, List.map_cons]
        simpa [natsI] using IntsAre.cons _ t7 hints
      · rw [hp]; exact hok.step hn1 hn2
  · rintro vals ents s4 ⟨ca, ci, vb, bh, rfl, rfl, hints, hil, hok⟩ S4
    refine wpAny_execs_cons (wpAny_Return_some ((Ev.cell S4.at3).go fun v s5 k5 hv => ?_))
    cases (hv : v = _)
    have S5 := S4.kps k5
    rw [Nat.sub_self] at hok
    refine ⟨_, rfl, hQ _ _ S5.out ⟨ca, ci, rfl, ?_, S5.at0, bh, hints, hok⟩⟩
    have hn := (S5.new (eL ca ci) (by simp) ca (by simp [eL])).resolve_left (by simp)
    cases q : b.heap.get? ca with
    | none => rfl
    | some o => have := ks.heap _ _ q; rw [hn] at this; cases this
end
end Mine

end

/- Ls3 -/
section
open PySem PySem.Calls PyProof.Rows PySem.W
namespace Mine
set_option maxRecDepth 100000
set_option linter.unusedVariables false

section
variable {s₀ s : Shared} {X : List Addr} {L : Addr} {vals : List (Str × Value)} {l : List Ent}

/-- one thing changes and grows, another comes -/
theorem St.moved (S : St s₀ X L vals l s) {pre post : List Ent} {e e' : Ent} (hl : l = pre ++ e :: post) {s' : Shared} (hsame : ∃ h tk, s' = { s with heap := h, toks := tk }) (hs : ∀ b o, b ∉ e.fp → s.heap.get? b = some o → s'.heap.get? b = some o)
    (hfp : ∀ a ∈ e'.fp, a ∈ e.fp ∨ s.heap.get? a = none) (hP : e'.P s'.heap) (y : Ent) (hy : y.P s'.heap) (hyn : ∀ a ∈ y.fp, s.heap.get? a = none ∧ a ∉ e'.fp) : St s₀ X L vals (y :: (pre ++ e' :: post)) s' := by
  have T := S.updG hl hsame hs hfp hP
  refine { T with own := ?_, nd := ?_, ndL := ?_, new := ?_ }
  · intro z hz
    rcases List.mem_cons.mp hz with rfl | hz
    · exact hy
    · exact T.own z hz
  · refine List.pairwise_cons.mpr ⟨fun z hz a ha ha' => ?_, T.nd⟩
    have : z = e' ∨ z ∈ l := by
      rw [hl]
      rcases List.mem_append.mp hz with h | h
      · exact .inr (List.mem_append_left _ h)
      · rcases List.mem_cons.mp h with h | h
        · exact .inl h
        · exact .inr (List.mem_append_right _ (.tail _ h))
    rcases this with rfl | hz
    · exact (hyn a ha).2 ha'
    · obtain ⟨o, q⟩ := z.has (S.own z hz) a ha'
      rw [(hyn a ha).1] at q; cases q
  · intro z hz
    rcases List.mem_cons.mp hz with rfl | hz
    · intro h
      obtain ⟨m, ⟨o, _, _, q, _⟩, _⟩ := S.ns
      rw [(hyn L h).1] at q; cases q
    · exact T.ndL z hz
  · intro z hz a ha
    rcases List.mem_cons.mp hz with rfl | hz
    · by_cases hX : a ∈ X
      · exact .inl hX
      · right
        cases q : s₀.heap.get? a with
        | none => rfl
        | some o => have := S.keep a o hX q; rw [(hyn a ha).1] at this; cases this
    · exact T.new z hz a ha
end

section
variable {M : Model} {A : Around} {s : Shared} {env : Env} {E : Value → Shared → Prop}
/-- a def of the text, called by its name, that may change what stands -/
theorem callF_wp {f : Str} {p pos : Pos} {e1 : Expr} {es : List Expr} {fa : Addr} {o : Obj} {fd : FuncData} {Rs : List (Value → Heap → Prop)} {Q : Value → Shared → Prop}
    (hf : Ev M A s (eval (.Name f p) env) (rV (.ref fa))) (ho : s.heap.get? fa = some o) (hd : o.data = .func fd)
    (ha : Ev M A s (spliced ((false, eval e1 env) :: evs es env)) (ListR Rs)) (hc : ∀ vs s', Kps s s' → ListR Rs vs s'.heap → wpAny M A (call (.ref fa) vs []) Q E s')
    (hs : backTo pos (starEach (e1 :: es) env) = (false, eval e1 env) :: evs es env := by rfl) : wpAny M A (eval (.Call (.Name f p) (e1 :: es) [] pos) env) Q E s := by
  refine wpAny_Call_Name_kw (hf.go fun v s1 k1 r1 => ?_)
  cases (r1 : v = .ref fa)
  rw [hs]
  show wpAny M A (callWith pos (.ref fa) [] ((false, eval e1 env) :: evs es env) []) Q E s1
  exact callWith_function (o := o) (fd := fd) (evalArgs_plain (ha s1 k1 _ _ fun vs s2 k2 r2 => ⟨⟨(k1.trans k2).heap _ _ ho, hd⟩, hc vs s2 (k1.trans k2) r2⟩))
end

theorem tab_no_list {P : Addr} {ln cl : Nat} {q : Str} {oc : Option Addr} {h : Heap} {a : Addr} {items : Array Value} (h1 : (eTab P ln cl q oc).P h) (h2 : h.PlainList a items) : a ∉ (eTab P ln cl q oc).fp := by
  intro ha
  obtain ⟨n, e⟩ := h2
  cases oc with
  | none =>
    simp [eTab] at ha
    subst ha
    have h1 : h.get? a = some (tabObj #[]) := h1
    rw [e] at h1; simp [tabObj] at h1
  | some c =>
    obtain ⟨h3, c₂, o, vs, t, e2, g, r, _⟩ := h1
    cases e2
    simp [eTab] at ha
    rcases ha with rfl | rfl
    · rw [e] at h3; simp [tabObj] at h3
    · rw [e] at g; cases g; simp at r

/-- two things as one -/
def eP (x y : Ent) : Ent where
  fp := x.fp ++ y.fp
  P := fun h => x.P h ∧ y.P h ∧ ∀ a ∈ x.fp, a ∉ y.fp
  loc := fun k ⟨h1, h2, h3⟩ => ⟨x.loc (fun a ha o q => k a (List.mem_append_left _ ha) o q) h1, y.loc (fun a ha o q => k a (List.mem_append_right _ ha) o q) h2, h3⟩
  has := fun ⟨h1, h2, _⟩ a ha => (List.mem_append.mp ha).elim (fun h => x.has h1 a h) fun h => y.has h2 a h

theorem intsAre_of_get {vs : List Value} {f : Nat → Int} : ∀ {n : Nat}, vs.length = n → (∀ k, k < n → ∃ t, vs[k]? = some (.int (f k) t)) → IntsAre vs ((List.range n).map f) := by
  intro n hn h
  subst hn
  induction vs generalizing f with
  | nil => exact .nil
  | cons v r ih =>
    obtain ⟨t, e⟩ := h 0 (by simp)
    simp at e; subst e
    rw [List.length_cons, List.range_succ_eq_map, List.map_cons, List.map_map]
    exact .cons _ t (ih (f := fun k => f (k + 1)) fun k hk => by simpa using h (k + 1) (by simp; omega))

theorem filter_between {a b : Nat} : ∀ {n : Nat}, b < n → a ≤ b + 1 → (List.range n).filter (fun p => decide (a ≤ p ∧ p ≤ b)) = (List.range (b + 1 - a)).map (fun k => a + k) := by
  intro n hb ha
  have e1 : List.range n = List.range' 0 a ++ (List.range' a (b + 1 - a) ++ List.range' (b + 1) (n - (b + 1))) := by
    rw [List.range_eq_range']
    have h1 : n = a + ((b + 1 - a) + (n - (b + 1))) := by omega
    conv => lhs; rw [h1]
    rw [← List.range'_append_1 (m := a), ← List.range'_append_1]
    simp [show a + (b + 1 - a) = b + 1 by omega]
  rw [e1, List.filter_append, List.filter_append]
  have f1 : (List.range' 0 a).filter (fun p => decide (a ≤ p ∧ p ≤ b)) = [] := by
    rw [List.filter_eq_nil_iff]; intro x hx; rw [List.mem_range'_1] at hx; simp; omega
  have f2 : (List.range' (b + 1) (n - (b + 1))).filter (fun p => decide (a ≤ p ∧ p ≤ b)) = [] := by
    rw [List.filter_eq_nil_iff]; intro x hx; rw [List.mem_range'_1] at hx; simp; omega
  have f3 : (List.range' a (b + 1 - a)).filter (fun p => decide (a ≤ p ∧ p ≤ b)) = List.range' a (b + 1 - a) := by
    rw [List.filter_eq_self]; intro x hx; rw [List.mem_range'_1] at hx; simp; omega
  rw [f1, f2, f3, List.range'_eq_map_range]
  simp
end Mine

end

/- F08 -/
section
open PySem PySem.Calls PyProof.Rows PySem.W
namespace Mine
set_option maxRecDepth 100000
set_option linter.unusedVariables false

abbrev tt (oF oB : Option Addr) : Ent := eP (tabF oF) (tabB oB)

theorem ints_at {its : Array Value} {F : List Nat} (h : IntsAre its.toList (natsI F)) {k : Nat} (hk : k < F.length) : ∃ t, its[k]? = some (.int (F.getD k 0 : Nat) t) := by
  obtain ⟨t, e⟩ := intsAre_get h (natsI_get hk)
  exact ⟨t, by simpa using e⟩

section
variable {w : World} {A : Around} {s : Shared} {mg mb : Str → Option Value} {E : Value → Shared → Prop}

theorem right_wp {l : List Nat} {room : Nat} {v1 v2 v3 : Value} {oF oB : Option Addr} {Q : Value → Shared → Prop} {g : Heap} (G0 : Gd w mg mb g) (hg : Kp g s.heap) (hX : ∀ a ∈ (tt oF oB).fp, g.get? a = none) (hA : Rm A 8) (hl : l.length ≤ 1000) (hr : 2 ≤ room) (hT : (tt oF oB).P s.heap) (h1 : rS (T l) v1 s.heap) (h2 : ∀ h : Heap, (∀ b o, b ∉ (tt oF oB).fp → s.heap.get? b = some o → h.get? b = some o) → Tab l v2 h) (h3 : rI room v3 s.heap)
    (hQ : ∀ s' oF' oB', (∃ h tk, s' = { s with heap := h, toks := tk }) → (∀ b o, b ∉ (tt oF oB).fp → s.heap.get? b = some o → s'.heap.get? b = some o) → (∀ a ∈ (tt oF' oB').fp, a ∈ (tt oF oB).fp ∨ s.heap.get? a = none) → (tt oF' oB').P s'.heap → Q (.bool true) s') :
    wpAny (model prg w) A (call (.ref 109) [v1, v2, v3] []) Q E s := by
  have G := G0.keeps hg
  obtain ⟨t1, rfl⟩ := h1
  obtain ⟨ta, tits, rfl, -⟩ := h2 s.heap fun b o _ e => e
  obtain ⟨t3, rfl⟩ := h3
  refine fnC (fd := kf 109) (body := bodyOf (kf 109)) (binds := [("text", .str (T l) t1), ("table", .ref ta), ("room", .int room t3)]) (G.fn 109 _ (by kernel_rfl)) G.wd.lim hA.room (by kernel_rfl) (by kernel_rfl) (BindsTo.of_eq (by kernel_rfl)) (by kernel_rfl) (by kernel_rfl) fun L s₁ hL k1 hn hc => ?_
  have hA' : Rm (A.deeper (callEnvC (kf 109) L 109)) 7 := hA.deeper
  generalize hAA : A.deeper (callEnvC (kf 109) L 109) = A' at hA'
  have S : St s (tt oF oB).fp L [("text", .str (T l) t1), ("table", .ref ta), ("room", .int room t3)] [eC (L + 1) none, eC (L + 2) none, eC (L + 3) none, eC (L + 4) none, tabF oF, tabB oB] s₁ := St.enter (X := (tt oF oB).fp) (es := [tabF oF, tabB oB]) hL k1 hn (vals := [("text", .str (T l) t1), ("table", .ref ta), ("room", .int room t3)]) (.cons (by rfl) (.cons (by rfl) (.cons (by rfl) .nil))) [(1, none), (2, none), (3, none), (4, none)] (by
    intro p hp
    simp only [List.mem_cons, List.not_mem_nil, or_false] at hp
    rcases hp with rfl | rfl | rfl | rfl
    · exact hc "ahead" (L + 1) (by rfl)
    · exact hc "behind" (L + 2) (by rfl)
    · exact hc "fewest" (L + 3) (by rfl)
    · exact hc "k" (L + 4) (by rfl)) (by simp) (by simp) (fun a ha => by obtain ⟨o, q⟩ := (tt oF oB).has hT a ha; exact Heap.lt_size q) (by
      intro e he
      simp only [List.mem_cons, List.not_mem_nil, or_false] at he
      rcases he with rfl | rfl
      · exact hT.1
      · exact hT.2.1) (by
      refine List.pairwise_cons.mpr ⟨fun e he => ?_, List.pairwise_singleton _ _⟩
      simp only [List.mem_cons, List.not_mem_nil, or_false] at he
      subst he
      exact hT.2.2) (by
      intro e he a ha
      simp only [List.mem_cons, List.not_mem_nil, or_false] at he
      rcases he with rfl | rfl
      · exact List.mem_append_left _ ha
      · exact List.mem_append_right _ ha)
  have gk : ∀ {s' vals ents}, St s (tt oF oB).fp L vals ents s' → Kp g s'.heap := fun S' b o e => S'.keep b o (fun h => by rw [hX b h] at e; cases e) (hg b o e)
  have Gs : ∀ {s' vals ents}, St s (tt oF oB).fp L vals ents s' → Gd w mg mb s'.heap := fun S' => G0.keeps (gk S')
  have Ts : ∀ {s' vals ents}, St s (tt oF oB).fp L vals ents s' → Tab l (.ref ta) s'.heap := fun S' => h2 _ S'.keep
  have eT : (T l).length = l.length := by show (T l).cps.size = _; simp
  -- front
  refine wpAny_execs_cons (wpAny_Assign_Name (callF_wp (Rs := [rV (.str (T l) t1), rV (.int room t3)]) (Ev.glob (Gs S).wd ((Gs S).mgl "_law_front" (some (.ref 87)) (by kernel_rfl))) ((Gs S).at 87 (by kernel_rfl)) (fd := kf 87) (by kernel_rfl) (Ev.s2 (S.v (by rfl)) monoV (S.v (by rfl)) monoV) fun vs s2 k2 hvs => ?_) (by rfl))
  obtain ⟨x1, _, rfl, rfl, x2, _, rfl, rfl, rfl⟩ := hvs
  have S2 := S.kps k2
  refine front_wp (oc := oF) G0 (gk S2) (fun a ha => hX a (List.mem_append_left _ ha)) (hA'.less (by omega)) hl hr S2.at4 ⟨t1, rfl⟩ ⟨t3, rfl⟩ fun fa fits s3 oF' mv hfn hfl hfi hft => ?_
  have S3 : St s (tt oF oB).fp L _ [eL fa fits, eC (L + 1) none, eC (L + 2) none, eC (L + 3) none, eC (L + 4) none, tabF oF', tabB oB] s3 := S2.moved (pre := [eC (L + 1) none, eC (L + 2) none, eC (L + 3) none, eC (L + 4) none]) (post := [tabB oB]) (e := tabF oF) (e' := tabF oF') rfl mv.same mv.keep mv.grow hft (eL fa fits) hfl (by
    intro a ha
    simp [eL] at ha; subst ha
    exact ⟨hfn, tab_no_list hft hfl⟩)
  refine S3.store fun s4 S4 _ => ?_
  -- back
  have tB4 : (tabB oB).P s4.heap := S4.own (tabB oB) (by simp)
  refine wpAny_execs_cons (wpAny_Assign_Name (callF_wp (Rs := [rV (.str (T l) t1), rV (.int room t3)]) (Ev.glob (Gs S4).wd ((Gs S4).mgl "_law_back" (some (.ref 94)) (by kernel_rfl))) ((Gs S4).at 94 (by kernel_rfl)) (fd := kf 94) (by kernel_rfl) (Ev.s2 (S4.v (by rfl)) monoV (S4.v (by rfl)) monoV) fun vs s5 k5 hvs => ?_) (by rfl))
  obtain ⟨x1, _, rfl, rfl, x2, _, rfl, rfl, rfl⟩ := hvs
  have S5 := S4.kps k5
  refine back_wp (oc := oB) G0 (gk S5) (fun a ha => hX a (List.mem_append_right _ ha)) (hA'.less (by omega)) hl hr (S5.own (tabB oB) (by simp)) ⟨t1, rfl⟩ ⟨t3, rfl⟩ fun ba bits s6 oB' mv6 hbn hbl hbi hbt => ?_
  have S6 : St s (tt oF oB).fp L [("front", .ref fa), ("text", .str (T l) t1), ("table", .ref ta), ("room", .int room t3)] [eL ba bits, eL fa fits, eC (L + 1) none, eC (L + 2) none, eC (L + 3) none, eC (L + 4) none, tabF oF', tabB oB'] s6 := S5.moved (pre := [eL fa fits, eC (L + 1) none, eC (L + 2) none, eC (L + 3) none, eC (L + 4) none, tabF oF']) (post := []) (e := tabB oB) (e' := tabB oB') rfl mv6.same mv6.keep mv6.grow hbt (eL ba bits) hbl (by
    intro a ha
    simp [eL] at ha; subst ha
    exact ⟨hbn, tab_no_list hbt hbl⟩)
  refine S6.store fun s7 S7 _ => ?_
  -- ahead
  refine wpAny_execs_cons (S7.assignCL (pre := [eL ba bits, eL fa fits]) rfl (P := fun its => ∃ ah, IntsAre its.toList (natsI ah) ∧ ah.length = l.length + 1 ∧ AhOk l room ah) (Ev.callF (Rs := [rV (.ref ta), rV (.int room t3)]) (Ev.glob (Gs S7).wd ((Gs S7).mgl "_law_ahead" (some (.ref 99)) (by kernel_rfl))) ((Gs S7).at 99 (by kernel_rfl)) (fd := kf 99) (by kernel_rfl) (Ev.s2 (S7.v (by rfl)) monoV (S7.v (by rfl)) monoV) fun vs s8 k8 hvs => ?_) fun aa aits s8 hah han S8 => ?_)
  · obtain ⟨x1, _, rfl, rfl, x2, _, rfl, rfl, rfl⟩ := hvs
    exact (ahead_ev (Gs (S7.kps k8)) (hA'.less (by omega)) hl hr (Ts (S7.kps k8)) ⟨t3, rfl⟩).nb k8
  obtain ⟨ah, hai, halen, haok⟩ := hah
  have S8' : St s (tt oF oB).fp L [("back", .ref ba), ("front", .ref fa), ("text", .str (T l) t1), ("table", .ref ta), ("room", .int room t3)] [eL aa aits, eL ba bits, eL fa fits, eC (L + 1) (some (.ref aa)), eC (L + 2) none, eC (L + 3) none, eC (L + 4) none, tabF oF', tabB oB'] s8 := S8
  -- behind
  refine wpAny_execs_cons (S8'.assignCL (pre := [eL aa aits, eL ba bits, eL fa fits, eC (L + 1) (some (.ref aa))]) rfl (P := fun its => ∃ bh, IntsAre its.toList (natsI bh) ∧ BhOk l room l.length 0 bh) (Ev.callF (Rs := [rV (.ref ta), rV (.int room t3)]) (Ev.glob (Gs S8').wd ((Gs S8').mgl "_law_behind" (some (.ref 104)) (by kernel_rfl))) ((Gs S8').at 104 (by kernel_rfl)) (fd := kf 104) (by kernel_rfl) (Ev.s2 (S8'.v (by rfl)) monoV (S8'.v (by rfl)) monoV) fun vs s9 k9 hvs => ?_) fun na nits s9 hbh hnn S9 => ?_)
  · obtain ⟨x1, _, rfl, rfl, x2, _, rfl, rfl, rfl⟩ := hvs
    exact (behind_ev (Gs (S8'.kps k9)) (hA'.less (by omega)) hl hr (Ts (S8'.kps k9)) ⟨t3, rfl⟩).nb k9
  obtain ⟨bh, hni, hbok⟩ := hbh
  have S9' : St s (tt oF oB).fp L [("back", .ref ba), ("front", .ref fa), ("text", .str (T l) t1), ("table", .ref ta), ("room", .int room t3)] [eL na nits, eL aa aits, eL ba bits, eL fa fits, eC (L + 1) (some (.ref aa)), eC (L + 2) (some (.ref na)), eC (L + 3) none, eC (L + 4) none, tabF oF', tabB oB'] s9 := S9
  -- what the four lists are
  have fok := cutsF_fok (l := l) hr
  have bok := cutsB_bok (l := l) hr
  have cF := cutsF_facts (l := l) hr (l.length + 1)
  generalize hF : cutsF l room (l.length + 1) = F at hfi fok cF
  generalize hB : cutsB l room (l.length + 1) = B at hbi bok
  obtain ⟨fl, bl, hk⟩ := cuts_law hr fok bok haok halen hbok
  have fle := fok.le
  obtain ⟨tm, hm⟩ := ints_at hai (k := l.length) (by omega)
  generalize hmm : ah.getD l.length 0 = m at fl bl hk hm
  have has : aits.size = l.length + 1 := by have := hai.length; simp [natsI] at this; omega
  have hfs : fits.size = m + 1 := by have := hfi.length; simp [natsI] at this; omega
  have hbs : bits.size = m + 1 := by have := hbi.length; simp [natsI] at this; omega
  have hml : m ≤ 1001 := by omega
  -- fewest
  have c9 : s9.heap.IsCell (L + 1) (some (.ref aa)) := S9'.at4
  refine wpAny_execs_cons (S9'.assignC (pre := [eL na nits, eL aa aits, eL ba bits, eL fa fits, eC (L + 1) (some (.ref aa)), eC (L + 2) (some (.ref na))]) rfl (R := rV (.int m tm)) (Ev.item (R1 := rV (.ref aa)) (R2 := rI (-1)) (Ev.cell c9) (Ev.neg Ev.kI) monoV ?_) fun v s10 s11 k10 hv S11 => ?_)
  · intro v1 v2 s10 k10 r1 r2
    exact Ev.itemLneg r1 ((Heap.PlainList.isList (S9'.kps k10).at1)) r2 (by decide) (by decide) (by omega) (by rw [show (-1 + (aits.size : Int)).toNat = l.length by omega]; exact hm) (fun t => by rfl)
  cases (hv : v = _)
  have S11' : St s (tt oF oB).fp L [("back", .ref ba), ("front", .ref fa), ("text", .str (T l) t1), ("table", .ref ta), ("room", .int room t3)] [eL na nits, eL aa aits, eL ba bits, eL fa fits, eC (L + 1) (some (.ref aa)), eC (L + 2) (some (.ref na)), eC (L + 3) (some (.int m tm)), eC (L + 4) none, tabF oF', tabB oB'] s11 := S11
  have c11 : s11.heap.IsCell (L + 3) (some (.int m tm)) := S11'.own (eC (L + 3) (some (.int m tm))) (by simp)
  have lenAt : ∀ {s' vals ents} {x : Str} {p p2 p3 : Pos} {a : Addr} {its : Array Value}, St s (tt oF oB).fp L vals ents s' → vals.lookup x = some (.ref a) → (callEnvC (kf 109) L 109).kindOf x = some .local → (x == ("__debug__" : Str)) = false → s'.heap.PlainList a its → its.size = m + 1 →
      Ev (model prg w) A' s' (eval (.Call (.Name "len" p) [.Name x p2] [] p3) (callEnvC (kf 109) L 109)) (rI (m + 1 : Nat)) := fun {s' vals ents x p p2 p3 a its} S' hx hkx hdx hpl hsz =>
    lenL_ev (P := fun its => its.size = m + 1) (Gs S') (fun s2 k2 Q E hQ => (S'.v hx rfl rfl hkx hdx) s2 k2 _ _ fun v s3 k3 hv => hQ v s3 k3 ⟨a, its, hv, Heap.PlainList.isList (hpl.at fun o q => (k2.trans k3).heap _ o q), hsz⟩) (fun _ h => h) (by omega)
  refine wpAny_execs_cons (wpAny_If ((Ev.or2 (c := false) (d := false) ?_ (fun _ => ?_)).go fun c s12 k12 hc12 => ?_))
  · have := Ev.tNe (env := callEnvC (kf 109) L 109) (pos := ⟨101, 7, 101, 31⟩) (whole := eval (.Compare (.Call (.Name "len" ⟨101, 7, 101, 10⟩) [.Name "front" ⟨101, 11, 101, 16⟩] [] ⟨101, 7, 101, 17⟩) [.NotEq] [.BinOp (.Name "fewest" ⟨101, 21, 101, 27⟩) .Add (.Constant (.int 1) 0 ⟨101, 30, 101, 31⟩) ⟨101, 21, 101, 31⟩] ⟨101, 7, 101, 31⟩) (callEnvC (kf 109) L 109)) (lenAt (p := ⟨101, 7, 101, 10⟩) (p2 := ⟨101, 11, 101, 16⟩) (p3 := ⟨101, 7, 101, 17⟩) S11' (x := "front") (by rfl) (by rfl) (by decide +kernel) S11'.at3 hfs) (Ev.add (pos := ⟨101, 21, 101, 31⟩) (Ev.asI (Ev.cell (x := "fewest") (pos := ⟨101, 21, 101, 27⟩) c11)) (Ev.kI (i := 1) (k := 0) (pos := ⟨101, 30, 101, 31⟩)))
    have e0 : (((m + 1 : Nat) : Int) != (m : Int) + 1) = false := by simp
    rw [e0] at this
    exact this
  · have := Ev.tNe (env := callEnvC (kf 109) L 109) (pos := ⟨101, 35, 101, 58⟩) (whole := eval (.Compare (.Call (.Name "len" ⟨101, 35, 101, 38⟩) [.Name "back" ⟨101, 39, 101, 43⟩] [] ⟨101, 35, 101, 44⟩) [.NotEq] [.BinOp (.Name "fewest" ⟨101, 48, 101, 54⟩) .Add (.Constant (.int 1) 0 ⟨101, 57, 101, 58⟩) ⟨101, 48, 101, 58⟩] ⟨101, 35, 101, 58⟩) (callEnvC (kf 109) L 109)) (lenAt (p := ⟨101, 35, 101, 38⟩) (p2 := ⟨101, 39, 101, 43⟩) (p3 := ⟨101, 35, 101, 44⟩) S11' (x := "back") (by rfl) (by rfl) (by decide +kernel) S11'.at2 hbs) (Ev.add (pos := ⟨101, 48, 101, 58⟩) (Ev.asI (Ev.cell (x := "fewest") (pos := ⟨101, 48, 101, 54⟩) c11)) (Ev.kI (i := 1) (k := 0) (pos := ⟨101, 57, 101, 58⟩)))
    have e0 : (((m + 1 : Nat) : Int) != (m : Int) + 1) = false := by simp
    rw [e0] at this
    exact this
  cases (hc12 : c = _)
  rw [if_neg (by decide)]
  refine wpAny_execs_nil ?_
  have S12 := S11'.kps k12
  have J : ∀ vb, ∃ ents : List Ent, ents = [eL na nits, eL aa aits, eL ba bits, eL fa fits, eC (L + 1) (some (.ref aa)), eC (L + 2) (some (.ref na)), eC (L + 3) (some (.int m tm)), eC (L + 4) vb, tabF oF', tabB oB'] := fun vb => ⟨_, rfl⟩
  -- the ways
  refine wpAny_execs_cons (S12.forRange (n := m + 1) (a := 0) (b := (m + 1 : Nat)) (c := 1) (fun i vals ents => ∃ vb, vals = ([("back", .ref ba), ("front", .ref fa), ("text", .str (T l) t1), ("table", .ref ta), ("room", .int room t3)] : VL) ∧ ents = [eL na nits, eL aa aits, eL ba bits, eL fa fits, eC (L + 1) (some (.ref aa)), eC (L + 2) (some (.ref na)), eC (L + 3) (some (.int m tm)), eC (L + 4) vb, tabF oF', tabB oB']) hA'.hd (range1_ev (Gs S12) (Ev.add (Ev.asI (Ev.cell (c11.keeps k12.heap))) Ev.kI)) (small_one (by omega) (by omega) (by omega) (by omega)) (by rw [size_up (by omega)]; omega) ⟨none, rfl, rfl⟩ ?_ ?_)
  · rintro k vals ents e s13 t hkm ⟨vb, rfl, rfl⟩ S13 Q' E' hq
    refine S13.bindC (pre := [e, eL na nits, eL aa aits, eL ba bits, eL fa fits, eC (L + 1) (some (.ref aa)), eC (L + 2) (some (.ref na)), eC (L + 3) (some (.int m tm))]) rfl fun s14 S14 => ?_
    have ek : (0 : Int) + (k : Int) * 1 = (k : Int) := by omega
    rw [ek] at S14
    have S14' : St s (tt oF oB).fp L [("back", .ref ba), ("front", .ref fa), ("text", .str (T l) t1), ("table", .ref ta), ("room", .int room t3)] [e, eL na nits, eL aa aits, eL ba bits, eL fa fits, eC (L + 1) (some (.ref aa)), eC (L + 2) (some (.ref na)), eC (L + 3) (some (.int m tm)), eC (L + 4) (some (.int k t)), tabF oF', tabB oB'] s14 := S14
    have d1 : s14.heap.IsCell (L + 1) (some (.ref aa)) := S14'.own (eC (L + 1) (some (.ref aa))) (by simp)
    have d2 : s14.heap.IsCell (L + 2) (some (.ref na)) := S14'.own (eC (L + 2) (some (.ref na))) (by simp)
    have d3 : s14.heap.IsCell (L + 3) (some (.int m tm)) := S14'.own (eC (L + 3) (some (.int m tm))) (by simp)
    have d4 : s14.heap.IsCell (L + 4) (some (.int k t)) := S14'.own (eC (L + 4) (some (.int k t))) (by simp)
    obtain ⟨hbf, hway⟩ := hk k (by omega)
    refine wpAny_execs_cons (S14'.assignComp (n := l.length + 1) (P := fun j v => ∃ t, v = .int (0 + j * 1) t) (R := rRange 0 (l.length + 1 : Nat) 1) (cl := [("k", L + 4), ("fewest", L + 3), ("behind", L + 2), ("ahead", L + 1)]) (fun j ys _ => IntsAre ys.toList (natsI ((List.range j).filter fun p => decide (ah.getD p 0 = k ∧ bh.getD p 0 + k = m)))) ?_ ?_ ?_ .nil fun D ys l' s15 hJ hDn S15 => ?_)
    · exact range1_ev (Gs S14') (lenTab_ev (Gs S14') (Ts S14') hl (S14'.v (by rfl)))
    · exact fun v s15 k15 hv => Its.range hA'.hd hv (small_one (by omega) (by omega) (by omega) (by omega)) (by rw [size_up (by omega)]; omega)
    · intro C D j ys ents e' s15 v hj hJ hv S15
      obtain ⟨t15, rfl⟩ := hv
      have ej : (0 : Int) + (j : Int) * 1 = (j : Int) := by omega
      rw [ej] at S15
      have kk := S15.out.heap
      have hys : ys.size ≤ j := by
        have := hJ.length
        have h2 : ((List.range j).filter fun p => decide (ah.getD p 0 = k ∧ bh.getD p 0 + k = m)).length ≤ j := Nat.le_trans (List.length_filter_le _ _) (by simp)
        simp only [natsI, List.length_map, Array.length_toList] at this; omega
      obtain ⟨tj, hj1⟩ := ints_at hai (k := j) (by omega)
      obtain ⟨tn, hj2⟩ := ints_at hni (k := j) (by have := hbok.len; omega)
      refine ⟨decide (ah.getD j 0 = k ∧ bh.getD j 0 + k = m), Ev.tst1 ?_, fun hok' => ⟨by omega, ?_⟩, fun hno => ?_⟩
      · have e0 : decide (ah.getD j 0 = k ∧ bh.getD j 0 + k = m) = ((((ah.getD j 0 : Nat) : Int) == (k : Int)) && (((bh.getD j 0 : Nat) : Int) == (m : Int) - (k : Int))) := by
          rw [Bool.eq_iff_iff, decide_eq_true_eq, Bool.and_eq_true, beq_iff_eq, beq_iff_eq]
          constructor <;> intro ⟨h1, h2⟩ <;> exact ⟨by omega, by omega⟩
        rw [e0]
        refine Ev.and2 ?_ fun _ => ?_
        · exact Ev.tEq (Ev.asI (Ev.at_ (items := aits) (Ev.cell (d1.keeps kk)) (Heap.PlainList.isList (S14'.at2.at fun o q => kk _ o q)) (Ev.asI (S15.v (by rfl))) hj1 (by omega))) (Ev.asI (Ev.cell (d4.keeps kk)))
        · exact Ev.tEq (Ev.asI (Ev.at_ (items := nits) (Ev.cell (d2.keeps kk)) (Heap.PlainList.isList (S14'.at1.at fun o q => kk _ o q)) (Ev.asI (S15.v (by rfl))) hj2 (by omega))) (Ev.sub (Ev.asI (Ev.cell (d3.keeps kk))) (Ev.asI (Ev.cell (d4.keeps kk))))
      · refine (S15.v (by rfl)).weak fun v h hv => ?_
        cases (hv : v = _)
        refine ⟨eU, ?_, trivial, by simp [eU]⟩
        show IntsAre _ (natsI ((List.range (j + 1)).filter _))
        rw [List.range_succ, List.filter_append, List.filter_cons_of_pos (by simpa using hok'), List.filter_nil, Array.toList_push, natsI, List.map_append]
        exact intsAre_snoc hJ _ _
      · show IntsAre _ (natsI ((List.range (j + 1)).filter _))
        rw [List.range_succ, List.filter_append, List.filter_cons_of_neg (by simpa using hno), List.filter_nil, List.append_nil]
        exact hJ
    have hFk := fle k (by omega)
    have hwl : (List.range (l.length + 1)).filter (fun p => decide (ah.getD p 0 = k ∧ bh.getD p 0 + k = m)) = (List.range (F.getD k 0 + 1 - B.getD k 0)).map (fun j => B.getD k 0 + j) := by
      rw [← filter_between (a := B.getD k 0) (b := F.getD k 0) (n := l.length + 1) (by omega) (by omega)]
      refine List.filter_congr fun p hp => ?_
      have hp := List.mem_range.mp hp
      exact decide_eq_decide.mpr (hway p (by omega))
    rw [hwl] at hJ
    have S15' : St s (tt oF oB).fp L [("ways", .ref D), ("back", .ref ba), ("front", .ref fa), ("text", .str (T l) t1), ("table", .ref ta), ("room", .int room t3)] [eL D ys, e, eL na nits, eL aa aits, eL ba bits, eL fa fits, eC (L + 1) (some (.ref aa)), eC (L + 2) (some (.ref na)), eC (L + 3) (some (.int m tm)), eC (L + 4) (some (.int k t)), tabF oF', tabB oB'] s15 := S15.sub (List.Sublist.cons_cons _ (List.sublist_append_right l' _))
    have d15 : s15.heap.IsCell (L + 4) (some (.int k t)) := S15'.own (eC (L + 4) (some (.int k t))) (by simp)
    have pf : s15.heap.PlainList fa fits := S15'.own (eL fa fits) (by simp)
    obtain ⟨tf, hf1⟩ := ints_at hfi (k := k) (by omega)
    obtain ⟨tb, hb1⟩ := ints_at hbi (k := k) (by omega)
    refine wpAny_execs_cons (wpAny_If ((Ev.tNeL (ns := natsI ((List.range (F.getD k 0 + 1 - B.getD k 0)).map (fun j => B.getD k 0 + j))) (ms := (List.range (F.getD k 0 + 1 - B.getD k 0)).map (fun j : Nat => ((B.getD k 0 : Nat) : Int) + (j : Int))) (by have := hA'.un; show A'.units + 64 < _; omega) ?_ ?_).go fun c s16 k16 hc16 => ?_))
    · exact fun s16 k16 Q E hQ => (S15'.v (by rfl)) s16 k16 _ _ fun v s17 k17 hv => hQ v s17 k17 ⟨D, ys, hv, Heap.PlainList.isList (S15'.at0.at fun o q => (k16.trans k17).heap _ o q), hJ⟩
    · refine Ev.weak (listRange_ev (n := F.getD k 0 + 1 - B.getD k 0) (i := ((B.getD k 0 : Nat) : Int)) (j := ((F.getD k 0 : Nat) : Int) + 1) (Gs S15') hA'.hd (range2_ev (Gs S15') ?_ ?_) (by omega) (by omega) (by omega) (by omega)) fun v h hv => ?_
      · exact Ev.asI (Ev.at_ (items := bits) (S15'.v (by rfl)) (Heap.PlainList.isList S15'.at4) (Ev.asI (Ev.cell d15)) hb1 (by omega))
      · exact Ev.add (Ev.asI (Ev.at_ (items := fits) (S15'.v (by rfl)) (Heap.PlainList.isList pf) (Ev.asI (Ev.cell d15)) hf1 (by omega))) Ev.kI
      · obtain ⟨a, its, rfl, _, hp, h4, h5⟩ := hv
        refine ⟨a, its, rfl, Heap.PlainList.isList hp, ?_⟩
        exact intsAre_of_get (by simpa using h4) fun j hj => by obtain ⟨t, e⟩ := h5 j hj; exact ⟨t, by simpa using e⟩
    cases (hc16 : c = _)
    rw [if_neg (by
      simp only [Bool.not_eq_true', decide_eq_false_iff_not, Decidable.not_not, natsI, List.map_map]
      refine List.map_congr_left fun j _ => ?_
      simp)]
    refine wpAny_execs_nil (wpAny_execs_nil (hq _ _ s16 ⟨some (.int k t), rfl, rfl⟩ (((S15'.kps k16).drop0).renam fun m a => .cons (a.get rfl) (.cons (a.get rfl) (.cons (a.get rfl) (.cons (a.get rfl) (.cons (a.get rfl) .nil)))))))
  · rintro vals ents s13 ⟨vb, rfl, rfl⟩ S13
    have c13 : s13.heap.IsCell (L + 3) (some (.int m tm)) := S13.own (eC (L + 3) (some (.int m tm))) (by simp)
    refine wpAny_execs_cons (S13.forRange (n := m) (a := 0) (b := (m : Nat)) (c := 1) (fun i vals ents => ∃ vb, vals = ([("back", .ref ba), ("front", .ref fa), ("text", .str (T l) t1), ("table", .ref ta), ("room", .int room t3)] : VL) ∧ ents = [eL na nits, eL aa aits, eL ba bits, eL fa fits, eC (L + 1) (some (.ref aa)), eC (L + 2) (some (.ref na)), eC (L + 3) (some (.int m tm)), eC (L + 4) vb, tabF oF', tabB oB']) hA'.hd (range1_ev (Gs S13) (Ev.asI (Ev.cell c13))) (small_one (by omega) (by omega) (by omega) (by omega)) (by rw [size_up (by omega)]; omega) ⟨vb, rfl, rfl⟩ ?_ ?_)
    · rintro k vals ents e s14 t hkm ⟨vb, rfl, rfl⟩ S14 Q' E' hq
      refine S14.bindC (pre := [e, eL na nits, eL aa aits, eL ba bits, eL fa fits, eC (L + 1) (some (.ref aa)), eC (L + 2) (some (.ref na)), eC (L + 3) (some (.int m tm))]) rfl fun s15 S15 => ?_
      have ek : (0 : Int) + (k : Int) * 1 = (k : Int) := by omega
      rw [ek] at S15
      have S15' : St s (tt oF oB).fp L [("back", .ref ba), ("front", .ref fa), ("text", .str (T l) t1), ("table", .ref ta), ("room", .int room t3)] [e, eL na nits, eL aa aits, eL ba bits, eL fa fits, eC (L + 1) (some (.ref aa)), eC (L + 2) (some (.ref na)), eC (L + 3) (some (.int m tm)), eC (L + 4) (some (.int k t)), tabF oF', tabB oB'] s15 := S15
      have d4 : s15.heap.IsCell (L + 4) (some (.int k t)) := S15'.own (eC (L + 4) (some (.int k t))) (by simp)
      obtain ⟨n1, n2⟩ := fok.next k (by omega)
      have hgt := nextF_gt (room := room) hr n1
      have hle := fle (k + 1) (by omega)
      have hle0 := fle k (by omega)
      obtain ⟨tf, hf1⟩ := ints_at hfi (k := k) (by omega)
      obtain ⟨tg, hg1⟩ := ints_at hfi (k := k + 1) (by omega)
      generalize hx : F.getD k 0 = x at *
      generalize hy : F.getD (k + 1) 0 = y at *
      have fk : ∀ {p1 p2 p3 : Pos}, Ev (model prg w) A' s15 (eval (.Subscript (.Name "front" p1) (.Name "k" p2) p3) (callEnvC (kf 109) L 109)) (rI x) := fun {p1 p2 p3} => Ev.asI (Ev.at_ (items := fits) (S15'.v (by rfl)) (Heap.PlainList.isList S15'.at4) (Ev.asI (Ev.cell d4)) hf1 (by omega))
      have fk1 : ∀ {p1 p2 p3 p4 p5 : Pos}, Ev (model prg w) A' s15 (eval (.Subscript (.Name "front" p1) (.BinOp (.Name "k" p2) .Add (.Constant (.int 1) 0 p3) p4) p5) (callEnvC (kf 109) L 109)) (rI y) := fun {p1 p2 p3 p4 p5} => Ev.asI (Ev.at_ (items := fits) (k := k + 1) (S15'.v (by rfl)) (Heap.PlainList.isList S15'.at4) (Ev.add (Ev.asI (Ev.cell d4)) Ev.kI) hg1 (by omega))
      refine wpAny_execs_cons (wpAny_If ((Ev.tNeS (x := T (qd ((l.drop x).take (y - x)))) (y := T (qd ((l.drop x).take (y - x)))) ?_ ?_).go fun c s16 k16 hc16 => ?_))
      · have hlt2 : ((l.drop x).take (y - x)).length ≤ 1000 := by rw [List.length_take, List.length_drop]; omega
        refine Ev.callF (Rs := [rS (T ((l.drop x).take (y - x)))]) (Ev.glob (Gs S15').wd ((Gs S15').mgl "quotedata" (some (.ref 48)) (by kernel_rfl))) ((Gs S15').at 48 (by kernel_rfl)) (fd := kf 48) (by kernel_rfl) ?_ ?_
        · exact Ev.s1 (Ev.cut (x := T l) (l := some (x : Int)) (u := some (y : Int)) (Ev.asS (S15'.v (by rfl))) (Ev.part fk) (Ev.part fk1) (slice_mid (by omega) (by omega)) (by rw [eT]; unfold sizeLine; omega)) monoS
        · intro vs s16 k16 hvs
          obtain ⟨y1, _, rfl, r1, rfl⟩ := hvs
          exact quotedata_T ((Gs S15').keeps k16.heap) (hA'.less (by omega)) r1 (by omega)
      · have e3 : (y : Int) - (x : Int) = ((y - x : Nat) : Int) := by omega
        exact tab_ev (i := x) (k := y - x) (Ts S15') (S15'.v (by rfl)) fk (by rw [← e3]; exact Ev.sub fk1 fk) (by omega) (by omega) hl
      cases (hc16 : c = _)
      rw [if_neg (by simp)]
      exact wpAny_execs_nil (wpAny_execs_nil (hq _ _ s16 ⟨some (.int k t), rfl, rfl⟩ (S15'.kps k16)))
    · rintro vals ents s14 ⟨vb, rfl, rfl⟩ S14
      refine wpAny_execs_cons (wpAny_Return_some (Ev.kB.go fun v s15 k15 hv => ?_))
      cases (hv : v = _)
      have S15 := S14.kps k15
      have mF : tabF oF' ∈ [eL na nits, eL aa aits, eL ba bits, eL fa fits, eC (L + 1) (some (.ref aa)), eC (L + 2) (some (.ref na)), eC (L + 3) (some (.int m tm)), eC (L + 4) vb, tabF oF', tabB oB'] := by simp
      have mB : tabB oB' ∈ [eL na nits, eL aa aits, eL ba bits, eL fa fits, eC (L + 1) (some (.ref aa)), eC (L + 2) (some (.ref na)), eC (L + 3) (some (.int m tm)), eC (L + 4) vb, tabF oF', tabB oB'] := by simp
      refine ⟨_, rfl, hQ s15 oF' oB' S15.same S15.keep (fun a ha => ?_) ⟨S15.own _ mF, S15.own _ mB, ?_⟩⟩
      · rcases List.mem_append.mp ha with h | h
        · exact S15.new _ mF a h
        · exact S15.new _ mB a h
      · have : [tabF oF', tabB oB'].Pairwise (fun e e' => ∀ a ∈ e.fp, a ∉ e'.fp) := S15.nd.sublist (by
          refine (List.sublist_append_right [eL na nits, eL aa aits, eL ba bits, eL fa fits, eC (L + 1) (some (.ref aa)), eC (L + 2) (some (.ref na)), eC (L + 3) (some (.int m tm)), eC (L + 4) vb] _))
        exact (List.pairwise_cons.mp this).1 _ (by simp)
end
end Mine

end

/- Ls4 -/
section
open PySem PySem.Calls PyProof.Rows
namespace Mine
set_option maxRecDepth 100000
set_option linter.unusedVariables false

section
variable {prog : Program} {w : World} {A : Around} {b : Shared} {env : Env}

/-- a method of a text -/
theorem Ev.methS {o : Expr} {name : Str} {apos pos : Pos} {e1 : Expr} {es : List Expr} {id : String} {x : Str} {Rs : List (Value → Heap → Prop)} {R : Value → Heap → Prop}
    (ho : Ev (model prog w) A b (eval o env) (rS x)) (hsl : Slot "str" name id) (hty : typeOf (.builtin id) = pure (.type "method_descriptor"))
    (ha : Ev (model prog w) A b (spliced ((false, eval e1 env) :: evs es env)) (ListR Rs)) (hc : ∀ ov vs s, Kps b s → rS x ov s.heap → ListR Rs vs s.heap → Ev (model prog w) A s (call (.builtin id) (ov :: vs) []) R)
    (hbase : attributeBase o name env (eval o env) = eval o env := by rfl)
    (hfew : ((backTo pos (starEach (e1 :: es) env)).all (fun x => !x.1) && (backToKw pos (keywordEach [] env)).all (fun x => x.1.isSome) && decide ((e1 :: es).length + ([] : List Keyword).length + (if ([] : List Keyword).isEmpty then 0 else 1) < 30)) = true := by rfl)
    (hline : (apos.endLine == pos.line) = true := by rfl) (hs : backTo pos (starEach (e1 :: es) env) = (false, eval e1 env) :: evs es env := by rfl) (hpl : (((false, eval e1 env) :: evs es env).any (·.1)) = false := by rfl) :
    Ev (model prog w) A b (eval (.Call (.Attribute o name apos) (e1 :: es) [] pos) env) R := fun s ks Q E hQ => by
  refine wpAny_Call_method hbase hfew hline F.plainAttrs_str hsl hty (ho s ks _ _ fun v s1 k1 r1 => ?_)
  obtain ⟨t, rfl⟩ := r1
  have k := ks.trans k1
  refine ⟨typeIs_str _ _ _, fun a e => (by cases e), ?_⟩
  rw [hs]
  refine callWith_machine hpl rfl (evalArgs_plain (ha s1 k _ _ fun vs s2 k2 r2 => ?_))
  exact hc _ vs s2 (k.trans k2) ⟨t, rfl⟩ r2 s2 (Kps.refl s2) _ _ fun v s' k3 r => hQ v s' ((k1.trans k2).trans k3) r

/-- x.join(list) -/
theorem Ev.join {o e1 : Expr} {apos pos : Pos} {x : Str} {ys : List Str} (ho : Ev (model prog w) A b (eval o env) (rS x)) (ha : Ev (model prog w) A b (eval e1 env) (rList fun its => StrsAre its.toList ys)) (hsep : x.length ≤ 16) (hw : (ys.map (·.length)).sum + ys.length ≤ 1048576)
    (hbase : attributeBase o "join" env (eval o env) = eval o env := by rfl)
    (hfew : ((backTo pos (starEach [e1] env)).all (fun x => !x.1) && (backToKw pos (keywordEach [] env)).all (fun x => x.1.isSome) && decide (([e1] : List Expr).length + ([] : List Keyword).length + (if ([] : List Keyword).isEmpty then 0 else 1) < 30)) = true := by rfl)
    (hline : (apos.endLine == pos.line) = true := by rfl) (hs : backTo pos (starEach [e1] env) = (false, eval e1 env) :: evs [] env := by rfl) (hpl : (((false, eval e1 env) :: evs [] env).any (·.1)) = false := by rfl) :
    Ev (model prog w) A b (eval (.Call (.Attribute o "join" apos) [e1] [] pos) env) (rS (Txt.join x ys)) := by
  refine Ev.methS (Rs := [rList fun its => StrsAre its.toList ys]) ho F.slot_str_join F.type_str_join (Ev.s1 ha monoList) (fun ov vs s ks hov hvs => ?_) hbase hfew hline hs hpl
  obtain ⟨v, _, rfl, ⟨a, its, rfl, hl, hst⟩, rfl⟩ := hvs
  obtain ⟨t, rfl⟩ := hov
  exact fun s' k' Q E hQ => join_listW (hl.at fun o e => k'.heap _ o e) hst hsep hw fun t' k => hQ _ _ (Kps.tok _ _) ⟨t', rfl⟩

/-- list[lo:hi] -/
theorem Ev.sliceL {value : Expr} {lower upper : Option Expr} {p pos : Pos} {P : Array Value → Prop} {lo hi : Option Int} (h1 : Ev (model prog w) A b (eval value env) (rList P)) (hsz : ∀ its, P its → its.size ≤ 1000000)
    (h2 : Ev (model prog w) A b (evalPart lower env) (fun v _ => IsPart v lo)) (h3 : Ev (model prog w) A b (evalPart upper env) (fun v _ => IsPart v hi)) (ht : ∀ o r, letTemporaryGo value o r = pure () := by intro _ _; rfl) :
    Ev (model prog w) A b (eval (.Subscript value (.Slice lower upper none p) pos) env) (rNew b fun its => ∃ src, P src ∧ its = slicePick src lo hi none) := fun s ks Q E hQ => by
  refine wpAny_Subscript_list_slice (h1 s ks _ _ fun v1 s1 k1 r1 => h2 s1 (ks.trans k1) _ _ fun v2 s2 k2 r2 => h3 s2 ((ks.trans k1).trans k2) _ _ fun v3 s3 k3 r3 => ?_) ht
  obtain ⟨a, its, rfl, hl, hP⟩ := r1
  refine ⟨a, its, lo, hi, rfl, hl.at fun o e => (k2.trans k3).heap _ o e, by have := hsz its hP; unfold sizeLine; omega, r2, r3, ?_⟩
  have k4 := Kps.push s3 { cls := .type "slice", data := .fields #[v2, v3, .none] } s3.toks
  have k5 := Kps.push { s3 with heap := s3.heap.push { cls := .type "slice", data := .fields #[v2, v3, .none] } } { cls := .type "list", data := .seq (slicePick its lo hi none) } s3.toks
  have kk := ((k1.trans k2).trans k3).trans (k4.trans k5)
  refine hQ _ { s3 with heap := (s3.heap.push { cls := .type "slice", data := .fields #[v2, v3, .none] }).push { cls := .type "list", data := .seq (slicePick its lo hi none) } } kk ⟨_, _, rfl, ?_, ⟨0, ?_⟩, its, hP, rfl⟩
  · have := fresh_size (((ks.trans k1).trans k2).trans (k3.trans k4))
    rw [Heap.size_push] at this
    exact this
  · have : ((s3.heap.push { cls := .type "slice", data := .fields #[v2, v3, .none] }).push { cls := .type "list", data := .seq (slicePick its lo hi none) }).get? (s3.heap.push { cls := .type "slice", data := .fields #[v2, v3, .none] }).objs.size = some { cls := .type "list", data := .seq (slicePick its lo hi none) } := Heap.get?_push_size _ rfl
    rw [Heap.size_push] at this
    exact this
theorem Ev.pI {e : Expr} {i : Int} (h : Ev (model prog w) A b (eval e env) (rI i)) : Ev (model prog w) A b (evalPart (some e) env) (fun v _ => IsPart v (some i)) := fun s ks Q E hQ =>
  wpAny_evalPart_some (h s ks _ _ fun v s1 k1 ⟨t, e⟩ => hQ v s1 k1 (by subst e; exact .int i t))
theorem Ev.pN : Ev (model prog w) A b (evalPart none env) (fun v _ => IsPart v none) := fun s ks Q E hQ => wpAny_evalPart_none (hQ .none s (Kps.refl s) .none)

/-- the sum of a list of ints -/
theorem Ev.sumL {v : Value} {P : List Int → Prop} (hh : A.handled = none) (h : rList (fun its => ∃ ns, IntsAre its.toList ns ∧ P ns) v b.heap) :
    Ev (model prog w) A b (call (.builtin "sum") [v] []) (fun v _ => ∃ M t, v = .int M t ∧ ∃ ns, P ns ∧ M = ns.sum) := fun s ks Q E hQ => by
  obtain ⟨a, its, rfl, hl, ns, hi, hP⟩ := h
  have hl := hl.at fun o e => ks.heap _ o e
  obtain ⟨xs, e⟩ := hi.allInts.items
  have hns : ns = xs.toList.map (·.1) := by rw [← hi.numsOf, ← nums_intItems, ← e]
  have e' : its = intItems xs := by rw [← e]
  rw [e'] at hl
  refine sum_intListG hh hl fun h' tk t' hk => hQ _ _ (Kps.mk' hk) ⟨_, t', rfl, ns, hP, ?_⟩
  rw [preSum_eq, List.take_of_length_le (by simp), hns]
end

theorem intsAre_take {vs : List Value} {ns : List Int} (h : IntsAre vs ns) : ∀ k, IntsAre (vs.take k) (ns.take k) := by
  induction h with
  | nil => intro k; simp; exact .nil
  | cons n t r ih => intro k; cases k with
    | zero => simp; exact .nil
    | succ k => simp; exact .cons n t (ih k)
theorem intsAre_drop {vs : List Value} {ns : List Int} (h : IntsAre vs ns) : ∀ k, IntsAre (vs.drop k) (ns.drop k) := by
  induction h with
  | nil => intro k; simp; exact .nil
  | cons n t r ih => intro k; cases k with
    | zero => simp; exact .cons n t r
    | succ k => simp; exact ih k
end Mine

end

/- F09 -/
section
open PySem PySem.Calls PyProof.Rows PySem.W
namespace Mine
set_option maxRecDepth 100000
set_option linter.unusedVariables false

theorem Ev.kS' {M : Model} {A : Around} {b : Shared} {env : Env} {x y : Str} {k : Nat} {pos : Pos} (h : x = y) : Ev M A b (eval (.Constant (.str x) k pos) env) (rS y) := h ▸ Ev.kS

theorem join_ones (f : Int → Nat) : ∀ ns : List Int, Str.join (⟨#[]⟩ : Str) (ns.map fun n => T [f n]) = T (ns.map f)
  | [] => rfl
  | [n] => rfl
  | n :: m :: r => by
    have ih := join_ones f (m :: r)
    rw [List.map_cons, List.map_cons, List.map_cons]
    show (T [f n] ++ (⟨#[]⟩ : Str) ++ Str.join ⟨#[]⟩ (((m :: r).map fun n => T [f n]))) = _
    rw [ih]
    have e1 : (T [f n] ++ (⟨#[]⟩ : Str)) = T [f n] := by show Str.append _ _ = _; simp [Str.append]
    rw [e1, T_app]
    rfl

section
variable {w : World} {A : Around} {s : Shared} {mg mb : Str → Option Value} {E : Value → Shared → Prop}

theorem sum_ev {b : Shared} {env : Env} {ex : Expr} {p pos : Pos} {P : List Int → Prop} (G : Gd w mg mb b.heap) (hh : A.handled = none) (hx : Ev (model prg w) A b (eval ex env) (rList (fun its => ∃ ns, IntsAre its.toList ns ∧ P ns))) (hg : env.globals = mainGlobals := by rfl) (hb : env.builtins = builtinsNs := by rfl) (hk : env.scope.kind = .function := by rfl) (hkd : env.kindOf "sum" = some .globalImplicit := by rfl)
    (hs : backTo pos (starEach [ex] env) = (false, eval ex env) :: evs [] env := by rfl) : Ev (model prg w) A b (eval (.Call (.Name "sum" p) [ex] [] pos) env) (fun v _ => ∃ M t, v = .int M t ∧ ∃ ns, P ns ∧ M = ns.sum) := by
  refine Ev.callB (Rs := [rList (fun its => ∃ ns, IntsAre its.toList ns ∧ P ns)]) (G.blt (v := .builtin "sum") (by kernel_rfl) (by kernel_rfl) (by decide +kernel) hg hb hk hkd (by decide +kernel)) (Ev.s1 hx monoList) (fun vs s3 k3 hvs => ?_) (by rfl) hs (by rfl)
  obtain ⟨x1, _, rfl, q1, rfl⟩ := hvs
  exact Ev.sumL hh q1

set_option maxHeartbeats 4000000 in
theorem law_wp {g : Heap} {L sa fa : Addr} {cd : Value} {vs : List Value} {ns : List Int} {m : Str → Option Value} {Q : Flow → Shared → Prop} (G0 : Gd w mg mb g) (hA : Rm A 10) (h82 : g.get? 82 = none) (h89 : g.get? 89 = none) (hLg : g.get? L = none) (hLc : g.get? (L + 1) = none) (hL1 : 82 < L) (hL2 : 89 < L)
    (hg : Kp g s.heap) (hn : s.heap.Ns L m) (hm : m "script" = some (.ref sa)) (hc : s.heap.IsCell (L + 1) none) (t82 : s.heap.get? 82 = some (tabObj #[])) (t89 : s.heap.get? 89 = some (tabObj #[])) (hs : g.IsList sa vs.toArray) (hi : IntsAre vs ns) (hlen : ns.length ≤ 63)
    (hQ : ∀ s' oF oB, (∃ h tk, s' = { s with heap := h, toks := tk }) → (∃ m', s'.heap.Ns L m') → Kp g s'.heap → (tt oF oB).P s'.heap → Q (.ret (.bool true)) s') :
    wpAny (model prg w) A (execs (bodyOf (kf 114)) (envOfC "law" (kf 114).scope L fa cd)) Q E s := by
  have S : St { s with heap := g } [] L [("script", .ref sa)] [eC (L + 1) none, tt none none] s := {
    same := ⟨s.heap, s.toks, rfl⟩
    keep := fun b o _ e => hg b o e
    ns := ⟨m, hn, .cons hm .nil⟩
    Lnew := hLg
    LX := by simp
    own := by
      intro e he
      simp only [List.mem_cons, List.not_mem_nil, or_false] at he
      rcases he with rfl | rfl
      · exact hc
      · exact ⟨t82, t89, by decide⟩
    nd := by
      refine List.pairwise_cons.mpr ⟨fun e he a ha => ?_, List.pairwise_singleton _ _⟩
      simp only [List.mem_cons, List.not_mem_nil, or_false] at he
      subst he
      have : a = L + 1 := by simpa [eC] using ha
      subst this
      intro h
      simp [eP, eTab] at h
      rcases h with h | h
      · subst h; exact absurd hL1 (by decide)
      · subst h; exact absurd hL2 (by decide)
    ndL := by
      intro e he
      simp only [List.mem_cons, List.not_mem_nil, or_false] at he
      rcases he with rfl | rfl
      · simp [eC]
      · intro h
        simp [eP, eTab] at h
        rcases h with h | h
        · exact absurd hL1 (by rw [h]; exact Nat.lt_irrefl _)
        · exact absurd hL2 (by rw [h]; exact Nat.lt_irrefl _)
    new := by
      intro e he a ha
      simp only [List.mem_cons, List.not_mem_nil, or_false] at he
      right
      rcases he with rfl | rfl
      · have : a = L + 1 := by simpa [eC] using ha
        subst this; exact hLc
      · simp [eP, eTab] at ha
        rcases ha with rfl | rfl
        · exact h82
        · exact h89 }
  have gk : ∀ {s' vals ents}, St { s with heap := g } [] L vals ents s' → Kp g s'.heap := fun S' b o e => S'.keep b o (by simp) e
  have Gs : ∀ {s' vals ents}, St { s with heap := g } [] L vals ents s' → Gd w mg mb s'.heap := fun S' => G0.keeps (gk S')
  have ns9 : (ns.take 9).length ≤ 9 := by rw [List.length_take]; omega
  have vs9 : (vs.take 9).length = (ns.take 9).length := by rw [List.length_take, List.length_take, hi.length]
  have i9 := intsAre_take hi 9
  -- the script's first nine
  have cut9 : ∀ {s' : Shared} {p p1 p2 p3 : Pos} {vals ents}, St { s with heap := g } [] L vals ents s' → vals.lookup ("script" : Str) = some (.ref sa) → Ev (model prg w) A s' (eval (.Subscript (.Name "script" p) (.Slice none (some (.Constant (.int 9) 0 p1)) none p2) p3) (envOfC "law" (kf 114).scope L fa cd)) (rNew s' fun its => its = (vs.take 9).toArray) := fun {s' p p1 p2 p3 vals ents} S' hv => by
    refine Ev.weak (Ev.sliceL (P := fun its => its = vs.toArray ∧ its.size ≤ 1000000) (lo := none) (hi := some (9 : Int)) (fun s2 k2 Q E hQ => (S'.v hv) s2 k2 _ _ fun v s3 k3 hv => hQ v s3 k3 ⟨sa, vs.toArray, hv, hs.at fun o e => (k2.trans k3).heap _ o (gk S' _ _ e), rfl, ?_⟩) (fun its h => h.2) Ev.pN (Ev.pI Ev.kI)) ?_
    · have := hi.length; simp; omega
    · rintro v h ⟨a, its, rfl, hn, hp, src, ⟨rfl, _⟩, rfl⟩
      exact ⟨a, _, rfl, hn, hp, (by have := slicePick_upto' vs.toArray 9; simpa using this)⟩
  -- the text
  obtain ⟨txt, htxt⟩ : ∃ txt, txt = (ns.take 9).map sg ++ [46, 13, 10, 46, 46] := ⟨_, rfl⟩
  have hl : txt.length ≤ 1000 := by rw [htxt]; simp; omega
  have eT : (T txt).length = txt.length := by show (T txt).cps.size = _; simp
  refine wpAny_execs_cons (S.assignC (pre := []) rfl (R := rS (T txt)) ?_ fun v s1 s2 k1 hv S2 => ?_)
  · rw [htxt, ← T_app]
    have hlen : ((((ns.take 9).map fun n => T [sg n]).map (·.length)).sum) ≤ 9 := by
      rw [List.map_map]
      have : ((ns.take 9).map (Str.length ∘ fun n => T [sg n])) = (ns.take 9).map fun _ => 1 := List.map_congr_left fun n _ => by show (T [sg n]).cps.size = 1; simp
      rw [this, List.map_const', List.sum_replicate_nat]; omega
    refine Ev.cat (x := T ((ns.take 9).map sg)) ?_ (Ev.kS' (by kernel_rfl)) (by show ((ns.take 9).map sg).toArray.size + ([46, 13, 10, 46, 46] : List Nat).toArray.size ≤ _; unfold sizeLine; simp; omega)
    rw [← join_ones, ← StrLaws.glued_eq_join]
    show Ev _ _ _ _ (rS (Txt.join _ _))
    refine Ev.join (Ev.kS' (by kernel_rfl)) ?_ (by decide) (by simp only [List.length_map]; omega)
    refine Ev.weak (Ev.comp (n := (vs.take 9).toArray.size) (P := fun k v => (vs.take 9).toArray[k]? = some v) (cl := []) (R := rNew s fun its => its = (vs.take 9).toArray) (fun k ys _ => StrsAre ys.toList (((ns.take 9).take k).map fun n => T [sg n])) ?_ ?_ ?_ .nil) ?_
    · exact cut9 S (by rfl)
    · rintro v s1 k1 ⟨a, its, rfl, _, hp, rfl⟩
      exact Its.list (hA.hd) hp.isList
    · intro C D k ys ents e' s1 v hk hJ hv S1
      have hk9 : k < (ns.take 9).length := by simp at hk; rw [← vs9]; simpa using hk
      obtain ⟨q, hq⟩ : ∃ q, (ns.take 9)[k]? = some q := ⟨_, List.getElem?_eq_getElem hk9⟩
      obtain ⟨t, ht⟩ := intsAre_get i9 hq
      rw [List.getElem?_toArray, ht] at hv
      cases hv
      have G1 := (Gs S).keeps S1.out.heap
      have hys : ys.size ≤ k := by have := strsAre_length hJ; simp at this; omega
      refine ⟨true, Ev.tst0, fun _ => ⟨by omega, ?_⟩, fun h => by cases h⟩
      refine (Ev.callF (Rs := [rI q]) (Ev.glob G1.wd (G1.mgl "_law_sign" (some (.ref 73)) (by kernel_rfl))) (G1.at 73 (by kernel_rfl)) (fd := kf 73) (by kernel_rfl) ?_ (R := rS (T [sg q])) ?_).weak fun v h hv => ?_
      · exact Ev.s1 (Ev.asI (S1.v (by rfl))) monoI
      · intro vs' s3 k3 hvs
        obtain ⟨x1, _, rfl, q1, rfl⟩ := hvs
        exact sign_ev (G1.keeps k3.heap) (hA.less (by omega)) q1
      · obtain ⟨u, rfl⟩ := hv
        refine ⟨eU, ?_, trivial, by simp [eU]⟩
        show StrsAre _ (((ns.take 9).take (k + 1)).map _)
        have e9 : ((ns.take 9).take (k + 1)).map (fun n => T [sg n]) = ((ns.take 9).take k).map (fun n => T [sg n]) ++ [T [sg q]] := by
          rw [List.take_add_one, hq, List.map_append]
          rfl
        rw [e9, Array.toList_push]
        exact strsAre_snoc hJ _ _
    · intro v h hv
      refine new_list (comp_list hv fun ys _ hJ => ?_)
      rw [show (vs.take 9).toArray.size = (ns.take 9).length by simp only [List.size_toArray]; exact vs9, List.take_of_length_le (Nat.le_refl _)] at hJ
      exact hJ
  obtain ⟨tx, rfl⟩ := hv
  have S2' : St { s with heap := g } [] L [("script", .ref sa)] [eC (L + 1) (some (.str (T txt) tx)), tt none none] s2 := S2
  -- the table
  refine wpAny_execs_cons (S2'.assignComp (n := txt.length + 1) (P := fun k v => ∃ t, v = .int (0 + k * 1) t) (R := rRange 0 (txt.length + 1 : Nat) 1) (cl := [("text", L + 1)]) (fun k ys l' => ys.size = k ∧ ∀ b, b < k → ∃ ra row, ys[b]? = some (.ref ra) ∧ eL ra row ∈ l' ∧ StrsAre row.toList (begs (txt.drop b))) ?_ ?_ ?_ ⟨rfl, fun b hb => by omega⟩ fun D ys l' s3 hJ hDn S3 => ?_)
  · have : ((txt.length + 1 : Nat) : Int) = ((T txt).length : Int) + 1 := by rw [eT]; omega
    rw [this]
    exact range1_ev (Gs S2') (Ev.add (len_ev (Gs S2') (Ev.asS (Ev.cell S2'.at0)) (by rw [eT]; omega)) Ev.kI)
  · exact fun v s3 k3 hv => Its.range hA.hd hv (small_one (by omega) (by omega) (by omega) (by omega)) (by rw [size_up (by omega)]; omega)
  · intro C D k ys ents e' s3 v hk hJ hv S3
    obtain ⟨t3, rfl⟩ := hv
    have ek : (0 : Int) + (k : Int) * 1 = (k : Int) := by omega
    rw [ek] at S3
    have G3 := (Gs S2').keeps S3.out.heap
    refine ⟨true, Ev.tst0, fun _ => ⟨by have := hJ.1; omega, ?_⟩, fun h => by cases h⟩
    refine (Ev.callF (Rs := [rS (T (txt.drop k))]) (Ev.glob G3.wd (G3.mgl "_law_beginnings" (some (.ref 80)) (by kernel_rfl))) (G3.at 80 (by kernel_rfl)) (fd := kf 80) (by kernel_rfl) ?_ (R := rNew s3 fun its => StrsAre its.toList (begs (txt.drop k))) ?_).weak fun v h hv => ?_
    · exact Ev.s1 (Ev.cut (x := T txt) (l := some (k : Int)) (u := none) (Ev.asS (Ev.cell (S2'.at0.keeps S3.out.heap))) (Ev.part (Ev.asI (S3.v (by rfl)))) Ev.nopart (slice_suf (by omega)) (by rw [eT]; unfold sizeLine; omega)) monoS
    · intro vs' s4 k4 hvs
      obtain ⟨x1, _, rfl, q1, rfl⟩ := hvs
      exact (beginnings_ev (G3.keeps k4.heap) (hA.less (by omega)) (by rw [List.length_drop]; omega) q1).nb k4
    · obtain ⟨a, its, rfl, hn, hp, hst⟩ := hv
      refine ⟨eL a its, ⟨by rw [Array.size_push, hJ.1], fun b hb => ?_⟩, hp, by intro x hx; simp [eL] at hx; subst hx; exact hn⟩
      by_cases hbk : b < k
      · obtain ⟨ra, row, e1, e2, e3⟩ := hJ.2 b hbk
        refine ⟨ra, row, ?_, .tail _ e2, e3⟩
        rw [Array.getElem?_push]
        rw [if_neg (by rw [hJ.1]; omega)]
        exact e1
      · have : b = k := by omega
        subst this
        refine ⟨a, its, ?_, .head _, hst⟩
        rw [Array.getElem?_push, if_pos hJ.1.symm]
  -- the table, whatever the tables of code objects do
  have hTab : ∀ {s' vals oF oB} (h : Heap), St { s with heap := g } [] L vals (eL D ys :: (l' ++ [eC (L + 1) (some (.str (T txt) tx)), tt oF oB])) s' → (∀ b o, b ∉ (tt oF oB).fp → s'.heap.get? b = some o → h.get? b = some o) → Tab txt (.ref D) h := fun {s' vals oF oB} h S' hk => by
    have hnd := List.pairwise_cons.mp S'.nd
    have hnd2 := List.pairwise_append.mp hnd.2
    refine ⟨D, ys, rfl, Heap.PlainList.isList (S'.at0.at fun o e => hk _ o (hnd.1 _ (by simp) D (by simp [eL])) e), hJ.1, fun b hb => ?_⟩
    obtain ⟨ra, row, e1, e2, e3⟩ := hJ.2 b (by omega)
    have hp : s'.heap.PlainList ra row := S'.own (eL ra row) (.tail _ (List.mem_append_left _ e2))
    exact ⟨ra, row, e1, Heap.PlainList.isList (hp.at fun o e => hk _ o (hnd2.2.2 _ e2 (tt oF oB) (by simp) ra (by simp [eL])) e), e3⟩
  have S3' : St { s with heap := g } [] L [("table", .ref D), ("script", .ref sa)] (eL D ys :: (l' ++ [eC (L + 1) (some (.str (T txt) tx)), tt none none])) s3 := S3
  have ttmem : ∀ {oF oB}, tt oF oB ∈ (eL D ys :: (l' ++ [eC (L + 1) (some (.str (T txt) tx)), tt oF oB])) := fun {oF oB} => .tail _ (List.mem_append_right _ (by simp))
  have cmem : ∀ {oF oB}, eC (L + 1) (some (.str (T txt) tx)) ∈ (eL D ys :: (l' ++ [eC (L + 1) (some (.str (T txt) tx)), tt oF oB])) := fun {oF oB} => .tail _ (List.mem_append_right _ (by simp))
  -- one call of _law_right
  have once : ∀ {s' : Shared} {oF oB : Option Addr} {room : Nat} {e3 : Expr} {p p1 p2 p3 : Pos} {Q : Value → Shared → Prop} {E : Value → Shared → Prop}, 2 ≤ room → St { s with heap := g } [] L [("table", .ref D), ("script", .ref sa)] (eL D ys :: (l' ++ [eC (L + 1) (some (.str (T txt) tx)), tt oF oB])) s' →
      Ev (model prg w) A s' (eval e3 (envOfC "law" (kf 114).scope L fa cd)) (rI room) → backTo p (starEach [.Name "text" p2, .Name "table" p3, e3] (envOfC "law" (kf 114).scope L fa cd)) = (false, eval (.Name "text" p2) (envOfC "law" (kf 114).scope L fa cd)) :: evs [.Name "table" p3, e3] (envOfC "law" (kf 114).scope L fa cd) →
      (∀ s'' oF' oB', St { s with heap := g } [] L [("table", .ref D), ("script", .ref sa)] (eL D ys :: (l' ++ [eC (L + 1) (some (.str (T txt) tx)), tt oF' oB'])) s'' → Q (.bool true) s'') →
      wpAny (model prg w) A (eval (.Call (.Name "_law_right" p1) [.Name "text" p2, .Name "table" p3, e3] [] p) (envOfC "law" (kf 114).scope L fa cd)) Q E s' := fun {s' oF oB room e3 p p1 p2 p3 Q E} hr S' he hst hq => by
    refine callF_wp (Rs := [rS (T txt), rV (.ref D), rI room]) (Ev.glob (Gs S').wd ((Gs S').mgl "_law_right" (some (.ref 109)) (by kernel_rfl))) ((Gs S').at 109 (by kernel_rfl)) (fd := kf 109) (by kernel_rfl) (Ev.s3 (Ev.asS (Ev.cell (S'.own _ cmem))) monoS (S'.v (by rfl)) monoV he monoI) (fun vs s4 k4 hvs => ?_) hst
    obtain ⟨x1, _, rfl, q1, x2, _, rfl, rfl, x3, _, rfl, q3, rfl⟩ := hvs
    have S4 := S'.kps k4
    refine right_wp (l := txt) (oF := oF) (oB := oB) G0 (gk S4) (fun a ha => ?_) (hA.less (by omega)) hl hr (S4.own _ ttmem) q1 (fun h hk => hTab h S4 hk) q3 fun s5 oF' oB' hsame hkeep hgrow hP => ?_
    · exact (S4.new _ ttmem a ha).resolve_left (by simp)
    · have S5 := S4.updG (pre := eL D ys :: (l' ++ [eC (L + 1) (some (.str (T txt) tx))])) (post := []) (e := tt oF oB) (e' := tt oF' oB') (by simp) hsame hkeep hgrow hP
      exact hq s5 oF' oB' (by simpa using S5)
  refine wpAny_execs_cons (wpAny_Return_some (BoolOp_and (once (room := 2) (by omega) S3' Ev.kI (by rfl) fun s4 oF oB S4 => wpAny_truthy_bool ?_)))
  rw [if_pos rfl]
  refine BoolOp_one (once (room := (3 + (ns.take 9).sum % 5).toNat) (by omega) S4 ?_ (by rfl) fun s5 oF' oB' S5 => ?_)
  · have e5 : (((3 + (ns.take 9).sum % 5).toNat : Nat) : Int) = 3 + ((ns.take 9).sum).fmod 5 := by rw [fm _ (by decide)]; omega
    rw [e5]
    refine Ev.add Ev.kI (Ev.fmod ?_ Ev.kI (by decide))
    refine (sum_ev (P := fun ms => ms = ns.take 9) (Gs S4) hA.hd ((cut9 S4 (by rfl)).weak fun v h hv => ?_)).weak fun v h hv => ?_
    · obtain ⟨a, its, rfl, _, hp, rfl⟩ := hv
      exact ⟨a, _, rfl, hp.isList, ns.take 9, by simpa using i9, rfl⟩
    · obtain ⟨M, t, rfl, ms, rfl, rfl⟩ := hv
      exact ⟨t, rfl⟩
  · obtain ⟨m', hn', _⟩ := S5.ns
    obtain ⟨h, tk, e⟩ := S5.same
    exact hQ s5 oF' oB' ⟨h, tk, e⟩ ⟨m', hn'⟩ (gk S5) (S5.own _ ttmem)
end
end Mine

end

/- H01 -/
section
open PySem PySem.Calls PyProof.Rows PySem.W
namespace Mine
set_option maxRecDepth 100000
set_option linter.unusedVariables false

/-- each def of the laid heap has its code object there -/
def codesOk (K : Frag) : Bool := K.all fun p => match p.2.data with
  | .func fd => (match fd.code with
    | .ref c => (match K.lookup c with
      | some o => (match o.data with
        | .fields vs => (match (vs : Array Value)[1]? with
          | some (Value.str q _) => q == fd.qualname
          | _ => false)
        | _ => false)
      | none => false)
    | _ => false)
  | _ => true

theorem codesOk.spec {K : Frag} (h : codesOk K = true) {H : Heap} (X : K.In H) {a : Addr} {o : Obj} {fd : FuncData} (hl : K.lookup a = some o) (hd : o.data = .func fd) : H.CodeRec fd.code fd.qualname := by
  have hm : (a, o) ∈ K := by
    clear h X
    induction K with
    | nil => simp at hl
    | cons p r ih =>
      rw [List.lookup_cons] at hl
      cases hp : a == p.1 with
      | true => rw [hp] at hl; cases hl; rw [eq_of_beq hp]; exact .head _
      | false => rw [hp] at hl; exact .tail _ (ih hl)
  have := List.all_eq_true.mp h _ hm
  simp only [hd] at this
  split at this
  · rename_i c hc
    split at this
    · rename_i o' ho'
      split at this
      · rename_i vs hvs
        split at this
        · rename_i q t hq
          refine ⟨c, o', vs, t, hc, X _ _ ho', hvs, ?_⟩
          rw [hq, eq_of_beq this]
        · cases this
      · cases this
    · cases this
  · cases this

theorem gd_of {w : World} {p : Program} {loose : List Str} {mean : ExcName → Option Value} {mg mb : Str → Option Value} {h : Heap} (T : Top p loose mean mg mb h) (X : (hd.heap_39 w.params).In h) : Gd w mg mb h where
  wd := ⟨T.g, T.b, T.nolimit⟩
  fn := fun a fd e => ⟨⟨_, X _ _ e, rfl⟩, codesOk.spec (by kernel_rfl) X e rfl⟩
  k := X
  mgl := fun x v e => by
    cases v with
    | none => exact ns_none_of X T.g e
    | some v => exact mg_of X T.g e
  mbl := fun x v e hx => by rw [T.builtins x hx]; exact e
  bm := by
    obtain ⟨bm, ob, e1, _, e2, r⟩ := T.bmain
    have : mg "__builtins__" = some (.ref 4) := mg_of X T.g (by kernel_rfl)
    rw [this] at e1
    cases e1
    exact ⟨ob, e2, r⟩
end Mine

end

/- F10 -/
section
open PySem PySem.W PyProof.Rows
namespace Mine

theorem tab_grown {P : Addr} {ln cl : Nat} {q : Str} {oc : Option Addr} {h : Heap} (x : (eTab P ln cl q oc).P h) : GrownAt P h := by
  cases oc with
  | none => exact ⟨_, x⟩
  | some c => exact ⟨_, x.1⟩

end Mine
open Mine
set_option maxRecDepth 100000 in
set_option maxHeartbeats 8000000 in
theorem PySem.Challenge.cw_nb0087_01_holds : PySem.Challenge.rw_nb0087_01.Holds := by
  apply Mine.hd
  w_strict (k_go0; rename_i hp1 tk1 wo hwo X0 X1 T1 K1 F1 cH N1 l0; refine Mine.law_wp (Mine.gd_of T1 X1) ⟨rfl, (by show callerA.depth + 1 + 10 < recursionLimit; decide), (by show callerA.units + 3 + 10 * 10 < cLine; decide)⟩ (N1 _ (.tail _ (.tail _ (.head _)))).2.2 (N1 _ (.tail _ (.head _))).2.2 (ghost_fresh (Heap.get?_none_of_le (Nat.le_refl _))) (N1 _ (.head _)).2.2 l0.2 l0.1 F1.keep F1.ns (by rfl) ⟨_, (N1 _ (.head _)).1, hwo⟩ (N1 _ (.tail _ (.tail _ (.head _)))).1 (N1 _ (.tail _ (.head _))).1 lifted ‹IntsAre _ _› (by omega) ?_; intro s' oF oB hs' hns hk hP; obtain ⟨hh, tk, rfl⟩ := hs'; refine ⟨⟨.inl ⟨_, .bool true, [], rfl, raisesW_false ?_, .bool true, ?_, unshared_nil⟩, hk, rfl, ‹_ = #[]›⟩, Mine.tab_grown hP.2.1, Mine.tab_grown hP.1, trivial⟩; (· wrow_none_raised); (· wrow_post))

end
