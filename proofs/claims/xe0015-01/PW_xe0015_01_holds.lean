import PyProof.Rows.All
import Wide.All
import OpenK.AllK
import Wide.FinOn
import KE.KxBytes
import KE.KxSplit
import KE.KData
import KE.KxDecode
import PySem.Challenge.RW_xe0015_01
set_option Elab.async false
set_option rowWalk.seconds 0
section
open PySem PySem.W PyProof.Rows
set_option Elab.async false
namespace Mine
set_option maxRecDepth 100000 in
set_option maxHeartbeats 8000000 in
open_top hd for PySem.Challenge.rw_xe0015_01
end Mine
end
section
open PySem
namespace Mine
open PySem.Sre PySem.Builtin.Re

theorem M_runFor_some (n : Nat) (m : M) (h : m.outcome.isSome = true) : m.runFor n = m := by
  cases n with
  | zero => rfl
  | succ n => simp [M.runFor, h]
theorem M_runFor_add (a b : Nat) (m : M) : m.runFor (a + b) = (m.runFor a).runFor b := by
  induction a generalizing m with
  | zero => simp [M.runFor]
  | succ a ih =>
    rw [Nat.succ_add]
    simp only [M.runFor]
    split
    · rename_i h; rw [M_runFor_some b m h]
    · exact ih _
theorem M_runFor_stay {n k : Nat} {m : M} (h : (m.runFor n).outcome.isSome = true) : m.runFor (n + k) = m.runFor n := by
  rw [M_runFor_add]; exact M_runFor_some k _ h

section
variable {Mo : Model} {A : Around} {E : Value → Shared → Prop} {s : Shared}
theorem wp_reDrive : ∀ (t : Nat) (m : M) (n : Nat) (Q : M → Shared → Prop), n ≤ 4 * t → 0 < t → (m.runFor n).outcome.isSome = true → Q (m.runFor n) s → wpAny Mo A (reDrive t m) Q E s
  | 0, _, _, _, _, h0, _, _ => absurd h0 (Nat.lt_irrefl _)
  | t + 1, m, n, Q, hn, _, ho, hq => by
    show wpAny Mo A (if (m.runFor reTurnSteps).outcome.isSome = true then pure (m.runFor reTurnSteps) else do PySem.rule "sre.turn"; reDrive t (m.runFor reTurnSteps)) Q E s
    by_cases h4 : n ≤ 4
    · have e : m.runFor reTurnSteps = m.runFor n := by
        show m.runFor 4 = _
        have e4 : 4 = n + (4 - n) := by omega
        rw [e4]; exact M_runFor_stay ho
      rw [e, if_pos ho]
      exact wpAny_pure hq
    · have e : m.runFor n = (m.runFor reTurnSteps).runFor (n - 4) := by
        show _ = (m.runFor 4).runFor (n - 4)
        rw [← M_runFor_add]; congr 1; omega
      split
      · rename_i h
        rw [e, M_runFor_some _ _ h] at hq
        exact wpAny_pure hq
      · rw [e] at ho hq
        refine wpAny_bind (wpAny_rule ?_)
        exact wp_reDrive t _ (n - 4) Q (by omega) (by omega) ho hq

theorem wp_forIn_rules (l : List Nat) (c : Nat → Bool) (nm : Nat → String) {Q : PUnit → Shared → Prop} (h : Q ⟨⟩ s) :
    wpAny Mo A (forIn l PUnit.unit fun i _ => (if c i = true then do PySem.rule (nm i); pure (ForInStep.yield PUnit.unit) else do pure (ForInStep.yield PUnit.unit))) Q E s := by
  induction l with
  | nil => exact wpAny_pure h
  | cons a l ih =>
    rw [List.forIn_cons]
    refine wpAny_bind ?_
    split
    · exact wpAny_bind (wpAny_rule (wpAny_pure ih))
    · exact wpAny_pure ih
theorem wp_reRunToEnd {m : M} {n : Nat} {Q : Option M → Shared → Prop} (hn : n ≤ 2 ^ 60) {r : Option M}
    (ho : (m.runFor n).outcome = some .matched ∧ r = some (m.runFor n) ∨ (m.runFor n).outcome = some .failed ∧ r = none) (hq : Q r s) : wpAny Mo A (reRunToEnd m) Q E s := by
  unfold reRunToEnd
  refine wpAny_bind (wp_reDrive (2 ^ 64) m n _ (by omega) (by decide) (by rcases ho with ⟨h, _⟩ | ⟨h, _⟩ <;> rw [h] <;> rfl) ?_)
  refine wpAny_bind (wp_forIn_rules _ _ _ ?_)
  rcases ho with ⟨h, rfl⟩ | ⟨h, rfl⟩ <;> rw [h] <;> exact wpAny_pure hq
end

def code1 : Array Nat := #[14, 8, 1, 2, 4294967295, 1, 1, 46, 0, 16, 46, 24, 9, 1, 4294967295, 13, 4, 8, 0, 0, 1, 6, 5, 1]
def st1 (text : Array Nat) (lim s : Nat) (o : Bool) (seen : Seen) : M :=
  { code := code1, text, lim, start := s, lastStart := lim, pc := 9, pos := s, handed := s, outermost := o, marks := #[],
    frames := [{ wait := .nextStart, pc := 9, pos := s, outermost := o }], weight := 1, seen }

theorem st1_no (text : Array Nat) (lim s : Nat) (o : Bool) (seen : Seen) (hs : s < lim) (h : text.getD s 0 ≠ 46) :
    ∃ seen', (st1 text lim s o seen).runFor 2 = st1 text lim (s + 1) false seen' := by
  refine ⟨seen.add 16, ?_⟩
  have hb : (text[s]?.getD 0 == 46) = false := by simpa using h
  have h1 : (st1 text lim s o seen).step = { st1 text lim s o seen with answer := some false, seen := seen.add 16 } := by
    simp [st1, M.step, M.exec, M.word, code1, ops, accepts, M.say, Nat.not_le.mpr hs, hb]
  simp only [M.runFor]
  rw [h1]
  simp [st1, M.step, M.resume, hs, M.attemptFrom, M.hasFirstSet, code1, ops, M.attemptAt, M.attempt]

theorem st1_dot (text : Array Nat) (lim s : Nat) (o : Bool) (seen : Seen) (hs : s < lim) (h : text.getD s 0 = 46) (hd : s + 1 < lim → isDigit (text.getD (s + 1) 0) = false) :
    ∃ seen', (st1 text lim s o seen).runFor 3 = st1 text lim (s + 1) false seen' := by
  have hb : (text[s]?.getD 0 == 46) = true := by simpa using h
  have h1 : (st1 text lim s o seen).step = { st1 text lim s o seen with pc := 11, pos := s + 1, seen := seen.add 16 } := by
    simp [st1, M.step, M.exec, M.word, code1, ops, accepts, Nat.not_le.mpr hs, hb, itemWidth]
  have h2 : ∃ seen', ({ st1 text lim s o seen with pc := 11, pos := s + 1, seen := seen.add 16 } : M).step = { st1 text lim s o seen with pc := 11, pos := s + 1, seen := seen', answer := some false } := by
    by_cases hl : s + 1 < lim
    · have hd' : isDigit (text[s + 1]?.getD 0) = false := by simpa using hd hl
      have e1 : min (4294967295 : Nat) ((lim : Int) - ((s : Int) + 1)).toNat = (min 4294967294 (lim - s - 2)) + 1 := by omega
      have e2 : ¬ ((lim : Int) - ((s : Int) + 1) < 1) := by omega
      refine ⟨M.seen (M.step ({ st1 text lim s o seen with pc := 11, pos := s + 1, seen := seen.add 16 } : M)), ?_⟩
      simp [st1, M.step, M.exec, M.word, code1, ops, M.say, Sre.run, accepts, inSet, category, hd', e1, e2, Except.map, bind, Except.bind, pure, Except.pure]
    · have e2 : ((lim : Int) - ((s : Int) + 1) < 1) := by omega
      refine ⟨M.seen (M.step ({ st1 text lim s o seen with pc := 11, pos := s + 1, seen := seen.add 16 } : M)), ?_⟩
      simp [st1, M.step, M.exec, M.word, code1, ops, M.say, e2]
  obtain ⟨sn, h2⟩ := h2
  refine ⟨sn, ?_⟩
  simp only [M.runFor]
  rw [h1, h2]
  simp [st1, M.step, M.resume, hs, M.attemptFrom, M.hasFirstSet, code1, ops, M.attemptAt, M.attempt]

def noIp (text : Array Nat) : Prop := ∀ i, i < text.size → isDigit (text.getD i 0) = false
theorem st1_end (text : Array Nat) (lim : Nat) (o : Bool) (seen : Seen) : ((st1 text lim lim o seen).runFor 3).outcome = some .failed := by
  have h1 : (st1 text lim lim o seen).step = { st1 text lim lim o seen with answer := some false, seen := seen.add 16 } := by
    simp [st1, M.step, M.exec, M.word, code1, ops, accepts, M.say]
  simp only [M.runFor]
  rw [h1]
  simp [st1, M.step, M.resume, M.say]
theorem st1_fail (text : Array Nat) (hn : noIp text) : ∀ (k s : Nat) (o : Bool) (seen : Seen), s + k = text.size → ∃ n, n ≤ 3 * (k + 1) ∧ ((st1 text text.size s o seen).runFor n).outcome = some .failed
  | 0, s, o, seen, hs => by
    have : s = text.size := by omega
    subst this
    exact ⟨3, by omega, st1_end text text.size o seen⟩
  | k + 1, s, o, seen, hs => by
    by_cases h : text.getD s 0 = 46
    · obtain ⟨sn, e⟩ := st1_dot text text.size s o seen (by omega) h (fun hl => hn _ hl)
      obtain ⟨n, hn', e'⟩ := st1_fail text hn k (s + 1) false sn (by omega)
      exact ⟨3 + n, by omega, by rw [M_runFor_add, e]; exact e'⟩
    · obtain ⟨sn, e⟩ := st1_no text text.size s o seen (by omega) h
      obtain ⟨n, hn', e'⟩ := st1_fail text hn k (s + 1) false sn (by omega)
      exact ⟨2 + n, by omega, by rw [M_runFor_add, e]; exact e'⟩
def ms1 (text : Array Nat) (lim s : Nat) : M :=
  { code := code1, text, lim, start := s, lastStart := 0, pc := 9, pos := s, handed := s, outermost := true, marks := #[], seen := ({} : Seen).add 14 }
theorem forSearch1 (text : Array Nat) (lim s : Nat) : forSearch code1 text 0 s lim false =
  if (decide (s > lim) || decide (lim - s < 2)) = true then (ms1 text lim s).say false else ({ ms1 text lim s with lastStart := lim } : M).attemptFrom s true := rfl
theorem search1 (text : Array Nat) (hn : noIp text) : ∃ n, n ≤ 3 * (text.size + 1) ∧ ((forSearch code1 text 0 0 text.size false).runFor n).outcome = some .failed := by
  rw [forSearch1]
  by_cases h : 2 ≤ text.size
  · obtain ⟨n, a, b⟩ := st1_fail text hn text.size 0 true (({} : Seen).add 14) (by omega)
    refine ⟨n, a, ?_⟩
    have h1 : ¬ (text.size < 2) := by omega
    have e : ({ ms1 text text.size 0 with lastStart := text.size } : M).attemptFrom 0 true = st1 text text.size 0 true (({} : Seen).add 14) := by
      simp [M.attemptFrom, M.hasFirstSet, M.attemptAt, M.attempt, st1, ms1, code1, ops]
    rw [if_neg (by simp [h1]), e]; exact b
  · refine ⟨1, by omega, ?_⟩
    have h1 : text.size < 2 := by omega
    rw [if_pos (by simp [h1])]
    simp [ms1, M.runFor, M.step, M.say]
end Mine
end
section
open PySem
namespace Mine
open PySem.Sre PySem.Builtin.Re

theorem run1 {m : M} (n : Nat) (h : m.outcome = none) : m.runFor (n + 1) = m.step.runFor n := by simp [M.runFor, h]

/-! pattern 2: (?m)^\. on bytes -/
def code2 : Array Nat := #[14, 4, 0, 1, 1, 6, 1, 16, 46, 1]
def st2 (text : Array Nat) (lim s : Nat) (o : Bool) (seen : Seen) : M :=
  { code := code2, text, lim, start := s, lastStart := lim, pc := 5, pos := s, handed := s, outermost := o, marks := #[],
    frames := [{ wait := .nextStart, pc := 5, pos := s, outermost := o }], weight := 1, seen }
theorem st2_atno (text : Array Nat) (lim s : Nat) (o : Bool) (seen : Seen) (h : (s == 0 || text.getD (s - 1) 0 == 10) = false) :
    (st2 text lim s o seen).step = { st2 text lim s o seen with answer := some false, seen := (seen.add 6).add 44 } := by
  have h' : (s == 0) = false ∧ (text[s - 1]?.getD 0 == 10) = false := by simpa [Bool.or_eq_false_iff] using h
  have h0 : s ≠ 0 := by simpa using h'.1
  simp [st2, M.step, M.exec, M.word, code2, ops, M.isAt, h0, h'.2, M.say]
theorem st2_at (text : Array Nat) (lim s : Nat) (o : Bool) (seen : Seen) (h : (s == 0 || text.getD (s - 1) 0 == 10) = true) :
    (st2 text lim s o seen).step = { st2 text lim s o seen with pc := 7, seen := (seen.add 6).add 44 } := by
  have h' : (decide (s = 0) || (text[s - 1]?.getD 0 == 10)) = true := by simpa [Bool.or_eq_true] using h
  simp [st2, M.step, M.exec, M.word, code2, ops, M.isAt]
  intro a b
  simp [a, b] at h'
theorem st2_no (text : Array Nat) (lim s : Nat) (o : Bool) (seen : Seen) (hs : s < lim) (h : (s == 0 || text.getD (s - 1) 0 == 10) = false ∨ text.getD s 0 ≠ 46) :
    ∃ n seen', n ≤ 3 ∧ (st2 text lim s o seen).runFor n = st2 text lim (s + 1) false seen' := by
  have back : ∀ (m : M) (sn : Seen) (p q : Nat), m = { st2 text lim s o seen with pc := p, pos := q, answer := some false, seen := sn } → m.step = st2 text lim (s + 1) false sn := by
    rintro _ sn p q rfl
    simp [st2, M.step, M.resume, hs, M.attemptFrom, M.hasFirstSet, code2, ops, M.attemptAt, M.attempt]
  cases ha : (s == 0 || text.getD (s - 1) 0 == 10) with
  | false =>
    refine ⟨2, (seen.add 6).add 44, by omega, ?_⟩
    rw [run1 _ rfl, st2_atno _ _ _ _ _ ha, run1 _ rfl]
    exact back _ _ 5 s rfl
  | true =>
    have hb : (text[s]?.getD 0 == 46) = false := by
      rcases h with h | h
      · rw [h] at ha; cases ha
      · simpa using h
    refine ⟨3, ((seen.add 6).add 44).add 16, by omega, ?_⟩
    rw [run1 _ rfl, st2_at _ _ _ _ _ ha]
    have e : ({ st2 text lim s o seen with pc := 7, seen := (seen.add 6).add 44 } : M).step = { st2 text lim s o seen with pc := 7, answer := some false, seen := ((seen.add 6).add 44).add 16 } := by
      simp [st2, M.step, M.exec, M.word, code2, ops, accepts, M.say, Nat.not_le.mpr hs, hb]
    rw [run1 _ rfl, e, run1 _ rfl]
    exact back _ _ 7 s rfl
theorem st2_yes (text : Array Nat) (lim s : Nat) (seen : Seen) (o : Bool) (hs : s < lim) (h : (s == 0 || text.getD (s - 1) 0 == 10) = true) (hd : text.getD s 0 = 46) :
    ∃ n, n ≤ 8 ∧ ((st2 text lim s o seen).runFor n).outcome = some .matched ∧ ((st2 text lim s o seen).runFor n).start = s ∧ ((st2 text lim s o seen).runFor n).handed = s + 1 := by
  have hb : (text[s]?.getD 0 == 46) = true := by simpa using hd
  have e1 := st2_at text lim s o seen h
  have e2 : ({ st2 text lim s o seen with pc := 7, seen := (seen.add 6).add 44 } : M).step = { st2 text lim s o seen with pc := 9, pos := s + 1, seen := ((seen.add 6).add 44).add 16 } := by
    simp [st2, M.step, M.exec, M.word, code2, ops, accepts, Nat.not_le.mpr hs, hb, itemWidth]
  have e3 : ({ st2 text lim s o seen with pc := 9, pos := s + 1, seen := ((seen.add 6).add 44).add 16 } : M).step = { st2 text lim s o seen with pc := 9, pos := s + 1, handed := s + 1, answer := some true, seen := (((seen.add 6).add 44).add 16).add 1 } := by
    simp [st2, M.step, M.exec, M.word, code2, ops, M.say]
  refine ⟨5, by omega, ?_⟩
  simp only [M.runFor]
  rw [e1]
  rw [e2]
  rw [e3]
  simp [st2, M.step, M.resume, M.say]
theorem st2_end (text : Array Nat) (lim : Nat) (o : Bool) (seen : Seen) : ∃ n, n ≤ 4 ∧ ((st2 text lim lim o seen).runFor n).outcome = some .failed := by
  cases ha : (lim == 0 || text.getD (lim - 1) 0 == 10) with
  | false =>
    refine ⟨3, by omega, ?_⟩
    simp only [M.runFor]
    rw [st2_atno _ _ _ _ _ ha]
    simp [st2, M.step, M.resume, M.say]
  | true =>
    refine ⟨4, by omega, ?_⟩
    simp only [M.runFor]
    rw [st2_at _ _ _ _ _ ha]
    have e : ({ st2 text lim lim o seen with pc := 7, seen := (seen.add 6).add 44 } : M).step = { st2 text lim lim o seen with pc := 7, answer := some false, seen := ((seen.add 6).add 44).add 16 } := by
      simp [st2, M.step, M.exec, M.word, code2, ops, M.say]
    rw [e]
    simp [st2, M.step, M.resume, M.say]

def hit2 (text : Array Nat) (s : Nat) : Bool := (s == 0 || text.getD (s - 1) 0 == 10) && text.getD s 0 == 46
theorem st2_to (text : Array Nat) (lim : Nat) : ∀ (k s : Nat) (o : Bool) (seen : Seen), s + k ≤ lim → (∀ i, s ≤ i → i < s + k → hit2 text i = false) → ∃ n o' seen', n ≤ 3 * k ∧ (st2 text lim s o seen).runFor n = st2 text lim (s + k) o' seen'
  | 0, s, o, seen, _, _ => ⟨0, o, seen, by omega, rfl⟩
  | k + 1, s, o, seen, hk, hh => by
    have h := hh s (Nat.le_refl _) (by omega)
    unfold hit2 at h
    have h' : (s == 0 || text.getD (s - 1) 0 == 10) = false ∨ text.getD s 0 ≠ 46 := by
      rcases Bool.and_eq_false_iff.mp h with h | h
      · exact .inl h
      · exact .inr (by simpa using h)
    obtain ⟨n, sn, hn, e⟩ := st2_no text lim s o seen (by omega) h'
    obtain ⟨n', o', sn', hn', e'⟩ := st2_to text lim k (s + 1) false sn (by omega) (fun i h1 h2 => hh i (by omega) (by omega))
    refine ⟨n + n', o', sn', by omega, ?_⟩
    rw [M_runFor_add, e, e']
    congr 1; omega
def ms2 (text : Array Nat) (lim s : Nat) : M :=
  { code := code2, text, lim, start := s, lastStart := 0, pc := 5, pos := s, handed := s, outermost := true, marks := #[], seen := ({} : Seen).add 14 }
theorem forSearch2 (text : Array Nat) (lim s : Nat) : forSearch code2 text 0 s lim false =
  if (decide (s > lim) || decide (lim - s < 1)) = true then (ms2 text lim s).say false else ({ ms2 text lim s with lastStart := lim } : M).attemptFrom s true := rfl
theorem at2 (text : Array Nat) (lim s : Nat) : ({ ms2 text lim s with lastStart := lim } : M).attemptFrom s true = st2 text lim s true (({} : Seen).add 14) := by
  simp [M.attemptFrom, M.hasFirstSet, M.attemptAt, M.attempt, st2, ms2, code2, ops]
theorem search2_none (text : Array Nat) (lim s : Nat) (hs : s ≤ lim) (hh : ∀ i, s ≤ i → i < lim → hit2 text i = false) : ∃ n, n ≤ 3 * (lim - s) + 5 ∧ ((forSearch code2 text 0 s lim false).runFor n).outcome = some .failed := by
  rw [forSearch2]
  by_cases h : s < lim
  · rw [if_neg (by simp; omega), at2]
    obtain ⟨n, o', sn, hn, e⟩ := st2_to text lim (lim - s) s true (({} : Seen).add 14) (by omega) (fun i h1 h2 => hh i h1 (by omega))
    rw [show s + (lim - s) = lim by omega] at e
    obtain ⟨n', hn', e'⟩ := st2_end text lim o' sn
    exact ⟨n + n', by omega, by rw [M_runFor_add, e]; exact e'⟩
  · refine ⟨1, by omega, ?_⟩
    rw [if_pos (by simp; omega)]
    simp [ms2, M.runFor, M.step, M.say]
theorem search2_some (text : Array Nat) (lim s k : Nat) (hk : s + k < lim) (hh : ∀ i, s ≤ i → i < s + k → hit2 text i = false) (hy : hit2 text (s + k) = true) :
    ∃ n, n ≤ 3 * k + 8 ∧ ((forSearch code2 text 0 s lim false).runFor n).outcome = some .matched ∧ ((forSearch code2 text 0 s lim false).runFor n).start = s + k ∧ ((forSearch code2 text 0 s lim false).runFor n).handed = s + k + 1 := by
  rw [forSearch2, if_neg (by simp; omega), at2]
  obtain ⟨n, o', sn, hn, e⟩ := st2_to text lim k s true (({} : Seen).add 14) (by omega) hh
  unfold hit2 at hy
  obtain ⟨h1, h2⟩ := Bool.and_eq_true_iff.mp hy
  obtain ⟨n', hn', e'⟩ := st2_yes text lim (s + k) sn o' hk h1 (by simpa using h2)
  exact ⟨n + n', by omega, by rw [M_runFor_add, e]; exact e'⟩
end Mine
end
section
open PySem
namespace Mine
open PySem.Sre PySem.Builtin.Re

/-! pattern 3: (?:\r\n|\n|\r(?!\n)) on a text without 13 -/
def code3 : Array Nat := #[14, 9, 4, 1, 2, 16, 10, 16, 13, 0, 7, 7, 16, 13, 16, 10, 15, 18, 5, 16, 10, 15, 13, 11, 16, 13, 5, 5, 0, 16, 10, 1, 15, 2, 0, 1]
def ms3 (text : Array Nat) (lim s : Nat) : M :=
  { code := code3, text, lim, start := s, lastStart := 0, pc := 10, pos := s, handed := s, outermost := true, marks := #[], seen := ({} : Seen).add 14 }
theorem forSearch3 (text : Array Nat) (lim s : Nat) : forSearch code3 text 0 s lim false =
  if (decide (s > lim) || decide (lim - s < 1)) = true then (ms3 text lim s).say false else ({ ms3 text lim s with lastStart := lim } : M).attemptFrom s true := rfl
def st3 (text : Array Nat) (lim s : Nat) (o : Bool) (seen : Seen) : M :=
  { code := code3, text, lim, start := s, lastStart := lim, pc := 10, pos := s, handed := s, outermost := o, marks := #[],
    frames := [{ wait := .nextStart, pc := 10, pos := s, outermost := o }], weight := 1, seen }

theorem inSet3_no (c : Nat) (seen : Seen) (h : (c == 10) = false) (h' : (c == 13) = false) : ∃ seen', inSet code3 c 36 5 true seen = .ok (false, seen') := by
  simp [inSet, code3, ops, h, h']
theorem inSet3_yes (c : Nat) (seen : Seen) (h : c = 10) : ∃ seen', inSet code3 c 36 5 true seen = .ok (true, seen') := by
  subst h
  simp [inSet, code3, ops]
theorem admitted3_none (m : M) (hc : m.code = code3) : ∀ (fuel s : Nat) (seen : Seen), m.lim < s + fuel → (∀ i, s ≤ i → i < m.lim → (m.text.getD i 0 == 10) = false ∧ (m.text.getD i 0 == 13) = false) → ∃ seen', M.admitted m fuel s seen = .ok (none, seen')
  | 0, s, seen, h, _ => ⟨seen, by simp [M.admitted]⟩
  | fuel + 1, s, seen, h, hh => by
    by_cases hs : s ≥ m.lim
    · exact ⟨seen, by simp [M.admitted, hs]⟩
    · obtain ⟨h1, h2⟩ := hh s (Nat.le_refl _) (by omega)
      obtain ⟨sn, e⟩ := inSet3_no _ seen h1 h2
      obtain ⟨sn', e'⟩ := admitted3_none m hc fuel (s + 1) sn (by omega) (fun i a b => hh i (by omega) b)
      refine ⟨sn', ?_⟩
      unfold M.admitted
      rw [if_neg hs, hc]
      show (match inSet code3 (m.text.getD s 0) 36 5 true seen with | .ok (true, seen) => _ | .ok (false, seen) => _ | .error why => _) = _
      rw [e]
      exact e'
theorem admitted3_some (m : M) (hc : m.code = code3) : ∀ (k fuel s : Nat) (seen : Seen), k < fuel → s + k < m.lim → (∀ i, s ≤ i → i < s + k → (m.text.getD i 0 == 10) = false ∧ (m.text.getD i 0 == 13) = false) → m.text.getD (s + k) 0 = 10 → ∃ seen', M.admitted m fuel s seen = .ok (some (s + k), seen')
  | k, 0, _, _, h, _, _, _ => absurd h (Nat.not_lt_zero _)
  | 0, fuel + 1, s, seen, _, hl, _, hy => by
    obtain ⟨sn, e⟩ := inSet3_yes _ seen hy
    refine ⟨sn, ?_⟩
    unfold M.admitted
    rw [if_neg (by omega), hc]
    show (match inSet code3 (m.text.getD s 0) 36 5 true seen with | .ok (true, seen) => _ | .ok (false, seen) => _ | .error why => _) = _
    rw [Nat.add_zero] at e
    rw [e]; rfl
  | k + 1, fuel + 1, s, seen, h, hl, hh, hy => by
    obtain ⟨h1, h2⟩ := hh s (Nat.le_refl _) (by omega)
    obtain ⟨sn, e⟩ := inSet3_no _ seen h1 h2
    obtain ⟨sn', e'⟩ := admitted3_some m hc k fuel (s + 1) sn (by omega) (by omega) (fun i a b => hh i (by omega) (by omega)) (by rw [← hy]; congr 1; omega)
    refine ⟨sn', ?_⟩
    unfold M.admitted
    rw [if_neg (by omega), hc]
    show (match inSet code3 (m.text.getD s 0) 36 5 true seen with | .ok (true, seen) => _ | .ok (false, seen) => _ | .error why => _) = _
    rw [e, show s + (k + 1) = s + 1 + k by omega]
    exact e'
theorem from3_none (text : Array Nat) (lim s : Nat) (hs : s ≤ lim) (hh : ∀ i, s ≤ i → i < lim → (text.getD i 0 == 10) = false ∧ (text.getD i 0 == 13) = false) :
    ∃ n, n ≤ 2 ∧ ((forSearch code3 text 0 s lim false).runFor n).outcome = some .failed := by
  rw [forSearch3]
  by_cases h : s < lim
  · rw [if_neg (by simp; omega)]
    obtain ⟨sn, e⟩ := admitted3_none ({ ms3 text lim s with lastStart := lim } : M) rfl (lim + 1 - s) s (({} : Seen).add 14) (by show lim < _; omega) hh
    refine ⟨1, by omega, ?_⟩
    have e2 : ({ ms3 text lim s with lastStart := lim } : M).attemptFrom s true = ({ ms3 text lim s with lastStart := lim, seen := sn } : M).say false := by
      unfold M.attemptFrom
      rw [if_neg (by simp [M.hasFirstSet, ms3, code3, ops])]
      show (match M.admitted ({ ms3 text lim s with lastStart := lim } : M) (lim + 1 - s) s (({} : Seen).add 14) with | .ok (some s, seen) => _ | .ok (none, seen) => _ | .error why => _) = _
      rw [e]
    rw [e2]
    simp [ms3, M.runFor, M.step, M.say]
  · refine ⟨1, by omega, ?_⟩
    rw [if_pos (by simp; omega)]
    simp [ms3, M.runFor, M.step, M.say]

theorem run3_yes (text : Array Nat) (lim s : Nat) (seen : Seen) (hs : s < lim) (hd : text.getD s 0 = 10) :
    ∃ n, n ≤ 20 ∧ ((st3 text lim s true seen).runFor n).outcome = some .matched ∧ ((st3 text lim s true seen).runFor n).start = s ∧ ((st3 text lim s true seen).runFor n).handed = s + 1 := by
  have hb : (text[s]?.getD 0 == 10) = true := by simpa using hd
  have hb' : (text[s]?.getD 0 == 13) = false := by
    have : text[s]?.getD 0 = 10 := by simpa using hd
    rw [this]; rfl
  refine ⟨9, by omega, ?_⟩
  simp [st3, M.runFor, M.step, M.exec, M.word, code3, ops, accepts, Nat.not_le.mpr hs, hb, hb', itemWidth, M.alternative, M.attempt, M.frame, M.keep, M.resume, M.putBack, M.say]
theorem search3_some (text : Array Nat) (lim s k : Nat) (hk : s + k < lim) (hh : ∀ i, s ≤ i → i < s + k → (text.getD i 0 == 10) = false ∧ (text.getD i 0 == 13) = false) (hy : text.getD (s + k) 0 = 10) :
    ∃ n, n ≤ 20 ∧ ((forSearch code3 text 0 s lim false).runFor n).outcome = some .matched ∧ ((forSearch code3 text 0 s lim false).runFor n).start = s + k ∧ ((forSearch code3 text 0 s lim false).runFor n).handed = s + k + 1 := by
  rw [forSearch3, if_neg (by simp; omega)]
  obtain ⟨sn, e⟩ := admitted3_some ({ ms3 text lim s with lastStart := lim } : M) rfl k (lim + 1 - s) s (({} : Seen).add 14) (by omega) hk hh hy
  have e2 : ({ ms3 text lim s with lastStart := lim } : M).attemptFrom s true = st3 text lim (s + k) true sn := by
    unfold M.attemptFrom
    rw [if_neg (by simp [M.hasFirstSet, ms3, code3, ops])]
    show (match M.admitted ({ ms3 text lim s with lastStart := lim } : M) (lim + 1 - s) s (({} : Seen).add 14) with | .ok (some s, seen) => _ | .ok (none, seen) => _ | .error why => _) = _
    rw [e]
    simp [M.attemptAt, M.attempt, st3, ms3]
  rw [e2]
  exact run3_yes text lim (s + k) sn hk hy
end Mine
end
section
open PySem
namespace Mine.RF
set_option maxRecDepth 100000
theorem plainAttrs : PlainAttrs "re.Pattern" :=
  ⟨⟨"object.__getattribute__", by rw [typeLookup_type, builtinLookup_eq_fast]; kernel_rfl, by decide +kernel⟩, by rw [typeLookup_type, builtinLookup_eq_fast]; kernel_rfl⟩
theorem owner_pat : Manifest.owners.lookup (String.ofList ['n', 'r', 'e', 't', 't', 'a', 'P', '.', 'e', 'r'].reverse) = some Manifest.sig_re_Pattern := by kernel_rfl
theorem slot_search : Slot "re.Pattern" "search" "re.Pattern.search" :=
  .of (owner := "re.Pattern") (n := "search") (by rw [typeLookup_type, builtinLookup_eq_fast]; kernel_rfl) (by decide +kernel) (by decide +kernel) (by decide +kernel)
    (by first | exact .inl (by decide +kernel) | exact .inr (by decide +kernel)) (by rw [isSubtype_type]; kernel_rfl)
theorem type_search : typeOf (.builtin "re.Pattern.search") = pure (.type "method_descriptor") := by show builtinType _ = _; rw [builtinType_eq_fast]; kernel_rfl
theorem entry_search : entryFor table "re.Pattern.search" = some Builtin.«re.Pattern.search» := entryFor_of_tree (by kernel_rfl)
theorem args_search (a b : Value) : argsOk "re.Pattern.search" ⟨[a, b], []⟩ := by
  unfold argsOk; rw [signature?_of (id := "re.Pattern.search") (n := ['h', 'c', 'r', 'a', 'e', 's']) (o := ['n', 'r', 'e', 't', 't', 'a', 'P', '.', 'e', 'r']) (by kernel_rfl) owner_pat]; kernel_rfl
theorem slot_sub : Slot "re.Pattern" "sub" "re.Pattern.sub" :=
  .of (owner := "re.Pattern") (n := "sub") (by rw [typeLookup_type, builtinLookup_eq_fast]; kernel_rfl) (by decide +kernel) (by decide +kernel) (by decide +kernel)
    (by first | exact .inl (by decide +kernel) | exact .inr (by decide +kernel)) (by rw [isSubtype_type]; kernel_rfl)
theorem type_sub : typeOf (.builtin "re.Pattern.sub") = pure (.type "method_descriptor") := by show builtinType _ = _; rw [builtinType_eq_fast]; kernel_rfl
theorem entry_sub : entryFor table "re.Pattern.sub" = some Builtin.«re.Pattern.sub» := entryFor_of_tree (by kernel_rfl)
theorem args_sub (a b c : Value) : argsOk "re.Pattern.sub" ⟨[a, b, c], []⟩ := by
  unfold argsOk; rw [signature?_of (id := "re.Pattern.sub") (n := ['b', 'u', 's']) (o := ['n', 'r', 'e', 't', 't', 'a', 'P', '.', 'e', 'r']) (by kernel_rfl) owner_pat]; kernel_rfl
theorem entry_loop : entryFor table "re.Pattern.sub.loop" = some Builtin.«re.Pattern.sub.loop» := entryFor_of_tree (by kernel_rfl)
theorem plain_loop : plainId "re.Pattern.sub.loop" = true := by decide +kernel
theorem nocall_str : typeLookup (.type "str") "__call__" = pure none := by rw [typeLookup_type, builtinLookup_eq_fast]; kernel_rfl
theorem nocall_bytes : typeLookup (.type "bytes") "__call__" = pure none := by rw [typeLookup_type, builtinLookup_eq_fast]; kernel_rfl
end Mine.RF
end
section
open PySem
namespace Mine
open PySem.Sre PySem.Builtin.Re PySem.Builtin
set_option maxRecDepth 100000

structure IsPat (h : Heap) (P : Addr) (code : Array Nat) (kind : Nat) : Prop where
  ex : ∃ C vs its n o, h.get? P = some ({ cls := .type "re.Pattern", data := .fields vs } : Obj) ∧ vs.getD 5 .none = .ref C ∧ reRawNat (vs.getD 6 .none) = kind ∧ reRawNat (vs.getD 2 .none) = 0 ∧
    h.get? C = some o ∧ o.data = .seq its n ∧ (its.map reRawOf).map (·.toNat) = code
theorem IsPat.keeps {h h' : Heap} {P : Addr} {code : Array Nat} {kind : Nat} (x : IsPat h P code kind) (k : ∀ b o, h.get? b = some o → h'.get? b = some o) : IsPat h' P code kind :=
  let ⟨C, vs, its, n, o, a, b, c, d, e, f, g⟩ := x.ex
  ⟨C, vs, its, n, o, k _ _ a, b, c, d, k _ _ e, f, g⟩
theorem reNamed_search (v : Value) : reNamed "re.Pattern.search" "search" ["string", "pos", "endpos"] 1 [v] [] = pure [some v, none, none] := by kernel_rfl
theorem reNamed_sub (u v : Value) : reNamed "re.Pattern.sub" "sub" ["repl", "string", "count"] 2 [u, v] [] = pure [some u, some v, none] := by kernel_rfl
section
variable {Mo : Model} {A : Around} {E : Value → Shared → Prop} {s : Shared}
theorem wp_reRawItems {C : Addr} {o : Obj} {its : Array Value} {n : Nat} {Q : Array Int → Shared → Prop} (h : s.heap.get? C = some o) (hd : o.data = .seq its n) (hq : Q (its.map reRawOf) s) : wpAny Mo A (reRawItems (.ref C)) Q E s := by
  unfold reRawItems
  exact wpAny_bind (wpAny_seqItems h hd (wpAny_pure hq))
theorem wp_getMethod {P : Addr} {code : Array Nat} {kind : Nat} {name : Str} {id : String} {pl : Sem Bool} {Q : Value × List Value → Shared → Prop} (hP : IsPat s.heap P code kind) (slot : Slot "re.Pattern" name id)
    (ty : typeOf (.builtin id) = pure (.type "method_descriptor")) (h : Q (.builtin id, [.ref P]) s) : wpAny Mo A (getMethod (.ref P) name pl) Q E s := by
  obtain ⟨C, vs, its, n, o, a, b, c, d, e, f, g⟩ := hP.ex
  exact getMethod_builtin ⟨_, a, rfl⟩ RF.plainAttrs slot ty (fun a' e' => by cases e'; exact ⟨_, a, rfl⟩) h
theorem wp_wholeS {P : Addr} {code : Array Nat} {x : Str} {t : Tok} {Q : ReTarget → Shared → Prop} (hP : IsPat s.heap P code 0)
    (h : Q { pattern := .ref P, string := .str x t, code, text := x.cps, kind := 0, groups := 0, pos := 0, lim := x.cps.size } s) : wpAny Mo A (reWholeTarget (.ref P) (.str x t)) Q E s := by
  obtain ⟨C, vs, its, n, o, a, b, c, d, e, f, g⟩ := hP.ex
  unfold reWholeTarget
  refine wpAny_bind (wpAny_fieldsOf a rfl ?_)
  refine wpAny_bind (wpAny_pure ?_)
  simp only [b, c, d]
  refine wpAny_bind (wpAny_pure ?_)
  refine wpAny_bind (wp_reRawItems e f ?_)
  rw [g]
  exact wpAny_pure h
theorem wp_wholeB {P : Addr} {code : Array Nat} {x : Array UInt8} {t : Tok} {Q : ReTarget → Shared → Prop} (hP : IsPat s.heap P code 1)
    (h : Q { pattern := .ref P, string := .bytes x t, code, text := x.map (·.toNat), kind := 1, groups := 0, pos := 0, lim := (x.map (·.toNat)).size } s) : wpAny Mo A (reWholeTarget (.ref P) (.bytes x t)) Q E s := by
  obtain ⟨C, vs, its, n, o, a, b, c, d, e, f, g⟩ := hP.ex
  unfold reWholeTarget
  refine wpAny_bind (wpAny_fieldsOf a rfl ?_)
  have e1 : reTextOf (.bytes x t) = pure (x.map (·.toNat), 1) := by
    show (do
      match ← Bytes.bufferQuiet? "_sre" (.bytes x t) with
      | some b => pure (b.map (·.toNat), 1)
      | none => _ : Sem (Array Nat × Nat)) = _
    rw [W.KBy.quiet_eq]
    rfl
  refine wpAny_bind (wpAny_of_eq e1 ?_)
  simp only [b, c, d]
  have e2 : reNoCollectionInside (.bytes x t) 1 = pure () := by
    unfold reNoCollectionInside
    rw [W.KBy.isInstance_eq]
    rfl
  refine wpAny_bind (wpAny_of_eq e2 ?_)
  refine wpAny_bind (wp_reRawItems e f ?_)
  rw [g]
  exact wpAny_pure h
end
section
variable {prog : Program} {w : World} {A : Around} {E : Value → Shared → Prop} {s : Shared}
theorem meets_search_none {P : Addr} {x : Str} {t : Tok} : Meets («re.Pattern.search» ⟨[.ref P, .str x t], []⟩)
    (fun _ R s => IsPat s.heap P code1 0 ∧ noIp x.cps ∧ x.cps.size ≤ 1000 ∧ R (.ok (.ret .none)) s) := by
  refine .of_wp fun prog w A R s hS => ?_
  obtain ⟨hP, hn, hz, h⟩ := hS
  unfold «re.Pattern.search» reTarget
  obtain ⟨C, vs, its, n, o, a, b, c, d, e, f, g⟩ := hP.ex
  simp only [reNamed_search]
  refine wpAny_bind (wpAny_bind (wpAny_pure ?_))
  refine wpAny_bind (wpAny_pure ?_)
  refine wpAny_bind (wpAny_pure ?_)
  refine wpAny_bind (wpAny_fieldsOf a rfl ?_)
  refine wpAny_bind (wpAny_pure ?_)
  simp only [b, c, d]
  refine wpAny_bind (wpAny_pure ?_)
  refine wpAny_bind (wp_reRawItems e f ?_)
  rw [g]
  refine wpAny_pure ?_
  unfold reAnswer
  obtain ⟨k, hk, ho⟩ := search1 x.cps hn
  have hlim : min (2 ^ 63 - 1 : Int).toNat x.cps.size = x.cps.size := by
    have : (2 ^ 63 - 1 : Int).toNat = 9223372036854775807 := rfl
    rw [this]; omega
  have hpos : min (0 : Int).toNat x.cps.size = 0 := by simp
  simp only [hlim, hpos]
  refine wpAny_bind (wp_reRunToEnd (n := k) (by omega) (.inr ⟨ho, rfl⟩) ?_)
  exact wpAny_pure ⟨_, rfl, h⟩
theorem search_none {P : Addr} {x : Str} {t : Tok} {Q : Value → Shared → Prop} (hP : IsPat s.heap P code1 0) (hn : noIp x.cps) (hz : x.cps.size ≤ 1000) (h : Q .none s) :
    wpAny (model prog w) A (call (.builtin "re.Pattern.search") [.ref P, .str x t]) Q E s := by
  obtain ⟨C, vs, its, n, o, a, _⟩ := hP.ex
  exact call_meets RF.slot_search ⟨_, a, rfl⟩ RF.entry_search (RF.args_search _ _) meets_search_none ⟨hP, hn, hz, h⟩
end
end Mine
end
section
open PySem
namespace Mine
open PySem.Sre PySem.Builtin.Re PySem.Builtin PyProof.Rows PySem.W
set_option maxRecDepth 100000

theorem b_of {a b : Nat} (h : a < b) : (decide (a < b)) = true := decide_eq_true h
section
variable {prog : Program} {w : World} {A : Around} {E : Value → Shared → Prop} {s : Shared} {h₀ : Heap} {L : Addr} {m : Str → Option Value} {news : List (Addr × Obj)}
theorem wp_push {D : Addr} {its : Array Value} {n : Nat} {x : Value} {Q : Unit → Shared → Prop} (F : Fr h₀ L s.heap m) (N : News h₀ L s.heap ((D, listOf its n) :: news)) (hne : ∀ p ∈ news, p.1 ≠ D)
    (h : ∀ h', Fr h₀ L h' m → News h₀ L h' ((D, listOf (its.push x) (n + 1)) :: news) → Q () { s with heap := h' }) (hsz : its.size ≤ 1000) : wpAny (model prog w) A (updateSeq D (·.push x)) Q E s := by
  have z := N (D, listOf its n) (.head _)
  have e : Obj.mapSeq (·.push x) (listOf its n) = listOf (its.push x) (n + 1) := mapSeq_push ..
  refine wpAny_updateSeq z.1 rfl ?_ (by rw [sizeLine_eq]; omega) (by rw [sizeLine_eq]; simp; omega)
  have u := news_upd (pre := []) (post := news) F N (fun _ h => nomatch h) hne e rfl
  exact h _ u.1 u.2

theorem codeAny_bt {id : String} {args : Args} {b : Builtin} {R : Result → Shared → Prop} (hb : entryFor table id = some b)
    (h : wpAny (model prog w) (A.under (.builtin id args)) (b args)
      (fun fin s' => match fin with | .done f => R (.ok f) s' | .again c' => c'.quiet = true ∧ codeAny (model prog w) A c' R s') (fun e s' => R (.error e) s') s) :
    codeAny (model prog w) A (.builtin id args) R s := by
  refine codeAny_of_tree ?_
  show wpAny _ _ (match entryFor table id with | some b => b args | none => unsupported ((withoutEnding? id "#data").getD id)) _ _ s
  rw [hb]; exact h

/-- one search that finds -/
theorem loopS_found {P : Addr} {code : Array Nat} {x r : Str} {t tr : Tok} {D : Addr} {k a b st : Nat} {ys : List Str} {vs : List Value} {n : Nat} {R : Result → Shared → Prop}
    (hP : IsPat h₀ P code 0) (F : Fr h₀ L s.heap m) (N : News h₀ L s.heap ((D, listOf vs.toArray n) :: news)) (hne : ∀ p ∈ news, p.1 ≠ D) (hv : StrsAre vs ys) (hl : ys.length ≤ 900)
    (hs : ∃ q, q ≤ 2 ^ 60 ∧ ((forSearch code x.cps 0 k x.cps.size false).runFor q).outcome = some .matched ∧ ((forSearch code x.cps 0 k x.cps.size false).runFor q).start = a ∧ ((forSearch code x.cps 0 k x.cps.size false).runFor q).handed = b)
    (hab : a < b) (hka : k < a) (hx : x.cps.size ≤ 1000)
    (h : ∀ h' tk vs' n' st', Fr h₀ L h' m → News h₀ L h' ((D, listOf vs'.toArray n') :: news) → StrsAre vs' (ys ++ [⟨x.cps.extract k a⟩, r]) →
      codeAny (model prog w) A (.builtin "re.Pattern.sub.loop" ⟨[.ref P, .str x t, .str r tr, .int 0 0, .int 0 0, .int (st' : Nat) 0, .int (b : Nat) 0, .int (b : Nat) 0, .bool false, .ref D, .bool false], []⟩) R { s with heap := h', toks := tk }) :
    codeAny (model prog w) A (.builtin "re.Pattern.sub.loop" ⟨[.ref P, .str x t, .str r tr, .int 0 0, .int 0 0, .int (st : Nat) 0, .int (k : Nat) 0, .int (k : Nat) 0, .bool false, .ref D, .bool false], []⟩) R s := by
  refine codeAny_bt RF.entry_loop ?_
  unfold «re.Pattern.sub.loop»
  refine wpAny_bind (wp_wholeS (hP.keeps F.keep) ?_)
  show wpAny _ _ (reLiteralCannotBeTurned (.str r tr) >>= fun _ => _) _ _ s
  refine wpAny_bind (wpAny_of_eq (a := ()) rfl ?_)
  obtain ⟨q, hq, ho, hsa, hsb⟩ := hs
  show wpAny _ _ (reNextFound _ k false >>= fun _ => _) _ _ s
  refine wpAny_bind (wp_reRunToEnd (n := q) hq (.inl ⟨ho, rfl⟩) ?_)
  simp only [hsa, hsb]
  rw [if_pos (show ((k : Int)).toNat < a from by simpa using hka)]
  have lv : vs.length ≤ 900 := by rw [hv.length]; exact hl
  have ek : ((k : Int)).toNat = k := by simp
  unfold reSlice
  rw [if_pos (show ((0 : Nat) == 0) = true from rfl), ek]
  refine wpAny_bind (wpAny_mkStr ?_ (by show (x.cps.extract k a).size ≤ sizeLine; rw [sizeLine_eq, Array.size_extract]; omega))
  refine wpAny_bind (wp_push F N hne (fun h₁ F₁ N₁ => ?_) (by rw [List.size_toArray]; omega))
  rw [if_pos (show ((0 : Int) == 0) = true from rfl)]
  refine wpAny_bind (wpAny_pure ?_)
  rw [if_pos (show (Value.str r tr != Value.none) = true from rfl)]
  refine wpAny_bind (wp_push F₁ N₁ hne (fun h₂ F₂ N₂ => ?_) (by rw [Array.size_push, List.size_toArray]; omega))
  refine wpAny_pure ⟨plainId_quiet RF.plain_loop _, ?_⟩
  have eb : (b == a) = false := by simp; omega
  rw [eb]
  have e1 : ((st : Int) + 1) = ((st + 1 : Nat) : Int) := by omega
  rw [e1]
  refine h h₂ _ (vs ++ [.str ⟨x.cps.extract k a⟩ s.toks, .str r tr]) _ _ F₂ (by simpa using N₂) ?_
  exact hv.append' (.cons _ _ (.cons _ _ .nil))

/-- the last search, nothing behind it -/
theorem loopS_end {P : Addr} {code : Array Nat} {x r : Str} {t tr : Tok} {D : Addr} {st : Nat} {ys : List Str} {vs : List Value} {n : Nat} {R : Result → Shared → Prop}
    (hP : IsPat h₀ P code 0) (F : Fr h₀ L s.heap m) (N : News h₀ L s.heap ((D, listOf vs.toArray n) :: news)) (hv : StrsAre vs ys) (hne : ys ≠ []) (hsz : (ys.map (·.length)).sum ≤ 10000)
    (hs : ∃ q, q ≤ 2 ^ 60 ∧ ((forSearch code x.cps 0 x.cps.size x.cps.size false).runFor q).outcome = some .failed)
    (h : ∀ h' tk t', Fr h₀ L h' m → News h₀ L h' news → R (.ok (.ret (.str (Txt.join Str.empty ys) t'))) { s with heap := h', toks := tk }) :
    codeAny (model prog w) A (.builtin "re.Pattern.sub.loop" ⟨[.ref P, .str x t, .str r tr, .int 0 0, .int 0 0, .int (st : Nat) 0, .int (x.cps.size : Nat) 0, .int (x.cps.size : Nat) 0, .bool false, .ref D, .bool false], []⟩) R s := by
  refine codeAny_bt RF.entry_loop ?_
  unfold «re.Pattern.sub.loop»
  refine wpAny_bind (wp_wholeS (hP.keeps F.keep) ?_)
  show wpAny _ _ (reLiteralCannotBeTurned (.str r tr) >>= fun _ => _) _ _ s
  refine wpAny_bind (wpAny_of_eq (a := ()) rfl ?_)
  obtain ⟨q, hq, ho⟩ := hs
  show wpAny _ _ (reNextFound _ x.cps.size false >>= fun _ => _) _ _ s
  refine wpAny_bind (wp_reRunToEnd (n := q) hq (.inr ⟨ho, rfl⟩) ?_)
  dsimp only
  rw [if_neg (by simp)]
  unfold reSlice
  rw [if_pos (show ((0 : Nat) == 0) = true from rfl)]
  refine wpAny_bind (wpAny_mkStr ?_ (by show (x.cps.extract 0 0).size ≤ sizeLine; rw [sizeLine_eq, Array.size_extract]; omega))
  have z := N (D, listOf vs.toArray n) (.head _)
  refine wpAny_bind (wpAny_seqItems z.1 rfl ?_)
  have hvs : vs.toArray.isEmpty = false := by
    have : vs.length ≠ 0 := by rw [hv.length]; exact fun e => hne (List.length_eq_zero_iff.mp e)
    simpa using this
  show wpAny _ _ (if vs.toArray.isEmpty = true then _ else _) _ _ _
  rw [hvs, if_neg (by simp)]
  refine wpAny_bind ?_
  show wpAny _ _ (call (.builtin "str.join") _) _ _ _
  refine join_list (ys := ys) ⟨_, z.1, rfl, n, rfl⟩ (by simpa using hv) (by have e9 : (⟨x.cps.extract 0 0⟩ : Str).length = 0 := (by simp [Str.length]); rw [e9]; omega) ?_
  intro t' k'
  rw [if_neg (by simp)]
  have e0 : (⟨x.cps.extract 0 0⟩ : Str) = Str.empty := by simp [Str.empty]
  rw [e0]
  exact wpAny_pure (h _ _ _ F fun p hp => N p (.tail _ hp))
end
end Mine
end
section
open PySem
namespace Mine
open PySem.Sre PySem.Builtin.Re PySem.Builtin PyProof.Rows PySem.W
set_option maxRecDepth 100000

def crlf : Str := ⟨#[13, 10]⟩
def mailSrc (p : List Nat) : List Nat := p.flatMap fun c => [c, 10]
def mailL (p : List Nat) : List Nat := p.flatMap fun c => [c, 13, 10]
def bits (p : List Nat) : List Str := p.flatMap fun c => [⟨#[c]⟩, crlf]
theorem mailSrc_length (p : List Nat) : (mailSrc p).length = 2 * p.length := by
  induction p with
  | nil => rfl
  | cons c p ih => simp only [mailSrc, List.flatMap_cons, List.length_append, List.length_cons, List.length_nil] at ih ⊢; omega
theorem mailSrc_append (p q : List Nat) : mailSrc (p ++ q) = mailSrc p ++ mailSrc q := by simp [mailSrc]
theorem bits_append (p q : List Nat) : bits (p ++ q) = bits p ++ bits q := by simp [bits]
theorem getD_at (a b : List Nat) (c : Nat) (k : Nat) (hk : k = a.length) : (a ++ c :: b).toArray.getD k 0 = c := by
  subst hk; simp
theorem getD_at1 (a b : List Nat) (c d : Nat) (k : Nat) (hk : k = a.length + 1) : (a ++ c :: d :: b).toArray.getD k 0 = d := by
  subst hk; simp
theorem join_toList (sep : Str) : ∀ (ys : List Str) (y : Str), (Txt.join sep (y :: ys)).cps.toList = y.cps.toList ++ ys.flatMap (fun z => sep.cps.toList ++ z.cps.toList)
  | [], y => by show (_root_.PySem.Builtin.Str.glued sep [y]).cps.toList = _; rw [StrLaws.glued_eq_join]; simp [Str.join]
  | z :: ys, y => by
    have ih := join_toList sep ys z
    have e : ∀ a, Txt.join sep a = Str.join sep a := fun a => StrLaws.glued_eq_join sep a
    rw [e] at ih ⊢
    show ((y ++ sep ++ Str.join sep (z :: ys)) : Str).cps.toList = _
    have ea : ∀ a b : Str, (a ++ b).cps = a.cps ++ b.cps := fun _ _ => rfl
    rw [ea, ea, Array.toList_append, Array.toList_append, ih]
    simp
theorem join_empty (ys : List Str) : Txt.join Str.empty ys = ⟨(ys.flatMap (·.cps.toList)).toArray⟩ := by
  cases ys with
  | nil => rfl
  | cons y ys =>
    have h := join_toList Str.empty ys y
    have : (Txt.join Str.empty (y :: ys)) = ⟨(Txt.join Str.empty (y :: ys)).cps.toList.toArray⟩ := by simp
    rw [this, h]
    simp [Str.empty]
theorem join_bits (p : List Nat) : Txt.join Str.empty (bits p) = ⟨(mailL p).toArray⟩ := by
  rw [join_empty]
  congr 2
  induction p with
  | nil => rfl
  | cons c p ih =>
    show List.flatMap _ ([⟨#[c]⟩, crlf] ++ bits p) = [c, 13, 10] ++ mailL p
    rw [List.flatMap_append, ih]
    rfl
theorem bits_sum (p : List Nat) : ((bits p).map (·.length)).sum = 3 * p.length := by
  induction p with
  | nil => rfl
  | cons c p ih =>
    show (List.map _ ([⟨#[c]⟩, crlf] ++ bits p)).sum = _
    rw [List.map_append, List.sum_append, ih, List.length_cons]
    simp [crlf, Str.length]; omega
section
variable {prog : Program} {w : World} {A : Around} {E : Value → Shared → Prop} {h₀ : Heap} {L : Addr} {m : Str → Option Value} {news : List (Addr × Obj)}
theorem loopS_all {P : Addr} {x : Str} {t tr : Tok} {D : Addr} {R : Result → Shared → Prop} (hP : IsPat h₀ P code3 0) (hne : ∀ p ∈ news, p.1 ≠ D) :
    ∀ (rest pre : List Nat) (s : Shared) (st : Nat) (vs : List Value) (n : Nat), (∀ c ∈ pre ++ rest, c ≠ 10 ∧ c ≠ 13) → pre ++ rest ≠ [] → (pre ++ rest).length ≤ 100 → x.cps = (mailSrc (pre ++ rest)).toArray →
      Fr h₀ L s.heap m → News h₀ L s.heap ((D, listOf vs.toArray n) :: news) → StrsAre vs (bits pre) →
      (∀ h' tk t', Fr h₀ L h' m → News h₀ L h' news → R (.ok (.ret (.str ⟨(mailL (pre ++ rest)).toArray⟩ t'))) { s with heap := h', toks := tk }) →
      codeAny (model prog w) A (.builtin "re.Pattern.sub.loop" ⟨[.ref P, .str x t, .str crlf tr, .int 0 0, .int 0 0, .int (st : Nat) 0, .int (2 * pre.length : Nat) 0, .int (2 * pre.length : Nat) 0, .bool false, .ref D, .bool false], []⟩) R s
  | [], pre, s, st, vs, n, hc, h0, hl, hx, F, N, hv, h => by
    rw [List.append_nil] at *
    have e : x.cps.size = 2 * pre.length := by rw [hx, List.size_toArray, mailSrc_length]
    rw [← e]
    refine loopS_end hP F N hv (by cases pre with | nil => exact absurd rfl h0 | cons a b => simp [bits]) ?_ ?_ (by rw [join_bits]; exact h)
    · rw [bits_sum]; omega
    · obtain ⟨q, hq, ho⟩ := from3_none x.cps x.cps.size x.cps.size (Nat.le_refl _) (fun i h1 h2 => absurd h1 (by omega))
      exact ⟨q, by omega, ho⟩
  | c :: rest, pre, s, st, vs, n, hc, h0, hl, hx, F, N, hv, h => by
    have hc' := hc c (by simp)
    have es : x.cps.size = 2 * (pre.length + (rest.length + 1)) := by rw [hx, List.size_toArray, mailSrc_length]; simp
    have el : (mailSrc pre).length = 2 * pre.length := mailSrc_length pre
    have ex : x.cps = (mailSrc pre ++ c :: 10 :: mailSrc rest).toArray := by rw [hx, mailSrc_append]; rfl
    have hb : (bits pre).length ≤ 900 := by
      have : ∀ p : List Nat, (bits p).length = 2 * p.length := fun p => by
        induction p with
        | nil => rfl
        | cons c p ih => simp only [bits, List.flatMap_cons, List.length_append, List.length_cons, List.length_nil] at ih ⊢; omega
      rw [this]; rw [List.length_append] at hl; omega
    have e1 : x.cps.getD (2 * pre.length) 0 = c := by rw [ex]; exact getD_at _ _ _ _ el.symm
    have e2 : x.cps.getD (2 * pre.length + 1) 0 = 10 := by rw [ex]; exact getD_at1 _ _ _ _ _ (by rw [el])
    refine loopS_found (a := 2 * pre.length + 1) (b := 2 * pre.length + 1 + 1) hP F N hne hv hb ?_ (by omega) (by omega) (by rw [es]; simp only [List.length_append, List.length_cons] at hl; omega) ?_
    · obtain ⟨q, hq, r⟩ := search3_some x.cps x.cps.size (2 * pre.length) 1 (by omega) (fun i h1 h2 => by
        obtain rfl : i = 2 * pre.length := by omega
        rw [e1]; exact ⟨by simp [hc'.1], by simp [hc'.2]⟩) e2
      exact ⟨q, by omega, r⟩
    · intro h₁ tk vs' n' st' F₁ N₁ hv'
      have ee : 2 * pre.length + 1 + 1 = 2 * (pre ++ [c]).length := by simp; omega
      rw [ee]
      have ex1 : x.cps.extract (2 * pre.length) (2 * pre.length + 1) = #[c] := by
        rw [ex]
        apply Array.ext'
        simp [← el]
      refine loopS_all hP hne rest (pre ++ [c]) _ st' vs' n' (by simpa using hc) (by simp) (by simpa using hl) (by simpa using hx) F₁ N₁ ?_ ?_
      · rw [ex1] at hv'
        rw [bits_append]
        exact hv'
      · intro h₂ tk₂ t₂ F₂ N₂
        have := h h₂ tk₂ t₂ F₂ N₂
        simpa using this

theorem meets_sub_str {P : Addr} {t tr : Tok} {p : List Nat} {L : Addr} {m : Str → Option Value} {news : List (Addr × Obj)} {h₀ : Heap} : Meets («re.Pattern.sub» ⟨[.ref P, .str crlf tr, .str ⟨(mailSrc p).toArray⟩ t], []⟩)
    (fun _ R s => IsPat h₀ P code3 0 ∧ (∀ c ∈ p, c ≠ 10 ∧ c ≠ 13) ∧ p ≠ [] ∧ p.length ≤ 100 ∧ Fr h₀ L s.heap m ∧ News h₀ L s.heap news ∧
      ∀ h' tk t', Fr h₀ L h' m → News h₀ L h' news → R (.ok (.ret (.str ⟨(mailL p).toArray⟩ t'))) { s with heap := h', toks := tk }) := fun prog w A R s hS => by
  obtain ⟨hP, hc, h0, hl, F, N, h⟩ := hS
  unfold «re.Pattern.sub» reSubstitute
  simp only [reNamed_sub]
  refine wpAny_bind (wpAny_pure ?_)
  refine wpAny_bind (wpAny_pure ?_)
  refine wpAny_bind (wpAny_specialOf (T := "str") (typeIs_str _ _ _) RF.nocall_str ?_)
  rw [if_neg (by simp)]
  show wpAny _ _ (asStr? (.str crlf tr) >>= fun _ => _) _ _ _
  refine wpAny_bind (wpAny_pure ?_)
  dsimp only
  refine wpAny_bind (wpAny_pure ?_)
  rw [if_neg (by simp), if_pos (show (!crlf.cps.contains 92) = true by simp [crlf])]
  refine wpAny_bind (wpAny_pure ?_)
  refine wpAny_bind (wpAny_holding (wp_wholeS (hP.keeps F.keep) ?_))
  rw [if_neg (by simp)]
  refine wpAny_bind (wpAny_newObj_type ?_)
  have e0 : (rawInt 0) = .int ((0 : Nat) : Int) 0 := rfl
  refine wpAny_pure ⟨plainId_quiet RF.plain_loop _, ?_⟩
  refine loopS_all hP (fun q hq => Nat.ne_of_lt (Heap.lt_size (N q hq).1)) p [] _ 0 [] 0 (by simpa using hc) (by simpa using h0) (by simpa using hl) rfl (F.push _) (N.push F _) .nil ?_
  exact h
theorem sub_str {P : Addr} {t tr : Tok} {p : List Nat} {L : Addr} {m : Str → Option Value} {news : List (Addr × Obj)} {h₀ : Heap} {s : Shared} {Q : Value → Shared → Prop} (hP : IsPat h₀ P code3 0) (hc : ∀ c ∈ p, c ≠ 10 ∧ c ≠ 13) (h0 : p ≠ []) (hl : p.length ≤ 100)
    (F : Fr h₀ L s.heap m) (N : News h₀ L s.heap news) (h : ∀ h' tk t', Fr h₀ L h' m → News h₀ L h' news → Q (.str ⟨(mailL p).toArray⟩ t') { s with heap := h', toks := tk }) :
    wpAny (model prog w) A (call (.builtin "re.Pattern.sub") [.ref P, .str crlf tr, .str ⟨(mailSrc p).toArray⟩ t]) Q E s := by
  obtain ⟨C, vs, its, n, o, a, _⟩ := (hP.keeps F.keep).ex
  exact call_meets RF.slot_sub ⟨_, a, rfl⟩ RF.entry_sub (RF.args_sub _ _ _) meets_sub_str ⟨hP, hc, h0, hl, F, N, h⟩
end
end Mine
end
section
open PySem
namespace Mine
open PySem.Sre PySem.Builtin.Re PySem.Builtin PyProof.Rows PySem.W
set_option maxRecDepth 100000
namespace RF
theorem slot_bjoin : Slot "bytes" "join" "bytes.join" :=
  .of (owner := "bytes") (n := "join") (by rw [typeLookup_type, builtinLookup_eq_fast]; kernel_rfl) (by decide +kernel) (by decide +kernel) (by decide +kernel)
    (by first | exact .inl (by decide +kernel) | exact .inr (by decide +kernel)) (by rw [isSubtype_type]; kernel_rfl)
theorem entry_bjoin : entryFor table "bytes.join" = some Builtin.«bytes.join» := entryFor_of_tree (by kernel_rfl)
theorem args_bjoin (a b : Value) : argsOk "bytes.join" ⟨[a, b], []⟩ := by
  unfold argsOk; rw [signature?_of (id := "bytes.join") (n := ['n', 'i', 'o', 'j']) (o := ['s', 'e', 't', 'y', 'b']) (by kernel_rfl) FB.owner_bytes]; kernel_rfl
end RF
theorem take_eq {b : Array UInt8} {t : Tok} {id : String} : Bytes.takeBufferQuiet? id (.bytes b t) 0 = pure (some (b, none)) := by
  unfold Bytes.takeBufferQuiet? Bytes.takeBuffer?
  rw [KBy.special_eq KBy.look_buffer]
  simp only [pure_bind]
  have e9 : ((0 : Int) == Bytes.fullReadOnly) = false := by decide
  rw [KBy.own_buffer, e9, KBy.buffer_eq]
  kernel_rfl
section
variable {Mo : Model} {A : Around} {E : Value → Shared → Prop} {s : Shared}
theorem wp_joinLetGo : ∀ (taken : List (Value × Option Value)) (keep : List Value) {Q : Unit → Shared → Prop}, (∀ p ∈ taken, p.2 = none) → Q () s → wpAny Mo A (Bytes.joinLetGo taken keep) Q E s
  | [], _, _, _, h => wpAny_pure h
  | (x, w) :: rest, keep, Q, hw, h => by
    have : w = none := hw (x, w) (.head _)
    subst this
    unfold Bytes.joinLetGo
    exact wpAny_bind (wpAny_letGo (wp_joinLetGo rest keep (fun p hp => hw p (.tail _ hp)) h))
end

def BItems : List (Array UInt8 × Tok) → List Value := fun l => l.map fun p => .bytes p.1 p.2
section
variable {Mo : Model} {A : Around} {E : Value → Shared → Prop} {s : Shared}
theorem wp_seqD {D : Addr} {vs : List Value} {n : Nat} {Q : Option (Array Value) → Shared → Prop} (h : s.heap.get? D = some (listOf vs.toArray n)) (hq : Q (some vs.toArray) s) : wpAny Mo A (seqItems? (.ref D)) Q E s := wpAny_seqItems h rfl hq
end
theorem meets_bjoin {D : Addr} {l : List (Array UInt8 × Tok)} {t : Tok} {n : Nat} : Meets («bytes.join» ⟨[.bytes #[] t, .ref D], []⟩)
    (fun _ R s => s.heap.get? D = some (listOf (BItems l).toArray n) ∧ 2 ≤ l.length ∧ l.length ≤ 3 ∧ (l.map (·.1.size)).sum ≤ 1000 ∧ ∀ t', R (.ok (.ret (.bytes (Bytes.joined #[] (l.map (·.1))) t'))) { s with toks := s.toks + 1 }) := by
  refine .of_wp fun prog w A R s hS => ?_
  obtain ⟨hD, h2, h3, hz, h⟩ := hS
  unfold «bytes.join» Bytes.joinM
  refine wpAny_bind (wpAny_pure ?_)
  dsimp only
  rw [if_pos (show (Bytes.Kind.bytes == Bytes.Kind.bytes) = true from rfl)]
  refine wpAny_bind ?_
  unfold Bytes.joinItems
  refine wpAny_bind (wpAny_typeOf (T := "list") ⟨_, hD, rfl⟩ ?_)
  rw [if_pos (by decide)]
  refine wpAny_pure ?_
  refine wpAny_bind (wp_seqD hD ?_)
  dsimp only
  rw [if_pos (show (Bytes.Kind.bytes == Bytes.Kind.bytes) = true from rfl)]
  match l, h2, h3 with
  | [(a, ta), (b, tb)], _, _ =>
    refine wpAny_bind ?_
    show wpAny _ _ (forIn [:2] _ _) _ _ _
    rw [Std.Legacy.Range.forIn_eq_forIn_range']
    show wpAny _ _ (forIn [0, 1] _ _) _ _ _
    rw [List.forIn_cons]
    refine wpAny_bind ?_
    refine wpAny_bind (wp_seqD hD ?_)
    dsimp only
    rw [if_neg (by exact Bool.false_ne_true)]
    refine wpAny_bind (wpAny_holding (wpAny_of_eq (take_eq (b := a) (t := ta)) ?_))
    dsimp only
    refine wpAny_bind (wp_seqD hD ?_)
    dsimp only
    rw [if_neg (by simp)]
    refine wpAny_pure ?_
    dsimp only
    rw [List.forIn_cons]
    refine wpAny_bind ?_
    refine wpAny_bind (wp_seqD hD ?_)
    dsimp only
    rw [if_neg (by exact Bool.false_ne_true)]
    refine wpAny_bind (wpAny_holding (wpAny_of_eq (take_eq (b := b) (t := tb)) ?_))
    dsimp only
    refine wpAny_bind (wp_seqD hD ?_)
    dsimp only
    rw [if_neg (by simp)]
    refine wpAny_pure ?_
    dsimp only
    rw [List.forIn_nil]
    refine wpAny_pure ?_
    dsimp only
    refine wpAny_bind (wpAny_pure ?_)
    rw [if_neg (by simp [Bytes.tooLong, sizeLine_eq] at hz ⊢; omega)]
    show wpAny _ _ (mkBytes _ >>= fun _ => _) _ _ _
    unfold mkBytes
    rw [if_neg (by rw [sizeLine_eq]; simp [Bytes.joined] at hz ⊢; omega)]
    refine wpAny_bind (wpAny_bind (wpAny_fresh (wpAny_pure ?_)))
    refine wpAny_bind (wpAny_holding (wpAny_point ?_))
    refine wpAny_bind (wp_joinLetGo _ _ (by intro p hp; simp at hp; rcases hp with rfl | rfl <;> rfl) ?_)
    exact wpAny_pure ⟨_, rfl, h _⟩
  | [(a, ta), (b, tb), (c, tc)], _, _ =>
    refine wpAny_bind ?_
    show wpAny _ _ (forIn [:3] _ _) _ _ _
    rw [Std.Legacy.Range.forIn_eq_forIn_range']
    show wpAny _ _ (forIn [0, 1, 2] _ _) _ _ _
    rw [List.forIn_cons]
    refine wpAny_bind ?_
    refine wpAny_bind (wp_seqD hD ?_)
    dsimp only
    rw [if_neg (by exact Bool.false_ne_true)]
    refine wpAny_bind (wpAny_holding (wpAny_of_eq (take_eq (b := a) (t := ta)) ?_))
    dsimp only
    refine wpAny_bind (wp_seqD hD ?_)
    dsimp only
    rw [if_neg (by simp)]
    refine wpAny_pure ?_
    dsimp only
    rw [List.forIn_cons]
    refine wpAny_bind ?_
    refine wpAny_bind (wp_seqD hD ?_)
    dsimp only
    rw [if_neg (by exact Bool.false_ne_true)]
    refine wpAny_bind (wpAny_holding (wpAny_of_eq (take_eq (b := b) (t := tb)) ?_))
    dsimp only
    refine wpAny_bind (wp_seqD hD ?_)
    dsimp only
    rw [if_neg (by simp)]
    refine wpAny_pure ?_
    dsimp only
    rw [List.forIn_cons]
    refine wpAny_bind ?_
    refine wpAny_bind (wp_seqD hD ?_)
    dsimp only
    rw [if_neg (by exact Bool.false_ne_true)]
    refine wpAny_bind (wpAny_holding (wpAny_of_eq (take_eq (b := c) (t := tc)) ?_))
    dsimp only
    refine wpAny_bind (wp_seqD hD ?_)
    dsimp only
    rw [if_neg (by simp)]
    refine wpAny_pure ?_
    dsimp only
    rw [List.forIn_nil]
    refine wpAny_pure ?_
    dsimp only
    refine wpAny_bind (wpAny_pure ?_)
    rw [if_neg (by simp [Bytes.tooLong, sizeLine_eq] at hz ⊢; omega)]
    show wpAny _ _ (mkBytes _ >>= fun _ => _) _ _ _
    unfold mkBytes
    rw [if_neg (by rw [sizeLine_eq]; simp [Bytes.joined] at hz ⊢; omega)]
    refine wpAny_bind (wpAny_bind (wpAny_fresh (wpAny_pure ?_)))
    refine wpAny_bind (wpAny_holding (wpAny_point ?_))
    refine wpAny_bind (wp_joinLetGo _ _ (by intro p hp; simp at hp; rcases hp with rfl | rfl | rfl <;> rfl) ?_)
    exact wpAny_pure ⟨_, rfl, h _⟩

section
variable {prog : Program} {w : World} {A : Around} {E : Value → Shared → Prop} {s : Shared} {h₀ : Heap} {L : Addr} {m : Str → Option Value} {news : List (Addr × Obj)}
theorem bjoin {D : Addr} {l : List (Array UInt8 × Tok)} {t : Tok} {n : Nat} {Q : Value → Shared → Prop} (hD : s.heap.get? D = some (listOf (BItems l).toArray n)) (h2 : 2 ≤ l.length) (h3 : l.length ≤ 3) (hz : (l.map (·.1.size)).sum ≤ 1000)
    (h : ∀ t' k, Q (.bytes (Bytes.joined #[] (l.map (·.1))) t') { s with toks := k }) : wpAny (model prog w) A (call (.builtin "bytes.join") [.bytes #[] t, .ref D]) Q E s :=
  call_meets RF.slot_bjoin (typeIs_bytes _ _ _) RF.entry_bjoin (RF.args_bjoin _ _) meets_bjoin ⟨hD, h2, h3, hz, fun t' => h t' _⟩

theorem text_extract (x : Array UInt8) (k a : Nat) : ((x.map (·.toNat)).extract k a).map (·.toUInt8) = x.extract k a := by
  have e : (x.map (·.toNat)).map (·.toUInt8) = x := by
    rw [Array.map_map]
    conv => rhs; rw [← Array.map_id x]
    congr 1
    funext c
    simp
  have e2 : ((x.map (·.toNat)).extract k a).map (·.toUInt8) = ((x.map (·.toNat)).map (·.toUInt8)).extract k a := by
    apply Array.ext'
    simp only [Array.toList_map, Array.toList_extract, List.extract_eq_take_drop, List.map_take, List.map_drop]
  rw [e2, e]
theorem loopB_found {P : Addr} {code : Array Nat} {x r : Array UInt8} {t tr : Tok} {D : Addr} {k a b st : Nat} {l : List (Array UInt8 × Tok)} {n : Nat} {R : Result → Shared → Prop}
    (hP : IsPat h₀ P code 1) (F : Fr h₀ L s.heap m) (N : News h₀ L s.heap ((D, listOf (BItems l).toArray n) :: news)) (hne : ∀ p ∈ news, p.1 ≠ D) (hl : l.length ≤ 900)
    (hs : ∃ q, q ≤ 2 ^ 60 ∧ ((forSearch code (x.map (·.toNat)) 0 k (x.map (·.toNat)).size false).runFor q).outcome = some .matched ∧ ((forSearch code (x.map (·.toNat)) 0 k (x.map (·.toNat)).size false).runFor q).start = a ∧ ((forSearch code (x.map (·.toNat)) 0 k (x.map (·.toNat)).size false).runFor q).handed = b)
    (hab : a < b) (hka : k < a) (hx : x.size ≤ 1000)
    (h : ∀ h' tk t' n' st', Fr h₀ L h' m → News h₀ L h' ((D, listOf (BItems (l ++ [(x.extract k a, t'), (r, tr)])).toArray n') :: news) →
      codeAny (model prog w) A (.builtin "re.Pattern.sub.loop" ⟨[.ref P, .bytes x t, .bytes r tr, .int 0 0, .int 0 0, .int (st' : Nat) 0, .int (b : Nat) 0, .int (b : Nat) 0, .bool false, .ref D, .bool false], []⟩) R { s with heap := h', toks := tk }) :
    codeAny (model prog w) A (.builtin "re.Pattern.sub.loop" ⟨[.ref P, .bytes x t, .bytes r tr, .int 0 0, .int 0 0, .int (st : Nat) 0, .int (k : Nat) 0, .int (k : Nat) 0, .bool false, .ref D, .bool false], []⟩) R s := by
  refine codeAny_bt RF.entry_loop ?_
  unfold «re.Pattern.sub.loop»
  refine wpAny_bind (wp_wholeB (hP.keeps F.keep) ?_)
  have el : reLiteralCannotBeTurned (.bytes r tr) = pure () := by
    unfold reLiteralCannotBeTurned
    rw [KBy.isInstance_eq]
    rfl
  show wpAny _ _ (reLiteralCannotBeTurned (.bytes r tr) >>= fun _ => _) _ _ s
  refine wpAny_bind (wpAny_of_eq el ?_)
  obtain ⟨q, hq, ho, hsa, hsb⟩ := hs
  show wpAny _ _ (reNextFound _ k false >>= fun _ => _) _ _ s
  refine wpAny_bind (wp_reRunToEnd (n := q) hq (.inl ⟨ho, rfl⟩) ?_)
  simp only [hsa, hsb]
  rw [if_pos (show ((k : Int)).toNat < a from by simpa using hka)]
  have lv : (BItems l).length ≤ 900 := by simpa [BItems] using hl
  have ek : ((k : Int)).toNat = k := by simp
  unfold reSlice
  rw [if_neg (show ¬ ((1 : Nat) == 0) = true from by decide), ek, text_extract]
  refine wpAny_bind ?_
  unfold mkBytes
  rw [if_neg (by rw [sizeLine_eq, Array.size_extract]; omega)]
  refine wpAny_bind (wpAny_fresh (wpAny_pure ?_))
  refine wpAny_bind (wp_push F N hne (fun h₁ F₁ N₁ => ?_) (by rw [List.size_toArray]; omega))
  rw [if_pos (show ((0 : Int) == 0) = true from rfl)]
  refine wpAny_bind (wpAny_pure ?_)
  rw [if_pos (show (Value.bytes r tr != Value.none) = true from rfl)]
  refine wpAny_bind (wp_push F₁ N₁ hne (fun h₂ F₂ N₂ => ?_) (by rw [Array.size_push, List.size_toArray]; omega))
  refine wpAny_pure ⟨plainId_quiet RF.plain_loop _, ?_⟩
  have eb : (b == a) = false := by simp; omega
  rw [eb]
  have e1 : ((st : Int) + 1) = ((st + 1 : Nat) : Int) := by omega
  rw [e1]
  exact h h₂ _ s.toks _ _ F₂ (by simpa [BItems] using N₂)

/-- the last search; something or nothing behind it -/
theorem loopB_end {P : Addr} {code : Array Nat} {x r : Array UInt8} {t tr : Tok} {D : Addr} {k st : Nat} {l : List (Array UInt8 × Tok)} {n : Nat} {R : Result → Shared → Prop}
    (hP : IsPat h₀ P code 1) (F : Fr h₀ L s.heap m) (N : News h₀ L s.heap ((D, listOf (BItems l).toArray n) :: news)) (hne : ∀ p ∈ news, p.1 ≠ D) (hl : l.length = 2) (hsz : (l.map (·.1.size)).sum ≤ 400)
    (hs : ∃ q, q ≤ 2 ^ 60 ∧ ((forSearch code (x.map (·.toNat)) 0 k (x.map (·.toNat)).size false).runFor q).outcome = some .failed) (hk : k ≤ x.size) (hx : x.size ≤ 400)
    (h : ∀ h' tk t', Fr h₀ L h' m → News h₀ L h' news → R (.ok (.ret (.bytes (Bytes.joined #[] (l.map (·.1)) ++ x.extract k x.size) t'))) { s with heap := h', toks := tk }) :
    codeAny (model prog w) A (.builtin "re.Pattern.sub.loop" ⟨[.ref P, .bytes x t, .bytes r tr, .int 0 0, .int 0 0, .int (st : Nat) 0, .int (k : Nat) 0, .int (k : Nat) 0, .bool false, .ref D, .bool false], []⟩) R s := by
  refine codeAny_bt RF.entry_loop ?_
  unfold «re.Pattern.sub.loop»
  refine wpAny_bind (wp_wholeB (hP.keeps F.keep) ?_)
  have el : reLiteralCannotBeTurned (.bytes r tr) = pure () := by
    unfold reLiteralCannotBeTurned
    rw [KBy.isInstance_eq]
    rfl
  show wpAny _ _ (reLiteralCannotBeTurned (.bytes r tr) >>= fun _ => _) _ _ s
  refine wpAny_bind (wpAny_of_eq el ?_)
  obtain ⟨q, hq, ho⟩ := hs
  show wpAny _ _ (reNextFound _ k false >>= fun _ => _) _ _ s
  refine wpAny_bind (wp_reRunToEnd (n := q) hq (.inr ⟨ho, rfl⟩) ?_)
  dsimp only
  have ek : ((k : Int)).toNat = k := by simp
  rw [ek]
  have tail : ∀ (s' : Shared) (l' : List (Array UInt8 × Tok)) (n' : Nat), (s' = { s with heap := s'.heap, toks := s'.toks }) → Fr h₀ L s'.heap m → News h₀ L s'.heap ((D, listOf (BItems l').toArray n') :: news) → 2 ≤ l'.length → l'.length ≤ 3 → (l'.map (·.1.size)).sum ≤ 1000 →
      Bytes.joined #[] (l'.map (·.1)) = Bytes.joined #[] (l.map (·.1)) ++ x.extract k x.size →
      wpAny (model prog w) (A.under (.builtin "re.Pattern.sub.loop" ⟨[.ref P, .bytes x t, .bytes r tr, .int 0 0, .int 0 0, .int (st : Nat) 0, .int (k : Nat) 0, .int (k : Nat) 0, .bool false, .ref D, .bool false], []⟩)) (do
          let joiner ← reSlice (x.map (·.toNat)) 1 0 0
          let text ← if ((← seqItems? (.ref D)).getD #[]).isEmpty then pure joiner
            else call (.builtin (if (1 : Nat) == 0 then "str.join" else "bytes.join")) [joiner, .ref D]
          if false = true then ret (← holding [text] do newTuple [text, ← mkInt st]) else ret text)
        (fun fin s' => match fin with | .done f => R (.ok f) s' | .again c' => c'.quiet = true ∧ codeAny (model prog w) A c' R s') (fun e s' => R (.error e) s') s' := by
    intro s' l' n' hs' F' N' h2 h3 hz he
    unfold reSlice
    rw [if_neg (show ¬ ((1 : Nat) == 0) = true from by decide)]
    refine wpAny_bind ?_
    unfold mkBytes
    rw [if_neg (by rw [sizeLine_eq]; simp)]
    refine wpAny_bind (wpAny_fresh (wpAny_pure ?_))
    have z := N' (D, listOf (BItems l').toArray n') (.head _)
    refine wpAny_bind (wpAny_seqItems z.1 rfl ?_)
    have hvs : (BItems l').toArray.isEmpty = false := by
      have : l' ≠ [] := fun e => by rw [e] at h2; simp at h2
      simpa [BItems] using this
    show wpAny _ _ (if (BItems l').toArray.isEmpty = true then _ else _) _ _ _
    rw [hvs, if_neg (by simp)]
    refine wpAny_bind ?_
    show wpAny _ _ (call (.builtin "bytes.join") [.bytes (((x.map (·.toNat)).extract 0 0).map (·.toUInt8)) _, _]) _ _ _
    have e0 : ((x.map (·.toNat)).extract 0 0).map (·.toUInt8) = #[] := by simp
    rw [e0]
    refine bjoin (l := l') (n := n') z.1 h2 h3 hz ?_
    intro t' k'
    dsimp only
    rw [if_neg (by simp)]
    rw [he]
    have := h s'.heap k' t' F' (fun p hp => N' p (.tail _ hp))
    refine wpAny_pure ?_
    rw [hs']
    exact this
  by_cases hlt : k < x.size
  · rw [if_pos (by simpa using hlt)]
    refine wpAny_bind ?_
    unfold reSlice
    rw [if_neg (show ¬ ((1 : Nat) == 0) = true from by decide), text_extract]
    unfold mkBytes
    rw [if_neg (by rw [sizeLine_eq, Array.size_extract]; simp; omega)]
    refine wpAny_bind (wpAny_fresh (wpAny_pure ?_))
    refine wpAny_bind (wp_push F N hne (fun h₁ F₁ N₁ => ?_) (by rw [List.size_toArray]; simp [BItems]; omega))
    have := tail { s with heap := h₁, toks := s.toks + 1 } (l ++ [(x.extract k (x.map (·.toNat)).size, s.toks)]) (n + 1) rfl F₁ (by simpa [BItems] using N₁) (by simp; omega) (by simp; omega)
      (by simp at hsz ⊢; omega) (by
        match l, hl with
        | [(a, ta), (b, tb)], _ => simp [Bytes.joined])
    exact this
  · rw [if_neg (by simpa using hlt)]
    have : x.extract k x.size = #[] := by simp; omega
    exact tail s l n rfl F N (by omega) (by omega) (by omega) (by rw [this]; simp)
end
end Mine
end
section
open PySem
namespace Mine
open PySem.Sre PySem.Builtin.Re PySem.Builtin PyProof.Rows PySem.W
set_option maxRecDepth 100000
def dd : Array UInt8 := #[46, 46]
abbrev xx (u r : List UInt8) : Array UInt8 := (u ++ [10] ++ 46 :: r).toArray
abbrev tx (u r : List UInt8) : Array Nat := (xx u r).map (·.toNat)
section
variable {prog : Program} {w : World} {A : Around} {E : Value → Shared → Prop} {h₀ : Heap} {L : Addr} {m : Str → Option Value} {news : List (Addr × Obj)}
theorem getDm (l : List UInt8) (i : Nat) (c : UInt8) (h : l[i]? = some c) : ((l.toArray.map (·.toNat)) : Array Nat).getD i 0 = c.toNat := by
  simp [h]
theorem meets_sub_bytes {P : Addr} {t tr : Tok} {u r : List UInt8} {h₀ : Heap} {L : Addr} {m : Str → Option Value} {news : List (Addr × Obj)} : Meets («re.Pattern.sub» ⟨[.ref P, .bytes dd tr, .bytes (u ++ [10] ++ 46 :: r).toArray t], []⟩)
    (fun _ R s => IsPat h₀ P code2 1 ∧ (∀ c ∈ u, c ≠ 46) ∧ (∀ c ∈ r, c ≠ 10) ∧ (u ++ r).length ≤ 100 ∧ Fr h₀ L s.heap m ∧ News h₀ L s.heap news ∧
      ∀ h' tk t', Fr h₀ L h' m → News h₀ L h' news → R (.ok (.ret (.bytes (u ++ [10] ++ 46 :: 46 :: r).toArray t'))) { s with heap := h', toks := tk }) := fun prog w A R s hS => by
  obtain ⟨hP, hc, hr, hl, F, N, h⟩ := hS
  unfold «re.Pattern.sub» reSubstitute
  simp only [reNamed_sub]
  refine wpAny_bind (wpAny_pure ?_)
  refine wpAny_bind (wpAny_pure ?_)
  refine wpAny_bind (wpAny_specialOf (T := "bytes") (typeIs_bytes _ _ _) RF.nocall_bytes ?_)
  rw [if_neg (by simp)]
  show wpAny _ _ (asStr? (.bytes dd tr) >>= fun _ => _) _ _ _
  refine wpAny_bind (wpAny_bind (wpAny_pure (wpAny_pure ?_)))
  dsimp only
  refine wpAny_bind (wpAny_of_eq KBy.quiet_eq ?_)
  dsimp only
  refine wpAny_bind (wpAny_pure ?_)
  rw [if_neg (by simp), if_pos (show (!dd.contains 92) = true by simp [dd])]
  refine wpAny_bind (wpAny_pure ?_)
  refine wpAny_bind (wpAny_holding (wp_wholeB (hP.keeps F.keep) ?_))
  rw [if_neg (by simp)]
  refine wpAny_bind (wpAny_newObj_type ?_)
  refine wpAny_pure ⟨plainId_quiet RF.plain_loop _, ?_⟩
  have hne : ∀ p ∈ news, p.1 ≠ s.heap.objs.size := fun q hq => Nat.ne_of_lt (Heap.lt_size (N q hq).1)
  have hsz : (u ++ [10] ++ 46 :: r).toArray.size = u.length + 2 + r.length := by simp; omega
  have hl' : u.length + r.length ≤ 100 := by simpa using hl
  have hms : (tx u r).size = u.length + 2 + r.length := by rw [Array.size_map, hsz]
  refine loopB_found (k := 0) (a := u.length + 1) (b := u.length + 1 + 1) (st := 0) (l := []) (n := 0) hP (F.push _) (N.push F _) hne (by simp) ?_ (by omega) (by omega) (by rw [hsz]; omega) ?_
  · have q1 : ∀ i, 0 ≤ i → i < 0 + (u.length + 1) → hit2 (tx u r) i = false := fun i h1 h2 => by
      unfold hit2
      have : ((tx u r).getD i 0 == 46) = false := by
        by_cases hi : i < u.length
        · rw [getDm _ i u[i] (by rw [List.append_assoc, List.getElem?_append_left hi, List.getElem?_eq_getElem hi])]
          have := hc u[i] (List.getElem_mem hi)
          simp only [beq_eq_false_iff_ne, ne_eq]
          intro e
          exact this (UInt8.toNat_inj.mp e)
        · have e : i = u.length := by omega
          subst e
          rw [getDm _ _ 10 (by simp)]
          rfl
      rw [this, Bool.and_false]
    have q2 : hit2 (tx u r) (0 + (u.length + 1)) = true := by
      unfold hit2
      have e1 : (tx u r).getD (0 + (u.length + 1)) 0 = 46 := by
        rw [Nat.zero_add, getDm _ _ 46 (by simp)]; rfl
      have e2 : (tx u r).getD (0 + (u.length + 1) - 1) 0 = 10 := by
        rw [show 0 + (u.length + 1) - 1 = u.length by omega, getDm _ _ 10 (by simp)]; rfl
      rw [e1, e2]
      simp
    obtain ⟨q, hq, r'⟩ := search2_some (tx u r) (tx u r).size 0 (u.length + 1) (by rw [hms]; omega) q1 q2
    exact ⟨q, by omega, by simpa using r'⟩
  · intro h₁ tk t' n' st' F₁ N₁
    have ea : (u ++ [10] ++ 46 :: r).toArray.extract 0 (u.length + 1) = (u ++ [10]).toArray := by
      apply Array.ext'
      simp only [Array.toList_extract, List.extract_eq_take_drop, List.drop_zero, Nat.sub_zero]
      rw [show u.length + 1 = (u ++ [10]).length by simp, List.take_left]
    have ez : (u ++ [10] ++ 46 :: r).toArray.extract (u.length + 1 + 1) (u ++ [10] ++ 46 :: r).toArray.size = r.toArray := by
      apply Array.ext'
      simp only [Array.toList_extract, List.extract_eq_take_drop]
      rw [show (u ++ [10] ++ 46 :: r) = (u ++ [10] ++ [46]) ++ r by simp, show u.length + 1 + 1 = (u ++ [10] ++ [46]).length by simp, List.drop_left]
      rw [List.take_of_length_le]
      simp only [List.size_toArray, List.length_append, List.length_cons, List.length_nil]; omega
    refine loopB_end (l := [] ++ [((u ++ [10] ++ 46 :: r).toArray.extract 0 (u.length + 1), t'), (dd, tr)]) hP F₁ N₁ hne (by simp) ?_ ?_ (by rw [hsz]; omega) (by rw [hsz]; omega) ?_
    · rw [ea]; simp [dd]; omega
    · have q1 : ∀ i, u.length + 1 + 1 ≤ i → i < (tx u r).size → hit2 (tx u r) i = false := fun i h1 h2 => by
        unfold hit2
        have : ((tx u r).getD (i - 1) 0 == 10) = false := by
          have hi2 : i - 1 - (u.length + 1) < (46 :: r).length := by rw [hms] at h2; simp; omega
          rw [getDm _ (i - 1) ((46 :: r)[i - 1 - (u.length + 1)]) (by
            rw [List.getElem?_append_right (by simp; omega)]
            simp only [List.length_append, List.length_cons, List.length_nil]
            rw [List.getElem?_eq_getElem hi2])]
          have hm : (46 :: r)[i - 1 - (u.length + 1)] ∈ 46 :: r := List.getElem_mem hi2
          simp only [beq_eq_false_iff_ne, ne_eq]
          intro e
          have e' : (46 :: r)[i - 1 - (u.length + 1)] = 10 := UInt8.toNat_inj.mp e
          rw [e'] at hm
          rcases List.mem_cons.mp hm with e | e
          · cases e
          · exact hr 10 e rfl
        rw [this, Bool.or_false]
        have : (i == 0) = false := by simp; omega
        rw [this]; rfl
      obtain ⟨q, hq, r'⟩ := search2_none (tx u r) (tx u r).size (u.length + 1 + 1) (by rw [hms]; omega) q1
      exact ⟨q, by rw [hms] at hq; omega, r'⟩
    · intro h₂ tk₂ t₂ F₂ N₂
      have e : Bytes.joined #[] (List.map (·.1) ([] ++ [((u ++ [10] ++ 46 :: r).toArray.extract 0 (u.length + 1), t'), (dd, tr)])) ++ (u ++ [10] ++ 46 :: r).toArray.extract (u.length + 1 + 1) (u ++ [10] ++ 46 :: r).toArray.size = (u ++ [10] ++ 46 :: 46 :: r).toArray := by
        rw [ea, ez]
        simp [Bytes.joined, dd]
      rw [e]
      exact h _ _ _ F₂ N₂
theorem sub_bytes {P : Addr} {t tr : Tok} {u r : List UInt8} {s : Shared} {Q : Value → Shared → Prop} (hP : IsPat h₀ P code2 1) (hc : ∀ c ∈ u, c ≠ 46) (hr : ∀ c ∈ r, c ≠ 10) (hl : (u ++ r).length ≤ 100)
    (F : Fr h₀ L s.heap m) (N : News h₀ L s.heap news) (h : ∀ h' tk t', Fr h₀ L h' m → News h₀ L h' news → Q (.bytes (u ++ [10] ++ 46 :: 46 :: r).toArray t') { s with heap := h', toks := tk }) :
    wpAny (model prog w) A (call (.builtin "re.Pattern.sub") [.ref P, .bytes dd tr, .bytes (u ++ [10] ++ 46 :: r).toArray t]) Q E s := by
  obtain ⟨C, vs, its, n, o, a, _⟩ := (hP.keeps F.keep).ex
  exact call_meets RF.slot_sub ⟨_, a, rfl⟩ RF.entry_sub (RF.args_sub _ _ _) meets_sub_bytes ⟨hP, hc, hr, hl, F, N, h⟩
end
end Mine
end
section
open PySem PySem.W PyProof.Rows
namespace Mine
open PySem.Builtin.Re
abbrev prg := PySem.Challenge.rw_xe0015_01.row.prog
noncomputable abbrev KK (w : World) := Mine.hd.heap_39 w.params
set_option maxRecDepth 100000
theorem pat1 {P : Params} {h : Heap} (X : (Mine.hd.heap_39 P).In h) : IsPat h 36 code1 0 := by
  refine ⟨⟨35, _, _, _, _, X 36 _ rfl, rfl, rfl, rfl, X 35 _ rfl, rfl, by simp [reRawOf, code1]⟩⟩
theorem pat2 {P : Params} {h : Heap} (X : (Mine.hd.heap_39 P).In h) : IsPat h 62 code2 1 := by
  refine ⟨⟨61, _, _, _, _, X 62 _ rfl, rfl, rfl, rfl, X 61 _ rfl, rfl, by simp [reRawOf, code2]⟩⟩
theorem pat3 {P : Params} {h : Heap} (X : (Mine.hd.heap_39 P).In h) : IsPat h 67 code3 0 := by
  refine ⟨⟨66, _, _, _, _, X 67 _ rfl, rfl, rfl, rfl, X 66 _ rfl, rfl, by simp [reRawOf, code3]⟩⟩
end Mine
end
section
open PySem PySem.W PyProof.Rows
set_option Elab.async false
namespace Mine
/-- the contract of a def: `Post v new`, new what the call leaves on the ledger -/
abbrev Clm (w : World) (f : Addr) (rd ru : Nat) (news : CbLed) (vs : List Value) (Post : Value → CbLed → Prop) : Prop :=
  ∀ (p : Program) (loose : List Str) (mean : ExcName → Option Value) (mg mb : Str → Option Value) (dp un : Nat) (gd : Option (List Code)) (cn : Str) (cs : Scope) (a : Addr) (ccd : Value) (cl : List (Str × Addr)) (outer : List Env)
    (A₀ : Around) (base h₀ : Heap) (L : Addr) (m : Str → Option Value) (s : Shared) (Q E : Value → Shared → Prop),
    Below A₀ base outer h₀ → Fr h₀ L s.heap m → (Mine.hd.heap_39 w.params).In h₀ → News h₀ L s.heap news → Top p loose mean mg mb h₀ → cs.kind = .function →
    dp + rd < recursionLimit → un + ru < cLine →
    (∀ (v : Value) (new : CbLed) (h' : Heap) (tk' : Nat), Post v new → Fr h₀ L h' m → News h₀ L h' (new ++ news) → Q v { s with heap := h', toks := tk' }) →
    wpAny (model prg w) (ktrTop dp un gd cn cs L a ccd cl outer) (call (.ref f) vs) Q E s
theorem Clm.go {w : World} {f : Addr} {rd ru : Nat} {news : CbLed} {vs : List Value} {Post : Value → CbLed → Prop} (C : Clm w f rd ru news vs Post)
    {p : Program} {loose : List Str} {mean : ExcName → Option Value} {mg mb : Str → Option Value} {dp un : Nat} {gd : Option (List Code)} {cn : Str} {cs : Scope} {a : Addr} {ccd : Value} {cl : List (Str × Addr)} {outer : List Env}
    {A₀ : Around} {base h₀ : Heap} {L : Addr} {m : Str → Option Value} {s : Shared} {Q E : Value → Shared → Prop}
    (B : Below A₀ base outer h₀) (F : Fr h₀ L s.heap m) (X : (Mine.hd.heap_39 w.params).In h₀) (N : News h₀ L s.heap news) (T : Top p loose mean mg mb h₀) (hk : cs.kind = .function)
    (hd : dp + rd < recursionLimit) (hu : un + ru < cLine)
    (h : ∀ (v : Value) (new : CbLed) (h' : Heap) (tk' : Nat), Post v new → Fr h₀ L h' m → News h₀ L h' (new ++ news) → Q v { s with heap := h', toks := tk' }) :
    wpAny (model prg w) (ktrTop dp un gd cn cs L a ccd cl outer) (call (.ref f) vs) Q E s := C p loose mean mg mb dp un gd cn cs a ccd cl outer A₀ base h₀ L m s Q E B F X N T hk hd hu h
abbrev isB (b : Bool) : Value → CbLed → Prop := fun v new => new = [] ∧ v = .bool b
abbrev isS (x : Str) : Value → CbLed → Prop := fun v new => new = [] ∧ ∃ t, v = .str x t
abbrev isI (i : Int) : Value → CbLed → Prop := fun v new => new = [] ∧ ∃ t, v = .int i t
abbrev isBy (x : Array UInt8) : Value → CbLed → Prop := fun v new => new = [] ∧ ∃ t, v = .bytes x t
section
variable {h₀ : Heap} {L : Addr} {m : Str → Option Value} {news news' : CbLed} {s : Shared} {Q : Value → Shared → Prop} {h' : Heap} {tk' : Nat} {t : Tok}
theorem retB {b c : Bool} (hret : ∀ (v : Value) (new : CbLed) (h' : Heap) (tk' : Nat), isB b v new → Fr h₀ L h' m → News h₀ L h' (new ++ news) → Q v { s with heap := h', toks := tk' })
    (e : c = b) (F : Fr h₀ L h' m) (N : News h₀ L h' news') (hs : ∀ p ∈ news, p ∈ news') : Q (.bool c) { s with heap := h', toks := tk' } := by
  subst e
  exact hret _ [] h' tk' ⟨rfl, rfl⟩ F fun p hp => N p (hs p hp)
theorem retS {b c : Str} (hret : ∀ (v : Value) (new : CbLed) (h' : Heap) (tk' : Nat), isS b v new → Fr h₀ L h' m → News h₀ L h' (new ++ news) → Q v { s with heap := h', toks := tk' })
    (e : c = b) (F : Fr h₀ L h' m) (N : News h₀ L h' news') (hs : ∀ p ∈ news, p ∈ news') : Q (.str c t) { s with heap := h', toks := tk' } := by
  subst e
  exact hret _ [] h' tk' ⟨rfl, _, rfl⟩ F fun p hp => N p (hs p hp)
theorem retI {b c : Int} (hret : ∀ (v : Value) (new : CbLed) (h' : Heap) (tk' : Nat), isI b v new → Fr h₀ L h' m → News h₀ L h' (new ++ news) → Q v { s with heap := h', toks := tk' })
    (e : c = b) (F : Fr h₀ L h' m) (N : News h₀ L h' news') (hs : ∀ p ∈ news, p ∈ news') : Q (.int c t) { s with heap := h', toks := tk' } := by
  subst e
  exact hret _ [] h' tk' ⟨rfl, _, rfl⟩ F fun p hp => N p (hs p hp)
theorem retBy {b c : Array UInt8} (hret : ∀ (v : Value) (new : CbLed) (h' : Heap) (tk' : Nat), isBy b v new → Fr h₀ L h' m → News h₀ L h' (new ++ news) → Q v { s with heap := h', toks := tk' })
    (e : c = b) (F : Fr h₀ L h' m) (N : News h₀ L h' news') (hs : ∀ p ∈ news, p ∈ news') : Q (.bytes c t) { s with heap := h', toks := tk' } := by
  subst e
  exact hret _ [] h' tk' ⟨rfl, _, rfl⟩ F fun p hp => N p (hs p hp)
end
theorem sub_refl {news : CbLed} : ∀ p ∈ news, p ∈ news := fun _ h => h
theorem sub_cons {a : Addr × Obj} {news news' : CbLed} (h : ∀ p ∈ news, p ∈ news') : ∀ p ∈ news, p ∈ a :: news' := fun p hp => .tail _ (h p hp)
end Mine
end
section
open PySem PySem.W PyProof.Rows
set_option Elab.async false
namespace Mine
structure HdnOk (a : Str) : Prop where
  ip : noIp a.cps
  sz : a.cps.size ≤ 1000
  ne : (a == Str.ofString "") = false
  ln : 1 ≤ a.length
  fst : (Txt.item a 0 == Str.ofString ".") = false
  lst : (Txt.item a (-1) == Str.ofString ".") = false
section
local macro_rules | `(tactic| walk_at "getMethod ref") => `(tactic| (k_here; (with_reducible show wpAny _ _ (getMethod (Value.ref 36) (PySem.Str.ofString "search") _) _ _ _); refine wp_getMethod (pat1 (by k_in)) RF.slot_search RF.type_search ?_))
local macro_rules | `(tactic| walk_at "call builtin:re.Pattern.search") => `(tactic| (k_here; refine search_none (pat1 (by k_in)) (by assumption) (by assumption) ?_))
set_option maxRecDepth 100000 in
set_option maxHeartbeats 8000000 in
theorem hdn_claim (w : World) (news : CbLed) (a : Str) (ta : Tok) (hok : HdnOk a) : Clm w 43 1 8 news [.str a ta] (isB true) := by
  w_top off
  unfold Clm prg
  k_fill
  intros
  rename_i hret
  obtain ⟨h1, h2, h3, hl, h4, h5⟩ := hok
  refine wpAny_call ?_
  k_dflt cell_enter
  k_steps
  all_goals first | (exfalso; simp_all; done) | exact retB hret rfl (by k_asm) (by k_asm) sub_refl
end
end Mine
end
section
open PySem
namespace Mine
/-! pure facts about texts of letters -/
def S (l : List Nat) : Str := ⟨l.toArray⟩
def Abc (p : List Nat) : Prop := ∀ c ∈ p, c = 97 ∨ c = 98 ∨ c = 99
def dots (p : List Nat) : List Nat := p.flatMap fun c => [46, c]
def hostL (p : List Nat) : List Nat := 120 :: dots p
def upL (p : List Nat) : List Nat := p.map fun c => c - 32
def pref : List Nat → List Nat → Bool
  | [], _ => true
  | _ :: _, [] => false
  | a :: x, b :: y => Nat.beq a b && pref x y
def inf (q : List Nat) : List Nat → Bool
  | [] => pref q []
  | c :: p => pref q (c :: p) || inf q p

theorem S_toList (l : List Nat) : (S l).cps.toList = l := rfl
theorem S_length (l : List Nat) : (S l).length = l.length := by simp [S, Str.length]
theorem S_append (a b : List Nat) : S a ++ S b = S (a ++ b) := by
  show Str.mk (a.toArray ++ b.toArray) = _
  simp [S]
theorem S_inj {a b : List Nat} (h : S a = S b) : a = b := by
  have := congrArg (fun x : Str => x.cps.toList) h
  exact this
theorem S_beq (a b : List Nat) : (S a == S b) = decide (a = b) := by
  by_cases h : a = b
  · subst h; simp
  · simp only [h, decide_false, beq_eq_false_iff_ne, ne_eq]
    exact fun e => h (S_inj e)
theorem S_nil : Str.ofString "" = S [] := by decide +kernel
theorem S_dot : Str.ofString "." = S [46] := by decide +kernel
theorem S_xdot : Str.ofString "x." = S [120, 46] := by decide +kernel
theorem S_nl : Str.ofString "\n" = S [10] := by decide +kernel
theorem S_ell : Str.ofString "..." = S [46, 46, 46] := by decide +kernel

theorem pref_iff : ∀ (q p : List Nat), pref q p = true ↔ p.take q.length = q
  | [], p => by simp [pref]
  | a :: q, [] => by simp [pref]
  | a :: q, b :: p => by
    have ih := pref_iff q p
    simp only [pref, Bool.and_eq_true, ih, List.length_cons, List.take_succ_cons, List.cons.injEq]
    constructor
    · rintro ⟨h1, h2⟩; exact ⟨(Nat.eq_of_beq_eq_true h1).symm, h2⟩
    · rintro ⟨h1, h2⟩; exact ⟨by rw [h1]; simp, h2⟩
theorem take_len {q p : List Nat} (h : p.take q.length = q) : q.length ≤ p.length := by
  have := congrArg List.length h
  rw [List.length_take] at this
  omega
theorem inf_iff (q : List Nat) : ∀ (p : List Nat), inf q p = true ↔ ∃ i, i + q.length ≤ p.length ∧ (p.drop i).take q.length = q
  | [] => by
    simp only [inf, pref_iff]
    constructor
    · intro h
      exact ⟨0, by have := take_len h; simpa using this, by simpa using h⟩
    · rintro ⟨i, h1, h2⟩
      simpa using h2
  | c :: p => by
    have ih := inf_iff q p
    simp only [inf, Bool.or_eq_true, pref_iff, ih]
    constructor
    · rintro (h | ⟨i, h1, h2⟩)
      · exact ⟨0, by have := take_len h; simpa using this, by simpa using h⟩
      · exact ⟨i + 1, by simp only [List.length_cons]; omega, by simpa using h2⟩
    · rintro ⟨i, h1, h2⟩
      cases i with
      | zero => exact .inl (by simpa using h2)
      | succ i => exact .inr ⟨i, by simp only [List.length_cons] at h1; omega, by simpa using h2⟩
theorem subAt_S (a b : List Nat) (i : Nat) : Builtin.Str.subAt (S a) (S b) i = decide ((a.drop i).take b.length = b) := by
  rw [StrLaws.subAt_eq, S_length, S_toList, S_toList]
  by_cases h : (a.drop i).take b.length = b <;> simp [h]
theorem in_S (a b : List Nat) : (!(Builtin.Str.occurrences (S a) (S b) 0 (S a).length 1).isEmpty) = inf b a := by
  rw [Bool.eq_iff_iff, StrLaws.found_iff, inf_iff]
  simp only [S_length, subAt_S, decide_eq_true_eq]
theorem startswith_S (a b : List Nat) : Txt.startswith (S a) (S b) = pref b a := by
  unfold Txt.startswith
  rw [Bool.eq_iff_iff, subAt_S, S_length, S_length, pref_iff]
  simp only [Bool.and_eq_true, decide_eq_true_eq, List.drop_zero, Nat.zero_add]
  exact ⟨fun h => h.2, fun h => ⟨take_len h, h⟩⟩
theorem rfind_none {a b : List Nat} (h : inf b a = false) : Txt.rfind (S a) (S b) = -1 := by
  unfold Txt.rfind
  rcases StrLaws.last_spec (S a) (S b) with ⟨e, _⟩ | ⟨i, e, h1, _⟩
  · rw [e]
  · exfalso
    have : inf b a = true := (inf_iff b a).mpr ⟨i, by simpa [S_length] using h1.1, by have := h1.2; rw [subAt_S] at this; simpa using this⟩
    rw [h] at this; cases this
theorem rfind_some {a b : List Nat} (h : inf b a = true) (h0 : pref b a = false) : 0 < Txt.rfind (S a) (S b) := by
  unfold Txt.rfind
  rcases StrLaws.last_spec (S a) (S b) with ⟨_, e⟩ | ⟨i, e, h1, _⟩
  · obtain ⟨i, h1, h2⟩ := (inf_iff b a).mp h
    exact absurd ⟨by simpa [S_length] using h1, by rw [subAt_S]; simpa using h2⟩ (e i)
  · rw [e]
    show (0 : Int) < (i : Int)
    rcases Nat.eq_zero_or_pos i with rfl | hi
    · exfalso
      have := h1.2
      rw [subAt_S] at this
      have h3 : pref b a = true := (pref_iff b a).mpr (by simpa using this)
      rw [h0] at h3; cases h3
    · omega

theorem dots_cons (c : Nat) (p : List Nat) : dots (c :: p) = 46 :: c :: dots p := rfl
theorem dots_length (p : List Nat) : (dots p).length = 2 * p.length := by
  induction p with
  | nil => rfl
  | cons c p ih => rw [dots_cons]; simp only [List.length_cons, ih]; omega
theorem pref_dots : ∀ q p : List Nat, pref (dots q) (dots p) = pref q p
  | [], p => by simp [dots, pref]
  | a :: q, [] => rfl
  | a :: q, b :: p => by
    have := pref_dots q p
    rw [dots_cons, dots_cons]
    simp only [pref, this]
    simp
theorem inf_dots (q : List Nat) (hq : q ≠ []) : ∀ p : List Nat, (∀ c ∈ p, c ≠ 46) → inf (dots q) (dots p) = inf q p
  | [], _ => by
    cases q with
    | nil => exact absurd rfl hq
    | cons a q => rfl
  | c :: p, h => by
    have ih := inf_dots q hq p fun d hd => h d (.tail _ hd)
    have hc : c ≠ 46 := h c (.head _)
    rw [dots_cons]
    show (pref (dots q) (46 :: c :: dots p) || (pref (dots q) (c :: dots p) || inf (dots q) (dots p))) = (pref q (c :: p) || inf q p)
    rw [ih, ← dots_cons, pref_dots]
    have : pref (dots q) (c :: dots p) = false := by
      cases q with
      | nil => exact absurd rfl hq
      | cons a q =>
        rw [dots_cons]
        have : Nat.beq 46 c = false := by
          cases hb : Nat.beq 46 c with
          | false => rfl
          | true => exact absurd (Nat.eq_of_beq_eq_true hb).symm hc
        simp only [pref, this, Bool.false_and]
    rw [this, Bool.false_or]
theorem pref_host (q p : List Nat) (hq : q ≠ []) : pref (dots q) (hostL p) = false := by
  cases q with
  | nil => exact absurd rfl hq
  | cons a q => rfl
theorem inf_host (q p : List Nat) (hq : q ≠ []) (hp : ∀ c ∈ p, c ≠ 46) : inf (dots q) (hostL p) = inf q p := by
  show (pref (dots q) (hostL p) || inf (dots q) (dots p)) = _
  rw [pref_host q p hq, Bool.false_or, inf_dots q hq p hp]

theorem lower_S (l : List Nat) (f : Nat → Nat) (h : ∀ c ∈ l, Unicode.lowerOf c = [f c] ∧ c ≠ 0x3A3) : Txt.lower (S l) = S (l.map f) := by
  unfold Txt.lower
  congr 1
  unfold placed
  have e : ((S l).cps.mapIdx fun i c => (Unicode.lowerAt (S l).cps i).toArray) = (l.map fun c => #[f c]).toArray := by
    apply Array.ext
    · simp [S]
    · intro i h1 h2
      have hi : i < l.length := by simpa [S] using h1
      simp only [S, Array.getElem_mapIdx, List.getElem_toArray, List.getElem_map]
      unfold Unicode.lowerAt
      simp only [List.getElem?_toArray, List.getElem?_eq_getElem hi]
      obtain ⟨h3, h4⟩ := h l[i] (List.getElem_mem hi)
      rw [h3]
      simp [h4]
  rw [e]
  show _ = (l.map f).toArray
  clear h e
  induction l with
  | nil => rfl
  | cons c l ih =>
    apply Array.ext'
    have := congrArg Array.toList ih
    simp at this ⊢
    exact this
theorem upper_S (l : List Nat) (f : Nat → Nat) (h : ∀ c ∈ l, Unicode.upperOf c = [f c]) : Txt.upper (S l) = S (l.map f) := by
  unfold Txt.upper
  congr 1
  unfold placed
  have e : ((S l).cps.mapIdx fun i c => (Unicode.upperOf c).toArray) = (l.map fun c => #[f c]).toArray := by
    apply Array.ext
    · simp [S]
    · intro i h1 h2
      have hi : i < l.length := by simpa [S] using h1
      simp only [S, Array.getElem_mapIdx, List.getElem_toArray, List.getElem_map]
      rw [h l[i] (List.getElem_mem hi)]
  rw [e]
  show _ = (l.map f).toArray
  clear h e
  induction l with
  | nil => rfl
  | cons c l ih =>
    apply Array.ext'
    have := congrArg Array.toList ih
    simp at this ⊢
    exact this
theorem slice_from (l : List Nat) (k : Nat) (h : k ≤ l.length) : Txt.slice (S l) (some (k : Int)) none = S (l.drop k) := by
  show StrLaws.sliceText (S l) (some (k : Int)) none = _
  rw [StrLaws.sliceText_from ⟨by omega, by rw [S_toList]; omega⟩, S_toList]
  congr 1
  have : ((l.length : Int) - (k : Int)).toNat = l.length - k := by omega
  rw [this, Int.toNat_natCast]
  rw [List.take_of_length_le (by simp)]
theorem item_S (l : List Nat) (i : Int) (k : Nat) (c : Nat) (h : seqIndex? i l.length = some k) (hc : l[k]? = some c) : Txt.item (S l) i = S [c] := by
  unfold Txt.item Txt.charAt
  rw [S_length, h]
  show (⟨#[(((S l).cps[k]?)).getD 0]⟩ : Str) = _
  have : (S l).cps[k]? = some c := by simpa [S] using hc
  rw [this]; rfl
end Mine
end
section
open PySem
namespace Mine
theorem abc_dots {p : List Nat} (h : Abc p) : ∀ c ∈ dots p, c = 46 ∨ c = 97 ∨ c = 98 ∨ c = 99 := by
  induction p with
  | nil => intro c hc; cases hc
  | cons d p ih =>
    intro c hc
    rw [dots_cons] at hc
    rcases List.mem_cons.mp hc with rfl | hc
    · exact .inl rfl
    · rcases List.mem_cons.mp hc with rfl | hc
      · exact .inr (h c (.head _))
      · exact ih (fun e he => h e (.tail _ he)) c hc
theorem lower_host {p : List Nat} (h : Abc p) : Txt.lower (S (hostL p)) = S (hostL p) := by
  rw [lower_S _ id]
  · simp
  · intro c hc
    rcases List.mem_cons.mp hc with rfl | hc
    · exact ⟨by decide +kernel, by decide⟩
    · rcases abc_dots h c hc with rfl | rfl | rfl | rfl <;> exact ⟨by decide +kernel, by decide⟩
theorem lower_dom {q : List Nat} (h : Abc q) : Txt.lower (S (dots (upL q))) = S (dots q) := by
  have e : ∀ c ∈ dots (upL q), c = 46 ∨ c = 65 ∨ c = 66 ∨ c = 67 := by
    induction q with
    | nil => intro c hc; cases hc
    | cons d p ih =>
      intro c hc
      have hc : c ∈ 46 :: (d - 32) :: dots (upL p) := hc
      rcases List.mem_cons.mp hc with rfl | hc
      · exact .inl rfl
      · rcases List.mem_cons.mp hc with rfl | hc
        · rcases h d (.head _) with rfl | rfl | rfl <;> simp
        · exact ih (fun e he => h e (.tail _ he)) c hc
  rw [lower_S _ (fun c => if c = 46 then 46 else c + 32)]
  · congr 1
    clear e
    induction q with
    | nil => rfl
    | cons d p ih =>
      show List.map _ (46 :: (d - 32) :: dots (upL p)) = 46 :: d :: dots p
      rw [List.map_cons, List.map_cons, ih fun e he => h e (.tail _ he)]
      rcases h d (.head _) with rfl | rfl | rfl <;> rfl
  · intro c hc
    rcases e c hc with rfl | rfl | rfl | rfl <;> exact ⟨by decide +kernel, by decide⟩

theorem hdn_of (l : List Nat) (hl : ∀ c ∈ l, c = 46 ∨ c = 97 ∨ c = 98 ∨ c = 99 ∨ c = 120) (hz : l.length ≤ 1000) (c d : Nat) (m : List Nat) (h1 : l = c :: m) (hc : c ≠ 46) (h2 : l[l.length - 1]? = some d) (hd : d ≠ 46) : HdnOk (S l) := by
  have hpos : 1 ≤ l.length := by rw [h1]; simp
  refine ⟨?_, by simpa [S] using hz, ?_, by rw [S_length]; exact hpos, ?_, ?_⟩
  · intro i hi
    have hi' : i < l.length := by simpa [S] using hi
    have : (S l).cps.getD i 0 = l[i] := by simp [S, hi']
    rw [this]
    rcases hl l[i] (List.getElem_mem hi') with e | e | e | e | e <;> rw [e] <;> rfl
  · rw [S_nil, S_beq]; simp [h1]
  · rw [item_S l 0 0 c (by rw [h1]; simp [seqIndex?]) (by rw [h1]; rfl), S_dot, S_beq]; simpa using hc
  · rw [item_S l (-1) (l.length - 1) d (by
      have : (-1 + (l.length : Int)) = ((l.length - 1 : Nat) : Int) := by omega
      have h2 : (l.length : Int) ≥ 1 := by omega
      unfold seqIndex?
      simp only [this, if_pos (show ((-1 : Int) < 0) from by decide)]
      rw [if_pos (by simp; omega)]
      simp) h2, S_dot, S_beq]
    simpa using hd
theorem dots_last (p : List Nat) (c : Nat) : (dots (p ++ [c])) = dots p ++ [46, c] := by simp [dots]
theorem hdn_host {p : List Nat} (h : Abc p) (h0 : p ≠ []) (hl : p.length ≤ 100) : HdnOk (S (hostL p)) := by
  obtain ⟨r, c, rfl⟩ : ∃ r c, p = r ++ [c] := ⟨p.dropLast, p.getLast h0, (List.dropLast_concat_getLast h0).symm⟩
  have hc := h c (by simp)
  refine hdn_of _ ?_ ?_ 120 c (dots (r ++ [c])) rfl (by decide) ?_ (by rcases hc with rfl | rfl | rfl <;> decide)
  · intro d hd
    rcases List.mem_cons.mp hd with rfl | hd
    · simp
    · rcases abc_dots h d hd with rfl | rfl | rfl | rfl <;> simp
  · show (dots (r ++ [c])).length + 1 ≤ 1000
    rw [dots_length]; omega
  · unfold hostL
    rw [dots_last]
    simp [dots_length]
theorem hdn_dom {q : List Nat} (h : Abc q) (h0 : q ≠ []) (hl : q.length ≤ 100) : HdnOk (S ((dots q).drop 1)) := by
  obtain ⟨r, c, rfl⟩ : ∃ r c, q = r ++ [c] := ⟨q.dropLast, q.getLast h0, (List.dropLast_concat_getLast h0).symm⟩
  have hc := h c (by simp)
  have mem : ∀ d ∈ (dots (r ++ [c])).drop 1, d = 46 ∨ d = 97 ∨ d = 98 ∨ d = 99 ∨ d = 120 := fun d hd => by
    rcases abc_dots h d (List.mem_of_mem_drop hd) with rfl | rfl | rfl | rfl <;> simp
  have len : ((dots (r ++ [c])).drop 1).length = 2 * r.length + 1 := by rw [List.length_drop, dots_length]; simp; omega
  have last : ((dots (r ++ [c])).drop 1)[((dots (r ++ [c])).drop 1).length - 1]? = some c := by
    rw [len, dots_last]
    simp [dots_length]
  have hcd : c ≠ 46 := by rcases hc with rfl | rfl | rfl <;> decide
  cases r with
  | nil => exact hdn_of _ mem (by rw [len]; simp) c c [] rfl hcd last hcd
  | cons d r =>
    have hd := h d (by simp)
    exact hdn_of _ mem (by rw [len]; simp at hl ⊢; omega) d c _ rfl (by rcases hd with rfl | rfl | rfl <;> decide) last hcd
end Mine
end
section
open PySem PySem.W PyProof.Rows
set_option Elab.async false
namespace Mine
structure DmOk (a b : Str) (r : Bool) : Prop where
  la : a.length ≤ 1000
  lb : b.length ≤ 1000
  ne : (Txt.lower a == Txt.lower b) = false
  oka : HdnOk (Txt.lower a)
  okb : HdnOk (Txt.slice (Txt.lower b) (some 1) none)
  dot : Txt.startswith (Txt.lower b) (Str.ofString ".") = true
  val : (r = false ∧ Txt.rfind (Txt.lower a) (Txt.lower b) = -1) ∨ (r = true ∧ 0 < Txt.rfind (Txt.lower a) (Txt.lower b))
theorem dm_ok {p q : List Nat} (hp : Abc p) (hq : Abc q) (p0 : p ≠ []) (q0 : q ≠ []) (lp : p.length ≤ 100) (lq : q.length ≤ 100) : DmOk (S (hostL p)) (S (dots (upL q))) (inf q p) := by
  have p46 : ∀ c ∈ p, c ≠ 46 := fun c hc => by rcases hp c hc with rfl | rfl | rfl <;> decide
  refine ⟨?_, ?_, ?_, ?_, ?_, ?_, ?_⟩
  · rw [S_length]; show (dots p).length + 1 ≤ 1000; rw [dots_length]; omega
  · rw [S_length, dots_length]; unfold upL; rw [List.length_map]; omega
  · rw [lower_host hp, lower_dom hq, S_beq]
    cases q with
    | nil => exact absurd rfl q0
    | cons c q => simp [hostL, dots_cons]
  · rw [lower_host hp]; exact hdn_host hp p0 lp
  · rw [lower_dom hq]
    have : Txt.slice (S (dots q)) (some 1) none = S ((dots q).drop 1) := slice_from (dots q) 1 (by
      cases q with
      | nil => exact absurd rfl q0
      | cons c q => simp [dots_cons])
    rw [this]
    exact hdn_dom hq q0 lq
  · rw [lower_dom hq, S_dot, startswith_S]
    cases q with
    | nil => exact absurd rfl q0
    | cons c q => rfl
  · rw [lower_host hp, lower_dom hq]
    cases h : inf q p with
    | false => exact .inl ⟨rfl, rfind_none (by rw [inf_host q p q0 p46]; exact h)⟩
    | true => exact .inr ⟨rfl, rfind_some (by rw [inf_host q p q0 p46]; exact h) (pref_host q p q0)⟩
section
local macro_rules | `(tactic| walk_at "call ref") => `(tactic| (k_here; (with_reducible show wpAny _ _ (call (Value.ref 43) [Value.str _ _]) _ _ _); k_dflt (refine' (hdn_claim _ _ _ _ ?kp).go ?k1 ?k2 ?k3 ?k4 ?k5 ?kK ?kd ?ku ?_; (case k1 => k_asm); (case k2 => k_asm); (case k3 => k_asm); (case k4 => k_asm); (case k5 => k_asm); (case kK => first | exact rfl | assumption); (case kp => assumption); (case kd => ktr_room); (case ku => ktr_units)); (rintro v9 new9 h9 tk9 ⟨hnw9, hv9⟩ F9 N9); subst hnw9 hv9; (try rw [List.nil_append] at N9); (try dsimp only); (try k_fold)))
set_option maxRecDepth 100000 in
set_option maxHeartbeats 8000000 in
theorem dm_claim (w : World) (news : CbLed) (a b : Str) (ta tb : Tok) (r : Bool) (hok : DmOk a b r) : Clm w 50 2 12 news [.str a ta, .str b tb] (isB r) := by
  w_top off
  unfold Clm prg
  k_fill
  intros
  rename_i hret
  obtain ⟨h1, h2, h3, h4, h5, h6, h7⟩ := hok
  refine wpAny_call ?_
  rcases h7 with ⟨rfl, h8⟩ | ⟨rfl, h8⟩
  · k_dflt cell_enter
    k_steps
    all_goals first | (exfalso; simp_all; done) | exact retB hret rfl (by k_asm) (by k_asm) sub_refl
  · k_dflt cell_enter
    k_steps
    all_goals first | (exfalso; simp_all; done) | exact retB hret rfl (by k_asm) (by k_asm) sub_refl
end
end Mine
end
section
open PySem
namespace Mine
def ell : List Nat := [46, 46, 46]
theorem ell_at {w : List Nat} (hw : ∀ c ∈ w, c ≠ 46) (i : Nat) : StrLaws.At (S (w ++ ell)) (S ell) (S (w ++ ell)).length i ↔ i = w.length := by
  unfold StrLaws.At
  rw [subAt_S, S_length, S_length]
  simp only [decide_eq_true_eq, List.length_append]
  constructor
  · rintro ⟨h1, h2⟩
    have h3 : ell.length = 3 := rfl
    rw [h3] at h1 h2
    apply Classical.byContradiction
    intro hi
    have hlt : i < w.length := by omega
    have h4 := congrArg List.head? h2
    rw [List.head?_take, if_neg (by decide), List.head?_drop, List.getElem?_append_left hlt, List.getElem?_eq_getElem hlt] at h4
    exact hw _ (List.getElem_mem hlt) (Option.some.inj h4)
  · rintro rfl
    exact ⟨Nat.le_refl _, by rw [List.drop_left]; rfl⟩
theorem ell_occ {w : List Nat} (hw : ∀ c ∈ w, c ≠ 46) : Builtin.Str.occurrences (S (w ++ ell)) (S ell) 0 (S (w ++ ell)).length ((S (w ++ ell)).length + 1) = [w.length] := by
  obtain ⟨f, h, hn⟩ := StrLaws.occ_tight (S (w ++ ell)) (S ell) (by rw [S_length]; decide)
  generalize Builtin.Str.occurrences (S (w ++ ell)) (S ell) 0 (S (w ++ ell)).length ((S (w ++ ell)).length + 1) = l at h
  cases l with
  | nil =>
    have e : f = 0 := h
    exact absurd ((ell_at hw _).mpr rfl) (hn w.length (by omega))
  | cons a r =>
    obtain ⟨_, h2, _, h4⟩ := h
    have ha := (ell_at hw a).mp h2
    subst ha
    cases r with
    | nil => rfl
    | cons b r =>
      obtain ⟨h5, h6, _⟩ := h4
      have hb := (ell_at hw b).mp h6
      rw [S_length] at h5
      have : ell.length = 3 := rfl
      omega
theorem strKind_S {l : List Nat} (h : ∀ c ∈ l, c < 256) : Builtin.Str.strKind (S l) = 1 := by
  unfold Builtin.Str.strKind
  rw [if_pos]
  simpa [S] using h
theorem ell_split {w : List Nat} (hw : ∀ c ∈ w, c ≠ 46) (hk : ∀ c ∈ w, c < 256) : Txt.split (S (w ++ ell)) (S ell) = [S w, S []] := by
  unfold Txt.split
  rw [ell_occ hw, S_length, S_length, strKind_S (l := w ++ ell) (by
    intro c hc
    rcases List.mem_append.mp hc with h | h
    · exact hk c h
    · simp [ell] at h; omega), strKind_S (l := ell) (by simp [ell])]
  rw [if_neg (by simp), if_neg (by simp)]
  show [Builtin.Str.strSub (S (w ++ ell)) 0 w.length, Builtin.Str.strSub (S (w ++ ell)) (w.length + (S ell).length) (S (w ++ ell)).length] = _
  have e1 : Builtin.Str.strSub (S (w ++ ell)) 0 w.length = S w := by
    unfold Builtin.Str.strSub S
    congr 1
    apply Array.ext'
    simp
  have e2 : Builtin.Str.strSub (S (w ++ ell)) (w.length + (S ell).length) (S (w ++ ell)).length = S [] := by
    rw [S_length, S_length]
    unfold Builtin.Str.strSub S
    congr 1
    apply Array.ext'
    simp
  rw [e1, e2]
/-- the mail of a piece -/
theorem mail_pref : ∀ q p : List Nat, pref (mailL q) (mailL p) = pref q p
  | [], p => by simp [mailL, pref]
  | a :: q, [] => rfl
  | a :: q, b :: p => by
    have := mail_pref q p
    show pref (a :: 13 :: 10 :: mailL q) (b :: 13 :: 10 :: mailL p) = _
    simp only [pref, this]
    simp
theorem mail_mem {p : List Nat} (h : Abc p) : ∀ c ∈ mailL p, c = 10 ∨ c = 13 ∨ c = 97 ∨ c = 98 ∨ c = 99 := by
  induction p with
  | nil => intro c hc; cases hc
  | cons d p ih =>
    intro c hc
    have hc : c ∈ d :: 13 :: 10 :: mailL p := hc
    rcases List.mem_cons.mp hc with rfl | hc
    · exact .inr (.inr (h c (.head _)))
    · rcases List.mem_cons.mp hc with rfl | hc
      · simp
      · rcases List.mem_cons.mp hc with rfl | hc
        · simp
        · exact ih (fun e he => h e (.tail _ he)) c hc
theorem mailL_length (p : List Nat) : (mailL p).length = 3 * p.length := by
  induction p with
  | nil => rfl
  | cons c p ih =>
    show (c :: 13 :: 10 :: mailL p).length = _
    simp only [List.length_cons, ih]; omega
end Mine
end
section
open PySem PySem.W PyProof.Rows PySem.Calls
set_option Elab.async false
namespace Mine
section
variable {prog : Program} {w : World} {A₀ A : Around} {s : Shared} {base h₀ : Heap} {L : Addr} {m mg mb : Str → Option Value} {K : Frag} {p : Program} {loose : List Str} {mean : ExcName → Option Value}
theorem enter0 {env : Env} {outer : List Env} {R : Result → Shared → Prop} {name qual : Str} {params : Arguments} {body : List Stmt} {scope : Scope} {dV kV doc pm cdv ct oc : Value} {an od : Option Addr} {osl : Array (Option Value)} {f : Addr} {args : Args} {binds : List (Str × Value)}
    (B : Below A₀ base outer h₀) (F : Fr h₀ L s.heap m) (X₀ : K.In h₀) (T : Top p loose mean mg mb h₀) (hA : A.frames = some (env :: outer)) (hf : env.frame = some L) (hke : env.scope.kind = .function)
    (ho : K.lookup f = some ⟨oc, od, .func (fnOf name qual params body scope dV kV doc pm an cdv ct), osl⟩) (hcd : codeIn K cdv qual = true) (hroom : A.depth < recursionLimit)
    (hbind : BindsTo s (fnOf name qual params body scope dV kV doc pm an cdv ct) args binds) (hloc : ∀ y ∈ binds, scope.names.lookup y.1 = some .local)
    (h : ∀ L' h₁, Fr s.heap L' h₁ (fun y => binds.reverse.lookup y) → News s.heap L' h₁ [] → Below A base (env :: outer) s.heap → K.In s.heap → Top p loose mean mg mb s.heap →
      wpAny (model prog w) (A.deeper (envOf qual scope L' f cdv)) (execs body (envOf qual scope L' f cdv))
        (fun fl s' => LeaveK h₀ L m s.heap R (match fl with | .ret v => v | _ => .none) s')
        (fun e s' => wpAny (model prog w) (A.deeper (envOf qual scope L' f cdv)) (leaving (envOf qual scope L' f cdv) e) (fun _ s'' => R (.error e) s'') (fun e' s'' => R (.error e') s'') s')
        { s with heap := h₁, toks := s.toks + binds.length })
    (hco : scope.isCoroutine = false) (hgen : scope.isGenerator = false) (hk : scope.kind = .function)
    (hcell : ∀ x ∈ scope.names, x.2 ≠ .cell) : codeAny (model prog w) A (.call (.ref f) args) R s := by
  obtain ⟨FG, BG, st, lv⟩ := groundX (R := R) B F (News.nil (L := L) (h := s.heap)) hA hf hke
  refine codeAny_call_def (fd := fnOf name qual params body scope dV kV doc pm an cdv ct) (body := body) (binds := binds) hroom ((X₀.keeps F.keep) _ _ ho) rfl (T.nolimit.keeps F.keep) (codeRec_of (X₀.keeps F.keep) hcd) rfl hbind hcell hloc (fun h₁ hns hk₁ => ?_) hco hgen hk
  exact wpAny_mono (h s.heap.objs.size h₁ ⟨hns, hk₁, Nat.le_refl _⟩ News.nil BG (X₀.keeps F.keep) (T.keeps F.keep)) (fun fl s' hl => lv _ _ hl) fun _ _ y => y

theorem enter0C {env : Env} {outer : List Env} {R : Result → Shared → Prop} {name qual : Str} {params : Arguments} {body : List Stmt} {scope : Scope} {dV kV doc pm cdv ct oc : Value} {an od : Option Addr} {osl : Array (Option Value)} {f : Addr} {args : Args} {binds : List (Str × Value)}
    (B : Below A₀ base outer h₀) (F : Fr h₀ L s.heap m) (X₀ : K.In h₀) (T : Top p loose mean mg mb h₀) (hA : A.frames = some (env :: outer)) (hf : env.frame = some L) (hke : env.scope.kind = .function)
    (ho : K.lookup f = some ⟨oc, od, .func (fnOf name qual params body scope dV kV doc pm an cdv ct), osl⟩) (hcd : codeIn K cdv qual = true) (hroom : A.depth < recursionLimit)
    (hbind : BindsTo s (fnOf name qual params body scope dV kV doc pm an cdv ct) args binds) (hkind : (binds.all fun y => scope.names.lookup y.1 == some .local || scope.names.lookup y.1 == some .cell) = true)
    (hnd : ((cellsFrom 0 scope.names []).map (·.1)).Nodup)
    (h : ∀ L' h₁ tk cells, Fr s.heap L' h₁ (bindL (envOfC qual scope L' f cdv).kindOf binds fun _ => none) → News s.heap L' h₁ (cells ++ []) →
      CellsAre (bindC (envOfC qual scope L' f cdv).kindOf binds fun _ => none) (cellsFrom (L' + 1) scope.names []) cells → Below A base (env :: outer) s.heap → K.In s.heap → Top p loose mean mg mb s.heap →
      wpAny (model prog w) (A.deeper (envOfC qual scope L' f cdv)) (execs body (envOfC qual scope L' f cdv))
        (fun fl s' => LeaveK h₀ L m s.heap R (match fl with | .ret v => v | _ => .none) s')
        (fun e s' => wpAny (model prog w) (A.deeper (envOfC qual scope L' f cdv)) (leaving (envOfC qual scope L' f cdv) e) (fun _ s'' => R (.error e) s'') (fun e' s'' => R (.error e') s'') s')
        { s with heap := h₁, toks := tk })
    (hco : scope.isCoroutine = false) (hgen : scope.isGenerator = false) (hk : scope.kind = .function) : codeAny (model prog w) A (.call (.ref f) args) R s := by
  obtain ⟨FG, BG, st, lv⟩ := groundX (R := R) B F (News.nil (L := L) (h := s.heap)) hA hf hke
  refine codeAny_call_function hroom ((X₀.keeps F.keep) _ _ ho) rfl hco hgen rfl (codeRec_of (X₀.keeps F.keep) hcd) (hbind _ _ _ _ ?_)
  refine wpAny_newFunctionEnv_cells hk (kindsX hkind _) fun env' he s' x => ?_
  subst he
  refine ⟨(T.nolimit.keeps F.keep).keeps x.toInCall.keep, codeAny_func ?_⟩
  obtain ⟨h₁, tk, rfl, _⟩ := x.done
  have hk₁ := x.toInCall.keep
  obtain ⟨cells, NC, Y⟩ := Cl.news (h₀ := s.heap) (Nat.le_refl _) fun n c hm => ⟨x.cell n c (lookup_of_mem_nodup (cellsFrom_names scope.names 0 (s.heap.objs.size + 1) [] [] rfl ▸ hnd) hm), x.above n c hm⟩
  exact wpAny_mono (h s.heap.objs.size h₁ tk cells ⟨x.toInCall.ns, hk₁, Nat.le_refl _⟩ (fun p hp => NC p ((List.append_nil cells) ▸ hp)) Y BG (X₀.keeps F.keep) (T.keeps F.keep)) (fun fl s' hl => lv _ _ hl) fun _ _ y => y
end
/-- the contract of a def that reads the heap: `Pre` of the heap at the call -/
abbrev Clh (w : World) (f : Addr) (rd ru : Nat) (Pre : Heap → Prop) (vs : List Value) (Post : Value → CbLed → Prop) : Prop :=
  ∀ (p : Program) (loose : List Str) (mean : ExcName → Option Value) (mg mb : Str → Option Value) (dp un : Nat) (gd : Option (List Code)) (cn : Str) (cs : Scope) (a : Addr) (ccd : Value) (cl : List (Str × Addr)) (outer : List Env)
    (A₀ : Around) (base h₀ : Heap) (L : Addr) (m : Str → Option Value) (news : CbLed) (s : Shared) (Q E : Value → Shared → Prop),
    Below A₀ base outer h₀ → Fr h₀ L s.heap m → (Mine.hd.heap_39 w.params).In h₀ → News h₀ L s.heap news → Top p loose mean mg mb h₀ → cs.kind = .function → Pre s.heap →
    dp + rd < recursionLimit → un + ru < cLine →
    (∀ (v : Value) (new : CbLed) (h' : Heap) (tk' : Nat), Post v new → Fr h₀ L h' m → News h₀ L h' (new ++ news) → Q v { s with heap := h', toks := tk' }) →
    wpAny (model prg w) (ktrTop dp un gd cn cs L a ccd cl outer) (call (.ref f) vs) Q E s
theorem Clh.go {w : World} {f : Addr} {rd ru : Nat} {Pre : Heap → Prop} {vs : List Value} {Post : Value → CbLed → Prop} (C : Clh w f rd ru Pre vs Post)
    {p : Program} {loose : List Str} {mean : ExcName → Option Value} {mg mb : Str → Option Value} {dp un : Nat} {gd : Option (List Code)} {cn : Str} {cs : Scope} {a : Addr} {ccd : Value} {cl : List (Str × Addr)} {outer : List Env}
    {A₀ : Around} {base h₀ : Heap} {L : Addr} {m : Str → Option Value} {news : CbLed} {s : Shared} {Q E : Value → Shared → Prop}
    (B : Below A₀ base outer h₀) (F : Fr h₀ L s.heap m) (X : (Mine.hd.heap_39 w.params).In h₀) (N : News h₀ L s.heap news) (T : Top p loose mean mg mb h₀) (hk : cs.kind = .function) (hp : Pre s.heap)
    (hd : dp + rd < recursionLimit) (hu : un + ru < cLine)
    (h : ∀ (v : Value) (new : CbLed) (h' : Heap) (tk' : Nat), Post v new → Fr h₀ L h' m → News h₀ L h' (new ++ news) → Q v { s with heap := h', toks := tk' }) :
    wpAny (model prg w) (ktrTop dp un gd cn cs L a ccd cl outer) (call (.ref f) vs) Q E s := C p loose mean mg mb dp un gd cn cs a ccd cl outer A₀ base h₀ L m news s Q E B F X N T hk hp hd hu h
section
variable {h₀ g : Heap} {L L' : Addr} {m m' : Str → Option Value} {news new news' : CbLed} {s : Shared} {Q : Value → Shared → Prop} {h' : Heap} {tk' : Nat} {t : Tok} {Post : Value → CbLed → Prop} {v : Value}
theorem news_back (N : News h₀ L g news) (K : ∀ b o, g.get? b = some o → h'.get? b = some o) (N' : News h₀ L h' new) : News h₀ L h' (new ++ news) := fun p hp =>
  (List.mem_append.mp hp).elim (fun h => N' p h) fun h => ⟨K _ _ (N p h).1, (N p h).2⟩
theorem retH (hret : ∀ (v : Value) (new : CbLed) (h' : Heap) (tk' : Nat), Post v new → Fr h₀ L h' m → News h₀ L h' (new ++ news) → Q v { s with heap := h', toks := tk' })
    (F' : Fr g L' h' m') (N₀ : News h₀ L g news) (F : Fr h₀ L h' m) (N : News h₀ L h' news') (hp : Post v new) (hs : ∀ p ∈ new, p ∈ news') : Q v { s with heap := h', toks := tk' } :=
  hret _ new h' tk' hp F (news_back N₀ F'.keep fun p hp => N p (hs p hp))
end
end Mine
end
section
open PySem
namespace Mine
open PySem.Builtin PySem.Builtin.Str
theorem occ_empty_skip (x : Str) (hi : Nat) : ∀ (l : List Nat) (st : Array Nat × Nat), 1 ≤ st.1.size → (forIn l st (StrLaws.occBody x (S []) hi 1)).run = st
  | [], _, _ => rfl
  | a :: l, st, h => by
    rw [List.forIn_cons]
    unfold StrLaws.occBody
    rw [if_neg (by intro h1; have := h1.1.1.1; omega)]
    exact occ_empty_skip x hi l st h
theorem occ_empty (x : Str) {lo hi : Nat} (h : lo ≤ hi) : occurrences x (S []) lo hi 1 = [lo] := by
  rw [StrLaws.occ_eq]
  have e : List.range' lo (hi + 1 - lo) = lo :: List.range' (lo + 1) (hi - lo) := by
    have : hi + 1 - lo = (hi - lo) + 1 := by omega
    rw [this, List.range'_succ]
  have h0 : (S []).length = 0 := rfl
  rw [e, List.forIn_cons]
  unfold StrLaws.occBody
  have hs : subAt x (S []) lo = true := by
    have := subAt_S x.cps.toList [] lo
    rw [show S x.cps.toList = x from by unfold S; simp] at this
    rw [this]; simp
  rw [if_pos (by simp [h0, hs, h])]
  have := occ_empty_skip x hi (List.range' (lo + 1) (hi - lo)) ((#[] : Array Nat).push lo, lo + (S []).length) (by simp)
  unfold StrLaws.occBody at this
  have h2 := congrArg (fun z : Array Nat × Nat => z.1.toList) this
  exact h2
theorem gives_find4 (x y : Str) (i j : Int) (t u v w : Tok) : Gives («str.find» ⟨[.str x t, .str y u, .int i v, .int j w], []⟩) (.int (match occurrences x y (fromIndex x.length i) (min (fromIndex x.length j) x.length) 1 with | k :: _ => (k : Int) | [] => -1)) := by
  show Gives (match occurrences x y (fromIndex x.length i) (min (fromIndex x.length j) x.length) 1 with | k :: _ => retInt k | [] => (do rule "str.find.not-found"; retInt (-1))) _
  cases occurrences x y (fromIndex x.length i) (min (fromIndex x.length j) x.length) 1 with
  | nil => exact .rule (.of_eq rfl)
  | cons k _ => exact .of_eq rfl
theorem find4_empty {prog : Program} {w : World} {A : Around} {E : Value → Shared → Prop} {s : Shared} {x : Str} {t u v z : Tok} {i j : Int} {Q : Value → Shared → Prop} (h0 : 0 ≤ i) (h1 : i ≤ j) (h2 : j ≤ x.length)
    (h : ∀ t' k, Q (.int i t') { s with toks := k }) : wpAny (model prog w) A (call (.builtin "str.find") [.str x t, .str (S []) u, .int i v, .int j z]) Q E s := by
  refine call_gives F.slot_str_find (typeIs_str _ _ _) F.entry_str_find (F.args_str_find_4 _ _ _ _) (gives_find4 x (S []) i j t u v z) ?_
  have e1 : fromIndex x.length i = i.toNat := by unfold fromIndex; rw [if_neg (by omega)]; omega
  have e2 : fromIndex x.length j = j.toNat := by unfold fromIndex; rw [if_neg (by omega)]; omega
  rw [e1, e2, occ_empty x (by omega)]
  show Q (.int ((i.toNat : Nat) : Int) _) _
  rw [Int.toNat_of_nonneg h0]
  exact h _ _
end Mine
end
section
open PySem PySem.W PyProof.Rows
set_option Elab.async false
namespace Mine
structure ElOk (x y z : Str) (r : Bool) : Prop where
  lx : x.length ≤ 1000
  ly : y.length ≤ 1000
  lz : z.length ≤ 1000
  z0 : 1 ≤ z.length
  cont : (!(Builtin.Str.occurrences x (Str.ofString "...") 0 x.length 1).isEmpty) = true
  spl : Txt.split x (Str.ofString "...") = [z, S []]
  val : Txt.startswith y z = r
theorem startswith_le {y z : Str} (h : Txt.startswith y z = true) : z.length ≤ y.length := by
  unfold Txt.startswith at h
  simp only [Bool.and_eq_true, decide_eq_true_eq] at h
  omega
section
local macro_rules | `(tactic| walk_at "my enter") => `(tactic| (refine' enter0 ?k1 ?k2 ?k3 ?k5 ?kA ?kF ?kK ?k6 ?k7 ?k8 ?k9 ?kB ?_ ?c2 ?c3 ?c4 ?c5; (case kA => exact rfl); (case kF => exact rfl); (case kK => assumption); (case k1 => k_asm); (case k2 => k_asm); (case k3 => k_asm); (case k5 => k_asm); (case k6 => k_is); (case k7 => k_is); (case k8 => ktr_room); (case k9 => exact BindsTo.of_eq rfl); (case c5 => decide); (case kB => exact locs rfl); (case c2 => exact rfl); (case c3 => exact rfl); (case c4 => exact rfl); k_whole; intro L' h' F' N' B' X' T'; (try dsimp only); (try k_lift B'); (try k_fold)))
local macro_rules | `(tactic| walk_at "call builtin:str.split") => `(tactic| (k_here; (with_reducible show wpAny _ _ (call (Value.builtin "str.split") _) _ _ _); (refine KSpl.split1 (by k_asm) (by k_asm) (by decide) ?_ (by simp only [sizeLine]; omega)); (intro D' l' h' k' e' a' F' N' l1); (rename Txt.split _ _ = _ => hspl); (rw [hspl] at e'); (kspl_open e'); (simp only [strValues, List.map_cons, List.map_nil] at N' a')))
local macro_rules | `(tactic| walk_at "call builtin:str.find") => `(tactic| (k_here; (with_reducible show wpAny _ _ (call (Value.builtin "str.find") [Value.str _ _, Value.str (S []) _, Value.int _ _, Value.int _ _]) _ _ _); (refine find4_empty (by omega) (by omega) (by omega) ?_); intro _ _))
set_option maxRecDepth 100000 in
set_option maxHeartbeats 8000000 in
theorem el_claim (w : World) (x y z : Str) (tx ty : Tok) (r : Bool) (hok : ElOk x y z r) : Clh w 57 2 12 (fun _ => True) [.str x tx, .str y ty] (isB r) := by
  w_top off
  unfold Clh prg
  k_fill
  intro p loose mean mg mb dp un gd cn cs a ccd cl outer A₀ base h₀ L m news s Q E B F X N T hk hpre hd hu hret
  obtain ⟨h1, h2, h3, h4, h5, h6, h7⟩ := hok
  have h8 : (S []).length ≤ 1000 := by rw [S_length]; decide
  have h9 : (S []).length = 0 := rfl
  refine wpAny_call ?_
  cases r with
  | false =>
    k_dflt (walk_at "my enter")
    k_steps
    all_goals first | (exfalso; simp_all; done) | exact retH hret (by assumption) N (by assumption) (by assumption) ⟨rfl, rfl⟩ (fun _ h => nomatch h)
  | true =>
    have h10 : z.length ≤ y.length := startswith_le h7
    k_dflt (walk_at "my enter")
    k_steps
    all_goals first | (exfalso; simp_all; done) | (exfalso; omega) | exact retH hret (by assumption) N (by assumption) (by assumption) ⟨rfl, rfl⟩ (fun _ h => nomatch h)
end
end Mine
end
section
open PySem PySem.W PyProof.Rows
set_option Elab.async false
namespace Mine
section
local macro_rules | `(tactic| walk_at "getMethod ref") => `(tactic| (k_here; (with_reducible show wpAny _ _ (getMethod (Value.ref 67) (PySem.Str.ofString "sub") _) _ _ _); refine wp_getMethod (pat3 (by k_in)) RF.slot_sub RF.type_sub ?_))
local macro_rules | `(tactic| walk_at "getMethod ref") => `(tactic| (k_here; (with_reducible show wpAny _ _ (getMethod (Value.ref 62) (PySem.Str.ofString "sub") _) _ _ _); refine wp_getMethod (pat2 (by k_in)) RF.slot_sub RF.type_sub ?_))
local macro_rules | `(tactic| walk_at "call builtin:re.Pattern.sub") => `(tactic| (k_here; (with_reducible show wpAny _ _ (call _ [Value.ref 67, _, _]) _ _ _); k_dflt (refine sub_str (pat3 (by assumption)) (by assumption) (by assumption) (by assumption) (by assumption) (by assumption) ?_); intro h' tk' t' F' N'))
local macro_rules | `(tactic| walk_at "call builtin:re.Pattern.sub") => `(tactic| (k_here; (with_reducible show wpAny _ _ (call _ [Value.ref 62, _, _]) _ _ _); k_dflt (refine sub_bytes (pat2 (by assumption)) (by assumption) (by assumption) (by assumption) (by assumption) (by assumption) ?_); intro h' tk' t' F' N'))
set_option maxRecDepth 100000 in
set_option maxHeartbeats 8000000 in
theorem fix_claim (w : World) (news : CbLed) (p : List Nat) (tx : Tok) (hp : ∀ c ∈ p, c ≠ 10 ∧ c ≠ 13) (p0 : p ≠ []) (lp : p.length ≤ 100) : Clm w 81 2 12 news [.str (S (mailSrc p)) tx] (isS (S (mailL p))) := by
  w_top off
  unfold Clm prg
  k_fill
  intro p loose mean mg mb dp un gd cn cs a ccd cl outer A₀ base h₀ L m s Q E B F X N T hk hd hu hret
  refine wpAny_call ?_
  k_dflt cell_enter
  k_steps
  all_goals exact retS hret rfl (by assumption) (by assumption) sub_refl
set_option maxRecDepth 100000 in
set_option maxHeartbeats 8000000 in
theorem quote_claim (w : World) (news : CbLed) (u r : List UInt8) (tx : Tok) (hc : ∀ c ∈ u, c ≠ 46) (hr : ∀ c ∈ r, c ≠ 10) (hl : (u ++ r).length ≤ 100) : Clm w 74 2 12 news [.bytes (u ++ [10] ++ 46 :: r).toArray tx] (isBy (u ++ [10] ++ 46 :: 46 :: r).toArray) := by
  w_top off
  unfold Clm prg
  k_fill
  intro p loose mean mg mb dp un gd cn cs a ccd cl outer A₀ base h₀ L m s Q E B F X N T hk hd hu hret
  refine wpAny_call ?_
  k_dflt cell_enter
  k_steps
  all_goals exact retBy hret rfl (by assumption) (by assumption) sub_refl
end
end Mine
end
section
open PySem
namespace Mine
def inner (q : List Nat) : List Nat := (q.drop 1).take (q.length - 2)
/-- the last `k` letters -/
def tailN (q : List Nat) (k : Nat) : List Nat := q.drop (q.length - k)
/-- the longest proper end that is a beginning too -/
def bord (q : List Nat) : List Nat := (List.range' 1 (q.length - 1)).foldl (fun acc k => if pref (tailN q k) q then tailN q k else acc) []
theorem bord_lt_aux (q : List Nat) : ∀ (l : List Nat) (acc : List Nat), (∀ k ∈ l, k < q.length) → acc.length < q.length →
    (l.foldl (fun acc k => if pref (tailN q k) q then tailN q k else acc) acc).length < q.length
  | [], _, _, h => h
  | k :: l, acc, hl, h => by
    rw [List.foldl_cons]
    refine bord_lt_aux q l _ (fun j hj => hl j (.tail _ hj)) ?_
    split
    · unfold tailN
      rw [List.length_drop]
      have := hl k (.head _)
      omega
    · exact h
theorem bord_lt {q : List Nat} (h : q ≠ []) : (bord q).length < q.length := by
  refine bord_lt_aux q _ [] (fun k hk => ?_) ?_
  · have := List.mem_range'_1.mp hk
    omega
  · cases q with
    | nil => exact absurd rfl h
    | cons a r => simp
def signP : Nat → List Nat → List Nat → Int
  | 0, _, _ => 0
  | f + 1, p, q =>
    if p.length + 2 < q.length then (if inf p (bord q) = false then 0 else if inf (bord q) (inner q) = true then 0 else signP f p (bord q))
    else if q.length < p.length + 2 then 1 - 2 * ((q.length : Int) - (p.length : Int))
    else if q = List.replicate q.length (q.headD 0) then 0
    else if p = inner q then 1 else if p = bord q then 1 else 0
theorem slice_inner {q : List Nat} (h : 2 ≤ q.length) : Txt.slice (S q) (some 1) (some (-1)) = S (inner q) := by
  show StrLaws.sliceText (S q) (some 1) (some (-1)) = _
  rw [StrLaws.sliceText_neg_hi _ _ (by omega) (by rw [S_length]; omega), StrLaws.sliceText_plain ⟨by omega, by rw [S_length]; omega, by rw [S_toList, S_length]; omega⟩, S_length, S_toList]
  unfold S inner
  congr 3
  omega
theorem slice_tail {q : List Nat} {k : Nat} (h0 : 1 ≤ k) (h1 : k ≤ q.length) : Txt.slice (S q) (some (-(k : Int))) none = S (tailN q k) := by
  show StrLaws.sliceText (S q) (some (-(k : Int))) none = _
  rw [StrLaws.sliceText_from_neg (by omega) (by rw [S_length]; omega), S_length, S_toList]
  unfold S tailN
  rw [List.take_of_length_le (by rw [List.length_drop]; omega)]
  congr 3
  omega
theorem slice_mid {q : List Nat} {a b : Nat} (h0 : a ≤ b) (h1 : b ≤ q.length) : Txt.slice (S q) (some (a : Int)) (some (b : Int)) = S ((q.drop a).take (b - a)) := by
  show StrLaws.sliceText (S q) (some (a : Int)) (some (b : Int)) = _
  rw [StrLaws.sliceText_nat _ h0 (by rw [S_length]; exact h1), S_toList]
  rfl
theorem item_zero {q : List Nat} (h : q ≠ []) : Txt.item (S q) 0 = S [q.headD 0] := by
  cases q with
  | nil => exact absurd rfl h
  | cons a r => exact item_S (a :: r) 0 0 a (by simp [seqIndex?]) rfl
theorem foldl_reps : ∀ (n : Nat) (c : Nat) (a : Array Nat), (List.replicate n #[c]).foldl (· ++ ·) a = a ++ (List.replicate n c).toArray
  | 0, c, a => by simp
  | n + 1, c, a => by
    rw [List.replicate_succ, List.foldl_cons, foldl_reps n c, List.replicate_succ]
    apply Array.ext'
    simp
theorem mul_one {c n : Nat} (h : 1 ≤ n) : Txt.mul (S [c]) (n : Int) = S (List.replicate n c) := by
  unfold Txt.mul
  rw [if_neg (by omega)]
  by_cases h1 : n = 1
  · subst h1
    rw [if_pos (by simp)]
    rfl
  · rw [if_neg (by
      have : ((n : Int) == 1) = false := by simp; omega
      simp [this, S, Str.length])]
    show Str.mk ((List.replicate (n : Int).toNat #[c]).foldl (· ++ ·) #[]) = _
    rw [foldl_reps]
    simp [S]
end Mine
namespace Mine
theorem signP_bd {p : List Nat} (hp : p.length ≤ 16) : ∀ (f : Nat) (q : List Nat), -100 ≤ signP f p q ∧ signP f p q ≤ 100
  | 0, _ => by unfold signP; omega
  | f + 1, q => by
    have ih := signP_bd hp f (bord q)
    unfold signP
    split
    · split
      · omega
      · split
        · omega
        · exact ih
    · split
      · omega
      · split
        · omega
        · split
          · omega
          · split <;> omega
end Mine
end
section
open PySem PySem.W PyProof.Rows PySem.Calls
set_option Elab.async false
namespace Mine
def HaltMark : Prop := True
def Halt (p : Prop) : Prop := p
theorem halt {p : Prop} (h : Halt p) : p := h
theorem fr_over {h₀ h : Heap} {L : Addr} {m : Str → Option Value} (ps : List (Str × Value)) (hp : ∀ p ∈ ps, m p.1 = some p.2) (F : Fr h₀ L h m) : Fr h₀ L h (kstB m ps) := by
  have : kstB m ps = m := by
    funext z
    exact kstB_eq hp fun _ => rfl
  rw [this]; exact F
section
variable {prog : Program} {w : World} {A : Around} {h₀ : Heap} {L : Addr} {m : Str → Option Value} {env : Env} {elt : Expr} {x : Str} {scope : Scope} {cl : List (Str × Addr)} {s : Shared} {S : CbLed → Prop} {P : Nat → Value → Prop} {Fin : List Value → CbLed → Prop} {news : CbLed}
/-- a comprehension, turn by turn: what each turn gives is `R i` -/
theorem comp_map {n : Nat} (R : Nat → Value → Prop)
    (turn : ∀ i v I oI C oC D m₂ ys h tk (E' : Value → Shared → Prop), i < n → P i v → LCg.NsObj oC m₂ → m₂ x = some v → Fr h₀ L h m → News h₀ L h ((I, oI) :: (C, oC) :: (D, LCg.lst ys) :: news) → LCg.Off3 I C D news → ((@Ne Nat I C) ∧ (@Ne Nat I D) ∧ (@Ne Nat C D)) →
      wpAny (model prog w) A (eval elt (compEnvC scope cl C env)) (LCg.CompEnd h₀ L m { s with heap := h, toks := tk } I oI C oC D (LCg.lst ys) S (fun y news' => news' = news ∧ R i y)) E' { s with heap := h, toks := tk })
    (fin : ∀ ys, ys.length = n → (∀ (i : Nat) (v : Value), ys[i]? = some v → R i v) → Fin ys news) : LCg.CompRest prog w A h₀ L m env elt x scope cl s S P Fin n 0 [] news := by
  have key : ∀ (j i : Nat) (ys : List Value), i + j = n → ys.length = i → (∀ (i : Nat) (v : Value), ys[i]? = some v → R i v) → LCg.CompRest prog w A h₀ L m env elt x scope cl s S P Fin j i ys news := by
    intro j
    induction j with
    | zero =>
      intro i ys hi hy hR
      exact LCg.CompRest.zero (fin ys (by omega) hR)
    | succ j ih =>
      intro i ys hi hy hR
      refine LCg.CompRest.succ ?_
      intro v I oI C oC D m₂ h tk E' hv hC hx F N off ne
      refine wpAny_mono (turn i v I oI C oC D m₂ ys h tk E' (by omega) hv hC hx F N off ne) (fun y s₂ hq => ?_) fun _ _ e => e
      obtain ⟨h', tk', nw, e, F', N', off', hS, rfl, hy'⟩ := hq
      refine ⟨h', tk', nw, e, F', N', off', hS, ?_⟩
      refine ih (i + 1) _ (by omega) (by simp [hy]) ?_
      intro k u hk
      rw [List.getElem?_append] at hk
      split at hk
      · exact hR k u hk
      · rename_i hk2
        have : k = i := by
          have := (List.getElem?_eq_some_iff.mp hk).1
          simp at this; omega
        subst this
        rw [hy, Nat.sub_self] at hk
        cases hk
        exact hy'
  exact key n 0 [] (by omega) rfl (fun i v h => by simp at h)
theorem mem3 {a b c : Addr × Obj} {news l : CbLed} (h : ∀ p ∈ news, p ∈ l) (ha : a ∈ l) (hb : b ∈ l) (hc : c ∈ l) : ∀ p ∈ a :: b :: c :: news, p ∈ l := by
  intro p hp
  rcases List.mem_cons.mp hp with rfl | hp
  · exact ha
  · rcases List.mem_cons.mp hp with rfl | hp
    · exact hb
    · rcases List.mem_cons.mp hp with rfl | hp
      · exact hc
      · exact h p hp
end
/-- the list of texts -/
def TxtAre (vs : List Value) (ps : List (List Nat)) : Prop := StrsAre vs (ps.map S)
theorem TxtAre.length {vs : List Value} {ps : List (List Nat)} (h : TxtAre vs ps) : vs.length = ps.length := by
  unfold TxtAre at h
  rw [h.length, List.length_map]
theorem TxtAre.at {vs : List Value} {ps : List (List Nat)} (h : TxtAre vs ps) {i : Nat} {v : Value} (hv : vs[i]? = some v) : ∃ p t, ps[i]? = some p ∧ v = .str (S p) t := by
  induction vs generalizing ps i with
  | nil => simp at hv
  | cons u vs ih =>
    cases ps with
    | nil => cases h
    | cons p ps =>
      cases h with
      | cons _ t h =>
        cases i with
        | zero => cases hv; exact ⟨p, t, rfl, rfl⟩
        | succ i => exact ih h hv
theorem TxtAre.get {vs : List Value} {ps : List (List Nat)} (h : TxtAre vs ps) {i : Nat} {p : List Nat} (hp : ps[i]? = some p) : ∃ t, vs[i]? = some (.str (S p) t) := by
  have hi : i < vs.length := by rw [h.length]; exact (List.getElem?_eq_some_iff.mp hp).1
  obtain ⟨q, t, e, ev⟩ := h.at (List.getElem?_eq_getElem hi)
  rw [hp] at e; cases e
  exact ⟨t, by rw [List.getElem?_eq_getElem hi, ev]⟩
theorem TxtAre.of {f : Nat → List Nat} : ∀ {vs : List Value} {n : Nat}, vs.length = n → (∀ (i : Nat) (v : Value), vs[i]? = some v → ∃ t, v = .str (S (f i)) t) → TxtAre vs ((List.range n).map f)
  | vs, n, hl, h => by
    subst hl
    unfold TxtAre
    induction vs generalizing f with
    | nil => exact .nil
    | cons u vs ih =>
      obtain ⟨t, rfl⟩ := h 0 u rfl
      rw [List.length_cons, List.range_succ_eq_map]
      simp only [List.map_cons, List.map_map]
      refine .cons (S (f 0)) t ?_
      have := ih (f := fun i => f (i + 1)) (fun i v hv => h (i + 1) v hv)
      rwa [List.map_map] at this
theorem TxtAre.snoc {vs : List Value} {ps : List (List Nat)} (h : TxtAre vs ps) (p : List Nat) (t : Tok) : TxtAre (vs ++ [Value.str (S p) t]) (ps ++ [p]) := by
  unfold TxtAre at h ⊢
  induction vs generalizing ps with
  | nil =>
    cases ps with
    | nil => exact .cons _ t .nil
    | cons p ps => cases h
  | cons u vs ih =>
    cases ps with
    | nil => cases h
    | cons p ps =>
      cases h with
      | cons _ t' h => exact .cons _ t' (ih h)
/-- one letter each -/
theorem letters {ys : List Value} (h : ∀ (i : Nat) (v : Value), ys[i]? = some v → ∃ c t, (c = 97 ∨ c = 98 ∨ c = 99) ∧ v = .str (S [c]) t) : ∃ l : List Nat, Abc l ∧ l.length = ys.length ∧ StrsAre ys (l.map fun c => S [c]) := by
  induction ys with
  | nil => exact ⟨[], fun _ h => (nomatch h), rfl, .nil⟩
  | cons y ys ih =>
    obtain ⟨c, t, hc, rfl⟩ := h 0 y rfl
    obtain ⟨l, h1, h2, h3⟩ := ih fun i v hv => h (i + 1) v hv
    refine ⟨c :: l, fun d hd => ?_, by simp [h2], .cons _ t h3⟩
    rcases List.mem_cons.mp hd with rfl | hd
    · exact hc
    · exact h1 d hd
theorem sum_one (l : List Nat) : ((l.map fun c => S [c]).map (·.length)).sum = l.length := by
  induction l with
  | nil => rfl
  | cons a l ih =>
    simp only [List.map_cons, List.sum_cons, List.length_cons] at ih ⊢
    rw [ih, S_length]
    simp; omega
theorem join_letters (l : List Nat) : Txt.join (S []) (l.map fun c => S [c]) = S l := by
  show Txt.join Str.empty _ = _
  rw [join_empty]
  unfold S
  congr 2
  induction l with
  | nil => rfl
  | cons a l ih => simpa using ih
theorem item_abc {i : Int} (h0 : 0 ≤ i) (h1 : i < 3) : ∃ c, (c = 97 ∨ c = 98 ∨ c = 99) ∧ Txt.item (Str.ofString "abc") i = S [c] := by
  have : i = 0 ∨ i = 1 ∨ i = 2 := by omega
  rcases this with rfl | rfl | rfl
  · exact ⟨97, .inl rfl, by decide +kernel⟩
  · exact ⟨98, .inr (.inl rfl), by decide +kernel⟩
  · exact ⟨99, .inr (.inr rfl), by decide +kernel⟩
end Mine
end
section
open PySem PySem.W PyProof.Rows PySem.Calls
set_option Elab.async false
namespace Mine
section
variable {prog : Program} {w : World} {A : Around} {E : Value → Shared → Prop} {Q : Flow → Shared → Prop} {s : Shared} {env : Env} {h₀ : Heap} {L : Addr}
/-- a turn of the while: it comes back with a smaller measure, or returns -/
def WStep (h₀ : Heap) (L : Addr) (s : Shared) (J : Nat → (Str → Option Value) → CbLed → Prop) (Q : Flow → Shared → Prop) (n : Nat) (f : Flow) (s₃ : Shared) : Prop :=
  match f with
  | .ret v => Q (.ret v) s₃
  | .brk => Q .next s₃
  | _ => ∃ h' tk m₂ news₂ n', s₃ = { s with heap := h', toks := tk } ∧ Fr h₀ L h' m₂ ∧ News h₀ L h' news₂ ∧ n' < n ∧ J n' m₂ news₂
theorem while_ret {test : Expr} {body : List Stmt} {pos : Pos} {m : Str → Option Value} {news : CbLed} (J : Nat → (Str → Option Value) → CbLed → Prop) {n₀ : Nat}
    (F : Fr h₀ L s.heap m) (N : News h₀ L s.heap news) (hJ : J n₀ m news)
    (turn : ∀ n m₁ news₁ h₁ tk₁, Fr h₀ L h₁ m₁ → News h₀ L h₁ news₁ → J n m₁ news₁ →
      wpAny (model prog w) A (isTrue test env (eval test env)) (fun b s₂ =>
        if b = true then wpAny (model prog w) A (execs body env) (WStep h₀ L s J Q n) E s₂ else Q .next s₂) E { s with heap := h₁, toks := tk₁ })
    (hE : PassesOwn (model prog w) A env E := by passes_own) :
    wpAny (model prog w) A (exec (.While test body [] pos) env) Q E s := by
  refine wpAny_While (codeAny_whileLoop (fun n s' => ∃ h₁ tk₁ m₁ news₁, s' = { s with heap := h₁, toks := tk₁ } ∧ Fr h₀ L h₁ m₁ ∧ News h₀ L h₁ news₁ ∧ J n m₁ news₁) ?_ n₀ ⟨s.heap, s.toks, m, news, rfl, F, N, hJ⟩)
  rintro n s' ⟨h₁, tk₁, m₁, news₁, rfl, F₁, N₁, J₁⟩
  refine wpAny_mono (turn n m₁ news₁ h₁ tk₁ F₁ N₁ J₁) (fun b s₂ h₂ => ?_) hE
  cases b with
  | false =>
    simp only [Bool.false_eq_true, if_false] at h₂ ⊢
    exact wpAny_execs_nil h₂
  | true =>
    simp only [if_true] at h₂ ⊢
    refine wpAny_mono h₂ (fun f s₃ h₃ => ?_) hE
    have up : (∃ h' tk m₂ news₂ n', s₃ = { s with heap := h', toks := tk } ∧ Fr h₀ L h' m₂ ∧ News h₀ L h' news₂ ∧ n' < n ∧ J n' m₂ news₂) → ∃ m, m < n ∧ ∃ h₁ tk₁ m₁ news₁, s₃ = { s with heap := h₁, toks := tk₁ } ∧ Fr h₀ L h₁ m₁ ∧ News h₀ L h₁ news₁ ∧ J m m₁ news₁ := by
      rintro ⟨h', tk, m₂, news₂, n', rfl, F₂, N₂, hn, J₂⟩
      exact ⟨n', hn, h', tk, m₂, news₂, rfl, F₂, N₂, J₂⟩
    cases f with
    | next => exact up h₃
    | cont => exact up h₃
    | brk => exact h₃
    | ret v => exact h₃
end


/-- the dict of the outer words -/
def OutAt (w : World) (d : Addr) (P : List Nat → Prop) (h : Heap) : Prop :=
  ∃ D, StrTab prg w h d D ∧ ∀ q, P q → PySem.Spec.lookup (PyData.str (S q)) D = some (PyData.str (S (bord q)))
theorem out_item {w : World} {A : Around} {E : Value → Shared → Prop} {s : Shared} {d : Addr} {P : List Nat → Prop} {q : List Nat} {tk : Tok} {value slice : Expr} {Q : Value → Shared → Prop} (O : OutAt w d P s.heap) (hq : P q)
    (h : ∀ t, Q (.str (S (bord q)) t) { s with toks := s.toks + 1 })
    (hs : subscripted slice false (.ref d) (.str (S q) tk) = operate [.ref d, .str (S q) tk] (getItem (.ref d) (.str (S q) tk)) := by with_unfolding_all rfl) (hg : ∀ r, letTemporaryGo value (.ref d) r = pure () := by intro _; with_unfolding_all rfl) :
    wpAny (model prg w) A (subscriptTail value slice (.ref d) (.str (S q) tk)) Q E s := by
  obtain ⟨D, T, hD⟩ := O
  exact item_strTab T (hD q hq) (fun v hv => by
    obtain ⟨t, ht⟩ := PyProof.V.Flat.str_inv hv
    rw [ht]
    exact h t) hs hg
theorem OutAt.keep {w : World} {d : Addr} {P : List Nat → Prop} {h h' : Heap} (O : OutAt w d P h) (K : ∀ b o, h.get? b = some o → h'.get? b = some o) : OutAt w d P h' :=
  let ⟨D, T, hD⟩ := O; ⟨D, T.keep K, hD⟩
theorem retHI {h₀ g : Heap} {L L' : Addr} {m m' : Str → Option Value} {news news' : CbLed} {s : Shared} {Q : Value → Shared → Prop} {h' : Heap} {tk' : Nat} {t : Tok} {b c : Int}
    (hret : ∀ (v : Value) (new : CbLed) (h' : Heap) (tk' : Nat), isI b v new → Fr h₀ L h' m → News h₀ L h' (new ++ news) → Q v { s with heap := h', toks := tk' })
    (F' : Fr g L' h' m') (N₀ : News h₀ L g news) (F : Fr h₀ L h' m) (N : News h₀ L h' news') (e : c = b) : Q (.int c t) { s with heap := h', toks := tk' } := by
  subst e
  exact retH hret F' N₀ F N ⟨rfl, _, rfl⟩ fun _ h => nomatch h
theorem inf_nil {u : List Nat} (h : inf u [] = true) : u = [] := by
  cases u with
  | nil => rfl
  | cons a u => cases h
structure SgOk (P : List Nat → Prop) : Prop where
  len : ∀ q, P q → q.length ≤ 16 ∧ q ≠ []
  bord : ∀ q, P q → bord q ≠ [] → P (bord q)
section
local macro_rules | `(tactic| walk_at "my enter") => `(tactic| (refine' enter0 ?k1 ?k2 ?k3 ?k5 ?kA ?kF ?kK ?k6 ?k7 ?k8 ?k9 ?kB ?_ ?c2 ?c3 ?c4 ?c5; (case kA => exact rfl); (case kF => exact rfl); (case kK => assumption); (case k1 => k_asm); (case k2 => k_asm); (case k3 => k_asm); (case k5 => k_asm); (case k6 => k_is); (case k7 => k_is); (case k8 => ktr_room); (case k9 => exact BindsTo.of_eq rfl); (case c5 => decide); (case kB => exact locs rfl); (case c2 => exact rfl); (case c3 => exact rfl); (case c4 => exact rfl); k_whole; intro L' h' F' N' B' X' T'; (try dsimp only); (try k_lift B'); (try k_fold)))
local macro_rules | `(tactic| walk_at "exec") => `(tactic| (k_here; (with_reducible show wpAny _ _ (exec (Stmt.While _ _ _ _) _) _ _ _); refine halt ?_))
local macro_rules | `(tactic| walk_at "exec While") => `(tactic| (k_here; (with_reducible show wpAny _ _ (exec (Stmt.While _ _ _ _) _) _ _ _); refine halt ?_))
local macro_rules | `(tactic| walk_at "exec While Compare") => `(tactic| (k_here; (with_reducible show wpAny _ _ (exec (Stmt.While _ _ _ _) _) _ _ _); refine halt ?_))
local macro_rules | `(tactic| walk_at "subscriptTail") => `(tactic| (k_here; (with_reducible show wpAny _ _ (subscriptTail _ _ (Value.ref _) (Value.str (S _) _)) _ _ _); k_dflt (refine out_item (OutAt.keep (by assumption) (Fr.keep (by assumption))) (by assumption) ?_); intro _))
set_option maxRecDepth 100000 in
set_option maxHeartbeats 8000000 in
theorem sign_claim (w : World) (P : List Nat → Prop) (u v : List Nat) (d : Addr) (t1 t2 : Tok) (hP : SgOk P) (hp : P u) (hq : P v) (hi : inf u v = true) :
    Clh w 98 1 8 (OutAt w d P) [.str (S u) t1, .str (S v) t2, .ref d] (isI (signP (v.length + 1) u v)) := by
  w_top off
  unfold Clh prg
  k_fill
  intro p loose mean mg mb dp un gd cn cs a ccd cl outer A₀ base h₀ L m news s Q E B F X N T hk hpre hd hu hret
  refine wpAny_call ?_
  k_dflt (walk_at "my enter")
  k_steps
  refine while_ret (J := fun n m news => news = [] ∧ ∃ q tp tq, P q ∧ inf u q = true ∧ q.length < n ∧ signP n u q = signP (v.length + 1) u v ∧ m (Str.ofString "small") = some (.str (S u) tp) ∧ m (Str.ofString "great") = some (.str (S q) tq) ∧ m (Str.ofString "outer") = some (.ref d))
    (by assumption) (by assumption) ⟨rfl, v, t1, t2, hq, hi, Nat.lt_succ_self _, rfl, rfl, rfl, rfl⟩ ?_
  rename Fr s.heap _ _ _ => F'
  clear F'
  rename News s.heap _ _ _ => N'
  clear N'
  rintro n m₁ news₁ h₁ tk₁ F₁ N₁ ⟨rfl, q, tp, tq, hq, hi, hn, hr, e1, e2, e3⟩
  have F₂ := fr_over [(Str.ofString "small", .str (S u) tp), (Str.ofString "great", .str (S q) tq), (Str.ofString "outer", .ref d)] (by
    intro p hp
    rcases List.mem_cons.mp hp with rfl | hp
    · exact e1
    · rcases List.mem_cons.mp hp with rfl | hp
      · exact e2
      · rcases List.mem_cons.mp hp with rfl | hp
        · exact e3
        · cases hp) F₁
  clear F₁ e1 e2 e3
  dsimp only [kstB] at F₂
  cases n with
  | zero => omega
  | succ n =>
  rw [signP] at hr
  have l1 := (hP.len u hp).1
  have l2 := (hP.len q hq).1
  have z1 := (hP.len u hp).2
  have z2 := (hP.len q hq).2
  have lb := bord_lt z2
  have k1 : (S u).length = u.length := S_length u
  have k2 : (S q).length = q.length := S_length q
  have c1 := in_S (bord q) u
  by_cases hl : u.length + 2 < q.length
  · rw [if_pos hl] at hr
    have sl := slice_inner (q := q) (by omega)
    have c2 := in_S (inner q) (bord q)
    rw [← sl] at c2
    cases hb : inf u (bord q) with
    | false =>
      rw [hb] at c1 hr
      rw [if_pos rfl] at hr
      k_steps
      dsimp only [WStep]
      k_steps
      exact retHI hret (by assumption) N (by assumption) (by assumption) hr
    | true =>
      rw [hb] at c1 hr
      rw [if_neg (by decide)] at hr
      cases hb2 : inf (bord q) (inner q) with
      | true =>
        rw [hb2] at c2 hr
        rw [if_pos rfl] at hr
        k_steps
        dsimp only [WStep]
        k_steps
        exact retHI hret (by assumption) N (by assumption) (by assumption) hr
      | false =>
        rw [hb2] at c2 hr
        rw [if_neg (by decide)] at hr
        k_steps
        exact ⟨_, _, _, _, n, rfl, by assumption, by assumption, Nat.lt_succ_self _, rfl, bord q, _, _, hP.bord q hq (fun e => z1 (inf_nil (e ▸ hb))), hb, by omega, hr, rfl, rfl, rfl⟩
  · rw [if_neg hl] at hr
    by_cases hl2 : q.length < u.length + 2
    · rw [if_pos hl2] at hr
      k_steps
      exact retHI hret (by assumption) N (by assumption) (by assumption) (by rw [← hr, S_length, S_length])
    · rw [if_neg hl2] at hr
      have sl := slice_inner (q := q) (by omega)
      have c3 : (S q == Txt.mul (Txt.item (S q) 0) ((S q).length : Int)) = decide (q = List.replicate q.length (q.headD 0)) := by
        rw [item_zero z2, S_length, mul_one (by omega), S_beq]
      have c4 : (S u == Txt.slice (S q) (some 1) (some (-1))) = decide (u = inner q) := by
        rw [sl, S_beq]
      have c5 : (S u == S (bord q)) = decide (u = bord q) := by
        rw [S_beq]
      by_cases d1 : q = List.replicate q.length (q.headD 0)
      · rw [if_pos d1] at hr
        rw [decide_eq_true d1] at c3
        k_steps
        exact retHI hret (by assumption) N (by assumption) (by assumption) hr
      · rw [if_neg d1] at hr
        rw [decide_eq_false d1] at c3
        by_cases d2 : u = inner q
        · rw [if_pos d2] at hr
          rw [decide_eq_true d2] at c4
          k_steps
          exact retHI hret (by assumption) N (by assumption) (by assumption) hr
        · rw [if_neg d2] at hr
          rw [decide_eq_false d2] at c4
          by_cases d3 : u = bord q
          · rw [if_pos d3] at hr
            rw [decide_eq_true d3] at c5
            k_steps
            exact retHI hret (by assumption) N (by assumption) (by assumption) hr
          · rw [if_neg d3] at hr
            rw [decide_eq_false d3] at c5
            k_steps
            exact retHI hret (by assumption) N (by assumption) (by assumption) hr
end
end Mine
end
section
open PySem PySem.W PyProof.Rows PySem.Calls PySem.SeqAt
set_option Elab.async false
namespace Mine
theorem upd_ne {m : Str → Option Value} {x y : Str} {v : Option Value} {u : Value} (h : m y = some u) (n : (y == x) = false) : (fun z => if z = x then v else m z) y = some u := by
  have : ¬ y = x := fun e => by subst e; simp at n
  simp only [this, if_false, h]
theorem all1 {P : Str × Value → Prop} {a : Str × Value} (ha : P a) : ∀ p ∈ [a], P p := fun p hp => by
  rcases List.mem_cons.mp hp with rfl | hp
  · exact ha
  · cases hp
theorem allc {P : Str × Value → Prop} {a : Str × Value} {l : List (Str × Value)} (ha : P a) (h : ∀ p ∈ l, P p) : ∀ p ∈ a :: l, P p := fun p hp => by
  rcases List.mem_cons.mp hp with rfl | hp
  · exact ha
  · exact h p hp
section
variable {prog : Program} {w : World} {A : Around} {E : Value → Shared → Prop} {s : Shared} {env : Env} {h₀ : Heap} {x : Str} {body : List Stmt} {Q : Flow → Shared → Prop}
/-- a for over a range, by an invariant over the locals and the ledger -/
theorem loop_range {r : Addr} {a₀ b₀ : Int} {t₀ u₀ v₀ : Tok} {n : Nat} {m₀ : Str → Option Value} (J : Nat → (Str → Option Value) → CbLed → Prop)
    (hh : A.handled = none) (hr : IsRange s.heap r a₀ b₀ 1 t₀ u₀ v₀) (hsmall : Builtin.Range.small a₀ b₀ 1 = true) (hsz : Builtin.Range.rangeSize a₀ b₀ 1 = (n : Int)) (F : Fr h₀ env.locals s.heap m₀) (nx₀ : CbLed) (N : News h₀ env.locals s.heap nx₀) (hj : J 0 m₀ nx₀)
    (turn : ∀ i t m₁ nx h tk own, i < n → OwnOff own (nx.map (·.1)) → J i m₁ nx → Fr h₀ env.locals h (fun y => if y = x then some (.int (a₀ + (i : Int)) t) else m₁ y) → News h₀ env.locals h (nx ++ own) →
      wpAny (model prog w) A (execs body env) (InvPostG h₀ env.locals (J (i + 1)) own { s with heap := h, toks := tk } Q) E { s with heap := h, toks := tk })
    (done : ∀ m₁ nx h tk, J n m₁ nx → Fr h₀ env.locals h m₁ → News h₀ env.locals h nx → Q .next { s with heap := h, toks := tk }) :
    wpAny (model prog w) A (pyIter (.ref r)) (fun it s₂ => LoopAtV prog w A h₀ env x body Q E it s₂) E s := by
  refine wpAny_pyIter_range hr hsmall ?_
  have W : Walks prog w A s.heap.objs.size [s.heap.objs.size] [s.heap.objs.size] n (fun i v => i < n ∧ ∃ t, v = .int (a₀ + i * 1) t)
      (fun i h => IsRangeIter h s.heap.objs.size (a₀ + (i : Nat) * 1) ((n : Int) - (i : Nat)) 1) := (Walks.range hh _ a₀ 1 n).bound
  refine kdr_loop J W (fun _ h => h) (fun _ h => h) ?_ ?_ ?_ ?_ (by show IsRangeIter _ _ _ _ _; rw [hsz]; simpa using Heap.get?_push_size _ rfl) (F.push _) (fun p hp => ⟨Heap.get?_push_of_some _ (N p hp).1, (N p hp).2⟩) hj ?_ ?_
  · intro i h hi b hb
    rw [List.mem_singleton.mp hb]
    exact ⟨_, hi⟩
  · intro hm
    exact absurd F.ns.lt ((List.mem_singleton.mp hm) ▸ Nat.lt_irrefl _)
  · intro b hb
    rw [List.mem_singleton.mp hb]
    exact next_is_new F
  · intro p hp hI
    exact absurd (Heap.lt_size (N p hp).1) ((List.mem_singleton.mp hI) ▸ Nat.lt_irrefl _)
  · rintro i v m₁ nx h tk own hi ⟨_, t, rfl⟩ hoff hJ F₁ N₁
    have e1 : a₀ + (i : Int) * 1 = a₀ + (i : Int) := by omega
    rw [e1] at F₁
    exact turn i t m₁ nx h tk own hi hoff hJ F₁ N₁
  · intro m₁ nx h tk hJ F₁ N₁
    exact done m₁ nx h tk hJ F₁ N₁
/-- a for over a list that the heap at the call holds -/
theorem loop_base {l : Addr} {vs : List Value} {m₀ : Str → Option Value} (J : Nat → (Str → Option Value) → CbLed → Prop)
    (hh : A.handled = none) (hl : h₀.IsList l vs.toArray) (F : Fr h₀ env.locals s.heap m₀) (nx₀ : CbLed) (N : News h₀ env.locals s.heap nx₀) (hj : J 0 m₀ nx₀)
    (turn : ∀ i v m₁ news₁ h tk own, vs[i]? = some v → OwnOff own (news₁.map (·.1)) → J i m₁ news₁ → Fr h₀ env.locals h (fun y => if y = x then some v else m₁ y) → News h₀ env.locals h (news₁ ++ own) →
      wpAny (model prog w) A (execs body env) (InvPostG h₀ env.locals (J (i + 1)) own { s with heap := h, toks := tk } Q) E { s with heap := h, toks := tk })
    (done : ∀ m₁ news₁ h tk, J vs.length m₁ news₁ → Fr h₀ env.locals h m₁ → News h₀ env.locals h news₁ → Q .next { s with heap := h, toks := tk }) :
    wpAny (model prog w) A (pyIter (.ref l)) (fun it s₂ => LoopAtV prog w A h₀ env x body Q E it s₂) E s := by
  have hls : s.heap.IsList l vs.toArray := hl.at fun o e => F.keep l o e
  obtain ⟨ol, hol, _⟩ := id hl
  have hlt : l < h₀.objs.size := Heap.lt_size hol
  have hne : l ≠ s.heap.objs.size := Nat.ne_of_lt (Nat.lt_trans (Nat.lt_of_lt_of_le hlt F.above) F.ns.lt)
  refine wpAny_pyIter_list hls ?_
  have W := Walks.list (prog := prog) (w := w) hh s.heap.objs.size l hne vs.toArray
  have hlen : vs.toArray.size = vs.length := by simp
  rw [hlen] at W
  refine ⟨_, _, _, vs.length, _, _, m₀, nx₀, J, rfl, W, ?_, ?_, ?_, ⟨⟨_, Heap.get?_push_size _ rfl, rfl, rfl⟩, hls.at fun o e => Heap.get?_push_of_some _ e⟩, F.push _, (fun p hp => ⟨Heap.get?_push_of_some _ (N p hp).1, (N p hp).2⟩), hj, ?_, ?_⟩
  · intro hm
    rcases List.mem_cons.mp hm with e | hm
    · exact absurd F.ns.lt (e ▸ Nat.lt_irrefl _)
    · exact absurd (Nat.lt_of_lt_of_le hlt F.above) ((List.mem_singleton.mp hm) ▸ Nat.lt_irrefl _)
  · intro b hb
    rw [List.mem_singleton.mp hb]
    exact next_is_new F
  · intro p hp hI
    exact absurd (Heap.lt_size (N p hp).1) ((List.mem_singleton.mp hI) ▸ Nat.lt_irrefl _)
  · rintro i v m₁ news₁ s₁ own ⟨hh', tk', rfl⟩ hin hP hJ hoff hown _ hfp hst F₁ N₁
    have hI0 : h₀.get? s.heap.objs.size = none := next_is_new F
    obtain ⟨⟨oI, hoI, _⟩, _⟩ := id hst
    have hIown : (s.heap.objs.size, oI) ∈ own := hfp _ (List.mem_cons.mpr (.inl rfl)) hI0 _ hoI
    have hsep : OwnOff own (news₁.map (·.1)) := by
      intro p hp b hb e
      obtain ⟨q, hq, rfl⟩ := List.mem_map.mp hb
      rcases List.mem_cons.mp (hown p hp) with h1 | h1
      · exact hoff q hq (List.mem_singleton.mpr (e ▸ h1))
      · have h2 := List.mem_singleton.mp h1
        have h3 := (N₁ q (List.mem_append.mpr (.inr hq))).2.2
        rw [← e, h2, hol] at h3
        cases h3
    have hv : vs[i]? = some v := by simpa using hP
    have N₂ : News h₀ env.locals hh' (news₁ ++ own) := fun p hp => N₁ p ((List.mem_append.mp hp).elim (fun h => List.mem_append.mpr (.inr h)) fun h => List.mem_append.mpr (.inl h))
    refine wpAny_mono (turn i v m₁ news₁ hh' tk' own hv hsep hJ F₁ N₂) (fun f s₂ p => ?_) fun _ _ e => e
    have fin : InvEndG h₀ env.locals (J (i + 1)) own { s with heap := hh', toks := tk' } s₂ → LoopStepU h₀ env.locals [s.heap.objs.size] own (J (i + 1)) { s with heap := hh', toks := tk' } .next s₂ := by
      rintro ⟨h', tk, m', news', nx, e, F', N', hn, ho, ha, hm⟩
      refine ⟨rfl, h', tk, m', nx, e, F', fun p hp => N' p ((List.mem_append.mp hp).elim (ho p) (hn p)), fun p hp hq => ?_, hm⟩
      exact ha _ hIown p.1 (List.mem_map.mpr ⟨p, hp, rfl⟩) (List.mem_singleton.mp hq).symm
    cases f with
    | ret v => exact .ret p
    | brk => exact .brk p
    | next => exact .next (fin p)
    | cont => exact .cont (fin p)
  · rintro h' tk m' news' F' N' _ hJ
    exact done m' news' h' tk hJ F' N'
end
/-- a fact kept from the walk's sight -/
def Hid (p : Prop) : Prop := p
theorem off_ne {own : CbLed} {a : Addr} {adr : List Addr} (h : OwnOff own adr) (ha : a ∈ adr) : ∀ p ∈ own, p.1 ≠ a := fun p hp => h p hp a ha
theorem push_led {D : Addr} {vs : List Value} {x : Value} {k : Nat} {own : CbLed} : (D, listOf (vs.toArray.push x) (k + 1)) :: own = (D, listOf (vs ++ [x]).toArray (k + 1)) :: own := by rw [List.push_toArray]
theorem sub_a {a : Addr × Obj} {own own' : CbLed} : ∀ p ∈ a :: own, p ∈ a :: (own ++ own') := fun p hp => by
  rcases List.mem_cons.mp hp with rfl | hp
  · exact .head _
  · exact .tail _ (List.mem_append.mpr (.inl hp))
theorem sub_b {a : Addr × Obj} {own own' : CbLed} : ∀ p ∈ own', p ∈ a :: (own ++ own') := fun p hp => .tail _ (List.mem_append.mpr (.inr hp))
theorem sub_1 {a : Addr × Obj} {own : CbLed} : ∀ p ∈ [a], p ∈ a :: own := fun p hp => by
  rcases List.mem_cons.mp hp with rfl | hp
  · exact .head _
  · cases hp
theorem sub_t {a : Addr × Obj} {own : CbLed} : ∀ p ∈ own, p ∈ a :: own := fun p hp => .tail _ hp
theorem all_app {own own' : CbLed} {a : Addr} (h : ∀ p ∈ own, p.1 ≠ a) (h' : ∀ p ∈ own', p.1 ≠ a) : ∀ p ∈ own ++ own', p.1 ≠ a := fun p hp => (List.mem_append.mp hp).elim (h p) (h' p)
section
variable {prog : Program} {w : World} {A : Around} {E : Value → Shared → Prop} {s : Shared}
theorem any_S (ps : List (List Nat)) (q : List Nat) : (ps.map S).any (· == S q) = ps.contains q := by
  induction ps with
  | nil => rfl
  | cons p ps ih =>
    rw [List.map_cons, List.any_cons, ih, List.contains_cons, S_beq]
    by_cases h : p = q
    · subst h; simp
    · have h2 : ¬ q = p := fun e => h e.symm
      simp [h, h2]
theorem notin_txt {l : Addr} {vs : List Value} {ps : List (List Nat)} {q : List Nat} {t : Tok} {Q : Value → Shared → Prop} (hl : s.heap.IsList l vs.toArray) (hi : TxtAre vs ps)
    (h : Q (.bool (!(ps.contains q))) s) : wpAny (model prog w) A (compareOp .NotIn (.str (S q) t) (.ref l)) Q E s :=
  notin_list_strs hl hi (by rw [any_S]; exact h)
theorem item_txt {value slice : Expr} {l : Addr} {vs : List Value} {ps : List (List Nat)} {k : Int} {i : Nat} {p : List Nat} {u : Tok} {Q : Value → Shared → Prop} (hl : s.heap.IsList l vs.toArray) (hi : TxtAre vs ps) (hk : k = (i : Int)) (hp : ps[i]? = some p) (hs : ps.length ≤ 100)
    (h : ∀ t, Q (.str (S p) t) s)
    (hs : subscripted slice false (.ref l) (.int k u) = operate [.ref l, .int k u] (getItem (.ref l) (.int k u)) := by with_unfolding_all rfl) :
    wpAny (model prog w) A (subscriptTail value slice (.ref l) (.int k u)) Q E s := by
  subst hk
  obtain ⟨t, ht⟩ := hi.get hp
  have := (List.getElem?_eq_some_iff.mp hp).1
  exact tail_any hl.typeIs slot_list_getitem.lookup (wpAny_getItem_list hl (by omega) (by omega) (x := .str (S p) t) (by simpa using ht) (h t)) hs
theorem isStr_at (k : Str) : ∀ {vs : List Value} {ns : List Str}, StrsAre vs ns → ∀ (j : Nat) (h1 : j < vs.length) (h2 : j < ns.length), isStrOf k vs[j] = (ns[j] == k)
  | _, _, .cons n t _, 0, _, _ => rfl
  | _, _, .cons n t r, j + 1, h1, h2 => isStr_at k r j (Nat.lt_of_succ_lt_succ h1) (Nat.lt_of_succ_lt_succ h2)
theorem index_txt {l : Addr} {vs : List Value} {ps : List (List Nat)} {q : List Nat} {j : Nat} {t : Tok} {Q : Value → Shared → Prop} (hl : s.heap.IsList l vs.toArray) (hi : TxtAre vs ps) (hb : ps.length ≤ 100)
    (hj : ps[j]? = some q) (hno : ∀ i, i < j → ps[i]? ≠ some q) (h : Q (.int (j : Nat) s.toks) { s with toks := s.toks + 1 }) :
    wpAny (model prog w) A (call (.builtin "list.index") [.ref l, .str (S q) t]) Q E s := by
  obtain ⟨⟨cls, dd, data, sl⟩, ho, hc, n, hd⟩ := id hl
  simp only at hc hd
  subst hc hd
  have hlen := hi.length
  have hjl := (List.getElem?_eq_some_iff.mp hj).1
  have hi' : StrsAre vs (ps.map S) := hi
  refine call_meets PySem.F.slot_list_index ⟨_, ho, rfl⟩ PySem.F.entry_list_index (PySem.F.args_list_index_2 _ _)
    (list_indexAt l vs.toArray n dd sl (.str (S q) t) (isStrOf (S q)) j (by simpa [hlen] using hjl) (by omega) ?_ ?_) ⟨ho, fun y hy => (eq_isStrOf (S q) t hi' y (by simpa using hy)).at _ _, h⟩
  · show isStrOf (S q) vs[j] = true
    rw [isStr_at (S q) hi' j (by omega) (by simpa using hjl)]
    have := (List.getElem?_eq_some_iff.mp hj).2
    simp [this]
  · intro i hjs hlt
    show isStrOf (S q) vs[i] = false
    rw [isStr_at (S q) hi' i (by simpa using hjs) (by simp; omega)]
    have h9 := hno i hlt
    rw [List.getElem?_eq_getElem (by omega)] at h9
    rw [List.getElem_map, S_beq]
    exact decide_eq_false fun e => h9 (by rw [e])
end
end Mine
end
section
open PySem
namespace Mine
def addN (acc : List (List Nat)) (p : List Nat) : List (List Nat) := if acc.contains p then acc else acc ++ [p]
def innerP (w : List Nat) (size : Nat) (acc : List (List Nat)) (n : Nat) : List (List Nat) := (List.range n).foldl (fun acc start => addN acc ((w.drop start).take size)) acc
def outerP (w : List Nat) (n : Nat) : List (List Nat) := (List.range n).foldl (fun acc i => innerP w (1 + i) acc (w.length - i)) []
def piecesP (w : List Nat) : List (List Nat) := outerP w w.length
theorem innerP_succ (w : List Nat) (size : Nat) (acc : List (List Nat)) (n : Nat) : innerP w size acc (n + 1) = addN (innerP w size acc n) ((w.drop n).take size) := by
  unfold innerP
  rw [List.range_succ, List.foldl_append]
  rfl
theorem outerP_succ (w : List Nat) (n : Nat) : outerP w (n + 1) = innerP w (1 + n) (outerP w n) (w.length - n) := by
  unfold outerP
  rw [List.range_succ, List.foldl_append]
  rfl
theorem addN_length (acc : List (List Nat)) (p : List Nat) : (addN acc p).length ≤ acc.length + 1 := by
  unfold addN
  split
  · omega
  · simp
end Mine
end
section
open PySem PySem.W PyProof.Rows PySem.Calls
set_option Elab.async false
namespace Mine
theorem zeros (n : Nat) : (List.replicate n [(0 : Int)]).flatten = List.replicate n 0 := by
  induction n with
  | zero => rfl
  | succ n ih => rw [List.replicate_succ, List.flatten_cons, ih, List.replicate_succ]; rfl
theorem drawn_len (ns : List Int) : 4 ≤ (List.map (fun k' => k'.fmod 3) (List.take 5 ns) ++ (List.replicate (4 - ((List.map (fun k' => k'.fmod 3) (List.take 5 ns)).length : Int)).toNat [(0 : Int)]).flatten).length ∧ (List.map (fun k' => k'.fmod 3) (List.take 5 ns) ++ (List.replicate (4 - ((List.map (fun k' => k'.fmod 3) (List.take 5 ns)).length : Int)).toNat [(0 : Int)]).flatten).length ≤ 5 := by
  rw [zeros, List.length_append, List.length_replicate, List.length_map, List.length_take]
  omega
theorem drawn_rng (ns : List Int) : ∀ x ∈ (List.map (fun k' => k'.fmod 3) (List.take 5 ns) ++ (List.replicate (4 - ((List.map (fun k' => k'.fmod 3) (List.take 5 ns)).length : Int)).toNat [(0 : Int)]).flatten), 0 ≤ x ∧ x < 3 := by
  intro x hx
  rw [zeros] at hx
  rcases List.mem_append.mp hx with h | h
  · obtain ⟨y, _, rfl⟩ := List.mem_map.mp h
    exact ⟨fmod_lo _ (by decide), fmod_hi _ (by decide)⟩
  · have := List.eq_of_mem_replicate h
    subst this
    decide
section
local macro_rules | `(tactic| walk_at "my enter") => `(tactic| (refine' enter0C ?k1 ?k2 ?k3 ?k5 ?kA ?kF ?kK ?k6 ?k7 ?k8 ?k9 ?kB ?kD ?_ ?c2 ?c3 ?c4; (case kA => exact rfl); (case kF => exact rfl); (case kK => assumption); (case k1 => k_asm); (case k2 => k_asm); (case k3 => k_asm); (case k5 => k_asm); (case k6 => k_is); (case k7 => k_is); (case k8 => ktr_room); (case k9 => exact BindsTo.of_eq rfl); (case kD => decide +kernel); (case kB => exact rfl); (case c2 => exact rfl); (case c3 => exact rfl); (case c4 => exact rfl); k_whole; intro L' h' tk' cells' F' N' Y' B' X' T'; k_cells Y'; (try simp only [List.cons_append, List.nil_append] at N'); (try dsimp only); (try k_lift B'); (try k_fold)))

local macro_rules | `(tactic| walk_at "CompSrc") => `(tactic| ((with_reducible rename HaltMark => hM'); refine halt ?_))
local macro_rules | `(tactic| walk_at "CompEnd") => `(tactic| ((with_reducible rename HaltMark => hM'); refine halt ?_))
local macro_rules | `(tactic| walk_at "eval ListComp") => `(tactic| ((with_reducible rename HaltMark => hM'); k_here; k_dflt (refine LCg.ListComp_U (F₀ := by k_asm) (by with_unfolding_all rfl) (by decide) (by rfl) (by decide) (by rfl) ?_)))
local macro_rules | `(tactic| walk_at "call builtin:len") => `(tactic| ((with_reducible rename HaltMark => hM'); (with_reducible show wpAny _ _ (call (Value.builtin "len") [Value.ref _]) _ _ _); k_dflt (refine kst_len (by k_asm) (by k_mem) (by assumption) (by omega) ?_)))
local macro_rules | `(tactic| walk_at "call builtin:str.join") => `(tactic| ((with_reducible rename HaltMark => hM'); k_dflt (refine join_list (News.isList (by k_asm) (by k_mem)) (by assumption) (by assumption) ?_); intro t' k'; (with_reducible rename Txt.join _ _ = _ => hj9); rw [hj9]))
local macro_rules | `(tactic| walk_at "pyIter ref") => `(tactic| ((with_reducible rename HaltMark => hM'); refine halt ?_))
local macro_rules | `(tactic| walk_at "compareOp NotIn str ref") => `(tactic| ((with_reducible rename HaltMark => hM'); (with_reducible rename Txt.slice _ _ _ = _ => hsl9); rw [hsl9]; k_dflt (refine notin_txt (News.isList (by k_asm) (by k_mem)) (by assumption) ?_)))
local macro_rules | `(tactic| walk_at "call builtin:list.append") => `(tactic| ((with_reducible rename HaltMark => hM'); (with_reducible rename Txt.slice _ _ _ = _ => hsl9); rw [hsl9]; k_dflt (refine append_K (by k_asm) (by k_asm) (Upd.head (by assumption)) ?_ (by assumption)); intro h' F' N'))
set_option maxRecDepth 100000 in
set_option maxHeartbeats 8000000 in
theorem pieces_claim (w : World) (sl : Addr) (vs : List Value) (ns : List Int) (hns : IntsAre vs ns) (hfit : ns.length ≤ 63) :
    Clh w 86 3 30 (fun h => h.IsList sl vs.toArray) [.ref sl] (fun v new => ∃ D vs k wd, v = .ref D ∧ new = [(D, listOf vs.toArray k)] ∧ TxtAre vs (piecesP wd) ∧ Abc wd ∧ 4 ≤ wd.length ∧ wd.length ≤ 5) := by
  w_top off
  unfold Clh prg
  k_fill
  intro p loose mean mg mb dp un gd cn cs a ccd cl outer A₀ base h₀ L m news s Q E B F X N T hk hpre hd hu hret
  refine wpAny_call ?_
  k_dflt (walk_at "my enter")
  k_steps
  rename IntsAre _ (_ ++ _) => hD
  generalize hDe : (_ ++ _ : List Int) = D at hD
  have hlen : 4 ≤ D.length ∧ D.length ≤ 5 := by
    rw [← hDe]
    exact drawn_len ns
  have hrng : ∀ x ∈ D, 0 ≤ x ∧ x < 3 := by
    rw [← hDe]
    exact drawn_rng ns
  clear hDe
  have hwl := hD.length
  obtain ⟨n, hn⟩ : ∃ n, D.length = n := ⟨_, rfl⟩
  rw [hn] at hlen hwl
  have hM : HaltMark := True.intro
  k_steps
  refine LCg.CompSrc.range (n := n) (by rfl) (by k_asm) (by k_asm) (by assumption) (small_one (by omega) (by omega) (by omega) (by omega)) (rangeSize_nat _ _) (by simp only [sizeLine]; omega) ?_
  intro g'
  refine comp_map (fun i v => ∃ c t, (c = 97 ∨ c = 98 ∨ c = 99) ∧ v = .str (S [c]) t) ?_ ?_
  · intro i v I oI C oC D₂ m₂ ys h tk E' hi hv hC hx F N off ne
    obtain ⟨t9, rfl⟩ := hv
    k_steps
    obtain ⟨c, hc, e⟩ := item_abc (fmod_lo _ (by decide)) (fmod_hi _ (by decide))
    exact LCg.CompEnd.intro (by assumption) (by assumption) _ (fun _ h => List.mem_cons_of_mem _ h) off trivial ⟨rfl, c, _, hc, congrArg (fun z => Value.str z _) e⟩
  · intro ys hy hR
    obtain ⟨l, hl, hll, hS⟩ := letters hR
    have hj := join_letters l
    have hsz : ((l.map fun c => S [c]).map (·.length)).sum + (l.map fun c => S [c]).length * (S []).length ≤ 16777216 := by
      rw [sum_one]
      simp only [List.length_map, S, Str.length]
      simp
      omega
    rw [← S_nil] at hj hsz
    have hz : (S l).length ≤ 1000 := by rw [S_length]; omega
    have hl5 : Hid (4 ≤ l.length ∧ l.length ≤ 5) := ⟨by omega, by omega⟩
    clear hlen hwl hn hll hy hrng hD hfit hns
    k_steps
    rename News s.heap _ _ _ => N₀
    rename Fr s.heap _ _ _ => F₀
    have hln : 4 ≤ l.length ∧ l.length ≤ 5 := hl5
    refine loop_range (n := l.length) (J := fun i m nx => ∃ D vs k ps tw, nx = [(D, listOf vs.toArray k)] ∧ TxtAre vs ps ∧ ps = outerP l i ∧ ps.length ≤ 5 * i ∧ m (Str.ofString "word") = some (.str (S l) tw) ∧ m (Str.ofString "pieces") = some (.ref D))
      (by rfl) (by assumption) (small_one (by omega) (by omega) (by omega) (by omega)) (by rw [rangeSize_nat, S_length]; omega) F₀ _ (fun p hp => N₀ p (List.mem_cons.mpr (.inl (List.mem_singleton.mp hp)))) ⟨_, [], _, [], _, rfl, .nil, rfl, Nat.zero_le _, rfl, rfl⟩ ?_ ?_
    · clear F₀ N₀
      rintro i t m₁ nx h tk own hi hoff ⟨D, vs, k, ps, tw, rfl, hT, hps, hpl, e1, e2⟩ F₁ N₁
      have F₂ := fr_over [(Str.ofString "size", .int (1 + (i : Int)) t), (Str.ofString "word", .str (S l) tw), (Str.ofString "pieces", .ref D)] (allc (P := fun p => _ = some p.2) (if_pos rfl) (allc (P := fun p => _ = some p.2) (upd_ne e1 (by decide)) (all1 (P := fun p => _ = some p.2) (upd_ne e2 (by decide))))) F₁
      clear F₁ e1 e2
      dsimp only [kstB] at F₂
      rw [List.cons_append, List.nil_append] at N₁
      k_steps
      rename News s.heap _ _ _ => N₃
      rename Fr s.heap _ _ _ => F₃
      refine loop_range (n := l.length - i) (J := fun j m nx => ∃ vs k ps' tw ts, nx = (D, listOf vs.toArray k) :: own ∧ TxtAre vs ps' ∧ ps' = innerP l (1 + i) ps j ∧ ps'.length ≤ 5 * i + j ∧ m (Str.ofString "word") = some (.str (S l) tw) ∧ m (Str.ofString "pieces") = some (.ref D) ∧ m (Str.ofString "size") = some (.int (1 + (i : Int)) ts))
        (by rfl) (by assumption) (small_one (by omega) (by omega) (by omega) (by omega)) (by rw [rangeSize_nat, S_length]; omega) F₃ _ N₃ ⟨vs, k, ps, tw, t, rfl, hT, rfl, hpl, rfl, rfl, rfl⟩ ?_ ?_
      · clear F₃ N₃
        have hofD : ∀ p ∈ own, p.1 ≠ D := off_ne hoff (by simp)
        clear hoff
        rintro j t' m₂ nx h' tk' own' hjl hoff' ⟨vs, k, ps', tw, ts, rfl, hT, hps', hpl, e1, e2, e3⟩ F₄ N₄
        have F₅ := fr_over [(Str.ofString "start", .int (0 + (j : Int)) t'), (Str.ofString "word", .str (S l) tw), (Str.ofString "pieces", .ref D), (Str.ofString "size", .int (1 + (i : Int)) ts)] (allc (P := fun p => _ = some p.2) (if_pos rfl) (allc (P := fun p => _ = some p.2) (upd_ne e1 (by decide)) (allc (P := fun p => _ = some p.2) (upd_ne e2 (by decide)) (all1 (P := fun p => _ = some p.2) (upd_ne e3 (by decide)))))) F₄
        clear F₄ e1 e2 e3
        dsimp only [kstB] at F₅
        rw [List.cons_append] at N₄
        have hne : ∀ p ∈ own ++ own', p.1 ≠ D := all_app hofD (off_ne hoff' (by simp))
        have hsl : Txt.slice (S l) (some (0 + (j : Int))) (some (0 + (j : Int) + (1 + (i : Int)))) = S ((l.drop j).take (1 + i)) := by
          have := slice_mid (q := l) (a := j) (b := j + (1 + i)) (by omega) (by omega)
          rw [show j + (1 + i) - j = 1 + i from by omega] at this
          rw [← this]
          congr 2 <;> omega
        have hsz9 : vs.toArray.size ≤ sizeLine := by
          rw [List.size_toArray, hT.length]
          simp only [sizeLine]
          have : Hid (4 ≤ l.length ∧ l.length ≤ 5) := hl5
          have : 4 ≤ l.length ∧ l.length ≤ 5 := this
          omega
        cases hc : ps'.contains ((l.drop j).take (1 + i)) with
        | true =>
          k_steps
          exact InvEndG.intro (by assumption) (by assumption) ⟨vs, k, ps', tw, ts, rfl, hT, by rw [innerP_succ, ← hps', addN, if_pos hc], by omega, rfl, rfl, rfl⟩ hoff' sub_a sub_b
        | false =>
          k_steps
          rename News s.heap _ _ _ => N₆
          exact InvEndG.intro (by assumption) N₆ ⟨_, _, _, tw, ts, push_led, hT.snoc _ _, by rw [innerP_succ, ← hps', addN, if_neg (by rw [hc]; decide)], by rw [List.length_append, List.length_singleton]; omega, rfl, rfl, rfl⟩ hoff' sub_a sub_b
      · rintro m₂ nx h' tk' ⟨vs, k, ps', tw, ts, rfl, hT, hps', hpl, e1, e2, e3⟩ F₄ N₄
        k_steps
        exact InvEndG.intro (by assumption) N₄ ⟨D, vs, k, ps', tw, rfl, hT, by rw [hps', hps, outerP_succ], by omega, e1, e2⟩ hoff sub_1 sub_t
    · rintro m₁ nx h tk ⟨D, vs, k, ps, tw, rfl, hT, hps, hpl, e1, e2⟩ F₁ N₁
      have F₂ := fr_over [(Str.ofString "pieces", .ref D)] (all1 (P := fun p => _ = some p.2) e2) F₁
      clear F₁ e1 e2
      dsimp only [kstB] at F₂
      k_steps
      exact retH hret (by assumption) N (by assumption) (by assumption) ⟨D, vs, k, l, rfl, rfl, by rw [hps] at hT; exact hT, hl, hln⟩ (fun _ h => h)
end
end Mine
end
section
open PySem
namespace Mine
structure PcOk (ps : List (List Nat)) : Prop where
  abc : ∀ p ∈ ps, Abc p ∧ p ≠ [] ∧ p.length ≤ 16
  len : 1 ≤ ps.length ∧ ps.length ≤ 100
  uniq : ∀ (i j : Nat) (p : List Nat), ps[i]? = some p → ps[j]? = some p → i = j
  ends : ∀ (k : Nat) (p : List Nat) (n : Nat), ps[k]? = some p → 1 ≤ n → n < p.length → ∃ j, j + 1 < ps.length ∧ ps[j]? = some (tailN p n)
theorem join_nl : ∀ {l : List Nat}, l ≠ [] → Txt.join (S [10]) (l.map fun c => S [c]) ++ S [10] = S (mailSrc l)
  | [], h => absurd rfl h
  | a :: l, _ => by
    have e : (Txt.join (S [10]) ((a :: l).map fun c => S [c])).cps.toList = a :: l.flatMap fun c => [10, c] := by
      rw [List.map_cons, join_toList, S_toList, List.flatMap_map]
      simp [S_toList]
    have e2 : Txt.join (S [10]) ((a :: l).map fun c => S [c]) = S (a :: l.flatMap fun c => [10, c]) := by
      rw [← e]; unfold S; simp
    rw [e2, S_append]
    congr 1
    clear e e2
    induction l generalizing a with
    | nil => rfl
    | cons b l ih =>
      have := ih b (by simp)
      rw [List.flatMap_cons]
      show a :: ([10, b] ++ l.flatMap fun c => [10, c]) ++ [10] = a :: 10 :: mailSrc (b :: l)
      rw [← this]; rfl
def ub (p : List Nat) : List UInt8 := (mailL p).dropLast.map Nat.toUInt8
theorem mailL_last {p : List Nat} (h : p ≠ []) : mailL p = (mailL p).dropLast ++ [10] := by
  have e : p = p.dropLast ++ [p.getLast h] := (List.dropLast_concat_getLast h).symm
  have e2 : mailL p = mailL p.dropLast ++ [p.getLast h, 13, 10] := by
    conv => lhs; rw [e]
    simp [mailL]
  rw [e2, show mailL p.dropLast ++ [p.getLast h, 13, 10] = (mailL p.dropLast ++ [p.getLast h, 13]) ++ [10] by simp, List.dropLast_concat]
theorem ub_enc {p : List Nat} (h : p ≠ []) : (mailL p ++ [46]).map Nat.toUInt8 = ub p ++ [10] ++ 46 :: [] := by
  rw [mailL_last h, ub]
  simp
theorem ub_dec {p : List Nat} (h : p ≠ []) : (mailL p ++ ell).map Nat.toUInt8 = ub p ++ [10] ++ 46 :: 46 :: [46] := by
  conv => lhs; rw [mailL_last h]
  rw [ub]
  simp [ell]
theorem ub_46 {p : List Nat} (h : Abc p) : ∀ c ∈ ub p, c ≠ 46 := by
  intro c hc
  obtain ⟨d, hd, rfl⟩ := List.mem_map.mp hc
  have := mail_mem h d (List.dropLast_subset _ hd)
  rcases this with rfl | rfl | rfl | rfl | rfl <;> decide
theorem ub_len (p : List Nat) : (ub p).length ≤ 3 * p.length := by
  unfold ub
  rw [List.length_map, List.length_dropLast, mailL_length]; omega
theorem mail_ne {p : List Nat} (h : p ≠ []) : mailL p ≠ [] := by
  cases p with
  | nil => exact absurd rfl h
  | cons a p => exact fun e => by cases e
theorem abc_tail {p : List Nat} (h : Abc p) (k : Nat) : Abc (tailN p k) := fun c hc => h c (List.mem_of_mem_drop hc)
end Mine
end
section
open PySem
namespace Mine
open PySem.Builtin PySem.Builtin._codecs
theorem fold_enc : ∀ (l : List Nat) (o : Array UInt8), l.foldl (fun acc y => acc ++ (asciiCodec.bytesOf y).toArray) o = o ++ (l.map Nat.toUInt8).toArray
  | [], o => by simp
  | a :: l, o => by
    rw [List.foldl_cons, fold_enc l]
    apply Array.ext'
    simp [asciiCodec]
section
variable {M : Model} {A : Around} {E : Value → Shared → Prop} {s : Shared}
theorem enc_narrow {id : String} {self : Value} {a : Nat} {l : List Nat} {Q : Array UInt8 → Shared → Prop} (hl : ∀ c ∈ a :: l, c < 128) (hsz : l.length ≤ 1000) (h : Q ((a :: l).map Nat.toUInt8).toArray s) :
    wpAny M A (encodeNarrow id asciiCodec none self (S (a :: l))) Q E s := by
  have hx : (S (a :: l)).cps.extract 0 (S (a :: l)).cps.size = (S (a :: l)).cps := by simp
  have hf : Array.findIdx? asciiCodec.bad (S (a :: l)).cps = none := by
    rw [Array.findIdx?_eq_none_iff]
    intro x hx
    have := hl x (by simpa [S] using hx)
    show decide (x ≥ 128) = false
    exact decide_eq_false (by omega)
  have hs : (S (a :: l)).cps.size = l.length + 1 := by simp [S]
  have hb : asciiCodec.bad a = false := decide_eq_false (by have := hl a (.head _); omega)
  unfold encodeNarrow
  simp only [Std.Legacy.Range.forIn_eq_forIn_range', Std.Legacy.Range.size]
  have e : (S (a :: l)).length - 0 + 1 - 1 = l.length + 1 := by simp [S, Str.length]
  rw [Nat.div_one, e, List.range'_succ, List.forIn_cons]
  refine wpAny_bind (wpAny_bind ?_)
  rw [if_neg (by simp)]
  show wpAny _ _ (if (!asciiCodec.bad a) = true then _ else _) _ _ _
  rw [if_pos (by rw [hb]; rfl)]
  refine wpAny_pure ?_
  show wpAny _ _ (forIn (List.range' (0 + 1) l.length 1) (0 + (Array.findIdx? asciiCodec.bad ((S (a :: l)).cps.extract 0 (S (a :: l)).cps.size)).getD ((S (a :: l)).cps.extract 0 (S (a :: l)).cps.size).size,
    Array.foldl (fun acc y => acc ++ (asciiCodec.bytesOf y).toArray) #[] (((S (a :: l)).cps.extract 0 (S (a :: l)).cps.size).extract 0 ((Array.findIdx? asciiCodec.bad ((S (a :: l)).cps.extract 0 (S (a :: l)).cps.size)).getD ((S (a :: l)).cps.extract 0 (S (a :: l)).cps.size).size)), ({} : Faults)) _) _ _ _
  rw [hx, hf]
  show wpAny _ _ (forIn (List.range' (0 + 1) l.length 1) (0 + (S (a :: l)).cps.size, Array.foldl (fun acc y => acc ++ (asciiCodec.bytesOf y).toArray) #[] ((S (a :: l)).cps.extract 0 (S (a :: l)).cps.size), ({} : Faults)) _) _ _ _
  rw [hx]
  have hfo : Array.foldl (fun acc y => acc ++ (asciiCodec.bytesOf y).toArray) #[] (S (a :: l)).cps = ((a :: l).map Nat.toUInt8).toArray := by
    rw [← Array.foldl_toList]
    show List.foldl _ _ (a :: l) = _
    rw [fold_enc]
    simp
  rw [hfo]
  cases l with
  | nil => exact wpAny_pure (wpAny_pure h)
  | cons b l =>
    rw [show (b :: l).length = l.length + 1 from rfl, List.range'_succ, List.forIn_cons]
    refine wpAny_bind ?_
    rw [if_neg (by simp [sizeLine] at hsz ⊢; omega)]
    have hn : (S (a :: b :: l)).cps[0 + (S (a :: b :: l)).cps.size]? = none := by simp
    show wpAny _ _ (match (S (a :: b :: l)).cps[0 + (S (a :: b :: l)).cps.size]? with | some x => _ | _ => pure (ForInStep.done _)) _ _ _
    rw [hn]
    exact wpAny_pure (wpAny_pure (wpAny_pure h))
end
end Mine
namespace Mine
open PySem.Builtin PySem.Builtin._codecs
set_option maxRecDepth 100000
theorem encode_tree' (x : Str) (t u : Tok) : «str.encode» ⟨[.str x t, .str (Str.ofString "ascii") u], []⟩ = ((encodeNarrow "str.encode" asciiCodec none (.str x t) x >>= fun b => mkBytes b) >>= fun v => ret v) := by kernel_rfl
theorem decode_tree' (c : UInt8) (cs : List UInt8) (t u : Tok) : «bytes.decode» ⟨[.bytes (c :: cs).toArray t, .str (Str.ofString "ascii") u], []⟩ = (mkStr (PySem.Str.ofString "utf-8") >>= fun _ => mkStr (PySem.Str.ofString "ascii") >>= fun e => mkStr (PySem.Str.ofString "bytes.decode") >>= fun d =>
    call (.builtin "_codecs.decode.text") [.bytes (c :: cs).toArray t, e, .none, d] >>= fun v => ret v) := by kernel_rfl
theorem road_eq' {id : String} {b : Array UInt8} : decodeRoad id b (PySem.Str.ofString "ascii") none [] = (runDecoder id asciiDecoder none true b 0 [] >>= fun r => mkStr ⟨r.1⟩) := by kernel_rfl
section
variable {prog : Program} {w : World} {M : Model} {A : Around} {E : Value → Shared → Prop} {s : Shared}
theorem meets_enc (a : Nat) (l : List Nat) (t u : Tok) (hl : ∀ c ∈ a :: l, c < 128) (hsz : l.length ≤ 1000) :
    Meets («str.encode» ⟨[.str (S (a :: l)) t, .str (Str.ofString "ascii") u], []⟩) (fun _ R s => ∀ t' k, R (.ok (.ret (.bytes ((a :: l).map Nat.toUInt8).toArray t'))) { s with toks := k }) := by
  refine .of_wp fun prog w A R s h => ?_
  rw [encode_tree']
  refine wpAny_bind (wpAny_bind (enc_narrow hl hsz ?_))
  exact wpAny_mkBytes (wpAny_pure ⟨_, rfl, h _ _⟩) (by simp [sizeLine]; omega)
theorem encode_ascii {a : Nat} {l : List Nat} {t u : Tok} {Q : Value → Shared → Prop} (hl : ∀ c ∈ a :: l, c < 128) (hsz : l.length ≤ 1000) (h : ∀ t' k, Q (.bytes ((a :: l).map Nat.toUInt8).toArray t') { s with toks := k }) :
    wpAny (model prog w) A (call (.builtin "str.encode") [.str (S (a :: l)) t, .str (Str.ofString "ascii") u]) Q E s :=
  call_meets F.slot_str_encode (typeIs_str _ _ _) F.entry_str_encode (F.args_str_encode_2 _ _) (meets_enc a l t u hl hsz) h
theorem dec_loop {l : List Nat} {st : Faults} (F : Nat → Nat × Array Nat × Faults → Sem (ForInStep (Nat × Array Nat × Faults)))
    (step : ∀ i k (hk : k < l.length) (Q : ForInStep (Nat × Array Nat × Faults) → Shared → Prop), Q (.yield (k + 1, (l.take (k + 1)).toArray, st)) s → wpAny M A (F i (k, (l.take k).toArray, st)) Q E s) :
    ∀ (m k j : Nat) (Q : Nat × Array Nat × Faults → Shared → Prop), k + m = l.length → Q (l.length, l.toArray, st) s → wpAny M A (forIn (List.range' j m) (k, (l.take k).toArray, st) F) Q E s := by
  intro m
  induction m with
  | zero =>
    intro k j Q hk h
    have : k = l.length := by omega
    subst this
    rw [List.take_length]
    exact wpAny_pure h
  | succ m ih =>
    intro k j Q hk h
    rw [List.range'_succ, List.forIn_cons]
    refine wpAny_bind (step j k (by omega) _ ?_)
    exact ih (k + 1) (j + 1) Q (by omega) h
theorem dec_run {id : String} {l : List Nat} {Q : Array Nat × Nat → Shared → Prop} (hl : ∀ c ∈ l, c < 128) (hsz : l.length ≤ 1000) (h : Q (l.toArray, l.length) s) :
    wpAny M A (runDecoder id asciiDecoder none true (l.map Nat.toUInt8).toArray 0 []) Q E s := by
  have hs : (l.map Nat.toUInt8).toArray.size = l.length := by simp
  unfold runDecoder
  simp only [Std.Legacy.Range.forIn_eq_forIn_range', Std.Legacy.Range.size]
  have e : (l.map Nat.toUInt8).toArray.size - 0 + 1 - 1 = l.length := by rw [hs]; omega
  rw [Nat.div_one, e]
  refine wpAny_bind (dec_loop (l := l) _ ?_ l.length 0 0 _ (by omega) ?_)
  · intro i k hk Q h
    rw [if_neg (by simp [sizeLine]; omega)]
    rw [if_neg (by rw [hs]; exact Nat.not_le.mpr hk)]
    have hfd : asciiDecoder.find true (List.map Nat.toUInt8 l).toArray k = .text [l[k]] (k + 1) := by
      have hg : (((List.map Nat.toUInt8 l).toArray.getD k 0)).toNat = l[k] := by
        have h1 := hl l[k] (List.getElem_mem hk)
        simp [Array.getD, hk]
        omega
      show (if (((List.map Nat.toUInt8 l).toArray.getD k 0)).toNat < 128 then Found.char (((List.map Nat.toUInt8 l).toArray.getD k 0)).toNat (k + 1) else _) = _
      rw [hg, if_pos (hl _ (List.getElem_mem hk))]
      rfl
    show wpAny _ _ (match asciiDecoder.find true (List.map Nat.toUInt8 l).toArray k with
      | Found.text cs next => pure (ForInStep.yield (next, (l.take k).toArray ++ cs.toArray, ({} : Faults)))
      | Found.refuse tag => _
      | Found.bad stop reason mayGrow => _) _ _ _
    rw [hfd]
    refine wpAny_pure ?_
    have : (l.take k).toArray ++ [l[k]].toArray = (l.take (k + 1)).toArray := by
      rw [List.append_toArray, List.take_succ_eq_append_getElem hk]
    rw [this]
    exact h
  · exact wpAny_pure h
theorem meets_dtext {l : List Nat} {t t1 t2 : Tok} {d : Str} (hl : ∀ c ∈ l, c < 128) (hsz : l.length ≤ 1000) :
    Meets («_codecs.decode.text» ⟨[.bytes (l.map Nat.toUInt8).toArray t, .str (Str.ofString "ascii") t1, .none, .str d t2], []⟩) (fun _ R s => ∀ t', R (.ok (.ret (.str (S l) t'))) { s with toks := s.toks + 1 }) := by
  refine .of_wp fun prog w A R s h => ?_
  show wpAny _ _ (Bytes.bytesLike _ (.bytes (l.map Nat.toUInt8).toArray t) >>= fun r => _) _ _ s
  refine wpAny_bind (wpAny_of_eq PySem.W.KBd.like_eq ?_)
  refine wpAny_bind (wpAny_of_eq PySem.W.KBd.held_eq ?_)
  show wpAny _ _ (decodeRoad _ (l.map Nat.toUInt8).toArray (Str.ofString "ascii") none [] >>= fun v => _) _ _ s
  rw [road_eq']
  refine wpAny_bind (wpAny_bind (dec_run hl hsz ?_))
  exact wpAny_mkStr (wpAny_pure ⟨_, rfl, h _⟩) (by simp [Str.length, sizeLine]; omega)
theorem meets_dec (a : Nat) (l : List Nat) (t u : Tok) (hl : ∀ c ∈ a :: l, c < 128) (hsz : (a :: l).length ≤ 1000) :
    Meets («bytes.decode» ⟨[.bytes ((a :: l).map Nat.toUInt8).toArray t, .str (Str.ofString "ascii") u], []⟩) (fun _ R s => ∀ t' k, R (.ok (.ret (.str (S (a :: l)) t'))) { s with toks := k }) := by
  refine .of_wp fun prog w A R s h => ?_
  show wpAny _ _ («bytes.decode» ⟨[.bytes (a.toUInt8 :: l.map Nat.toUInt8).toArray t, .str (Str.ofString "ascii") u], []⟩) _ _ s
  rw [decode_tree']
  refine wpAny_bind (wpAny_mkStr ?_ (by decide))
  refine wpAny_bind (wpAny_mkStr ?_ (by decide))
  refine wpAny_bind (wpAny_mkStr ?_ (by decide))
  exact wpAny_bind (call_function_meets PySem.W.KBd.kind_text PySem.W.KBd.plain_text PySem.W.KBd.entry_text (PySem.W.KBd.args_text _ _ _ _) (meets_dtext (l := a :: l) hl hsz) fun _ => wpAny_pure ⟨_, rfl, h _ _⟩)
theorem args_decode_2 (a b : Value) : argsOk "bytes.decode" ⟨[a, b], []⟩ := by
  unfold argsOk; rw [signature?_of (id := "bytes.decode") (n := ['e', 'd', 'o', 'c', 'e', 'd']) (o := ['s', 'e', 't', 'y', 'b']) (by kernel_rfl) PySem.W.FB.owner_bytes]; kernel_rfl
theorem decode_ascii {a : Nat} {l : List Nat} {t u : Tok} {Q : Value → Shared → Prop} (hl : ∀ c ∈ a :: l, c < 128) (hsz : (a :: l).length ≤ 1000) (h : ∀ t' k, Q (.str (S (a :: l)) t') { s with toks := k }) :
    wpAny (model prog w) A (call (.builtin "bytes.decode") [.bytes ((a :: l).map Nat.toUInt8).toArray t, .str (Str.ofString "ascii") u]) Q E s :=
  call_meets PySem.W.FB.slot_bytes_decode (PySem.W.typeIs_bytes _ _ _) PySem.W.FB.entry_bytes_decode (args_decode_2 _ _) (meets_dec a l t u hl hsz) h
end
end Mine
end
section
open PySem PySem.W PyProof.Rows PySem.Calls
set_option Elab.async false
namespace Mine
open Builtin Builtin.Str Builtin.Int
set_option maxRecDepth 100000
theorem join_tree_str (sep y : Str) (t u : Tok) : «str.join» ⟨[.str sep t, .str y u], []⟩ = (do
      let it ← (pyIter (.str y u)).tryCatch fun e => do
        if ← isInstance e (.type "TypeError") then rule "str.join.not-iterable"; raiseError "TypeError" "can only join an iterable" else throw e
      let items ← collect it
      joinTail sep items) := by rfl
theorem chars_of : ∀ {l : List Nat} {vs : List Value}, vs.length = l.length → (∀ (i : Nat) (v : Value), vs[i]? = some v → ∃ c u, l[i]? = some c ∧ v = .str ⟨#[c]⟩ u) → StrsAre vs (l.map fun c => S [c])
  | [], [], _, _ => .nil
  | c :: l, v :: vs, hl, h => by
    obtain ⟨d, u, hd, rfl⟩ := h 0 v rfl
    cases hd
    exact .cons _ u (chars_of (by simpa using hl) fun i w hw => h (i + 1) w hw)
section
variable {prog : Program} {w : World} {A : Around} {E : Value → Shared → Prop} {s : Shared} {h₀ : Heap} {L : Addr} {m : Str → Option Value} {news : CbLed}
theorem join_chars {x : Str} {l : List Nat} {t u : Tok} {Q : Value → Shared → Prop} (hh : A.handled = none) (F : Fr h₀ L s.heap m) (N : News h₀ L s.heap news) (ha : (S l).cps.all (· < 128) = true) (hl : l.length ≤ 1000) (hx : x.length ≤ 10)
    (h : ∀ h' tk t', Fr h₀ L h' m → News h₀ L h' news → Q (.str (Txt.join x (l.map fun c => S [c])) t') { s with heap := h', toks := tk }) :
    wpAny (model prog w) A (call (.builtin "str.join") [.str x t, .str (S l) u]) Q E s := by
  refine wpAny_call (codeAny_call_builtin PySem.F.slot_str_join.plain PySem.F.entry_str_join (PySem.F.slot_str_join.check _ _ _ _ _ _ _ _ (typeIs_str _ _ _) (PySem.F.args_str_join_2 _ _) ?_))
  rw [join_tree_str]
  refine wpAny_bind (wpAny_tryCatch (wpAny_pyIter_ascii ha ?_))
  have hsz : (S l).cps.size = l.length := by simp [S]
  refine wpAny_bind (wpAny_collect_strIter (ty := "str_ascii_iterator") (x := S l) (t := u) ?_ (.inl rfl) ⟨_, Heap.get?_push_size _ rfl, rfl, rfl⟩ (fun s' acc hk hg hd ho hi => ?_) (by rw [hsz]; simp only [sizeLine]; omega))
  · exact hh
  · obtain ⟨hi1, hi2⟩ := hi
    have hS : StrsAre acc.toList (l.map fun c => S [c]) := chars_of (by simp [hi1, hsz]) fun i v hv => by
      obtain ⟨c, u', e1, e2⟩ := hi2 i v (by simpa using hv)
      exact ⟨c, u', by simpa [S] using e1, e2⟩
    obtain ⟨lv, hv, ht⟩ := strsAre_values hS
    rw [hv]
    have hok : JoinOk x (lv.map (·.1)) = true := by
      rw [ht]
      refine joinOk_of ?_
      rw [sum_one, List.length_map]
      have := Nat.mul_le_mul hl hx
      omega
    have hok' := hok
    unfold JoinOk at hok
    rw [Bool.not_eq_true'] at hok
    have g : Gives (joinTail x (strValues lv)) (joinMade x lv) := by
      have g0 := gives_joinTail x lv hok
      cases lv with
      | nil => exact g0
      | cons p r => cases r with
        | nil => exact g0
        | cons q r' => exact g0
    refine g prog w A (wants Q E) s' (post_join lv ⟨joinFit_length hok, fun t' k => ?_⟩)
    rw [ht]
    obtain ⟨hp', g', d', tk', os'⟩ := s'
    simp only at hg hd ho
    subst hg hd ho
    have hk2 : ∀ b o, b ∉ [s.heap.objs.size] → (s.heap.push { cls := .type "str_ascii_iterator", data := .fields #[.str (S l) u, .int 0 0] }).get? b = some o → hp'.get? b = some o := fun b o hb e => hk b o (fun q => hb (by simp [q])) e
    refine h hp' k t' (LCg.fr_but (F.push _) hk2 (Nat.ne_of_lt F.ns.lt) (next_is_new F)) (LCg.news_but (fun p hp => ⟨Heap.get?_push_of_some _ (N p hp).1, (N p hp).2⟩) hk2 fun p hp => Nat.ne_of_lt (Heap.lt_size (N p hp).1))
end
end Mine
end
section
open PySem PySem.W PyProof.Rows PySem.Calls PyProof.V
set_option Elab.async false
namespace Mine
section
variable {prog : Program} {w : World} {A : Around} {E : Value → Shared → Prop} {s : Shared}
theorem mail_128 {q : List Nat} (h : Abc q) (r : List Nat) (hr : ∀ c ∈ r, c = 46) : ∀ c ∈ mailL q ++ r, c < 128 := by
  intro c hc
  rcases List.mem_append.mp hc with hc | hc
  · rcases mail_mem h c hc with rfl | rfl | rfl | rfl | rfl <;> decide
  · rw [hr c hc]; decide
theorem encode_mail {q : List Nat} {t u : Tok} {Q : Value → Shared → Prop} (hq : q ≠ []) (ha : Abc q) (hl : q.length ≤ 16) (h : ∀ t' k, Q (.bytes (ub q ++ [10] ++ 46 :: []).toArray t') { s with toks := k }) :
    wpAny (model prog w) A (call (.builtin "str.encode") [.str (S (mailL q) ++ Str.ofString ".") t, .str (Str.ofString "ascii") u]) Q E s := by
  rw [S_dot, S_append]
  have h1 := mail_128 ha [46] (by simp)
  have h2 := mailL_length q
  have h3 := ub_enc hq
  rw [← h3] at h
  have hn := mail_ne hq
  generalize mailL q = l at *
  cases l with
  | nil => exact absurd rfl hn
  | cons a l => exact encode_ascii h1 (by simp at h2 ⊢; omega) h
theorem decode_mail {q : List Nat} {t u : Tok} {Q : Value → Shared → Prop} (hq : q ≠ []) (ha : Abc q) (hl : q.length ≤ 16) (h : ∀ t' k, Q (.str (S (mailL q ++ ell)) t') { s with toks := k }) :
    wpAny (model prog w) A (call (.builtin "bytes.decode") [.bytes (ub q ++ [10] ++ 46 :: 46 :: [46]).toArray t, .str (Str.ofString "ascii") u]) Q E s := by
  have h1 := mail_128 ha ell (by simp [ell])
  have h2 := mailL_length q
  have h3 := ub_dec hq
  rw [← h3]
  have hn := mail_ne hq
  generalize mailL q = l at *
  cases l with
  | nil => exact absurd rfl hn
  | cons a l => exact decode_ascii h1 (by simp [ell] at h2 ⊢; omega) h
theorem meth_encode {M : Model} {x : Str} {t : Tok} {pl : Sem Bool} {Q : Value × List Value → Shared → Prop} (h : Q (.builtin "str.encode", [.str x t]) s) : wpAny M A (getMethod (.str x t) "encode" pl) Q E s := by
  with_reducible exact GM.of (.str x t) (typeIs_str _ _ _) PySem.F.slot_str_encode PySem.F.type_str_encode GM.noRef h
theorem txt_step {f : List Nat → List Nat} {us : List Value} {ps : List (List Nat)} {i : Nat} {q : List Nat} {t : Tok} (hU : TxtAre us ((ps.take i).map f)) (hq : ps[i]? = some q) : TxtAre (us ++ [Value.str (S (f q)) t]) ((ps.take (i + 1)).map f) := by
  have := hU.snoc (f q) t
  rw [List.take_add_one, hq]
  simpa using this
theorem txt_of (f : List Nat → List Nat) {ys : List Value} {ps : List (List Nat)} (hl : ys.length = ps.length)
    (hR : ∀ (i : Nat) (v : Value), ys[i]? = some v → ∃ p t, ps[i]? = some p ∧ v = .str (S (f p)) t) : TxtAre ys (ps.map f) := by
  unfold TxtAre
  induction ys generalizing ps with
  | nil =>
    cases ps with
    | nil => exact .nil
    | cons p ps => simp at hl
  | cons u ys ih =>
    cases ps with
    | nil => simp at hl
    | cons p ps =>
      obtain ⟨q, t, hq, rfl⟩ := hR 0 u rfl
      cases hq
      simp only [List.map_cons]
      refine .cons _ t ?_
      exact ih (by simpa using hl) fun i v hv => hR (i + 1) v hv
def outT (ps : List (List Nat)) : List (PyData × PyData) := ps.map fun p => (PyData.str (S p), PyData.str (S (bord p)))
def bordN (q : List Nat) (j : Nat) : List Nat := (List.range' 1 j).foldl (fun acc k => if pref (tailN q k) q then tailN q k else acc) []
theorem bordN_succ (q : List Nat) (j : Nat) : bordN q (j + 1) = if pref (tailN q (1 + j)) q then tailN q (1 + j) else bordN q j := by
  unfold bordN
  rw [List.range'_concat, List.foldl_append]
  simp
theorem same_S (a b : List Nat) : PySem.Spec.same (PyData.str (S a)) (PyData.str (S b)) = decide (a = b) := by
  rw [PyProof.V.same_str]
  by_cases h : a = b
  · subst h; simp
  · have : ¬ S a = S b := fun e => h (S_inj e)
    simp [h, this]
theorem put_new {ps : List (List Nat)} {q b : List Nat} (h : ∀ p ∈ ps, p ≠ q) : putD (PyData.str (S q)) (PyData.str (S b)) (outT ps) = outT ps ++ [(PyData.str (S q), PyData.str (S b))] := by
  unfold putD
  rw [if_neg]
  intro hc
  rw [List.any_eq_true] at hc
  obtain ⟨x, hx, hs⟩ := hc
  obtain ⟨p, hp, rfl⟩ := List.mem_map.mp hx
  rw [same_S] at hs
  exact h p hp (of_decide_eq_true hs)
theorem put_old {ps : List (List Nat)} {q b b' : List Nat} (h : ∀ p ∈ ps, p ≠ q) : putD (PyData.str (S q)) (PyData.str (S b')) (outT ps ++ [(PyData.str (S q), PyData.str (S b))]) = outT ps ++ [(PyData.str (S q), PyData.str (S b'))] := by
  unfold putD
  rw [if_pos]
  · rw [List.map_append]
    congr 1
    · unfold outT
      rw [List.map_map]
      refine List.map_congr_left fun p hp => ?_
      show (if PySem.Spec.same (PyData.str (S p)) (PyData.str (S q)) = true then _ else _) = _
      rw [same_S, if_neg (by simp [h p hp])]
    · simp only [List.map_cons, List.map_nil]
      rw [same_S, if_pos (by simp)]
  · rw [List.any_append]
    simp only [List.any_cons, List.any_nil, same_S]
    simp
theorem el_ok {e q : List Nat} (he : Abc e) (hq : Abc q) (e0 : e ≠ []) (le : e.length ≤ 16) (lq : q.length ≤ 16) : ElOk (S (mailL e ++ ell)) (S (mailL q)) (S (mailL e)) (pref e q) := by
  have l1 := mailL_length e
  have l2 := mailL_length q
  have e1 : 1 ≤ e.length := by cases e with | nil => exact absurd rfl e0 | cons a e => simp
  have c46 : ∀ c ∈ mailL e, c ≠ 46 := by
    intro c hc
    rcases mail_mem he c hc with rfl | rfl | rfl | rfl | rfl <;> decide
  have c256 : ∀ c ∈ mailL e, c < 256 := by
    intro c hc
    rcases mail_mem he c hc with rfl | rfl | rfl | rfl | rfl <;> decide
  refine ⟨?_, ?_, ?_, ?_, ?_, ?_, ?_⟩
  · rw [S_length, List.length_append]; simp [ell]; omega
  · rw [S_length]; omega
  · rw [S_length]; omega
  · rw [S_length]; omega
  · rw [S_ell, in_S]
    exact (inf_iff _ _).mpr ⟨(mailL e).length, by simp [ell], by rw [List.drop_left]; rfl⟩
  · rw [S_ell]
    exact ell_split c46 c256
  · rw [startswith_S, mail_pref]
theorem abc_128 {q : List Nat} (h : Abc q) : (S q).cps.all (· < 128) = true := by
  rw [← Array.all_toList, List.all_eq_true]
  intro c hc
  rcases h c hc with rfl | rfl | rfl <;> decide
theorem abc_nl {q : List Nat} (h : Abc q) : ∀ c ∈ q, c ≠ 10 ∧ c ≠ 13 := by
  intro c hc
  rcases h c hc with rfl | rfl | rfl <;> decide
theorem join_len {q : List Nat} (hq : q ≠ []) (hl : q.length ≤ 16) : (Txt.join (Str.ofString "\n") (q.map fun c => S [c])).length ≤ 1000 := by
  have e := congrArg Str.length (join_nl hq)
  rw [S_length, mailSrc_length] at e
  rw [S_nl]
  have : (Txt.join (S [10]) (q.map fun c => S [c]) ++ S [10]).length = (Txt.join (S [10]) (q.map fun c => S [c])).length + 1 := by
    show (Str.mk (_ ++ _)).cps.size = _
    simp [S, Str.length]
  omega
end
end Mine
end
section
open PySem PySem.W PyProof.Rows PySem.Calls PyProof.V
set_option Elab.async false
namespace Mine
section
local macro_rules | `(tactic| walk_at "my enter") => `(tactic| (refine' enter0 ?k1 ?k2 ?k3 ?k5 ?kA ?kF ?kK ?k6 ?k7 ?k8 ?k9 ?kB ?_ ?c2 ?c3 ?c4 ?c5; (case kA => exact rfl); (case kF => exact rfl); (case kK => assumption); (case k1 => k_asm); (case k2 => k_asm); (case k3 => k_asm); (case k5 => k_asm); (case k6 => k_is); (case k7 => k_is); (case k8 => ktr_room); (case k9 => exact BindsTo.of_eq rfl); (case c5 => decide); (case kB => exact locs rfl); (case c2 => exact rfl); (case c3 => exact rfl); (case c4 => exact rfl); k_whole; intro L' h' F' N' B' X' T'; (try dsimp only); (try k_lift B'); (try k_fold)))
local macro_rules | `(tactic| walk_at "CompSrc") => `(tactic| ((with_reducible rename HaltMark => hM'); refine halt ?_))
local macro_rules | `(tactic| walk_at "CompEnd") => `(tactic| ((with_reducible rename HaltMark => hM'); refine halt ?_))
local macro_rules | `(tactic| walk_at "pyIter ref") => `(tactic| ((with_reducible rename HaltMark => hM'); refine halt ?_))
local macro_rules | `(tactic| walk_at "call builtin:str.join") => `(tactic| ((with_reducible rename HaltMark => hM'); (with_reducible show wpAny _ _ (call _ [Value.str _ _, Value.str (S _) _]) _ _ _); k_dflt (refine join_chars (by rfl) (by k_asm) (by k_asm) (by assumption) (by assumption) (by decide) ?_); intro h' k' t' F' N'))
local macro_rules | `(tactic| walk_at "call ref") => `(tactic| (k_here; (with_reducible show wpAny _ _ (call (Value.ref 81) [Value.str _ _]) _ _ _); (with_reducible rename _ ++ _ = S (mailSrc _) => hj9); (rw [hj9]); k_dflt (refine' (fix_claim _ _ _ _ ?kp ?kq ?kr).go ?k1 ?k2 ?k3 ?k4 ?k5 ?kK ?kd ?ku ?_; (case k1 => k_asm); (case k2 => k_asm); (case k3 => k_asm); (case k4 => k_asm); (case k5 => k_asm); (case kK => first | exact rfl | assumption); (case kp => assumption); (case kq => assumption); (case kr => assumption); (case kd => ktr_room); (case ku => ktr_units)); (rintro v9 new9 h9 tk9 ⟨hnw9, t9, hv9⟩ F9 N9); subst hnw9 hv9; (try rw [List.nil_append] at N9); (try dsimp only); (try k_fold)))
local macro_rules | `(tactic| walk_at "execs cons Assign cons") => `(tactic| ((with_reducible rename HaltMark => hM'); (with_reducible refine wpAny_execs_cons ?_); try dsimp only))
set_option hygiene false in
local macro_rules | `(tactic| walk_at "subscriptTail Name Slice ref ref") => `(tactic| ((with_reducible rename HaltMark => hM'); (with_reducible show wpAny _ _ (subscriptTail _ (PySem.Expr.Slice _ _ none _) (Value.ref _) (Value.ref _)) _ _ _); k_dflt (refine' kmk_slice_lit ?yF ?yN ?yl ?yp ?yq ?ye ?_ ?ys ?yt ?yz; (case yF => k_asm); (case yN => k_asm); (case yl => kmk_list); (case yp => kmk_part); (case yq => kmk_part); (case ye => assumption); (case ys => with_unfolding_all rfl); (case yt => kmk_pure); (case yz => assumption)); intro xD xh xF xN xl; (try k_lt xl); (try dsimp only)))
set_option hygiene false in
local macro_rules | `(tactic| walk_at "newList") => `(tactic| ((with_reducible rename HaltMark => hM'); k_dflt (refine' newList_K ?k1 ?k2 ?_; (case k1 => k_asm); (case k2 => k_asm); k_whole); intro xT xh xF xN xl; (try k_lt xl); (try dsimp only)))
set_option hygiene false in
local macro_rules | `(tactic| walk_at "FinA") => `(tactic| ((with_reducible rename HaltMark => hM'); (unfold LCg.FinA); intro xM xh xk xF xN xo; (try simp only [LCg.Off1, and_true] at xo); (try simp only [List.nil_append, List.cons_append] at xN); (try dsimp only)))
local macro_rules | `(tactic| walk_at "getMethod str") => `(tactic| ((with_reducible rename HaltMark => hM'); (with_reducible refine meth_encode ?_)))
set_option hygiene false in
local macro_rules | `(tactic| walk_at "eval Dict nil nil") => `(tactic| ((with_reducible rename HaltMark => hM'); k_dflt (refine' newDict_K ?k1 ?k2 (TopRead.nolimit (by k_asm)) ?_; (case k1 => k_asm); (case k2 => k_asm); k_whole); intro xO xh xo xF xN xl xlo xhs xfs xhi xfi; (try k_lt xl)))
local macro_rules | `(tactic| walk_at "call builtin:len") => `(tactic| ((with_reducible rename HaltMark => hM'); (with_reducible show wpAny _ _ (call (Value.builtin "len") [Value.ref _]) _ _ _); k_dflt (refine kun_lenL (Heap.IsList.at (by assumption) (Fr.keep (by k_asm) _)) (by assumption) (by omega) ?_)))
local macro_rules | `(tactic| walk_at "call builtin:str.encode") => `(tactic| ((with_reducible rename HaltMark => hM'); k_dflt (refine encode_mail (by assumption) (by assumption) (by assumption) ?_); intro t' k'))
local macro_rules | `(tactic| walk_at "call builtin:bytes.decode") => `(tactic| ((with_reducible rename HaltMark => hM'); k_dflt (refine decode_mail (by assumption) (by assumption) (by assumption) ?_); intro t' k'))
local macro_rules | `(tactic| walk_at "call ref") => `(tactic| (k_here; (with_reducible show wpAny _ _ (call (Value.ref 74) [Value.bytes _ _]) _ _ _); k_dflt (refine' (quote_claim _ _ _ _ _ ?kp ?kq ?kr).go ?k1 ?k2 ?k3 ?k4 ?k5 ?kK ?kd ?ku ?_; (case k1 => k_asm); (case k2 => k_asm); (case k3 => k_asm); (case k4 => k_asm); (case k5 => k_asm); (case kK => first | exact rfl | assumption); (case kp => assumption); (case kq => assumption); (case kr => assumption); (case kd => ktr_room); (case ku => ktr_units)); (rintro v9 new9 h9 tk9 ⟨hnw9, t9, hv9⟩ F9 N9); subst hnw9 hv9; (try rw [List.nil_append] at N9); (try dsimp only); (try k_fold)))
local macro_rules | `(tactic| walk_at "call builtin:list.append") => `(tactic| ((with_reducible rename HaltMark => hM'); k_dflt (refine append_K (by k_asm) (by k_asm) (Upd.head (by assumption)) ?_ (by assumption)); intro h' F' N'; (try dsimp only)))
local macro_rules | `(tactic| walk_at "exec For Name Subscript cons nil") => `(tactic| ((with_reducible rename HaltMark => hM'); (rename Fr _ _ _ _ => lF'); (with_unfolding_all refine' For_invVF lF' ?k1 ?k2 ?_; (case k1 => exact rfl); (case k2 => exact rfl); k_whole)))
local macro_rules | `(tactic| walk_at "exec For Name Name cons nil") => `(tactic| ((with_reducible rename HaltMark => hM'); (rename Fr _ _ _ _ => lF'); (with_unfolding_all refine' For_invVF lF' ?k1 ?k2 ?_; (case k1 => exact rfl); (case k2 => exact rfl); k_whole)))
local macro_rules | `(tactic| walk_at "exec For Name Call cons nil") => `(tactic| ((with_reducible rename HaltMark => hM'); (rename Fr _ _ _ _ => lF'); (with_unfolding_all refine' For_invVF lF' ?k1 ?k2 ?_; (case k1 => exact rfl); (case k2 => exact rfl); k_whole)))
set_option hygiene false in
local macro_rules | `(tactic| walk_at "subscriptTail") => `(tactic| ((with_reducible rename HaltMark => hM'); (with_reducible show wpAny _ _ (subscriptTail _ _ (Value.ref _) (Value.int _ _)) _ _ _); k_dflt (refine' item_txt ?yl ?yt ?yk ?yp ?yb ?_; (case yl => first | exact News.isList (by k_asm) (by k_mem) | exact Heap.IsList.at hpre (Fr.keep (by k_asm) _)); (case yt => assumption); (case yk => assumption); (case yp => assumption); (case yb => first | omega | (simp only [List.length_map, List.length_take]; omega)); k_whole); intro t'))
set_option hygiene false in
local macro_rules | `(tactic| walk_at "setItem ref str") => `(tactic| ((with_reducible rename HaltMark => hM'); (try (rw [S_nil])); (try (rw [hsl])); k_dflt (refine' setItem_K PyProof.V.same_str (strKind_is _ _ _ _) (PyProof.V.Flat.str _ _) ?yF ?yN (UpdF.head (by assumption)) hd1 hd2 ?_ hdl; (case yF => k_asm); (case yN => k_asm); k_whole); intro xh xo xF xN xd1 xd2; (try dsimp only)))
set_option hygiene false in
local macro_rules | `(tactic| walk_at "getMethod ref") => `(tactic| ((with_reducible rename HaltMark => hM'); (with_reducible show wpAny _ _ (getMethod (Value.ref pl) (PySem.Str.ofString "index") _) _ _ _); refine getMethod_builtin (Heap.IsList.at hpre (Fr.keep (by k_asm) _)).typeIs PySem.F.plainAttrs_list PySem.F.slot_list_index PySem.F.type_list_index (fun a e => by cases e; exact ⟨_, Fr.keep (by k_asm) _ _ hget, rfl⟩) ?_))
set_option hygiene false in
local macro_rules | `(tactic| walk_at "call builtin:list.index") => `(tactic| ((with_reducible rename HaltMark => hM'); (rw [hsl]); k_dflt (refine index_txt (Heap.IsList.at hpre (Fr.keep (by k_asm) _)) hT (by omega) hj2 hno ?_)))
set_option hygiene false in
local macro_rules | `(tactic| walk_at "call ref") => `(tactic| (k_here; (with_reducible show wpAny _ _ (call (Value.ref 57) [Value.str _ _, Value.str _ _]) _ _ _); k_dflt (refine' (el_claim _ _ _ _ _ _ _ hel).go ?k1 ?k2 ?k3 ?k4 ?k5 ?kK trivial ?kd ?ku ?_; (case k1 => k_asm); (case k2 => k_asm); (case k3 => k_asm); (case k4 => k_asm); (case k5 => k_asm); (case kK => first | exact rfl | assumption); (case kd => ktr_room); (case ku => ktr_units)); (rintro v9 new9 h9 tk9 ⟨hnw9, hv9⟩ F9 N9); subst hnw9 hv9; (try rw [List.nil_append] at N9); (try dsimp only); (try k_fold)))
set_option maxRecDepth 100000 in
set_option maxHeartbeats 8000000 in
theorem outer_claim (w : World) (pl : Addr) (vs : List Value) (ps : List (List Nat)) (hT : TxtAre vs ps) (hP : PcOk ps) :
    Clh w 91 3 30 (fun h => ∃ k, h.get? pl = some (listOf vs.toArray k)) [.ref pl] (fun v new => ∃ D o kvs, v = .ref D ∧ new = [(D, o)] ∧ (D == sysModules) = false ∧ o.IsDictOf (strKind prg w) kvs ∧ FlatPairs PyData.str kvs (outT ps)) := by
  w_top off
  unfold Clh prg
  k_fill
  intro p loose mean mg mb dp un gd cn cs a ccd cl outer A₀ base h₀ L m news s Q E B F X N T hk hpre' hd hu hret
  obtain ⟨k0, hget⟩ := hpre'
  have hpre : s.heap.IsList pl vs.toArray := ⟨_, hget, rfl, k0, rfl⟩
  refine wpAny_call ?_
  k_dflt (walk_at "my enter")
  have hM : HaltMark := True.intro
  k_steps
  have hlen := hT.length
  have hpl := hP.len
  refine LCg.CompSrc.base (by rfl) (by assumption) (by assumption) hpre (by rw [List.size_toArray]; simp only [sizeLine]; omega) ?_
  intro g'
  refine comp_map (fun i v => ∃ p t, ps[i]? = some p ∧ v = .str (S (mailL p)) t) ?_ ?_
  · intro i v I oI C oC D₂ m₂ ys h tk E' hi hv hC hx F N off ne
    obtain ⟨q, tq, hq, rfl⟩ := hT.at (i := i) (by simpa using hv)
    obtain ⟨q1, q2, q3⟩ := hP.abc q (List.mem_of_getElem? hq)
    have hjn := join_nl q2
    rw [← S_nl] at hjn
    have f1 : (S q).cps.all (· < 128) = true := abc_128 q1
    have f2 : q.length ≤ 1000 := by omega
    have f3 : ∀ c ∈ q, c ≠ 10 ∧ c ≠ 13 := abc_nl q1
    have f4 : q.length ≤ 100 := by omega
    have f5 : (Txt.join (Str.ofString "\n") (q.map fun c => S [c])).length ≤ 1000 := join_len q2 q3
    k_steps
    exact LCg.CompEnd.intro (by assumption) (by assumption) [] (fun _ h => h) off (.inl hpre) ⟨rfl, q, _, hq, rfl⟩
  · intro ys hy hR
    have hM : TxtAre ys (ps.map mailL) := txt_of mailL (by rw [hy, List.size_toArray]; exact hlen) hR
    clear hR
    have hyl : ys.length = ps.length := by rw [hy, List.size_toArray]; exact hlen
    have hslc : (slicePick ys.toArray none (some (-1)) none).toList = ys.take (ys.length - 1) := by
      rw [show (-1 : Int) = -((1 : Nat) : Int) from rfl, slicePick_butLast _ 1 (by decide)]
      simp
    have hsz : ys.toArray.size ≤ sizeLine := by rw [List.size_toArray]; simp only [sizeLine]; omega
    k_steps
    rename News s.heap _ _ _ => N₀
    rename Fr s.heap _ _ _ => F₀
    have nT : xM ≠ xT := by k_ne
    have nD : xD ≠ xT := by k_ne
    unfold Halt
    refine kdl_iter (l := xD) (vs := ys.take (ys.length - 1)) (nn := 0) (J := fun i m nx => ∃ us k, nx = (xT, listOf us.toArray k) :: [(xD, listOf (ys.take (ys.length - 1)).toArray 0), (xM, LCg.lst ys)] ∧ TxtAre us ((ps.take i).map fun p => mailL p ++ ell) ∧ m (Str.ofString "pieces") = some (.ref pl) ∧ m (Str.ofString "mails") = some (.ref xM) ∧ m (Str.ofString "takers") = some (.ref xT)) (news := [(xT, listOf #[] 0), (xD, listOf (ys.take (ys.length - 1)).toArray 0), (xM, LCg.lst ys)])
      (by rfl) (by simp) F₀ (fun p hp => N₀ p (by simp only [List.mem_cons] at hp ⊢; rcases hp with h | h | h | h; exact .inr (.inl h); exact .inl h; exact .inr (.inr (.inl h)); exact .inr (.inr (.inr h)))) ⟨[], 0, rfl, .nil, rfl, rfl, rfl⟩ ?_ ?_
    · clear N₀ F₀
      rintro i v m₁ nx h tk own hv hoff hin ⟨us, k, rfl, hU, e1, e2, e3⟩ F₁ N₁
      have hv2 : ys[i]? = some v := by
        rw [List.getElem?_take] at hv
        split at hv
        · exact hv
        · cases hv
      obtain ⟨q', t, hq', rfl⟩ := hM.at hv2
      rw [List.getElem?_map] at hq'
      obtain ⟨q, hq, rfl⟩ : ∃ q, ps[i]? = some q ∧ mailL q = q' := by
        cases hq2 : ps[i]? with
        | none => rw [hq2] at hq'; cases hq'
        | some q => rw [hq2] at hq'; exact ⟨q, rfl, Option.some.inj hq'⟩
      have hi := (List.getElem?_eq_some_iff.mp hq).1
      obtain ⟨q1, q2, q3⟩ := hP.abc q (List.mem_of_getElem? hq)
      have F₂ := fr_over [(Str.ofString "mail", .str (S (mailL q)) t), (Str.ofString "pieces", .ref pl), (Str.ofString "mails", .ref xM), (Str.ofString "takers", .ref xT)] (allc (P := fun p => _ = some p.2) (if_pos rfl) (allc (P := fun p => _ = some p.2) (upd_ne e1 (by decide)) (allc (P := fun p => _ = some p.2) (upd_ne e2 (by decide)) (all1 (P := fun p => _ = some p.2) (upd_ne e3 (by decide)))))) F₁
      clear F₁ e1 e2 e3
      dsimp only [kstB] at F₂
      rw [List.cons_append] at N₁
      have hne : ∀ p ∈ [(xD, listOf (ys.take (ys.length - 1)).toArray 0), (xM, LCg.lst ys)] ++ own, p.1 ≠ xT := all_app (by intro p hp; rcases List.mem_cons.mp hp with rfl | hp; exact nD; rcases List.mem_cons.mp hp with rfl | hp; exact nT; cases hp) (off_ne hoff (by simp))
      have hus : us.toArray.size ≤ sizeLine := by
        rw [List.size_toArray, hU.length, List.length_map, List.length_take]
        simp only [sizeLine]; omega
      have g1 : (S (mailL q)).length ≤ 1000 := by rw [S_length, mailL_length]; omega
      have g2 := ub_46 q1
      have g3 : ∀ c ∈ ([] : List UInt8), c ≠ 10 := by simp
      have g4 : ∀ c ∈ ([46] : List UInt8), c ≠ 10 := by simp
      have g5 : (ub q ++ []).length ≤ 100 := by have := ub_len q; simp; omega
      have g6 : (ub q ++ [46]).length ≤ 100 := by have := ub_len q; simp; omega
      k_steps
      rename News s.heap _ _ _ => N₆
      exact InvEndG.intro (by assumption) N₆ ⟨.tail _ (.head _), _, _, push_led, txt_step hU hq, rfl, rfl, rfl⟩ hoff sub_a sub_b
    · clear N₀ F₀
      rintro m₁ nx h tk ⟨us, k, rfl, hU, e1, e2, e3⟩ F₁ N₁
      have F₂ := fr_over [(Str.ofString "pieces", .ref pl), (Str.ofString "mails", .ref xM), (Str.ofString "takers", .ref xT)] (allc (P := fun p => _ = some p.2) e1 (allc (P := fun p => _ = some p.2) e2 (all1 (P := fun p => _ = some p.2) e3))) F₁
      clear F₁ e1 e2 e3
      dsimp only [kstB] at F₂
      have hul : (ys.take (ys.length - 1)).length = ps.length - 1 := by rw [List.length_take]; omega
      rw [hul] at hU
      have hsv : (vs.toArray.size : Int) = (ps.length : Int) := by rw [List.size_toArray, hlen]
      k_steps
      rename News s.heap _ _ _ => N₀
      rename Fr s.heap _ _ _ => F₀
      unfold Halt
      refine loop_range (n := ps.length) (J := fun i m nx => ∃ o kvs, nx = (xO, o) :: [(xT, listOf us.toArray k), (xM, LCg.lst ys)] ∧ o.IsDictOf (strKind prg w) kvs ∧ FlatPairs PyData.str kvs (outT (ps.take i)) ∧ m (Str.ofString "pieces") = some (.ref pl) ∧ m (Str.ofString "mails") = some (.ref xM) ∧ m (Str.ofString "takers") = some (.ref xT) ∧ m (Str.ofString "outer") = some (.ref xO))
        (by rfl) (by assumption) (small_one (by omega) (by omega) (by omega) (by omega)) (by rw [rangeSize_nat]; omega) F₀ ((xO, xo) :: [(xT, listOf us.toArray k), (xM, LCg.lst ys)]) (fun p hp => N₀ p (by simp only [List.mem_cons] at hp ⊢; rcases hp with h | h | h | h; exact .inl h; exact .inr (.inl h); exact .inr (.inr (.inr (.inl h))); exact .inr (.inr (.inr (.inr h))))) ⟨xo, [], rfl, xhs, xfs, rfl, rfl, rfl, rfl⟩ ?_ ?_
      · clear N₀ F₀ xhs xfs xhi xfi
        have nOT : xT ≠ xO := by k_ne
        have nOM : xM ≠ xO := by k_ne
        rintro i t m₁ nx h tk own hi hoff ⟨o, kvs, rfl, hd1, hd2, e1, e2, e3, e4⟩ F₁ N₁
        obtain ⟨q, hq⟩ : ∃ q, ps[i]? = some q := ⟨_, List.getElem?_eq_getElem hi⟩
        obtain ⟨q1, q2, q3⟩ := hP.abc q (List.mem_of_getElem? hq)
        have F₂ := fr_over [(Str.ofString "k", .int (0 + (i : Int)) t), (Str.ofString "pieces", .ref pl), (Str.ofString "mails", .ref xM), (Str.ofString "takers", .ref xT), (Str.ofString "outer", .ref xO)] (allc (P := fun p => _ = some p.2) (if_pos rfl) (allc (P := fun p => _ = some p.2) (upd_ne e1 (by decide)) (allc (P := fun p => _ = some p.2) (upd_ne e2 (by decide)) (allc (P := fun p => _ = some p.2) (upd_ne e3 (by decide)) (all1 (P := fun p => _ = some p.2) (upd_ne e4 (by decide))))))) F₁
        clear F₁ e1 e2 e3 e4
        dsimp only [kstB] at F₂
        rw [List.cons_append] at N₁
        have hne : ∀ p ∈ [(xT, listOf us.toArray k), (xM, LCg.lst ys)] ++ own, p.1 ≠ xO := all_app (by intro p hp; rcases List.mem_cons.mp hp with rfl | hp; exact nOT; rcases List.mem_cons.mp hp with rfl | hp; exact nOM; cases hp) (off_ne hoff (by simp))
        have hdl : (outT (ps.take i)).length ≤ sizeLine := by unfold outT; rw [List.length_map, List.length_take]; simp only [sizeLine]; omega
        have hi0 : (0 : Int) + (i : Int) = ((i : Nat) : Int) := by omega
        have hql : (S q).length ≤ 1000 := by rw [S_length]; omega
        rw [List.cons_append, List.cons_append, List.nil_append] at N₁ hne
        k_steps
        rename News s.heap _ _ _ => N₃
        rename Fr s.heap _ _ _ => F₃
        have hfr : ∀ p ∈ ps.take i, p ≠ q := by
          intro p hp e
          subst e
          obtain ⟨j, hj⟩ := List.getElem?_of_mem hp
          rw [List.getElem?_take] at hj
          split at hj
          · have := hP.uniq j i p hj hq; omega
          · cases hj
        rw [put_new hfr] at xd2
        have hqn : 1 ≤ q.length := by cases q with | nil => exact absurd rfl q2 | cons a q => simp
        unfold Halt
        refine loop_range (n := q.length - 1) (J := fun j m nx => ∃ o kvs tk, nx = (xO, o) :: ((xT, listOf us.toArray k) :: (xM, LCg.lst ys) :: own) ∧ o.IsDictOf (strKind prg w) kvs ∧ FlatPairs PyData.str kvs (outT (ps.take i) ++ [(PyData.str (S q), PyData.str (S (bordN q j)))]) ∧ m (Str.ofString "pieces") = some (.ref pl) ∧ m (Str.ofString "mails") = some (.ref xM) ∧ m (Str.ofString "takers") = some (.ref xT) ∧ m (Str.ofString "outer") = some (.ref xO) ∧ m (Str.ofString "k") = some (.int (0 + (i : Int)) tk))
          (by rfl) (by assumption) (small_one (by omega) (by omega) (by omega) (by omega)) (by rw [rangeSize_nat, S_length]; omega) F₃ _ N₃ ⟨_, _, _, rfl, xd1, xd2, rfl, rfl, rfl, rfl, rfl⟩ ?_ ?_
        · clear N₃ F₃ xd1 xd2 hd1 hd2 hdl
          rintro j t' m₂ nx h' tk' own' hj hoff' ⟨o, kvs, tkk, rfl, hd1, hd2, e1, e2, e3, e4, e5⟩ F₄ N₄
          obtain ⟨jj, hj1, hj2⟩ := hP.ends i q (1 + j) hq (by omega) (by omega)
          obtain ⟨w1, w2, w3⟩ := hP.abc _ (List.mem_of_getElem? hj2)
          have F₅ := fr_over [(Str.ofString "size", .int (1 + (j : Int)) t'), (Str.ofString "pieces", .ref pl), (Str.ofString "mails", .ref xM), (Str.ofString "takers", .ref xT), (Str.ofString "outer", .ref xO), (Str.ofString "k", .int (0 + (i : Int)) tkk)] (allc (P := fun p => _ = some p.2) (if_pos rfl) (allc (P := fun p => _ = some p.2) (upd_ne e1 (by decide)) (allc (P := fun p => _ = some p.2) (upd_ne e2 (by decide)) (allc (P := fun p => _ = some p.2) (upd_ne e3 (by decide)) (allc (P := fun p => _ = some p.2) (upd_ne e4 (by decide)) (all1 (P := fun p => _ = some p.2) (upd_ne e5 (by decide)))))))) F₄
          clear F₄ e1 e2 e3 e4 e5
          dsimp only [kstB] at F₅
          rw [List.cons_append, List.cons_append, List.cons_append] at N₄
          have hne' : ∀ p ∈ (xT, listOf us.toArray k) :: (xM, LCg.lst ys) :: (own ++ own'), p.1 ≠ xO := by
            intro p hp
            have := all_app hne (off_ne hoff' (by simp)) p
            exact this hp
          have hdl : (outT (ps.take i) ++ [(PyData.str (S q), PyData.str (S (bordN q j)))]).length ≤ sizeLine := by unfold outT; rw [List.length_append, List.length_map, List.length_take]; simp only [sizeLine, List.length_cons, List.length_nil]; omega
          have hsl : Txt.slice (S q) (some (-(1 + (j : Int)))) none = S (tailN q (1 + j)) := by
            have := slice_tail (q := q) (k := 1 + j) (by omega) (by omega)
            rw [← this]
            congr 3
          have hno : ∀ i, i < jj → ps[i]? ≠ some (tailN q (1 + j)) := fun i hi e => by have := hP.uniq i jj _ e hj2; omega
          have hx1 : ((ps.take (ps.length - 1)).map fun p => mailL p ++ ell)[jj]? = some (mailL (tailN q (1 + j)) ++ ell) := by
            rw [List.getElem?_map, List.getElem?_take, if_pos (by omega), hj2]; rfl
          have hx2 : (ps.map mailL)[i]? = some (mailL q) := by rw [List.getElem?_map, hq]; rfl
          have hx3 : ((jj : Nat) : Int) = ((jj : Nat) : Int) := rfl
          have hel := el_ok w1 q1 w2 w3 q3
          clear hne
          cases hb : pref (tailN q (1 + j)) q with
          | true =>
            rw [hb] at hel
            k_steps
            rename News s.heap _ _ _ => N₆
            rw [put_old hfr] at xd2
            exact InvEndG.intro (by assumption) N₆ ⟨_, _, tkk, rfl, xd1, by rw [bordN_succ, if_pos hb]; exact xd2, rfl, rfl, rfl, rfl, rfl⟩ hoff' (sub_a (own := (xT, listOf us.toArray k) :: (xM, LCg.lst ys) :: own) (own' := own')) (sub_b (own := (xT, listOf us.toArray k) :: (xM, LCg.lst ys) :: own) (own' := own'))
          | false =>
            rw [hb] at hel
            k_steps
            rename News s.heap _ _ _ => N₆
            exact InvEndG.intro (by assumption) N₆ ⟨o, kvs, tkk, rfl, hd1, by rw [bordN_succ, if_neg (by rw [hb]; decide)]; exact hd2, rfl, rfl, rfl, rfl, rfl⟩ hoff' (sub_a (own := (xT, listOf us.toArray k) :: (xM, LCg.lst ys) :: own) (own' := own')) (sub_b (own := (xT, listOf us.toArray k) :: (xM, LCg.lst ys) :: own) (own' := own'))
        · clear N₃ F₃ xd1 xd2 hd1 hd2 hdl
          rintro m₂ nx h' tk' ⟨o, kvs, tkk, rfl, hd1, hd2, e1, e2, e3, e4, e5⟩ F₄ N₄
          k_steps
          exact InvEndG.intro F₄ N₄ ⟨o, kvs, rfl, hd1, by rw [List.take_add_one, hq]; unfold outT at hd2 ⊢; rw [List.map_append]; exact hd2, e1, e2, e3, e4⟩ hoff (sub_a (own := [(xT, listOf us.toArray k), (xM, LCg.lst ys)]) (own' := own)) (sub_b (own := [(xT, listOf us.toArray k), (xM, LCg.lst ys)]) (own' := own))
      · clear N₀ F₀ xhs xfs xhi xfi
        rintro m₁ nx h tk ⟨o, kvs, rfl, hd1, hd2, e1, e2, e3, e4⟩ F₁ N₁
        have F₂ := fr_over [(Str.ofString "outer", .ref xO)] (all1 (P := fun p => _ = some p.2) e4) F₁
        clear F₁ e1 e2 e3 e4
        dsimp only [kstB] at F₂
        rw [List.take_length] at hd2
        k_steps
        exact retH hret (by assumption) N (by assumption) (by assumption) ⟨xO, o, kvs, rfl, rfl, xlo, hd1, hd2⟩ sub_1
end
end Mine
end
section
open PySem PySem.W PyProof.Rows PySem.Calls
set_option Elab.async false
namespace Mine
section
variable {prog : Program} {w : World} {A : Around} {h₀ : Heap} {L : Addr} {m : Str → Option Value} {env : Env} {ct elt : Expr} {x : Str} {scope : Scope} {cl : List (Str × Addr)} {s : Shared} {S : CbLed → Prop} {P : Nat → Value → Prop} {Fin : List Value → CbLed → Prop} {news : CbLed}
/-- a comprehension with a test, of ints -/
theorem comp_test {n : Nat} (Z : Nat → List Int) (Z0 : Z 0 = [])
    (turn : ∀ i v I oI C oC D m₂ ys h tk (E' : Value → Shared → Prop), i < n → P i v → LCg.NsObj oC m₂ → m₂ x = some v → Fr h₀ L h m → News h₀ L h ((I, oI) :: (C, oC) :: (D, LCg.lst ys) :: news) → LCg.Off3 I C D news → ((@Ne Nat I C) ∧ (@Ne Nat I D) ∧ (@Ne Nat C D)) →
      wpAny (model prog w) A (isTrue ct (compEnvC scope cl C env) (eval ct (compEnvC scope cl C env))) (fun ok s' => if ok = true then
        wpAny (model prog w) A (eval elt (compEnvC scope cl C env)) (LCg.CompEnd h₀ L m { s with heap := h, toks := tk } I oI C oC D (LCg.lst ys) S (fun y news' => news' = news ∧ ∃ z t, y = .int z t ∧ Z (i + 1) = Z i ++ [z])) E' s'
        else LCg.CompEnd h₀ L m { s with heap := h, toks := tk } I oI C oC D (LCg.lst ys) S (fun _ news' => news' = news ∧ Z (i + 1) = Z i) Value.none s') E' { s with heap := h, toks := tk })
    (fin : ∀ ys, IntsAre ys (Z n) → Fin ys news) : LCt.CompRestT prog w A h₀ L m env ct elt x scope cl s S P Fin n 0 [] news := by
  have key : ∀ (j i : Nat) (ys : List Value), i + j = n → IntsAre ys (Z i) → LCt.CompRestT prog w A h₀ L m env ct elt x scope cl s S P Fin j i ys news := by
    intro j
    induction j with
    | zero =>
      intro i ys hi hy
      have : i = n := by omega
      subst this
      exact LCt.CompRestT.zero (fin ys hy)
    | succ j ih =>
      intro i ys hi hy
      refine LCt.CompRestT.succ ?_
      intro v I oI C oC D m₂ h tk E' hv hC hx F N off ne
      refine wpAny_mono (turn i v I oI C oC D m₂ ys h tk E' (by omega) hv hC hx F N off ne) (fun ok s₂ hq => ?_) fun _ _ e => e
      cases ok with
      | true =>
        rw [if_pos rfl] at hq ⊢
        refine wpAny_mono hq (fun y s₃ hq => ?_) fun _ _ e => e
        obtain ⟨h', tk', nw, e, F', N', off', hS, rfl, z, t, rfl, hz⟩ := hq
        refine ⟨h', tk', nw, e, F', N', off', hS, ih (i + 1) _ (by omega) ?_⟩
        rw [hz]
        exact hy.append (.cons z t .nil)
      | false =>
        rw [if_neg (by decide)] at hq ⊢
        obtain ⟨h', tk', nw, e, F', N', off', hS, rfl, hz⟩ := hq
        exact ⟨h', tk', nw, e, F', N', off', hS, ih (i + 1) _ (by omega) (hz ▸ hy)⟩
  exact key n 0 [] (by omega) (Z0 ▸ .nil)
end
section
variable {prog : Program} {w : World} {A : Around} {E : Value → Shared → Prop} {s : Shared} {env : Env} {h₀ : Heap} {x : Str} {body : List Stmt} {Q : Flow → Shared → Prop}
/-- a for over a list of the ledger; the turn begins with the store of the item under its name -/
theorem for_store {px : Pos} {l : Addr} {vs : List Value} {nn : Nat} {m₀ : Str → Option Value} {news : CbLed} (J : Nat → (Str → Option Value) → CbLed → Prop)
    (hh : A.handled = none) (F : Fr h₀ env.locals s.heap m₀) (N : News h₀ env.locals s.heap news) (hl : (l, listOf vs.toArray nn) ∈ news) (hj : J 0 m₀ news)
    (turn : ∀ i v m₁ news₁ h tk own, vs[i]? = some v → OwnOff own (news₁.map (·.1)) → (l, listOf vs.toArray nn) ∈ news₁ → J i m₁ news₁ → Fr h₀ env.locals h m₁ → News h₀ env.locals h (news₁ ++ own) →
      wpAny (model prog w) A (storeName env x v) (fun _ s₂ => wpAny (model prog w) A (execs body env) (InvPostG h₀ env.locals (fun m' nx => (l, listOf vs.toArray nn) ∈ nx ∧ J (i + 1) m' nx) own { s with heap := h, toks := tk } Q) E s₂) E { s with heap := h, toks := tk })
    (done : ∀ m₁ news₁ h tk, J vs.length m₁ news₁ → Fr h₀ env.locals h m₁ → News h₀ env.locals h news₁ → Q .next { s with heap := h, toks := tk })
    (hE : PassesOwn (model prog w) A env E) :
    wpAny (model prog w) A (pyIter (.ref l)) (fun it s₂ => codeAny (model prog w) A (.forLoop (.Name x px) it body [] env) (fun r s' => match r with | .ok f => Q f s' | .error e => cameBackBy (model prog w) A env E e s') s₂) E s := by
  have hol : s.heap.get? l = some (listOf vs.toArray nn) := (N _ hl).1
  have hls : s.heap.IsList l vs.toArray := ⟨_, hol, rfl, nn, rfl⟩
  have hne : l ≠ s.heap.objs.size := Nat.ne_of_lt (Heap.lt_size hol)
  have hLI : env.locals ≠ s.heap.objs.size := Nat.ne_of_lt F.ns.lt
  have hI0 : h₀.get? s.heap.objs.size = none := next_is_new F
  refine wpAny_pyIter_list hls ?_
  have W := Walks.list (prog := prog) (w := w) hh s.heap.objs.size l hne vs.toArray
  have hlen : vs.toArray.size = vs.length := by simp
  rw [hlen] at W
  refine codeAny_forLoop (fun k s' => ∃ h' tk m' nx i, s' = { s with heap := h', toks := tk } ∧ h'.IsListIter s.heap.objs.size l i ∧ Fr h₀ env.locals h' m' ∧ News h₀ env.locals h' nx ∧ (l, listOf vs.toArray nn) ∈ nx ∧ (∀ p ∈ nx, p.1 ≠ s.heap.objs.size) ∧ J i m' nx ∧ i ≤ vs.length ∧ k = vs.length + 1 - i) ?_ (vs.length + 1)
    ⟨_, s.toks, m₀, news, 0, rfl, ⟨_, Heap.get?_push_size _ rfl, rfl, rfl⟩, F.push _, (fun p hp => ⟨Heap.get?_push_of_some _ (N p hp).1, (N p hp).2⟩), hl, fun p hp => Nat.ne_of_lt (Heap.lt_size (N p hp).1), hj, Nat.zero_le _, rfl⟩
  rintro k s' ⟨h', tk, m', nx, i, rfl, hit, F', N', hl', hoff, hJ, hi, rfl⟩
  have hlo : h'.IsList l vs.toArray := ⟨_, (N' _ hl').1, rfl, nn, rfl⟩
  have next : ∀ h₁ : Heap, (∀ b o, b ∉ [s.heap.objs.size] → h'.get? b = some o → h₁.get? b = some o) → Fr h₀ env.locals h₁ m' ∧ News h₀ env.locals h₁ nx := fun h₁ hk =>
    ⟨LCg.fr_but F' hk hLI hI0, LCg.news_but N' hk hoff⟩
  by_cases hlt : i < vs.length
  · refine W.item i _ _ _ hlt ⟨hit, hlo⟩ fun v h₁ tk₁ hP hst hk => ?_
    obtain ⟨F₁, N₁⟩ := next h₁ hk
    obtain ⟨oI, hoI, hcI, hdI⟩ := hst.1
    have hsep : OwnOff [(s.heap.objs.size, oI)] (nx.map (·.1)) := by
      intro p hp b hb e
      rw [List.mem_singleton.mp hp] at e
      obtain ⟨q, hq, rfl⟩ := List.mem_map.mp hb
      exact hoff q hq e.symm
    have N₂ : News h₀ env.locals h₁ (nx ++ [(s.heap.objs.size, oI)]) := fun p hp => by
      rcases List.mem_append.mp hp with hp | hp
      · exact N₁ p hp
      · rw [List.mem_singleton.mp hp]
        exact ⟨hoI, Ne.symm hLI, hI0⟩
    have hT := turn i v m' nx h₁ tk₁ _ (by simpa using hP) hsep hl' hJ F₁ N₂
    refine wpAny_assign_Name (wpAny_mono (wpAny_passesOwn hE hT) (fun _ s₂ h₂ => ?_) fun _ _ e => e)
    refine wpAny_mono (wpAny_passesOwn hE h₂) (fun f s₃ p => ?_) fun _ _ e => e
    have fin : InvEndG h₀ env.locals (fun m' nx => (l, listOf vs.toArray nn) ∈ nx ∧ J (i + 1) m' nx) [(s.heap.objs.size, oI)] { s with heap := h₁, toks := tk₁ } s₃ →
        ∃ m, m < vs.length + 1 - i ∧ ∃ h' tk m' nx i, s₃ = { s with heap := h', toks := tk } ∧ h'.IsListIter s.heap.objs.size l i ∧ Fr h₀ env.locals h' m' ∧ News h₀ env.locals h' nx ∧ (l, listOf vs.toArray nn) ∈ nx ∧ (∀ p ∈ nx, p.1 ≠ s.heap.objs.size) ∧ J i m' nx ∧ i ≤ vs.length ∧ m = vs.length + 1 - i := by
      rintro ⟨h₃, tk₃, m₃, news₃, nx₃, e, F₃, N₃, hn, ho, ha, hl₃, hJ₃⟩
      refine ⟨vs.length + 1 - (i + 1), by omega, h₃, tk₃, m₃, nx₃, i + 1, e, ⟨oI, (N₃ _ (ho _ (.head _))).1, hcI, hdI⟩, F₃, fun p hp => N₃ p (hn p hp), hl₃, fun p hp e => ?_, hJ₃, hlt, rfl⟩
      exact ha _ (.head _) p.1 (List.mem_map.mpr ⟨p, hp, rfl⟩) e.symm
    cases f with
    | ret v => exact p
    | brk => exact p
    | next => exact fin p
    | cont => exact fin p
  · have hin : i = vs.length := by omega
    subst hin
    refine W.done _ _ _ ⟨hit, hlo⟩ fun h₁ tk₁ hk => wpAny_execs_nil ?_
    obtain ⟨F₁, N₁⟩ := next h₁ hk
    exact done m' nx h₁ tk₁ hJ F₁ N₁
theorem for_open {px : Pos} {iter : Expr} {pos : Pos}
    (h : wpAny (model prog w) A (eval iter env) (fun xv s₁ => wpAny (model prog w) A (pyIter xv) (fun it s₂ => codeAny (model prog w) A (.forLoop (.Name x px) it body [] env) (fun r s' => match r with | .ok f => Q f s' | .error e => cameBackBy (model prog w) A env E e s') s₂) E s₁) E s)
    (hs : ∀ x, foldedSetIterable iter env x = pure x := by intro _; rfl) :
    wpAny (model prog w) A (exec (.For (.Name x px) iter body [] pos) env) Q E s := wpAny_For h hs
end
end Mine
end
section
open PySem PySem.W PyProof.Rows PySem.Calls PyProof.V
set_option Elab.async false
namespace Mine
theorem data_ne {h₀ h : Heap} {L : Addr} {news : CbLed} {a c : Addr} {o oc : Obj} (N : News h₀ L h news) (ha : (a, o) ∈ news) (hc : (c, oc) ∈ news) (hd : o.data ≠ oc.data) : a ≠ c := by
  intro e
  subst e
  have h1 := (N _ ha).1
  have h2 := (N _ hc).1
  simp only at h1 h2
  rw [h1] at h2
  cases h2
  exact hd rfl
theorem dict_data {w : World} {o : Obj} {kvs : List (Str × Value)} (hd : o.IsDictOf (strKind prg w) kvs) : ∃ es ep, o.data = .dict es ep := by
  obtain ⟨es, ep, _, h, _⟩ := hd
  exact ⟨es, ep, h⟩
theorem news_pick {h₀ h : Heap} {L : Addr} {news l : CbLed} (N : News h₀ L h news) (hs : ∀ p ∈ l, p ∈ news) : News h₀ L h l := fun p hp => N p (hs p hp)
theorem ints_of : ∀ {ys : List Value}, (∀ (i : Nat) (v : Value), ys[i]? = some v → ∃ z t, v = .int z t) → ∃ l : List Int, IntsAre ys l ∧ l.length = ys.length
  | [], _ => ⟨[], .nil, rfl⟩
  | v :: ys, h => by
    obtain ⟨z, t, rfl⟩ := h 0 v rfl
    obtain ⟨l, h1, h2⟩ := ints_of fun i w hw => h (i + 1) w hw
    exact ⟨z :: l, .cons z t h1, by simp [h2]⟩
theorem ints_set {x : Int} {t : Tok} : ∀ {vs : List Value} {ns : List Int}, IntsAre vs ns → ∀ k : Nat, IntsAre (vs.set k (.int x t)) (ns.set k x)
  | _, _, .nil, _ => .nil
  | _, _, .cons _ _ h, 0 => .cons x t h
  | _, _, .cons c u h, k + 1 => .cons c u (ints_set h k)
/-- the dict of the outer words, as it was made -/
theorem look_out : ∀ {ps : List (List Nat)} {q : List Nat}, q ∈ ps → PySem.Spec.lookup (PyData.str (S q)) (outT ps) = some (PyData.str (S (bord q)))
  | p :: ps, q, h => by
    show (if PySem.Spec.same (PyData.str (S p)) (PyData.str (S q)) = true then some (PyData.str (S (bord p))) else PySem.Spec.lookup (PyData.str (S q)) (outT ps)) = _
    rw [same_S]
    by_cases e : p = q
    · subst e; simp
    · rw [if_neg (by simp [e])]
      rcases List.mem_cons.mp h with h | h
      · exact absurd h.symm e
      · exact look_out h
theorem out_made {w : World} {h : Heap} {d : Addr} {o : Obj} {kvs : List (Str × Value)} {ps : List (List Nat)} (lo : (d == sysModules) = false) (ho : h.get? d = some o) (hd : o.IsDictOf (strKind prg w) kvs) (hf : FlatPairs PyData.str kvs (outT ps)) : OutAt w d (· ∈ ps) h :=
  ⟨outT ps, TabAt.ofObj lo ho hd hf, fun _ hq => look_out hq⟩
section
variable {prog : Program} {w : World} {A : Around} {E : Value → Shared → Prop} {s : Shared} {h₀ : Heap} {L D : Addr} {m : Str → Option Value} {news news' : CbLed} {vs : List Value} {ns : List Int} {n : Nat} {k x : Int} {t u : Tok}
theorem set_int {Q : Unit → Shared → Prop} (F : Fr h₀ L s.heap m) (N : News h₀ L s.heap news) (U : Upd D (listOf vs.toArray n) (listOf (vs.set k.toNat (.int x u)).toArray n) news news') (hb : IntsAre vs ns) (h0 : 0 ≤ k) (h1 : k < ns.length) (hfit : ns.length ≤ 1000)
    (h : ∀ h', Fr h₀ L h' m → News h₀ L h' news' → Q () { s with heap := h' }) :
    wpAny (model prog w) A (setItem (.ref D) (.int k t) (.int x u)) Q E s := by
  obtain ⟨pre, post, rfl, rfl, a, b'⟩ := U.split
  have z := N (D, listOf vs.toArray n) (List.mem_append.mpr (.inr (.head _)))
  have hl : vs.length = ns.length := hb.length
  have hs : vs.toArray.size = ns.length := by rw [List.size_toArray]; exact hl
  refine ki_setAt z.1 h0 (by omega) (by omega) (h _ (F.change (Heap.SameBut.update ..) z.2.1 z.2.2) (ki_turn _ N a b' ?_ ?_))
  · show vs.toArray.setIfInBounds k.toNat (.int x u) = (vs.set k.toNat (.int x u)).toArray
    apply Array.toList_inj.mp
    simp
  · simp
end
section
variable {prog : Program} {w : World} {A : Around} {E : Value → Shared → Prop} {s : Shared} {env : Env} {h₀ : Heap} {x : Str} {body : List Stmt} {Q : Flow → Shared → Prop}
theorem loop_rangeR {r : Addr} {a₀ b₀ : Int} {t₀ u₀ v₀ : Tok} {n : Nat} {m₀ : Str → Option Value} (J : Nat → (Str → Option Value) → CbLed → Prop)
    (hh : A.handled = none) (hr : IsRange s.heap r a₀ b₀ 1 t₀ u₀ v₀) (hsmall : Builtin.Range.small a₀ b₀ 1 = true) (hsz : Builtin.Range.rangeSize a₀ b₀ 1 = (n : Int)) (F : Fr h₀ env.locals s.heap m₀) (hd R : CbLed) (N : News h₀ env.locals s.heap (hd ++ R)) (hj : J 0 m₀ hd)
    (turn : ∀ i t m₁ hd h tk own, i < n → OwnOff own ((hd ++ R).map (·.1)) → J i m₁ hd → Fr h₀ env.locals h (fun y => if y = x then some (.int (a₀ + (i : Int)) t) else m₁ y) → News h₀ env.locals h (hd ++ R ++ own) →
      wpAny (model prog w) A (execs body env) (InvPostG h₀ env.locals (fun m' nx => ∃ hd', nx = hd' ++ R ∧ J (i + 1) m' hd') own { s with heap := h, toks := tk } Q) E { s with heap := h, toks := tk })
    (done : ∀ m₁ hd h tk, J n m₁ hd → Fr h₀ env.locals h m₁ → News h₀ env.locals h (hd ++ R) → Q .next { s with heap := h, toks := tk }) :
    wpAny (model prog w) A (pyIter (.ref r)) (fun it s₂ => LoopAtV prog w A h₀ env x body Q E it s₂) E s :=
  loop_range (fun i m nx => ∃ hd, nx = hd ++ R ∧ J i m hd) hh hr hsmall hsz F _ N ⟨hd, rfl, hj⟩
    (fun i t m₁ nx h tk own hi hoff ⟨hd, e, hJ⟩ F N => by subst e; exact turn i t m₁ hd h tk own hi hoff hJ F N)
    (fun m₁ nx h tk ⟨hd, e, hJ⟩ F N => by subst e; exact done m₁ hd h tk hJ F N)
end
end Mine
namespace Mine
section
variable {prog : Program} {w : World} {A : Around} {E : Value → Shared → Prop} {s : Shared} {env : Env} {h₀ : Heap} {x : Str} {body : List Stmt} {Q : Flow → Shared → Prop}
theorem for_storeR {px : Pos} {l : Addr} {vs : List Value} {nn : Nat} {m₀ : Str → Option Value} (J : Nat → (Str → Option Value) → CbLed → Prop)
    (hh : A.handled = none) (F : Fr h₀ env.locals s.heap m₀) (hd R : CbLed) (N : News h₀ env.locals s.heap (hd ++ R)) (hl : (l, listOf vs.toArray nn) ∈ R) (hj : J 0 m₀ hd)
    (turn : ∀ i v m₁ hd h tk own, vs[i]? = some v → OwnOff own ((hd ++ R).map (·.1)) → J i m₁ hd → Fr h₀ env.locals h m₁ → News h₀ env.locals h (hd ++ R ++ own) →
      wpAny (model prog w) A (storeName env x v) (fun _ s₂ => wpAny (model prog w) A (execs body env) (InvPostG h₀ env.locals (fun m' nx => (l, listOf vs.toArray nn) ∈ nx ∧ ∃ hd', nx = hd' ++ R ∧ J (i + 1) m' hd') own { s with heap := h, toks := tk } Q) E s₂) E { s with heap := h, toks := tk })
    (done : ∀ m₁ hd h tk, J vs.length m₁ hd → Fr h₀ env.locals h m₁ → News h₀ env.locals h (hd ++ R) → Q .next { s with heap := h, toks := tk })
    (hE : PassesOwn (model prog w) A env E) :
    wpAny (model prog w) A (pyIter (.ref l)) (fun it s₂ => codeAny (model prog w) A (.forLoop (.Name x px) it body [] env) (fun r s' => match r with | .ok f => Q f s' | .error e => cameBackBy (model prog w) A env E e s') s₂) E s :=
  for_store (fun i m nx => ∃ hd, nx = hd ++ R ∧ J i m hd) hh F N (List.mem_append.mpr (.inr hl)) ⟨hd, rfl, hj⟩
    (fun i v m₁ nx h tk own hv hoff _ ⟨hd, e, hJ⟩ F N => by subst e; exact turn i v m₁ hd h tk own hv hoff hJ F N)
    (fun m₁ nx h tk ⟨hd, e, hJ⟩ F N => by subst e; exact done m₁ hd h tk hJ F N) hE
end
def selN (t : Nat → Bool) (g : Nat → Int) : Nat → List Int
  | 0 => []
  | i + 1 => if t i then selN t g i ++ [g i] else selN t g i
theorem join_dot : ∀ {l : List Nat}, l ≠ [] → S [46] ++ Txt.join (S [46]) (l.map fun c => S [c]) = S (dots l)
  | [], h => absurd rfl h
  | a :: l, _ => by
    have e : (Txt.join (S [46]) ((a :: l).map fun c => S [c])).cps.toList = a :: l.flatMap fun c => [46, c] := by
      rw [List.map_cons, join_toList, S_toList, List.flatMap_map]
      simp [S_toList]
    have e2 : Txt.join (S [46]) ((a :: l).map fun c => S [c]) = S (a :: l.flatMap fun c => [46, c]) := by
      rw [← e]; unfold S; simp
    rw [e2, S_append]
    rfl
theorem join_host {l : List Nat} (h : l ≠ []) : S [120, 46] ++ Txt.join (S [46]) (l.map fun c => S [c]) = S (hostL l) := by
  have := join_dot h
  cases l with
  | nil => exact absurd rfl h
  | cons a l =>
    have e : (Txt.join (S [46]) ((a :: l).map fun c => S [c])).cps.toList = a :: l.flatMap fun c => [46, c] := by
      rw [List.map_cons, join_toList, S_toList, List.flatMap_map]
      simp [S_toList]
    have e2 : Txt.join (S [46]) ((a :: l).map fun c => S [c]) = S (a :: l.flatMap fun c => [46, c]) := by
      rw [← e]; unfold S; simp
    rw [e2, S_append]
    rfl
theorem join_dlen {l : List Nat} (h : l ≠ []) (hl : l.length ≤ 16) : (Txt.join (Str.ofString ".") (l.map fun c => S [c])).length ≤ 1000 := by
  have e := congrArg Str.length (join_dot h)
  rw [S_length, dots_length] at e
  rw [S_dot]
  have : (S [46] ++ Txt.join (S [46]) (l.map fun c => S [c])).length = 1 + (Txt.join (S [46]) (l.map fun c => S [c])).length := by
    show (Str.mk (_ ++ _)).cps.size = _
    simp [S, Str.length]
  omega
theorem upper_abc {q : List Nat} (h : Abc q) : Txt.upper (S q) = S (upL q) := by
  refine upper_S q (fun c => c - 32) fun c hc => ?_
  rcases h c hc with rfl | rfl | rfl <;> decide +kernel
theorem up_128 {q : List Nat} (h : Abc q) : (S (upL q)).cps.all (· < 128) = true := by
  rw [← Array.all_toList, List.all_eq_true]
  intro c hc
  obtain ⟨d, hd, rfl⟩ := List.mem_map.mp hc
  rcases h d hd with rfl | rfl | rfl <;> decide
end Mine
end
section
open PySem
namespace Mine
def sumN : Nat → (Nat → Int) → Int
  | 0, _ => 0
  | n + 1, f => sumN n f + f n
theorem sumN_congr {n : Nat} {f g : Nat → Int} (h : ∀ i, i < n → f i = g i) : sumN n f = sumN n g := by
  induction n with
  | zero => rfl
  | succ n ih =>
    show sumN n f + f n = sumN n g + g n
    rw [ih fun i hi => h i (by omega), h n (by omega)]
theorem sumN_zero (n : Nat) : sumN n (fun _ => 0) = 0 := by
  induction n with
  | zero => rfl
  | succ n ih => show sumN n _ + 0 = 0; rw [ih]; rfl
theorem sumN_add (n : Nat) (f g : Nat → Int) : sumN n (fun i => f i + g i) = sumN n f + sumN n g := by
  induction n with
  | zero => rfl
  | succ n ih =>
    show sumN n _ + (f n + g n) = (sumN n f + f n) + (sumN n g + g n)
    rw [ih]; omega
theorem sumN_mul (n : Nat) (c : Int) (f : Nat → Int) : sumN n (fun i => c * f i) = c * sumN n f := by
  induction n with
  | zero => show (0 : Int) = c * 0; rw [Int.mul_zero]
  | succ n ih =>
    show sumN n _ + c * f n = c * (sumN n f + f n)
    rw [ih, Int.mul_add]
theorem sumN_swap (n m : Nat) (f : Nat → Nat → Int) : sumN n (fun i => sumN m (fun j => f i j)) = sumN m (fun j => sumN n (fun i => f i j)) := by
  induction n with
  | zero => show (0 : Int) = sumN m (fun _ => 0); rw [sumN_zero]
  | succ n ih =>
    show sumN n _ + sumN m (fun j => f n j) = sumN m (fun j => sumN n (fun i => f i j) + f n j)
    rw [ih, sumN_add]
theorem sumN_one {n i : Nat} (h : i < n) (g : Nat → Int) : sumN n (fun j => (if i = j then 1 else 0) * g j) = g i := by
  induction n with
  | zero => omega
  | succ n ih =>
    show sumN n _ + (if i = n then 1 else 0) * g n = g i
    by_cases hi : i = n
    · subst hi
      rw [if_pos rfl, Int.one_mul]
      have : sumN i (fun j => (if i = j then 1 else 0) * g j) = 0 := by
        refine (sumN_congr (g := fun _ => 0) fun j hj => ?_).trans (sumN_zero i)
        rw [if_neg (by omega), Int.zero_mul]
      rw [this, Int.zero_add]
    · rw [if_neg hi, Int.zero_mul, Int.add_zero]
      exact ih (by omega)
theorem selN_sum (t : Nat → Bool) (g : Nat → Int) (n : Nat) : (selN t g n).sum = sumN n (fun k => if t k = true then g k else 0) := by
  induction n with
  | zero => rfl
  | succ n ih =>
    show (if t n then selN t g n ++ [g n] else selN t g n).sum = sumN n _ + (if t n = true then g n else 0)
    cases h : t n with
    | true => rw [if_pos rfl, if_pos rfl, List.sum_append, ih]; simp
    | false => rw [if_neg (by decide), if_neg (by decide), ih, Int.add_zero]
def nth (ps : List (List Nat)) (i : Nat) : List Nat := ps.getD i []
/-- Bjoerner's theorem, for the pieces of one word -/
def Moeb (ps : List (List Nat)) : Prop :=
  ∀ i, i < ps.length → ∀ j, j < ps.length → sumN ps.length (fun k => (if inf (ps.getD i []) (ps.getD k []) = true then signP ((ps.getD k []).length + 1) (ps.getD i []) (ps.getD k []) else 0) * (if inf (ps.getD k []) (ps.getD j []) = true then 1 else 0)) = if i = j then 1 else 0
theorem plain {ps : List (List Nat)} (hM : Moeb ps) {gl : List Int} (hg : gl.length = ps.length) :
    (List.range ps.length).map (fun i => (selN (fun k => inf (ps.getD i []) (ps.getD k [])) (fun k => signP ((ps.getD k []).length + 1) (ps.getD i []) (ps.getD k []) *
      ((List.range ps.length).map (fun i => (selN (fun k => inf (ps.getD i []) (ps.getD k [])) (fun k => gl.getD k 0) ps.length).sum)).getD k 0) ps.length).sum) = gl := by
  apply List.ext_getElem
  · rw [List.length_map, List.length_range, hg]
  intro i h1 h2
  rw [List.getElem_map, List.getElem_range, selN_sum]
  have hi : i < ps.length := by omega
  have e1 : ∀ k, k < ps.length → (if inf (ps.getD i []) (ps.getD k []) = true then signP ((ps.getD k []).length + 1) (ps.getD i []) (ps.getD k []) *
      ((List.range ps.length).map (fun i => (selN (fun k => inf (ps.getD i []) (ps.getD k [])) (fun k => gl.getD k 0) ps.length).sum)).getD k 0 else 0)
      = sumN ps.length (fun j => ((if inf (ps.getD i []) (ps.getD k []) = true then signP ((ps.getD k []).length + 1) (ps.getD i []) (ps.getD k []) else 0) * (if inf (ps.getD k []) (ps.getD j []) = true then 1 else 0)) * gl.getD j 0) := by
    intro k hk
    have e2 : ((List.range ps.length).map (fun i => (selN (fun k => inf (ps.getD i []) (ps.getD k [])) (fun k => gl.getD k 0) ps.length).sum)).getD k 0 = sumN ps.length (fun j => (if inf (ps.getD k []) (ps.getD j []) = true then gl.getD j 0 else 0)) := by
      rw [List.getD_eq_getElem?_getD, List.getElem?_map, List.getElem?_range hk]
      exact selN_sum _ _ _
    rw [e2]
    have e3 : sumN ps.length (fun j => ((if inf (ps.getD i []) (ps.getD k []) = true then signP ((ps.getD k []).length + 1) (ps.getD i []) (ps.getD k []) else 0) * (if inf (ps.getD k []) (ps.getD j []) = true then 1 else 0)) * gl.getD j 0)
        = (if inf (ps.getD i []) (ps.getD k []) = true then signP ((ps.getD k []).length + 1) (ps.getD i []) (ps.getD k []) else 0) * sumN ps.length (fun j => (if inf (ps.getD k []) (ps.getD j []) = true then gl.getD j 0 else 0)) := by
      rw [← sumN_mul]
      refine sumN_congr fun j _ => ?_
      rw [Int.mul_assoc]
      congr 1
      split
      · rw [Int.one_mul]
      · rw [Int.zero_mul]
    rw [e3]
    split
    · rfl
    · rw [Int.zero_mul]
  rw [sumN_congr e1, sumN_swap]
  have e4 : ∀ j, j < ps.length → sumN ps.length (fun k => ((if inf (ps.getD i []) (ps.getD k []) = true then signP ((ps.getD k []).length + 1) (ps.getD i []) (ps.getD k []) else 0) * (if inf (ps.getD k []) (ps.getD j []) = true then 1 else 0)) * gl.getD j 0) = (if i = j then 1 else 0) * gl.getD j 0 := by
    intro j hj
    rw [← hM i hi j hj]
    rw [Int.mul_comm, ← sumN_mul]
    refine sumN_congr fun k _ => ?_
    rw [Int.mul_comm]
  rw [sumN_congr e4, sumN_one hi, List.getD_eq_getElem?_getD, List.getElem?_eq_getElem h2]
  rfl
end Mine
end
section
open PySem
namespace Mine
def words : Nat → List (List Nat)
  | 0 => [[]]
  | n + 1 => [97, 98, 99].flatMap fun c => (words n).map (c :: ·)
theorem mem_words : ∀ {w : List Nat}, Abc w → w ∈ words w.length
  | [], _ => .head _
  | a :: w, h => by
    show a :: w ∈ [97, 98, 99].flatMap fun c => (words w.length).map (c :: ·)
    rw [List.mem_flatMap]
    refine ⟨a, ?_, List.mem_map.mpr ⟨w, mem_words fun c hc => h c (.tail _ hc), rfl⟩⟩
    rcases h a (.head _) with rfl | rfl | rfl <;> simp
/-! `inf` is an order -/
theorem inf_refl (q : List Nat) : inf q q = true := (inf_iff q q).mpr ⟨0, by omega, by simp⟩
theorem inf_len {p q : List Nat} (h : inf p q = true) : p.length ≤ q.length := by
  obtain ⟨i, h1, _⟩ := (inf_iff p q).mp h
  omega
theorem inf_drop (q : List Nat) (i : Nat) : inf (q.drop i) q = true := by
  by_cases h : i ≤ q.length
  · exact (inf_iff _ _).mpr ⟨i, by rw [List.length_drop]; omega, List.take_length⟩
  · rw [List.drop_of_length_le (by omega)]
    exact (inf_iff _ _).mpr ⟨0, by simp, by simp⟩
theorem inf_trans {p u q : List Nat} (h : inf p u = true) (h' : inf u q = true) : inf p q = true := by
  obtain ⟨j, h1, h2⟩ := (inf_iff _ _).mp h
  obtain ⟨i, h3, h4⟩ := (inf_iff _ _).mp h'
  refine (inf_iff _ _).mpr ⟨i + j, by omega, ?_⟩
  rw [← h4, List.drop_take, List.take_take, List.drop_drop, Nat.min_eq_left (by omega)] at h2
  exact h2
theorem tail_inf (q : List Nat) (k : Nat) : inf (tailN q k) q = true := inf_drop q _
theorem bord_inf (q : List Nat) : inf (bord q) q = true := by
  have : ∀ (l : List Nat) (acc : List Nat), inf acc q = true → inf (l.foldl (fun acc k => if pref (tailN q k) q then tailN q k else acc) acc) q = true := by
    intro l
    induction l with
    | nil => exact fun _ h => h
    | cons k l ih =>
      intro acc h
      rw [List.foldl_cons]
      refine ih _ ?_
      split
      · exact tail_inf q k
      · exact h
  exact this _ [] ((inf_iff _ _).mpr ⟨0, by simp, by simp⟩)
theorem inf_abc {p q : List Nat} (h : inf p q = true) (hq : Abc q) : Abc p := by
  obtain ⟨i, _, h2⟩ := (inf_iff _ _).mp h
  intro c hc
  rw [← h2] at hc
  exact hq c (List.mem_of_mem_drop (List.mem_of_mem_take hc))
/-! what the pieces are -/
theorem mem_add {acc : List (List Nat)} {p u : List Nat} : u ∈ addN acc p ↔ u ∈ acc ∨ u = p := by
  unfold addN
  split
  · rename_i hc
    have : p ∈ acc := by simpa using hc
    exact ⟨.inl, fun h => h.elim id fun e => e ▸ this⟩
  · simp
theorem mem_innerP {w u : List Nat} {size : Nat} {acc : List (List Nat)} {n : Nat} : u ∈ innerP w size acc n ↔ u ∈ acc ∨ ∃ s, s < n ∧ u = (w.drop s).take size := by
  induction n with
  | zero => exact ⟨.inl, fun h => h.elim id fun ⟨s, hs, _⟩ => absurd hs (Nat.not_lt_zero s)⟩
  | succ n ih =>
    rw [innerP_succ, mem_add, ih]
    constructor
    · rintro ((h | ⟨s, hs, e⟩) | e)
      · exact .inl h
      · exact .inr ⟨s, by omega, e⟩
      · exact .inr ⟨n, by omega, e⟩
    · rintro (h | ⟨s, hs, e⟩)
      · exact .inl (.inl h)
      · by_cases hn : s = n
        · subst hn; exact .inr e
        · exact .inl (.inr ⟨s, by omega, e⟩)
theorem mem_outerP {w u : List Nat} {n : Nat} (hn : n ≤ w.length) : u ∈ outerP w n ↔ 1 ≤ u.length ∧ u.length ≤ n ∧ inf u w = true := by
  induction n with
  | zero =>
    constructor
    · intro h; cases h
    · rintro ⟨h1, h2, _⟩; omega
  | succ n ih =>
    rw [outerP_succ, mem_innerP, ih (by omega)]
    constructor
    · rintro (⟨h1, h2, h3⟩ | ⟨s, hs, rfl⟩)
      · exact ⟨h1, by omega, h3⟩
      · have l : ((w.drop s).take (1 + n)).length = 1 + n := by rw [List.length_take, List.length_drop]; omega
        exact ⟨by omega, by omega, (inf_iff _ _).mpr ⟨s, by omega, by rw [l]⟩⟩
    · rintro ⟨h1, h2, h3⟩
      by_cases hl : u.length ≤ n
      · exact .inl ⟨h1, hl, h3⟩
      · obtain ⟨i, h4, h5⟩ := (inf_iff _ _).mp h3
        exact .inr ⟨i, by omega, by rw [← h5]; congr 1; omega⟩
theorem mem_pieces {w u : List Nat} : u ∈ piecesP w ↔ u ≠ [] ∧ inf u w = true := by
  unfold piecesP
  rw [mem_outerP (Nat.le_refl _)]
  constructor
  · rintro ⟨h1, _, h3⟩; exact ⟨fun e => by subst e; simp at h1, h3⟩
  · rintro ⟨h1, h3⟩; exact ⟨List.length_pos_iff.mpr h1, inf_len h3, h3⟩
theorem nodup_add {acc : List (List Nat)} (h : acc.Nodup) (p : List Nat) : (addN acc p).Nodup := by
  unfold addN
  split
  · exact h
  · rename_i hc
    rw [List.nodup_append]
    refine ⟨h, by simp, fun a ha b hb e => ?_⟩
    rw [List.mem_singleton] at hb
    subst e hb
    exact hc (by simpa using ha)
theorem nodup_inner (w : List Nat) (size : Nat) {acc : List (List Nat)} (h : acc.Nodup) (n : Nat) : (innerP w size acc n).Nodup := by
  induction n with
  | zero => exact h
  | succ n ih => rw [innerP_succ]; exact nodup_add ih _
theorem nodup_outer (w : List Nat) (n : Nat) : (outerP w n).Nodup := by
  induction n with
  | zero => exact List.nodup_nil
  | succ n ih => rw [outerP_succ]; exact nodup_inner _ _ ih _
theorem nodup_pieces (w : List Nat) : (piecesP w).Nodup := nodup_outer _ _
theorem inner_le (w : List Nat) (size : Nat) (acc : List (List Nat)) (n : Nat) : (innerP w size acc n).length ≤ acc.length + n := by
  induction n with
  | zero => exact Nat.le_refl _
  | succ n ih =>
    rw [innerP_succ]
    have := addN_length (innerP w size acc n) ((w.drop n).take size)
    omega
theorem outer_le (w : List Nat) (n : Nat) : (outerP w n).length ≤ n * w.length := by
  induction n with
  | zero => exact Nat.zero_le _
  | succ n ih =>
    rw [outerP_succ, Nat.succ_mul]
    have := inner_le w (1 + n) (outerP w n) (w.length - n)
    omega
theorem pieces_last {w : List Nat} {m : Nat} (h : w.length = m + 1) : piecesP w = outerP w m ++ [w] := by
  unfold piecesP
  have hw : w ∉ outerP w m := by
    intro hc
    have := ((mem_outerP (by omega)).mp hc).2.1
    omega
  rw [h, outerP_succ, show w.length - m = 0 + 1 by omega, innerP_succ, List.drop_zero, List.take_of_length_le (by omega)]
  show addN (outerP w m) w = _
  unfold addN
  rw [if_neg (by simpa using hw)]
theorem nodup_inj {ps : List (List Nat)} (h : ps.Nodup) {i j : Nat} {hi : i < ps.length} {hj : j < ps.length} (e : ps[i] = ps[j]) : i = j := by
  have h := List.pairwise_iff_getElem.mp h
  rcases Nat.lt_trichotomy i j with l | l | l
  · exact absurd e (h i j hi hj l)
  · exact l
  · exact absurd e.symm (h j i hj hi l)
theorem uniq_of {ps : List (List Nat)} (h : ps.Nodup) : ∀ (i j : Nat) (p : List Nat), ps[i]? = some p → ps[j]? = some p → i = j := by
  intro i j p hi hj
  have h1 := (List.getElem?_eq_some_iff.mp hi)
  have h2 := (List.getElem?_eq_some_iff.mp hj)
  obtain ⟨l1, e1⟩ := h1
  obtain ⟨l2, e2⟩ := h2
  exact nodup_inj h (e1.trans e2.symm)
theorem pc_ok {wd : List Nat} (h : Abc wd) (h4 : 4 ≤ wd.length) (h5 : wd.length ≤ 5) : PcOk (piecesP wd) := by
  have hl : (piecesP wd).length ≤ wd.length * wd.length := outer_le wd wd.length
  have hm : wd.length * wd.length ≤ 5 * 5 := Nat.mul_le_mul h5 h5
  obtain ⟨m, hm1⟩ : ∃ m, wd.length = m + 1 := ⟨wd.length - 1, by omega⟩
  have hp := pieces_last hm1
  refine ⟨fun p hp => ?_, ⟨?_, by omega⟩, uniq_of (nodup_pieces wd), fun k p n hk hn1 hn2 => ?_⟩
  · have hp := mem_pieces.mp hp
    exact ⟨inf_abc hp.2 h, hp.1, by have := inf_len hp.2; omega⟩
  · rw [hp, List.length_append, List.length_singleton]; omega
  · have hpm := mem_pieces.mp (List.mem_of_getElem? hk)
    have hle := inf_len hpm.2
    have hlt : (tailN p n).length = n := by unfold tailN; rw [List.length_drop]; omega
    have hin : tailN p n ∈ outerP wd m := (mem_outerP (by omega)).mpr ⟨by omega, by omega, inf_trans (tail_inf p n) hpm.2⟩
    obtain ⟨j, hj, e⟩ := List.getElem_of_mem hin
    refine ⟨j, by rw [hp, List.length_append, List.length_singleton]; omega, ?_⟩
    rw [hp, List.getElem?_append_left hj, List.getElem?_eq_getElem hj, e]
theorem sg_ok {wd : List Nat} (h5 : wd.length ≤ 5) : SgOk (· ∈ piecesP wd) := by
  refine ⟨fun p hp => ?_, fun p hp hb => ?_⟩
  · have hp := mem_pieces.mp hp
    exact ⟨by have := inf_len hp.2; omega, hp.1⟩
  · have hp := mem_pieces.mp hp
    exact mem_pieces.mpr ⟨hb, inf_trans (bord_inf p) hp.2⟩
/-! the sum over one interval -/
def rowSum (p : List Nat) : List (List Nat) → Int
  | [] => 0
  | u :: r => if inf p u then signP (u.length + 1) p u + rowSum p r else rowSum p r
def chkQ (q : List Nat) : Bool := (piecesP q).all fun p => rowSum p (piecesP q) == if p == q then 1 else 0
def cell (p q u : List Nat) : Int := (if inf p u = true then signP (u.length + 1) p u else 0) * (if inf u q = true then 1 else 0)
theorem sum_take {ps : List (List Nat)} (F : List Nat → Int) : ∀ n, n ≤ ps.length → sumN n (fun k => F (ps.getD k [])) = ((ps.take n).map F).sum
  | 0, _ => rfl
  | n + 1, h => by
    show sumN n _ + F (ps.getD n []) = _
    rw [sum_take F n (by omega), List.take_succ_eq_append_getElem (by omega : n < ps.length), List.getD_eq_getElem?_getD, List.getElem?_eq_getElem (by omega : n < ps.length), List.map_append, List.sum_append]
    show _ + F ps[n] = _ + (F ps[n] + 0)
    rw [Int.add_zero]
theorem sum_perm (F : List Nat → Int) {l l' : List (List Nat)} (h : l.Perm l') : (l.map F).sum = (l'.map F).sum := by
  induction h with
  | nil => rfl
  | cons a _ ih => rw [List.map_cons, List.map_cons, List.sum_cons, List.sum_cons, ih]
  | swap a b l => simp only [List.map_cons, List.sum_cons]; omega
  | trans _ _ h1 h2 => exact h1.trans h2
theorem sum_filter (F : List Nat → Int) (c : List Nat → Bool) (h : ∀ u, c u = false → F u = 0) (l : List (List Nat)) : (l.map F).sum = ((l.filter c).map F).sum := by
  induction l with
  | nil => rfl
  | cons u l ih =>
    rw [List.map_cons, List.sum_cons, ih]
    cases hc : c u with
    | true => rw [List.filter_cons_of_pos hc, List.map_cons, List.sum_cons]
    | false => rw [List.filter_cons_of_neg (by rw [hc]; decide), h u hc, Int.zero_add]
theorem sum_zero (F : List Nat → Int) (l : List (List Nat)) (h : ∀ u ∈ l, F u = 0) : (l.map F).sum = 0 := by
  induction l with
  | nil => rfl
  | cons u l ih => rw [List.map_cons, List.sum_cons, h u (.head _), ih fun v hv => h v (.tail _ hv)]; rfl
theorem row_cell (p q : List Nat) (l : List (List Nat)) (h : ∀ u ∈ l, inf u q = true) : (l.map (cell p q)).sum = rowSum p l := by
  induction l with
  | nil => rfl
  | cons u l ih =>
    rw [List.map_cons, List.sum_cons, ih fun v hv => h v (.tail _ hv)]
    show cell p q u + rowSum p l = if inf p u = true then signP (u.length + 1) p u + rowSum p l else rowSum p l
    unfold cell
    rw [if_pos (c := inf u q = true) (h u (.head _)), Int.mul_one]
    split
    · rfl
    · rw [Int.zero_add]
theorem cell_sum {w p q : List Nat} (hp : p ∈ piecesP w) (hq : q ∈ piecesP w) (h : chkQ q = true) : ((piecesP w).map (cell p q)).sum = if p = q then 1 else 0 := by
  have hp := mem_pieces.mp hp
  have hq := mem_pieces.mp hq
  by_cases hpq : inf p q = true
  · rw [sum_filter (cell p q) (fun u => inf u q) fun u hu => by unfold cell; rw [if_neg (c := inf u q = true) (by rw [hu]; decide), Int.mul_zero]]
    have hperm : ((piecesP w).filter fun u => inf u q).Perm (piecesP q) := by
      refine (List.perm_ext_iff_of_nodup ((nodup_pieces w).filter _) (nodup_pieces q)).mpr fun u => ?_
      rw [List.mem_filter, mem_pieces, mem_pieces]
      exact ⟨fun h => ⟨h.1.1, h.2⟩, fun h => ⟨⟨h.1, inf_trans h.2 hq.2⟩, h.2⟩⟩
    rw [sum_perm _ hperm, row_cell p q _ fun u hu => (mem_pieces.mp hu).2]
    have := List.all_eq_true.mp h p (mem_pieces.mpr ⟨hp.1, hpq⟩)
    rw [beq_iff_eq] at this
    rw [this]
    by_cases e : p = q
    · subst e; simp
    · rw [if_neg (by simpa using e), if_neg e]
  · rw [if_neg (fun e => hpq (by subst e; exact inf_refl p))]
    refine sum_zero _ _ fun u _ => ?_
    unfold cell
    by_cases h1 : inf p u = true
    · rw [if_neg (c := inf u q = true) (fun h2 => hpq (inf_trans h1 h2)), Int.mul_zero]
    · rw [if_neg h1, Int.zero_mul]
theorem mo_of {w : List Nat} (h : ∀ q ∈ piecesP w, chkQ q = true) : Moeb (piecesP w) := by
  intro i hi j hj
  generalize hps : piecesP w = ps at *
  have e := sum_take (ps := ps) (cell (ps.getD i []) (ps.getD j [])) ps.length (Nat.le_refl _)
  refine e.trans ?_
  have hgi : ps.getD i [] = ps[i] := by rw [List.getD_eq_getElem?_getD, List.getElem?_eq_getElem hi]; rfl
  have hgj : ps.getD j [] = ps[j] := by rw [List.getD_eq_getElem?_getD, List.getElem?_eq_getElem hj]; rfl
  rw [List.take_length, hgi, hgj]
  have mi := List.getElem_mem hi
  have mj := List.getElem_mem hj
  have := cell_sum (w := w) (p := ps[i]) (q := ps[j]) (by rw [hps]; exact mi) (by rw [hps]; exact mj) (h _ mj)
  rw [hps] at this
  rw [this]
  by_cases hij : i = j
  · subst hij; simp
  · rw [if_neg (fun e => hij (nodup_inj (by rw [← hps]; exact nodup_pieces w) e)), if_neg hij]
/-! letters may be renamed -/
section
variable {f : Nat → Nat} (hf : ∀ a b, f a = f b → a = b)
include hf
theorem map_inj' {p q : List Nat} (h : p.map f = q.map f) : p = q := by
  induction p generalizing q with
  | nil => cases q with
    | nil => rfl
    | cons b q => cases h
  | cons a p ih => cases q with
    | nil => cases h
    | cons b q =>
      rw [List.map_cons, List.map_cons, List.cons.injEq] at h
      rw [hf a b h.1, ih h.2]
theorem pref_map : ∀ p q : List Nat, pref (p.map f) (q.map f) = pref p q
  | [], q => rfl
  | a :: p, [] => rfl
  | a :: p, b :: q => by
    show (Nat.beq (f a) (f b) && pref (p.map f) (q.map f)) = (Nat.beq a b && pref p q)
    rw [pref_map p q]
    congr 1
    rw [Bool.eq_iff_iff, Nat.beq_eq, Nat.beq_eq]
    exact ⟨hf a b, fun e => e ▸ rfl⟩
theorem inf_map (p : List Nat) : ∀ q : List Nat, inf (p.map f) (q.map f) = inf p q
  | [] => pref_map hf p []
  | c :: q => by
    show (pref (p.map f) ((c :: q).map f) || inf (p.map f) (q.map f)) = (pref p (c :: q) || inf p q)
    rw [pref_map hf, inf_map p q]
omit hf in
theorem tail_map (q : List Nat) (k : Nat) : tailN (q.map f) k = (tailN q k).map f := by
  unfold tailN
  rw [List.length_map, List.map_drop]
omit hf in
theorem inner_map (q : List Nat) : inner (q.map f) = (inner q).map f := by
  unfold inner
  rw [List.length_map, List.map_take, List.map_drop]
theorem bord_map (q : List Nat) : bord (q.map f) = (bord q).map f := by
  have : ∀ (l : List Nat) (acc : List Nat), l.foldl (fun acc k => if pref (tailN (q.map f) k) (q.map f) then tailN (q.map f) k else acc) (acc.map f) = (l.foldl (fun acc k => if pref (tailN q k) q then tailN q k else acc) acc).map f := by
    intro l
    induction l with
    | nil => exact fun _ => rfl
    | cons k l ih =>
      intro acc
      rw [List.foldl_cons, List.foldl_cons, ← ih, tail_map, pref_map hf]
      congr 1
      split <;> rfl
  unfold bord
  rw [List.length_map]
  exact this _ []
theorem same_map {q : List Nat} : q.map f = List.replicate (q.map f).length ((q.map f).headD 0) ↔ q = List.replicate q.length (q.headD 0) := by
  cases q with
  | nil => simp
  | cons a q =>
    rw [List.length_map, show ((a :: q).map f).headD 0 = f a from rfl, ← List.map_replicate]
    exact ⟨fun h => map_inj' hf h, fun h => congrArg (List.map f) h⟩
theorem sign_map : ∀ (n : Nat) (p q : List Nat), signP n (p.map f) (q.map f) = signP n p q
  | 0, _, _ => rfl
  | n + 1, p, q => by
    unfold signP
    rw [bord_map hf, inner_map, inf_map hf, inf_map hf, sign_map n]
    simp only [same_map hf]
    simp only [List.length_map]
    have e : ∀ a b : List Nat, (a.map f = b.map f) = (a = b) := fun a b => propext ⟨fun h => map_inj' hf h, fun h => h ▸ rfl⟩
    simp only [e]
theorem add_map (acc : List (List Nat)) (p : List Nat) : addN (acc.map (List.map f)) (p.map f) = (addN acc p).map (List.map f) := by
  unfold addN
  have : (acc.map (List.map f)).contains (p.map f) = acc.contains p := by
    rw [Bool.eq_iff_iff, List.contains_iff_mem, List.contains_iff_mem, List.mem_map]
    exact ⟨fun ⟨a, ha, e⟩ => map_inj' hf e ▸ ha, fun h => ⟨p, h, rfl⟩⟩
  rw [this]
  split
  · rfl
  · rw [List.map_append]; rfl
theorem innerP_map (w : List Nat) (size : Nat) (acc : List (List Nat)) (n : Nat) : innerP (w.map f) size (acc.map (List.map f)) n = (innerP w size acc n).map (List.map f) := by
  induction n with
  | zero => rfl
  | succ n ih => rw [innerP_succ, innerP_succ, ih, ← List.map_drop, ← List.map_take, add_map hf]
theorem outerP_map (w : List Nat) (n : Nat) : outerP (w.map f) n = (outerP w n).map (List.map f) := by
  induction n with
  | zero => rfl
  | succ n ih => rw [outerP_succ, outerP_succ, ih, List.length_map, innerP_map hf]
theorem pieces_map (w : List Nat) : piecesP (w.map f) = (piecesP w).map (List.map f) := by
  unfold piecesP
  rw [List.length_map, outerP_map hf]
theorem row_map (p : List Nat) : ∀ l : List (List Nat), rowSum (p.map f) (l.map (List.map f)) = rowSum p l
  | [] => rfl
  | u :: l => by
    rw [List.map_cons]
    unfold rowSum
    rw [row_map p l, inf_map hf, List.length_map, sign_map hf]
theorem chk_map {q : List Nat} (h : chkQ (q.map f) = true) : chkQ q = true := by
  unfold chkQ at h ⊢
  rw [pieces_map hf] at h
  refine List.all_eq_true.mpr fun p hp => ?_
  have := List.all_eq_true.mp h (p.map f) (List.mem_map.mpr ⟨p, hp, rfl⟩)
  rw [beq_iff_eq] at this ⊢
  rw [row_map hf] at this
  rw [this]
  by_cases e : p = q
  · subst e; simp
  · have e' : ¬ p.map f = q.map f := fun h => e (map_inj' hf h)
    rw [if_neg (by rw [beq_iff_eq]; exact e'), if_neg (by rw [beq_iff_eq]; exact e)]
end
def sw (a b x : Nat) : Nat := if x = a then b else if x = b then a else x
theorem sw_inj (a b x y : Nat) (h : sw a b x = sw a b y) : x = y := by
  unfold sw at h
  repeat' split at h
  all_goals omega
theorem sw_abc {a b : Nat} {l : List Nat} (ha : a = 97 ∨ a = 98 ∨ a = 99) (hb : b = 97 ∨ b = 98 ∨ b = 99) (h : Abc l) : Abc (l.map (sw a b)) := by
  intro c hc
  obtain ⟨d, hd, rfl⟩ := List.mem_map.mp hc
  unfold sw
  split
  · exact hb
  · split
    · exact ha
    · exact h d hd
end Mine
end
section
open PySem
namespace Mine
set_option maxRecDepth 100000
theorem c1 : chkQ [97] = true := by decide +kernel
theorem c2 : ((words 0).all fun w => chkQ (97 :: 97 :: w) && chkQ (97 :: 98 :: w)) = true := by decide +kernel
theorem c3 : ((words 1).all fun w => chkQ (97 :: 97 :: w) && chkQ (97 :: 98 :: w)) = true := by decide +kernel
theorem c4 : ((words 2).all fun w => chkQ (97 :: 97 :: w) && chkQ (97 :: 98 :: w)) = true := by decide +kernel
theorem c5_97 : ((words 2).all fun w => chkQ (97 :: 97 :: 97 :: w) && chkQ (97 :: 98 :: 97 :: w)) = true := by decide +kernel
theorem c5_98 : ((words 2).all fun w => chkQ (97 :: 97 :: 98 :: w) && chkQ (97 :: 98 :: 98 :: w)) = true := by decide +kernel
theorem c5_99 : ((words 2).all fun w => chkQ (97 :: 97 :: 99 :: w) && chkQ (97 :: 98 :: 99 :: w)) = true := by decide +kernel
theorem chk_two {r : List Nat} (h : Abc r) (hl : r.length ≤ 3) : (chkQ (97 :: 97 :: r) && chkQ (97 :: 98 :: r)) = true := by
  match r, hl, h with
  | [], _, h => exact List.all_eq_true.mp c2 _ (mem_words h)
  | [a], _, h => exact List.all_eq_true.mp c3 _ (mem_words h)
  | [a, b], _, h => exact List.all_eq_true.mp c4 _ (mem_words h)
  | [a, b, c], _, h =>
    have hm : [b, c] ∈ words 2 := mem_words (w := [b, c]) fun x hx => h x (.tail _ hx)
    rcases h a (.head _) with rfl | rfl | rfl
    · exact List.all_eq_true.mp c5_97 _ hm
    · exact List.all_eq_true.mp c5_98 _ hm
    · exact List.all_eq_true.mp c5_99 _ hm
theorem chk_97 {r : List Nat} (h : Abc r) (hl : r.length ≤ 4) : chkQ (97 :: r) = true := by
  match r, hl, h with
  | [], _, _ => exact c1
  | b :: r, hl', h =>
    have hl : r.length ≤ 3 := by simpa using hl'
    have hr : Abc r := fun x hx => h x (.tail _ hx)
    rcases h b (.head _) with rfl | rfl | rfl
    · exact (Bool.and_eq_true_iff.mp (chk_two hr hl)).1
    · exact (Bool.and_eq_true_iff.mp (chk_two hr hl)).2
    · refine chk_map (sw_inj 98 99) ?_
      exact (Bool.and_eq_true_iff.mp (chk_two (sw_abc (a := 98) (b := 99) (.inr (.inl rfl)) (.inr (.inr rfl)) hr) (by rw [List.length_map]; exact hl))).2
theorem chk_all {q : List Nat} (h : Abc q) (h0 : q ≠ []) (hl : q.length ≤ 5) : chkQ q = true := by
  match q, h0, hl, h with
  | a :: r, _, hl', h =>
    have hl : r.length ≤ 4 := by simpa using hl'
    have hr : Abc r := fun x hx => h x (.tail _ hx)
    refine chk_map (sw_inj a 97) ?_
    have e : (a :: r).map (sw a 97) = 97 :: r.map (sw a 97) := by
      rw [List.map_cons]
      congr 1
      exact if_pos rfl
    rw [e]
    exact chk_97 (sw_abc (h a (.head _)) (.inl rfl) hr) (by rw [List.length_map]; exact hl)
theorem mo_ok {wd : List Nat} (h : Abc wd) (h5 : wd.length ≤ 5) : Moeb (piecesP wd) :=
  mo_of fun q hq => by
    have hq := mem_pieces.mp hq
    exact chk_all (inf_abc hq.2 h) hq.1 (Nat.le_trans (inf_len hq.2) h5)
end Mine
end
section
open PySem PySem.W PyProof.Rows PySem.Calls PyProof.V
set_option Elab.async false
namespace Mine
theorem cell_ne {h₀ h : Heap} {L : Addr} {news : CbLed} {a c : Addr} {o oc : Obj} {v : Option Value} (N : News h₀ L h news) (ha : (a, o) ∈ news) (hc : (c, oc) ∈ news) (hd : oc.data = .cell v) (ho : ∀ v, o.data ≠ .cell v) : a ≠ c := by
  intro e
  subst e
  have h1 := (N _ ha).1
  have h2 := (N _ hc).1
  simp only at h1 h2
  rw [h1] at h2
  cases h2
  exact ho v hd
theorem cne {n : Nat} (i j : Nat) (h : i ≠ j) : n + i ≠ n + j := fun e => h (Nat.add_left_cancel e)
theorem ne_nil {d : Addr} : ∀ p ∈ ([] : CbLed), p.1 ≠ d := fun _ h => nomatch h
theorem ne_cons {a d : Addr} {o : Obj} {l : CbLed} (h : a ≠ d) (hl : ∀ p ∈ l, p.1 ≠ d) : ∀ p ∈ (a, o) :: l, p.1 ≠ d := fun p hp => by
  rcases List.mem_cons.mp hp with rfl | hp
  · exact h
  · exact hl p hp
theorem news_tail {h₀ h : Heap} {L : Addr} {a : Addr × Obj} {l : CbLed} (N : News h₀ L h (a :: l)) : News h₀ L h l := fun p hp => N p (.tail _ hp)
def HaltMark2 : Prop := True
theorem off1_all {D : Addr} : ∀ {l : CbLed}, LCg.Off1 D l → ∀ p ∈ l, p.1 ≠ D
  | [], _, _, h => nomatch h
  | _ :: _, x, p, h => by
    rcases List.mem_cons.mp h with rfl | h
    · exact x.1
    · exact off1_all x.2 p h
section
local macro_rules | `(tactic| walk_at "call ref") => `(tactic| ((with_reducible rename HaltMark => hM'); refine halt ?_))
local macro_rules | `(tactic| walk_at "CompSrc") => `(tactic| ((with_reducible rename HaltMark => hM'); refine halt ?_))
local macro_rules | `(tactic| walk_at "CompSrcT") => `(tactic| ((with_reducible rename HaltMark => hM'); refine halt ?_))
local macro_rules | `(tactic| walk_at "call builtin:str.join") => `(tactic| ((with_reducible rename HaltMark => hM'); (with_reducible rename Txt.upper (S _) = _ => hup9); rw [hup9]; (with_reducible show wpAny _ _ (call _ [Value.str _ _, Value.str (S _) _]) _ _ _); k_dflt (refine join_chars (by rfl) (by k_asm) (by k_asm) (by assumption) (by assumption) (by decide) ?_); intro h' k' t' F' N'))
local macro_rules | `(tactic| walk_at "call builtin:str.join") => `(tactic| ((with_reducible rename HaltMark => hM'); (with_reducible show wpAny _ _ (call _ [Value.str _ _, Value.str (S _) _]) _ _ _); k_dflt (refine join_chars (by rfl) (by k_asm) (by k_asm) (by assumption) (by assumption) (by decide) ?_); intro h' k' t' F' N'))
local macro_rules | `(tactic| walk_at "call builtin:str.upper") => `(tactic| ((with_reducible rename HaltMark => hM'); refine SC.upper (by assumption) ?_))
local macro_rules | `(tactic| walk_at "callWith") => `(tactic| ((with_reducible rename HaltMark => hM'); (with_reducible refine callWith_method0 ?_); dsimp only))
set_option hygiene false in
local macro_rules | `(tactic| walk_at "call builtin:sum") => `(tactic| ((with_reducible rename HaltMark => hM'); k_dflt (refine sumK (by rfl) (by k_asm) (by k_asm) (News.isList (by k_asm) (by k_mem)) (by assumption) ?_); intro xh xk tS xF xN; (try dsimp only)))
local macro_rules | `(tactic| walk_at "CompEnd") => `(tactic| ((with_reducible rename HaltMark => hM'); refine halt ?_))
local macro_rules | `(tactic| walk_at "pyIter ref") => `(tactic| ((with_reducible rename HaltMark => hM'); refine halt ?_))
local macro_rules | `(tactic| walk_at "eval ListComp") => `(tactic| ((with_reducible rename HaltMark => hM'); k_here; (fail_if_success lct_look); (k_dflt (refine LCg.ListComp_U (F₀ := by k_asm) (by with_unfolding_all rfl) (by decide) (by rfl) (by decide) (by rfl) ?_))))
local macro_rules | `(tactic| walk_at "eval ListComp") => `(tactic| ((with_reducible rename HaltMark => hM'); k_here; lct_look; (k_dflt (refine LCt.ListComp_T (F₀ := by k_asm) (by with_unfolding_all rfl) (by decide) (by rfl) (by decide) (by rfl) ?_))))
local macro_rules | `(tactic| walk_at "execs cons Assign cons") => `(tactic| ((with_reducible rename HaltMark => hM'); (with_reducible refine wpAny_execs_cons ?_); try dsimp only))
local macro_rules | `(tactic| walk_at "exec For Name Subscript cons nil") => `(tactic| ((with_reducible rename HaltMark => hM'); (rename Fr _ _ _ _ => lF'); (with_unfolding_all refine' For_invVF lF' ?k1 ?k2 ?_; (case k1 => exact rfl); (case k2 => exact rfl); k_whole)))
local macro_rules | `(tactic| walk_at "exec For Name Name cons nil") => `(tactic| ((with_reducible rename HaltMark => hM'); (rename Fr _ _ _ _ => lF'); (with_unfolding_all refine' For_invVF lF' ?k1 ?k2 ?_; (case k1 => exact rfl); (case k2 => exact rfl); k_whole)))
local macro_rules | `(tactic| walk_at "exec For Name Call cons nil") => `(tactic| ((with_reducible rename HaltMark => hM'); (rename Fr _ _ _ _ => lF'); (with_unfolding_all refine' For_invVF lF' ?k1 ?k2 ?_; (case k1 => exact rfl); (case k2 => exact rfl); k_whole)))

local macro_rules | `(tactic| walk_at "exec For Name Name cons nil") => `(tactic| ((with_reducible rename HaltMark => hM'); (with_reducible show wpAny _ _ (exec (Stmt.For (Expr.Name (PySem.Str.ofString "piece") _) _ _ [] _) _) _ _ _); k_dflt (refine for_open ?_)))
set_option hygiene false in
local macro_rules | `(tactic| walk_at "newList") => `(tactic| ((with_reducible rename HaltMark => hM'); k_dflt (refine' newList_K ?k1 ?k2 ?_; (case k1 => k_asm); (case k2 => k_asm); k_whole); intro xT xh xF xN xl; (try k_lt xl); (obtain ⟨tH, tG, tO, tP, t7, t6, t5, t4, t3, t2, t1⟩ := xl); (try dsimp only)))
local macro_rules | `(tactic| walk_at "call builtin:len") => `(tactic| ((with_reducible rename HaltMark => hM'); (with_reducible show wpAny _ _ (call (Value.builtin "len") [Value.ref _]) _ _ _); k_dflt (refine kst_len (by k_asm) (by k_mem) (by assumption) (by omega) ?_)))
set_option hygiene false in
local macro_rules | `(tactic| walk_at "storeName") => `(tactic| ((with_reducible rename HaltMark => hM'); (with_reducible show wpAny _ _ (storeName _ (PySem.Str.ofString "pieces") _) _ _ _); k_dflt (refine' storeX_C ?yF ?yN ?yc ?yU ?yd ?_; (case yF => k_asm); (case yN => k_asm); (case yc => exact rfl); (case yU => exact (UpdF.tail nP1 (UpdF.tail m71 (UpdF.tail m61 (UpdF.tail m51 (UpdF.tail m41 (UpdF.tail m31 (UpdF.tail m21 (UpdF.head ne_nil))))))))); (case yd => k_asm)); intro xh q_pieces xF xN e_pieces; (try dsimp only at xN); (try dsimp only)))
set_option hygiene false in
local macro_rules | `(tactic| walk_at "storeName") => `(tactic| ((with_reducible rename HaltMark => hM'); (with_reducible show wpAny _ _ (storeName _ (PySem.Str.ofString "outer") _) _ _ _); k_dflt (refine' storeX_C ?yF ?yN ?yc ?yU ?yd ?_; (case yF => k_asm); (case yN => k_asm); (case yc => exact rfl); (case yU => exact (UpdF.tail nO2 (UpdF.tail nP2 (UpdF.tail m72 (UpdF.tail m62 (UpdF.tail m52 (UpdF.tail m42 (UpdF.tail m32 (UpdF.head (ne_cons m12 ne_nil)))))))))); (case yd => k_asm)); intro xh q_outer xF xN e_outer; (try dsimp only at xN); (try dsimp only)))
set_option hygiene false in
local macro_rules | `(tactic| walk_at "storeName") => `(tactic| ((with_reducible rename HaltMark => hM'); (with_reducible show wpAny _ _ (storeName _ (PySem.Str.ofString "given") _) _ _ _); k_dflt (refine' storeX_C ?yF ?yN ?yc ?yU ?yd ?_; (case yF => k_asm); (case yN => k_asm); (case yc => exact rfl); (case yU => exact (UpdF.tail (Ne.symm g3) (UpdF.tail nO3 (UpdF.tail nP3 (UpdF.tail m73 (UpdF.tail m63 (UpdF.tail m53 (UpdF.tail m43 (UpdF.head (ne_cons m23 (ne_cons m13 ne_nil))))))))))); (case yd => k_asm)); intro xh q_given xF xN e_given; (try dsimp only at xN); (try dsimp only)))
set_option hygiene false in
local macro_rules | `(tactic| walk_at "storeName") => `(tactic| ((with_reducible rename HaltMark => hM'); (with_reducible show wpAny _ _ (storeName _ (PySem.Str.ofString "hosts") _) _ _ _); k_dflt (refine' storeX_C ?yF ?yN ?yc ?yU ?yd ?_; (case yF => k_asm); (case yN => k_asm); (case yc => exact rfl); (case yU => exact (UpdF.tail (Ne.symm h5_) (UpdF.tail (Ne.symm g5) (UpdF.tail nO5 (UpdF.tail nP5 (UpdF.tail m75 (UpdF.tail m65 (UpdF.head (ne_cons m45 (ne_cons m35 (ne_cons m25 (ne_cons m15 ne_nil)))))))))))); (case yd => k_asm)); intro xh q_hosts xF xN e_hosts; (try dsimp only at xN); (try dsimp only)))
set_option hygiene false in
local macro_rules | `(tactic| walk_at "storeName") => `(tactic| ((with_reducible rename HaltMark => hM'); (with_reducible show wpAny _ _ (storeName _ (PySem.Str.ofString "sums") _) _ _ _); k_dflt (refine' storeX_C ?yF ?yN ?yc ?yU ?yd ?_; (case yF => k_asm); (case yN => k_asm); (case yc => exact rfl); (case yU => exact (UpdF.tail (Nat.ne_of_gt t6) (UpdF.tail (Ne.symm h6_) (UpdF.tail (Ne.symm g6) (UpdF.tail nO6 (UpdF.tail nP6 (UpdF.tail m76 (UpdF.head (ne_cons m56 (ne_cons m46 (ne_cons m36 (ne_cons m26 (ne_cons m16 ne_nil))))))))))))); (case yd => k_asm)); intro xh q_sums xF xN e_sums; (try dsimp only at xN); (try dsimp only)))
set_option hygiene false in
local macro_rules | `(tactic| walk_at "storeName") => `(tactic| ((with_reducible rename HaltMark => hM'); (with_reducible show wpAny _ _ (storeName _ (PySem.Str.ofString "domain") _) _ _ _); rw [hdm]; k_dflt (refine' storeX_C ?yF ?yN ?yc ?yU ?yd ?_; (case yF => k_asm); (case yN => k_asm); (case yc => exact rfl); (case yU => exact UpdF.tail m47 (UpdF.head hneD)); (case yd => k_asm)); intro xh q_domain xF xN e_domain; (try dsimp only at xN); (try dsimp only)))
set_option hygiene false in
local macro_rules | `(tactic| walk_at "storeName") => `(tactic| ((with_reducible rename HaltMark => hM'); (with_reducible show wpAny _ _ (storeName _ (PySem.Str.ofString "piece") _) _ _ _); k_dflt (refine' storeX_C ?yF ?yN ?yc ?yU ?yd ?_; (case yF => k_asm); (case yN => k_asm); (case yc => exact rfl); (case yU => exact UpdF.head hneP); (case yd => k_asm)); intro xh q_piece xF xN e_piece; (try dsimp only at xN); (try dsimp only)))
set_option hygiene false in
local macro_rules | `(tactic| walk_at "subscriptTail") => `(tactic| ((with_reducible rename HaltMark => hM'); (with_reducible show wpAny _ _ (subscriptTail _ _ (Value.ref _) (Value.int _ _)) _ _ _); k_dflt (first
  | (refine' item_anyK ?yl ?yi ?y0 ?y1 ?y2 ?_; (case yl => first | exact News.isList (by k_asm) (by k_mem) | exact Heap.IsList.at hL (Fr.keep (by k_asm) _)); (case yi => assumption); (case y0 => omega); (case y1 => omega); (case y2 => omega); k_whole)
  | (refine' item_txt ?yl ?yt ?yk ?yp ?yb ?_; (case yl => exact News.isList (by k_asm) (by k_mem)); (case yt => assumption); (case yk => assumption); (case yp => assumption); (case yb => first | omega | (simp only [List.length_map, List.length_take]; omega)); k_whole)); intro t'))
set_option hygiene false in
local macro_rules | `(tactic| walk_at "call builtin:list.append") => `(tactic| ((with_reducible rename HaltMark => hM'); k_dflt (refine append_K (by k_asm) (news_tail (by k_asm)) (Upd.tail (Nat.ne_of_lt t4) (Upd.tail (Nat.ne_of_lt t7) (Upd.head hneT))) ?_ (by assumption)); intro xh xF xN; (try dsimp only)))
set_option hygiene false in
local macro_rules | `(tactic| walk_at "setItem ref int") => `(tactic| ((with_reducible rename HaltMark => hM'); k_dflt (refine' set_int ?yF ?yN (Upd.head hne) hG (by omega) (by omega) (by omega) ?_; (case yF => k_asm); (case yN => k_asm); k_whole); intro xh xF xN; (try dsimp only)))
local macro_rules | `(tactic| walk_at "binaryOp Mult int int") => `(tactic| ((with_reducible rename HaltMark2 => hM2'); refine mul_int ?_ (by assumption)))
set_option hygiene false in
local macro_rules | `(tactic| walk_at "newList") => `(tactic| ((with_reducible rename HaltMark2 => hM2'); k_dflt (refine' newList_K ?k1 ?k2 ?_; (case k1 => k_asm); (case k2 => k_asm); k_whole); intro xB xh xF xN xl; (try k_lt xl); (obtain ⟨b4, b7, bT, bH, bG, bO, bP, b6, b5, b3, b2, b1⟩ := xl); (try dsimp only)))
set_option hygiene false in
local macro_rules | `(tactic| walk_at "call builtin:list.append") => `(tactic| ((with_reducible rename HaltMark2 => hM2'); k_dflt (refine append_K (by k_asm) (news_tail (by k_asm)) (Upd.tail (Nat.ne_of_lt b4) (Upd.head hneB)) ?_ (by assumption)); intro xh xF xN; (try dsimp only)))
local macro_rules | `(tactic| walk_at "exec Assign cons ListComp") => `(tactic| ((with_reducible rename HaltMark2 => hM2'); k_here; lct_look; k_dflt (refine LCt.Assign_ListComp_T (F₀ := by k_asm) (by rfl) (by with_unfolding_all rfl) (by with_unfolding_all rfl) (by decide) (by rfl) (by decide) (by rfl) (by rfl) (by rfl) ?_)))
set_option maxRecDepth 100000 in
set_option maxHeartbeats 8000000 in
theorem law_holds : PySem.Challenge.rw_xe0015_01.Holds := Mine.hd (by
  w_top off
  k_go0
  all_goals try k_fold
  rename_i W s0 s1 mg mb GG YY fa fo pm doc ho hg KX XX VV GL TT BB TE TW a1 a2 MM a3 a4 hcd ns hs hly hLy hr1 hl2 b1 b2 sl vs b3 hL ra w1 r0 hI hr2 hc1 hc2 K0 hD h1 tk1 F0 o7 o6 o5 o4 o3 o2 o1 d7 d6 d5 d4 d3 d2 d1 N0 X0
  have m12 : (s1.heap.objs.size + 1 : Addr) ≠ (s1.heap.objs.size + 1 + 1 : Addr) := cne 1 2 (by decide)
  have m13 : (s1.heap.objs.size + 1 : Addr) ≠ (s1.heap.objs.size + 1 + 1 + 1 : Addr) := cne 1 3 (by decide)
  have m14 : (s1.heap.objs.size + 1 : Addr) ≠ (s1.heap.objs.size + 1 + 1 + 1 + 1 : Addr) := cne 1 4 (by decide)
  have m15 : (s1.heap.objs.size + 1 : Addr) ≠ (s1.heap.objs.size + 1 + 1 + 1 + 1 + 1 : Addr) := cne 1 5 (by decide)
  have m16 : (s1.heap.objs.size + 1 : Addr) ≠ (s1.heap.objs.size + 1 + 1 + 1 + 1 + 1 + 1 : Addr) := cne 1 6 (by decide)
  have m17 : (s1.heap.objs.size + 1 : Addr) ≠ (s1.heap.objs.size + 1 + 1 + 1 + 1 + 1 + 1 + 1 : Addr) := cne 1 7 (by decide)
  have m21 : (s1.heap.objs.size + 1 + 1 : Addr) ≠ (s1.heap.objs.size + 1 : Addr) := cne 2 1 (by decide)
  have m23 : (s1.heap.objs.size + 1 + 1 : Addr) ≠ (s1.heap.objs.size + 1 + 1 + 1 : Addr) := cne 2 3 (by decide)
  have m24 : (s1.heap.objs.size + 1 + 1 : Addr) ≠ (s1.heap.objs.size + 1 + 1 + 1 + 1 : Addr) := cne 2 4 (by decide)
  have m25 : (s1.heap.objs.size + 1 + 1 : Addr) ≠ (s1.heap.objs.size + 1 + 1 + 1 + 1 + 1 : Addr) := cne 2 5 (by decide)
  have m26 : (s1.heap.objs.size + 1 + 1 : Addr) ≠ (s1.heap.objs.size + 1 + 1 + 1 + 1 + 1 + 1 : Addr) := cne 2 6 (by decide)
  have m27 : (s1.heap.objs.size + 1 + 1 : Addr) ≠ (s1.heap.objs.size + 1 + 1 + 1 + 1 + 1 + 1 + 1 : Addr) := cne 2 7 (by decide)
  have m31 : (s1.heap.objs.size + 1 + 1 + 1 : Addr) ≠ (s1.heap.objs.size + 1 : Addr) := cne 3 1 (by decide)
  have m32 : (s1.heap.objs.size + 1 + 1 + 1 : Addr) ≠ (s1.heap.objs.size + 1 + 1 : Addr) := cne 3 2 (by decide)
  have m34 : (s1.heap.objs.size + 1 + 1 + 1 : Addr) ≠ (s1.heap.objs.size + 1 + 1 + 1 + 1 : Addr) := cne 3 4 (by decide)
  have m35 : (s1.heap.objs.size + 1 + 1 + 1 : Addr) ≠ (s1.heap.objs.size + 1 + 1 + 1 + 1 + 1 : Addr) := cne 3 5 (by decide)
  have m36 : (s1.heap.objs.size + 1 + 1 + 1 : Addr) ≠ (s1.heap.objs.size + 1 + 1 + 1 + 1 + 1 + 1 : Addr) := cne 3 6 (by decide)
  have m37 : (s1.heap.objs.size + 1 + 1 + 1 : Addr) ≠ (s1.heap.objs.size + 1 + 1 + 1 + 1 + 1 + 1 + 1 : Addr) := cne 3 7 (by decide)
  have m41 : (s1.heap.objs.size + 1 + 1 + 1 + 1 : Addr) ≠ (s1.heap.objs.size + 1 : Addr) := cne 4 1 (by decide)
  have m42 : (s1.heap.objs.size + 1 + 1 + 1 + 1 : Addr) ≠ (s1.heap.objs.size + 1 + 1 : Addr) := cne 4 2 (by decide)
  have m43 : (s1.heap.objs.size + 1 + 1 + 1 + 1 : Addr) ≠ (s1.heap.objs.size + 1 + 1 + 1 : Addr) := cne 4 3 (by decide)
  have m45 : (s1.heap.objs.size + 1 + 1 + 1 + 1 : Addr) ≠ (s1.heap.objs.size + 1 + 1 + 1 + 1 + 1 : Addr) := cne 4 5 (by decide)
  have m46 : (s1.heap.objs.size + 1 + 1 + 1 + 1 : Addr) ≠ (s1.heap.objs.size + 1 + 1 + 1 + 1 + 1 + 1 : Addr) := cne 4 6 (by decide)
  have m47 : (s1.heap.objs.size + 1 + 1 + 1 + 1 : Addr) ≠ (s1.heap.objs.size + 1 + 1 + 1 + 1 + 1 + 1 + 1 : Addr) := cne 4 7 (by decide)
  have m51 : (s1.heap.objs.size + 1 + 1 + 1 + 1 + 1 : Addr) ≠ (s1.heap.objs.size + 1 : Addr) := cne 5 1 (by decide)
  have m52 : (s1.heap.objs.size + 1 + 1 + 1 + 1 + 1 : Addr) ≠ (s1.heap.objs.size + 1 + 1 : Addr) := cne 5 2 (by decide)
  have m53 : (s1.heap.objs.size + 1 + 1 + 1 + 1 + 1 : Addr) ≠ (s1.heap.objs.size + 1 + 1 + 1 : Addr) := cne 5 3 (by decide)
  have m54 : (s1.heap.objs.size + 1 + 1 + 1 + 1 + 1 : Addr) ≠ (s1.heap.objs.size + 1 + 1 + 1 + 1 : Addr) := cne 5 4 (by decide)
  have m56 : (s1.heap.objs.size + 1 + 1 + 1 + 1 + 1 : Addr) ≠ (s1.heap.objs.size + 1 + 1 + 1 + 1 + 1 + 1 : Addr) := cne 5 6 (by decide)
  have m57 : (s1.heap.objs.size + 1 + 1 + 1 + 1 + 1 : Addr) ≠ (s1.heap.objs.size + 1 + 1 + 1 + 1 + 1 + 1 + 1 : Addr) := cne 5 7 (by decide)
  have m61 : (s1.heap.objs.size + 1 + 1 + 1 + 1 + 1 + 1 : Addr) ≠ (s1.heap.objs.size + 1 : Addr) := cne 6 1 (by decide)
  have m62 : (s1.heap.objs.size + 1 + 1 + 1 + 1 + 1 + 1 : Addr) ≠ (s1.heap.objs.size + 1 + 1 : Addr) := cne 6 2 (by decide)
  have m63 : (s1.heap.objs.size + 1 + 1 + 1 + 1 + 1 + 1 : Addr) ≠ (s1.heap.objs.size + 1 + 1 + 1 : Addr) := cne 6 3 (by decide)
  have m64 : (s1.heap.objs.size + 1 + 1 + 1 + 1 + 1 + 1 : Addr) ≠ (s1.heap.objs.size + 1 + 1 + 1 + 1 : Addr) := cne 6 4 (by decide)
  have m65 : (s1.heap.objs.size + 1 + 1 + 1 + 1 + 1 + 1 : Addr) ≠ (s1.heap.objs.size + 1 + 1 + 1 + 1 + 1 : Addr) := cne 6 5 (by decide)
  have m67 : (s1.heap.objs.size + 1 + 1 + 1 + 1 + 1 + 1 : Addr) ≠ (s1.heap.objs.size + 1 + 1 + 1 + 1 + 1 + 1 + 1 : Addr) := cne 6 7 (by decide)
  have m71 : (s1.heap.objs.size + 1 + 1 + 1 + 1 + 1 + 1 + 1 : Addr) ≠ (s1.heap.objs.size + 1 : Addr) := cne 7 1 (by decide)
  have m72 : (s1.heap.objs.size + 1 + 1 + 1 + 1 + 1 + 1 + 1 : Addr) ≠ (s1.heap.objs.size + 1 + 1 : Addr) := cne 7 2 (by decide)
  have m73 : (s1.heap.objs.size + 1 + 1 + 1 + 1 + 1 + 1 + 1 : Addr) ≠ (s1.heap.objs.size + 1 + 1 + 1 : Addr) := cne 7 3 (by decide)
  have m74 : (s1.heap.objs.size + 1 + 1 + 1 + 1 + 1 + 1 + 1 : Addr) ≠ (s1.heap.objs.size + 1 + 1 + 1 + 1 : Addr) := cne 7 4 (by decide)
  have m75 : (s1.heap.objs.size + 1 + 1 + 1 + 1 + 1 + 1 + 1 : Addr) ≠ (s1.heap.objs.size + 1 + 1 + 1 + 1 + 1 : Addr) := cne 7 5 (by decide)
  have m76 : (s1.heap.objs.size + 1 + 1 + 1 + 1 + 1 + 1 + 1 : Addr) ≠ (s1.heap.objs.size + 1 + 1 + 1 + 1 + 1 + 1 : Addr) := cne 7 6 (by decide)
  have hM : HaltMark := True.intro
  k_steps
  unfold Halt
  k_dflt (refine' (pieces_claim _ _ _ _ hI ?q2).go ?k1 ?k2 ?k3 ?k4 ?k5 ?kK ?kp ?kd ?ku ?_; (case q2 => omega); (case k1 => k_asm); (case k2 => k_asm); (case k3 => k_asm); (case k4 => k_asm); (case k5 => k_asm); (case kK => first | exact rfl | assumption); (case kp => exact Heap.IsList.at hL (Fr.keep (by k_asm) _)); (case kd => ktr_room); (case ku => ktr_units))
  rintro v new h' tk ⟨xP, us, kp, wd, rfl, rfl, hT, hA, hl4, hl5⟩ F1 N1
  have hP := pc_ok hA hl4 hl5
  have hSg := sg_ok hl5
  have hMo := mo_ok hA hl5
  rw [List.cons_append, List.nil_append] at N1
  try dsimp only
  have hlen := hT.length
  have hpl := hP.len
  obtain ⟨nP1, nP2, nP3, nP4, nP5, nP6, nP7⟩ : xP ≠ (s1.heap.objs.size + 1 : Addr) ∧ xP ≠ (s1.heap.objs.size + 1 + 1 : Addr) ∧ xP ≠ (s1.heap.objs.size + 1 + 1 + 1 : Addr) ∧ xP ≠ (s1.heap.objs.size + 1 + 1 + 1 + 1 : Addr) ∧ xP ≠ (s1.heap.objs.size + 1 + 1 + 1 + 1 + 1 : Addr) ∧ xP ≠ (s1.heap.objs.size + 1 + 1 + 1 + 1 + 1 + 1 : Addr) ∧ xP ≠ (s1.heap.objs.size + 1 + 1 + 1 + 1 + 1 + 1 + 1 : Addr) :=
    ⟨cell_ne N1 (by k_mem) (by k_mem) d1 (by intro _ h; cases h), cell_ne N1 (by k_mem) (by k_mem) d2 (by intro _ h; cases h), cell_ne N1 (by k_mem) (by k_mem) d3 (by intro _ h; cases h), cell_ne N1 (by k_mem) (by k_mem) d4 (by intro _ h; cases h), cell_ne N1 (by k_mem) (by k_mem) d5 (by intro _ h; cases h), cell_ne N1 (by k_mem) (by k_mem) d6 (by intro _ h; cases h), cell_ne N1 (by k_mem) (by k_mem) d7 (by intro _ h; cases h)⟩
  generalize hps : piecesP wd = ps at *
  k_steps
  unfold Halt
  k_dflt (refine' (outer_claim _ _ _ _ hT hP).go ?k1 ?k2 ?k3 ?k4 ?k5 ?kK ?kp ?kd ?ku ?_; (case k1 => k_asm); (case k2 => k_asm); (case k3 => k_asm); (case k4 => k_asm); (case k5 => k_asm); (case kK => first | exact rfl | assumption); (case kp => exact ⟨kp, News.get (by k_asm) (by k_mem)⟩); (case kd => ktr_room); (case ku => ktr_units))
  rintro v new h' tk ⟨xO, oO, kvs, rfl, rfl, hlo, hd1, hd2⟩ F2 N2
  rw [List.cons_append, List.nil_append] at N2
  try dsimp only
  obtain ⟨esO, epO, hdO⟩ := dict_data hd1
  obtain ⟨nO1, nO2, nO3, nO4, nO5, nO6, nO7, nOP⟩ : xO ≠ (s1.heap.objs.size + 1 : Addr) ∧ xO ≠ (s1.heap.objs.size + 1 + 1 : Addr) ∧ xO ≠ (s1.heap.objs.size + 1 + 1 + 1 : Addr) ∧ xO ≠ (s1.heap.objs.size + 1 + 1 + 1 + 1 : Addr) ∧ xO ≠ (s1.heap.objs.size + 1 + 1 + 1 + 1 + 1 : Addr) ∧ xO ≠ (s1.heap.objs.size + 1 + 1 + 1 + 1 + 1 + 1 : Addr) ∧ xO ≠ (s1.heap.objs.size + 1 + 1 + 1 + 1 + 1 + 1 + 1 : Addr) ∧ xO ≠ xP := by
    have hc : ∀ v, oO.data ≠ .cell v := by intro v h; rw [hdO] at h; cases h
    exact ⟨cell_ne N2 (by k_mem) (by k_mem) e_pieces hc, cell_ne N2 (by k_mem) (by k_mem) d2 hc, cell_ne N2 (by k_mem) (by k_mem) d3 hc, cell_ne N2 (by k_mem) (by k_mem) d4 hc, cell_ne N2 (by k_mem) (by k_mem) d5 hc, cell_ne N2 (by k_mem) (by k_mem) d6 hc, cell_ne N2 (by k_mem) (by k_mem) d7 hc, data_ne N2 (by k_mem) (by k_mem) (by rw [hdO]; intro h; cases h)⟩
  k_steps
  refine LCg.CompSrc.range (n := ps.length) (by rfl) (by k_asm) (by k_asm) (by assumption) (small_one (by omega) (by omega) (by omega) (by omega)) (by rw [rangeSize_nat]; omega) (by simp only [sizeLine]; omega) ?_
  intro g'
  refine comp_map (fun i v => ∃ z t, v = .int z t) ?_ ?_
  · intro i v I oI C oC D₂ m₂ ys h tk E' hi hv hC hx F N off ne
    obtain ⟨t9, rfl⟩ := hv
    k_steps
    exact LCg.CompEnd.intro (by assumption) (by assumption) _ (fun _ h => h) off trivial ⟨rfl, _, _, rfl⟩
  intro ys hy hR
  obtain ⟨gl, hgl, hgn⟩ := ints_of hR
  clear hR
  unfold LCg.FinE
  intro xG xh xk xF xN xo
  have nG := off1_all xo
  clear xo
  simp only [List.forall_mem_cons] at nG
  obtain ⟨gO, gP, g7, g6, g5, g4, g3, g2, g1, _⟩ := nG
  try dsimp only
  k_steps
  rename News _ _ _ _ => N₀
  rename Fr _ _ _ _ => F₀
  unfold Halt
  have hneR : ∀ p ∈ ([(xO, oO), (xP, listOf us.toArray kp), (s1.heap.objs.size + 1 + 1 + 1 + 1 + 1 + 1 + 1, o7), (s1.heap.objs.size + 1 + 1 + 1 + 1 + 1 + 1, o6), (s1.heap.objs.size + 1 + 1 + 1 + 1 + 1, o5), (s1.heap.objs.size + 1 + 1 + 1 + 1, o4), (s1.heap.objs.size + 1 + 1 + 1, q_given), (s1.heap.objs.size + 1 + 1, q_outer), (s1.heap.objs.size + 1, q_pieces)] : CbLed), p.1 ≠ xG := ne_cons gO (ne_cons gP (ne_cons g7 (ne_cons g6 (ne_cons g5 (ne_cons g4 (ne_cons g3 (ne_cons g2 (ne_cons g1 ne_nil))))))))
  have hnn : ns.length ≤ 63 := by omega
  refine loop_rangeR (n := min ns.length ps.length) (J := fun i m hd => ∃ gv gl kg, hd = [(xG, listOf gv.toArray kg)] ∧ IntsAre gv gl ∧ gl.length = ps.length ∧ m (Str.ofString "script") = some (.ref sl))
    (by rfl) (by assumption) (small_one (by omega) (by omega) (by split <;> omega) (by split <;> omega)) (by rw [rangeSize_nat]; split <;> omega) F₀ [(xG, LCg.lst ys)] [(xO, oO), (xP, listOf us.toArray kp), (s1.heap.objs.size + 1 + 1 + 1 + 1 + 1 + 1 + 1, o7), (s1.heap.objs.size + 1 + 1 + 1 + 1 + 1 + 1, o6), (s1.heap.objs.size + 1 + 1 + 1 + 1 + 1, o5), (s1.heap.objs.size + 1 + 1 + 1 + 1, o4), (s1.heap.objs.size + 1 + 1 + 1, q_given), (s1.heap.objs.size + 1 + 1, q_outer), (s1.heap.objs.size + 1, q_pieces)] N₀ ⟨ys, gl, _, rfl, hgl, by omega, rfl⟩ ?_ ?_
  · clear N₀ F₀ hgl hgn gl
    rintro i t m₁ hd h tk own hi hoff ⟨gv, gl, kg, rfl, hG, hgn, e1⟩ F₁ N₁
    have F₂ := fr_over [(Str.ofString "k", .int (0 + (i : Int)) t), (Str.ofString "script", .ref sl)] (allc (P := fun p => _ = some p.2) (if_pos rfl) (all1 (P := fun p => _ = some p.2) (upd_ne e1 (by decide)))) F₁
    clear F₁ e1
    dsimp only [kstB] at F₂
    have hne := all_app hneR (off_ne hoff (by simp : xG ∈ _))
    have hi2 : i < ns.length ∧ i < ps.length := by omega
    simp only [List.cons_append, List.nil_append] at N₁ hne
    k_steps
    exact InvEndG.intro (by assumption) xN ⟨_, rfl, _, _, _, rfl, ints_set hG _, by rw [List.length_set]; exact hgn, rfl⟩ hoff (sub_a (own := [(xO, oO), (xP, listOf us.toArray kp), (s1.heap.objs.size + 1 + 1 + 1 + 1 + 1 + 1 + 1, o7), (s1.heap.objs.size + 1 + 1 + 1 + 1 + 1 + 1, o6), (s1.heap.objs.size + 1 + 1 + 1 + 1 + 1, o5), (s1.heap.objs.size + 1 + 1 + 1 + 1, o4), (s1.heap.objs.size + 1 + 1 + 1, q_given), (s1.heap.objs.size + 1 + 1, q_outer), (s1.heap.objs.size + 1, q_pieces)]) (own' := own)) (sub_b (own := [(xO, oO), (xP, listOf us.toArray kp), (s1.heap.objs.size + 1 + 1 + 1 + 1 + 1 + 1 + 1, o7), (s1.heap.objs.size + 1 + 1 + 1 + 1 + 1 + 1, o6), (s1.heap.objs.size + 1 + 1 + 1 + 1 + 1, o5), (s1.heap.objs.size + 1 + 1 + 1 + 1, o4), (s1.heap.objs.size + 1 + 1 + 1, q_given), (s1.heap.objs.size + 1 + 1, q_outer), (s1.heap.objs.size + 1, q_pieces)]) (own' := own))
  clear N₀ F₀ hgl hgn gl
  rintro m₁ hd h tk ⟨gv, gl, kg, rfl, hG, hgn, e1⟩ F₁ N₁
  clear e1
  simp only [List.cons_append, List.nil_append] at N₁
  k_steps
  refine LCg.CompSrc.ledger (by rfl) (by k_asm) (by k_asm) (by k_mem) (by rw [List.size_toArray]; simp only [sizeLine]; omega) ?_
  intro g'
  refine comp_map (fun i v => ∃ q t, ps[i]? = some q ∧ v = .str (S (hostL q)) t) ?_ ?_
  · intro i v I oI C oC D₂ m₂ ys h tk E' hi hv hC hx F N off ne
    obtain ⟨q, tq, hq, rfl⟩ := hT.at (i := i) (by simpa using hv)
    obtain ⟨q1, q2, q3⟩ := hP.abc q (List.mem_of_getElem? hq)
    have f1 : (S q).cps.all (· < 128) = true := abc_128 q1
    have f2 : q.length ≤ 1000 := by omega
    have f5 := join_dlen q2 q3
    k_steps
    refine LCg.CompEnd.intro (by assumption) (by assumption) _ (fun _ h => h) off (.inr ⟨_, by k_mem, rfl, _, rfl⟩) ⟨rfl, q, _, hq, congrArg (fun z => Value.str z _) ?_⟩
    rw [S_xdot, S_dot]
    exact join_host q2
  intro hv hy hR
  have hH : TxtAre hv (ps.map hostL) := txt_of hostL (by rw [hy, List.size_toArray]; exact hlen) hR
  clear hR
  unfold LCg.FinE
  intro xH xh xk xF xN xoH
  have nH := off1_all xoH
  clear xoH
  simp only [List.forall_mem_cons] at nH
  obtain ⟨h_G, hO_, hP_, h7_, h6_, h5_, h4_, h3_, h2_, h1_, _⟩ := nH
  try dsimp only
  k_steps
  rename News _ _ _ _ => N₀
  rename Fr _ _ _ _ => F₀
  unfold Halt
  refine for_storeR (J := fun i m hd => ∃ oP oD sv sl' ks v1 v2, hd = [(s1.heap.objs.size + 1 + 1 + 1 + 1, oP), (s1.heap.objs.size + 1 + 1 + 1 + 1 + 1 + 1 + 1, oD), (xT, listOf sv.toArray ks)] ∧ oP.data = .cell v1 ∧ oD.data = .cell v2 ∧ IntsAre sv sl' ∧ sl' = (List.range i).map (fun i => (selN (fun k => inf (ps.getD i []) (ps.getD k [])) (fun k => gl.getD k 0) ps.length).sum))
    (by rfl) F₀ [(s1.heap.objs.size + 1 + 1 + 1 + 1, o4), (s1.heap.objs.size + 1 + 1 + 1 + 1 + 1 + 1 + 1, o7), (xT, listOf #[] 0)] [(xH, LCg.lst hv), (xG, listOf gv.toArray kg), (xO, oO), (xP, listOf us.toArray kp), (s1.heap.objs.size + 1 + 1 + 1 + 1 + 1 + 1, q_sums), (s1.heap.objs.size + 1 + 1 + 1 + 1 + 1, q_hosts), (s1.heap.objs.size + 1 + 1 + 1, q_given), (s1.heap.objs.size + 1 + 1, q_outer), (s1.heap.objs.size + 1, q_pieces)] (news_pick N₀ (by lcg_sub)) (by k_mem) ⟨o4, o7, [], [], 0, _, _, rfl, d4, d7, .nil, rfl⟩ ?_ ?_ (by passes_own)
  · clear N₀ F₀
    rintro i v m₁ hd h tk own hv' hoff ⟨oP, oD, sv, sl', ks, v1, v2, rfl, dP, dD, hS, hS2⟩ F₁ N₁
    obtain ⟨q, tq, hq, rfl⟩ := hT.at hv'
    obtain ⟨q1, q2, q3⟩ := hP.abc q (List.mem_of_getElem? hq)
    have hneP : ∀ p ∈ (((s1.heap.objs.size + 1 + 1 + 1 + 1 + 1 + 1 + 1, oD) :: (xT, listOf sv.toArray ks) :: [(xH, LCg.lst hv), (xG, listOf gv.toArray kg), (xO, oO), (xP, listOf us.toArray kp), (s1.heap.objs.size + 1 + 1 + 1 + 1 + 1 + 1, q_sums), (s1.heap.objs.size + 1 + 1 + 1 + 1 + 1, q_hosts), (s1.heap.objs.size + 1 + 1 + 1, q_given), (s1.heap.objs.size + 1 + 1, q_outer), (s1.heap.objs.size + 1, q_pieces)]) ++ own : CbLed), p.1 ≠ s1.heap.objs.size + 1 + 1 + 1 + 1 := all_app (ne_cons m74 (ne_cons (Nat.ne_of_gt t4) (ne_cons (Ne.symm h4_) (ne_cons (Ne.symm g4) (ne_cons nO4 (ne_cons nP4 (ne_cons m64 (ne_cons m54 (ne_cons m34 (ne_cons m24 (ne_cons m14 ne_nil))))))))))) (off_ne hoff (List.mem_map.mpr ⟨(s1.heap.objs.size + 1 + 1 + 1 + 1, oP), .head _, rfl⟩))
    have hneD : ∀ p ∈ (((xT, listOf sv.toArray ks) :: [(xH, LCg.lst hv), (xG, listOf gv.toArray kg), (xO, oO), (xP, listOf us.toArray kp), (s1.heap.objs.size + 1 + 1 + 1 + 1 + 1 + 1, q_sums), (s1.heap.objs.size + 1 + 1 + 1 + 1 + 1, q_hosts), (s1.heap.objs.size + 1 + 1 + 1, q_given), (s1.heap.objs.size + 1 + 1, q_outer), (s1.heap.objs.size + 1, q_pieces)]) ++ own : CbLed), p.1 ≠ s1.heap.objs.size + 1 + 1 + 1 + 1 + 1 + 1 + 1 := all_app (ne_cons (Nat.ne_of_gt t7) (ne_cons (Ne.symm h7_) (ne_cons (Ne.symm g7) (ne_cons nO7 (ne_cons nP7 (ne_cons m67 (ne_cons m57 (ne_cons m37 (ne_cons m27 (ne_cons m17 ne_nil)))))))))) (off_ne hoff (List.mem_map.mpr ⟨(s1.heap.objs.size + 1 + 1 + 1 + 1 + 1 + 1 + 1, oD), .tail _ (.head _), rfl⟩))
    have hneT : ∀ p ∈ ([(xH, LCg.lst hv), (xG, listOf gv.toArray kg), (xO, oO), (xP, listOf us.toArray kp), (s1.heap.objs.size + 1 + 1 + 1 + 1 + 1 + 1, q_sums), (s1.heap.objs.size + 1 + 1 + 1 + 1 + 1, q_hosts), (s1.heap.objs.size + 1 + 1 + 1, q_given), (s1.heap.objs.size + 1 + 1, q_outer), (s1.heap.objs.size + 1, q_pieces)] ++ own : CbLed), p.1 ≠ xT := all_app (ne_cons (Nat.ne_of_lt tH) (ne_cons (Nat.ne_of_lt tG) (ne_cons (Nat.ne_of_lt tO) (ne_cons (Nat.ne_of_lt tP) (ne_cons (Nat.ne_of_lt t6) (ne_cons (Nat.ne_of_lt t5) (ne_cons (Nat.ne_of_lt t3) (ne_cons (Nat.ne_of_lt t2) (ne_cons (Nat.ne_of_lt t1) ne_nil))))))))) (off_ne hoff (List.mem_map.mpr ⟨(xT, listOf sv.toArray ks), .tail _ (.tail _ (.head _)), rfl⟩))
    simp only [List.cons_append, List.nil_append] at N₁ hneP hneD hneT
    try dsimp only
    have hup := upper_abc q1
    have htl : Builtin.Str.tooLong (Txt.upper (S q)).length = false := by rw [hup, S_length]; unfold upL; rw [List.length_map]; exact decide_eq_false (by simp only [sizeLine]; omega)
    have f1 := up_128 q1
    have f2 : (upL q).length ≤ 1000 := by unfold upL; rw [List.length_map]; omega
    have u2 : upL q ≠ [] := by unfold upL; cases q with | nil => exact absurd rfl q2 | cons a q => simp
    have f5 := join_dlen u2 (by unfold upL; rw [List.length_map]; exact q3)
    have hdm : Str.ofString "." ++ Txt.join (Str.ofString ".") ((upL q).map fun c => S [c]) = S (dots (upL q)) := by rw [S_dot]; exact join_dot u2
    k_steps
    unfold Halt
    refine LCt.CompSrcT.range (n := ps.length) (by rfl) (by k_asm) (by k_asm) (by assumption) (small_one (by omega) (by omega) (by omega) (by omega)) (by rw [rangeSize_nat]; omega) (by simp only [sizeLine]; omega) ?_
    intro g'
    refine comp_test (selN (fun k => inf (ps.getD i []) (ps.getD k [])) (fun k => gl.getD k 0)) rfl ?_ ?_
    · intro j v I oI C oC D₂ m₂ ys h tk E' hj hv hC hx F N off ne
      clear ne
      obtain ⟨t9, rfl⟩ := hv
      obtain ⟨p, hp⟩ : ∃ p, ps[j]? = some p := ⟨_, List.getElem?_eq_getElem hj⟩
      obtain ⟨p1, p2, p3⟩ := hP.abc p (List.mem_of_getElem? hp)
      have hji : (0 : Int) + (j : Int) = ((j : Nat) : Int) := by omega
      have hpH : (ps.map hostL)[j]? = some (hostL p) := by rw [List.getElem?_map, hp]; rfl
      have hpp : ps.getD j [] = p := by rw [List.getD_eq_getElem?_getD, hp]; rfl
      have hqq : ps.getD i [] = q := by rw [List.getD_eq_getElem?_getD, hq]; rfl
      have hdk := dm_ok p1 q1 p2 q2 (by omega) (by omega)
      have hjn : (0 : Int) + (j : Int) < gl.length := by omega
      have hjt : ((0 : Int) + (j : Int)).toNat = j := by omega
      cases hb : inf q p with
      | true =>
        rw [hb] at hdk
        k_steps
        unfold Halt
        k_dflt (refine' (dm_claim _ _ _ _ _ _ _ hdk).go ?k1 ?k2 ?k3 ?k4 ?k5 ?kK ?kd ?ku ?_; (case k1 => k_asm); (case k2 => k_asm); (case k3 => k_asm); (case k4 => k_asm); (case k5 => k_asm); (case kK => first | exact rfl | assumption); (case kd => ktr_room); (case ku => ktr_units))
        rintro v9 new9 h9 tk9 ⟨rfl, rfl⟩ F9 N9
        rw [List.nil_append] at N9
        try dsimp only
        k_steps
        exact LCg.CompEnd.intro (by assumption) (by assumption) _ (fun _ h => h) off trivial ⟨rfl, _, _, rfl, by rw [hjt]; show (if inf (ps.getD i []) (ps.getD j []) then _ else _) = _; rw [hqq, hpp, hb, if_pos rfl]⟩
      | false =>
        rw [hb] at hdk
        k_steps
        unfold Halt
        k_dflt (refine' (dm_claim _ _ _ _ _ _ _ hdk).go ?k1 ?k2 ?k3 ?k4 ?k5 ?kK ?kd ?ku ?_; (case k1 => k_asm); (case k2 => k_asm); (case k3 => k_asm); (case k4 => k_asm); (case k5 => k_asm); (case kK => first | exact rfl | assumption); (case kd => ktr_room); (case ku => ktr_units))
        rintro v9 new9 h9 tk9 ⟨rfl, rfl⟩ F9 N9
        rw [List.nil_append] at N9
        try dsimp only
        k_steps
        exact LCg.CompEnd.intro (by assumption) (by assumption) _ (fun _ h => h) off trivial ⟨rfl, by show (if inf (ps.getD i []) (ps.getD j []) then _ else _) = _; rw [hqq, hpp, hb, if_neg (by decide)]⟩
    · intro ys9 hy9
      unfold LCg.FinE
      intro xL xh xk xF xN xoL
      clear xoL
      try dsimp only
      have hss : sv.toArray.size ≤ sizeLine := by rw [List.size_toArray, hS.length, hS2, List.length_map, List.length_range]; have := (List.getElem?_eq_some_iff.mp hv').1; simp only [sizeLine]; omega
      k_steps
      rw [List.push_toArray] at xN
      exact InvEndG.intro (nx := ([(s1.heap.objs.size + 1 + 1 + 1 + 1, q_piece), (s1.heap.objs.size + 1 + 1 + 1 + 1 + 1 + 1 + 1, q_domain), (xT, listOf (sv ++ [Value.int (selN (fun k => inf (ps.getD i []) (ps.getD k [])) (fun k => gl.getD k 0) ps.length).sum tS]).toArray (ks + 1))] ++ [(xH, LCg.lst hv), (xG, listOf gv.toArray kg), (xO, oO), (xP, listOf us.toArray kp), (s1.heap.objs.size + 1 + 1 + 1 + 1 + 1 + 1, q_sums), (s1.heap.objs.size + 1 + 1 + 1 + 1 + 1, q_hosts), (s1.heap.objs.size + 1 + 1 + 1, q_given), (s1.heap.objs.size + 1 + 1, q_outer), (s1.heap.objs.size + 1, q_pieces)])) (by assumption) xN ⟨List.mem_append.mpr (.inr (by k_mem)), _, rfl, q_piece, q_domain, sv ++ [Value.int (selN (fun k => inf (ps.getD i []) (ps.getD k [])) (fun k => gl.getD k 0) ps.length).sum tS], _, ks + 1, _, _, rfl, e_piece, e_domain, hS.append (.cons _ _ .nil), by rw [hS2, List.range_succ, List.map_append]; rfl⟩ hoff (fun p hp => (List.mem_append.mpr (.inl hp) : p ∈ (([(s1.heap.objs.size + 1 + 1 + 1 + 1, q_piece), (s1.heap.objs.size + 1 + 1 + 1 + 1 + 1 + 1 + 1, q_domain), (xT, listOf (sv ++ [Value.int (selN (fun k => inf (ps.getD i []) (ps.getD k [])) (fun k => gl.getD k 0) ps.length).sum tS]).toArray (ks + 1))] ++ [(xH, LCg.lst hv), (xG, listOf gv.toArray kg), (xO, oO), (xP, listOf us.toArray kp), (s1.heap.objs.size + 1 + 1 + 1 + 1 + 1 + 1, q_sums), (s1.heap.objs.size + 1 + 1 + 1 + 1 + 1, q_hosts), (s1.heap.objs.size + 1 + 1 + 1, q_given), (s1.heap.objs.size + 1 + 1, q_outer), (s1.heap.objs.size + 1, q_pieces)]) ++ own))) (fun p hp => (List.mem_append.mpr (.inr hp) : p ∈ (([(s1.heap.objs.size + 1 + 1 + 1 + 1, q_piece), (s1.heap.objs.size + 1 + 1 + 1 + 1 + 1 + 1 + 1, q_domain), (xT, listOf (sv ++ [Value.int (selN (fun k => inf (ps.getD i []) (ps.getD k [])) (fun k => gl.getD k 0) ps.length).sum tS]).toArray (ks + 1))] ++ [(xH, LCg.lst hv), (xG, listOf gv.toArray kg), (xO, oO), (xP, listOf us.toArray kp), (s1.heap.objs.size + 1 + 1 + 1 + 1 + 1 + 1, q_sums), (s1.heap.objs.size + 1 + 1 + 1 + 1 + 1, q_hosts), (s1.heap.objs.size + 1 + 1 + 1, q_given), (s1.heap.objs.size + 1 + 1, q_outer), (s1.heap.objs.size + 1, q_pieces)]) ++ own)))
  clear N₀ F₀
  rintro m₁ hd h tk ⟨oP, oD, sv, sl', ks, v1, v2, rfl, dP, dD, hS, hS2⟩ F₁ N₁
  simp only [List.cons_append, List.nil_append] at N₁
  have hM2 : HaltMark2 := True.intro
  try dsimp only
  k_steps
  rename News _ _ _ _ => N₀
  rename Fr _ _ _ _ => F₀
  unfold Halt
  refine for_storeR (J := fun i m hd => ∃ oP bv bl kb v1, hd = [(s1.heap.objs.size + 1 + 1 + 1 + 1, oP), (xB, listOf bv.toArray kb)] ∧ oP.data = .cell v1 ∧ IntsAre bv bl ∧ bl = (List.range i).map (fun i => (selN (fun k => inf (ps.getD i []) (ps.getD k [])) (fun k => signP ((ps.getD k []).length + 1) (ps.getD i []) (ps.getD k []) * sl'.getD k 0) ps.length).sum) ∧ m (Str.ofString "back") = some (.ref xB))
    (by rfl) F₀ [(s1.heap.objs.size + 1 + 1 + 1 + 1, oP), (xB, listOf #[] 0)] [(xT, listOf sv.toArray ks), (xG, listOf gv.toArray kg), (xO, oO), (xP, listOf us.toArray kp), (s1.heap.objs.size + 1 + 1 + 1 + 1 + 1 + 1, q_sums), (s1.heap.objs.size + 1 + 1 + 1, q_given), (s1.heap.objs.size + 1 + 1, q_outer), (s1.heap.objs.size + 1, q_pieces)] (news_pick N₀ (by lcg_sub)) (by k_mem) ⟨oP, [], [], 0, _, rfl, dP, .nil, rfl, rfl⟩ ?_ ?_ (by passes_own)
  · clear N₀ F₀
    rintro i v m₁ hd h tk own hv' hoff ⟨oP, bv, bl, kb, v1, rfl, dP, hB, hB2, e1⟩ F₁ N₁
    obtain ⟨q, tq, hq, rfl⟩ := hT.at hv'
    obtain ⟨q1, q2, q3⟩ := hP.abc q (List.mem_of_getElem? hq)
    have hneP : ∀ p ∈ (((xB, listOf bv.toArray kb) :: [(xT, listOf sv.toArray ks), (xG, listOf gv.toArray kg), (xO, oO), (xP, listOf us.toArray kp), (s1.heap.objs.size + 1 + 1 + 1 + 1 + 1 + 1, q_sums), (s1.heap.objs.size + 1 + 1 + 1, q_given), (s1.heap.objs.size + 1 + 1, q_outer), (s1.heap.objs.size + 1, q_pieces)]) ++ own : CbLed), p.1 ≠ s1.heap.objs.size + 1 + 1 + 1 + 1 := all_app (ne_cons (Nat.ne_of_gt b4) (ne_cons (Nat.ne_of_gt t4) (ne_cons (Ne.symm g4) (ne_cons nO4 (ne_cons nP4 (ne_cons m64 (ne_cons m34 (ne_cons m24 (ne_cons m14 ne_nil))))))))) (off_ne hoff (List.mem_map.mpr ⟨(s1.heap.objs.size + 1 + 1 + 1 + 1, oP), .head _, rfl⟩))
    have hneB : ∀ p ∈ ([(xT, listOf sv.toArray ks), (xG, listOf gv.toArray kg), (xO, oO), (xP, listOf us.toArray kp), (s1.heap.objs.size + 1 + 1 + 1 + 1 + 1 + 1, q_sums), (s1.heap.objs.size + 1 + 1 + 1, q_given), (s1.heap.objs.size + 1 + 1, q_outer), (s1.heap.objs.size + 1, q_pieces)] ++ own : CbLed), p.1 ≠ xB := all_app (ne_cons (Nat.ne_of_lt bT) (ne_cons (Nat.ne_of_lt bG) (ne_cons (Nat.ne_of_lt bO) (ne_cons (Nat.ne_of_lt bP) (ne_cons (Nat.ne_of_lt b6) (ne_cons (Nat.ne_of_lt b3) (ne_cons (Nat.ne_of_lt b2) (ne_cons (Nat.ne_of_lt b1) ne_nil)))))))) (off_ne hoff (List.mem_map.mpr ⟨(xB, listOf bv.toArray kb), .tail _ (.head _), rfl⟩))
    simp only [List.cons_append, List.nil_append] at N₁ hneP hneB
    have F₂ := fr_over [(Str.ofString "back", .ref xB)] (all1 (P := fun p => _ = some p.2) e1) F₁
    clear F₁ e1
    dsimp only [kstB] at F₂
    try dsimp only
    have hbs : bv.toArray.size ≤ sizeLine := by rw [List.size_toArray, hB.length, hB2, List.length_map, List.length_range]; have := (List.getElem?_eq_some_iff.mp hv').1; simp only [sizeLine]; omega
    k_steps
    unfold Halt
    refine LCt.CompSrcT.range (n := ps.length) (by rfl) (by k_asm) (by k_asm) (by assumption) (small_one (by omega) (by omega) (by omega) (by omega)) (by rw [rangeSize_nat]; omega) (by simp only [sizeLine]; omega) ?_
    intro g'
    refine comp_test (selN (fun k => inf (ps.getD i []) (ps.getD k [])) (fun k => signP ((ps.getD k []).length + 1) (ps.getD i []) (ps.getD k []) * sl'.getD k 0)) rfl ?_ ?_
    · intro j v I oI C oC D₂ m₂ ys h tk E' hj hv hC hx F N off ne
      clear ne
      obtain ⟨t9, rfl⟩ := hv
      obtain ⟨p, hp⟩ : ∃ p, ps[j]? = some p := ⟨_, List.getElem?_eq_getElem hj⟩
      obtain ⟨p1, p2, p3⟩ := hP.abc p (List.mem_of_getElem? hp)
      have hji : (0 : Int) + (j : Int) = ((j : Nat) : Int) := by omega
      have hpp : ps.getD j [] = p := by rw [List.getD_eq_getElem?_getD, hp]; rfl
      have hqq : ps.getD i [] = q := by rw [List.getD_eq_getElem?_getD, hq]; rfl
      have hsn : sl'.length = ps.length := by rw [hS2, List.length_map, List.length_range]; exact hlen
      have hjn : (0 : Int) + (j : Int) < sl'.length := by omega
      have hjt : ((0 : Int) + (j : Int)).toNat = j := by omega
      have hin := in_S p q
      have z1 : (S p).length ≤ 1000 := by rw [S_length]; omega
      have z2 : (S q).length ≤ 1000 := by rw [S_length]; omega
      cases hb : inf q p with
      | true =>
        rw [hb] at hin
        k_steps
        unfold Halt
        k_dflt (refine' (sign_claim W (· ∈ ps) q p xO _ _ hSg (List.mem_of_getElem? hq) (List.mem_of_getElem? hp) hb).go ?k1 ?k2 ?k3 ?k4 ?k5 ?kK ?kp ?kd ?ku ?_; (case k1 => k_asm); (case k2 => k_asm); (case k3 => k_asm); (case k4 => k_asm); (case k5 => k_asm); (case kK => first | exact rfl | assumption); (case kp => exact out_made hlo (News.get (by k_asm) (by k_mem)) hd1 hd2); (case kd => ktr_room); (case ku => ktr_units))
        rintro v9 new9 h9 tk9 ⟨rfl, tt9, rfl⟩ F9 N9
        rw [List.nil_append] at N9
        try dsimp only
        have hmul : IntMulOk (signP (p.length + 1) q p) (sl'.getD ((0 : Int) + (j : Int)).toNat 0) := by
          have := signP_bd q3 (p.length + 1) p
          exact .of_left (intBits_le_64 (by omega) (by omega))
        k_steps
        exact LCg.CompEnd.intro (by assumption) (by assumption) _ (fun _ h => h) off trivial ⟨rfl, _, _, rfl, by
          rw [hjt]
          show (if inf (ps.getD i []) (ps.getD j []) then _ else _) = _
          rw [if_pos (by rw [hqq, hpp]; exact hb)]
          show _ ++ [signP ((ps.getD j []).length + 1) (ps.getD i []) (ps.getD j []) * sl'.getD j 0] = _
          rw [hqq, hpp]⟩
      | false =>
        rw [hb] at hin
        k_steps
        exact LCg.CompEnd.intro (by assumption) (by assumption) _ (fun _ h => h) off trivial ⟨rfl, by show (if inf (ps.getD i []) (ps.getD j []) then _ else _) = _; rw [hqq, hpp, hb, if_neg (by decide)]⟩
    · intro ys9 hy9
      unfold LCg.FinA
      intro xL xh xk xF xN xoL
      clear xoL
      try dsimp only
      k_steps
      rw [List.push_toArray] at xN
      exact InvEndG.intro (nx := ([(s1.heap.objs.size + 1 + 1 + 1 + 1, q_piece), (xB, listOf (bv ++ [Value.int (selN (fun k => inf (ps.getD i []) (ps.getD k [])) (fun k => signP ((ps.getD k []).length + 1) (ps.getD i []) (ps.getD k []) * sl'.getD k 0) ps.length).sum tS]).toArray (kb + 1))] ++ [(xT, listOf sv.toArray ks), (xG, listOf gv.toArray kg), (xO, oO), (xP, listOf us.toArray kp), (s1.heap.objs.size + 1 + 1 + 1 + 1 + 1 + 1, q_sums), (s1.heap.objs.size + 1 + 1 + 1, q_given), (s1.heap.objs.size + 1 + 1, q_outer), (s1.heap.objs.size + 1, q_pieces)])) (by assumption) xN ⟨List.mem_append.mpr (.inr (by k_mem)), _, rfl, q_piece, bv ++ [Value.int (selN (fun k => inf (ps.getD i []) (ps.getD k [])) (fun k => signP ((ps.getD k []).length + 1) (ps.getD i []) (ps.getD k []) * sl'.getD k 0) ps.length).sum tS], _, kb + 1, _, rfl, e_piece, hB.append (.cons _ _ .nil), by rw [hB2, List.range_succ, List.map_append]; rfl, rfl⟩ hoff (fun p hp => (List.mem_append.mpr (.inl hp) : p ∈ (([(s1.heap.objs.size + 1 + 1 + 1 + 1, q_piece), (xB, listOf (bv ++ [Value.int (selN (fun k => inf (ps.getD i []) (ps.getD k [])) (fun k => signP ((ps.getD k []).length + 1) (ps.getD i []) (ps.getD k []) * sl'.getD k 0) ps.length).sum tS]).toArray (kb + 1))] ++ [(xT, listOf sv.toArray ks), (xG, listOf gv.toArray kg), (xO, oO), (xP, listOf us.toArray kp), (s1.heap.objs.size + 1 + 1 + 1 + 1 + 1 + 1, q_sums), (s1.heap.objs.size + 1 + 1 + 1, q_given), (s1.heap.objs.size + 1 + 1, q_outer), (s1.heap.objs.size + 1, q_pieces)]) ++ own))) (fun p hp => (List.mem_append.mpr (.inr hp) : p ∈ (([(s1.heap.objs.size + 1 + 1 + 1 + 1, q_piece), (xB, listOf (bv ++ [Value.int (selN (fun k => inf (ps.getD i []) (ps.getD k [])) (fun k => signP ((ps.getD k []).length + 1) (ps.getD i []) (ps.getD k []) * sl'.getD k 0) ps.length).sum tS]).toArray (kb + 1))] ++ [(xT, listOf sv.toArray ks), (xG, listOf gv.toArray kg), (xO, oO), (xP, listOf us.toArray kp), (s1.heap.objs.size + 1 + 1 + 1 + 1 + 1 + 1, q_sums), (s1.heap.objs.size + 1 + 1 + 1, q_given), (s1.heap.objs.size + 1 + 1, q_outer), (s1.heap.objs.size + 1, q_pieces)]) ++ own)))
  · clear N₀ F₀
    rintro m₁ hd h tk ⟨oP, bv, bl, kb, v1, rfl, dP, hB, hB2, e1⟩ F₁ N₁
    simp only [List.cons_append, List.nil_append] at N₁
    have F₂ := fr_over [(Str.ofString "back", .ref xB)] (all1 (P := fun p => _ = some p.2) e1) F₁
    clear F₁ e1
    dsimp only [kstB] at F₂
    try dsimp only
    k_steps
    have hbg : bl = gl := by
      rw [hB2, hlen]
      rw [hlen] at hS2
      rw [hS2]
      exact plain hMo hgn
    rw [decide_eq_true hbg]
    k_steps)
end
end Mine
end
set_option Elab.async false
theorem PySem.Challenge.cw_xe0015_01_holds : PySem.Challenge.rw_xe0015_01.Holds := by
  exact Mine.law_holds
