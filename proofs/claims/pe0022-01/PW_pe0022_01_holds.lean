import PyProof.Rows.All
import Wide.All
import OpenK.AllK
import Wide.FinOn
import PySem.Challenge.RW_pe0022_01
set_option Elab.async false

section
open PySem PySem.Sre
set_option maxRecDepth 100000
namespace Mine
namespace RX

def it : Nat → M → M
  | 0, m => m
  | n + 1, m => it n m.step

theorem it_add : ∀ (a b : Nat) (m : M), it (a + b) m = it b (it a m)
  | 0, b, m => by simp [it]
  | a + 1, b, m => by rw [show a + 1 + b = (a + b) + 1 from by omega]; exact it_add a b m.step

theorem it_done {m : M} (h : m.outcome.isSome = true) : ∀ n, it n m = m
  | 0 => rfl
  | n + 1 => by
    have e : m.step = m := by unfold M.step; rw [if_pos h]
    show it n m.step = m
    rw [e]; exact it_done h n

theorem runFor_it : ∀ (n : Nat) (m : M), m.runFor n = it n m
  | 0, _ => rfl
  | n + 1, m => by
    unfold M.runFor
    split
    · rename_i h; rw [it_done h]
    · exact runFor_it n m.step

def code1 : Array Nat := #[14, 4, 0, 1, 1, 6, 1, 16, 46, 1]
def code2 : Array Nat := #[14, 9, 4, 1, 2, 16, 10, 16, 13, 0, 7, 7, 16, 13, 16, 10, 15, 18, 5, 16, 10, 15, 13, 11, 16, 13, 5, 5, 0, 16, 10, 1, 15, 2, 0, 1]

def st2 (text : Array Nat) (lim s : Nat) (sn : Seen) : M :=
  { code := code2, text, lim, start := s, lastStart := lim, wholeText := false, mustAdvance := false, pc := 10, pos := s, handed := s, outermost := true, marks := #[], lastmark := -1, lastindex := -1, loops := #[], inner := none,
    frames := [{ wait := .nextStart, pc := 10, pos := s, outermost := true }], weight := 1, answer := none, seen := sn, outcome := none }



def Found (s e : Nat) (m : M) : Prop := match m.outcome with
  | some .matched => m.start = s ∧ m.handed = e
  | _ => False

theorem s2_lf {text : Array Nat} {lim s : Nat} {sn : Seen} (h : s < lim) (h0 : text.getD s 0 = 10) : Found s (s + 1) (it 9 (st2 text lim s sn)) := by
  have h' : ¬ (lim ≤ s) := by omega
  simp [Found, it, st2, M.step, M.exec, M.word, code2, ops, M.alternative, M.attempt, M.frame, M.keep, M.resume, M.putBack, M.say, accepts, itemWidth, h0, h']
theorem s2_crlf {text : Array Nat} {lim s : Nat} {sn : Seen} (h : s + 1 < lim) (h0 : text.getD s 0 = 13) (h1 : text.getD (s + 1) 0 = 10) : Found s (s + 2) (it 8 (st2 text lim s sn)) := by
  have h' : ¬ (lim ≤ s) := by omega
  have h'' : ¬ (lim ≤ s + 1) := by omega
  simp [Found, it, st2, M.step, M.exec, M.word, code2, ops, M.alternative, M.attempt, M.frame, M.keep, M.resume, M.putBack, M.say, accepts, itemWidth, h0, h1, h', h'']
set_option maxHeartbeats 1000000 in
theorem s2_cr {text : Array Nat} {lim s : Nat} {sn : Seen} (h : s < lim) (h0 : text.getD s 0 = 13) (h1 : s + 1 < lim → text.getD (s + 1) 0 ≠ 10) : Found s (s + 1) (it 15 (st2 text lim s sn)) := by
  have h' : ¬ (lim ≤ s) := by omega
  by_cases h'' : lim ≤ s + 1
  · simp [Found, it, st2, M.step, M.exec, M.word, code2, ops, M.alternative, M.attempt, M.frame, M.keep, M.resume, M.putBack, M.say, accepts, itemWidth, h0, h', h'']
  · have h2 := h1 (by omega)
    have h3 : (text[s + 1]?.getD 0 == 10) = false := by simpa using h2
    simp [Found, it, st2, M.step, M.exec, M.word, code2, ops, M.alternative, M.attempt, M.frame, M.keep, M.resume, M.putBack, M.say, accepts, itemWidth, h0, h3, h', h'']

theorem inset2 (c : Nat) (sn : Seen) : ∃ sn', inSet code2 c code2.size 5 true sn = .ok (c == 10 || c == 13, sn') := by
  by_cases h : c = 10
  · exact ⟨_, by simp [code2, inSet, ops, h]; rfl⟩
  · by_cases h2 : c = 13
    · exact ⟨_, by simp [code2, inSet, ops, h2]; rfl⟩
    · exact ⟨_, by simp [code2, inSet, ops, h, h2]; rfl⟩

/-- the scan for the first sign of the first set -/
theorem admitted_at {m : M} (hc : m.code = code2) : ∀ (fuel s e : Nat) (sn : Seen), s ≤ e → e < m.lim → e < s + fuel → (∀ j, s ≤ j → j < e → m.text.getD j 0 ≠ 10 ∧ m.text.getD j 0 ≠ 13) → (m.text.getD e 0 = 10 ∨ m.text.getD e 0 = 13) →
    ∃ sn', M.admitted m fuel s sn = .ok (some e, sn')
  | 0, s, e, sn, h1, h2, h3, _, _ => absurd h3 (by omega)
  | fuel + 1, s, e, sn, h1, h2, h3, h4, h5 => by
    obtain ⟨sn', hs⟩ := inset2 (m.text.getD s 0) sn
    unfold M.admitted
    rw [if_neg (by omega), hc, hs]
    by_cases he : s = e
    · subst he
      rcases h5 with h5 | h5 <;> simp [h5]
    · have := h4 s (Nat.le_refl _) (by omega)
      simp only [beq_eq_false_iff_ne.mpr this.1, beq_eq_false_iff_ne.mpr this.2, Bool.or_false]
      exact admitted_at hc fuel (s + 1) e sn' (by omega) h2 (by omega) (fun j a b => h4 j (by omega) b) h5
theorem admitted_none {m : M} (hc : m.code = code2) : ∀ (fuel s : Nat) (sn : Seen), (∀ j, s ≤ j → j < m.lim → m.text.getD j 0 ≠ 10 ∧ m.text.getD j 0 ≠ 13) →
    ∃ sn', M.admitted m fuel s sn = .ok (none, sn')
  | 0, s, sn, _ => ⟨sn, rfl⟩
  | fuel + 1, s, sn, h4 => by
    unfold M.admitted
    by_cases hl : s ≥ m.lim
    · rw [if_pos hl]; exact ⟨sn, rfl⟩
    · obtain ⟨sn', hs⟩ := inset2 (m.text.getD s 0) sn
      rw [if_neg hl, hc, hs]
      have := h4 s (Nat.le_refl _) (by omega)
      simp only [beq_eq_false_iff_ne.mpr this.1, beq_eq_false_iff_ne.mpr this.2, Bool.or_false]
      exact admitted_none hc fuel (s + 1) sn' (fun j a b => h4 j (by omega) b)


theorem forSearch2 (text : Array Nat) (pos lim : Nat) (must : Bool) : forSearch code2 text 0 pos lim must =
    (let m : M := { code := code2, text, lim, start := pos, pc := 10, pos, handed := pos, marks := #[], mustAdvance := must, seen := ({} : Seen).add 14 }
     if pos > lim || lim - pos < 1 then m.say false else { m with lastStart := lim }.attemptFrom pos true) := rfl

theorem search2_none {text : Array Nat} {pos lim : Nat} {must : Bool} (h : ∀ j, pos ≤ j → j < lim → text.getD j 0 ≠ 10 ∧ text.getD j 0 ≠ 13) :
    (it 1 (forSearch code2 text 0 pos lim must)).outcome = some .failed := by
  rw [forSearch2]
  dsimp only
  split
  · rfl
  · unfold M.attemptFrom
    have hf : ({ code := code2, text, lim, start := pos, pc := 10, pos, handed := pos, marks := #[], mustAdvance := must, seen := ({} : Seen).add 14, lastStart := lim } : M).hasFirstSet = true := rfl
    rw [hf]
    obtain ⟨sn', e⟩ := admitted_none (m := { code := code2, text, lim, start := pos, pc := 10, pos, handed := pos, marks := #[], mustAdvance := must, seen := ({} : Seen).add 14, lastStart := lim }) rfl (lim + 1 - pos) pos (({} : Seen).add 14) h
    simp only [Bool.not_true, Bool.false_eq_true, if_false]
    rw [e]
    rfl
theorem search2_some {text : Array Nat} {pos lim e : Nat} {must : Bool} (h1 : pos ≤ e) (h2 : e < lim) (h : ∀ j, pos ≤ j → j < e → text.getD j 0 ≠ 10 ∧ text.getD j 0 ≠ 13) (he : text.getD e 0 = 10 ∨ text.getD e 0 = 13) :
    ∃ sn, forSearch code2 text 0 pos lim must = st2 text lim e sn := by
  rw [forSearch2]
  dsimp only
  have hc : (decide (pos > lim) || decide (lim - pos < 1)) = false := by simp; omega
  rw [hc]
  simp only [Bool.false_eq_true, if_false]
  unfold M.attemptFrom
  have hf : ({ code := code2, text, lim, start := pos, pc := 10, pos, handed := pos, marks := #[], mustAdvance := must, seen := ({} : Seen).add 14, lastStart := lim } : M).hasFirstSet = true := rfl
  rw [hf]
  obtain ⟨sn', q⟩ := admitted_at (m := { code := code2, text, lim, start := pos, pc := 10, pos, handed := pos, marks := #[], mustAdvance := must, seen := ({} : Seen).add 14, lastStart := lim }) rfl (lim + 1 - pos) pos e (({} : Seen).add 14) h1 h2 (by omega) h he
  simp only [Bool.not_true, Bool.false_eq_true, if_false]
  rw [q]
  exact ⟨sn', rfl⟩

/-- pattern 1: one start -/
def st1 (text : Array Nat) (lim s : Nat) (o : Bool) (sn : Seen) (must : Bool) : M :=
  { code := code1, text, lim, start := s, lastStart := lim, wholeText := false, mustAdvance := must, pc := 5, pos := s, handed := s, outermost := o, marks := #[], lastmark := -1, lastindex := -1, loops := #[], inner := none,
    frames := [{ wait := .nextStart, pc := 5, pos := s, outermost := o }], weight := 1, answer := none, seen := sn, outcome := none }
theorem forSearch1 (text : Array Nat) (pos lim : Nat) (must : Bool) : forSearch code1 text 0 pos lim must =
    if pos > lim || lim - pos < 1 then ({ code := code1, text, lim, start := pos, pc := 5, pos, handed := pos, marks := #[], mustAdvance := must, seen := ({} : Seen).add 14 } : M).say false else st1 text lim pos true (({} : Seen).add 14) must := rfl

def bol (text : Array Nat) (s : Nat) : Bool := s == 0 || text.getD (s - 1) 0 == 10

theorem s1_hit {text : Array Nat} {lim s : Nat} {o must : Bool} {sn : Seen} (h : s < lim) (hb : bol text s = true) (h0 : text.getD s 0 = 46) : Found s (s + 1) (it 5 (st1 text lim s o sn must)) := by
  have h' : ¬ (lim ≤ s) := by omega
  have hb' : (s == 0 || text[s - 1]?.getD 0 == 10) = true := by simpa [bol] using hb
  simp [Found, it, st1, M.step, M.exec, M.word, code1, ops, M.attempt, M.attemptAt, M.attemptFrom, M.hasFirstSet, M.resume, M.putBack, M.say, M.isAt, accepts, itemWidth, h0, h', hb']
theorem s1_miss {text : Array Nat} {lim s : Nat} {o must : Bool} {sn : Seen} (h : s < lim) (hb : bol text s = false) : it 2 (st1 text lim s o sn must) = st1 text lim (s + 1) false ((sn.add 6).add 44) false := by
  have hb' : (s == 0 || text[s - 1]?.getD 0 == 10) = false := by simpa [bol] using hb
  simp [it, st1, M.step, M.exec, M.word, code1, ops, M.attempt, M.attemptAt, M.attemptFrom, M.hasFirstSet, M.resume, M.putBack, M.say, M.isAt, accepts, itemWidth, h, hb']
theorem s1_other {text : Array Nat} {lim s : Nat} {o must : Bool} {sn : Seen} (h : s < lim) (hb : bol text s = true) (h0 : text.getD s 0 ≠ 46) : it 3 (st1 text lim s o sn must) = st1 text lim (s + 1) false (((sn.add 6).add 44).add 16) false := by
  have h' : ¬ (lim ≤ s) := by omega
  have hb' : (s == 0 || text[s - 1]?.getD 0 == 10) = true := by simpa [bol] using hb
  have h3 : (text[s]?.getD 0 == 46) = false := by simpa using h0
  simp [it, st1, M.step, M.exec, M.word, code1, ops, M.attempt, M.attemptAt, M.attemptFrom, M.hasFirstSet, M.resume, M.putBack, M.say, M.isAt, accepts, itemWidth, h, h', hb', h3]
theorem s1_end {text : Array Nat} {lim : Nat} {o must : Bool} {sn : Seen} : (it 4 (st1 text lim lim o sn must)).outcome = some .failed := by
  cases hb : bol text lim with
  | true =>
    have hb' : (lim == 0 || text[lim - 1]?.getD 0 == 10) = true := by simpa [bol] using hb
    simp [it, st1, M.step, M.exec, M.word, code1, ops, M.attempt, M.attemptAt, M.attemptFrom, M.hasFirstSet, M.resume, M.putBack, M.say, M.isAt, accepts, itemWidth, hb']
  | false =>
    have hb' : (lim == 0 || text[lim - 1]?.getD 0 == 10) = false := by simpa [bol] using hb
    simp [it, st1, M.step, M.exec, M.word, code1, ops, M.attempt, M.attemptAt, M.attemptFrom, M.hasFirstSet, M.resume, M.putBack, M.say, M.isAt, accepts, itemWidth, hb']
theorem st1_some {text : Array Nat} {lim e : Nat} (h2 : e < lim) (hb : bol text e = true) (he : text.getD e 0 = 46) : ∀ (k s : Nat) (o must : Bool) (sn : Seen), s + k = e → (∀ j, s ≤ j → j < e → ¬ (bol text j = true ∧ text.getD j 0 = 46)) →
    ∃ n, n ≤ 3 * k + 5 ∧ Found e (e + 1) (it n (st1 text lim s o sn must))
  | 0, s, o, must, sn, hk, _ => ⟨5, by omega, by have : s = e := by omega
                                                 subst this; exact s1_hit h2 hb he⟩
  | k + 1, s, o, must, sn, hk, h => by
    have hs := h s (Nat.le_refl _) (by omega)
    cases hb' : bol text s with
    | false =>
      obtain ⟨n, hn, hf⟩ := st1_some h2 hb he k (s + 1) false false ((sn.add 6).add 44) (by omega) (fun j a b => h j (by omega) b)
      exact ⟨2 + n, by omega, by rw [it_add, s1_miss (by omega) hb']; exact hf⟩
    | true =>
      obtain ⟨n, hn, hf⟩ := st1_some h2 hb he k (s + 1) false false (((sn.add 6).add 44).add 16) (by omega) (fun j a b => h j (by omega) b)
      exact ⟨3 + n, by omega, by rw [it_add, s1_other (by omega) hb' (fun q => hs ⟨hb', q⟩)]; exact hf⟩
theorem st1_none {text : Array Nat} {lim : Nat} : ∀ (k s : Nat) (o must : Bool) (sn : Seen), s + k = lim → (∀ j, s ≤ j → j < lim → ¬ (bol text j = true ∧ text.getD j 0 = 46)) →
    ∃ n, n ≤ 3 * k + 5 ∧ (it n (st1 text lim s o sn must)).outcome = some .failed
  | 0, s, o, must, sn, hk, _ => ⟨4, by omega, by have : s = lim := by omega
                                                 subst this; exact s1_end⟩
  | k + 1, s, o, must, sn, hk, h => by
    have hs := h s (Nat.le_refl _) (by omega)
    cases hb' : bol text s with
    | false =>
      obtain ⟨n, hn, hf⟩ := st1_none k (s + 1) false false ((sn.add 6).add 44) (by omega) (fun j a b => h j (by omega) b)
      exact ⟨2 + n, by omega, by rw [it_add, s1_miss (by omega) hb']; exact hf⟩
    | true =>
      obtain ⟨n, hn, hf⟩ := st1_none k (s + 1) false false (((sn.add 6).add 44).add 16) (by omega) (fun j a b => h j (by omega) b)
      exact ⟨3 + n, by omega, by rw [it_add, s1_other (by omega) hb' (fun q => hs ⟨hb', q⟩)]; exact hf⟩

/-- what a search gives: none, or a start and an end -/
def Gets (m : M) (r : Option (Nat × Nat)) : Prop := ∃ n, n ≤ 2 ^ 30 ∧ match r with
  | none => (it n m).outcome = some .failed
  | some (s, e) => Found s e (it n m)

theorem gets1_some {text : Array Nat} {pos e : Nat} {must : Bool} (hl : text.size ≤ 2 ^ 24) (h1 : pos ≤ e) (h2 : e < text.size) (hb : bol text e = true) (he : text.getD e 0 = 46)
    (h : ∀ j, pos ≤ j → j < e → ¬ (bol text j = true ∧ text.getD j 0 = 46)) : Gets (forSearch code1 text 0 pos text.size must) (some (e, e + 1)) := by
  rw [forSearch1]
  have hc : (decide (pos > text.size) || decide (text.size - pos < 1)) = false := by simp; omega
  rw [hc]
  simp only [Bool.false_eq_true, if_false]
  obtain ⟨n, hn, hf⟩ := st1_some h2 hb he (e - pos) pos true must (({} : Seen).add 14) (by omega) h
  exact ⟨n, by omega, hf⟩
theorem gets1_none {text : Array Nat} {pos : Nat} {must : Bool} (hl : text.size ≤ 2 ^ 24)
    (h : ∀ j, pos ≤ j → j < text.size → ¬ (bol text j = true ∧ text.getD j 0 = 46)) : Gets (forSearch code1 text 0 pos text.size must) none := by
  rw [forSearch1]
  split
  · exact ⟨1, by decide, rfl⟩
  · rename_i hc
    simp only [Bool.or_eq_true, decide_eq_true_eq, not_or] at hc
    obtain ⟨n, hn, hf⟩ := st1_none (text.size - pos) pos true must (({} : Seen).add 14) (by omega) h
    exact ⟨n, by omega, hf⟩
theorem gets2_none {text : Array Nat} {pos : Nat} {must : Bool} (h : ∀ j, pos ≤ j → j < text.size → text.getD j 0 ≠ 10 ∧ text.getD j 0 ≠ 13) : Gets (forSearch code2 text 0 pos text.size must) none :=
  ⟨1, by decide, search2_none h⟩
theorem gets2_lf {text : Array Nat} {pos e : Nat} {must : Bool} (h1 : pos ≤ e) (h2 : e < text.size) (h : ∀ j, pos ≤ j → j < e → text.getD j 0 ≠ 10 ∧ text.getD j 0 ≠ 13) (he : text.getD e 0 = 10) :
    Gets (forSearch code2 text 0 pos text.size must) (some (e, e + 1)) := by
  obtain ⟨sn, q⟩ := search2_some (lim := text.size) (must := must) h1 h2 h (.inl he)
  exact ⟨9, by decide, by rw [q]; exact s2_lf h2 he⟩
theorem gets2_crlf {text : Array Nat} {pos e : Nat} {must : Bool} (h1 : pos ≤ e) (h2 : e + 1 < text.size) (h : ∀ j, pos ≤ j → j < e → text.getD j 0 ≠ 10 ∧ text.getD j 0 ≠ 13) (he : text.getD e 0 = 13) (he' : text.getD (e + 1) 0 = 10) :
    Gets (forSearch code2 text 0 pos text.size must) (some (e, e + 2)) := by
  obtain ⟨sn, q⟩ := search2_some (lim := text.size) (must := must) h1 (by omega) h (.inr he)
  exact ⟨8, by decide, by rw [q]; exact s2_crlf h2 he he'⟩
theorem gets2_cr {text : Array Nat} {pos e : Nat} {must : Bool} (h1 : pos ≤ e) (h2 : e < text.size) (h : ∀ j, pos ≤ j → j < e → text.getD j 0 ≠ 10 ∧ text.getD j 0 ≠ 13) (he : text.getD e 0 = 13) (he' : e + 1 < text.size → text.getD (e + 1) 0 ≠ 10) :
    Gets (forSearch code2 text 0 pos text.size must) (some (e, e + 1)) := by
  obtain ⟨sn, q⟩ := search2_some (lim := text.size) (must := must) h1 h2 h (.inr he)
  exact ⟨15, by decide, by rw [q]; exact s2_cr h2 he he'⟩
end RX
end Mine
end

section
open PySem PySem.Sre PySem.W PyProof.Rows PySem.Calls
set_option maxRecDepth 100000
namespace Mine
namespace RX
open Builtin.Re

section
variable {M : Model} {A : Around} {E : Value → Shared → Prop} {s : Shared}

theorem wp_drive {Q : Sre.M → Shared → Prop} : ∀ (turns n : Nat) (m : Sre.M), 0 < turns → n ≤ 4 * turns → (it n m).outcome.isSome = true → Q (it n m) s → wpAny M A (reDrive turns m) Q E s
  | 0, n, m, h0, _, _, _ => absurd h0 (by omega)
  | turns + 1, n, m, h0, hn, ho, hq => by
    unfold reDrive
    dsimp only
    have e4 : m.runFor reTurnSteps = it 4 m := runFor_it 4 m
    rw [e4]
    by_cases h4 : (it 4 m).outcome.isSome = true
    · rw [if_pos h4]
      have : it n m = it 4 m := by
        by_cases hle : n ≤ 4
        · have := it_add n (4 - n) m
          rw [show n + (4 - n) = 4 from by omega, it_done ho] at this
          exact this.symm
        · have := it_add 4 (n - 4) m
          rw [show 4 + (n - 4) = n from by omega, it_done h4] at this
          exact this
      exact wpAny_pure (this ▸ hq)
    · rw [if_neg h4]
      have hgt : 4 < n := by
        by_cases hle : n ≤ 4
        · have := it_add n (4 - n) m
          rw [show n + (4 - n) = 4 from by omega, it_done ho] at this
          rw [this] at h4
          exact absurd ho h4
        · omega
      have e := it_add 4 (n - 4) m
      rw [show 4 + (n - 4) = n from by omega] at e
      refine wpAny_bind (wpAny_rule (wp_drive turns (n - 4) (it 4 m) (by omega) (by omega) (by rw [← e]; exact ho) (by rw [← e]; exact hq)))

theorem wp_ended {m : Sre.M} {r : Option (Nat × Nat)} {Q : Option Sre.M → Shared → Prop} (hg : Gets m r) (hn : r = none → Q none s)
    (hs : ∀ a b m', r = some (a, b) → m'.start = a → m'.handed = b → Q (some m') s) : wpAny M A (reRunToEnd m) Q E s := by
  obtain ⟨n, hle, hg⟩ := hg
  have ho : (it n m).outcome.isSome = true := by
    cases r with
    | none => dsimp only at hg; rw [hg]; rfl
    | some p =>
      dsimp only [Found] at hg
      split at hg
      · rename_i q; rw [q]; rfl
      · exact hg.elim
  unfold reRunToEnd
  refine wpAny_bind (wp_drive (2 ^ 64) n m (by decide) (Nat.le_trans hle (by decide)) ho ?_)
  refine wpAny_bind (wpAny_forIn_list _ (fun _ _ s' => s' = s) _ ?_ ?_ _ _ rfl)
  · rintro x rest b s' rfl
    split
    · exact wpAny_bind (wpAny_rule (wpAny_pure rfl))
    · exact wpAny_pure rfl
  · rintro b s' rfl
    cases r with
    | none => dsimp only at hg; rw [hg]; exact wpAny_pure (hn rfl)
    | some p =>
      dsimp only [Found] at hg
      split at hg
      · rename_i q; rw [q]; exact wpAny_pure (hs _ _ _ rfl hg.1 hg.2)
      · exact hg.elim

structure PatAt (h : Heap) (a : Addr) (code : Array Nat) : Prop where
  ex : ∃ o fs c oc ws n t2 t6, h.get? a = some o ∧ o.cls = .type "re.Pattern" ∧ o.dict = none ∧ o.data = .fields fs ∧ fs.getD 5 .none = .ref c ∧ fs.getD 6 .none = .int 0 t6 ∧ fs.getD 2 .none = .int 0 t2 ∧
    h.get? c = some oc ∧ oc.data = .seq ws n ∧ (ws.map reRawOf).map (·.toNat) = code
theorem PatAt.keeps {h h' : Heap} {a : Addr} {code : Array Nat} (P : PatAt h a code) (k : ∀ b o, h.get? b = some o → h'.get? b = some o) : PatAt h' a code := by
  obtain ⟨o, fs, c, oc, ws, n, t2, t6, h1, h2, h3, h4, h5, h6, h7, h8, h9⟩ := P.ex
  exact ⟨o, fs, c, oc, ws, n, t2, t6, k _ _ h1, h2, h3, h4, h5, h6, h7, k _ _ h8, h9⟩

theorem wp_target {a : Addr} {x : Str} {t : Tok} {code : Array Nat} {Q : ReTarget → Shared → Prop} (P : PatAt s.heap a code)
    (h : Q { pattern := .ref a, string := .str x t, code := code, text := x.cps, kind := 0, groups := 0, pos := 0, lim := x.cps.size } s) : wpAny M A (reWholeTarget (.ref a) (.str x t)) Q E s := by
  obtain ⟨o, fs, c, oc, ws, n, t2, t6, h1, h2, h3, h4, h5, h6, h7, h8, h9, h10⟩ := P.ex
  unfold reWholeTarget
  refine wpAny_bind (wpAny_fieldsOf h1 h4 ?_)
  refine wpAny_bind (Q := _) (m := reTextOf (.str x t)) ?_
  unfold reTextOf
  refine wpAny_bind (m := asStr? (.str x t)) (wpAny_pure ?_)
  refine wpAny_pure ?_
  simp only [h6, h7, reRawNat]
  rw [h5]
  refine wpAny_bind (m := reRawItems (.ref c)) ?_
  unfold reRawItems
  refine wpAny_bind (wpAny_seqItems h8 h9 (wpAny_pure ?_))
  refine wpAny_pure ?_
  simp only [Option.getD_some, h10]
  exact h

theorem wp_slice {text : Array Nat} {b e : Nat} {Q : Value → Shared → Prop} (hl : text.size ≤ 100000) (h : Q (.str ⟨text.extract b e⟩ s.toks) { s with toks := s.toks + 1 }) : wpAny M A (reSlice text 0 b e) Q E s := by
  unfold reSlice
  simp only [beq_self_eq_true, if_true]
  refine wpAny_mkStr h ?_
  show (text.extract b e).size ≤ sizeLine
  rw [sizeLine_eq, Array.size_extract]
  omega
end

def subF (find : Nat → Option (Nat × Nat)) (text repl : List Nat) : Nat → Nat → List Nat
  | 0, p => text.drop p
  | k + 1, p => match find p with
    | none => text.drop p
    | some (a, b) => (text.drop p).take (a - p) ++ repl ++ subF find text repl k b

namespace F
theorem entry_loop : entryFor table "re.Pattern.sub.loop" = some Builtin.«re.Pattern.sub.loop» := entryFor_of_tree (by kernel_rfl)
theorem plain_loop : plainId "re.Pattern.sub.loop" = true := by decide +kernel
theorem entry_sub : entryFor table "re.Pattern.sub" = some Builtin.«re.Pattern.sub» := entryFor_of_tree (by kernel_rfl)
theorem slot_sub : Slot "re.Pattern" "sub" "re.Pattern.sub" :=
  .of (owner := "re.Pattern") (n := "sub") (by rw [typeLookup_type, builtinLookup_eq_fast]; kernel_rfl) (by decide +kernel) (by decide +kernel) (by decide +kernel)
    (by first | exact .inl (by decide +kernel) | exact .inr (by decide +kernel)) (by rw [isSubtype_type]; kernel_rfl)
theorem args_sub (a b c : Value) : argsOk "re.Pattern.sub" ⟨[a, b, c], []⟩ := by unfold argsOk; kernel_rfl
theorem str_call : typeLookup (.type "str") "__call__" = pure none := by rw [typeLookup_type, builtinLookup_eq_fast]; kernel_rfl
theorem type_sub : typeOf (.builtin "re.Pattern.sub") = pure (.type "method_descriptor") := by show builtinType _ = _; rw [builtinType_eq_fast]; kernel_rfl
end F

theorem glue_nil_acc : ∀ (ys : List Str) (a : Array Nat), (ys.foldl (fun acc p => acc ++ (#[] : Array Nat) ++ p.cps) a).toList = a.toList ++ (ys.map (·.cps.toList)).flatten
  | [], a => by simp
  | y :: ys, a => by rw [List.foldl_cons, glue_nil_acc ys]; simp
theorem join_nil (ys : List Str) : (Txt.join ⟨#[]⟩ ys).cps.toList = (ys.map (·.cps.toList)).flatten := by
  unfold Txt.join Builtin.Str.glued
  cases ys with
  | nil => rfl
  | cons y ys => simp only [List.drop_succ_cons, List.drop_zero, List.headD_cons]; rw [glue_nil_acc]; simp
theorem StrsAre.snoc {vs : List Value} {ys : List Str} {y : Str} {t : Tok} (h : StrsAre vs ys) : StrsAre (vs ++ [.str y t]) (ys ++ [y]) := by
  induction h with
  | nil => exact .cons y t .nil
  | cons z u _ ih => exact .cons z u ih

section
variable {prog : Program} {w : World} {A : Around} {R : Result → Shared → Prop}

abbrev loopCode (a q : Addr) (x r : Str) (t u : Tok) (n : Int) (p : Int) : Code :=
  .builtin "re.Pattern.sub.loop" ⟨[.ref a, .str x t, .str r u, rawInt 0, rawInt 0, rawInt n, rawInt p, rawInt p, .bool false, .ref q, .bool false], []⟩

theorem extract_toList (x : Array Nat) (b e : Nat) : (x.extract b e).toList = (x.toList.drop b).take (e - b) := by simp
theorem isList_of {h : Heap} {q : Addr} {acc : Array Value} {c : Nat} (hl : h.get? q = some (listOf acc c)) : h.IsList q acc := ⟨_, hl, rfl, c, rfl⟩

theorem loop_fin {A : Around} {E : Value → Shared → Prop} {q : Addr} {x : Str} {s : Shared} {acc : Array Value} {c : Nat} {ys : List Str} {Q : Fin → Shared → Prop} {prog : Program} {w : World}
    (hl : s.heap.get? q = some (listOf acc c)) (hi : StrsAre acc.toList ys) (h3 : (ys.map (·.length)).sum ≤ 1000000)
    (hR : ∀ v t' tk', v = (⟨((ys.map (·.cps.toList)).flatten).toArray⟩ : Str) → Q (.done (.ret (.str v t'))) { s with toks := tk' }) :
    wpAny (model prog w) A (do
      let joiner ← reSlice x.cps 0 0 0
      let text ← if ((← seqItems? (.ref q)).getD #[]).isEmpty then pure joiner else call (.builtin "str.join") [joiner, .ref q]
      ret text) Q E s := by
  unfold reSlice
  simp only [beq_self_eq_true, if_true]
  have e0 : (⟨x.cps.extract 0 0⟩ : Str) = ⟨#[]⟩ := by simp
  rw [e0]
  refine wpAny_bind (wpAny_mkStr ?_ (by show (#[] : Array Nat).size ≤ _; rw [sizeLine_eq]; decide))
  refine wpAny_bind (wpAny_seqItems hl rfl ?_)
  simp only [Option.getD_some]
  by_cases he : acc.isEmpty = true
  · rw [if_pos he]
    refine wpAny_bind (wpAny_pure (wpAny_pure ?_))
    have : acc.toList = [] := by simpa using he
    rw [this] at hi
    cases hi
    exact hR _ _ _ rfl
  · rw [if_neg he]
    refine wpAny_bind (join_list (isList_of hl) hi (by show _ + _ * 0 ≤ _; omega) fun t' k => wpAny_pure ?_)
    refine hR _ _ _ ?_
    have := join_nil ys
    generalize Txt.join ⟨#[]⟩ ys = z at this
    obtain ⟨zc⟩ := z
    rw [← this]

theorem loop_none {a q : Addr} {x r : Str} {t u : Tok} {code : Array Nat} {h₁ : Heap} (hx : x.cps.size ≤ 100000) (P : PatAt h₁ a code) {p : Nat} {n : Int} {s : Shared} {acc : Array Value} {c : Nat} {ys : List Str}
    (hf : Gets (forSearch code x.cps 0 p x.cps.size false) none) (hp : p ≤ x.cps.size) (hk : ∀ b o, h₁.get? b = some o → s.heap.get? b = some o)
    (hl : s.heap.get? q = some (listOf acc c)) (hi : StrsAre acc.toList ys) (h3 : (ys.map (·.length)).sum ≤ 3 * p) (h2 : ys.length ≤ 2 * p)
    (hR : ∀ v t' h' tk', v = (⟨((ys.map (·.cps.toList)).flatten ++ x.cps.toList.drop p).toArray⟩ : Str) → (∀ b o, b ≠ q → s.heap.get? b = some o → h'.get? b = some o) → R (.ok (.ret (.str v t'))) { s with heap := h', toks := tk' }) :
    codeAny (model prog w) A (loopCode a q x r t u n p) R s := by
  refine codeAny_builtin F.entry_loop ?_
  rw [Around.under_plainId F.plain_loop _]
  unfold Builtin.«re.Pattern.sub.loop»
  dsimp only [rawInt]
  refine wpAny_bind (wp_target (P.keeps hk) ?_)
  dsimp only
  rw [if_pos (by decide)]
  refine wpAny_bind (m := reLiteralCannotBeTurned _) ?_
  unfold reLiteralCannotBeTurned
  refine wpAny_bind (m := asStr? (.str r u)) (wpAny_pure ?_)
  refine wpAny_pure ?_
  rw [if_neg (by simp), Int.toNat_natCast]
  refine wpAny_bind (m := reNextFound _ _ _) ?_
  unfold reNextFound
  refine wp_ended hf (fun _ => ?_) (fun _ _ _ e => nomatch e)
  dsimp only
  by_cases hlt : p < x.cps.size
  · rw [if_pos hlt]
    refine wpAny_bind (wp_slice hx ?_)
    have hsz : acc.size ≤ 200000 := by
      have := hi.length
      rw [Array.length_toList] at this
      omega
    refine wpAny_bind (wpAny_updateSeq hl rfl ?_ (by rw [sizeLine_eq]; omega) (by rw [Array.size_push, sizeLine_eq]; omega))
    refine wpAny_mono (loop_fin (x := x) (ys := ys ++ [⟨x.cps.extract p x.cps.size⟩]) (Q := fun fin s' => match fin with | .done f => R (.ok f) s' | .again c' => c'.quiet = true ∧ codeAny (model prog w) A c' R s') (Heap.get?_update_self _ hl rfl) ?_ ?_ ?_) (fun _ _ y => y) fun _ _ y => y
    · rw [Array.toList_push]; exact StrsAre.snoc hi
    · simp only [List.map_append, List.map_cons, List.map_nil, List.sum_append, List.sum_cons, List.sum_nil]
      have : (⟨x.cps.extract p x.cps.size⟩ : Str).length = (x.cps.extract p x.cps.size).size := rfl
      rw [this, Array.size_extract]
      omega
    · rintro v t' tk' rfl
      refine hR _ t' _ tk' ?_ fun b o hbq e => (Heap.get?_update_other _ _ (Ne.symm hbq)).trans e
      simp only [List.map_append, List.map_cons, List.map_nil, List.flatten_append, List.flatten_cons, List.flatten_nil, List.append_nil, extract_toList]
      rw [List.take_of_length_le (by simp)]
  · rw [if_neg hlt]
    refine wpAny_mono (loop_fin (x := x) (ys := ys) (Q := fun fin s' => match fin with | .done f => R (.ok f) s' | .again c' => c'.quiet = true ∧ codeAny (model prog w) A c' R s') hl hi (by omega) ?_) (fun _ _ y => y) fun _ _ y => y
    rintro v t' tk' rfl
    exact hR _ t' s.heap tk' (by rw [List.drop_eq_nil_of_le (by simp; omega)]; simp) (fun _ _ _ e => e)

theorem loop_some {a q : Addr} {x r : Str} {t u : Tok} {code : Array Nat} {h₁ : Heap} (hx : x.cps.size ≤ 100000) (P : PatAt h₁ a code) {p i j : Nat} {n : Int} {s : Shared} {acc : Array Value} {c : Nat} {ys : List Str}
    (hf : Gets (forSearch code x.cps 0 p x.cps.size false) (some (i, j))) (hpi : p ≤ i) (hij : i < j) (hj : j ≤ x.cps.size) (hk : ∀ b o, h₁.get? b = some o → s.heap.get? b = some o)
    (hl : s.heap.get? q = some (listOf acc c)) (hi : StrsAre acc.toList ys) (h2 : ys.length ≤ 2 * p)
    (hR : ∀ h' tk' acc' c' ys', (∀ b o, b ≠ q → s.heap.get? b = some o → h'.get? b = some o) → h'.get? q = some (listOf acc' c') → StrsAre acc'.toList ys' → (ys'.map (·.cps.toList)).flatten = (ys.map (·.cps.toList)).flatten ++ ((x.cps.toList.drop p).take (i - p) ++ r.cps.toList) →
      (ys'.map (·.length)).sum ≤ (ys.map (·.length)).sum + (i - p) + r.cps.size → ys'.length ≤ ys.length + 2 → codeAny (model prog w) A (loopCode a q x r t u (n + 1) j) R { s with heap := h', toks := tk' }) :
    codeAny (model prog w) A (loopCode a q x r t u n p) R s := by
  refine codeAny_builtin F.entry_loop ?_
  rw [Around.under_plainId F.plain_loop _]
  unfold Builtin.«re.Pattern.sub.loop»
  dsimp only [rawInt]
  refine wpAny_bind (wp_target (P.keeps hk) ?_)
  dsimp only
  rw [if_pos (by decide)]
  refine wpAny_bind (m := reLiteralCannotBeTurned _) ?_
  unfold reLiteralCannotBeTurned
  refine wpAny_bind (m := asStr? (.str r u)) (wpAny_pure ?_)
  refine wpAny_pure ?_
  rw [if_neg (by simp), Int.toNat_natCast]
  refine wpAny_bind (m := reNextFound _ _ _) ?_
  unfold reNextFound
  refine wp_ended hf (fun e => nomatch e) (fun _ _ m' e h4 h5 => ?_)
  cases e
  dsimp only
  have hsz : acc.size ≤ 200000 := by
    have := hi.length
    rw [Array.length_toList] at this
    omega
  have hne : (Value.str r u != Value.none) = true := rfl
  have hadv : (m'.handed == m'.start) = false := by rw [h4, h5]; simp; omega
  rw [if_pos (by decide : ((0 : Int) == 0) = true), h4, h5]
  by_cases hlt : p < i
  · rw [if_pos hlt]
    refine wpAny_bind (wp_slice hx ?_)
    refine wpAny_bind (wpAny_updateSeq hl rfl ?_ (by rw [sizeLine_eq]; omega) (by rw [Array.size_push, sizeLine_eq]; omega))
    refine wpAny_bind (wpAny_pure ?_)
    rw [if_pos hne]
    have hl' := Heap.get?_update_self (Obj.mapSeq (·.push (Value.str ⟨x.cps.extract p i⟩ s.toks))) hl rfl
    refine wpAny_bind (wpAny_updateSeq hl' rfl ?_ (by show (acc.push _).size ≤ _; rw [Array.size_push, sizeLine_eq]; omega) (by show ((acc.push _).push _).size ≤ _; rw [Array.size_push, Array.size_push, sizeLine_eq]; omega))
    have hl'' := Heap.get?_update_self (Obj.mapSeq (·.push (Value.str r u))) hl' rfl
    refine wpAny_pure ⟨plainId_quiet F.plain_loop _, ?_⟩
    have hadv' : ((j : Nat) == i) = false := by simp; omega
    rw [hadv']
    refine hR _ _ _ _ (ys ++ [⟨x.cps.extract p i⟩] ++ [r]) (fun b o hbq e => (Heap.get?_update_other _ _ (Ne.symm hbq)).trans ((Heap.get?_update_other _ _ (Ne.symm hbq)).trans e)) hl'' ?_ ?_ ?_ ?_
    · rw [Array.toList_push, Array.toList_push]; exact StrsAre.snoc (StrsAre.snoc hi)
    · simp [extract_toList]
    · simp only [List.map_append, List.map_cons, List.map_nil, List.sum_append, List.sum_cons, List.sum_nil]
      have e1 : (⟨x.cps.extract p i⟩ : Str).length = (x.cps.extract p i).size := rfl
      have e2 : r.length = r.cps.size := rfl
      rw [e1, e2, Array.size_extract]
      omega
    · simp
  · rw [if_neg hlt]
    have hpi' : i = p := by omega
    subst hpi'
    refine wpAny_bind (wpAny_pure ?_)
    rw [if_pos hne]
    refine wpAny_bind (wpAny_updateSeq hl rfl ?_ (by rw [sizeLine_eq]; omega) (by rw [Array.size_push, sizeLine_eq]; omega))
    have hl'' := Heap.get?_update_self (Obj.mapSeq (·.push (Value.str r u))) hl rfl
    refine wpAny_pure ⟨plainId_quiet F.plain_loop _, ?_⟩
    have hadv' : ((j : Nat) == i) = false := by simp; omega
    rw [hadv']
    refine hR _ _ _ _ (ys ++ [r]) (fun b o hbq e => (Heap.get?_update_other _ _ (Ne.symm hbq)).trans e) hl'' ?_ ?_ ?_ ?_
    · rw [Array.toList_push]; exact StrsAre.snoc hi
    · simp
    · simp only [List.map_append, List.map_cons, List.map_nil, List.sum_append, List.sum_cons, List.sum_nil]
      have e2 : r.length = r.cps.size := rfl
      rw [e2]
      omega
    · simp
theorem loop_any {a q : Addr} {x r : Str} {t u : Tok} {code : Array Nat} {h₁ : Heap} (find : Nat → Option (Nat × Nat)) (hx : x.cps.size ≤ 100000) (hr : r.cps.size ≤ 2) (P : PatAt h₁ a code) (hq : h₁.get? q = none)
    (hf : ∀ p, p ≤ x.cps.size → Gets (forSearch code x.cps 0 p x.cps.size false) (find p)) (hb : ∀ p a b, p ≤ x.cps.size → find p = some (a, b) → p ≤ a ∧ a < b ∧ b ≤ x.cps.size) :
    ∀ (k p : Nat) (n : Int) (s : Shared) (acc : Array Value) (c : Nat) (ys : List Str), x.cps.size - p ≤ k → p ≤ x.cps.size → (∀ b o, h₁.get? b = some o → s.heap.get? b = some o) →
      s.heap.get? q = some (listOf acc c) → StrsAre acc.toList ys → (ys.map (·.length)).sum ≤ 3 * p → ys.length ≤ 2 * p →
      (∀ v t' h' tk', v = (⟨((ys.map (·.cps.toList)).flatten ++ subF find x.cps.toList r.cps.toList k p).toArray⟩ : Str) → (∀ b o, b ≠ q → s.heap.get? b = some o → h'.get? b = some o) → R (.ok (.ret (.str v t'))) { s with heap := h', toks := tk' }) →
      codeAny (model prog w) A (loopCode a q x r t u n p) R s := by
  intro k
  induction k with
  | zero =>
    intro p n s acc c ys hk hp hkeep hl hi h3 h2 hR
    have hn : find p = none := by
      cases e : find p with
      | none => rfl
      | some ab => obtain ⟨i, j⟩ := ab; have := hb p i j hp e; omega
    exact loop_none hx P (hn ▸ hf p hp) hp hkeep hl hi h3 h2 hR
  | succ k ih =>
    intro p n s acc c ys hk hp hkeep hl hi h3 h2 hR
    have hfp := hf p hp
    cases e : find p with
    | none =>
      rw [e] at hfp
      refine loop_none hx P hfp hp hkeep hl hi h3 h2 ?_
      simpa only [subF, e] using hR
    | some ab =>
      obtain ⟨i, j⟩ := ab
      rw [e] at hfp
      have hbb := hb p i j hp e
      refine loop_some hx P hfp hbb.1 hbb.2.1 hbb.2.2 hkeep hl hi h2 fun h' tk' acc' c' ys' hkp hl' hi' hfl hsum hlen => ?_
      refine ih j (n + 1) _ acc' c' ys' (by omega) hbb.2.2 (fun b o e1 => hkp b o (fun hbq => by rw [hbq, hq] at e1; cases e1) (hkeep b o e1)) hl' hi' (by omega) (by omega) fun v t' h'' tk'' hv hkp' => ?_
      refine hR v t' h'' tk'' ?_ (fun b o hbq e1 => hkp' b o hbq (hkp b o hbq e1))
      rw [hv, hfl]
      simp only [subF, e, List.append_assoc]
end
end RX
end Mine
end

section
open PySem PySem.Sre PySem.W PyProof.Rows PySem.Calls
set_option maxRecDepth 100000
namespace Mine
namespace RX
open Builtin.Re

def eolL : List Nat → List Nat
  | [] => []
  | 13 :: 10 :: r => 13 :: 10 :: eolL r
  | c :: r => if c = 13 ∨ c = 10 then 13 :: 10 :: eolL r else c :: eolL r
def dotL : Bool → List Nat → List Nat
  | _, [] => []
  | b, c :: r => if b = true ∧ c = 46 then 46 :: 46 :: dotL false r else c :: dotL (c == 10) r

theorem eolL_other {c : Nat} {r : List Nat} (h : c ≠ 13) (h' : c ≠ 10) : eolL (c :: r) = c :: eolL r := by
  rw [eolL]
  · rw [if_neg (by omega)]
  · intro r' e; exact absurd e h
theorem eolL_lf {r : List Nat} : eolL (10 :: r) = 13 :: 10 :: eolL r := by
  rw [eolL]
  · rw [if_pos (.inr rfl)]
  · intro r' e; cases e
theorem eolL_crlf {r : List Nat} : eolL (13 :: 10 :: r) = 13 :: 10 :: eolL r := by
  rw [eolL]
theorem eolL_cr {r : List Nat} (h : r.head? ≠ some 10) : eolL (13 :: r) = 13 :: 10 :: eolL r := by
  rw [eolL]
  · rw [if_pos (.inl rfl)]
  · intro r' _ e; rw [e] at h; exact h rfl
theorem eolL_app : ∀ (a l : List Nat), (∀ c ∈ a, c ≠ 10 ∧ c ≠ 13) → eolL (a ++ l) = a ++ eolL l
  | [], _, _ => rfl
  | c :: a, l, h => by
    have := h c (.head _)
    rw [List.cons_append, eolL_other this.2 this.1, eolL_app a l fun d hd => h d (.tail _ hd)]; rfl

def find2 (text : Array Nat) (p : Nat) : Option (Nat × Nat) :=
  match (List.range' p (text.size - p)).find? (fun e => text.getD e 0 == 10 || text.getD e 0 == 13) with
  | none => none
  | some e => if text.getD e 0 = 13 ∧ e + 1 < text.size ∧ text.getD (e + 1) 0 = 10 then some (e, e + 2) else some (e, e + 1)
def find1 (text : Array Nat) (p : Nat) : Option (Nat × Nat) :=
  match (List.range' p (text.size - p)).find? (fun e => bol text e && text.getD e 0 == 46) with
  | none => none
  | some e => some (e, e + 1)

theorem find_range_none {f : Nat → Bool} {p n : Nat} (h : (List.range' p (n - p)).find? f = none) : ∀ j, p ≤ j → j < n → f j = false := by
  intro j h1 h2
  rw [List.find?_eq_none] at h
  have := h j (by rw [List.mem_range']; exact ⟨j - p, by omega, by omega⟩)
  simpa using this
theorem find_range_some {f : Nat → Bool} {p n e : Nat} (h : (List.range' p (n - p)).find? f = some e) : p ≤ e ∧ e < n ∧ f e = true ∧ ∀ j, p ≤ j → j < e → f j = false := by
  have hm := List.mem_of_find?_eq_some h
  rw [List.mem_range'] at hm
  obtain ⟨i, hi, rfl⟩ := hm
  refine ⟨by omega, by omega, List.find?_some h, fun j h1 h2 => ?_⟩
  rw [List.find?_eq_some_iff_getElem] at h
  obtain ⟨_, k, hk, e1, e2⟩ := h
  have hk' : k = i := by simp only [List.getElem_range'] at e1; omega
  have := e2 (j - p) (by omega)
  simp only [List.getElem_range'] at this
  rw [show p + 1 * (j - p) = j from by omega] at this
  simpa using this

theorem gets2 {text : Array Nat} {p : Nat} : Gets (forSearch code2 text 0 p text.size false) (find2 text p) := by
  unfold find2
  split
  · rename_i h
    refine gets2_none fun j a b => ?_
    have := find_range_none h j a b
    simpa using this
  · rename_i e h
    obtain ⟨h1, h2, h3, h4⟩ := find_range_some h
    have h4' : ∀ j, p ≤ j → j < e → text.getD j 0 ≠ 10 ∧ text.getD j 0 ≠ 13 := fun j a b => by simpa using h4 j a b
    by_cases hc : text.getD e 0 = 13 ∧ e + 1 < text.size ∧ text.getD (e + 1) 0 = 10
    · rw [if_pos hc]
      exact gets2_crlf h1 hc.2.1 h4' hc.1 hc.2.2
    · rw [if_neg hc]
      by_cases h10 : text.getD e 0 = 10
      · exact gets2_lf h1 h2 h4' h10
      · have h13 : text.getD e 0 = 13 := by simp only [Bool.or_eq_true, beq_iff_eq] at h3; omega
        exact gets2_cr h1 h2 h4' h13 fun a b => hc ⟨h13, a, b⟩
theorem bound2 {text : Array Nat} {p a b : Nat} (h : find2 text p = some (a, b)) : p ≤ a ∧ a < b ∧ b ≤ text.size := by
  unfold find2 at h
  split at h
  · cases h
  · rename_i e q
    obtain ⟨h1, h2, h3, h4⟩ := find_range_some q
    by_cases hc : text.getD e 0 = 13 ∧ e + 1 < text.size ∧ text.getD (e + 1) 0 = 10
    · rw [if_pos hc] at h; cases h; omega
    · rw [if_neg hc] at h; cases h; omega
theorem gets1 {text : Array Nat} {p : Nat} (hl : text.size ≤ 100000) : Gets (forSearch code1 text 0 p text.size false) (find1 text p) := by
  unfold find1
  split
  · rename_i h
    refine gets1_none (by omega) fun j a b => ?_
    have := find_range_none h j a b
    simpa using this
  · rename_i e h
    obtain ⟨h1, h2, h3, h4⟩ := find_range_some h
    simp only [Bool.and_eq_true, beq_iff_eq] at h3
    exact gets1_some (by omega) h1 h2 h3.1 h3.2 fun j a b => by simpa using h4 j a b
theorem bound1 {text : Array Nat} {p a b : Nat} (h : find1 text p = some (a, b)) : p ≤ a ∧ a < b ∧ b ≤ text.size := by
  unfold find1 at h
  split at h
  · cases h
  · rename_i e q
    obtain ⟨h1, h2, h3, h4⟩ := find_range_some q
    cases h; omega

theorem getD_drop {text : Array Nat} {p : Nat} (h : p < text.size) : text.toList.drop p = text.getD p 0 :: text.toList.drop (p + 1) := by
  rw [List.drop_eq_getElem_cons (by simpa using h)]
  simp [h]

theorem take_free {text : Array Nat} {p e : Nat} (h2 : e ≤ text.size) (f : Nat → Prop) (h : ∀ j, p ≤ j → j < e → f (text.getD j 0)) : ∀ c ∈ (text.toList.drop p).take (e - p), f c := by
  intro c hc
  obtain ⟨i, hi, rfl⟩ := List.mem_iff_getElem.mp hc
  simp only [List.length_take, List.length_drop, Array.length_toList] at hi
  have := h (p + i) (by omega) (by omega)
  simpa [show p + i < text.size from by omega] using this

theorem sub2_eq {text : Array Nat} : ∀ (k p : Nat), text.size - p ≤ k → subF (find2 text) text.toList [13, 10] k p = eolL (text.toList.drop p)
  | 0, p, h => by
    unfold subF
    rw [List.drop_eq_nil_of_le (by simp; omega)]; rfl
  | k + 1, p, h => by
    unfold subF
    cases hf : find2 text p with
    | none =>
      dsimp only
      unfold find2 at hf
      split at hf
      · rename_i q
        have hn := find_range_none q
        have := eolL_app (text.toList.drop p) [] ?_
        · simp only [List.append_nil] at this; rw [this]; simp [eolL]
        · have := take_free (text := text) (p := p) (e := text.size) (Nat.le_refl _) (fun c => c ≠ 10 ∧ c ≠ 13) (fun j a b => by simpa using hn j a b)
          rwa [List.take_of_length_le (by simp)] at this
      · rename_i e _
        by_cases hc : text.getD e 0 = 13 ∧ e + 1 < text.size ∧ text.getD (e + 1) 0 = 10
        · rw [if_pos hc] at hf; cases hf
        · rw [if_neg hc] at hf; cases hf
    | some ab =>
      obtain ⟨a, b⟩ := ab
      dsimp only
      unfold find2 at hf
      split at hf
      · cases hf
      · rename_i e q
        obtain ⟨h1, h2, h3, h4⟩ := find_range_some q
        have hfree := take_free (text := text) (p := p) (e := e) (by omega) (fun c => c ≠ 10 ∧ c ≠ 13) (fun j a b => by simpa using h4 j a b)
        have hsplit : text.toList.drop p = (text.toList.drop p).take (e - p) ++ text.toList.drop e := by
          conv => lhs; rw [← List.take_append_drop (e - p) (text.toList.drop p)]
          rw [List.drop_drop, show p + (e - p) = e from by omega]
        by_cases hc : text.getD e 0 = 13 ∧ e + 1 < text.size ∧ text.getD (e + 1) 0 = 10
        · rw [if_pos hc] at hf
          simp only [Option.some.injEq, Prod.mk.injEq] at hf
          rw [← hf.1, ← hf.2, sub2_eq k (e + 2) (by omega)]
          conv => rhs; rw [hsplit]
          rw [eolL_app _ _ hfree, getD_drop h2, hc.1, getD_drop hc.2.1, hc.2.2, eolL_crlf]
          simp
        · rw [if_neg hc] at hf
          simp only [Option.some.injEq, Prod.mk.injEq] at hf
          rw [← hf.1, ← hf.2, sub2_eq k (e + 1) (by omega)]
          conv => rhs; rw [hsplit]
          rw [eolL_app _ _ hfree, getD_drop h2]
          by_cases h10 : text.getD e 0 = 10
          · rw [h10, eolL_lf]; simp
          · have h13 : text.getD e 0 = 13 := by simp only [Bool.or_eq_true, beq_iff_eq] at h3; omega
            rw [h13, eolL_cr]
            · simp
            · intro hh
              by_cases hlt : e + 1 < text.size
              · rw [getD_drop hlt] at hh
                simp only [List.head?_cons, Option.some.injEq] at hh
                exact hc ⟨h13, hlt, hh⟩
              · rw [List.drop_eq_nil_of_le (by simp; omega)] at hh; cases hh

theorem bol_succ {text : Array Nat} {p : Nat} : bol text (p + 1) = (text.getD p 0 == 10) := by simp [bol]
theorem dot_free {text : Array Nat} : ∀ (k p : Nat), p + k ≤ text.size → (∀ j, p ≤ j → j < p + k → (bol text j && text.getD j 0 == 46) = false) →
    dotL (bol text p) (text.toList.drop p) = (text.toList.drop p).take k ++ dotL (bol text (p + k)) (text.toList.drop (p + k))
  | 0, p, _, _ => by simp
  | k + 1, p, h, hn => by
    have h0 := hn p (Nat.le_refl _) (by omega)
    have ih := dot_free k (p + 1) (by omega) (fun j a b => hn j (by omega) (by omega))
    rw [show p + (k + 1) = p + 1 + k from by omega, getD_drop (by omega : p < text.size)]
    rw [dotL, if_neg (by intro q; simp [q.1, q.2] at h0), ← bol_succ, ih]
    simp
theorem sub1_eq {text : Array Nat} : ∀ (k p : Nat), text.size - p ≤ k → p ≤ text.size → subF (find1 text) text.toList [46, 46] k p = dotL (bol text p) (text.toList.drop p)
  | 0, p, h, _ => by
    unfold subF
    rw [List.drop_eq_nil_of_le (by simp; omega)]; rfl
  | k + 1, p, h, hp => by
    unfold subF
    cases hf : find1 text p with
    | none =>
      dsimp only
      unfold find1 at hf
      split at hf
      · rename_i q
        have hn := find_range_none q
        have := dot_free (text.size - p) p (by omega) (fun j a b => hn j a (by omega))
        rw [this, List.take_of_length_le (by simp), List.drop_eq_nil_of_le (i := p + (text.size - p)) (by simp; omega)]
        simp [dotL]
      · cases hf
    | some ab =>
      obtain ⟨a, b⟩ := ab
      dsimp only
      unfold find1 at hf
      split at hf
      · cases hf
      · rename_i e q
        obtain ⟨h1, h2, h3, h4⟩ := find_range_some q
        simp only [Option.some.injEq, Prod.mk.injEq] at hf
        simp only [Bool.and_eq_true, beq_iff_eq] at h3
        have hd := dot_free (e - p) p (by omega) (fun j a b => h4 j a (by omega))
        rw [show p + (e - p) = e from by omega] at hd
        rw [← hf.1, ← hf.2, sub1_eq k (e + 1) (by omega) (by omega), hd, getD_drop h2, h3.2, dotL, if_pos ⟨h3.1, rfl⟩, bol_succ, h3.2]
        simp

def eolP (x : Str) : Str := ⟨(eolL x.cps.toList).toArray⟩
def dotP (x : Str) : Str := ⟨(dotL true x.cps.toList).toArray⟩

namespace F
theorem named_sub (v1 v2 : Value) : reNamed "re.Pattern.sub" "sub" ["repl", "string", "count"] 2 [v1, v2] [] = pure [some v1, some v2, none] := rfl
theorem plain_pat : PlainAttrs "re.Pattern" :=
  ⟨⟨"object.__getattribute__", by rw [typeLookup_type, builtinLookup_eq_fast]; kernel_rfl, by decide +kernel⟩, by rw [typeLookup_type, builtinLookup_eq_fast]; kernel_rfl⟩
end F

section
variable {prog : Program} {w : World} {A : Around} {E : Value → Shared → Prop} {s : Shared} {h₀ : Heap} {L : Addr} {m : Str → Option Value} {news : List (Addr × Obj)}

theorem fr_but {h' h'' : Heap} {q : Addr} {o : Obj} (F' : Fr h₀ L h' m) (N' : News h₀ L h' ((q, o) :: news)) (hkp : ∀ b o, b ≠ q → h'.get? b = some o → h''.get? b = some o) (hlt : ∀ p ∈ news, p.1 < q) : Fr h₀ L h'' m ∧ News h₀ L h'' news := by
  have hN := N' (q, o) (.head _)
  obtain ⟨oL, a1, a2, hL, a3⟩ := F'.ns
  refine ⟨⟨⟨oL, a1, a2, hkp _ _ (Ne.symm hN.2.1) hL, a3⟩, fun b o' e => hkp b o' (fun hb => ?_) (F'.keep b o' e), F'.above⟩, fun p hp => ?_⟩
  · rw [hb, hN.2.2] at e; cases e
  · have := N' p (.tail _ hp)
    exact ⟨hkp _ _ (Nat.ne_of_lt (hlt p hp)) this.1, this.2⟩

theorem sub_method {M : Model} {a : Addr} {code : Array Nat} {pl : Sem Bool} {Q : Value × List Value → Shared → Prop} (F₁ : Fr h₀ L s.heap m) (P : PatAt h₀ a code) (h : Q (.builtin "re.Pattern.sub", [.ref a]) s) :
    wpAny M A (getMethod (.ref a) "sub" pl) Q E s := by
  obtain ⟨o, fs, c, oc, ws, n, t2, t6, h1, h2, h3, h4, _⟩ := (P.keeps F₁.keep).ex
  exact getMethod_builtin ⟨o, h1, h2⟩ F.plain_pat F.slot_sub F.type_sub (fun b e => by cases e; exact ⟨o, h1, h3⟩) h

theorem sub_call {a : Addr} {x r : Str} {t u : Tok} {code : Array Nat} (find : Nat → Option (Nat × Nat)) {Q : Value → Shared → Prop} (F₁ : Fr h₀ L s.heap m) (N : News h₀ L s.heap news) (P : PatAt h₀ a code)
    (hx : x.cps.size ≤ 100000) (hr : r.cps.size ≤ 2) (hlit : r.cps.contains 92 = false)
    (hf : ∀ p, p ≤ x.cps.size → Gets (forSearch code x.cps 0 p x.cps.size false) (find p)) (hb : ∀ p a b, p ≤ x.cps.size → find p = some (a, b) → p ≤ a ∧ a < b ∧ b ≤ x.cps.size)
    (hQ : ∀ t' h' tk', Fr h₀ L h' m → News h₀ L h' news → Q (.str ⟨(subF find x.cps.toList r.cps.toList x.cps.size 0).toArray⟩ t') { s with heap := h', toks := tk' }) :
    wpAny (model prog w) A (call (.builtin "re.Pattern.sub") [.ref a, .str r u, .str x t]) Q E s := by
  have P' := P.keeps F₁.keep
  obtain ⟨o, fs, c, oc, ws, n, t2, t6, h1, h2, h3, h4, _⟩ := id P'.ex
  refine wpAny_call (codeAny_call_builtin F.slot_sub.plain F.entry_sub (F.slot_sub.check _ _ _ _ _ _ _ _ ⟨o, h1, h2⟩ (F.args_sub _ _ _) ?_))
  show wpAny _ A.in1 (reSubstitute "re.Pattern.sub" "sub" false ⟨[.ref a, .str r u, .str x t], []⟩) _ _ s
  unfold reSubstitute
  dsimp only
  rw [F.named_sub]
  refine wpAny_bind (wpAny_pure ?_)
  dsimp only
  refine wpAny_bind (wpAny_pure ?_)
  refine wpAny_bind (wpAny_specialOf (typeIs_str _ _ _) F.str_call ?_)
  simp only [Option.isSome_none, Bool.false_eq_true, if_false]
  refine wpAny_bind (m := asStr? (.str r u)) (wpAny_pure ?_)
  dsimp only
  rw [hlit]
  refine wpAny_bind (wpAny_pure ?_)
  simp only [Bool.not_false, if_true]
  refine wpAny_bind (wpAny_pure ?_)
  refine wpAny_bind (wpAny_holding (wp_target P' ?_))
  rw [if_neg (by simp)]
  refine wpAny_bind (newList_K F₁ N fun q h' F' N' hlt => ?_)
  have hN := N' (q, listOf #[] 0) (.head _)
  refine wpAny_pure ⟨plainId_quiet F.plain_loop _, ?_⟩
  refine loop_any (h₁ := h₀) find hx hr P hN.2.2 hf hb x.cps.size 0 0 _ #[] 0 [] (by omega) (by omega) F'.keep hN.1 .nil (by simp) (by simp) fun v t' h'' tk' hv hkp => ?_
  obtain ⟨F2, N2⟩ := fr_but F' N' hkp hlt
  rw [hv]
  exact hQ t' h'' tk' F2 N2

theorem eol_call {a : Addr} {x : Str} {t u : Tok} {Q : Value → Shared → Prop} (F₁ : Fr h₀ L s.heap m) (N : News h₀ L s.heap news) (P : PatAt h₀ a code2) (hx : x.length ≤ 100000)
    (hQ : ∀ t' h' tk', Fr h₀ L h' m → News h₀ L h' news → Q (.str (eolP x) t') { s with heap := h', toks := tk' }) :
    wpAny (model prog w) A (call (.builtin "re.Pattern.sub") [.ref a, .str (Str.ofString "\r\n") u, .str x t]) Q E s := by
  have e : (Str.ofString "\r\n").cps.toList = [13, 10] := by decide +kernel
  refine sub_call (find2 x.cps) F₁ N P hx (by decide +kernel) (by decide +kernel) (fun p _ => gets2) (fun p a b _ h => bound2 h) fun t' h' tk' F2 N2 => ?_
  rw [e, sub2_eq _ _ (by omega), List.drop_zero]
  exact hQ t' h' tk' F2 N2
theorem dot_call {a : Addr} {x : Str} {t u : Tok} {Q : Value → Shared → Prop} (F₁ : Fr h₀ L s.heap m) (N : News h₀ L s.heap news) (P : PatAt h₀ a code1) (hx : x.length ≤ 100000)
    (hQ : ∀ t' h' tk', Fr h₀ L h' m → News h₀ L h' news → Q (.str (dotP x) t') { s with heap := h', toks := tk' }) :
    wpAny (model prog w) A (call (.builtin "re.Pattern.sub") [.ref a, .str (Str.ofString "..") u, .str x t]) Q E s := by
  have e : (Str.ofString "..").cps.toList = [46, 46] := by decide +kernel
  refine sub_call (find1 x.cps) F₁ N P hx (by decide +kernel) (by decide +kernel) (fun p _ => gets1 hx) (fun p a b _ h => bound1 h) fun t' h' tk' F2 N2 => ?_
  rw [e, sub1_eq _ _ (by omega) (by omega), List.drop_zero]
  exact hQ t' h' tk' F2 N2
end
end RX
end Mine
end

section
open PySem PySem.W PyProof.Rows PySem.Calls
set_option maxRecDepth 100000
namespace Mine
namespace MB
open Sem (wp)

/-- a call of map's next lies on the stack, no frame of Python's above it -/
def Blk (l : List Code) : Prop := ∃ pre a post, l = pre ++ Code.builtin "map.__next__" a :: post ∧ ∀ d ∈ pre, d.env?.isNone = true
theorem Blk.cons {l : List Code} {c : Code} (h : Blk l) (hc : c.env?.isNone = true) : Blk (c :: l) := by
  obtain ⟨pre, a, post, rfl, hp⟩ := h
  exact ⟨c :: pre, a, post, rfl, fun d hd => by rcases List.mem_cons.mp hd with rfl | hd; exact hc; exact hp d hd⟩
theorem takeWhile_pre {p : Code → Bool} : ∀ (pre : List Code) (c : Code) (post : List Code), (∀ d ∈ pre, p d = true) → p c = true → c ∈ (pre ++ c :: post).takeWhile p
  | [], c, post, _, hc => by simp [hc]
  | d :: pre, c, post, h, hc => by
    rw [List.cons_append, List.takeWhile_cons, if_pos (h d (.head _))]
    exact .tail _ (takeWhile_pre pre c post (fun e he => h e (.tail _ he)) hc)
theorem Blk.no {l : List Code} (h : Blk l) : pythonCodeMadeTheCall ["int.__new__"] l = false := by
  obtain ⟨pre, a, post, rfl, hp⟩ := h
  have hm := takeWhile_pre (p := (·.env?.isNone)) pre (Code.builtin "map.__next__" a) post hp rfl
  unfold pythonCodeMadeTheCall
  rw [Bool.and_eq_false_iff]
  refine .inr ?_
  rw [List.all_eq_false]
  exact ⟨_, hm, by simp⟩

def wpB {α : Type} (M : Model) (A : Around) (t : Sem α) (Q : α → Shared → Prop) (E : Value → Shared → Prop) (s : Shared) : Prop :=
  ∀ Γ p, Γ.In A → Blk (Γ.code :: Γ.below.map (·.1)) → wp M Γ t (fun a _ s' => Q a s') (fun e _ s' => E e s') p s
def codeB (M : Model) (A : Around) (c : Code) (R : Result → Shared → Prop) (s : Shared) : Prop :=
  ∀ Γ p, Γ.code = c → Γ.Below A → Blk (Γ.below.map (·.1)) → wpCode M Γ R p s

section
variable {α β : Type} {M : Model} {A : Around} {E : Value → Shared → Prop} {s : Shared}
theorem wpB_of {t : Sem α} {Q : α → Shared → Prop} (h : wpAny M A t Q E s) : wpB M A t Q E s := fun Γ p hΓ _ => h Γ p hΓ
theorem wpB_pure {a : α} {Q : α → Shared → Prop} (h : Q a s) : wpB M A (pure a) Q E s := wpB_of (wpAny_pure h)
theorem wpB_bind {m : Sem α} {f : α → Sem β} {Q : β → Shared → Prop} (h : wpB M A m (fun a s' => wpB M A (f a) Q E s') E s) : wpB M A (m >>= f) Q E s :=
  fun Γ p hΓ hb => by
    rw [Sem.wp_bind']
    exact Sem.wp_mono M Γ m (fun a p' s' h' => h' Γ p' hΓ hb) (fun _ _ _ h' => h') p s (h Γ p hΓ hb)
theorem wpB_mono {t : Sem α} {Q Q' : α → Shared → Prop} {E' : Value → Shared → Prop} (h : wpB M A t Q E s) (hQ : ∀ a s, Q a s → Q' a s) (hE : ∀ e s, E e s → E' e s) : wpB M A t Q' E' s :=
  fun Γ p hΓ hb => Sem.wp_mono M Γ t (fun a _ s => hQ a s) (fun e _ s => hE e s) p s (h Γ p hΓ hb)
/-- a step that is known by a plain rule, then the rest -/
theorem wpB_step {m : Sem α} {f : α → Sem β} {Q : β → Shared → Prop} (h : wpAny M A m (fun a s' => wpB M A (f a) Q E s') E s) : wpB M A (m >>= f) Q E s := wpB_bind (wpB_of h)
theorem wpB_holding {vs : List Value} {m : Sem α} {Q : α → Shared → Prop} (h : wpB M A m Q E s) : wpB M A (holding vs m) Q E s :=
  fun Γ p hΓ hb => by rw [Sem.wp_holding]; exact h Γ p hΓ hb
theorem wpB_stack {Q : List (Code × Pos) → Shared → Prop} (h : ∀ st, Blk (st.map (·.1)) → Q st s) : wpB M A stack Q E s := fun Γ p _ hb => by
  show Q ((Γ.code, p) :: Γ.below) s
  exact h _ hb
theorem wpB_call {f : Value} {pos : List Value} {kw : List (Str × Value)} {Q : Value → Shared → Prop}
    (hc : codeB M A (.call f ⟨pos, kw⟩) (fun r s' => match r with | .ok (.ret v) => Q v s' | .ok _ => False | .error e => E e s') s) : wpB M A (call f pos kw) Q E s :=
  fun Γ p hΓ hb => by
    unfold call
    rw [Sem.wp_runValue]
    exact hc _ p rfl (hΓ.enter _ none p (by intro x; cases x)) hb
theorem codeB_of_tree {c : Code} {R : Result → Shared → Prop} (hne : c.env?.isNone = true)
    (h : wpB M (A.under c) (M.den c) (fun fin s' => match fin with | .done f => R (.ok f) s' | .again c' => c'.quiet = true ∧ codeB M A c' R s') (fun e s' => R (.error e) s') s) : codeB M A c R s := fun Γ p hc hΓ hb => by
  rw [wpCode_iff_wp, hc]
  refine Sem.wp_mono M Γ _ (fun fin p' s' h' => ?_) (fun _ _ _ h' => h') p s (h Γ p (hc ▸ hΓ.in) (by rw [hc]; exact hb.cons hne))
  cases fin with
  | done f => exact h'
  | again c' => exact ⟨h'.1, h'.2 (Γ.goto c') p' rfl (hΓ.goto c') hb⟩
theorem codeB_of {c : Code} {R : Result → Shared → Prop} (h : codeAny M A c R s) : codeB M A c R s := fun Γ p hc hΓ _ => h Γ p hc hΓ
theorem codeB_mono {c : Code} {R R' : Result → Shared → Prop} (h : codeB M A c R s) (hR : ∀ r s, R r s → R' r s) : codeB M A c R' s :=
  fun Γ p hc hΓ hb => wpCode_mono hR (h Γ p hc hΓ hb)
end

section
variable {prog : Program} {w : World} {A : Around} {E : Value → Shared → Prop} {s : Shared} {R : Result → Shared → Prop}
theorem codeB_builtin {id : String} {args : Args} {b : Builtin} (hb : entryFor table id = some b)
    (h : wpB (model prog w) (A.under (.builtin id args)) (b args)
      (fun fin s' => match fin with | .done f => R (.ok f) s' | .again c' => c'.quiet = true ∧ codeB (model prog w) A c' R s') (fun e s' => R (.error e) s') s) :
    codeB (model prog w) A (.builtin id args) R s := by
  refine codeB_of_tree rfl ?_
  show wpB _ _ (match entryFor table id with | some b => b args | none => unsupported ((withoutEnding? id "#data").getD id)) _ _ s
  rw [hb]; exact h

theorem den_builtin {id : String} {args : Args} {b : Builtin} (hb : entryFor table id = some b) : (model prog w).den (.builtin id args) = b args := by
  show (match entryFor table id with | some b => b args | none => unsupported ((withoutEnding? id "#data").getD id)) = _
  rw [hb]

namespace F
theorem entry_next : entryFor table "map.__next__" = some Builtin.«map.__next__» := entryFor_of_tree (by kernel_rfl)
theorem slot_next : Slot "map" "__next__" "map.__next__" :=
  .of (owner := "map") (n := "__next__") (by rw [typeLookup_type, builtinLookup_eq_fast]; kernel_rfl) (by decide +kernel) (by decide +kernel) (by decide +kernel)
    (by first | exact .inl (by decide +kernel) | exact .inr (by decide +kernel)) (by rw [isSubtype_type]; kernel_rfl)
theorem args_next (a : Value) : argsOk "map.__next__" ⟨[a], []⟩ := by unfold argsOk; kernel_rfl
end F

/-- the call of map's next: its body under the block -/
theorem call_next {mm : Addr} {Q : Value → Shared → Prop} (hT : s.TypeIs (.ref mm) "map")
    (h : wpB (model prog w) A.in1 (Builtin.«map.__next__» ⟨[.ref mm], []⟩) (fun fin s' => ∃ v, fin = .done (.ret v) ∧ Q v s') E s) :
    wpAny (model prog w) A (call (.builtin "map.__next__") [.ref mm]) Q E s := by
  refine wpAny_call (codeAny_of_tree ?_)
  show wpAny _ A.in1 (do checkBuiltinCall "map.__next__" ⟨[.ref mm], []⟩; again (.builtin "map.__next__" ⟨[.ref mm], []⟩)) _ _ s
  refine wpAny_bind (F.slot_next.check _ _ _ _ _ _ _ _ hT (F.args_next _) (wpAny_pure ⟨plainId_quiet F.slot_next.plain _, fun Γ p hc hΓ => ?_⟩))
  rw [wpCode_iff_wp, hc]
  rw [den_builtin F.entry_next]
  have hin : Γ.In A.in1 := by
    have := hΓ.in
    rw [hc] at this
    rwa [Around.under_plainId F.slot_next.plain _] at this
  refine Sem.wp_mono _ Γ _ (fun fin p' s' h' => ?_) (fun _ _ _ h' => h') p s (h Γ p hin ⟨[], _, _, by rw [hc]; rfl, fun _ h => nomatch h⟩)
  obtain ⟨v, rfl, hv⟩ := h'
  exact hv


theorem wpB_ite_true {α : Type} {M : Model} {c : Prop} [Decidable c] {a b : Sem α} {Q : α → Shared → Prop} (hc : c) (h : wpB M A a Q E s) : wpB M A (if c then a else b) Q E s := by rw [if_pos hc]; exact h
theorem wpB_ite_false {α : Type} {M : Model} {c : Prop} [Decidable c] {a b : Sem α} {Q : α → Shared → Prop} (hc : ¬ c) (h : wpB M A b Q E s) : wpB M A (if c then a else b) Q E s := by rw [if_neg hc]; exact h

def Plain (y : Str) : Prop := ∀ c ∈ y.cps.toList, 0 < c ∧ c < 128
theorem Plain.text {y : Str} (h : Plain y) : numTextOf y = y.cps.toList := by
  unfold numTextOf
  rw [if_pos]
  rw [Array.all_eq_true_iff_forall_mem]
  intro c hc
  exact decide_eq_true (h c (Array.mem_toList_iff.mpr hc)).2
theorem Plain.seen {y : Str} (h : Plain y) : numSeenOf y = y.cps.toList := by
  unfold numSeenOf
  rw [h.text]
  exact NumText.takeWhile_all fun c hc => by have := h c hc; simp; omega
theorem seen_all {y : Str} (h : Plain y) : ((numSeenOf y).length == (numTextOf y).length) = true := by
  rw [h.seen, h.text]; exact beq_self_eq_true _
theorem reprFits {y : Str} (hy : y.length ≤ 640) (h : Plain y) : (reprText y).length ≤ sizeLine := by
  have := StrLaws.reprText_len y fun c hc => Nat.lt_of_lt_of_le (h c hc).2 (by decide)
  rw [sizeLine_eq]
  omega
theorem msgFits (x : Str) : (Str.ofString (toString "invalid literal for int() with base " ++ toString 10 ++ toString ": ") ++ (⟨x.cps.extract 0 200⟩ : Str)).length ≤ sizeLine := by
  rw [Str.length_append, sizeLine_eq]
  have e1 : (Str.ofString (toString "invalid literal for int() with base " ++ toString 10 ++ toString ": ")).length = 40 := by decide +kernel
  have e2 : (⟨x.cps.extract 0 200⟩ : Str).length = (x.cps.extract 0 200).size := rfl
  rw [e1, e2, Array.size_extract]
  omega

open PySem.NumText in
theorem wp_refuse {y : Str} {t : Tok} {Q : Value → Shared → Prop} (hh : A.handled = none) (hy : y.length ≤ 640) (hc : Plain y) (hn : PySem.intText? y = none)
    (hE : ∀ h' tk e, Heap.NewExc s.heap h' e "ValueError" → E (.ref e) { s with heap := h', toks := tk }) :
    wpB (model prog w) A ((int_private% "intFromText") (.str y t) (numTextOf y) 10) Q E s := by
  have hs : (numSeenOf y).length ≤ 640 := Nat.le_trans (seen_length y) hy
  refine wpB_ite_true hs ?_
  refine wpB_step (wpAny_pure ?_)
  dsimp only
  rcases read0 y hs with ⟨m, h1, _⟩ | ⟨_, h1⟩
  · rw [hn] at h1; cases h1
  · rcases h1 with h1 | ⟨i, h1, h2⟩
    · rw [h1]
      dsimp only
      refine wpB_step (wpAny_pure ?_)
      refine wpB_ite_false (by simp) ?_
      refine wpB_step (wpAny_rule ?_)
      refine wpB_step (wpAny_pure ?_)
      dsimp only
      refine wpB_step (wpAny_pyRepr_str ?_ (reprFits hy hc))
      refine wpB_step (wpAny_mkStr ?_ (msgFits _))
      refine wpB_step (wpAny_newExc_plain plainExc_ValueError fun h' e hx => ?_)
      refine wpB_bind ?_
      unfold markTheRefusal
      refine wpB_bind (wpB_stack fun st hb => ?_)
      refine wpB_ite_false (by rw [hb.no]; exact Bool.false_ne_true) (wpB_pure ?_)
      exact wpB_of (wpAny_raiseNew_none hh (hE _ _ _ hx.newExc))
    · exact absurd (seen_all hc) h2

theorem int_new_fail {y : Str} {t : Tok} {Q : Fin → Shared → Prop} (hh : A.handled = none) (hy : y.length ≤ 640) (hc : Plain y) (hn : PySem.intText? y = none)
    (hE : ∀ h' tk e, Heap.NewExc s.heap h' e "ValueError" → E (.ref e) { s with heap := h', toks := tk }) :
    wpB (model prog w) A (Builtin.«int.__new__» ⟨[.type "int", .str y t], []⟩) Q E s := by
  have f1 := PySem.F.conv_sub_int
  have f2 := PySem.F.madeHere_int
  have f3 := KIN.str_int
  have f4 := KIN.str_idx
  have f5 := KIN.str_trunc
  unfold Builtin.«int.__new__»
  dsimp only
  refine wpB_step (wpAny_pure ?_)
  refine wpB_ite_false (by decide) ?_
  refine wpB_step (wpAny_of_eq f1 ?_)
  refine wpB_ite_false (by decide) ?_
  refine wpB_step (wpAny_of_eq f2 ?_)
  refine wpB_ite_false (by simp) ?_
  refine wpB_ite_false (by simp) ?_
  refine wpB_step (wpAny_pure ?_)
  dsimp only [List.head?]
  refine wpB_bind ?_
  have none_special : ∀ {nm : Str} {Q' : Option Value → Shared → Prop}, typeLookup (Value.type "str") nm = pure none → Q' none s → wpAny (model prog w) A (callSpecial? (.str y t) nm) Q' E s := by
    intro nm Q' hl hq
    unfold callSpecial?
    refine wpAny_bind (wpAny_specialOf (typeIs_str _ _ _) hl ?_)
    exact wpAny_pure hq
  refine wpB_step (m := callSpecial? (.str y t) (Str.ofString "__int__")) (none_special f3 ?_)
  dsimp only
  refine wpB_step (m := specialOf (.str y t) (Str.ofString "__index__")) (wpAny_specialOf (typeIs_str _ _ _) f4 ?_)
  refine wpB_ite_false (by simp) ?_
  refine wpB_step (m := specialOf (.str y t) (Str.ofString "__trunc__")) (wpAny_specialOf (typeIs_str _ _ _) f5 ?_)
  dsimp only
  refine wpB_step (m := (int_private% "numeralText?") (.str y t)) (wpAny_pure (a := some (numTextOf y)) ?_)
  dsimp only
  exact wpB_mono (wp_refuse (Q := fun _ _ => False) hh hy hc hn hE) (fun _ _ x => x.elim) fun _ _ x => x

/-- int of a text that is no number, called from map's next: it raises -/
theorem int_fail {y : Str} {t : Tok} {Q : Value → Shared → Prop} (hh : A.handled = none) (hy : y.length ≤ 640) (hc : Plain y) (hn : PySem.intText? y = none)
    (hE : ∀ h' tk e, Heap.NewExc s.heap h' e "ValueError" → E (.ref e) { s with heap := h', toks := tk }) :
    wpB (model prog w) A (call (.type "int") [.str y t]) Q E s := by
  have ft := PySem.F.called_int
  obtain ⟨c, tl, hmro⟩ := ft.mro
  have hmade := ft.made
  have hcan := ft.canCreate
  have hct := PySem.F.typeCall_int_1 (.str y t)
  refine wpB_call (codeB_of_tree rfl ?_)
  show wpB _ _ (callAny (.type "int") _) _ _ _
  refine wpB_pure ⟨Code.quiet_builtin _ (by decide +kernel), codeB_builtin PySem.F.entry_type_call ?_⟩
  rw [Around.under_plain (weight_type_call_type "int" [.str y t] []) rfl]
  unfold Builtin.«type.__call__»
  dsimp only
  refine wpB_ite_false (by decide) ?_
  refine wpB_ite_false (by rw [hcan]; exact Bool.false_ne_true) ?_
  refine wpB_step (wpAny_of_eq hct ?_)
  refine wpB_step (wpAny_of_eq hmro ?_)
  refine wpB_ite_false (by simp) ?_
  refine wpB_step (wpAny_of_eq hmade ?_)
  dsimp only
  refine wpB_step (wpAny_pure ?_)
  refine wpB_bind (wpB_holding (wpB_call (codeB_of_tree rfl ?_)))
  show wpB _ A.in1.in1 (do checkBuiltinCall "int.__new__" ⟨[.type "int", .str y t], []⟩; again (.builtin "int.__new__" ⟨[.type "int", .str y t], []⟩)) _ _ s
  have pl : plainId "int.__new__" = true := by decide +kernel
  refine wpB_step (wpAny_of_eq (PySem.F.newCall_int_1 _) (wpB_pure ⟨plainId_quiet pl _, codeB_builtin PySem.F.entry_int_new ?_⟩))
  rw [Around.under_plainId pl _]
  exact int_new_fail hh hy hc hn hE
end
end MB
end Mine
end

section
open PySem PySem.W PyProof.Rows PySem.Calls
set_option maxRecDepth 100000
namespace Mine
namespace MB
open Builtin.SmallTypes (nextOf)

section
variable {prog : Program} {w : World} {A : Around} {E : Value → Shared → Prop} {s : Shared}

theorem next_body {mm it tup : Addr} {f : Value} {om ot : Obj} {n : Nat} {Q : Fin → Shared → Prop} (hm : s.heap.get? mm = some om) (hd : om.data = .fields #[.ref tup, f])
    (ht : s.heap.get? tup = some ot) (htd : ot.data = .seq #[.ref it] n)
    (h : wpB (model prog w) A (nextOf (.ref it)) (fun x s₁ => s₁.heap.get? mm = some om ∧ wpB (model prog w) A (call f [x]) (fun r s₂ => Q (.done (.ret r)) s₂) E s₁) E s) :
    wpB (model prog w) A (Builtin.«map.__next__» ⟨[.ref mm], []⟩) Q E s := by
  unfold Builtin.«map.__next__»
  refine wpB_step (wpAny_pure ?_)
  dsimp only
  refine wpB_step (wpAny_field hm hd (x := .ref tup) rfl ?_)
  refine wpB_step (wpAny_seqItems ht htd ?_)
  dsimp only
  have e : ∀ (F : Value → Array Value → Sem (ForInStep (Array Value))), forIn (#[Value.ref it] : Array Value) (#[] : Array Value) F = F (.ref it) #[] >>= fun r => match r with | .done b => pure b | .yield b => pure b := by
    intro F
    show forIn (List.toArray [Value.ref it]) (#[] : Array Value) F = _
    rw [List.forIn_toArray, List.forIn_cons]
    congr 1
    funext r
    cases r <;> rfl
  rw [e]
  refine wpB_bind (wpB_bind (wpB_bind (wpB_holding (wpB_mono h (fun x s₁ hx => ?_) fun _ _ e => e))))
  refine wpB_pure ?_
  dsimp only
  refine wpB_pure ?_
  refine wpB_step (wpAny_field hx.1 hd (x := f) rfl ?_)
  refine wpB_bind (wpB_holding (wpB_mono hx.2 (fun r s₂ hr => ?_) fun _ _ e => e))
  refine wpB_step (wpAny_letGo ?_)
  exact wpB_pure hr

/-- next of a map object, by the block -/
theorem next_map {mm it tup : Addr} {f : Value} {om ot : Obj} {n : Nat} {Q : Option Value → Shared → Prop} (hm : s.heap.get? mm = some om) (hc : om.cls = .type "map") (hd : om.data = .fields #[.ref tup, f])
    (ht : s.heap.get? tup = some ot) (htd : ot.data = .seq #[.ref it] n)
    (h : wpB (model prog w) A.in1 (nextOf (.ref it)) (fun x s₁ => s₁.heap.get? mm = some om ∧ wpB (model prog w) A.in1 (call f [x]) (fun r s₂ => Q (some r) s₂) E s₁) E s) :
    wpAny (model prog w) A (callSpecial? (.ref mm) "__next__") Q E s := by
  refine wpAny_callSpecial?_slot (name := Str.ofString "__next__") ⟨om, hm, hc⟩ F.slot_next (call_next ⟨om, hm, hc⟩ (next_body hm hd ht htd (wpB_mono h (fun x s₁ hx => ?_) fun _ _ e => e)))
  exact ⟨hx.1, wpB_mono hx.2 (fun r s₂ hr => ⟨r, rfl, hr⟩) fun _ _ e => e⟩

abbrev tupO (v : Value) : Obj := { cls := .type "tuple", data := .seq #[v] }
abbrev mapO (tp : Addr) (f : Value) : Obj := { cls := .type "map", data := .fields #[.ref tp, f] }

/-- str over int over the list -/
structure Chain (l it t1 m1 t2 m2 : Addr) (items : Array Value) (i : Nat) (h : Heap) : Prop where
  iter : h.IsListIter it l i
  lst : h.IsList l items
  ht1 : h.get? t1 = some (tupO (.ref it))
  hm1 : h.get? m1 = some (mapO t1 (.type "int"))
  ht2 : h.get? t2 = some (tupO (.ref m1))
  hm2 : h.get? m2 = some (mapO t2 (.type "str"))
theorem Chain.ne {l it t1 m1 t2 m2 : Addr} {items : Array Value} {i : Nat} {h : Heap} (c : Chain l it t1 m1 t2 m2 items i h) : l ≠ it ∧ t1 ≠ it ∧ m1 ≠ it ∧ t2 ≠ it ∧ m2 ≠ it := by
  obtain ⟨o, ho, hc, hd⟩ := c.iter
  have clash : ∀ b o', h.get? b = some o' → o'.cls ≠ .type "list_iterator" → b ≠ it := by
    intro b o' hb hne e
    rw [e, ho] at hb
    cases hb
    exact hne hc
  obtain ⟨ol, hol, hlc, _⟩ := c.lst
  exact ⟨clash _ _ hol (by rw [hlc]; decide), clash _ _ c.ht1 (by show Value.type _ ≠ Value.type _; decide), clash _ _ c.hm1 (by show Value.type _ ≠ Value.type _; decide), clash _ _ c.ht2 (by show Value.type _ ≠ Value.type _; decide), clash _ _ c.hm2 (by show Value.type _ ≠ Value.type _; decide)⟩
theorem Chain.move {l it t1 m1 t2 m2 : Addr} {items : Array Value} {i j : Nat} {h h' : Heap} (c : Chain l it t1 m1 t2 m2 items i h) (hk : ∀ b o, b ≠ it → h.get? b = some o → h'.get? b = some o) (hi : h'.IsListIter it l j) :
    Chain l it t1 m1 t2 m2 items j h' := by
  obtain ⟨a1, a2, a3, a4, a5⟩ := c.ne
  exact ⟨hi, c.lst.at fun o e => hk _ o a1 e, hk _ _ a2 c.ht1, hk _ _ a3 c.hm1, hk _ _ a4 c.ht2, hk _ _ a5 c.hm2⟩
theorem Chain.keeps {l it t1 m1 t2 m2 : Addr} {items : Array Value} {i : Nat} {h h' : Heap} (c : Chain l it t1 m1 t2 m2 items i h) (hk : ∀ b o, h.get? b = some o → h'.get? b = some o) :
    Chain l it t1 m1 t2 m2 items i h' :=
  ⟨c.iter.at fun o e => hk _ o e, c.lst.at fun o e => hk _ o e, hk _ _ c.ht1, hk _ _ c.hm1, hk _ _ c.ht2, hk _ _ c.hm2⟩

section
variable {l it t1 m1 t2 m2 : Addr} {items : Array Value} {i : Nat}

theorem next1_item {y : Str} {t : Tok} {k : Int} {Q : Value → Shared → Prop} (c : Chain l it t1 m1 t2 m2 items i s.heap) (hx : items[i]? = some (.str y t)) (hl : y.length ≤ 640) (hn : PySem.intText? y = some k)
    (h : ∀ h', Chain l it t1 m1 t2 m2 items (i + 1) h' → (∀ b o, b ≠ it → s.heap.get? b = some o → h'.get? b = some o) → Q (.int k s.toks) { s with heap := h', toks := s.toks + 1 }) :
    wpAny (model prog w) A (nextOf (.ref m1)) Q E s := by
  unfold nextOf
  refine wpAny_bind (next_map c.hm1 rfl rfl c.ht1 rfl (wpB_of (wpAny_nextOf_list_item c.iter c.lst hx fun h' hit hs => ?_)))
  have hk : ∀ b o, b ≠ it → s.heap.get? b = some o → h'.get? b = some o := fun b o hb e => hs.extBut b o hb e
  have c' := c.move hk hit
  exact ⟨c'.hm1, wpB_of (KIN.call_text hn hl (wpAny_pure (h h' c' hk)))⟩
theorem next1_fail {y : Str} {t : Tok} {Q : Value → Shared → Prop} (hh : A.handled = none) (c : Chain l it t1 m1 t2 m2 items i s.heap) (hx : items[i]? = some (.str y t)) (hl : y.length ≤ 640) (hp : Plain y) (hn : PySem.intText? y = none)
    (hE : ∀ h₁ h' tk e, (∀ b o, b ≠ it → s.heap.get? b = some o → h₁.get? b = some o) → Heap.NewExc h₁ h' e "ValueError" → E (.ref e) { s with heap := h', toks := tk }) :
    wpAny (model prog w) A (nextOf (.ref m1)) Q E s := by
  unfold nextOf
  refine wpAny_bind (next_map c.hm1 rfl rfl c.ht1 rfl (wpB_of (wpAny_nextOf_list_item c.iter c.lst hx fun h' hit hs => ?_)))
  have hk : ∀ b o, b ≠ it → s.heap.get? b = some o → h'.get? b = some o := fun b o hb e => hs.extBut b o hb e
  have c' := c.move hk hit
  exact ⟨c'.hm1, int_fail hh hl hp hn fun h'' tk e hx => hE h' h'' tk e hk hx⟩
theorem next1_end {Q : Value → Shared → Prop} (hh : A.handled = none) (c : Chain l it t1 m1 t2 m2 items i s.heap) (hx : items[i]? = none)
    (hE : ∀ h' e, (∀ b o, b ≠ it → s.heap.get? b = some o → h'.get? b = some o) → (∃ o, h'.get? e = some o ∧ o.cls = .type "StopIteration") → E (.ref e) { s with heap := h' }) :
    wpAny (model prog w) A (nextOf (.ref m1)) Q E s := by
  unfold nextOf
  exact wpAny_bind (next_map c.hm1 rfl rfl c.ht1 rfl (wpB_of (wpAny_nextOf_list_end hh c.iter c.lst hx fun h' e hs he => hE h' e (fun b o hb q => hs b o hb q) he)))

theorem next2_item {y : Str} {t : Tok} {k : Int} {Q : Option Value → Shared → Prop} (c : Chain l it t1 m1 t2 m2 items i s.heap) (hx : items[i]? = some (.str y t)) (hl : y.length ≤ 640) (hn : PySem.intText? y = some k) (hk : k.natAbs.log2 < 1920)
    (h : ∀ h' t' tk, Chain l it t1 m1 t2 m2 items (i + 1) h' → (∀ b o, b ≠ it → s.heap.get? b = some o → h'.get? b = some o) → Q (some (.str (Str.ofString (toString k)) t')) { s with heap := h', toks := tk }) :
    wpAny (model prog w) A (pyNext (.ref m2)) Q E s := by
  unfold pyNext
  refine wpAny_bind (wpAny_attempt (next_map c.hm2 rfl rfl c.ht2 rfl (wpB_of (next1_item c hx hl hn fun h' c' hk' => ?_))))
  exact ⟨c'.hm2, wpB_of (P.str_of_int hk (wpAny_pure (h h' _ _ c' hk')))⟩
theorem next2_fail {y : Str} {t : Tok} {Q : Option Value → Shared → Prop} (hh : A.handled = none) (c : Chain l it t1 m1 t2 m2 items i s.heap) (hx : items[i]? = some (.str y t)) (hl : y.length ≤ 640) (hp : Plain y) (hn : PySem.intText? y = none)
    (hE : ∀ h₁ h' tk e, (∀ b o, b ≠ it → s.heap.get? b = some o → h₁.get? b = some o) → Heap.NewExc h₁ h' e "ValueError" → E (.ref e) { s with heap := h', toks := tk }) :
    wpAny (model prog w) A (pyNext (.ref m2)) Q E s := by
  unfold pyNext
  refine wpAny_bind (wpAny_attempt (next_map c.hm2 rfl rfl c.ht2 rfl (wpB_of (next1_fail hh c hx hl hp hn fun h₁ h' tk e hk hx => ?_))))
  obtain ⟨ob, _, ho, hcls, _⟩ := hx.there
  refine wpAny_bind (wpAny_isInstance (T := "ValueError") (b := false) ⟨_, ho, hcls⟩ (by rw [isSubtype_type]; kernel_rfl) ?_)
  exact wpAny_throw (hE h₁ h' tk e hk hx)
theorem next2_end {Q : Option Value → Shared → Prop} (hh : A.handled = none) (c : Chain l it t1 m1 t2 m2 items i s.heap) (hx : items[i]? = none)
    (h : ∀ h', (∀ b o, b ≠ it → s.heap.get? b = some o → h'.get? b = some o) → Q none { s with heap := h' }) :
    wpAny (model prog w) A (pyNext (.ref m2)) Q E s := by
  unfold pyNext
  refine wpAny_bind (wpAny_attempt (next_map c.hm2 rfl rfl c.ht2 rfl (wpB_of (next1_end hh c hx fun h' e hk he => ?_))))
  obtain ⟨ob, ho, hcls⟩ := he
  refine wpAny_bind (wpAny_isInstance (T := "StopIteration") (b := true) ⟨_, ho, hcls⟩ isSubtype_stop ?_)
  exact wpAny_pure (h h' hk)
end
end
end MB
end Mine
end

section
open PySem PySem.W PyProof.Rows PySem.Calls
set_option maxRecDepth 100000
namespace Mine
namespace MB
open Builtin.SmallTypes (nextOf)

def canonT (y : Str) : Str := match PySem.intText? y with
  | some k => Str.ofString (toString k)
  | none => y
def isNum (y : Str) : Bool := (PySem.intText? y).isSome

theorem strsAt {vs : List Value} {ys : List Str} (h : StrsAre vs ys) : ∀ {i : Nat} {y : Str}, ys[i]? = some y → ∃ t, vs[i]? = some (.str y t) := by
  induction h with
  | nil => intro i y e; simp at e
  | cons z u _ ih =>
    intro i y e
    cases i with
    | zero => simp only [List.getElem?_cons_zero, Option.some.injEq] at e; subst e; exact ⟨u, rfl⟩
    | succ i => simp only [List.getElem?_cons_succ] at e ⊢; exact ih e
theorem strsSnoc {vs : List Value} {ys : List Str} {y : Str} {t : Tok} (h : StrsAre vs ys) : StrsAre (vs ++ [.str y t]) (ys ++ [y]) := by
  induction h with
  | nil => exact .cons y t .nil
  | cons z u _ ih => exact .cons z u ih

section
variable {prog : Program} {w : World} {A : Around} {E : Value → Shared → Prop} {l it t1 m1 t2 m2 : Addr} {items : Array Value} {R : Result → Shared → Prop}

theorem Chain.upd {i : Nat} {h : Heap} {S : Addr} {acc : Array Value} {c : Nat} {f : Obj → Obj} (C : Chain l it t1 m1 t2 m2 items i h) (hS : h.get? S = some (listOf acc c)) (hSl : S ≠ l) :
    S ≠ it ∧ Chain l it t1 m1 t2 m2 items i (h.update S f) := by
  have clash : ∀ b o', h.get? b = some o' → o'.cls ≠ .type "list" → S ≠ b := by
    intro b o' hb hne e
    rw [← e, hS] at hb
    cases hb
    exact hne rfl
  obtain ⟨o, ho, hc, hd⟩ := C.iter
  have n0 := clash _ _ ho (by rw [hc]; decide)
  have n1 := clash _ _ C.ht1 (by show Value.type _ ≠ Value.type _; decide)
  have n2 := clash _ _ C.hm1 (by show Value.type _ ≠ Value.type _; decide)
  have n3 := clash _ _ C.ht2 (by show Value.type _ ≠ Value.type _; decide)
  have n4 := clash _ _ C.hm2 (by show Value.type _ ≠ Value.type _; decide)
  exact ⟨n0, C.iter.at fun o e => (Heap.get?_update_other _ _ n0).trans e, C.lst.at fun o e => (Heap.get?_update_other _ _ hSl).trans e, (Heap.get?_update_other _ _ n1).trans C.ht1, (Heap.get?_update_other _ _ n2).trans C.hm1,
    (Heap.get?_update_other _ _ n3).trans C.ht2, (Heap.get?_update_other _ _ n4).trans C.hm2⟩

theorem extend_loop (hh : A.handled = none) {S : Addr} {res : Value} {ys : List Str} (hi : StrsAre items.toList ys) (hl : ∀ y ∈ ys, y.length ≤ 640 ∧ Plain y ∧ ∀ k, PySem.intText? y = some k → k.natAbs.log2 < 1920) (hsz : items.size ≤ 100000) (hSl : S ≠ l) :
    ∀ (k i : Nat) (s : Shared) (acc : Array Value) (c : Nat), items.size - i = k → i ≤ items.size → Chain l it t1 m1 t2 m2 items i s.heap → s.heap.get? S = some (listOf acc c) → StrsAre acc.toList ((ys.take i).map canonT) →
      (∀ y ∈ ys.take i, isNum y = true) →
      ((∀ y ∈ ys, isNum y = true) → ∀ h' tk acc' c', (∀ b o, b ≠ S → b ≠ it → s.heap.get? b = some o → h'.get? b = some o) → h'.get? S = some (listOf acc' c') → StrsAre acc'.toList (ys.map canonT) → R (.ok (.ret res)) { s with heap := h', toks := tk }) →
      ((¬ ∀ y ∈ ys, isNum y = true) → ∀ h₁ h' tk e, (∀ b o, b ≠ S → b ≠ it → s.heap.get? b = some o → h₁.get? b = some o) → Heap.NewExc h₁ h' e "ValueError" → R (.error (.ref e)) { s with heap := h', toks := tk }) →
      codeAny (model prog w) A (.builtin "list.extend.loop" ⟨[.ref S, .ref m2, res], []⟩) R s := by
  have hlen : items.size = ys.length := by have := hi.length; rwa [Array.length_toList] at this
  intro k
  induction k with
  | zero =>
    intro i s acc c hk hle C hS hacc hnum hok hbad
    have hin : i = items.size := by omega
    subst hin
    refine codeAny_builtin PySem.F.entry_extend_loop ?_
    rw [Around.under_plainId PySem.F.plain_extend_loop _]
    show wpAny _ A.in1 (pyNext (.ref m2) >>= _) _ _ s
    refine wpAny_bind (next2_end hh C (by simp) fun h' hk' => ?_)
    refine wpAny_pure ?_
    have n0 := (C.upd (f := id) hS hSl).1
    have htake : ys.take items.size = ys := by rw [hlen]; exact List.take_length
    rw [htake] at hacc hnum
    exact hok hnum h' s.toks acc c (fun b o _ hb e => hk' b o hb e) (hk' S _ n0 hS) hacc
  | succ k ih =>
    intro i s acc c hk hle C hS hacc hnum hok hbad
    have hlt : i < ys.length := by omega
    have n0 := (C.upd (f := id) hS hSl).1
    have hy : ys[i]? = some ys[i] := by simp [hlt]
    obtain ⟨t, ht⟩ := strsAt hi hy
    have hx : items[i]? = some (.str ys[i] t) := by rw [← Array.getElem?_toList]; exact ht
    obtain ⟨q1, q2, q3⟩ := hl ys[i] (List.getElem_mem hlt)
    refine codeAny_builtin PySem.F.entry_extend_loop ?_
    rw [Around.under_plainId PySem.F.plain_extend_loop _]
    show wpAny _ A.in1 (pyNext (.ref m2) >>= _) _ _ s
    cases hn : PySem.intText? ys[i] with
    | none =>
      refine wpAny_bind (next2_fail hh C hx q1 q2 hn fun h₁ h' tk e hk' hx => ?_)
      refine hbad (fun hall => ?_) h₁ h' tk e (fun b o _ hb e => hk' b o hb e) hx
      have := hall ys[i] (List.getElem_mem hlt)
      unfold isNum at this
      rw [hn] at this
      cases this
    | some n =>
      refine wpAny_bind (next2_item C hx q1 hn (q3 n hn) fun h' t' tk C' hk' => ?_)
      have hS' := hk' S _ n0 hS
      show wpAny _ A.in1 (updateSeq S (·.push (.str (Str.ofString (toString n)) t')) >>= _) _ _ _
      have hasz : acc.size = i := by
        have := hacc.length
        rw [Array.length_toList, List.length_map, List.length_take] at this
        omega
      refine wpAny_bind (wpAny_updateSeq hS' rfl (wpAny_pure ⟨plainId_quiet PySem.F.plain_extend_loop _, ?_⟩) (by rw [sizeLine_eq]; omega) (by show (acc.push _).size ≤ sizeLine + 1; rw [Array.size_push, sizeLine_eq]; omega))
      have C'' := (C'.upd (f := Obj.mapSeq (·.push (.str (Str.ofString (toString n)) t'))) hS' hSl).2
      have keep : ∀ b o, b ≠ S → b ≠ it → s.heap.get? b = some o → (h'.update S (Obj.mapSeq (·.push (.str (Str.ofString (toString n)) t')))).get? b = some o :=
        fun b o hbS hbi e => (Heap.get?_update_other _ _ (Ne.symm hbS)).trans (hk' b o hbi e)
      have htk : ys.take (i + 1) = ys.take i ++ [ys[i]] := by rw [List.take_add_one, hy]; rfl
      refine ih (i + 1) _ (acc.push (.str (Str.ofString (toString n)) t')) _ (by omega) (by omega) C'' (Heap.get?_update_self _ hS' rfl) ?_ ?_ ?_ ?_
      · rw [Array.toList_push, htk, List.map_append]
        have : canonT ys[i] = Str.ofString (toString n) := by unfold canonT; rw [hn]
        simp only [List.map_cons, List.map_nil, this]
        exact strsSnoc hacc
      · intro y hy'
        rw [htk] at hy'
        rcases List.mem_append.mp hy' with h1 | h1
        · exact hnum y h1
        · rw [List.mem_singleton.mp h1]; unfold isNum; rw [hn]; rfl
      · intro hall h'' tk'' acc'' c'' hk'' hS'' hacc''
        exact hok hall h'' tk'' acc'' c'' (fun b o hbS hbi e => hk'' b o hbS hbi (keep b o hbS hbi e)) hS'' hacc''
      · intro hall h₁ h'' tk'' e hk'' hx
        exact hbad hall h₁ h'' tk'' e (fun b o hbS hbi e => hk'' b o hbS hbi (keep b o hbS hbi e)) hx
end
end MB
end Mine
end

section
open PySem PySem.W PyProof.Rows PySem.Calls
set_option maxRecDepth 100000
namespace Mine
namespace MB
open Builtin.SmallTypes (nextOf)

namespace F
theorem slot_iter : Slot "map" "__iter__" "map.__iter__" :=
  .of (owner := "map") (n := "__iter__") (by rw [typeLookup_type, builtinLookup_eq_fast]; kernel_rfl) (by decide +kernel) (by decide +kernel) (by decide +kernel)
    (by first | exact .inl (by decide +kernel) | exact .inr (by decide +kernel)) (by rw [isSubtype_type]; kernel_rfl)
theorem args_iter (a : Value) : argsOk "map.__iter__" ⟨[a], []⟩ := by unfold argsOk; kernel_rfl
theorem entry_iter : entryFor table "map.__iter__" = some Builtin.«dict_keyiterator.__iter__» :=
  entryFor_alias (id' := "dict_keyiterator.__iter__") (by kernel_rfl) (by first | rfl | decide +kernel | (unfold String.splitOn; simp +decide [String.splitOnAux])) (by decide +kernel) (by kernel_rfl)
theorem no_len : typeLookup (.type "map") "__len__" = pure none := by rw [typeLookup_type, builtinLookup_eq_fast]; kernel_rfl
theorem no_hint : typeLookup (.type "map") "__length_hint__" = pure none := by rw [typeLookup_type, builtinLookup_eq_fast]; kernel_rfl
theorem slot_init : Slot "map" "__init__" "object.__init__" :=
  .of (owner := "object") (n := "__init__") (by rw [typeLookup_type, builtinLookup_eq_fast]; kernel_rfl) (by decide +kernel) (by decide +kernel) (by decide +kernel)
    (by first | exact .inl (by decide +kernel) | exact .inr (by decide +kernel)) (by rw [isSubtype_type]; kernel_rfl)
theorem mro_map : mroOf (.type "map") = pure [.type "map", .type "object"] := by rw [mroOf_type]; kernel_rfl
theorem lookup_new : typeLookup (.type "map") "__new__" = pure (some (.builtin "map.__new__")) := by rw [typeLookup_type, builtinLookup_eq_fast]; kernel_rfl
theorem called_map : TypeCalled "map" "map.__new__" "object.__init__" :=
  ⟨by decide +kernel, by decide +kernel, ⟨_, _, mro_map⟩, madeBy_type mro_map lookup_new (by decide +kernel), by decide +kernel, by rw [isSubtype_type]; kernel_rfl, slot_init⟩
theorem typeCall_2 (a b : Value) : checkTypeCall "map" ⟨[a, b], []⟩ = pure () := by kernel_rfl
theorem newCall_2 (a b : Value) : checkBuiltinCall "map.__new__" ⟨[.type "map", a, b], []⟩ = pure () := by kernel_rfl
theorem entry_new : entryFor table "map.__new__" = some Builtin.«map.__new__» := entryFor_of_tree (by kernel_rfl)
theorem sub_map : isSubtype (.type "map") (.type "map") = pure true := by rw [isSubtype_type]; kernel_rfl
theorem args_init3 (a b c : Value) : argsOk "object.__init__" ⟨[a, b, c], []⟩ := by unfold argsOk; kernel_rfl
end F

section
variable {prog : Program} {w : World} {A : Around} {E : Value → Shared → Prop} {s : Shared}

theorem iter_map {mm tp : Addr} {f : Value} {Q : Value → Shared → Prop} (hm : s.heap.get? mm = some (mapO tp f)) (h : Q (.ref mm) s) : wpAny (model prog w) A (pyIter (.ref mm)) Q E s := by
  have hT : s.TypeIs (.ref mm) "map" := ⟨_, hm, rfl⟩
  refine wpAny_pyIter_slot hT F.slot_iter (wpAny_call_entry F.slot_iter hT F.entry_iter ?_ (F.args_iter _))
  show wpAny _ _ (ret (.ref mm)) _ _ s
  exact wpAny_pure ⟨_, rfl, "map", _, hT, F.slot_next.lookup, h⟩

theorem new_map {M : Model} {f x : Value} {Q : Fin → Shared → Prop} (hi : wpAny M A (pyIter x) (fun it s₁ => wpAny M A (newTuple [it]) (fun tp s₂ => wpAny M A (newObj (.type "map") (.fields #[tp, f])) (fun v s₃ => Q (.done (.ret v)) s₃) E s₂) E s₁) E s) :
    wpAny M A (Builtin.«map.__new__» ⟨[.type "map", f, x], []⟩) Q E s := by
  unfold Builtin.«map.__new__»
  refine wpAny_bind ?_
  unfold Builtin.SmallTypes.newClass
  refine wpAny_bind (wpAny_pure ?_)
  refine wpAny_ite_false (by decide) ?_
  refine wpAny_bind (wpAny_of_eq F.sub_map ?_)
  refine wpAny_ite_false (by decide) ?_
  refine wpAny_pure ?_
  dsimp only
  refine wpAny_bind (wpAny_pure ?_)
  refine wpAny_ite_false (by rfl) ?_
  refine wpAny_bind ?_
  unfold Builtin.SmallTypes.iterAll
  show wpAny M A (forIn [x] (#[] : Array Value) _ >>= _) _ _ s
  rw [List.forIn_cons]
  refine wpAny_bind (wpAny_bind (wpAny_bind (wpAny_holding (wpAny_mono hi (fun it s₁ h₁ => ?_) fun _ _ e => e))))
  refine wpAny_pure ?_
  dsimp only
  rw [List.forIn_nil]
  refine wpAny_pure (wpAny_pure ?_)
  refine wpAny_bind (wpAny_mono h₁ (fun tp s₂ h₂ => ?_) fun _ _ e => e)
  refine wpAny_bind (wpAny_mono h₂ (fun v s₃ h₃ => ?_) fun _ _ e => e)
  exact wpAny_pure h₃

theorem map_list {l : Addr} {items : Array Value} {f : Value} {Q : Value → Shared → Prop} (hl : s.heap.IsList l items)
    (h : ∀ h', h' = ((s.heap.push { cls := .type "list_iterator", data := .fields #[.ref l, .int 0 0] }).push (tupO (.ref s.heap.objs.size))).push (mapO (s.heap.objs.size + 1) f) → Q (.ref (s.heap.objs.size + 2)) { s with heap := h' }) :
    wpAny (model prog w) A (call (.type "map") [f, .ref l]) Q E s := by
  have g : Meets (Builtin.«map.__new__» ⟨[.type "map", f, .ref l], []⟩) (fun _ R s => s.heap.IsList l items ∧ ∀ h', h' = ((s.heap.push { cls := .type "list_iterator", data := .fields #[.ref l, .int 0 0] }).push (tupO (.ref s.heap.objs.size))).push (mapO (s.heap.objs.size + 1) f) →
      R (.ok (.ret (.ref (s.heap.objs.size + 2)))) { s with heap := h' }) := by
    refine .of_wp fun prog w A R s hs => new_map (wpAny_pyIter_list hs.1 ?_)
    refine wpAny_newObj_type ?_ (by show 1 ≤ sizeLine; rw [sizeLine_eq]; decide)
    refine wpAny_newObj_type ?_ (by show 2 ≤ sizeLine + 2; omega)
    refine ⟨_, rfl, ?_⟩
    have := hs.2 _ rfl
    simpa [Heap.size_push] using this
  exact callType_new F.called_map (by decide) (F.typeCall_2 _ _) (F.newCall_2 _ _) (fun obj => F.args_init3 obj _ _) F.entry_new g ⟨hl, fun h' e => by
    subst e
    exact ⟨⟨mapO (s.heap.objs.size + 1) f, Heap.get?_push_at (by simp [Heap.size_push]) rfl, rfl⟩, h _ rfl⟩⟩
theorem map_map {mm tp : Addr} {f f' : Value} {Q : Value → Shared → Prop} (hm : s.heap.get? mm = some (mapO tp f'))
    (h : ∀ h', h' = (s.heap.push (tupO (.ref mm))).push (mapO s.heap.objs.size f) → Q (.ref (s.heap.objs.size + 1)) { s with heap := h' }) :
    wpAny (model prog w) A (call (.type "map") [f, .ref mm]) Q E s := by
  have g : Meets (Builtin.«map.__new__» ⟨[.type "map", f, .ref mm], []⟩) (fun _ R s => s.heap.get? mm = some (mapO tp f') ∧ ∀ h', h' = (s.heap.push (tupO (.ref mm))).push (mapO s.heap.objs.size f) →
      R (.ok (.ret (.ref (s.heap.objs.size + 1)))) { s with heap := h' }) := by
    refine .of_wp fun prog w A R s hs => new_map (iter_map hs.1 ?_)
    refine wpAny_newObj_type ?_ (by show 1 ≤ sizeLine; rw [sizeLine_eq]; decide)
    refine wpAny_newObj_type ?_ (by show 2 ≤ sizeLine + 2; omega)
    refine ⟨_, rfl, ?_⟩
    have := hs.2 _ rfl
    simpa [Heap.size_push] using this
  exact callType_new F.called_map (by decide) (F.typeCall_2 _ _) (F.newCall_2 _ _) (fun obj => F.args_init3 obj _ _) F.entry_new g ⟨hm, fun h' e => by
    subst e
    exact ⟨⟨mapO s.heap.objs.size f, Heap.get?_push_at (by simp [Heap.size_push]) rfl, rfl⟩, h _ rfl⟩⟩

section
variable {l it t1 m1 t2 m2 : Addr} {items : Array Value} {R : Result → Shared → Prop} {ys : List Str}

theorem extend_map (hh : A.handled = none) {S : Addr} {res : Value} {c₀ : Nat} (hi : StrsAre items.toList ys) (hl : ∀ y ∈ ys, y.length ≤ 640 ∧ Plain y ∧ ∀ k, PySem.intText? y = some k → k.natAbs.log2 < 1920) (hsz : items.size ≤ 100000) (hSl : S ≠ l)
    (C : Chain l it t1 m1 t2 m2 items 0 s.heap) (hS : s.heap.get? S = some (listOf #[] c₀))
    (hok : (∀ y ∈ ys, isNum y = true) → ∀ h' tk acc' c', (∀ b o, b ≠ S → b ≠ it → s.heap.get? b = some o → h'.get? b = some o) → h'.get? S = some (listOf acc' c') → StrsAre acc'.toList (ys.map canonT) → R (.ok (.ret res)) { s with heap := h', toks := tk })
    (hbad : (¬ ∀ y ∈ ys, isNum y = true) → ∀ h₁ h' tk e, (∀ b o, b ≠ S → b ≠ it → s.heap.get? b = some o → h₁.get? b = some o) → Heap.NewExc h₁ h' e "ValueError" → R (.error (.ref e)) { s with heap := h', toks := tk }) :
    wpAny (model prog w) A.in1 (Builtin.List.listExtendWith (.ref S) (.ref m2) res)
      (fun fin s' => match fin with | .done f => R (.ok f) s' | .again c' => c'.quiet = true ∧ codeAny (model prog w) A c' R s') (fun e s' => R (.error e) s') s := by
  have hT : s.TypeIs (.ref m2) "map" := ⟨_, C.hm2, rfl⟩
  have hSI : S ≠ m2 := fun e => by
    have := C.hm2
    rw [← e, hS] at this
    have h2 := congrArg Obj.cls (Option.some.inj this)
    exact absurd h2 (by show Value.type _ ≠ Value.type _; decide)
  unfold Builtin.List.listExtendWith
  refine wpAny_bind (wpAny_typeOf hT ?_)
  have h1 : Builtin.List.listSameRef (.ref S) (.ref m2) = false := by simp [Builtin.List.listSameRef, hSI]
  have h2 : (Value.type "map" == Value.type "list") = false := by decide
  have h3 : (Value.type "map" == Value.type "tuple") = false := by decide
  simp only [h1, h2, h3, Bool.or_false, Bool.false_eq_true, if_false]
  refine wpAny_bind (iter_map C.hm2 ?_)
  refine wpAny_bind (wpAny_holding ?_)
  unfold Builtin.List.listLengthHint
  refine wpAny_bind (wpAny_specialOf hT F.no_len ?_)
  show wpAny _ A.in1 (specialOf (Value.ref m2) (Str.ofString "__length_hint__") >>= _) _ _ _
  refine wpAny_bind (wpAny_specialOf hT F.no_hint ?_)
  refine wpAny_pure ?_
  show wpAny _ A.in1 (rule "list.extend.makes-room" >>= fun _ => Builtin.List.listTouch (.ref S) >>= fun _ =>
    again (.builtin "list.extend.loop" ⟨[.ref S, .ref m2, res], []⟩)) _ _ _
  refine wpAny_bind (wpAny_rule ?_)
  refine wpAny_bind ?_
  show wpAny _ A.in1 (updateSeq S (·.push .none) >>= fun _ => updateSeq S (·.pop)) _ _ _
  refine wpAny_bind (wpAny_updateSeq hS rfl ?_)
  have hS₂ := Heap.get?_update_self (Obj.mapSeq (·.push Value.none)) hS rfl
  refine wpAny_updateSeq (hz := by seq_fits) hS₂ rfl ?_
  have hS₃ := Heap.get?_update_self (Obj.mapSeq (·.pop)) hS₂ rfl
  have oth : ∀ b o, b ≠ S → s.heap.get? b = some o → ((s.heap.update S (Obj.mapSeq (·.push Value.none))).update S (Obj.mapSeq (·.pop))).get? b = some o :=
    fun b o hb e => (Heap.get?_update_other _ _ (Ne.symm hb)).trans ((Heap.get?_update_other _ _ (Ne.symm hb)).trans e)
  have C' := ((C.upd (f := Obj.mapSeq (·.push Value.none)) hS hSl).2.upd (f := Obj.mapSeq (·.pop)) hS₂ hSl).2
  refine wpAny_pure ⟨plainId_quiet PySem.F.plain_extend_loop _, extend_loop hh hi hl hsz hSl items.size 0 _ _ _ rfl (Nat.zero_le _) C' hS₃ (by simpa using StrsAre.nil) (by simp) ?_ ?_⟩
  · exact fun hall h' tk acc' c' hk hS' hacc => hok hall h' tk acc' c' (fun b o hbS hbi e => hk b o hbS hbi (oth b o hbS e)) hS' hacc
  · exact fun hall h₁ h' tk e hk hx => hbad hall h₁ h' tk e (fun b o hbS hbi e => hk b o hbS hbi (oth b o hbS e)) hx

theorem init_map (hh : A.handled = none) {S : Addr} (hi : StrsAre items.toList ys) (hl : ∀ y ∈ ys, y.length ≤ 640 ∧ Plain y ∧ ∀ k, PySem.intText? y = some k → k.natAbs.log2 < 1920) (hsz : items.size ≤ 100000) (hSl : S ≠ l)
    (C : Chain l it t1 m1 t2 m2 items 0 s.heap) (hS : s.heap.get? S = some (listOf #[] 0))
    (hok : (∀ y ∈ ys, isNum y = true) → ∀ h' tk acc' c', (∀ b o, b ≠ S → b ≠ it → s.heap.get? b = some o → h'.get? b = some o) → h'.get? S = some (listOf acc' c') → StrsAre acc'.toList (ys.map canonT) → R (.ok (.ret .none)) { s with heap := h', toks := tk })
    (hbad : (¬ ∀ y ∈ ys, isNum y = true) → ∀ h₁ h' tk e, (∀ b o, b ≠ S → b ≠ it → s.heap.get? b = some o → h₁.get? b = some o) → Heap.NewExc h₁ h' e "ValueError" → R (.error (.ref e)) { s with heap := h', toks := tk }) :
    wpAny (model prog w) A.in1 (Builtin.«list.__init__» ⟨[.ref S, .ref m2], []⟩)
      (fun fin s' => match fin with | .done f => R (.ok f) s' | .again c' => c'.quiet = true ∧ codeAny (model prog w) A c' R s') (fun e s' => R (.error e) s') s := by
  show wpAny _ A.in1 (do let old ← Builtin.List.listItems (.ref S); Builtin.List.listUpdate (.ref S) (fun _ => #[]); letGo old.toList.reverse; Builtin.List.listExtendWith (.ref S) (.ref m2) .none) _ _ s
  refine wpAny_bind ?_
  unfold Builtin.List.listItems
  refine wpAny_bind (wpAny_seqItems hS rfl (wpAny_pure ?_))
  show wpAny _ A.in1 (updateSeq S (fun _ => #[]) >>= fun _ => letGo (#[] : Array Value).toList.reverse >>= fun _ => Builtin.List.listExtendWith (.ref S) (.ref m2) .none) _ _ s
  refine wpAny_bind (wpAny_updateSeq hS rfl ?_)
  have hS₂ := Heap.get?_update_self (Obj.mapSeq (fun _ => (#[] : Array Value))) hS rfl
  have oth : ∀ b o, b ≠ S → s.heap.get? b = some o → (s.heap.update S (Obj.mapSeq (fun _ => (#[] : Array Value)))).get? b = some o :=
    fun b o hb e => (Heap.get?_update_other _ _ (Ne.symm hb)).trans e
  have C' := (C.upd (f := Obj.mapSeq (fun _ => (#[] : Array Value))) hS hSl).2
  refine wpAny_bind (wpAny_letGo ?_)
  refine extend_map hh hi hl hsz hSl C' hS₂ ?_ ?_
  · exact fun hall h' tk acc' c' hk hS' hacc => hok hall h' tk acc' c' (fun b o hbS hbi e => hk b o hbS hbi (oth b o hbS e)) hS' hacc
  · exact fun hall h₁ h' tk e hk hx => hbad hall h₁ h' tk e (fun b o hbS hbi e => hk b o hbS hbi (oth b o hbS e)) hx

theorem call_list_map {Q : Value → Shared → Prop} (hh : A.handled = none) (hi : StrsAre items.toList ys) (hl : ∀ y ∈ ys, y.length ≤ 640 ∧ Plain y ∧ ∀ k, PySem.intText? y = some k → k.natAbs.log2 < 1920) (hsz : items.size ≤ 100000)
    (C : Chain l it t1 m1 t2 m2 items 0 s.heap)
    (hok : (∀ y ∈ ys, isNum y = true) → ∀ h' tk acc' c', (∀ b o, b ≠ it → s.heap.get? b = some o → h'.get? b = some o) → h'.get? s.heap.objs.size = some (listOf acc' c') → StrsAre acc'.toList (ys.map canonT) → Q (.ref s.heap.objs.size) { s with heap := h', toks := tk })
    (hbad : (¬ ∀ y ∈ ys, isNum y = true) → ∀ h₁ h' tk e, (∀ b o, b ≠ it → s.heap.get? b = some o → h₁.get? b = some o) → Heap.NewExc h₁ h' e "ValueError" → E (.ref e) { s with heap := h', toks := tk }) :
    wpAny (model prog w) A (call (.type "list") [.ref m2]) Q E s := by
  have lt : ∀ b o, s.heap.get? b = some o → b ≠ s.heap.objs.size := fun b o e => Nat.ne_of_lt (Heap.lt_size e)
  have hSl : s.heap.objs.size ≠ l := by obtain ⟨o, ho, _⟩ := C.lst; exact Ne.symm (lt _ _ ho)
  refine callType_codes (Q₁ := fun obj s₁ => obj = .ref s.heap.objs.size ∧ s₁ = { s with heap := s.heap.push { cls := .type "list", data := .seq #[] } }) PySem.F.called_list (PySem.F.typeCall_list_1 _) PySem.F.entry_list_init
    (code_list_new _ ⟨rfl, rfl⟩) fun obj s₁ h₁ => ?_
  obtain ⟨rfl, rfl⟩ := h₁
  have hS : (s.heap.push { cls := .type "list", data := .seq #[] }).get? s.heap.objs.size = some { cls := .type "list", data := .seq #[] } := Heap.get?_push_size _ rfl
  have C' := C.keeps (h' := s.heap.push { cls := .type "list", data := .seq #[] }) fun b o e => Heap.get?_push_of_some _ e
  refine ⟨⟨_, hS, rfl⟩, PySem.F.args_list_init_2 _ _, init_map (A := A.in1) hh hi hl hsz hSl C' hS ?_ ?_⟩
  · exact fun hall h' tk acc' c' hk hS' hacc => ⟨rfl, hok hall h' tk acc' c' (fun b o hbi e => hk b o (lt b o e) hbi (Heap.get?_push_of_some _ e)) hS' hacc⟩
  · exact fun hall h₁ h' tk e hk hx => hbad hall h₁ h' tk e (fun b o hbi e => hk b o (lt b o e) hbi (Heap.get?_push_of_some _ e)) hx
end
end
end MB
end Mine
end

section
open PySem PySem.W PyProof.Rows PySem.Calls
set_option maxRecDepth 100000
namespace Mine
namespace KR
open MB

def Good (y : Str) : Prop := y.length ≤ 640 ∧ Plain y ∧ ∀ k, PySem.intText? y = some k → k.natAbs.log2 < 1920
theorem strsAre_of {l : List (Str × Tok)} : StrsAre (strValues l) (l.map (·.1)) := by
  induction l with
  | nil => exact .nil
  | cons p l ih => exact .cons p.1 p.2 ih

section
variable {prog : Program} {w : World} {A : Around} {E : Value → Shared → Prop} {s : Shared} {h₀ : Heap} {L : Addr} {m : Str → Option Value} {news : List (Addr × Obj)} {Q : Value → Shared → Prop}

theorem split_L {x y : Str} {t u : Tok} (F : Fr h₀ L s.heap m) (N : News h₀ L s.heap news) (hy : (y.length == 0) = false) (hx : x.length ≤ 100000)
    (h : ∀ q its h' k, Fr h₀ L h' m → News h₀ L h' ((q, listOf its 0) :: news) → (∀ p ∈ news, p.1 < q) → StrsAre its.toList (Txt.split x y) → Q (.ref q) { s with heap := h', toks := k }) :
    wpAny (model prog w) A (call (.builtin "str.split") [.str x t, .str y u]) Q E s := by
  refine splitN1 F N hy (fun l h' k e F' N' => ?_) (by rw [sizeLine_eq]; omega)
  refine h _ _ h' k F' N' (fun p hp => Heap.lt_size (N p hp).1) ?_
  rw [← e]
  exact strsAre_of

theorem append_L {q : Addr} {its : Array Value} {n : Nat} {x : Value} (F : Fr h₀ L s.heap m) (N : News h₀ L s.heap ((q, listOf its n) :: news)) (hlt : ∀ p ∈ news, p.1 < q) (hz : its.size ≤ 100000)
    (h : ∀ h', Fr h₀ L h' m → News h₀ L h' ((q, listOf (its.push x) (n + 1)) :: news) → Q .none { s with heap := h' }) : wpAny (model prog w) A (call (.builtin "list.append") [.ref q, x]) Q E s :=
  append_K F N (.head fun p hp => Nat.ne_of_lt (hlt p hp)) h (by rw [sizeLine_eq]; omega)

abbrev iterO (l : Addr) : Obj := { cls := .type "list_iterator", data := .fields #[.ref l, .int 0 0] }

theorem map1_L {l : Addr} {its : Array Value} {n : Nat} {f : Value} (F : Fr h₀ L s.heap m) (N : News h₀ L s.heap news) (hl : (l, listOf its n) ∈ news)
    (h : ∀ it t1 m1 h', Fr h₀ L h' m → News h₀ L h' ((m1, mapO t1 f) :: (t1, tupO (.ref it)) :: (it, iterO l) :: news) → (∀ p ∈ news, p.1 < it) → it < t1 → t1 < m1 → Q (.ref m1) { s with heap := h' }) :
    wpAny (model prog w) A (call (.type "map") [f, .ref l]) Q E s := by
  refine map_list (items := its) ⟨_, (N _ hl).1, rfl, n, rfl⟩ fun h' e => ?_
  subst e
  have F1 := F.push (iterO l)
  have N1 := N.push F (iterO l)
  have F2 := F1.push (tupO (.ref s.heap.objs.size))
  have N2 := N1.push F1 (tupO (.ref s.heap.objs.size))
  have F3 := F2.push (mapO (s.heap.objs.size + 1) f)
  have N3 := N2.push F2 (mapO (s.heap.objs.size + 1) f)
  simp only [Heap.size_push] at N2 N3
  exact h s.heap.objs.size (s.heap.objs.size + 1) (s.heap.objs.size + 2) _ F3 N3 (fun p hp => Heap.lt_size (N p hp).1) (Nat.lt_succ_self _) (Nat.lt_succ_self _)
theorem map2_L {m1 t1 : Addr} {f f' : Value} (F : Fr h₀ L s.heap m) (N : News h₀ L s.heap news) (hl : (m1, mapO t1 f') ∈ news)
    (h : ∀ t2 m2 h', Fr h₀ L h' m → News h₀ L h' ((m2, mapO t2 f) :: (t2, tupO (.ref m1)) :: news) → (∀ p ∈ news, p.1 < t2) → t2 < m2 → Q (.ref m2) { s with heap := h' }) :
    wpAny (model prog w) A (call (.type "map") [f, .ref m1]) Q E s := by
  refine map_map (N _ hl).1 fun h' e => ?_
  subst e
  have F1 := F.push (tupO (.ref m1))
  have N1 := N.push F (tupO (.ref m1))
  have F2 := F1.push (mapO s.heap.objs.size f)
  have N2 := N1.push F1 (mapO s.heap.objs.size f)
  simp only [Heap.size_push] at N2
  exact h s.heap.objs.size (s.heap.objs.size + 1) _ F2 N2 (fun p hp => Heap.lt_size (N p hp).1) (Nat.lt_succ_self _)

theorem list_L {l it t1 m1 t2 m2 : Addr} {its : Array Value} {n : Nat} {ys : List Str} (hh : A.handled = none) (F : Fr h₀ L s.heap m)
    (N : News h₀ L s.heap ((m2, mapO t2 (.type "str")) :: (t2, tupO (.ref m1)) :: (m1, mapO t1 (.type "int")) :: (t1, tupO (.ref it)) :: (it, iterO l) :: news)) (hl : (l, listOf its n) ∈ news) (hlt : ∀ p ∈ news, p.1 < it)
    (hi : StrsAre its.toList ys) (hy : ∀ y ∈ ys, Good y) (hz : its.size ≤ 100000)
    (hok : (∀ y ∈ ys, isNum y = true) → ∀ q acc c h' tk, Fr h₀ L h' m → News h₀ L h' ((q, listOf acc c) :: news) → (∀ p ∈ news, p.1 < q) → StrsAre acc.toList (ys.map canonT) → Q (.ref q) { s with heap := h', toks := tk })
    (hbad : (¬ ∀ y ∈ ys, isNum y = true) → ∀ h₁ h' tk e, Fr h₀ L h₁ m → News h₀ L h₁ news → Heap.NewExc h₁ h' e "ValueError" → E (.ref e) { s with heap := h', toks := tk }) :
    wpAny (model prog w) A (call (.type "list") [.ref m2]) Q E s := by
  have N5 := N (it, iterO l) (.tail _ (.tail _ (.tail _ (.tail _ (.head _)))))
  have Nn : News h₀ L s.heap news := fun p hp => N p (.tail _ (.tail _ (.tail _ (.tail _ (.tail _ hp)))))
  have C : Chain l it t1 m1 t2 m2 its 0 s.heap := ⟨⟨_, N5.1, rfl, rfl⟩, ⟨_, (Nn _ hl).1, rfl, n, rfl⟩, (N _ (.tail _ (.tail _ (.tail _ (.head _))))).1, (N _ (.tail _ (.tail _ (.head _)))).1, (N _ (.tail _ (.head _))).1, (N _ (.head _)).1⟩
  have keep : ∀ h', (∀ b o, b ≠ it → s.heap.get? b = some o → h'.get? b = some o) → Fr h₀ L h' m ∧ News h₀ L h' news := by
    intro h' hk
    obtain ⟨oL, a1, a2, hL, a3⟩ := F.ns
    refine ⟨⟨⟨oL, a1, a2, hk _ _ (Ne.symm N5.2.1) hL, a3⟩, fun b o' e => hk b o' (fun hb => ?_) (F.keep b o' e), F.above⟩, fun p hp => ⟨hk _ _ (Nat.ne_of_lt (hlt p hp)) (Nn p hp).1, (Nn p hp).2⟩⟩
    rw [hb, N5.2.2] at e; cases e
  refine call_list_map hh hi hy hz C (fun hall h' tk acc' c' hk hS hacc => ?_) (fun hall h₁ h' tk e hk hx => ?_)
  · obtain ⟨F', N'⟩ := keep h' hk
    refine hok hall _ acc' c' h' tk F' ?_ (fun p hp => Heap.lt_size (Nn p hp).1) hacc
    intro p hp
    rcases List.mem_cons.mp hp with rfl | hp
    · refine ⟨hS, Nat.ne_of_gt (F.ns.lt), ?_⟩
      cases hq : h₀.get? s.heap.objs.size with
      | none => rfl
      | some o' => exact absurd (Heap.lt_size (F.keep _ _ hq)) (Nat.lt_irrefl _)
    · exact N' p hp
  · obtain ⟨F', N'⟩ := keep h₁ hk
    exact hbad hall h₁ h' tk e F' N' hx
end

theorem strsTake {vs : List Value} {ys : List Str} (h : StrsAre vs ys) : ∀ n, StrsAre (vs.take n) (ys.take n) := by
  induction h with
  | nil => intro n; simpa using StrsAre.nil
  | cons y t _ ih =>
    intro n
    cases n with
    | zero => exact .nil
    | succ n => exact .cons y t (ih n)

section
variable {prog : Program} {w : World} {A : Around} {E : Value → Shared → Prop} {s : Shared} {h₀ : Heap} {L : Addr} {m : Str → Option Value} {news : List (Addr × Obj)} {Q : Value → Shared → Prop}

theorem slice_L {l : Addr} {its : Array Value} {n : Nat} {ys : List Str} {k : Int} {t : Tok} {value slice : PySem.Expr} (F : Fr h₀ L s.heap m) (N : News h₀ L s.heap news) (hl : (l, listOf its n) ∈ news) (hi : StrsAre its.toList ys) (hk : 0 ≤ k) (hz : its.size ≤ 100000)
    (h : ∀ D its' h', Fr h₀ L h' m → News h₀ L h' ((D, listOf its' 0) :: news) → (∀ p ∈ news, p.1 < D) → StrsAre its'.toList (ys.take k.toNat) → Q (.ref D) { s with heap := h' })
    (hs : subscripted slice false (.ref l) (.ref s.heap.objs.size) = operate [.ref s.heap.objs.size, .ref l] (getItem (.ref l) (.ref s.heap.objs.size))) (ht : ∀ r, letTemporaryGo value (.ref l) r = pure ()) :
    wpAny (model prog w) A (subscriptTail value slice (.ref l) (.ref s.heap.objs.size)) Q E { s with heap := s.heap.push { cls := .type "slice", data := .fields #[.none, .int k t, .none] } } := by
  refine kmk_slice F N ⟨_, (N _ hl).1, rfl, n, rfl⟩ .none (.int k t) (fun D h' F' N' l1 => h D _ h' F' N' l1 ?_) hs ht (by rw [sizeLine_eq]; omega)
  rw [kms_pick_eq]
  unfold kms_pick kms_lo kms_hi
  simp only [List.drop_zero, Nat.sub_zero, if_neg (show ¬ k < 0 from by omega)]
  rw [kmk_take_min]
  exact strsTake hi k.toNat

theorem item_L {l : Addr} {its : Array Value} {n : Nat} {ys : List Str} {k : Int} {u : Tok} {value slice : PySem.Expr} (N : News h₀ L s.heap news) (hl : (l, listOf its n) ∈ news) (hi : StrsAre its.toList ys) (h0 : 0 ≤ k) (hk : k < (ys.length : Int)) (hz : ys.length ≤ 100000)
    (h : ∀ t, Q (.str (ys.getD k.toNat Str.empty) t) s)
    (hs : subscripted slice false (.ref l) (.int k u) = operate [.ref l, .int k u] (getItem (.ref l) (.int k u))) :
    wpAny (model prog w) A (subscriptTail value slice (.ref l) (.int k u)) Q E s := by
  have hlt : k.toNat < ys.length := by omega
  have hy : ys[k.toNat]? = some (ys.getD k.toNat Str.empty) := by rw [List.getD_eq_getElem?_getD, List.getElem?_eq_getElem hlt]; rfl
  obtain ⟨t, ht⟩ := strsAt hi hy
  have hL : s.heap.IsList l its := ⟨_, (N _ hl).1, rfl, n, rfl⟩
  exact tail_any hL.typeIs slot_list_getitem.lookup (wpAny_getItem_list hL h0 (by omega) (by rw [← Array.getElem?_toList]; exact ht) (h t)) hs

theorem join_L {l : Addr} {its : Array Value} {n : Nat} {ys : List Str} {x : Str} {t : Tok} (N : News h₀ L s.heap news) (hl : (l, listOf its n) ∈ news) (hi : StrsAre its.toList ys) (hx : x.length ≤ 1) (hB : ∀ y ∈ ys, y.length ≤ 2000) (hn : ys.length ≤ 1000)
    (h : ∀ t' k, Q (.str (Txt.join x ys) t') { s with toks := k }) : wpAny (model prog w) A (call (.builtin "str.join") [.str x t, .ref l]) Q E s := by
  refine join_list (items := its) ⟨_, (N _ hl).1, rfl, n, rfl⟩ hi ?_ h
  have h1 := StrLaws.sumLen_le ys hB
  have h2 : ys.length * x.length ≤ 1000 * 1 := Nat.mul_le_mul hn hx
  have h3 : ys.length * 2000 ≤ 1000 * 2000 := Nat.mul_le_mul_right _ hn
  omega
end

theorem leave_L {h₀ : Heap} {L L' : Addr} {m m' : Str → Option Value} {oL : Obj} {P : Prop} {s' : Shared} {news led : List (Addr × Obj)} {sl : Array (Option Value)} (C : TI.Caller h₀ L m oL) (F' : Fr h₀ L' s'.heap m') (N' : News h₀ L' s'.heap led)
    (hL : (L, ({ oL with slots := sl } : Obj)) ∈ led) (hsub : ∀ p ∈ news, p ∈ led) (hne : TLg.AllNe L news) (k : Fr h₀ L s'.heap m → News h₀ L s'.heap news → P) : TI.LeaveI s' P :=
  TLg.leave_back (sl := sl) C F' (fun p hp => by
    rcases List.mem_append.mp hp with hp | hp
    · exact N' p (hsub p hp)
    · rw [List.mem_singleton.mp hp]; exact N' _ hL) hne k

theorem good_len {ys : List Str} {n : Nat} (h : ∀ y ∈ ys, Good y) : ∀ y ∈ ys.take n, y.length ≤ 2000 := fun y hy => Nat.le_trans (h y (List.mem_of_mem_take hy)).1 (by decide)
theorem canon_len {y : Str} (h : Good y) : (canonT y).length ≤ 2000 := by
  unfold canonT
  split
  · rename_i k hk
    exact Nat.le_trans (int_text_len_1921 (h.2.2 k hk)) (by decide)
  · exact Nat.le_trans h.1 (by decide)
theorem good_canon {ys : List Str} {n : Nat} (h : ∀ y ∈ ys, Good y) : ∀ y ∈ (ys.map canonT).take n, y.length ≤ 2000 := fun y hy => by
  obtain ⟨z, hz, rfl⟩ := List.mem_map.mp (List.mem_of_mem_take hy)
  exact canon_len (h z hz)
theorem strs_push {its : Array Value} {ys : List Str} {y : Str} {t : Tok} (h : StrsAre its.toList ys) : StrsAre (its.push (.str y t)).toList (ys ++ [y]) := by
  rw [Array.toList_push]; exact strsSnoc h
theorem strs_size {its : Array Value} {ys : List Str} {N : Nat} (h : StrsAre its.toList ys) (hN : ys.length ≤ N) : its.size ≤ N := by
  have := h.length
  rw [Array.length_toList] at this
  omega
section
variable {prog : Program} {w : World} {A : Around} {E : Value → Shared → Prop} {s : Shared} {h₀ : Heap} {L : Addr} {m : Str → Option Value} {news : List (Addr × Obj)} {Q : Value → Shared → Prop}
theorem appendN_L {q : Addr} {its : Array Value} {n : Nat} {x : Value} (F : Fr h₀ L s.heap m) (N : News h₀ L s.heap ((q, listOf its n) :: news)) (hlt : ∀ p ∈ news, p.1 ≠ q) (hz : its.size ≤ 100000)
    (h : ∀ h', Fr h₀ L h' m → News h₀ L h' ((q, listOf (its.push x) (n + 1)) :: news) → Q .none { s with heap := h' }) : wpAny (model prog w) A (call (.builtin "list.append") [.ref q, x]) Q E s :=
  append_K F N (.head hlt) h (by rw [sizeLine_eq]; omega)
theorem len_L {l : Addr} {its : Array Value} {n : Nat} {ys : List Str} (N : News h₀ L s.heap news) (hl : (l, listOf its n) ∈ news) (hi : StrsAre its.toList ys) (hz : ys.length ≤ 100000)
    (h : ∀ t k, Q (.int (ys.length : Nat) t) { s with toks := k }) : wpAny (model prog w) A (call (.builtin "len") [.ref l]) Q E s := by
  have e : its.size = ys.length := by rw [← Array.length_toList]; exact hi.length
  refine Calls.call_len_list (items := its) ⟨_, (N _ hl).1, rfl, n, rfl⟩ (by omega) ?_
  rw [e]
  exact h _ _
end
theorem the_addr {h₀ h : Heap} {L q : Addr} {o : Obj} {r : List (Addr × Obj)} (_ : News h₀ L h ((q, o) :: r)) : ∃ q', q' = q := ⟨q, rfl⟩
theorem end_L {h₀ : Heap} {L q : Addr} {h' : Heap} {x : Str} {stored : List Str} {P : List Int → Array Value × Nat → Prop} {pre : List Int} {news own : List (Addr × Obj)} {its : Array Value} {n : Nat} {m' m₀ : Str → Option Value} {c₀ : Array Value × Nat} {s₁ : Shared} {tk : Nat}
    (F : Fr h₀ L h' m') (N : News h₀ L h' ((q, listOf its n) :: (news ++ own))) (hr : ∀ z, z ≠ x → stored.contains z = false → m' z = m₀ z) (hP : P pre (its, n)) :
    InvEndN h₀ L (KstS (fun c : Array Value × Nat => (q, listOf c.1 c.2) :: news) (fun _ => []) (fun _ => True) x stored m₀ P pre) own (((fun c : Array Value × Nat => (q, listOf c.1 c.2) :: news) c₀).map (·.1)) s₁ { s₁ with heap := h', toks := tk } :=
  kst_end (its, n) F N (fun p hp => by
    rcases List.mem_cons.mp hp with rfl | hp
    · exact .head _
    · exact .tail _ (List.mem_append_left _ hp)) (fun p hp => .tail _ (List.mem_append_right _ hp)) rfl trivial (fun _ hp => nomatch hp) (fun z h1 _ h2 => hr z h1 h2) hP
section
variable {prog : Program} {w : World} {A : Around} {E : Value → Shared → Prop} {s : Shared} {h₀ : Heap} {L : Addr} {m : Str → Option Value} {news : List (Addr × Obj)} {Q : Value → Shared → Prop}
abbrev tupS (vs : Array Value) : Obj := { cls := .type "tuple", data := .seq vs }
theorem itemT_L {l : Addr} {its : Array Value} {ys : List Str} {k : Int} {u : Tok} {value slice : PySem.Expr} (N : News h₀ L s.heap news) (hl : (l, tupS its) ∈ news) (hi : StrsAre its.toList ys) (h0 : 0 ≤ k) (hk : k < (ys.length : Int)) (hz : ys.length ≤ 100000)
    (h : ∀ t, Q (.str (ys.getD k.toNat Str.empty) t) s)
    (hs : subscripted slice false (.ref l) (.int k u) = operate [.ref l, .int k u] (getItem (.ref l) (.int k u))) :
    wpAny (model prog w) A (subscriptTail value slice (.ref l) (.int k u)) Q E s := by
  have hlt : k.toNat < ys.length := by omega
  have hy : ys[k.toNat]? = some (ys.getD k.toNat Str.empty) := by rw [List.getD_eq_getElem?_getD, List.getElem?_eq_getElem hlt]; rfl
  obtain ⟨t, ht⟩ := strsAt hi hy
  have hlen := hi.length
  refine item_tupleT (l := its.toList) (j := k.toNat) (News.isTup N hl) (by omega) (by omega) ?_ ht (h t) hs
  unfold seqIndex?
  simp only [if_neg (show ¬ k < 0 from by omega)]
  rw [if_pos (by simp only [Bool.and_eq_true, decide_eq_true_eq]; omega)]
theorem getLast_at {ys : List Str} (h : ys ≠ []) : ys[ys.length - 1]? = some (ys.getLastD Str.empty) := by
  cases ys with
  | nil => exact absurd rfl h
  | cons y r => rw [← List.getLast?_eq_getElem?, List.getLast?_eq_some_getLast h, List.getLastD_eq_getLast?, List.getLast?_eq_some_getLast h]; rfl
theorem last_L {l : Addr} {its : Array Value} {n : Nat} {ys : List Str} {u : Tok} {value slice : PySem.Expr} (N : News h₀ L s.heap news) (hl : (l, listOf its n) ∈ news) (hi : StrsAre its.toList ys) (hne : ys ≠ []) (hz : ys.length ≤ 100000)
    (h : ∀ t, Q (.str (ys.getLastD Str.empty) t) s)
    (hs : subscripted slice false (.ref l) (.int (-1) u) = operate [.ref l, .int (-1) u] (getItem (.ref l) (.int (-1) u))) :
    wpAny (model prog w) A (subscriptTail value slice (.ref l) (.int (-1) u)) Q E s := by
  obtain ⟨t, ht⟩ := strsAt hi (getLast_at hne)
  have hL : s.heap.IsList l its := ⟨_, (N _ hl).1, rfl, n, rfl⟩
  have hlen : its.size = ys.length := by rw [← Array.length_toList]; exact hi.length
  have hp : 0 < ys.length := List.length_pos_iff.mpr hne
  refine tail_any hL.typeIs slot_list_getitem.lookup (wpAny_getItem_list_neg hL (by decide) (by omega) (by decide) (x := .str (ys.getLastD Str.empty) t) ?_ (h t)) hs
  rw [show ((-1 : Int) + (its.size : Int)).toNat = ys.length - 1 from by omega, ← Array.getElem?_toList]
  exact ht
theorem strs_set : ∀ {vs : List Value} {ys : List Str} (y : Str) (t : Tok) (k : Nat), StrsAre vs ys → StrsAre (vs.set k (.str y t)) (ys.set k y)
  | _, _, _, _, _, .nil => .nil
  | _, _, y, t, 0, .cons _ _ h => .cons y t h
  | _, _, y, t, k + 1, .cons z u h => .cons z u (strs_set y t k h)
theorem setLast_eq {ys : List Str} (y : Str) (h : ys ≠ []) : ys.set (ys.length - 1) y = ys.dropLast ++ [y] := by
  obtain ⟨r, z, rfl⟩ : ∃ r z, ys = r ++ [z] := ⟨ys.dropLast, ys.getLast h, (List.dropLast_concat_getLast h).symm⟩
  simp
theorem ki_set_some : ∀ (l : List Value) (k : Nat) (v : Value), k < l.length → ki_setL l k v = some (l.set k v)
  | [], _, _, h => absurd h (Nat.not_lt_zero _)
  | x :: r, 0, v, _ => rfl
  | x :: r, k + 1, v, h => by unfold ki_setL; rw [ki_set_some r k v (Nat.lt_of_succ_lt_succ h)]; rfl
theorem setLast_L {q : Addr} {its : Array Value} {n : Nat} {ys : List Str} {y : Str} {u t : Tok} {Q : Unit → Shared → Prop} (F : Fr h₀ L s.heap m) (N : News h₀ L s.heap ((q, listOf its n) :: news)) (hlt : ∀ p ∈ news, p.1 ≠ q) (hi : StrsAre its.toList ys) (hne : ys ≠ [])
    (h : ∀ its' h', Fr h₀ L h' m → News h₀ L h' ((q, listOf its' n) :: news) → StrsAre its'.toList (ys.dropLast ++ [y]) → Q () { s with heap := h' }) : wpAny (model prog w) A (setItem (.ref q) (.int (-1) u) (.str y t)) Q E s := by
  have hlen : its.size = ys.length := by rw [← Array.length_toList]; exact hi.length
  have hp : 0 < ys.length := List.length_pos_iff.mpr hne
  refine ki_setNeg (j := ys.length - 1) (q := its.toList.set (ys.length - 1) (.str y t)) F N (by decide) (by decide) ?_ (ki_set_some _ _ _ (show ys.length - 1 < its.toList.length from by have := hi.length; omega)) (.head hlt) fun h' F' N' => h _ h' F' N' ?_
  · rw [PySem.seqIndex_neg (by decide) (by omega)]; congr 1; omega
  · rw [← setLast_eq y hne]
    exact strs_set y t _ hi
end
end KR
end Mine
end

section
open PySem PySem.W PyProof.Rows PySem.Calls
set_option maxRecDepth 100000
namespace Mine
namespace KR
open MB
section
variable {prog : Program} {w : World} {A : Around} {E : Value → Shared → Prop} {s : Shared} {h₀ : Heap} {L : Addr} {m : Str → Option Value} {news : List (Addr × Obj)} {env : Env}
theorem compRest_L {f : Str → Str} {ax : Addr} {its : Array Value} {nn : Nat} {ys : List Str} {elt : PySem.Expr} {x : Str} {scope : Scope} {cl : List (Str × Addr)} {Fin : List Value → List (Addr × Obj) → Prop} (hi : StrsAre its.toList ys) (hm : (ax, listOf its nn) ∈ news)
    (turn : ∀ y t C oC m₂ h tk (E' : Value → Shared → Prop) led (Q' : Value → Shared → Prop), y ∈ ys → LCg.NsObj oC m₂ → m₂ x = some (.str y t) → Fr h₀ L h m → News h₀ L h led → (C, oC) ∈ led →
      (∀ t' h' tk', Fr h₀ L h' m → News h₀ L h' led → Q' (.str (f y) t') { s with heap := h', toks := tk' }) →
      wpAny (model prog w) A (eval elt (compEnvC scope cl C env)) Q' E' { s with heap := h, toks := tk })
    (fin : ∀ vs, StrsAre vs (ys.map f) → Fin vs news) :
    LCg.CompRest prog w A h₀ L m env elt x scope cl s (LCg.SrcAt h₀ ax its) (fun i v => its[i]? = some v) Fin its.size 0 [] news := by
  have hlen : its.size = ys.length := by rw [← Array.length_toList]; exact hi.length
  have main : ∀ k i acc, i + k = its.size → StrsAre acc ((ys.take i).map f) → LCg.CompRest prog w A h₀ L m env elt x scope cl s (LCg.SrcAt h₀ ax its) (fun i v => its[i]? = some v) Fin k i acc news := by
    intro k
    induction k with
    | zero =>
      intro i acc hk ha
      rw [List.take_of_length_le (by omega)] at ha
      exact LCg.CompRest.zero (fin _ ha)
    | succ k ih =>
      intro i acc hk ha
      refine LCg.CompRest.succ fun v I oI C oC D m₂ h tk E' hv hC hx F N off ne => ?_
      have hlt : i < ys.length := by omega
      obtain ⟨t, ht⟩ := strsAt hi (List.getElem?_eq_getElem hlt)
      have e : v = .str ys[i] t := by
        rw [← Array.getElem?_toList, ht] at hv
        exact (Option.some.inj hv).symm
      subst e
      refine turn ys[i] t C oC m₂ h tk E' _ _ (List.getElem_mem _) hC hx F N (.tail _ (.head _)) fun t' h' tk' F' N' => ?_
      refine ⟨h', tk', news, rfl, F', N', off, .inr ⟨_, hm, rfl, _, rfl⟩, ih (i + 1) _ (by omega) ?_⟩
      rw [List.take_add_one, List.getElem?_eq_getElem hlt, List.map_append]
      exact strsSnoc ha
  exact main its.size 0 [] (Nat.zero_add _) .nil
theorem strsAppend {vs ws : List Value} {ys zs : List Str} (h : StrsAre vs ys) (h' : StrsAre ws zs) : StrsAre (vs ++ ws) (ys ++ zs) := by
  induction h with
  | nil => exact h'
  | cons y t _ ih => exact .cons y t ih
theorem add_L {Q : Value → Shared → Prop} {a b : Addr} {its its2 : Array Value} {n n2 : Nat} {ys zs : List Str} (F : Fr h₀ L s.heap m) (N : News h₀ L s.heap news) (ha : (a, listOf its n) ∈ news) (hb : (b, listOf its2 n2) ∈ news) (hi : StrsAre its.toList ys) (hj : StrsAre its2.toList zs) (hz : ys.length + zs.length ≤ 100000)
    (h : ∀ D us h', Fr h₀ L h' m → News h₀ L h' ((D, listOf us 0) :: news) → (∀ p ∈ news, p.1 < D) → StrsAre us.toList (ys ++ zs) → Q (.ref D) { s with heap := h' }) : wpAny (model prog w) A (binaryOp .Add (.ref a) (.ref b)) Q E s := by
  refine kmk_add_lit (its := its) (its2 := its2) F N ⟨_, (N _ ha).1, rfl, n, rfl⟩ ⟨_, (N _ hb).1, rfl, n2, rfl⟩ rfl (fun D h' F' N' l1 => h D _ h' F' N' l1 (strsAppend hi hj)) ?_
  rw [hi.length, hj.length, sizeLine_eq]; omega
theorem strsRep {v : Value} {y : Str} (h : StrsAre [v] [y]) : ∀ k, StrsAre (List.replicate k [v]).flatten (List.replicate k y)
  | 0 => .nil
  | k + 1 => by rw [List.replicate_succ, List.replicate_succ, List.flatten_cons]; exact strsAppend h (strsRep h k)
theorem notin_L {Q : Value → Shared → Prop} {l : Addr} {its : Array Value} {n : Nat} {ys : List Str} {k : Str} {t : Tok} (N : News h₀ L s.heap news) (hl : (l, listOf its n) ∈ news) (hi : StrsAre its.toList ys)
    (h : Q (.bool (!(ys.any (· == k)))) s) : wpAny (model prog w) A (compareOp .NotIn (.str k t) (.ref l)) Q E s :=
  notin_list_strs (vs := its.toList) ⟨_, (N _ hl).1, rfl, n, rfl⟩ hi h
theorem mul_L {Q : Value → Shared → Prop} {l : Addr} {n : Nat} {y : Str} {t u : Tok} {x : Int} (F : Fr h₀ L s.heap m) (N : News h₀ L s.heap news) (hl : (l, listOf #[.str y t] n) ∈ news) (h0 : 0 ≤ x) (hx : x ≤ 10)
    (h : ∀ D us h', Fr h₀ L h' m → News h₀ L h' ((D, listOf us 0) :: news) → (∀ p ∈ news, p.1 < D) → StrsAre us.toList (List.replicate x.toNat y) → Q (.ref D) { s with heap := h' }) : wpAny (model prog w) A (binaryOp .Mult (.ref l) (.int x u)) Q E s :=
  KMa.mul (vs := [.str y t]) F N ⟨_, (N _ hl).1, rfl, n, rfl⟩ (by omega) (by omega) (by show 1 * x.toNat ≤ 256; omega) rfl fun D h' F' N' l1 => h D _ h' F' N' l1 (strsRep (.cons y t .nil) _)
def Cut0 (P : Prop) : Prop := P
theorem execs_cut0 {M : Model} {st : Stmt} {rest : List Stmt} {Q : Flow → Shared → Prop} (P : Shared → Prop) (h1 : wpAny M A (exec st env) (fun f s' => Cut0 (f = .next ∧ P s')) E s) (h2 : ∀ s', P s' → wpAny M A (execs rest env) Q E s') :
    wpAny M A (execs (st :: rest) env) Q E s :=
  wpAny_execs_cons (wpAny_mono h1 (fun f s' h => by have h' : f = .next ∧ P s' := h; obtain ⟨rfl, h'⟩ := h'; exact h2 s' h') fun _ _ e => e)
theorem map_bind {M : Str → Option Value} {a : Str} {v : Value} (h : M a = some v) : M = fun y => if y = a then some v else M y := by
  funext y
  by_cases h1 : y = a
  · rw [if_pos h1, h1, h]
  · rw [if_neg h1]
end
end KR
end Mine
end

section
open PySem PySem.W PyProof.Rows PySem.Calls
set_option maxRecDepth 100000
namespace Mine
namespace KR
open MB
def StrTo (f : Str → Str) (v r : Value) : Prop := ∃ z t t', v = .str z t ∧ r = .str (f z) t'
theorem paired_strs {f : Str → Str} {vs rs : List Value} {ys : List Str} (p : Paired (StrTo f) vs rs) (h : StrsAre vs ys) : StrsAre rs (ys.map f) := by
  induction p generalizing ys with
  | nil => cases h; exact .nil
  | cons hf _ ih =>
    obtain ⟨z, t1, t2, rfl, rfl⟩ := hf
    cases h with
    | cons y t r => exact .cons _ _ (ih r)
section
variable {prog : Program} {w : World} {A : Around} {E : Value → Shared → Prop} {s : Shared} {h₀ : Heap} {m : Str → Option Value} {news : List (Addr × Obj)} {env : Env}
theorem assignKeeps_L (f : Str → Str) {elt iter : PySem.Expr} {x y : Str} {px py pos spos : Pos} {scope : Scope} {cl : List (Str × Addr)} {l : Addr} {its : Array Value} {n : Nat} {ys : List Str} {Q : Flow → Shared → Prop}
    (hh : A.handled = none) (F : Fr h₀ env.locals s.heap m) (N : News h₀ env.locals s.heap news) (hl : (l, listOf its n) ∈ news) (hi : StrsAre its.toList ys) (hz : ys.length ≤ 1000) (ht : 1 ≤ s.toks)
    (hsw : swapsWith (.ListComp elt [⟨.Name x px, iter, [], 0⟩] scope pos) (some (.Name y py)) spos.line env = pure true)
    (hclos : closureFor scope env = pure cl) (hcell : ∀ z ∈ scope.names, z.2 ≠ .cell) (hkind : scope.kind = .function)
    (hnames : ∀ z ∈ scope.names, z.2 = .local → scope.names.lookup z.1 = some .local) (hx : scope.names.lookup x = some .local)
    (hy : env.kindOf y = some .local) (hp : (env.scope.kind == .class || (env.scope.kind == .module && env.locals != env.globals)) = false)
    (hit : ∀ Q' : Value → Shared → Prop, Q' (.ref l) s → wpAny (model prog w) A (eval iter env) Q' E s)
    (turn : ∀ z t C s₃ m₃ (E' : Value → Shared → Prop) (Q' : Value → Shared → Prop), z ∈ ys → s₃.heap.Ns C m₃ → m₃ x = some (.str z t) → 1 ≤ s₃.toks → (∀ t' k, Q' (.str (f z) t') { s₃ with toks := k }) →
      wpAny (model prog w) A (eval elt (compEnvC scope cl C env)) Q' E' s₃)
    (done : ∀ D vs c h' tk, Fr h₀ env.locals h' (fun z => if z = y then some (.ref D) else m z) → News h₀ env.locals h' ((D, listOf vs c) :: news) → StrsAre vs.toList (ys.map f) → Q .next { s with heap := h', toks := tk })
    (hs : ∀ x, foldedSetIterable iter env x = pure x) :
    wpAny (model prog w) A (exec (.Assign [.Name y py] (.ListComp elt [⟨.Name x px, iter, [], 0⟩] scope pos) spos) env) Q E s := by
  have hL : s.heap.IsList l its := ⟨_, (N _ hl).1, rfl, n, rfl⟩
  have hlt : l < s.heap.objs.size := Heap.lt_size (N _ hl).1
  have hlen : its.size = ys.length := by rw [← Array.length_toList]; exact hi.length
  refine wpAny_Assign_ListComp_free (fun _ => true) (StrTo f) hsw hclos hcell hkind hnames hx hy hp (hit _ (wpAny_pyIter_list hL ?_)) hs
  have item : ∀ {i : Nat} {v : Value}, its[i]? = some v → ∃ z t, z ∈ ys ∧ v = .str z t := by
    intro i v hv
    have hi' : i < ys.length := by
      have : i < its.size := by
        rcases Nat.lt_or_ge i its.size with h | h
        · exact h
        · rw [Array.getElem?_eq_none h] at hv; cases hv
      omega
    obtain ⟨t, ht⟩ := strsAt hi (List.getElem?_eq_getElem hi')
    rw [← Array.getElem?_toList, ht] at hv
    exact ⟨_, t, List.getElem_mem _, (Option.some.inj hv).symm⟩
  refine ⟨s.heap.objs.size, [s.heap.objs.size, l], [s.heap.objs.size], its.size, _, _, m, rfl, Walks.list hh _ l (Nat.ne_of_lt hlt) its, (by rw [sizeLine_eq]; omega),
    ⟨⟨_, Heap.get?_push_size _ rfl, rfl, rfl⟩, hL.push _⟩, ?_, ?_, (F.push _).ns, ⟨?_, ?_⟩, ?_⟩
  · intro b hb
    show b < (s.heap.push _).objs.size
    rw [Heap.size_push]
    rcases List.mem_cons.mp hb with rfl | hb
    · exact Nat.lt_succ_self _
    · rw [List.mem_singleton.mp hb]; exact Nat.lt_succ_of_lt hlt
  · intro hm
    exact absurd F.ns.lt ((List.mem_singleton.mp hm) ▸ Nat.lt_irrefl _)
  · intro C i v s₃ m₃ E' _ _ _ _ _ _
    exact wpAny_tests_nil ⟨rfl, s₃.heap, s₃.toks, rfl, fun _ _ e => e⟩
  · intro C i v s₃ m₃ E' _ hv _ hns hm _ htk
    obtain ⟨z, t, hz', rfl⟩ := item hv
    exact turn z t C s₃ m₃ E' _ hz' hns hm (Nat.le_trans ht htk) fun t' k => ⟨⟨z, t, t', rfl, rfl⟩, s₃.heap, k, rfl, fun _ _ e => e⟩
  · intro D h' tk rs vs hD _ hpl hlen' hP hF hns hk
    obtain ⟨c, hc⟩ := hpl
    have evs : vs = its.toList := walked_is hlen' hP
    subst evs
    rw [List.filter_eq_self.mpr (fun _ _ => rfl)] at hF
    have up : ∀ b o, b ≠ env.locals → s.heap.get? b = some o → h'.get? b = some o := fun b o hb e => hk b o hb (fun hm => by rw [List.mem_singleton.mp hm] at e; exact absurd (Heap.lt_size e) (Nat.lt_irrefl _)) (Heap.get?_push_of_some _ e)
    refine done D rs c h' tk ⟨hns, fun b o e => ?_, F.above⟩ (fun p hp => ?_) (paired_strs hF hi)
    · refine up b o (fun hb => ?_) (F.keep b o e)
      exact absurd (Heap.lt_size e) (hb ▸ Nat.not_lt.mpr F.above)
    · rcases List.mem_cons.mp hp with rfl | hp
      · refine ⟨hc, ?_, ?_⟩
        · rintro rfl
          obtain ⟨o, _, _, ho, _⟩ := F.ns
          rw [Heap.get?_push_of_some _ ho] at hD; cases hD
        · cases e : h₀.get? D with
          | none => rfl
          | some o => rw [Heap.get?_push_of_some _ (F.keep _ _ e)] at hD; cases hD
      · exact ⟨up _ _ (N p hp).2.1 (N p hp).1, (N p hp).2⟩
end
end KR
end Mine
end

section
open PySem PySem.W PyProof.Rows PySem.Calls
set_option maxRecDepth 100000
namespace Mine
namespace KR
open MB
section
variable {prog : Program} {w : World} {A : Around} {E : Value → Shared → Prop} {s : Shared} {env : Env} {h₀ : Heap} {x : Str} {body : List Stmt} {Q : Flow → Shared → Prop}
def KeptBut (x : Str) (stored : List Str) (m₀ m : Str → Option Value) : Prop := ∀ z, z ≠ x → stored.contains z = false → m z = m₀ z
theorem tup_inv {l : Addr} {vs : Array Value} {m₀ : Str → Option Value} {news : List (Addr × Obj)} (stored : List Str) (hh : A.handled = none) (F : Fr h₀ env.locals s.heap m₀) (N : News h₀ env.locals s.heap ((l, tupS vs) :: news)) (hlt : ∀ p ∈ news, p.1 < l)
    (turn : ∀ v m h tk own, v ∈ vs.toList → OwnOff own (news.map (·.1)) → m x = some v → KeptBut x stored m₀ m → Fr h₀ env.locals h m → News h₀ env.locals h (news ++ own) →
      wpAny (model prog w) A (execs body env) (InvPostN h₀ env.locals (fun m' nx => nx = news ∧ KeptBut x stored m₀ m') own (news.map (·.1)) { s with heap := h, toks := tk } Q) E { s with heap := h, toks := tk })
    (done : ∀ m h tk, KeptBut x stored m₀ m → Fr h₀ env.locals h m → News h₀ env.locals h news → Q .next { s with heap := h, toks := tk }) :
    wpAny (model prog w) A (pyIter (.ref l)) (fun it s₂ => LoopAtV prog w A h₀ env x body Q E it s₂) E s := by
  have hax := N _ (.head _)
  have Nn : News h₀ env.locals s.heap news := fun p hp => N p (.tail _ hp)
  have hl : s.heap.IsTuple l vs := ⟨_, hax.1, rfl, 0, rfl⟩
  have hne : l ≠ s.heap.objs.size := Nat.ne_of_lt (Heap.lt_size hax.1)
  refine wpAny_pyIter_tuple hl ?_
  refine loop_invN (fun _ m nx => nx = news ∧ KeptBut x stored m₀ m) (Walks.tuple hh s.heap.objs.size l hne vs) ?_ ?_ ?_ ?_ ⟨⟨_, Heap.get?_push_size _ rfl, rfl, rfl⟩, hl.at fun o e => Heap.get?_push_of_some _ e⟩ (F.push _) (fun p hp => ⟨Heap.get?_push_of_some _ (Nn p hp).1, (Nn p hp).2⟩) ⟨rfl, fun _ _ _ => rfl⟩ ?_ ?_
  · intro hI
    rcases List.mem_cons.mp hI with e | hI
    · exact absurd F.ns.lt (e ▸ Nat.lt_irrefl _)
    · exact hax.2.1 (List.mem_singleton.mp hI).symm
  · intro b hb
    rw [List.mem_singleton.mp hb]
    exact next_is_new F
  · intro p hp hI
    exact absurd (Heap.lt_size (Nn p hp).1) ((List.mem_singleton.mp hI) ▸ Nat.lt_irrefl _)
  · intro p hp hI
    rcases List.mem_cons.mp hI with e | hI
    · exact absurd (Heap.lt_size (Nn p hp).1) (e ▸ Nat.lt_irrefl _)
    · exact absurd (hlt p hp) ((List.mem_singleton.mp hI) ▸ Nat.lt_irrefl _)
  · rintro i v m₁ nx h tk own hi hP _ hoff ⟨rfl, hK⟩ F₁ N₁
    refine turn v _ h tk own ?_ hoff (if_pos rfl) (fun z hz hc => (if_neg hz).trans (hK z hz hc)) F₁ N₁
    have hP' : vs[i]? = some v := hP
    rw [← Array.getElem?_toList] at hP'
    exact List.mem_of_getElem? hP'
  · rintro m₁ nx h tk ⟨rfl, hK⟩ F₁ N₁
    exact done m₁ h tk hK F₁ N₁
theorem tup_end {L : Addr} {m' m₀ : Str → Option Value} {stored : List Str} {own news news' : List (Addr × Obj)} {s₁ : Shared} {h' : Heap} {tk : Nat}
    (F : Fr h₀ L h' m') (N : News h₀ L h' news') (hn : ∀ p ∈ news, p ∈ news') (ho : ∀ p ∈ own, p ∈ news') (hr : KeptBut x stored m₀ m') :
    InvEndN h₀ L (fun m' nx => nx = news ∧ KeptBut x stored m₀ m') own (news.map (·.1)) s₁ { s₁ with heap := h', toks := tk } :=
  InvEndN.intro F N ⟨rfl, hr⟩ rfl hn ho
end
def AllB (M : Str → Option Value) : List (Str × Value) → Prop
  | [] => True
  | p :: r => M p.1 = some p.2 ∧ AllB M r
theorem allB_mem {M : Str → Option Value} : ∀ {ps : List (Str × Value)}, AllB M ps → ∀ p ∈ ps, M p.1 = some p.2
  | [], _, _, h => nomatch h
  | _ :: _, h, p, hp => by
    rcases List.mem_cons.mp hp with rfl | hp
    · exact h.1
    · exact allB_mem h.2 p hp
theorem bindAll {M : Str → Option Value} (ps : List (Str × Value)) (h : AllB M ps) : M = kstB M ps :=
  funext fun _ => (kstB_eq (allB_mem h) fun _ => rfl).symm
theorem kept_step {x y : Str} {v : Value} {stored : List Str} {m₀ m : Str → Option Value} {ps : List (Str × Value)} (hK : KeptBut x stored m₀ m) (hps : AllB m ps) (hy : stored.contains y = true) : KeptBut x stored m₀ (fun z => if z = y then some v else kstB m ps z) := by
  intro z hz hc
  show (if z = y then some v else kstB m ps z) = m₀ z
  rw [if_neg (by rintro rfl; rw [hy] at hc; cases hc), ← bindAll ps hps]
  exact hK z hz hc
theorem kept_same {x : Str} {stored : List Str} {m₀ m : Str → Option Value} {ps : List (Str × Value)} (hK : KeptBut x stored m₀ m) (hps : AllB m ps) : KeptBut x stored m₀ (kstB m ps) := by
  rw [← bindAll ps hps]; exact hK
theorem kept_set {x y : Str} {v : Value} {stored : List Str} {m₀ m : Str → Option Value} (hK : KeptBut x stored m₀ m) (hy : stored.contains y = true) : KeptBut x stored m₀ (fun z => if z = y then some v else m z) := by
  intro z hz hc
  show (if z = y then some v else m z) = m₀ z
  rw [if_neg (by rintro rfl; rw [hy] at hc; cases hc)]
  exact hK z hz hc
end KR
end Mine
end

section
open PySem PySem.W PyProof.Rows
set_option maxRecDepth 100000
namespace Mine
set_option maxHeartbeats 8000000 in
open_top hd for PySem.Challenge.rw_pe0022_01
end Mine
end

section
open PySem PySem.W PyProof.Rows PySem.Calls
set_option maxRecDepth 100000
namespace Mine
open RX
theorem pat2_of {w : World} {h : Heap} (X : (hd.heap_39 w.params).In h) : PatAt h 49 code2 :=
  ⟨_, _, 48, _, _, _, _, _, X 49 _ rfl, rfl, rfl, rfl, rfl, rfl, rfl, X 48 _ rfl, rfl, by decide +kernel⟩
theorem pat1_of {w : World} {h : Heap} (X : (hd.heap_39 w.params).In h) : PatAt h 44 code1 :=
  ⟨_, _, 43, _, _, _, _, _, X 44 _ rfl, rfl, rfl, rfl, rfl, rfl, rfl, X 43 _ rfl, rfl, by decide +kernel⟩
section
variable {w : World} {p : Program} {loose : List Str} {mean : ExcName → Option Value} {mg mb : Str → Option Value} {dp un : Nat} {gd : Option (List Code)} {cn : Str} {cs : Scope} {a : Addr} {ccd : Value} {cl : List (Str × Addr)} {outer : List Env} {A₀ : Around} {base h₀ : Heap} {L : Addr} {m : Str → Option Value} {news : List (Addr × Obj)} {s : Shared} {Q E : Value → Shared → Prop}

local macro_rules | `(tactic| walk_at "getMethod ref") => `(tactic| (k_here; (with_reducible show wpAny _ _ (getMethod (Value.ref _) (PySem.Str.ofString "sub") _) _ _ _); first
  | (refine' sub_method (code := code2) ?k1 ?k2 ?_; (case k1 => k_asm); (case k2 => exact pat2_of (by k_asm)); k_whole)
  | (refine' sub_method (code := code1) ?k1 ?k2 ?_; (case k1 => k_asm); (case k2 => exact pat1_of (by k_asm)); k_whole)))
local macro_rules | `(tactic| walk_at "call builtin:re.Pattern.sub") => `(tactic| (k_here; first
  | (refine' eol_call ?k1 ?k2 ?k3 ?k4 ?_; (case k1 => k_asm); (case k2 => k_asm); (case k3 => exact pat2_of (by k_asm)); (case k4 => omega); k_whole; intro t' h' tk' F' N')
  | (refine' dot_call ?k1 ?k2 ?k3 ?k4 ?_; (case k1 => k_asm); (case k2 => k_asm); (case k3 => exact pat1_of (by k_asm)); (case k4 => omega); k_whole; intro t' h' tk' F' N')))

set_option maxHeartbeats 8000000 in
theorem fix_call {x : Str} {t : Tok} (B : Below A₀ base outer h₀) (F : Fr h₀ L s.heap m) (X : (hd.heap_39 w.params).In h₀) (N : News h₀ L s.heap news) (T : Top p loose mean mg mb h₀) (hk : cs.kind = .function) (hx : x.length ≤ 1000)
    (hd : dp + 1 < recursionLimit) (hu : un + 8 < cLine)
    (hret : ∀ t h' tk', Fr h₀ L h' m → News h₀ L h' news → Q (.str (eolP x) t) { s with heap := h', toks := tk' }) :
    wpAny (model Challenge.rw_pe0022_01.row.prog w) (ktrTop dp un gd cn cs L a ccd cl outer) (call (.ref 63) [.str x t]) Q E s := by
  w_top off
  refine wpAny_call ?_
  k_dflt cell_enter
  k_steps
  all_goals exact hret _ _ _ (by assumption) (by assumption)

theorem eolL_len : ∀ l : List Nat, (eolL l).length ≤ 2 * l.length := by
  intro l
  induction l using eolL.induct with
  | case1 => simp [eolL]
  | case2 r ih => rw [eolL_crlf]; simp only [List.length_cons]; omega
  | case3 c r h hc ih =>
    rw [eolL]
    · rw [if_pos hc]; simp only [List.length_cons]; omega
    · exact h
  | case4 c r h hc ih =>
    rw [eolL]
    · rw [if_neg hc]; simp only [List.length_cons]; omega
    · exact h
theorem eolP_len (x : Str) : (eolP x).length ≤ 2 * x.length := by
  show (eolL x.cps.toList).toArray.size ≤ 2 * x.cps.size
  rw [List.size_toArray]
  exact eolL_len _

set_option maxHeartbeats 8000000 in
theorem quote_call {x : Str} {t : Tok} (B : Below A₀ base outer h₀) (F : Fr h₀ L s.heap m) (X : (hd.heap_39 w.params).In h₀) (N : News h₀ L s.heap news) (T : Top p loose mean mg mb h₀) (hk : cs.kind = .function) (hx : x.length ≤ 1000)
    (hd : dp + 1 < recursionLimit) (hu : un + 8 < cLine)
    (hret : ∀ t h' tk', Fr h₀ L h' m → News h₀ L h' news → Q (.str (dotP (eolP x)) t) { s with heap := h', toks := tk' }) :
    wpAny (model Challenge.rw_pe0022_01.row.prog w) (ktrTop dp un gd cn cs L a ccd cl outer) (call (.ref 56) [.str x t]) Q E s := by
  have hl := eolP_len x
  w_top off
  refine wpAny_call ?_
  k_dflt cell_enter
  k_steps
  all_goals exact hret _ _ _ (by assumption) (by assumption)
end
end Mine
end

section
open PySem PySem.W PyProof.Rows PySem.Calls PySem.StrLaws
open Builtin Builtin.Str
set_option maxRecDepth 100000
namespace Mine
def repL (y z : List Nat) : Nat → List Nat → List Nat
  | _, [] => []
  | k + 1, _ :: r => repL y z k r
  | 0, c :: r => if ((c :: r).take y.length == y) = true then z ++ repL y z (y.length - 1) r else c :: repL y z 0 r
theorem rep_skip (y z : List Nat) : ∀ (k : Nat) (l : List Nat), repL y z k l = repL y z 0 (l.drop k)
  | 0, l => rfl
  | k + 1, [] => by rw [List.drop_nil]; rfl
  | k + 1, c :: r => by rw [List.drop_succ_cons]; exact rep_skip y z k r
theorem rep_nil (y z : List Nat) (k : Nat) : repL y z k [] = [] := by cases k <;> rfl
theorem rep_hit {y z l : List Nat} (hy : 1 ≤ y.length) (h : (l.take y.length == y) = true) : repL y z 0 l = z ++ repL y z 0 (l.drop y.length) := by
  cases l with
  | nil => rw [List.take_nil] at h; cases y with
    | nil => exact absurd hy (by decide)
    | cons c r => exact absurd h (by simp)
  | cons c r =>
    show (if ((c :: r).take y.length == y) = true then z ++ repL y z (y.length - 1) r else c :: repL y z 0 r) = _
    rw [if_pos h, rep_skip, show y.length = (y.length - 1) + 1 by omega, List.drop_succ_cons]; rfl
theorem rep_miss {y z r : List Nat} {c : Nat} (h : ((c :: r).take y.length == y) = false) : repL y z 0 (c :: r) = c :: repL y z 0 r := by
  show (if ((c :: r).take y.length == y) = true then z ++ repL y z (y.length - 1) r else c :: repL y z 0 r) = _
  rw [if_neg (by rw [h]; exact Bool.false_ne_true)]
theorem rep_run {y z : List Nat} : ∀ (d : Nat) (l : List Nat), (∀ k, k < d → ((l.drop k).take y.length == y) = false) → repL y z 0 l = l.take d ++ repL y z 0 (l.drop d)
  | 0, l, _ => rfl
  | d + 1, [], _ => by simp [rep_nil]
  | d + 1, c :: r, h => by
    rw [rep_miss (by have := h 0 (Nat.succ_pos d); exact this), List.take_succ_cons, List.drop_succ_cons, List.cons_append]
    rw [rep_run d r fun k hk => by have := h (k + 1) (Nat.succ_lt_succ hk); rwa [List.drop_succ_cons] at this]
theorem at_no {x y : Str} {k : Nat} (hy : 1 ≤ y.length) (h : ¬ At x y x.length k) : ((x.cps.toList.drop k).take y.length == y.cps.toList) = false := by
  cases e : ((x.cps.toList.drop k).take y.length == y.cps.toList) with
  | false => rfl
  | true =>
    exfalso
    refine h ⟨?_, by rw [subAt_eq, e]⟩
    have hl := congrArg List.length (beq_iff_eq.mp e)
    rw [List.length_take, List.length_drop, Array.length_toList, Array.length_toList] at hl
    have h1 : x.cps.size = x.length := rfl
    have h2 : y.cps.size = y.length := rfl
    omega
theorem rep_chain {x y z : Str} (hy : 1 ≤ y.length) : ∀ (cuts : List Nat) (a f : Nat), ChainG x y x.length a cuts f → (∀ k, f ≤ k → ¬ At x y x.length k) →
    (Str.join z (partsFrom x y.length a cuts)).cps.toList = repL y.cps.toList z.cps.toList 0 (x.cps.toList.drop a)
  | [], a, f, h, hn => by
    have e : f = a := h
    subst e
    show (strSub x f x.length).cps.toList = _
    rw [strSub_toList, rep_run (x.length - f) (x.cps.toList.drop f) fun k hk => ?_]
    · rw [List.drop_drop, List.drop_eq_nil_of_le (i := f + (x.length - f)) (by rw [Array.length_toList]; have : x.cps.size = x.length := rfl; omega), rep_nil, List.append_nil]
    · rw [List.drop_drop]; exact at_no hy (hn _ (by omega))
  | c :: r, a, f, h, hn => by
    have ih := rep_chain (z := z) hy r _ f h.2.2.2 hn
    obtain ⟨p, q, e⟩ := partsFrom_ne x y.length (c + y.length) r
    show (Str.join z (strSub x a c :: partsFrom x y.length (c + y.length) r)).cps.toList = _
    rw [e] at ih ⊢
    show (strSub x a c ++ z ++ Str.join z (p :: q)).cps.toList = _
    simp only [Str.cps_append, Array.toList_append]
    rw [ih, strSub_toList, rep_run (c - a) (x.cps.toList.drop a) fun k hk => ?_]
    · rw [List.drop_drop, show a + (c - a) = c by have := h.1; omega, rep_hit (l := x.cps.toList.drop c) hy ?_, List.drop_drop]
      · rw [List.append_assoc]; rfl
      · have := h.2.1.2; rw [subAt_eq] at this; exact this
    · rw [List.drop_drop]; exact at_no hy (h.2.2.1 _ (by omega) (by omega))
theorem replace_L (x y z : Str) (hy : 1 ≤ y.length) : (Txt.replace x y z).cps.toList = repL y.cps.toList z.cps.toList 0 x.cps.toList := by
  obtain ⟨f, hc, hn⟩ := occ_tight x y hy
  have key := rep_chain (z := z) hy _ _ _ hc hn
  unfold Txt.replace
  have h0 : (y.length == 0) = false := by rw [beq_eq_false_iff_ne]; omega
  rw [h0, Bool.false_and, Bool.or_false]
  cases e : occurrences x y 0 x.length (x.length + 1) with
  | nil =>
    rw [e] at key
    rw [if_pos (show ([] : List Nat).isEmpty = true from rfl)]
    rw [List.drop_zero] at key
    rw [← key]
    show x.cps.toList = (strSub x 0 x.length).cps.toList
    rw [sub_whole]
  | cons c r =>
    rw [e] at key
    rw [if_neg (by exact Bool.false_ne_true), glued_eq_join, partsBetween_eq, key, List.drop_zero]
theorem rep_len (y z : List Nat) : ∀ (k : Nat) (l : List Nat), (repL y z k l).length ≤ l.length * (z.length + 1)
  | k, [] => by rw [rep_nil]; exact Nat.zero_le _
  | k + 1, c :: r => by
    have := rep_len y z k r
    show (repL y z k r).length ≤ (r.length + 1) * (z.length + 1)
    rw [Nat.add_mul]; omega
  | 0, c :: r => by
    have h1 := rep_len y z (y.length - 1) r
    have h2 := rep_len y z 0 r
    show (if ((c :: r).take y.length == y) = true then z ++ repL y z (y.length - 1) r else c :: repL y z 0 r).length ≤ (r.length + 1) * (z.length + 1)
    rw [Nat.add_mul]
    split
    · rw [List.length_append]; omega
    · rw [List.length_cons]; omega
theorem replace_len (x y z : Str) (hy : 1 ≤ y.length) : (Txt.replace x y z).length ≤ x.length * (z.length + 1) := by
  have := rep_len y.cps.toList z.cps.toList 0 x.cps.toList
  rw [← replace_L x y z hy, Array.length_toList, Array.length_toList, Array.length_toList] at this
  exact this
def evenP (x : Str) : Str := Txt.replace (Txt.replace (Txt.replace x (Str.ofString "\r\n") (Str.ofString "\n")) (Str.ofString "\r") (Str.ofString "\n")) (Str.ofString "\n") (Str.ofString "\r\n")
def aL : List Nat → List Nat := repL [13, 10] [10] 0
def bL : List Nat → List Nat := repL [13] [10] 0
def cL : List Nat → List Nat := repL [10] [13, 10] 0
theorem cps_lit {s : String} {l : List Nat} (h : (Str.ofString s) = ⟨l.toArray⟩) : (Str.ofString s).cps.toList = l := by rw [h]
theorem even_L (x : Str) : (evenP x).cps.toList = cL (bL (aL x.cps.toList)) := by
  unfold evenP cL bL aL
  rw [replace_L _ _ _ (by decide +kernel), replace_L _ _ _ (by decide +kernel), replace_L _ _ _ (by decide +kernel)]
  rw [cps_lit (s := "\r\n") (l := [13, 10]) (by decide +kernel), cps_lit (s := "\n") (l := [10]) (by decide +kernel), cps_lit (s := "\r") (l := [13]) (by decide +kernel)]
theorem b_cons (c : Nat) (r : List Nat) : bL (c :: r) = (if c = 13 then 10 else c) :: bL r := by
  unfold bL
  by_cases h : c = 13
  · rw [if_pos h, h]; exact rep_hit (l := 13 :: r) (by decide) (by simp)
  · rw [if_neg h]; exact rep_miss (by simp [h])
theorem c_cons (c : Nat) (r : List Nat) : cL (c :: r) = if c = 10 then 13 :: 10 :: cL r else c :: cL r := by
  unfold cL
  by_cases h : c = 10
  · rw [if_pos h, h]; exact rep_hit (l := 10 :: r) (by decide) (by simp)
  · rw [if_neg h]; exact rep_miss (by simp [h])
theorem a_crlf (r : List Nat) : aL (13 :: 10 :: r) = 10 :: aL r := rep_hit (l := 13 :: 10 :: r) (by decide) (by simp)
theorem a_other {c : Nat} {r : List Nat} (h : ¬ (c = 13 ∧ r.head? = some 10)) : aL (c :: r) = c :: aL r := by
  unfold aL
  refine rep_miss ?_
  cases r with
  | nil => simp
  | cons d r =>
    rw [beq_eq_false_iff_ne]
    intro e
    have e' : [c, d] = [13, 10] := e
    injection e' with e1 e2
    injection e2 with e2 _
    exact h ⟨e1, by rw [e2]; rfl⟩
theorem eol_chain (l : List Nat) : cL (bL (aL l)) = RX.eolL l := by
  induction l using RX.eolL.induct with
  | case1 => rfl
  | case2 r ih => rw [a_crlf, b_cons, if_neg (by decide), c_cons, if_pos rfl, ih, RX.eolL_crlf]
  | case3 c r h hc ih =>
    rw [a_other (fun e => by
      cases r with
      | nil => exact absurd e.2 (by simp)
      | cons d r => exact h r e.1 (by have := e.2; simp at this; rw [this])), b_cons, c_cons]
    have hx : (if c = 13 then 10 else c) = 10 := by
      rcases hc with e | e
      · rw [if_pos e]
      · rw [e]; rfl
    rw [if_pos hx, ih, RX.eolL]
    · rw [if_pos hc]
    · exact h
  | case4 c r h hc ih =>
    rw [a_other (fun e => hc (.inl e.1)), b_cons, if_neg (fun e => hc (.inl e)), c_cons, if_neg (fun e => hc (.inr e)), ih, RX.eolL]
    · rw [if_neg hc]
    · exact h
theorem even_eol (x : Str) : evenP x = RX.eolP x := by
  have h := even_L x
  rw [eol_chain] at h
  unfold RX.eolP
  rw [← h]
end Mine
end

section
open PySem PySem.W PyProof.Rows PySem.Calls
set_option maxRecDepth 100000
namespace Mine
open MB KR
noncomputable abbrev LS : List Str := looseW hd.view_39 [Str.ofString "_norm_version", Str.ofString "_twin_re_1", Str.ofString "_twin_re_2"]
section
variable {w : World} {p : Program} {loose : List Str} {mean : ExcName → Option Value} {mg mb : Str → Option Value} {dp un : Nat} {gd : Option (List Code)} {cn : Str} {cs : Scope} {a : Addr} {ccd : Value} {cl : List (Str × Addr)} {outer : List Env} {A₀ : Around} {base h₀ : Heap} {L : Addr} {m : Str → Option Value} {news : List (Addr × Obj)} {s : Shared} {Q E : Value → Shared → Prop}

def normL (x b : Str) : List Str := Txt.split x (Str.ofString ".") ++ (if b.length = 0 then [] else [b])
def normS (x b : Str) : List Str := if (normL x b).all isNum then (normL x b).map canonT else normL x b
def normP (x b : Str) : Str := Txt.join (Str.ofString ".") ((normS x b).take 3)

local macro_rules | `(tactic| walk_at "call builtin:str.split") => `(tactic| (k_here; refine' split_L ?k1 ?k2 ?k3 ?k4 ?_; (case k1 => k_asm); (case k2 => k_asm); (case k3 => decide +kernel); (case k4 => omega); k_whole; intro q' i' h' k' F' N' l' hs'))
local macro_rules | `(tactic| walk_at "call builtin:list.append") => `(tactic| (k_here; (with_reducible show wpAny _ _ (call (Value.builtin _) [Value.ref _, _]) _ _ _); refine' append_L ?k1 ?k2 ?k3 ?k4 ?_; (case k1 => k_asm); (case k2 => k_asm); (case k3 => k_asm); (case k4 => exact strs_size (by assumption) (by omega)); k_whole; intro h' F' N'))
local macro_rules | `(tactic| walk_at "call type:map") => `(tactic| (k_here; first
  | (refine' map1_L ?k1 ?k2 ?k3 ?_; (case k1 => k_asm); (case k2 => k_asm); (case k3 => k_mem); k_whole; intro a1 a2 a3 h' F' N' l1 l2 l3)
  | (refine' map2_L ?k1 ?k2 ?k3 ?_; (case k1 => k_asm); (case k2 => k_asm); (case k3 => k_mem); k_whole; intro a1 a2 h' F' N' l1 l2)))

local macro_rules | `(tactic| walk_at "call type:list") => `(tactic| (k_here; (with_reducible show wpAny _ _ (call (Value.type "list") [Value.ref _]) _ _ _); refine' list_L ?k0 ?k1 ?k2 ?k3 ?k4 ?k5 ?k6 ?k7 ?_ ?_; (case k0 => rfl); (case k1 => k_asm); (case k2 => k_asm); (case k3 => exact List.Mem.head _); (case k4 => k_asm); (case k5 => first | assumption | exact strs_push (by assumption)); (case k6 => assumption); (case k7 => first | exact strs_size (by assumption) (by omega) | exact strs_size (strs_push (by assumption)) (by simp only [List.length_append, List.length_cons, List.length_nil]; omega)); intro ha' q' a' c' h' tk' F' N' l' hs'; rotate_left; intro ha' h1 h' tk' e' F' N' hx'; rotate_right))


theorem allNe_cons {q L : Addr} {o : Obj} {news : List (Addr × Obj)} {oL : Obj} (h : ∀ p ∈ news ++ [(L, oL)], p.1 < q) (hn : TLg.AllNe L news) : TLg.AllNe L ((q, o) :: news) :=
  ⟨Nat.ne_of_gt (h (L, oL) (List.mem_append_right _ (.head _))), hn⟩

local macro_rules | `(tactic| walk_at "noteFrame ref") => `(tactic| (k_here; (with_reducible rename Heap.NewExc _ _ _ _ => tiX'); (with_reducible rename News _ _ _ ((_, _) :: (_ ++ _)) => nX'); k_dflt (refine TLg.noted_new1 (new := (_, _) :: _) (by rfl) (by assumption) tiX' (by assumption) nX' (allNe_cons (by assumption) (by assumption)) ?_); clear tiX'; intro h' sl' tiF' tiH'; have tiHH' := TT.HeldNA.held tiH'))

local macro_rules | `(tactic| walk_at "subscriptTail Name Slice ref ref") => `(tactic| (k_here; (with_reducible show wpAny _ _ (subscriptTail _ (PySem.Expr.Slice _ _ none _) (Value.ref _) (Value.ref _)) _ _ _); k_dflt (refine' slice_L ?k1 ?k2 ?k3 ?k4 ?k5 ?k6 ?_ ?k8 ?k9; (case k1 => k_asm); (case k2 => k_asm); (case k3 => exact List.Mem.head _); (case k4 => first | assumption | exact strs_push (by assumption)); (case k5 => decide); (case k6 => first | exact strs_size (by assumption) (by omega) | exact strs_size (by assumption) (by simp only [List.length_map, List.length_append, List.length_cons, List.length_nil]; omega) | exact strs_size (strs_push (by assumption)) (by simp only [List.length_append, List.length_cons, List.length_nil]; omega)); (case k8 => with_unfolding_all rfl); (case k9 => kmk_pure)); intro q' i' h' F' N' l' hs'))
local macro_rules | `(tactic| walk_at "call builtin:str.join") => `(tactic| (k_here; refine' join_L ?k1 ?k2 ?k3 ?k4 ?k5 ?k6 ?_; (case k1 => k_asm); (case k2 => exact List.Mem.head _); (case k3 => assumption); (case k4 => decide +kernel); (case k5 => first | exact good_len (by assumption) | exact good_canon (by assumption)); (case k6 => (simp only [List.length_take]; omega)); intro t' k'))
theorem norm_eq1 {x b : Str} (hb : (b.length : Int) ≠ 0) (h : ∀ y ∈ Txt.split x (Str.ofString ".") ++ [b], isNum y = true) : normP x b = Txt.join (Str.ofString ".") (List.take (Int.toNat 3) (List.map canonT (Txt.split x (Str.ofString ".") ++ [b]))) := by
  unfold normP normS normL
  rw [show (if b.length = 0 then [] else [b]) = [b] from if_neg (by omega), if_pos (List.all_eq_true.mpr h)]
  rfl
theorem norm_eq2 {x b : Str} (hb : (b.length : Int) ≠ 0) (h : ¬ ∀ y ∈ Txt.split x (Str.ofString ".") ++ [b], isNum y = true) : normP x b = Txt.join (Str.ofString ".") (List.take (Int.toNat 3) (Txt.split x (Str.ofString ".") ++ [b])) := by
  unfold normP normS normL
  rw [show (if b.length = 0 then [] else [b]) = [b] from if_neg (by omega), if_neg (fun e => h (List.all_eq_true.mp e))]
  rfl
theorem norm_eq3 {x b : Str} (hb : (b.length : Int) = 0) (h : ∀ y ∈ Txt.split x (Str.ofString "."), isNum y = true) : normP x b = Txt.join (Str.ofString ".") (List.take (Int.toNat 3) (List.map canonT (Txt.split x (Str.ofString ".")))) := by
  unfold normP normS normL
  rw [show (if b.length = 0 then [] else [b]) = [] from if_pos (by omega), List.append_nil, if_pos (List.all_eq_true.mpr h)]
  rfl
theorem norm_eq4 {x b : Str} (hb : (b.length : Int) = 0) (h : ¬ ∀ y ∈ Txt.split x (Str.ofString "."), isNum y = true) : normP x b = Txt.join (Str.ofString ".") (List.take (Int.toNat 3) (Txt.split x (Str.ofString "."))) := by
  unfold normP normS normL
  rw [show (if b.length = 0 then [] else [b]) = [] from if_pos (by omega), List.append_nil, if_neg (fun e => h (List.all_eq_true.mp e))]
  rfl

set_option maxHeartbeats 8000000 in
theorem norm_call {x b : Str} {t u : Tok} (F : Fr h₀ L s.heap m) (X : (hd.heap_39 w.params).In h₀) (N : News h₀ L s.heap news) (T : Top hd.view_39 LS mean mg mb h₀) (hk : cs.kind = .function) (hx : x.length ≤ 2000) (hb : b.length ≤ 10) (hg : ∀ y ∈ Txt.split x (Str.ofString "."), Good y) (hgb : ∀ y ∈ Txt.split x (Str.ofString ".") ++ [b], Good y) (hsl : (Txt.split x (Str.ofString ".")).length ≤ 500)
    (hret : ∀ t h' tk', Fr h₀ L h' m → News h₀ L h' news → Q (.str (normP x b) t) { s with heap := h', toks := tk' }) :
    wpAny (model Challenge.rw_pe0022_01.row.prog w) (callerA.deeper (envOf cn cs L a ccd)) (call (.ref 39) [.str x t, .str b u]) Q E s := by
  w_top off
  refine wpAny_call ?_
  refine TLgL.code_def (by k_asm) (by k_asm) (by k_asm) (by k_asm) (by rfl) (by k_is) (by k_is) (by k_room) (by exact binds_K (by k_in) rfl (by k_is) rfl rfl rfl) (locs rfl) ?_ hk
  intro oL' h' tiC' tiF' tiE' F' N'
  dsimp only
  replace tiE' := TLgL.allNe_of tiE'
  k_steps
  all_goals (first | rw [norm_eq1 (by assumption) (by assumption)] at hret | rw [norm_eq2 (by assumption) (by assumption)] at hret | rw [norm_eq3 (by assumption) (by assumption)] at hret | rw [norm_eq4 (by assumption) (by assumption)] at hret)
  all_goals (
    show TI.LeaveI _ (Q _ _)
    refine leave_L tiC' (by assumption) (by assumption) (by first | exact .tail _ (.tail _ (List.mem_append_right _ (.head _))) | exact .tail _ (.tail _ (.tail _ (List.mem_append_right _ (.head _))))) (fun p' hp' => ?_) (by assumption) (fun F' N' => hret _ _ _ F' N')
    first | exact .tail _ (.tail _ (List.mem_append_left _ hp')) | exact .tail _ (.tail _ (.tail _ (List.mem_append_left _ hp'))))
end
end Mine
end

section
open PySem PySem.W PyProof.Rows PySem.Calls
set_option maxRecDepth 100000
namespace Mine
open MB KR

theorem wpAny_toksQ {α : Type} {M : Model} {A : Around} {s : Shared} {t : Sem α} {Q : α → Shared → Prop} {E : Value → Shared → Prop} {n : Nat} (hn : n ≤ s.toks)
    (h : wpAny M A t (fun a s' => n ≤ s'.toks → Q a s') E s) : wpAny M A t Q E s :=
  wpAny_mono (wpAny_toks_of hn h) (fun _ _ x => x.2 x.1) (fun _ _ x => x.2)
theorem execs_toks {M : Model} {A : Around} {E : Value → Shared → Prop} {st : Stmt} {rest : List Stmt} {env : Env} {Q : Flow → Shared → Prop} {hp : Heap} {g : Array GenState} {d : Drawn} {tk0 : Nat} {os : OsState} (h1 : 1 ≤ tk0)
    (h : ∀ tk, 1 ≤ tk → wpAny M A (exec st env) (fun f s' => 1 ≤ s'.toks → match f with | .next => wpAny M A (execs rest env) Q E s' | f => Q f s') E ⟨hp, g, d, tk, os⟩) :
    wpAny M A (execs (st :: rest) env) Q E ⟨hp, g, d, tk0, os⟩ :=
  wpAny_execs_cons (wpAny_toksQ (n := 1) h1 (h tk0 h1))
section
variable {w : World} {p : Program} {loose : List Str} {mean : ExcName → Option Value} {mg mb : Str → Option Value} {dp un : Nat} {gd : Option (List Code)} {cn : Str} {cs : Scope} {a : Addr} {ccd : Value} {cl : List (Str × Addr)} {outer : List Env} {A₀ : Around} {base h₀ : Heap} {L : Addr} {m : Str → Option Value} {news : List (Addr × Obj)} {s : Shared} {Q E : Value → Shared → Prop}
def hd1 (x : Str) : Str := Txt.slice (Txt.strip x) none (some 1)
def signedP (x : Str) : Bool := hd1 x == Str.ofString "-" || hd1 x == Str.ofString "+"
def innerP (x : Str) : Str := if signedP x then Txt.slice (Txt.strip x) (some 1) none else Txt.strip x
def signP (x : Str) : Str := if signedP x then Txt.replace (hd1 x) (Str.ofString "+") (Str.ofString "") else Str.ofString ""
theorem map_two {M : Str → Option Value} {a b : Str} {va vb : Value} (ha : M a = some va) (hb : M b = some vb) : M = fun y => if y = a then some va else if y = b then some vb else M y := by
  funext y
  by_cases h1 : y = a
  · rw [if_pos h1, h1, ha]
  · rw [if_neg h1]
    by_cases h2 : y = b
    · rw [if_pos h2, h2, hb]
    · rw [if_neg h2]
def Cut (P : Prop) : Prop := P
theorem execs_cut {M : Model} {A : Around} {st : Stmt} {rest : List Stmt} {env : Env} {Q : Flow → Shared → Prop} {P : Shared → Prop} (h0 : 1 ≤ s.toks) (h1 : wpAny M A (exec st env) (fun f s' => Cut (1 ≤ s'.toks → f = .next ∧ P s')) E s) (h2 : ∀ s', 1 ≤ s'.toks → P s' → wpAny M A (execs rest env) Q E s') :
    wpAny M A (execs (st :: rest) env) Q E s :=
  wpAny_execs_cons (wpAny_toksQ (n := 1) h0 (wpAny_mono h1 (fun f s' h ht => by have h' : f = .next ∧ P s' := h ht; obtain ⟨rfl, h'⟩ := h'; exact h2 s' ht h') fun _ _ e => e))
theorem slice_len (x : Str) (l u : Option Int) : (Txt.slice x l u).length ≤ x.length := Txt.slice_le x l u
theorem strip_len (x : Str) : (Txt.strip x).length ≤ x.length := by
  unfold Txt.strip Txt.stripBy
  split
  · exact Nat.le_refl _
  · show (x.cps.extract _ _).size ≤ x.cps.size
    rw [Array.size_extract]; omega
theorem lstrip_len (x y : Str) : (Txt.lstripChars x y).length ≤ x.length := by
  unfold Txt.lstripChars Txt.stripBy
  split
  · exact Nat.le_refl _
  · show (x.cps.extract _ _).size ≤ x.cps.size
    rw [Array.size_extract]; omega
theorem strike_len {x : Str} {c : Nat} {y z : Str} (hy : y = ⟨#[c]⟩) (hz : z = ⟨#[]⟩) : (Txt.replace x y z).length ≤ x.length := by
  subst hy hz
  have := replace_strikes x c
  show (Txt.replace x ⟨#[c]⟩ ⟨#[]⟩).cps.size ≤ x.cps.size
  rw [← Array.length_toList, this, ← Array.length_toList]
  exact List.length_filter_le _ _
theorem sign_len (x : Str) : (signP x).length ≤ x.length := by
  unfold signP hd1
  split
  · exact Nat.le_trans (strike_len (c := 43) (by decide +kernel) (by decide +kernel)) (Nat.le_trans (slice_len _ _ _) (strip_len x))
  · exact Nat.zero_le _
def badSign (a : Str) : Bool := !!(Builtin.Str.occurrences (Str.ofString "0123456789_") a 0 (Str.ofString "0123456789_").length 1).isEmpty
def figT (y : Str) : Str := Txt.lstripChars (Txt.replace y (Str.ofString "_") (Str.ofString "")) (Str.ofString "0")
def oddT (y : Str) : Bool := y == Str.ofString "" || !(Builtin.Str.occurrences y (Str.ofString "__") 0 y.length 1).isEmpty || Txt.slice y none (some 1) == Str.ofString "_" || Txt.slice y (some (-1)) none == Str.ofString "_"
def numT (y sg : Str) : Str := if oddT y || (signs y).any badSign then Str.ofString "" else if figT y == Str.ofString "" then Str.ofString "0" else sg ++ figT y
theorem inner_len (x : Str) : (innerP x).length ≤ x.length := by
  unfold innerP
  split
  · exact Nat.le_trans (slice_len _ _ _) (strip_len x)
  · exact strip_len x
theorem inner_m {x : Str} (h : (Txt.slice (Txt.strip x) none (some 1) == Str.ofString "-") = true) : innerP x = Txt.slice (Txt.strip x) (some 1) none ∧ signP x = Txt.replace (Txt.slice (Txt.strip x) none (some 1)) (Str.ofString "+") (Str.ofString "") := by
  unfold innerP signP signedP hd1; rw [h]; exact ⟨rfl, rfl⟩
theorem inner_p {x : Str} (h0 : (Txt.slice (Txt.strip x) none (some 1) == Str.ofString "-") = false) (h : (Txt.slice (Txt.strip x) none (some 1) == Str.ofString "+") = true) : innerP x = Txt.slice (Txt.strip x) (some 1) none ∧ signP x = Txt.replace (Txt.slice (Txt.strip x) none (some 1)) (Str.ofString "+") (Str.ofString "") := by
  unfold innerP signP signedP hd1; rw [h0, h]; exact ⟨rfl, rfl⟩
theorem inner_n {x : Str} (h0 : (Txt.slice (Txt.strip x) none (some 1) == Str.ofString "-") = false) (h : (Txt.slice (Txt.strip x) none (some 1) == Str.ofString "+") = false) : innerP x = Txt.strip x ∧ signP x = Str.ofString "" := by
  unfold innerP signP signedP hd1; rw [h0, h]; exact ⟨rfl, rfl⟩
def numP (x : Str) : Str := numT (innerP x) (signP x)

theorem replace_T {prog : Program} {w : World} {A : Around} {x y z : Str} {t : Tok} {k : Nat} (hk : 1 ≤ k) (hs : 1 ≤ s.toks) (hyz : (y == z) = false) (hx : x.length ≤ 1048576) (hz : z.length ≤ 14)
    (h : ∀ t' k', 1 ≤ k' → Q (.str (Txt.replace x y z) t') { s with toks := k' }) : wpAny (model prog w) A (call (.builtin "str.replace") [.str x t, .str y k, .str z (k + 1)]) Q E s :=
  wpAny_toksQ (n := 1) hs (SC.replaceW (Nat.ne_of_gt hk) (Nat.succ_ne_zero k) (Nat.ne_of_lt (Nat.lt_succ_self k)) hyz hx hz fun t' k' h1 => h t' k' h1)

local macro_rules | `(tactic| walk_at "execs cons") => `(tactic| (k_here; k_dflt (refine' execs_toks ?k1 ?_; (case k1 => first | with_reducible assumption | exact Nat.succ_le_succ (Nat.zero_le _) | omega)); intro tk' htk'))
local macro_rules | `(tactic| walk_at "forall") => `(tactic| (k_here; (with_reducible show (1 ≤ Shared.toks _ → _)); intro hT'; dsimp only at hT'))
local macro_rules | `(tactic| walk_at "eval Subscript") => `(tactic| (k_here; (with_reducible show wpAny _ _ (eval _ _) (fun ov s₁ => wpAny _ _ (getMethod ov _ _) _ _ s₁) _ _); k_dflt (refine' wpAny_toksQ (n := 1) ?k1 ?_; (case k1 => first | with_reducible assumption | exact Nat.succ_le_succ (Nat.zero_le _) | omega))))
local macro_rules | `(tactic| walk_at "call builtin:str.replace") => `(tactic| (k_here; k_dflt (refine' replace_T ?k1 ?k2 ?k3 ?k4 ?k5 ?_; (case k1 => first | with_reducible assumption | exact Nat.succ_le_succ (Nat.zero_le _) | omega); (case k2 => first | exact Nat.succ_le_succ (Nat.zero_le _) | assumption | omega); (case k3 => decide +kernel); (case k4 => omega); (case k5 => decide +kernel)); intro t' k' hk'))

local macro_rules | `(tactic| walk_at "call builtin:str.lstrip") => `(tactic| (k_here; k_dflt (refine' SC.lstripChars ?_ ?hsz; (case hsz => (rw [sizeLine_eq]; omega))); intro t' k'))

local macro_rules | `(tactic| walk_at "binaryOp Add str str") => `(tactic| (k_here; k_dflt (refine' add_str ?_ ?hsz; (case hsz => (rw [sizeLine_eq]; omega))); intro t' k'))

theorem num_odd {y sg : Str} (h : oddT y = true) : numT y sg = Str.ofString "" := by unfold numT; rw [h]; rfl
theorem num_bad {y sg : Str} (h : (signs y).any badSign = true) : numT y sg = Str.ofString "" := by unfold numT; rw [h, Bool.or_true]; rfl
theorem num_zero {y sg : Str} (h1 : oddT y = false) (h2 : (signs y).any badSign = false) (h3 : (figT y == Str.ofString "") = true) : numT y sg = Str.ofString "0" := by unfold numT; rw [h1, h2, h3]; rfl
theorem num_fig {y sg : Str} (h1 : oddT y = false) (h2 : (signs y).any badSign = false) (h3 : (figT y == Str.ofString "") = false) : numT y sg = sg ++ figT y := by unfold numT; rw [h1, h2, h3]; rfl
theorem odd1 {y : Str} (h : (y == Str.ofString "") = true) : oddT y = true := by unfold oddT; rw [h]; rfl
theorem odd2 {y : Str} (h : (Builtin.Str.occurrences y (Str.ofString "__") 0 y.length 1).isEmpty = false) : oddT y = true := by unfold oddT; rw [h]; simp
theorem odd3 {y : Str} (h : (Txt.slice y none (some 1) == Str.ofString "_") = true) : oddT y = true := by unfold oddT; rw [h]; simp
theorem odd4 {y : Str} (h : (Txt.slice y (some (-1)) none == Str.ofString "_") = true) : oddT y = true := by unfold oddT; rw [h]; simp
theorem odd0 {y : Str} (h1 : (y == Str.ofString "") = false) (h2 : (Builtin.Str.occurrences y (Str.ofString "__") 0 y.length 1).isEmpty = true) (h3 : (Txt.slice y none (some 1) == Str.ofString "_") = false) (h4 : (Txt.slice y (some (-1)) none == Str.ofString "_") = false) : oddT y = false := by
  unfold oddT; rw [h1, h2, h3, h4]; rfl
theorem bad1 {y a : Str} (h : a ∈ signs y) (hb : (!!(Builtin.Str.occurrences (Str.ofString "0123456789_") a 0 (Str.ofString "0123456789_").length 1).isEmpty) = true) : (signs y).any badSign = true := List.any_eq_true.mpr ⟨a, h, hb⟩
theorem bad0 {y : Str} (h : ∀ a ∈ signs y, (!!(Builtin.Str.occurrences (Str.ofString "0123456789_") a 0 (Str.ofString "0123456789_").length 1).isEmpty) = false) : (signs y).any badSign = false := by
  rw [List.any_eq_false]; intro a ha; have := h a ha; unfold badSign; rw [this]; exact Bool.false_ne_true

set_option maxHeartbeats 8000000 in
theorem number_call {x : Str} {t : Tok} (B : Below A₀ base outer h₀) (F : Fr h₀ L s.heap m) (X : (hd.heap_39 w.params).In h₀) (N : News h₀ L s.heap news) (T : Top p loose mean mg mb h₀) (hk : cs.kind = .function) (hx : x.length ≤ 1000)
    (hd : dp + 1 < recursionLimit) (hu : un + 8 < cLine)
    (hret : ∀ t h' tk', Fr h₀ L h' m → News h₀ L h' news → Q (.str (numP x) t) { s with heap := h', toks := tk' }) :
    wpAny (model Challenge.rw_pe0022_01.row.prog w) (ktrTop dp un gd cn cs L a ccd cl outer) (call (.ref 77) [.str x t]) Q E s := by
  w_top off
  refine wpAny_call ?_
  k_dflt (refine' code_def ?k1 ?k2 ?k3 ?k4 ?k5 ?kA ?kF ?kK ?k6 ?k7 ?k8 ?k9 ?kB ?_ ?c2 ?c3 ?c4 ?c5; (case kA => exact rfl); (case kF => exact rfl); (case kK => assumption); (case k1 => k_asm); (case k2 => k_asm); (case k3 => k_asm); (case k4 => k_asm); (case k5 => k_asm); (case k6 => k_is); (case k7 => k_is); (case k8 => ktr_room); (case k9 => exact BindsTo.of_eq rfl); (case c5 => decide); (case kB => exact locs rfl); (case c2 => exact rfl); (case c3 => exact rfl); (case c4 => exact rfl); k_whole; intro g' L' h' FG' F' N' B' X' T'; (try dsimp only); (try k_lift B'); (try k_fold))
  repeat' ((fail_if_success (with_reducible show wpAny _ _ (execs (Stmt.If (Expr.BoolOp BoolOp.Or [_, _] _) _ _ _ :: _) _) _ _ _)); first | (k_unfold; (try dsimp only)) | (k_end; wrow_close) | walk1 | (dsimp only; walk1) | (leave1; walk_say "STEP leave1"; try dsimp only) | fail "no step")
  refine execs_cut (P := fun s' => ∃ h' tk M t u, s' = { s with heap := h', toks := tk } ∧ Fr g' L' h' M ∧ News g' L' h' news ∧ M (Str.ofString "inner") = some (.str (innerP x) t) ∧ M (Str.ofString "sign") = some (.str (signP x) u)) ?_ ?_ ?_
  · first | assumption | exact Nat.succ_le_succ (Nat.zero_le _) | omega
  · k_steps
    all_goals (first | rw [(inner_m (by assumption)).1, (inner_m (by assumption)).2] | rw [(inner_p (by assumption) (by assumption)).1, (inner_p (by assumption) (by assumption)).2] | rw [(inner_n (by assumption) (by assumption)).1, (inner_n (by assumption) (by assumption)).2])
    all_goals exact fun _ => ⟨rfl, _, _, _, _, _, rfl, by assumption, by assumption, rfl, rfl⟩
  · rintro s' htk ⟨h', tk, M, t', u', rfl, F2, N2, hi, hs⟩
    rw [map_two hi hs] at F2
    have hl1 := inner_len x
    have hl2 := sign_len x
    have hl3 := strike_len (x := innerP x) (c := 95) (y := Str.ofString "_") (z := Str.ofString "") (by decide +kernel) (by decide +kernel)
    have hl4 := lstrip_len (Txt.replace (innerP x) (Str.ofString "_") (Str.ofString "")) (Str.ofString "0")
    unfold numP at hret
    generalize innerP x = y at *
    generalize signP x = sg at *
    clear hi hs
    k_steps
    all_goals (first
      | rw [num_odd (odd1 (by assumption))] at hret
      | rw [num_odd (odd2 (by assumption))] at hret
      | rw [num_odd (odd3 (by assumption))] at hret
      | rw [num_odd (odd4 (by assumption))] at hret
      | rw [num_bad (bad1 (by assumption) (by assumption))] at hret
      | rw [num_zero (odd0 (by assumption) (by assumption) (by assumption) (by assumption)) (bad0 (by assumption)) (by assumption)] at hret
      | rw [num_fig (odd0 (by assumption) (by assumption) (by assumption) (by assumption)) (bad0 (by assumption)) (by assumption)] at hret)
    all_goals exact hret _ _ _ (by assumption) (by first | assumption | exact cb_drop (by assumption) (fun p hp => List.mem_append_right _ hp))
end
end Mine
end

section
open PySem PySem.W PyProof.Rows PySem.Calls
set_option maxRecDepth 100000
namespace Mine
open MB KR
section
variable {w : World} {p : Program} {loose : List Str} {mean : ExcName → Option Value} {mg mb : Str → Option Value} {dp un : Nat} {gd : Option (List Code)} {cn : Str} {cs : Scope} {a : Addr} {ccd : Value} {cl : List (Str × Addr)} {outer : List Env} {A₀ : Around} {base h₀ : Heap} {L : Addr} {m : Str → Option Value} {news : List (Addr × Obj)} {s : Shared} {Q E : Value → Shared → Prop}
def beginsT (y : Str) (k : Int) : Bool := Txt.slice y (some (-1)) none == Str.ofString "\n" || (k == 0 && y == Str.ofString "")
theorem begins_1 {y : Str} {k : Int} (h : (Txt.slice y (some (-1)) none == Str.ofString "\n") = true) : beginsT y k = (Txt.slice y (some (-1)) none == Str.ofString "\n") := by
  unfold beginsT; rw [h]; rfl
theorem begins_2 {y : Str} {k : Int} (h : (Txt.slice y (some (-1)) none == Str.ofString "\n") = false) (h0 : k = 0) : beginsT y k = (y == Str.ofString "") := by
  unfold beginsT; rw [h, h0]; rfl
theorem begins_3 {y : Str} {k : Int} (h : (Txt.slice y (some (-1)) none == Str.ofString "\n") = false) (h0 : k ≠ 0) : beginsT y k = (k == 0) := by
  unfold beginsT; rw [h, beq_false_of_ne h0]; rfl
local macro_rules | `(tactic| walk_at "subscriptTail Name Name ref int") => `(tactic| (k_here; k_dflt (refine' item_L ?k1 ?k2 ?k3 ?k4 ?k5 ?k6 ?_ ?k8; (case k1 => k_asm); (case k2 => assumption); (case k3 => assumption); (case k4 => assumption); (case k5 => assumption); (case k6 => omega); (case k8 => with_unfolding_all rfl)); intro t'))

set_option maxHeartbeats 8000000 in
theorem begins_call {l : Addr} {its : Array Value} {n : Nat} {ys : List Str} {k : Int} {t : Tok} (B : Below A₀ base outer h₀) (F : Fr h₀ L s.heap m) (X : (hd.heap_39 w.params).In h₀) (N : News h₀ L s.heap news) (T : Top p loose mean mg mb h₀) (hk : cs.kind = .function)
    (hl : (l, listOf its n) ∈ news) (hi : StrsAre its.toList ys) (hk0 : 0 ≤ k) (hk1 : k < (ys.length : Int)) (hz : ys.length ≤ 1000) (hy : (ys.getD k.toNat Str.empty).length ≤ 100000)
    (hd : dp + 1 < recursionLimit) (hu : un + 8 < cLine)
    (hret : ∀ h' tk', Fr h₀ L h' m → News h₀ L h' news → Q (.bool (beginsT (ys.getD k.toNat Str.empty) k)) { s with heap := h', toks := tk' }) :
    wpAny (model Challenge.rw_pe0022_01.row.prog w) (ktrTop dp un gd cn cs L a ccd cl outer) (call (.ref 84) [.ref l, .int k t]) Q E s := by
  w_top off
  refine wpAny_call ?_
  k_dflt cell_enter
  k_steps
  all_goals (first | rw [begins_1 (by assumption)] at hret | rw [begins_2 (by assumption) (by assumption)] at hret | rw [begins_3 (by assumption) (by assumption)] at hret)
  all_goals exact hret _ _ (by assumption) (by assumption)
end
end Mine
end

section
open PySem PySem.W PyProof.Rows PySem.Calls
set_option maxRecDepth 100000
namespace Mine
open MB KR
section
variable {w : World} {p : Program} {loose : List Str} {mean : ExcName → Option Value} {mg mb : Str → Option Value} {dp un : Nat} {gd : Option (List Code)} {cn : Str} {cs : Scope} {a : Addr} {ccd : Value} {cl : List (Str × Addr)} {outer : List Env} {A₀ : Around} {base h₀ : Heap} {L : Addr} {m : Str → Option Value} {news : List (Addr × Obj)} {s : Shared} {Q E : Value → Shared → Prop}
def sentAt (ys : List Str) (k : Nat) : List Str := ys.getD k Str.empty :: (if k + 1 < ys.length ∧ beginsT (ys.getD k Str.empty) k then [Str.ofString ""] else [])
def sentL (ys : List Str) (n : Nat) : List Str := (List.range n).flatMap (sentAt ys)
theorem sentL_succ (ys : List Str) (n : Nat) : sentL ys (n + 1) = sentL ys n ++ sentAt ys n := by
  unfold sentL; rw [List.range_succ, List.flatMap_append]; simp

theorem sent_step1 {ys : List Str} {its : Array Value} {k : Nat} {t u : Tok} (h : StrsAre its.toList (sentL ys k)) (hz : its.size ≤ 2 * k) (h1 : (k : Int) + 1 < (ys.length : Int)) (h2 : beginsT (ys.getD (k : Int).toNat Str.empty) k = true) :
    StrsAre ((its.push (.str (ys.getD (k : Int).toNat Str.empty) t)).push (.str (Str.ofString "") u)).toList (sentL ys (k + 1)) ∧ ((its.push (.str (ys.getD (k : Int).toNat Str.empty) t)).push (.str (Str.ofString "") u)).size ≤ 2 * (k + 1) := by
  rw [Int.toNat_natCast] at *
  refine ⟨?_, by simp only [Array.size_push]; omega⟩
  rw [sentL_succ]
  unfold sentAt
  rw [if_pos ⟨by omega, h2⟩]
  have := strs_push (t := u) (y := Str.ofString "") (strs_push (t := t) (y := ys.getD k Str.empty) h)
  rw [List.append_assoc] at this
  exact this
theorem sent_step2 {ys : List Str} {its : Array Value} {k : Nat} {t : Tok} (h : StrsAre its.toList (sentL ys k)) (hz : its.size ≤ 2 * k) (h2 : beginsT (ys.getD (k : Int).toNat Str.empty) k = false) :
    StrsAre (its.push (.str (ys.getD (k : Int).toNat Str.empty) t)).toList (sentL ys (k + 1)) ∧ (its.push (.str (ys.getD (k : Int).toNat Str.empty) t)).size ≤ 2 * (k + 1) := by
  rw [Int.toNat_natCast] at *
  refine ⟨?_, by simp only [Array.size_push]; omega⟩
  rw [sentL_succ]
  unfold sentAt
  rw [if_neg (fun e => by rw [h2] at e; exact Bool.false_ne_true e.2)]
  exact strs_push h
theorem sent_step3 {ys : List Str} {its : Array Value} {k : Nat} {t : Tok} (h : StrsAre its.toList (sentL ys k)) (hz : its.size ≤ 2 * k) (h2 : ¬ (k : Int) + 1 < (ys.length : Int)) :
    StrsAre (its.push (.str (ys.getD (k : Int).toNat Str.empty) t)).toList (sentL ys (k + 1)) ∧ (its.push (.str (ys.getD (k : Int).toNat Str.empty) t)).size ≤ 2 * (k + 1) := by
  rw [Int.toNat_natCast] at *
  refine ⟨?_, by simp only [Array.size_push]; omega⟩
  rw [sentL_succ]
  unfold sentAt
  rw [if_neg (fun e => by omega)]
  exact strs_push h
local macro_rules | `(tactic| walk_at "call builtin:len") => `(tactic| (k_here; (with_reducible show wpAny _ _ (call _ [Value.ref _]) _ _ _); k_dflt (refine' len_L ?k1 ?k2 ?k3 ?k4 ?_; (case k1 => k_asm); (case k2 => first | assumption | exact List.mem_cons_of_mem _ (by assumption) | exact List.mem_cons_of_mem _ (List.mem_append_left _ (by assumption))); (case k3 => assumption); (case k4 => omega)); intro t' k'))
local macro_rules | `(tactic| walk_at "subscriptTail Name Name ref int") => `(tactic| (k_here; k_dflt (refine' item_L ?k1 ?k2 ?k3 ?k4 ?k5 ?k6 ?_ ?k8; (case k1 => k_asm); (case k2 => first | assumption | exact List.mem_cons_of_mem _ (by assumption) | exact List.mem_cons_of_mem _ (List.mem_append_left _ (by assumption))); (case k3 => assumption); (case k4 => omega); (case k5 => omega); (case k6 => omega); (case k8 => with_unfolding_all rfl)); intro t'))
local macro_rules | `(tactic| walk_at "call builtin:list.append") => `(tactic| (k_here; (with_reducible show wpAny _ _ (call (Value.builtin _) [Value.ref _, _]) _ _ _); k_dflt (refine' appendN_L ?k1 ?k2 ?k3 ?k4 ?_; (case k1 => k_asm); (case k2 => k_asm); (case k3 => k_asm); (case k4 => first | assumption | (simp only [Array.size_push]; omega))); k_whole; intro h' F' N'))
local macro_rules | `(tactic| walk_at "call ref") => `(tactic| (k_here; (with_reducible show wpAny _ _ (call (Value.ref 84) _) _ _ _); k_dflt (refine' begins_call ?k1 ?k2 ?k3 ?k4 ?k5 ?k6 ?k7 ?k8 ?k9 ?ka ?kb ?kc ?kd ?ke ?_; (case k1 => k_asm); (case k2 => k_asm); (case k3 => k_asm); (case k4 => k_asm); (case k5 => k_asm); (case k6 => first | exact rfl | assumption); (case k7 => first | assumption | exact List.mem_cons_of_mem _ (by assumption) | exact List.mem_cons_of_mem _ (List.mem_append_left _ (by assumption))); (case k8 => assumption); (case k9 => omega); (case ka => omega); (case kb => omega); (case kc => assumption); (case kd => ktr_room); (case ke => ktr_room)); intro h' tk' F' N'))
set_option maxHeartbeats 8000000 in
theorem sent_call {l : Addr} {its : Array Value} {n : Nat} {ys : List Str} (B : Below A₀ base outer h₀) (F : Fr h₀ L s.heap m) (X : (hd.heap_39 w.params).In h₀) (N : News h₀ L s.heap news) (T : Top p loose mean mg mb h₀) (hk : cs.kind = .function)
    (hl : (l, listOf its n) ∈ news) (hi : StrsAre its.toList ys) (hz : ys.length ≤ 400) (hy : ∀ y ∈ ys, y.length ≤ 1000)
    (hd : dp + 2 < recursionLimit) (hu : un + 16 < cLine)
    (hret : ∀ q its' c h' tk', Fr h₀ L h' m → News h₀ L h' ((q, listOf its' c) :: news) → StrsAre its'.toList (sentL ys ys.length) → Q (.ref q) { s with heap := h', toks := tk' }) :
    wpAny (model Challenge.rw_pe0022_01.row.prog w) (ktrTop dp un gd cn cs L a ccd cl outer) (call (.ref 91) [.ref l]) Q E s := by
  w_top off
  refine wpAny_call ?_
  k_dflt (refine' code_def ?k1 ?k2 ?k3 ?k4 ?k5 ?kA ?kF ?kK ?k6 ?k7 ?k8 ?k9 ?kB ?_ ?c2 ?c3 ?c4 ?c5; (case kA => exact rfl); (case kF => exact rfl); (case kK => assumption); (case k1 => k_asm); (case k2 => k_asm); (case k3 => k_asm); (case k4 => k_asm); (case k5 => k_asm); (case k6 => k_is); (case k7 => k_is); (case k8 => ktr_room); (case k9 => exact BindsTo.of_eq rfl); (case c5 => decide); (case kB => exact locs rfl); (case c2 => exact rfl); (case c3 => exact rfl); (case c4 => exact rfl); k_whole; intro g' L' h' FG' F' N' B' X' T'; (try dsimp only); (try k_lift B'); (try k_fold))
  repeat' ((fail_if_success (with_reducible show wpAny _ _ (call (Value.type "range") _) _ _ _)); first | (k_unfold; (try dsimp only)) | (k_end; wrow_close) | walk1 | (dsimp only; walk1) | (leave1; walk_say "STEP leave1"; try dsimp only) | fail "no step")
  rename Fr g' L' _ _ => F1'
  rename News g' L' _ (_ :: _) => N1'
  rename (∀ p ∈ news, p.1 < _) => hq'
  obtain ⟨q', rfl⟩ := the_addr N1'
  k_dflt (refine' range1_rows ?ka ?kb ?_; (case ka => exact F1'); (case kb => exact N1'); intro h2' tk2' t2' u2' v2' R2' F2' N2' _)
  k_dflt (refine' kst_range (n := ys.length) (fun c : Array Value × Nat => (q', listOf c.1 c.2) :: news) (fun _ => []) (fun _ => True) [] (fun pre c => StrsAre c.1.toList (sentL ys pre.length) ∧ c.1.size ≤ 2 * pre.length) (#[], 0) ?c1 ?c2 ?c3 ?c4 ?c5 ?c6 trivial (fun _ hp => nomatch hp) ?c7 ?_ ?_; (case c1 => exact rfl); (case c2 => exact R2'); (case c3 => exact small_one (by decide) (by decide) (by omega) (by omega)); (case c4 => (rw [rangeSize_nat]; omega)); (case c5 => exact F2'); (case c6 => exact N2'); (case c7 => exact ⟨StrsAre.nil, Nat.zero_le _⟩))
  · rintro ⟨its', n'⟩ pre k t u h tk own rfl hlen hoff _ ⟨hS, hsz⟩ F' N'
    dsimp only [kstB, List.cons_append] at F' N' hS hsz
    have hne : ∀ p ∈ news ++ own, p.1 ≠ q' := by
      intro p hp
      rcases List.mem_append.mp hp with hp | hp
      · exact Nat.ne_of_lt (hq' p hp)
      · exact hoff p hp q' (.head _)
    have hz1 : its'.size ≤ 100000 := by omega
    have hyk : (ys.getD pre.length Str.empty).length ≤ 100000 := by
      rw [List.getD_eq_getElem?_getD, List.getElem?_eq_getElem hlen]
      exact Nat.le_trans (hy _ (List.getElem_mem _)) (by decide)
    rw [Int.zero_add] at F'
    repeat' ((fail_if_success (with_reducible show InvEndN _ _ _ _ _ _ _)); first | (k_unfold; (try dsimp only)) | (k_end; wrow_close) | walk1 | (dsimp only; walk1) | (leave1; walk_say "STEP leave1"; try dsimp only) | fail "no step")
    all_goals (
      k_dflt (refine end_L (c₀ := (#[], 0)) (by k_asm) (by k_asm) ?_ ?_)
      (intro z hz _; rw [if_neg hz]; rfl)
      rw [List.length_append]
      first
      | exact sent_step1 hS hsz (by assumption) (by assumption)
      | exact sent_step2 hS hsz (by assumption)
      | exact sent_step3 hS hsz (by assumption))
  · rintro ⟨its', n'⟩ u h tk _ ⟨hS, hsz⟩ F' N'
    rw [rangeKs_length] at hS
    dsimp only [kstB, List.cons_append] at F' N' hS
    k_steps
    all_goals exact hret _ _ _ _ _ (by assumption) (by assumption) hS
end
end Mine
end

section
open PySem PySem.W PyProof.Rows PySem.Calls
set_option maxRecDepth 100000
namespace Mine
open MB KR
section
variable {w : World} {p : Program} {loose : List Str} {mean : ExcName → Option Value} {mg mb : Str → Option Value} {dp un : Nat} {gd : Option (List Code)} {cn : Str} {cs : Scope} {a : Addr} {ccd : Value} {cl : List (Str × Addr)} {outer : List Env} {A₀ : Around} {base h₀ : Heap} {L : Addr} {m : Str → Option Value} {news : List (Addr × Obj)} {s : Shared} {Q E : Value → Shared → Prop}
def pieces : List Str := [".", ".", "\n", "\r", "0", "7", "10", " ", "x", "-", "_", "+", ".", "\n", "08", "5"].map Str.ofString
def pieceT (x : Int) : Str := pieces.getD (x.fmod 16).toNat Str.empty
def stepP (ps : List Str) (x : Int) : List Str := if pieceT x == Str.ofString "." then ps ++ [Str.ofString ""] else ps.dropLast ++ [ps.getLastD Str.empty ++ pieceT x]
def partsL (ns : List Int) : List Str := ns.foldl stepP [Str.ofString ""]

theorem partsL_snoc (pre : List Int) (x : Int) : partsL (pre ++ [x]) = stepP (partsL pre) x := by unfold partsL; rw [List.foldl_append]; rfl
theorem pieces_len : ∀ y ∈ pieces, y.length ≤ 2 := by decide +kernel
theorem pieceT_mem (x : Int) : pieceT x ∈ pieces := by
  unfold pieceT
  have h1 := Int.fmod_lt_of_pos x (show (0 : Int) < 16 by decide)
  have h : (x.fmod 16).toNat < pieces.length := by show _ < 16; omega
  rw [List.getD_eq_getElem?_getD, List.getElem?_eq_getElem h]
  exact List.getElem_mem _
theorem pieceT_len (x : Int) : (pieceT x).length ≤ 2 := pieces_len _ (pieceT_mem x)
theorem stepP_ne (ps : List Str) (x : Int) : stepP ps x ≠ [] := by
  unfold stepP; split <;> simp
theorem append_len (a b : Str) : (a ++ b).length = a.length + b.length := by
  show (a.cps ++ b.cps).size = _; rw [Array.size_append]; rfl
theorem getLastD_mem {ys : List Str} (h : ys ≠ []) : ys.getLastD Str.empty ∈ ys := List.mem_of_getElem? (getLast_at h)
def PF (ps : List Str) (k : Nat) : Prop := ps ≠ [] ∧ ps.length ≤ k + 1 ∧ ∀ y ∈ ps, y.length ≤ 2 * k
theorem PF_step {ps : List Str} {k : Nat} {x : Int} (h : PF ps k) : PF (stepP ps x) (k + 1) := by
  obtain ⟨h1, h2, h3⟩ := h
  refine ⟨stepP_ne _ _, ?_, ?_⟩
  · unfold stepP
    split
    · simp only [List.length_append, List.length_cons, List.length_nil]; omega
    · simp only [List.length_append, List.length_cons, List.length_nil, List.length_dropLast]; omega
  · intro y hy
    unfold stepP at hy
    split at hy
    · rcases List.mem_append.mp hy with hy | hy
      · have := h3 y hy; omega
      · rw [List.mem_singleton.mp hy]; exact Nat.zero_le _
    · rcases List.mem_append.mp hy with hy | hy
      · have := h3 y (List.dropLast_subset _ hy); omega
      · rw [List.mem_singleton.mp hy, append_len]
        have := h3 _ (getLastD_mem h1)
        have := pieceT_len x
        omega
theorem PF_fold : ∀ (ns : List Int) {ps : List Str} {k : Nat}, PF ps k → PF (ns.foldl stepP ps) (k + ns.length)
  | [], _, _, h => h
  | x :: r, ps, k, h => by
    have := PF_fold r (PF_step (x := x) h)
    rw [List.length_cons, show k + (r.length + 1) = k + 1 + r.length from by omega]
    exact this
theorem partsL_facts (pre : List Int) : PF (partsL pre) pre.length := by
  have := PF_fold pre (ps := [Str.ofString ""]) (k := 0) ⟨by decide, by decide, by decide +kernel⟩
  rwa [Nat.zero_add] at this
theorem the_addr2 {h₀ h : Heap} {L q d : Addr} {o o' : Obj} {r : List (Addr × Obj)} (_ : News h₀ L h ((q, o) :: (d, o') :: r)) : ∃ q' d', q' = q ∧ d' = d := ⟨q, d, rfl, rfl⟩
theorem stepP_dot {ps : List Str} {x : Int} (h : (pieceT x == Str.ofString ".") = true) : stepP ps x = ps ++ [Str.ofString ""] := by unfold stepP; rw [if_pos h]
theorem stepP_else {ps : List Str} {x : Int} (h : (pieceT x == Str.ofString ".") = false) : stepP ps x = ps.dropLast ++ [ps.getLastD Str.empty ++ pieceT x] := by unfold stepP; rw [if_neg (by rw [h]; exact Bool.false_ne_true)]
local macro_rules | `(tactic| walk_at "none of ours C6 0") => `(tactic| skip)
local macro_rules | `(tactic| walk_at "subscriptTail Name BinOp ref int") => `(tactic| (k_here; k_dflt (refine' itemT_L ?k1 ?k2 ?k3 ?k4 ?k5 ?k6 ?_ ?k8; (case k1 => k_asm); (case k2 => exact List.mem_cons_of_mem _ (List.mem_cons_self ..)); (case k3 => assumption); (case k4 => omega); (case k5 => (show _ < (16 : Int); omega)); (case k6 => decide +kernel); (case k8 => with_unfolding_all rfl)); intro t'))
local macro_rules | `(tactic| walk_at "subscriptTail Name UnaryOp ref int") => `(tactic| (k_here; k_dflt (refine' last_L ?k1 ?k2 ?k3 ?k4 ?k5 ?_ ?k8; (case k1 => k_asm); (case k2 => exact List.mem_cons_self ..); (case k3 => assumption); (case k4 => assumption); (case k5 => omega); (case k8 => with_unfolding_all rfl)); intro t'))
local macro_rules | `(tactic| walk_at "call builtin:list.append") => `(tactic| (k_here; (with_reducible show wpAny _ _ (call (Value.builtin _) [Value.ref _, _]) _ _ _); k_dflt (refine' appendN_L ?k1 ?k2 ?k3 ?k4 ?_; (case k1 => k_asm); (case k2 => k_asm); (case k3 => k_asm); (case k4 => exact strs_size (by assumption) (by omega))); k_whole; intro h' F' N'))
local macro_rules | `(tactic| walk_at "setItem ref int") => `(tactic| (k_here; k_dflt (refine' setLast_L ?k1 ?k2 ?k3 ?k4 ?k5 ?_; (case k1 => k_asm); (case k2 => k_asm); (case k3 => k_asm); (case k4 => assumption); (case k5 => assumption)); intro i' h' F' N' hs'))
set_option maxHeartbeats 8000000 in
theorem parts_call {l : Addr} {its : Array Value} {n : Nat} {ns : List Int} (B : Below A₀ base outer h₀) (F : Fr h₀ L s.heap m) (X : (hd.heap_39 w.params).In h₀) (N : News h₀ L s.heap news) (T : Top p loose mean mg mb h₀) (hk : cs.kind = .function)
    (hl : (l, listOf its n) ∈ news) (hi : IntsAre its.toList ns) (hz : ns.length ≤ 100)
    (hd : dp + 2 < recursionLimit) (hu : un + 16 < cLine)
    (hret : ∀ q its' c h' tk', Fr h₀ L h' m → News h₀ L h' ((q, listOf its' c) :: news) → StrsAre its'.toList (partsL ns) → Q (.ref q) { s with heap := h', toks := tk' }) :
    wpAny (model Challenge.rw_pe0022_01.row.prog w) (ktrTop dp un gd cn cs L a ccd cl outer) (call (.ref 70) [.ref l]) Q E s := by
  w_top off
  refine wpAny_call ?_
  k_dflt (refine' code_def ?k1 ?k2 ?k3 ?k4 ?k5 ?kA ?kF ?kK ?k6 ?k7 ?k8 ?k9 ?kB ?_ ?c2 ?c3 ?c4 ?c5; (case kA => exact rfl); (case kF => exact rfl); (case kK => assumption); (case k1 => k_asm); (case k2 => k_asm); (case k3 => k_asm); (case k4 => k_asm); (case k5 => k_asm); (case k6 => k_is); (case k7 => k_is); (case k8 => ktr_room); (case k9 => exact BindsTo.of_eq rfl); (case c5 => decide); (case kB => exact locs rfl); (case c2 => exact rfl); (case c3 => exact rfl); (case c4 => exact rfl); k_whole; intro g' L' h' FG' F' N' B' X' T'; (try dsimp only); (try k_lift B'); (try k_fold))
  repeat' ((fail_if_success (with_reducible show wpAny _ _ (pyIter _) _ _ _)); first | (k_unfold; (try dsimp only)) | (k_end; wrow_close) | walk1 | (dsimp only; walk1) | (leave1; walk_say "STEP leave1"; try dsimp only) | fail "no step")
  rename Fr g' L' _ _ => F1'
  rename News g' L' _ (_ :: _) => N1'
  rename (∀ p ∈ news, p.1 < _) => hd'
  rename (_ < _ ∧ AllLt _ news) => hq'
  obtain ⟨q', d', rfl, rfl⟩ := the_addr2 N1'
  obtain ⟨vs', hN', hV'⟩ : ∃ vs' : Array Value, News g' L' _ (_ :: (d', tupS vs') :: news) ∧ StrsAre vs'.toList pieces := ⟨_, N1', by repeat' constructor⟩
  clear N1'
  k_dflt (refine' kst_listL (nn := n) (fun c : Array Value × Nat => (q', listOf c.1 c.2) :: (d', tupS vs') :: news) (fun _ => []) (fun _ => True) [Str.ofString "piece"] (fun pre c => StrsAre c.1.toList (partsL pre)) (#[_], 0) ?c1 ?c2 ?c3 ?c5 ?c6 trivial (fun _ hp => nomatch hp) ?c7 ?_ ?_; (case c1 => exact rfl); (case c2 => exact fun c => List.mem_cons_of_mem _ (List.mem_cons_of_mem _ hl)); (case c3 => assumption); (case c5 => exact F1'); (case c6 => exact hN'); (case c7 => exact StrsAre.cons _ _ StrsAre.nil))
  · rintro ⟨its', n'⟩ pre post x t u h tk own hpre hmem hoff _ hS F' N'
    dsimp only [kstB, List.cons_append] at F' N' hS
    have hne : ∀ p ∈ (d', tupS vs') :: (news ++ own), p.1 ≠ q' := by
      intro p hp
      rcases List.mem_cons.mp hp with rfl | hp
      · exact Nat.ne_of_lt hq'.1
      rcases List.mem_append.mp hp with hp | hp
      · exact Nat.ne_of_lt (Nat.lt_trans (hd' p hp) hq'.1)
      · exact hoff p hp q' (.head _)
    obtain ⟨hf1, hf2, hf3⟩ := partsL_facts pre
    have hpl : pre.length ≤ 100 := by have := congrArg List.length hpre; rw [List.length_append, List.length_cons] at this; omega
    have hla : ((partsL pre).getLastD Str.empty).length ≤ 1000 := by have := hf3 _ (getLastD_mem hf1); omega
    have hlb := pieceT_len x
    have hm1 : 0 ≤ x.fmod 16 := Int.fmod_nonneg_of_pos x (by decide)
    have hm2 : x.fmod 16 < 16 := Int.fmod_lt_of_pos x (by decide)
    have hst := partsL_snoc pre x
    generalize partsL pre = ys at *
    unfold pieceT at hlb
    repeat' ((fail_if_success (with_reducible show InvEndN _ _ _ _ _ _ _)); first | (k_unfold; (try dsimp only)) | (k_end; wrow_close) | walk1 | (dsimp only; walk1) | (leave1; walk_say "STEP leave1"; try dsimp only) | fail "no step")
    all_goals (
      k_dflt (refine end_L (news := (d', tupS vs') :: news) (c₀ := (#[_], 0)) (by k_asm) (by k_asm) ?_ ?_)
      (intro z hz hc; rw [if_neg (fun e => by rw [e] at hc; revert hc; decide +kernel), if_neg hz, if_neg (by rw [hc]; exact Bool.false_ne_true)])
      rw [hst]
      first
      | (rw [stepP_dot (by assumption)]; exact strs_push hS)
      | (rw [stepP_else (by assumption)]; assumption))
  · rintro ⟨its', n'⟩ u h tk _ hS F' N'
    dsimp only [kstB, List.cons_append] at F' N' hS
    k_steps
    all_goals (exact hret _ _ _ _ _ (by assumption) (cb_drop (by assumption) (fun p hp => by
      rcases List.mem_cons.mp hp with rfl | hp
      · exact .head _
      · exact .tail _ (.tail _ hp))) hS)
end
end Mine
end

section
open PySem PySem.W PyProof.Rows PySem.Calls
set_option maxRecDepth 100000
namespace Mine
open MB KR
section
variable {w : World} {p : Program} {loose : List Str} {mean : ExcName → Option Value} {mg mb : Str → Option Value} {dp un : Nat} {gd : Option (List Code)} {cn : Str} {cs : Scope} {a : Addr} {ccd : Value} {cl : List (Str × Addr)} {outer : List Env} {A₀ : Around} {base h₀ : Heap} {L : Addr} {m : Str → Option Value} {news : List (Addr × Obj)} {s : Shared} {Q E : Value → Shared → Prop}
def restF (ys : List Str) (b : Str) : List Str := if b == Str.ofString "" then ys.take 3 else (ys ++ [b, b]).take 3
def knownZ (zs : List Str) (b : Str) : Bool := !((zs.map numP).any (· == Str.ofString "")) && (b == Str.ofString "" || numP b != Str.ofString "")
def hitZ (ys zs : List Str) (b : Str) (sends : Bool) (k : Nat) : Bool := sends && beginsT (zs.getD k Str.empty) k && (decide (k + 1 < ys.length) || !knownZ zs b)
def restZ (ys zs : List Str) (b : Str) (sends : Bool) : List Str :=
  match (List.range (min 2 (zs.length - 1))).find? (hitZ ys zs b sends) with
  | some k => zs.take (k + 1) ++ List.replicate (2 - k) (Str.ofString "")
  | none => if knownZ zs b then zs.map numP else zs
def restL (ys : List Str) (b : Str) (sends : Bool) : List Str := restZ ys (restF ys b) b sends
theorem known_1 {zs : List Str} {b : Str} (h : ((zs.map numP).any fun x => x == Str.ofString "") = true) : knownZ zs b = !((zs.map numP).any fun x => x == Str.ofString "") := by unfold knownZ; rw [h]; rfl
theorem known_2 {zs : List Str} {b : Str} (h : ((zs.map numP).any fun x => x == Str.ofString "") = false) (h2 : (b == Str.ofString "") = true) : knownZ zs b = (b == Str.ofString "") := by unfold knownZ; rw [h, h2]; rfl
theorem known_3 {zs : List Str} {b : Str} (h : ((zs.map numP).any fun x => x == Str.ofString "") = false) (h2 : (b == Str.ofString "") = false) : knownZ zs b = (numP b != Str.ofString "") := by unfold knownZ; rw [h, h2]; rfl
theorem restF_1 {ys : List Str} {b : Str} (h : (b != Str.ofString "") = true) : restF ys b = (ys ++ [b, b]).take 3 := by
  unfold restF; rw [if_neg (by intro e; rw [bne, e] at h; exact Bool.false_ne_true h)]
theorem restF_0 {ys : List Str} {b : Str} (h : (b != Str.ofString "") = false) : restF ys b = ys.take 3 := by
  unfold restF; rw [if_pos (by rw [bne] at h; revert h; cases (b == Str.ofString "") <;> decide)]
theorem map_four {M : Str → Option Value} {a b c d : Str} {va vb vc vd : Value} (ha : M a = some va) (hb : M b = some vb) (hc : M c = some vc) (hd : M d = some vd) : M = fun y => if y = a then some va else if y = b then some vb else if y = c then some vc else if y = d then some vd else M y := by
  have h1 : M = fun y => if y = d then some vd else M y := map_bind hd
  have h2 : (fun y => if y = d then some vd else M y) = fun y => if y = c then some vc else if y = d then some vd else M y := map_bind (h1 ▸ hc : (fun y => if y = d then some vd else M y) c = some vc)
  have h3 : (fun y => if y = c then some vc else if y = d then some vd else M y) = fun y => if y = b then some vb else if y = c then some vc else if y = d then some vd else M y := map_bind ((h1.trans h2) ▸ hb : (fun y => if y = c then some vc else if y = d then some vd else M y) b = some vb)
  have h4 : (fun y => if y = b then some vb else if y = c then some vc else if y = d then some vd else M y) = fun y => if y = a then some va else if y = b then some vb else if y = c then some vc else if y = d then some vd else M y := map_bind (((h1.trans h2).trans h3) ▸ ha : (fun y => if y = b then some vb else if y = c then some vc else if y = d then some vd else M y) a = some va)
  exact ((h1.trans h2).trans h3).trans h4
local macro_rules | `(tactic| walk_at "subscriptTail Name Slice ref ref") => `(tactic| (k_here; (with_reducible show wpAny _ _ (subscriptTail _ (PySem.Expr.Slice _ _ none _) (Value.ref _) (Value.ref _)) _ _ _); k_dflt (refine' slice_L ?k1 ?k2 ?k3 ?k4 ?k5 ?k6 ?_ ?k8 ?k9; (case k1 => k_asm); (case k2 => k_asm); (case k3 => first | assumption | exact List.mem_cons_self .. | exact List.mem_cons_of_mem _ (List.mem_cons_self ..) | exact List.mem_cons_of_mem _ (by assumption) | exact List.mem_cons_of_mem _ (List.mem_cons_of_mem _ (by assumption))); (case k4 => assumption); (case k5 => first | decide | omega); (case k6 => first | exact strs_size (by assumption) (by omega) | exact strs_size (by assumption) (by simp only [List.length_append, List.length_cons, List.length_nil]; omega)); (case k8 => with_unfolding_all rfl); (case k9 => kmk_pure)); intro q' i' h' F' N' l' hs'))
local macro_rules | `(tactic| walk_at "binaryOp Add ref ref") => `(tactic| (k_here; k_dflt (refine' add_L ?k1 ?k2 ?k3 ?k4 ?k5 ?k6 ?k7 ?_; (case k1 => k_asm); (case k2 => k_asm); (case k3 => first | exact List.mem_cons_of_mem _ (List.mem_cons_of_mem _ (List.mem_cons_self ..)) | exact List.mem_cons_of_mem _ (by assumption) | exact List.mem_cons_of_mem _ (List.mem_cons_of_mem _ (by assumption)) | k_mem); (case k4 => exact List.mem_cons_self ..); (case k5 => assumption); (case k6 => first | assumption | exact StrsAre.cons _ _ (StrsAre.cons _ _ StrsAre.nil)); (case k7 => (simp only [List.length_cons, List.length_nil, List.length_take, List.length_replicate]; omega))); intro q' i' h' F' N' l' hs'))
theorem map_five {M : Str → Option Value} {a b c d e : Str} {va vb vc vd ve : Value} (ha : M a = some va) (hb : M b = some vb) (hc : M c = some vc) (hd : M d = some vd) (he : M e = some ve) : M = fun y => if y = e then some ve else if y = a then some va else if y = b then some vb else if y = c then some vc else if y = d then some vd else M y := by
  funext y
  by_cases h1 : y = e
  · rw [if_pos h1, h1, he]
  · rw [if_neg h1]; exact congrFun (map_four ha hb hc hd) y
theorem drop_head {h₀ h : Heap} {L q : Addr} {o : Obj} {led news : List (Addr × Obj)} (N : News h₀ L h ((q, o) :: led)) (hs : ∀ p ∈ news, p ∈ led) : News h₀ L h ((q, o) :: news) := fun p hp => by
  rcases List.mem_cons.mp hp with rfl | hp
  · exact N _ (.head _)
  · exact N p (.tail _ (hs p hp))
theorem drop_tail {h₀ h : Heap} {L : Addr} {x : Addr × Obj} {led : List (Addr × Obj)} (N : News h₀ L h (x :: led)) : News h₀ L h led := fun p hp => N p (.tail _ hp)
theorem len_of {zs : List Str} {y : Str} (h1 : y ∈ zs) (h2 : ∀ y ∈ zs, y.length ≤ 900) : y.length ≤ 900 := h2 y h1
theorem restF_len (ys : List Str) (b : Str) : (restF ys b).length ≤ 3 := by unfold restF; split <;> simp only [List.length_take] <;> omega
theorem restF_item {ys : List Str} {b : Str} (hy : ∀ y ∈ ys, y.length ≤ 900) (hb : b.length ≤ 10) : ∀ y ∈ restF ys b, y.length ≤ 900 := by
  intro y h
  unfold restF at h
  split at h
  · exact hy y (List.mem_of_mem_take h)
  · rcases List.mem_append.mp (List.mem_of_mem_take h) with h | h
    · exact hy y h
    · have : y = b := by simpa using h
      rw [this]; omega
local macro_rules | `(tactic| walk_at "exec Assign cons ListComp") => `(tactic| (k_here; k_dflt (refine LCg.Assign_ListComp_U (F₀ := by k_asm) (by rfl) (by with_unfolding_all rfl) (by with_unfolding_all rfl) (by decide) (by rfl) (by decide) (by rfl) (by rfl) (by rfl) ?_)))
local macro_rules | `(tactic| walk_at "CompSrc") => `(tactic| (k_here; k_dflt (refine LCg.CompSrc.ledger (by rfl) (by k_asm) (by k_asm) (List.mem_cons_self ..) (by (rw [sizeLine_eq]; exact strs_size (by assumption) (by omega))) ?_; intro g'; refine compRest_L (f := numP) (by assumption) (List.mem_cons_self ..) (fun y' t' C' oC' m' h' tk' E' led' Q' hy' hC' hx' F' N' hm' hq' => ?kt) (fun vs' hvs' => ?_)); (case kt => ((repeat' (first | walk1 | (dsimp only; walk1))); exact hq' _ _ _ (by assumption) (by assumption)))))
local macro_rules | `(tactic| walk_at "compareOp NotIn str ref") => `(tactic| (k_here; k_dflt (refine' notin_L ?k1 ?k2 ?k3 ?_; (case k1 => k_asm); (case k2 => exact List.mem_cons_self ..); (case k3 => assumption))))
local macro_rules | `(tactic| walk_at "call builtin:len") => `(tactic| (k_here; (with_reducible show wpAny _ _ (call _ [Value.ref _]) _ _ _); k_dflt (refine' len_L ?k1 ?k2 ?k3 ?k4 ?_; (case k1 => k_asm); (case k2 => first | exact List.mem_cons_self .. | exact List.mem_cons_of_mem _ (List.mem_cons_self ..) | exact List.mem_cons_of_mem _ (List.mem_cons_of_mem _ (by assumption)) | exact List.mem_cons_of_mem _ (List.mem_cons_of_mem _ (List.mem_append_left _ (by assumption)))); (case k3 => assumption); (case k4 => omega)); intro t' k'))
local macro_rules | `(tactic| walk_at "binaryOp Mult ref int") => `(tactic| (k_here; k_dflt (refine' mul_L ?k1 ?k2 ?k3 ?k4 ?k5 ?_; (case k1 => k_asm); (case k2 => k_asm); (case k3 => exact List.mem_cons_self ..); (case k4 => omega); (case k5 => omega)); intro q' i' h' F' N' l' hs'))
local macro_rules | `(tactic| walk_at "call ref") => `(tactic| (k_here; (with_reducible show wpAny _ _ (call (Value.ref 84) _) _ _ _); k_dflt (refine' begins_call ?k1 ?k2 ?k3 ?k4 ?k5 ?k6 ?k7 ?k8 ?k9 ?ka ?kb ?kc ?kd ?ke ?_; (case k1 => k_asm); (case k2 => k_asm); (case k3 => k_asm); (case k4 => k_asm); (case k5 => k_asm); (case k6 => first | exact rfl | assumption); (case k7 => exact List.mem_cons_of_mem _ (List.mem_cons_self ..)); (case k8 => assumption); (case k9 => omega); (case ka => omega); (case kb => omega); (case kc => assumption); (case kd => ktr_room); (case ke => ktr_room)); intro h' tk' F' N'))
local macro_rules | `(tactic| walk_at "call ref") => `(tactic| (k_here; (with_reducible show wpAny _ _ (call (Value.ref 77) _) _ _ _); k_dflt (refine' number_call ?k1 ?k2 ?k3 ?k4 ?k5 ?k6 ?k7 ?kd ?ke ?_; (case k1 => k_asm); (case k2 => k_asm); (case k3 => k_asm); (case k4 => k_asm); (case k5 => k_asm); (case k6 => first | exact rfl | assumption); (case k7 => first | omega | exact Nat.le_trans (len_of (by assumption) (by assumption)) (by decide)); (case kd => ktr_room); (case ke => ktr_room)); intro t' h' tk' F' N'))
theorem hit_t1 {ys zs : List Str} {b : Str} {sends : Bool} {k : Nat} (h1 : sends = true) (h2 : beginsT (zs.getD (k : Int).toNat Str.empty) k = true) (h3 : (k : Int) + 1 < (ys.length : Int)) : hitZ ys zs b sends k = true := by
  rw [Int.toNat_natCast] at h2
  unfold hitZ; rw [h1, h2, decide_eq_true (show k + 1 < ys.length by omega)]; rfl
theorem hit_t2 {ys zs : List Str} {b : Str} {sends : Bool} {k : Nat} (h1 : sends = true) (h2 : beginsT (zs.getD (k : Int).toNat Str.empty) k = true) (h3 : knownZ zs b = false) : hitZ ys zs b sends k = true := by
  rw [Int.toNat_natCast] at h2
  unfold hitZ; rw [h1, h2, h3, Bool.not_false, Bool.or_true]; rfl
theorem hit_f1 {ys zs : List Str} {b : Str} {sends : Bool} {k : Nat} (h3 : ¬ (k : Int) + 1 < (ys.length : Int)) (h4 : knownZ zs b = true) : hitZ ys zs b sends k = false := by
  unfold hitZ; rw [h4, decide_eq_false (show ¬ k + 1 < ys.length by omega)]; simp
theorem hit_f2 {ys zs : List Str} {b : Str} {sends : Bool} {k : Nat} (h2 : beginsT (zs.getD (k : Int).toNat Str.empty) k = false) : hitZ ys zs b sends k = false := by
  rw [Int.toNat_natCast] at h2
  unfold hitZ; rw [h2]; simp
theorem hit_f3 {ys zs : List Str} {b : Str} {sends : Bool} {k : Nat} (h1 : sends = false) : hitZ ys zs b sends k = false := by
  unfold hitZ; rw [h1]; rfl
theorem rest_hit {ys zs : List Str} {b : Str} {sends : Bool} {k : Nat} (hk : k < min 2 (zs.length - 1)) (hp : ∀ j, j < k → hitZ ys zs b sends j = false) (h : hitZ ys zs b sends k = true) :
    restZ ys zs b sends = zs.take ((k : Int) + 1).toNat ++ List.replicate (2 - (k : Int)).toNat (Str.ofString "") := by
  have e : (List.range (min 2 (zs.length - 1))).find? (hitZ ys zs b sends) = some k := List.find?_range_eq_some.mpr ⟨h, List.mem_range.mpr hk, fun j hj => by rw [hp j hj]; rfl⟩
  unfold restZ
  rw [e, show ((k : Int) + 1).toNat = k + 1 by omega, show (2 - (k : Int)).toNat = 2 - k by omega]
theorem rest_none {ys zs : List Str} {b : Str} {sends : Bool} (hp : ∀ j, j < min 2 (zs.length - 1) → hitZ ys zs b sends j = false) : restZ ys zs b sends = if knownZ zs b then zs.map numP else zs := by
  have e : (List.range (min 2 (zs.length - 1))).find? (hitZ ys zs b sends) = none := List.find?_range_eq_none.mpr fun j hj => by rw [hp j hj]; rfl
  unfold restZ
  rw [e]
theorem pre_snoc {p : Nat → Bool} {pre : List Int} {k : Int} (h : ∀ j, j < pre.length → p j = false) (hk : p pre.length = false) : ∀ j, j < (pre ++ [k]).length → p j = false := by
  intro j hj
  rw [List.length_append, List.length_cons, List.length_nil] at hj
  by_cases e : j = pre.length
  · rw [e]; exact hk
  · exact h j (by omega)
set_option maxHeartbeats 8000000 in
theorem rest_call {l : Addr} {its : Array Value} {n : Nat} {ys : List Str} {b : Str} {u : Tok} {sends : Bool} (B : Below A₀ base outer h₀) (F : Fr h₀ L s.heap m) (X : (hd.heap_39 w.params).In h₀) (N : News h₀ L s.heap news) (T : Top p loose mean mg mb h₀) (hk : cs.kind = .function)
    (hl : (l, listOf its n) ∈ news) (hi : StrsAre its.toList ys) (hz : ys.length ≤ 400) (hy : ∀ y ∈ ys, y.length ≤ 900) (hb : b.length ≤ 10)
    (hd : dp + 2 < recursionLimit) (hu : un + 16 < cLine)
    (hret : ∀ q its' c h' tk', Fr h₀ L h' m → News h₀ L h' ((q, listOf its' c) :: news) → StrsAre its'.toList (restL ys b sends) → Q (.ref q) { s with heap := h', toks := tk' }) :
    wpAny (model Challenge.rw_pe0022_01.row.prog w) (ktrTop dp un gd cn cs L a ccd cl outer) (call (.ref 96) [.ref l, .str b u, .bool sends]) Q E s := by
  w_top off
  refine wpAny_call ?_
  k_dflt (refine' code_def ?k1 ?k2 ?k3 ?k4 ?k5 ?kA ?kF ?kK ?k6 ?k7 ?k8 ?k9 ?kB ?_ ?c2 ?c3 ?c4 ?c5; (case kA => exact rfl); (case kF => exact rfl); (case kK => assumption); (case k1 => k_asm); (case k2 => k_asm); (case k3 => k_asm); (case k4 => k_asm); (case k5 => k_asm); (case k6 => k_is); (case k7 => k_is); (case k8 => ktr_room); (case k9 => exact BindsTo.of_eq rfl); (case c5 => decide); (case kB => exact locs rfl); (case c2 => exact rfl); (case c3 => exact rfl); (case c4 => exact rfl); k_whole; intro g' L' h' FG' F' N' B' X' T'; (try dsimp only); (try k_lift B'); (try k_fold))
  repeat' ((fail_if_success (with_reducible show wpAny _ _ (execs (Stmt.If _ _ _ _ :: _) _) _ _ _)); first | (k_unfold; (try dsimp only)) | (k_end; wrow_close) | walk1 | (dsimp only; walk1) | (leave1; walk_say "STEP leave1"; try dsimp only) | fail "no step")
  refine execs_cut0 (fun s' => ∃ h' tk M q its' n', s' = { s with heap := h', toks := tk } ∧ Fr g' L' h' M ∧ News g' L' h' ((q, listOf its' n') :: news) ∧ StrsAre its'.toList (restF ys b) ∧ M (Str.ofString "filled") = some (.ref q) ∧ M (Str.ofString "parts") = some (.ref l) ∧ M (Str.ofString "build") = some (.str b u) ∧ M (Str.ofString "sends") = some (.bool sends)) ?_ ?_
  · k_steps
    · refine ⟨rfl, _, _, _, _, _, _, rfl, by assumption, cb_drop (by assumption) (fun p hp => by
        rcases List.mem_cons.mp hp with rfl | hp
        · exact .head _
        · exact .tail _ (.tail _ (.tail _ (.tail _ hp)))), ?_, rfl, rfl, rfl, rfl⟩
      rw [restF_1 (by assumption)]; assumption
    · refine ⟨rfl, _, _, _, _, _, _, rfl, by assumption, by assumption, ?_, rfl, rfl, rfl, rfl⟩
      rw [restF_0 (by assumption)]; assumption
  · rintro s' ⟨h', tk, M, q, its', n', rfl, F', N', hS, h1, h2, h3, h4⟩
    rw [map_four h1 h2 h3 h4] at F'
    have hfl := restF_len ys b
    have hfi := restF_item (ys := ys) hy hb
    unfold restL at hret
    generalize restF ys b = zs at *
    clear h1 h2 h3 h4
    repeat' ((fail_if_success (with_reducible show wpAny _ _ (execs (Stmt.Assign _ (Expr.BoolOp _ _ _) _ :: _) _) _ _ _)); first | (k_unfold; (try dsimp only)) | (k_end; wrow_close) | walk1 | (dsimp only; walk1) | (leave1; walk_say "STEP leave1"; try dsimp only) | fail "no step")
    refine execs_cut0 (fun s' => ∃ h' tk M q its' n' r its2 n2, s' = { s with heap := h', toks := tk } ∧ Fr g' L' h' M ∧ News g' L' h' ((r, listOf its2 n2) :: (q, listOf its' n') :: news) ∧ StrsAre its'.toList zs ∧ StrsAre its2.toList (zs.map numP) ∧ M (Str.ofString "filled") = some (.ref q) ∧ M (Str.ofString "parts") = some (.ref l) ∧ M (Str.ofString "known") = some (.bool (knownZ zs b)) ∧ M (Str.ofString "sends") = some (.bool sends) ∧ M (Str.ofString "plain") = some (.ref r)) ?_ ?_
    · k_steps
      all_goals (first | rw [known_1 (by assumption)] | rw [known_2 (by assumption) (by assumption)] | rw [known_3 (by assumption) (by assumption)])
      all_goals exact ⟨by first | rfl | trivial, _, _, _, _, _, _, _, _, _, rfl, by assumption, by assumption, by assumption, by assumption, rfl, rfl, rfl, rfl, rfl⟩
    · clear F' N' hS
      rintro s' ⟨h', tk, M, q, its', n', r, its2, n2, rfl, F', N', hS, hP, h1, h2, h3, h4, h5⟩
      rw [map_five h1 h2 h3 h4 h5] at F'
      repeat' ((fail_if_success (with_reducible show wpAny _ _ (call (Value.type "range") _) _ _ _)); first | (k_unfold; (try dsimp only)) | (k_end; wrow_close) | walk1 | (dsimp only; walk1) | (leave1; walk_say "STEP leave1"; try dsimp only) | fail "no step")
      rename Fr g' L' _ _ => F1'
      rename News g' L' _ (_ :: _) => N1'
      clear h1 h2 h3 h4 h5
      k_dflt (refine' range1_rows ?ka ?kb ?_; (case ka => exact F1'); (case kb => exact N1'); intro h2' tk2' t2' u2' v2' R2' F2' N2' _)
      k_dflt (refine' kst_range (n := min 2 (zs.length - 1)) (fun _ : Unit => (r, listOf its2 n2) :: (q, listOf its' n') :: news) (fun _ => []) (fun _ => True) [] (fun pre _ => ∀ j, j < pre.length → hitZ ys zs b sends j = false) () ?c1 ?c2 ?c3 ?c4 ?c5 ?c6 trivial (fun _ hp => nomatch hp) ?c7 ?_ ?_; (case c1 => exact rfl); (case c2 => exact R2'); (case c3 => exact small_one (by decide) (by decide) (by split <;> omega) (by split <;> omega)); (case c4 => (rw [rangeSize_nat]; split <;> omega)); (case c5 => exact F2'); (case c6 => exact N2'); (case c7 => exact fun j hj => absurd hj (Nat.not_lt_zero j)))
      · rintro ⟨⟩ pre k t u' h tk own rfl hlen hoff _ hPre F' N'
        dsimp only [kstB, List.cons_append] at F' N'
        rw [Int.zero_add] at F'
        have hkl : pre.length + 1 < zs.length ∧ pre.length < 2 := by omega
        have hzk : (zs.getD (pre.length : Int).toNat Str.empty).length ≤ 100000 := by
          rw [Int.toNat_natCast, List.getD_eq_getElem?_getD, List.getElem?_eq_getElem (by omega)]
          exact Nat.le_trans (hfi _ (List.getElem_mem _)) (by decide)
        repeat' ((fail_if_success (with_reducible show InvEndN _ _ _ _ _ _ _)); first | (k_unfold; (try dsimp only)) | (k_end; wrow_close) | walk1 | (dsimp only; walk1) | (leave1; walk_say "STEP leave1"; try dsimp only) | fail "no step")
        all_goals (first
          | (k_dflt (refine kst_end () (by k_asm) (by k_asm) (fun p hp => ?_) (fun p hp => .tail _ (.tail _ (List.mem_append_right _ hp))) rfl trivial (fun _ hp => nomatch hp) ?_ ?_)
             · rcases List.mem_cons.mp hp with rfl | hp
               · exact .head _
               · rcases List.mem_cons.mp hp with rfl | hp
                 · exact .tail _ (.head _)
                 · exact .tail _ (.tail _ (List.mem_append_left _ hp))
             · (intro z hz _ _; rw [if_neg hz]; rfl)
             · exact pre_snoc hPre (by first | exact hit_f1 (by assumption) (by assumption) | exact hit_f2 (by assumption) | exact hit_f3 (by assumption)))
          | (refine hret _ _ _ _ _ (by assumption) (drop_head (by assumption) (fun p hp => ?_)) ?_
             · exact .tail _ (.tail _ (.tail _ (.tail _ (.tail _ (List.mem_append_left _ hp)))))
             · rw [rest_hit hlen hPre (by first | exact hit_t1 (by assumption) (by assumption) (by assumption) | exact hit_t2 (by assumption) (by assumption) (by assumption))]; assumption))
      · rintro ⟨⟩ u' h tk _ hPre F' N'
        rw [rangeKs_length] at hPre
        dsimp only [kstB, List.cons_append] at F' N'
        k_steps
        · refine hret _ _ _ _ _ (by assumption) (drop_head (by assumption) (fun p hp => ?_)) ?_
          · exact .tail _ hp
          · rw [rest_none hPre, if_pos (by assumption)]; assumption
        · refine hret _ _ _ _ _ (by assumption) (drop_tail (by assumption)) ?_
          rw [rest_none hPre, if_neg (by simp only [*]; decide)]; assumption
end
end Mine
end

section
open PySem PySem.W PyProof.Rows PySem.Calls
set_option maxRecDepth 100000
namespace Mine
open MB KR RX
def builds : List Str := ["", "08", "x"].map Str.ofString
def everyL (ys : List Str) (b : Str) : List Str := if b == Str.ofString "" then ys.map evenP else ys.map evenP ++ [b]
def knownE (ys : List Str) (b : Str) : Bool := !(((everyL ys b).map numP).any (· == Str.ofString ""))
def joinP (ys : List Str) : Str := Txt.join (Str.ofString ".") ys
def sideP (sends : Bool) (x : Str) : Str := if sends then dotP (eolP x) else eolP x
def oneAt (ys : List Str) (b : Str) (sends : Bool) : Nat → Str
  | 0 => joinP ys
  | k + 1 => normP (sideP sends (oneAt ys b sends k)) b
def otherAt (ys : List Str) (b : Str) (sends : Bool) : Nat → Str
  | 0 => joinP ys
  | k + 1 => sideP sends (normP (otherAt ys b sends k) b)
def firstL (ys : List Str) (b : Str) (sends : Bool) : List Str := restL (ys.map evenP) b sends
def secondR (ys : List Str) (b : Str) (sends : Bool) : List Str := restL ((everyL ys b).take 3) b (sends && !knownE ys b)
def secondL (ys : List Str) (b : Str) (sends : Bool) : List Str := if sends then sentL (secondR ys b sends) (secondR ys b sends).length else secondR ys b sends
structure Ok (x b : Str) : Prop where
  len : x.length ≤ 2000
  good : ∀ y ∈ Txt.split x (Str.ofString "."), Good y
  goodB : ∀ y ∈ Txt.split x (Str.ofString ".") ++ [b], Good y
  parts : (Txt.split x (Str.ofString ".")).length ≤ 500
structure PlainF (ys : List Str) (b : Str) (sends : Bool) : Prop where
  one_len : ∀ k, k < 4 → (oneAt ys b sends k).length ≤ 1000
  one_ok : ∀ k, k < 4 → Ok (sideP sends (oneAt ys b sends k)) b
  oth_ok : ∀ k, k < 4 → Ok (otherAt ys b sends k) b
  oth_len : ∀ k, k < 4 → (normP (otherAt ys b sends k) b).length ≤ 1000
  one_end : ∀ k, 2 < k → k ≤ 4 → oneAt ys b sends k = joinP (firstL ys b sends)
  oth_end : ∀ k, 2 < k → k ≤ 4 → otherAt ys b sends k = joinP (secondL ys b sends)
  first_n : (firstL ys b sends).length ≤ 1000
  first_y : ∀ y ∈ firstL ys b sends, y.length ≤ 2000
  second_n : (secondL ys b sends).length ≤ 400
  second_y : ∀ y ∈ secondL ys b sends, y.length ≤ 2000
  secondR_n : (secondR ys b sends).length ≤ 400
  secondR_y : ∀ y ∈ secondR ys b sends, y.length ≤ 1000
/-- the signs that the pieces, and what is made of them, are of -/
def Cls (c : Nat) : Prop := c = 10 ∨ c = 13 ∨ c = 32 ∨ c = 43 ∨ c = 45 ∨ c = 95 ∨ c = 120 ∨ (48 ≤ c ∧ c ≤ 57)
def ClsT (y : Str) : Prop := ∀ c ∈ y.cps.toList, Cls c
def PlainLaw : Prop := ∀ (ys : List Str) (b : Str) (sends : Bool), ys ≠ [] → ys.length ≤ 13 → (∀ y ∈ ys, y.length ≤ 24) → (∀ y ∈ ys, ClsT y) → b ∈ builds → PlainF ys b sends
end Mine
end

section
open PySem PySem.W PyProof.Rows PySem.Calls
set_option maxRecDepth 100000
namespace Mine
open MB KR RX
def LL (x : Str) : List Nat := x.cps.toList
theorem ext_LL {a b : Str} (h : LL a = LL b) : a = b := by
  apply Str.ext'
  exact Array.toList_inj.mp h
theorem LL_mk (l : List Nat) : LL ⟨l.toArray⟩ = l := by simp [LL]
theorem LL_app (a b : Str) : LL (a ++ b) = LL a ++ LL b := by
  show (a.cps ++ b.cps).toList = _
  rw [Array.toList_append]; rfl
theorem dot_lit : Str.ofString "." = ⟨#[46]⟩ := by decide +kernel
theorem nil_lit : Str.ofString "" = ⟨#[]⟩ := by decide +kernel
theorem LL_nil : LL (Str.ofString "") = [] := by rw [nil_lit]; rfl
theorem LL_eq_nil {y : Str} : LL y = [] ↔ y = Str.ofString "" := ⟨fun h => ext_LL (by rw [h, LL_nil]), fun h => by rw [h, LL_nil]⟩
theorem ClsT_LL {y : Str} : ClsT y ↔ ∀ c ∈ LL y, Cls c := Iff.rfl
theorem cls_dot {y : Str} (h : ClsT y) : 46 ∉ LL y := fun hm => by
  have := h 46 hm
  unfold Cls at this
  omega
def jl : List (List Nat) → List Nat
  | [] => []
  | [x] => x
  | x :: y :: r => x ++ 46 :: jl (y :: r)
theorem joinP_LL : ∀ ys : List Str, LL (joinP ys) = jl (ys.map LL) := by
  intro ys
  show LL (Txt.join (Str.ofString ".") ys) = _
  unfold Txt.join
  rw [StrLaws.glued_eq_join, dot_lit]
  induction ys with
  | nil => rfl
  | cons x r ih =>
    cases r with
    | nil => rfl
    | cons y r =>
      show LL (x ++ ⟨#[46]⟩ ++ Str.join ⟨#[46]⟩ (y :: r)) = _
      rw [LL_app, LL_app, ih]
      show LL x ++ [46] ++ jl ((y :: r).map LL) = LL x ++ 46 :: jl ((y :: r).map LL)
      rw [List.append_assoc]; rfl
theorem cut_unique : ∀ (a a' b b' : List Nat), 46 ∉ a → 46 ∉ a' → a ++ 46 :: b = a' ++ 46 :: b' → a = a' ∧ b = b'
  | [], [], b, b', _, _, h => ⟨rfl, (List.cons.inj h).2⟩
  | [], c :: r, _, _, _, h', h => absurd (List.cons.inj h).1 (fun e => h' (e ▸ List.mem_cons_self ..))
  | c :: r, [], _, _, h', _, h => absurd (List.cons.inj h).1 (fun e => h' (e ▸ List.mem_cons_self ..))
  | c :: r, c' :: r', b, b', h1, h2, h => by
    have h3 := List.cons.inj h
    have := cut_unique r r' b b' (fun m => h1 (.tail _ m)) (fun m => h2 (.tail _ m)) h3.2
    exact ⟨by rw [h3.1, this.1], this.2⟩
theorem jl_inj : ∀ (xs ys : List (List Nat)), xs ≠ [] → ys ≠ [] → (∀ x ∈ xs, 46 ∉ x) → (∀ y ∈ ys, 46 ∉ y) → jl xs = jl ys → xs = ys
  | [], _, h, _, _, _, _ => absurd rfl h
  | _ :: _, [], _, h, _, _, _ => absurd rfl h
  | [x], [y], _, _, _, _, h => by rw [show x = y from h]
  | [x], y :: z :: r, _, _, h1, _, h => by
    have e : x = y ++ 46 :: jl (z :: r) := h
    exact absurd (e ▸ List.mem_append_right _ (List.mem_cons_self ..)) (h1 x (.head _))
  | x :: z :: r, [y], _, _, _, h1, h => by
    have e : x ++ 46 :: jl (z :: r) = y := h
    exact absurd (e ▸ List.mem_append_right _ (List.mem_cons_self ..)) (h1 y (.head _))
  | x :: x2 :: r, y :: y2 :: r', _, _, h1, h2, h => by
    have h3 := cut_unique x y _ _ (h1 x (.head _)) (h2 y (.head _)) h
    have := jl_inj (x2 :: r) (y2 :: r') (by simp) (by simp) (fun z hz => h1 z (.tail _ hz)) (fun z hz => h2 z (.tail _ hz)) h3.2
    rw [h3.1, this]
theorem map_LL_inj : ∀ {xs ys : List Str}, xs.map LL = ys.map LL → xs = ys
  | [], [], _ => rfl
  | [], _ :: _, h => by simp at h
  | _ :: _, [], h => by simp at h
  | x :: xs, y :: ys, h => by
    have h' := List.cons.inj h
    rw [ext_LL h'.1, map_LL_inj h'.2]
theorem split_ne (x y : Str) : Txt.split x y ≠ [] := by
  unfold Txt.split
  split
  · simp
  · split
    · simp
    · rw [StrLaws.partsBetween_eq]
      obtain ⟨p, r, e⟩ := StrLaws.partsFrom_ne x y.length 0 (Builtin.Str.occurrences x y 0 x.length (x.length + 1))
      rw [e]; simp
/-- F1 -/
theorem split_joinP {ys : List Str} (h0 : ys ≠ []) (h : ∀ y ∈ ys, 46 ∉ LL y) : Txt.split (joinP ys) (Str.ofString ".") = ys := by
  apply map_LL_inj
  refine jl_inj _ _ (by simp [split_ne]) (by simpa using h0) (fun x hx => ?_) (fun x hx => ?_) ?_
  · obtain ⟨z, hz, rfl⟩ := List.mem_map.mp hx
    rw [dot_lit] at hz
    exact StrLaws.split_free _ _ z hz
  · obtain ⟨z, hz, rfl⟩ := List.mem_map.mp hx
    exact h z hz
  · rw [← joinP_LL, ← joinP_LL]
    congr 1
    show Txt.join _ _ = _
    unfold Txt.join
    rw [StrLaws.glued_eq_join, StrLaws.join_split]
theorem eol_cut (r : List Nat) : ∀ a : List Nat, eolL (a ++ 46 :: r) = eolL a ++ 46 :: eolL r := by
  intro a
  induction a using eolL.induct with
  | case1 => exact eolL_other (by decide) (by decide)
  | case2 a ih =>
    show eolL (13 :: 10 :: (a ++ 46 :: r)) = _
    rw [eolL_crlf, eolL_crlf, ih]; rfl
  | case3 c a h hc ih =>
    show eolL (c :: (a ++ 46 :: r)) = eolL (c :: a) ++ _
    have e1 : eolL (c :: a) = 13 :: 10 :: eolL a := by
      rw [eolL]
      · rw [if_pos hc]
      · exact h
    have e2 : eolL (c :: (a ++ 46 :: r)) = 13 :: 10 :: eolL (a ++ 46 :: r) := by
      rw [eolL]
      · rw [if_pos hc]
      · intro r' hc' e
        cases a with
        | nil => exact absurd (List.cons.inj e).1 (by decide)
        | cons d a => exact h a hc' (by rw [(List.cons.inj e).1])
    rw [e1, e2, ih]; rfl
  | case4 c a h hc ih =>
    show eolL (c :: (a ++ 46 :: r)) = eolL (c :: a) ++ _
    rw [eolL_other (fun e => hc (.inl e)) (fun e => hc (.inr e)), eolL_other (fun e => hc (.inl e)) (fun e => hc (.inr e)), ih]; rfl
theorem eol_jl : ∀ ys : List (List Nat), eolL (jl ys) = jl (ys.map eolL)
  | [] => rfl
  | [_] => rfl
  | x :: y :: r => by
    show eolL (x ++ 46 :: jl (y :: r)) = eolL x ++ 46 :: jl ((y :: r).map eolL)
    rw [eol_cut, eol_jl (y :: r)]
theorem eolP_LL (x : Str) : LL (eolP x) = eolL (LL x) := LL_mk _
theorem dotP_LL (x : Str) : LL (dotP x) = dotL true (LL x) := LL_mk _
/-- F2 -/
theorem eol_joinP (ys : List Str) : eolP (joinP ys) = joinP (ys.map eolP) := by
  apply ext_LL
  rw [eolP_LL, joinP_LL, joinP_LL, eol_jl, List.map_map, List.map_map]
  congr 1
theorem eolL_idem (l : List Nat) : eolL (eolL l) = eolL l := by
  induction l using eolL.induct with
  | case1 => rfl
  | case2 a ih => rw [eolL_crlf, eolL_crlf, ih]
  | case3 c a h hc ih =>
    have e1 : eolL (c :: a) = 13 :: 10 :: eolL a := by
      rw [eolL]
      · rw [if_pos hc]
      · exact h
    rw [e1, eolL_crlf, ih]
  | case4 c a h hc ih =>
    rw [eolL_other (fun e => hc (.inl e)) (fun e => hc (.inr e)), eolL_other (fun e => hc (.inl e)) (fun e => hc (.inr e)), ih]
theorem eolP_idem (x : Str) : eolP (eolP x) = eolP x := by
  apply ext_LL
  rw [eolP_LL, eolP_LL, eolL_idem]
theorem eolL_free {l : List Nat} (h : ∀ c ∈ l, c ≠ 10 ∧ c ≠ 13) : eolL l = l := by
  have := eolL_app l [] h
  rw [List.append_nil] at this
  rw [this]
  exact List.append_nil l
theorem eolL_mem : ∀ (l : List Nat), ∀ c ∈ eolL l, c ∈ l ∨ c = 10 ∨ c = 13 := by
  intro l
  induction l using eolL.induct with
  | case1 => intro c hc; cases hc
  | case2 a ih =>
    intro c hc
    rw [eolL_crlf] at hc
    rcases List.mem_cons.mp hc with e | hc
    · exact .inr (.inr e)
    · rcases List.mem_cons.mp hc with e | hc
      · exact .inr (.inl e)
      · exact (ih c hc).imp (fun m => .tail _ (.tail _ m)) id
  | case3 d a h hd ih =>
    intro c hc
    rw [eolL] at hc
    · rw [if_pos hd] at hc
      rcases List.mem_cons.mp hc with e | hc
      · exact .inr (.inr e)
      · rcases List.mem_cons.mp hc with e | hc
        · exact .inr (.inl e)
        · exact (ih c hc).imp (fun m => .tail _ m) id
    · exact h
  | case4 d a h hd ih =>
    intro c hc
    rw [eolL_other (fun e => hd (.inl e)) (fun e => hd (.inr e))] at hc
    rcases List.mem_cons.mp hc with e | hc
    · exact .inl (e ▸ .head _)
    · exact (ih c hc).imp (fun m => .tail _ m) id
theorem eolP_cls {y : Str} (h : ClsT y) : ClsT (eolP y) := by
  intro c hc
  have hc' : c ∈ eolL (LL y) := by rw [← eolP_LL]; exact hc
  rcases eolL_mem _ c hc' with h1 | h1 | h1
  · exact h c h1
  · exact .inl h1
  · exact .inr (.inl h1)
/-- a row begins behind the part -/
def bl (f : Bool) (a : List Nat) : Bool := match a.getLast? with
  | none => f
  | some c => c == 10
theorem dot_cut (r : List Nat) : ∀ (a : List Nat) (f : Bool), 46 ∉ a → dotL f (a ++ 46 :: r) = a ++ (if bl f a then 46 :: 46 :: dotL false r else 46 :: dotL false r)
  | [], f, _ => by
    show dotL f (46 :: r) = if f = true then _ else _
    rw [dotL]
    cases f with
    | true => rw [if_pos ⟨rfl, rfl⟩, if_pos rfl]
    | false => rw [if_neg (fun e => Bool.false_ne_true e.1), if_neg Bool.false_ne_true]; rfl
  | c :: a, f, h => by
    have hc : c ≠ 46 := fun e => h (e ▸ .head _)
    show dotL f (c :: (a ++ 46 :: r)) = _
    rw [dotL, if_neg (fun e => hc e.2), dot_cut r a (c == 10) (fun m => h (.tail _ m))]
    have e : bl (c == 10) a = bl f (c :: a) := by
      cases a with
      | nil => rfl
      | cons d a => unfold bl; rw [List.getLast?_cons_cons]; rw [List.getLast?_cons]
    rw [e]; rfl
theorem dot_free_end : ∀ (a : List Nat) (f : Bool), 46 ∉ a → dotL f a = a
  | [], _, _ => by rw [dotL]
  | c :: a, f, h => by
    rw [dotL, if_neg (fun e : f = true ∧ c = 46 => h (e.2 ▸ .head _)), dot_free_end a _ (fun m => h (.tail _ m))]
def sl (f : Bool) : List (List Nat) → List (List Nat)
  | [] => []
  | [y] => [y]
  | y :: z :: r => if bl f y then y :: [] :: sl false (z :: r) else y :: sl false (z :: r)
theorem sl_ne {f : Bool} {z : List Nat} {r : List (List Nat)} : ∃ a q, sl f (z :: r) = a :: q := by
  cases r with
  | nil => exact ⟨_, _, rfl⟩
  | cons y r => unfold sl; split <;> exact ⟨_, _, rfl⟩
theorem dot_jl : ∀ (ys : List (List Nat)) (f : Bool), (∀ y ∈ ys, 46 ∉ y) → dotL f (jl ys) = jl (sl f ys)
  | [], f, _ => by show dotL f [] = []; rw [dotL]
  | [y], f, h => dot_free_end y f (h y (.head _))
  | y :: z :: r, f, h => by
    show dotL f (y ++ 46 :: jl (z :: r)) = _
    rw [dot_cut _ _ _ (h y (.head _)), dot_jl (z :: r) false fun x hx => h x (.tail _ hx)]
    obtain ⟨a, q, e⟩ := sl_ne (f := false) (z := z) (r := r)
    show _ = jl (if bl f y then y :: [] :: sl false (z :: r) else y :: sl false (z :: r))
    rw [e]
    split
    · rfl
    · rfl
def nlB (y : Str) : Bool := (LL y).getLast? == some 10
def sR : Bool → List Str → List Str
  | _, [] => []
  | _, [y] => [y]
  | f, y :: z :: r => if nlB y || (f && y == Str.ofString "") then y :: Str.ofString "" :: sR false (z :: r) else y :: sR false (z :: r)
theorem bl_eq (f : Bool) (y : Str) : bl f (LL y) = (nlB y || (f && y == Str.ofString "")) := by
  unfold bl nlB
  cases h : (LL y).getLast? with
  | none =>
    have h' : y = Str.ofString "" := LL_eq_nil.mp (List.getLast?_eq_none_iff.mp h)
    rw [h']; simp
  | some c =>
    have h' : (y == Str.ofString "") = false := by
      rw [beq_eq_false_iff_ne]
      intro e
      rw [LL_eq_nil.mpr e] at h; cases h
    rw [h']; simp
theorem sl_map : ∀ (ys : List Str) (f : Bool), sl f (ys.map LL) = (sR f ys).map LL
  | [], _ => rfl
  | [_], _ => rfl
  | y :: z :: r, f => by
    have ih := sl_map (z :: r) false
    show (if bl f (LL y) then LL y :: [] :: sl false ((z :: r).map LL) else LL y :: sl false ((z :: r).map LL)) = _
    rw [bl_eq, ih]
    show _ = List.map LL (if nlB y || (f && y == Str.ofString "") then y :: Str.ofString "" :: sR false (z :: r) else y :: sR false (z :: r))
    split
    · rw [List.map_cons, List.map_cons, LL_nil]
    · rw [List.map_cons]
/-- F3 -/
theorem dot_joinP {ys : List Str} (h : ∀ y ∈ ys, 46 ∉ LL y) : dotP (joinP ys) = joinP (sR true ys) := by
  apply ext_LL
  rw [dotP_LL, joinP_LL, joinP_LL, dot_jl _ _ (fun x hx => by
    obtain ⟨z, hz, rfl⟩ := List.mem_map.mp hx
    exact h z hz), sl_map]
end Mine
end

section
open PySem PySem.W PyProof.Rows PySem.Calls
set_option maxRecDepth 100000
namespace Mine
open MB KR RX
theorem nl_lit : Str.ofString "\n" = ⟨#[10]⟩ := by decide +kernel
theorem len_LL (y : Str) : y.length = (LL y).length := by unfold LL; rw [Array.length_toList]; rfl
theorem slice_eq (x : Str) (l u : Option Int) : Txt.slice x l u = StrLaws.sliceText x l u := rfl
theorem nil_or (y : Str) : y = Str.ofString "" ∨ 1 ≤ (LL y).length := by
  cases h : LL y with
  | nil => exact .inl (LL_eq_nil.mp h)
  | cons c r => exact .inr (by simp)
theorem LL_from1 (y : Str) : LL (Txt.slice y (some 1) none) = (LL y).drop 1 := by
  rcases nil_or y with rfl | h
  · decide +kernel
  · unfold LL at h
    rw [slice_eq, StrLaws.sliceText_from ⟨by decide, by omega⟩, LL_mk]
    show ((LL y).drop 1).take _ = _
    refine List.take_of_length_le ?_
    rw [List.length_drop]
    unfold LL
    omega
theorem LL_to1 (y : Str) : LL (Txt.slice y none (some 1)) = (LL y).take 1 := by
  rcases nil_or y with rfl | h
  · decide +kernel
  · unfold LL at h
    rw [slice_eq, StrLaws.sliceText_to ⟨by decide, by omega⟩, LL_mk]
    rfl
theorem LL_last1 (y : Str) : LL (Txt.slice y (some (-1)) none) = (LL y).drop ((LL y).length - 1) := by
  rcases nil_or y with rfl | h
  · decide +kernel
  · have hl := len_LL y
    unfold LL at h hl
    rw [slice_eq, StrLaws.sliceText_from_neg (by decide) (by omega), LL_mk]
    rw [List.take_of_length_le (by rw [List.length_drop]; omega)]
    unfold LL
    congr 1
    omega
theorem last1_eq (y : Str) (c : Nat) : (Txt.slice y (some (-1)) none == ⟨#[c]⟩) = ((LL y).getLast? == some c) := by
  have h := LL_last1 y
  generalize Txt.slice y (some (-1)) none = z at h
  have e : (z == ⟨#[c]⟩) = (LL z == [c]) := by
    by_cases hz : z = ⟨#[c]⟩
    · rw [hz]; simp [LL]
    · rw [beq_eq_false_iff_ne.mpr hz]
      symm
      rw [beq_eq_false_iff_ne]
      intro hh
      exact hz (ext_LL hh)
  rw [e, h]
  rcases List.eq_nil_or_concat (LL y) with h0 | ⟨i, d, h0⟩
  · rw [h0]; rfl
  · rw [h0]
    simp
theorem nl_eq (y : Str) : (Txt.slice y (some (-1)) none == Str.ofString "\n") = nlB y := by rw [nl_lit]; exact last1_eq y 10
theorem to1_eq (y : Str) (c : Nat) : (Txt.slice y none (some 1) == ⟨#[c]⟩) = ((LL y).head? == some c) := by
  have h := LL_to1 y
  generalize Txt.slice y none (some 1) = z at h
  have e : (z == ⟨#[c]⟩) = (LL z == [c]) := by
    by_cases hz : z = ⟨#[c]⟩
    · rw [hz]; simp [LL]
    · rw [beq_eq_false_iff_ne.mpr hz]
      symm
      rw [beq_eq_false_iff_ne]
      intro hh
      exact hz (ext_LL hh)
  rw [e, h]
  cases LL y with
  | nil => rfl
  | cons d r => simp
theorem begins_eq (y : Str) (k : Nat) : beginsT y k = (nlB y || (k == 0 && y == Str.ofString "")) := by
  unfold beginsT
  rw [nl_eq]
  congr 2
  cases k with
  | zero => rfl
  | succ k =>
    show (((k + 1 : Nat) : Int) == 0) = false
    rw [beq_eq_false_iff_ne]
    omega
theorem sent_go : ∀ (suf pre ys : List Str), pre ++ suf = ys → (List.range' pre.length suf.length).flatMap (sentAt ys) = sR (pre.length == 0) suf
  | [], _, _, _ => rfl
  | [y], pre, ys, h => by
    subst h
    show sentAt (pre ++ [y]) pre.length ++ [] = [y]
    unfold sentAt
    rw [if_neg (by simp)]
    simp
  | y :: z :: r, pre, ys, h => by
    have ih := sent_go (z :: r) (pre ++ [y]) ys (by rw [← h]; simp)
    rw [List.length_append] at ih
    show sentAt ys pre.length ++ (List.range' (pre.length + 1) (z :: r).length).flatMap (sentAt ys) = _
    rw [show pre.length + [y].length = pre.length + 1 from rfl] at ih
    rw [ih, show (pre.length + 1 == 0) = false from rfl]
    have hy : ys.getD pre.length Str.empty = y := by subst h; simp
    have hl : pre.length + 1 < ys.length := by subst h; simp
    unfold sentAt
    rw [hy, begins_eq]
    show _ = if nlB y || ((pre.length == 0) && y == Str.ofString "") then y :: Str.ofString "" :: sR false (z :: r) else y :: sR false (z :: r)
    by_cases hb : (nlB y || ((pre.length == 0) && y == Str.ofString "")) = true
    · rw [if_pos hb, if_pos ⟨hl, hb⟩]; rfl
    · rw [if_neg hb, if_neg fun e => hb e.2]; rfl
theorem sent_eq (ys : List Str) : sentL ys ys.length = sR true ys := by
  have := sent_go ys [] ys rfl
  unfold sentL
  rw [List.range_eq_range']
  exact this
end Mine
end

section
open PySem PySem.W PyProof.Rows PySem.Calls
set_option maxRecDepth 100000
namespace Mine
open MB KR RX
open NumText (AllDigits digitsVal blank digits? step sign core worth)
def isD (c : Nat) : Bool := decide (48 ≤ c ∧ c ≤ 57)
def okU : Bool → List Nat → Bool
  | b, [] => b
  | b, c :: r => if c = 95 then b && okU false r else isD c && okU true r
theorem step_us {ds : Array Nat} {b : Bool} : step 10 (ds, b) 95 = if b then some (ds, false) else none := rfl
theorem step_bad {ds : Array Nat} {b : Bool} {c : Nat} (h : Cls c) (h1 : c ≠ 95) (h2 : isD c = false) : step 10 (ds, b) c = none := by
  unfold isD at h2
  have h2' := of_decide_eq_false h2
  unfold Cls at h
  have : c = 10 ∨ c = 13 ∨ c = 32 ∨ c = 43 ∨ c = 45 ∨ c = 120 := by omega
  rcases this with rfl | rfl | rfl | rfl | rfl | rfl <;> rfl
theorem fold_ok : ∀ (l : List Nat) (b : Bool) (ds : Array Nat), okU b l = true → l.foldlM (step 10) (ds, b) = some ((l.filter (· != 95)).foldl (fun acc c => acc.push (c - 48)) ds, true)
  | [], b, ds, h => by have h' : b = true := h; rw [h']; rfl
  | c :: r, b, ds, h => by
    unfold okU at h
    rw [List.foldlM_cons]
    by_cases hc : c = 95
    · rw [if_pos hc, Bool.and_eq_true] at h
      rw [hc, step_us, if_pos h.1]
      show r.foldlM (step 10) (ds, false) = _
      rw [fold_ok r false ds h.2]
      rfl
    · rw [if_neg hc, Bool.and_eq_true] at h
      rw [NumText.step_digit (of_decide_eq_true h.1)]
      show r.foldlM (step 10) (ds.push (c - 48), true) = _
      rw [fold_ok r true _ h.2, List.filter_cons_of_pos (by simpa using hc)]
      rfl
theorem fold_bad : ∀ (l : List Nat) (b : Bool) (ds : Array Nat), (∀ c ∈ l, Cls c) → okU b l = false → ((l.foldlM (step 10) (ds, b)).bind fun p => if p.2 then some p.1 else none) = none
  | [], b, ds, _, h => by have h' : b = false := h; rw [h']; rfl
  | c :: r, b, ds, hl, h => by
    unfold okU at h
    rw [List.foldlM_cons]
    by_cases hc : c = 95
    · rw [if_pos hc] at h
      rw [hc, step_us]
      cases b with
      | false => rfl
      | true =>
        rw [if_pos rfl]
        rw [Bool.true_and] at h
        show ((r.foldlM (step 10) (ds, false)).bind _) = none
        exact fold_bad r false ds (fun d hd => hl d (.tail _ hd)) h
    · rw [if_neg hc] at h
      cases hd : isD c with
      | false => rw [step_bad (hl c (.head _)) hc hd]; rfl
      | true =>
        rw [hd, Bool.true_and] at h
        rw [NumText.step_digit (of_decide_eq_true hd)]
        show ((r.foldlM (step 10) (ds.push (c - 48), true)).bind _) = none
        exact fold_bad r true _ (fun d hd => hl d (.tail _ hd)) h
theorem digits_okU {l : List Nat} (hl : ∀ c ∈ l, Cls c) : digits? 10 l = if okU false l then some ((l.filter (· != 95)).foldl (fun acc c => acc.push (c - 48)) #[]) else none := by
  unfold digits?
  cases h : okU false l with
  | true => rw [fold_ok l false #[] h]; rfl
  | false => rw [fold_bad l false #[] hl h]; rfl
/-- blanks struck at both ends -/
def stripL (l : List Nat) : List Nat := ((l.dropWhile blank).reverse.dropWhile blank).reverse
theorem strip_at {p t q : List Nat} (hp : ∀ c ∈ p, blank c = true) (hq : ∀ c ∈ q, blank c = true) (hh : ∀ c, t.head? = some c → blank c = false) (hl : ∀ c, t.getLast? = some c → blank c = false) : stripL (p ++ t ++ q) = t := by
  have dw : ∀ (a b : List Nat), (∀ c ∈ a, blank c = true) → (a ++ b).dropWhile blank = b.dropWhile blank := by
    intro a b h
    induction a with
    | nil => rfl
    | cons c a ih => rw [List.cons_append, List.dropWhile_cons, if_pos (h c (.head _)), ih fun d hd => h d (.tail _ hd)]
  have dn : ∀ (a : List Nat), (∀ c, a.head? = some c → blank c = false) → a.dropWhile blank = a := by
    intro a h
    cases a with
    | nil => rfl
    | cons c a => rw [List.dropWhile_cons, if_neg (by rw [h c rfl]; exact Bool.false_ne_true)]
  unfold stripL
  rw [List.append_assoc, dw p _ hp]
  cases t with
  | nil =>
    have : q.dropWhile blank = [] := by have := dw q [] hq; rw [List.append_nil] at this; exact this
    rw [List.nil_append, this]; rfl
  | cons c t =>
    rw [dn ((c :: t) ++ q) (fun d hd => hh d hd), List.reverse_append, dw _ _ (fun d hd => hq d (List.mem_reverse.mp hd)), dn _ (fun d hd => hl d (by rwa [List.head?_reverse] at hd)), List.reverse_reverse]
theorem strip_cut (l : List Nat) : ∃ p q, l = p ++ stripL l ++ q ∧ (∀ c ∈ p, blank c = true) ∧ (∀ c ∈ q, blank c = true) ∧ (∀ c, (stripL l).head? = some c → blank c = false) ∧ (∀ c, (stripL l).getLast? = some c → blank c = false) := by
  have tw : ∀ a : List Nat, ∀ c ∈ a.takeWhile blank, blank c = true := fun a c hc => List.all_eq_true.mp (List.all_takeWhile (l := a) (p := blank)) c hc
  have hd : ∀ (a : List Nat) c, (a.dropWhile blank).head? = some c → blank c = false := by
    intro a c h
    have := List.head?_dropWhile_not blank a
    rw [h] at this
    simpa using this
  refine ⟨l.takeWhile blank, ((l.dropWhile blank).reverse.takeWhile blank).reverse, ?_, tw l, fun c hc => tw _ c (List.mem_reverse.mp hc), ?_, ?_⟩
  · unfold stripL
    rw [List.append_assoc, ← List.reverse_append, List.takeWhile_append_dropWhile, List.reverse_reverse, List.takeWhile_append_dropWhile]
  · intro c hc
    have h1 : l.dropWhile blank = stripL l ++ ((l.dropWhile blank).reverse.takeWhile blank).reverse := by
      unfold stripL
      rw [← List.reverse_append, List.takeWhile_append_dropWhile, List.reverse_reverse]
    refine hd l c ?_
    rw [h1]
    cases hs : stripL l with
    | nil => rw [hs] at hc; cases hc
    | cons d r => rw [hs] at hc; exact hc
  · intro c hc
    unfold stripL at hc
    rw [List.getLast?_reverse] at hc
    exact hd _ c hc
end Mine
end

section
open PySem PySem.W PyProof.Rows PySem.Calls
set_option maxRecDepth 100000
namespace Mine
open MB KR RX
open NumText (AllDigits digitsVal blank digits? step sign core worth)
def rs (d : List Nat) : List Nat := (d.reverse.dropWhile blank).reverse
theorem dw_snoc {c : Nat} (h : blank c = false) : ∀ a : List Nat, (a ++ [c]).dropWhile blank = a.dropWhile blank ++ [c]
  | [] => by show [c].dropWhile blank = [c]; rw [List.dropWhile_cons, if_neg (by rw [h]; exact Bool.false_ne_true)]
  | d :: a => by
    rw [List.cons_append, List.dropWhile_cons, List.dropWhile_cons]
    split
    · exact dw_snoc h a
    · rfl
theorem rs_cons {c : Nat} (h : blank c = false) (r : List Nat) : rs (c :: r) = c :: rs r := by
  unfold rs
  rw [List.reverse_cons, dw_snoc h, List.reverse_append]; rfl
theorem sign_rs (d : List Nat) (hd : ∀ c, d.head? = some c → blank c = false) : sign (rs d) = ((sign d).1, rs (sign d).2) := by
  cases d with
  | nil => rfl
  | cons c r =>
    have hc := hd c rfl
    rw [rs_cons hc]
    by_cases h1 : c = 45
    · subst h1; rfl
    · by_cases h2 : c = 43
      · subst h2; rfl
      · rw [NumText.sign_of h1 h2, NumText.sign_of h1 h2, rs_cons hc]
theorem dw_head (l : List Nat) : ∀ c, (l.dropWhile blank).head? = some c → blank c = false := by
  intro c h
  have := List.head?_dropWhile_not blank l
  rw [h] at this
  simpa using this
theorem core_eq (l : List Nat) : core l = (sign (stripL l)).2 := by
  have := sign_rs (l.dropWhile blank) (dw_head l)
  unfold stripL core
  show rs (sign (l.dropWhile blank)).2 = (sign (rs (l.dropWhile blank))).2
  rw [this]
theorem neg_eq (l : List Nat) : (sign (l.dropWhile blank)).1 = (sign (stripL l)).1 := by
  have := sign_rs (l.dropWhile blank) (dw_head l)
  unfold stripL
  show _ = (sign (rs (l.dropWhile blank))).1
  rw [this]
theorem strip_sub (l : List Nat) : ∀ c ∈ stripL l, c ∈ l := by
  intro c hc
  obtain ⟨p, q, e, _⟩ := strip_cut l
  rw [e]
  exact List.mem_append_left _ (List.mem_append_right _ hc)
theorem sign_sub (l : List Nat) : ∀ c ∈ (sign l).2, c ∈ l := by
  intro c hc
  unfold sign at hc
  split at hc
  · exact .tail _ hc
  · exact .tail _ hc
  · exact hc
theorem plain_of {x : Str} (h : ClsT x) : Plain x := fun c hc => by
  have := h c hc
  unfold Cls at this
  omega
/-- the digits that are read -/
def figA (l : List Nat) : List Nat := (sign (stripL l)).2.filter (· != 95)
def okL (l : List Nat) : Bool := okU false (sign (stripL l)).2
theorem strip_len' (l : List Nat) : (stripL l).length ≤ l.length := by
  obtain ⟨p, q, e, _⟩ := strip_cut l
  have := congrArg List.length e
  rw [List.length_append, List.length_append] at this
  omega
theorem sign_len' (l : List Nat) : (sign l).2.length ≤ l.length := by
  unfold sign
  split <;> simp
theorem figA_len (l : List Nat) : (figA l).length ≤ l.length := by
  unfold figA
  exact Nat.le_trans (List.length_filter_le _ _) (Nat.le_trans (sign_len' _) (strip_len' l))
theorem int_of {x : Str} (h : ClsT x) (hl : x.length ≤ 4300) : PySem.intText? x = if okL (LL x) then some (worth (sign (stripL (LL x))).1 ((figA (LL x)).foldl (fun acc c => acc.push (c - 48)) #[])) else none := by
  have hp := plain_of h
  unfold PySem.intText?
  rw [if_pos (seen_all hp), hp.seen]
  show (match digits? 10 (core (LL x)) with | some ds => if ds.size ≤ 4300 then some (worth (sign ((LL x).dropWhile blank)).1 ds) else none | none => none) = _
  rw [core_eq, digits_okU (l := (sign (stripL (LL x))).2) (fun c hc => h c (strip_sub _ c (sign_sub _ c hc))), neg_eq]
  have hf := figA_len (LL x)
  have hx := len_LL x
  show (match (if okL (LL x) = true then some ((figA (LL x)).foldl (fun acc c => acc.push (c - 48)) #[]) else none) with | some ds => if ds.size ≤ 4300 then some (worth (sign (stripL (LL x))).1 ds) else none | none => none) = _
  cases okL (LL x) with
  | false => rfl
  | true =>
    show (if _ ≤ 4300 then _ else _) = _
    rw [if_pos (by rw [NumText.push_size]; simp only [Array.size_empty]; omega)]
    rfl
theorem fig_val (l : List Nat) : (l.foldl (fun acc c => acc.push (c - 48)) (#[] : Array Nat)).foldl (fun acc d => acc * 10 + d) 0 = digitsVal l := by
  rw [NumText.push_foldl]; rfl
theorem okU_digits : ∀ (l : List Nat) (b : Bool), okU b l = true → AllDigits (l.filter (· != 95))
  | [], _, _ => fun c hc => nomatch hc
  | c :: r, b, h => by
    unfold okU at h
    by_cases hc : c = 95
    · rw [if_pos hc, Bool.and_eq_true] at h
      rw [List.filter_cons_of_neg (by simpa using hc)]
      exact okU_digits r false h.2
    · rw [if_neg hc, Bool.and_eq_true] at h
      rw [List.filter_cons_of_pos (by simpa using hc)]
      intro d hd
      rcases List.mem_cons.mp hd with rfl | hd
      · exact of_decide_eq_true h.1
      · exact okU_digits r true h.2 d hd
theorem okU_ne : ∀ (l : List Nat), okU false l = true → l.filter (· != 95) ≠ []
  | [], h => by cases h
  | c :: r, h => by
    unfold okU at h
    by_cases hc : c = 95
    · rw [if_pos hc] at h; cases h
    · rw [List.filter_cons_of_pos (by simpa using hc)]; simp
theorem val_zero (l : List Nat) : digitsVal (48 :: l) = digitsVal l := rfl
theorem val_drop : ∀ l : List Nat, digitsVal (l.dropWhile (· == 48)) = digitsVal l
  | [] => rfl
  | c :: r => by
    rw [List.dropWhile_cons]
    by_cases hc : c = 48
    · rw [if_pos (by simpa using hc), val_drop r, hc, val_zero]
    · rw [if_neg (by simpa using hc)]
theorem val_snoc (l : List Nat) (c : Nat) : digitsVal (l ++ [c]) = digitsVal l * 10 + (c - 48) := by
  unfold digitsVal; rw [List.foldl_append]; rfl
theorem val_pos : ∀ l : List Nat, AllDigits l → l ≠ [] → l.head? ≠ some 48 → 0 < digitsVal l := by
  intro l
  have gen : ∀ (r : List Nat) (a : Nat), 0 < a → 0 < r.foldl (fun acc c => acc * 10 + (c - 48)) a := by
    intro r
    induction r with
    | nil => intro a h; exact h
    | cons c r ih => intro a h; exact ih (a * 10 + (c - 48)) (by omega)
  intro h h1 h2
  cases l with
  | nil => exact absurd rfl h1
  | cons c r =>
    have hc := h c (.head _)
    have : c ≠ 48 := fun e => h2 (by rw [e]; rfl)
    exact gen r (0 * 10 + (c - 48)) (by omega)
/-- figures without a zero ahead are the text of what they are worth -/
theorem digits_back (l : List Nat) : AllDigits l → l ≠ [] → l.head? ≠ some 48 → (Nat.toDigits 10 (digitsVal l)).map Char.toNat = l := by
  have hch : ∀ c, 48 ≤ c ∧ c ≤ 57 → (Nat.digitChar (c - 48)).toNat = c := by
    intro c hc
    have : c = 48 ∨ c = 49 ∨ c = 50 ∨ c = 51 ∨ c = 52 ∨ c = 53 ∨ c = 54 ∨ c = 55 ∨ c = 56 ∨ c = 57 := by omega
    rcases this with rfl | rfl | rfl | rfl | rfl | rfl | rfl | rfl | rfl | rfl <;> rfl
  induction h : l.length generalizing l with
  | zero => intro _ h1; exact absurd (List.length_eq_zero_iff.mp h) h1
  | succ n ih =>
    intro hd h1 h2
    obtain ⟨i, c, rfl⟩ : ∃ i c, l = i ++ [c] := ⟨l.dropLast, l.getLast h1, (List.dropLast_concat_getLast h1).symm⟩
    have hc := hd c (by simp)
    rw [val_snoc]
    cases i with
    | nil =>
      show (Nat.toDigits 10 (0 * 10 + (c - 48))).map Char.toNat = [c]
      rw [Nat.toDigits_of_lt_base (by omega), Nat.zero_mul, Nat.zero_add]
      show [(Nat.digitChar (c - 48)).toNat] = [c]
      rw [hch c hc]
    | cons d r =>
      have hdi : AllDigits (d :: r) := fun x hx => hd x (List.mem_append_left _ hx)
      have hi := ih (d :: r) (by simp at h ⊢; omega) hdi (by simp) h2
      have hp := val_pos (d :: r) hdi (by simp) h2
      have t : Nat.toDigits 10 (digitsVal (d :: r)) ++ Nat.toDigits 10 (c - 48) = Nat.toDigits 10 (10 * digitsVal (d :: r) + (c - 48)) := Nat.toDigits_append_toDigits (by decide) hp (by omega)
      rw [Nat.mul_comm, ← t, List.map_append, hi, Nat.toDigits_of_lt_base (by omega)]
      show _ ++ [(Nat.digitChar (c - 48)).toNat] = _
      rw [hch c hc]
def figL (l : List Nat) : List Nat := (figA l).dropWhile (· == 48)
def numL (l : List Nat) : List Nat := if okL l then (if figL l = [] then [48] else (if (sign (stripL l)).1 then [45] else []) ++ figL l) else []
theorem figL_head (l : List Nat) : (figL l).head? ≠ some 48 := by
  intro h
  have := List.head?_dropWhile_not (· == 48) (figA l)
  unfold figL at h
  rw [h] at this
  simp at this
theorem figL_digits {l : List Nat} (h : okL l = true) : AllDigits (figL l) := fun c hc => okU_digits _ _ h c (List.dropWhile_sublist _ |>.mem hc)
theorem text_neg (m : Nat) (h : 0 < m) : LL (Str.ofString (toString (-(m : Int)))) = 45 :: (Nat.toDigits 10 m).map Char.toNat := by
  obtain ⟨k, rfl⟩ : ∃ k, m = k + 1 := ⟨m - 1, by omega⟩
  show LL (Str.ofString (toString (Int.negSucc k))) = _
  unfold LL
  rw [signs_ofString]
  show (Int.repr (Int.negSucc k)).toList.map Char.toNat = _
  show (("-" ++ Nat.repr (k + 1)) : String).toList.map Char.toNat = _
  rw [String.toList_append, List.map_append, Nat.toList_repr]
  rfl
theorem text_pos (m : Nat) : LL (Str.ofString (toString (m : Int))) = (Nat.toDigits 10 m).map Char.toNat := KIN.signs_num m
/-- F4: what int() reads and str() says again -/
theorem canon_LL {x : Str} (h : ClsT x) (hl : x.length ≤ 4300) (hk : okL (LL x) = true) : LL (canonT x) = numL (LL x) := by
  unfold canonT
  rw [int_of h hl, if_pos hk]
  show LL (Str.ofString (toString (worth _ _))) = _
  unfold worth
  rw [fig_val]
  have hv : digitsVal (figA (LL x)) = digitsVal (figL (LL x)) := (val_drop _).symm
  rw [hv]
  unfold numL
  rw [if_pos hk]
  by_cases hf : figL (LL x) = []
  · rw [if_pos hf, hf]
    cases (sign (stripL (LL x))).1 <;> decide +kernel
  · rw [if_neg hf]
    have hd := digits_back _ (figL_digits hk) hf (figL_head _)
    have hp := val_pos _ (figL_digits hk) hf (figL_head _)
    cases (sign (stripL (LL x))).1 with
    | true =>
      rw [if_pos rfl, if_pos rfl, text_neg _ hp, hd]; rfl
    | false =>
      rw [if_neg Bool.false_ne_true, if_neg Bool.false_ne_true, text_pos, hd]; rfl
theorem isNum_eq {x : Str} (h : ClsT x) (hl : x.length ≤ 4300) : isNum x = okL (LL x) := by
  unfold isNum
  rw [int_of h hl]
  cases okL (LL x) <;> rfl
end Mine
end

section
open PySem PySem.W PyProof.Rows PySem.Calls
set_option maxRecDepth 100000
namespace Mine
open MB KR RX
open NumText (AllDigits digitsVal blank digits? step sign core worth)
theorem dw_congr {g g' : Nat → Bool} : ∀ {l : List Nat}, (∀ c ∈ l, g c = g' c) → l.dropWhile g = l.dropWhile g'
  | [], _ => rfl
  | c :: r, h => by
    rw [List.dropWhile_cons, List.dropWhile_cons, h c (.head _), dw_congr fun d hd => h d (.tail _ hd)]
theorem drop_tw (g : Nat → Bool) : ∀ l : List Nat, l.drop (l.takeWhile g).length = l.dropWhile g
  | [] => rfl
  | c :: r => by
    rw [List.takeWhile_cons, List.dropWhile_cons]
    split
    · exact drop_tw g r
    · rfl
theorem take_rw (g : Nat → Bool) (l : List Nat) : l.take (l.length - (l.reverse.takeWhile g).length) = (l.reverse.dropWhile g).reverse := by
  have h : l = (l.reverse.dropWhile g).reverse ++ (l.reverse.takeWhile g).reverse := by
    rw [← List.reverse_append, List.takeWhile_append_dropWhile, List.reverse_reverse]
  have hl := congrArg List.length h
  rw [List.length_append, List.length_reverse, List.length_reverse] at hl
  have e : l.length - (l.reverse.takeWhile g).length = ((l.reverse.dropWhile g).reverse).length := by rw [List.length_reverse]; omega
  rw [e]
  conv => lhs; rw [h]
  simp
theorem space_cls {c : Nat} (h : Cls c) : Unicode.isSpace c = blank c := by
  unfold Cls at h
  have : c = 10 ∨ c = 13 ∨ c = 32 ∨ c = 43 ∨ c = 45 ∨ c = 95 ∨ c = 120 ∨ c = 48 ∨ c = 49 ∨ c = 50 ∨ c = 51 ∨ c = 52 ∨ c = 53 ∨ c = 54 ∨ c = 55 ∨ c = 56 ∨ c = 57 := by omega
  rcases this with rfl | rfl | rfl | rfl | rfl | rfl | rfl | rfl | rfl | rfl | rfl | rfl | rfl | rfl | rfl | rfl | rfl <;> decide +kernel
theorem strip_LL {x : Str} (h : ClsT x) : LL (Txt.strip x) = stripL (LL x) := by
  unfold Txt.strip
  rw [PyProof.Rows.stripBy_eq]
  unfold stripLo stripHi
  rw [if_pos rfl, if_pos rfl]
  unfold LL
  rw [StrLaws.strSub_toList]
  have hl := len_LL x
  unfold LL at hl
  rw [drop_tw]
  have e : x.cps.toList.dropWhile Unicode.isSpace = x.cps.toList.dropWhile blank := dw_congr fun c hc => space_cls (h c hc)
  rw [e]
  have e2 : (x.cps.toList.takeWhile Unicode.isSpace).length = x.cps.toList.length - (x.cps.toList.dropWhile blank).length := by
    rw [← e]
    have := congrArg List.length (List.takeWhile_append_dropWhile (p := Unicode.isSpace) (l := x.cps.toList))
    rw [List.length_append] at this
    omega
  have e3 : (x.cps.toList.dropWhile blank).length ≤ x.cps.toList.length := (List.dropWhile_sublist _).length_le
  rw [e2, hl]
  generalize hd : x.cps.toList.dropWhile blank = d at e3 ⊢
  have hdm : ∀ c ∈ d.reverse, Unicode.isSpace c = blank c := fun c hc => space_cls (h c (by
    rw [← hd] at hc
    exact (List.dropWhile_sublist _).mem (List.mem_reverse.mp hc)))
  have e4 : x.cps.toList.length - (d.reverse.takeWhile Unicode.isSpace).length - (x.cps.toList.length - d.length) = d.length - (d.reverse.takeWhile Unicode.isSpace).length := by
    omega
  rw [e4, take_rw, dw_congr hdm]
  unfold stripL
  rw [hd]
theorem lstrip_LL (x : Str) : LL (Txt.lstripChars x (Str.ofString "0")) = (LL x).dropWhile (· == 48) := by
  unfold Txt.lstripChars
  rw [PyProof.Rows.stripBy_eq]
  unfold stripLo stripHi
  rw [if_pos rfl, if_neg Bool.false_ne_true]
  unfold LL
  rw [StrLaws.strSub_toList, drop_tw]
  have hg : (Str.ofString "0").cps.contains = fun c => c == 48 := by
    rw [show Str.ofString "0" = ⟨#[48]⟩ by decide +kernel]
    funext c
    simp [Array.contains]
  rw [hg]
  refine List.take_of_length_le ?_
  have hl := len_LL x
  unfold LL at hl
  have := congrArg List.length (List.takeWhile_append_dropWhile (p := fun c => c == 48) (l := x.cps.toList))
  rw [List.length_append] at this
  omega
theorem us_lit : Str.ofString "_" = ⟨#[95]⟩ := by decide +kernel
theorem minus_lit : Str.ofString "-" = ⟨#[45]⟩ := by decide +kernel
theorem plus_lit : Str.ofString "+" = ⟨#[43]⟩ := by decide +kernel
theorem sign_take (t : List Nat) : (t.head? == some 45 || t.head? == some 43) = true → (sign t).2 = t.drop 1 := by
  intro h
  cases t with
  | nil => rfl
  | cons c r =>
    by_cases h1 : c = 45
    · subst h1; rfl
    · by_cases h2 : c = 43
      · subst h2; rfl
      · simp [h1, h2] at h
theorem sign_keep (t : List Nat) : (t.head? == some 45 || t.head? == some 43) = false → sign t = (false, t) := by
  intro h
  cases t with
  | nil => rfl
  | cons c r => 
    simp at h
    exact NumText.sign_of h.1 h.2
theorem signed_eq {x : Str} (h : ClsT x) : signedP x = ((stripL (LL x)).head? == some 45 || (stripL (LL x)).head? == some 43) := by
  unfold signedP hd1
  rw [minus_lit, plus_lit, to1_eq, to1_eq, strip_LL h]
theorem inner_LL {x : Str} (h : ClsT x) : LL (innerP x) = (sign (stripL (LL x))).2 := by
  unfold innerP
  rw [signed_eq h]
  cases hs : ((stripL (LL x)).head? == some 45 || (stripL (LL x)).head? == some 43) with
  | true => rw [if_pos rfl, LL_from1, strip_LL h, sign_take _ hs]
  | false => rw [if_neg Bool.false_ne_true, strip_LL h, sign_keep _ hs]
theorem sign_LL {x : Str} (h : ClsT x) : LL (signP x) = if (sign (stripL (LL x))).1 then [45] else [] := by
  unfold signP
  rw [signed_eq h]
  cases hs : ((stripL (LL x)).head? == some 45 || (stripL (LL x)).head? == some 43) with
  | true =>
    rw [if_pos rfl, plus_lit, nil_lit]
    show (Txt.replace (hd1 x) ⟨#[43]⟩ ⟨#[]⟩).cps.toList = _
    rw [replace_strikes]
    show (LL (hd1 x)).filter _ = _
    unfold hd1
    rw [LL_to1, strip_LL h]
    cases ht : stripL (LL x) with
    | nil => rfl
    | cons c r =>
      rw [ht] at hs
      have : c = 45 ∨ c = 43 := by simpa using hs
      rcases this with rfl | rfl <;> rfl
  | false => rw [if_neg Bool.false_ne_true, sign_keep _ hs, if_neg Bool.false_ne_true, LL_nil]
def dbl : List Nat → Bool
  | a :: b :: r => (a == 95 && b == 95) || dbl (b :: r)
  | _ => false
theorem dbl_iff : ∀ l : List Nat, dbl l = true ↔ ∃ i, ((l.drop i).take 2 == [95, 95]) = true
  | [] => by simp [dbl]
  | [a] => by
    constructor
    · intro h; cases h
    · rintro ⟨i, h⟩
      have := congrArg List.length (beq_iff_eq.mp h)
      simp at this
      omega
  | a :: b :: r => by
    have ih := dbl_iff (b :: r)
    unfold dbl
    rw [Bool.or_eq_true, ih]
    constructor
    · rintro (h | ⟨i, h⟩)
      · exact ⟨0, by simpa using h⟩
      · exact ⟨i + 1, h⟩
    · rintro ⟨i, h⟩
      cases i with
      | zero => exact .inl (by simpa using h)
      | succ i => exact .inr ⟨i, h⟩
theorem dbl_found (y : Str) : (!(Builtin.Str.occurrences y (Str.ofString "__") 0 y.length 1).isEmpty) = dbl (LL y) := by
  have hlit : Str.ofString "__" = ⟨#[95, 95]⟩ := by decide +kernel
  rw [Bool.eq_iff_iff, StrLaws.found_iff, dbl_iff, hlit]
  constructor
  · rintro ⟨i, _, h⟩
    rw [StrLaws.subAt_eq] at h
    exact ⟨i, h⟩
  · rintro ⟨i, h⟩
    refine ⟨i, ?_, by rw [StrLaws.subAt_eq]; exact h⟩
    have := congrArg List.length (beq_iff_eq.mp h)
    have hl := len_LL y
    simp at this
    show i + 2 ≤ _
    omega
theorem okU_iff : ∀ (l : List Nat) (b : Bool), okU b l = true ↔ (l = [] ∧ b = true) ∨ (l ≠ [] ∧ (b = true ∨ l.head? ≠ some 95) ∧ dbl l = false ∧ l.getLast? ≠ some 95 ∧ ∀ c ∈ l, isD c = true ∨ c = 95)
  | [], b => by simp [okU]
  | [c], b => by
    unfold okU okU
    by_cases hc : c = 95
    · subst hc; simp [isD]
    · rw [if_neg hc]; simp [hc, dbl]
  | c :: d :: r, b => by
    have ihf := okU_iff (d :: r) false
    have iht := okU_iff (d :: r) true
    rw [okU]
    have hd : dbl (c :: d :: r) = ((c == 95 && d == 95) || dbl (d :: r)) := rfl
    by_cases hc : c = 95
    · rw [if_pos hc, Bool.and_eq_true, ihf, hd]
      subst hc
      simp [List.getLast?_cons_cons]
      intro _
      exact ⟨fun ⟨h1, h2, h3, h4⟩ => ⟨⟨h1, h2⟩, h3, h4⟩, fun ⟨⟨h1, h2⟩, h3, h4⟩ => ⟨h1, h2, h3, h4⟩⟩
    · rw [if_neg hc, Bool.and_eq_true, iht, hd]
      simp [hc, List.getLast?_cons_cons]
      constructor
      · rintro ⟨h0, h2, h3, h4⟩
        exact ⟨h2, h3, h0, h4⟩
      · rintro ⟨h2, h3, h0, h4⟩
        exact ⟨h0, h2, h3, h4⟩
theorem bad_sign (c : Nat) : badSign ⟨#[c]⟩ = !(isD c || c == 95) := by
  unfold badSign
  have h := StrLaws.found_one (Str.ofString "0123456789_") c
  rw [h]
  rw [show (Str.ofString "0123456789_").cps.toList = [48, 49, 50, 51, 52, 53, 54, 55, 56, 57, 95] by decide +kernel]
  congr 1
  unfold isD
  rw [Bool.eq_iff_iff]
  simp
  omega
theorem bad_all (y : Str) : (signs y).any badSign = false ↔ ∀ c ∈ LL y, isD c = true ∨ c = 95 := by
  rw [List.any_eq_false]
  unfold signs
  constructor
  · intro h c hc
    have := h ⟨#[c]⟩ (List.mem_map.mpr ⟨c, hc, rfl⟩)
    rw [bad_sign] at this
    cases hd : isD c with
    | true => exact .inl rfl
    | false => rw [hd] at this; exact .inr (by simpa using this)
  · intro h a ha
    obtain ⟨c, hc, rfl⟩ := List.mem_map.mp ha
    rw [bad_sign]
    rcases h c hc with hd | hd
    · rw [hd]; simp
    · rw [hd]; simp
theorem odd_eq (y : Str) : (oddT y || (signs y).any badSign) = !okU false (LL y) := by
  rw [Bool.eq_iff_iff, Bool.not_eq_true', Bool.eq_false_iff, Ne, okU_iff, Bool.or_eq_true]
  have e1 : oddT y = (y == Str.ofString "" || dbl (LL y) || (LL y).head? == some 95 || (LL y).getLast? == some 95) := by
    unfold oddT
    rw [dbl_found, us_lit, to1_eq, last1_eq]
  have e2 : (signs y).any badSign = true ↔ ¬ ∀ c ∈ LL y, isD c = true ∨ c = 95 := by
    rw [← bad_all]; simp
  rw [e1, e2]
  have e3 : (y == Str.ofString "") = true ↔ LL y = [] := by rw [beq_iff_eq, LL_eq_nil]
  simp only [Bool.or_eq_true, e3, beq_iff_eq]
  generalize LL y = l
  by_cases h0 : l = []
  · subst h0; simp
  · cases hd : dbl l with
    | true => simp [h0]
    | false =>
      by_cases h1 : l.head? = some 95
      · simp [h0, h1]
      · by_cases h2 : l.getLast? = some 95
        · simp [h0, h1, h2]
        · simp [h0, h1, h2]
/-- F4: what the law reckons -/
theorem numP_LL {x : Str} (h : ClsT x) : LL (numP x) = numL (LL x) := by
  unfold numP numT numL
  rw [odd_eq, inner_LL h]
  show _ = if okU false (sign (stripL (LL x))).2 = true then _ else _
  cases hk : okU false (sign (stripL (LL x))).2 with
  | false => rw [if_pos (show (!false) = true from rfl), if_neg Bool.false_ne_true, LL_nil]
  | true =>
    rw [if_neg (show ¬ (!true) = true by decide), if_pos rfl]
    have hf : LL (figT (innerP x)) = figL (LL x) := by
      unfold figT figL figA
      rw [lstrip_LL, us_lit, nil_lit]
      show List.dropWhile _ (Txt.replace (innerP x) ⟨#[95]⟩ ⟨#[]⟩).cps.toList = _
      rw [replace_strikes]
      show List.dropWhile _ ((LL (innerP x)).filter _) = _
      rw [inner_LL h]
    have e : (figT (innerP x) == Str.ofString "") = true ↔ figL (LL x) = [] := by rw [beq_iff_eq, ← LL_eq_nil, hf]
    by_cases hz : figL (LL x) = []
    · rw [if_pos (e.mpr hz), if_pos hz]
      decide +kernel
    · rw [if_neg (fun q => hz (e.mp q)), if_neg hz, LL_app, sign_LL h, hf]
end Mine
end

section
open PySem PySem.W PyProof.Rows PySem.Calls
set_option maxRecDepth 100000
namespace Mine
open MB KR RX
open NumText (AllDigits digitsVal blank digits? step sign core worth)
def numB (y : Str) : Bool := numP y != Str.ofString ""
theorem numL_ne {l : List Nat} (h : okL l = true) : numL l ≠ [] := by
  unfold numL
  rw [if_pos h]
  split
  · simp
  · rename_i hf
    intro e
    exact hf (List.append_eq_nil_iff.mp e).2
theorem numL_no {l : List Nat} (h : okL l = false) : numL l = [] := by
  unfold numL
  rw [if_neg (by rw [h]; exact Bool.false_ne_true)]
theorem numB_ok {y : Str} (h : ClsT y) : numB y = okL (LL y) := by
  unfold numB
  rw [Bool.eq_iff_iff, bne_iff_ne, Ne, ← LL_eq_nil, numP_LL h]
  cases hk : okL (LL y) with
  | true => exact ⟨fun _ => rfl, fun _ => numL_ne hk⟩
  | false => exact ⟨fun e => absurd (numL_no hk) e, fun e => by cases e⟩
theorem isNum_numB {y : Str} (h : ClsT y) (hl : y.length ≤ 4300) : isNum y = numB y := by rw [isNum_eq h hl, numB_ok h]
theorem canon_num {y : Str} (h : ClsT y) (hl : y.length ≤ 4300) (hk : numB y = true) : canonT y = numP y := by
  rw [numB_ok h] at hk
  exact ext_LL (by rw [canon_LL h hl hk, numP_LL h])
theorem blank_other {c : Nat} (h : blank c = false) : c ≠ 10 ∧ c ≠ 13 :=
  And.intro (by intro e; rw [e] at h; cases h) (by intro e; rw [e] at h; cases h)
theorem eol_app2 : ∀ (a b : List Nat), b.head? ≠ some 10 → eolL (a ++ b) = eolL a ++ eolL b := by
  intro a b hb
  induction a using eolL.induct with
  | case1 => rfl
  | case2 a ih =>
    show eolL (13 :: 10 :: (a ++ b)) = _
    rw [eolL_crlf, eolL_crlf, ih]; rfl
  | case3 c a h hc ih =>
    show eolL (c :: (a ++ b)) = eolL (c :: a) ++ _
    have e1 : eolL (c :: a) = 13 :: 10 :: eolL a := by
      rw [eolL]
      · rw [if_pos hc]
      · exact h
    have e2 : eolL (c :: (a ++ b)) = 13 :: 10 :: eolL (a ++ b) := by
      rw [eolL]
      · rw [if_pos hc]
      · intro r' hc' e
        cases a with
        | nil => exact hb (by rw [List.nil_append] at e; rw [e]; rfl)
        | cons d a => exact h a hc' (by rw [(List.cons.inj e).1])
    rw [e1, e2, ih]; rfl
  | case4 c a h hc ih =>
    show eolL (c :: (a ++ b)) = eolL (c :: a) ++ _
    rw [eolL_other (fun e => hc (.inl e)) (fun e => hc (.inr e)), eolL_other (fun e => hc (.inl e)) (fun e => hc (.inr e)), ih]; rfl
theorem eol_blank {l : List Nat} (h : ∀ c ∈ l, blank c = true) : ∀ c ∈ eolL l, blank c = true := by
  intro c hc
  rcases eolL_mem l c hc with h1 | h1 | h1
  · exact h c h1
  · rw [h1]; rfl
  · rw [h1]; rfl
theorem eol_head {c : Nat} {r : List Nat} (h : blank c = false) : eolL (c :: r) = c :: eolL r := eolL_other (blank_other h).2 (blank_other h).1
theorem eol_last {d : Nat} {i : List Nat} (h : blank d = false) : eolL (i ++ [d]) = eolL i ++ [d] := by
  rw [eol_app2 i [d] (fun e => (blank_other h).1 (Option.some.inj e)), eol_head h]; rfl
theorem strip_eol (l : List Nat) : stripL (eolL l) = eolL (stripL l) := by
  obtain ⟨p, q, e, hp, hq, hh, hl⟩ := strip_cut l
  generalize stripL l = t at e hh hl
  rcases List.eq_nil_or_concat t with rfl | ⟨i, d, rfl⟩
  · have hb : ∀ c ∈ eolL l, blank c = true := eol_blank fun c hc => by
      rw [e, List.append_nil] at hc
      rcases List.mem_append.mp hc with hc | hc
      · exact hp c hc
      · exact hq c hc
    have := strip_at (p := eolL l) (t := []) (q := []) hb (fun _ h => nomatch h) (fun _ h => nomatch h) (fun _ h => nomatch h)
    rw [List.append_nil, List.append_nil] at this
    exact this
  · rw [List.concat_eq_append] at *
    have hd : blank d = false := hl d (by simp)
    have e1 : eolL l = eolL p ++ eolL (i ++ [d]) ++ eolL q := by
      have h0 : (i ++ [d] ++ q).head? ≠ some 10 := by
        intro h
        cases i with
        | nil => exact (blank_other hd).1 (Option.some.inj h)
        | cons c r => exact (blank_other (hh c rfl)).1 (Option.some.inj h)
      rw [e, List.append_assoc, eol_app2 p _ h0, List.append_assoc i, eol_app2 i ([d] ++ q) (fun h => (blank_other hd).1 (Option.some.inj h)), eol_last hd]
      show _ ++ (_ ++ eolL (d :: q)) = _
      rw [eol_head hd]
      simp
    rw [e1]
    refine strip_at (eol_blank hp) (eol_blank hq) (fun c hc => ?_) (fun c hc => ?_)
    · cases i with
      | nil =>
        rw [List.nil_append, eol_head hd] at hc
        rw [← Option.some.inj hc]; exact hd
      | cons f r =>
        have hf := hh f rfl
        rw [List.cons_append, eol_head hf] at hc
        rw [← Option.some.inj hc]; exact hf
    · rw [eol_last hd, List.getLast?_append] at hc
      rw [← Option.some.inj hc]; exact hd
theorem sign_eol (t : List Nat) (hh : ∀ c, t.head? = some c → blank c = false) : sign (eolL t) = ((sign t).1, eolL (sign t).2) := by
  cases t with
  | nil => rfl
  | cons c r =>
    have hc := hh c rfl
    rw [eol_head hc]
    by_cases h1 : c = 45
    · subst h1; rfl
    · by_cases h2 : c = 43
      · subst h2; rfl
      · rw [NumText.sign_of h1 h2, NumText.sign_of h1 h2, eol_head hc]
theorem eol_has : ∀ (l : List Nat), (∃ c ∈ l, c = 10 ∨ c = 13) → 10 ∈ eolL l := by
  intro l
  induction l using eolL.induct with
  | case1 => rintro ⟨c, hc, _⟩; cases hc
  | case2 a ih => intro _; rw [eolL_crlf]; exact .tail _ (.head _)
  | case3 c a h hc ih =>
    intro _
    rw [eolL]
    · rw [if_pos hc]; exact .tail _ (.head _)
    · exact h
  | case4 c a h hc ih =>
    rintro ⟨d, hd, hd'⟩
    rw [eolL_other (fun e => hc (.inl e)) (fun e => hc (.inr e))]
    rcases List.mem_cons.mp hd with rfl | hd
    · exact absurd hd'.symm hc
    · exact .tail _ (ih ⟨d, hd, hd'⟩)
theorem okU_signs {l : List Nat} {b : Bool} (h : okU b l = true) : ∀ c ∈ l, c ≠ 10 ∧ c ≠ 13 := by
  rcases (okU_iff l b).mp h with ⟨rfl, _⟩ | ⟨_, _, _, _, ha⟩
  · intro c hc; cases hc
  · intro c hc
    rcases ha c hc with h1 | h1
    · have := of_decide_eq_true h1; omega
    · omega
theorem okU_eol (l : List Nat) : okU false (eolL l) = okU false l ∧ (okU false l = true → eolL l = l) := by
  by_cases h : ∃ c ∈ l, c = 10 ∨ c = 13
  · have h1 : okU false l = false := by
      cases e : okU false l with
      | false => rfl
      | true =>
        obtain ⟨c, hc, hc'⟩ := h
        have := okU_signs e c hc
        omega
    have h2 : okU false (eolL l) = false := by
      cases e : okU false (eolL l) with
      | false => rfl
      | true => exact absurd rfl (okU_signs e 10 (eol_has l h)).1
    exact ⟨by rw [h1, h2], fun e => by rw [h1] at e; cases e⟩
  · have h1 : eolL l = l := eolL_free fun c hc => ⟨fun e => h ⟨c, hc, .inl e⟩, fun e => h ⟨c, hc, .inr e⟩⟩
    rw [h1]
    exact ⟨rfl, fun _ => rfl⟩
theorem strip_heads (l : List Nat) : ∀ c, (stripL l).head? = some c → blank c = false := by
  obtain ⟨_, _, _, _, _, hh, _⟩ := strip_cut l
  exact hh
theorem numL_eol (l : List Nat) : numL (eolL l) = numL l := by
  have hs := sign_eol (stripL l) (strip_heads l)
  have hk := okU_eol (sign (stripL l)).2
  have e1 : okL (eolL l) = okL l := by unfold okL; rw [strip_eol, hs]; exact hk.1
  cases h : okL l with
  | false => rw [numL_no h, numL_no (by rw [e1, h])]
  | true =>
    have e2 : figL (eolL l) = figL l := by
      unfold figL figA
      rw [strip_eol, hs]
      show List.dropWhile _ (List.filter _ (eolL (sign (stripL l)).2)) = _
      rw [hk.2 h]
    unfold numL
    rw [e1, e2, strip_eol, hs]
/-- numbers stay -/
theorem digits_okU' : ∀ (l : List Nat) (b : Bool), AllDigits l → (l ≠ [] ∨ b = true) → okU b l = true
  | [], b, _, h => by
    rcases h with h | h
    · exact absurd rfl h
    · exact h
  | c :: r, b, h, _ => by
    have hc := h c (.head _)
    unfold okU
    rw [if_neg (by omega), digits_okU' r true (fun d hd => h d (.tail _ hd)) (.inr rfl), Bool.and_true]
    exact decide_eq_true hc
theorem digit_blank {c : Nat} (h : 48 ≤ c ∧ c ≤ 57) : blank c = false := NumText.blank_of (by omega)
theorem strip_same {l : List Nat} (hh : ∀ c, l.head? = some c → blank c = false) (hl : ∀ c, l.getLast? = some c → blank c = false) : stripL l = l := by
  have := strip_at (p := []) (t := l) (q := []) (fun _ h => nomatch h) (fun _ h => nomatch h) hh hl
  rw [List.nil_append, List.append_nil] at this
  exact this
theorem numL_idem {l : List Nat} (h : okL l = true) : numL (numL l) = numL l := by
  by_cases hf : figL l = []
  · have e : numL l = [48] := by unfold numL; rw [if_pos h, if_pos hf]
    rw [e]; decide +kernel
  · have hd := figL_digits h
    have hz := figL_head l
    have e : numL l = (if (sign (stripL l)).1 then [45] else []) ++ figL l := by unfold numL; rw [if_pos h, if_neg hf]
    rw [e]
    generalize (sign (stripL l)).1 = ng
    generalize figL l = f at *
    have hfl : ∀ c, f.getLast? = some c → blank c = false := fun c hc => digit_blank (hd c (List.mem_of_getLast? hc))
    have hfh : ∀ c, f.head? = some c → blank c = false := fun c hc => digit_blank (hd c (List.mem_of_head? hc))
    have h1 : stripL ((if ng then [45] else []) ++ f) = (if ng then [45] else []) ++ f := by
      refine strip_same (fun c hc => ?_) (fun c hc => ?_)
      · cases ng with
        | true => rw [← Option.some.inj hc]; rfl
        | false => exact hfh c hc
      · refine hfl c ?_
        rw [List.getLast?_append] at hc
        cases hg : f.getLast? with
        | none => exact absurd (List.getLast?_eq_none_iff.mp hg) hf
        | some d => rw [hg] at hc; exact hc
    have h2 : sign ((if ng then [45] else []) ++ f) = (ng, f) := by
      cases ng with
      | true => rfl
      | false =>
        show sign f = _
        cases f with
        | nil => rfl
        | cons c r =>
          have := hd c (.head _)
          exact NumText.sign_of (by omega) (by omega)
    have h3 : f.filter (· != 95) = f := List.filter_eq_self.mpr fun c hc => by
      have := hd c hc
      simp; omega
    have h4 : f.dropWhile (· == 48) = f := by
      cases f with
      | nil => rfl
      | cons c r => rw [List.dropWhile_cons, if_neg (fun q => hz (by rw [beq_iff_eq.mp q]; rfl))]
    have hk : okL ((if ng then [45] else []) ++ f) = true := by
      unfold okL
      rw [h1, h2]
      exact digits_okU' f false hd (.inl hf)
    have hfg : figL ((if ng then [45] else []) ++ f) = f := by
      unfold figL figA
      rw [h1, h2]
      show List.dropWhile _ (List.filter _ f) = f
      rw [h3, h4]
    unfold numL
    rw [if_pos hk, hfg, if_neg hf, h1, h2]
theorem numL_signs {l : List Nat} (h : okL l = true) : ∀ c ∈ numL l, c = 45 ∨ (48 ≤ c ∧ c ≤ 57) := by
  intro c hc
  unfold numL at hc
  rw [if_pos h] at hc
  split at hc
  · rw [List.mem_singleton.mp hc]; omega
  · rcases List.mem_append.mp hc with hc | hc
    · split at hc
      · exact .inl (List.mem_singleton.mp hc)
      · cases hc
    · exact .inr (figL_digits h c hc)
theorem numL_last {l : List Nat} : (numL l).getLast? ≠ some 10 := by
  cases h : okL l with
  | false => rw [numL_no h]; simp
  | true =>
    intro e
    have := numL_signs h 10 (List.mem_of_getLast? e)
    omega
theorem numL_len (l : List Nat) : (numL l).length ≤ l.length + 1 := by
  unfold numL
  split
  · split
    · simp
    · rw [List.length_append]
      have h1 : (figL l).length ≤ (figA l).length := (List.dropWhile_sublist _).length_le
      have h2 := figA_len l
      have h3 : (if (sign (stripL l)).1 = true then [45] else ([] : List Nat)).length ≤ 1 := by split <;> simp
      omega
  · simp
end Mine
end

section
open PySem PySem.W PyProof.Rows PySem.Calls
set_option maxRecDepth 100000
namespace Mine
open MB KR RX
theorem numP_cls {y : Str} (h : ClsT y) : ClsT (numP y) := by
  intro c hc
  have hc' : c ∈ numL (LL y) := by rw [← numP_LL h]; exact hc
  cases hk : okL (LL y) with
  | false => rw [numL_no hk] at hc'; cases hc'
  | true =>
    have := numL_signs hk c hc'
    unfold Cls; omega
theorem n_eol {y : Str} (h : ClsT y) : numP (eolP y) = numP y := ext_LL (by rw [numP_LL (eolP_cls h), numP_LL h, eolP_LL, numL_eol])
theorem numB_eol {y : Str} (h : ClsT y) : numB (eolP y) = numB y := by unfold numB; rw [n_eol h]
theorem n_idem {y : Str} (h : ClsT y) (hk : numB y = true) : numP (numP y) = numP y := by
  rw [numB_ok h] at hk
  exact ext_LL (by rw [numP_LL (numP_cls h), numP_LL h, numL_idem hk])
theorem numB_n {y : Str} (h : ClsT y) (hk : numB y = true) : numB (numP y) = true := by
  have := n_idem h hk
  unfold numB at *
  rw [this]; exact hk
theorem eol_n {y : Str} (h : ClsT y) : eolP (numP y) = numP y := by
  apply ext_LL
  rw [eolP_LL, numP_LL h]
  refine eolL_free fun c hc => ?_
  cases hk : okL (LL y) with
  | false => rw [numL_no hk] at hc; cases hc
  | true => have := numL_signs hk c hc; omega
theorem nl_n {y : Str} (h : ClsT y) : nlB (numP y) = false := by
  unfold nlB
  rw [numP_LL h, beq_eq_false_iff_ne]
  exact numL_last
theorem n_ne {y : Str} (hk : numB y = true) : (numP y == Str.ofString "") = false := by
  unfold numB at hk
  simpa [bne] using hk
theorem numB_nil : numB (Str.ofString "") = false := by decide +kernel
theorem nl_nil : nlB (Str.ofString "") = false := by decide +kernel
theorem ne_of_num {y : Str} (hk : numB y = true) : (y == Str.ofString "") = false := by
  rw [beq_eq_false_iff_ne]
  rintro rfl
  rw [numB_nil] at hk; cases hk
def NLB (B zs : List Str) : List Str := (if (zs ++ B).all numB then (zs ++ B).map numP else zs ++ B).take 3
def sS (sends : Bool) (zs : List Str) : List Str := if sends then sR true zs else zs
/-- the rest, plainly -/
def hitP (sends : Bool) (len : Nat) (known : Bool) (f : Str) (k : Nat) : Bool := sends && (nlB f || (k == 0 && f == Str.ofString "")) && (decide (k + 1 < len) || !known)
def kn (zs B : List Str) : Bool := zs.all numB && B.all numB
def BB (b : Str) : List Str := if b == Str.ofString "" then [] else [b]
theorem known_eq (zs : List Str) (b : Str) : knownZ zs b = kn zs (BB b) := by
  unfold knownZ kn BB
  have e1 : ∀ zs : List Str, (!((zs.map numP).any fun x => x == Str.ofString "")) = zs.all numB := by
    intro zs
    induction zs with
    | nil => rfl
    | cons z r ih =>
      rw [List.map_cons, List.any_cons, List.all_cons, ← ih, Bool.not_or]
      rfl
  rw [e1]
  congr 1
  cases (b == Str.ofString "") with
  | true => rfl
  | false => simp [numB]
theorem hit_eq (ys zs : List Str) (b : Str) (sends : Bool) (k : Nat) : hitZ ys zs b sends k = hitP sends ys.length (kn zs (BB b)) (zs.getD k Str.empty) k := by
  unfold hitZ hitP
  rw [begins_eq, known_eq]
def outK (zs B : List Str) : List Str := if kn zs B then zs.map numP else zs
theorem rest1 (ys : List Str) (b : Str) (sends : Bool) (x : Str) : restZ ys [x] b sends = outK [x] (BB b) := by
  rw [rest_none (fun j hj => absurd hj (by simp)), known_eq]; rfl
theorem rest2 (ys : List Str) (b : Str) (sends : Bool) (x y : Str) : restZ ys [x, y] b sends = if hitP sends ys.length (kn [x, y] (BB b)) x 0 then [x, Str.ofString "", Str.ofString ""] else outK [x, y] (BB b) := by
  cases h : hitP sends ys.length (kn [x, y] (BB b)) x 0 with
  | true =>
    rw [if_pos rfl, rest_hit (k := 0) (by simp) (fun j hj => absurd hj (Nat.not_lt_zero j)) (by rw [hit_eq]; exact h)]
    rfl
  | false =>
    rw [if_neg Bool.false_ne_true, rest_none (fun j hj => by
      have : j = 0 := by simp at hj; omega
      subst this
      rw [hit_eq]; exact h), known_eq]
    rfl
theorem rest3 (ys : List Str) (b : Str) (sends : Bool) (x y z : Str) : restZ ys [x, y, z] b sends = if hitP sends ys.length (kn [x, y, z] (BB b)) x 0 then [x, Str.ofString "", Str.ofString ""] else if hitP sends ys.length (kn [x, y, z] (BB b)) y 1 then [x, y, Str.ofString ""] else outK [x, y, z] (BB b) := by
  cases h : hitP sends ys.length (kn [x, y, z] (BB b)) x 0 with
  | true =>
    rw [if_pos rfl, rest_hit (k := 0) (by simp) (fun j hj => absurd hj (Nat.not_lt_zero j)) (by rw [hit_eq]; exact h)]
    rfl
  | false =>
    rw [if_neg Bool.false_ne_true]
    cases h1 : hitP sends ys.length (kn [x, y, z] (BB b)) y 1 with
    | true =>
      rw [if_pos rfl, rest_hit (k := 1) (by simp) (fun j hj => by
        have : j = 0 := by omega
        subst this
        rw [hit_eq]; exact h) (by rw [hit_eq]; exact h1)]
      rfl
    | false =>
      rw [if_neg Bool.false_ne_true, rest_none (fun j hj => by
        have : j = 0 ∨ j = 1 := by simp at hj; omega
        rcases this with rfl | rfl
        · rw [hit_eq]; exact h
        · rw [hit_eq]; exact h1), known_eq]
      rfl
end Mine
end

section
open PySem PySem.W PyProof.Rows PySem.Calls
set_option maxRecDepth 100000
namespace Mine
open MB KR RX
structure El (y : Str) : Prop where
  idem : numB y = true → numP (numP y) = numP y
  num : numB y = true → numB (numP y) = true
  nl : numB y = true → nlB (numP y) = false
  ne : numB y = true → (numP y == Str.ofString "") = false
theorem El.of {y : Str} (h : ClsT y) : El y := ⟨n_idem h, numB_n h, fun _ => nl_n h, n_ne⟩
theorem nlb3 (B : List Str) (x y z : Str) (t : List Str) : NLB B (x :: y :: z :: t) = if numB x && numB y && numB z && t.all numB && B.all numB then [numP x, numP y, numP z] else [x, y, z] := by
  unfold NLB
  have e : ((x :: y :: z :: t) ++ B).all numB = (numB x && numB y && numB z && t.all numB && B.all numB) := by
    simp [List.all_append, Bool.and_assoc]
  rw [e]
  split <;> rfl
theorem sR2 (f : Bool) (y z : Str) (r : List Str) : sR f (y :: z :: r) = if nlB y || (f && y == Str.ofString "") then y :: Str.ofString "" :: sR false (z :: r) else y :: sR false (z :: r) := rfl
theorem sR1 (f : Bool) (y : Str) : sR f [y] = [y] := rfl
theorem sR_cons (f : Bool) (y : Str) (r : List Str) : ∃ w, sR f (y :: r) = y :: w := by
  cases r with
  | nil => exact ⟨_, rfl⟩
  | cons z r => rw [sR2]; split <;> exact ⟨_, rfl⟩
def F3 (a c d : Str) (B : List Str) : List Str := if nlB a || a == Str.ofString "" then [a, Str.ofString "", Str.ofString ""] else if nlB c then [a, c, Str.ofString ""] else outK [a, c, d] B
theorem X3 {a c d : Str} {r B : List Str} (ha : El a) (hc : El c) (hd : El d) :
    NLB B (sR true (NLB B (sR true (a :: c :: d :: r)))) = F3 a c d B ∧ NLB B (sR true (F3 a c d B)) = F3 a c d B := by
  obtain ⟨w, hw⟩ := sR_cons false d r
  unfold F3
  by_cases h0 : (nlB a || a == Str.ofString "") = true
  · rw [if_pos h0]
    have h0' : (nlB a || (true && a == Str.ofString "")) = true := by rw [Bool.true_and]; exact h0
    obtain ⟨w2, hw2⟩ := sR_cons false c (d :: r)
    have e1 : NLB B (sR true (a :: c :: d :: r)) = [a, Str.ofString "", c] := by
      rw [sR2, if_pos h0', hw2, nlb3, numB_nil]; simp
    have e2 : NLB B (sR true [a, Str.ofString "", c]) = [a, Str.ofString "", Str.ofString ""] := by
      rw [sR2, if_pos h0', sR2, nl_nil, if_neg (by simp), nlb3, numB_nil]; simp
    have e3 : NLB B (sR true [a, Str.ofString "", Str.ofString ""]) = [a, Str.ofString "", Str.ofString ""] := by
      rw [sR2, if_pos h0', sR2, nl_nil, if_neg (by simp), nlb3, numB_nil]; simp
    rw [e1, e2]
    exact ⟨rfl, e3⟩
  · have h0' : ¬ (nlB a || (true && a == Str.ofString "")) = true := by rw [Bool.true_and]; exact h0
    rw [if_neg h0]
    by_cases h1 : nlB c = true
    · rw [if_pos h1]
      have e1 : NLB B (sR true (a :: c :: d :: r)) = [a, c, Str.ofString ""] := by
        rw [sR2, if_neg h0', sR2, h1, if_pos (by simp), hw, nlb3, numB_nil]; simp
      have e2 : NLB B (sR true [a, c, Str.ofString ""]) = [a, c, Str.ofString ""] := by
        rw [sR2, if_neg h0', sR2, h1, if_pos (by simp), sR1, nlb3, numB_nil]; simp
      rw [e1]
      exact ⟨e2, e2⟩
    · rw [if_neg h1]
      have h1' : ¬ (nlB c || (false && c == Str.ofString "")) = true := by rw [Bool.false_and, Bool.or_false]; exact h1
      have s0 : ∀ w, sR false (d :: r) = d :: w → sR true (a :: c :: d :: r) = a :: c :: d :: w := fun w hw => by rw [sR2, if_neg h0', sR2, if_neg h1', hw]
      have s1 : sR true [a, c, d] = [a, c, d] := by rw [sR2, if_neg h0', sR2, if_neg h1', sR1]
      unfold outK
      have ek : kn [a, c, d] B = (numB a && numB c && numB d && B.all numB) := by unfold kn; simp [Bool.and_assoc]
      cases hk : (numB a && numB c && numB d && B.all numB) with
      | true =>
        simp only [Bool.and_eq_true] at hk
        obtain ⟨⟨⟨ka, kc⟩, kd⟩, kB⟩ := hk
        have e2 : NLB B (sR true [a, c, d]) = [numP a, numP c, numP d] := by
          rw [s1, nlb3, ka, kc, kd, kB]; rfl
        have e3 : NLB B (sR true [numP a, numP c, numP d]) = [numP a, numP c, numP d] := by
          rw [sR2, ha.nl ka, ha.ne ka, if_neg (by simp), sR2, hc.nl kc, if_neg (by simp), sR1, nlb3, ha.num ka, hc.num kc, hd.num kd, kB, ha.idem ka, hc.idem kc, hd.idem kd]; rfl
        rw [ek, ka, kc, kd, kB, if_pos (by rfl), s0 w hw, nlb3, ka, kc, kd, kB]
        show NLB B (sR true (if _ then _ else _)) = [numP a, numP c, numP d] ∧ NLB B (sR true [numP a, numP c, numP d]) = [numP a, numP c, numP d]
        refine ⟨?_, e3⟩
        split
        · exact e3
        · exact e2
      | false =>
        have e1 : ∀ t, NLB B (a :: c :: d :: t) = [a, c, d] := by
          intro t
          rw [nlb3, if_neg]
          intro h
          simp only [Bool.and_eq_true] at h
          obtain ⟨⟨⟨⟨ka, kc⟩, kd⟩, _⟩, kB⟩ := h
          rw [ka, kc, kd, kB] at hk; cases hk
        rw [ek, hk, if_neg Bool.false_ne_true, s0 w hw, e1, s1, e1]
        exact ⟨rfl, rfl⟩
theorem fix3 {a c d : Str} {B : List Str} (ha : El a) (hc : El c) (hd : El d) (ka : numB a = true) (kc : numB c = true) (kd : numB d = true) (kB : B.all numB = true) :
    NLB B [numP a, numP c, numP d] = [numP a, numP c, numP d] ∧ sR true [numP a, numP c, numP d] = [numP a, numP c, numP d] := by
  constructor
  · rw [nlb3, ha.num ka, hc.num kc, hd.num kd, kB, ha.idem ka, hc.idem kc, hd.idem kd]; rfl
  · rw [sR2, ha.nl ka, ha.ne ka, if_neg (by simp), sR2, hc.nl kc, if_neg (by simp), sR1]
/-- shape of three and more: behind the norm -/
theorem Z3 {a c d : Str} {r B : List Str} (ha : El a) (hc : El c) (hd : El d) :
    NLB B (sR true (NLB B (sR true (NLB B (a :: c :: d :: r))))) = (if kn (a :: c :: d :: r) B then [numP a, numP c, numP d] else F3 a c d B) ∧
    NLB B (sR true (if kn (a :: c :: d :: r) B then [numP a, numP c, numP d] else F3 a c d B)) = (if kn (a :: c :: d :: r) B then [numP a, numP c, numP d] else F3 a c d B) := by
  have ek : kn (a :: c :: d :: r) B = (numB a && numB c && numB d && r.all numB && B.all numB) := by unfold kn; simp [Bool.and_assoc]
  rw [ek, nlb3]
  cases hk : (numB a && numB c && numB d && r.all numB && B.all numB) with
  | true =>
    rw [if_pos rfl, if_pos rfl]
    simp only [Bool.and_eq_true] at hk
    obtain ⟨⟨⟨⟨ka, kc⟩, kd⟩, _⟩, kB⟩ := hk
    have f := fix3 ha hc hd ka kc kd kB
    rw [f.2, f.1, f.2, f.1]
    exact ⟨rfl, rfl⟩
  | false =>
    rw [if_neg Bool.false_ne_true, if_neg Bool.false_ne_true]
    exact X3 (r := []) ha hc hd
/-- two parts, no build -/
def F2 (a c : Str) : List Str := if nlB a || a == Str.ofString "" then [a, Str.ofString "", Str.ofString ""] else outK [a, c] []
theorem nlb2 (a c : Str) : NLB [] [a, c] = outK [a, c] [] := by
  unfold NLB outK kn
  simp
  split <;> rfl
theorem kn2 (a c : Str) : kn [a, c] [] = (numB a && numB c) := by unfold kn; simp
theorem X2 {a c : Str} (ha : El a) (hc : El c) :
    NLB [] (sR true (NLB [] (sR true [a, c]))) = F2 a c ∧ NLB [] (sR true (F2 a c)) = F2 a c := by
  unfold F2
  by_cases h0 : (nlB a || a == Str.ofString "") = true
  · rw [if_pos h0]
    have h0' : (nlB a || (true && a == Str.ofString "")) = true := by rw [Bool.true_and]; exact h0
    have e1 : NLB [] (sR true [a, c]) = [a, Str.ofString "", c] := by
      rw [sR2, if_pos h0', sR1, nlb3, numB_nil]; simp
    have e2 : NLB [] (sR true [a, Str.ofString "", c]) = [a, Str.ofString "", Str.ofString ""] := by
      rw [sR2, if_pos h0', sR2, nl_nil, if_neg (by simp), nlb3, numB_nil]; simp
    have e3 : NLB [] (sR true [a, Str.ofString "", Str.ofString ""]) = [a, Str.ofString "", Str.ofString ""] := by
      rw [sR2, if_pos h0', sR2, nl_nil, if_neg (by simp), nlb3, numB_nil]; simp
    rw [e1, e2]
    exact ⟨rfl, e3⟩
  · have h0' : ¬ (nlB a || (true && a == Str.ofString "")) = true := by rw [Bool.true_and]; exact h0
    rw [if_neg h0]
    have s1 : sR true [a, c] = [a, c] := by rw [sR2, if_neg h0', sR1]
    rw [s1, nlb2]
    unfold outK
    rw [kn2]
    cases hk : (numB a && numB c) with
    | true =>
      simp only [Bool.and_eq_true] at hk
      have e3 : NLB [] (sR true [numP a, numP c]) = [numP a, numP c] := by
        rw [sR2, ha.nl hk.1, ha.ne hk.1, if_neg (by simp), sR1, nlb2]
        unfold outK
        rw [kn2, ha.num hk.1, hc.num hk.2, if_pos (by rfl), List.map_cons, List.map_cons, ha.idem hk.1, hc.idem hk.2]; rfl
      rw [if_pos rfl]
      exact ⟨e3, e3⟩
    | false =>
      rw [if_neg Bool.false_ne_true, s1, nlb2]
      unfold outK
      rw [kn2, hk, if_neg Bool.false_ne_true]
      exact ⟨rfl, rfl⟩
theorem Z2 {a c : Str} (ha : El a) (hc : El c) :
    NLB [] (sR true (NLB [] (sR true (NLB [] [a, c])))) = (if kn [a, c] [] then [numP a, numP c] else F2 a c) ∧ NLB [] (sR true (if kn [a, c] [] then [numP a, numP c] else F2 a c)) = (if kn [a, c] [] then [numP a, numP c] else F2 a c) := by
  rw [nlb2]
  unfold outK
  cases hk : kn [a, c] [] with
  | true =>
    rw [if_pos rfl, if_pos rfl]
    rw [kn2] at hk
    simp only [Bool.and_eq_true] at hk
    have e3 : NLB [] (sR true [numP a, numP c]) = [numP a, numP c] := by
      rw [sR2, ha.nl hk.1, ha.ne hk.1, if_neg (by simp), sR1, nlb2]
      unfold outK
      rw [kn2, ha.num hk.1, hc.num hk.2, if_pos (by rfl), List.map_cons, List.map_cons, ha.idem hk.1, hc.idem hk.2]; rfl
    show NLB [] (sR true (NLB [] (sR true [numP a, numP c]))) = _ ∧ _
    rw [e3, e3]
    exact ⟨rfl, rfl⟩
  | false =>
    rw [if_neg Bool.false_ne_true, if_neg Bool.false_ne_true]
    exact X2 ha hc
/-- two parts and a build -/
theorem nlb2b (a c b : Str) : NLB [b] [a, c] = if numB a && numB c && numB b then [numP a, numP c, numP b] else [a, c, b] := by
  unfold NLB
  simp [Bool.and_assoc]
  split <;> rfl
def F2b (a c b : Str) : List Str := if nlB a || a == Str.ofString "" then [a, Str.ofString "", Str.ofString ""] else if numB a && numB c && numB b then [numP a, numP c, numP b] else if nlB c then [a, c, Str.ofString ""] else [a, c, b]
theorem X2b {a c b : Str} (ha : El a) (hc : El c) (hb : El b) :
    NLB [b] (sR true (NLB [b] (sR true [a, c]))) = F2b a c b ∧ NLB [b] (sR true (F2b a c b)) = F2b a c b := by
  unfold F2b
  by_cases h0 : (nlB a || a == Str.ofString "") = true
  · rw [if_pos h0]
    have h0' : (nlB a || (true && a == Str.ofString "")) = true := by rw [Bool.true_and]; exact h0
    have e1 : NLB [b] (sR true [a, c]) = [a, Str.ofString "", c] := by
      rw [sR2, if_pos h0', sR1, nlb3, numB_nil]; simp
    have e2 : NLB [b] (sR true [a, Str.ofString "", c]) = [a, Str.ofString "", Str.ofString ""] := by
      rw [sR2, if_pos h0', sR2, nl_nil, if_neg (by simp), nlb3, numB_nil]; simp
    have e3 : NLB [b] (sR true [a, Str.ofString "", Str.ofString ""]) = [a, Str.ofString "", Str.ofString ""] := by
      rw [sR2, if_pos h0', sR2, nl_nil, if_neg (by simp), nlb3, numB_nil]; simp
    rw [e1, e2]
    exact ⟨rfl, e3⟩
  · have h0' : ¬ (nlB a || (true && a == Str.ofString "")) = true := by rw [Bool.true_and]; exact h0
    rw [if_neg h0]
    have s1 : sR true [a, c] = [a, c] := by rw [sR2, if_neg h0', sR1]
    rw [s1, nlb2b]
    cases hk : (numB a && numB c && numB b) with
    | true =>
      rw [if_pos rfl, if_pos rfl]
      simp only [Bool.and_eq_true] at hk
      have f := fix3 (B := [b]) ha hc hb hk.1.1 hk.1.2 hk.2 (by simp [hk.2])
      rw [f.2, f.1]
      exact ⟨rfl, rfl⟩
    | false =>
      rw [if_neg Bool.false_ne_true, if_neg Bool.false_ne_true]
      have h := X3 (a := a) (c := c) (d := b) (r := []) (B := [b]) ha hc hb
      have e : ∀ t, NLB [b] (a :: c :: b :: t) = [a, c, b] := by
        intro t
        rw [nlb3, if_neg]
        intro q
        simp only [Bool.and_eq_true] at q
        rw [q.1.1.1.1, q.1.1.1.2, q.1.1.2] at hk; cases hk
      by_cases h1 : nlB c = true
      · rw [if_pos h1]
        have e1 : NLB [b] (sR true [a, c, b]) = [a, c, Str.ofString ""] := by
          rw [sR2, if_neg h0', sR2, h1, if_pos (by simp), sR1, nlb3, numB_nil]; simp
        have e2 : NLB [b] (sR true [a, c, Str.ofString ""]) = [a, c, Str.ofString ""] := by
          rw [sR2, if_neg h0', sR2, h1, if_pos (by simp), sR1, nlb3, numB_nil]; simp
        exact ⟨e1, e2⟩
      · rw [if_neg h1]
        have s2 : sR true [a, c, b] = [a, c, b] := by rw [sR2, if_neg h0', sR2, if_neg (by simpa using h1), sR1]
        rw [s2, e]
        exact ⟨rfl, rfl⟩
theorem Z2b {a c b : Str} (ha : El a) (hc : El c) (hb : El b) :
    NLB [b] (sR true (NLB [b] (sR true (NLB [b] [a, c])))) = (if kn [a, c] [b] then [numP a, numP c, numP b] else F3 a c b [b]) ∧ NLB [b] (sR true (if kn [a, c] [b] then [numP a, numP c, numP b] else F3 a c b [b])) = (if kn [a, c] [b] then [numP a, numP c, numP b] else F3 a c b [b]) := by
  have ek : kn [a, c] [b] = (numB a && numB c && numB b) := by unfold kn; simp
  rw [nlb2b, ek]
  cases hk : (numB a && numB c && numB b) with
  | true =>
    rw [if_pos rfl, if_pos rfl]
    simp only [Bool.and_eq_true] at hk
    have f := fix3 (B := [b]) ha hc hb hk.1.1 hk.1.2 hk.2 (by simp [hk.2])
    rw [f.2, f.1, f.2, f.1]
    exact ⟨rfl, rfl⟩
  | false =>
    rw [if_neg Bool.false_ne_true, if_neg Bool.false_ne_true]
    exact X3 (r := []) ha hc hb
/-- one part and a build -/
theorem nlb1b (a b : Str) : NLB [b] [a] = if numB a && numB b then [numP a, numP b] else [a, b] := by
  unfold NLB
  simp
  split <;> rfl
def F1b (a b : Str) : List Str := if numB a && numB b then [numP a, numP b, numP b] else if nlB a || a == Str.ofString "" then [a, Str.ofString "", Str.ofString ""] else [a, b, b]
theorem Z1b {a b : Str} (ha : El a) (hb : El b) (hnl : nlB b = false) :
    NLB [b] (sR true (NLB [b] (sR true (NLB [b] [a])))) = F1b a b ∧ NLB [b] (sR true (F1b a b)) = F1b a b := by
  rw [nlb1b]
  unfold F1b
  cases hk : (numB a && numB b) with
  | true =>
    rw [if_pos rfl, if_pos rfl]
    simp only [Bool.and_eq_true] at hk
    have f := fix3 (B := [b]) ha hb hb hk.1 hk.2 hk.2 (by simp [hk.2])
    have s : sR true [numP a, numP b] = [numP a, numP b] := by rw [sR2, ha.nl hk.1, ha.ne hk.1, if_neg (by simp), sR1]
    have e : NLB [b] [numP a, numP b] = [numP a, numP b, numP b] := by
      rw [nlb2b, ha.num hk.1, hb.num hk.2, hk.2, ha.idem hk.1, hb.idem hk.2]; rfl
    rw [s, e, f.2, f.1]
    exact ⟨rfl, rfl⟩
  | false =>
    rw [if_neg Bool.false_ne_true, if_neg Bool.false_ne_true]
    by_cases h0 : (nlB a || a == Str.ofString "") = true
    · rw [if_pos h0]
      have h0' : (nlB a || (true && a == Str.ofString "")) = true := by rw [Bool.true_and]; exact h0
      have e1 : NLB [b] (sR true [a, b]) = [a, Str.ofString "", b] := by
        rw [sR2, if_pos h0', sR1, nlb3, numB_nil]; simp
      have e2 : NLB [b] (sR true [a, Str.ofString "", b]) = [a, Str.ofString "", Str.ofString ""] := by
        rw [sR2, if_pos h0', sR2, nl_nil, if_neg (by simp), nlb3, numB_nil]; simp
      have e3 : NLB [b] (sR true [a, Str.ofString "", Str.ofString ""]) = [a, Str.ofString "", Str.ofString ""] := by
        rw [sR2, if_pos h0', sR2, nl_nil, if_neg (by simp), nlb3, numB_nil]; simp
      rw [e1, e2]
      exact ⟨rfl, e3⟩
    · rw [if_neg h0]
      have h0' : ¬ (nlB a || (true && a == Str.ofString "")) = true := by rw [Bool.true_and]; exact h0
      have s1 : sR true [a, b] = [a, b] := by rw [sR2, if_neg h0', sR1]
      have s2 : sR true [a, b, b] = [a, b, b] := by rw [sR2, if_neg h0', sR2, hnl, if_neg (by simp), sR1]
      have e1 : NLB [b] [a, b] = [a, b, b] := by
        rw [nlb2b, if_neg]
        intro q
        simp only [Bool.and_eq_true] at q
        rw [q.1.1, q.2] at hk; cases hk
      have e2 : NLB [b] [a, b, b] = [a, b, b] := by
        rw [nlb3, if_neg]
        intro q
        simp only [Bool.and_eq_true] at q
        rw [q.1.1.1.1, q.1.1.1.2] at hk; cases hk
      rw [s1, e1, s2, e2]
      exact ⟨rfl, rfl⟩
theorem nlb1 (a : Str) : NLB [] [a] = outK [a] [] := by
  unfold NLB outK kn
  simp
  split <;> rfl
theorem Z1 {a : Str} (ha : El a) : NLB [] (outK [a] []) = outK [a] [] ∧ sR true (outK [a] []) = outK [a] [] := by
  unfold outK
  have ek : ∀ a, kn [a] [] = numB a := fun a => by unfold kn; simp
  rw [ek]
  cases hk : numB a with
  | true =>
    rw [if_pos rfl]
    refine ⟨?_, rfl⟩
    show NLB [] [numP a] = [numP a]
    rw [nlb1]
    unfold outK
    rw [ek, ha.num hk, if_pos rfl, List.map_cons, ha.idem hk]; rfl
  | false =>
    rw [if_neg Bool.false_ne_true, nlb1]
    unfold outK
    rw [ek, hk]
    exact ⟨rfl, rfl⟩
end Mine
end

section
open PySem PySem.W PyProof.Rows PySem.Calls
set_option maxRecDepth 100000
namespace Mine
open MB KR RX
theorem hit_false (len : Nat) (k : Bool) (f : Str) (i : Nat) : hitP false len k f i = false := by unfold hitP; rfl
theorem hit_0 {len : Nat} {k : Bool} {f : Str} (h : 1 < len ∨ k = false) : hitP true len k f 0 = (nlB f || f == Str.ofString "") := by
  unfold hitP
  have : (decide (0 + 1 < len) || !k) = true := by
    rcases h with h | h
    · rw [decide_eq_true (by omega)]; rfl
    · rw [h]; simp
  rw [this]; simp
theorem hit_1 {len : Nat} {k : Bool} {f : Str} (h : 2 < len ∨ k = false) : hitP true len k f 1 = nlB f := by
  unfold hitP
  have : (decide (1 + 1 < len) || !k) = true := by
    rcases h with h | h
    · rw [decide_eq_true (by omega)]; rfl
    · rw [h]; simp
  rw [this]; simp
theorem hit_no {len : Nat} {f : Str} {i : Nat} (s : Bool) (h : len ≤ i + 1) : hitP s len true f i = false := by
  unfold hitP
  rw [decide_eq_false (by omega)]; simp
theorem kn3 (a c d : Str) (B : List Str) : kn [a, c, d] B = (numB a && numB c && numB d && B.all numB) := by unfold kn; simp [Bool.and_assoc]
theorem nlb3' (B : List Str) (x y z : Str) : NLB B [x, y, z] = outK [x, y, z] B := by
  rw [nlb3]
  unfold outK
  rw [kn3]
  simp only [List.all_nil, Bool.and_true]
  rfl
theorem out3 {a c d : Str} {B : List Str} (ha : El a) (hc : El c) (hd : El d) : NLB B (outK [a, c, d] B) = outK [a, c, d] B := by
  cases hk : kn [a, c, d] B with
  | true =>
    have e : outK [a, c, d] B = [numP a, numP c, numP d] := by unfold outK; rw [hk]; rfl
    rw [e]
    rw [kn3] at hk
    simp only [Bool.and_eq_true] at hk
    exact (fix3 ha hc hd hk.1.1.1 hk.1.1.2 hk.1.2 hk.2).1
  | false =>
    have e : outK [a, c, d] B = [a, c, d] := by unfold outK; rw [hk]; rfl
    rw [e, nlb3', e]
/-- what the law names -/
def firstZ (A : List Str) (b : Str) (sends : Bool) : List Str := restL A b sends
def secondZ (A : List Str) (b : Str) (sends : Bool) : List Str := restL ((A ++ BB b).take 3) b (sends && !kn A (BB b))
structure Main (A : List Str) (b : Str) (sends : Bool) : Prop where
  x3 : NLB (BB b) (sS sends (NLB (BB b) (sS sends (NLB (BB b) (sS sends A))))) = firstZ A b sends
  xf : NLB (BB b) (sS sends (firstZ A b sends)) = firstZ A b sends
  z2 : NLB (BB b) (sS sends (NLB (BB b) (sS sends (NLB (BB b) A)))) = secondZ A b sends
  zf : NLB (BB b) (sS sends (secondZ A b sends)) = secondZ A b sends
theorem sS_t (zs : List Str) : sS true zs = sR true zs := rfl
theorem sS_f (zs : List Str) : sS false zs = zs := rfl
theorem BB_nil {b : Str} (h : (b == Str.ofString "") = true) : BB b = [] := by unfold BB; rw [h]; rfl
theorem BB_one {b : Str} (h : (b == Str.ofString "") = false) : BB b = [b] := by unfold BB; rw [h]; rfl
theorem rF_nil {b : Str} (h : (b == Str.ofString "") = true) (ys : List Str) : restF ys b = ys.take 3 := by unfold restF; rw [h]; rfl
theorem rF_one {b : Str} (h : (b == Str.ofString "") = false) (ys : List Str) : restF ys b = (ys ++ [b, b]).take 3 := by unfold restF; rw [h]; rfl
theorem take3 (a c d : Str) (r t : List Str) : (a :: c :: d :: r ++ t).take 3 = [a, c, d] := rfl
/-- three and more -/
theorem rF3 (a c d b : Str) (r : List Str) : restF (a :: c :: d :: r) b = [a, c, d] := by
  cases h : (b == Str.ofString "") with
  | true => rw [rF_nil h]; rfl
  | false => rw [rF_one h]; rfl
theorem kn_cut {a c d : Str} {r B : List Str} (h : kn (a :: c :: d :: r) B = true) : kn [a, c, d] B = true := by
  unfold kn at *
  simp [Bool.and_assoc] at h ⊢
  exact ⟨h.1, h.2.1, h.2.2.1, h.2.2.2.2⟩
theorem F3_of (a c d b : Str) (r : List Str) : restL (a :: c :: d :: r) b true = F3 a c d (BB b) := by
  unfold restL F3
  rw [rF3, rest3, hit_0 (.inl (by simp)), hit_1 (.inl (by simp))]
theorem O3_of (a c d b : Str) (r : List Str) : restL (a :: c :: d :: r) b false = outK [a, c, d] (BB b) := by
  unfold restL
  rw [rF3, rest3, hit_false, hit_false, if_neg Bool.false_ne_true, if_neg Bool.false_ne_true]
theorem main3 {a c d b : Str} {r : List Str} (ha : El a) (hc : El c) (hd : El d) (sends : Bool) : Main (a :: c :: d :: r) b sends := by
  cases sends with
  | true =>
    have e1 : firstZ (a :: c :: d :: r) b true = F3 a c d (BB b) := F3_of a c d b r
    have e2 : secondZ (a :: c :: d :: r) b true = if kn (a :: c :: d :: r) (BB b) then [numP a, numP c, numP d] else F3 a c d (BB b) := by
      unfold secondZ
      rw [take3]
      cases hk : kn (a :: c :: d :: r) (BB b) with
      | true =>
        show restL [a, c, d] b false = _
        rw [O3_of]
        unfold outK
        rw [kn_cut hk]; rfl
      | false =>
        show restL [a, c, d] b true = _
        rw [F3_of]; rfl
    have hx := X3 (r := r) (B := BB b) ha hc hd
    have hz := Z3 (r := r) (B := BB b) ha hc hd
    constructor
    · rw [e1, sS_t, sS_t, sS_t, hx.1, hx.2]
    · rw [e1, sS_t, hx.2]
    · rw [e2, sS_t, sS_t, hz.1]
    · rw [e2, sS_t, hz.2]
  | false =>
    have e1 : firstZ (a :: c :: d :: r) b false = outK [a, c, d] (BB b) := O3_of a c d b r
    have e2 : secondZ (a :: c :: d :: r) b false = outK [a, c, d] (BB b) := by
      unfold secondZ
      rw [take3]
      show restL [a, c, d] b false = _
      exact O3_of a c d b []
    have ho := out3 (B := BB b) ha hc hd
    have h1 : NLB (BB b) (NLB (BB b) (a :: c :: d :: r)) = outK [a, c, d] (BB b) := by
      rw [nlb3]
      split
      · rename_i hk
        have hk' : kn (a :: c :: d :: r) (BB b) = true := by unfold kn; simpa [Bool.and_assoc] using hk
        have e : outK [a, c, d] (BB b) = [numP a, numP c, numP d] := by unfold outK; rw [kn_cut hk']; rfl
        rw [e] at ho ⊢
        exact ho
      · rw [nlb3']
    constructor
    · rw [e1, sS_f, sS_f, sS_f, h1, ho]
    · rw [e1, sS_f, ho]
    · rw [e2, sS_f, sS_f, h1, ho]
    · rw [e2, sS_f, ho]
/-- two -/
theorem kn_nil2 (a c : Str) : kn [a, c] [] = (numB a && numB c) := kn2 a c
theorem main2 {a c b : Str} (ha : El a) (hc : El c) (h : (b == Str.ofString "") = true) (sends : Bool) : Main [a, c] b sends := by
  have eB := BB_nil h
  have hr : ∀ s, restL [a, c] b s = if hitP s 2 (kn [a, c] []) a 0 then [a, Str.ofString "", Str.ofString ""] else outK [a, c] [] := by
    intro s
    unfold restL
    rw [rF_nil h]
    show restZ [a, c] [a, c] b s = _
    rw [rest2, eB]; rfl
  have hsec : ∀ s, secondZ [a, c] b s = restL [a, c] b (s && !kn [a, c] []) := by
    intro s; unfold secondZ; rw [eB]; rfl
  cases sends with
  | true =>
    have e1 : firstZ [a, c] b true = F2 a c := by
      unfold firstZ F2
      rw [hr, hit_0 (.inl (by decide))]
    have e2 : secondZ [a, c] b true = if kn [a, c] [] then [numP a, numP c] else F2 a c := by
      rw [hsec]
      cases hk : kn [a, c] [] with
      | true =>
        show restL [a, c] b false = _
        rw [hr, hit_false]
        unfold outK; rw [hk]; rfl
      | false =>
        show restL [a, c] b true = _
        exact e1
    have hx := X2 ha hc
    have hz := Z2 ha hc
    constructor
    · rw [e1, eB, sS_t, sS_t, sS_t, hx.1, hx.2]
    · rw [e1, eB, sS_t, hx.2]
    · rw [e2, eB, sS_t, sS_t, hz.1]
    · rw [e2, eB, sS_t, hz.2]
  | false =>
    have e1 : firstZ [a, c] b false = outK [a, c] [] := by
      unfold firstZ
      rw [hr, hit_false, if_neg Bool.false_ne_true]
    have e2 : secondZ [a, c] b false = outK [a, c] [] := by
      rw [hsec]
      show restL [a, c] b false = _
      rw [hr, hit_false, if_neg Bool.false_ne_true]
    have ho : NLB [] (outK [a, c] []) = outK [a, c] [] := by
      cases hk : kn [a, c] [] with
      | true =>
        have e : outK [a, c] [] = [numP a, numP c] := by unfold outK; rw [hk]; rfl
        rw [e, nlb2]
        rw [kn2] at hk
        simp only [Bool.and_eq_true] at hk
        unfold outK
        rw [kn2, ha.num hk.1, hc.num hk.2, if_pos (by rfl), List.map_cons, List.map_cons, ha.idem hk.1, hc.idem hk.2]; rfl
      | false =>
        have e : outK [a, c] [] = [a, c] := by unfold outK; rw [hk]; rfl
        rw [e, nlb2, e]
    constructor
    · rw [e1, eB, sS_f, sS_f, sS_f, nlb2, ho, ho]
    · rw [e1, eB, sS_f, ho]
    · rw [e2, eB, sS_f, sS_f, nlb2, ho, ho]
    · rw [e2, eB, sS_f, ho]
theorem main2b {a c b : Str} (ha : El a) (hc : El c) (hb : El b) (h : (b == Str.ofString "") = false) (sends : Bool) : Main [a, c] b sends := by
  have eB := BB_one h
  have kq : kn [a, c, b] [b] = (numB a && numB c && numB b) := by rw [kn3]; simp [Bool.and_assoc]
  have kq2 : kn [a, c] [b] = (numB a && numB c && numB b) := by unfold kn; simp
  have hr : ∀ s, restL [a, c] b s = if hitP s 2 (kn [a, c, b] [b]) a 0 then [a, Str.ofString "", Str.ofString ""] else if hitP s 2 (kn [a, c, b] [b]) c 1 then [a, c, Str.ofString ""] else outK [a, c, b] [b] := by
    intro s
    unfold restL
    rw [rF_one h]
    show restZ [a, c] [a, c, b] b s = _
    rw [rest3, eB]; rfl
  have hsec : ∀ s, secondZ [a, c] b s = restL [a, c, b] b (s && !kn [a, c] [b]) := by
    intro s; unfold secondZ; rw [eB]; rfl
  have ho := out3 (B := [b]) ha hc hb
  have hn : NLB [b] [a, c] = outK [a, c, b] [b] := by
    rw [nlb2b]; unfold outK; rw [kq]; rfl
  cases sends with
  | true =>
    have e1 : firstZ [a, c] b true = F2b a c b := by
      unfold firstZ F2b
      rw [hr, hit_0 (.inl (by decide)), kq]
      cases hk : (numB a && numB c && numB b) with
      | true =>
        rw [hit_no true (by decide), if_neg Bool.false_ne_true]
        unfold outK; rw [kq, hk]; rfl
      | false =>
        rw [hit_1 (.inr rfl)]
        unfold outK; rw [kq, hk]; rfl
    have e2 : secondZ [a, c] b true = if kn [a, c] [b] then [numP a, numP c, numP b] else F3 a c b [b] := by
      rw [hsec, kq2]
      cases hk : (numB a && numB c && numB b) with
      | true =>
        show restL [a, c, b] b false = _
        rw [O3_of, eB]
        unfold outK; rw [kq, hk]; rfl
      | false =>
        show restL [a, c, b] b true = _
        rw [F3_of, eB]; rfl
    have hx := X2b ha hc hb
    have hz := Z2b ha hc hb
    constructor
    · rw [e1, eB, sS_t, sS_t, sS_t, hx.1, hx.2]
    · rw [e1, eB, sS_t, hx.2]
    · rw [e2, eB, sS_t, sS_t, hz.1]
    · rw [e2, eB, sS_t, hz.2]
  | false =>
    have e1 : firstZ [a, c] b false = outK [a, c, b] [b] := by
      unfold firstZ
      rw [hr, hit_false, hit_false, if_neg Bool.false_ne_true, if_neg Bool.false_ne_true]
    have e2 : secondZ [a, c] b false = outK [a, c, b] [b] := by
      rw [hsec]
      show restL [a, c, b] b false = _
      rw [O3_of, eB]
    constructor
    · rw [e1, eB, sS_f, sS_f, sS_f, hn, ho, ho]
    · rw [e1, eB, sS_f, ho]
    · rw [e2, eB, sS_f, sS_f, hn, ho, ho]
    · rw [e2, eB, sS_f, ho]
/-- one -/
theorem main1 {a b : Str} (ha : El a) (h : (b == Str.ofString "") = true) (sends : Bool) : Main [a] b sends := by
  have eB := BB_nil h
  have hr : ∀ s, restL [a] b s = outK [a] [] := by
    intro s
    unfold restL
    rw [rF_nil h]
    show restZ [a] [a] b s = _
    rw [rest1, eB]
  have e1 : firstZ [a] b sends = outK [a] [] := hr _
  have e2 : secondZ [a] b sends = outK [a] [] := by
    unfold secondZ; rw [eB]; exact hr _
  have hz := Z1 ha
  have hs : sS sends (outK [a] []) = outK [a] [] := by
    cases sends with
    | true => rw [sS_t]; exact hz.2
    | false => rw [sS_f]
  have hs1 : sS sends [a] = [a] := by
    cases sends with
    | true => rw [sS_t, sR1]
    | false => rw [sS_f]
  constructor
  · rw [e1, eB, hs1, nlb1, hs, hz.1, hs, hz.1]
  · rw [e1, eB, hs, hz.1]
  · rw [e2, eB, nlb1, hs, hz.1, hs, hz.1]
  · rw [e2, eB, hs, hz.1]
theorem main1b {a b : Str} (ha : El a) (hb : El b) (hnl : nlB b = false) (h : (b == Str.ofString "") = false) (sends : Bool) : Main [a] b sends := by
  have eB := BB_one h
  have kq : kn [a, b, b] [b] = (numB a && numB b) := by
    rw [kn3]
    cases numB a <;> cases hbn : numB b <;> simp [hbn]
  have kq2 : kn [a] [b] = (numB a && numB b) := by unfold kn; simp
  have hr1 : ∀ s, restL [a] b s = if hitP s 1 (kn [a, b, b] [b]) a 0 then [a, Str.ofString "", Str.ofString ""] else if hitP s 1 (kn [a, b, b] [b]) b 1 then [a, b, Str.ofString ""] else outK [a, b, b] [b] := by
    intro s
    unfold restL
    rw [rF_one h]
    show restZ [a] [a, b, b] b s = _
    rw [rest3, eB]; rfl
  have hr2 : ∀ s, restL [a, b] b s = if hitP s 2 (kn [a, b, b] [b]) a 0 then [a, Str.ofString "", Str.ofString ""] else if hitP s 2 (kn [a, b, b] [b]) b 1 then [a, b, Str.ofString ""] else outK [a, b, b] [b] := by
    intro s
    unfold restL
    rw [rF_one h]
    show restZ [a, b] [a, b, b] b s = _
    rw [rest3, eB]; rfl
  have hsec : ∀ s, secondZ [a] b s = restL [a, b] b (s && !kn [a] [b]) := by
    intro s; unfold secondZ; rw [eB]; rfl
  have ho := out3 (B := [b]) ha hb hb
  cases sends with
  | true =>
    have e1 : firstZ [a] b true = F1b a b := by
      unfold firstZ F1b
      rw [hr1, kq]
      cases hk : (numB a && numB b) with
      | true =>
        rw [hit_no true (by decide), hit_no true (by decide), if_neg Bool.false_ne_true, if_neg Bool.false_ne_true]
        unfold outK; rw [kq, hk]; rfl
      | false =>
        rw [hit_0 (.inr rfl), hit_1 (.inr rfl), hnl, if_neg (c := false = true) Bool.false_ne_true, if_neg (c := false = true) Bool.false_ne_true]
        unfold outK; rw [kq, hk]; rfl
    have e2 : secondZ [a] b true = F1b a b := by
      unfold F1b
      rw [hsec, kq2]
      cases hk : (numB a && numB b) with
      | true =>
        show restL [a, b] b false = _
        rw [hr2, hit_false, hit_false]
        unfold outK; rw [kq, hk]; rfl
      | false =>
        show restL [a, b] b true = _
        rw [hr2, hit_0 (.inl (by decide)), kq, hk, hit_1 (.inr rfl), hnl, if_neg (c := false = true) Bool.false_ne_true, if_neg (c := false = true) Bool.false_ne_true]
        unfold outK; rw [kq, hk]; rfl
    have hz := Z1b ha hb hnl
    have hs1 : sR true [a] = [a] := rfl
    constructor
    · rw [e1, eB, sS_t, sS_t, sS_t, hs1, hz.1]
    · rw [e1, eB, sS_t, hz.2]
    · rw [e2, eB, sS_t, sS_t, hz.1]
    · rw [e2, eB, sS_t, hz.2]
  | false =>
    have e1 : firstZ [a] b false = outK [a, b, b] [b] := by
      unfold firstZ
      rw [hr1, hit_false, hit_false, if_neg Bool.false_ne_true, if_neg Bool.false_ne_true]
    have e2 : secondZ [a] b false = outK [a, b, b] [b] := by
      rw [hsec]
      show restL [a, b] b false = _
      rw [hr2, hit_false, hit_false, if_neg Bool.false_ne_true, if_neg Bool.false_ne_true]
    have hn : NLB [b] (NLB [b] [a]) = outK [a, b, b] [b] := by
      rw [nlb1b]
      unfold outK
      rw [kq]
      cases hk : (numB a && numB b) with
      | true =>
        simp only [Bool.and_eq_true] at hk
        rw [if_pos rfl, if_pos rfl, nlb2b, ha.num hk.1, hb.num hk.2, hk.2, ha.idem hk.1, hb.idem hk.2]; rfl
      | false =>
        rw [if_neg Bool.false_ne_true, if_neg Bool.false_ne_true, nlb2b, if_neg]
        intro q
        simp only [Bool.and_eq_true] at q
        rw [q.1.1, q.2] at hk; cases hk
    constructor
    · rw [e1, eB, sS_f, sS_f, sS_f, hn, ho]
    · rw [e1, eB, sS_f, ho]
    · rw [e2, eB, sS_f, sS_f, hn, ho]
    · rw [e2, eB, sS_f, ho]
theorem mainAll {A : List Str} {b : Str} (h0 : A ≠ []) (hA : ∀ y ∈ A, El y) (hb : El b) (hnl : nlB b = false) (sends : Bool) : Main A b sends := by
  match A, h0, hA with
  | [], h0, _ => exact absurd rfl h0
  | [a], _, hA =>
    cases h : (b == Str.ofString "") with
    | true => exact main1 (hA a (.head _)) h sends
    | false => exact main1b (hA a (.head _)) hb hnl h sends
  | [a, c], _, hA =>
    cases h : (b == Str.ofString "") with
    | true => exact main2 (hA a (.head _)) (hA c (.tail _ (.head _))) h sends
    | false => exact main2b (hA a (.head _)) (hA c (.tail _ (.head _))) hb h sends
  | a :: c :: d :: r, _, hA => exact main3 (hA a (.head _)) (hA c (.tail _ (.head _))) (hA d (.tail _ (.tail _ (.head _)))) sends
end Mine
end

section
open PySem PySem.W PyProof.Rows PySem.Calls
set_option maxRecDepth 100000
namespace Mine
open MB KR RX
def clsB (c : Nat) : Bool := c == 10 || c == 13 || c == 32 || c == 43 || c == 45 || c == 95 || c == 120 || (decide (48 ≤ c) && decide (c ≤ 57))
theorem cls_of {c : Nat} (h : clsB c = true) : Cls c := by
  unfold clsB at h
  unfold Cls
  simp at h
  omega
theorem clsT_of {y : Str} (h : y.cps.toList.all clsB = true) : ClsT y := fun c hc => cls_of (List.all_eq_true.mp h c hc)
theorem clsT_nil : ClsT (Str.ofString "") := clsT_of (by decide +kernel)
structure Bld (b : Str) : Prop where
  cls : ClsT b
  eol : eolP b = b
  nl : nlB b = false
  len : b.length ≤ 2
  nil : (b == Str.ofString "") = (b.length == 0)
theorem bld {b : Str} (h : b ∈ builds) : Bld b := by
  have : b = Str.ofString "" ∨ b = Str.ofString "08" ∨ b = Str.ofString "x" := by simpa [builds] using h
  rcases this with rfl | rfl | rfl
  · exact ⟨clsT_nil, by decide +kernel, by decide +kernel, by decide +kernel, by decide +kernel⟩
  · exact ⟨clsT_of (by decide +kernel), by decide +kernel, by decide +kernel, by decide +kernel, by decide +kernel⟩
  · exact ⟨clsT_of (by decide +kernel), by decide +kernel, by decide +kernel, by decide +kernel, by decide +kernel⟩
structure Bd (y : Str) : Prop where
  cls : ClsT y
  len : y.length ≤ 48
  elen : (eolP y).length ≤ 48
theorem numP_len {y : Str} (h : ClsT y) (hk : numB y = true) : (numP y).length ≤ y.length := by
  rw [len_LL, len_LL, numP_LL h]
  rw [numB_ok h] at hk
  have hs := strip_len' (LL y)
  have hf := figA_len (LL y)
  have hne := okU_ne _ hk
  unfold numL
  rw [if_pos hk]
  split
  · show 1 ≤ _
    have h1 : 1 ≤ (figA (LL y)).length := List.length_pos_iff.mpr hne
    omega
  · rw [List.length_append]
    have h1 : (figL (LL y)).length ≤ (figA (LL y)).length := (List.dropWhile_sublist _).length_le
    have h2 : (figA (LL y)).length ≤ (NumText.sign (stripL (LL y))).2.length := List.length_filter_le _ _
    have h3 : (NumText.sign (stripL (LL y))).2.length + (if (NumText.sign (stripL (LL y))).1 = true then [45] else ([] : List Nat)).length ≤ (stripL (LL y)).length := by
      generalize stripL (LL y) = t
      unfold NumText.sign
      split <;> simp
    omega
theorem Bd.big {y : Str} (h : Bd y) : y.length ≤ 4300 := by have := h.len; omega
theorem Bd.num {y : Str} (h : Bd y) (hk : numB y = true) : Bd (numP y) := by
  have hl := numP_len h.cls hk
  have hl2 := h.len
  exact ⟨numP_cls h.cls, by omega, by rw [eol_n h.cls]; omega⟩
theorem Bd.eol {y : Str} (h : Bd y) : Bd (eolP y) := ⟨eolP_cls h.cls, h.elen, by rw [eolP_idem]; exact h.elen⟩
theorem bd_nil : Bd (Str.ofString "") := ⟨clsT_nil, by decide +kernel, by decide +kernel⟩
theorem bd_build {b : Str} (h : Bld b) : Bd b := ⟨h.cls, Nat.le_trans h.len (by decide), by rw [h.eol]; exact Nat.le_trans h.len (by decide)⟩
theorem bd_24 {y : Str} (h : ClsT y) (hl : y.length ≤ 24) : Bd y := ⟨h, by omega, by have := eolP_len y; omega⟩
theorem BB_mem {b y : Str} (h : y ∈ BB b) : y = b := by
  unfold BB at h
  split at h
  · cases h
  · exact List.mem_singleton.mp h
theorem nlb_all {P : Str → Prop} {B zs : List Str} (hz : ∀ y ∈ zs, P y) (hB : ∀ y ∈ B, P y) (hn : ∀ y, P y → numB y = true → P (numP y)) : ∀ y ∈ NLB B zs, P y := by
  have hw : ∀ y ∈ zs ++ B, P y := fun y hy => (List.mem_append.mp hy).elim (hz y) (hB y)
  intro y hy
  unfold NLB at hy
  have hy := List.mem_of_mem_take hy
  split at hy
  · rename_i hk
    obtain ⟨x, hx, rfl⟩ := List.mem_map.mp hy
    exact hn x (hw x hx) (List.all_eq_true.mp hk x hx)
  · exact hw y hy
theorem nlb_len (B zs : List Str) : (NLB B zs).length ≤ 3 := by unfold NLB; rw [List.length_take]; omega
theorem nlb_ne {B zs : List Str} (h : zs ≠ []) : NLB B zs ≠ [] := by
  cases zs with
  | nil => exact absurd rfl h
  | cons z r => unfold NLB; split <;> simp
theorem sR_all {P : Str → Prop} (h0 : P (Str.ofString "")) : ∀ (zs : List Str) (f : Bool), (∀ y ∈ zs, P y) → ∀ y ∈ sR f zs, P y
  | [], _, _ => fun y hy => nomatch hy
  | [z], _, h => h
  | x :: z :: r, f, h => by
    have ih := sR_all h0 (z :: r) false fun y hy => h y (.tail _ hy)
    intro y hy
    rw [sR2] at hy
    split at hy
    · rcases List.mem_cons.mp hy with rfl | hy
      · exact h _ (.head _)
      · rcases List.mem_cons.mp hy with rfl | hy
        · exact h0
        · exact ih y hy
    · rcases List.mem_cons.mp hy with rfl | hy
      · exact h _ (.head _)
      · exact ih y hy
theorem sR_len : ∀ (zs : List Str) (f : Bool), (sR f zs).length ≤ 2 * zs.length
  | [], _ => Nat.zero_le _
  | [z], _ => by rw [sR1]; simp
  | x :: z :: r, f => by
    have ih := sR_len (z :: r) false
    rw [sR2]
    split
    · simp only [List.length_cons] at ih ⊢; omega
    · simp only [List.length_cons] at ih ⊢; omega
theorem sS_all {P : Str → Prop} (h0 : P (Str.ofString "")) {zs : List Str} (s : Bool) (h : ∀ y ∈ zs, P y) : ∀ y ∈ sS s zs, P y := by
  cases s with
  | true => rw [sS_t]; exact sR_all h0 zs true h
  | false => rw [sS_f]; exact h
theorem sS_len (zs : List Str) (s : Bool) : (sS s zs).length ≤ 2 * zs.length := by
  cases s with
  | true => rw [sS_t]; exact sR_len zs true
  | false => rw [sS_f]; omega
theorem sS_ne {zs : List Str} (s : Bool) (h : zs ≠ []) : sS s zs ≠ [] := by
  cases s with
  | true =>
    rw [sS_t]
    cases zs with
    | nil => exact absurd rfl h
    | cons z r => obtain ⟨w, hw⟩ := sR_cons true z r; rw [hw]; simp
  | false => rw [sS_f]; exact h
theorem jl_len : ∀ (xs : List (List Nat)) (n : Nat), (∀ x ∈ xs, x.length ≤ n) → (jl xs).length ≤ xs.length * (n + 1)
  | [], _, _ => Nat.zero_le _
  | [x], n, h => by
    have := h x (.head _)
    show x.length ≤ 1 * (n + 1)
    omega
  | x :: y :: r, n, h => by
    have ih := jl_len (y :: r) n fun z hz => h z (.tail _ hz)
    have := h x (.head _)
    show (x ++ 46 :: jl (y :: r)).length ≤ _
    rw [List.length_append, List.length_cons]
    rw [List.length_cons, Nat.add_mul]
    omega
theorem joinP_len {zs : List Str} (h : ∀ y ∈ zs, y.length ≤ 48) : (joinP zs).length ≤ zs.length * 49 := by
  rw [len_LL, joinP_LL]
  have := jl_len (zs.map LL) 48 fun x hx => by
    obtain ⟨y, hy, rfl⟩ := List.mem_map.mp hx
    rw [← len_LL]; exact h y hy
  rwa [List.length_map] at this
theorem normP_joinP {zs : List Str} {b : Str} (h0 : zs ≠ []) (hz : ∀ y ∈ zs, Bd y) (hb : Bld b) : normP (joinP zs) b = joinP (NLB (BB b) zs) := by
  have hL : normL (joinP zs) b = zs ++ BB b := by
    unfold normL
    rw [split_joinP h0 fun y hy => cls_dot (hz y hy).cls]
    unfold BB
    rw [hb.nil]
    congr 1
    by_cases e : b.length = 0
    · rw [if_pos e, e]; rfl
    · rw [if_neg e, beq_eq_false_iff_ne.mpr e]; rfl
  have hw : ∀ y ∈ zs ++ BB b, Bd y := fun y hy => (List.mem_append.mp hy).elim (hz y) fun h => by rw [BB_mem h]; exact bd_build hb
  have ha : (zs ++ BB b).all isNum = (zs ++ BB b).all numB := by
    rw [Bool.eq_iff_iff, List.all_eq_true, List.all_eq_true]
    constructor
    · intro h y hy
      exact (isNum_numB (hw y hy).cls (hw y hy).big).symm.trans (h y hy)
    · intro h y hy
      exact (isNum_numB (hw y hy).cls (hw y hy).big).trans (h y hy)
  show Txt.join (Str.ofString ".") ((normS (joinP zs) b).take 3) = Txt.join (Str.ofString ".") (NLB (BB b) zs)
  congr 1
  unfold normS NLB
  rw [hL, ha]
  split
  · rename_i hk
    congr 1
    apply List.map_congr_left
    intro y hy
    exact canon_num (hw y hy).cls (hw y hy).big (List.all_eq_true.mp hk y hy)
  · rfl
theorem sideP_joinP {zs : List Str} (hz : ∀ y ∈ zs, Bd y) (s : Bool) : sideP s (joinP zs) = joinP (sS s (zs.map eolP)) := by
  cases s with
  | true =>
    show dotP (eolP (joinP zs)) = _
    rw [eol_joinP, dot_joinP, sS_t]
    intro y hy
    obtain ⟨x, hx, rfl⟩ := List.mem_map.mp hy
    exact cls_dot (eolP_cls (hz x hx).cls)
  | false =>
    show eolP (joinP zs) = _
    rw [eol_joinP, sS_f]
theorem nlb_eol {zs : List Str} {b : Str} (hz : ∀ y ∈ zs, Bd y) (hb : Bld b) : NLB (BB b) (zs.map eolP) = (NLB (BB b) zs).map eolP := by
  have e0 : (BB b).map eolP = BB b := by
    unfold BB
    split
    · rfl
    · rw [List.map_cons, hb.eol]; rfl
  have e : zs.map eolP ++ BB b = (zs ++ BB b).map eolP := by rw [List.map_append, e0]
  have hw : ∀ y ∈ zs ++ BB b, Bd y := fun y hy => (List.mem_append.mp hy).elim (hz y) fun h => by rw [BB_mem h]; exact bd_build hb
  unfold NLB
  rw [e]
  generalize zs ++ BB b = w at hw
  have ha : (w.map eolP).all numB = w.all numB := by
    rw [List.all_map, Bool.eq_iff_iff, List.all_eq_true, List.all_eq_true]
    constructor
    · intro h y hy
      have h1 := h y hy
      rw [Function.comp_apply, numB_eol (hw y hy).cls] at h1
      exact h1
    · intro h y hy
      rw [Function.comp_apply, numB_eol (hw y hy).cls]
      exact h y hy
  rw [ha, List.map_take]
  congr 1
  split
  · rw [List.map_map, List.map_map]
    apply List.map_congr_left
    intro y hy
    rw [Function.comp_apply, Function.comp_apply, n_eol (hw y hy).cls, eol_n (hw y hy).cls]
  · rfl
end Mine
end

section
open PySem PySem.W PyProof.Rows PySem.Calls
set_option maxRecDepth 100000
namespace Mine
open MB KR RX
theorem val_lt (l : List Nat) (h : NumText.AllDigits l) : NumText.digitsVal l < 10 ^ l.length := by
  induction hl : l.length generalizing l with
  | zero =>
    rw [List.length_eq_zero_iff.mp hl]; decide
  | succ n ih =>
    have h1 : l ≠ [] := by intro e; rw [e] at hl; cases hl
    obtain ⟨i, c, rfl⟩ : ∃ i c, l = i ++ [c] := ⟨l.dropLast, l.getLast h1, (List.dropLast_concat_getLast h1).symm⟩
    have hc := h c (by simp)
    have hi := ih i (fun x hx => h x (List.mem_append_left _ hx)) (by simp at hl; exact hl)
    rw [val_snoc, Nat.pow_succ]
    omega
theorem good_of {y : Str} (h : Bd y) : Good y := by
  refine ⟨Nat.le_trans h.len (by decide), plain_of h.cls, fun k hk => ?_⟩
  rw [int_of h.cls h.big] at hk
  cases hok : okL (LL y) with
  | false => rw [hok] at hk; cases hk
  | true =>
    rw [hok, if_pos rfl] at hk
    have hk := Option.some.inj hk
    have hv : k.natAbs = NumText.digitsVal (figA (LL y)) := by
      rw [← hk]
      unfold NumText.worth
      rw [fig_val]
      split
      · rw [Int.natAbs_neg, Int.natAbs_natCast]
      · rw [Int.natAbs_natCast]
    have hd := val_lt (figA (LL y)) (okU_digits _ _ hok)
    have hl : (figA (LL y)).length ≤ 48 := Nat.le_trans (figA_len _) (by rw [← len_LL]; exact h.len)
    have hp : 10 ^ (figA (LL y)).length ≤ 10 ^ 48 := Nat.pow_le_pow_right (by decide) hl
    have h48 : (10 : Nat) ^ 48 < 2 ^ 1920 := by decide +kernel
    rw [← hv] at hd
    by_cases h0 : k.natAbs = 0
    · rw [h0]; decide
    · rw [Nat.log2_lt h0]
      exact Nat.lt_of_lt_of_le hd (Nat.le_trans hp (Nat.le_of_lt h48))
theorem ok_of {zs : List Str} {b : Str} (h0 : zs ≠ []) (hn : zs.length ≤ 26) (hz : ∀ y ∈ zs, Bd y) (hb : Bld b) : Ok (joinP zs) b := by
  have hs := split_joinP h0 fun y hy => cls_dot (hz y hy).cls
  have hl := joinP_len fun y hy => (hz y hy).len
  refine ⟨by omega, ?_, ?_, ?_⟩
  · rw [hs]; exact fun y hy => good_of (hz y hy)
  · rw [hs]
    intro y hy
    rcases List.mem_append.mp hy with hy | hy
    · exact good_of (hz y hy)
    · rw [List.mem_singleton.mp hy]; exact good_of (bd_build hb)
  · rw [hs]; omega
/-- the hands on lists of parts -/
def oneZ (ys : List Str) (b : Str) (s : Bool) : Nat → List Str
  | 0 => ys
  | k + 1 => NLB (BB b) (sS s ((oneZ ys b s k).map eolP))
def otherZ (ys : List Str) (b : Str) (s : Bool) : Nat → List Str
  | 0 => ys
  | k + 1 => sS s ((NLB (BB b) (otherZ ys b s k)).map eolP)
structure Inv (n : Nat) (zs : List Str) : Prop where
  ne : zs ≠ []
  len : zs.length ≤ n
  bd : ∀ y ∈ zs, Bd y
theorem Inv.map {n : Nat} {zs : List Str} (h : Inv n zs) : Inv n (zs.map eolP) := ⟨by simpa using h.ne, by rw [List.length_map]; exact h.len, fun y hy => by
  obtain ⟨x, hx, rfl⟩ := List.mem_map.mp hy
  exact (h.bd x hx).eol⟩
theorem Inv.sS {n : Nat} {zs : List Str} (h : Inv n zs) (s : Bool) : Inv (2 * n) (sS s zs) := ⟨sS_ne s h.ne, Nat.le_trans (sS_len zs s) (Nat.mul_le_mul_left 2 h.len), sS_all bd_nil s h.bd⟩
theorem Inv.nlb {n : Nat} {zs : List Str} {b : Str} (h : Inv n zs) (hb : Bld b) : Inv 3 (NLB (BB b) zs) := ⟨nlb_ne h.ne, nlb_len _ _, nlb_all h.bd (fun y hy => by rw [BB_mem hy]; exact bd_build hb) fun _ hy hk => hy.num hk⟩
theorem Inv.mono {n m : Nat} {zs : List Str} (h : Inv n zs) (hm : n ≤ m) : Inv m zs := ⟨h.ne, Nat.le_trans h.len hm, h.bd⟩
section
variable {ys : List Str} {b : Str} (s : Bool) (h : Inv 13 ys) (hb : Bld b)
include h hb
theorem one_inv : ∀ k, Inv 13 (oneZ ys b s k)
  | 0 => h
  | k + 1 => (((one_inv k).map.sS s).nlb hb).mono (by decide)
theorem oth_inv : ∀ k, Inv 13 (otherZ ys b s k)
  | 0 => h
  | k + 1 => ((((oth_inv k).nlb hb).map).sS s).mono (by decide)
theorem one_eq : ∀ k, oneAt ys b s k = joinP (oneZ ys b s k)
  | 0 => rfl
  | k + 1 => by
    have hi := one_inv s h hb k
    show normP (sideP s (oneAt ys b s k)) b = _
    rw [one_eq k, sideP_joinP hi.bd, normP_joinP (hi.map.sS s).ne (hi.map.sS s).bd hb]
    rfl
theorem oth_eq : ∀ k, otherAt ys b s k = joinP (otherZ ys b s k)
  | 0 => rfl
  | k + 1 => by
    have hi := oth_inv s h hb k
    show sideP s (normP (otherAt ys b s k) b) = _
    rw [oth_eq k, normP_joinP hi.ne hi.bd hb, sideP_joinP (hi.nlb hb).bd]
    rfl
end
/-- evened lists stay so -/
def Ev (zs : List Str) : Prop := ∀ y ∈ zs, ClsT y ∧ eolP y = y
theorem ev_map {zs : List Str} (h : Ev zs) : zs.map eolP = zs := by
  conv => rhs; rw [← List.map_id zs]
  exact List.map_congr_left fun y hy => (h y hy).2
theorem ev_eol {zs : List Str} (h : ∀ y ∈ zs, ClsT y) : Ev (zs.map eolP) := fun y hy => by
  obtain ⟨x, hx, rfl⟩ := List.mem_map.mp hy
  exact ⟨eolP_cls (h x hx), eolP_idem x⟩
theorem ev_nlb {zs : List Str} {b : Str} (h : Ev zs) (hb : Bld b) : Ev (NLB (BB b) zs) := nlb_all (P := fun y => ClsT y ∧ eolP y = y) h (fun y hy => by rw [BB_mem hy]; exact ⟨hb.cls, hb.eol⟩) fun y hy _ => ⟨numP_cls hy.1, eol_n hy.1⟩
theorem ev_sS {zs : List Str} (s : Bool) (h : Ev zs) : Ev (sS s zs) := sS_all (P := fun y => ClsT y ∧ eolP y = y) ⟨clsT_nil, by decide +kernel⟩ s h
section
variable {ys : List Str} {b : Str} (s : Bool) (h : ∀ y ∈ ys, Bd y) (hb : Bld b)
include h hb
theorem one_ev : ∀ k, Ev (oneZ ys b s (k + 1))
  | 0 => ev_nlb (ev_sS s (ev_eol fun y hy => (h y hy).cls)) hb
  | k + 1 => by
    have ih := one_ev k
    show Ev (NLB (BB b) (sS s ((oneZ ys b s (k + 1)).map eolP)))
    rw [ev_map ih]
    exact ev_nlb (ev_sS s ih) hb
theorem one_step (k : Nat) : oneZ ys b s (k + 2) = NLB (BB b) (sS s (oneZ ys b s (k + 1))) := by
  show NLB (BB b) (sS s ((oneZ ys b s (k + 1)).map eolP)) = _
  rw [ev_map (one_ev s h hb k)]
theorem oth_first : otherZ ys b s 1 = sS s (NLB (BB b) (ys.map eolP)) := by
  show sS s ((NLB (BB b) ys).map eolP) = _
  rw [nlb_eol h hb]
theorem oth_ev : ∀ k, Ev (otherZ ys b s (k + 1))
  | 0 => by
    rw [oth_first s h hb]
    exact ev_sS s (ev_nlb (ev_eol fun y hy => (h y hy).cls) hb)
  | k + 1 => by
    have ih := oth_ev k
    show Ev (sS s ((NLB (BB b) (otherZ ys b s (k + 1))).map eolP))
    rw [ev_map (ev_nlb ih hb)]
    exact ev_sS s (ev_nlb ih hb)
theorem oth_step (k : Nat) : otherZ ys b s (k + 2) = sS s (NLB (BB b) (otherZ ys b s (k + 1))) := by
  show sS s ((NLB (BB b) (otherZ ys b s (k + 1))).map eolP) = _
  rw [ev_map (ev_nlb (oth_ev s h hb k) hb)]
end
theorem even_map (ys : List Str) : ys.map evenP = ys.map eolP := List.map_congr_left fun y _ => even_eol y
theorem every_eq (ys : List Str) (b : Str) : everyL ys b = ys.map eolP ++ BB b := by
  unfold everyL BB
  rw [even_map]
  split
  · rw [List.append_nil]
  · rfl
theorem any_kn : ∀ zs : List Str, (!((zs.map numP).any fun x => x == Str.ofString "")) = zs.all numB
  | [] => rfl
  | z :: r => by
    rw [List.map_cons, List.any_cons, List.all_cons, ← any_kn r, Bool.not_or]
    rfl
theorem known_every (ys : List Str) (b : Str) : knownE ys b = kn (ys.map eolP) (BB b) := by
  unfold knownE kn
  rw [every_eq, any_kn, List.all_append]
theorem secondR_eq (ys : List Str) (b : Str) (s : Bool) : secondR ys b s = secondZ (ys.map eolP) b s := by
  unfold secondR secondZ
  rw [every_eq, known_every]
theorem firstL_eq (ys : List Str) (b : Str) (s : Bool) : firstL ys b s = firstZ (ys.map eolP) b s := by
  unfold firstL firstZ
  rw [even_map]
theorem secondL_eq (ys : List Str) (b : Str) (s : Bool) : secondL ys b s = sS s (secondZ (ys.map eolP) b s) := by
  unfold secondL sS
  rw [sent_eq, secondR_eq]
theorem plainLaw : PlainLaw := by
  intro ys b s h0 hn hl hc hb'
  have hb := bld hb'
  have hbd : ∀ y ∈ ys, Bd y := fun y hy => bd_24 (hc y hy) (hl y hy)
  have hi : Inv 13 ys := ⟨h0, hn, hbd⟩
  have hA : Inv 13 (ys.map eolP) := hi.map
  have M := mainAll (A := ys.map eolP) (b := b) hA.ne (fun y hy => El.of (hA.bd y hy).cls) (El.of hb.cls) hb.nl s
  have h3 : oneZ ys b s 3 = firstL ys b s := by
    rw [one_step s hbd hb, one_step s hbd hb, firstL_eq]
    exact M.x3
  have h4 : oneZ ys b s 4 = firstL ys b s := by
    rw [one_step s hbd hb, h3, firstL_eq]
    exact M.xf
  have g3 : otherZ ys b s 3 = secondL ys b s := by
    rw [oth_step s hbd hb, oth_step s hbd hb, oth_first s hbd hb, secondL_eq, M.z2]
  have g4 : otherZ ys b s 4 = secondL ys b s := by
    rw [oth_step s hbd hb, g3, secondL_eq, M.zf]
  have hf := one_inv s hi hb 3
  have hg := oth_inv s hi hb 3
  rw [h3] at hf
  rw [g3] at hg
  have hR : Inv 3 (secondR ys b s) := by
    rw [secondR_eq, ← M.z2]
    exact Inv.nlb (Inv.sS (Inv.nlb (Inv.sS (Inv.nlb hA hb) s) hb) s) hb
  constructor
  · intro k _
    rw [one_eq s hi hb k]
    have := one_inv s hi hb k
    have h1 := joinP_len fun y hy => (this.bd y hy).len
    have h2 := this.len
    omega
  · intro k _
    rw [one_eq s hi hb k]
    have := one_inv s hi hb k
    rw [sideP_joinP this.bd]
    exact ok_of (this.map.sS s).ne (this.map.sS s).len (this.map.sS s).bd hb
  · intro k _
    rw [oth_eq s hi hb k]
    have := oth_inv s hi hb k
    exact ok_of this.ne (Nat.le_trans this.len (by decide)) this.bd hb
  · intro k _
    rw [oth_eq s hi hb k]
    have := oth_inv s hi hb k
    rw [normP_joinP this.ne this.bd hb]
    have h1 := joinP_len fun y hy => ((this.nlb hb).bd y hy).len
    have h2 := (this.nlb hb).len
    omega
  · intro k h1 h2
    rw [one_eq s hi hb k]
    have : k = 3 ∨ k = 4 := by omega
    rcases this with rfl | rfl
    · rw [h3]
    · rw [h4]
  · intro k h1 h2
    rw [oth_eq s hi hb k]
    have : k = 3 ∨ k = 4 := by omega
    rcases this with rfl | rfl
    · rw [g3]
    · rw [g4]
  · exact Nat.le_trans hf.len (by decide)
  · exact fun y hy => Nat.le_trans (hf.bd y hy).len (by decide)
  · exact Nat.le_trans hg.len (by decide)
  · exact fun y hy => Nat.le_trans (hg.bd y hy).len (by decide)
  · exact Nat.le_trans hR.len (by decide)
  · exact fun y hy => Nat.le_trans (hR.bd y hy).len (by decide)
/-- the pieces' signs -/
theorem pieces_cls : ∀ p ∈ pieces, (p == Str.ofString ".") = true ∨ p.cps.toList.all clsB = true := by decide +kernel
theorem step_cls {ps : List Str} {x : Int} (h : ∀ y ∈ ps, ClsT y) : ∀ y ∈ stepP ps x, ClsT y := by
  intro y hy
  unfold stepP at hy
  split at hy
  · rcases List.mem_append.mp hy with hy | hy
    · exact h y hy
    · rw [List.mem_singleton.mp hy]; exact clsT_nil
  · rename_i hd
    have hp : ClsT (pieceT x) := by
      rcases pieces_cls _ (pieceT_mem x) with e | e
      · exact absurd e hd
      · exact clsT_of e
    rcases List.mem_append.mp hy with hy | hy
    · exact h y (List.dropLast_subset _ hy)
    · rw [List.mem_singleton.mp hy]
      intro c hc
      have hc' : c ∈ LL (ps.getLastD Str.empty) ++ LL (pieceT x) := by rw [← LL_app]; exact hc
      rcases List.mem_append.mp hc' with hc' | hc'
      · by_cases h0 : ps = []
        · rw [h0] at hc'
          have e : LL (([] : List Str).getLastD Str.empty) = [] := rfl
          rw [e] at hc'; cases hc'
        · exact h _ (getLastD_mem h0) c hc'
      · exact hp c hc'
theorem fold_cls : ∀ (xs : List Int) (ps : List Str), (∀ y ∈ ps, ClsT y) → ∀ y ∈ xs.foldl stepP ps, ClsT y
  | [], _, h => h
  | x :: r, ps, h => fold_cls r (stepP ps x) (step_cls h)
theorem parts_cls (xs : List Int) : ∀ y ∈ partsL xs, ClsT y := fold_cls xs _ fun y hy => by
  rw [List.mem_singleton.mp hy]; exact clsT_nil
end Mine
end

section
open PySem PySem.W PyProof.Rows PySem.Calls
set_option maxRecDepth 100000
namespace Mine
open MB KR RX
local macro_rules | `(tactic| walk_at "call ref") => `(tactic| (k_here; (with_reducible show wpAny _ _ (call (Value.ref 70) _) _ _ _); k_dflt (refine' parts_call ?k1 ?k2 ?k3 ?k4 ?k5 ?k6 ?k7 ?k8 ?k9 ?kd ?ke ?_; (case k1 => k_asm); (case k2 => k_asm); (case k3 => k_asm); (case k4 => k_asm); (case k5 => k_asm); (case k6 => exact rfl); (case k7 => exact List.mem_cons_self ..); (case k8 => first | assumption | l_ints); (case k9 => first | omega | decide); (case kd => ktr_room); (case ke => ktr_room)); intro q' i' c' h' tk' F' N' hs'))
local macro_rules | `(tactic| walk_at "call builtin:str.replace") => `(tactic| (k_here; k_dflt (refine' replace_T ?k1 ?k2 ?k3 ?k4 ?k5 ?_; (case k1 => first | with_reducible assumption | exact Nat.succ_le_succ (Nat.zero_le _) | omega); (case k2 => first | exact Nat.succ_le_succ (Nat.zero_le _) | assumption | omega); (case k3 => decide +kernel); (case k4 => omega); (case k5 => decide +kernel)); intro t' k' hk'))
theorem every_1 {ys : List Str} {b : Str} (h : (b != Str.ofString "") = true) : everyL ys b = ys.map evenP ++ [b] := by
  unfold everyL; rw [if_neg (by intro e; rw [bne, e] at h; exact Bool.false_ne_true h)]
theorem every_0 {ys : List Str} {b : Str} (h : (b != Str.ofString "") = false) : everyL ys b = ys.map evenP := by
  unfold everyL; rw [if_pos (by rw [bne] at h; revert h; cases (b == Str.ofString "") <;> decide)]
theorem map_three {M : Str → Option Value} {a b c : Str} {va vb vc : Value} (ha : M a = some va) (hb : M b = some vb) (hc : M c = some vc) : M = fun y => if y = a then some va else if y = b then some vb else if y = c then some vc else M y := by
  funext y
  by_cases h1 : y = a
  · rw [if_pos h1, h1, ha]
  · rw [if_neg h1]
    by_cases h2 : y = b
    · rw [if_pos h2, h2, hb]
    · rw [if_neg h2]; exact congrFun (map_bind hc) y
local macro_rules | `(tactic| walk_at "binaryOp Add ref ref") => `(tactic| (k_here; k_dflt (refine' add_L ?k1 ?k2 ?k3 ?k4 ?k5 ?k6 ?k7 ?_; (case k1 => k_asm); (case k2 => k_asm); (case k3 => first | exact List.mem_cons_of_mem _ (by assumption) | exact List.mem_cons_of_mem _ (List.mem_cons_self ..)); (case k4 => exact List.mem_cons_self ..); (case k5 => assumption); (case k6 => first | assumption | exact StrsAre.cons _ _ StrsAre.nil); (case k7 => (simp only [List.length_cons, List.length_nil, List.length_map]; omega))); intro q' i' h' F' N' l' hs'))
theorem even_len (x : Str) : (evenP x).length ≤ 2 * x.length := by rw [even_eol]; exact eolP_len x
theorem builds_len {b : Str} (hb : b ∈ builds) : b.length ≤ 2 := (by decide +kernel : ∀ b ∈ builds, b.length ≤ 2) b hb
theorem every_len {ys : List Str} {b : Str} (hy : ys.length ≤ 13) (hb : b ∈ builds) : (everyL ys b).length ≤ 14 := by
  unfold everyL; split <;> simp only [List.length_append, List.length_map, List.length_cons, List.length_nil] <;> omega
theorem every_item {ys : List Str} {b : Str} (hy : ∀ y ∈ ys, y.length ≤ 24) (hb : b ∈ builds) : ∀ y ∈ everyL ys b, y.length ≤ 900 := by
  have hm : ∀ y ∈ ys.map evenP, y.length ≤ 900 := by
    intro y h
    obtain ⟨z, hz, rfl⟩ := List.mem_map.mp h
    have := even_len z
    have := hy z hz
    omega
  intro y h
  unfold everyL at h
  split at h
  · exact hm y h
  · rcases List.mem_append.mp h with h | h
    · exact hm y h
    · rw [List.mem_singleton.mp h]; exact Nat.le_trans (builds_len hb) (by decide)
local macro_rules | `(tactic| walk_at "eval ListComp") => `(tactic| (k_here; k_dflt (refine LCg.ListComp_U (F₀ := by k_asm) (by with_unfolding_all rfl) (by decide) (by rfl) (by decide) (by rfl) ?_)))
local macro_rules | `(tactic| walk_at "CompSrc") => `(tactic| (k_here; k_dflt (refine LCg.CompSrc.ledger (by rfl) (by k_asm) (by k_asm) (by assumption) (by (rw [sizeLine_eq]; exact strs_size (by assumption) (by omega))) ?_; intro g'; refine compRest_L (f := numP) (by assumption) (by assumption) (fun y' t' C' oC' m' h' tk' E' led' Q' hy' hC' hx' F' N' hm' hq' => ?kt) (fun vs' hvs' => ?_)); (case kt => ((repeat' (first | walk1 | (dsimp only; walk1))); exact hq' _ _ _ (by assumption) (by assumption)))))
local macro_rules | `(tactic| walk_at "call ref") => `(tactic| (k_here; (with_reducible show wpAny _ _ (call (Value.ref 77) _) _ _ _); k_dflt (refine' number_call ?k1 ?k2 ?k3 ?k4 ?k5 ?k6 ?k7 ?kd ?ke ?_; (case k1 => k_asm); (case k2 => k_asm); (case k3 => k_asm); (case k4 => k_asm); (case k5 => k_asm); (case k6 => first | exact rfl | assumption); (case k7 => first | omega | exact Nat.le_trans (len_of (by assumption) (by assumption)) (by decide)); (case kd => ktr_room); (case ke => ktr_room)); intro t' h' tk' F' N'))
local macro_rules | `(tactic| walk_at "compareOp NotIn str ref") => `(tactic| (k_here; k_dflt (refine' notin_L ?k1 ?k2 ?k3 ?_; (case k1 => k_asm); (case k2 => exact List.mem_cons_self ..); (case k3 => assumption))))
theorem ints_names {vs : List Value} {ns : List Int} (_ : IntsAre vs ns) : ∃ vs' ns', vs' = vs ∧ ns' = ns := ⟨vs, ns, rfl, rfl⟩
theorem list_name {h : Heap} {l : Addr} {a : Array Value} (_ : h.IsList l a) : ∃ l', l' = l := ⟨l, rfl⟩
local macro_rules | `(tactic| walk_at "exec For Name Tuple cons nil") => `(tactic| (k_here; (rename Fr _ _ _ _ => lF'); (with_unfolding_all refine' For_invVF lF' ?k1 ?k2 ?_; (case k1 => exact rfl); (case k2 => exact rfl); k_whole)))
theorem even_items {ys : List Str} (hxi : ∀ y ∈ ys, y.length ≤ 24) : ∀ y ∈ ys.map evenP, y.length ≤ 900 := by
  intro y h
  obtain ⟨z, hz, rfl⟩ := List.mem_map.mp h
  have := even_len z
  have := hxi z hz
  omega
local macro_rules | `(tactic| walk_at "call ref") => `(tactic| (k_here; (with_reducible show wpAny _ _ (call (Value.ref 96) _) _ _ _); k_dflt (refine' rest_call ?k1 ?k2 ?k3 ?k4 ?k5 ?k6 ?k7 ?k8 ?k9 ?ka ?kb ?kd ?ke ?_; (case k1 => k_asm); (case k2 => k_asm); (case k3 => k_asm); (case k4 => k_asm); (case k5 => k_asm); (case k6 => first | exact rfl | assumption); (case k7 => first | exact List.mem_append_left _ (by assumption) | exact List.mem_cons_self ..); (case k8 => assumption); (case k9 => assumption); (case ka => assumption); (case kb => assumption); (case kd => ktr_room); (case ke => ktr_room)); intro q' i' c' h' tk' F' N' hs'))
local macro_rules | `(tactic| walk_at "call ref") => `(tactic| (k_here; (with_reducible show wpAny _ _ (call (Value.ref 91) _) _ _ _); k_dflt (refine' sent_call ?k1 ?k2 ?k3 ?k4 ?k5 ?k6 ?k7 ?k8 ?k9 ?ka ?kd ?ke ?_; (case k1 => k_asm); (case k2 => k_asm); (case k3 => k_asm); (case k4 => k_asm); (case k5 => k_asm); (case k6 => first | exact rfl | assumption); (case k7 => exact List.mem_cons_self ..); (case k8 => assumption); (case k9 => assumption); (case ka => assumption); (case kd => ktr_room); (case ke => ktr_room)); intro q' i' c' h' tk' F' N' hs'))
local macro_rules | `(tactic| walk_at "subscriptTail Name Slice ref ref") => `(tactic| (k_here; (with_reducible show wpAny _ _ (subscriptTail _ (PySem.Expr.Slice _ _ none _) (Value.ref _) (Value.ref _)) _ _ _); k_dflt (refine' slice_L ?k1 ?k2 ?k3 ?k4 ?k5 ?k6 ?_ ?k8 ?k9; (case k1 => k_asm); (case k2 => k_asm); (case k3 => exact List.mem_cons_of_mem _ (List.mem_append_left _ (by assumption))); (case k4 => assumption); (case k5 => decide); (case k6 => exact strs_size (by assumption) (by omega)); (case k8 => with_unfolding_all rfl); (case k9 => kmk_pure)); intro q' i' h' F' N' l' hs'))
theorem sec_1 {ys : List Str} {b : Str} {sends : Bool} (h : sends = true) : secondR ys b sends = restL ((everyL ys b).take (Int.toNat 3)) b (!knownE ys b) := by
  unfold secondR; rw [h, Bool.true_and]; rfl
theorem sec_0 {ys : List Str} {b : Str} {sends : Bool} (h : sends = false) : secondR ys b sends = restL ((everyL ys b).take (Int.toNat 3)) b sends := by
  unfold secondR; rw [h]; rfl
theorem secL_1 {ys : List Str} {b : Str} {sends : Bool} (h : sends = true) : secondL ys b sends = sentL (secondR ys b sends) (secondR ys b sends).length := by
  unfold secondL; rw [if_pos h]
theorem secL_0 {ys : List Str} {b : Str} {sends : Bool} (h : sends = false) : secondL ys b sends = secondR ys b sends := by
  unfold secondL; rw [h]; rfl
theorem names_two {h₀ h : Heap} {L : Addr} {m : Str → Option Value} {a b x y : Str} {t u : Tok} (_ : Fr h₀ L h m) (h1 : m a = some (.str x t)) (h2 : m b = some (.str y u)) : ∃ t' u', AllB m [(a, .str x t'), (b, .str y u')] := ⟨t, u, h1, h2, trivial⟩
section
variable {w : World} {p : Program} {loose : List Str} {mean : ExcName → Option Value} {mg mb : Str → Option Value} {dp un : Nat} {gd : Option (List Code)} {cn : Str} {cs : Scope} {a : Addr} {ccd : Value} {cl : List (Str × Addr)} {outer : List Env} {A₀ : Around} {base h₀ : Heap} {L : Addr} {m : Str → Option Value} {news : List (Addr × Obj)} {s : Shared} {Q E : Value → Shared → Prop}
theorem norm_as {x b y : Str} {t u : Tok} (hy : normP x b = y) (hok : Ok x b) (F : Fr h₀ L s.heap m) (X : (hd.heap_39 w.params).In h₀) (N : News h₀ L s.heap news) (T : Top hd.view_39 LS mean mg mb h₀) (hk : cs.kind = .function) (hb : b.length ≤ 10)
    (hret : ∀ t h' tk', Fr h₀ L h' m → News h₀ L h' news → Q (.str y t) { s with heap := h', toks := tk' }) :
    wpAny (model Challenge.rw_pe0022_01.row.prog w) (callerA.deeper (envOf cn cs L a ccd)) (call (.ref 39) [.str x t, .str b u]) Q E s := by
  subst hy
  exact norm_call F X N T hk hok.len hb hok.good hok.goodB hok.parts hret
theorem fix_as {x y : Str} {t : Tok} (hy : eolP x = y) (B : Below A₀ base outer h₀) (F : Fr h₀ L s.heap m) (X : (hd.heap_39 w.params).In h₀) (N : News h₀ L s.heap news) (T : Top p loose mean mg mb h₀) (hk : cs.kind = .function) (hx : x.length ≤ 1000)
    (hd : dp + 1 < recursionLimit) (hu : un + 8 < cLine)
    (hret : ∀ t h' tk', Fr h₀ L h' m → News h₀ L h' news → Q (.str y t) { s with heap := h', toks := tk' }) :
    wpAny (model Challenge.rw_pe0022_01.row.prog w) (ktrTop dp un gd cn cs L a ccd cl outer) (call (.ref 63) [.str x t]) Q E s := by
  subst hy
  exact fix_call B F X N T hk hx hd hu hret
theorem quote_as {x y : Str} {t : Tok} (hy : dotP (eolP x) = y) (B : Below A₀ base outer h₀) (F : Fr h₀ L s.heap m) (X : (hd.heap_39 w.params).In h₀) (N : News h₀ L s.heap news) (T : Top p loose mean mg mb h₀) (hk : cs.kind = .function) (hx : x.length ≤ 1000)
    (hd : dp + 1 < recursionLimit) (hu : un + 8 < cLine)
    (hret : ∀ t h' tk', Fr h₀ L h' m → News h₀ L h' news → Q (.str y t) { s with heap := h', toks := tk' }) :
    wpAny (model Challenge.rw_pe0022_01.row.prog w) (ktrTop dp un gd cn cs L a ccd cl outer) (call (.ref 56) [.str x t]) Q E s := by
  subst hy
  exact quote_call B F X N T hk hx hd hu hret
end
theorem join_as {prog : Program} {w : World} {A : Around} {E : Value → Shared → Prop} {s : Shared} {h₀ : Heap} {L : Addr} {news : List (Addr × Obj)} {Q : Value → Shared → Prop} {l : Addr} {its : Array Value} {n : Nat} {ys : List Str} {x y : Str} {t : Tok} (hy : Txt.join x ys = y) (N : News h₀ L s.heap news) (hl : (l, listOf its n) ∈ news) (hi : StrsAre its.toList ys) (hx : x.length ≤ 1) (hB : ∀ y ∈ ys, y.length ≤ 2000) (hn : ys.length ≤ 1000)
    (h : ∀ t' k, Q (.str y t') { s with toks := k }) : wpAny (model prog w) A (call (.builtin "str.join") [.str x t, .ref l]) Q E s := by
  subst hy
  exact join_L N hl hi hx hB hn h
local macro_rules | `(tactic| walk_at "call ref") => `(tactic| (k_here; (with_reducible show wpAny _ _ (call (Value.ref 39) _) _ _ _); k_dflt (refine' norm_as ?k0 ?k6 ?k1 ?k2 ?k3 ?k4 ?k5 ?k7 ?_; (case k0 => with_reducible assumption); (case k6 => with_reducible assumption); (case k1 => k_asm); (case k2 => k_asm); (case k3 => k_asm); (case k4 => k_asm); (case k5 => exact rfl); (case k7 => with_reducible assumption)); intro t' h' tk' F' N'))
local macro_rules | `(tactic| walk_at "call ref") => `(tactic| (k_here; (with_reducible show wpAny _ _ (call (Value.ref 56) _) _ _ _); k_dflt (refine' quote_as ?k0 ?k1 ?k2 ?k3 ?k4 ?k5 ?k6 ?k7 ?kd ?ke ?_; (case k0 => with_reducible assumption); (case k1 => k_asm); (case k2 => k_asm); (case k3 => k_asm); (case k4 => k_asm); (case k5 => k_asm); (case k6 => exact rfl); (case k7 => with_reducible assumption); (case kd => ktr_room); (case ke => ktr_room)); intro t' h' tk' F' N'))
local macro_rules | `(tactic| walk_at "call ref") => `(tactic| (k_here; (with_reducible show wpAny _ _ (call (Value.ref 63) _) _ _ _); k_dflt (refine' fix_as ?k0 ?k1 ?k2 ?k3 ?k4 ?k5 ?k6 ?k7 ?kd ?ke ?_; (case k0 => with_reducible assumption); (case k1 => k_asm); (case k2 => k_asm); (case k3 => k_asm); (case k4 => k_asm); (case k5 => k_asm); (case k6 => exact rfl); (case k7 => with_reducible assumption); (case kd => ktr_room); (case ke => ktr_room)); intro t' h' tk' F' N'))
local macro_rules | `(tactic| walk_at "call builtin:str.join") => `(tactic| (k_here; k_dflt (refine' join_as ?k0 ?k1 ?k2 ?k3 ?k4 ?k5 ?k6 ?_; (case k1 => k_asm); (case k2 => first | exact List.mem_cons_self .. | exact List.mem_cons_of_mem _ (List.mem_cons_self ..) | exact List.mem_cons_of_mem _ (List.mem_cons_of_mem _ (by with_reducible assumption)) | exact List.mem_cons_of_mem _ (List.mem_cons_of_mem _ (List.mem_append_left _ (by with_reducible assumption)))); (case k3 => with_reducible assumption); (case k0 => first | with_reducible assumption | exact rfl); (case k4 => decide +kernel); (case k5 => with_reducible assumption); (case k6 => first | with_reducible assumption | omega)); intro t' k'))
structure TurnF (ys : List Str) (b : Str) (sends : Bool) (k : Nat) (x1 x2 y1 w1 z1 v1 z2 y2 w2 u1 u2 : Str) : Prop where
  len1 : x1.length ≤ 1000
  len2 : z2.length ≤ 1000
  ok2 : Ok x2 b
  ok1 : sends = true → Ok y1 b
  ok0 : sends = false → Ok w1 b
  end1 : sends = true → (2 : Int) < 1 + (k : Int) → (z1 != u1) = false ∧ (y2 != u2) = false
  end0 : sends = false → (2 : Int) < 1 + (k : Int) → (v1 != u1) = false ∧ (w2 != u2) = false
  nx1 : sends = true → z1 = oneAt ys b sends (k + 1) ∧ y2 = otherAt ys b sends (k + 1)
  nx0 : sends = false → v1 = oneAt ys b sends (k + 1) ∧ w2 = otherAt ys b sends (k + 1)
theorem turn_facts {ys : List Str} {b : Str} {sends : Bool} {k : Nat} {x1 x2 y1 w1 z1 v1 z2 y2 w2 u1 u2 : Str} {zs1 zs2 : List Str} (pf : PlainF ys b sends) (hk : k < 4) (hx1 : x1 = oneAt ys b sends k) (hx2 : x2 = otherAt ys b sends k)
    (hz1 : firstL ys b sends = zs1) (hz2 : secondL ys b sends = zs2) (hu1 : Txt.join (Str.ofString ".") zs1 = u1) (hu2 : Txt.join (Str.ofString ".") zs2 = u2) (hy1 : dotP (eolP x1) = y1) (hw1 : eolP x1 = w1) (hn1 : normP y1 b = z1) (hv1 : normP w1 b = v1)
    (hn2 : normP x2 b = z2) (hy2 : dotP (eolP z2) = y2) (hw2 : eolP z2 = w2) : TurnF ys b sends k x1 x2 y1 w1 z1 v1 z2 y2 w2 u1 u2 := by
  have s1 : ∀ x, sideP true x = dotP (eolP x) := fun x => rfl
  have s0 : ∀ x, sideP false x = eolP x := fun x => rfl
  have o1 : oneAt ys b sends (k + 1) = normP (sideP sends x1) b := by rw [hx1]; rfl
  have o2 : otherAt ys b sends (k + 1) = sideP sends z2 := by rw [← hn2, hx2]; rfl
  have n1 : sends = true → z1 = oneAt ys b sends (k + 1) ∧ y2 = otherAt ys b sends (k + 1) := fun e => by
    rw [o1, o2]; subst e; rw [s1, s1, hy1, hn1, hy2]; exact ⟨rfl, rfl⟩
  have n0 : sends = false → v1 = oneAt ys b sends (k + 1) ∧ w2 = otherAt ys b sends (k + 1) := fun e => by
    rw [o1, o2]; subst e; rw [s0, s0, hw1, hv1, hw2]; exact ⟨rfl, rfl⟩
  have e1 : (2 : Int) < 1 + (k : Int) → oneAt ys b sends (k + 1) = u1 := fun h => by
    rw [pf.one_end (k + 1) (by omega) (by omega), hz1]; exact hu1
  have e2 : (2 : Int) < 1 + (k : Int) → otherAt ys b sends (k + 1) = u2 := fun h => by
    rw [pf.oth_end (k + 1) (by omega) (by omega), hz2]; exact hu2
  refine ⟨?_, ?_, ?_, fun e => ?_, fun e => ?_, fun e h => ?_, fun e h => ?_, n1, n0⟩
  · rw [hx1]; exact pf.one_len k hk
  · rw [← hn2, hx2]; exact pf.oth_len k hk
  · rw [hx2]; exact pf.oth_ok k hk
  · have := pf.one_ok k hk
    rw [← hx1] at this
    subst e
    rw [s1, hy1] at this
    exact this
  · have := pf.one_ok k hk
    rw [← hx1] at this
    subst e
    rw [s0, hw1] at this
    exact this
  · rw [(n1 e).1, (n1 e).2, e1 h, e2 h]; simp
  · rw [(n0 e).1, (n0 e).2, e1 h, e2 h]; simp
set_option maxHeartbeats 8000000 in
theorem lawWalk (PL : PlainLaw) (PC : ∀ (xs : List Int), ∀ y ∈ partsL xs, ClsT y) : Challenge.rw_pe0022_01.Holds := by
  w_top off
  refine hd ?_
  k_go0
  all_goals try k_fold
  dsimp only
  rename World => w
  rename Shared => s1
  rename Heap => h1
  rename IntsAre _ _ => hI
  rename Heap.IsList s1.heap _ _ => hLl
  obtain ⟨vs, ns, rfl, rfl⟩ := ints_names hI
  obtain ⟨l, rfl⟩ := list_name hLl
  refine execs_cut0 (fun s' => ∃ h' tk M b t, s' = { s1 with heap := h', toks := tk } ∧ 1 ≤ tk ∧ Fr s1.heap s1.heap.objs.size h' M ∧ News s1.heap s1.heap.objs.size h' [] ∧ b ∈ builds ∧ M (Str.ofString "build") = some (.str b t) ∧ M (Str.ofString "script") = some (.ref l)) ?_ ?_
  · k_steps
    all_goals (refine ⟨by first | rfl | trivial, _, _, _, _, _, rfl, Nat.succ_le_succ (Nat.zero_le _), by assumption, (fun _ hp => nomatch hp), ?_, rfl, rfl⟩; decide +kernel)
  · rintro s' ⟨h', tk, M, b, t, rfl, htk, F', N', hb, h1, h2⟩
    rw [map_two h1 h2] at F'
    refine execs_cut (P := fun s' => ∃ h' tk M q its n xs, s' = { s1 with heap := h', toks := tk } ∧ Fr s1.heap s1.heap.objs.size h' M ∧ News s1.heap s1.heap.objs.size h' [(q, listOf its n)] ∧ StrsAre its.toList (partsL xs) ∧ xs.length ≤ 12 ∧ M (Str.ofString "build") = some (.str b t) ∧ M (Str.ofString "parts") = some (.ref q)) htk ?_ ?_
    · clear h1 h2
      k_steps
      · exact fun _ => ⟨by first | rfl | trivial, _, _, _, _, _, _, _, rfl, by assumption, cb_drop (by assumption) (fun p hp => by rw [List.mem_singleton.mp hp]; exact .head _), by assumption, by omega, rfl, rfl⟩
      · exact fun _ => ⟨by first | rfl | trivial, _, _, _, _, _, _, _, rfl, by assumption, cb_drop (by assumption) (fun p hp => by rw [List.mem_singleton.mp hp]; exact .head _), by assumption, by decide, rfl, rfl⟩
    · rintro s' htk ⟨h', tk, M, q, its, n, xs, rfl, F', N', hS, hx, h1, h2⟩
      have hf := partsL_facts xs
      have hxl : (partsL xs).length ≤ 13 := by have := hf.2.1; omega
      have hxi : ∀ y ∈ partsL xs, y.length ≤ 24 := fun y hy => by have := hf.2.2 y hy; omega
      have hxn := hf.1
      have hxc := PC xs
      clear hf
      generalize partsL xs = ys at *
      rw [map_two h1 h2] at F'
      refine execs_cut (P := fun s' => ∃ h' tk M q its n q2 its2 n2, s' = { s1 with heap := h', toks := tk } ∧ Fr s1.heap s1.heap.objs.size h' M ∧ News s1.heap s1.heap.objs.size h' [(q2, listOf its2 n2), (q, listOf its n)] ∧ StrsAre its.toList ys ∧ StrsAre its2.toList (ys.map evenP) ∧ M (Str.ofString "build") = some (.str b t) ∧ M (Str.ofString "parts") = some (.ref q) ∧ M (Str.ofString "even") = some (.ref q2)) htk ?_ ?_
      · clear h1 h2
        k_dflt (refine assignKeeps_L evenP (by rfl) (by k_asm) (by k_asm) (List.mem_cons_self ..) hS (by omega) htk (by with_unfolding_all rfl) (by with_unfolding_all rfl) (by decide) (by rfl) (by decide) (by rfl) (by rfl) (by rfl) ?_ ?_ ?_ (by intro _; rfl))
        · intro Q' hQ'
          k_steps
          all_goals exact hQ'
        · intro z t' C s3 m3 E' Q' hz hns hm3 ht3 hq
          have hl0 := hxi z hz
          have hl1 := replace_len z (Str.ofString "\r\n") (Str.ofString "\n") (by decide +kernel)
          have hl2 := replace_len (Txt.replace z (Str.ofString "\r\n") (Str.ofString "\n")) (Str.ofString "\r") (Str.ofString "\n") (by decide +kernel)
          rw [show (Str.ofString "\n").length + 1 = 2 from rfl] at hl1 hl2
          unfold evenP at hq
          k_steps
          all_goals exact hq _ _
        · intro D vs' c' h3 tk3 F3 N3 hS3
          exact fun _ => ⟨by first | rfl | trivial, _, _, _, _, _, _, _, _, _, rfl, F3, N3, hS, hS3, rfl, rfl, rfl⟩
      · clear F' N' hS h1 h2
        rintro s' htk ⟨h', tk, M, q, its, n, q2, its2, n2, rfl, F', N', hS, hS2, h1, h2, h3⟩
        rw [map_three h1 h2 h3] at F'
        clear h1 h2 h3
        repeat' ((fail_if_success (with_reducible show wpAny _ _ (execs (Stmt.If _ _ _ _ :: _) _) _ _ _)); first | (k_unfold; (try dsimp only)) | (k_end; wrow_close) | walk1 | (dsimp only; walk1) | (leave1; walk_say "STEP leave1"; try dsimp only) | fail "no step")
        refine execs_cut (P := fun s' => ∃ h' tk M q3 its3 n3 led, s' = { s1 with heap := h', toks := tk } ∧ Fr s1.heap s1.heap.objs.size h' M ∧ News s1.heap s1.heap.objs.size h' led ∧ (q, listOf its n) ∈ led ∧ (q2, listOf its2 n2) ∈ led ∧ (q3, listOf its3 n3) ∈ led ∧ StrsAre its3.toList (everyL ys b) ∧ M (Str.ofString "build") = some (.str b t) ∧ M (Str.ofString "parts") = some (.ref q) ∧ M (Str.ofString "even") = some (.ref q2) ∧ M (Str.ofString "every") = some (.ref q3)) (Nat.succ_le_succ (Nat.zero_le _)) ?_ ?_
        · k_steps
          · exact fun _ => ⟨by first | rfl | trivial, _, _, _, _, _, _, _, rfl, by assumption, by assumption, .tail _ (.tail _ (.tail _ (.head _))), .tail _ (.tail _ (.head _)), .head _, by rw [every_1 (by assumption)]; assumption, rfl, rfl, rfl, rfl⟩
          · exact fun _ => ⟨by first | rfl | trivial, _, _, _, _, _, _, _, rfl, by assumption, by assumption, .tail _ (.head _), .head _, .head _, by rw [every_0 (by assumption)]; assumption, rfl, rfl, rfl, rfl⟩
        · rintro s' htk ⟨h', tk, M, q3, its3, n3, led, rfl, F', N', hm1, hm2, hm3, hS3, h1, h2, h3, h4⟩
          have hel := every_len (ys := ys) hxl hb
          have hei := every_item (ys := ys) hxi hb
          rw [map_four h1 h2 h3 h4] at F'
          clear h1 h2 h3 h4
          refine execs_cut (P := fun s' => ∃ h' tk M, s' = { s1 with heap := h', toks := tk } ∧ Fr s1.heap s1.heap.objs.size h' M ∧ News s1.heap s1.heap.objs.size h' led ∧ M (Str.ofString "build") = some (.str b t) ∧ M (Str.ofString "parts") = some (.ref q) ∧ M (Str.ofString "even") = some (.ref q2) ∧ M (Str.ofString "every") = some (.ref q3) ∧ M (Str.ofString "known") = some (.bool (!(((everyL ys b).map numP).any (· == Str.ofString ""))))) htk ?_ ?_
          · k_steps
            all_goals exact fun _ => ⟨by first | rfl | trivial, _, _, _, rfl, by assumption, drop_tail (by assumption), rfl, rfl, rfl, rfl, rfl⟩
          · rintro s' htk ⟨h', tk, M0, rfl, F', N', h1, h2, h3, h4, h5⟩
            repeat' ((fail_if_success (with_reducible show wpAny _ _ (pyIter _) _ _ _)); first | (k_unfold; (try dsimp only)) | (k_end; wrow_close) | walk1 | (dsimp only; walk1) | (leave1; walk_say "STEP leave1"; try dsimp only) | fail "no step")
            rename Fr s1.heap _ _ _ => F'
            rename News s1.heap _ _ (_ :: _) => N'
            rename (∀ p ∈ led, p.1 < _) => hlt
            k_dflt (refine tup_inv [Str.ofString "first", Str.ofString "second", Str.ofString "one", Str.ofString "other", Str.ofString "hand"] (by rfl) F' N' hlt ?_ ?_)
            · clear F' N' hlt
              intro v M1 h' tk' own hv hoff hm hK F' N'
              obtain ⟨sends, rfl⟩ : ∃ sends, v = .bool sends := by
                rcases List.mem_cons.mp hv with e | hv
                · exact ⟨_, e⟩
                · rcases List.mem_cons.mp hv with e | hv
                  · exact ⟨_, e⟩
                  · exact nomatch hv
              have kept : ∀ {z : Str} {u : Value}, M0 z = some u → z ≠ Str.ofString "sends" → [Str.ofString "first", Str.ofString "second", Str.ofString "one", Str.ofString "other", Str.ofString "hand"].contains z = false → M1 z = some u := fun e a c => (hK _ a c).trans e
              have g1 := kept h1 (by decide +kernel) (by decide +kernel)
              have g2 := kept h2 (by decide +kernel) (by decide +kernel)
              have g3 := kept h3 (by decide +kernel) (by decide +kernel)
              have g4 := kept h4 (by decide +kernel) (by decide +kernel)
              have g5 := kept h5 (by decide +kernel) (by decide +kernel)
              clear kept
              replace F' : Fr s1.heap s1.heap.objs.size h' M1 := F'
              replace N' : News s1.heap s1.heap.objs.size h' (led ++ own) := N'
              have hps : AllB M1 [(Str.ofString "sends", .bool sends), (Str.ofString "build", .str b t), (Str.ofString "parts", .ref q), (Str.ofString "even", .ref q2), (Str.ofString "every", .ref q3), (Str.ofString "known", _)] := ⟨hm, g1, g2, g3, g4, g5, trivial⟩
              rw [bindAll _ hps] at F'
              dsimp only [kstB] at F'
              clear hm g1 g2 g3 g4 g5
              have he1 := even_items hxi
              have he2 : (ys.map evenP).length ≤ 400 := by rw [List.length_map]; omega
              have he3 : ∀ y ∈ (everyL ys b).take (Int.toNat 3), y.length ≤ 900 := fun y hy => hei y (List.mem_of_mem_take hy)
              have he4 : ((everyL ys b).take (Int.toNat 3)).length ≤ 400 := by rw [List.length_take]; omega
              have hbl : b.length ≤ 10 := Nat.le_trans (builds_len hb) (by decide)
              refine execs_cut0 (fun s' => ∃ h' tk M q4 its4 n4, s' = { s1 with heap := h', toks := tk } ∧ Fr s1.heap s1.heap.objs.size h' M ∧ News s1.heap s1.heap.objs.size h' ((q4, listOf its4 n4) :: (led ++ own)) ∧ StrsAre its4.toList (firstL ys b sends)
                  ∧ M (Str.ofString "build") = some (.str b t) ∧ M (Str.ofString "parts") = some (.ref q) ∧ M (Str.ofString "every") = some (.ref q3) ∧ M (Str.ofString "known") = some (.bool (knownE ys b)) ∧ M (Str.ofString "sends") = some (.bool sends) ∧ M (Str.ofString "first") = some (.ref q4) ∧ KeptBut (Str.ofString "sends") [Str.ofString "first", Str.ofString "second", Str.ofString "one", Str.ofString "other", Str.ofString "hand"] M0 M) ?_ ?_
              · k_steps
                all_goals exact ⟨by first | rfl | trivial, _, _, _, _, _, _, rfl, by assumption, by assumption, by assumption, rfl, rfl, rfl, rfl, rfl, rfl, kept_step hK hps (by decide +kernel)⟩
              · clear F' N'
                rintro s' ⟨h', tk, M, q4, its4, n4, rfl, F', N', hS4, h1, h2, h3, h4, h5, h6, hK'⟩
                clear hps hK
                rename KeptBut _ _ _ M => hK
                have hps : AllB M [(Str.ofString "sends", .bool sends), (Str.ofString "build", .str b t), (Str.ofString "parts", .ref q), (Str.ofString "every", .ref q3), (Str.ofString "known", _), (Str.ofString "first", .ref q4)] := ⟨h5, h1, h2, h3, h4, h6, trivial⟩
                rw [bindAll _ hps] at F'
                dsimp only [kstB] at F'
                clear h1 h2 h3 h4 h5 h6
                refine execs_cut0 (fun s' => ∃ h' tk M q5 its5 n5, s' = { s1 with heap := h', toks := tk } ∧ Fr s1.heap s1.heap.objs.size h' M ∧ News s1.heap s1.heap.objs.size h' ((q5, listOf its5 n5) :: (q4, listOf its4 n4) :: (led ++ own)) ∧ StrsAre its5.toList (secondR ys b sends)
                    ∧ M (Str.ofString "build") = some (.str b t) ∧ M (Str.ofString "parts") = some (.ref q) ∧ M (Str.ofString "sends") = some (.bool sends) ∧ M (Str.ofString "first") = some (.ref q4) ∧ M (Str.ofString "second") = some (.ref q5) ∧ KeptBut (Str.ofString "sends") [Str.ofString "first", Str.ofString "second", Str.ofString "one", Str.ofString "other", Str.ofString "hand"] M0 M) ?_ ?_
                · k_steps
                  all_goals (first | rw [sec_1 (by assumption)] | rw [sec_0 (by assumption)])
                  all_goals exact ⟨by first | rfl | trivial, _, _, _, _, _, _, rfl, by assumption, drop_head (by assumption) (fun p hp => .tail _ hp), by assumption, rfl, rfl, rfl, rfl, rfl, kept_step hK hps (by decide +kernel)⟩
                · clear F' N'
                  rintro s' ⟨h', tk, M, q5, its5, n5, rfl, F', N', hS5, h1, h2, h3, h4, h5, hK'⟩
                  clear hps hK
                  rename KeptBut _ _ _ M => hK
                  have hps : AllB M [(Str.ofString "sends", .bool sends), (Str.ofString "build", .str b t), (Str.ofString "parts", .ref q), (Str.ofString "first", .ref q4), (Str.ofString "second", .ref q5)] := ⟨h3, h1, h2, h4, h5, trivial⟩
                  rw [bindAll _ hps] at F'
                  dsimp only [kstB] at F'
                  clear h1 h2 h3 h4 h5
                  have pf := PL ys b sends hxn hxl hxi hxc hb
                  have hR1 := pf.secondR_n
                  have hR2 := pf.secondR_y
                  refine execs_cut0 (fun s' => ∃ h' tk M q6 its6 n6, s' = { s1 with heap := h', toks := tk } ∧ Fr s1.heap s1.heap.objs.size h' M ∧ News s1.heap s1.heap.objs.size h' ((q6, listOf its6 n6) :: (q4, listOf its4 n4) :: (led ++ own)) ∧ StrsAre its6.toList (secondL ys b sends)
                      ∧ M (Str.ofString "build") = some (.str b t) ∧ M (Str.ofString "parts") = some (.ref q) ∧ M (Str.ofString "sends") = some (.bool sends) ∧ M (Str.ofString "first") = some (.ref q4) ∧ M (Str.ofString "second") = some (.ref q6) ∧ KeptBut (Str.ofString "sends") [Str.ofString "first", Str.ofString "second", Str.ofString "one", Str.ofString "other", Str.ofString "hand"] M0 M) ?_ ?_
                  · k_steps
                    all_goals (first | rw [secL_1 (by assumption)] | rw [secL_0 (by assumption)])
                    all_goals exact ⟨by first | rfl | trivial, _, _, _, _, _, _, rfl, by assumption, by first | assumption | exact drop_head (by assumption) (fun p hp => .tail _ hp), by assumption, rfl, rfl, rfl, rfl, rfl, by first | exact kept_step hK hps (by decide +kernel) | exact kept_same hK hps⟩
                  · clear F' N' hR1 hR2
                    rintro s' ⟨h', tk, M, q6, its6, n6, rfl, F', N', hS6, h1, h2, h3, h4, h5, hK'⟩
                    clear hps hK
                    rename KeptBut _ _ _ M => hK
                    have hps : AllB M [(Str.ofString "sends", .bool sends), (Str.ofString "build", .str b t), (Str.ofString "parts", .ref q), (Str.ofString "first", .ref q4), (Str.ofString "second", .ref q6)] := ⟨h3, h1, h2, h4, h5, trivial⟩
                    rw [bindAll _ hps] at F'
                    dsimp only [kstB] at F'
                    clear h1 h2 h3 h4 h5
                    have hj1 : ∀ y ∈ ys, y.length ≤ 2000 := fun y hy => Nat.le_trans (hxi y hy) (by decide)
                    repeat' ((fail_if_success (with_reducible show wpAny _ _ (call (Value.type "range") _) _ _ _)); first | (k_unfold; (try dsimp only)) | (k_end; wrow_close) | walk1 | (dsimp only; walk1) | (leave1; walk_say "STEP leave1"; try dsimp only) | fail "no step")
                    rename Fr s1.heap _ _ _ => F1'
                    rename News s1.heap _ _ (_ :: _) => N1'
                    k_dflt (refine' range2_rows ?ka ?kb ?_; (case ka => exact F1'); (case kb => exact N1'); intro h2' tk2' t2' u2' v2' R2' F2' N2' _)
                    obtain ⟨ta, tb, g12⟩ := names_two F2' (a := Str.ofString "one") (b := Str.ofString "other") (x := joinP ys) (y := joinP ys) rfl rfl
                    have hK2 := kept_set (v := .str (joinP ys) tb) (y := Str.ofString "other") (kept_set (v := .str (joinP ys) ta) (y := Str.ofString "one") (kept_same hK hps) (by decide +kernel)) (by decide +kernel)
                    obtain ⟨m0, F3', gm0, hKm0⟩ : ∃ m0, Fr s1.heap s1.heap.objs.size h2' m0 ∧ AllB m0 [(Str.ofString "one", .str (joinP ys) ta), (Str.ofString "other", .str (joinP ys) tb), (Str.ofString "sends", .bool sends), (Str.ofString "build", .str b t), (Str.ofString "first", .ref q4), (Str.ofString "second", .ref q6)] ∧ KeptBut (Str.ofString "sends") [Str.ofString "first", Str.ofString "second", Str.ofString "one", Str.ofString "other", Str.ofString "hand"] M0 m0 :=
                      ⟨_, F2', ⟨g12.1, g12.2.1, rfl, rfl, rfl, rfl, trivial⟩, fun z hz hc => by
                        have n2 : z ≠ Str.ofString "one" := by rintro rfl; exact absurd hc (by decide +kernel)
                        have n3 : z ≠ Str.ofString "other" := by rintro rfl; exact absurd hc (by decide +kernel)
                        dsimp only
                        rw [if_neg n3, if_neg n2]
                        exact (congrFun (bindAll _ hps) z).symm.trans (hK z hz hc)⟩
                    clear F2' F1' g12 hK2
                    k_dflt (refine' kst_range (σ := (Str × Tok) × (Str × Tok)) (n := 4) (m₀ := m0) (fun _ => (q6, listOf its6 n6) :: (q4, listOf its4 n4) :: (led ++ own)) (fun c => [(Str.ofString "one", .str c.1.1 c.1.2), (Str.ofString "other", .str c.2.1 c.2.2)]) (fun _ => True) [] (fun pre c => c.1.1 = oneAt ys b sends pre.length ∧ c.2.1 = otherAt ys b sends pre.length) ((joinP ys, ta), (joinP ys, tb)) ?c1 ?c2 ?c3 ?c4 ?c5 ?c6 trivial ?c8 ?c7 ?_ ?_; (case c1 => exact rfl); (case c2 => exact R2'); (case c3 => exact rfl); (case c4 => exact rfl); (case c5 => exact F3'); (case c6 => exact N2'); (case c8 => exact allB_mem ⟨gm0.1, gm0.2.1, trivial⟩); (case c7 => exact ⟨rfl, rfl⟩))
                    · rintro ⟨⟨x1, t1⟩, ⟨x2, t2⟩⟩ pre k t5 u h tk own2 rfl hlen hoff2 _ ⟨hx1, hx2⟩ F' N'
                      obtain ⟨M1, F1', gM, kM⟩ : ∃ M1, Fr s1.heap s1.heap.objs.size h M1 ∧ AllB M1 [(Str.ofString "hand", .int (1 + (pre.length : Int)) t5), (Str.ofString "one", .str x1 t1), (Str.ofString "other", .str x2 t2), (Str.ofString "sends", .bool sends), (Str.ofString "build", .str b t), (Str.ofString "first", .ref q4), (Str.ofString "second", .ref q6)] ∧ KeptBut (Str.ofString "hand") [Str.ofString "one", Str.ofString "other"] m0 M1 :=
                        ⟨_, F', ⟨rfl, rfl, rfl, gm0.2.2.1, gm0.2.2.2.1, gm0.2.2.2.2.1, gm0.2.2.2.2.2.1, trivial⟩, fun z hz hc => by
                          have n2 : z ≠ Str.ofString "one" := by rintro rfl; exact absurd hc (by decide +kernel)
                          have n3 : z ≠ Str.ofString "other" := by rintro rfl; exact absurd hc (by decide +kernel)
                          dsimp only [kstB]
                          rw [if_neg hz, if_neg n2, if_neg n3, if_neg (fun e => by cases e)]⟩
                      dsimp only [List.cons_append] at N' hx1 hx2
                      replace N' : News s1.heap s1.heap.objs.size h ((q6, listOf its6 n6) :: (q4, listOf its4 n4) :: (led ++ own ++ own2)) := N'
                      rw [bindAll _ gM] at F1'
                      dsimp only [kstB] at F1'
                      have hk4 : pre.length < 4 := hlen
                      obtain ⟨zs1, hz1⟩ : ∃ z, firstL ys b sends = z := ⟨_, rfl⟩
                      obtain ⟨zs2, hz2⟩ : ∃ z, secondL ys b sends = z := ⟨_, rfl⟩
                      obtain ⟨u1, hu1⟩ : ∃ z, Txt.join (Str.ofString ".") zs1 = z := ⟨_, rfl⟩
                      obtain ⟨u2, hu2⟩ : ∃ z, Txt.join (Str.ofString ".") zs2 = z := ⟨_, rfl⟩
                      obtain ⟨y1, hy1⟩ : ∃ z, dotP (eolP x1) = z := ⟨_, rfl⟩
                      obtain ⟨w1, hw1⟩ : ∃ z, eolP x1 = z := ⟨_, rfl⟩
                      obtain ⟨z1, hn1⟩ : ∃ z, normP y1 b = z := ⟨_, rfl⟩
                      obtain ⟨v1, hv1⟩ : ∃ z, normP w1 b = z := ⟨_, rfl⟩
                      obtain ⟨z2, hn2⟩ : ∃ z, normP x2 b = z := ⟨_, rfl⟩
                      obtain ⟨y2, hy2⟩ : ∃ z, dotP (eolP z2) = z := ⟨_, rfl⟩
                      obtain ⟨w2, hw2⟩ : ∃ z, eolP z2 = z := ⟨_, rfl⟩
                      have hj2 := pf.first_y
                      have hj3 := pf.second_y
                      have hj4 := pf.first_n
                      have hj5 : (secondL ys b sends).length ≤ 1000 := Nat.le_trans pf.second_n (by decide)
                      rw [hz1] at hj2 hj4 hS4
                      rw [hz2] at hj3 hj5 hS6
                      have FA := turn_facts (pf := pf) hk4 hx1 hx2 hz1 hz2 hu1 hu2 hy1 hw1 hn1 hv1 hn2 hy2 hw2
                      have hl1 := FA.len1
                      have hl2 := FA.len2
                      have ok2 := FA.ok2
                      clear hxl hxi hxn hxc hS hS2 hS3 hel hei he1 he2 he3 he4 hm2 hm3 h1 h2 h3 h4 h5 hoff hv hS5 hj1 R2' hK hps hoff2 hm1 PL PC pf hx1 hx2 hz1 hz2 F3' N2' F' gm0 hKm0
                      refine execs_cut0 (fun s' => ∃ h' tk M p1 r1 p2 r2, s' = { s1 with heap := h', toks := tk } ∧ Fr s1.heap s1.heap.objs.size h' M ∧ News s1.heap s1.heap.objs.size h' ((q6, listOf its6 n6) :: (q4, listOf its4 n4) :: (led ++ own ++ own2))
                          ∧ M (Str.ofString "hand") = some (.int (1 + (pre.length : Int)) t5) ∧ M (Str.ofString "one") = some (.str p1 r1) ∧ M (Str.ofString "other") = some (.str p2 r2) ∧ M (Str.ofString "first") = some (.ref q4) ∧ M (Str.ofString "second") = some (.ref q6) ∧ KeptBut (Str.ofString "hand") [Str.ofString "one", Str.ofString "other"] m0 M
                          ∧ (p1 = oneAt ys b sends (pre.length + 1) ∧ p2 = otherAt ys b sends (pre.length + 1)) ∧ ((2 : Int) < 1 + (pre.length : Int) → (p1 != u1) = false ∧ (p2 != u2) = false)) ?_ ?_
                      · rcases Bool.eq_false_or_eq_true sends with hs | hs
                        · have ok1 := FA.ok1 hs
                          k_steps
                          all_goals exact ⟨by first | rfl | trivial, _, _, _, _, _, _, _, rfl, by assumption, by assumption, rfl, rfl, rfl, rfl, rfl, kept_set (kept_set (kept_same kM gM) (by decide +kernel)) (by decide +kernel), FA.nx1 hs, FA.end1 hs⟩
                        · have ok1 := FA.ok0 hs
                          k_steps
                          all_goals exact ⟨by first | rfl | trivial, _, _, _, _, _, _, _, rfl, by assumption, by assumption, rfl, rfl, rfl, rfl, rfl, kept_set (kept_set (kept_same kM gM) (by decide +kernel)) (by decide +kernel), FA.nx0 hs, FA.end0 hs⟩
                      · clear F1' N' gM kM hy1 hw1 hn1 hv1 hn2 hy2 hw2 FA hl1 hl2 ok2
                        rintro s' ⟨h', tk, M, p1, r1, p2, r2, rfl, F', N', a1, a2, a3, a4, a5, kM, hP, hE⟩
                        have gM : AllB M [(Str.ofString "hand", .int (1 + (pre.length : Int)) t5), (Str.ofString "one", .str p1 r1), (Str.ofString "other", .str p2 r2), (Str.ofString "first", .ref q4), (Str.ofString "second", .ref q6)] := ⟨a1, a2, a3, a4, a5, trivial⟩
                        rw [bindAll _ gM] at F'
                        dsimp only [kstB] at F'
                        clear a1 a2 a3 a4 a5
                        rcases Classical.em ((2 : Int) < 1 + (pre.length : Int)) with h2 | h2
                        · have hE1 := (hE h2).1
                          have hE2 := (hE h2).2
                          clear hE
                          repeat' ((fail_if_success (with_reducible show InvEndN _ _ _ _ _ _ _)); first | (k_unfold; (try dsimp only)) | (k_end; wrow_close) | walk1 | (dsimp only; walk1) | (leave1; walk_say "STEP leave1"; try dsimp only) | fail "no step")
                          all_goals (
                            rename Fr s1.heap _ _ _ => F9
                            obtain ⟨ta9, tb9, g9⟩ := names_two F9 (a := Str.ofString "one") (b := Str.ofString "other") (x := p1) (y := p2) rfl rfl
                            k_dflt (refine kst_end ((p1, ta9), (p2, tb9)) F9 (by k_asm) (fun p hp => ?_) (fun p hp => .tail _ (.tail _ (List.mem_append_right _ hp))) rfl trivial (allB_mem g9) (fun z hz hp _ => ?_) ?_)
                            · rcases List.mem_cons.mp hp with rfl | hp
                              · exact .head _
                              · rcases List.mem_cons.mp hp with rfl | hp
                                · exact .tail _ (.head _)
                                · exact .tail _ (.tail _ (List.mem_append_left _ hp))
                            · have n2 : z ≠ Str.ofString "one" := hp _ (.head _)
                              have n3 : z ≠ Str.ofString "other" := hp _ (.tail _ (.head _))
                              exact (kept_same kM gM) z hz (by rw [Bool.eq_false_iff]; intro e; simp at e; rcases e with e | e; exact n2 e; exact n3 e)
                            · show p1 = oneAt ys b sends (pre ++ [_]).length ∧ p2 = otherAt ys b sends (pre ++ [_]).length
                              rw [List.length_append]; exact hP)
                        · clear hE
                          repeat' ((fail_if_success (with_reducible show InvEndN _ _ _ _ _ _ _)); first | (k_unfold; (try dsimp only)) | (k_end; wrow_close) | walk1 | (dsimp only; walk1) | (leave1; walk_say "STEP leave1"; try dsimp only) | fail "no step")
                          all_goals (
                            rename Fr s1.heap _ _ _ => F9
                            obtain ⟨ta9, tb9, g9⟩ := names_two F9 (a := Str.ofString "one") (b := Str.ofString "other") (x := p1) (y := p2) rfl rfl
                            k_dflt (refine kst_end ((p1, ta9), (p2, tb9)) F9 (by k_asm) (fun p hp => ?_) (fun p hp => .tail _ (.tail _ (List.mem_append_right _ hp))) rfl trivial (allB_mem g9) (fun z hz hp _ => ?_) ?_)
                            · rcases List.mem_cons.mp hp with rfl | hp
                              · exact .head _
                              · rcases List.mem_cons.mp hp with rfl | hp
                                · exact .tail _ (.head _)
                                · exact .tail _ (.tail _ (List.mem_append_left _ hp))
                            · have n2 : z ≠ Str.ofString "one" := hp _ (.head _)
                              have n3 : z ≠ Str.ofString "other" := hp _ (.tail _ (.head _))
                              exact (kept_same kM gM) z hz (by rw [Bool.eq_false_iff]; intro e; simp at e; rcases e with e | e; exact n2 e; exact n3 e)
                            · show p1 = oneAt ys b sends (pre ++ [_]).length ∧ p2 = otherAt ys b sends (pre ++ [_]).length
                              rw [List.length_append]; exact hP)
                    · clear hS hS2 hS3 hS4 hS5 hS6 hel hei he1 he2 he3 he4 h1 h2 h3 h4 h5 hoff PL PC pf F3' N2'
                      rintro ⟨⟨x1, t1⟩, ⟨x2, t2⟩⟩ u h tk _ _ F' N'
                      dsimp only [kstB, List.cons_append] at F' N'
                      repeat' ((fail_if_success (with_reducible show InvEndN _ _ _ _ _ _ _)); first | (k_unfold; (try dsimp only)) | (k_end; wrow_close) | walk1 | (dsimp only; walk1) | (leave1; walk_say "STEP leave1"; try dsimp only) | fail "no step")
                      k_dflt (refine tup_end (by k_asm) (by k_asm) (fun p hp => .tail _ (.tail _ (List.mem_append_left _ hp))) (fun p hp => .tail _ (.tail _ (List.mem_append_right _ hp))) ?_)
                      intro z hz hc
                      have n1 : z ≠ Str.ofString "hand" := by rintro rfl; exact absurd hc (by decide +kernel)
                      have n2 : z ≠ Str.ofString "one" := by rintro rfl; exact absurd hc (by decide +kernel)
                      have n3 : z ≠ Str.ofString "other" := by rintro rfl; exact absurd hc (by decide +kernel)
                      dsimp only
                      rw [if_neg n1, if_neg n2, if_neg n3, if_neg (fun e => by cases e)]
                      exact hKm0 z hz hc
            · clear F' N' hlt
              intro M1 h' tk' hK F' N'
              k_steps
end Mine
end

set_option maxRecDepth 100000 in
set_option maxHeartbeats 8000000 in
theorem PySem.Challenge.cw_pe0022_01_holds : PySem.Challenge.rw_pe0022_01.Holds := by
  exact Mine.lawWalk Mine.plainLaw Mine.parts_cls
