import PyProof.Rows.All
import Wide.All
import OpenK.AllK
import Wide.FinOn
import Lean
import PySem.Challenge.RW_xe0049_01
set_option Elab.async false
set_option rowWalk.seconds 0
set_option linter.all false
set_option genSizeOf false
set_option genInjectivity false
section
local macro_rules | `(tactic| walk_at $s:str) => `(tactic| k_extra $s)
local macro_rules | `(tactic| k_mem) => `(tactic| k_extra "k_mem9w")
local macro_rules | `(tactic| k_all) => `(tactic| k_extra "k_all9w")
section
local macro_rules | `(tactic| omega) => `(tactic| lia)
open PySem PySem.Sre
namespace Mine

noncomputable abbrev ipCode : Array Nat := #[14, 8, 1, 2, 4294967295, 1, 1, 46, 0, 16, 46, 24, 9, 1, 4294967295, 13, 4, 8, 0, 0, 1, 6, 5, 1]

noncomputable def mm (text : Array Nat) (start pc pos handed : Nat) (ob : Bool) (frames : List Sre.Frame) (weight : Nat) (answer : Option Bool) (seen : Seen) : M :=
  { code := ipCode, text, lim := text.size, start, lastStart := text.size, wholeText := false, mustAdvance := false, pc, pos, handed, outermost := ob,
    marks := #[], lastmark := -1, lastindex := -1, loops := #[], inner := none, frames, weight, answer, seen, outcome := none }

/-- from m in n steps to m' -/
noncomputable def To (n : Nat) (m m' : M) : Prop := ∀ k, M.runFor (n + k) m = M.runFor k m'

theorem To.refl (m : M) : To 0 m m := fun k => by rw [Nat.zero_add]
theorem To.step {m m' : M} (h : m.outcome.isSome = false) (e : m.step = m') : To 1 m m' := fun k => by
  rw [Nat.add_comm 1 k]; show (if m.outcome.isSome then m else M.runFor k m.step) = _; rw [h, e]; rfl
theorem To.trans {a b : Nat} {m m' m'' : M} (h : To a m m') (h' : To b m' m'') : To (a + b) m m'' := fun k => by
  rw [Nat.add_assoc, h, h']

noncomputable def fS (s : Nat) (ob : Bool) : Sre.Frame := { wait := .nextStart, pc := 9, pos := s, outermost := ob }
noncomputable def fG (p : Nat) (ob : Bool) (c : Int) : Sre.Frame := { wait := .giveBack, pc := 11, pos := p, outermost := ob, count := c, kept := { lastmark := -1, lastindex := -1, whole := false, marks := #[] } }

theorem acc15 (c : Nat) (seen : Seen) : ∃ s', Sre.accepts ipCode 15 c seen = .ok (isDigit c, s') := by
  have e : Sre.accepts ipCode 15 c seen = (do if ← (Except.map (fun b => b != false) (Except.ok (isDigit c)) : Except String Bool) then pure (true, (seen.add 8).add 55) else pure (false, ((seen.add 8).add 55).add 0)) := by kernel_rfl!
  rw [e]
  cases isDigit c <;> exact ⟨_, rfl⟩

noncomputable def runLen : List Nat → Nat
  | [] => 0
  | c :: r => if isDigit c then runLen r + 1 else 0

theorem getD_drop (text : Array Nat) (p : Nat) (h : p < text.size) : text.toList.drop p = text.getD p 0 :: text.toList.drop (p + 1) := by
  rw [List.drop_eq_getElem_cons (by simpa using h)]
  simp [Array.getD, h]

theorem dig (text : Array Nat) : ∀ (n p f : Nat) (seen : Seen), p + n ≤ text.size → ∃ seen', Sre.run ipCode text 15 n p f seen = .ok (f + runLen ((text.toList.drop p).take n), seen') := by
  intro n
  induction n with
  | zero => intro p f seen _; exact ⟨seen, rfl⟩
  | succ n ih =>
    intro p f seen hp
    obtain ⟨s', e⟩ := acc15 (text.getD p 0) seen
    have hd := getD_drop text p (by omega)
    rw [hd, List.take_succ_cons]
    have e0 : Sre.run ipCode text 15 (n + 1) p f seen = (do let (yes, seen) ← Sre.accepts ipCode 15 (text.getD p 0) seen; if yes then Sre.run ipCode text 15 n (p + 1) (f + 1) seen else pure (f, seen)) := rfl
    rw [e0, e]
    unfold runLen
    cases hc : isDigit (text.getD p 0) with
    | true =>
      obtain ⟨s2, e2⟩ := ih (p + 1) (f + 1) s' (by omega)
      refine ⟨s2, ?_⟩
      show Sre.run ipCode text 15 n (p + 1) (f + 1) s' = _
      rw [e2, if_pos rfl]
      congr 2; omega
    | false => exact ⟨s', rfl⟩

section
variable (text : Array Nat) (s p hd : Nat) (ob : Bool) (fr : List Sre.Frame) (wt : Nat) (seen : Seen)

theorem lit_e : (mm text s 9 p hd ob fr wt none seen).step = if p ≥ text.size then mm text s 9 p hd ob fr wt (some false) (seen.add 16) else
    (match (Except.ok (text.getD p 0 == 46, (seen.add 16)) : Except String (Bool × Seen)) with
      | .error why => (mm text s 9 p hd ob fr wt none (seen.add 16)).stick why
      | .ok (false, seen) => mm text s 9 p hd ob fr wt (some false) seen
      | .ok (true, seen) => mm text s 11 (p + 1) hd ob fr wt none seen) := by kernel_rfl!
theorem lit_no (h : p < text.size → text.getD p 0 ≠ 46) : To 1 (mm text s 9 p hd ob fr wt none seen) (mm text s 9 p hd ob fr wt (some false) (seen.add 16)) := by
  refine .step rfl ?_
  rw [lit_e]
  split
  · rfl
  · rename_i q
    have hc : (text.getD p 0 == 46) = false := by simp only [beq_eq_false_iff_ne]; exact h (by omega)
    rw [hc]
theorem lit_yes (h : p < text.size) (hc : text.getD p 0 = 46) : To 1 (mm text s 9 p hd ob fr wt none seen) (mm text s 11 (p + 1) hd ob fr wt none (seen.add 16)) := by
  refine .step rfl ?_
  rw [lit_e, if_neg (by omega)]
  have hc : (text.getD p 0 == 46) = true := by simp only [beq_iff_eq]; exact hc
  rw [hc]

theorem rep_e : (mm text s 11 p hd ob fr wt none seen).step = if ((1 : Nat) : Int) > (text.size : Int) - (p : Int) then mm text s 11 p hd ob fr wt (some false) (seen.add 24) else
    (match Sre.run ipCode text 15 (min 4294967295 ((text.size : Int) - (p : Int)).toNat) p 0 ((seen.add 24).add 13) with
      | .error why => (mm text s 11 p hd ob fr wt none (seen.add 24)).stick why
      | .ok (n, seen) => if n < 1 then mm text s 11 p hd ob fr wt (some false) seen else
        if wt + 1 + 0 > 16777216 then (mm text s 11 (p + n) hd ob fr wt none seen).stick "frames:memory" else mm text s 21 (p + n) (p + n) ob (fG (p + n) ob n :: fr) (wt + 1) none seen) := by kernel_rfl!
theorem rep_no (h : runLen (text.toList.drop p) = 0) (hp : p ≤ text.size) (hs : text.size < 4294967295) : ∃ seen', To 1 (mm text s 11 p hd ob fr wt none seen) (mm text s 11 p hd ob fr wt (some false) seen') := by
  by_cases hlt : p < text.size
  · obtain ⟨s2, e2⟩ := dig text (text.size - p) p 0 ((seen.add 24).add 13) (by omega)
    rw [List.take_of_length_le (by simp)] at e2
    rw [h] at e2
    refine ⟨s2, .step rfl ?_⟩
    have : min 4294967295 ((text.size : Int) - (p : Int)).toNat = text.size - p := by omega
    rw [rep_e, if_neg (by omega), this, e2]
    rfl
  · refine ⟨seen.add 24, .step rfl ?_⟩
    rw [rep_e, if_pos (by omega)]

theorem rep_yes (h : 0 < runLen (text.toList.drop p)) (_hp : p ≤ text.size) (hs : text.size < 4294967295) (hw : wt + 1 ≤ 16777216) :
    ∃ seen', To 1 (mm text s 11 p hd ob fr wt none seen) (mm text s 21 (p + runLen (text.toList.drop p)) (p + runLen (text.toList.drop p)) ob (fG (p + runLen (text.toList.drop p)) ob (runLen (text.toList.drop p)) :: fr) (wt + 1) none seen') := by
  have hlt : p < text.size := by
    rcases Nat.lt_or_ge p text.size with h1 | h1
    · exact h1
    · rw [List.drop_eq_nil_of_le (by simpa using h1)] at h; exact absurd h (by decide)
  obtain ⟨s2, e2⟩ := dig text (text.size - p) p 0 ((seen.add 24).add 13) (by omega)
  rw [List.take_of_length_le (by simp)] at e2
  refine ⟨s2, .step rfl ?_⟩
  have : min 4294967295 ((text.size : Int) - (p : Int)).toNat = text.size - p := by omega
  rw [rep_e, if_neg (by omega), this, e2]
  dsimp only
  rw [if_neg (by omega), Nat.zero_add, if_neg (by omega)]

theorem at_e : (mm text s 21 p hd ob fr wt none seen).step = if (p == text.size || (p + 1 == text.size && text.getD p 0 == 10)) then mm text s 23 p hd ob fr wt none ((seen.add 6).add 48) else mm text s 21 p hd ob fr wt (some false) ((seen.add 6).add 48) := by kernel_rfl!
theorem at_yes (h : p = text.size) : To 1 (mm text s 21 p hd ob fr wt none seen) (mm text s 23 p hd ob fr wt none ((seen.add 6).add 48)) := by
  refine .step rfl ?_
  rw [at_e, if_pos (by simp [h])]
theorem at_no (h : p < text.size) (hn : text.getD p 0 ≠ 10) : To 1 (mm text s 21 p hd ob fr wt none seen) (mm text s 21 p hd ob fr wt (some false) ((seen.add 6).add 48)) := by
  refine .step rfl ?_
  have : (p == text.size || (p + 1 == text.size && text.getD p 0 == 10)) = false := by
    have h1 : (p == text.size) = false := by simp only [beq_eq_false_iff_ne]; omega
    have h2 : (text.getD p 0 == 10) = false := by simpa only [beq_eq_false_iff_ne] using hn
    rw [h1, h2]; simp
  rw [at_e, this]; rfl
theorem succ_e : (mm text s 23 p hd ob fr wt none seen).step = if (ob && ((false && p != text.size) || (false && p == s))) = true then mm text s 23 p hd ob fr wt (some false) (seen.add 1) else mm text s 23 p p ob fr wt (some true) (seen.add 1) := by kernel_rfl!
theorem succ_yes : To 1 (mm text s 23 p hd ob fr wt none seen) (mm text s 23 p p ob fr wt (some true) (seen.add 1)) := by
  refine .step rfl ?_
  rw [succ_e, if_neg (by cases ob <;> simp)]
/-- the frames give the answer on -/
theorem give_yes (pc q : Nat) (ob' : Bool) (c : Int) : To 1 (mm text s pc p hd ob (fG q ob' c :: fr) (wt + 1) (some true) seen) (mm text s 11 q hd ob' fr wt (some true) seen) :=
  .step rfl (by kernel_rfl!)
theorem start_yes (pc q : Nat) (ob' : Bool) : To 1 (mm text s pc p hd ob (fS q ob' :: fr) (wt + 1) (some true) seen) (mm text s 9 q hd ob' fr wt (some true) seen) :=
  .step rfl (by kernel_rfl!)
theorem give_e (pc q : Nat) (ob' : Bool) (c : Int) : (mm text s pc p hd ob (fG q ob' c :: fr) (wt + 1) (some false) seen).step = if c - 1 < ((1 : Nat) : Int) then mm text s 11 q hd ob' fr wt (some false) seen else
    if wt + 1 + 0 > 16777216 then (mm text s 11 (q - 1) hd ob' fr wt none seen).stick "frames:memory" else mm text s 21 (q - 1) (q - 1) ob' (fG (q - 1) ob' (c - 1) :: fr) (wt + 1) none seen := by kernel_rfl!
theorem give_stop (pc q : Nat) (ob' : Bool) (c : Int) (hc : c - 1 < 1) : To 1 (mm text s pc p hd ob (fG q ob' c :: fr) (wt + 1) (some false) seen) (mm text s 11 q hd ob' fr wt (some false) seen) :=
  .step rfl (by rw [give_e, if_pos (by omega)])
theorem give_back (pc q : Nat) (ob' : Bool) (c : Int) (hc : ¬ c - 1 < 1) (hw : wt + 1 ≤ 16777216) : To 1 (mm text s pc p hd ob (fG q ob' c :: fr) (wt + 1) (some false) seen) (mm text s 21 (q - 1) (q - 1) ob' (fG (q - 1) ob' (c - 1) :: fr) (wt + 1) none seen) :=
  .step rfl (by rw [give_e, if_neg (by omega), if_neg (by omega)])
theorem start_e (pc q : Nat) (ob' : Bool) : (mm text s pc p hd ob (fS q ob' :: fr) (wt + 1) (some false) seen).step = if q < text.size then
    (if wt + 1 + 0 > 16777216 then (mm text (q + 1) 9 (q + 1) hd ob' fr wt none seen).stick "frames:memory" else mm text (q + 1) 9 (q + 1) (q + 1) false (fS (q + 1) false :: fr) (wt + 1) none seen) else mm text s 9 q hd ob' fr wt (some false) seen := by kernel_rfl!
theorem start_on (pc q : Nat) (ob' : Bool) (hq : q < text.size) (hw : wt + 1 ≤ 16777216) : To 1 (mm text s pc p hd ob (fS q ob' :: fr) (wt + 1) (some false) seen) (mm text (q + 1) 9 (q + 1) (q + 1) false (fS (q + 1) false :: fr) (wt + 1) none seen) :=
  .step rfl (by rw [start_e, if_pos hq, if_neg (by omega)])
theorem start_off (pc q : Nat) (ob' : Bool) (hq : ¬ q < text.size) : To 1 (mm text s pc p hd ob (fS q ob' :: fr) (wt + 1) (some false) seen) (mm text s 9 q hd ob' fr wt (some false) seen) :=
  .step rfl (by rw [start_e, if_neg hq])
end

theorem fin_e (text : Array Nat) (s pc p hd : Nat) (ob yes : Bool) (seen : Seen) : (mm text s pc p hd ob [] 0 (some yes) seen).step = { mm text s pc p hd ob [] 0 (some yes) seen with outcome := some (if yes then .matched else .failed) } := by kernel_rfl!

theorem search_e (text : Array Nat) : Sre.forSearch ipCode text 0 0 text.size false = if (decide (0 > text.size) || decide (text.size - 0 < 2)) = true then { mm text 0 9 0 0 true [] 0 (some false) (({} : Seen).add 14) with lastStart := 0 } else mm text 0 9 0 0 true [fS 0 true] 1 none (({} : Seen).add 14) := by kernel_rfl!

noncomputable def srchL : List Nat → Option Nat
  | [] => none
  | c :: r => if c = 46 ∧ r ≠ [] ∧ r.all Sre.isDigit = true then some 0 else (srchL r).map (· + 1)

theorem srchL_cons (c : Nat) (r : List Nat) : srchL (c :: r) = if c = 46 ∧ r ≠ [] ∧ r.all Sre.isDigit = true then some 0 else (srchL r).map (· + 1) := rfl
theorem runLen_le : ∀ l : List Nat, runLen l ≤ l.length
  | [] => Nat.le_refl _
  | c :: r => by unfold runLen; have := runLen_le r; split <;> simp <;> omega
theorem runLen_all : ∀ l : List Nat, runLen l = l.length ↔ l.all Sre.isDigit = true
  | [] => by simp [runLen]
  | c :: r => by
    unfold runLen
    have h1 := runLen_le r
    have ih := runLen_all r
    cases hc : Sre.isDigit c with
    | true => simp [hc, ih]
    | false => simp [hc]
theorem runLen_cons (c : Nat) (r : List Nat) : runLen (c :: r) = if Sre.isDigit c = true then runLen r + 1 else 0 := rfl
theorem runLen_digit (text : Array Nat) : ∀ (k p : Nat), k < runLen (text.toList.drop p) → Sre.isDigit (text.getD (p + k) 0) = true ∧ p + k < text.size := by
  intro k
  induction k with
  | zero =>
    intro p h
    rcases Nat.lt_or_ge p text.size with h1 | h1
    · rw [getD_drop text p h1, runLen_cons] at h
      by_cases q : Sre.isDigit (text.getD p 0) = true
      · exact ⟨q, h1⟩
      · rw [if_neg q] at h; exact absurd h (by decide)
    · rw [List.drop_eq_nil_of_le (by simpa using h1)] at h; simp [runLen] at h
  | succ k ih =>
    intro p h
    rcases Nat.lt_or_ge p text.size with h1 | h1
    · rw [getD_drop text p h1, runLen_cons] at h
      by_cases q : Sre.isDigit (text.getD p 0) = true
      · rw [if_pos q] at h
        have := ih (p + 1) (by omega)
        rw [show p + (k + 1) = p + 1 + k by omega]; exact this
      · rw [if_neg q] at h; exact absurd h (by omega)
    · rw [List.drop_eq_nil_of_le (by simpa using h1)] at h; simp [runLen] at h

/-- give back, all of them -/
theorem gives (text : Array Nat) (s hd : Nat) (ob ob' : Bool) (fr : List Sre.Frame) (p : Nat) : ∀ (c q pc pp : Nat) (hd : Nat) (seen : Seen), 1 ≤ c → q = p + c → q ≤ text.size → (∀ k, k < c → Sre.isDigit (text.getD (p + k) 0) = true) →
    ∃ n seen' hd' q', n ≤ 3 * c ∧ To n (mm text s pc pp hd ob (fG q ob' c :: fr) (1 + 1) (some false) seen) (mm text s 11 q' hd' ob' fr 1 (some false) seen') := by
  intro c
  induction c generalizing ob with
  | zero => intro _ _ _ _ _ h; omega
  | succ c ih =>
    intro q pc pp hd seen _ hq hqs hdg
    by_cases h1 : c = 0
    · subst h1
      exact ⟨1, _, _, _, by omega, give_stop text s pp hd ob fr 1 seen pc q ob' _ (by simp)⟩
    · have a := give_back text s pp hd ob fr 1 seen pc q ob' ((c + 1 : Nat) : Int) (by omega) (by omega)
      have hq1 : q - 1 = p + c := by omega
      have hdig := hdg c (by omega)
      have b := at_no text s (q - 1) (q - 1) ob' (fG (q - 1) ob' (((c + 1 : Nat) : Int) - 1) :: fr) (1 + 1) seen (by omega) (by
        rw [hq1]; intro e; rw [e] at hdig; exact absurd hdig (by decide))
      have e1 : ((c + 1 : Nat) : Int) - 1 = (c : Int) := by omega
      rw [e1] at a b
      obtain ⟨n, sn, hd', q', hn, t⟩ := ih ob' (q - 1) 21 (q - 1) (q - 1) _ (by omega) hq1 (by omega) (fun k hk => hdg k (by omega))
      exact ⟨1 + (1 + n), sn, hd', q', by omega, a.trans (b.trans t)⟩

/-- one start that fails -/
theorem start_fail (text : Array Nat) (hn : 10 ∉ text.toList) (hs : text.size < 4294967295) (s : Nat) (ob : Bool) (hd : Nat) (seen : Seen) (hle : s ≤ text.size) (h : srchL (text.toList.drop s) ≠ some 0) :
    ∃ n pc pp hd' seen', n ≤ 3 * text.size + 3 ∧ To n (mm text s 9 s hd ob [fS s ob] 1 none seen) (mm text s pc pp hd' ob [fS s ob] 1 (some false) seen') := by
  by_cases hc : s < text.size ∧ text.getD s 0 = 46
  · obtain ⟨h1, h2⟩ := hc
    have a := lit_yes text s s hd ob [fS s ob] 1 seen h1 h2
    rw [getD_drop text s h1, h2, srchL_cons] at h
    by_cases h0 : runLen (text.toList.drop (s + 1)) = 0
    · obtain ⟨sn, b⟩ := rep_no text s (s + 1) hd ob [fS s ob] 1 (seen.add 16) h0 (by omega) hs
      exact ⟨1 + 1, _, _, _, _, by omega, a.trans b⟩
    · obtain ⟨sn, b⟩ := rep_yes text s (s + 1) hd ob [fS s ob] 1 (seen.add 16) (by omega) (by omega) hs (by omega)
      have hne : s + 1 + runLen (text.toList.drop (s + 1)) ≠ text.size := by
        intro e
        apply h
        have hl : (text.toList.drop (s + 1)).length = text.size - (s + 1) := by simp
        have : runLen (text.toList.drop (s + 1)) = (text.toList.drop (s + 1)).length := by omega
        rw [if_pos ⟨rfl, by intro e2; rw [e2] at h0; exact h0 rfl, (runLen_all _).mp this⟩]
      have hl := runLen_le (text.toList.drop (s + 1))
      have hl2 : (text.toList.drop (s + 1)).length = text.size - (s + 1) := by simp
      have c := at_no text s (s + 1 + runLen (text.toList.drop (s + 1))) (s + 1 + runLen (text.toList.drop (s + 1))) ob (fG (s + 1 + runLen (text.toList.drop (s + 1))) ob (runLen (text.toList.drop (s + 1))) :: [fS s ob]) (1 + 1) sn (by omega) (by
        intro e
        apply hn
        rw [← e]
        have hb : s + 1 + runLen (text.toList.drop (s + 1)) < text.size := by omega
        simp [Array.getD, hb])
      obtain ⟨n, sn', hd', q', hnn, t⟩ := gives text s hd ob ob [fS s ob] (s + 1) (runLen (text.toList.drop (s + 1))) (s + 1 + runLen (text.toList.drop (s + 1))) 21 (s + 1 + runLen (text.toList.drop (s + 1))) (s + 1 + runLen (text.toList.drop (s + 1))) _ (by omega) rfl (by omega)
        (fun k hk => (runLen_digit text k (s + 1) hk).1)
      exact ⟨1 + (1 + (1 + n)), _, _, _, _, by omega, a.trans (b.trans (c.trans t))⟩
  · have a := lit_no text s s hd ob [fS s ob] 1 seen (fun h1 h2 => hc ⟨h1, h2⟩)
    exact ⟨1, _, _, _, _, by omega, a⟩

/-- one start that matches -/
theorem start_match (text : Array Nat) (hs : text.size < 4294967295) (s : Nat) (ob : Bool) (hd : Nat) (seen : Seen) (h : srchL (text.toList.drop s) = some 0) (hle : s ≤ text.size) :
    ∃ n pc pp seen', n ≤ 10 ∧ To n (mm text s 9 s hd ob [fS s ob] 1 none seen) (mm text s pc pp text.size ob [] 0 (some true) seen') := by
  have h1 : s < text.size := by
    rcases Nat.lt_or_ge s text.size with h1 | h1
    · exact h1
    · rw [List.drop_eq_nil_of_le (by simpa using h1)] at h; cases h
  rw [getD_drop text s h1, srchL_cons] at h
  by_cases q : text.getD s 0 = 46 ∧ List.drop (s + 1) text.toList ≠ [] ∧ (List.drop (s + 1) text.toList).all Sre.isDigit = true
  · obtain ⟨q1, q2, q3⟩ := q
    have a := lit_yes text s s hd ob [fS s ob] 1 seen h1 q1
    have hl : (text.toList.drop (s + 1)).length = text.size - (s + 1) := by simp
    have hr := (runLen_all _).mpr q3
    have hpos : 0 < (text.toList.drop (s + 1)).length := List.length_pos_iff.mpr q2
    obtain ⟨sn, b⟩ := rep_yes text s (s + 1) hd ob [fS s ob] 1 (seen.add 16) (by omega) (by omega) hs (by omega)
    have he : s + 1 + runLen (text.toList.drop (s + 1)) = text.size := by omega
    rw [he] at b
    have c := at_yes text s text.size text.size ob (fG text.size ob (runLen (text.toList.drop (s + 1))) :: [fS s ob]) (1 + 1) sn rfl
    have d := succ_yes text s text.size text.size ob (fG text.size ob (runLen (text.toList.drop (s + 1))) :: [fS s ob]) (1 + 1) ((sn.add 6).add 48)
    have e := give_yes text s text.size text.size ob [fS s ob] 1 (((sn.add 6).add 48).add 1) 23 text.size ob (runLen (text.toList.drop (s + 1)))
    have f := start_yes text s text.size text.size ob [] 0 (((sn.add 6).add 48).add 1) 11 s ob
    exact ⟨1 + (1 + (1 + (1 + (1 + 1)))), _, _, _, by omega, a.trans (b.trans (c.trans (d.trans (e.trans f))))⟩
  · exfalso
    rw [if_neg q] at h
    revert h
    generalize srchL (text.toList.drop (s + 1)) = r
    cases r <;> simp

/-- the whole search -/
theorem search_go (text : Array Nat) (hn : 10 ∉ text.toList) (hs : text.size < 4294967295) : ∀ (k s : Nat) (ob : Bool) (hd : Nat) (seen : Seen), text.size - s = k → s ≤ text.size →
    ∃ n m', n ≤ (k + 1) * (3 * text.size + 20) ∧ To n (mm text s 9 s hd ob [fS s ob] 1 none seen) m' ∧
      match srchL (text.toList.drop s) with
      | some j => m'.outcome = some .matched ∧ m'.start = s + j ∧ m'.handed = text.size ∧ m'.lastmark = -1 ∧ m'.lastindex = -1 ∧ m'.marks = #[]
      | none => m'.outcome = some .failed := by
  intro k
  induction k with
  | zero =>
    intro s ob hd seen hk hle
    have hse : s = text.size := by omega
    have hd0 : text.toList.drop s = [] := List.drop_eq_nil_of_le (by simp [hse])
    obtain ⟨n, pc, pp, hd', sn, hn', t⟩ := start_fail text hn hs s ob hd seen hle (by rw [hd0]; simp [srchL])
    have u := start_off text s pp hd' ob [] 0 sn pc s ob (by omega)
    have f : To 1 _ _ := .step rfl (fin_e text s 9 s hd' ob false sn)
    refine ⟨n + (1 + 1), _, by omega, t.trans (u.trans f), ?_⟩
    rw [hd0]; rfl
  | succ k ih =>
    intro s ob hd seen hk hle
    by_cases h0 : srchL (text.toList.drop s) = some 0
    · obtain ⟨n, pc, pp, sn, hn', t⟩ := start_match text hs s ob hd seen h0 hle
      have f : To 1 _ _ := .step rfl (fin_e text s pc pp text.size ob true sn)
      refine ⟨n + 1, _, by have : 1 * (3 * text.size + 20) ≤ (k + 1 + 1) * (3 * text.size + 20) := Nat.mul_le_mul_right _ (by omega)
                           omega, t.trans f, ?_⟩
      rw [h0]; exact ⟨rfl, rfl, rfl, rfl, rfl, rfl⟩
    · obtain ⟨n, pc, pp, hd', sn, hn', t⟩ := start_fail text hn hs s ob hd seen hle h0
      have u := start_on text s pp hd' ob [] 0 sn pc s ob (by omega) (by omega)
      obtain ⟨n2, m', hn2, t2, r⟩ := ih (s + 1) false (s + 1) sn (by omega) (by omega)
      refine ⟨n + (1 + n2), m', by rw [Nat.succ_mul (k + 1)]; omega, t.trans (u.trans t2), ?_⟩
      have hsl : s < text.size := by omega
      have e : srchL (text.toList.drop s) = (srchL (text.toList.drop (s + 1))).map (· + 1) := by
        rw [getD_drop text s hsl, srchL_cons] at h0 ⊢
        by_cases q : text.getD s 0 = 46 ∧ List.drop (s + 1) text.toList ≠ [] ∧ (List.drop (s + 1) text.toList).all Sre.isDigit = true
        · rw [if_pos q] at h0; exact absurd rfl h0
        · rw [if_neg q]
      rw [e]
      cases hq : srchL (text.toList.drop (s + 1)) with
      | none => rw [hq] at r; exact r
      | some j =>
        rw [hq] at r
        obtain ⟨r1, r2, r3⟩ := r
        exact ⟨r1, by rw [r2]; show s + 1 + j = s + (j + 1); omega, r3⟩

theorem search_all (text : Array Nat) (hn : 10 ∉ text.toList) (hs : text.size < 4294967295) : ∃ n m', n ≤ (text.size + 1) * (3 * text.size + 20) ∧ To n (Sre.forSearch ipCode text 0 0 text.size false) m' ∧
      match srchL text.toList with
      | some j => m'.outcome = some .matched ∧ m'.start = j ∧ m'.handed = text.size ∧ m'.lastmark = -1 ∧ m'.lastindex = -1 ∧ m'.marks = #[]
      | none => m'.outcome = some .failed := by
  rw [search_e]
  split
  · rename_i q
    have hsz : text.size < 2 := by simpa using q
    refine ⟨1, _, ?_, .step rfl rfl, ?_⟩
    · have := Nat.mul_le_mul (show 1 ≤ text.size + 1 by omega) (show 1 ≤ 3 * text.size + 20 by omega)
      omega
    · have : srchL text.toList = none := by
        obtain ⟨l⟩ := text
        simp only [List.size_toArray] at hsz
        match l, hsz with
        | [], _ => rfl
        | [c], _ => simp [srchL]
      rw [this]; rfl
  · obtain ⟨n, m', h1, h2, h3⟩ := search_go text hn hs text.size 0 true 0 (({} : Seen).add 14) (by omega) (by omega)
    refine ⟨n, m', h1, h2, ?_⟩
    rw [List.drop_zero] at h3
    revert h3
    cases srchL text.toList with
    | none => exact id
    | some j => rintro ⟨a, b, c⟩; exact ⟨a, by omega, c⟩
end Mine
end

section
open PySem PySem.W PyProof.Rows
set_option Elab.async false
set_option maxRecDepth 100000
set_option maxHeartbeats 8000000
namespace Mine
open_top hd for PySem.Challenge.rw_xe0049_01
theorem off9 : True := by
  w_top off
  trivial
end Mine
end

section
open PySem PySem.W PyProof.Rows PySem.Calls
set_option Elab.async false
set_option maxRecDepth 100000
set_option maxHeartbeats 8000000
namespace Mine

theorem slot_search : Slot "re.Pattern" "search" "re.Pattern.search" := .of (owner := "re.Pattern") (n := "search") (by rw [typeLookup_type, builtinLookup_eq_fast]; kernel_rfl) (by decide +kernel) (by decide +kernel) (by decide +kernel)
    (by first | exact .inl (by decide +kernel) | exact .inr (by decide +kernel)) (by rw [isSubtype_type]; kernel_rfl)
theorem type_search : typeOf (.builtin "re.Pattern.search") = pure (.type "method_descriptor") := by show builtinType _ = _; rw [builtinType_eq_fast]; kernel_rfl
theorem entry_search : entryFor table "re.Pattern.search" = some Builtin.«re.Pattern.search» := entryFor_of_tree (by kernel_rfl)
theorem args_search (a b : Value) : argsOk "re.Pattern.search" ⟨[a, b], []⟩ := by unfold argsOk; kernel_rfl
theorem plain_pattern : PlainAttrs "re.Pattern" :=
  ⟨⟨"object.__getattribute__", by rw [typeLookup_type, builtinLookup_eq_fast]; kernel_rfl, by decide +kernel⟩, by rw [typeLookup_type, builtinLookup_eq_fast]; kernel_rfl⟩

theorem slot_span : Slot "re.Match" "span" "re.Match.span" := .of (owner := "re.Match") (n := "span") (by rw [typeLookup_type, builtinLookup_eq_fast]; kernel_rfl) (by decide +kernel) (by decide +kernel) (by decide +kernel)
    (by first | exact .inl (by decide +kernel) | exact .inr (by decide +kernel)) (by rw [isSubtype_type]; kernel_rfl)
theorem type_span : typeOf (.builtin "re.Match.span") = pure (.type "method_descriptor") := by show builtinType _ = _; rw [builtinType_eq_fast]; kernel_rfl
theorem entry_span : entryFor table "re.Match.span" = some Builtin.«re.Match.span» := entryFor_of_tree (by kernel_rfl)
theorem args_span (a b : Value) : argsOk "re.Match.span" ⟨[a, b], []⟩ := by unfold argsOk; kernel_rfl
theorem plain_match : PlainAttrs "re.Match" :=
  ⟨⟨"object.__getattribute__", by rw [typeLookup_type, builtinLookup_eq_fast]; kernel_rfl, by decide +kernel⟩, by rw [typeLookup_type, builtinLookup_eq_fast]; kernel_rfl⟩
theorem match_bool : typeLookup (.type "re.Match") "__bool__" = pure none := by rw [typeLookup_type, builtinLookup_eq_fast]; kernel_rfl
theorem match_len : typeLookup (.type "re.Match") "__len__" = pure none := by rw [typeLookup_type, builtinLookup_eq_fast]; kernel_rfl

noncomputable abbrev patObj (t u : Tok) : Obj := { cls := .type "re.Pattern", data := .fields #[Value.str (Str.ofString "\\.\\d+$") t, Value.int 256 u, Value.int 0 0, Value.none, Value.none, Value.ref 49, Value.int 0 0] }
theorem pat_K (P : Params) : (hd.heap_39 P).lookup 50 = some (patObj 301 328) := by kernel_rfl!
open PySem.Builtin.Re in
theorem target_looks {M : Model} {h : Heap} {P : Params} (X : (hd.heap_39 P).In h) (x : Str) (t : Tok) :
    Looks M h (reTarget "re.Pattern.search" "search" ⟨[.ref 50, .str x t], []⟩) { pattern := .ref 50, string := .str x t, code := ipCode, text := x.cps, kind := 0, groups := 0, pos := 0, lim := min (2 ^ 63 - 1 : Int).toNat x.cps.size } :=
  Looks.of_peek X (by kernel_rfl!)

noncomputable abbrev tupO (l : List Value) : Obj := { cls := .type "tuple", data := .seq l.toArray }
noncomputable abbrev matchO (x : Str) (t : Tok) (mt : Addr) : Obj := { cls := .type "re.Match", data := .fields #[.str x t, .ref 50, .int 0 0, .int x.length 0, .int (-1) 0, .ref mt] }

section
variable {prog : Program} {w : World} {A : Around} {E : Value → Shared → Prop} {s : Shared} {P : Params} {h₀ : Heap} {L : Addr} {m : Str → Option Value} {news : List (Addr × Obj)} {x : Str} {t : Tok}

theorem drive_go {M : Model} {Q : Sre.M → Shared → Prop} : ∀ (n turns : Nat) (m m' : Sre.M), n ≤ turns → 0 < turns → (∀ k, Sre.M.runFor (n + k) m = Sre.M.runFor k m') → m'.outcome.isSome = true → Q m' s →
    wpAny M A (PySem.Builtin.Re.reDrive turns m) Q E s := by
  intro n
  induction n using Nat.strongRecOn with
  | _ n ih =>
    intro turns m m' hle hpos h ho hq
    have stop : ∀ k, Sre.M.runFor k m' = m' := fun k => by
      cases k with
      | zero => rfl
      | succ k => show (if m'.outcome.isSome then m' else _) = _; rw [if_pos ho]
    match turns, hpos with
    | turns + 1, _ =>
      unfold PySem.Builtin.Re.reDrive
      dsimp only
      by_cases h4 : n ≤ 4
      · have e : Sre.M.runFor PySem.Builtin.Re.reTurnSteps m = m' := by
          show Sre.M.runFor 4 m = m'
          rw [show 4 = n + (4 - n) by omega, h, stop]
        rw [e, ho, if_pos rfl]
        exact wpAny_pure hq
      · split
        · rename_i q
          have e : Sre.M.runFor PySem.Builtin.Re.reTurnSteps m = m' := by
            have a : ∀ k j (m : Sre.M), Sre.M.runFor (k + j) m = Sre.M.runFor j (Sre.M.runFor k m) := by
              intro k
              induction k with
              | zero => intro j m; rw [Nat.zero_add]; rfl
              | succ k ihk =>
                intro j m
                rw [Nat.add_right_comm]
                show (if m.outcome.isSome then m else Sre.M.runFor (k + j) m.step) = Sre.M.runFor j (if m.outcome.isSome then m else Sre.M.runFor k m.step)
                split
                · rename_i q
                  cases j with
                  | zero => rfl
                  | succ j => show m = (if m.outcome.isSome then m else _); rw [if_pos q]
                · exact ihk j m.step
            have b := a PySem.Builtin.Re.reTurnSteps (n - 4) m
            have c : PySem.Builtin.Re.reTurnSteps + (n - 4) = n + 0 := by show 4 + (n - 4) = n + 0; omega
            rw [c, h] at b
            have d : ∀ k, Sre.M.runFor k (Sre.M.runFor PySem.Builtin.Re.reTurnSteps m) = Sre.M.runFor PySem.Builtin.Re.reTurnSteps m := fun k => by
              cases k with
              | zero => rfl
              | succ k => show (if (Sre.M.runFor PySem.Builtin.Re.reTurnSteps m).outcome.isSome then _ else _) = _; rw [if_pos q]
            rw [d] at b
            exact b.symm
          rw [e]; exact wpAny_pure hq
        · refine wpAny_bind (wpAny_rule ?_)
          refine ih (n - 4) (by omega) turns _ m' (by omega) (by omega) ?_ ho hq
          intro k
          have a : ∀ k j (m : Sre.M), Sre.M.runFor (k + j) m = Sre.M.runFor j (Sre.M.runFor k m) := by
            intro k
            induction k with
            | zero => intro j m; rw [Nat.zero_add]; rfl
            | succ k ihk =>
              intro j m
              rw [Nat.add_right_comm]
              show (if m.outcome.isSome then m else Sre.M.runFor (k + j) m.step) = Sre.M.runFor j (if m.outcome.isSome then m else Sre.M.runFor k m.step)
              split
              · rename_i q
                cases j with
                | zero => rfl
                | succ j => show m = (if m.outcome.isSome then m else _); rw [if_pos q]
              · exact ihk j m.step
          have b := a 4 (n - 4 + k) m
          rw [show 4 + (n - 4 + k) = n + k by omega, h] at b
          exact b.symm

theorem rules_go {M : Model} {Q : PUnit → Shared → Prop} (m : Sre.M) (h : Q () s) : ∀ (l : List Nat),
    wpAny M A (forIn l PUnit.unit fun i _ => do if m.seen.has i = true then (do rule (Sre.names.getD i ""); pure (ForInStep.yield PUnit.unit)) else pure (ForInStep.yield PUnit.unit)) Q E s := by
  intro l
  induction l with
  | nil => exact wpAny_pure h
  | cons a l ih =>
    rw [List.forIn_cons]
    split
    · exact wpAny_bind (wpAny_bind (wpAny_rule (wpAny_pure ih)))
    · exact wpAny_bind (wpAny_pure ih)

theorem run_go {M : Model} {Q : Option Sre.M → Shared → Prop} (hn : 10 ∉ x.cps.toList) (hs : x.length ≤ 1000)
    (h : ∀ m', (match srchL x.cps.toList with
      | some j => m'.outcome = some .matched ∧ m'.start = j ∧ m'.handed = x.cps.size ∧ m'.lastmark = -1 ∧ m'.lastindex = -1 ∧ m'.marks = #[]
      | none => m'.outcome = some .failed) → Q (if (srchL x.cps.toList).isSome then some m' else none) s) :
    wpAny M A (PySem.Builtin.Re.reRunToEnd (Sre.forSearch ipCode x.cps 0 0 x.cps.size false)) Q E s := by
  have hs' : x.cps.size ≤ 1000 := hs
  obtain ⟨n, m', hle, hto, r⟩ := search_all x.cps hn (by omega)
  have hle' : (x.cps.size + 1) * (3 * x.cps.size + 20) ≤ 1001 * 3020 := Nat.mul_le_mul (by omega) (by omega)
  unfold PySem.Builtin.Re.reRunToEnd
  have ho : m'.outcome.isSome = true := by
    cases hq : srchL x.cps.toList with
    | none => rw [hq] at r; rw [r]; rfl
    | some j => rw [hq] at r; rw [r.1]; rfl
  refine wpAny_bind (drive_go n (2 ^ 64) _ m' (by omega) (by decide) hto ho ?_)
  refine wpAny_bind (wpAny_mono (rules_go (Q := fun _ s' => s' = s) m' rfl _) (fun _ s' e => ?_) fun _ _ e => e)
  subst e
  have hh := h m' r
  cases hq : srchL x.cps.toList with
  | none => rw [hq] at r hh; rw [r]; exact wpAny_pure hh
  | some j => rw [hq] at r hh; rw [r.1]; exact wpAny_pure hh

end
end Mine
end

section
open PySem PySem.W PyProof.Rows PySem.Calls
set_option Elab.async false
set_option maxRecDepth 100000
set_option maxHeartbeats 8000000
namespace Mine
section
variable {prog : Program} {w : World} {A : Around} {E : Value → Shared → Prop} {s : Shared} {P : Params} {h₀ : Heap} {L : Addr} {m : Str → Option Value} {news : List (Addr × Obj)} {x : Str} {t : Tok}
theorem match_new {M : Model} (F : Fr h₀ L s.heap m) (N : News h₀ L s.heap news) {Q : Value → Shared → Prop} (m' : Sre.M) (j : Nat)  (r2 : m'.start = j) (r3 : m'.handed = x.cps.size) (r5 : m'.lastindex = -1)
    (h1 : ∀ mt mo h', Fr h₀ L h' m → News h₀ L h' ((mo, matchO x t mt) :: (mt, tupO [.int j 0, .int x.length 0]) :: news) → (∀ p ∈ news, p.1 < mt) → mt < mo → Q (.ref mo) { s with heap := h' }) :
    wpAny M A (PySem.Builtin.Re.reNewMatch (.ref 50) (.str x t) 0 0 x.cps.size m') Q E s := by
  unfold PySem.Builtin.Re.reNewMatch
  dsimp only
  rw [r2, r3, r5]
  show wpAny M A (newTuple [.int j 0, .int x.length 0] >>= fun tp => newFields "re.Match" [.str x t, .ref 50, .int 0 0, .int x.length 0, .int (-1) 0, tp]) Q E s
  refine wpAny_bind (newTuple_N F N (fun h1' F1 N1 => ?_) (by show 2 ≤ sizeLine; decide))
  refine wpAny_newObj_type (h1 _ _ _ (F1.push _) (N1.push F1 _) (fun p hp => Heap.lt_size (N p hp).1) ?_) (by show 6 ≤ sizeLine + 2; decide)
  exact Heap.lt_size (N1 _ (.head _)).1

theorem search_call (X : (hd.heap_39 P).In s.heap) (F : Fr h₀ L s.heap m) (N : News h₀ L s.heap news) (hn : 10 ∉ x.cps.toList) (hs : x.length ≤ 1000) {Q : Value → Shared → Prop}
    (h0 : srchL x.cps.toList = none → Q .none s)
    (h1 : ∀ j mt mo h', srchL x.cps.toList = some j → Fr h₀ L h' m → News h₀ L h' ((mo, matchO x t mt) :: (mt, tupO [.int j 0, .int x.length 0]) :: news) → (∀ p ∈ news, p.1 < mt) → mt < mo → Q (.ref mo) { s with heap := h' }) :
    wpAny (model prog w) A (call (.builtin "re.Pattern.search") [.ref 50, .str x t]) Q E s := by
  have hT : s.TypeIs (.ref 50) "re.Pattern" := ⟨_, X _ _ (pat_K P), rfl⟩
  have hs' : x.cps.size ≤ 1000 := hs
  have hlim : min (2 ^ 63 - 1 : Int).toNat x.cps.size = x.cps.size := by
    have : (2 ^ 63 - 1 : Int).toNat = 9223372036854775807 := rfl
    omega
  refine wpAny_call_entry slot_search hT entry_search ?_ (args_search _ _)
  unfold Builtin.«re.Pattern.search»
  refine wpAny_bind ((target_looks X x t).here ?_)
  unfold PySem.Builtin.Re.reAnswer
  rw [hlim]
  refine wpAny_bind (run_go hn hs fun m' r => ?_)
  cases hq : srchL x.cps.toList with
  | none => exact wpAny_pure ⟨_, rfl, h0 hq⟩
  | some j =>
    rw [hq] at r
    obtain ⟨r1, r2, r3, r4, r5, r6⟩ := r
    exact wpAny_bind (match_new F N m' j r2 r3 r5 fun mt mo h' F' N' l1 l2 => wpAny_pure ⟨_, rfl, h1 j mt mo h' hq F' N' l1 l2⟩)

theorem search_get (X : (hd.heap_39 P).In s.heap) {M : Model} {pl : Sem Bool} {Q : Value × List Value → Shared → Prop} (h : Q (.builtin "re.Pattern.search", [.ref 50]) s) : wpAny M A (getMethod (.ref 50) (Str.ofString "search") pl) Q E s :=
  getMethod_builtin ⟨_, X _ _ (pat_K P), rfl⟩ plain_pattern slot_search type_search (fun a e => by cases e; exact ⟨_, X _ _ (pat_K P), rfl⟩) h

theorem span_get {mo mt : Addr} (N : News h₀ L s.heap news) (hm : (mo, matchO x t mt) ∈ news) {M : Model} {pl : Sem Bool} {Q : Value × List Value → Shared → Prop} (h : Q (.builtin "re.Match.span", [.ref mo]) s) : wpAny M A (getMethod (.ref mo) (Str.ofString "span") pl) Q E s :=
  getMethod_builtin ⟨_, (N _ hm).1, rfl⟩ plain_match slot_span type_span (fun a e => by cases e; exact ⟨_, (N _ hm).1, rfl⟩) h

theorem truthy_match {M : Model} {mo mt : Addr} (N : News h₀ L s.heap news) (hm : (mo, matchO x t mt) ∈ news) {Q : Bool → Shared → Prop} (h : Q true s) : wpAny M A (truthy (.ref mo)) Q E s := by
  have hT : s.TypeIs (.ref mo) "re.Match" := ⟨_, (N _ hm).1, rfl⟩
  unfold truthy callSpecial? specialOf
  have l1 : Looks M s.heap (typeOf (.ref mo)) (.type "re.Match") := (Looks.ld (part := none) (N _ hm).1).andThen .now
  have l2 : Looks M s.heap (typeLookup (.type "re.Match") "__bool__") none := Looks.of_pure match_bool
  have l3 : Looks M s.heap (typeLookup (.type "re.Match") "__len__") none := Looks.of_pure match_len
  obtain ⟨hh, g, d, tk, os⟩ := s
  dsimp only at l1 l2 l3
  repeat lk
  exact h

open PySem.Builtin.Re in
theorem span_call (F : Fr h₀ L s.heap m) (N : News h₀ L s.heap news) {mo mt : Addr} {j : Nat} {u : Tok} (hm : (mo, matchO x t mt) ∈ news) (ht : (mt, tupO [.int j 0, .int x.length 0]) ∈ news) {Q : Value → Shared → Prop}
    (h : ∀ a h' t1 t2 tk, Fr h₀ L h' m → News h₀ L h' ((a, tupO [.int j t1, .int x.length t2]) :: news) → (∀ p ∈ news, p.1 < a) → Q (.ref a) { s with heap := h', toks := tk }) :
    wpAny (model prog w) A (call (.builtin "re.Match.span") [.ref mo, .int 0 u]) Q E s := by
  have hT : s.TypeIs (.ref mo) "re.Match" := ⟨_, (N _ hm).1, rfl⟩
  have e1 := (N _ hm).1
  have e2 := (N _ ht).1
  refine wpAny_call_entry slot_span hT entry_span ?_ (args_span _ _)
  unfold Builtin.«re.Match.span» reOneGroup
  obtain ⟨hh, g, d, tk, os⟩ := s
  dsimp only at e1 e2 F N
  repeat lk
  rw [if_neg (by simp)]
  have e3 : Array.map PySem.Builtin.Re.reRawOf ((some #[Value.int (↑j) 0, Value.int (↑x.length) 0]).getD #[]) = #[(j : Int), (x.length : Int)] := by simp [PySem.Builtin.Re.reRawOf]
  rw [e3]
  refine wpAny_pure (wpAny_pure ?_)
  dsimp only
  refine wpAny_bind (wpAny_mkInt (wpAny_bind (wpAny_mkInt ?_)))
  refine wpAny_bind (newTuple_N (vs := [.int j _, .int x.length _]) F N (fun h' F' N' => ?_) (by show 2 ≤ sizeLine; decide))
  exact wpAny_pure ⟨_, rfl, h _ _ _ _ _ F' N' (fun p hp => Heap.lt_size (N p hp).1)⟩
end
end Mine
end

section
open PySem PySem.W PyProof.Rows PySem.Calls Builtin Builtin.ObjectAttr Builtin.Getset_descriptor
set_option Elab.async false
set_option maxRecDepth 100000
set_option maxHeartbeats 8000000
namespace Mine
theorem slot_match_ga : Slot "re.Match" "__getattribute__" "object.__getattribute__" := .of (owner := "object") (n := "__getattribute__") (by rw [typeLookup_type, builtinLookup_eq_fast]; kernel_rfl) (by decide +kernel) (by decide +kernel) (by decide +kernel)
    (by first | exact .inl (by decide +kernel) | exact .inr (by decide +kernel)) (by rw [isSubtype_type]; kernel_rfl)
theorem lk_string : typeLookup (.type "re.Match") "string" = pure (some (.builtin "re.Match.string")) := by rw [typeLookup_type, builtinLookup_eq_fast]; kernel_rfl
theorem type_string : typeOf (.builtin "re.Match.string") = pure (.type "member_descriptor") := by show builtinType _ = _; rw [builtinType_eq_fast]; kernel_rfl
theorem mem_set : ∃ id, typeLookup (.type "member_descriptor") "__set__" = pure (some (.builtin id)) := ⟨"member_descriptor.__set__", by rw [typeLookup_type, builtinLookup_eq_fast]; kernel_rfl⟩
theorem entry_string : entryFor table "re.Match.string" = some Builtin.«re.Match.string» := entryFor_of_tree (by kernel_rfl)
theorem owner_string : descrOwnerAndName "re.Match.string" = ("re.Match", "string") := by decide +kernel
theorem sub_match : isSubtype (.type "re.Match") (.type "re.Match") = pure true := by rw [isSubtype_type]; kernel_rfl
section
variable {prog : Program} {w : World} {A : Around} {E : Value → Shared → Prop} {s : Shared} {P : Params} {h₀ : Heap} {L : Addr} {m : Str → Option Value} {news : List (Addr × Obj)} {x : Str} {t : Tok}

theorem string_get {mo mt : Addr} {R : Result → Shared → Prop} (ho : s.heap.get? mo = some (matchO x t mt)) (h : R (.ok (.ret (.str x t))) s) :
    codeAny (model prog w) A (.call (.builtin "member_descriptor.__get__") ⟨[.builtin "re.Match.string", .ref mo, .type "re.Match"], []⟩) R s := by
  obtain ⟨hh, g, d, tk, os⟩ := s
  dsimp only at ho
  refine codeAny_call_builtin KF.slot_mem.plain KF.entry_mem (KF.slot_mem.check _ _ _ _ _ _ _ _ type_string (KF.args_mem _ _ _) ?_)
  have l1 : Looks (model prog w) hh (typeOf (.ref mo)) (.type "re.Match") := (Looks.ld (part := none) ho).andThen .now
  have l2 : Looks (model prog w) hh (isSubtype (.type "re.Match") (.type "re.Match")) true := Looks.of_pure sub_match
  unfold Builtin.«member_descriptor.__get__» descrGet
  rw [dga_obj]
  refine wpAny_bind (wpAny_pure ?_)
  unfold descrGetter descrCheckInstance descrNameAndClass isInstance
  simp only [owner_string]
  repeat lk
  refine ⟨Code.quiet_builtin _ (by decide +kernel), codeAny_builtin entry_string ?_⟩
  unfold Builtin.«re.Match.string»
  have f0 := looks_field (M := model prog w) ho 0 (v := .str x t) rfl
  repeat lk
  exact h

theorem string_find {mo mt : Addr} {hh : Heap} {M : Model} (ho : hh.get? mo = some (matchO x t mt)) : Looks M hh (find (.ref mo) (.type "re.Match") "string") (.bind (.builtin "member_descriptor.__get__") (.builtin "re.Match.string")) := by
  intro A Q E s k q
  obtain ⟨hh', g, d, tk', os⟩ := s
  dsimp only at k
  have l2 : Looks M hh' (typeLookup (.type "re.Match") "string") (some (.builtin "re.Match.string")) := Looks.of_pure lk_string
  have l3 : Looks M hh' (typeOf (.builtin "re.Match.string")) (.type "member_descriptor") := Looks.of_pure type_string
  have l4 : Looks M hh' (typeLookup (.type "member_descriptor") "__get__") (some (.builtin "member_descriptor.__get__")) := Looks.of_pure KF.slot_mem.lookup
  obtain ⟨id, hid⟩ := mem_set
  have l5 : Looks M hh' (typeLookup (.type "member_descriptor") "__set__") (some (.builtin id)) := Looks.of_pure hid
  unfold find getOf dataDescriptor? takesStores specialOf
  repeat lk
  exact q

theorem string_ga {mo mt : Addr} {hh : Heap} (ho : hh.get? mo = some (matchO x t mt)) (tk : Tok) : Looks (model prog w) hh (call (.builtin "object.__getattribute__") [.ref mo, .str "string" tk]) (.str x t) := by
  intro A Q E s k q
  have ho' := k _ _ ho
  have hT : s.TypeIs (.ref mo) "re.Match" := ⟨_, ho', rfl⟩
  refine wpAny_call (codeAny_call_builtin slot_match_ga.plain F.entry_object_getattribute (slot_match_ga.check _ _ _ _ _ _ _ _ hT (F.args_object_getattribute_2 _ _) ?_))
  obtain ⟨hh', g, d, tk', os⟩ := s
  dsimp only at k ho'
  have l1 : Looks (model prog w) hh' (typeOf (.ref mo)) (.type "re.Match") := (Looks.ld (part := none) ho').andThen .now
  have l2 := string_find (M := model prog w) ho'
  have l3 : Looks (model prog w) hh' (call (.builtin "member_descriptor.__get__") [.builtin "re.Match.string", .ref mo, .type "re.Match"]) (.str x t) := fun A Q E s k q => wpAny_call (string_get (k _ _ ho') q)
  unfold Builtin.«object.__getattribute__»
  repeat lk
  exact q

theorem string_attr {mo mt : Addr} {expr : Bool} {Q : Value → Shared → Prop} (N : News h₀ L s.heap news) (hm : (mo, matchO x t mt) ∈ news) (h : Q (.str x t) { s with toks := s.toks + 1 }) :
    wpAny (model prog w) A (getAttr (.ref mo) (Str.ofString "string") expr) Q E s := by
  have ho := (N _ hm).1
  obtain ⟨hh, g, d, tk', os⟩ := s
  dsimp only at ho
  have l1 : Looks (model prog w) hh (typeOf (.ref mo)) (.type "re.Match") := (Looks.ld (part := none) ho).andThen .now
  have l2 : Looks (model prog w) hh (typeLookup (.type "re.Match") "__getattribute__") (some (.builtin "object.__getattribute__")) := Looks.of_pure slot_match_ga.lookup
  have l3 := string_ga (prog := prog) (w := w) ho tk'
  have l4 : Looks (model prog w) hh (bindSpecial (.builtin "object.__getattribute__") (.ref mo)) (.builtin "object.__getattribute__", [.ref mo]) := Looks.of_pure (slot_match_ga.bind _)
  unfold getAttr getAttrBy getAttrByItsOwn hookBefore callGetattribute
  have l5 : Looks (model prog w) hh (boundAndCalled (.builtin "object.__getattribute__") (.ref mo) (.str (Str.ofString "string") tk')) (.str x t) := l4.andThen l3
  have hx0 : (expr && onTheHeap (Value.builtin "object.__getattribute__")) = false := by cases expr <;> rfl
  repeat lk
  refine wpAny_attempt (m := holding _ _) ?_
  rw [hx0]
  repeat lk
  exact h
end
end Mine
end

section
local macro_rules | `(tactic| omega) => `(tactic| lia)
open PySem PySem.W PyProof.Rows PySem.Calls PySem.StrLaws Builtin.Str
set_option Elab.async false
set_option maxRecDepth 100000
set_option maxHeartbeats 8000000
namespace Mine

/-- a text's signs -/
noncomputable abbrev Ls (x : Str) : List Nat := x.cps.toList
noncomputable def tx (l : List Nat) : Str := ⟨l.toArray⟩
theorem L_tx (l : List Nat) : Ls (tx l) = l := rfl
theorem tx_L (x : Str) : tx (Ls x) = x := rfl
theorem len_L (x : Str) : x.length = (Ls x).length := rfl
theorem L_inj {x y : Str} (h : Ls x = Ls y) : x = y := by rw [← tx_L x, ← tx_L y, h]

/-- a text that the walk may meet: short, ASCII, no newline -/
noncomputable def Ok (l : List Nat) : Prop := ∀ c ∈ l, c < 128 ∧ c ≠ 10
noncomputable def Tx (x : Str) : Prop := x.length ≤ 64 ∧ Ok (Ls x)
theorem Tx.len {x : Str} (h : Tx x) : x.length ≤ 64 := h.1
theorem Tx.nonl {x : Str} (h : Tx x) : 10 ∉ x.cps.toList := fun m => (h.2 10 m).2 rfl

theorem beq_L (x y : Str) : (x == y) = (Ls x == Ls y) := by
  rw [Bool.eq_iff_iff, beq_iff_eq, beq_iff_eq]
  exact ⟨fun h => by rw [h], L_inj⟩

theorem L_lower {x : Str} (h : Ok (Ls x)) : Ls (Txt.lower x) = (Ls x).map lo1 := by
  rw [lower_ascii fun c m => (h c m).1]; simp [Ls]
theorem L_upper {x : Str} (h : Ok (Ls x)) : Ls (Txt.upper x) = (Ls x).map up1 := by
  rw [upper_ascii fun c m => (h c m).1]; simp [Ls]
theorem lo1_ok : ∀ c, c < 128 → c ≠ 10 → lo1 c < 128 ∧ lo1 c ≠ 10 := by
  intro c h1 h2; unfold lo1; split <;> omega
theorem up1_ok : ∀ c, c < 128 → c ≠ 10 → up1 c < 128 ∧ up1 c ≠ 10 := by
  intro c h1 h2; unfold up1; split <;> omega
theorem Tx.lower {x : Str} (h : Tx x) : Tx (Txt.lower x) := by
  refine ⟨?_, ?_⟩
  · rw [len_L, L_lower h.2, List.length_map]; exact h.1
  · rw [L_lower h.2]; intro c m
    obtain ⟨d, hd, rfl⟩ := List.mem_map.mp m
    exact lo1_ok d (h.2 d hd).1 (h.2 d hd).2
theorem Tx.upper {x : Str} (h : Tx x) : Tx (Txt.upper x) := by
  refine ⟨?_, ?_⟩
  · rw [len_L, L_upper h.2, List.length_map]; exact h.1
  · rw [L_upper h.2]; intro c m
    obtain ⟨d, hd, rfl⟩ := List.mem_map.mp m
    exact up1_ok d (h.2 d hd).1 (h.2 d hd).2

theorem slice_mem {x : Str} {l u : Option Int} {c : Nat} (h : c ∈ Ls (Txt.slice x l u)) : c ∈ Ls x := by
  unfold Txt.slice at h
  split at h
  · exact h
  · have h' : c ∈ List.filterMap (x.cps[·]?) (strSliceIndices l u 1 x.length) := by simpa [Ls] using h
    obtain ⟨i, _, hi⟩ := List.mem_filterMap.mp h'
    have : x.cps.toList[i]? = some c := by simpa using hi
    exact List.mem_of_getElem? this
theorem Tx.slice {x : Str} (h : Tx x) (l u : Option Int) : Tx (Txt.slice x l u) :=
  ⟨Nat.le_trans (Txt.slice_le x l u) h.1, fun c m => h.2 c (slice_mem m)⟩

theorem L_from {x : Str} {i : Int} (h0 : 0 ≤ i) (h1 : i ≤ (Ls x).length) : Ls (Txt.slice x (some i) none) = (Ls x).drop i.toNat := by
  have e : Txt.slice x (some i) none = _ := sliceText_from (x := x) (i := i) ⟨h0, h1⟩
  rw [e]
  show List.take _ _ = _
  rw [List.take_of_length_le]
  simp [Ls]; omega
theorem L_from0 {x : Str} {i : Int} (h0 : 0 ≤ i) : Ls (Txt.slice x (some i) none) = (Ls x).drop i.toNat := by
  by_cases h1 : i ≤ (Ls x).length
  · exact L_from h0 h1
  · have e : Txt.slice x (some i) none = Txt.slice x (some ((Ls x).length : Int)) none := by
      show sliceText x _ _ = sliceText x _ _
      have e2 : strSliceIndices (some i) none 1 x.length = strSliceIndices (some ((Ls x).length : Int)) none 1 x.length := by
        have a : ¬ i < 0 := by omega
        have b : ¬ ((Ls x).length : Int) < 0 := by omega
        have c : min i (x.length : Int) = x.length := by rw [len_L]; omega
        have d : min ((Ls x).length : Int) (x.length : Int) = x.length := by rw [len_L]; omega
        simp only [strSliceIndices, a, b, if_false, c, d, show (1 : Int) > 0 by decide, if_true]
      unfold sliceText; rw [e2]
    rw [e, L_from (by omega) (Int.le_refl _), List.drop_eq_nil_of_le (by omega), List.drop_eq_nil_of_le (by omega)]
theorem L_to {x : Str} {j : Int} (h0 : 0 ≤ j) (h1 : j ≤ (Ls x).length) : Ls (Txt.slice x none (some j)) = (Ls x).take j.toNat := by
  have e : Txt.slice x none (some j) = _ := sliceText_to (x := x) (j := j) ⟨h0, h1⟩
  rw [e]
  show List.take _ _ = _
  simp
theorem L_to_neg {x : Str} {j : Int} (h0 : j < 0) (h1 : -((Ls x).length : Int) ≤ j) : Ls (Txt.slice x none (some j)) = (Ls x).take (j + (Ls x).length).toNat := by
  have e : Txt.slice x none (some j) = _ := sliceText_to_neg (x := x) (j := j) h0 h1
  rw [e]
  show List.take _ _ = _
  simp [Ls, Str.length]
theorem L_all {x : Str} : Ls (Txt.slice x none none) = Ls x := by
  have e : Txt.slice x none none = sliceText x none (some (x.cps.toList.length : Int)) := by
    show sliceText x none none = _
    unfold sliceText; rw [sliceIdx_none_hi]; simp [Str.length]
  rw [e, sliceText_to ⟨by omega, Int.le_refl _⟩]
  show List.take _ _ = _
  rw [List.drop_zero, List.take_of_length_le (by simp)]

theorem item_nat {x : Str} {i : Int} (h0 : 0 ≤ i) (h1 : i < (Ls x).length) : Ls (Txt.item x i) = [(Ls x).getD i.toNat 0] := by
  obtain ⟨n, hn⟩ := some_at (x := x) h0 (by rw [len_L]; exact h1)
  have e := at_nonneg h0 hn
  have hn' : (Ls x)[i.toNat]? = some n := by simpa using hn
  rw [List.getD_eq_getElem?_getD, hn']
  show [((seqIndex? i x.length).bind (x.cps[·]?)).getD 0] = _
  rw [e]
theorem item_neg {x : Str} {i : Int} (h0 : i < 0) (h1 : -((Ls x).length : Int) ≤ i) : Ls (Txt.item x i) = [(Ls x).getD (i + (Ls x).length).toNat 0] := by
  obtain ⟨n, hn⟩ := some_at (x := x) (i := i + x.length) (by rw [len_L]; omega) (by omega)
  have e := at_neg h0 (by rw [len_L]; exact h1) hn
  have hn' : (Ls x)[(i + (Ls x).length).toNat]? = some n := by simpa [len_L] using hn
  rw [List.getD_eq_getElem?_getD, hn']
  show [((seqIndex? i x.length).bind (x.cps[·]?)).getD 0] = _
  rw [e]

theorem starts_L (x y : Str) : Txt.startswith x y = (Ls y).isPrefixOf (Ls x) := by
  unfold Txt.startswith
  rw [subAt_eq, List.drop_zero, Bool.eq_iff_iff, List.isPrefixOf_iff_prefix, Bool.and_eq_true, decide_eq_true_eq, beq_iff_eq, List.prefix_iff_eq_take, Nat.zero_add, len_L, len_L]
  constructor
  · rintro ⟨h1, h2⟩; exact h2.symm
  · intro h
    refine ⟨?_, h.symm⟩
    have := congrArg List.length h
    rw [List.length_take] at this; omega
theorem ends_L (x y : Str) : Txt.endswith x y = (Ls y).isSuffixOf (Ls x) := by
  unfold Txt.endswith
  rw [subAt_eq, Bool.eq_iff_iff, List.isSuffixOf_iff_suffix, Bool.and_eq_true, decide_eq_true_eq, beq_iff_eq, List.suffix_iff_eq_drop, Nat.zero_add, len_L, len_L]
  constructor
  · rintro ⟨h1, h2⟩
    rw [List.take_of_length_le (by simp [Ls] at *; omega)] at h2; exact h2.symm
  · intro h
    have := congrArg List.length h
    rw [List.length_drop] at this
    by_cases h1 : (Ls y).length ≤ (Ls x).length
    · refine ⟨h1, ?_⟩
      rw [List.take_of_length_le (by simp [Ls] at *; omega)]; exact h.symm
    · exfalso
      have h2 : (Ls x).length - (Ls y).length = 0 := by omega
      rw [h2, List.drop_zero] at h
      rw [h] at h1; exact h1 (Nat.le_refl _)

theorem dot_L : Ls (Str.ofString ".") = [46] := by decide +kernel
noncomputable def dotted : List Nat → Bool
  | [] => false
  | c :: _ => c == 46
noncomputable def tailOf (a b : List Nat) : Bool := b.isSuffixOf a
theorem starts_dot (x : Str) : Txt.startswith x (Str.ofString ".") = dotted (Ls x) := by
  rw [starts_L, dot_L]
  cases Ls x with
  | nil => rfl
  | cons c r =>
    show ((46 == c) && List.isPrefixOf [] r) = (c == 46)
    rw [Bool.eq_iff_iff, Bool.and_eq_true, beq_iff_eq, beq_iff_eq]
    exact ⟨fun h => h.1.symm, fun h => ⟨h.symm, rfl⟩⟩
theorem ends_T (x y : Str) : Txt.endswith x y = tailOf (Ls x) (Ls y) := ends_L x y
/-- found behind the first place -/
noncomputable def occ1 (a b : List Nat) : Bool := (List.range a.length).any fun k => b.isPrefixOf (a.drop (k + 1))
theorem at_L (x y : Str) (i : Nat) (hi : i ≤ (Ls x).length) : At x y x.length i ↔ (Ls y).isPrefixOf ((Ls x).drop i) = true := by
  unfold At
  rw [subAt_eq, List.isPrefixOf_iff_prefix, List.prefix_iff_eq_take, beq_iff_eq, len_L, len_L]
  constructor
  · rintro ⟨_, h⟩; exact h.symm
  · intro h
    refine ⟨?_, h.symm⟩
    have := congrArg List.length h
    rw [List.length_take, List.length_drop] at this; omega
theorem rfind_L (x y : Str) : (Txt.rfind x y = -1 ∨ Txt.rfind x y = 0) ↔ occ1 (Ls x) (Ls y) = false := by
  unfold Txt.rfind
  have hle : ∀ i, At x y x.length i → i ≤ (Ls x).length := fun i h => by have := h.1; rw [← len_L]; omega
  rcases last_spec x y with ⟨e, h⟩ | ⟨i, e, h1, h2⟩
  · rw [e]
    simp only [true_or, true_iff]
    unfold occ1
    rw [List.any_eq_false]
    intro k hk hp
    have hk' := List.mem_range.mp hk
    exact h (k + 1) ((at_L x y (k + 1) (by omega)).mpr hp)
  · rw [e]
    dsimp only
    by_cases hi : i = 0
    · subst hi
      simp only [Int.natCast_zero, or_true, true_iff]
      unfold occ1
      rw [List.any_eq_false]
      intro k hk hp
      have hk' := List.mem_range.mp hk
      exact h2 (k + 1) (by omega) ((at_L x y (k + 1) (by omega)).mpr hp)
    · have : ¬ ((i : Int) = -1 ∨ (i : Int) = 0) := by omega
      simp only [this, false_iff, Bool.not_eq_false]
      unfold occ1
      rw [List.any_eq_true]
      have := hle i h1
      refine ⟨i - 1, List.mem_range.mpr (by omega), ?_⟩
      rw [show i - 1 + 1 = i by omega]
      exact (at_L x y i this).mp h1
end Mine
end

section
open PySem PySem.W PyProof.Rows PySem.Calls
set_option Elab.async false
set_option maxRecDepth 100000
set_option maxHeartbeats 8000000
namespace Mine

/-- the program without its text: what the grounds keep when a code's table grows -/
noncomputable def vw : Program := { main := { body := [], scope := { kind := .module, names := [], isGenerator := false, isCoroutine := false }, futureAnnotations := false, file := Str.empty }, modules := [], parses := [], absent := [] }
noncomputable def looseV : List Str := ["IPV4_RE", "Whitespace", "_safe_string", "_sre", "_MAX_STRING_SIZE", "_MOVE_COST", "_CASE_COST", "_wall", "unmatched", "is_HDN", "domain_match", "liberal_is_HDN", "user_domain_match", "format_witnesses", "_substitution_cost", "_levenshtein_distance", "_law_labels", "_law_lead", "_law_column", "_law_peeled", "_law_left", "_law_matches", "_law_indents", "_law_beside", "_law_ways", "law"].map Str.ofString

noncomputable abbrev Wh := Heap → Addr → (Str → Option Value) → Shared → (Value → Shared → Prop) → Prop
/-- what a call of the text's own def does -/
noncomputable def Con (f : Addr) (vs : List Value) (news : List (Addr × Obj)) (D U : Nat) (Ret : Wh) : Prop :=
  ∀ (w : World) (mean : ExcName → Option Value) (mg mb : Str → Option Value) (dp un : Nat) (gd : Option (List Code)) (cn : Str) (cs : Scope) (a : Addr) (ccd : Value) (cl : List (Str × Addr)) (outer : List Env) (A₀ : Around)
    (base h₀ : Heap) (L : Addr) (m : Str → Option Value) (s : Shared) (Q E : Value → Shared → Prop),
    Below A₀ base outer h₀ → Fr h₀ L s.heap m → (hd.heap_39 w.params).In h₀ → News h₀ L s.heap news →
    Top vw looseV mean mg mb h₀ →
    cs.kind = .function → dp + D < recursionLimit → un + U < cLine → Ret h₀ L m s Q →
    wpAny (model PySem.Challenge.rw_xe0049_01.row.prog w) (ktrTop dp un gd cn cs L a ccd cl outer) (call (.ref f) vs) Q E s

noncomputable abbrev RetV (news : List (Addr × Obj)) (v : Tok → Value) : Wh := fun h₀ L m s Q =>
  ∀ (t : Tok) (h' : Heap) (tk' : Nat), Fr h₀ L h' m → News h₀ L h' news → Q (v t) { s with heap := h', toks := tk' }

theorem Con.use {f : Addr} {vs : List Value} {news : List (Addr × Obj)} {D U : Nat} {Ret : Wh} (C : Con f vs news D U Ret)
    {w : World} {mean : ExcName → Option Value} {mg mb : Str → Option Value} {dp un : Nat} {gd : Option (List Code)} {cn : Str} {cs : Scope} {a : Addr} {ccd : Value} {cl : List (Str × Addr)} {outer : List Env} {A₀ : Around}
    {base h₀ : Heap} {L : Addr} {m : Str → Option Value} {s : Shared} {Q E : Value → Shared → Prop}
    (B : Below A₀ base outer h₀) (F : Fr h₀ L s.heap m) (X : (hd.heap_39 w.params).In h₀) (N : News h₀ L s.heap news)
    (T : Top vw looseV mean mg mb h₀)
    (hk : cs.kind = .function) (h1 : dp + D < recursionLimit) (h2 : un + U < cLine) (r : Ret h₀ L m s Q) :
    wpAny (model PySem.Challenge.rw_xe0049_01.row.prog w) (ktrTop dp un gd cn cs L a ccd cl outer) (call (.ref f) vs) Q E s :=
  C w mean mg mb dp un gd cn cs a ccd cl outer A₀ base h₀ L m s Q E B F X N T hk h1 h2 r

section
variable {M : Model} {prog : Program} {w : World} {A : Around} {E : Value → Shared → Prop} {s : Shared} {P : Params} {h₀ : Heap} {L : Addr} {m : Str → Option Value} {news : List (Addr × Obj)} {x : Str} {t : Tok} {Q : Value → Shared → Prop}
theorem search_split (h0 : srchL x.cps.toList = none → wpAny M A (call (.builtin "re.Pattern.search") [.ref 50, .str x t]) Q E s)
    (h1 : ∀ j, srchL x.cps.toList = some j → wpAny M A (call (.builtin "re.Pattern.search") [.ref 50, .str x t]) Q E s) : wpAny M A (call (.builtin "re.Pattern.search") [.ref 50, .str x t]) Q E s := by
  cases hq : srchL x.cps.toList with
  | none => exact h0 hq
  | some j => exact h1 j hq
theorem search_none (hq : srchL x.cps.toList = none) (X : (hd.heap_39 P).In s.heap) (F : Fr h₀ L s.heap m) (N : News h₀ L s.heap news) (hx : Tx x) (h0 : Q .none s) :
    wpAny (model prog w) A (call (.builtin "re.Pattern.search") [.ref 50, .str x t]) Q E s :=
  search_call X F N hx.nonl (Nat.le_trans hx.len (by decide)) (fun _ => h0) fun j _ _ _ e => by rw [hq] at e; cases e
theorem search_some {j : Nat} (hq : srchL x.cps.toList = some j) (X : (hd.heap_39 P).In s.heap) (F : Fr h₀ L s.heap m) (N : News h₀ L s.heap news) (hx : Tx x)
    (h1 : ∀ mt mo h', Fr h₀ L h' m → News h₀ L h' ((mo, matchO x t mt) :: (mt, tupO [.int j 0, .int x.length 0]) :: news) → (∀ p ∈ news, p.1 < mt) → mt < mo → Q (.ref mo) { s with heap := h' }) :
    wpAny (model prog w) A (call (.builtin "re.Pattern.search") [.ref 50, .str x t]) Q E s :=
  search_call X F N hx.nonl (Nat.le_trans hx.len (by decide)) (fun e => by rw [hq] at e; cases e) fun j' mt mo h' e => by rw [hq] at e; cases e; exact h1 mt mo h'
end

/-- the ends -/
theorem endB {h₀ h' : Heap} {L : Addr} {m : Str → Option Value} {news news' : List (Addr × Obj)} {s : Shared} {Q : Value → Shared → Prop} {tk' : Nat} {b b' : Bool}
    (ret : RetV news (fun _ => .bool b) h₀ L m s Q) (F : Fr h₀ L h' m) (N : News h₀ L h' news') (hs : ∀ p ∈ news, p ∈ news') (e : b' = b) : Q (.bool b') { s with heap := h', toks := tk' } := by
  subst e; exact ret 0 h' tk' F fun p hp => N p (hs p hp)
theorem endS {h₀ h' : Heap} {L : Addr} {m : Str → Option Value} {news news' : List (Addr × Obj)} {s : Shared} {Q : Value → Shared → Prop} {tk' : Nat} {b b' : Str} {t : Tok}
    (ret : RetV news (fun u => .str b u) h₀ L m s Q) (F : Fr h₀ L h' m) (N : News h₀ L h' news') (hs : ∀ p ∈ news, p ∈ news') (e : b' = b) : Q (.str b' t) { s with heap := h', toks := tk' } := by
  subst e; exact ret t h' tk' F fun p hp => N p (hs p hp)
theorem endI {h₀ h' : Heap} {L : Addr} {m : Str → Option Value} {news news' : List (Addr × Obj)} {s : Shared} {Q : Value → Shared → Prop} {tk' : Nat} {b b' : Int} {t : Tok}
    (ret : RetV news (fun u => .int b u) h₀ L m s Q) (F : Fr h₀ L h' m) (N : News h₀ L h' news') (hs : ∀ p ∈ news, p ∈ news') (e : b' = b) : Q (.int b' t) { s with heap := h', toks := tk' } := by
  subst e; exact ret t h' tk' F fun p hp => N p (hs p hp)

section
variable {M : Model} {A : Around} {E : Value → Shared → Prop} {h₀ hh : Heap} {ge : Array GenState} {dr : Drawn} {tk0 : Nat} {os : OsState} {L a : Addr} {m : Str → Option Value} {cn : Str} {cs : Scope} {ccd : Value} {cl : List (Str × Addr)}
  {x : Str} {v : Value} {Q : Unit → Shared → Prop} {news : List (Addr × Obj)}
/-- a name is stored: the map gets a name of its own, the tokens' count is forgotten -/
theorem storeM (F : Fr h₀ L hh m) (N : News h₀ L hh news)
    (h : ∀ h' tk, let m₁ : Str → Option Value := fun y => if y = x then some v else m y; Fr h₀ L h' m₁ → News h₀ L h' news → Q () ⟨h', ge, dr, tk, os⟩)
    (hk : cs.kind = .function := by rfl) (hx : (envX cn cs L a ccd cl).kindOf x = some .local := by rfl) : wpAny M A (storeName (envX cn cs L a ccd cl) x v) Q E ⟨hh, ge, dr, tk0, os⟩ :=
  storeX_L F N (fun h' F' N' => h h' _ F' N') hk hx
end
section
variable {prog : Program} {w : World} {A A₀ : Around} {E : Value → Shared → Prop} {s : Shared} {K : Frag} {C L : Addr} {h₀ base : Heap} {m mg mb : Str → Option Value} {news : List (Addr × Obj)} {p : Program} {loose : List Str} {mean : ExcName → Option Value} {Q : Value → Shared → Prop}
theorem code_m {env : Env} {outer : List Env} {R : Result → Shared → Prop} {name qual : Str} {params : Arguments} {body : List Stmt} {scope : Scope} {dV kV doc pm cdv ct oc : Value} {an od : Option Addr} {osl : Array (Option Value)} {f : Addr} {args : Args} {binds : List (Str × Value)}
    (B : Below A₀ base outer h₀) (F : Fr h₀ L s.heap m) (X₀ : K.In h₀) (N : News h₀ L s.heap news) (T : Top p loose mean mg mb h₀) (hA : A.frames = some (env :: outer)) (hf : env.frame = some L) (hke : env.scope.kind = .function)
    (ho : K.lookup f = some ⟨oc, od, .func (fnOf name qual params body scope dV kV doc pm an cdv ct), osl⟩) (hcd : codeIn K cdv qual = true) (hroom : A.depth < recursionLimit)
    (hbind : BindsTo s (fnOf name qual params body scope dV kV doc pm an cdv ct) args binds) (hloc : ∀ y ∈ binds, scope.names.lookup y.1 = some .local)
    (h : ∀ g L' h₁ tk, Fr h₀ L g m → let m₁ : Str → Option Value := fun y => binds.reverse.lookup y; Fr g L' h₁ m₁ → News g L' h₁ news → Below A base (env :: outer) g → K.In g → Top p loose mean mg mb g →
      wpAny (model prog w) (A.deeper (envOf qual scope L' f cdv)) (execs body (envOf qual scope L' f cdv))
        (fun fl s' => LeaveK h₀ L m g R (match fl with | .ret v => v | _ => .none) s')
        (fun e s' => wpAny (model prog w) (A.deeper (envOf qual scope L' f cdv)) (leaving (envOf qual scope L' f cdv) e) (fun _ s'' => R (.error e) s'') (fun e' s'' => R (.error e') s'') s')
        { s with heap := h₁, toks := tk })
    (hco : scope.isCoroutine = false) (hgen : scope.isGenerator = false) (hk : scope.kind = .function)
    (hcell : ∀ x ∈ scope.names, x.2 ≠ .cell) : codeAny (model prog w) A (.call (.ref f) args) R s :=
  code_def B F X₀ N T hA hf hke ho hcd hroom hbind hloc (fun g L' h₁ FG F' N' B' X T' => h g L' h₁ _ FG F' N' B' X T') hco hgen hk hcell
theorem code_mC {env : Env} {outer : List Env} {R : Result → Shared → Prop} {name qual : Str} {params : Arguments} {body : List Stmt} {scope : Scope} {dV kV doc pm cdv ct oc : Value} {an od : Option Addr} {osl : Array (Option Value)} {f : Addr} {args : Args} {binds : List (Str × Value)}
    (B : Below A₀ base outer h₀) (F : Fr h₀ L s.heap m) (X₀ : K.In h₀) (N : News h₀ L s.heap news) (T : Top p loose mean mg mb h₀) (hA : A.frames = some (env :: outer)) (hf : env.frame = some L) (hke : env.scope.kind = .function)
    (ho : K.lookup f = some ⟨oc, od, .func (fnOf name qual params body scope dV kV doc pm an cdv ct), osl⟩) (hcd : codeIn K cdv qual = true) (hroom : A.depth < recursionLimit)
    (hbind : BindsTo s (fnOf name qual params body scope dV kV doc pm an cdv ct) args binds) (hkind : (binds.all fun y => scope.names.lookup y.1 == some .local || scope.names.lookup y.1 == some .cell) = true)
    (hnd : ((cellsFrom 0 scope.names []).map (·.1)).Nodup)
    (h : ∀ g L' h₁ tk cells, Fr h₀ L g m → let m₁ : Str → Option Value := bindL (envOfC qual scope L' f cdv).kindOf binds fun _ => none; Fr g L' h₁ m₁ → News g L' h₁ (cells ++ news) →
      CellsAre (bindC (envOfC qual scope L' f cdv).kindOf binds fun _ => none) (cellsFrom (L' + 1) scope.names []) cells → Below A base (env :: outer) g → K.In g → Top p loose mean mg mb g → (∀ p ∈ news, p.1 < L') →
      wpAny (model prog w) (A.deeper (envOfC qual scope L' f cdv)) (execs body (envOfC qual scope L' f cdv))
        (fun fl s' => LeaveK h₀ L m g R (match fl with | .ret v => v | _ => .none) s')
        (fun e s' => wpAny (model prog w) (A.deeper (envOfC qual scope L' f cdv)) (leaving (envOfC qual scope L' f cdv) e) (fun _ s'' => R (.error e) s'') (fun e' s'' => R (.error e') s'') s')
        { s with heap := h₁, toks := tk })
    (hco : scope.isCoroutine = false) (hgen : scope.isGenerator = false) (hk : scope.kind = .function) : codeAny (model prog w) A (.call (.ref f) args) R s :=
  code_defC B F X₀ N T hA hf hke ho hcd hroom hbind hkind hnd (fun g L' h₁ tk cells FG F' N' Y B' X T' l => h g L' h₁ tk cells FG F' N' Y B' X T' l) hco hgen hk
end
end Mine
end

section
open PySem PySem.W PyProof.Rows PySem.Calls
set_option Elab.async false
set_option maxRecDepth 100000
set_option maxHeartbeats 8000000
namespace Mine
/-- the text has labels and dots alone, as the program asks: no figures last, nothing empty at its ends -/
noncomputable def hdnL (l : List Nat) : Bool := if (srchL l).isSome then false else if l == [] then false else if l.getD 0 0 == 46 || l.getD (l.length - 1) 0 == 46 then false else true
theorem hdn_end {x : Str} (h : 1 ≤ x.length) : (Txt.item x 0 == Str.ofString ".") = ((Ls x).getD 0 0 == 46) ∧ (Txt.item x (-1) == Str.ofString ".") = ((Ls x).getD ((Ls x).length - 1) 0 == 46) := by
  have e : Ls (Str.ofString ".") = [46] := by decide +kernel
  rw [len_L] at h
  rw [beq_L, beq_L, e, item_nat (by decide) (by omega), item_neg (by decide) (by omega)]
  have : ((-1 : Int) + ((Ls x).length : Int)).toNat = (Ls x).length - 1 := by omega
  rw [this]
  refine ⟨?_, ?_⟩ <;> simp
theorem nil_L (x : Str) : (x == Str.ofString "") = (Ls x == []) := by
  have e : Ls (Str.ofString "") = [] := by decide +kernel
  rw [beq_L, e]
theorem con_hdn (x : Str) (t : Tok) (hx : Tx x) (news : List (Addr × Obj)) : Con 57 [.str x t] news 4 20 (RetV news fun _ => .bool (hdnL (Ls x))) := by
  k_with_none
  (k_with "exec Assign" => k_fold)
  (k_with "exec If" => k_fold)
  (k_with "exec While" => k_fold)
  (k_with "exec For" => k_fold)
  (k_with "storeName" => (k_here; k_dflt ((refine' storeM ?qFq ?qNq ?_ ?qaq ?qbq; (case qFq => k_asm); (case qNq => k_asm); (case qaq => rfl); (case qbq => rfl); k_whole; intro h' tk m₁ F' N'; (try k_sweep)))))
  (k_with "sub7" => first | (with_reducible exact hp) | (refine List.mem_cons_of_mem _ ?_; (k_extra "sub7")) | (simp only [List.mem_cons, List.mem_append, hp, or_true, true_or]))
  (k_with "tx" => first | with_reducible assumption | with_reducible exact Tx.lower (by k_extra "tx") | with_reducible exact Tx.upper (by k_extra "tx") | with_reducible exact Tx.slice (by k_extra "tx") _ _)
  (k_with "getMethod ref" => (k_here; (with_reducible show wpAny _ _ (getMethod (Value.ref 50) _ _) _ _ _); k_dflt (refine' search_get ?qXq ?_; (case qXq => k_in); k_whole)))
  (k_with "call builtin:re.Pattern.search" => (k_here; k_dflt (first
  | (refine' search_none ?qqq ?qXq ?qFq ?qNq ?qxq ?_; (case qqq => assumption); (case qXq => k_in); (case qFq => k_asm); (case qNq => k_asm); (case qxq => k_extra "tx"); k_whole)
  | (refine' search_some ?qqq ?qXq ?qFq ?qNq ?qxq ?_; (case qqq => assumption); (case qXq => k_in); (case qFq => k_asm); (case qNq => k_asm); (case qxq => k_extra "tx"); k_whole; intro mt' mo' h' F' N' l1 l2; (try k_lt l1); (try k_lt2 l2); (try k_sweep))
  | (refine search_split ?_ ?_ <;> intros))))
  (k_with "truthy ref" => (k_here; k_dflt (refine' truthy_match ?qNq ?qqq ?_; (case qNq => k_asm); (case qqq => k_mem); k_whole)))
  unfold Con
  k_fill
  intro w mean mg mb dp un gd cn cs a ccd cl outer A₀ base h₀ L m s Q E B F X N T hk hd9 hu ret
  refine wpAny_call ?_
  k_dflt cell_enter
  k_steps
  all_goals (refine' endB ret ?F ?N ?S ?e; (case F => k_asm); (case N => k_asm); (case S => first | exact fun _ h => h | (intro p hp; k_extra "sub7")); (case e => first | (have e9 := hdn_end (by assumption); simp_all [hdnL, nil_L]; done) | (simp_all [hdnL, nil_L]; done)))
noncomputable def lhdnL (l : List Nat) : Bool := !(srchL l).isSome
theorem con_lhdn (x : Str) (t : Tok) (hx : Tx x) (news : List (Addr × Obj)) : Con 71 [.str x t] news 4 20 (RetV news fun _ => .bool (lhdnL (Ls x))) := by
  k_with_none
  (k_with "exec Assign" => k_fold)
  (k_with "exec If" => k_fold)
  (k_with "exec While" => k_fold)
  (k_with "exec For" => k_fold)
  (k_with "storeName" => (k_here; k_dflt ((refine' storeM ?qFq ?qNq ?_ ?qaq ?qbq; (case qFq => k_asm); (case qNq => k_asm); (case qaq => rfl); (case qbq => rfl); k_whole; intro h' tk m₁ F' N'; (try k_sweep)))))
  (k_with "sub7" => first | (with_reducible exact hp) | (refine List.mem_cons_of_mem _ ?_; (k_extra "sub7")) | (simp only [List.mem_cons, List.mem_append, hp, or_true, true_or]))
  (k_with "tx" => first | with_reducible assumption | with_reducible exact Tx.lower (by k_extra "tx") | with_reducible exact Tx.upper (by k_extra "tx") | with_reducible exact Tx.slice (by k_extra "tx") _ _)
  (k_with "getMethod ref" => (k_here; (with_reducible show wpAny _ _ (getMethod (Value.ref 50) _ _) _ _ _); k_dflt (refine' search_get ?qXq ?_; (case qXq => k_in); k_whole)))
  (k_with "call builtin:re.Pattern.search" => (k_here; k_dflt (first
  | (refine' search_none ?qqq ?qXq ?qFq ?qNq ?qxq ?_; (case qqq => assumption); (case qXq => k_in); (case qFq => k_asm); (case qNq => k_asm); (case qxq => k_extra "tx"); k_whole)
  | (refine' search_some ?qqq ?qXq ?qFq ?qNq ?qxq ?_; (case qqq => assumption); (case qXq => k_in); (case qFq => k_asm); (case qNq => k_asm); (case qxq => k_extra "tx"); k_whole; intro mt' mo' h' F' N' l1 l2; (try k_lt l1); (try k_lt2 l2); (try k_sweep))
  | (refine search_split ?_ ?_ <;> intros))))
  (k_with "truthy ref" => (k_here; k_dflt (refine' truthy_match ?qNq ?qqq ?_; (case qNq => k_asm); (case qqq => k_mem); k_whole)))
  unfold Con
  k_fill
  intro w mean mg mb dp un gd cn cs a ccd cl outer A₀ base h₀ L m s Q E B F X N T hk hd9 hu ret
  refine wpAny_call ?_
  k_dflt cell_enter
  k_steps
  all_goals (refine' endB ret ?F ?N ?S ?e; (case F => k_asm); (case N => k_asm); (case S => first | exact fun _ h => h | (intro p hp; k_extra "sub7")); (case e => simp_all [lhdnL]))

/-- domain_match upon two texts -/
noncomputable def dmL (a b : List Nat) : Bool :=
  if a.map lo1 == b.map lo1 then true else if !hdnL (a.map lo1) then false else if !occ1 (a.map lo1) (b.map lo1) then false else
  if !dotted (b.map lo1) then false else if !hdnL ((b.map lo1).drop 1) then false else true
theorem con_dm (x y : Str) (t u : Tok) (hx : Tx x) (hy : Tx y) (news : List (Addr × Obj)) : Con 64 [.str x t, .str y u] news 8 40 (RetV news fun _ => .bool (dmL (Ls x) (Ls y))) := by
  k_with_none
  (k_with "exec Assign" => k_fold)
  (k_with "exec If" => k_fold)
  (k_with "exec While" => k_fold)
  (k_with "exec For" => k_fold)
  (k_with "storeName" => (k_here; k_dflt ((refine' storeM ?qFq ?qNq ?_ ?qaq ?qbq; (case qFq => k_asm); (case qNq => k_asm); (case qaq => rfl); (case qbq => rfl); k_whole; intro h' tk m₁ F' N'; (try k_sweep)))))
  (k_with "sub7" => first | (with_reducible exact hp) | (refine List.mem_cons_of_mem _ ?_; (k_extra "sub7")) | (simp only [List.mem_cons, List.mem_append, hp, or_true, true_or]))
  (k_with "tx" => first | with_reducible assumption | with_reducible exact Tx.lower (by k_extra "tx") | with_reducible exact Tx.upper (by k_extra "tx") | with_reducible exact Tx.slice (by k_extra "tx") _ _)
  (k_with "getMethod ref" => (k_here; (with_reducible show wpAny _ _ (getMethod (Value.ref 50) _ _) _ _ _); k_dflt (refine' search_get ?qXq ?_; (case qXq => k_in); k_whole)))
  (k_with "call builtin:re.Pattern.search" => (k_here; k_dflt (first
  | (refine' search_none ?qqq ?qXq ?qFq ?qNq ?qxq ?_; (case qqq => assumption); (case qXq => k_in); (case qFq => k_asm); (case qNq => k_asm); (case qxq => k_extra "tx"); k_whole)
  | (refine' search_some ?qqq ?qXq ?qFq ?qNq ?qxq ?_; (case qqq => assumption); (case qXq => k_in); (case qFq => k_asm); (case qNq => k_asm); (case qxq => k_extra "tx"); k_whole; intro mt' mo' h' F' N' l1 l2; (try k_lt l1); (try k_lt2 l2); (try k_sweep))
  | (refine search_split ?_ ?_ <;> intros))))
  (k_with "truthy ref" => (k_here; k_dflt (refine' truthy_match ?qNq ?qqq ?_; (case qNq => k_asm); (case qqq => k_mem); k_whole)))
  (k_with "call ref" => (k_here; (with_reducible show wpAny _ _ (call (Value.ref 57) _) _ _ _); k_dflt (refine' Con.use (con_hdn _ _ ?qxq _) ?qBq ?qFq ?qXq ?qNq ?qTq ?qhkq ?qh1q ?qh2q ?_; (case qxq => k_extra "tx"); (case qBq => k_asm); (case qFq => k_asm); (case qXq => k_asm); (case qNq => k_asm); (case qTq => k_asm); (case qhkq => first | exact rfl | assumption); (case qh1q => (first | omega | (dsimp only [Around.deeper, Around.in1, ktrTop]; omega))); (case qh2q => (first | omega | (dsimp only [Around.deeper, Around.in1, ktrTop]; omega))); k_whole; intro t' h' tk' F' N'; (try k_sweep); (try dsimp only); (try k_fold))))
  (k_with "call ref" => (k_here; (with_reducible show wpAny _ _ (call (Value.ref 71) _) _ _ _); k_dflt (refine' Con.use (con_lhdn _ _ ?qxq _) ?qBq ?qFq ?qXq ?qNq ?qTq ?qhkq ?qh1q ?qh2q ?_; (case qxq => k_extra "tx"); (case qBq => k_asm); (case qFq => k_asm); (case qXq => k_asm); (case qNq => k_asm); (case qTq => k_asm); (case qhkq => first | exact rfl | assumption); (case qh1q => (first | omega | (dsimp only [Around.deeper, Around.in1, ktrTop]; omega))); (case qh2q => (first | omega | (dsimp only [Around.deeper, Around.in1, ktrTop]; omega))); k_whole; intro t' h' tk' F' N'; (try k_sweep); (try dsimp only); (try k_fold))))
  have hx1 := hx.len
  have hy1 := hy.len
  unfold Con
  k_fill
  intro w mean mg mb dp un gd cn cs a ccd cl outer A₀ base h₀ L m s Q E B F X N T hk hd9 hu ret
  refine wpAny_call ?_
  k_dflt cell_enter
  k_steps
  all_goals (refine' endB ret ?F ?N ?S ?e; (case F => k_asm); (case N => k_asm); (case S => first | exact fun _ h => h | (intro p hp; k_extra "sub7")); (case e => (have e1 := L_lower hx.2; have e2 := L_lower hy.2; have e5 := rfind_L (Txt.lower x) (Txt.lower y); have e4 := L_from0 (x := Txt.lower y) (i := 1) (by decide); simp_all [dmL, beq_L, starts_dot]; done)))

/-- user_domain_match upon two texts -/
noncomputable def udmL (a b : List Nat) : Bool :=
  if !(lhdnL (a.map lo1) && lhdnL (b.map lo1)) then a.map lo1 == b.map lo1 else
  if dotted (b.map lo1) && tailOf (a.map lo1) (b.map lo1) then true else if !(dotted (b.map lo1)) && a.map lo1 == b.map lo1 then true else false
theorem con_udm (x y : Str) (t u : Tok) (hx : Tx x) (hy : Tx y) (news : List (Addr × Obj)) : Con 78 [.str x t, .str y u] news 8 40 (RetV news fun _ => .bool (udmL (Ls x) (Ls y))) := by
  k_with_none
  (k_with "exec Assign" => k_fold)
  (k_with "exec If" => k_fold)
  (k_with "exec While" => k_fold)
  (k_with "exec For" => k_fold)
  (k_with "storeName" => (k_here; k_dflt ((refine' storeM ?qFq ?qNq ?_ ?qaq ?qbq; (case qFq => k_asm); (case qNq => k_asm); (case qaq => rfl); (case qbq => rfl); k_whole; intro h' tk m₁ F' N'; (try k_sweep)))))
  (k_with "sub7" => first | (with_reducible exact hp) | (refine List.mem_cons_of_mem _ ?_; (k_extra "sub7")) | (simp only [List.mem_cons, List.mem_append, hp, or_true, true_or]))
  (k_with "tx" => first | with_reducible assumption | with_reducible exact Tx.lower (by k_extra "tx") | with_reducible exact Tx.upper (by k_extra "tx") | with_reducible exact Tx.slice (by k_extra "tx") _ _)
  (k_with "getMethod ref" => (k_here; (with_reducible show wpAny _ _ (getMethod (Value.ref 50) _ _) _ _ _); k_dflt (refine' search_get ?qXq ?_; (case qXq => k_in); k_whole)))
  (k_with "call builtin:re.Pattern.search" => (k_here; k_dflt (first
  | (refine' search_none ?qqq ?qXq ?qFq ?qNq ?qxq ?_; (case qqq => assumption); (case qXq => k_in); (case qFq => k_asm); (case qNq => k_asm); (case qxq => k_extra "tx"); k_whole)
  | (refine' search_some ?qqq ?qXq ?qFq ?qNq ?qxq ?_; (case qqq => assumption); (case qXq => k_in); (case qFq => k_asm); (case qNq => k_asm); (case qxq => k_extra "tx"); k_whole; intro mt' mo' h' F' N' l1 l2; (try k_lt l1); (try k_lt2 l2); (try k_sweep))
  | (refine search_split ?_ ?_ <;> intros))))
  (k_with "truthy ref" => (k_here; k_dflt (refine' truthy_match ?qNq ?qqq ?_; (case qNq => k_asm); (case qqq => k_mem); k_whole)))
  (k_with "call ref" => (k_here; (with_reducible show wpAny _ _ (call (Value.ref 57) _) _ _ _); k_dflt (refine' Con.use (con_hdn _ _ ?qxq _) ?qBq ?qFq ?qXq ?qNq ?qTq ?qhkq ?qh1q ?qh2q ?_; (case qxq => k_extra "tx"); (case qBq => k_asm); (case qFq => k_asm); (case qXq => k_asm); (case qNq => k_asm); (case qTq => k_asm); (case qhkq => first | exact rfl | assumption); (case qh1q => (first | omega | (dsimp only [Around.deeper, Around.in1, ktrTop]; omega))); (case qh2q => (first | omega | (dsimp only [Around.deeper, Around.in1, ktrTop]; omega))); k_whole; intro t' h' tk' F' N'; (try k_sweep); (try dsimp only); (try k_fold))))
  (k_with "call ref" => (k_here; (with_reducible show wpAny _ _ (call (Value.ref 71) _) _ _ _); k_dflt (refine' Con.use (con_lhdn _ _ ?qxq _) ?qBq ?qFq ?qXq ?qNq ?qTq ?qhkq ?qh1q ?qh2q ?_; (case qxq => k_extra "tx"); (case qBq => k_asm); (case qFq => k_asm); (case qXq => k_asm); (case qNq => k_asm); (case qTq => k_asm); (case qhkq => first | exact rfl | assumption); (case qh1q => (first | omega | (dsimp only [Around.deeper, Around.in1, ktrTop]; omega))); (case qh2q => (first | omega | (dsimp only [Around.deeper, Around.in1, ktrTop]; omega))); k_whole; intro t' h' tk' F' N'; (try k_sweep); (try dsimp only); (try k_fold))))
  have hx1 := hx.len
  have hy1 := hy.len
  unfold Con
  k_fill
  intro w mean mg mb dp un gd cn cs a ccd cl outer A₀ base h₀ L m s Q E B F X N T hk hd9 hu ret
  refine wpAny_call ?_
  k_dflt cell_enter
  k_steps
  all_goals (refine' endB ret ?F ?N ?S ?e; (case F => k_asm); (case N => k_asm); (case S => first | exact fun _ h => h | (intro p hp; k_extra "sub7")); (case e => (have e1 := L_lower hx.2; have e2 := L_lower hy.2; simp_all [udmL, beq_L, starts_dot, ends_T]; done)))

end Mine
end

section
local macro_rules | `(tactic| omega) => `(tactic| lia)
open PySem PySem.W PyProof.Rows PySem.Calls
set_option Elab.async false
set_option maxRecDepth 100000
set_option maxHeartbeats 8000000
namespace Mine

theorem sign_is (k : Nat) : (({ cps := #[k] } : Str) == Str.ofString ".") = (k == 46) := by
  rw [beq_L, dot_L, Bool.eq_iff_iff, beq_iff_eq, beq_iff_eq]
  exact ⟨fun h => (List.cons.inj h).1, fun h => by rw [h]⟩
/-- the column behind the signs, tabs of n wide -/
noncomputable def colF (n : Int) (c : Int) (k : Int) : Int := if k = 46 then c.fdiv n * n + n else c + 1
noncomputable def colL (n : Int) (l : List Int) : Int := l.foldl (colF n) 0
theorem col_yes {n c : Int} {k : Nat} {pre : List Int} (h : c = colL n pre ∧ 0 ≤ c) (hn : 1 ≤ n) (e : (({ cps := #[k] } : Str) == Str.ofString ".") = true) : c.fdiv n * n + n = colL n (pre ++ [(k : Int)]) ∧ 0 ≤ c.fdiv n * n + n := by
  rw [sign_is, beq_iff_eq] at e
  subst e
  refine ⟨?_, ?_⟩
  · rw [colL, List.foldl_append, ← colL, ← h.1]; rfl
  · have : 0 ≤ c.fdiv n * n := Int.mul_nonneg (Int.fdiv_nonneg h.2 (by omega)) (by omega)
    omega
theorem col_no {n c : Int} {k : Nat} {pre : List Int} (h : c = colL n pre ∧ 0 ≤ c) (e : (({ cps := #[k] } : Str) == Str.ofString ".") = false) : c + 1 = colL n (pre ++ [(k : Int)]) ∧ 0 ≤ c + 1 := by
  rw [sign_is, beq_eq_false_iff_ne] at e
  refine ⟨?_, by omega⟩
  rw [colL, List.foldl_append, ← colL, ← h.1]
  show c + 1 = colF n c k
  rw [colF, if_neg (by omega)]
theorem con_col (x : Str) (t u : Tok) (n : Int) (hx : Tx x) (hn : 1 ≤ n) (hn2 : n ≤ 20) (news : List (Addr × Obj)) : Con 190 [.str x t, .int n u] news 4 20 (RetV news fun u => .int (colL n (KStt.codes x)) u) := by
  k_with_none
  (k_with "sub7" => first | (with_reducible exact hp) | (refine List.mem_cons_of_mem _ ?_; (k_extra "sub7")) | (simp only [List.mem_cons, List.mem_append, hp, or_true, true_or]))
  (k_with "tx" => first | with_reducible assumption | with_reducible exact Tx.lower (by k_extra "tx") | with_reducible exact Tx.upper (by k_extra "tx") | with_reducible exact Tx.slice (by k_extra "tx") _ _)
  (k_with "getMethod ref" => (k_here; (with_reducible show wpAny _ _ (getMethod (Value.ref 50) _ _) _ _ _); k_dflt (refine' search_get ?qXq ?_; (case qXq => k_in); k_whole)))
  (k_with "call builtin:re.Pattern.search" => (k_here; k_dflt (first
  | (refine' search_none ?qqq ?qXq ?qFq ?qNq ?qxq ?_; (case qqq => assumption); (case qXq => k_in); (case qFq => k_asm); (case qNq => k_asm); (case qxq => k_extra "tx"); k_whole)
  | (refine' search_some ?qqq ?qXq ?qFq ?qNq ?qxq ?_; (case qqq => assumption); (case qXq => k_in); (case qFq => k_asm); (case qNq => k_asm); (case qxq => k_extra "tx"); k_whole; intro mt' mo' h' F' N' l1 l2; (try k_lt l1); (try k_lt2 l2); (try k_sweep))
  | (refine search_split ?_ ?_ <;> intros))))
  (k_with "truthy ref" => (k_here; k_dflt (refine' truthy_match ?qNq ?qqq ?_; (case qNq => k_asm); (case qqq => k_mem); k_whole)))
  (k_with "getMethod ref" => (k_here; k_dflt (refine' span_get ?qNq ?qqq ?_; (case qNq => k_asm); (case qqq => k_mem); k_whole)))
  (k_with "call builtin:re.Match.span" => (k_here; k_dflt (refine' span_call ?qFq ?qNq ?qqq ?quq ?_; (case qFq => k_asm); (case qNq => k_asm); (case qqq => k_mem); (case quq => k_mem); k_whole; intro a' h' t1' t2' tk' F' N' l1; (try k_lt l1); (try k_sweep))))
  (k_with "getAttr ref" => (k_here; (with_reducible show wpAny _ _ (getAttr (Value.ref _) (PySem.Str.ofString "string") _) _ _ _); k_dflt (refine' string_attr ?qNq ?qqq ?_; (case qNq => k_asm); (case qqq => k_mem); k_whole)))
  (k_with "enter9" => (refine' code_def ?qk1q ?qk2q ?qk3q ?qk4q ?qk5q ?qkAq ?qkFq ?qkKq ?qk6q ?qk7q ?qk8q ?qk9q ?qkBq ?_ ?qc2q ?qc3q ?qc4q ?qc5q; (case qkAq => exact rfl); (case qkFq => exact rfl); (case qkKq => first | exact rfl | assumption); (case qk1q => k_asm); (case qk2q => k_asm); (case qk3q => k_asm); (case qk4q => k_asm); (case qk5q => k_asm); (case qk6q => k_is); (case qk7q => k_is); (case qk8q => (first | omega | (dsimp only [Around.deeper, Around.in1, ktrTop]; omega))); (case qk9q => first | exact BindsTo.of_eq rfl | exact binds_K (by k_in) rfl (by k_is) rfl rfl rfl); (case qc5q => decide); (case qkBq => exact locs rfl); (case qc2q => exact rfl); (case qc3q => exact rfl); (case qc4q => exact rfl); k_whole; intro g' L' h' FG' F' N' B' X' T'; (try dsimp only); (try k_lift B'); (try k_fold)))
  have hx1 := hx.len
  unfold Con
  k_fill
  intro w mean mg mb dp un gd cn cs a ccd cl outer A₀ base h₀ L m s Q E B F X N T hk hd9 hu ret
  refine wpAny_call ?_
  k_dflt (k_extra "enter9")
  (k_with "state" => first | exact col_yes ⟨by assumption, by assumption⟩ hn (by assumption) | exact col_no ⟨by assumption, by assumption⟩ (by assumption) | exact ⟨rfl, Int.le_refl _⟩)
  (k_with "pyIter str" => k_state (fun pre c => c = colL n pre ∧ 0 ≤ c) "column")
  k_steps
  all_goals (refine' endI ret ?F ?N ?S ?e; (case F => k_asm); (case N => k_asm); (case S => first | exact fun _ h => h | (intro p hp; k_extra "sub7")); (case e => assumption))


theorem none9 : True := by
  k_with_none
  trivial
end Mine
end

section
local macro_rules | `(tactic| omega) => `(tactic| lia)
open PySem PySem.W PyProof.Rows PySem.Calls
set_option Elab.async false
set_option maxRecDepth 100000
set_option maxHeartbeats 8000000
namespace Mine

/-- a turn's end: what is named stands, the iterator too -/
noncomputable def LG (h₀ : Heap) (L : Addr) (J : (Str → Option Value) → List (Addr × Obj) → Prop) (I : Addr) (o : Obj) (s : Shared) (Q : Flow → Shared → Prop) (f : Flow) (s₂ : Shared) : Prop :=
  match f with
  | .ret v => Q (.ret v) s₂
  | .brk => Q .next s₂
  | _ => ∃ h' tk m' nx news', s₂ = { s with heap := h', toks := tk } ∧ Fr h₀ L h' m' ∧ News h₀ L h' news' ∧ (∀ p ∈ nx, p ∈ news') ∧ (I, o) ∈ news' ∧ (∀ p ∈ nx, p.1 ≠ I) ∧ J m' nx
theorem LG.intro {h₀ h' : Heap} {L : Addr} {J : (Str → Option Value) → List (Addr × Obj) → Prop} {I : Addr} {o : Obj} {s : Shared} {Q : Flow → Shared → Prop} {m' : Str → Option Value} {tk : Nat} {news' : List (Addr × Obj)} (nx : List (Addr × Obj))
    (F : Fr h₀ L h' m') (N : News h₀ L h' news') (hn : ∀ p ∈ nx, p ∈ news') (hi : (I, o) ∈ news') (ha : ∀ p ∈ nx, p.1 ≠ I) (hj : J m' nx) : LG h₀ L J I o s Q .next { s with heap := h', toks := tk } :=
  ⟨h', tk, m', nx, news', rfl, F, N, hn, hi, ha, hj⟩

/-- names on top of a map -/
noncomputable def bsM : List (Str × Value) → (Str → Option Value) → Str → Option Value
  | [], m => m
  | (k, v) :: r, m => fun y => if y = k then some v else bsM r m y
theorem bsM_cons (p : Str × Value) (r : List (Str × Value)) (m : Str → Option Value) (y : Str) : bsM (p :: r) m y = if y = p.1 then some p.2 else bsM r m y := rfl
noncomputable def Has (x : Str) (m₁ m₀ : Str → Option Value) (ps : List (Str × Value)) : Prop := ∀ y, y ≠ x → m₁ y = bsM ps m₀ y
theorem Has.fr {h₀ h : Heap} {L : Addr} {x : Str} {m₁ m₀ : Str → Option Value} {ps : List (Str × Value)} {v : Value} (H : Has x m₁ m₀ ps) (F : Fr h₀ L h (fun y => if y = x then some v else m₁ y)) : Fr h₀ L h (bsM ((x, v) :: ps) m₀) := by
  have e : (fun y => if y = x then some v else m₁ y) = bsM ((x, v) :: ps) m₀ := by
    funext y
    show _ = if y = x then some v else bsM ps m₀ y
    by_cases h : y = x
    · rw [if_pos h, if_pos h]
    · rw [if_neg h, if_neg h, H y h]
  rwa [← e]
theorem Has.out {h₀ h : Heap} {L : Addr} {x : Str} {m₁ m₀ : Str → Option Value} {ps : List (Str × Value)} (H : Has x m₁ m₀ ps) (F : Fr h₀ L h m₁) : Fr h₀ L h (fun y => if y = x then m₁ y else bsM ps m₀ y) := by
  have e : (fun y => if y = x then m₁ y else bsM ps m₀ y) = m₁ := by
    funext y
    by_cases h : y = x
    · rw [if_pos h]
    · rw [if_neg h, H y h]
  rwa [e]
noncomputable def AllNe (I : Addr) : List (Addr × Obj) → Prop
  | [] => True
  | p :: r => p.1 ≠ I ∧ AllNe I r
theorem allNe_of {I : Addr} : ∀ {l : List (Addr × Obj)}, (∀ p ∈ l, p.1 ≠ I) → AllNe I l
  | [], _ => trivial
  | p :: _, h => ⟨h p (.head _), allNe_of fun q hq => h q (.tail _ hq)⟩
theorem AllNe.all {I : Addr} : ∀ {l : List (Addr × Obj)}, AllNe I l → ∀ p ∈ l, p.1 ≠ I
  | [], _, _, hp => absurd hp List.not_mem_nil
  | q :: r, h, p, hp => by
    rcases List.mem_cons.mp hp with e | hp
    · rw [e]; exact h.1
    · exact AllNe.all h.2 p hp
theorem LG.intro' {h₀ h' : Heap} {L : Addr} {J : (Str → Option Value) → List (Addr × Obj) → Prop} {I : Addr} {o : Obj} {s : Shared} {Q : Flow → Shared → Prop} {m' : Str → Option Value} {tk : Nat} {news' : List (Addr × Obj)} (nx : List (Addr × Obj))
    (F : Fr h₀ L h' m') (N : News h₀ L h' news') (hn : ∀ p ∈ nx, p ∈ news') (hi : (I, o) ∈ news') (ha : AllNe I nx) (hj : J m' nx) : LG h₀ L J I o s Q .next { s with heap := h', toks := tk } := LG.intro nx F N hn hi ha.all hj

section
variable {prog : Program} {w : World} {A : Around} {E : Value → Shared → Prop} {s : Shared} {env : Env} {h₀ : Heap} {x : Str} {body : List Stmt} {Q : Flow → Shared → Prop}

theorem iterG {I : Addr} {n : Nat} {P : Nat → Value → Prop} {St : Nat → Heap → Prop} {m₀ : Str → Option Value} {news : List (Addr × Obj)} (J : Nat → (Str → Option Value) → List (Addr × Obj) → Prop)
    (W : Walks prog w A I [I] [I] n P St) (alive : ∀ i h, St i h → ∃ o, h.get? I = some o) (hI : I = s.heap.objs.size) (o₀ : Obj) (hst : St 0 (s.heap.push o₀))
    (F : Fr h₀ env.locals s.heap m₀) (N : News h₀ env.locals s.heap news) (h0 : J 0 m₀ news)
    (turn : ∀ i v m₁ news₁ o h tk, i < n → P i v → J i m₁ news₁ → (∀ p ∈ news₁, p.1 ≠ I) → Fr h₀ env.locals h (fun y => if y = x then some v else m₁ y) → News h₀ env.locals h (news₁ ++ [(I, o)]) →
      wpAny (model prog w) A (execs body env) (LG h₀ env.locals (J (i + 1)) I o { s with heap := h, toks := tk } Q) E { s with heap := h, toks := tk })
    (done : ∀ m₁ news₁ h tk, J n m₁ news₁ → Fr h₀ env.locals h m₁ → News h₀ env.locals h news₁ → Q .next { s with heap := h, toks := tk }) :
    LoopAtV prog w A h₀ env x body Q E (.ref I) { s with heap := s.heap.push o₀ } := by
  subst hI
  refine ⟨_, _, _, n, _, _, m₀, news, J, rfl, W, ?_, ?_, ?_, hst, F.push _, (fun p hp => ⟨Heap.get?_push_of_some _ (N p hp).1, (N p hp).2⟩), h0, ?_, ?_⟩
  · intro hm
    exact absurd F.ns.lt ((List.mem_singleton.mp hm) ▸ Nat.lt_irrefl _)
  · intro b hb
    rw [List.mem_singleton.mp hb]
    exact next_is_new F
  · intro p hp hI
    exact absurd (Heap.lt_size (N p hp).1) ((List.mem_singleton.mp hI) ▸ Nat.lt_irrefl _)
  · rintro i v m₁ news₁ s₁ own ⟨hh', tk', rfl⟩ hin hP hJ hoff hown hownat hall st F₁ N₁
    obtain ⟨o, ho⟩ := alive _ _ st
    have hin' : (s.heap.objs.size, o) ∈ own := hall _ (List.mem_singleton.mpr rfl) (next_is_new F) o ho
    have N₂ : News h₀ env.locals hh' (news₁ ++ [(s.heap.objs.size, o)]) := fun p hp => by
      rcases List.mem_append.mp hp with h | h
      · exact N₁ p (List.mem_append.mpr (.inr h))
      · rw [List.mem_singleton.mp h]; exact N₁ _ (List.mem_append.mpr (.inl hin'))
    refine wpAny_mono (turn i v m₁ news₁ o hh' tk' hin hP hJ (fun p hp e => hoff p hp (List.mem_singleton.mpr e)) F₁ N₂) (fun f s₂ p => ?_) fun _ _ e => e
    have fin : (∃ h' tk m' nx news', s₂ = { s with heap := h', toks := tk } ∧ Fr h₀ env.locals h' m' ∧ News h₀ env.locals h' news' ∧ (∀ p ∈ nx, p ∈ news') ∧ (s.heap.objs.size, o) ∈ news' ∧ (∀ p ∈ nx, p.1 ≠ s.heap.objs.size) ∧ J (i + 1) m' nx) →
        LoopStepU h₀ env.locals [s.heap.objs.size] own (J (i + 1)) { s with heap := hh', toks := tk' } .next s₂ := by
      rintro ⟨h', tk, m', nx, news', e, F', N', hn, hi, ha, hj⟩
      refine ⟨rfl, h', tk, m', nx, e, F', fun p hp => ?_, fun p hp hq => ha p hp (List.mem_singleton.mp hq), hj⟩
      rcases List.mem_append.mp hp with h | h
      · have e1 := List.mem_singleton.mp (hown p h)
        have e2 := hownat p h
        dsimp only at e2
        rw [e1, ho] at e2
        have e3 : p = (s.heap.objs.size, o) := by
          obtain ⟨p1, p2⟩ := p
          dsimp only at e1 e2
          rw [e1, Option.some.inj e2]
        rw [e3]; exact N' _ hi
      · exact N' p (hn p h)
    cases f with
    | ret v => exact .ret p
    | brk => exact .brk p
    | next => exact .next (fin p)
    | cont => exact .cont (fin p)
  · rintro h' tk m' news' F' N' _ hJ
    exact done m' news' h' tk hJ F' N'

theorem iter_strG {xt : Str} {tx : Tok} {m₀ : Str → Option Value} {news : List (Addr × Obj)} (J : Nat → (Str → Option Value) → List (Addr × Obj) → Prop)
    (hh : A.handled = none) (hx : Tx xt) (F : Fr h₀ env.locals s.heap m₀) (N : News h₀ env.locals s.heap news) (h0 : J 0 m₀ news)
    (turn : ∀ i c u m₁ news₁ I o h tk, (Ls xt)[i]? = some c → J i m₁ news₁ → (∀ p ∈ news₁, p.1 ≠ I) → Fr h₀ env.locals h (fun y => if y = x then some (.str ⟨#[c]⟩ u) else m₁ y) → News h₀ env.locals h (news₁ ++ [(I, o)]) →
      wpAny (model prog w) A (execs body env) (LG h₀ env.locals (J (i + 1)) I o { s with heap := h, toks := tk } Q) E { s with heap := h, toks := tk })
    (done : ∀ m₁ news₁ h tk, J (Ls xt).length m₁ news₁ → Fr h₀ env.locals h m₁ → News h₀ env.locals h news₁ → Q .next { s with heap := h, toks := tk }) :
    wpAny (model prog w) A (pyIter (.str xt tx)) (fun it s₂ => LoopAtV prog w A h₀ env x body Q E it s₂) E s := by
  have ha : xt.cps.all (· < 128) = true := by
    rw [← Array.all_toList, List.all_eq_true]
    intro c hc; exact decide_eq_true (hx.2 c hc).1
  refine wpAny_pyIter_ascii ha ?_
  refine iterG (n := xt.cps.size) J (Walks.strAscii hh _ xt tx) ?_ rfl _ ⟨_, Heap.get?_push_size _ rfl, rfl, rfl⟩ F N h0 ?_ ?_
  · rintro i h ⟨o, ho, _⟩; exact ⟨o, ho⟩
  · rintro i v m₁ news₁ o h tk hi ⟨c, u, hc, rfl⟩ hJ hne F₁ N₁
    exact turn i c u m₁ news₁ _ o h tk (by simpa using hc) hJ hne F₁ N₁
  · intro m₁ news₁ h tk hJ; exact done m₁ news₁ h tk (by simpa using hJ)

theorem iter_rangeG {r : Addr} {a b : Int} {t u v : Tok} {n : Nat} {m₀ : Str → Option Value} {news : List (Addr × Obj)} (J : Nat → (Str → Option Value) → List (Addr × Obj) → Prop)
    (hh : A.handled = none) (hr : IsRange s.heap r a b 1 t u v) (hn : n = (b - a).toNat) (hsm : -1000000 ≤ a ∧ a ≤ 1000000 ∧ -1000000 ≤ b ∧ b ≤ 1000000) (F : Fr h₀ env.locals s.heap m₀) (N : News h₀ env.locals s.heap news) (h0 : J 0 m₀ news)
    (turn : ∀ (i : Nat) u m₁ news₁ I o h tk, i < n → J i m₁ news₁ → (∀ p ∈ news₁, p.1 ≠ I) → Fr h₀ env.locals h (fun y => if y = x then some (.int (a + i) u) else m₁ y) → News h₀ env.locals h (news₁ ++ [(I, o)]) →
      wpAny (model prog w) A (execs body env) (LG h₀ env.locals (J (i + 1)) I o { s with heap := h, toks := tk } Q) E { s with heap := h, toks := tk })
    (done : ∀ m₁ news₁ h tk, J n m₁ news₁ → Fr h₀ env.locals h m₁ → News h₀ env.locals h news₁ → Q .next { s with heap := h, toks := tk }) :
    wpAny (model prog w) A (pyIter (.ref r)) (fun it s₂ => LoopAtV prog w A h₀ env x body Q E it s₂) E s := by
  have hsmall : Builtin.Range.small a b 1 = true := small_one (by omega) (by omega) (by omega) (by omega)
  have hsz : Builtin.Range.rangeSize a b 1 = (n : Int) := by
    unfold Builtin.Range.rangeSize
    rw [if_pos (by decide), Int.ediv_one]
    split <;> omega
  refine wpAny_pyIter_range hr hsmall ?_
  refine iterG (n := n) J (Walks.range hh _ a 1 n) ?_ rfl _ ?_ F N h0 ?_ ?_
  · intro i h st; exact ⟨_, st⟩
  · have e1 : a + ((0 : Nat) : Int) * 1 = a := by omega
    have e2 : (n : Int) - ((0 : Nat) : Int) = n := by omega
    rw [hsz, e1, e2]
    exact Heap.get?_push_size _ rfl
  · rintro i v m₁ news₁ o h tk hi ⟨u, rfl⟩ hJ hne F₁ N₁
    rw [Int.mul_one] at F₁
    exact turn i u m₁ news₁ _ o h tk hi hJ hne F₁ N₁
  · intro m₁ news₁ h tk hJ; exact done m₁ news₁ h tk hJ

theorem has_of {x : Str} {m' m₀ : Str → Option Value} : ∀ {ps : List (Str × Value)}, (∀ p ∈ ps, m' p.1 = some p.2) → (∀ y, y ≠ x → (∀ p ∈ ps, y ≠ p.1) → m' y = m₀ y) → Has x m' m₀ ps
  | [], _, h2 => fun y hy => h2 y hy (List.forall_mem_nil _)
  | p :: r, h1, h2 => fun y hy => by
    rw [bsM_cons]
    by_cases e : y = p.1
    · rw [if_pos e, e]; exact h1 p List.mem_cons_self
    · rw [if_neg e]
      have ih : Has x (fun z => if z = p.1 then m₀ z else m' z) m₀ (r.filter fun q => decide (q.1 ≠ p.1)) := has_of (ps := r.filter fun q => decide (q.1 ≠ p.1)) (fun q hq => by
          obtain ⟨a, b⟩ := List.mem_filter.mp hq
          have b := of_decide_eq_true b
          show (if q.1 = p.1 then m₀ q.1 else m' q.1) = _
          rw [if_neg b]; exact h1 q (List.mem_cons_of_mem _ a)) (fun z hz hq => by
          by_cases ez : z = p.1
          · show (if z = p.1 then m₀ z else m' z) = _; rw [if_pos ez]
          · show (if z = p.1 then m₀ z else m' z) = _
            rw [if_neg ez]
            refine h2 z hz (fun q hq' => ?_)
            rcases List.mem_cons.mp hq' with e | e
            · rw [e]; exact ez
            · by_cases eq : q.1 = p.1
              · rw [eq]; exact ez
              · exact hq q (List.mem_filter.mpr ⟨e, decide_eq_true eq⟩))
      have h := ih y hy
      dsimp only at h
      rw [if_neg e] at h
      rw [h]
      clear ih h h1 h2
      induction r with
      | nil => rfl
      | cons q r ihr =>
        rw [List.filter_cons]
        split
        · rw [bsM_cons, bsM_cons, ihr]
        · rename_i hq
          have hq' : q.1 = p.1 := by
            cases hd : decide (q.1 ≠ p.1) with
            | true => exact absurd hd hq
            | false => exact Classical.not_not.mp (of_decide_eq_false hd)
          rw [bsM_cons, if_neg (by rw [hq']; exact e), ihr]
termination_by ps => ps.length
decreasing_by simp only [List.length_cons]; exact Nat.lt_succ_of_le (List.length_filter_le _ _)

theorem force_eqs (m : Str → Option Value) (k : Str) (v : Value) (y : Str) (a : y ≠ k) : bsM [(k, v)] m y = m y := by simp only [bsM, a, if_false]
theorem fa_nil {m' : Str → Option Value} : ∀ p ∈ ([] : List (Str × Value)), m' p.1 = some p.2 := List.forall_mem_nil _
theorem fa_cons {m' : Str → Option Value} {k : Str} {v : Value} {r : List (Str × Value)} (h : m' k = some v) (h2 : ∀ p ∈ r, m' p.1 = some p.2) : ∀ p ∈ (k, v) :: r, m' p.1 = some p.2 := List.forall_mem_cons.mpr ⟨h, h2⟩
theorem range_st {r : Addr} {a b : Int} {t u : Tok} {v : Tok} {n : Nat} {m₀ : Str → Option Value} {news : List (Addr × Obj)} (S : Nat → List (Str × Value) → List (Addr × Obj) → Prop) (ps : List (Str × Value))
    (hh : A.handled = none) (hr : IsRange s.heap r a b 1 t u v) (hn : n = (b - a).toNat) (hsm : -1000000 ≤ a ∧ a ≤ 1000000 ∧ -1000000 ≤ b ∧ b ≤ 1000000) (F : Fr h₀ env.locals s.heap m₀) (N : News h₀ env.locals s.heap news) (h0 : S 0 ps news)
    (hps : ∀ p ∈ ps, m₀ p.1 = some p.2)
    (turn : ∀ (i : Nat) u ps news₁ I o h tk, i < n → S i ps news₁ → AllNe I news₁ → Fr h₀ env.locals h (bsM ((x, .int (a + i) u) :: ps) m₀) → News h₀ env.locals h ((I, o) :: news₁) →
      wpAny (model prog w) A (execs body env) (LG h₀ env.locals (fun m₁ nx => ∃ ps', S (i + 1) ps' nx ∧ Has x m₁ m₀ ps') I o { s with heap := h, toks := tk } Q) E { s with heap := h, toks := tk })
    (done : ∀ (z : Str → Option Value) ps news₁ h tk, S n ps news₁ → Fr h₀ env.locals h (fun y => if y = x then z y else bsM ps m₀ y) → News h₀ env.locals h news₁ → Q .next { s with heap := h, toks := tk }) :
    wpAny (model prog w) A (pyIter (.ref r)) (fun it s₂ => LoopAtV prog w A h₀ env x body Q E it s₂) E s := by
  refine iter_rangeG (n := n) (fun i m₁ nx => ∃ ps', S i ps' nx ∧ Has x m₁ m₀ ps') hh hr hn hsm F N ⟨ps, h0, has_of hps fun _ _ _ => rfl⟩ ?_ ?_
  · rintro i u' m₁ news₁ I o h tk hi ⟨ps', hS, hH⟩ hne F₁ N₁
    refine turn i u' ps' news₁ I o h tk hi hS (allNe_of hne) (hH.fr F₁) fun p hp => N₁ p ?_
    rcases List.mem_cons.mp hp with e | e
    · exact List.mem_append.mpr (.inr (List.mem_singleton.mpr e))
    · exact List.mem_append.mpr (.inl e)
  · rintro m₁ news₁ h tk ⟨ps', hS, hH⟩ F₁ N₁
    exact done m₁ ps' news₁ h tk hS (hH.out F₁) N₁

theorem str_st {xt : Str} {tx : Tok} {m₀ : Str → Option Value} {news : List (Addr × Obj)} (S : Nat → List (Str × Value) → List (Addr × Obj) → Prop) (ps : List (Str × Value))
    (hh : A.handled = none) (hx : Tx xt) (F : Fr h₀ env.locals s.heap m₀) (N : News h₀ env.locals s.heap news) (h0 : S 0 ps news) (hps : ∀ p ∈ ps, m₀ p.1 = some p.2)
    (turn : ∀ i c u ps news₁ I o h tk, (Ls xt)[i]? = some c → S i ps news₁ → AllNe I news₁ → Fr h₀ env.locals h (bsM ((x, .str ⟨#[c]⟩ u) :: ps) m₀) → News h₀ env.locals h ((I, o) :: news₁) →
      wpAny (model prog w) A (execs body env) (LG h₀ env.locals (fun m₁ nx => ∃ ps', S (i + 1) ps' nx ∧ Has x m₁ m₀ ps') I o { s with heap := h, toks := tk } Q) E { s with heap := h, toks := tk })
    (done : ∀ (z : Str → Option Value) ps news₁ h tk, S (Ls xt).length ps news₁ → Fr h₀ env.locals h (fun y => if y = x then z y else bsM ps m₀ y) → News h₀ env.locals h news₁ → Q .next { s with heap := h, toks := tk }) :
    wpAny (model prog w) A (pyIter (.str xt tx)) (fun it s₂ => LoopAtV prog w A h₀ env x body Q E it s₂) E s := by
  refine iter_strG (fun i m₁ nx => ∃ ps', S i ps' nx ∧ Has x m₁ m₀ ps') hh hx F N ⟨ps, h0, has_of hps fun _ _ _ => rfl⟩ ?_ ?_
  · rintro i c u' m₁ news₁ I o h tk hi ⟨ps', hS, hH⟩ hne F₁ N₁
    refine turn i c u' ps' news₁ I o h tk hi hS (allNe_of hne) (hH.fr F₁) fun p hp => N₁ p ?_
    rcases List.mem_cons.mp hp with e | e
    · exact List.mem_append.mpr (.inr (List.mem_singleton.mpr e))
    · exact List.mem_append.mpr (.inl e)
  · rintro m₁ news₁ h tk ⟨ps', hS, hH⟩ F₁ N₁
    exact done m₁ ps' news₁ h tk hS (hH.out F₁) N₁

theorem st_end {h' : Heap} {L I : Addr} {o : Obj} {m' m₀ : Str → Option Value} {news' nx : List (Addr × Obj)} {S : List (Str × Value) → List (Addr × Obj) → Prop} {ps : List (Str × Value)} {tk : Nat}
    (F : Fr h₀ L h' m') (N : News h₀ L h' news') (hS : S ps nx) (hv : ∀ p ∈ ps, m' p.1 = some p.2) (ho : ∀ y, y ≠ x → (∀ p ∈ ps, y ≠ p.1) → m' y = m₀ y) (hi : (I, o) ∈ news') (hb : ∀ p ∈ nx, p ∈ news') (hne : AllNe I nx) :
    LG h₀ L (fun m₁ nx => ∃ ps', S ps' nx ∧ Has x m₁ m₀ ps') I o s Q .next { s with heap := h', toks := tk } :=
  LG.intro' nx F N hb hi hne ⟨ps, hS, has_of hv ho⟩
theorem st_end0 {h' : Heap} {L I : Addr} {o : Obj} {m' m₀ : Str → Option Value} {news' nx : List (Addr × Obj)} {S : List (Str × Value) → List (Addr × Obj) → Prop} {tk : Nat} 
    (F : Fr h₀ L h' m') (N : News h₀ L h' news') (hi : (I, o) ∈ news')  (hS : S [] nx) (ho : ∀ y, y ≠ x → m' y = m₀ y) (hb : ∀ p ∈ nx, p ∈ news') (hne : AllNe I nx) :
    LG h₀ L (fun m₁ nx => ∃ ps', S ps' nx ∧ Has x m₁ m₀ ps') I o s Q .next { s with heap := h', toks := tk } :=
  st_end F N hS fa_nil (fun y hy hp => ho y hy) hi hb hne
theorem st_end1 {h' : Heap} {L I : Addr} {o : Obj} {m' m₀ : Str → Option Value} {news' nx : List (Addr × Obj)} {S : List (Str × Value) → List (Addr × Obj) → Prop} {tk : Nat} {k1 : Str} {v1 : Value} 
    (F : Fr h₀ L h' m') (N : News h₀ L h' news') (hi : (I, o) ∈ news') (e1 : m' k1 = some v1) (hS : S [(k1, v1)] nx) (ho : ∀ y, y ≠ x → y ≠ k1 → m' y = m₀ y) (hb : ∀ p ∈ nx, p ∈ news') (hne : AllNe I nx) :
    LG h₀ L (fun m₁ nx => ∃ ps', S ps' nx ∧ Has x m₁ m₀ ps') I o s Q .next { s with heap := h', toks := tk } :=
  st_end F N hS (fa_cons e1 fa_nil) (fun y hy hp => ho y hy (hp (k1, v1) (by simp))) hi hb hne
theorem st_end2 {h' : Heap} {L I : Addr} {o : Obj} {m' m₀ : Str → Option Value} {news' nx : List (Addr × Obj)} {S : List (Str × Value) → List (Addr × Obj) → Prop} {tk : Nat} {k1 k2 : Str} {v1 v2 : Value} 
    (F : Fr h₀ L h' m') (N : News h₀ L h' news') (hi : (I, o) ∈ news') (e1 : m' k1 = some v1) (e2 : m' k2 = some v2) (hS : S [(k1, v1), (k2, v2)] nx) (ho : ∀ y, y ≠ x → y ≠ k1 → y ≠ k2 → m' y = m₀ y) (hb : ∀ p ∈ nx, p ∈ news') (hne : AllNe I nx) :
    LG h₀ L (fun m₁ nx => ∃ ps', S ps' nx ∧ Has x m₁ m₀ ps') I o s Q .next { s with heap := h', toks := tk } :=
  st_end F N hS (fa_cons e1 (fa_cons e2 fa_nil)) (fun y hy hp => ho y hy (hp (k1, v1) (by simp)) (hp (k2, v2) (by simp))) hi hb hne
theorem st_end3 {h' : Heap} {L I : Addr} {o : Obj} {m' m₀ : Str → Option Value} {news' nx : List (Addr × Obj)} {S : List (Str × Value) → List (Addr × Obj) → Prop} {tk : Nat} {k1 k2 k3 : Str} {v1 v2 v3 : Value} 
    (F : Fr h₀ L h' m') (N : News h₀ L h' news') (hi : (I, o) ∈ news') (e1 : m' k1 = some v1) (e2 : m' k2 = some v2) (e3 : m' k3 = some v3) (hS : S [(k1, v1), (k2, v2), (k3, v3)] nx) (ho : ∀ y, y ≠ x → y ≠ k1 → y ≠ k2 → y ≠ k3 → m' y = m₀ y) (hb : ∀ p ∈ nx, p ∈ news') (hne : AllNe I nx) :
    LG h₀ L (fun m₁ nx => ∃ ps', S ps' nx ∧ Has x m₁ m₀ ps') I o s Q .next { s with heap := h', toks := tk } :=
  st_end F N hS (fa_cons e1 (fa_cons e2 (fa_cons e3 fa_nil))) (fun y hy hp => ho y hy (hp (k1, v1) (by simp)) (hp (k2, v2) (by simp)) (hp (k3, v3) (by simp))) hi hb hne
theorem st_end4 {h' : Heap} {L I : Addr} {o : Obj} {m' m₀ : Str → Option Value} {news' nx : List (Addr × Obj)} {S : List (Str × Value) → List (Addr × Obj) → Prop} {tk : Nat} {k1 k2 k3 k4 : Str} {v1 v2 v3 v4 : Value} 
    (F : Fr h₀ L h' m') (N : News h₀ L h' news') (hi : (I, o) ∈ news') (e1 : m' k1 = some v1) (e2 : m' k2 = some v2) (e3 : m' k3 = some v3) (e4 : m' k4 = some v4) (hS : S [(k1, v1), (k2, v2), (k3, v3), (k4, v4)] nx) (ho : ∀ y, y ≠ x → y ≠ k1 → y ≠ k2 → y ≠ k3 → y ≠ k4 → m' y = m₀ y) (hb : ∀ p ∈ nx, p ∈ news') (hne : AllNe I nx) :
    LG h₀ L (fun m₁ nx => ∃ ps', S ps' nx ∧ Has x m₁ m₀ ps') I o s Q .next { s with heap := h', toks := tk } :=
  st_end F N hS (fa_cons e1 (fa_cons e2 (fa_cons e3 (fa_cons e4 fa_nil)))) (fun y hy hp => ho y hy (hp (k1, v1) (by simp)) (hp (k2, v2) (by simp)) (hp (k3, v3) (by simp)) (hp (k4, v4) (by simp))) hi hb hne
end
end Mine
end

section
local macro_rules | `(tactic| omega) => `(tactic| lia)
open PySem PySem.W PyProof.Rows PySem.Calls
set_option Elab.async false
set_option maxRecDepth 100000
set_option maxHeartbeats 8000000
namespace Mine

/-- what tabnanny keeps of a lead: the runs that stand ahead of a tab, each with how often; the run behind; the tabs -/
structure Ws where
  cnt : List Int
  b : Nat
  nt : Nat
noncomputable def bump (l : List Int) (b : Nat) : List Int := (l ++ List.replicate (b + 1 - l.length) 0).modify b (· + 1)
noncomputable def wsF (q : Ws) (c : Nat) : Ws := if c = 9 then ⟨bump q.cnt q.b, 0, q.nt + 1⟩ else ⟨q.cnt, q.b + 1, q.nt⟩
noncomputable def wsL (l : List Nat) : Ws := l.foldl wsF ⟨[], 0, 0⟩
theorem bump_len (l : List Int) (b : Nat) : (bump l b).length = max l.length (b + 1) := by
  simp [bump]; omega
theorem wsL_snoc (l : List Nat) (c : Nat) : wsL (l ++ [c]) = wsF (wsL l) c := by simp [wsL]
theorem ws_bounds0 : ∀ (l : List Nat) (q : Ws), (l.foldl wsF q).nt ≤ q.nt + l.length ∧ (l.foldl wsF q).cnt.length + (l.foldl wsF q).b ≤ q.cnt.length + q.b + l.length
  | [], q => by simp
  | c :: r, q => by
    have h := ws_bounds0 r (wsF q c)
    rw [List.foldl_cons, List.length_cons]
    unfold wsF at h ⊢
    split at h
    · rename_i e
      rw [if_pos e]
      simp only [bump_len] at h
      omega
    · rename_i e
      rw [if_neg e]
      dsimp only at h
      omega
theorem ws_bounds (l : List Nat) : (wsL l).nt ≤ l.length ∧ (wsL l).cnt.length + (wsL l).b ≤ l.length := by
  have h := ws_bounds0 l ⟨[], 0, 0⟩
  simp only [List.length_nil] at h
  exact ⟨by have := h.1; unfold wsL; omega, by have := h.2; unfold wsL; omega⟩

theorem news_front {h₀ h : Heap} {L : Addr} {a : List (Addr × Obj)} {x : Addr × Obj} (N : News h₀ L h (a ++ [x])) : News h₀ L h (x :: a) := fun p hp => N p (by
  rcases List.mem_cons.mp hp with h | h
  · exact List.mem_append.mpr (.inr (List.mem_singleton.mpr h))
  · exact List.mem_append.mpr (.inl h))
section
variable {prog : Program} {w : World} {A : Around} {E : Value → Shared → Prop} {s : Shared} {env : Env} {h₀ : Heap} {body : List Stmt} {Q : Flow → Shared → Prop}

noncomputable abbrev wsNames (l : Addr) (q : Ws) (n : Nat) (tb tn tt : Tok) : List (Str × Value) :=
  [(Str.ofString "count", .ref l), (Str.ofString "b", .int q.b tb), (Str.ofString "n", .int n tn), (Str.ofString "nt", .int q.nt tt)]
noncomputable def WsJ (m₀ : Str → Option Value) (bs : List (Addr × Obj)) (xt : Str) (i : Nat) (m₁ : Str → Option Value) (news₁ : List (Addr × Obj)) : Prop :=
  ∃ l vs k tb tn tt, news₁ = (l, PySem.W.listOf (List.toArray vs) k) :: bs ∧ IntsAre vs (wsL ((Ls xt).take i)).cnt ∧ Has (Str.ofString "ch") m₁ m₀ (wsNames l (wsL ((Ls xt).take i)) i tb tn tt) ∧ AllLt l bs

theorem ws_loop {xt : Str} {tx : Tok} {m₀ : Str → Option Value} {l0 : Addr} {k0 : Nat} {bs : List (Addr × Obj)} {tb tn tt : Tok}
    (hh : A.handled = none) (hx : Tx xt) (hc : ∀ c ∈ Ls xt, c = 9 ∨ c = 32) (F : Fr h₀ env.locals s.heap m₀) (N : News h₀ env.locals s.heap ((l0, PySem.W.listOf #[] k0) :: bs))
    (hm : m₀ (Str.ofString "count") = some (.ref l0) ∧ m₀ (Str.ofString "b") = some (.int 0 tb) ∧ m₀ (Str.ofString "n") = some (.int 0 tn) ∧ m₀ (Str.ofString "nt") = some (.int 0 tt)) (hl : AllLt l0 bs)
    (turn : ∀ (i c : Nat) u I o h tk l vs k (q : Ws) tb tn tt, (c = 9 ∨ c = 32) → i < 64 → q.nt ≤ 64 → q.cnt.length ≤ 64 → q.b ≤ 64 → IntsAre vs q.cnt → AllLt l bs → l ≠ I → AllNe I bs →
      Fr h₀ env.locals h (bsM ((Str.ofString "ch", .str ⟨#[c]⟩ u) :: wsNames l q i tb tn tt) m₀) → News h₀ env.locals h ((I, o) :: (l, PySem.W.listOf vs.toArray k) :: bs) →
      wpAny (model prog w) A (execs body env) (LG h₀ env.locals (fun m₁ nx => ∃ l' vs' k' tb' tn' tt', nx = (l', PySem.W.listOf (List.toArray vs') k') :: bs ∧ IntsAre vs' (wsF q c).cnt ∧ Has (Str.ofString "ch") m₁ m₀ (wsNames l' (wsF q c) (i + 1) tb' tn' tt') ∧ AllLt l' bs) I o { s with heap := h, toks := tk } Q) E { s with heap := h, toks := tk })
    (done : ∀ (u : Str → Option Value) l vs k tb tn tt h tk, IntsAre vs (wsL (Ls xt)).cnt → AllLt l bs → Fr h₀ env.locals h (fun y => if y = Str.ofString "ch" then u y else bsM (wsNames l (wsL (Ls xt)) (Ls xt).length tb tn tt) m₀ y) → News h₀ env.locals h ((l, PySem.W.listOf vs.toArray k) :: bs) → Q .next { s with heap := h, toks := tk }) :
    wpAny (model prog w) A (pyIter (.str xt tx)) (fun it s₂ => LoopAtV prog w A h₀ env (Str.ofString "ch") body Q E it s₂) E s := by
  refine iter_strG (WsJ m₀ bs xt) hh hx F N ⟨l0, [], k0, tb, tn, tt, rfl, .nil, ?_, hl⟩ ?_ ?_
  · intro y _
    show m₀ y = if y = _ then _ else if y = _ then _ else if y = _ then _ else if y = _ then _ else m₀ y
    split
    · rename_i e; rw [e]; exact hm.1
    · split
      · rename_i e; rw [e]; exact hm.2.1
      · split
        · rename_i e; rw [e]; exact hm.2.2.1
        · split
          · rename_i e; rw [e]; exact hm.2.2.2
          · rfl
  · rintro i c u m₁ news₁ I o h tk hic ⟨l, vs, k, tb, tn, tt, rfl, hi, hH, hl⟩ hne F₁ N₁
    have hlt : i < (Ls xt).length := (List.getElem?_eq_some_iff.mp hic).1
    have h64 := hx.len
    rw [len_L] at h64
    have hb := ws_bounds ((Ls xt).take i)
    rw [List.length_take] at hb
    have hs : wsL ((Ls xt).take (i + 1)) = wsF (wsL ((Ls xt).take i)) c := by
      rw [List.take_add_one, hic]; exact wsL_snoc _ _
    have hne' := allNe_of hne
    have r := turn i c u I o h tk l vs k (wsL ((Ls xt).take i)) tb tn tt (hc c (List.mem_of_getElem? hic)) (by omega) (by omega) (by omega) (by omega) hi hl hne'.1 hne'.2 (hH.fr F₁) (news_front N₁)
    rw [← hs] at r
    exact r
  · rintro m₁ news₁ h tk ⟨l, vs, k, tb, tn, tt, rfl, hi, hH, hl⟩ F₁ N₁
    rw [List.take_length] at hi hH
    exact done m₁ l vs k tb tn tt h tk hi hl (hH.out F₁) N₁

theorem sign32 (k : Nat) : (({ cps := #[k] } : Str) == Str.ofString " ") = (k == 32) := by
  have e : Ls (Str.ofString " ") = [32] := by decide +kernel
  rw [beq_L, e, Bool.eq_iff_iff, beq_iff_eq, beq_iff_eq]
  exact ⟨fun h => (List.cons.inj h).1, fun h => by rw [h]⟩
theorem sign9 (k : Nat) : (({ cps := #[k] } : Str) == Str.ofString "\t") = (k == 9) := by
  have e : Ls (Str.ofString "\t") = [9] := by decide +kernel
  rw [beq_L, e, Bool.eq_iff_iff, beq_iff_eq, beq_iff_eq]
  exact ⟨fun h => (List.cons.inj h).1, fun h => by rw [h]⟩
theorem no_sign {c : Nat} (h : c = 9 ∨ c = 32) (a : (({ cps := #[c] } : Str) == Str.ofString " ") = false) (b : (({ cps := #[c] } : Str) == Str.ofString "\t") = false) : False := by
  rw [sign32] at a; rw [sign9] at b; rcases h with rfl | rfl <;> simp at a b
theorem wsF_sp {q : Ws} {c : Nat} (a : (({ cps := #[c] } : Str) == Str.ofString " ") = true) : wsF q c = ⟨q.cnt, q.b + 1, q.nt⟩ := by
  rw [sign32, beq_iff_eq] at a; subst a; rfl
theorem wsF_tab {q : Ws} {c : Nat} (a : (({ cps := #[c] } : Str) == Str.ofString "\t") = true) : wsF q c = ⟨bump q.cnt q.b, 0, q.nt + 1⟩ := by
  rw [sign9, beq_iff_eq] at a; subst a; rfl
theorem modify_set : ∀ (l : List Int) (b : Nat), b < l.length → l.modify b (· + 1) = l.set b (l.getD b 0 + 1)
  | [], _, h => absurd h (Nat.not_lt_zero _)
  | a :: r, 0, _ => by simp
  | a :: r, b + 1, h => by
    have := modify_set r b (by simpa using h)
    simp only [List.modify_succ_cons, List.set_cons_succ, List.getD_cons_succ, this]
theorem bump_in {l : List Int} {b : Nat} (h : b < l.length) : bump l b = l.set b (l.getD b 0 + 1) := by
  unfold bump
  have : b + 1 - l.length = 0 := by omega
  rw [this, List.replicate_zero, List.append_nil, modify_set _ _ h]
theorem bump_out {l : List Int} {b : Nat} {n : Nat} (h : l.length ≤ b) (hn : n = b + 1 - l.length) : bump l b = (l ++ List.replicate n 0).set b ((l ++ List.replicate n 0).getD b 0 + 1) := by
  subst hn
  unfold bump
  exact modify_set _ _ (by simp; omega)
theorem bump_grow {l : List Int} {b : Nat} (h : (l.length : Int) ≤ (b : Int)) : bump l b = (l ++ (List.replicate ((b : Int) - (l.length : Int) + 1).toNat [(0 : Int)]).flatten).set ((b : Int)).toNat ((l ++ (List.replicate ((b : Int) - (l.length : Int) + 1).toNat [(0 : Int)]).flatten).getD ((b : Int)).toNat 0 + 1) := by
  rw [List.flatten_replicate_singleton]
  exact bump_out (by omega) (by omega)
theorem ws_size {x : Str} {vs : List Value} (hx : Tx x) (h : IntsAre vs (wsL (Ls x)).cnt) : vs.toArray.size ≤ 16384 := by
  have h1 := h.length
  have h2 := ws_bounds (Ls x)
  have h3 := hx.len
  rw [len_L] at h3
  rw [List.size_toArray]; omega
theorem ws_cnt {x : Str} (hx : Tx x) : (wsL (Ls x)).cnt.length ≤ 64 ∧ (wsL (Ls x)).b ≤ 64 ∧ (wsL (Ls x)).nt ≤ 64 := by
  have h2 := ws_bounds (Ls x)
  have h3 := hx.len
  rw [len_L] at h3
  omega
theorem len_intsN {l : Addr} {vs : List Value} {ns : List Int} {k : Nat} {L : Addr} {m : Str → Option Value} {news : List (Addr × Obj)} {Q : Value → Shared → Prop} (N : News h₀ L s.heap news) (hm : (l, PySem.W.listOf vs.toArray k) ∈ news) (hi : IntsAre vs ns) (hz : ns.length ≤ 16384)
    (h : ∀ t tk, Q (.int (ns.length : Int) t) { s with toks := tk }) : wpAny (model prog w) A (call (.builtin "len") [.ref l]) Q E s := by
  have hl := hi.length
  refine call_len_list (IsL.isList (n := k) (N _ hm).1) (by rw [List.size_toArray]; omega) ?_
  rw [List.size_toArray, hl]
  exact h _ _
theorem has4 {m' m₀ : Str → Option Value} {l : Addr} {q : Ws} {n : Nat} {vb vn vt : Int} {tb tn tt : Tok} (h1 : m' (Str.ofString "count") = some (.ref l)) (h2 : m' (Str.ofString "b") = some (.int vb tb)) (h3 : m' (Str.ofString "n") = some (.int vn tn)) (h4 : m' (Str.ofString "nt") = some (.int vt tt))
    (h5 : ∀ y, y ≠ Str.ofString "ch" → y ≠ Str.ofString "count" → y ≠ Str.ofString "b" → y ≠ Str.ofString "n" → y ≠ Str.ofString "nt" → m' y = m₀ y) (e2 : vb = q.b) (e3 : vn = n) (e4 : vt = q.nt) : Has (Str.ofString "ch") m' m₀ (wsNames l q n tb tn tt) := by
  subst e2 e3 e4
  intro y hy
  show m' y = if y = _ then _ else if y = _ then _ else if y = _ then _ else if y = _ then _ else m₀ y
  by_cases a : y = Str.ofString "count"
  · rw [if_pos a, a]; exact h1
  · rw [if_neg a]
    by_cases b : y = Str.ofString "b"
    · rw [if_pos b, b]; exact h2
    · rw [if_neg b]
      by_cases c : y = Str.ofString "n"
      · rw [if_pos c, c]; exact h3
      · rw [if_neg c]
        by_cases d : y = Str.ofString "nt"
        · rw [if_pos d, d]; exact h4
        · rw [if_neg d]; exact h5 y hy a b c d
theorem ws_end {h' : Heap} {L I l' : Addr} {o : Obj} {m' m₀ : Str → Option Value} {news' bs : List (Addr × Obj)} {vs' : List Value} {k' : Nat} {cnt' : List Int} {q q' : Ws} {n : Nat} {vb vn vt : Int} {tb tn tt : Tok} {tk : Nat} {c : Nat}
    (F : Fr h₀ L h' m') (N : News h₀ L h' news') (h1 : m' (Str.ofString "count") = some (.ref l')) (hm : (l', PySem.W.listOf (List.toArray vs') k') ∈ news') (hi : (I, o) ∈ news') (hb : ∀ p ∈ bs, p ∈ news') (hne : l' ≠ I) (hbs : AllNe I bs) (hl : AllLt l' bs)
    (hv : IntsAre vs' cnt') (eq : wsF q c = q') (e1 : cnt' = q'.cnt) (h2 : m' (Str.ofString "b") = some (.int vb tb)) (h3 : m' (Str.ofString "n") = some (.int vn tn)) (h4 : m' (Str.ofString "nt") = some (.int vt tt))
    (h5 : ∀ y, y ≠ Str.ofString "ch" → y ≠ Str.ofString "count" → y ≠ Str.ofString "b" → y ≠ Str.ofString "n" → y ≠ Str.ofString "nt" → m' y = m₀ y) (e2 : vb = q'.b) (e3 : vn = (n + 1 : Nat)) (e4 : vt = q'.nt) :
    LG h₀ L (fun m₁ nx => ∃ l' vs' k' tb' tn' tt', nx = (l', PySem.W.listOf (List.toArray vs') k') :: bs ∧ IntsAre vs' (wsF q c).cnt ∧ Has (Str.ofString "ch") m₁ m₀ (wsNames l' (wsF q c) (n + 1) tb' tn' tt') ∧ AllLt l' bs) I o s Q .next { s with heap := h', toks := tk } := by
  subst eq e1
  refine LG.intro' ((l', PySem.W.listOf (List.toArray vs') k') :: bs) F N ?_ hi ⟨hne, hbs⟩ ⟨l', vs', k', tb, tn, tt, rfl, hv, has4 h1 h2 h3 h4 h5 e2 e3 e4, hl⟩
  intro p hp
  rcases List.mem_cons.mp hp with e | e
  · rw [e]; exact hm
  · exact hb p e
end
structure WsT where
  h1 : Int
  h2 : Int
  h3 : Int
  h4 : Int
  h5 : Int
  k1 : Tok
  k2 : Tok
  k3 : Tok
  k4 : Tok
  k5 : Tok
  tb : Tok
  tn : Tok
  tt : Tok
noncomputable abbrev wsDict (e : WsT) (x : Str) (t : Tok) (tn : Addr) : Obj :=
  dictOf [⟨e.h1, .str (Str.ofString "raw") e.k1, .str x t⟩, ⟨e.h2, .str (Str.ofString "n") e.k2, .int ((Ls x).length : Int) e.tn⟩, ⟨e.h3, .str (Str.ofString "nt") e.k3, .int ((wsL (Ls x)).nt : Int) e.tt⟩,
    ⟨e.h4, .str (Str.ofString "norm") e.k4, .ref tn⟩, ⟨e.h5, .str (Str.ofString "is_simple") e.k5, .bool (decide ((wsL (Ls x)).cnt.length ≤ 1))⟩] 5
noncomputable abbrev wsObjs (a d tc tn : Addr) (vs : List Value) (e : WsT) (x : Str) (t : Tok) (news : List (Addr × Obj)) : List (Addr × Obj) :=
  (a, instObj 140 d) :: (d, wsDict e x t tn) :: (tn, tupO [.ref tc, .int ((wsL (Ls x)).b : Int) e.tb]) :: (tc, tupO vs) :: news
noncomputable abbrev RetW (news : List (Addr × Obj)) (x : Str) : Wh := fun h₀ L m s Q =>
  ∀ (a d tc tn : Addr) (vs : List Value) (e : WsT) (t : Tok) (h' : Heap) (tk' : Nat), Fr h₀ L h' m → News h₀ L h' (wsObjs a d tc tn vs e x t news) → IntsAre vs (wsL (Ls x)).cnt → AllLt d news → AllLt a news → AllLt tc news → AllLt tn news → @LT.lt Nat _ d a → @LT.lt Nat _ a tc → @LT.lt Nat _ tc tn → Q (.ref a) { s with heap := h', toks := tk' }
theorem allLt_mono {d a : Addr} (h : d ≤ a) : ∀ {l : List (Addr × Obj)}, AllLt d l → AllLt a l
  | [], _ => trivial
  | _ :: _, q => ⟨Nat.lt_of_lt_of_le q.1 h, allLt_mono h q.2⟩
theorem endW {h₀ h' : Heap} {L : Addr} {m : Str → Option Value} {news news' : List (Addr × Obj)} {s : Shared} {Q : Value → Shared → Prop} {tk' : Nat} {x : Str} {a d tc tn : Addr} {vs : List Value} {t k1 k2 k3 k4 k5 tb tnn tt : Tok} {h1 h2 h3 h4 h5 vn vt vb : Int} {sm : Bool}
    (ret : RetW news x h₀ L m s Q) (F : Fr h₀ L h' m) (N : News h₀ L h' news') (m1 : (a, instObj 140 d) ∈ news')
    (m2 : (d, dictOf [⟨h1, .str (Str.ofString "raw") k1, .str x t⟩, ⟨h2, .str (Str.ofString "n") k2, .int vn tnn⟩, ⟨h3, .str (Str.ofString "nt") k3, .int vt tt⟩, ⟨h4, .str (Str.ofString "norm") k4, .ref tn⟩, ⟨h5, .str (Str.ofString "is_simple") k5, .bool sm⟩] 5) ∈ news')
    (m3 : (tn, tupO [.ref tc, .int vb tb]) ∈ news') (m4 : (tc, tupO vs) ∈ news') (m5 : ∀ p ∈ news, p ∈ news') (hv : IntsAre vs (wsL (Ls x)).cnt)
    (en : vn = ((Ls x).length : Int)) (et : vt = ((wsL (Ls x)).nt : Int)) (eb : vb = ((wsL (Ls x)).b : Int)) (es : sm = decide ((wsL (Ls x)).cnt.length ≤ 1)) (l1 : AllLt d news) (l2 : @LT.lt Nat _ d a) (l3 : @LT.lt Nat _ a tc) (l4 : @LT.lt Nat _ tc tn) : Q (.ref a) { s with heap := h', toks := tk' } := by
  subst en et eb es
  refine ret a d tc tn vs ⟨h1, h2, h3, h4, h5, k1, k2, k3, k4, k5, tb, tnn, tt⟩ t h' tk' F (fun p hp => N p ?_) hv l1 (allLt_mono (Nat.le_of_lt l2) l1) (allLt_mono (Nat.le_of_lt (Nat.lt_trans l2 l3)) l1) (allLt_mono (Nat.le_of_lt (Nat.lt_trans (Nat.lt_trans l2 l3) l4)) l1) l2 l3 l4
  rcases List.mem_cons.mp hp with e | hp
  · rw [e]; exact m1
  · rcases List.mem_cons.mp hp with e | hp
    · rw [e]; exact m2
    · rcases List.mem_cons.mp hp with e | hp
      · rw [e]; exact m3
      · rcases List.mem_cons.mp hp with e | hp
        · rw [e]; exact m4
        · exact m5 p hp
end Mine
end

section
local macro_rules | `(tactic| omega) => `(tactic| lia)
open PySem PySem.W PyProof.Rows PySem.Calls PySem.Spec
set_option Elab.async false
set_option maxRecDepth 100000
set_option maxHeartbeats 8000000
namespace Mine
section
variable {prog : Program} {w : World} {A : Around} {E : Value → Shared → Prop} {s : Shared} {h₀ : Heap} {L : Addr} {m : Str → Option Value} {news : List (Addr × Obj)}
theorem tupN {h : Heap} {a : Addr} {vs : List Value} (N : News h₀ L h news) (hm : (a, tupO vs) ∈ news) : IsTup h a vs.toArray := ⟨_, (N _ hm).1, rfl, 0, rfl⟩
theorem len_tupN {a : Addr} {vs : List Value} {ns : List Int} {Q : Value → Shared → Prop} (N : News h₀ L s.heap news) (hm : (a, tupO vs) ∈ news) (hi : IntsAre vs ns) (hz : ns.length ≤ 16384)
    (h : ∀ t tk, Q (.int (ns.length : Int) t) { s with toks := tk }) : wpAny (model prog w) A (call (.builtin "len") [.ref a]) Q E s := by
  have hl := hi.length
  refine PyProof.Rows.len_tuple (tupN N hm) (by rw [List.size_toArray]; omega) ?_
  rw [List.size_toArray, hl]
  exact h _ _
theorem sub_tupN {value slice : Expr} {a : Addr} {vs : List Value} {ns : List Int} {k : Int} {u : Tok} {Q : Value → Shared → Prop} (N : News h₀ L s.heap news) (hm : (a, tupO vs) ∈ news) (hi : IntsAre vs ns) (h0 : 0 ≤ k) (h1 : k < (ns.length : Int)) (hz : ns.length ≤ 16384)
    (h : ∀ t, Q (.int (ns.getD k.toNat 0) t) s)
    (hs : subscripted slice false (.ref a) (.int k u) = operate [.ref a, .int k u] (getItem (.ref a) (.int k u)) := by with_unfolding_all rfl) :
    wpAny (model prog w) A (subscriptTail value slice (.ref a) (.int k u)) Q E s := by
  have hl := hi.length
  obtain ⟨t, ht⟩ := hi.get k.toNat (ns.getD k.toNat 0) (by
    rw [List.getD_eq_getElem?_getD, List.getElem?_eq_getElem (by omega)]; rfl)
  refine item_tupleT (j := k.toNat) (tupN N hm) (by omega) (by omega) ?_ ht (h t) hs
  rw [StrLaws.seqIndex_nonneg h0 (by omega)]

theorem reads_ints {h : Heap} : ∀ {vs : List Value} {ns : List Int}, IntsAre vs ns → ReadsAll h vs (ns.map PyData.int) []
  | _, _, .nil => .nil
  | _, _, .cons n t r => .cons (as := []) (bs := []) (.int n t) (reads_ints r)
theorem reads_norm {h : Heap} {tn tc : Addr} {b : Int} {tb : Tok} {vs : List Value} {ns : List Int} (N : News h₀ L h news) (m3 : (tn, tupO [.ref tc, .int b tb]) ∈ news) (m4 : (tc, tupO vs) ∈ news) (hi : IntsAre vs ns) :
    Reads h (.ref tn) (.tuple [.tuple (ns.map PyData.int), .int b]) [] :=
  .tuple (N _ m3).1 rfl rfl (.cons (as := []) (bs := []) (.tuple (N _ m4).1 rfl rfl (by simpa using reads_ints hi)) (.cons (as := []) (bs := []) (.int _ _) .nil))
theorem shaped_norm (ns : List Int) (b : Int) : SeqAt.shaped (.tuple [.tuple (ns.map PyData.int), .int b]) = true := by
  simp [SeqAt.shaped, PyData.canLay0, PyData.canLayAll0, PyData.depth, PyData.depthAll, ke_canLayAll0, ke_depthAll]
theorem eqv_norm (ns ms : List Int) (b c : Int) : PyData.eqv (.tuple [.tuple (ns.map PyData.int), .int b]) (.tuple [.tuple (ms.map PyData.int), .int c]) = (ns == ms && b == c) := by
  simp [PyData.eqv, PyData.eqvAll, ked_eqvAll]
  cases hd : decide (ns = ms) <;> simp_all
theorem eq_norm {tn tc tn2 tc2 : Addr} {b c : Int} {tb tb2 : Tok} {vs vs2 : List Value} {ns ms : List Int} {Q : Value → Shared → Prop} (N : News h₀ L s.heap news) (m3 : (tn, tupO [.ref tc, .int b tb]) ∈ news) (m4 : (tc, tupO vs) ∈ news) (hi : IntsAre vs ns)
    (p3 : (tn2, tupO [.ref tc2, .int c tb2]) ∈ news) (p4 : (tc2, tupO vs2) ∈ news) (hj : IntsAre vs2 ms) (hu : A.units + 64 < cLine) (h : Q (.bool (ns == ms && b == c)) s) : wpAny (model prog w) A (compareOp .Eq (.ref tn) (.ref tn2)) Q E s :=
  eq_dataH (reads_norm N m3 m4 hi) (reads_norm N p3 p4 hj) (shaped_norm _ _) (shaped_norm _ _) hu (by rw [eqv_norm]; exact h)
end

/-- the counts are counts -/
theorem bump_pos {l : List Int} {b : Nat} {B : Int} (h : ∀ c ∈ l, 0 ≤ c ∧ c ≤ B) (hB : 0 ≤ B) : ∀ c ∈ bump l b, 0 ≤ c ∧ c ≤ B + 1 := by
  have h0 : ∀ c ∈ l ++ List.replicate (b + 1 - l.length) 0, 0 ≤ c ∧ c ≤ B := by
    intro c hc
    rcases List.mem_append.mp hc with h1 | h1
    · exact h c h1
    · rw [(List.mem_replicate.mp h1).2]; omega
  have gen : ∀ (l : List Int) (b : Nat), (∀ c ∈ l, 0 ≤ c ∧ c ≤ B) → ∀ c ∈ l.modify b (· + 1), 0 ≤ c ∧ c ≤ B + 1 := by
    intro l
    induction l with
    | nil => intro b _ c hc; simp at hc
    | cons a r ih =>
      intro b hl c hc
      cases b with
      | zero =>
        rw [List.modify_zero_cons] at hc
        rcases List.mem_cons.mp hc with e | e
        · have := hl a List.mem_cons_self; omega
        · have := hl c (List.mem_cons_of_mem _ e); omega
      | succ b =>
        rw [List.modify_succ_cons] at hc
        rcases List.mem_cons.mp hc with e | e
        · have := hl a List.mem_cons_self; omega
        · exact ih b (fun z hz => hl z (List.mem_cons_of_mem _ hz)) c e
  exact gen _ _ h0
theorem ws_pos0 : ∀ (l : List Nat) (q : Ws) (B : Int), 0 ≤ B → (∀ c ∈ q.cnt, 0 ≤ c ∧ c ≤ B) → ∀ c ∈ (l.foldl wsF q).cnt, 0 ≤ c ∧ c ≤ B + l.length
  | [], q, B, _, h => fun c hc => by have := h c hc; simp; omega
  | a :: r, q, B, hB, h => fun c hc => by
    rw [List.foldl_cons] at hc
    have := ws_pos0 r (wsF q a) (B + 1) (by omega) (by
      unfold wsF
      split
      · exact bump_pos h hB
      · intro z hz; have := h z hz; omega) c hc
    rw [List.length_cons]; push_cast; omega
theorem ws_pos {x : Str} (hx : Tx x) : ∀ c ∈ (wsL (Ls x)).cnt, 0 ≤ c ∧ c ≤ 64 := fun c hc => by
  have := ws_pos0 (Ls x) ⟨[], 0, 0⟩ 0 (Int.le_refl _) (fun _ h => nomatch h) c hc
  have h2 := hx.len
  rw [len_L] at h2
  omega
theorem ws_getD {x : Str} (hx : Tx x) (i : Nat) : 0 ≤ (wsL (Ls x)).cnt.getD i 0 ∧ (wsL (Ls x)).cnt.getD i 0 ≤ 64 := by
  rw [List.getD_eq_getElem?_getD]
  cases h : (wsL (Ls x)).cnt[i]? with
  | none => simp
  | some c => exact ws_pos hx c (List.mem_of_getElem? h)
theorem ws_mul {x : Str} (hx : Tx x) (a : Int) (i : Nat) : IntMulOk a ((wsL (Ls x)).cnt.getD i 0) :=
  IntMulOk.of_right (intBits_le_64 (by have := ws_getD hx i; omega) (by have := ws_getD hx i; omega))
end Mine
end

section
local macro_rules | `(tactic| omega) => `(tactic| lia)
open PySem PySem.W PyProof.Rows PySem.Calls
set_option Elab.async false
set_option maxRecDepth 100000
set_option maxHeartbeats 8000000
namespace Mine


theorem con_ws (x : Str) (t : Tok) (hx : Tx x) (hc : ∀ c ∈ Ls x, c = 9 ∨ c = 32) (news : List (Addr × Obj)) : Con 140 [.str x t] news 4 20 (RetW news x) := by
  k_with_none
  (k_with "exec Assign" => k_fold)
  (k_with "exec If" => k_fold)
  (k_with "exec While" => k_fold)
  (k_with "exec For" => k_fold)
  (k_with "storeName" => (k_here; k_dflt ((refine' storeM ?qFq ?qNq ?_ ?qaq ?qbq; (case qFq => k_asm); (case qNq => k_asm); (case qaq => rfl); (case qbq => rfl); k_whole; intro h' tk m₁ F' N'; (try k_sweep)))))
  (k_with "ho7" => first | (refine (if_neg (by assumption)).trans ?_; (k_extra "ho7")) | exact rfl)
  (k_with "tx" => first | with_reducible assumption | with_reducible exact Tx.lower (by k_extra "tx") | with_reducible exact Tx.upper (by k_extra "tx") | with_reducible exact Tx.slice (by k_extra "tx") _ _)
  (k_with "getMethod ref" => (k_here; (with_reducible show wpAny _ _ (getMethod (Value.ref 50) _ _) _ _ _); k_dflt (refine' search_get ?qXq ?_; (case qXq => k_in); k_whole)))
  (k_with "call builtin:re.Pattern.search" => (k_here; k_dflt (first
  | (refine' search_none ?qqq ?qXq ?qFq ?qNq ?qxq ?_; (case qqq => assumption); (case qXq => k_in); (case qFq => k_asm); (case qNq => k_asm); (case qxq => k_extra "tx"); k_whole)
  | (refine' search_some ?qqq ?qXq ?qFq ?qNq ?qxq ?_; (case qqq => assumption); (case qXq => k_in); (case qFq => k_asm); (case qNq => k_asm); (case qxq => k_extra "tx"); k_whole; intro mt' mo' h' F' N' l1 l2; (try k_lt l1); (try k_lt2 l2); (try k_sweep))
  | (refine search_split ?_ ?_ <;> intros))))
  (k_with "truthy ref" => (k_here; k_dflt (refine' truthy_match ?qNq ?qqq ?_; (case qNq => k_asm); (case qqq => k_mem); k_whole)))
  (k_with "getMethod ref" => (k_here; k_dflt (refine' span_get ?qNq ?qqq ?_; (case qNq => k_asm); (case qqq => k_mem); k_whole)))
  (k_with "call builtin:re.Match.span" => (k_here; k_dflt (refine' span_call ?qFq ?qNq ?qqq ?quq ?_; (case qFq => k_asm); (case qNq => k_asm); (case qqq => k_mem); (case quq => k_mem); k_whole; intro a' h' t1' t2' tk' F' N' l1; (try k_lt l1); (try k_sweep))))
  (k_with "getAttr ref" => (k_here; (with_reducible show wpAny _ _ (getAttr (Value.ref _) (PySem.Str.ofString "string") _) _ _ _); k_dflt (refine' string_attr ?qNq ?qqq ?_; (case qNq => k_asm); (case qqq => k_mem); k_whole)))
  (k_with "enter9" => (refine' code_m ?qk1q ?qk2q ?qk3q ?qk4q ?qk5q ?qkAq ?qkFq ?qkKq ?qk6q ?qk7q ?qk8q ?qk9q ?qkBq ?_ ?qc2q ?qc3q ?qc4q ?qc5q; (case qkAq => exact rfl); (case qkFq => exact rfl); (case qkKq => first | exact rfl | assumption); (case qk1q => k_asm); (case qk2q => k_asm); (case qk3q => k_asm); (case qk4q => k_asm); (case qk5q => k_asm); (case qk6q => k_is); (case qk7q => k_is); (case qk8q => (first | omega | (dsimp only [Around.deeper, Around.in1, ktrTop]; omega) | ktr_room)); (case qk9q => first | exact BindsTo.of_eq rfl | exact binds_K (by k_in) rfl (by k_is) rfl rfl rfl); (case qc5q => decide); (case qkBq => exact locs rfl); (case qc2q => exact rfl); (case qc3q => exact rfl); (case qc4q => exact rfl); k_whole; intro g' L' h' tk' FG' m' F' N' B' X' T'; (try dsimp only); (try k_lift B'); (try k_fold)))
  (k_with "call ref" => (k_here; (with_reducible show wpAny _ _ (call (Value.ref 140) _) _ _ _); k_dflt (refine' call_cls ?qk1q ?qk2q ?qk3q ?qk4q ?qk5q ?qk6q ?_; (case qk1q => k_asm); (case qk2q => k_asm); (case qk3q => k_asm); (case qk4q => k_is); (case qk5q => k_is); (case qk6q => k_is); k_whole; intro x' d' h' F' N' l1 l2; (try k_lt l1); (try k_lt2 l2); (try k_sweep); (k_extra "enter9"))))
  (k_with "pyIter str" => (k_here; k_dflt (refine' ws_loop ?qhhq ?qhxq ?qhcq ?qFq ?qNq ?qhmq ?qhlq ?_ ?_; (case qhhq => exact rfl); (case qhxq => assumption); (case qhcq => assumption); (case qFq => k_asm); (case qNq => k_asm); (case qhmq => exact ⟨rfl, rfl, rfl, rfl⟩); (case qhlq => simp only [AllLt, and_true]; assumption)); (all_goals intros); (all_goals (try simp only [AllLt, AllNe, and_true, List.cons_append] at *)); (all_goals (try k_sweep)); (all_goals (try k_fold))))
  (k_with "LG" => (k_here; k_dflt (refine' ws_end ?qFq ?qNq ?qh1q ?qhmq ?qhiq ?qhbq ?qhneq ?qhbsq ?qhlq ?qhvq ?qeqq ?qe1q ?qh2q ?qh3q ?qh4q ?qh5q ?qe2q ?qe3q ?qe4q; (case qFq => k_asm); (case qNq => k_asm); (case qh1q => exact rfl); (case qhmq => k_mem); (case qhiq => k_mem); (case qhbq => kstt_sub); (case qhneq => k_ne); (case qhbsq => (simp only [AllNe, and_true]; first | assumption | grind)); (case qhlq => (simp only [AllLt, and_true]; first | assumption | grind)); (case qhvq => l_ints); (case qeqq => first | exact wsF_sp (by assumption) | exact wsF_tab (by assumption)); (case qh2q => exact rfl); (case qh3q => exact rfl); (case qh4q => exact rfl); (case qh5q => (intro y a b c d e; k_extra "ho7")); (case qe3q => omega); (case qe4q => first | rfl | (dsimp only; omega)); (case qe2q => first | rfl | (dsimp only; omega)); (case qe1q => first | rfl | exact (bump_in (by omega)).symm | exact (bump_grow (by assumption)).symm))))
  (k_with "call type:tuple" => (k_here; (with_reducible show wpAny _ _ (call (Value.type _) [Value.ref _]) _ _ _); k_dflt (refine' kde_tupleOf ?qk1q ?qk2q ?qk3q ?qk4q ?qk5q ?_; (case qk1q => k_asm); (case qk2q => k_asm); (case qk3q => exact News.isList (by k_asm) (by k_mem)); (case qk4q => exact ws_size (by assumption) (by assumption)); (case qk5q => exact List.toList_toArray); k_whole); intro D' h' F' N' l1; (try k_lt l1); (try k_sweep)))
  (k_with "call builtin:len" => (k_here; (with_reducible show wpAny _ _ (call (Value.builtin "len") [Value.ref _]) _ _ _); k_dflt (refine' len_intsN (m := fun _ => none) ?qNq ?qqq ?qiq ?qzq ?_; (case qNq => k_asm); (case qqq => k_mem); (case qiq => with_reducible assumption); (case qzq => ((have hz9 := ws_cnt (by assumption)); omega)); k_whole); intro _ _))
  have hx1 := hx.len
  unfold Con
  k_fill
  intro w mean mg mb dp un gd cn cs a ccd cl outer A₀ base h₀ L m s Q E B F X N T hk hd9 hu ret
  k_steps
  all_goals (try (exfalso; exact no_sign (by assumption) (by assumption) (by assumption)))
  all_goals (refine' endW ret ?F ?N ?m1 ?m2 ?m3 ?m4 ?m5 ?hv ?en ?et ?eb ?es ?l1 ?l2 ?l3 ?l4; (case F => k_asm); (case N => k_asm); (case m1 => k_mem); (case m2 => k_mem); (case m3 => k_mem); (case m4 => k_mem); (case m5 => kstt_sub); (case hv => assumption); (case en => rfl); (case et => rfl); (case eb => rfl); (case es => (rw [decide_eq_decide]; omega)); (case l1 => exact allLt_of (by assumption)); (case l2 => first | assumption | omega); (case l3 => first | assumption | omega); (case l4 => first | assumption | omega))

end Mine
end

section
local macro_rules | `(tactic| omega) => `(tactic| lia)
open PySem PySem.W PyProof.Rows PySem.Calls
set_option Elab.async false
set_option maxRecDepth 100000
set_option maxHeartbeats 8000000
namespace Mine


structure WsAt (news : List (Addr × Obj)) (a : Addr) (x : Str) : Prop where
  ex : ∃ d tc tn vs e t, (a, instObj 140 d) ∈ news ∧ (d, wsDict e x t tn) ∈ news ∧ (tn, tupO [.ref tc, .int ((wsL (Ls x)).b : Int) e.tb]) ∈ news ∧ (tc, tupO vs) ∈ news ∧ IntsAre vs (wsL (Ls x)).cnt
noncomputable def longL (q : Ws) : Int := max ((q.cnt.length : Int) - 1) q.b
theorem con_long (a : Addr) (x : Str) (hx : Tx x) (news : List (Addr × Obj)) (W : WsAt news a x) : Con 102 [.ref a] news 4 20 (RetV news fun u => .int (longL (wsL (Ls x))) u) := by
  k_with_none
  (k_with "exec Assign" => k_fold)
  (k_with "exec If" => k_fold)
  (k_with "exec While" => k_fold)
  (k_with "exec For" => k_fold)
  (k_with "storeName" => (k_here; k_dflt ((refine' storeM ?qFq ?qNq ?_ ?qaq ?qbq; (case qFq => k_asm); (case qNq => k_asm); (case qaq => rfl); (case qbq => rfl); k_whole; intro h' tk m₁ F' N'; (try k_sweep)))))
  (k_with "sub7" => first | (with_reducible exact hp) | (refine List.mem_cons_of_mem _ ?_; (k_extra "sub7")) | (simp only [List.mem_cons, List.mem_append, hp, or_true, true_or]))
  (k_with "tx" => first | with_reducible assumption | with_reducible exact Tx.lower (by k_extra "tx") | with_reducible exact Tx.upper (by k_extra "tx") | with_reducible exact Tx.slice (by k_extra "tx") _ _)
  (k_with "getMethod ref" => (k_here; (with_reducible show wpAny _ _ (getMethod (Value.ref 50) _ _) _ _ _); k_dflt (refine' search_get ?qXq ?_; (case qXq => k_in); k_whole)))
  (k_with "call builtin:re.Pattern.search" => (k_here; k_dflt (first
  | (refine' search_none ?qqq ?qXq ?qFq ?qNq ?qxq ?_; (case qqq => assumption); (case qXq => k_in); (case qFq => k_asm); (case qNq => k_asm); (case qxq => k_extra "tx"); k_whole)
  | (refine' search_some ?qqq ?qXq ?qFq ?qNq ?qxq ?_; (case qqq => assumption); (case qXq => k_in); (case qFq => k_asm); (case qNq => k_asm); (case qxq => k_extra "tx"); k_whole; intro mt' mo' h' F' N' l1 l2; (try k_lt l1); (try k_lt2 l2); (try k_sweep))
  | (refine search_split ?_ ?_ <;> intros))))
  (k_with "truthy ref" => (k_here; k_dflt (refine' truthy_match ?qNq ?qqq ?_; (case qNq => k_asm); (case qqq => k_mem); k_whole)))
  (k_with "getMethod ref" => (k_here; k_dflt (refine' span_get ?qNq ?qqq ?_; (case qNq => k_asm); (case qqq => k_mem); k_whole)))
  (k_with "call builtin:re.Match.span" => (k_here; k_dflt (refine' span_call ?qFq ?qNq ?qqq ?quq ?_; (case qFq => k_asm); (case qNq => k_asm); (case qqq => k_mem); (case quq => k_mem); k_whole; intro a' h' t1' t2' tk' F' N' l1; (try k_lt l1); (try k_sweep))))
  (k_with "getAttr ref" => (k_here; (with_reducible show wpAny _ _ (getAttr (Value.ref _) (PySem.Str.ofString "string") _) _ _ _); k_dflt (refine' string_attr ?qNq ?qqq ?_; (case qNq => k_asm); (case qqq => k_mem); k_whole)))
  (k_with "enter9" => (refine' code_m ?qk1q ?qk2q ?qk3q ?qk4q ?qk5q ?qkAq ?qkFq ?qkKq ?qk6q ?qk7q ?qk8q ?qk9q ?qkBq ?_ ?qc2q ?qc3q ?qc4q ?qc5q; (case qkAq => exact rfl); (case qkFq => exact rfl); (case qkKq => first | exact rfl | assumption); (case qk1q => k_asm); (case qk2q => k_asm); (case qk3q => k_asm); (case qk4q => k_asm); (case qk5q => k_asm); (case qk6q => k_is); (case qk7q => k_is); (case qk8q => (first | omega | (dsimp only [Around.deeper, Around.in1, ktrTop]; omega) | ktr_room)); (case qk9q => first | exact BindsTo.of_eq rfl | exact binds_K (by k_in) rfl (by k_is) rfl rfl rfl); (case qc5q => decide); (case qkBq => exact locs rfl); (case qc2q => exact rfl); (case qc3q => exact rfl); (case qc4q => exact rfl); k_whole; intro g' L' h' tk' FG' m' F' N' B' X' T'; (try dsimp only); (try k_lift B'); (try k_fold)))
  (k_with "ho9" => (intro y9 a9 b9; simp only [List.forall_mem_cons, List.forall_mem_nil, and_true] at b9; simp only [bsM, a9, b9, if_false]))
  (k_with "ne9" => ((try simp only [AllNe, and_true, ne_eq] at *); first | assumption | trivial | grind))
  (k_with "k_mem9w" => (with_reducible (refine List.mem_cons_of_mem _ ?_); k_mem))
  (k_with "call builtin:len" => (k_here; (with_reducible show wpAny _ _ (call (Value.builtin "len") [Value.ref _]) _ _ _); k_dflt (refine' len_tupN ?qNq ?qqq ?qiq ?qzq ?_; (case qNq => k_asm); (case qqq => k_mem); (case qiq => with_reducible assumption); (case qzq => omega); k_whole); intro _ _))
  (k_with "subscriptTail" => (k_here; (with_reducible show wpAny _ _ (subscriptTail _ _ (Value.ref _) (Value.int _ _)) _ _ _); k_dflt (refine' sub_tupN ?qNq ?qqq ?qiq ?qh0q ?qh1q ?qzq ?_ ?qhsq; (case qNq => k_asm); (case qqq => k_mem); (case qiq => with_reducible assumption); (case qh0q => omega); (case qh1q => omega); (case qzq => omega); (case qhsq => with_unfolding_all rfl); k_whole); intro _))
  (k_with "compareOp Eq ref ref" => (k_here; k_dflt (refine' eq_norm ?qNq ?qaq ?qbq ?qcq ?qdq ?qeq ?qfq ?quq ?_; (case qNq => k_asm); (case qaq => k_mem); (case qbq => k_mem); (case qcq => with_reducible assumption); (case qdq => k_mem); (case qeq => k_mem); (case qfq => with_reducible assumption); (case quq => ((have hcL9 := cLine_is); dsimp only [Around.deeper, Around.in1, ktrTop]; omega)); k_whole)))
  (k_with "binaryOp Mult int int" => (k_here; (with_reducible show wpAny _ _ (binaryOp _ (Value.int _ _) (Value.int (List.getD _ _ _) _)) _ _ _); k_dflt (refine' PyProof.Rows.mul_int ?_ ?qhmq; (case qhmq => exact ws_mul (by assumption) _ _); k_whole)))
  have hx1 := hx.len
  have hz1 := ws_cnt hx
  obtain ⟨d, tc, tn, vs, e, t, m1, m2, m3, m4, hv⟩ := W.ex
  unfold Con
  k_fill
  intro w mean mg mb dp un gd cn cs a ccd cl outer A₀ base h₀ L m s Q E B F X N T hk hd9 hu ret
  refine wpAny_call ?_
  k_dflt (k_extra "enter9")
  k_steps
  all_goals (refine' endI ret ?F ?N ?S ?e; (case F => k_asm); (case N => k_asm); (case S => first | exact fun _ h => h | (intro p hp; k_extra "sub7")); (case e => (unfold longL; first | rfl | omega)))

theorem con_equal (a b : Addr) (x y : Str) (hx : Tx x) (hy : Tx y) (news : List (Addr × Obj)) (W : WsAt news a x) (V : WsAt news b y) : Con 116 [.ref a, .ref b] news 4 100 (RetV news fun u => .bool ((wsL (Ls x)).cnt == (wsL (Ls y)).cnt && ((wsL (Ls x)).b : Int) == ((wsL (Ls y)).b : Int))) := by
  k_with_none
  (k_with "exec Assign" => k_fold)
  (k_with "exec If" => k_fold)
  (k_with "exec While" => k_fold)
  (k_with "exec For" => k_fold)
  (k_with "storeName" => (k_here; k_dflt ((refine' storeM ?qFq ?qNq ?_ ?qaq ?qbq; (case qFq => k_asm); (case qNq => k_asm); (case qaq => rfl); (case qbq => rfl); k_whole; intro h' tk m₁ F' N'; (try k_sweep)))))
  (k_with "sub7" => first | (with_reducible exact hp) | (refine List.mem_cons_of_mem _ ?_; (k_extra "sub7")) | (simp only [List.mem_cons, List.mem_append, hp, or_true, true_or]))
  (k_with "tx" => first | with_reducible assumption | with_reducible exact Tx.lower (by k_extra "tx") | with_reducible exact Tx.upper (by k_extra "tx") | with_reducible exact Tx.slice (by k_extra "tx") _ _)
  (k_with "getMethod ref" => (k_here; (with_reducible show wpAny _ _ (getMethod (Value.ref 50) _ _) _ _ _); k_dflt (refine' search_get ?qXq ?_; (case qXq => k_in); k_whole)))
  (k_with "call builtin:re.Pattern.search" => (k_here; k_dflt (first
  | (refine' search_none ?qqq ?qXq ?qFq ?qNq ?qxq ?_; (case qqq => assumption); (case qXq => k_in); (case qFq => k_asm); (case qNq => k_asm); (case qxq => k_extra "tx"); k_whole)
  | (refine' search_some ?qqq ?qXq ?qFq ?qNq ?qxq ?_; (case qqq => assumption); (case qXq => k_in); (case qFq => k_asm); (case qNq => k_asm); (case qxq => k_extra "tx"); k_whole; intro mt' mo' h' F' N' l1 l2; (try k_lt l1); (try k_lt2 l2); (try k_sweep))
  | (refine search_split ?_ ?_ <;> intros))))
  (k_with "truthy ref" => (k_here; k_dflt (refine' truthy_match ?qNq ?qqq ?_; (case qNq => k_asm); (case qqq => k_mem); k_whole)))
  (k_with "getMethod ref" => (k_here; k_dflt (refine' span_get ?qNq ?qqq ?_; (case qNq => k_asm); (case qqq => k_mem); k_whole)))
  (k_with "call builtin:re.Match.span" => (k_here; k_dflt (refine' span_call ?qFq ?qNq ?qqq ?quq ?_; (case qFq => k_asm); (case qNq => k_asm); (case qqq => k_mem); (case quq => k_mem); k_whole; intro a' h' t1' t2' tk' F' N' l1; (try k_lt l1); (try k_sweep))))
  (k_with "getAttr ref" => (k_here; (with_reducible show wpAny _ _ (getAttr (Value.ref _) (PySem.Str.ofString "string") _) _ _ _); k_dflt (refine' string_attr ?qNq ?qqq ?_; (case qNq => k_asm); (case qqq => k_mem); k_whole)))
  (k_with "enter9" => (refine' code_m ?qk1q ?qk2q ?qk3q ?qk4q ?qk5q ?qkAq ?qkFq ?qkKq ?qk6q ?qk7q ?qk8q ?qk9q ?qkBq ?_ ?qc2q ?qc3q ?qc4q ?qc5q; (case qkAq => exact rfl); (case qkFq => exact rfl); (case qkKq => first | exact rfl | assumption); (case qk1q => k_asm); (case qk2q => k_asm); (case qk3q => k_asm); (case qk4q => k_asm); (case qk5q => k_asm); (case qk6q => k_is); (case qk7q => k_is); (case qk8q => (first | omega | (dsimp only [Around.deeper, Around.in1, ktrTop]; omega) | ktr_room)); (case qk9q => first | exact BindsTo.of_eq rfl | exact binds_K (by k_in) rfl (by k_is) rfl rfl rfl); (case qc5q => decide); (case qkBq => exact locs rfl); (case qc2q => exact rfl); (case qc3q => exact rfl); (case qc4q => exact rfl); k_whole; intro g' L' h' tk' FG' m' F' N' B' X' T'; (try dsimp only); (try k_lift B'); (try k_fold)))
  (k_with "ho9" => (intro y9 a9 b9; simp only [List.forall_mem_cons, List.forall_mem_nil, and_true] at b9; simp only [bsM, a9, b9, if_false]))
  (k_with "ne9" => ((try simp only [AllNe, and_true, ne_eq] at *); first | assumption | trivial | grind))
  (k_with "k_mem9w" => (with_reducible (refine List.mem_cons_of_mem _ ?_); k_mem))
  (k_with "call builtin:len" => (k_here; (with_reducible show wpAny _ _ (call (Value.builtin "len") [Value.ref _]) _ _ _); k_dflt (refine' len_tupN ?qNq ?qqq ?qiq ?qzq ?_; (case qNq => k_asm); (case qqq => k_mem); (case qiq => with_reducible assumption); (case qzq => omega); k_whole); intro _ _))
  (k_with "subscriptTail" => (k_here; (with_reducible show wpAny _ _ (subscriptTail _ _ (Value.ref _) (Value.int _ _)) _ _ _); k_dflt (refine' sub_tupN ?qNq ?qqq ?qiq ?qh0q ?qh1q ?qzq ?_ ?qhsq; (case qNq => k_asm); (case qqq => k_mem); (case qiq => with_reducible assumption); (case qh0q => omega); (case qh1q => omega); (case qzq => omega); (case qhsq => with_unfolding_all rfl); k_whole); intro _))
  (k_with "compareOp Eq ref ref" => (k_here; k_dflt (refine' eq_norm ?qNq ?qaq ?qbq ?qcq ?qdq ?qeq ?qfq ?quq ?_; (case qNq => k_asm); (case qaq => k_mem); (case qbq => k_mem); (case qcq => with_reducible assumption); (case qdq => k_mem); (case qeq => k_mem); (case qfq => with_reducible assumption); (case quq => ((have hcL9 := cLine_is); dsimp only [Around.deeper, Around.in1, ktrTop]; omega)); k_whole)))
  (k_with "binaryOp Mult int int" => (k_here; (with_reducible show wpAny _ _ (binaryOp _ (Value.int _ _) (Value.int (List.getD _ _ _) _)) _ _ _); k_dflt (refine' PyProof.Rows.mul_int ?_ ?qhmq; (case qhmq => exact ws_mul (by assumption) _ _); k_whole)))
  have hx1 := hx.len
  have hz1 := ws_cnt hx
  have hz2 := ws_cnt hy
  obtain ⟨d, tc, tn, vs, e, t, m1, m2, m3, m4, hv⟩ := W.ex
  obtain ⟨d2, tc2, tn2, vs2, e2, t2, p1, p2, p3, p4, hv2⟩ := V.ex
  unfold Con
  k_fill
  intro w mean mg mb dp un gd cn cs a ccd cl outer A₀ base h₀ L m s Q E B F X N T hk hd9 hu ret
  refine wpAny_call ?_
  k_dflt (k_extra "enter9")
  k_steps
  all_goals (refine' endB ret ?F ?N ?S ?e; (case F => k_asm); (case N => k_asm); (case S => first | exact fun _ h => h | (intro p hp; k_extra "sub7")); (case e => rfl))

noncomputable def indS (cnt : List Int) (n : Nat) : Nat → Int
  | 0 => 0
  | k + 1 => indS cnt n k + ((n : Int) + (k : Int)).fdiv n * cnt.getD ((n : Int) + (k : Int)).toNat 0
noncomputable def indL (q : Ws) (n : Nat) : Int := (q.b : Int) + (n : Int) * (indS q.cnt n ((q.cnt.length : Int) - (n : Int)).toNat + (q.nt : Int))
theorem ind_step {cnt : List Int} {n k : Nat} {v : Int} (h : v = indS cnt n k) : v + ((n : Int) + (k : Int)).fdiv n * cnt.getD ((n : Int) + (k : Int)).toNat 0 = indS cnt n (k + 1) := by rw [h]; rfl
section
variable {prog : Program} {w : World} {A : Around} {E : Value → Shared → Prop} {s : Shared} {env : Env} {h₀ : Heap} {body : List Stmt} {Q : Flow → Shared → Prop}
theorem ind_loop {r : Addr} {t u v : Tok} {cnt : List Int} {n : Nat} {m₀ : Str → Option Value} {news : List (Addr × Obj)} {ti : Tok} (hh : A.handled = none) (hr : IsRange s.heap r (n : Int) (cnt.length : Int) 1 t u v) (hz : cnt.length ≤ 64 ∧ n ≤ 70)
    (F : Fr h₀ env.locals s.heap m₀) (N : News h₀ env.locals s.heap news) (hil : m₀ (Str.ofString "il") = some (.int 0 ti))
    (turn : ∀ (i : Nat) u v t I o h tk, i < ((cnt.length : Int) - (n : Int)).toNat → v = indS cnt n i → AllNe I news → Fr h₀ env.locals h (bsM [(Str.ofString "i", .int ((n : Int) + (i : Int)) u), (Str.ofString "il", .int v t)] m₀) → News h₀ env.locals h ((I, o) :: news) →
      wpAny (model prog w) A (execs body env) (LG h₀ env.locals (fun m₁ nx => ∃ ps', (news = nx ∧ ∃ v t, v = indS cnt n (i + 1) ∧ ps' = [(Str.ofString "il", Value.int v t)]) ∧ Has (Str.ofString "i") m₁ m₀ ps') I o { s with heap := h, toks := tk } Q) E { s with heap := h, toks := tk })
    (done : ∀ (z : Str → Option Value) v t h tk, v = indS cnt n ((cnt.length : Int) - (n : Int)).toNat → Fr h₀ env.locals h (fun y => if y = Str.ofString "i" then z y else bsM [(Str.ofString "il", .int v t)] m₀ y) → News h₀ env.locals h news → Q .next { s with heap := h, toks := tk }) :
    wpAny (model prog w) A (pyIter (.ref r)) (fun it s₂ => LoopAtV prog w A h₀ env (Str.ofString "i") body Q E it s₂) E s := by
  refine range_st (fun i ps nx => news = nx ∧ ∃ v t, v = indS cnt n i ∧ ps = [(Str.ofString "il", Value.int v t)]) [(Str.ofString "il", Value.int 0 ti)] hh hr rfl (by omega) F N ⟨rfl, _, _, rfl, rfl⟩ (List.forall_mem_cons.mpr ⟨hil, List.forall_mem_nil _⟩) ?_ ?_
  · rintro i u ps nx I o h tk hi ⟨rfl, v, t, hv, rfl⟩ hne F₁ N₁
    exact turn i u v t I o h tk hi hv hne F₁ N₁
  · rintro z ps nx h tk ⟨rfl, v, t, hv, rfl⟩ F₁ N₁
    exact done z v t h tk hv F₁ N₁
end
theorem con_ind (a : Addr) (x : Str) (n : Nat) (u : Tok) (hx : Tx x) (hn : 1 ≤ n) (hn2 : n ≤ 70) (news : List (Addr × Obj)) (W : WsAt news a x) : Con 109 [.ref a, .int (n : Int) u] news 4 20 (RetV news fun u => .int (indL (wsL (Ls x)) n) u) := by
  k_with_none
  (k_with "exec Assign" => k_fold)
  (k_with "exec If" => k_fold)
  (k_with "exec While" => k_fold)
  (k_with "exec For" => k_fold)
  (k_with "storeName" => (k_here; k_dflt ((refine' storeM ?qFq ?qNq ?_ ?qaq ?qbq; (case qFq => k_asm); (case qNq => k_asm); (case qaq => rfl); (case qbq => rfl); k_whole; intro h' tk m₁ F' N'; (try k_sweep)))))
  (k_with "ho7" => first | (refine (if_neg (by assumption)).trans ?_; (k_extra "ho7")) | exact rfl)
  (k_with "sub7" => first | (with_reducible exact hp) | (refine List.mem_cons_of_mem _ ?_; (k_extra "sub7")) | (simp only [List.mem_cons, List.mem_append, hp, or_true, true_or]))
  (k_with "tx" => first | with_reducible assumption | with_reducible exact Tx.lower (by k_extra "tx") | with_reducible exact Tx.upper (by k_extra "tx") | with_reducible exact Tx.slice (by k_extra "tx") _ _)
  (k_with "getMethod ref" => (k_here; (with_reducible show wpAny _ _ (getMethod (Value.ref 50) _ _) _ _ _); k_dflt (refine' search_get ?qXq ?_; (case qXq => k_in); k_whole)))
  (k_with "call builtin:re.Pattern.search" => (k_here; k_dflt (first
  | (refine' search_none ?qqq ?qXq ?qFq ?qNq ?qxq ?_; (case qqq => assumption); (case qXq => k_in); (case qFq => k_asm); (case qNq => k_asm); (case qxq => k_extra "tx"); k_whole)
  | (refine' search_some ?qqq ?qXq ?qFq ?qNq ?qxq ?_; (case qqq => assumption); (case qXq => k_in); (case qFq => k_asm); (case qNq => k_asm); (case qxq => k_extra "tx"); k_whole; intro mt' mo' h' F' N' l1 l2; (try k_lt l1); (try k_lt2 l2); (try k_sweep))
  | (refine search_split ?_ ?_ <;> intros))))
  (k_with "truthy ref" => (k_here; k_dflt (refine' truthy_match ?qNq ?qqq ?_; (case qNq => k_asm); (case qqq => k_mem); k_whole)))
  (k_with "getMethod ref" => (k_here; k_dflt (refine' span_get ?qNq ?qqq ?_; (case qNq => k_asm); (case qqq => k_mem); k_whole)))
  (k_with "call builtin:re.Match.span" => (k_here; k_dflt (refine' span_call ?qFq ?qNq ?qqq ?quq ?_; (case qFq => k_asm); (case qNq => k_asm); (case qqq => k_mem); (case quq => k_mem); k_whole; intro a' h' t1' t2' tk' F' N' l1; (try k_lt l1); (try k_sweep))))
  (k_with "getAttr ref" => (k_here; (with_reducible show wpAny _ _ (getAttr (Value.ref _) (PySem.Str.ofString "string") _) _ _ _); k_dflt (refine' string_attr ?qNq ?qqq ?_; (case qNq => k_asm); (case qqq => k_mem); k_whole)))
  (k_with "enter9" => (refine' code_m ?qk1q ?qk2q ?qk3q ?qk4q ?qk5q ?qkAq ?qkFq ?qkKq ?qk6q ?qk7q ?qk8q ?qk9q ?qkBq ?_ ?qc2q ?qc3q ?qc4q ?qc5q; (case qkAq => exact rfl); (case qkFq => exact rfl); (case qkKq => first | exact rfl | assumption); (case qk1q => k_asm); (case qk2q => k_asm); (case qk3q => k_asm); (case qk4q => k_asm); (case qk5q => k_asm); (case qk6q => k_is); (case qk7q => k_is); (case qk8q => (first | omega | (dsimp only [Around.deeper, Around.in1, ktrTop]; omega) | ktr_room)); (case qk9q => first | exact BindsTo.of_eq rfl | exact binds_K (by k_in) rfl (by k_is) rfl rfl rfl); (case qc5q => decide); (case qkBq => exact locs rfl); (case qc2q => exact rfl); (case qc3q => exact rfl); (case qc4q => exact rfl); k_whole; intro g' L' h' tk' FG' m' F' N' B' X' T'; (try dsimp only); (try k_lift B'); (try k_fold)))
  (k_with "ho9" => (intro y9 a9 b9; simp only [List.forall_mem_cons, List.forall_mem_nil, and_true] at b9; simp only [bsM, a9, b9, if_false]))
  (k_with "ne9" => ((try simp only [AllNe, and_true, ne_eq] at *); first | assumption | trivial | grind))
  (k_with "k_mem9w" => (with_reducible (refine List.mem_cons_of_mem _ ?_); k_mem))
  (k_with "call builtin:len" => (k_here; (with_reducible show wpAny _ _ (call (Value.builtin "len") [Value.ref _]) _ _ _); k_dflt (refine' len_tupN ?qNq ?qqq ?qiq ?qzq ?_; (case qNq => k_asm); (case qqq => k_mem); (case qiq => with_reducible assumption); (case qzq => omega); k_whole); intro _ _))
  (k_with "subscriptTail" => (k_here; (with_reducible show wpAny _ _ (subscriptTail _ _ (Value.ref _) (Value.int _ _)) _ _ _); k_dflt (refine' sub_tupN ?qNq ?qqq ?qiq ?qh0q ?qh1q ?qzq ?_ ?qhsq; (case qNq => k_asm); (case qqq => k_mem); (case qiq => with_reducible assumption); (case qh0q => omega); (case qh1q => omega); (case qzq => omega); (case qhsq => with_unfolding_all rfl); k_whole); intro _))
  (k_with "compareOp Eq ref ref" => (k_here; k_dflt (refine' eq_norm ?qNq ?qaq ?qbq ?qcq ?qdq ?qeq ?qfq ?quq ?_; (case qNq => k_asm); (case qaq => k_mem); (case qbq => k_mem); (case qcq => with_reducible assumption); (case qdq => k_mem); (case qeq => k_mem); (case qfq => with_reducible assumption); (case quq => ((have hcL9 := cLine_is); dsimp only [Around.deeper, Around.in1, ktrTop]; omega)); k_whole)))
  (k_with "binaryOp Mult int int" => (k_here; (with_reducible show wpAny _ _ (binaryOp _ (Value.int _ _) (Value.int (List.getD _ _ _) _)) _ _ _); k_dflt (refine' PyProof.Rows.mul_int ?_ ?qhmq; (case qhmq => exact ws_mul (by assumption) _ _); k_whole)))
  (k_with "LG" => (k_here; k_dflt (refine' st_end1 ?qFq ?qNq ?qhiq ?qe1q ⟨rfl, _, _, ?qeqq, rfl⟩ ?qhoq ?qhbq ?qhneq; (case qFq => k_asm); (case qNq => k_asm); (case qhiq => k_mem); (case qe1q => exact rfl); (case qeqq => exact ind_step (by assumption)); (case qhoq => (intro y a b1; k_extra "ho7")); (case qhbq => kstt_sub); (case qhneq => k_extra "ne9"))))
  (k_with "pyIter ref" => (k_here; k_dflt (refine' ind_loop ?qhhq ?qhrq ?qhzq ?qFq ?qNq ?qhilq ?_ ?_; (case qhhq => exact rfl); (case qhrq => assumption); (case qhzq => omega); (case qFq => k_asm); (case qNq => k_asm); (case qhilq => exact rfl)); (all_goals intros); (all_goals (try k_sweep)); (all_goals (try k_fold))))
  have hx1 := hx.len
  have hz1 := ws_cnt hx
  obtain ⟨d, tc, tn, vs, e, t, m1, m2, m3, m4, hv⟩ := W.ex
  unfold Con
  k_fill
  intro w mean mg mb dp un gd cn cs a ccd cl outer A₀ base h₀ L m s Q E B F X N T hk hd9 hu ret
  refine wpAny_call ?_
  k_dflt (k_extra "enter9")
  k_steps
  all_goals (refine' endI ret ?F ?N ?S ?e; (case F => k_asm); (case N => k_asm); (case S => first | exact fun _ h => h | (intro p hp; k_extra "sub7")); (case e => (rename _ = indS _ _ _ => hv9; rw [hv9]; rfl)))

end Mine
end

section
local macro_rules | `(tactic| omega) => `(tactic| lia)
open PySem PySem.W PyProof.Rows PySem.Calls
set_option Elab.async false
set_option maxRecDepth 100000
set_option maxHeartbeats 8000000
namespace Mine

theorem WsAt.sub {news news' : List (Addr × Obj)} {a : Addr} {x : Str} (W : WsAt news a x) (h : ∀ p ∈ news, p ∈ news') : WsAt news' a x := by
  obtain ⟨d, tc, tn, vs, e, t, m1, m2, m3, m4, hv⟩ := W.ex
  exact ⟨d, tc, tn, vs, e, t, h _ m1, h _ m2, h _ m3, h _ m4, hv⟩
theorem con_indZ (a : Addr) (x : Str) (n : Int) (u : Tok) (hx : Tx x) (hn : 1 ≤ n) (hn2 : n ≤ 70) (news : List (Addr × Obj)) (W : WsAt news a x) : Con 109 [.ref a, .int n u] news 4 20 (RetV news fun u => .int (indL (wsL (Ls x)) n.toNat) u) := by
  have := con_ind a x n.toNat u hx (by omega) (by omega) news W
  rwa [show ((n.toNat : Nat) : Int) = n by omega] at this
noncomputable def topL (p q : Ws) : Int := max (longL p) (longL q) + 1
noncomputable def lessL (nx ny : Nat) (p q : Ws) : Bool :=
  if ny ≤ nx then false else if p.cnt.length ≤ 1 ∧ q.cnt.length ≤ 1 then decide (p.nt ≤ q.nt) else
  (List.range (topL p q - 1).toNat).all fun i => decide (indL p (i + 2) < indL q (i + 2))
structure Mark (p q : Ws) : Prop where
theorem less_f {nx ny : Nat} {p q : Ws} {i : Nat} (h1 : i < (topL p q - 1).toNat) (hs : ¬ (p.cnt.length ≤ 1 ∧ q.cnt.length ≤ 1)) (h3 : indL q (2 + (i : Int)).toNat ≤ indL p (2 + (i : Int)).toNat) : false = lessL nx ny p q := by
  rw [show (2 + (i : Int)).toNat = i + 2 from by omega] at h3
  unfold lessL
  by_cases hn : ny ≤ nx
  · rw [if_pos hn]
  · rw [if_neg hn, if_neg hs]
    symm
    rw [List.all_eq_false]
    exact ⟨i, List.mem_range.mpr h1, by simpa using h3⟩
theorem less_n {nx ny : Nat} {p q : Ws} (hn : ny ≤ nx) : false = lessL nx ny p q := by
  unfold lessL; rw [if_pos hn]
theorem less_s {nx ny : Nat} {p q : Ws} (hn : ¬ ny ≤ nx) (h1 : p.cnt.length ≤ 1) (h2 : q.cnt.length ≤ 1) : decide ((p.nt : Int) ≤ (q.nt : Int)) = lessL nx ny p q := by
  unfold lessL; rw [if_neg hn, if_pos ⟨h1, h2⟩]
  rw [decide_eq_decide]; omega
theorem less_t {nx ny : Nat} {p q : Ws} (hn : ¬ ny ≤ nx) (hs : ¬ (p.cnt.length ≤ 1 ∧ q.cnt.length ≤ 1)) (h3 : ∀ j < (topL p q - 1).toNat, indL p (j + 2) < indL q (j + 2)) : true = lessL nx ny p q := by
  unfold lessL
  rw [if_neg hn, if_neg hs]
  symm
  rw [List.all_eq_true]
  intro j hj; exact decide_eq_true (h3 j (List.mem_range.mp hj))
theorem long_le {x : Str} (hx : Tx x) : -1 ≤ longL (wsL (Ls x)) ∧ longL (wsL (Ls x)) ≤ 64 := by
  have := ws_cnt hx
  unfold longL; omega
section
variable {prog : Program} {w : World} {A : Around} {E : Value → Shared → Prop} {s : Shared} {env : Env} {h₀ : Heap} {body : List Stmt} {Q : Flow → Shared → Prop}
theorem LG.ret {h₀ : Heap} {L : Addr} {J : (Str → Option Value) → List (Addr × Obj) → Prop} {I : Addr} {o : Obj} {s s₂ : Shared} {Q : Flow → Shared → Prop} {v : Value} (h : Q (.ret v) s₂) : LG h₀ L J I o s Q (.ret v) s₂ := h
theorem less_loop {r : Addr} {t u v : Tok} {b : Int} {p q : Ws} {m₀ : Str → Option Value} {news : List (Addr × Obj)} (M : Mark p q) (hh : A.handled = none) (hr : IsRange s.heap r 2 b 1 t u v) (hb : b = topL p q + 1) (hz : -10 ≤ b ∧ b ≤ 70)
    (F : Fr h₀ env.locals s.heap m₀) (N : News h₀ env.locals s.heap news)
    (turn : ∀ (i : Nat) u I o h tk, i < (topL p q - 1).toNat → (2 + (i : Int)) ≤ 70 → AllNe I news → Fr h₀ env.locals h (bsM [(Str.ofString "ts", .int (2 + (i : Int)) u)] m₀) → News h₀ env.locals h ((I, o) :: news) →
      wpAny (model prog w) A (execs body env) (LG h₀ env.locals (fun m₁ nx => ∃ ps', (news = nx ∧ ps' = [] ∧ indL p (i + 2) < indL q (i + 2)) ∧ Has (Str.ofString "ts") m₁ m₀ ps') I o { s with heap := h, toks := tk } Q) E { s with heap := h, toks := tk })
    (done : ∀ (z : Str → Option Value) h tk, (∀ j < (topL p q - 1).toNat, indL p (j + 2) < indL q (j + 2)) → Fr h₀ env.locals h (fun y => if y = Str.ofString "ts" then z y else m₀ y) → News h₀ env.locals h news → Q .next { s with heap := h, toks := tk }) :
    wpAny (model prog w) A (pyIter (.ref r)) (fun it s₂ => LoopAtV prog w A h₀ env (Str.ofString "ts") body Q E it s₂) E s := by
  refine range_st (n := (topL p q - 1).toNat) (fun i ps nx => news = nx ∧ ps = [] ∧ ∀ j < i, indL p (j + 2) < indL q (j + 2)) [] hh hr (by omega) (by omega) F N ⟨rfl, rfl, fun j hj => absurd hj (Nat.not_lt_zero _)⟩ (List.forall_mem_nil _) ?_ ?_
  · rintro i u ps nx I o h tk hi ⟨rfl, rfl, hall⟩ hne F₁ N₁
    refine wpAny_mono (turn i u I o h tk hi (by omega) hne F₁ N₁) (fun f s₂ p9 => ?_) fun _ _ e => e
    have up : ∀ (m₁ : Str → Option Value) nx, (∃ ps', (news = nx ∧ ps' = [] ∧ indL p (i + 2) < indL q (i + 2)) ∧ Has (Str.ofString "ts") m₁ m₀ ps') → ∃ ps', (news = nx ∧ ps' = [] ∧ ∀ j < i + 1, indL p (j + 2) < indL q (j + 2)) ∧ Has (Str.ofString "ts") m₁ m₀ ps' := by
      rintro m₁ nx ⟨ps', ⟨e1, e2, h3⟩, hH⟩
      refine ⟨ps', ⟨e1, e2, fun j hj => ?_⟩, hH⟩
      rcases Nat.lt_succ_iff_lt_or_eq.mp hj with h | h
      · exact hall j h
      · rw [h]; exact h3
    cases f with
    | ret v => exact p9
    | brk => exact p9
    | next =>
      obtain ⟨h', tk, m', nx, news', a, b, c, d, e, f, g⟩ := p9
      exact ⟨h', tk, m', nx, news', a, b, c, d, e, f, up _ _ g⟩
    | cont =>
      obtain ⟨h', tk, m', nx, news', a, b, c, d, e, f, g⟩ := p9
      exact ⟨h', tk, m', nx, news', a, b, c, d, e, f, up _ _ g⟩
  · rintro z ps nx h tk ⟨rfl, rfl, hall⟩ F₁ N₁
    exact done z h tk hall F₁ N₁
end
theorem con_less (a b : Addr) (x y : Str) (hx : Tx x) (hy : Tx y) (news : List (Addr × Obj)) (W : WsAt news a x) (V : WsAt news b y) : Con 130 [.ref a, .ref b] news 6 40 (RetV news fun u => .bool (lessL (Ls x).length (Ls y).length (wsL (Ls x)) (wsL (Ls y)))) := by
  k_with_none
  (k_with "exec Assign" => k_fold)
  (k_with "exec If" => k_fold)
  (k_with "exec While" => k_fold)
  (k_with "exec For" => k_fold)
  (k_with "storeName" => (k_here; k_dflt ((refine' storeM ?qFq ?qNq ?_ ?qaq ?qbq; (case qFq => k_asm); (case qNq => k_asm); (case qaq => rfl); (case qbq => rfl); k_whole; intro h' tk m₁ F' N'; (try k_sweep)))))
  (k_with "ho7" => first | (refine (if_neg (by assumption)).trans ?_; (k_extra "ho7")) | exact rfl)
  (k_with "sub7" => first | (with_reducible exact hp) | (refine List.mem_cons_of_mem _ ?_; (k_extra "sub7")) | (simp only [List.mem_cons, List.mem_append, hp, or_true, true_or]))
  (k_with "tx" => first | with_reducible assumption | with_reducible exact Tx.lower (by k_extra "tx") | with_reducible exact Tx.upper (by k_extra "tx") | with_reducible exact Tx.slice (by k_extra "tx") _ _)
  (k_with "getMethod ref" => (k_here; (with_reducible show wpAny _ _ (getMethod (Value.ref 50) _ _) _ _ _); k_dflt (refine' search_get ?qXq ?_; (case qXq => k_in); k_whole)))
  (k_with "call builtin:re.Pattern.search" => (k_here; k_dflt (first
  | (refine' search_none ?qqq ?qXq ?qFq ?qNq ?qxq ?_; (case qqq => assumption); (case qXq => k_in); (case qFq => k_asm); (case qNq => k_asm); (case qxq => k_extra "tx"); k_whole)
  | (refine' search_some ?qqq ?qXq ?qFq ?qNq ?qxq ?_; (case qqq => assumption); (case qXq => k_in); (case qFq => k_asm); (case qNq => k_asm); (case qxq => k_extra "tx"); k_whole; intro mt' mo' h' F' N' l1 l2; (try k_lt l1); (try k_lt2 l2); (try k_sweep))
  | (refine search_split ?_ ?_ <;> intros))))
  (k_with "truthy ref" => (k_here; k_dflt (refine' truthy_match ?qNq ?qqq ?_; (case qNq => k_asm); (case qqq => k_mem); k_whole)))
  (k_with "getMethod ref" => (k_here; k_dflt (refine' span_get ?qNq ?qqq ?_; (case qNq => k_asm); (case qqq => k_mem); k_whole)))
  (k_with "call builtin:re.Match.span" => (k_here; k_dflt (refine' span_call ?qFq ?qNq ?qqq ?quq ?_; (case qFq => k_asm); (case qNq => k_asm); (case qqq => k_mem); (case quq => k_mem); k_whole; intro a' h' t1' t2' tk' F' N' l1; (try k_lt l1); (try k_sweep))))
  (k_with "getAttr ref" => (k_here; (with_reducible show wpAny _ _ (getAttr (Value.ref _) (PySem.Str.ofString "string") _) _ _ _); k_dflt (refine' string_attr ?qNq ?qqq ?_; (case qNq => k_asm); (case qqq => k_mem); k_whole)))
  (k_with "enter9" => (refine' code_m ?qk1q ?qk2q ?qk3q ?qk4q ?qk5q ?qkAq ?qkFq ?qkKq ?qk6q ?qk7q ?qk8q ?qk9q ?qkBq ?_ ?qc2q ?qc3q ?qc4q ?qc5q; (case qkAq => exact rfl); (case qkFq => exact rfl); (case qkKq => first | exact rfl | assumption); (case qk1q => k_asm); (case qk2q => k_asm); (case qk3q => k_asm); (case qk4q => k_asm); (case qk5q => k_asm); (case qk6q => k_is); (case qk7q => k_is); (case qk8q => (first | omega | (dsimp only [Around.deeper, Around.in1, ktrTop]; omega) | ktr_room)); (case qk9q => first | exact BindsTo.of_eq rfl | exact binds_K (by k_in) rfl (by k_is) rfl rfl rfl); (case qc5q => decide); (case qkBq => exact locs rfl); (case qc2q => exact rfl); (case qc3q => exact rfl); (case qc4q => exact rfl); k_whole; intro g' L' h' tk' FG' m' F' N' B' X' T'; (try dsimp only); (try k_lift B'); (try k_fold)))
  (k_with "ho9" => (intro y9 a9 b9; simp only [List.forall_mem_cons, List.forall_mem_nil, and_true] at b9; simp only [bsM, a9, b9, if_false]))
  (k_with "ne9" => ((try simp only [AllNe, and_true, ne_eq] at *); first | assumption | trivial | grind))
  (k_with "k_mem9w" => (with_reducible (refine List.mem_cons_of_mem _ ?_); k_mem))
  (k_with "call builtin:len" => (k_here; (with_reducible show wpAny _ _ (call (Value.builtin "len") [Value.ref _]) _ _ _); k_dflt (refine' len_tupN ?qNq ?qqq ?qiq ?qzq ?_; (case qNq => k_asm); (case qqq => k_mem); (case qiq => with_reducible assumption); (case qzq => omega); k_whole); intro _ _))
  (k_with "subscriptTail" => (k_here; (with_reducible show wpAny _ _ (subscriptTail _ _ (Value.ref _) (Value.int _ _)) _ _ _); k_dflt (refine' sub_tupN ?qNq ?qqq ?qiq ?qh0q ?qh1q ?qzq ?_ ?qhsq; (case qNq => k_asm); (case qqq => k_mem); (case qiq => with_reducible assumption); (case qh0q => omega); (case qh1q => omega); (case qzq => omega); (case qhsq => with_unfolding_all rfl); k_whole); intro _))
  (k_with "compareOp Eq ref ref" => (k_here; k_dflt (refine' eq_norm ?qNq ?qaq ?qbq ?qcq ?qdq ?qeq ?qfq ?quq ?_; (case qNq => k_asm); (case qaq => k_mem); (case qbq => k_mem); (case qcq => with_reducible assumption); (case qdq => k_mem); (case qeq => k_mem); (case qfq => with_reducible assumption); (case quq => ((have hcL9 := cLine_is); dsimp only [Around.deeper, Around.in1, ktrTop]; omega)); k_whole)))
  (k_with "binaryOp Mult int int" => (k_here; (with_reducible show wpAny _ _ (binaryOp _ (Value.int _ _) (Value.int (List.getD _ _ _) _)) _ _ _); k_dflt (refine' PyProof.Rows.mul_int ?_ ?qhmq; (case qhmq => exact ws_mul (by assumption) _ _); k_whole)))
  (k_with "wsat" => (refine' WsAt.sub ?qWq ?qsq; (case qWq => with_reducible assumption); (case qsq => first | exact fun _ h => h | (intro p hp; k_extra "sub7"))))
  (k_with "call ref" => (k_here; (with_reducible show wpAny _ _ (call (Value.ref 102) _) _ _ _); k_dflt (refine' Con.use (con_long _ _ ?qhxq _ ?qWq) ?qBq ?qFq ?qXq ?qNq ?qTq ?qhkq ?qh1q ?qh2q ?_; (case qFq => k_asm); (case qNq => k_asm); (case qWq => k_extra "wsat"); (case qhxq => with_reducible assumption); (case qBq => k_asm); (case qXq => k_asm); (case qTq => k_asm); (case qhkq => first | exact rfl | assumption); (case qh1q => (first | omega | (dsimp only [Around.deeper, Around.in1, ktrTop]; omega))); (case qh2q => (first | omega | (dsimp only [Around.deeper, Around.in1, ktrTop]; omega))); k_whole; intro t' h' tk' F' N'; (try k_sweep); (try dsimp only); (try k_fold))))
  (k_with "call ref" => (k_here; (with_reducible show wpAny _ _ (call (Value.ref 109) _) _ _ _); k_dflt (refine' Con.use (con_indZ _ _ _ _ ?qhxq ?qhnq ?qhn2q _ ?qWq) ?qBq ?qFq ?qXq ?qNq ?qTq ?qhkq ?qh1q ?qh2q ?_; (case qFq => k_asm); (case qNq => k_asm); (case qWq => k_extra "wsat"); (case qhxq => with_reducible assumption); (case qhnq => omega); (case qhn2q => omega); (case qBq => k_asm); (case qXq => k_asm); (case qTq => k_asm); (case qhkq => first | exact rfl | assumption); (case qh1q => (first | omega | (dsimp only [Around.deeper, Around.in1, ktrTop]; omega))); (case qh2q => (first | omega | (dsimp only [Around.deeper, Around.in1, ktrTop]; omega))); k_whole; intro t' h' tk' F' N'; (try k_sweep); (try dsimp only); (try k_fold))))
  (k_with "LG" => (k_here; k_dflt (first | (refine' LG.ret ?_; k_whole) | (refine' st_end0 ?qFq ?qNq ?qhiq ⟨rfl, rfl, ?qltq⟩ ?qhoq ?qhbq ?qhneq; (case qFq => k_asm); (case qNq => k_asm); (case qhiq => k_mem); (case qltq => k_extra "indlt"); (case qhoq => (intro y a; k_extra "ho7")); (case qhbq => kstt_sub); (case qhneq => k_extra "ne9")))))
  (k_with "pyIter ref" => (k_here; k_dflt (refine' less_loop ?qMq ?qhhq ?qhrq ?qhbq ?qhzq ?qFq ?qNq ?_ ?_; (case qMq => with_reducible assumption); (case qhhq => exact rfl); (case qhrq => assumption); (case qhbq => (unfold topL; split <;> omega)); (case qhzq => (constructor <;> split <;> omega)); (case qFq => k_asm); (case qNq => k_asm)); (all_goals intros); (all_goals (try k_sweep)); (all_goals (try k_fold))))
  (k_with "indlt" => (rw [show ∀ i : Nat, (2 + (i : Int)).toNat = i + 2 from fun i => by omega] at *; omega))
  have hx1 := hx.len
  have hz1 := ws_cnt hx
  have hz2 := ws_cnt hy
  have hl1 := long_le hx
  have hl2 := long_le hy
  have M : Mark (wsL (Ls x)) (wsL (Ls y)) := ⟨⟩
  obtain ⟨d, tc, tn, vs, e, t, m1, m2, m3, m4, hv⟩ := W.ex
  obtain ⟨d2, tc2, tn2, vs2, e2, t2, p1, p2, p3, p4, hv2⟩ := V.ex
  unfold Con
  k_fill
  intro w mean mg mb dp un gd cn cs a ccd cl outer A₀ base h₀ L m s Q E B F X N T hk hd9 hu ret
  refine wpAny_call ?_
  k_dflt (k_extra "enter9")
  k_steps
  all_goals (refine' endB ret ?F ?N ?S ?e; (case F => k_asm); (case N => k_asm); (case S => first | exact fun _ h => h | (intro p hp; k_extra "sub7")); (case e => first | exact less_n (by omega) | exact less_s (by omega) (by omega) (by omega) | exact less_t (by omega) (by omega) (by assumption) | exact less_f (by assumption) (by omega) (by first | assumption | omega)))

end Mine
end

section
local macro_rules | `(tactic| omega) => `(tactic| lia)
open PySem PySem.W PyProof.Rows PySem.Calls PySem.StrLaws Builtin.Str
set_option Elab.async false
set_option maxRecDepth 100000
set_option maxHeartbeats 8000000
namespace Mine
noncomputable def joinL (sep : List Nat) : List (List Nat) → List Nat
  | [] => []
  | [x] => x
  | x :: y :: r => x ++ sep ++ joinL sep (y :: r)
theorem glue_fold (sep : Str) : ∀ (r : List Str) (acc : Array Nat), (r.foldl (fun acc p => acc ++ sep.cps ++ p.cps) acc).toList = acc.toList ++ (r.map fun p => Ls sep ++ Ls p).flatten
  | [], acc => by simp
  | p :: r, acc => by
    rw [List.foldl_cons, glue_fold sep r]
    simp [Ls]
theorem joinL_flat (sep : List Nat) : ∀ (x : List Nat) (r : List (List Nat)), joinL sep (x :: r) = x ++ (r.map fun p => sep ++ p).flatten
  | x, [] => by simp [joinL]
  | x, y :: r => by simp [joinL, joinL_flat sep y r]
theorem L_join (sep : Str) (ts : List Str) : Ls (Txt.join sep ts) = joinL (Ls sep) (ts.map Ls) := by
  cases ts with
  | nil => rfl
  | cons x r =>
    show ((List.drop 1 (x :: r)).foldl (fun acc p => acc ++ sep.cps ++ p.cps) x.cps).toList = _
    rw [List.map_cons, joinL_flat, List.drop_succ_cons, List.drop_zero, glue_fold]
    simp [Ls, Function.comp_def]
theorem L_app (x y : Str) : Ls (x ++ y) = Ls x ++ Ls y := by
  show (x.cps ++ y.cps).toList = _
  simp [Ls]
theorem L_dot : Ls (Str.ofString ".") = [46] := by decide +kernel
theorem L_a : Ls (Str.ofString "a") = [97] := by decide +kernel
theorem L_none : Ls (Str.ofString "") = [] := by decide +kernel

/-- a label -/
noncomputable def Lab (x : Str) : Prop := x.length ≤ 3 ∧ ∀ c ∈ Ls x, c = 97 ∨ c = 98 ∨ c = 55 ∨ c = 48
theorem Lab.ok {x : Str} (h : Lab x) : Ok (Ls x) := fun c m => by
  rcases h.2 c m with rfl | rfl | rfl | rfl <;> decide
theorem Lab.tx {x : Str} (h : Lab x) : Tx x := ⟨by have := h.1; omega, h.ok⟩
theorem Ok.app {a b : List Nat} (h : Ok a) (k : Ok b) : Ok (a ++ b) := fun c m => by
  rcases List.mem_append.mp m with m | m
  · exact h c m
  · exact k c m
theorem joinL_ok {sep : List Nat} (hs : Ok sep) : ∀ (ts : List (List Nat)), (∀ t ∈ ts, Ok t) → Ok (joinL sep ts)
  | [], _ => fun _ m => nomatch m
  | [x], h => h x List.mem_cons_self
  | x :: y :: r, h => ((h x List.mem_cons_self).app hs).app (joinL_ok hs (y :: r) fun t m => h t (List.mem_cons_of_mem _ m))
theorem joinL_len {sep : List Nat} : ∀ (ts : List (List Nat)), (joinL sep ts).length + sep.length ≤ (ts.map List.length).sum + ts.length * sep.length + sep.length
  | [] => by simp [joinL]
  | [x] => by simp [joinL]
  | x :: y :: r => by
    have := joinL_len (sep := sep) (y :: r)
    rw [joinL, List.length_append, List.length_append]
    simp only [List.map_cons, List.sum_cons, List.length_cons] at this ⊢
    have e : (r.length + 1 + 1) * sep.length = (r.length + 1) * sep.length + sep.length := Nat.succ_mul _ _
    omega
theorem labs_sum : ∀ (ts : List Str), (∀ t ∈ ts, Lab t) → ((ts.map Ls).map List.length).sum ≤ ts.length * 3
  | [], _ => by simp
  | x :: r, h => by
    have := labs_sum r fun t m => h t (List.mem_cons_of_mem _ m)
    have h2 := (h x List.mem_cons_self).1
    rw [len_L] at h2
    simp only [List.map_cons, List.sum_cons, List.length_cons]
    omega
theorem labs_weight : ∀ (ts : List Str), (∀ t ∈ ts, Lab t) → ((ts.map (·.length)).sum) ≤ ts.length * 3
  | [], _ => by simp
  | x :: r, h => by
    have := labs_weight r fun t m => h t (List.mem_cons_of_mem _ m)
    have h2 := (h x List.mem_cons_self).1
    simp only [List.map_cons, List.sum_cons, List.length_cons]
    omega
/-- a text of labels -/
noncomputable def Ho (x : Str) : Prop := x.length ≤ 16 ∧ Ok (Ls x)
theorem Ho.tx {x : Str} (h : Ho x) : Tx x := ⟨by have := h.1; omega, h.2⟩
theorem Lab.ho {x : Str} (h : Lab x) : Ho x := ⟨by have := h.1; omega, h.ok⟩
theorem join_ho {ts : List Str} (h : ∀ t ∈ ts, Lab t) (hn : ts.length ≤ 4) : Ho (Txt.join (Str.ofString ".") ts) := by
  refine ⟨?_, ?_⟩
  · rw [len_L, L_join, L_dot]
    have h1 := joinL_len (sep := [46]) (ts.map Ls)
    have h2 := labs_sum ts h
    simp only [List.length_map, List.length_cons, List.length_nil] at h1
    omega
  · rw [L_join, L_dot]
    refine joinL_ok (by intro c m; rw [List.mem_singleton.mp m]; decide) _ fun t m => ?_
    obtain ⟨y, hy, rfl⟩ := List.mem_map.mp m
    exact (h y hy).ok
theorem join0_ho {ts : List Str} (h : ∀ t ∈ ts, Lab t) (hn : ts.length ≤ 4) : Ho (Txt.join (Str.ofString "") ts) := by
  refine ⟨?_, ?_⟩
  · rw [len_L, L_join, L_none]
    have h1 := joinL_len (sep := []) (ts.map Ls)
    have h2 := labs_sum ts h
    simp only [List.length_map, List.length_nil] at h1
    omega
  · rw [L_join, L_none]
    refine joinL_ok (by intro c m; cases m) _ fun t m => ?_
    obtain ⟨y, hy, rfl⟩ := List.mem_map.mp m
    exact (h y hy).ok
theorem app_tx {x y : Str} (h : Ho x) (k : Ho y) : Tx (x ++ y) := by
  refine ⟨?_, ?_⟩
  · rw [len_L, L_app, List.length_append]
    have := h.1; have := k.1
    rw [len_L] at *
    omega
  · rw [L_app]; exact h.2.app k.2
theorem a_ho : Ho (Str.ofString "a") := ⟨by decide, by rw [L_a]; intro c m; rw [List.mem_singleton.mp m]; decide⟩
theorem dot_ho : Ho (Str.ofString ".") := ⟨by decide, by rw [L_dot]; intro c m; rw [List.mem_singleton.mp m]; decide⟩

section
variable {prog : Program} {w : World} {A : Around} {E : Value → Shared → Prop} {s : Shared} {x : Str} {t : Tok} {Q : Value → Shared → Prop}
/-- a join of labels -/
theorem join_labs {D : Addr} {items : Array Value} {ys : List Str} (hl : s.heap.IsList D items) (hi : StrsAre items.toList ys) (hsep : x.length ≤ 16) (hy : ∀ y ∈ ys, Lab y) (hn : ys.length ≤ 4)
    (h : ∀ t' k, Q (.str (Txt.join x ys) t') { s with toks := k }) : wpAny (model prog w) A (call (.builtin "str.join") [.str x t, .ref D]) Q E s :=
  join_listW hl hi hsep (by have := labs_weight ys hy; omega) h

noncomputable def leadS (l : List Nat) : List Nat := l.map fun c => if c = 46 then 9 else 32
theorem join_chars (f : Nat → Nat) : ∀ l : List Nat, Txt.join (Str.ofString "") (l.map fun c => (⟨#[f c]⟩ : Str)) = tx (l.map f) := fun l => by
  refine L_inj ?_
  rw [L_join, L_none, L_tx, List.map_map]
  induction l with
  | nil => rfl
  | cons a r ih =>
    cases r with
    | nil => rfl
    | cons b r =>
      rw [List.map_cons, List.map_cons, joinL]
      rw [← List.map_cons, ih]
      rfl
theorem is_dot (k : Nat) : (({ cps := #[k] } : Str) == Str.ofString ".") = (k == 46) := by
  rw [beq_L, L_dot, Bool.eq_iff_iff, beq_iff_eq, beq_iff_eq]
  exact ⟨fun h => (List.cons.inj h).1, fun h => by rw [h]⟩
theorem join_lead {D : Addr} {ys : List Value} {y : Str} (hl : s.heap.IsList D ys.toArray)
    (hc : CarriedAll ys (List.map (fun a => if (a == Str.ofString ".") = true then PyData.str (Str.ofString "\t") else PyData.str (Str.ofString " ")) (List.filter (fun _ => true) (signs y)))) (hy : Tx y)
    (h : ∀ t' k, Q (.str (tx (leadS (Ls y))) t') { s with toks := k }) : wpAny (model prog w) A (call (.builtin "str.join") [.str (Str.ofString "") t, .ref D]) Q E s := by
  have e : (List.map (fun a => if (a == Str.ofString ".") = true then PyData.str (Str.ofString "\t") else PyData.str (Str.ofString " ")) (List.filter (fun _ => true) (signs y))) = ((Ls y).map fun c => (⟨#[if c = 46 then 9 else 32]⟩ : Str)).map PyData.str := by
    rw [List.filter_eq_self.mpr fun _ _ => rfl]
    unfold signs
    rw [List.map_map, List.map_map]
    refine List.map_congr_left fun c _ => ?_
    show (if (({ cps := #[c] } : Str) == Str.ofString ".") = true then _ else _) = PyData.str ⟨#[if c = 46 then 9 else 32]⟩
    rw [is_dot]
    by_cases hd : c = 46
    · rw [if_pos hd, if_pos (beq_iff_eq.mpr hd)]; rfl
    · rw [if_neg hd, if_neg fun q => hd (beq_iff_eq.mp q)]; rfl
  rw [e] at hc
  have hs := StrsAre.of_carried hc
  have h64 := hy.len
  rw [len_L] at h64
  refine join_listW hl (by simpa using hs) (by decide) ?_ fun t' k => ?_
  · rw [List.map_map]
    have : ((Ls y).map ((fun a : Str => a.length) ∘ fun c => (⟨#[if c = 46 then 9 else 32]⟩ : Str))) = (Ls y).map fun _ => 1 := List.map_congr_left fun _ _ => rfl
    rw [this]
    have : ∀ l : List Nat, (l.map fun _ => 1).sum = l.length := fun l => by
      induction l with
      | nil => rfl
      | cons a r ih => rw [List.map_cons, List.sum_cons, ih, List.length_cons]; omega
    rw [this, List.length_map]; omega
  · rw [join_chars (fun c => if c = 46 then 9 else 32)]; exact h t' k
theorem lead_len (l : List Nat) : (leadS l).length = l.length := List.length_map _
theorem lead_tx {y : Str} (h : Tx y) : Tx (tx (leadS (Ls y))) := by
  refine ⟨?_, ?_⟩
  · rw [len_L, L_tx, lead_len]; exact h.len
  · rw [L_tx]; intro c m
    obtain ⟨d, _, rfl⟩ := List.mem_map.mp m
    by_cases e : d = 46
    · rw [if_pos e]; decide
    · rw [if_neg e]; decide
theorem lead_ws (y : Str) : ∀ c ∈ Ls (tx (leadS (Ls y))), c = 9 ∨ c = 32 := by
  rw [L_tx]; intro c m
  obtain ⟨d, _, rfl⟩ := List.mem_map.mp m
  by_cases e : d = 46
  · rw [if_pos e]; exact .inl rfl
  · rw [if_neg e]; exact .inr rfl
end
end Mine
end

section
local macro_rules | `(tactic| omega) => `(tactic| lia)
open PySem PySem.W PyProof.Rows PySem.Calls
set_option Elab.async false
set_option maxRecDepth 100000
set_option maxHeartbeats 8000000
namespace Mine



theorem endW2 {h₀ h' : Heap} {L : Addr} {m : Str → Option Value} {news news' : List (Addr × Obj)} {s : Shared} {Q : Value → Shared → Prop} {tk' : Nat} {x : Str} {a d tc tn : Addr} {vs : List Value} {t : Tok} {e : WsT}
    (ret : RetW news x h₀ L m s Q) (F : Fr h₀ L h' m) (N : News h₀ L h' news') (hs : ∀ p ∈ wsObjs a d tc tn vs e x t news, p ∈ news') (hv : IntsAre vs (wsL (Ls x)).cnt)
    (l1 : AllLt d news) (l2 : AllLt a news) (l3 : AllLt tc news) (l4 : AllLt tn news) (l5 : @LT.lt Nat _ d a) (l6 : @LT.lt Nat _ a tc) (l7 : @LT.lt Nat _ tc tn) : Q (.ref a) { s with heap := h', toks := tk' } :=
  ret a d tc tn vs e t h' tk' F (fun p hp => N p (hs p hp)) hv l1 l2 l3 l4 l5 l6 l7
theorem con_lead (x : Str) (t : Tok) (hx : Tx x) (news : List (Addr × Obj)) : Con 183 [.str x t] news 6 40 (RetW news (tx (leadS (Ls x)))) := by
  k_with_none
  (k_with "exec Assign" => k_fold)
  (k_with "exec If" => k_fold)
  (k_with "exec While" => k_fold)
  (k_with "exec For" => k_fold)
  (k_with "storeName" => (k_here; k_dflt ((refine' storeM ?qFq ?qNq ?_ ?qaq ?qbq; (case qFq => k_asm); (case qNq => k_asm); (case qaq => rfl); (case qbq => rfl); k_whole; intro h' tk m₁ F' N'; (try k_sweep)))))
  (k_with "tx" => first | with_reducible assumption | with_reducible exact Tx.lower (by k_extra "tx") | with_reducible exact Tx.upper (by k_extra "tx") | with_reducible exact Tx.slice (by k_extra "tx") _ _)
  (k_with "getMethod ref" => (k_here; (with_reducible show wpAny _ _ (getMethod (Value.ref 50) _ _) _ _ _); k_dflt (refine' search_get ?qXq ?_; (case qXq => k_in); k_whole)))
  (k_with "call builtin:re.Pattern.search" => (k_here; k_dflt (first
  | (refine' search_none ?qqq ?qXq ?qFq ?qNq ?qxq ?_; (case qqq => assumption); (case qXq => k_in); (case qFq => k_asm); (case qNq => k_asm); (case qxq => k_extra "tx"); k_whole)
  | (refine' search_some ?qqq ?qXq ?qFq ?qNq ?qxq ?_; (case qqq => assumption); (case qXq => k_in); (case qFq => k_asm); (case qNq => k_asm); (case qxq => k_extra "tx"); k_whole; intro mt' mo' h' F' N' l1 l2; (try k_lt l1); (try k_lt2 l2); (try k_sweep))
  | (refine search_split ?_ ?_ <;> intros))))
  (k_with "truthy ref" => (k_here; k_dflt (refine' truthy_match ?qNq ?qqq ?_; (case qNq => k_asm); (case qqq => k_mem); k_whole)))
  (k_with "getMethod ref" => (k_here; k_dflt (refine' span_get ?qNq ?qqq ?_; (case qNq => k_asm); (case qqq => k_mem); k_whole)))
  (k_with "call builtin:re.Match.span" => (k_here; k_dflt (refine' span_call ?qFq ?qNq ?qqq ?quq ?_; (case qFq => k_asm); (case qNq => k_asm); (case qqq => k_mem); (case quq => k_mem); k_whole; intro a' h' t1' t2' tk' F' N' l1; (try k_lt l1); (try k_sweep))))
  (k_with "getAttr ref" => (k_here; (with_reducible show wpAny _ _ (getAttr (Value.ref _) (PySem.Str.ofString "string") _) _ _ _); k_dflt (refine' string_attr ?qNq ?qqq ?_; (case qNq => k_asm); (case qqq => k_mem); k_whole)))
  (k_with "enter9" => (refine' code_m ?qk1q ?qk2q ?qk3q ?qk4q ?qk5q ?qkAq ?qkFq ?qkKq ?qk6q ?qk7q ?qk8q ?qk9q ?qkBq ?_ ?qc2q ?qc3q ?qc4q ?qc5q; (case qkAq => exact rfl); (case qkFq => exact rfl); (case qkKq => first | exact rfl | assumption); (case qk1q => k_asm); (case qk2q => k_asm); (case qk3q => k_asm); (case qk4q => k_asm); (case qk5q => k_asm); (case qk6q => k_is); (case qk7q => k_is); (case qk8q => (first | omega | (dsimp only [Around.deeper, Around.in1, ktrTop]; omega) | ktr_room)); (case qk9q => first | exact BindsTo.of_eq rfl | exact binds_K (by k_in) rfl (by k_is) rfl rfl rfl); (case qc5q => decide); (case qkBq => exact locs rfl); (case qc2q => exact rfl); (case qc3q => exact rfl); (case qc4q => exact rfl); k_whole; intro g' L' h' tk' FG' m' F' N' B' X' T'; (try dsimp only); (try k_lift B'); (try k_fold)))
  (k_with "ho9" => (intro y9 a9 b9; simp only [List.forall_mem_cons, List.forall_mem_nil, and_true] at b9; simp only [bsM, a9, b9, if_false]))
  (k_with "ne9" => ((try simp only [AllNe, and_true, ne_eq] at *); first | assumption | trivial | grind))
  (k_with "k_mem9w" => (with_reducible (refine List.mem_cons_of_mem _ ?_); k_mem))
  (k_with "call builtin:str.join" => (k_here; (with_reducible rename CarriedAll _ _ => hc9'); k_dflt (refine' join_lead ?qhlq hc9' ?qhyq ?_; (case qhlq => assumption); (case qhyq => k_extra "tx"); k_whole; intro _ _)))
  (k_with "call ref" => (k_here; (with_reducible show wpAny _ _ (call (Value.ref 140) _) _ _ _); k_dflt (refine' Con.use (con_ws _ _ ?qhxq ?qhcq _) ?qBq ?qFq ?qXq ?qNq ?qTq ?qhkq ?qh1q ?qh2q ?_; (case qFq => k_asm); (case qNq => k_asm); (case qhxq => with_reducible exact lead_tx (by k_extra "tx")); (case qhcq => exact lead_ws _); (case qBq => k_asm); (case qXq => k_asm); (case qTq => k_asm); (case qhkq => first | exact rfl | assumption); (case qh1q => (first | omega | (dsimp only [Around.deeper, Around.in1, ktrTop]; omega))); (case qh2q => (first | omega | (dsimp only [Around.deeper, Around.in1, ktrTop]; omega))); k_whole; intro a' d' tc' tn' vs' e' t' h' tk' F' N' hv' l1 l2 l3 l4 l5 l6 l7; (try k_sweep); (try dsimp only); (try k_fold))))
  have hx1 := hx.len
  unfold Con
  k_fill
  intro w mean mg mb dp un gd cn cs a ccd cl outer A₀ base h₀ L m s Q E B F X N T hk hd9 hu ret
  refine wpAny_call ?_
  k_dflt (k_extra "enter9")
  k_steps
  all_goals (refine' endW2 ret ?F ?N ?S ?hv ?l1 ?l2 ?l3 ?l4 ?l5 ?l6 ?l7; (case F => k_asm); (case N => k_asm); (case S => exact fun _ h => h); (all_goals assumption))

end Mine
end

section
local macro_rules | `(tactic| omega) => `(tactic| lia)
open PySem PySem.W PyProof.Rows PySem.Calls
set_option Elab.async false
set_option maxRecDepth 100000
set_option maxHeartbeats 8000000
namespace Mine

/-- a list of tuples of iss -/
inductive TupsAre (bs : List (Addr × Obj)) : List Value → List (List Int) → Prop
  | nil : TupsAre bs [] []
  | cons {a : Addr} {ws vs : List Value} {ns : List Int} {nss : List (List Int)} : (a, tupO ws) ∈ bs → IntsAre ws ns → TupsAre bs vs nss → TupsAre bs (.ref a :: vs) (ns :: nss)
theorem TupsAre.sub {bs bs' : List (Addr × Obj)} (hs : ∀ p ∈ bs, p ∈ bs') : ∀ {vs : List Value} {nss : List (List Int)}, TupsAre bs vs nss → TupsAre bs' vs nss
  | _, _, .nil => .nil
  | _, _, .cons h i r => .cons (hs _ h) i (r.sub hs)
theorem TupsAre.snoc {bs : List (Addr × Obj)} {a : Addr} {ws : List Value} {ns : List Int} (h : (a, tupO ws) ∈ bs) (hi : IntsAre ws ns) : ∀ {vs : List Value} {nss : List (List Int)}, TupsAre bs vs nss → TupsAre bs (vs ++ [.ref a]) (nss ++ [ns])
  | _, _, .nil => .cons h hi .nil
  | _, _, .cons h' i r => .cons h' i (r.snoc h hi)
theorem TupsAre.length {bs : List (Addr × Obj)} : ∀ {vs : List Value} {nss : List (List Int)}, TupsAre bs vs nss → vs.length = nss.length
  | _, _, .nil => rfl
  | _, _, .cons _ _ r => by rw [List.length_cons, List.length_cons, r.length]
noncomputable def witF (p q : Ws) (i : Nat) : List (List Int) := if indL q i ≤ indL p i then [[(i : Int), indL p i, indL q i]] else []
noncomputable def witL (p q : Ws) (n : Nat) : List (List Int) := (List.range n).flatMap fun j => witF p q (j + 1)
theorem witL_succ (p q : Ws) (n : Nat) : witL p q (n + 1) = witL p q n ++ witF p q (n + 1) := by
  unfold witL
  rw [List.range_succ, List.flatMap_append]; simp
theorem witL_len (p q : Ws) : ∀ n, (witL p q n).length ≤ n
  | 0 => by simp [witL]
  | n + 1 => by
    have := witL_len p q n
    rw [witL_succ, List.length_append]
    have h2 : (witF p q (n + 1)).length ≤ 1 := by unfold witF; split <;> simp
    omega

theorem TupsAre.push {bs bs' : List (Addr × Obj)} {a : Addr} {ws : List Value} {ns : List Int} {its : Array Value} {nss : List (List Int)} (T : TupsAre bs its.toList nss) (hs : ∀ p ∈ bs, p ∈ bs') (h : (a, tupO ws) ∈ bs') (hi : IntsAre ws ns) : TupsAre bs' (its.push (.ref a)).toList (nss ++ [ns]) := by
  rw [Array.toList_push]; exact TupsAre.snoc h hi (T.sub hs)
theorem witF_t {p q : Ws} {i : Nat} (h : indL q i ≤ indL p i) : witF p q i = [[(i : Int), indL p i, indL q i]] := by unfold witF; rw [if_pos h]
theorem witF_f {p q : Ws} {i : Nat} (h : ¬ indL q i ≤ indL p i) : witF p q i = [] := by unfold witF; rw [if_neg h]
noncomputable def WitT (l : Addr) (bs : List (Addr × Obj)) (iss : List (List Int)) (nx : List (Addr × Obj)) : Prop :=
  ∃ (bs' : List (Addr × Obj)) (its : Array Value) (k : Nat), nx = (l, PySem.W.listOf its k) :: bs' ∧ TupsAre bs' its.toList iss ∧ (∀ p ∈ bs, p ∈ bs') ∧ (∀ p ∈ bs', p.1 ≠ l)
theorem WitT.mono {l : Addr} {bs bs1 : List (Addr × Obj)} {iss : List (List Int)} {nx : List (Addr × Obj)} (h : ∀ p ∈ bs, p ∈ bs1) (W : WitT l bs1 iss nx) : WitT l bs iss nx := by
  obtain ⟨bs', its, k, e, t, s, n⟩ := W
  exact ⟨bs', its, k, e, t, fun p hp => s p (h p hp), n⟩
structure Mark2 (a b : Addr) (x y : Str) : Prop where
theorem ne_allLt {l : Addr} : ∀ {bs : List (Addr × Obj)}, AllLt l bs → ∀ p ∈ bs, p.1 ≠ l
  | [], _, _, hp => absurd hp List.not_mem_nil
  | q :: r, h, p, hp => by
    rcases List.mem_cons.mp hp with e | hp
    · rw [e]; exact Nat.ne_of_lt h.1
    · exact ne_allLt h.2 p hp
section
variable {prog : Program} {w : World} {A : Around} {E : Value → Shared → Prop} {s : Shared} {env : Env} {h₀ : Heap} {body : List Stmt} {Q : Flow → Shared → Prop}
theorem wit_loop {r l : Addr} {k0 : Nat} {t u v : Tok} {b : Int} {a1 a2 d1 d2 : Addr} {x y : Str} {m₀ : Str → Option Value} {news : List (Addr × Obj)} (M : Mark2 a1 a2 x y) (W : WsAt news a1 x) (V : WsAt news a2 y) {o1 o2 : Obj} (g1 : (a1, instObj 140 d1) ∈ news) (g2 : (a2, instObj 140 d2) ∈ news) (g3 : (d1, o1) ∈ news) (g4 : (d2, o2) ∈ news)
    (hh : A.handled = none) (hr : IsRange s.heap r 1 b 1 t u v) (hb : b = topL (wsL (Ls x)) (wsL (Ls y)) + 1) (hz : -10 ≤ b ∧ b ≤ 70)
    (F : Fr h₀ env.locals s.heap m₀) (N : News h₀ env.locals s.heap ((l, PySem.W.listOf #[] k0) :: news)) (hl : AllLt l news)
    (turn : ∀ (i : Nat) u I o h tk bs (its : Array Value) k iss, i < (topL (wsL (Ls x)) (wsL (Ls y))).toNat → (1 + (i : Int)) ≤ 70 → its.size ≤ sizeLine → WsAt bs a1 x → WsAt bs a2 y → (a1, instObj 140 d1) ∈ bs → (a2, instObj 140 d2) ∈ bs → (d1, o1) ∈ bs → (d2, o2) ∈ bs → TupsAre bs its.toList iss → (∀ p ∈ bs, p.1 ≠ l) → (@Ne Nat l I) → AllNe I bs →
      Fr h₀ env.locals h (bsM [(Str.ofString "ts", .int (1 + (i : Int)) u)] m₀) → News h₀ env.locals h ((I, o) :: (l, PySem.W.listOf its k) :: bs) →
      wpAny (model prog w) A (execs body env) (LG h₀ env.locals (fun m₁ nx => ∃ ps', (WitT l bs (iss ++ witF (wsL (Ls x)) (wsL (Ls y)) (1 + (i : Int)).toNat) nx ∧ ps' = []) ∧ Has (Str.ofString "ts") m₁ m₀ ps') I o { s with heap := h, toks := tk } Q) E { s with heap := h, toks := tk })
    (done : ∀ (z : Str → Option Value) h tk bs (its : Array Value) k, TupsAre bs its.toList (witL (wsL (Ls x)) (wsL (Ls y)) (topL (wsL (Ls x)) (wsL (Ls y))).toNat) → (∀ p ∈ news, p ∈ bs) → (∀ p ∈ bs, p.1 ≠ l) → Fr h₀ env.locals h (fun y => if y = Str.ofString "ts" then z y else m₀ y) → News h₀ env.locals h ((l, PySem.W.listOf its k) :: bs) → Q .next { s with heap := h, toks := tk }) :
    wpAny (model prog w) A (pyIter (.ref r)) (fun it s₂ => LoopAtV prog w A h₀ env (Str.ofString "ts") body Q E it s₂) E s := by
  refine range_st (n := (topL (wsL (Ls x)) (wsL (Ls y))).toNat) (fun i ps nx => WitT l news (witL (wsL (Ls x)) (wsL (Ls y)) i) nx ∧ ps = []) [] hh hr (by omega) (by omega) F N ⟨⟨news, #[], k0, rfl, by simpa [witL] using TupsAre.nil, fun _ h => h, ne_allLt hl⟩, rfl⟩ (List.forall_mem_nil _) ?_ ?_
  · rintro i u ps nx I o h tk hi ⟨⟨bs, its, k, rfl, T, hs, hn⟩, rfl⟩ hne F₁ N₁
    have hsz : its.size ≤ sizeLine := by
      have h1 := T.length
      have h2 := witL_len (wsL (Ls x)) (wsL (Ls y)) i
      rw [Array.length_toList] at h1
      have : sizeLine = 2 ^ 24 := by rfl
      omega
    refine wpAny_mono (turn i u I o h tk bs its k _ hi (by omega) hsz (W.sub hs) (V.sub hs) (hs _ g1) (hs _ g2) (hs _ g3) (hs _ g4) T hn hne.1 hne.2 F₁ N₁) (fun f s₂ p9 => ?_) fun _ _ e => e
    have up : ∀ (m₁ : Str → Option Value) nx, (∃ ps', (WitT l bs (witL (wsL (Ls x)) (wsL (Ls y)) i ++ witF (wsL (Ls x)) (wsL (Ls y)) (1 + (i : Int)).toNat) nx ∧ ps' = []) ∧ Has (Str.ofString "ts") m₁ m₀ ps') → ∃ ps', (WitT l news (witL (wsL (Ls x)) (wsL (Ls y)) (i + 1)) nx ∧ ps' = []) ∧ Has (Str.ofString "ts") m₁ m₀ ps' := by
      rintro m₁ nx ⟨ps', ⟨e1, e2⟩, hH⟩
      rw [show (1 + (i : Int)).toNat = i + 1 by omega, ← witL_succ] at e1
      exact ⟨ps', ⟨e1.mono hs, e2⟩, hH⟩
    cases f with
    | ret v => exact p9
    | brk => exact p9
    | next =>
      obtain ⟨h', tk, m', nx, news', a, b, c, d, e, f, g⟩ := p9
      exact ⟨h', tk, m', nx, news', a, b, c, d, e, f, up _ _ g⟩
    | cont =>
      obtain ⟨h', tk, m', nx, news', a, b, c, d, e, f, g⟩ := p9
      exact ⟨h', tk, m', nx, news', a, b, c, d, e, f, up _ _ g⟩
  · rintro z ps nx h tk ⟨⟨bs, its, k, rfl, T, hs, hn⟩, rfl⟩ F₁ N₁
    exact done z h tk bs its k T hs hn F₁ N₁
theorem wit_same {l : Addr} {bs : List (Addr × Obj)} {its : Array Value} {k : Nat} {iss : List (List Int)} {p q : Ws} {i : Nat} (T : TupsAre bs its.toList iss) (hn : ∀ p ∈ bs, p.1 ≠ l) (h : ¬ indL q i ≤ indL p i) : WitT l bs (iss ++ witF p q i) ((l, PySem.W.listOf its k) :: bs) := by
  rw [witF_f h, List.append_nil]
  exact ⟨bs, its, k, rfl, T, fun _ h => h, hn⟩
theorem wit_more {l tp : Addr} {bs : List (Addr × Obj)} {its : Array Value} {k : Nat} {iss : List (List Int)} {p q : Ws} {i : Int} {ws : List Value} (T : TupsAre bs its.toList iss) (hn : ∀ p ∈ (tp, tupO ws) :: bs, p.1 ≠ l) (h : indL q i.toNat ≤ indL p i.toNat) (hw : IntsAre ws [i, indL p i.toNat, indL q i.toNat]) (hi : 0 ≤ i) : WitT l bs (iss ++ witF p q i.toNat) ((l, PySem.W.listOf (its.push (.ref tp)) k) :: (tp, tupO ws) :: bs) := by
  rw [witF_t h, show ((i.toNat : Nat) : Int) = i by omega]
  exact ⟨_, _, k, rfl, T.push (fun _ h => .tail _ h) (.head _) hw, fun _ h => .tail _ h, hn⟩
end
noncomputable abbrev RetWit (news : List (Addr × Obj)) (iss : List (List Int)) : Wh := fun h₀ L m s Q =>
  ∀ (l : Addr) (k : Nat) (bs : List (Addr × Obj)) (its : Array Value) (h' : Heap) (tk' : Nat), Fr h₀ L h' m → News h₀ L h' ((l, PySem.W.listOf its k) :: bs) → TupsAre bs its.toList iss → (∀ p ∈ news, p ∈ bs) → (∀ p ∈ bs, p.1 ≠ l) → Q (.ref l) { s with heap := h', toks := tk' }
theorem con_wit (a b : Addr) (x y : Str) (hx : Tx x) (hy : Tx y) (news : List (Addr × Obj)) (W : WsAt news a x) (V : WsAt news b y) : Con 137 [.ref a, .ref b] news 6 40 (RetWit news (witL (wsL (Ls x)) (wsL (Ls y)) (topL (wsL (Ls x)) (wsL (Ls y))).toNat)) := by
  k_with_none
  (k_with "exec Assign" => k_fold)
  (k_with "exec If" => k_fold)
  (k_with "exec While" => k_fold)
  (k_with "exec For" => k_fold)
  (k_with "storeName" => (k_here; k_dflt ((refine' storeM ?qFq ?qNq ?_ ?qaq ?qbq; (case qFq => k_asm); (case qNq => k_asm); (case qaq => rfl); (case qbq => rfl); k_whole; intro h' tk m₁ F' N'; (try k_sweep)))))
  (k_with "ho7" => first | (refine (if_neg (by assumption)).trans ?_; (k_extra "ho7")) | exact rfl)
  (k_with "sub7" => first | (with_reducible exact hp) | (refine List.mem_cons_of_mem _ ?_; (k_extra "sub7")) | (simp only [List.mem_cons, List.mem_append, hp, or_true, true_or]))
  (k_with "tx" => first | with_reducible assumption | with_reducible exact Tx.lower (by k_extra "tx") | with_reducible exact Tx.upper (by k_extra "tx") | with_reducible exact Tx.slice (by k_extra "tx") _ _)
  (k_with "getMethod ref" => (k_here; (with_reducible show wpAny _ _ (getMethod (Value.ref 50) _ _) _ _ _); k_dflt (refine' search_get ?qXq ?_; (case qXq => k_in); k_whole)))
  (k_with "call builtin:re.Pattern.search" => (k_here; k_dflt (first
  | (refine' search_none ?qqq ?qXq ?qFq ?qNq ?qxq ?_; (case qqq => assumption); (case qXq => k_in); (case qFq => k_asm); (case qNq => k_asm); (case qxq => k_extra "tx"); k_whole)
  | (refine' search_some ?qqq ?qXq ?qFq ?qNq ?qxq ?_; (case qqq => assumption); (case qXq => k_in); (case qFq => k_asm); (case qNq => k_asm); (case qxq => k_extra "tx"); k_whole; intro mt' mo' h' F' N' l1 l2; (try k_lt l1); (try k_lt2 l2); (try k_sweep))
  | (refine search_split ?_ ?_ <;> intros))))
  (k_with "truthy ref" => (k_here; k_dflt (refine' truthy_match ?qNq ?qqq ?_; (case qNq => k_asm); (case qqq => k_mem); k_whole)))
  (k_with "getMethod ref" => (k_here; k_dflt (refine' span_get ?qNq ?qqq ?_; (case qNq => k_asm); (case qqq => k_mem); k_whole)))
  (k_with "call builtin:re.Match.span" => (k_here; k_dflt (refine' span_call ?qFq ?qNq ?qqq ?quq ?_; (case qFq => k_asm); (case qNq => k_asm); (case qqq => k_mem); (case quq => k_mem); k_whole; intro a' h' t1' t2' tk' F' N' l1; (try k_lt l1); (try k_sweep))))
  (k_with "getAttr ref" => (k_here; (with_reducible show wpAny _ _ (getAttr (Value.ref _) (PySem.Str.ofString "string") _) _ _ _); k_dflt (refine' string_attr ?qNq ?qqq ?_; (case qNq => k_asm); (case qqq => k_mem); k_whole)))
  (k_with "enter9" => (refine' code_m ?qk1q ?qk2q ?qk3q ?qk4q ?qk5q ?qkAq ?qkFq ?qkKq ?qk6q ?qk7q ?qk8q ?qk9q ?qkBq ?_ ?qc2q ?qc3q ?qc4q ?qc5q; (case qkAq => exact rfl); (case qkFq => exact rfl); (case qkKq => first | exact rfl | assumption); (case qk1q => k_asm); (case qk2q => k_asm); (case qk3q => k_asm); (case qk4q => k_asm); (case qk5q => k_asm); (case qk6q => k_is); (case qk7q => k_is); (case qk8q => (first | omega | (dsimp only [Around.deeper, Around.in1, ktrTop]; omega) | ktr_room)); (case qk9q => first | exact BindsTo.of_eq rfl | exact binds_K (by k_in) rfl (by k_is) rfl rfl rfl); (case qc5q => decide); (case qkBq => exact locs rfl); (case qc2q => exact rfl); (case qc3q => exact rfl); (case qc4q => exact rfl); k_whole; intro g' L' h' tk' FG' m' F' N' B' X' T'; (try dsimp only); (try k_lift B'); (try k_fold)))
  (k_with "ho9" => (intro y9 a9 b9; simp only [List.forall_mem_cons, List.forall_mem_nil, and_true] at b9; simp only [bsM, a9, b9, if_false]))
  (k_with "ne9" => ((try simp only [AllNe, and_true, ne_eq] at *); first | assumption | trivial | grind))
  (k_with "k_mem9w" => (with_reducible (refine List.mem_cons_of_mem _ ?_); k_mem))
  (k_with "call builtin:len" => (k_here; (with_reducible show wpAny _ _ (call (Value.builtin "len") [Value.ref _]) _ _ _); k_dflt (refine' len_tupN ?qNq ?qqq ?qiq ?qzq ?_; (case qNq => k_asm); (case qqq => k_mem); (case qiq => with_reducible assumption); (case qzq => omega); k_whole); intro _ _))
  (k_with "subscriptTail" => (k_here; (with_reducible show wpAny _ _ (subscriptTail _ _ (Value.ref _) (Value.int _ _)) _ _ _); k_dflt (refine' sub_tupN ?qNq ?qqq ?qiq ?qh0q ?qh1q ?qzq ?_ ?qhsq; (case qNq => k_asm); (case qqq => k_mem); (case qiq => with_reducible assumption); (case qh0q => omega); (case qh1q => omega); (case qzq => omega); (case qhsq => with_unfolding_all rfl); k_whole); intro _))
  (k_with "compareOp Eq ref ref" => (k_here; k_dflt (refine' eq_norm ?qNq ?qaq ?qbq ?qcq ?qdq ?qeq ?qfq ?quq ?_; (case qNq => k_asm); (case qaq => k_mem); (case qbq => k_mem); (case qcq => with_reducible assumption); (case qdq => k_mem); (case qeq => k_mem); (case qfq => with_reducible assumption); (case quq => ((have hcL9 := cLine_is); dsimp only [Around.deeper, Around.in1, ktrTop]; omega)); k_whole)))
  (k_with "binaryOp Mult int int" => (k_here; (with_reducible show wpAny _ _ (binaryOp _ (Value.int _ _) (Value.int (List.getD _ _ _) _)) _ _ _); k_dflt (refine' PyProof.Rows.mul_int ?_ ?qhmq; (case qhmq => exact ws_mul (by assumption) _ _); k_whole)))
  (k_with "wsat" => (refine' WsAt.sub ?qWq ?qsq; (case qWq => with_reducible assumption); (case qsq => first | exact fun _ h => h | (intro p hp; k_extra "sub7"))))
  (k_with "k_all9w" => with_reducible assumption)
  (k_with "call ref" => (k_here; (with_reducible show wpAny _ _ (call (Value.ref 102) _) _ _ _); k_dflt (refine' Con.use (con_long _ _ ?qhxq _ ?qWq) ?qBq ?qFq ?qXq ?qNq ?qTq ?qhkq ?qh1q ?qh2q ?_; (case qFq => k_asm); (case qNq => k_asm); (case qWq => k_extra "wsat"); (case qhxq => with_reducible assumption); (case qBq => k_asm); (case qXq => k_asm); (case qTq => k_asm); (case qhkq => first | exact rfl | assumption); (case qh1q => (first | omega | (dsimp only [Around.deeper, Around.in1, ktrTop]; omega))); (case qh2q => (first | omega | (dsimp only [Around.deeper, Around.in1, ktrTop]; omega))); k_whole; intro t' h' tk' F' N'; (try k_sweep); (try dsimp only); (try k_fold))))
  (k_with "call ref" => (k_here; (with_reducible show wpAny _ _ (call (Value.ref 109) _) _ _ _); k_dflt (refine' Con.use (con_indZ _ _ _ _ ?qhxq ?qhnq ?qhn2q _ ?qWq) ?qBq ?qFq ?qXq ?qNq ?qTq ?qhkq ?qh1q ?qh2q ?_; (case qFq => k_asm); (case qNq => k_asm); (case qWq => k_extra "wsat"); (case qhxq => with_reducible assumption); (case qhnq => omega); (case qhn2q => omega); (case qBq => k_asm); (case qXq => k_asm); (case qTq => k_asm); (case qhkq => first | exact rfl | assumption); (case qh1q => (first | omega | (dsimp only [Around.deeper, Around.in1, ktrTop]; omega))); (case qh2q => (first | omega | (dsimp only [Around.deeper, Around.in1, ktrTop]; omega))); k_whole; intro t' h' tk' F' N'; (try k_sweep); (try dsimp only); (try k_fold))))
  (k_with "LG" => (k_here; k_dflt (first
  | (refine' st_end0 ?qFq ?qNq ?qhiq ⟨wit_same ?qTq ?qhnq ?qltq, rfl⟩ ?qhoq ?qhbq ?qhneq; (case qFq => k_asm); (case qNq => k_asm); (case qhiq => k_mem); (case qTq => with_reducible assumption); (case qhbq => (refine' List.forall_mem_cons.mpr ⟨?qaq, ?qbq⟩; (case qaq => k_mem); (case qbq => (intro p hp; simp only [List.mem_cons, hp, or_true])))); (case qhnq => k_all); (case qltq => (first | assumption | omega)); (case qhoq => (intro y a; k_extra "ho7")); (case qhneq => (refine' And.intro ?_ ?_; (focus k_ne); (first | assumption | grind))))
  | (refine' st_end0 ?qFq ?qNq ?qhiq ⟨wit_more ?qTq ?qhnq ?qltq ?qhwq ?qh0q, rfl⟩ ?qhoq ?qhbq ?qhneq; (case qFq => k_asm); (case qNq => k_asm); (case qhiq => k_mem); (case qTq => with_reducible assumption); (case qhbq => k_extra "sub9"); (case qhnq => k_all); (case qltq => (first | assumption | omega)); (case qhwq => l_ints); (case qh0q => omega); (case qhoq => (intro y a; k_extra "ho7")); (case qhneq => (refine' And.intro ?_ (And.intro ?_ ?_); (focus k_ne); (focus k_ne); (first | assumption | grind)))))))
  (k_with "sub9" => (refine' List.forall_mem_cons.mpr ⟨?qaq, ?qbq⟩; (case qaq => k_mem); (case qbq => refine' List.forall_mem_cons.mpr ⟨?qaq, ?qbq⟩; (case qaq => k_mem); (case qbq => (intro p hp; k_extra "sub7")))))
  (k_with "pyIter ref" => (k_here; k_dflt (refine' wit_loop ?qMq ?qWq ?qVq ?qg1q ?qg2q ?qg3q ?qg4q ?qhhq ?qhrq ?qhbq ?qhzq ?qFq ?qNq ?qhlq ?_ ?_; (case qMq => with_reducible assumption); (case qFq => k_asm); (case qNq => k_asm); (case qWq => with_reducible assumption); (case qVq => with_reducible assumption); (case qg1q => with_reducible assumption); (case qg2q => with_reducible assumption); (case qg3q => with_reducible assumption); (case qg4q => with_reducible assumption); (case qhhq => exact rfl); (case qhrq => assumption); (case qhbq => (unfold topL; split <;> omega)); (case qhzq => (constructor <;> split <;> omega)); (case qhlq => first | exact allLt_of (by assumption) | (simp only [AllLt, and_true]; first | assumption | grind))); (all_goals intros); (all_goals (try simp only [AllLt, AllNe, and_true, List.cons_append] at *)); (all_goals (try k_sweep)); (all_goals (try k_fold))))
  (k_with "call builtin:list.append" => (k_here; k_dflt (refine' append_K ?qk1q ?qk2q ?qk3q ?_ ?qzq; (case qk1q => k_asm); (case qk2q => k_asm); (case qk3q => k_upd); (case qzq => (first | assumption | size_fits)); k_whole); intro h' F' N'; (try k_sweep)))
  have hx1 := hx.len
  have hz1 := ws_cnt hx
  have hz2 := ws_cnt hy
  have hl1 := long_le hx
  have hl2 := long_le hy
  have M : Mark2 a b x y := ⟨⟩
  obtain ⟨d, tc, tn, vs, e, t, m1, m2, m3, m4, hv⟩ := W.ex
  obtain ⟨d2, tc2, tn2, vs2, e2, t2, p1, p2, p3, p4, hv2⟩ := V.ex
  unfold Con
  k_fill
  intro w mean mg mb dp un gd cn cs a ccd cl outer A₀ base h₀ L m s Q E B F X N T hk hd9 hu ret
  refine wpAny_call ?_
  k_dflt (k_extra "enter9")
  k_steps
  all_goals (refine' ret _ _ _ _ _ _ ?F ?N ?T ?S ?H; (case F => k_asm); (case N => k_asm); (case T => assumption); (case S => assumption); (case H => assumption))

end Mine
end

section
open PySem PySem.W PyProof.Rows PySem.Calls
set_option Elab.async false
set_option maxRecDepth 100000
set_option maxHeartbeats 4000000
namespace Mine
theorem span_none : typeLookup (.type "NoneType") (Str.ofString "span") = pure none := am_miss_of_fast (by decide +kernel)
theorem getAttr_none_false {prog : Program} {w : World} {A : Around} {E : Value → Shared → Prop} {s : Shared} {name : Str} {Q : Value → Shared → Prop} (hmiss : typeLookup (.type "NoneType") name = pure none) (hA : A.handled = none)
    (h : ∀ h' tk e, Heap.NewAttrErr s.heap h' e .none name → E (.ref e) { s with heap := h', toks := tk }) (hsz : name.length + 100 ≤ sizeLine := by size_fits) :
    wpAny (model prog w) A (getAttr (.none) name false) Q E s := by
  obtain ⟨hp, g, d, tk, os⟩ := s
  have hT : ∀ s' : Shared, s'.TypeIs (.none) "NoneType" := fun _ => rfl
  have f1 := sub_AttributeError
  have f3 := F.slot_NoneType_getattribute.lookup
  have f4 := F.slot_NoneType_getattribute.bind (.none)
  have f5 := am_none_getattr_none
  unfold getAttr getAttrBy
  repeat (any_goals (first | with_reducible assumption | ((with_reducible show wpAny _ _ (call (Value.builtin "object.__getattribute__") _ _) _ _ _); refine call_meets F.slot_NoneType_getattribute (hT _) F.entry_object_getattribute (F.args_object_getattribute_2 _ _) (meets_getattribute_miss_none name _ hmiss hsz) ⟨hA, fun h' tk' e hx => ?_⟩) | wp_step))
  obtain ⟨t', u', he⟩ := hx.there
  show wpAny _ _ (getattributeRaised _ _ _ _ _ _ _) _ _ _
  unfold getattributeRaised
  repeat (any_goals (first | with_reducible assumption | wp_step))
  exact h _ _ _ hx
theorem getMethod_none {prog : Program} {w : World} {A : Around} {E : Value → Shared → Prop} {s : Shared} {pl : Sem Bool} {Q : Value × List Value → Shared → Prop} (hA : A.handled = none)
    (h : ∀ h' tk e, Heap.NewAttrErr s.heap h' e .none (Str.ofString "span") → E (.ref e) { s with heap := h', toks := tk }) :
    wpAny (model prog w) A (getMethod (.none) (Str.ofString "span") pl) Q E s := by
  have hm := span_none
  have key := getAttr_none_false (prog := prog) (w := w) (A := A) (E := E) (s := s) hm hA h (Q := fun v s' => Q (v, []) s')
  obtain ⟨hp, g, d, tk, os⟩ := s
  have f3 := F.slot_NoneType_getattribute.lookup
  have f5 := am_none_getattr_none
  unfold getMethod
  repeat (any_goals (first | with_reducible assumption | ((with_reducible show wpAny _ _ (getAttr _ _ _) _ _ _); exact wpAny_mono key (fun _ _ q => wpAny_pure q) fun _ _ e => e) | wp_step))
end Mine
end

section
open PySem PySem.W PyProof.Rows PySem.Calls PySem.Spec
set_option Elab.async false
set_option maxRecDepth 100000
set_option maxHeartbeats 4000000
namespace Mine
section
variable {M : Model} {A : Around} {E : Value → Shared → Prop} {s' : Shared} {base g g₂ h : Heap} {outer : List Env} {L a e : Addr} {m : Str → Option Value} {name : Str} {scope : Scope} {cd : Value} {Q : Unit → Shared → Prop} {news : List (Addr × Obj)}
theorem leave_newA {o : Value} {nm : Str} (K : Below A base outer g) (hx : Heap.NewAttrErr h s'.heap e o nm) (F : Fr g L h m) (N : News g L h news)
    (hQ : ∀ h', RaisedSN base g outer e (.type "AttributeError") news h' → RaisedN base outer e (.type "AttributeError") news h' → g.UpToSlots h' → Q () { s' with heap := h' }) (hk : scope.kind = .function := by rfl) :
    wpAny M (A.deeper (envOf name scope L a cd)) (leaving (envOf name scope L a cd) (.ref e)) Q E s' := by
  have K' := K.push (name := name) (a := a) (cd := cd) F hk
  have hin : ∀ env ∈ (envOf name scope L a cd :: outer), ∀ b, env.frame = some b → b ∈ (envOf name scope L a cd :: outer).filterMap (·.frame) := fun env he b hb => List.mem_filterMap.mpr ⟨env, he, hb⟩
  have st : base.StaysIn (hideAll h ((envOf name scope L a cd :: outer).filterMap (·.frame))) := fun b o q => hideAll_get _ (K'.stays b o q) fun hm => by
    rw [(K'.frames.mem hm).1] at q; cases q
  have sg : ∀ b o, g.get? b = some o → b ∉ outer.filterMap (·.frame) → (hideAll h ((envOf name scope L a cd :: outer).filterMap (·.frame))).get? b = some o := fun b o q nm => hideAll_get _ (F.keep b o q) fun hm => by
    rcases kts_mem hm with z | z
    · rw [z, kts_self F] at q
      cases q
    · exact nm z
  have hl : ∀ q ∈ news, (hideAll h ((envOf name scope L a cd :: outer).filterMap (·.frame))).get? q.1 = some q.2 ∧ g.get? q.1 = none ∧ base.get? q.1 = none := fun q hq => by
    refine ⟨hideAll_get _ (N q hq).1 fun hm => ?_, (N q hq).2.2, fresh_of_stays K.stays (N q hq).2.2⟩
    obtain ⟨env, he, hf⟩ := List.mem_filterMap.mp hm
    rcases List.mem_cons.mp he with rfl | he
    · exact (N q hq).2.1 (Option.some.inj hf).symm
    · obtain ⟨o, ho, _⟩ := (K.frames.mem (List.mem_filterMap.mpr ⟨env, he, hf⟩)).2
      rw [(N q hq).2.2] at ho; cases ho
  obtain ⟨tp, u, he⟩ := hx.there
  have hen : (hideAll h ((envOf name scope L a cd :: outer).filterMap (·.frame))).get? e = none := by
    cases q : (hideAll h ((envOf name scope L a cd :: outer).filterMap (·.frame))).get? e with
    | none => rfl
    | some o => have := of_hideAll _ q; rw [hx.new] at this; cases this
  refine wpAny_leaving_firstW (a0 := tp) K'.stack ((funFrames_hide K'.frames hin).of_keeps fun b o hb _ => ⟨o, hx.keeps b o hb, rfl⟩) rfl he (fun b o hb => hx.keeps b o (of_hideAll _ hb)) hen rfl rfl rfl fun h' hL => ?_
  obtain ⟨k1, ⟨_, _, k2⟩, k3, k4⟩ := hL
  have R : RaisedSN base g outer e (.type "AttributeError") news h' := ⟨_, tp, st, sg, hl, k1, hen, k2, k3⟩
  exact hQ h' R R.toN (((Heap.UpToSlots.of_keeps F.keep).trans (Heap.UpToSlots.of_keeps hx.keeps)).trans k4)
end
end Mine
end

section
open PySem PySem.W PyProof.Rows PySem.Calls Builtin Builtin.ObjectAttr Builtin.Getset_descriptor
set_option Elab.async false
set_option maxRecDepth 100000
set_option maxHeartbeats 4000000
namespace Mine
theorem slot_fn_ga : Slot "function" "__getattribute__" "object.__getattribute__" := .of (owner := "object") (n := "__getattribute__") (by rw [typeLookup_type, builtinLookup_eq_fast]; kernel_rfl) (by decide +kernel) (by decide +kernel) (by decide +kernel)
    (by first | exact .inl (by decide +kernel) | exact .inr (by decide +kernel)) (by rw [isSubtype_type]; kernel_rfl)
theorem lk_fname : typeLookup (.type "function") "__name__" = pure (some (.builtin "function.__name__")) := by rw [typeLookup_type, builtinLookup_eq_fast]; kernel_rfl
theorem type_fname : typeOf (.builtin "function.__name__") = pure (.type "getset_descriptor") := by show builtinType _ = _; rw [builtinType_eq_fast]; kernel_rfl
theorem gs_set : ∃ id, typeLookup (.type "getset_descriptor") "__set__" = pure (some (.builtin id)) := ⟨"getset_descriptor.__set__", by rw [typeLookup_type, builtinLookup_eq_fast]; kernel_rfl⟩
theorem entry_fname : entryFor table "function.__name__" = some Builtin.«function.__name__» := entryFor_of_tree (by kernel_rfl)
theorem owner_fname : descrOwnerAndName "function.__name__" = ("function", "__name__") := by decide +kernel
theorem sub_fn : isSubtype (.type "function") (.type "function") = pure true := by rw [isSubtype_type]; kernel_rfl
section
variable {prog : Program} {w : World} {A : Around} {E : Value → Shared → Prop} {s : Shared} {P : Params} {h₀ : Heap} {L : Addr} {m : Str → Option Value} {news : List (Addr × Obj)} {x : Str} {t : Tok} {fd : FuncData} {dd : Option Addr} {sl : Array (Option Value)} {fa : Addr} {nm : Str}

theorem fname_get {R : Result → Shared → Prop} (ho : s.heap.get? fa = some ⟨.type "function", dd, .func fd, sl⟩) (hn : fd.name = nm) (hz : nm.length ≤ sizeLine) (h : R (.ok (.ret (.str nm s.toks))) { s with toks := s.toks + 1 }) :
    codeAny (model prog w) A (.call (.builtin "getset_descriptor.__get__") ⟨[.builtin "function.__name__", .ref fa, .type "function"], []⟩) R s := by
  obtain ⟨hh, g, d, tk, os⟩ := s
  dsimp only at ho
  refine codeAny_call_builtin KF.slot_gs.plain KF.entry_gs (KF.slot_gs.check _ _ _ _ _ _ _ _ type_fname (KF.args_gs _ _ _) ?_)
  have l1 : Looks (model prog w) hh (typeOf (.ref fa)) (.type "function") := (Looks.ld (part := none) ho).andThen .now
  have l2 : Looks (model prog w) hh (isSubtype (.type "function") (.type "function")) true := Looks.of_pure sub_fn
  unfold Builtin.«getset_descriptor.__get__» descrGet
  rw [dga_obj]
  refine wpAny_bind (wpAny_pure ?_)
  unfold descrGetter descrCheckInstance descrNameAndClass isInstance
  simp only [owner_fname]
  repeat lk
  refine ⟨Code.quiet_builtin _ (by decide +kernel), codeAny_builtin entry_fname ?_⟩
  unfold Builtin.«function.__name__» funcData
  dsimp only [List.headD]
  have l6 := Looks.ld (M := model prog w) (part := none) ho
  repeat lk
  subst hn
  refine wpAny_mkStr (Q := _) (x := fd.name) ?_ hz
  exact wpAny_pure h

theorem fname_find {hh : Heap} {M : Model} (_ho : hh.get? fa = some ⟨.type "function", dd, .func fd, sl⟩) : Looks M hh (find (.ref fa) (.type "function") "__name__") (.bind (.builtin "getset_descriptor.__get__") (.builtin "function.__name__")) := by
  intro A Q E s k q
  obtain ⟨hh', g, d, tk', os⟩ := s
  dsimp only at k
  have l2 : Looks M hh' (typeLookup (.type "function") "__name__") (some (.builtin "function.__name__")) := Looks.of_pure lk_fname
  have l3 : Looks M hh' (typeOf (.builtin "function.__name__")) (.type "getset_descriptor") := Looks.of_pure type_fname
  have l4 : Looks M hh' (typeLookup (.type "getset_descriptor") "__get__") (some (.builtin "getset_descriptor.__get__")) := Looks.of_pure KF.slot_gs.lookup
  obtain ⟨id, hid⟩ := gs_set
  have l5 : Looks M hh' (typeLookup (.type "getset_descriptor") "__set__") (some (.builtin id)) := Looks.of_pure hid
  unfold find getOf dataDescriptor? takesStores specialOf
  repeat lk
  exact q

theorem fname_ga {R : Result → Shared → Prop} (ho : s.heap.get? fa = some ⟨.type "function", dd, .func fd, sl⟩) (hn : fd.name = nm) (hz : nm.length ≤ sizeLine) (tk : Tok) (h : R (.ok (.ret (.str nm s.toks))) { s with toks := s.toks + 1 }) : codeAny (model prog w) A (.call (.builtin "object.__getattribute__") ⟨[.ref fa, .str "__name__" tk], []⟩) R s := by
  have hT : s.TypeIs (.ref fa) "function" := ⟨_, ho, rfl⟩
  refine codeAny_call_builtin slot_fn_ga.plain F.entry_object_getattribute (slot_fn_ga.check _ _ _ _ _ _ _ _ hT (F.args_object_getattribute_2 _ _) ?_)
  obtain ⟨hh', g, d, tk', os⟩ := s
  dsimp only at ho
  have l1 : Looks (model prog w) hh' (typeOf (.ref fa)) (.type "function") := (Looks.ld (part := none) ho).andThen .now
  have l2 := fname_find (M := model prog w) ho
  unfold Builtin.«object.__getattribute__»
  repeat lk
  show wpAny _ _ (run _) _ _ _
  refine wpAny_run (fname_get ho hn hz ?_)
  exact wpAny_pure (wpAny_pure h)

theorem fname_attr {expr : Bool} {Q : Value → Shared → Prop} (ho : s.heap.get? fa = some ⟨.type "function", dd, .func fd, sl⟩) (hn : fd.name = nm) (hz : nm.length ≤ sizeLine) (h : ∀ t tk, Q (.str nm t) { s with toks := tk }) :
    wpAny (model prog w) A (getAttr (.ref fa) (Str.ofString "__name__") expr) Q E s := by
  obtain ⟨hh, g, d, tk', os⟩ := s
  dsimp only at ho
  have l1 : Looks (model prog w) hh (typeOf (.ref fa)) (.type "function") := (Looks.ld (part := none) ho).andThen .now
  have l2 : Looks (model prog w) hh (typeLookup (.type "function") "__getattribute__") (some (.builtin "object.__getattribute__")) := Looks.of_pure slot_fn_ga.lookup
  have l4 : Looks (model prog w) hh (bindSpecial (.builtin "object.__getattribute__") (.ref fa)) (.builtin "object.__getattribute__", [.ref fa]) := Looks.of_pure (slot_fn_ga.bind _)
  unfold getAttr getAttrBy getAttrByItsOwn hookBefore callGetattribute
  have hx0 : (expr && onTheHeap (Value.builtin "object.__getattribute__")) = false := by cases expr <;> rfl
  repeat lk
  refine wpAny_attempt (m := holding _ _) ?_
  rw [hx0]
  unfold boundAndCalled
  repeat lk
  show wpAny _ _ (run _) _ _ _
  refine wpAny_run (fname_ga (s := { heap := hh, gens := g, drawn := d, toks := tk' + 1, os := os }) ho hn hz tk' ?_)
  exact wpAny_pure (handed_on rfl (h _ _))
theorem fname_K {K : Frag} {expr : Bool} {Q : Value → Shared → Prop} (F : Fr h₀ L s.heap m) (X : K.In h₀) (e : K.lookup fa = some ⟨.type "function", dd, .func fd, sl⟩) (hn : fd.name = nm) (hz : nm.length ≤ sizeLine) (h : ∀ t tk, Q (.str nm t) { s with toks := tk }) :
    wpAny (model prog w) A (getAttr (.ref fa) (Str.ofString "__name__") expr) Q E s :=
  fname_attr ((X.keeps F.keep) _ _ e) hn hz h
end
end Mine
end

section
local macro_rules | `(tactic| omega) => `(tactic| lia)
open PySem PySem.W PyProof.Rows PySem.Calls
set_option Elab.async false
set_option maxRecDepth 100000
set_option maxHeartbeats 8000000
namespace Mine


/-- a call that may catch what is raised -/
noncomputable def ConS (f : Addr) (vs : List Value) (news : List (Addr × Obj)) (D U : Nat) (v : Tok → Value) : Prop :=
  ∀ (w : World) (mean : ExcName → Option Value) (mg mb : Str → Option Value) (dp un : Nat) (gd : Option (List Code)) (cn : Str) (cs : Scope) (a : Addr) (ccd : Value) (outer : List Env) (A₀ : Around)
    (base g₀ h₀ : Heap) (L : Addr) (m : Str → Option Value) (s : Shared) (Q E : Value → Shared → Prop),
    (hd.heap_39 w.params).In base → Top vw looseV mean mg mb base → Below A₀ base outer h₀ → Fr h₀ L s.heap m → (hd.heap_39 w.params).In h₀ → News h₀ L s.heap news →
    Top vw looseV mean mg mb h₀ → KtsDicts (outer.filterMap (·.frame)) h₀ → KtsTurn (outer.filterMap (·.frame)) g₀ h₀ →
    cs.kind = .function → dp + D < recursionLimit → un + U < cLine →
    (∀ (g' : Heap) (t : Tok) (h' : Heap) (tk' : Nat), KtsTurn (outer.filterMap (·.frame)) g₀ g' → Fr g' L h' m → News g' L h' news → Below A₀ base outer g' → (hd.heap_39 w.params).In g' → Top vw looseV mean mg mb g' → KtsDicts (outer.filterMap (·.frame)) g' → Q (v t) { s with heap := h', toks := tk' }) →
    wpAny (model PySem.Challenge.rw_xe0049_01.row.prog w) (ktrTop dp un gd cn cs L a ccd [] outer) (call (.ref f) vs) Q E s
theorem con_safe0 (t : Tok) (news : List (Addr × Obj)) : ConS 159 [.none, .str (Str.ofString "end") t, .ref 45] news 8 40 (fun u => .str (Str.ofString "<end unmatched() failed>") u) := by
  k_with_none
  (k_with "tx" => first | with_reducible assumption | with_reducible exact Tx.lower (by k_extra "tx") | with_reducible exact Tx.upper (by k_extra "tx") | with_reducible exact Tx.slice (by k_extra "tx") _ _)
  (k_with "getMethod ref" => (k_here; (with_reducible show wpAny _ _ (getMethod (Value.ref 50) _ _) _ _ _); k_dflt (refine' search_get ?qXq ?_; (case qXq => k_in); k_whole)))
  (k_with "call builtin:re.Pattern.search" => (k_here; k_dflt (first
  | (refine' search_none ?qqq ?qXq ?qFq ?qNq ?qxq ?_; (case qqq => assumption); (case qXq => k_in); (case qFq => k_asm); (case qNq => k_asm); (case qxq => k_extra "tx"); k_whole)
  | (refine' search_some ?qqq ?qXq ?qFq ?qNq ?qxq ?_; (case qqq => assumption); (case qXq => k_in); (case qFq => k_asm); (case qNq => k_asm); (case qxq => k_extra "tx"); k_whole; intro mt' mo' h' F' N' l1 l2; (try k_lt l1); (try k_lt2 l2); (try k_sweep))
  | (refine search_split ?_ ?_ <;> intros))))
  (k_with "truthy ref" => (k_here; k_dflt (refine' truthy_match ?qNq ?qqq ?_; (case qNq => k_asm); (case qqq => k_mem); k_whole)))
  (k_with "getMethod ref" => (k_here; k_dflt (refine' span_get ?qNq ?qqq ?_; (case qNq => k_asm); (case qqq => k_mem); k_whole)))
  (k_with "call builtin:re.Match.span" => (k_here; k_dflt (refine' span_call ?qFq ?qNq ?qqq ?quq ?_; (case qFq => k_asm); (case qNq => k_asm); (case qqq => k_mem); (case quq => k_mem); k_whole; intro a' h' t1' t2' tk' F' N' l1; (try k_lt l1); (try k_sweep))))
  (k_with "getAttr ref" => (k_here; (with_reducible show wpAny _ _ (getAttr (Value.ref _) (PySem.Str.ofString "string") _) _ _ _); k_dflt (refine' string_attr ?qNq ?qqq ?_; (case qNq => k_asm); (case qqq => k_mem); k_whole)))
  (k_with "enter9" => (refine' code_def ?qk1q ?qk2q ?qk3q ?qk4q ?qk5q ?qkAq ?qkFq ?qkKq ?qk6q ?qk7q ?qk8q ?qk9q ?qkBq ?_ ?qc2q ?qc3q ?qc4q ?qc5q; (case qkAq => exact rfl); (case qkFq => exact rfl); (case qkKq => first | exact rfl | assumption); (case qk1q => k_asm); (case qk2q => k_asm); (case qk3q => k_asm); (case qk4q => k_asm); (case qk5q => k_asm); (case qk6q => k_is); (case qk7q => k_is); (case qk8q => (first | omega | (dsimp only [Around.deeper, Around.in1, ktrTop]; omega) | ktr_room)); (case qk9q => first | exact BindsTo.of_eq rfl | exact binds_K (by k_in) rfl (by k_is) rfl rfl rfl); (case qc5q => decide); (case qkBq => exact locs rfl); (case qc2q => exact rfl); (case qc3q => exact rfl); (case qc4q => exact rfl); k_whole; intro g' L' h' FG' F' N' B' X' T'; (try dsimp only); (try k_lift B'); (try k_fold)))
  (k_with "ho9" => (intro y9 a9 b9; simp only [List.forall_mem_cons, List.forall_mem_nil, and_true] at b9; simp only [bsM, a9, b9, if_false]))
  (k_with "ne9" => ((try simp only [AllNe, and_true, ne_eq] at *); first | assumption | trivial | grind))
  (k_with "k_mem9w" => (with_reducible (refine List.mem_cons_of_mem _ ?_); k_mem))
  (k_with "getMethod none" => (k_dflt (refine' getMethod_none ?qhq ?_; (case qhq => exact rfl); k_whole); intro h' tk' e' hA'))
  (k_with "leaving ref" => (k_here; k_dflt ((rename Heap.NewAttrErr _ _ _ _ _ => naX); (refine' leave_newA ?qKq naX ?qFq ?qNq ?_; (case qKq => k_asm); (case qFq => k_asm); (case qNq => k_asm); k_whole)); intro h' R' R2' U'; (try dsimp only at R' R2' U' ⊢)))
  (k_with "enterS" => (refine' code_defS ?qk1q ?qk2q ?qk3q ?qk4q ?qk5q ?qXBq ?qTBq ?qDq ?qT0q ?qkAq ?qk6q ?qk7q ?qk8q ?qk9q ?qkBq ?_ ?qcKq ?qc2q ?qc3q ?qc4q ?qc5q; (case qkAq => exact rfl); (case qk2q => k_asm); (case qk1q => k_asm); (case qXBq => assumption); (case qTBq => assumption); (case qDq => assumption); (case qT0q => first | assumption | exact KtsTurn.refl); (case qk3q => k_asm); (case qk4q => k_asm); (case qk5q => k_asm); (case qk6q => k_is); (case qk7q => k_is); (case qk8q => (first | omega | (dsimp only [Around.deeper, Around.in1, ktrTop]; omega) | ktr_room)); (case qk9q => first | exact BindsTo.of_eq rfl | exact binds_K (by k_in) rfl (by k_is) rfl rfl rfl); (case qkBq => exact locs rfl); (case qcKq => first | exact rfl | assumption); (case qc2q => exact rfl); (case qc3q => exact rfl); (case qc4q => exact rfl); (case qc5q => decide); k_whole; intro g' L' h' FG' F' N' B' X' T' D'; (try dsimp only); (try k_lift B'); (try k_fold)))
  (k_with "call ref" => (k_here; (with_reducible show wpAny _ _ (call (Value.ref 45) [Value.none]) _ _ _); refine wpAny_call ?_; k_dflt (k_extra "enterS")))
  (k_with "getAttr ref" => (k_here; (with_reducible show wpAny _ _ (getAttr (Value.ref 45) _ _) _ _ _); k_dflt (refine' fname_K ?qFq ?qXq ?qeq ?qhnq ?qhzq ?_; (case qFq => k_asm); (case qXq => k_asm); (case qeq => k_is); (case qhnq => exact rfl); (case qhzq => size_fits); k_whole); intro _ _))
  unfold ConS
  k_fill
  intro w mean mg mb dp un gd cn cs a ccd outer A₀ base g₀ h₀ L m s Q E XB TB B F X N T D T0 hk hd9 hu ret
  refine wpAny_call ?_
  k_dflt (k_extra "enterS")
  k_steps
  all_goals (rw [show (Str.empty ++ Str.ofString "<" ++ Str.ofString "end" ++ Str.ofString " " ++ Str.ofString "unmatched" ++ Str.ofString "() failed>") = Str.ofString "<end unmatched() failed>" by decide +kernel])
  all_goals (refine' ret _ _ _ _ ?T ?F ?N ?B ?X ?P ?D; (case F => k_asm); (case N => k_asm); (case T => assumption); (case B => assumption); (case X => assumption); (case P => assumption); (case D => assumption))
theorem L_cut {x : Str} {j : Nat} (h : j ≤ (Ls x).length) : Txt.slice x none (some (j : Int)) ++ Txt.slice x (some (x.length : Int)) none = tx ((Ls x).take j) := by
  apply L_inj
  show (Txt.slice x none (some (j : Int)) ++ Txt.slice x (some (x.length : Int)) none).cps.toList = (Ls x).take j
  rw [Str.cps_append, Array.toList_append]
  have e1 : (Txt.slice x none (some (j : Int))).cps.toList = _ := L_to (x := x) (j := j) (by omega) (by omega)
  have e2 : (Txt.slice x (some (x.length : Int)) none).cps.toList = _ := L_from0 (x := x) (i := x.length) (by omega)
  rw [e1, e2, len_L, List.drop_eq_nil_of_le (by omega), List.append_nil]
  congr 1
theorem con_unm (x : Str) (t : Tok) (mo mt : Addr) (j : Nat) (hx : Tx x) (hj : j ≤ (Ls x).length) (news : List (Addr × Obj)) (hm1 : (mo, matchO x t mt) ∈ news) (hm2 : (mt, tupO [.int j 0, .int x.length 0]) ∈ news) : Con 45 [.ref mo] news 4 20 (RetV news fun u => .str (tx ((Ls x).take j)) u) := by
  k_with_none
  (k_with "sub7" => first | (with_reducible exact hp) | (refine List.mem_cons_of_mem _ ?_; (k_extra "sub7")) | (simp only [List.mem_cons, List.mem_append, hp, or_true, true_or]))
  (k_with "tx" => first | with_reducible assumption | with_reducible exact Tx.lower (by k_extra "tx") | with_reducible exact Tx.upper (by k_extra "tx") | with_reducible exact Tx.slice (by k_extra "tx") _ _)
  (k_with "getMethod ref" => (k_here; (with_reducible show wpAny _ _ (getMethod (Value.ref 50) _ _) _ _ _); k_dflt (refine' search_get ?qXq ?_; (case qXq => k_in); k_whole)))
  (k_with "call builtin:re.Pattern.search" => (k_here; k_dflt (first
  | (refine' search_none ?qqq ?qXq ?qFq ?qNq ?qxq ?_; (case qqq => assumption); (case qXq => k_in); (case qFq => k_asm); (case qNq => k_asm); (case qxq => k_extra "tx"); k_whole)
  | (refine' search_some ?qqq ?qXq ?qFq ?qNq ?qxq ?_; (case qqq => assumption); (case qXq => k_in); (case qFq => k_asm); (case qNq => k_asm); (case qxq => k_extra "tx"); k_whole; intro mt' mo' h' F' N' l1 l2; (try k_lt l1); (try k_lt2 l2); (try k_sweep))
  | (refine search_split ?_ ?_ <;> intros))))
  (k_with "truthy ref" => (k_here; k_dflt (refine' truthy_match ?qNq ?qqq ?_; (case qNq => k_asm); (case qqq => k_mem); k_whole)))
  (k_with "getMethod ref" => (k_here; k_dflt (refine' span_get ?qNq ?qqq ?_; (case qNq => k_asm); (case qqq => k_mem); k_whole)))
  (k_with "call builtin:re.Match.span" => (k_here; k_dflt (refine' span_call ?qFq ?qNq ?qqq ?quq ?_; (case qFq => k_asm); (case qNq => k_asm); (case qqq => k_mem); (case quq => k_mem); k_whole; intro a' h' t1' t2' tk' F' N' l1; (try k_lt l1); (try k_sweep))))
  (k_with "getAttr ref" => (k_here; (with_reducible show wpAny _ _ (getAttr (Value.ref _) (PySem.Str.ofString "string") _) _ _ _); k_dflt (refine' string_attr ?qNq ?qqq ?_; (case qNq => k_asm); (case qqq => k_mem); k_whole)))
  (k_with "enter9" => (refine' code_def ?qk1q ?qk2q ?qk3q ?qk4q ?qk5q ?qkAq ?qkFq ?qkKq ?qk6q ?qk7q ?qk8q ?qk9q ?qkBq ?_ ?qc2q ?qc3q ?qc4q ?qc5q; (case qkAq => exact rfl); (case qkFq => exact rfl); (case qkKq => first | exact rfl | assumption); (case qk1q => k_asm); (case qk2q => k_asm); (case qk3q => k_asm); (case qk4q => k_asm); (case qk5q => k_asm); (case qk6q => k_is); (case qk7q => k_is); (case qk8q => (first | omega | (dsimp only [Around.deeper, Around.in1, ktrTop]; omega) | ktr_room)); (case qk9q => first | exact BindsTo.of_eq rfl | exact binds_K (by k_in) rfl (by k_is) rfl rfl rfl); (case qc5q => decide); (case qkBq => exact locs rfl); (case qc2q => exact rfl); (case qc3q => exact rfl); (case qc4q => exact rfl); k_whole; intro g' L' h' FG' F' N' B' X' T'; (try dsimp only); (try k_lift B'); (try k_fold)))
  (k_with "ho9" => (intro y9 a9 b9; simp only [List.forall_mem_cons, List.forall_mem_nil, and_true] at b9; simp only [bsM, a9, b9, if_false]))
  (k_with "ne9" => ((try simp only [AllNe, and_true, ne_eq] at *); first | assumption | trivial | grind))
  (k_with "k_mem9w" => (with_reducible (refine List.mem_cons_of_mem _ ?_); k_mem))
  (k_with "getMethod none" => (k_dflt (refine' getMethod_none ?qhq ?_; (case qhq => exact rfl); k_whole); intro h' tk' e' hA'))
  (k_with "leaving ref" => (k_here; k_dflt ((rename Heap.NewAttrErr _ _ _ _ _ => naX); (refine' leave_newA ?qKq naX ?qFq ?qNq ?_; (case qKq => k_asm); (case qFq => k_asm); (case qNq => k_asm); k_whole)); intro h' R' R2' U'; (try dsimp only at R' R2' U' ⊢)))
  (k_with "enterS" => (refine' code_defS ?qk1q ?qk2q ?qk3q ?qk4q ?qk5q ?qXBq ?qTBq ?qDq ?qT0q ?qkAq ?qk6q ?qk7q ?qk8q ?qk9q ?qkBq ?_ ?qcKq ?qc2q ?qc3q ?qc4q ?qc5q; (case qkAq => exact rfl); (case qk2q => k_asm); (case qk1q => k_asm); (case qXBq => assumption); (case qTBq => assumption); (case qDq => assumption); (case qT0q => first | assumption | exact KtsTurn.refl); (case qk3q => k_asm); (case qk4q => k_asm); (case qk5q => k_asm); (case qk6q => k_is); (case qk7q => k_is); (case qk8q => (first | omega | (dsimp only [Around.deeper, Around.in1, ktrTop]; omega) | ktr_room)); (case qk9q => first | exact BindsTo.of_eq rfl | exact binds_K (by k_in) rfl (by k_is) rfl rfl rfl); (case qkBq => exact locs rfl); (case qcKq => first | exact rfl | assumption); (case qc2q => exact rfl); (case qc3q => exact rfl); (case qc4q => exact rfl); (case qc5q => decide); k_whole; intro g' L' h' FG' F' N' B' X' T' D'; (try dsimp only); (try k_lift B'); (try k_fold)))
  (k_with "call ref" => (k_here; (with_reducible show wpAny _ _ (call (Value.ref 45) [Value.none]) _ _ _); refine wpAny_call ?_; k_dflt (k_extra "enterS")))
  (k_with "getAttr ref" => (k_here; (with_reducible show wpAny _ _ (getAttr (Value.ref 45) _ _) _ _ _); k_dflt (refine' fname_K ?qFq ?qXq ?qeq ?qhnq ?qhzq ?_; (case qFq => k_asm); (case qXq => k_asm); (case qeq => k_is); (case qhnq => exact rfl); (case qhzq => size_fits); k_whole); intro _ _))
  have hx1 := hx.len
  unfold Con
  k_fill
  intro w mean mg mb dp un gd cn cs a ccd cl outer A₀ base h₀ L m s Q E B F X N T hk hd9 hu ret
  refine wpAny_call ?_
  k_dflt (k_extra "enter9")
  k_steps
  all_goals (refine' endS ret ?F ?N ?S ?e; (case F => k_asm); (case N => k_asm); (case S => first | exact fun _ h => h | (intro p hp; k_extra "sub7")); (case e => exact L_cut hj))


theorem con_safe1 (x : Str) (t u : Tok) (mo mt : Addr) (j : Nat) (hx : Tx x) (hj : j ≤ (Ls x).length) (news : List (Addr × Obj)) (hm1 : (mo, matchO x t mt) ∈ news) (hm2 : (mt, tupO [.int j 0, .int x.length 0]) ∈ news) : Con 159 [.ref mo, .str (Str.ofString "end") u, .ref 45] news 6 40 (RetV news fun u => .str (tx ((Ls x).take j)) u) := by
  k_with_none
  (k_with "sub7" => first | (with_reducible exact hp) | (refine List.mem_cons_of_mem _ ?_; (k_extra "sub7")) | (simp only [List.mem_cons, List.mem_append, hp, or_true, true_or]))
  (k_with "tx" => first | with_reducible assumption | with_reducible exact Tx.lower (by k_extra "tx") | with_reducible exact Tx.upper (by k_extra "tx") | with_reducible exact Tx.slice (by k_extra "tx") _ _)
  (k_with "getMethod ref" => (k_here; (with_reducible show wpAny _ _ (getMethod (Value.ref 50) _ _) _ _ _); k_dflt (refine' search_get ?qXq ?_; (case qXq => k_in); k_whole)))
  (k_with "call builtin:re.Pattern.search" => (k_here; k_dflt (first
  | (refine' search_none ?qqq ?qXq ?qFq ?qNq ?qxq ?_; (case qqq => assumption); (case qXq => k_in); (case qFq => k_asm); (case qNq => k_asm); (case qxq => k_extra "tx"); k_whole)
  | (refine' search_some ?qqq ?qXq ?qFq ?qNq ?qxq ?_; (case qqq => assumption); (case qXq => k_in); (case qFq => k_asm); (case qNq => k_asm); (case qxq => k_extra "tx"); k_whole; intro mt' mo' h' F' N' l1 l2; (try k_lt l1); (try k_lt2 l2); (try k_sweep))
  | (refine search_split ?_ ?_ <;> intros))))
  (k_with "truthy ref" => (k_here; k_dflt (refine' truthy_match ?qNq ?qqq ?_; (case qNq => k_asm); (case qqq => k_mem); k_whole)))
  (k_with "getMethod ref" => (k_here; k_dflt (refine' span_get ?qNq ?qqq ?_; (case qNq => k_asm); (case qqq => k_mem); k_whole)))
  (k_with "call builtin:re.Match.span" => (k_here; k_dflt (refine' span_call ?qFq ?qNq ?qqq ?quq ?_; (case qFq => k_asm); (case qNq => k_asm); (case qqq => k_mem); (case quq => k_mem); k_whole; intro a' h' t1' t2' tk' F' N' l1; (try k_lt l1); (try k_sweep))))
  (k_with "getAttr ref" => (k_here; (with_reducible show wpAny _ _ (getAttr (Value.ref _) (PySem.Str.ofString "string") _) _ _ _); k_dflt (refine' string_attr ?qNq ?qqq ?_; (case qNq => k_asm); (case qqq => k_mem); k_whole)))
  (k_with "enter9" => (refine' code_def ?qk1q ?qk2q ?qk3q ?qk4q ?qk5q ?qkAq ?qkFq ?qkKq ?qk6q ?qk7q ?qk8q ?qk9q ?qkBq ?_ ?qc2q ?qc3q ?qc4q ?qc5q; (case qkAq => exact rfl); (case qkFq => exact rfl); (case qkKq => first | exact rfl | assumption); (case qk1q => k_asm); (case qk2q => k_asm); (case qk3q => k_asm); (case qk4q => k_asm); (case qk5q => k_asm); (case qk6q => k_is); (case qk7q => k_is); (case qk8q => (first | omega | (dsimp only [Around.deeper, Around.in1, ktrTop]; omega) | ktr_room)); (case qk9q => first | exact BindsTo.of_eq rfl | exact binds_K (by k_in) rfl (by k_is) rfl rfl rfl); (case qc5q => decide); (case qkBq => exact locs rfl); (case qc2q => exact rfl); (case qc3q => exact rfl); (case qc4q => exact rfl); k_whole; intro g' L' h' FG' F' N' B' X' T'; (try dsimp only); (try k_lift B'); (try k_fold)))
  (k_with "ho9" => (intro y9 a9 b9; simp only [List.forall_mem_cons, List.forall_mem_nil, and_true] at b9; simp only [bsM, a9, b9, if_false]))
  (k_with "ne9" => ((try simp only [AllNe, and_true, ne_eq] at *); first | assumption | trivial | grind))
  (k_with "k_mem9w" => (with_reducible (refine List.mem_cons_of_mem _ ?_); k_mem))
  (k_with "getMethod none" => (k_dflt (refine' getMethod_none ?qhq ?_; (case qhq => exact rfl); k_whole); intro h' tk' e' hA'))
  (k_with "leaving ref" => (k_here; k_dflt ((rename Heap.NewAttrErr _ _ _ _ _ => naX); (refine' leave_newA ?qKq naX ?qFq ?qNq ?_; (case qKq => k_asm); (case qFq => k_asm); (case qNq => k_asm); k_whole)); intro h' R' R2' U'; (try dsimp only at R' R2' U' ⊢)))
  (k_with "enterS" => (refine' code_defS ?qk1q ?qk2q ?qk3q ?qk4q ?qk5q ?qXBq ?qTBq ?qDq ?qT0q ?qkAq ?qk6q ?qk7q ?qk8q ?qk9q ?qkBq ?_ ?qcKq ?qc2q ?qc3q ?qc4q ?qc5q; (case qkAq => exact rfl); (case qk2q => k_asm); (case qk1q => k_asm); (case qXBq => assumption); (case qTBq => assumption); (case qDq => assumption); (case qT0q => first | assumption | exact KtsTurn.refl); (case qk3q => k_asm); (case qk4q => k_asm); (case qk5q => k_asm); (case qk6q => k_is); (case qk7q => k_is); (case qk8q => (first | omega | (dsimp only [Around.deeper, Around.in1, ktrTop]; omega) | ktr_room)); (case qk9q => first | exact BindsTo.of_eq rfl | exact binds_K (by k_in) rfl (by k_is) rfl rfl rfl); (case qkBq => exact locs rfl); (case qcKq => first | exact rfl | assumption); (case qc2q => exact rfl); (case qc3q => exact rfl); (case qc4q => exact rfl); (case qc5q => decide); k_whole; intro g' L' h' FG' F' N' B' X' T' D'; (try dsimp only); (try k_lift B'); (try k_fold)))
  (k_with "call ref" => (k_here; (with_reducible show wpAny _ _ (call (Value.ref 45) [Value.none]) _ _ _); refine wpAny_call ?_; k_dflt (k_extra "enterS")))
  (k_with "getAttr ref" => (k_here; (with_reducible show wpAny _ _ (getAttr (Value.ref 45) _ _) _ _ _); k_dflt (refine' fname_K ?qFq ?qXq ?qeq ?qhnq ?qhzq ?_; (case qFq => k_asm); (case qXq => k_asm); (case qeq => k_is); (case qhnq => exact rfl); (case qhzq => size_fits); k_whole); intro _ _))
  (k_with "call ref" => (k_here; (with_reducible show wpAny _ _ (call (Value.ref 45) _) _ _ _); k_dflt (refine' Con.use (con_unm _ _ _ _ _ ?qxq ?qjq _ ?qlq ?ql2q) ?qBq ?qFq ?qXq ?qNq ?qTq ?qhkq ?qh1q ?qh2q ?_; (case qFq => k_asm); (case qNq => k_asm); (case qlq => with_reducible assumption); (case ql2q => with_reducible assumption); (case qxq => with_reducible assumption); (case qjq => (with_reducible assumption)); (case qBq => k_asm); (case qXq => k_asm); (case qTq => k_asm); (case qhkq => first | exact rfl | assumption); (case qh1q => (first | omega | (dsimp only [Around.deeper, Around.in1, ktrTop]; omega))); (case qh2q => (first | omega | (dsimp only [Around.deeper, Around.in1, ktrTop]; omega))); k_whole; intro t' h' tk' F' N'; (try k_sweep); (try dsimp only); (try k_fold))))
  have hx1 := hx.len
  unfold Con
  k_fill
  intro w mean mg mb dp un gd cn cs a ccd cl outer A₀ base h₀ L m s Q E B F X N T hk hd9 hu ret
  refine wpAny_call ?_
  k_dflt (k_extra "enter9")
  k_steps
  all_goals (refine' endS ret ?F ?N ?S ?e; (case F => k_asm); (case N => k_asm); (case S => first | exact fun _ h => h | (intro p hp; k_extra "sub7")); (case e => rfl))


end Mine
end

section
local macro_rules | `(tactic| omega) => `(tactic| lia)
open PySem PySem.W PyProof.Rows PySem.Calls PySem.Spec
set_option Elab.async false
set_option maxRecDepth 100000
set_option maxHeartbeats 4000000
namespace Mine
section
variable {prog : Program} {w : World} {A A₀ : Around} {base : Heap} {outer : List Env} {E : Value → Shared → Prop} {s : Shared} {env : Env} {g₀ h₀ : Heap} {x : Str} {px : Pos} {body : List Stmt} {Q : Flow → Shared → Prop} {fs : List Addr}
/-- what stands over the ground -/
structure Gr (K : Frag) (p : Program) (loose : List Str) (mean : ExcName → Option Value) (mg mb : Str → Option Value) (A₀ : Around) (base : Heap) (outer : List Env) (g₀ g : Heap) : Prop where
  t : KtsTurn (outer.filterMap (·.frame)) g₀ g
  b : Below A₀ base outer g
  x : K.In g
  p : Top p loose mean mg mb g
  d : KtsDicts (outer.filterMap (·.frame)) g
noncomputable def LP (G : Heap → Prop) (L : Addr) (J : (Str → Option Value) → List (Addr × Obj) → Prop) (I : Addr) (o : Obj) (s : Shared) (f : Flow) (s₂ : Shared) : Prop :=
  f = .next ∧ ∃ g h' tk m' nx news', s₂ = { s with heap := h', toks := tk } ∧ G g ∧ Fr g L h' m' ∧ News g L h' news' ∧ (∀ p ∈ nx, p ∈ news') ∧ (I, o) ∈ news' ∧ (∀ p ∈ nx, p.1 ≠ I) ∧ J m' nx
theorem peel_iter {G : Heap → Prop} {r : Addr} {n : Nat} {b : Int} {t u v : Tok} {m₀ : Str → Option Value} {news : List (Addr × Obj)} (J : Nat → (Str → Option Value) → List (Addr × Obj) → Prop)
    (hh : A.handled = none) (hr : IsRange s.heap r 0 b 1 t u v) (hn : b = n) (hsm : n ≤ 1000) (hx : env.kindOf x = some .local) (hp : (env.scope.kind == .class || (env.scope.kind == .module && env.locals != env.globals)) = false)
    (F : Fr h₀ env.locals s.heap m₀) (N : News h₀ env.locals s.heap news) (G0 : G h₀) (hG : ∀ g b, G g → h₀.get? b = none → g.get? b = none) (h0 : J 0 m₀ news)
    (turn : ∀ (i : Nat) u m₁ nx I o h tk g, i < n → J i m₁ nx → (∀ p ∈ nx, p.1 ≠ I) → G g → Fr g env.locals h (fun y => if y = x then some (.int (i : Int) u) else m₁ y) → News g env.locals h ((I, o) :: nx) →
      wpAny (model prog w) A (execs body env) (LP G env.locals (J (i + 1)) I o { s with heap := h, toks := tk }) E { s with heap := h, toks := tk })
    (done : ∀ g m₁ nx h tk, J n m₁ nx → G g → Fr g env.locals h m₁ → News g env.locals h nx → Q .next { s with heap := h, toks := tk })
    (hE : PassesOwn (model prog w) A env E := by passes_own) :
    wpAny (model prog w) A (pyIter (.ref r)) (fun it s₂ => codeAny (model prog w) A (.forLoop (.Name x px) it body [] env) (fun r s' => match r with | .ok f => Q f s' | .error e => cameBackBy (model prog w) A env E e s') s₂) E s := by
  subst hn
  have hsmall : Builtin.Range.small 0 (n : Int) 1 = true := small_one (by omega) (by omega) (by omega) (by omega)
  have hsz : Builtin.Range.rangeSize 0 (n : Int) 1 = (n : Int) := by
    unfold Builtin.Range.rangeSize
    rw [if_pos (by decide), Int.ediv_one]
    split <;> omega
  refine wpAny_pyIter_range hr hsmall ?_
  have hI₀ := next_is_new F
  have hLI : env.locals ≠ s.heap.objs.size := Nat.ne_of_lt F.ns.lt
  have W := Walks.range (prog := prog) (w := w) hh s.heap.objs.size 0 1 n
  refine codeAny_forLoop
    (fun k s' => ∃ h' tk m' nx g i, s' = { s with heap := h', toks := tk } ∧ IsRangeIter h' s.heap.objs.size (0 + ((i : Nat) : Int) * 1) ((n : Int) - ((i : Nat) : Int)) 1 ∧ G g ∧ Fr g env.locals h' m' ∧ News g env.locals h' nx ∧ (∀ p ∈ nx, p.1 ≠ s.heap.objs.size) ∧ J i m' nx ∧ i ≤ n ∧ k = n + 1 - i) ?_ (n + 1)
    ⟨_, s.toks, m₀, news, h₀, 0, rfl, ?_, G0, F.push _, (fun p hp => ⟨Heap.get?_push_of_some _ (N p hp).1, (N p hp).2⟩), (fun p hp => Nat.ne_of_lt (Heap.lt_size (N p hp).1)), h0, Nat.zero_le _, rfl⟩
  · rintro k s' ⟨h', tk, m', nx, g, i, rfl, hst, hGg, F', N', hne, hJ, hi, rfl⟩
    have hIg : g.get? s.heap.objs.size = none := hG _ _ hGg hI₀
    have next : ∀ h₁ : Heap, (∀ b o, b ∉ [s.heap.objs.size] → h'.get? b = some o → h₁.get? b = some o) → Fr g env.locals h₁ m' ∧ News g env.locals h₁ nx := fun h₁ hk₁ =>
      ⟨⟨F'.ns.at' fun o e => hk₁ _ o (by simpa using hLI) e, fun b o e => hk₁ b o (fun hb => by rw [List.mem_singleton.mp hb, hIg] at e; cases e) (F'.keep b o e), F'.above⟩, fun p hp => ⟨hk₁ _ _ (by simpa using hne p hp) (N' p hp).1, (N' p hp).2⟩⟩
    by_cases hlt : i < n
    · refine W.item i _ _ _ hlt hst fun v h₁ tk₁ hP hst₁ hk₁ => ?_
      obtain ⟨t9, rfl⟩ := hP
      obtain ⟨F₁, N₁⟩ := next h₁ hk₁
      refine wpAny_assign_Name (wpAny_storeName_local hx F₁.ns (fun h₂ hn₂ hs₂ => ?_) hp)
      have F₂ := F₁.set hn₂ hs₂
      have hst₂ : IsRangeIter h₂ s.heap.objs.size (0 + ((i + 1 : Nat) : Int) * 1) ((n : Int) - ((i + 1 : Nat) : Int)) 1 := W.frame _ _ _ hst₁ fun b hb o e => (hs₂.2 b fun q => hLI (by rw [← q]; exact List.mem_singleton.mp hb)).trans e
      have e1 : (0 + (i : Int) * 1) = (i : Int) := by omega
      rw [e1] at F₂
      have N₂ : News g env.locals h₂ ((s.heap.objs.size, _) :: nx) := fun p hp => by
        rcases List.mem_cons.mp hp with e | hp
        · rw [e]; exact ⟨hst₂, Ne.symm hLI, hIg⟩
        · exact (N₁.set hs₂) p hp
      refine wpAny_passesOwn hE (wpAny_mono (turn i _ m' nx _ _ h₂ _ g hlt hJ hne hGg F₂ N₂) (fun f s₃ p9 => ?_) fun _ _ e => e)
      obtain ⟨rfl, g₃, h₃, tk₃, m₃, nx₃, news₃, rfl, hG₃, F₃, N₃, hs₃, hI₃, hn₃, hJ₃⟩ := p9
      exact ⟨n + 1 - (i + 1), by omega, h₃, _, m₃, nx₃, g₃, i + 1, rfl, (N₃ _ hI₃).1, hG₃, F₃, (fun p hp => N₃ p (hs₃ p hp)), hn₃, hJ₃, hlt, rfl⟩
    · have hin : i = n := by omega
      subst hin
      refine W.done _ _ _ hst fun h₁ tk₁ hk₁ => wpAny_execs_nil ?_
      obtain ⟨F₁, N₁⟩ := next h₁ hk₁
      exact done g m' nx h₁ tk₁ hJ hGg F₁ N₁
  · have e1 : (0 : Int) + ((0 : Nat) : Int) * 1 = 0 := by omega
    have e2 : (n : Int) - ((0 : Nat) : Int) = n := by omega
    rw [hsz, e1, e2]
    exact Heap.get?_push_size _ rfl
end
end Mine
end

section
local macro_rules | `(tactic| omega) => `(tactic| lia)
open PySem PySem.W PyProof.Rows PySem.Calls
set_option Elab.async false
set_option maxRecDepth 100000
set_option maxHeartbeats 8000000
namespace Mine

theorem ConS.use {f : Addr} {vs : List Value} {news : List (Addr × Obj)} {D U : Nat} {v : Tok → Value} (C : ConS f vs news D U v)
    {w : World} {mean : ExcName → Option Value} {mg mb : Str → Option Value} {dp un : Nat} {gd : Option (List Code)} {cn : Str} {cs : Scope} {a : Addr} {ccd : Value} {outer : List Env} {A₀ : Around}
    {base g₀ h₀ : Heap} {L : Addr} {m : Str → Option Value} {s : Shared} {Q E : Value → Shared → Prop}
    (XB : (hd.heap_39 w.params).In base) (TB : Top vw looseV mean mg mb base) (B : Below A₀ base outer h₀) (F : Fr h₀ L s.heap m) (X : (hd.heap_39 w.params).In h₀) (N : News h₀ L s.heap news) (T : Top vw looseV mean mg mb h₀)
    (D9 : KtsDicts (outer.filterMap (·.frame)) h₀) (T0 : KtsTurn (outer.filterMap (·.frame)) g₀ h₀) (hk : cs.kind = .function) (h1 : dp + D < recursionLimit) (h2 : un + U < cLine)
    (r : ∀ (g' : Heap) (t : Tok) (h' : Heap) (tk' : Nat), KtsTurn (outer.filterMap (·.frame)) g₀ g' → Fr g' L h' m → News g' L h' news → Below A₀ base outer g' → (hd.heap_39 w.params).In g' → Top vw looseV mean mg mb g' → KtsDicts (outer.filterMap (·.frame)) g' → Q (v t) { s with heap := h', toks := tk' }) :
    wpAny (model PySem.Challenge.rw_xe0049_01.row.prog w) (ktrTop dp un gd cn cs L a ccd [] outer) (call (.ref f) vs) Q E s :=
  C w mean mg mb dp un gd cn cs a ccd outer A₀ base g₀ h₀ L m s Q E XB TB B F X N T D9 T0 hk h1 h2 r
noncomputable def failL : List Nat := Ls (Str.ofString "<end unmatched() failed>")
noncomputable def peel1 (l : List Nat) : List Nat := match srchL l with | some j => l.take j | none => failL
noncomputable def peelN (l : List Nat) : Nat → List Nat
  | 0 => l
  | k + 1 => peel1 (peelN l k)
noncomputable def peels (l : List Nat) (n : Nat) : List Str := (List.range n).map fun k => tx (peelN l (k + 1))
theorem peels_succ (l : List Nat) (n : Nat) : peels l (n + 1) = peels l n ++ [tx (peel1 (peelN l n))] := by
  unfold peels; rw [List.range_succ, List.map_append]; rfl
theorem fail_tx : Tx (tx failL) := ⟨by decide +kernel, by unfold Ok; decide +kernel⟩
theorem peel1_tx {l : List Nat} (h : Tx (tx l)) : Tx (tx (peel1 l)) := by
  unfold peel1
  split
  · exact ⟨Nat.le_trans (by rw [len_L, L_tx, len_L, L_tx]; exact List.length_take_le' _ _) h.1, by rw [L_tx]; exact fun c m => h.2 c (List.mem_of_mem_take m)⟩
  · exact fail_tx
theorem peelN_tx {l : List Nat} (h : Tx (tx l)) : ∀ n, Tx (tx (peelN l n))
  | 0 => h
  | n + 1 => peel1_tx (peelN_tx h n)
theorem peel1_some {y : Str} {j : Nat} (h : srchL (Ls y) = some j) : tx ((Ls y).take j) = tx (peel1 (Ls y)) := by unfold peel1; rw [h]
theorem peel1_none {y : Str} (h : srchL (Ls y) = none) : Str.ofString "<end unmatched() failed>" = tx (peel1 (Ls y)) := by unfold peel1; rw [h]; rfl
theorem srch_le : ∀ {l : List Nat} {j : Nat}, srchL l = some j → j ≤ l.length
  | [], j, h => by simp [srchL] at h
  | c :: r, j, h => by
    rw [srchL_cons] at h
    split at h
    · have := Option.some.inj h; omega
    · cases hq : srchL r with
      | none => rw [hq] at h; cases h
      | some k =>
        rw [hq] at h
        have h2 : k + 1 = j := Option.some.inj h
        have := srch_le hq
        rw [List.length_cons]; omega
noncomputable def PJ (l : Addr) (news : List (Addr × Obj)) (m₀ : Str → Option Value) (its : Array Value) (z : Str) (m₁ : Str → Option Value) (nx : List (Addr × Obj)) : Prop :=
  ∃ t t' k', nx = (l, PySem.W.listOf (its.push (.str z t')) k') :: news ∧ Has (Str.ofString "turn") m₁ m₀ [(Str.ofString "text", .str z t)]
theorem strs_push {its : Array Value} {ss : List Str} {z : Str} {t : Tok} (h : StrsAre its.toList ss) : StrsAre (its.push (.str z t)).toList (ss ++ [z]) := by
  rw [Array.toList_push]; exact kct_snoc h
section
variable {prog : Program} {w : World} {A A₀ : Around} {base : Heap} {outer : List Env} {E : Value → Shared → Prop} {s : Shared} {env : Env} {g₀ h₀ : Heap} {px : Pos} {body : List Stmt} {Q : Flow → Shared → Prop} {mean : ExcName → Option Value} {mg mb : Str → Option Value}
theorem peel_loop {r l : Addr} {n k0 : Nat} {b : Int} {t u v tt : Tok} {x : Str} {m₀ : Str → Option Value} {news : List (Addr × Obj)} (hx : Tx x)
    (hh : A.handled = none) (hr : IsRange s.heap r 0 b 1 t u v) (hn : b = n) (hsm : n ≤ 4) (hxx : env.kindOf (Str.ofString "turn") = some .local) (hp : (env.scope.kind == .class || (env.scope.kind == .module && env.locals != env.globals)) = false)
    (F : Fr h₀ env.locals s.heap m₀) (N : News h₀ env.locals s.heap ((l, PySem.W.listOf #[] k0) :: news)) (hne : ∀ p ∈ news, p.1 ≠ l) (hm : m₀ (Str.ofString "text") = some (.str x tt))
    (B : Below A₀ base outer h₀) (X : (hd.heap_39 w.params).In h₀) (P : Top vw looseV mean mg mb h₀) (D : KtsDicts (outer.filterMap (·.frame)) h₀)
    (turn : ∀ (i : Nat) u y t (its : Array Value) k I o h tk g, Tx y → its.size ≤ sizeLine → (∀ p ∈ news, p.1 ≠ l) → (@Ne Nat l I) → AllNe I news →
      KtsTurn (outer.filterMap (·.frame)) h₀ g → Below A₀ base outer g → (hd.heap_39 w.params).In g → Top vw looseV mean mg mb g → KtsDicts (outer.filterMap (·.frame)) g →
      Fr g env.locals h (bsM [(Str.ofString "turn", .int (i : Int) u), (Str.ofString "text", .str y t)] m₀) → News g env.locals h ((I, o) :: (l, PySem.W.listOf its k) :: news) →
      wpAny (model prog w) A (execs body env) (LP (Gr (hd.heap_39 w.params) vw looseV mean mg mb A₀ base outer h₀) env.locals (PJ l news m₀ its (tx (peel1 (Ls y)))) I o { s with heap := h, toks := tk }) E { s with heap := h, toks := tk })
    (done : ∀ g (z : Str → Option Value) t (its : Array Value) k h tk, StrsAre its.toList (peels (Ls x) n) →
      KtsTurn (outer.filterMap (·.frame)) h₀ g → Below A₀ base outer g → (hd.heap_39 w.params).In g → Top vw looseV mean mg mb g → KtsDicts (outer.filterMap (·.frame)) g →
      Fr g env.locals h (fun y => if y = Str.ofString "turn" then z y else bsM [(Str.ofString "text", .str (tx (peelN (Ls x) n)) t)] m₀ y) → News g env.locals h ((l, PySem.W.listOf its k) :: news) → Q .next { s with heap := h, toks := tk })
    (hE : PassesOwn (model prog w) A env E := by passes_own) :
    wpAny (model prog w) A (pyIter (.ref r)) (fun it s₂ => codeAny (model prog w) A (.forLoop (.Name (Str.ofString "turn") px) it body [] env) (fun r s' => match r with | .ok f => Q f s' | .error e => cameBackBy (model prog w) A env E e s') s₂) E s := by
  refine peel_iter (G := Gr (hd.heap_39 w.params) vw looseV mean mg mb A₀ base outer h₀)
    (fun i m₁ nx => ∃ t its k, nx = (l, PySem.W.listOf its k) :: news ∧ StrsAre its.toList (peels (Ls x) i) ∧ Has (Str.ofString "turn") m₁ m₀ [(Str.ofString "text", .str (tx (peelN (Ls x) i)) t)])
    hh hr hn (by omega) hxx hp F N ⟨.refl, B, X, P, D⟩ (fun g b hg hb => hg.t.none_ b hb) ⟨tt, #[], k0, rfl, .nil, has_of (fa_cons hm fa_nil) fun _ _ _ => rfl⟩ ?_ ?_ hE
  · rintro i u m₁ nx I o h tk g hi ⟨t, its, k, rfl, hS, hH⟩ hne' hG F₁ N₁
    have hsz : its.size ≤ sizeLine := by
      have h1 := hS.length
      rw [Array.length_toList] at h1
      unfold peels at h1
      rw [List.length_map, List.length_range] at h1
      have : sizeLine = 2 ^ 24 := by rfl
      omega
    have hne9 := allNe_of hne'
    refine wpAny_mono (turn i u _ t its k I o h tk g (peelN_tx (l := Ls x) hx i) hsz hne hne9.1 hne9.2 hG.t hG.b hG.x hG.p hG.d (hH.fr F₁) N₁) (fun f s₂ p9 => ?_) fun _ _ e => e
    obtain ⟨rfl, g₃, h₃, tk₃, m₃, nx₃, news₃, rfl, hG₃, F₃, N₃, hs₃, hI₃, hn₃, t3, t4, k3, rfl, hH3⟩ := p9
    refine ⟨rfl, g₃, h₃, tk₃, m₃, _, news₃, rfl, hG₃, F₃, N₃, hs₃, hI₃, hn₃, t3, _, k3, rfl, ?_, hH3⟩
    rw [peels_succ]; exact strs_push hS
  · rintro g m₁ nx h tk ⟨t, its, k, rfl, hS, hH⟩ hG F₁ N₁
    exact done g m₁ t its k h tk hS hG.t hG.b hG.x hG.p hG.d (hH.out F₁) N₁
theorem lp_end {l L I : Addr} {news news' : List (Addr × Obj)} {m₀ m' : Str → Option Value} {its : Array Value} {z z' z2 : Str} {t t' : Tok} {k' : Nat} {o : Obj} {h' g : Heap} {tk : Nat}
    (F : Fr g L h' m') (N : News g L h' news') (T : KtsTurn (outer.filterMap (·.frame)) h₀ g) (B : Below A₀ base outer g) (X : (hd.heap_39 w.params).In g) (P : Top vw looseV mean mg mb g) (D : KtsDicts (outer.filterMap (·.frame)) g)
    (hm : (l, PySem.W.listOf (its.push (.str z' t')) k') ∈ news') (hi : (I, o) ∈ news') (hb : ∀ p ∈ news, p ∈ news') (hne : l ≠ I) (hn : AllNe I news) (e1 : m' (Str.ofString "text") = some (.str z2 t)) (ho : ∀ y, y ≠ Str.ofString "turn" → y ≠ Str.ofString "text" → m' y = m₀ y) (hz : z' = z) (hz2 : z2 = z) :
    LP (Gr (hd.heap_39 w.params) vw looseV mean mg mb A₀ base outer h₀) L (PJ l news m₀ its z) I o s .next { s with heap := h', toks := tk } := by
  subst hz hz2
  refine ⟨rfl, g, h', tk, m', (l, PySem.W.listOf (its.push (.str _ t')) k') :: news, news', rfl, ⟨T, B, X, P, D⟩, F, N, List.forall_mem_cons.mpr ⟨hm, hb⟩, hi, ?_, t, t', k', rfl, has_of (fa_cons e1 fa_nil) fun y hy hp => ho y hy (hp _ List.mem_cons_self)⟩
  exact List.forall_mem_cons.mpr ⟨hne, hn.all⟩
end


theorem con_peeled (x : Str) (t u : Tok) (n : Nat) (hx : Tx x) (hn : n ≤ 4) (news : List (Addr × Obj)) : ∀ (w : World) (mean : ExcName → Option Value) (mg mb : Str → Option Value) (dp un : Nat) (gd : Option (List Code)) (cn : Str) (cs : Scope) (a : Addr) (ccd : Value) (A₀ : Around)
    (base h₀ : Heap) (L : Addr) (m : Str → Option Value) (s : Shared) (Q E : Value → Shared → Prop),
    (hd.heap_39 w.params).In base → Top vw looseV mean mg mb base → Below A₀ base [] h₀ → Fr h₀ L s.heap m → (hd.heap_39 w.params).In h₀ → News h₀ L s.heap news → Top vw looseV mean mg mb h₀ → cs.kind = .function → dp + 12 < recursionLimit → un + 100 < cLine →
    (∀ (l : Addr) (its : Array Value) (k : Nat) (h' : Heap) (tk' : Nat), Fr h₀ L h' m → News h₀ L h' ((l, PySem.W.listOf its k) :: news) → StrsAre its.toList (peels (Ls x) n) → Q (.ref l) { s with heap := h', toks := tk' }) →
    wpAny (model PySem.Challenge.rw_xe0049_01.row.prog w) (ktrTop dp un gd cn cs L a ccd [] []) (call (.ref 197) [.str x t, .int (n : Int) u]) Q E s := by
  k_with_none
  (k_with "ho7" => first | (refine (if_neg (by assumption)).trans ?_; (k_extra "ho7")) | exact rfl)
  (k_with "sub7" => first | (with_reducible exact hp) | (refine List.mem_cons_of_mem _ ?_; (k_extra "sub7")) | (simp only [List.mem_cons, List.mem_append, hp, or_true, true_or]))
  (k_with "tx" => first | with_reducible assumption | with_reducible exact Tx.lower (by k_extra "tx") | with_reducible exact Tx.upper (by k_extra "tx") | with_reducible exact Tx.slice (by k_extra "tx") _ _)
  (k_with "getMethod ref" => (k_here; (with_reducible show wpAny _ _ (getMethod (Value.ref 50) _ _) _ _ _); k_dflt (refine' search_get ?qXq ?_; (case qXq => k_in); k_whole)))
  (k_with "call builtin:re.Pattern.search" => (k_here; k_dflt (first
  | (refine' search_none ?qqq ?qXq ?qFq ?qNq ?qxq ?_; (case qqq => assumption); (case qXq => k_in); (case qFq => k_asm); (case qNq => k_asm); (case qxq => k_extra "tx"); k_whole)
  | (refine' search_some ?qqq ?qXq ?qFq ?qNq ?qxq ?_; (case qqq => assumption); (case qXq => k_in); (case qFq => k_asm); (case qNq => k_asm); (case qxq => k_extra "tx"); k_whole; intro mt' mo' h' F' N' l1 l2; (try k_lt l1); (try k_lt2 l2); (try k_sweep))
  | (refine search_split ?_ ?_ <;> intros))))
  (k_with "truthy ref" => (k_here; k_dflt (refine' truthy_match ?qNq ?qqq ?_; (case qNq => k_asm); (case qqq => k_mem); k_whole)))
  (k_with "getMethod ref" => (k_here; k_dflt (refine' span_get ?qNq ?qqq ?_; (case qNq => k_asm); (case qqq => k_mem); k_whole)))
  (k_with "call builtin:re.Match.span" => (k_here; k_dflt (refine' span_call ?qFq ?qNq ?qqq ?quq ?_; (case qFq => k_asm); (case qNq => k_asm); (case qqq => k_mem); (case quq => k_mem); k_whole; intro a' h' t1' t2' tk' F' N' l1; (try k_lt l1); (try k_sweep))))
  (k_with "getAttr ref" => (k_here; (with_reducible show wpAny _ _ (getAttr (Value.ref _) (PySem.Str.ofString "string") _) _ _ _); k_dflt (refine' string_attr ?qNq ?qqq ?_; (case qNq => k_asm); (case qqq => k_mem); k_whole)))
  (k_with "enter9" => (refine' code_def ?qk1q ?qk2q ?qk3q ?qk4q ?qk5q ?qkAq ?qkFq ?qkKq ?qk6q ?qk7q ?qk8q ?qk9q ?qkBq ?_ ?qc2q ?qc3q ?qc4q ?qc5q; (case qkAq => exact rfl); (case qkFq => exact rfl); (case qkKq => first | exact rfl | assumption); (case qk1q => k_asm); (case qk2q => k_asm); (case qk3q => k_asm); (case qk4q => k_asm); (case qk5q => k_asm); (case qk6q => k_is); (case qk7q => k_is); (case qk8q => (first | omega | (dsimp only [Around.deeper, Around.in1, ktrTop]; omega) | ktr_room)); (case qk9q => first | exact BindsTo.of_eq rfl | exact binds_K (by k_in) rfl (by k_is) rfl rfl rfl); (case qc5q => decide); (case qkBq => exact locs rfl); (case qc2q => exact rfl); (case qc3q => exact rfl); (case qc4q => exact rfl); k_whole; intro g' L' h' FG' F' N' B' X' T'; (try dsimp only); (try k_lift B'); (try k_fold)))
  (k_with "ho9" => (intro y9 a9 b9; simp only [List.forall_mem_cons, List.forall_mem_nil, and_true] at b9; simp only [bsM, a9, b9, if_false]))
  (k_with "ne9" => ((try simp only [AllNe, and_true, ne_eq] at *); first | assumption | trivial | grind))
  (k_with "k_mem9w" => (with_reducible (refine List.mem_cons_of_mem _ ?_); k_mem))
  (k_with "enterS0" => (refine' code_defS0 ?qk1q ?qk2q ?qk3q ?qk4q ?qk5q ?qkAq ?qk6q ?qk7q ?qk8q ?qk9q ?qkBq ?_ ?qcKq ?qc2q ?qc3q ?qc4q ?qc5q; (case qkAq => exact rfl); (case qk2q => k_asm); (case qk1q => k_asm); (case qk3q => k_asm); (case qk4q => k_asm); (case qk5q => k_asm); (case qk6q => k_is); (case qk7q => k_is); (case qk8q => (first | omega | (dsimp only [Around.deeper, Around.in1, ktrTop]; omega) | ktr_room)); (case qk9q => first | exact BindsTo.of_eq rfl | exact binds_K (by k_in) rfl (by k_is) rfl rfl rfl); (case qkBq => exact locs rfl); (case qcKq => first | exact rfl | assumption); (case qc2q => exact rfl); (case qc3q => exact rfl); (case qc4q => exact rfl); (case qc5q => decide); k_whole; intro g' L' h' FG' F' N' B' X' T' D'; (try dsimp only); (try k_lift B'); (try k_fold)))
  (k_with "exec For Name Call cons nil" => (k_here; k_dflt (refine wpAny_For ?_); k_whole))
  (k_with "pyIter ref" => (k_here; k_dflt (refine' peel_loop ?qhxq ?qhhq ?qhrq ?qhnq ?qhsmq ?qhxxq ?qhpq ?qFq ?qNq ?qhneq ?qhmq ?qBq ?qXq ?qPq ?qDq ?_ ?_; (case qFq => k_asm); (case qNq => k_asm); (case qhmq => exact rfl); (case qhxq => with_reducible assumption); (case qhhq => exact rfl); (case qhrq => assumption); (case qhnq => rfl); (case qhsmq => omega); (case qhxxq => exact rfl); (case qhpq => exact rfl); (case qhneq => exact ne_allLt (allLt_of (by assumption))); (case qBq => k_asm); (case qXq => k_asm); (case qPq => k_asm); (case qDq => k_asm)); (all_goals intros); (all_goals (try k_sweep)); (all_goals (try k_fold))))
  (k_with "LP" => (k_here; k_dflt (refine' lp_end ?qFq ?qNq ?qTq ?qBq ?qXq ?qPq ?qDq ?qhmq ?qhiq ?qhbq ?qhneq ?qhnq ?qe1q ?qhoq ?qhzq ?qhz2q; (case qFq => k_asm); (case qNq => k_asm); (case qTq => assumption); (case qBq => assumption); (case qXq => assumption); (case qPq => assumption); (case qDq => assumption); (case qhmq => k_mem); (case qhiq => k_mem); (case qhbq => (intro p hp; k_extra "sub7")); (case qhneq => k_ne); (case qhnq => assumption); (case qe1q => exact rfl); (case qhoq => (intro y a b; k_extra "ho7")); (case qhzq => first | exact peel1_some (by assumption) | exact peel1_none (by assumption)); (case qhz2q => first | exact peel1_some (by assumption) | exact peel1_none (by assumption)))))
  (k_with "k_all9w" => with_reducible assumption)
  (k_with "call builtin:list.append" => (k_here; k_dflt (refine' append_K ?qk1q ?qk2q ?qk3q ?_ ?qzq; (case qk1q => k_asm); (case qk2q => k_asm); (case qk3q => k_upd); (case qzq => (first | assumption | size_fits)); k_whole); intro h' F' N'; (try k_sweep)))
  (k_with "call ref" => (k_here; (with_reducible show wpAny _ _ (call (Value.ref 159) [Value.none, _, _]) _ _ _); k_dflt (refine' ConS.use (con_safe0 _ _) ?qXBq ?qTBq ?qBq ?qFq ?qXq ?qNq ?qTq ?qD9q ?qT0q ?qhkq ?qh1q ?qh2q ?_; (case qFq => k_asm); (case qNq => k_asm); (case qBq => k_asm); (case qXq => k_asm); (case qTq => k_asm); (case qXBq => assumption); (case qTBq => assumption); (case qD9q => assumption); (case qT0q => first | assumption | exact KtsTurn.refl); (case qhkq => first | exact rfl | assumption); (case qh1q => (first | omega | (dsimp only [Around.deeper, Around.in1, ktrTop]; omega))); (case qh2q => (first | omega | (dsimp only [Around.deeper, Around.in1, ktrTop]; omega))); k_whole; intro g' t' h' tk' T' F' N' B' X' P' D'; (try k_lift B'); (try k_sweep); (try dsimp only); (try k_fold))))
  (k_with "call ref" => (k_here; (with_reducible show wpAny _ _ (call (Value.ref 159) _) _ _ _); k_dflt (refine' Con.use (con_safe1 _ _ _ _ _ _ ?qxq ?qjq _ ?qlq ?ql2q) ?qBq ?qFq ?qXq ?qNq ?qTq ?qhkq ?qh1q ?qh2q ?_; (case qFq => k_asm); (case qNq => k_asm); (case qlq => k_mem); (case ql2q => k_mem); (case qxq => k_extra "tx"); (case qjq => exact srch_le (by assumption)); (case qBq => k_asm); (case qXq => k_asm); (case qTq => k_asm); (case qhkq => first | exact rfl | assumption); (case qh1q => (first | omega | (dsimp only [Around.deeper, Around.in1, ktrTop]; omega))); (case qh2q => (first | omega | (dsimp only [Around.deeper, Around.in1, ktrTop]; omega))); k_whole; intro t' h' tk' F' N'; (try k_sweep); (try dsimp only); (try k_fold))))
  k_fill
  intro w mean mg mb dp un gd cn cs a ccd A₀ base h₀ L m s Q E XB TB B F X N T hk hd9 hu ret
  have hx1 := hx.len
  refine wpAny_call ?_
  k_dflt (k_extra "enterS0")
  k_steps
  all_goals (refine' ret _ _ _ _ _ ?F ?N ?S; (case F => k_asm); (case N => k_asm); (case S => assumption))

end Mine
end

section
local macro_rules | `(tactic| omega) => `(tactic| lia)
open PySem PySem.W PyProof.Rows PySem.Calls PySem.Spec
set_option Elab.async false
set_option maxRecDepth 100000
set_option maxHeartbeats 4000000
namespace Mine
/-- a test's end, a turn's end -/
noncomputable def WE (h₀ : Heap) (L : Addr) (s : Shared) (K : (Str → Option Value) → List (Addr × Obj) → Prop) (s₂ : Shared) : Prop :=
  ∃ h tk m' nx news', s₂ = { s with heap := h, toks := tk } ∧ Fr h₀ L h m' ∧ News h₀ L h news' ∧ (∀ p ∈ nx, p ∈ news') ∧ K m' nx
noncomputable def WB (h₀ : Heap) (L : Addr) (s : Shared) (K : (Str → Option Value) → List (Addr × Obj) → Prop) (f : Flow) (s₂ : Shared) : Prop := f = .next ∧ WE h₀ L s K s₂
section
variable {prog : Program} {w : World} {A : Around} {E : Value → Shared → Prop} {s : Shared} {env : Env} {h₀ : Heap} {Q : Flow → Shared → Prop}
/-- a while loop that changes one int -/
theorem while_int {nm : Str} {test : Expr} {body : List Stmt} {pos : Pos} {m₀ : Str → Option Value} {news : List (Addr × Obj)} {L : Addr} {t0 : Tok} (val : Nat → Int) (bound : Nat) (S T : Nat → Prop)
    (F : Fr h₀ L s.heap m₀) (N : News h₀ L s.heap news) (h0 : S 0) (hm : m₀ nm = some (.int (val 0) t0)) (hb : ∀ k, S k → k ≤ bound)
    (turn : ∀ k t h tk, S k → Fr h₀ L h (bsM [(nm, .int (val k) t)] m₀) → News h₀ L h news →
      wpAny (model prog w) A (isTrue test env (eval test env)) (fun b s₂ => if b = true
        then wpAny (model prog w) A (execs body env) (WB h₀ L { s with heap := h, toks := tk } (fun m' nx => news = nx ∧ ∃ t, (∀ y, m' y = bsM [(nm, .int (val (k + 1)) t)] m₀ y) ∧ S (k + 1))) E s₂
        else WE h₀ L { s with heap := h, toks := tk } (fun m' nx => news = nx ∧ ∃ t, (∀ y, m' y = bsM [(nm, .int (val k) t)] m₀ y) ∧ T k) s₂) E { s with heap := h, toks := tk })
    (done : ∀ k t h tk, T k → Fr h₀ L h (bsM [(nm, .int (val k) t)] m₀) → News h₀ L h news → Q .next { s with heap := h, toks := tk })
    (hE : PassesOwn (model prog w) A env E := by passes_own) :
    wpAny (model prog w) A (exec (.While test body [] pos) env) Q E s := by
  refine While_inv2 (J := fun n m₁ nx => news = nx ∧ ∃ k t, n + k = bound ∧ (∀ y, m₁ y = bsM [(nm, .int (val k) t)] m₀ y) ∧ S k) (n₀ := bound) F N ⟨rfl, 0, t0, rfl, ?_, h0⟩ ?_ hE
  · intro y
    show m₀ y = if y = nm then _ else m₀ y
    split
    · rename_i e; rw [e]; exact hm
    · rfl
  · rintro n m₁ nx h₁ tk₁ F₁ N₁ ⟨rfl, k, t, hn, hm₁, hS⟩
    have e1 : m₁ = bsM [(nm, .int (val k) t)] m₀ := funext hm₁
    rw [e1] at F₁
    refine wpAny_mono (turn k t h₁ tk₁ hS F₁ N₁) (fun b s₂ h₂ => ?_) fun _ _ e => e
    cases b with
    | false =>
      simp only [Bool.false_eq_true, if_false] at h₂ ⊢
      obtain ⟨h, tk, m', nx, news', rfl, F', N', hs, rfl, t', hm', hT⟩ := h₂
      have e2 : m' = bsM [(nm, .int (val k) t')] m₀ := funext hm'
      rw [e2] at F'
      exact done k t' h tk hT F' fun p hp => N' p (hs p hp)
    | true =>
      simp only [if_true] at h₂ ⊢
      refine wpAny_mono h₂ (fun f s₃ h₃ => ?_) fun _ _ e => e
      obtain ⟨rfl, h, tk, m', nx, news', rfl, F', N', hs, rfl, t', hm', hS'⟩ := h₃
      have := hb _ hS'
      exact ⟨h, tk, m', _, n - 1, rfl, F', (fun p hp => N' p (hs p hp)), by omega, rfl, k + 1, t', by omega, hm', hS'⟩
theorem we_end {h' : Heap} {L : Addr} {m' m₀ : Str → Option Value} {news news' : List (Addr × Obj)} {nm : Str} {i : Int} {t : Tok} {P : Prop} {tk : Nat}
    (F : Fr h₀ L h' m') (N : News h₀ L h' news') (hs : ∀ p ∈ news, p ∈ news') (e1 : m' nm = some (.int i t)) (ho : ∀ y, y ≠ nm → m' y = m₀ y) {j : Int} (hj : i = j) (hP : P) :
    WE h₀ L s (fun m' nx => news = nx ∧ ∃ t, (∀ y, m' y = bsM [(nm, .int j t)] m₀ y) ∧ P) { s with heap := h', toks := tk } := by
  subst hj
  refine ⟨h', tk, m', news, news', rfl, F, N, hs, rfl, t, fun y => ?_, hP⟩
  show m' y = if y = nm then _ else m₀ y
  split
  · rename_i e; rw [e]; exact e1
  · rename_i e; exact ho y e
theorem wb_end {h' : Heap} {L : Addr} {m' m₀ : Str → Option Value} {news news' : List (Addr × Obj)} {nm : Str} {i : Int} {t : Tok} {P : Prop} {tk : Nat}
    (F : Fr h₀ L h' m') (N : News h₀ L h' news') (hs : ∀ p ∈ news, p ∈ news') (e1 : m' nm = some (.int i t)) (ho : ∀ y, y ≠ nm → m' y = m₀ y) {j : Int} (hj : i = j) (hP : P) :
    WB h₀ L s (fun m' nx => news = nx ∧ ∃ t, (∀ y, m' y = bsM [(nm, .int j t)] m₀ y) ∧ P) .next { s with heap := h', toks := tk } := ⟨rfl, we_end F N hs e1 ho hj hP⟩
end
end Mine
end

section
local macro_rules | `(tactic| omega) => `(tactic| lia)
open PySem PySem.W PyProof.Rows PySem.Calls
set_option Elab.async false
set_option maxRecDepth 100000
set_option maxHeartbeats 8000000
namespace Mine

noncomputable def subL (x y : List Nat) : Int := if x = y then 0 else if x.map lo1 = y.map lo1 then 1 else 2
theorem sub_eq {x y : Str} (h : (x == y) = true) : (0 : Int) = subL (Ls x) (Ls y) := by
  rw [beq_L, beq_iff_eq] at h
  unfold subL; rw [if_pos h]
theorem sub_case {x y : Str} (hx : Tx x) (hy : Tx y) (h : (x == y) = false) (h2 : (Txt.lower x == Txt.lower y) = true) : (1 : Int) = subL (Ls x) (Ls y) := by
  rw [beq_L, beq_eq_false_iff_ne] at h
  rw [beq_L, beq_iff_eq, L_lower hx.2, L_lower hy.2] at h2
  unfold subL; rw [if_neg h, if_pos h2]
theorem sub_ne {x y : Str} (hx : Tx x) (hy : Tx y) (h : (x == y) = false) (h2 : (Txt.lower x == Txt.lower y) = false) : (2 : Int) = subL (Ls x) (Ls y) := by
  rw [beq_L, beq_eq_false_iff_ne] at h
  rw [beq_L, beq_eq_false_iff_ne, L_lower hx.2, L_lower hy.2] at h2
  unfold subL; rw [if_neg h, if_neg h2]
theorem con_sub (x y : Str) (t u : Tok) (hx : Tx x) (hy : Tx y) (news : List (Addr × Obj)) : Con 166 [.str x t, .str y u] news 4 20 (RetV news fun u => .int (subL (Ls x) (Ls y)) u) := by
  k_with_none
  (k_with "exec Assign" => k_fold)
  (k_with "exec If" => k_fold)
  (k_with "exec While" => k_fold)
  (k_with "exec For" => k_fold)
  (k_with "storeName" => (k_here; k_dflt ((refine' storeM ?qFq ?qNq ?_ ?qaq ?qbq; (case qFq => k_asm); (case qNq => k_asm); (case qaq => rfl); (case qbq => rfl); k_whole; intro h' tk m₁ F' N'; (try k_sweep)))))
  (k_with "sub7" => first | (with_reducible exact hp) | (refine List.mem_cons_of_mem _ ?_; (k_extra "sub7")) | (simp only [List.mem_cons, List.mem_append, hp, or_true, true_or]))
  (k_with "tx" => first | with_reducible assumption | with_reducible exact Tx.lower (by k_extra "tx") | with_reducible exact Tx.upper (by k_extra "tx") | with_reducible exact Tx.slice (by k_extra "tx") _ _)
  (k_with "getMethod ref" => (k_here; (with_reducible show wpAny _ _ (getMethod (Value.ref 50) _ _) _ _ _); k_dflt (refine' search_get ?qXq ?_; (case qXq => k_in); k_whole)))
  (k_with "call builtin:re.Pattern.search" => (k_here; k_dflt (first
  | (refine' search_none ?qqq ?qXq ?qFq ?qNq ?qxq ?_; (case qqq => assumption); (case qXq => k_in); (case qFq => k_asm); (case qNq => k_asm); (case qxq => k_extra "tx"); k_whole)
  | (refine' search_some ?qqq ?qXq ?qFq ?qNq ?qxq ?_; (case qqq => assumption); (case qXq => k_in); (case qFq => k_asm); (case qNq => k_asm); (case qxq => k_extra "tx"); k_whole; intro mt' mo' h' F' N' l1 l2; (try k_lt l1); (try k_lt2 l2); (try k_sweep))
  | (refine search_split ?_ ?_ <;> intros))))
  (k_with "truthy ref" => (k_here; k_dflt (refine' truthy_match ?qNq ?qqq ?_; (case qNq => k_asm); (case qqq => k_mem); k_whole)))
  (k_with "getMethod ref" => (k_here; k_dflt (refine' span_get ?qNq ?qqq ?_; (case qNq => k_asm); (case qqq => k_mem); k_whole)))
  (k_with "call builtin:re.Match.span" => (k_here; k_dflt (refine' span_call ?qFq ?qNq ?qqq ?quq ?_; (case qFq => k_asm); (case qNq => k_asm); (case qqq => k_mem); (case quq => k_mem); k_whole; intro a' h' t1' t2' tk' F' N' l1; (try k_lt l1); (try k_sweep))))
  (k_with "getAttr ref" => (k_here; (with_reducible show wpAny _ _ (getAttr (Value.ref _) (PySem.Str.ofString "string") _) _ _ _); k_dflt (refine' string_attr ?qNq ?qqq ?_; (case qNq => k_asm); (case qqq => k_mem); k_whole)))
  (k_with "enter9" => (refine' code_m ?qk1q ?qk2q ?qk3q ?qk4q ?qk5q ?qkAq ?qkFq ?qkKq ?qk6q ?qk7q ?qk8q ?qk9q ?qkBq ?_ ?qc2q ?qc3q ?qc4q ?qc5q; (case qkAq => exact rfl); (case qkFq => exact rfl); (case qkKq => first | exact rfl | assumption); (case qk1q => k_asm); (case qk2q => k_asm); (case qk3q => k_asm); (case qk4q => k_asm); (case qk5q => k_asm); (case qk6q => k_is); (case qk7q => k_is); (case qk8q => (first | omega | (dsimp only [Around.deeper, Around.in1, ktrTop]; omega) | ktr_room)); (case qk9q => first | exact BindsTo.of_eq rfl | exact binds_K (by k_in) rfl (by k_is) rfl rfl rfl); (case qc5q => decide); (case qkBq => exact locs rfl); (case qc2q => exact rfl); (case qc3q => exact rfl); (case qc4q => exact rfl); k_whole; intro g' L' h' tk' FG' m' F' N' B' X' T'; (try dsimp only); (try k_lift B'); (try k_fold)))
  (k_with "ho9" => (intro y9 a9 b9; simp only [List.forall_mem_cons, List.forall_mem_nil, and_true] at b9; simp only [bsM, a9, b9, if_false]))
  (k_with "ne9" => ((try simp only [AllNe, and_true, ne_eq] at *); first | assumption | trivial | grind))
  (k_with "k_mem9w" => (with_reducible (refine List.mem_cons_of_mem _ ?_); k_mem))
  have hx1 := hx.len
  have hy1 := hy.len
  unfold Con
  k_fill
  intro w mean mg mb dp un gd cn cs a ccd cl outer A₀ base h₀ L m s Q E B F X N T hk hd9 hu ret
  refine wpAny_call ?_
  k_dflt (k_extra "enter9")
  k_steps
  all_goals (refine' endI ret ?F ?N ?S ?e; (case F => k_asm); (case N => k_asm); (case S => first | exact fun _ h => h | (intro p hp; k_extra "sub7")); (case e => first | exact sub_eq (by assumption) | exact sub_case hx hy (by assumption) (by assumption) | exact sub_ne hx hy (by assumption) (by assumption)))


end Mine
end

section
local macro_rules | `(tactic| omega) => `(tactic| lia)
open PySem PySem.W PyProof.Rows PySem.Calls PySem.Spec
set_option Elab.async false
set_option maxRecDepth 100000
set_option maxHeartbeats 4000000
namespace Mine
noncomputable def orNone (p : Int) (t : Tok) : Value := if p = 0 then .none else .int p t
noncomputable def cutT (x : Str) (p : Int) : Str := if p = 0 then Txt.slice x none none else Txt.slice x none (some p)
theorem L_cutT {x : Str} {q : Nat} (h : q ≤ (Ls x).length) : Ls (cutT x (-(q : Int))) = (Ls x).take ((Ls x).length - q) := by
  unfold cutT
  by_cases hq : q = 0
  · subst hq
    rw [if_pos (by rfl), L_all, Nat.sub_zero, List.take_length]
  · rw [if_neg (by omega), L_to_neg (by omega) (by omega)]
    congr 1; omega
theorem cutT_len {x : Str} {p : Int} (h0 : p ≤ 0) (h1 : -p ≤ (x.length : Int)) : ((cutT x p).length : Int) = x.length + p := by
  have := L_cutT (x := x) (q := (-p).toNat) (by rw [← len_L]; omega)
  rw [show (-(((-p).toNat : Nat) : Int)) = p by omega] at this
  rw [len_L, this, List.length_take, ← len_L]; omega
theorem Tx.cut {x : Str} (h : Tx x) (p : Int) : Tx (cutT x p) := by
  unfold cutT; split
  · exact h.slice _ _
  · exact h.slice _ _
section
variable {prog : Program} {w : World} {A : Around} {E : Value → Shared → Prop} {s : Shared} {env : Env} {h₀ : Heap} {L : Addr} {m : Str → Option Value} {news : List (Addr × Obj)}
theorem or_none {e : Expr} {k : Nat} {p4 pos : Pos} {Q : Value → Shared → Prop} (h : wpAny (model prog w) A (eval e env) (fun v s₁ => match v with | .int p t => Q (orNone p t) s₁ | _ => False) E s) :
    wpAny (model prog w) A (eval (.BoolOp .Or [e, .Constant .none k p4] pos) env) Q E s := by
  refine BoolOp_or (wpAny_mono h (fun v s₁ h₁ => ?_) fun _ _ e => e)
  split at h₁
  case h_2 => exact h₁.elim
  rename_i p t
  have hQ := h₁
  unfold orNone at hQ
  by_cases hp : p = 0
  · subst hp
    rw [if_pos rfl] at hQ
    refine truthy_int ?_
    simp only [bne_self_eq_false, Bool.false_eq_true, if_false]
    refine BoolOp_one ?_
    exact wpAny_Constant_none hQ
  · rw [if_neg hp] at hQ
    refine truthy_int ?_
    rw [if_pos (bne_iff_ne.mpr hp)]
    exact hQ
theorem slice_or {x : Str} {t : Tok} {value slice : Expr} {p : Int} {uj : Tok} {Q : Value → Shared → Prop} (hF : Fr h₀ L s.heap m) (hN : News h₀ L s.heap news)
    (h : ∀ h' t' k, Fr h₀ L h' m → News h₀ L h' news → (p ≤ 0 → -p ≤ (x.length : Int) → ((cutT x p).length : Int) = x.length + p) → Q (.str (cutT x p) t') { s with heap := h', toks := k })
    (hs : subscripted slice false (.str x t) (.ref s.heap.objs.size) = operate [.ref s.heap.objs.size, .str x t] (getItem (.str x t) (.ref s.heap.objs.size)) := by with_unfolding_all rfl)
    (ht : ∀ r, letTemporaryGo value (.str x t) r = pure () := by intro _; with_unfolding_all rfl) (hsz : x.length ≤ sizeLine := by size_fits) :
    wpAny (model prog w) A (subscriptTail value slice (.str x t) (.ref s.heap.objs.size)) Q E { s with heap := s.heap.push { cls := .type "slice", data := .fields #[.none, orNone p uj, .none] } } := by
  have h' : ∀ h' t' k, Fr h₀ L h' m → News h₀ L h' news → Q (.str (cutT x p) t') { s with heap := h', toks := k } := fun a b c d e => h a b c d e cutT_len
  unfold cutT at h'
  unfold orNone
  by_cases hp : p = 0
  · rw [if_pos hp] at h' ⊢
    exact slice_strN_nn hF hN h' hs ht hsz
  · rw [if_neg hp] at h' ⊢
    exact slice_strN_ns hF hN h' hs ht hsz
end
end Mine
end

section
local macro_rules | `(tactic| omega) => `(tactic| lia)
open PySem PySem.W PyProof.Rows PySem.Calls
set_option Elab.async false
set_option maxRecDepth 100000
set_option maxHeartbeats 8000000
namespace Mine

theorem item_tx {x : Str} (h : Tx x) {i : Int} (h0 : -(x.length : Int) ≤ i) (h1 : i < x.length) : Tx (Txt.item x i) := by
  rw [len_L] at h0 h1
  by_cases hi : 0 ≤ i
  · have e := item_nat hi h1
    refine ⟨by rw [len_L, e, List.length_singleton]; omega, ?_⟩
    rw [e]; intro c m
    rw [List.mem_singleton.mp m, List.getD_eq_getElem?_getD, List.getElem?_eq_getElem (by omega)]
    exact h.2 _ (List.getElem_mem _)
  · have e := item_neg (x := x) (i := i) (by omega) h0
    refine ⟨by rw [len_L, e, List.length_singleton]; omega, ?_⟩
    rw [e]; intro c m
    rw [List.mem_singleton.mp m, List.getD_eq_getElem?_getD, List.getElem?_eq_getElem (by omega)]
    exact h.2 _ (List.getElem_mem _)
noncomputable def PreS (x y : List Nat) (k : Nat) : Prop := k ≤ x.length ∧ k ≤ y.length ∧ x.take k = y.take k
noncomputable def PreT (x y : List Nat) (k : Nat) : Prop := PreS x y k ∧ (k = x.length ∨ k = y.length ∨ x.getD k 0 ≠ y.getD k 0)
theorem pre_step {x y : Str} {k : Nat} (hS : PreS (Ls x) (Ls y) k) (h1 : (k : Int) < x.length) (h2 : (k : Int) < y.length) (he : (Txt.item x k == Txt.item y k) = true) : PreS (Ls x) (Ls y) (k + 1) := by
  rw [len_L] at h1 h2
  rw [beq_L, beq_iff_eq, item_nat (by omega) (by omega), item_nat (by omega) (by omega)] at he
  obtain ⟨a, b, c⟩ := hS
  refine ⟨by omega, by omega, ?_⟩
  have e := (List.cons.inj he).1
  rw [Int.toNat_natCast, List.getD_eq_getElem?_getD, List.getD_eq_getElem?_getD, List.getElem?_eq_getElem (by omega), List.getElem?_eq_getElem (by omega)] at e
  rw [List.take_add_one, List.take_add_one, c, List.getElem?_eq_getElem (by omega), List.getElem?_eq_getElem (by omega)]
  have e' : (Ls x)[k] = (Ls y)[k] := e
  rw [e']
theorem pre_ne {x y : Str} {k : Nat} (hS : PreS (Ls x) (Ls y) k) (h1 : (k : Int) < x.length) (h2 : (k : Int) < y.length) (he : (Txt.item x k == Txt.item y k) = false) : PreT (Ls x) (Ls y) k := by
  refine ⟨hS, .inr (.inr fun e => ?_)⟩
  rw [len_L] at h1 h2
  rw [beq_L, beq_eq_false_iff_ne, item_nat (by omega) (by omega), item_nat (by omega) (by omega), Int.toNat_natCast, e] at he
  exact he rfl
theorem pre_x {x y : Str} {k : Nat} (hS : PreS (Ls x) (Ls y) k) (h1 : (x.length : Int) ≤ k) : PreT (Ls x) (Ls y) k := ⟨hS, .inl (by have := hS.1; rw [len_L] at h1; omega)⟩
theorem pre_y {x y : Str} {k : Nat} (hS : PreS (Ls x) (Ls y) k) (h1 : (y.length : Int) ≤ k) : PreT (Ls x) (Ls y) k := ⟨hS, .inr (.inl (by have := hS.2.1; rw [len_L] at h1; omega))⟩
theorem rev_getD {l : List Nat} {q : Nat} (h : q < l.length) : l.reverse.getD q 0 = l.getD (l.length - 1 - q) 0 := by
  rw [List.getD_eq_getElem?_getD, List.getD_eq_getElem?_getD, List.getElem?_reverse h]
noncomputable def PostS (x y : List Nat) (q : Nat) : Prop := PreS x.reverse y.reverse q
noncomputable def PostT (x y : List Nat) (q : Nat) : Prop := PreT x.reverse y.reverse q
theorem post_item {x : Str} {q : Nat} (h1 : (q : Int) < x.length) : Ls (Txt.item x (-(q : Int) - 1)) = [(Ls x).reverse.getD q 0] := by
  rw [len_L] at h1
  rw [item_neg (by omega) (by omega), rev_getD (by omega)]
  congr 2; omega
theorem post_step {x y : Str} {q : Nat} (hS : PostS (Ls x) (Ls y) q) (h1 : (q : Int) < x.length) (h2 : (q : Int) < y.length) (he : (Txt.item x (-(q : Int) - 1) == Txt.item y (-(q : Int) - 1)) = true) : PostS (Ls x) (Ls y) (q + 1) := by
  rw [beq_L, beq_iff_eq, post_item h1, post_item h2] at he
  rw [len_L] at h1 h2
  obtain ⟨a, b, c⟩ := hS
  rw [List.length_reverse] at a b
  refine ⟨by rw [List.length_reverse]; omega, by rw [List.length_reverse]; omega, ?_⟩
  have e := (List.cons.inj he).1
  have l1 : q < (Ls x).reverse.length := by rw [List.length_reverse]; omega
  have l2 : q < (Ls y).reverse.length := by rw [List.length_reverse]; omega
  rw [List.getD_eq_getElem?_getD, List.getD_eq_getElem?_getD, List.getElem?_eq_getElem l1, List.getElem?_eq_getElem l2] at e
  rw [List.take_add_one, List.take_add_one, c, List.getElem?_eq_getElem l1, List.getElem?_eq_getElem l2]
  have e' : (Ls x).reverse[q] = (Ls y).reverse[q] := e
  rw [e']
theorem post_ne {x y : Str} {q : Nat} (hS : PostS (Ls x) (Ls y) q) (h1 : (q : Int) < x.length) (h2 : (q : Int) < y.length) (he : (Txt.item x (-(q : Int) - 1) == Txt.item y (-(q : Int) - 1)) = false) : PostT (Ls x) (Ls y) q := by
  refine ⟨hS, .inr (.inr fun e => ?_)⟩
  rw [beq_L, beq_eq_false_iff_ne, post_item h1, post_item h2, e] at he
  exact he rfl
theorem post_x {x y : Str} {k : Nat} (hS : PostS (Ls x) (Ls y) k) (h1 : (x.length : Int) ≤ k) : PostT (Ls x) (Ls y) k := ⟨hS, .inl (by have := hS.1; rw [len_L] at h1; rw [List.length_reverse] at *; omega)⟩
theorem post_y {x y : Str} {k : Nat} (hS : PostS (Ls x) (Ls y) k) (h1 : (y.length : Int) ≤ k) : PostT (Ls x) (Ls y) k := ⟨hS, .inr (.inl (by have := hS.2.1; rw [len_L] at h1; rw [List.length_reverse] at *; omega))⟩
section
variable {prog : Program} {w : World} {A : Around} {E : Value → Shared → Prop} {s : Shared} {env : Env} {h₀ : Heap} {Q : Flow → Shared → Prop}
theorem pre_loop {x y : Str} {test : Expr} {body : List Stmt} {pos : Pos} {m₀ : Str → Option Value} {news : List (Addr × Obj)} {L : Addr} {t0 ta tb : Tok} (hx : Tx x) (hy : Tx y)
    (F : Fr h₀ L s.heap m₀) (N : News h₀ L s.heap news) (hm : m₀ (Str.ofString "pre") = some (.int 0 t0)) (_ha : m₀ (Str.ofString "a") = some (.str x ta)) (_hb : m₀ (Str.ofString "b") = some (.str y tb)) (_hn : m₀ (Str.ofString "post") = none)
    (turn : ∀ (k : Nat) t h tk, PreS (Ls x) (Ls y) k → k ≤ 64 → k ≤ x.length → k ≤ y.length → Fr h₀ L h (bsM [(Str.ofString "pre", .int (k : Int) t)] m₀) → News h₀ L h news →
      wpAny (model prog w) A (isTrue test env (eval test env)) (fun b s₂ => if b = true
        then wpAny (model prog w) A (execs body env) (WB h₀ L { s with heap := h, toks := tk } (fun m' nx => news = nx ∧ ∃ t, (∀ y, m' y = bsM [(Str.ofString "pre", .int ((k + 1 : Nat) : Int) t)] m₀ y) ∧ PreS (Ls x) (Ls y) (k + 1))) E s₂
        else WE h₀ L { s with heap := h, toks := tk } (fun m' nx => news = nx ∧ ∃ t, (∀ y, m' y = bsM [(Str.ofString "pre", .int (k : Int) t)] m₀ y) ∧ PreT (Ls x) (Ls y) k) s₂) E { s with heap := h, toks := tk })
    (done : ∀ (k : Nat) t h tk, PreT (Ls x) (Ls y) k → k ≤ x.length → k ≤ y.length → Fr h₀ L h (bsM [(Str.ofString "pre", .int (k : Int) t)] m₀) → News h₀ L h news → Q .next { s with heap := h, toks := tk })
    (hE : PassesOwn (model prog w) A env E := by passes_own) :
    wpAny (model prog w) A (exec (.While test body [] pos) env) Q E s := by
  have h1 := hx.len
  have h2 := hy.len
  refine while_int (val := fun k => (k : Int)) 64 (PreS (Ls x) (Ls y)) (PreT (Ls x) (Ls y)) F N ⟨Nat.zero_le _, Nat.zero_le _, rfl⟩ hm (fun k hS => by have := hS.1; rw [len_L] at h1; omega) ?_ ?_ hE
  · intro k t h tk hS F₁ N₁
    exact turn k t h tk hS (by have := hS.1; rw [len_L] at h1; omega) (by rw [len_L]; exact hS.1) (by rw [len_L]; exact hS.2.1) F₁ N₁
  · intro k t h tk hT F₁ N₁
    exact done k t h tk hT (by rw [len_L]; exact hT.1.1) (by rw [len_L]; exact hT.1.2.1) F₁ N₁
theorem post_loop {x y : Str} {test : Expr} {body : List Stmt} {pos : Pos} {m₀ : Str → Option Value} {news : List (Addr × Obj)} {L : Addr} {t0 ta tb : Tok} (hx : Tx x) (hy : Tx y)
    (F : Fr h₀ L s.heap m₀) (N : News h₀ L s.heap news) (hm : m₀ (Str.ofString "post") = some (.int 0 t0)) (_ha : m₀ (Str.ofString "a") = some (.str x ta)) (_hb : m₀ (Str.ofString "b") = some (.str y tb))
    (turn : ∀ (k : Nat) t h tk, PostS (Ls x) (Ls y) k → k ≤ 64 → k ≤ x.length → k ≤ y.length → Fr h₀ L h (bsM [(Str.ofString "post", .int (-(k : Int)) t)] m₀) → News h₀ L h news →
      wpAny (model prog w) A (isTrue test env (eval test env)) (fun b s₂ => if b = true
        then wpAny (model prog w) A (execs body env) (WB h₀ L { s with heap := h, toks := tk } (fun m' nx => news = nx ∧ ∃ t, (∀ y, m' y = bsM [(Str.ofString "post", .int (-((k + 1 : Nat) : Int)) t)] m₀ y) ∧ PostS (Ls x) (Ls y) (k + 1))) E s₂
        else WE h₀ L { s with heap := h, toks := tk } (fun m' nx => news = nx ∧ ∃ t, (∀ y, m' y = bsM [(Str.ofString "post", .int (-(k : Int)) t)] m₀ y) ∧ PostT (Ls x) (Ls y) k) s₂) E { s with heap := h, toks := tk })
    (done : ∀ (k : Nat) t h tk, PostT (Ls x) (Ls y) k → k ≤ x.length → k ≤ y.length → Fr h₀ L h (bsM [(Str.ofString "post", .int (-(k : Int)) t)] m₀) → News h₀ L h news → Q .next { s with heap := h, toks := tk })
    (hE : PassesOwn (model prog w) A env E := by passes_own) :
    wpAny (model prog w) A (exec (.While test body [] pos) env) Q E s := by
  have h1 := hx.len
  have h2 := hy.len
  have l1 : ∀ k, PostS (Ls x) (Ls y) k → k ≤ (Ls x).length ∧ k ≤ (Ls y).length := fun k h => by have a := h.1; have b := h.2.1; rw [List.length_reverse] at a b; exact ⟨a, b⟩
  refine while_int (val := fun k => -(k : Int)) 64 (PostS (Ls x) (Ls y)) (PostT (Ls x) (Ls y)) F N ⟨Nat.zero_le _, Nat.zero_le _, rfl⟩ hm (fun k hS => by have := l1 k hS; rw [len_L] at h1; omega) ?_ ?_ hE
  · intro k t h tk hS F₁ N₁
    exact turn k t h tk hS (by have := l1 k hS; rw [len_L] at h1; omega) (by rw [len_L]; exact (l1 k hS).1) (by rw [len_L]; exact (l1 k hS).2) F₁ N₁
  · intro k t h tk hT F₁ N₁
    exact done k t h tk hT (by rw [len_L]; exact (l1 k hT.1).1) (by rw [len_L]; exact (l1 k hT.1).2) F₁ N₁
end

end Mine
end

section
local macro_rules | `(tactic| omega) => `(tactic| lia)
open PySem PySem.W PyProof.Rows PySem.Calls PySem.Spec
set_option Elab.async false
set_option maxRecDepth 100000
set_option maxHeartbeats 4000000
namespace Mine
/-- the distance, row by row -/
noncomputable def edR (a : List Nat) (c i : Nat) (prev : Nat → Int) : Nat → Int
  | 0 => 2 * ((i : Int) + 1)
  | j + 1 => min (min (edR a c i prev j) (prev (j + 1)) + 2) (prev j + subL [c] [a.getD j 0])
noncomputable def ed (a b : List Nat) : Nat → Nat → Int
  | 0 => fun j => 2 * (j : Int)
  | i + 1 => edR a (b.getD i 0) i (ed a b i)
theorem subL_le (x y : List Nat) : 0 ≤ subL x y ∧ subL x y ≤ 2 := by
  unfold subL; split
  · omega
  · split <;> omega
theorem ed_zero (a b : List Nat) : ∀ i, ed a b i 0 = 2 * (i : Int)
  | 0 => rfl
  | i + 1 => by show 2 * ((i : Int) + 1) = _; omega
theorem ed_step (a b : List Nat) (i j : Nat) : ed a b (i + 1) (j + 1) = min (min (ed a b (i + 1) j) (ed a b i (j + 1)) + 2) (ed a b i j + subL [b.getD i 0] [a.getD j 0]) := rfl
/-- what stands in result as the turn opens -/
noncomputable def rv (a b : List Nat) (i j : Nat) : Int := if j = 0 then 2 * (i : Int) else ed a b (i + 1) j
theorem rv_step (a b : List Nat) (i j : Nat) : ed a b (i + 1) (j + 1) = min (min (rv a b i j) (ed a b i (j + 1)) + 2) (ed a b i j + subL [b.getD i 0] [a.getD j 0]) := by
  rw [ed_step]
  unfold rv
  by_cases hj : j = 0
  · subst hj
    rw [if_pos rfl, ed_zero, ed_zero]
    have := subL_le [b.getD i 0] [a.getD 0 0]
    omega
  · rw [if_neg hj]
noncomputable def rowL (a b : List Nat) (i j : Nat) : List Int := (List.range a.length).map fun k => if k < j then ed a b (i + 1) (k + 1) else ed a b i (k + 1)
theorem rowL_len (a b : List Nat) (i j : Nat) : (rowL a b i j).length = a.length := by simp [rowL]
theorem rowL_get {a b : List Nat} {i j : Nat} (h : j < a.length) : (rowL a b i j).getD j 0 = ed a b i (j + 1) := by
  rw [List.getD_eq_getElem?_getD]
  simp [rowL, h]
theorem rowL_set {a b : List Nat} {i j : Nat} : (rowL a b i j).set j (ed a b (i + 1) (j + 1)) = rowL a b i (j + 1) := by
  apply List.ext_getElem
  · simp [rowL]
  · intro n h1 h2
    simp only [rowL, List.getElem_set, List.getElem_map, List.getElem_range]
    by_cases e : j = n
    · subst e; rw [if_pos rfl, if_pos (by omega)]
    · rw [if_neg e]
      by_cases h : n < j
      · rw [if_pos h, if_pos (by omega)]
      · rw [if_neg h, if_neg (by omega)]
theorem rowL_next (a b : List Nat) (i : Nat) : rowL a b i a.length = rowL a b (i + 1) 0 := by
  unfold rowL
  refine List.map_congr_left fun k hk => ?_
  rw [if_pos (List.mem_range.mp hk), if_neg (Nat.not_lt_zero _)]
theorem rowL_start (a b : List Nat) : (rangeInts 2 2 a.length) = rowL a b 0 0 := by
  unfold rangeInts rowL
  refine List.map_congr_left fun k hk => ?_
  rw [if_neg (Nat.not_lt_zero _)]
  show (2 : Int) + (k : Int) * 2 = 2 * ((k + 1 : Nat) : Int)
  omega

/-- names that a turn leaves as it likes -/
noncomputable def scr : List Str → (Str → Option Value) → (Str → Option Value) → Str → Option Value
  | [], _, m => m
  | k :: r, z, m => fun y => if y = k then z y else scr r z m y
theorem scr_in : ∀ {xs : List Str} {z m : Str → Option Value} {y : Str}, y ∈ xs → scr xs z m y = z y
  | k :: r, z, m, y, h => by
    show (if y = k then z y else scr r z m y) = _
    by_cases e : y = k
    · rw [if_pos e]
    · rw [if_neg e]; exact scr_in ((List.mem_cons.mp h).resolve_left e)
theorem scr_out : ∀ {xs : List Str} {z m : Str → Option Value} {y : Str}, y ∉ xs → scr xs z m y = m y
  | [], _, _, _, _ => rfl
  | k :: r, z, m, y, h => by
    show (if y = k then z y else scr r z m y) = _
    rw [if_neg fun e => h (by rw [e]; exact List.mem_cons_self)]
    exact scr_out fun q => h (List.mem_cons_of_mem _ q)
noncomputable def HasS (x : Str) (xs : List Str) (m₁ m₀ : Str → Option Value) (ps : List (Str × Value)) : Prop := ∀ y, y ≠ x → y ∉ xs → m₁ y = bsM ps m₀ y
theorem HasS.fr {h₀ h : Heap} {L : Addr} {x : Str} {xs : List Str} {m₁ m₀ : Str → Option Value} {ps : List (Str × Value)} {v : Value} (H : HasS x xs m₁ m₀ ps) (F : Fr h₀ L h (fun y => if y = x then some v else m₁ y)) : Fr h₀ L h (bsM [(x, v)] (scr xs m₁ (bsM ps m₀))) := by
  have e : (fun y => if y = x then some v else m₁ y) = bsM [(x, v)] (scr xs m₁ (bsM ps m₀)) := by
    funext y
    show _ = if y = x then some v else scr xs m₁ (bsM ps m₀) y
    by_cases h : y = x
    · rw [if_pos h, if_pos h]
    · rw [if_neg h, if_neg h]
      by_cases hm : y ∈ xs
      · rw [scr_in hm]
      · rw [scr_out hm, H y h hm]
  rwa [← e]
theorem HasS.out {h₀ h : Heap} {L : Addr} {x : Str} {xs : List Str} {m₁ m₀ : Str → Option Value} {ps : List (Str × Value)} (H : HasS x xs m₁ m₀ ps) (F : Fr h₀ L h m₁) : Fr h₀ L h (scr (x :: xs) m₁ (bsM ps m₀)) := by
  have e : scr (x :: xs) m₁ (bsM ps m₀) = m₁ := by
    funext y
    by_cases hm : y ∈ x :: xs
    · rw [scr_in hm]
    · rw [scr_out hm]
      exact (H y (fun e => hm (by rw [e]; exact List.mem_cons_self)) (fun q => hm (List.mem_cons_of_mem _ q))).symm
  rwa [e]
theorem hasS_of {x : Str} {xs : List Str} {m' m₀ : Str → Option Value} {ps : List (Str × Value)} (h1 : ∀ p ∈ ps, m' p.1 = some p.2) (h2 : ∀ y, y ≠ x → y ∉ xs → (∀ p ∈ ps, y ≠ p.1) → m' y = m₀ y) : HasS x xs m' m₀ ps := fun y hy hm => by
  have key : Has x (fun z => if z ∈ xs then bsM ps m₀ z else m' z) m₀ ps := by
    intro z hz
    show (if z ∈ xs then bsM ps m₀ z else m' z) = _
    by_cases hx : z ∈ xs
    · rw [if_pos hx]
    · rw [if_neg hx]
      clear hy hm
      induction ps with
      | nil => exact h2 z hz hx (List.forall_mem_nil _)
      | cons p r ih =>
        rw [bsM_cons]
        by_cases e : z = p.1
        · rw [if_pos e, e]; exact h1 p List.mem_cons_self
        · rw [if_neg e]
          by_cases hr : ∃ q ∈ r, z = q.1
          · obtain ⟨q, hq, e2⟩ := hr
            have hval := h1 q (List.mem_cons_of_mem _ hq)
            -- the first of the rest that names z
            have : ∀ r' : List (Str × Value), (∀ q ∈ r', m' q.1 = some q.2) → (∃ q ∈ r', z = q.1) → m' z = bsM r' m₀ z := by
              intro r'
              induction r' with
              | nil => rintro _ ⟨q, hq, _⟩; cases hq
              | cons p' r' ih' =>
                intro h1' hex
                rw [bsM_cons]
                by_cases e' : z = p'.1
                · rw [if_pos e', e']; exact h1' p' List.mem_cons_self
                · rw [if_neg e']
                  refine ih' (fun q hq => h1' q (List.mem_cons_of_mem _ hq)) ?_
                  obtain ⟨q, hq, e2⟩ := hex
                  rcases List.mem_cons.mp hq with e3 | hq
                  · rw [e3] at e2; exact absurd e2 e'
                  · exact ⟨q, hq, e2⟩
            exact this r (fun q hq => h1 q (List.mem_cons_of_mem _ hq)) ⟨q, hq, e2⟩
          · have hno : ∀ q ∈ r, z ≠ q.1 := fun q hq e2 => hr ⟨q, hq, e2⟩
            have e3 : ∀ r' : List (Str × Value), (∀ q ∈ r', z ≠ q.1) → bsM r' m₀ z = m₀ z := by
              intro r'
              induction r' with
              | nil => intro _; rfl
              | cons p' r' ih' => intro h; rw [bsM_cons, if_neg (h p' List.mem_cons_self)]; exact ih' fun q hq => h q (List.mem_cons_of_mem _ hq)
            rw [e3 r hno]
            exact h2 z hz hx (fun q hq => by
              rcases List.mem_cons.mp hq with e4 | hq
              · rw [e4]; exact e
              · exact hno q hq)
  have := key y hy
  dsimp only at this
  rwa [if_neg hm] at this
section
variable {prog : Program} {w : World} {A : Around} {E : Value → Shared → Prop} {s : Shared} {env : Env} {h₀ : Heap} {x : Str} {xs : List Str} {body : List Stmt} {Q : Flow → Shared → Prop}
theorem range_stS {r : Addr} {a b : Int} {t u : Tok} {v : Tok} {n : Nat} {m₀ : Str → Option Value} {news : List (Addr × Obj)} (S : Nat → List (Str × Value) → List (Addr × Obj) → Prop) (ps : List (Str × Value))
    (hh : A.handled = none) (hr : IsRange s.heap r a b 1 t u v) (hn : n = (b - a).toNat) (hsm : -1000000 ≤ a ∧ a ≤ 1000000 ∧ -1000000 ≤ b ∧ b ≤ 1000000) (F : Fr h₀ env.locals s.heap m₀) (N : News h₀ env.locals s.heap news) (h0 : S 0 ps news)
    (hps : ∀ p ∈ ps, m₀ p.1 = some p.2)
    (turn : ∀ (i : Nat) u ps news₁ I o h tk z, i < n → S i ps news₁ → AllNe I news₁ → Fr h₀ env.locals h (bsM [(x, .int (a + i) u)] (scr xs z (bsM ps m₀))) → News h₀ env.locals h ((I, o) :: news₁) →
      wpAny (model prog w) A (execs body env) (LG h₀ env.locals (fun m₁ nx => ∃ ps', S (i + 1) ps' nx ∧ HasS x xs m₁ m₀ ps') I o { s with heap := h, toks := tk } Q) E { s with heap := h, toks := tk })
    (done : ∀ (z : Str → Option Value) ps news₁ h tk, S n ps news₁ → Fr h₀ env.locals h (scr (x :: xs) z (bsM ps m₀)) → News h₀ env.locals h news₁ → Q .next { s with heap := h, toks := tk }) :
    wpAny (model prog w) A (pyIter (.ref r)) (fun it s₂ => LoopAtV prog w A h₀ env x body Q E it s₂) E s := by
  refine iter_rangeG (n := n) (fun i m₁ nx => ∃ ps', S i ps' nx ∧ HasS x xs m₁ m₀ ps') hh hr hn hsm F N ⟨ps, h0, hasS_of hps fun _ _ _ _ => rfl⟩ ?_ ?_
  · rintro i u' m₁ news₁ I o h tk hi ⟨ps', hS, hH⟩ hne F₁ N₁
    refine turn i u' ps' news₁ I o h tk m₁ hi hS (allNe_of hne) (hH.fr F₁) fun p hp => N₁ p ?_
    rcases List.mem_cons.mp hp with e | e
    · exact List.mem_append.mpr (.inr (List.mem_singleton.mpr e))
    · exact List.mem_append.mpr (.inl e)
  · rintro m₁ news₁ h tk ⟨ps', hS, hH⟩ F₁ N₁
    exact done m₁ ps' news₁ h tk hS (hH.out F₁) N₁
theorem st_endS {h' : Heap} {L I : Addr} {o : Obj} {m' m₀ : Str → Option Value} {news' nx : List (Addr × Obj)} {S : List (Str × Value) → List (Addr × Obj) → Prop} {tk : Nat} (ps : List (Str × Value))
    (F : Fr h₀ L h' m') (N : News h₀ L h' news') (hS : S ps nx) (hv : ∀ p ∈ ps, m' p.1 = some p.2) (ho : ∀ y, y ≠ x → (∀ k ∈ xs, y ≠ k) → (∀ p ∈ ps, y ≠ p.1) → m' y = m₀ y) (hi : (I, o) ∈ news') (hb : ∀ p ∈ nx, p ∈ news') (hne : AllNe I nx) :
    LG h₀ L (fun m₁ nx => ∃ ps', S ps' nx ∧ HasS x xs m₁ m₀ ps') I o s Q .next { s with heap := h', toks := tk } :=
  LG.intro' nx F N hb hi hne ⟨ps, hS, hasS_of hv fun y a b c => ho y a (fun k hk e => b (by rw [e]; exact hk)) c⟩
/-- an if whose two ways meet -/
theorem if_join {test : Expr} {body orelse : List Stmt} {pos : Pos} {L : Addr} (K : (Str → Option Value) → List (Addr × Obj) → Prop)
    (h : wpAny (model prog w) A (isTrue test env (eval test env)) (fun b s₂ => if b = true then wpAny (model prog w) A (execs body env) (WB h₀ L s K) E s₂ else wpAny (model prog w) A (execs orelse env) (WB h₀ L s K) E s₂) E s)
    (done : ∀ m' nx h tk, K m' nx → Fr h₀ L h m' → News h₀ L h nx → Q .next { s with heap := h, toks := tk }) :
    wpAny (model prog w) A (exec (.If test body orelse pos) env) Q E s := by
  have fin : ∀ f s₃, WB h₀ L s K f s₃ → Q f s₃ := by
    rintro f s₃ ⟨rfl, h, tk, m', nx, news', rfl, F', N', hs, hK⟩
    exact done m' nx h tk hK F' fun p hp => N' p (hs p hp)
  refine wpAny_If (wpAny_mono h (fun b s₂ h₂ => ?_) fun _ _ e => e)
  cases b with
  | false => simp only [Bool.false_eq_true, if_false] at h₂ ⊢; exact wpAny_mono h₂ fin fun _ _ e => e
  | true => simp only [if_true] at h₂ ⊢; exact wpAny_mono h₂ fin fun _ _ e => e
end
end Mine
end

section
local macro_rules | `(tactic| omega) => `(tactic| lia)
open PySem PySem.W PyProof.Rows PySem.Calls PySem.Spec
set_option Elab.async false
set_option maxRecDepth 100000
set_option maxHeartbeats 4000000
namespace Mine
theorem rangeInts_cons (a c : Int) (n : Nat) : rangeInts a c (n + 1) = a :: rangeInts (a + c) c n := by
  unfold rangeInts
  rw [List.range_succ_eq_map, List.map_cons, List.map_map]
  congr 1
  · simp
  · apply List.map_congr_left
    intro i _
    show a + ((i + 1 : Nat) : Int) * c = a + c + (i : Int) * c
    rw [Int.natCast_add, Int.add_mul]
    show a + ((i : Int) * c + 1 * c) = _
    omega
theorem ints_by : ∀ (vs : List Value) (a c : Int) (n : Nat), vs.length = n → (∀ (j : Nat) (v : Value), vs[j]? = some v → ∃ t, v = .int (a + j * c) t) → IntsAre vs (rangeInts a c n)
  | [], a, c, n, e, _ => by
    subst e
    exact IntsAre.nil
  | v :: r, a, c, n, e, h => by
    subst e
    rw [List.length_cons, rangeInts_cons]
    obtain ⟨t, ht⟩ := h 0 v rfl
    have hv : v = .int a t := by rw [ht]; simp
    subst hv
    refine IntsAre.cons _ _ (ints_by r (a + c) c r.length rfl fun j v hj => ?_)
    obtain ⟨t', ht'⟩ := h (j + 1) v hj
    refine ⟨t', ht'.trans ?_⟩
    congr 1
    rw [Int.natCast_add, Int.add_mul]
    show a + ((j : Int) * c + 1 * c) = _
    omega
theorem size2 (n : Nat) : Builtin.Range.rangeSize 2 (2 * ((n : Int) + 1)) 2 = (n : Int) := by
  unfold Builtin.Range.rangeSize
  rw [if_pos (by decide)]
  split <;> omega
theorem small2 {n : Nat} (h : n ≤ 64) : Builtin.Range.small 2 (2 * ((n : Int) + 1)) 2 = true := by
  have key : ∀ n : Nat, n < 65 → Builtin.Range.small 2 (2 * ((n : Int) + 1)) 2 = true := by decide +kernel
  exact key n (by omega)
section
variable {prog : Program} {w : World} {A : Around} {E : Value → Shared → Prop} {s : Shared} {h₀ : Heap} {L r : Addr} {m : Str → Option Value} {news : List (Addr × Obj)} {b : Int} {t₀ u₀ v₀ : Tok} {Q : Value → Shared → Prop}
theorem list_range2 {x : Str} (hh : A.handled = none) (F : Fr h₀ L s.heap m) (N : News h₀ L s.heap news) (hr : IsRange s.heap r 2 b 2 t₀ u₀ v₀) (hb : b = 2 * ((x.length : Int) + 1)) (hz : x.length ≤ 64)
    (h : ∀ D us c h' tk, Fr h₀ L h' m → News h₀ L h' ((D, PySem.W.listOf (List.toArray us) c) :: news) → (∀ p ∈ news, p.1 < D) → IntsAre us (rangeInts 2 2 (Ls x).length) → Q (.ref D) { s with heap := h', toks := tk }) :
    wpAny (model prog w) A (call (.type "list") [.ref r]) Q E s := by
  subst hb
  rw [len_L] at hz
  rw [len_L] at hr
  refine call_list_range hh hr (small2 (by omega)) (size2 _) (by omega) fun h' tk acc c hk hD hI => ?_
  have hD' : h'.get? s.heap.objs.size = some (PySem.W.listOf (List.toArray acc.toList) c) := by
    rw [Array.toArray_toList]
    exact hD
  exact h _ acc.toList c h' tk (F.keeps hk) (news_pushed F N hk hD' rfl) (fun p hp => Heap.lt_size (N p hp).1) (ints_by _ _ _ _ (by rw [Array.length_toList]; exact hI.1) fun j v hj => hI.2 j v (by rw [← hj, Array.getElem?_toList]))
end

noncomputable def Swap (x y p q : Str) : Prop := (p = x ∧ q = y ∧ x.length ≤ y.length) ∨ (p = y ∧ q = x ∧ y.length < x.length)
theorem Swap.no {x y : Str} (h : (x.length : Int) ≤ y.length) : Swap x y x y := .inl ⟨rfl, rfl, by omega⟩
theorem Swap.yes {x y : Str} (h : (y.length : Int) < x.length) : Swap x y y x := .inr ⟨rfl, rfl, by omega⟩
theorem Swap.le {x y p q : Str} (h : Swap x y p q) : p.length ≤ q.length := by
  rcases h with ⟨rfl, rfl, h⟩ | ⟨rfl, rfl, h⟩ <;> omega
theorem Swap.tx {x y p q : Str} (h : Swap x y p q) (hx : Tx x) (hy : Tx y) : Tx p ∧ Tx q := by
  rcases h with ⟨rfl, rfl, h⟩ | ⟨rfl, rfl, h⟩
  · exact ⟨hx, hy⟩
  · exact ⟨hy, hx⟩
theorem Swap.lens {x y p q : Str} (h : Swap x y p q) : (p.length = x.length ∧ q.length = y.length) ∨ (p.length = y.length ∧ q.length = x.length) := by
  rcases h with ⟨rfl, rfl, h⟩ | ⟨rfl, rfl, h⟩
  · exact .inl ⟨rfl, rfl⟩
  · exact .inr ⟨rfl, rfl⟩
section
variable {prog : Program} {w : World} {A : Around} {E : Value → Shared → Prop} {s : Shared} {env : Env} {h₀ : Heap} {Q : Flow → Shared → Prop} {L : Addr} {m₀ : Str → Option Value} {news : List (Addr × Obj)}
noncomputable def SwapK (m₀ : Str → Option Value) (news : List (Addr × Obj)) (x y : Str) (m' : Str → Option Value) (nx : List (Addr × Obj)) : Prop :=
  news = nx ∧ ∃ p q tp tq, Swap x y p q ∧ ∀ z, m' z = bsM [(Str.ofString "a", .str p tp), (Str.ofString "b", .str q tq)] m₀ z
theorem swap_if {x y : Str} {ta tb : Tok} {test : Expr} {body orelse : List Stmt} {pos : Pos} (F : Fr h₀ L s.heap m₀) (N : News h₀ L s.heap news) (_ha : m₀ (Str.ofString "a") = some (.str x ta)) (_hb : m₀ (Str.ofString "b") = some (.str y tb)) (hx : Tx x) (hy : Tx y) (h0x : x.length ≠ 0) (h0y : y.length ≠ 0) (hBx : x.length ≤ 30) (hBy : y.length ≤ 30)
    (h : Fr h₀ L s.heap m₀ → News h₀ L s.heap news → wpAny (model prog w) A (isTrue test env (eval test env)) (fun b s₂ => if b = true then wpAny (model prog w) A (execs body env) (WB h₀ L s (SwapK m₀ news x y)) E s₂ else wpAny (model prog w) A (execs orelse env) (WB h₀ L s (SwapK m₀ news x y)) E s₂) E s)
    (done : ∀ p q tp tq h tk, Swap x y p q → Tx p → Tx q → p.length ≤ 30 → q.length ≤ 30 → 0 < p.length → p.length ≤ q.length → Fr h₀ L h (bsM [(Str.ofString "a", .str p tp), (Str.ofString "b", .str q tq)] m₀) → News h₀ L h news → Q .next { s with heap := h, toks := tk }) :
    wpAny (model prog w) A (exec (.If test body orelse pos) env) Q E s := by
  refine if_join (SwapK m₀ news x y) (h F N) ?_
  rintro m' nx h tk ⟨rfl, p, q, tp, tq, hs, hm⟩ F' N'
  rw [funext hm] at F'
  have ht := hs.tx hx hy
  have hl := hs.lens
  exact done p q tp tq h tk hs ht.1 ht.2 (by omega) (by omega) (by omega) hs.le F' N'
theorem swap_end {h' : Heap} {m' : Str → Option Value} {news' : List (Addr × Obj)} {x y p q : Str} {tp tq : Tok} {tk : Nat}
    (F : Fr h₀ L h' m') (N : News h₀ L h' news') (hs : ∀ p ∈ news, p ∈ news') (e1 : m' (Str.ofString "a") = some (.str p tp)) (e2 : m' (Str.ofString "b") = some (.str q tq)) (ho : ∀ z, z ≠ Str.ofString "a" → z ≠ Str.ofString "b" → m' z = m₀ z) (hS : Swap x y p q) :
    WB h₀ L s (SwapK m₀ news x y) .next { s with heap := h', toks := tk } := by
  refine ⟨rfl, h', tk, m', news, news', rfl, F, N, hs, rfl, p, q, tp, tq, hS, fun z => ?_⟩
  show m' z = if z = _ then _ else if z = _ then _ else m₀ z
  split
  · rename_i e; rw [e]; exact e1
  · split
    · rename_i e; rw [e]; exact e2
    · rename_i a b; exact ho z a b
end
/-- the least one so far -/
noncomputable def MinOk (i j : Nat) (mn : Int) : Prop := j = 0 ∨ mn ≤ 2 * (i : Int) + 2
theorem ed_first (a b : List Nat) (i : Nat) : ed a b (i + 1) 1 ≤ 2 * (i : Int) + 2 := by
  rw [rv_step]
  have : rv a b i 0 = 2 * (i : Int) := rfl
  rw [this]; omega
theorem MinOk.lt {a b : List Nat} {i j : Nat} {mn r : Int} (h : MinOk i j mn) (hr : r = ed a b (i + 1) (j + 1)) (hl : r < mn) : MinOk i (j + 1) r := by
  rcases h with rfl | h
  · have := ed_first a b i
    exact .inr (by rw [hr]; exact this)
  · exact .inr (by omega)
theorem MinOk.ge {a b : List Nat} {i j : Nat} {mn r : Int} (h : MinOk i j mn) (hr : r = ed a b (i + 1) (j + 1)) (hl : mn ≤ r) : MinOk i (j + 1) mn := by
  rcases h with rfl | h
  · have := ed_first a b i
    exact .inr (by rw [← hr] at this; omega)
  · exact .inr h
noncomputable abbrev inNames (d r mn : Int) (td tr tm : Tok) : List (Str × Value) := [(Str.ofString "distance", .int d td), (Str.ofString "result", .int r tr), (Str.ofString "minimum", .int mn tm)]
noncomputable abbrev inScr : List Str := [Str.ofString "substitute", Str.ofString "insert_delete"]
noncomputable def InS (a b : List Nat) (l : Addr) (bs : List (Addr × Obj)) (i j : Nat) (ps : List (Str × Value)) (nx : List (Addr × Obj)) : Prop :=
  ∃ us k mn td tr tm, nx = (l, PySem.W.listOf (List.toArray us) k) :: bs ∧ IntsAre us (rowL a b i j) ∧ MinOk i j mn ∧ ps = inNames (ed a b i j) (rv a b i j) mn td tr tm
section
variable {prog : Program} {w : World} {A : Around} {E : Value → Shared → Prop} {s : Shared} {env : Env} {h₀ : Heap} {body : List Stmt} {Q : Flow → Shared → Prop} {m₀ : Str → Option Value}
theorem news_front2 {h₀ h : Heap} {L : Addr} {p q : Addr × Obj} {r : List (Addr × Obj)} (N : News h₀ L h (p :: q :: r)) : News h₀ L h (q :: p :: r) := fun z hz => N z (by
  rcases List.mem_cons.mp hz with e | hz
  · rw [e]; exact .tail _ (.head _)
  · rcases List.mem_cons.mp hz with e | hz
    · rw [e]; exact .head _
    · exact .tail _ (.tail _ hz))
theorem lev_inner {a b : Str} {i : Nat} {l r : Addr} {p0 : Addr × Obj} {bs : List (Addr × Obj)} {us : List Value} {k : Nat} {hi : Int} {t u v td tr tm : Tok} {d0 r0 m0 : Int}
    (hh : A.handled = none) (hr : IsRange s.heap r 0 hi 1 t u v) (hn : hi = a.length) (hz : a.length ≤ 64) (F : Fr h₀ env.locals s.heap m₀) (N : News h₀ env.locals s.heap (p0 :: (l, PySem.W.listOf (List.toArray us) k) :: bs)) (hv : IntsAre us (rowL (Ls a) (Ls b) i 0))
    (hm : m₀ (Str.ofString "distance") = some (.int d0 td) ∧ m₀ (Str.ofString "result") = some (.int r0 tr) ∧ m₀ (Str.ofString "minimum") = some (.int m0 tm)) (hd : d0 = 2 * (i : Int)) (hre : r0 = 2 * (i : Int))
    (turn : ∀ (j : Nat) u us k mn td tr tm I o h tk z, j < a.length → (j : Int) < a.length → IntsAre us (rowL (Ls a) (Ls b) i j) → us.length = a.length → MinOk i j mn → (@Ne Nat l I) → AllNe I (p0 :: bs) → Fr h₀ env.locals h (bsM [(Str.ofString "index", .int (j : Int) u)] (scr inScr z (bsM (inNames (ed (Ls a) (Ls b) i j) (rv (Ls a) (Ls b) i j) mn td tr tm) m₀))) →
      News h₀ env.locals h ((I, o) :: (l, PySem.W.listOf (List.toArray us) k) :: p0 :: bs) →
      wpAny (model prog w) A (execs body env) (LG h₀ env.locals (fun m₁ nx => ∃ ps', InS (Ls a) (Ls b) l (p0 :: bs) i (j + 1) ps' nx ∧ HasS (Str.ofString "index") inScr m₁ m₀ ps') I o { s with heap := h, toks := tk } Q) E { s with heap := h, toks := tk })
    (done : ∀ us k mn td tr tm h tk z, IntsAre us (rowL (Ls a) (Ls b) (i + 1) 0) → MinOk i a.length mn → Fr h₀ env.locals h (scr (Str.ofString "index" :: inScr) z (bsM (inNames (ed (Ls a) (Ls b) i a.length) (rv (Ls a) (Ls b) i a.length) mn td tr tm) m₀)) → News h₀ env.locals h ((l, PySem.W.listOf (List.toArray us) k) :: p0 :: bs) → Q .next { s with heap := h, toks := tk }) :
    wpAny (model prog w) A (pyIter (.ref r)) (fun it s₂ => LoopAtV prog w A h₀ env (Str.ofString "index") body Q E it s₂) E s := by
  subst hn
  refine range_stS (xs := inScr) (n := a.length) (InS (Ls a) (Ls b) l (p0 :: bs) i) (inNames (ed (Ls a) (Ls b) i 0) (rv (Ls a) (Ls b) i 0) m0 td tr tm) hh hr (by omega) (by omega) F (news_front2 N) ⟨us, k, m0, td, tr, tm, rfl, hv, .inl rfl, rfl⟩ ?_ ?_ ?_
  · have e1 : ed (Ls a) (Ls b) i 0 = d0 := by rw [ed_zero, hd]
    have e2 : rv (Ls a) (Ls b) i 0 = r0 := by rw [hre]; rfl
    rw [e1, e2]
    exact fa_cons hm.1 (fa_cons hm.2.1 (fa_cons hm.2.2 fa_nil))
  · rintro j u ps news₁ I o h tk z hj ⟨us, k, mn, td, tr, tm, rfl, hv, hmn, rfl⟩ hne F₁ N₁
    rw [show ((0 : Int) + (j : Int)) = (j : Int) by omega] at F₁
    have hl := hv.length
    rw [rowL_len, ← len_L] at hl
    exact turn j u us k mn td tr tm I o h tk z hj (by omega) hv hl hmn hne.1 hne.2 F₁ N₁
  · rintro z ps news₁ h tk ⟨us, k, mn, td, tr, tm, rfl, hv, hmn, rfl⟩ F₁ N₁
    refine done us k mn td tr tm h tk z ?_ hmn F₁ N₁
    rw [← rowL_next, ← len_L]; exact hv
theorem in_end {a b : List Nat} {l : Addr} {bs : List (Addr × Obj)} {i j : Nat} {us : List Value} {k : Nat} {d r mn : Int} {td tr tm : Tok} {h' : Heap} {L I : Addr} {o : Obj} {m' m₀ : Str → Option Value} {news' : List (Addr × Obj)} {tk : Nat} {ns : List Int}
    (F : Fr h₀ L h' m') (N : News h₀ L h' news') (hi : (I, o) ∈ news') (hl : (l, PySem.W.listOf (List.toArray us) k) ∈ news') (hv : IntsAre us ns) (e1 : m' (Str.ofString "distance") = some (.int d td)) (e2 : m' (Str.ofString "result") = some (.int r tr)) (e3 : m' (Str.ofString "minimum") = some (.int mn tm))
    (hd : d = ed a b i (j + 1)) (hr : r = ed a b (i + 1) (j + 1)) (hns : ns = (rowL a b i j).set j r) (hmn : MinOk i (j + 1) mn)
    (ho : ∀ y, y ≠ Str.ofString "index" → (∀ k ∈ inScr, y ≠ k) → y ≠ Str.ofString "distance" → y ≠ Str.ofString "result" → y ≠ Str.ofString "minimum" → m' y = m₀ y) (hb : ∀ p ∈ bs, p ∈ news') (hne : AllNe I ((l, PySem.W.listOf (List.toArray us) k) :: bs)) :
    LG h₀ L (fun m₁ nx => ∃ ps', InS a b l bs i (j + 1) ps' nx ∧ HasS (Str.ofString "index") inScr m₁ m₀ ps') I o s Q .next { s with heap := h', toks := tk } := by
  subst hd hr
  rw [hns, rowL_set] at hv
  refine st_endS (inNames (ed a b i (j + 1)) (rv a b i (j + 1)) mn td tr tm) F N ⟨us, k, mn, td, tr, tm, rfl, hv, hmn, rfl⟩ ?_ ?_ hi ?_ hne
  · have e : rv a b i (j + 1) = ed a b (i + 1) (j + 1) := rfl
    rw [e]
    exact fa_cons e1 (fa_cons e2 (fa_cons e3 fa_nil))
  · intro y hy hs hp
    exact ho y hy hs (hp (Str.ofString "distance", .int (ed a b i (j + 1)) td) (.head _)) (hp (Str.ofString "result", .int (rv a b i (j + 1)) tr) (.tail _ (.head _))) (hp (Str.ofString "minimum", .int mn tm) (.tail _ (.tail _ (.head _))))
  · intro p hp
    rcases List.mem_cons.mp hp with e | hp
    · rw [e]; exact hl
    · exact hb p hp
noncomputable def resI (a b : List Nat) (i : Nat) : Int := if i = 0 then 0 else ed a b i a.length
noncomputable abbrev outScr : List Str := [Str.ofString "bchar", Str.ofString "distance", Str.ofString "minimum", Str.ofString "index", Str.ofString "substitute", Str.ofString "insert_delete"]
noncomputable def OutS (a b : List Nat) (l : Addr) (bs : List (Addr × Obj)) (i : Nat) (ps : List (Str × Value)) (nx : List (Addr × Obj)) : Prop :=
  ∃ us k tr, nx = (l, PySem.W.listOf (List.toArray us) k) :: bs ∧ IntsAre us (rowL a b i 0) ∧ ps = [(Str.ofString "result", .int (resI a b i) tr)]
theorem lev_outer {a b : Str} {l r : Addr} {bs : List (Addr × Obj)} {us : List Value} {k : Nat} {hi : Int} {t u v tr ta tb : Tok}
    (hh : A.handled = none) (hr : IsRange s.heap r 0 hi 1 t u v) (hn : hi = b.length) (_ha : m₀ (Str.ofString "a") = some (.str a ta)) (_hb : m₀ (Str.ofString "b") = some (.str b tb)) (hz : b.length ≤ 64) (F : Fr h₀ env.locals s.heap m₀) (N : News h₀ env.locals s.heap ((l, PySem.W.listOf (List.toArray us) k) :: bs)) (hv : IntsAre us (rangeInts 2 2 (Ls a).length)) (hb0 : 0 < b.length)
    (hm : m₀ (Str.ofString "result") = some (.int 0 tr))
    (turn : ∀ (i : Nat) u us k tr I o h tk z, i < b.length → (i : Int) < b.length → IntsAre us (rowL (Ls a) (Ls b) i 0) → us.length = a.length → (@Ne Nat l I) → AllNe I bs → Fr h₀ env.locals h (bsM [(Str.ofString "bindex", .int (i : Int) u)] (scr outScr z (bsM [(Str.ofString "result", .int (resI (Ls a) (Ls b) i) tr)] m₀))) →
      News h₀ env.locals h ((I, o) :: (l, PySem.W.listOf (List.toArray us) k) :: bs) →
      wpAny (model prog w) A (execs body env) (LG h₀ env.locals (fun m₁ nx => ∃ ps', OutS (Ls a) (Ls b) l bs (i + 1) ps' nx ∧ HasS (Str.ofString "bindex") outScr m₁ m₀ ps') I o { s with heap := h, toks := tk } Q) E { s with heap := h, toks := tk })
    (done : ∀ us k tr h tk z, Fr h₀ env.locals h (scr (Str.ofString "bindex" :: outScr) z (bsM [(Str.ofString "result", .int (ed (Ls a) (Ls b) b.length a.length) tr)] m₀)) → News h₀ env.locals h ((l, PySem.W.listOf (List.toArray us) k) :: bs) → Q .next { s with heap := h, toks := tk }) :
    wpAny (model prog w) A (pyIter (.ref r)) (fun it s₂ => LoopAtV prog w A h₀ env (Str.ofString "bindex") body Q E it s₂) E s := by
  subst hn
  rw [rowL_start (Ls a) (Ls b)] at hv
  refine range_stS (xs := outScr) (n := b.length) (OutS (Ls a) (Ls b) l bs) [(Str.ofString "result", .int (resI (Ls a) (Ls b) 0) tr)] hh hr (by omega) (by omega) F N ⟨us, k, tr, rfl, hv, rfl⟩ ?_ ?_ ?_
  · exact fa_cons hm fa_nil
  · rintro i u ps news₁ I o h tk z hj ⟨us, k, tr, rfl, hv, rfl⟩ hne F₁ N₁
    rw [show ((0 : Int) + (i : Int)) = (i : Int) by omega] at F₁
    have hl := hv.length
    rw [rowL_len, ← len_L] at hl
    exact turn i u us k tr I o h tk z hj (by omega) hv hl hne.1 hne.2 F₁ N₁
  · rintro z ps news₁ h tk ⟨us, k, tr, rfl, hv, rfl⟩ F₁ N₁
    unfold resI at F₁
    rw [if_neg (by omega), ← len_L] at F₁
    exact done us k tr h tk z F₁ N₁
theorem out_end {a b : List Nat} {l : Addr} {bs : List (Addr × Obj)} {i n : Nat} {us : List Value} {k : Nat} {r : Int} {tr : Tok} {h' : Heap} {L I : Addr} {o : Obj} {m' m₀ : Str → Option Value} {news' : List (Addr × Obj)} {tk : Nat}
    (F : Fr h₀ L h' m') (N : News h₀ L h' news') (hi : (I, o) ∈ news') (hl : (l, PySem.W.listOf (List.toArray us) k) ∈ news') (hv : IntsAre us (rowL a b (i + 1) 0)) (e2 : m' (Str.ofString "result") = some (.int r tr))
    (hr : r = rv a b i n) (hn : n = a.length) (h0 : 0 < n)
    (ho : ∀ y, y ≠ Str.ofString "bindex" → (∀ k ∈ outScr, y ≠ k) → y ≠ Str.ofString "result" → m' y = m₀ y) (hb : ∀ p ∈ bs, p ∈ news') (hne : AllNe I ((l, PySem.W.listOf (List.toArray us) k) :: bs)) :
    LG h₀ L (fun m₁ nx => ∃ ps', OutS a b l bs (i + 1) ps' nx ∧ HasS (Str.ofString "bindex") outScr m₁ m₀ ps') I o s Q .next { s with heap := h', toks := tk } := by
  have e : r = resI a b (i + 1) := by
    rw [hr]; unfold rv resI
    rw [if_neg (by omega), if_neg (by omega), hn]
  subst e
  refine st_endS [(Str.ofString "result", .int (resI a b (i + 1)) tr)] F N ⟨us, k, tr, rfl, hv, rfl⟩ (fa_cons e2 fa_nil) ?_ hi ?_ hne
  · intro y hy hs hp
    exact ho y hy hs (hp (Str.ofString "result", .int (resI a b (i + 1)) tr) (.head _))
  · intro p hp
    rcases List.mem_cons.mp hp with e | hp
    · rw [e]; exact hl
    · exact hb p hp
end
end Mine
end

section
local macro_rules | `(tactic| omega) => `(tactic| lia)
open PySem PySem.W PyProof.Rows PySem.Calls PySem.Spec
set_option Elab.async false
set_option maxRecDepth 100000
set_option maxHeartbeats 4000000
namespace Mine
section
variable {prog : Program} {w : World} {A : Around} {E : Value → Shared → Prop} {s : Shared} {h₀ : Heap} {L : Addr} {m : Str → Option Value} {news : List (Addr × Obj)} {l : Addr} {its : Array Value} {c : Nat} {xs : List Str} {Q : Value → Shared → Prop} {value slice : Expr}
theorem lst_is {h : Heap} (N : News h₀ L h news) (hm : (l, PySem.W.listOf its c) ∈ news) : h.IsList l its.toList.toArray := by
  rw [Array.toArray_toList]; exact News.isList N hm
theorem lst_len (N : News h₀ L s.heap news) (hm : (l, PySem.W.listOf its c) ∈ news) (hi : StrsAre its.toList xs) (hz : xs.length ≤ 16384) (h : ∀ t tk, Q (.int (xs.length : Int) t) { s with toks := tk }) :
    wpAny (model prog w) A (call (.builtin "len") [.ref l]) Q E s :=
  len_strsA (lst_is N hm) hi (by omega) (h _ _)
noncomputable def lastT (xs : List Str) : Str := xs.getD (xs.length - 1) Str.empty
theorem lst_last {t : Tok} (N : News h₀ L s.heap news) (hm : (l, PySem.W.listOf its c) ∈ news) (hi : StrsAre its.toList xs) (h0 : 0 < xs.length) (h : ∀ t, Q (.str (lastT xs) t) s)
    (hs : subscripted slice false (.ref l) (.int (-1) t) = operate [.ref l, .int (-1) t] (getItem (.ref l) (.int (-1) t)) := by with_unfolding_all rfl) :
    wpAny (model prog w) A (subscriptTail value slice (.ref l) (.int (-1) t)) Q E s := by
  refine item_strs_negR (lst_is N hm) hi (by decide) (by omega) (by decide) (fun t => ?_) hs
  have e : (-1 + (xs.length : Int)).toNat = xs.length - 1 := by omega
  rw [e]; exact h t
theorem lst_item {k : Int} {t : Tok} (N : News h₀ L s.heap news) (hm : (l, PySem.W.listOf its c) ∈ news) (hi : StrsAre its.toList xs) (h0 : 0 ≤ k) (h1 : k < (xs.length : Int)) (hz : xs.length ≤ 16384) (h : ∀ t, Q (.str (xs.getD k.toNat Str.empty) t) s)
    (hs : subscripted slice false (.ref l) (.int k t) = operate [.ref l, .int k t] (getItem (.ref l) (.int k t)) := by with_unfolding_all rfl) :
    wpAny (model prog w) A (subscriptTail value slice (.ref l) (.int k t)) Q E s :=
  item_strsR (lst_is N hm) hi h0 h1 (by omega) h hs
theorem strs_pick {vs : List Value} {xs : List Str} (h : StrsAre vs xs) (a b : Nat) : StrsAre ((vs.drop a).take b) ((xs.drop a).take b) := (h.drop' a).take' b
theorem strs_rev : ∀ {vs : List Value} {xs : List Str}, StrsAre vs xs → StrsAre vs.reverse xs.reverse
  | _, _, .nil => .nil
  | _, _, .cons x t r => by
    rw [List.reverse_cons, List.reverse_cons]
    exact kct_snoc (strs_rev r)
noncomputable def pickT (xs : List Str) (lo hi : Option Int) : List Str := (xs.drop (kms_lo lo xs.length)).take (kms_hi hi xs.length - kms_lo lo xs.length)
theorem lst_slice {vl vu : Value} {lo hi : Option Int} (F : Fr h₀ L s.heap m) (N : News h₀ L s.heap news) (hm : (l, PySem.W.listOf its c) ∈ news) (hi' : StrsAre its.toList xs) (pl : IsPart vl lo) (pu : IsPart vu hi) (hz : xs.length ≤ 1024)
    (h : ∀ D h' (js : Array Value) c', Fr h₀ L h' m → News h₀ L h' ((D, PySem.W.listOf js c') :: news) → (∀ p ∈ news, p.1 < D) → StrsAre js.toList (pickT xs lo hi) → Q (.ref D) { s with heap := h' })
    (hs : subscripted slice false (.ref l) (.ref s.heap.objs.size) = operate [.ref s.heap.objs.size, .ref l] (getItem (.ref l) (.ref s.heap.objs.size))) (ht : ∀ r, letTemporaryGo value (.ref l) r = pure ()) :
    wpAny (model prog w) A (subscriptTail value slice (.ref l) (.ref s.heap.objs.size)) Q E { s with heap := s.heap.push { cls := .type "slice", data := .fields #[vl, vu, .none] } } := by
  have hl := hi'.len_eq
  refine kms_slice_lit F N (News.isList N hm) pl pu rfl (fun D h' F' N' l1 => h D h' _ _ F' N' l1 ?_) hs ht ?_
  · rw [List.toList_toArray]
    unfold kms_pick pickT
    rw [hl]
    exact strs_pick hi' _ _
  · rw [← Array.length_toList, hl, sizeLine_eq]; omega
theorem lst_rev {vk : Value} {ops : List Value} (F : Fr h₀ L s.heap m) (N : News h₀ L s.heap news) (hm : (l, PySem.W.listOf its c) ∈ news) (hi' : StrsAre its.toList xs) (pk : IsPart vk (some (-1))) (hz : xs.length ≤ 1024)
    (h : ∀ D h' (js : Array Value) c', Fr h₀ L h' m → News h₀ L h' ((D, PySem.W.listOf js c') :: news) → (∀ p ∈ news, p.1 < D) → StrsAre js.toList xs.reverse → Q (.ref D) { s with heap := h' })
    (hs : subscripted slice false (.ref l) (.ref s.heap.objs.size) = operate ops (getItem (.ref l) (.ref s.heap.objs.size))) (ht : ∀ r, letTemporaryGo value (.ref l) r = pure ()) :
    wpAny (model prog w) A (subscriptTail value slice (.ref l) (.ref s.heap.objs.size)) Q E { s with heap := s.heap.push { cls := .type "slice", data := .fields #[.none, .none, vk] } } := by
  have hl := hi'.len_eq
  refine krv_lit F N (News.isList N hm) pk rfl (fun D h' F' N' l1 => h D h' _ _ F' N' l1 ?_) hs ht ?_
  · rw [List.toList_toArray]; exact strs_rev hi'
  · rw [← Array.length_toList, hl, sizeLine_eq]; omega
theorem lst_cat {l2 : Addr} {its2 : Array Value} {c2 : Nat} {ys : List Str} (F : Fr h₀ L s.heap m) (N : News h₀ L s.heap news) (hm : (l, PySem.W.listOf its c) ∈ news) (hm2 : (l2, PySem.W.listOf its2 c2) ∈ news) (hi : StrsAre its.toList xs) (hi2 : StrsAre its2.toList ys) (hz : xs.length ≤ 1024) (hz2 : ys.length ≤ 1024)
    (h : ∀ D h' (js : Array Value) c', Fr h₀ L h' m → News h₀ L h' ((D, PySem.W.listOf js c') :: news) → (∀ p ∈ news, p.1 < D) → StrsAre js.toList (xs ++ ys) → Q (.ref D) { s with heap := h' }) :
    wpAny (model prog w) A (binaryOp .Add (.ref l) (.ref l2)) Q E s := by
  have hl := hi.len_eq
  have hl2 := hi2.len_eq
  refine kmk_add_lit F N (News.isList N hm) (News.isList N hm2) rfl (fun D h' F' N' l1 => h D h' _ _ F' N' l1 ?_) ?_
  · rw [List.toList_toArray]; exact hi.append' hi2
  · rw [hl, hl2, sizeLine_eq]; omega
/-- the texts of a list are labels -/
noncomputable def Labs (xs : List Str) : Prop := ∀ x ∈ xs, Lab x
theorem Labs.take {xs : List Str} (h : Labs xs) (n : Nat) : Labs (xs.take n) := fun x m => h x (List.mem_of_mem_take m)
theorem Labs.drop {xs : List Str} (h : Labs xs) (n : Nat) : Labs (xs.drop n) := fun x m => h x (List.mem_of_mem_drop m)
theorem Labs.pick {xs : List Str} (h : Labs xs) (lo hi : Option Int) : Labs (pickT xs lo hi) := (h.drop _).take _
theorem Labs.rev {xs : List Str} (h : Labs xs) : Labs xs.reverse := fun x m => h x (List.mem_reverse.mp m)
theorem Labs.app {xs ys : List Str} (h : Labs xs) (k : Labs ys) : Labs (xs ++ ys) := fun x m => (List.mem_append.mp m).elim (h x) (k x)
theorem empty_lab : Lab Str.empty := ⟨by decide, by decide⟩
theorem Labs.getD {xs : List Str} (h : Labs xs) (i : Nat) : Lab (xs.getD i Str.empty) := by
  rw [List.getD_eq_getElem?_getD]
  cases e : xs[i]? with
  | none => exact empty_lab
  | some x => exact h x (List.mem_of_getElem? e)
theorem pick_len (xs : List Str) (lo hi : Option Int) : (pickT xs lo hi).length ≤ xs.length := by
  unfold pickT
  rw [List.length_take, List.length_drop]; omega
theorem lst_join {sep : Str} {t : Tok} (N : News h₀ L s.heap news) (hm : (l, PySem.W.listOf its c) ∈ news) (hi : StrsAre its.toList xs) (hL : Labs xs) (hz : xs.length ≤ 4) (hsep : sep.length ≤ 16) (h : ∀ t' k, Q (.str (Txt.join sep xs) t') { s with toks := k }) :
    wpAny (model prog w) A (call (.builtin "str.join") [.str sep t, .ref l]) Q E s :=
  join_labs (News.isList N hm) hi hsep hL hz h
end
end Mine
end

section
local macro_rules | `(tactic| omega) => `(tactic| lia)
open PySem PySem.W PyProof.Rows PySem.Calls PySem.Spec
set_option Elab.async false
set_option maxRecDepth 100000
set_option maxHeartbeats 4000000
namespace Mine
noncomputable def trimA (x : List Nat) (k q : Nat) : List Nat := (x.drop k).take ((x.drop k).length - q)
/-- what the distance's code tells -/
noncomputable def LevIs (x y : List Nat) (r : Int) : Prop :=
  (x = y → r = 0) ∧ (x ≠ y → ∀ k q, PreT x y k → PostT (x.drop k) (y.drop k) q →
    ((trimA x k q).length = 0 ∨ (trimA y k q).length = 0 → r = 2 * (((trimA x k q).length : Int) + (trimA y k q).length)) ∧
    (0 < (trimA x k q).length → (trimA x k q).length ≤ (trimA y k q).length → r = ed (trimA x k q) (trimA y k q) (trimA y k q).length (trimA x k q).length) ∧
    (0 < (trimA y k q).length → (trimA y k q).length < (trimA x k q).length → r = ed (trimA y k q) (trimA x k q) (trimA x k q).length (trimA y k q).length))
theorem lev_same {x y : Str} {r : Int} (h : LevIs (Ls x) (Ls y) r) (e : (x == y) = true) : (0 : Int) = r := by
  rw [beq_L, beq_iff_eq] at e
  exact (h.1 e).symm
theorem L_from9 (x : Str) (k : Nat) : Ls (Txt.slice x (some (k : Int)) none) = (Ls x).drop k := by
  rw [L_from0 (by omega), Int.toNat_natCast]
theorem cut_trim {x : Str} {k q : Nat} (h : q ≤ ((Ls x).drop k).length) : Ls (cutT (Txt.slice x (some (k : Int)) none) (-(q : Int))) = trimA (Ls x) k q := by
  rw [L_cutT (by rw [L_from9]; exact h), L_from9]; rfl
theorem post_le {x y : List Nat} {q : Nat} (h : PostT x y q) : q ≤ x.length ∧ q ≤ y.length := by
  have a := h.1.1; have b := h.1.2.1
  rw [List.length_reverse] at a b
  exact ⟨a, b⟩
theorem lev_none {x y : Str} {r : Int} {k q : Nat} (h : LevIs (Ls x) (Ls y) r) (e : (x == y) = false) (hk : PreT (Ls x) (Ls y) k) (hq : PostT (Ls (Txt.slice x (some (k : Int)) none)) (Ls (Txt.slice y (some (k : Int)) none)) q)
    (h0 : ((cutT (Txt.slice x (some (k : Int)) none) (-(q : Int))).length : Int) = 0 ∨ ((cutT (Txt.slice y (some (k : Int)) none) (-(q : Int))).length : Int) = 0) :
    2 * (((cutT (Txt.slice x (some (k : Int)) none) (-(q : Int))).length : Int) + ((cutT (Txt.slice y (some (k : Int)) none) (-(q : Int))).length : Int)) = r := by
  rw [beq_L, beq_eq_false_iff_ne] at e
  rw [L_from9, L_from9] at hq
  have hl := post_le hq
  rw [len_L, len_L, cut_trim hl.1, cut_trim hl.2] at h0 ⊢
  exact ((h.2 e k q hk hq).1 (by omega)).symm
theorem lev_full {x y p z : Str} {r : Int} {k q : Nat} (h : LevIs (Ls x) (Ls y) r) (e : (x == y) = false) (hk : PreT (Ls x) (Ls y) k) (hq : PostT (Ls (Txt.slice x (some (k : Int)) none)) (Ls (Txt.slice y (some (k : Int)) none)) q)
    (hs : Swap (cutT (Txt.slice x (some (k : Int)) none) (-(q : Int))) (cutT (Txt.slice y (some (k : Int)) none) (-(q : Int))) p z) (h0 : 0 < p.length) :
    ed (Ls p) (Ls z) z.length p.length = r := by
  rw [beq_L, beq_eq_false_iff_ne] at e
  rw [L_from9, L_from9] at hq
  have hl := post_le hq
  have H := h.2 e k q hk hq
  rcases hs with ⟨rfl, rfl, hle⟩ | ⟨rfl, rfl, hle⟩
  · rw [len_L, len_L, cut_trim hl.1, cut_trim hl.2] at *
    exact (H.2.1 h0 hle).symm
  · rw [len_L, len_L, cut_trim hl.1, cut_trim hl.2] at *
    exact (H.2.2 h0 hle).symm
theorem in_val {p z : Str} {i j : Nat} (hi : i < z.length) (hj : j < p.length) :
    (if ed (Ls p) (Ls z) i j + subL (Ls (Txt.item z (i : Int))) (Ls (Txt.item p (j : Int))) < (if (rowL (Ls p) (Ls z) i j).getD ((j : Int)).toNat 0 < rv (Ls p) (Ls z) i j then (rowL (Ls p) (Ls z) i j).getD ((j : Int)).toNat 0 else rv (Ls p) (Ls z) i j) + 2
      then ed (Ls p) (Ls z) i j + subL (Ls (Txt.item z (i : Int))) (Ls (Txt.item p (j : Int))) else (if (rowL (Ls p) (Ls z) i j).getD ((j : Int)).toNat 0 < rv (Ls p) (Ls z) i j then (rowL (Ls p) (Ls z) i j).getD ((j : Int)).toNat 0 else rv (Ls p) (Ls z) i j) + 2)
      = ed (Ls p) (Ls z) (i + 1) (j + 1) := by
  rw [len_L] at hi hj
  rw [rv_step, item_nat (by omega) (by omega), item_nat (by omega) (by omega), Int.toNat_natCast, Int.toNat_natCast, rowL_get hj]
  split <;> split <;> omega
theorem in_dist {p z : Str} {i j : Nat} (hj : j < p.length) : (rowL (Ls p) (Ls z) i j).getD ((j : Int)).toNat 0 = ed (Ls p) (Ls z) i (j + 1) := by
  rw [Int.toNat_natCast, rowL_get (by rw [← len_L]; exact hj)]
theorem MinOk.no {i n : Nat} {mn : Int} (h : MinOk i n mn) (hn : 0 < n) (hi : i < 30) (hl : 99 < mn) : False := by
  rcases h with h | h <;> omega
end Mine
end

section
local macro_rules | `(tactic| omega) => `(tactic| lia)
open PySem PySem.W PyProof.Rows PySem.Calls PySem.Spec
set_option Elab.async false
set_option maxRecDepth 100000
set_option maxHeartbeats 4000000
namespace Mine
theorem pre_pref {u v : List Nat} {q : Nat} (h : PreT u v q) (hp : v <+: u) : q = v.length := by
  obtain ⟨t, rfl⟩ := hp
  have h1 := h.1.1; have h2 := h.1.2.1
  rw [List.length_append] at h1
  rcases h.2 with e | e | e
  · rw [List.length_append] at e; omega
  · exact e
  · by_cases hq : q < v.length
    · rw [List.getD_eq_getElem?_getD, List.getD_eq_getElem?_getD, List.getElem?_append_left hq] at e
      exact absurd rfl e
    · omega
theorem pre_pref' {u v : List Nat} {q : Nat} (h : PreT u v q) (hp : u <+: v) : q = u.length := by
  obtain ⟨t, rfl⟩ := hp
  have h1 := h.1.1; have h2 := h.1.2.1
  rw [List.length_append] at h2
  rcases h.2 with e | e | e
  · exact e
  · rw [List.length_append] at e; omega
  · by_cases hq : q < u.length
    · rw [List.getD_eq_getElem?_getD, List.getD_eq_getElem?_getD, List.getElem?_append_left hq] at e
      exact absurd rfl e
    · omega
theorem trim_len (x : List Nat) (k q : Nat) : (trimA x k q).length = x.length - k - q := by
  unfold trimA; rw [List.length_take, List.length_drop]; omega
theorem drop_tail (a y : List Nat) {k : Nat} (h : k ≤ y.length) : ∃ p : List Nat, p.length = a.length ∧ (a ++ y).drop k = p ++ y.drop k := by
  refine ⟨(a ++ y.take k).drop k, by rw [List.length_drop, List.length_append, List.length_take]; omega, ?_⟩
  have e : a ++ y = (a ++ y.take k) ++ y.drop k := by rw [List.append_assoc, List.take_append_drop]
  rw [e, List.drop_append_of_le_length (by rw [List.length_append, List.length_take]; omega)]
theorem lev_tail (a y : List Nat) : LevIs (a ++ y) y (2 * (a.length : Int)) := by
  refine ⟨fun e => ?_, fun _ k q hk hq => ?_⟩
  · have := congrArg List.length e
    rw [List.length_append] at this; omega
  · have hy : k ≤ y.length := hk.1.2.1
    obtain ⟨p, hp, hd⟩ := drop_tail a y hy
    have hq' : q = (y.drop k).length := by
      have := pre_pref (q := q) (hq : PreT _ _ q) (by rw [hd, List.reverse_append]; exact List.prefix_append _ _)
      rwa [List.length_reverse] at this
    rw [List.length_drop] at hq'
    rw [trim_len, trim_len, List.length_append]
    refine ⟨fun _ => by omega, fun h1 h2 => by omega, fun h1 h2 => by omega⟩
theorem lev_head (p s : List Nat) : LevIs p (p ++ s) (2 * (s.length : Int)) := by
  refine ⟨fun e => ?_, fun _ k q hk hq => ?_⟩
  · have := congrArg List.length e
    rw [List.length_append] at this; omega
  · have hk' : k = p.length := pre_pref' hk (List.prefix_append _ _)
    have hq' := post_le hq
    rw [List.length_drop] at hq'
    rw [trim_len, trim_len, List.length_append]
    refine ⟨fun _ => by omega, fun h1 h2 => by omega, fun h1 h2 => by omega⟩
noncomputable def isLet (c : Nat) : Bool := c == 97 || c == 98
noncomputable def letL (l : List Nat) : Nat := (l.filter isLet).length
theorem letL_app (a b : List Nat) : letL (a ++ b) = letL a + letL b := by
  unfold letL; rw [List.filter_append, List.length_append]
theorem letL_none {l : List Nat} (h : ∀ c ∈ l, isLet c = false) : letL l = 0 := by
  unfold letL
  rw [List.filter_eq_nil_iff.mpr fun c m => by rw [h c m]; decide]; rfl
theorem letL_take {a : List Nat} {j : Nat} (h : j < a.length) : letL (a.take (j + 1)) = letL (a.take j) + (if isLet (a.getD j 0) then 1 else 0) := by
  rw [List.take_add_one, letL_app, List.getElem?_eq_getElem h, List.getD_eq_getElem?_getD, List.getElem?_eq_getElem h]
  show _ + letL [a[j]] = _ + (if isLet a[j] = true then 1 else 0)
  unfold letL
  cases hc : isLet a[j] with
  | true => rw [List.filter_cons_of_pos hc, if_pos rfl]; rfl
  | false => rw [List.filter_cons_of_neg (by rw [hc]; decide), if_neg (by decide)]; rfl
theorem up_not (c : Nat) : isLet (up1 c) = false := by
  unfold isLet up1
  split
  · simp; omega
  · simp; omega
theorem lo_up {c : Nat} (h : isLet c = true) : lo1 (up1 c) = lo1 c := by
  unfold isLet at h
  simp at h
  rcases h with rfl | rfl <;> decide
/-- a text's sign -/
noncomputable def Sg (c : Nat) : Prop := c = 46 ∨ c = 97 ∨ c = 98 ∨ c = 55 ∨ c = 48
theorem up_same {c : Nat} (h : Sg c) (hl : isLet c = false) : up1 c = c := by
  rcases h with rfl | rfl | rfl | rfl | rfl <;> revert hl <;> decide
theorem ed_symm (a b : List Nat) : ∀ i j, ed a b i j = ed b a j i
  | 0, 0 => rfl
  | 0, j + 1 => by rw [ed_zero]; rfl
  | i + 1, 0 => by rw [ed_zero]; rfl
  | i + 1, j + 1 => by
    have hs : ∀ x y : List Nat, subL x y = subL y x := by
      intro x y; unfold subL
      by_cases h : x = y
      · rw [if_pos h, if_pos h.symm]
      · rw [if_neg h, if_neg (Ne.symm h)]
        by_cases h2 : x.map lo1 = y.map lo1
        · rw [if_pos h2, if_pos h2.symm]
        · rw [if_neg h2, if_neg (Ne.symm h2)]
    rw [ed_step, ed_step, ed_symm a b (i + 1) j, ed_symm a b i (j + 1), ed_symm a b i j, hs]
    omega
  termination_by i j => i + j
theorem ed_low (a b : List Nat) (hb : ∀ c ∈ b, isLet c = false) : ∀ i j, i ≤ b.length → j ≤ a.length → (letL (a.take j) : Int) + 2 * ((i : Int) - j) ≤ ed a b i j
  | 0, j, _, _ => by
    show _ ≤ 2 * (j : Int)
    have : letL (a.take j) ≤ j := Nat.le_trans (List.length_filter_le _ _) (by rw [List.length_take]; omega)
    omega
  | i + 1, 0, _, _ => by rw [ed_zero, List.take_zero]; show ((0 : Nat) : Int) + _ ≤ _; omega
  | i + 1, j + 1, hi, hj => by
    have h1 := ed_low a b hb (i + 1) j hi (by omega)
    have h2 := ed_low a b hb i (j + 1) (by omega) hj
    have h3 := ed_low a b hb i j (by omega) (by omega)
    have ht := letL_take (a := a) (j := j) (by omega)
    rw [ed_step]
    have hs : ((if isLet (a.getD j 0) then 1 else 0 : Nat) : Int) ≤ subL [b.getD i 0] [a.getD j 0] := by
      have h0 := (subL_le [b.getD i 0] [a.getD j 0]).1
      split
      · rename_i hl
        have hne : ¬ ([b.getD i 0] = [a.getD j 0]) := fun e => by
          have e' := (List.cons.inj e).1
          have hm : b.getD i 0 ∈ b := by
            rw [List.getD_eq_getElem?_getD, List.getElem?_eq_getElem (by omega)]; exact List.getElem_mem _
          have := hb _ hm
          rw [e', hl] at this; cases this
        unfold subL
        rw [if_neg hne]; split <;> decide
      · exact h0
    have hle : ((if isLet (a.getD j 0) then 1 else 0 : Nat)) ≤ 1 := by split <;> omega
    push_cast at *
    omega
  termination_by i j => i + j
theorem ed_high (p a : List Nat) (ha : ∀ c ∈ a, Sg c) : ∀ j, j ≤ a.length → ed a ((p ++ a).map up1) (p.length + j) j ≤ 2 * (p.length : Int) + letL (a.take j)
  | 0, _ => by rw [ed_zero]; omega
  | j + 1, hj => by
    have ih := ed_high p a ha j (by omega)
    have ht := letL_take (a := a) (j := j) (by omega)
    rw [← Nat.add_assoc, ed_step]
    have hm : a.getD j 0 ∈ a := by
      rw [List.getD_eq_getElem?_getD, List.getElem?_eq_getElem (by omega)]; exact List.getElem_mem _
    have hb : ((p ++ a).map up1).getD (p.length + j) 0 = up1 (a.getD j 0) := by
      rw [List.getD_eq_getElem?_getD, List.getElem?_map, List.getElem?_append_right (by omega), Nat.add_sub_cancel_left, List.getElem?_eq_getElem (by omega), List.getD_eq_getElem?_getD, List.getElem?_eq_getElem (by omega)]
      rfl
    have hs : subL [((p ++ a).map up1).getD (p.length + j) 0] [a.getD j 0] ≤ ((if isLet (a.getD j 0) then 1 else 0 : Nat) : Int) := by
      rw [hb]
      cases hl : isLet (a.getD j 0) with
      | true =>
        rw [if_pos rfl]
        unfold subL
        split
        · decide
        · rw [if_pos (by show [lo1 (up1 _)] = [lo1 _]; rw [lo_up hl])]; decide
      | false =>
        rw [if_neg (by decide), up_same (ha _ hm) hl]
        unfold subL; rw [if_pos rfl]; decide
    push_cast at *
    omega
theorem ed_up (p a : List Nat) (ha : ∀ c ∈ a, Sg c) : ed a ((p ++ a).map up1) ((p ++ a).map up1).length a.length = 2 * (p.length : Int) + letL a := by
  have h1 := ed_high p a ha a.length (Nat.le_refl _)
  have h2 := ed_low a ((p ++ a).map up1) (fun c m => by obtain ⟨d, _, rfl⟩ := List.mem_map.mp m; exact up_not d) ((p ++ a).map up1).length a.length (Nat.le_refl _) (Nat.le_refl _)
  rw [List.take_length] at h1 h2
  rw [List.length_map, List.length_append] at *
  push_cast at *
  omega
theorem lev_up (p y : List Nat) (hy : ∀ c ∈ y, Sg c) : LevIs ((p ++ y).map up1) y (2 * (p.length : Int) + letL y) := by
  have hup : ∀ l : List Nat, ∀ c ∈ l.map up1, isLet c = false := fun l c m => by obtain ⟨d, _, rfl⟩ := List.mem_map.mp m; exact up_not d
  refine ⟨fun e => ?_, fun _ k q hk hq => ?_⟩
  · have h0 : letL y = 0 := letL_none fun c m => hup (p ++ y) c (by rw [e]; exact m)
    have := congrArg List.length e
    rw [List.length_map, List.length_append] at this
    rw [h0]; omega
  · have hky : k ≤ y.length := hk.1.2.1
    obtain ⟨p', hp', hd⟩ := drop_tail p y hky
    have hql := post_le hq
    have hqy := hql.2
    -- the middle
    have hx' : trimA ((p ++ y).map up1) k q = (p' ++ trimA y k q).map up1 := by
      unfold trimA
      rw [← List.map_drop, hd, List.length_map, ← List.map_take, List.length_append]
      congr 1
      rw [List.take_append, show (p'.length + (y.drop k).length - q) - p'.length = (y.drop k).length - q by omega, List.take_of_length_le (by omega)]
    have ey : y = y.take k ++ (trimA y k q ++ (y.drop k).drop ((y.drop k).length - q)) := by
      unfold trimA; rw [List.take_append_drop, List.take_append_drop]
    have h1 : letL (y.take k) = 0 := letL_none fun c m => by
      have e := hk.1.2.2
      rw [← e] at m
      exact hup (p ++ y) c (List.mem_of_mem_take m)
    have h2 : letL ((y.drop k).drop ((y.drop k).length - q)) = 0 := letL_none fun c m => by
      have e := hq.1.2.2
      have m' : c ∈ (y.drop k).reverse.take q := by
        rw [List.take_reverse]; exact List.mem_reverse.mpr m
      rw [← e] at m'
      have m2 := List.mem_reverse.mp (List.mem_of_mem_take m')
      exact hup (p ++ y) c (List.mem_of_mem_drop m2)
    have hl : letL y = letL (trimA y k q) := by
      have := congrArg letL ey
      rw [letL_app, letL_app, h1, h2] at this
      omega
    have hsg : ∀ c ∈ trimA y k q, Sg c := fun c m => hy c (List.mem_of_mem_drop (List.mem_of_mem_take m))
    have hlen : (trimA ((p ++ y).map up1) k q).length = p.length + (trimA y k q).length := by rw [hx', List.length_map, List.length_append, hp']
    have hed := ed_up p' (trimA y k q) hsg
    rw [← hx', hp'] at hed
    refine ⟨fun h => ?_, fun h3 h4 => ?_, fun h3 h4 => ?_⟩
    · have hz : trimA y k q = [] := List.eq_nil_of_length_eq_zero (by omega)
      have : letL y = 0 := by rw [hl, hz]; rfl
      rw [this, hlen]; rw [hz]; simp
    · rw [ed_symm, hed, hl]
    · rw [hed, hl]
end Mine
end

section
local macro_rules | `(tactic| omega) => `(tactic| lia)
open PySem PySem.W PyProof.Rows PySem.Calls
set_option Elab.async false
set_option maxRecDepth 100000
set_option maxHeartbeats 4000000
namespace Mine
section
variable {prog : Program} {w : World} {A : Around} {s : Shared} {h₀ : Heap} {L : Addr} {m : Str → Option Value} {env : Env} {elt : Expr} {x : Str} {scope : Scope} {cl : List (Str × Addr)} {S : List (Addr × Obj) → Prop} {P : Nat → Value → Prop} {Fin : List Value → List (Addr × Obj) → Prop} {news : List (Addr × Obj)}
/-- the turns of a list comprehension, all of them by one rule -/
theorem rest_inv {n : Nat} (J : Nat → List Value → List (Addr × Obj) → Prop) (h0 : J 0 [] news)
    (turn : ∀ i v I oI C oC D m₂ ys nw h tk (E' : Value → Shared → Prop), i < n → J i ys nw → P i v → LCg.NsObj oC m₂ → m₂ x = some v → Fr h₀ L h m → News h₀ L h ((I, oI) :: (C, oC) :: (D, LCg.lst ys) :: nw) → LCg.Off3 I C D nw → ((@Ne Nat I C) ∧ (@Ne Nat I D) ∧ (@Ne Nat C D)) →
      wpAny (model prog w) A (eval elt (compEnvC scope cl C env)) (LCg.CompEnd h₀ L m { s with heap := h, toks := tk } I oI C oC D (LCg.lst ys) S (fun y nw' => J (i + 1) (ys ++ [y]) nw')) E' { s with heap := h, toks := tk })
    (fin : ∀ ys nw, J n ys nw → Fin ys nw) : LCg.CompRest prog w A h₀ L m env elt x scope cl s S P Fin n 0 [] news := by
  have key : ∀ (j i : Nat) (ys : List Value) (nw : List (Addr × Obj)), i + j = n → J i ys nw → LCg.CompRest prog w A h₀ L m env elt x scope cl s S P Fin j i ys nw := by
    intro j
    induction j with
    | zero =>
      intro i ys nw hi hy
      have e : i = n := by omega
      subst e
      exact LCg.CompRest.zero (fin ys nw hy)
    | succ j ih =>
      intro i ys nw hi hy
      refine LCg.CompRest.succ ?_
      intro v I oI C oC D m₂ h tk E' hv hC hx F N off ne
      refine wpAny_mono (turn i v I oI C oC D m₂ ys nw h tk E' (by omega) hy hv hC hx F N off ne) (fun y s₂ hq => ?_) fun _ _ e => e
      obtain ⟨h', tk', nw', e, F', N', off', hS, hJ⟩ := hq
      exact ⟨h', tk', nw', e, F', N', off', hS, ih (i + 1) _ _ (by omega) hJ⟩
  exact key n 0 [] news (by omega) h0
theorem strs_at : ∀ {vs : List Value} {xs : List Str}, StrsAre vs xs → ∀ (i : Nat) (v : Value), vs[i]? = some v → ∃ z t, xs[i]? = some z ∧ v = .str z t
  | _, _, .nil, i, v, h => by simp at h
  | _, _, .cons z t r, 0, v, h => ⟨z, t, rfl, by simpa using h.symm⟩
  | _, _, .cons z t r, i + 1, v, h => by
    have h2 := strs_at r i v (by simpa using h)
    simpa using h2
theorem take_map_snoc {α β : Type} {g : α → β} {zs : List α} {i : Nat} {z : α} (h : zs[i]? = some z) : (zs.take (i + 1)).map g = (zs.take i).map g ++ [g z] := by
  rw [List.take_add_one, h]; simp
/-- texts to ints -/
theorem rest_lens {its : Array Value} {zs : List Str} (g : Str → Int) (hi : StrsAre its.toList zs)
    (turn : ∀ z t I oI C oC D m₂ ys h tk (E' : Value → Shared → Prop), z ∈ zs → LCg.NsObj oC m₂ → m₂ x = some (.str z t) → Fr h₀ L h m → News h₀ L h ((I, oI) :: (C, oC) :: (D, LCg.lst ys) :: news) → LCg.Off3 I C D news → ((@Ne Nat I C) ∧ (@Ne Nat I D) ∧ (@Ne Nat C D)) →
      wpAny (model prog w) A (eval elt (compEnvC scope cl C env)) (LCg.CompEnd h₀ L m { s with heap := h, toks := tk } I oI C oC D (LCg.lst ys) S (fun y nw' => nw' = news ∧ ∃ t', y = .int (g z) t')) E' { s with heap := h, toks := tk })
    (fin : ∀ ys, IntsAre ys (zs.map g) → Fin ys news) : LCg.CompRest prog w A h₀ L m env elt x scope cl s S (fun i v => its[i]? = some v) Fin its.size 0 [] news := by
  have hl := hi.length
  rw [Array.length_toList] at hl
  refine rest_inv (fun i ys nw => nw = news ∧ IntsAre ys ((zs.take i).map g)) ⟨rfl, by simpa using IntsAre.nil⟩ ?_ ?_
  · rintro i v I oI C oC D m₂ ys nw h tk E' hi' ⟨rfl, hy⟩ hv hC hx F N off ne
    obtain ⟨z, t, hz, rfl⟩ := strs_at hi i v (by simpa using hv)
    refine wpAny_mono (turn z t I oI C oC D m₂ ys h tk E' (List.mem_of_getElem? hz) hC hx F N off ne) (fun y s₂ hq => ?_) fun _ _ e => e
    obtain ⟨h', tk', nw', e, F', N', off', hS, rfl, t', rfl⟩ := hq
    refine ⟨h', tk', _, e, F', N', off', hS, rfl, ?_⟩
    rw [take_map_snoc hz]
    exact IntsAre.append hy (.cons _ t' .nil)
  · rintro ys nw ⟨rfl, hy⟩
    refine fin ys ?_
    rwa [hl, List.take_length] at hy
/-- ints to tuples of ints -/
theorem rest_tups {its : Array Value} {ks : List Int} (g : Int → List Int) (hi : IntsAre its.toList ks)
    (turn : ∀ k t I oI C oC D m₂ ys bs h tk (E' : Value → Shared → Prop), k ∈ ks → LCg.NsObj oC m₂ → m₂ x = some (.int k t) → Fr h₀ L h m → News h₀ L h ((I, oI) :: (C, oC) :: (D, LCg.lst ys) :: (bs ++ news)) → LCg.Off3 I C D (bs ++ news) → ((@Ne Nat I C) ∧ (@Ne Nat I D) ∧ (@Ne Nat C D)) →
      wpAny (model prog w) A (eval elt (compEnvC scope cl C env)) (LCg.CompEnd h₀ L m { s with heap := h, toks := tk } I oI C oC D (LCg.lst ys) S (fun y nw' => ∃ a ws, nw' = (a, tupO ws) :: (bs ++ news) ∧ y = .ref a ∧ IntsAre ws (g k))) E' { s with heap := h, toks := tk })
    (fin : ∀ ys bs, TupsAre (bs ++ news) ys (ks.map g) → Fin ys (bs ++ news)) : LCg.CompRest prog w A h₀ L m env elt x scope cl s S (fun i v => its[i]? = some v) Fin its.size 0 [] news := by
  have hl := hi.length
  rw [Array.length_toList] at hl
  refine rest_inv (fun i ys nw => ∃ bs, nw = bs ++ news ∧ TupsAre nw ys ((ks.take i).map g)) ⟨[], rfl, by simpa using TupsAre.nil⟩ ?_ ?_
  · rintro i v I oI C oC D m₂ ys nw h tk E' hi' ⟨bs, rfl, hy⟩ hv hC hx F N off ne
    obtain ⟨k, t, rfl, hk⟩ := IntsAre.at hi i v (by simpa using hv)
    refine wpAny_mono (turn k t I oI C oC D m₂ ys bs h tk E' (List.mem_of_getElem? hk) hC hx F N off ne) (fun y s₂ hq => ?_) fun _ _ e => e
    obtain ⟨h', tk', nw', e, F', N', off', hS, a, ws, rfl, rfl, hw⟩ := hq
    refine ⟨h', tk', _, e, F', N', off', hS, (a, tupO ws) :: bs, rfl, ?_⟩
    rw [take_map_snoc hk]
    exact TupsAre.snoc List.mem_cons_self hw (hy.sub fun p hp => List.mem_cons_of_mem _ hp)
  · rintro ys nw ⟨bs, rfl, hy⟩
    refine fin ys bs ?_
    rwa [hl, List.take_length] at hy
/-- ints to texts of a sort -/
theorem rest_strs {its : Array Value} {ks : List Int} (R : Int → Str → Prop) (hi : IntsAre its.toList ks)
    (turn : ∀ k t I oI C oC D m₂ ys h tk (E' : Value → Shared → Prop), k ∈ ks → LCg.NsObj oC m₂ → m₂ x = some (.int k t) → Fr h₀ L h m → News h₀ L h ((I, oI) :: (C, oC) :: (D, LCg.lst ys) :: news) → LCg.Off3 I C D news → ((@Ne Nat I C) ∧ (@Ne Nat I D) ∧ (@Ne Nat C D)) →
      wpAny (model prog w) A (eval elt (compEnvC scope cl C env)) (LCg.CompEnd h₀ L m { s with heap := h, toks := tk } I oI C oC D (LCg.lst ys) S (fun y nw' => nw' = news ∧ ∃ z t', y = .str z t' ∧ R k z)) E' { s with heap := h, toks := tk })
    (fin : ∀ ys zs, StrsAre ys zs → zs.length = ks.length → (∀ (i : Nat) (z : Str) (k : Int), zs[i]? = some z → ks[i]? = some k → R k z) → Fin ys news) : LCg.CompRest prog w A h₀ L m env elt x scope cl s S (fun i v => its[i]? = some v) Fin its.size 0 [] news := by
  have hl := hi.length
  rw [Array.length_toList] at hl
  refine rest_inv (fun i ys nw => nw = news ∧ ∃ zs, StrsAre ys zs ∧ zs.length = i ∧ (∀ (j : Nat) (z : Str) (k : Int), zs[j]? = some z → ks[j]? = some k → R k z)) ⟨rfl, [], .nil, rfl, by simp⟩ ?_ ?_
  · rintro i v I oI C oC D m₂ ys nw h tk E' hi' ⟨rfl, zs, hy, hz, hR⟩ hv hC hx F N off ne
    obtain ⟨k, t, rfl, hk⟩ := IntsAre.at hi i v (by simpa using hv)
    refine wpAny_mono (turn k t I oI C oC D m₂ ys h tk E' (List.mem_of_getElem? hk) hC hx F N off ne) (fun y s₂ hq => ?_) fun _ _ e => e
    obtain ⟨h', tk', nw', e, F', N', off', hS, rfl, z, t', rfl, hr⟩ := hq
    refine ⟨h', tk', _, e, F', N', off', hS, rfl, zs ++ [z], kct_snoc hy, by simp [hz], ?_⟩
    intro j z' k' hj hk'
    by_cases hlt : j < i
    · rw [List.getElem?_append_left (by omega)] at hj
      exact hR j z' k' hj hk'
    · have hji : j = i := by
        have := (List.getElem?_eq_some_iff.mp hj).1
        simp [hz] at this; omega
      subst hji
      rw [List.getElem?_append_right (by omega)] at hj
      simp [hz] at hj
      rw [hk] at hk'
      cases hk'; subst hj; exact hr
  · rintro ys nw ⟨rfl, zs, hy, hz, hR⟩
    exact fin ys zs hy (by omega) hR
/-- ends -/
theorem cend {I C D : Addr} {oI oC oD : Obj} {rest : Value → List (Addr × Obj) → Prop} {y : Value} {h' : Heap} {tk : Nat} {all : List (Addr × Obj)} {s₁ : Shared} (F : Fr h₀ L h' m) (N : News h₀ L h' all) (news' : List (Addr × Obj))
    (i1 : (I, oI) ∈ all) (i2 : (C, oC) ∈ all) (i3 : (D, oD) ∈ all) (sub : ∀ p ∈ news', p ∈ all) (off : LCg.Off3 I C D news') (hS : S news') (r : rest y news') :
    LCg.CompEnd h₀ L m s₁ I oI C oC D oD S rest y { s₁ with heap := h', toks := tk } :=
  LCg.CompEnd.intro F N news' (List.forall_mem_cons.mpr ⟨i1, List.forall_mem_cons.mpr ⟨i2, List.forall_mem_cons.mpr ⟨i3, sub⟩⟩⟩) off hS r
end
end Mine
end

section
local macro_rules | `(tactic| omega) => `(tactic| lia)
open PySem PySem.W PyProof.Rows PySem.Calls
set_option Elab.async false
set_option maxRecDepth 100000
set_option maxHeartbeats 8000000
namespace Mine

theorem con_lev (x y : Str) (t u v : Tok) (hx : Tx x) (hy : Tx y) (bx : x.length ≤ 30) (by' : y.length ≤ 30) (r : Int) (hr : LevIs (Ls x) (Ls y) r) (news : List (Addr × Obj)) : Con 173 [.str x t, .str y u, .int 99 v] news 8 100 (RetV news fun u => .int r u) := by
  k_with_none
  (k_with "exec Assign" => k_fold)
  (k_with "exec If" => k_fold)
  (k_with "exec While" => k_fold)
  (k_with "exec For" => k_fold)
  (k_with "storeName" => (k_here; k_dflt ((refine' storeM ?qFq ?qNq ?_ ?qaq ?qbq; (case qFq => k_asm); (case qNq => k_asm); (case qaq => rfl); (case qbq => rfl); k_whole; intro h' tk m₁ F' N'; (try k_sweep)))))
  (k_with "ho7" => first | (refine (if_neg (by assumption)).trans ?_; (k_extra "ho7")) | exact rfl)
  (k_with "sub7" => first | (with_reducible exact hp) | (refine List.mem_cons_of_mem _ ?_; (k_extra "sub7")) | (simp only [List.mem_cons, List.mem_append, hp, or_true, true_or]))
  (k_with "tx" => first | with_reducible assumption | with_reducible exact Tx.lower (by k_extra "tx") | with_reducible exact Tx.upper (by k_extra "tx") | with_reducible exact Tx.slice (by k_extra "tx") _ _)
  (k_with "getMethod ref" => (k_here; (with_reducible show wpAny _ _ (getMethod (Value.ref 50) _ _) _ _ _); k_dflt (refine' search_get ?qXq ?_; (case qXq => k_in); k_whole)))
  (k_with "call builtin:re.Pattern.search" => (k_here; k_dflt (first
  | (refine' search_none ?qqq ?qXq ?qFq ?qNq ?qxq ?_; (case qqq => assumption); (case qXq => k_in); (case qFq => k_asm); (case qNq => k_asm); (case qxq => k_extra "tx"); k_whole)
  | (refine' search_some ?qqq ?qXq ?qFq ?qNq ?qxq ?_; (case qqq => assumption); (case qXq => k_in); (case qFq => k_asm); (case qNq => k_asm); (case qxq => k_extra "tx"); k_whole; intro mt' mo' h' F' N' l1 l2; (try k_lt l1); (try k_lt2 l2); (try k_sweep))
  | (refine search_split ?_ ?_ <;> intros))))
  (k_with "truthy ref" => (k_here; k_dflt (refine' truthy_match ?qNq ?qqq ?_; (case qNq => k_asm); (case qqq => k_mem); k_whole)))
  (k_with "getMethod ref" => (k_here; k_dflt (refine' span_get ?qNq ?qqq ?_; (case qNq => k_asm); (case qqq => k_mem); k_whole)))
  (k_with "call builtin:re.Match.span" => (k_here; k_dflt (refine' span_call ?qFq ?qNq ?qqq ?quq ?_; (case qFq => k_asm); (case qNq => k_asm); (case qqq => k_mem); (case quq => k_mem); k_whole; intro a' h' t1' t2' tk' F' N' l1; (try k_lt l1); (try k_sweep))))
  (k_with "getAttr ref" => (k_here; (with_reducible show wpAny _ _ (getAttr (Value.ref _) (PySem.Str.ofString "string") _) _ _ _); k_dflt (refine' string_attr ?qNq ?qqq ?_; (case qNq => k_asm); (case qqq => k_mem); k_whole)))
  (k_with "enter9" => (refine' code_m ?qk1q ?qk2q ?qk3q ?qk4q ?qk5q ?qkAq ?qkFq ?qkKq ?qk6q ?qk7q ?qk8q ?qk9q ?qkBq ?_ ?qc2q ?qc3q ?qc4q ?qc5q; (case qkAq => exact rfl); (case qkFq => exact rfl); (case qkKq => first | exact rfl | assumption); (case qk1q => k_asm); (case qk2q => k_asm); (case qk3q => k_asm); (case qk4q => k_asm); (case qk5q => k_asm); (case qk6q => k_is); (case qk7q => k_is); (case qk8q => (first | omega | (dsimp only [Around.deeper, Around.in1, ktrTop]; omega) | ktr_room)); (case qk9q => first | exact BindsTo.of_eq rfl | exact binds_K (by k_in) rfl (by k_is) rfl rfl rfl); (case qc5q => decide); (case qkBq => exact locs rfl); (case qc2q => exact rfl); (case qc3q => exact rfl); (case qc4q => exact rfl); k_whole; intro g' L' h' tk' FG' m' F' N' B' X' T'; (try dsimp only); (try k_lift B'); (try k_fold)))
  (k_with "ho9" => (intro y9 a9 b9; simp only [List.forall_mem_cons, List.forall_mem_nil, and_true] at b9; simp only [bsM, a9, b9, if_false]))
  (k_with "ne9" => ((try simp only [AllNe, and_true, ne_eq] at *); first | assumption | trivial | grind))
  (k_with "k_mem9w" => (with_reducible (refine List.mem_cons_of_mem _ ?_); k_mem))
  (k_with "call ref" => (k_here; (with_reducible show wpAny _ _ (call (Value.ref 166) _) _ _ _); k_dflt (refine' Con.use (con_sub _ _ _ _ ?qhxq ?qhyq _) ?qBq ?qFq ?qXq ?qNq ?qTq ?qhkq ?qh1q ?qh2q ?_; (case qFq => k_asm); (case qNq => k_asm); (case qhxq => k_extra "tx"); (case qhyq => k_extra "tx"); (case qBq => k_asm); (case qXq => k_asm); (case qTq => k_asm); (case qhkq => first | exact rfl | assumption); (case qh1q => (first | omega | (dsimp only [Around.deeper, Around.in1, ktrTop]; omega))); (case qh2q => (first | omega | (dsimp only [Around.deeper, Around.in1, ktrTop]; omega))); k_whole; intro t' h' tk' F' N'; (try k_sweep); (try dsimp only); (try k_fold))))
  (k_with "tx" => first | with_reducible assumption | (with_reducible refine' item_tx ?_ ?_ ?_; (focus k_extra "tx"); (focus omega); (focus omega)) | (with_reducible refine' Tx.cut ?_ _; (focus k_extra "tx")) | (with_reducible refine' Tx.slice ?_ _ _; (focus k_extra "tx")))
  (k_with "exec While BoolOp" => (k_here; k_dflt (first | (refine' pre_loop ?qhxq ?qhyq ?qFq ?qNq ?qhmq ?qhaq ?qhbq ?qhnq ?_ ?_; (case qFq => k_asm); (case qNq => k_asm); (case qhmq => exact rfl); (case qhaq => exact rfl); (case qhbq => exact rfl); (case qhnq => exact rfl); (case qhxq => k_extra "tx"); (case qhyq => k_extra "tx")) | (refine' post_loop ?qhxq ?qhyq ?qFq ?qNq ?qhmq ?qhaq ?qhbq ?_ ?_; (case qFq => k_asm); (case qNq => k_asm); (case qhmq => exact rfl); (case qhaq => exact rfl); (case qhbq => exact rfl); (case qhxq => k_extra "tx"); (case qhyq => k_extra "tx"))); (all_goals intros); (all_goals (try k_sweep)); (all_goals (try k_fold))))
  (k_with "pre9" => first | (with_reducible refine' pre_step ?qaq ?qbq ?qcq ?qdq; (case qaq => with_reducible assumption); (case qdq => with_reducible assumption); (case qbq => omega); (case qcq => omega)) | (with_reducible refine' pre_ne ?qaq ?qbq ?qcq ?qdq; (case qaq => with_reducible assumption); (case qdq => with_reducible assumption); (case qbq => omega); (case qcq => omega)) | (with_reducible refine' pre_x ?qaq ?qbq; (case qaq => with_reducible assumption); (case qbq => omega)) | (with_reducible refine' pre_y ?qaq ?qbq; (case qaq => with_reducible assumption); (case qbq => omega)) | (with_reducible refine' post_step ?qaq ?qbq ?qcq ?qdq; (case qaq => with_reducible assumption); (case qdq => with_reducible assumption); (case qbq => omega); (case qcq => omega)) | (with_reducible refine' post_ne ?qaq ?qbq ?qcq ?qdq; (case qaq => with_reducible assumption); (case qdq => with_reducible assumption); (case qbq => omega); (case qcq => omega)) | (with_reducible refine' post_x ?qaq ?qbq; (case qaq => with_reducible assumption); (case qbq => omega)) | (with_reducible refine' post_y ?qaq ?qbq; (case qaq => with_reducible assumption); (case qbq => omega)))
  (k_with "WE" => (k_here; k_dflt (refine' we_end ?qFq ?qNq ?qhsq ?qe1q ?qhoq ?qhjq ?qhPq; (case qFq => k_asm); (case qNq => k_asm); (case qhsq => first | exact fun _ h => h | (intro p hp; k_extra "sub7")); (case qe1q => exact rfl); (case qhoq => (intro y a; k_extra "ho7")); (case qhjq => first | omega | rfl); (case qhPq => k_extra "pre9"))))
  (k_with "WB" => (k_here; k_dflt (refine' wb_end ?qFq ?qNq ?qhsq ?qe1q ?qhoq ?qhjq ?qhPq; (case qFq => k_asm); (case qNq => k_asm); (case qhsq => first | exact fun _ h => h | (intro p hp; k_extra "sub7")); (case qe1q => exact rfl); (case qhoq => (intro y a; k_extra "ho7")); (case qhjq => first | omega | rfl); (case qhPq => k_extra "pre9"))))
  (k_with "eval BoolOp" => (k_here; k_dflt (refine or_none ?_)))
  (k_with "subscriptTail Name Slice str ref" => (k_here; (with_reducible show wpAny _ _ (subscriptTail _ (PySem.Expr.Slice _ (some (PySem.Expr.BoolOp _ _ _)) _ _) _ _) _ _ _); (with_reducible rename Fr _ _ _ _ => F'); (with_reducible rename News _ _ _ _ => N'); k_dflt ((refine slice_or (hsz := ?qhszq) (s := ⟨_, _, _, _, _⟩) F' N' ?_); (case qhszq => size_fits); intro _ _ _ _ _ _)))
  (k_with "tx" => first | (with_reducible refine' Tx.cut ?_ _; (focus k_extra "tx")))
  (k_with "call type:list" => (k_here; k_dflt (refine' list_range2 ?qhhq ?qFq ?qNq ?qhrq ?qhbq ?qhzq ?_; (case qhhq => exact rfl); (case qFq => k_asm); (case qNq => k_asm); (case qhrq => assumption); (case qhbq => (first | rfl | omega)); (case qhzq => omega)); intro D' us' c' h' tk' F' N' l1 hi'; (try k_lt l1); (try k_sweep)))
  (k_with "exec If" => (k_here; (with_reducible show wpAny _ _ (exec (PySem.Stmt.If _ [PySem.Stmt.Assign [PySem.Expr.Tuple _ _ _] _ _] [] _) _) _ _ _); k_dflt (refine' swap_if ?qFq ?qNq ?qhaq ?qhbq ?qhxq ?qhyq ?qh0xq ?qh0yq ?qhBxq ?qhByq ?_ ?_; (case qFq => k_asm); (case qNq => k_asm); (case qhaq => exact rfl); (case qhbq => exact rfl); (case qhxq => k_extra "tx"); (case qhyq => k_extra "tx"); (case qh0xq => omega); (case qh0yq => omega); (case qhBxq => omega); (case qhByq => omega); all_goals intros; (all_goals (try k_sweep)); (all_goals (try k_fold)))))
  (k_with "WB" => (k_here; (with_reducible show WB _ _ _ (SwapK _ _ _ _) _ _); k_dflt (refine' swap_end ?qFq ?qNq ?qhsq ?qe1q ?qe2q ?qhoq ?qhSq; (case qFq => k_asm); (case qNq => k_asm); (case qhsq => first | exact fun _ h => h | (intro p hp; k_extra "sub7")); (case qe1q => exact rfl); (case qe2q => exact rfl); (case qhoq => (intro y a b; k_extra "ho7")); (case qhSq => first | (with_reducible refine' Swap.yes ?_; omega) | (with_reducible refine' Swap.no ?_; omega)))))
  (k_with "sub9" => (intro p hp; k_extra "sub7"))
  (k_with "pyIter ref" => (k_here; k_dflt (first
  | (refine' lev_outer ?qhhq ?qhrq ?qhnq ?qhaq ?qhbq ?qhzq ?qFq ?qNq ?qhvq ?qhb0q ?qhmq ?_ ?_; (case qFq => k_asm); (case qNq => k_asm); (case qhhq => exact rfl); (case qhrq => assumption); (case qhaq => exact rfl); (case qhbq => exact rfl); (case qhnq => first | rfl | omega); (case qhzq => omega); (case qhvq => with_reducible assumption); (case qhb0q => omega); (case qhmq => exact rfl))
  | (refine' lev_inner ?qhhq ?qhrq ?qhnq ?qhzq ?qFq ?qNq ?qhvq ?qhmq ?qhdq ?qhreq ?_ ?_; (case qFq => k_asm); (case qNq => k_asm); (case qhhq => exact rfl); (case qhrq => assumption); (case qhnq => first | rfl | omega); (case qhzq => omega); (case qhvq => with_reducible assumption); (case qhmq => exact ⟨rfl, rfl, rfl⟩); (case qhdq => omega); (case qhreq => omega))); (all_goals intros); (all_goals (try simp only [AllLt, AllNe, and_true, List.cons_append] at *)); (all_goals (try k_sweep)); (all_goals (try k_fold))))
  (k_with "LG" => (k_here; k_dflt (first
  | (refine' in_end ?qFq ?qNq ?qhiq ?qhlq ?qhvq ?qe1q ?qe2q ?qe3q ?qhdq ?qhrq ?qhnsq ?qhmnq ?qhoq ?qhbq ?qhneq; (case qFq => k_asm); (case qNq => k_asm); (case qhiq => k_mem); (case qhlq => k_mem); (case qhvq => l_ints); (case qe1q => exact rfl); (case qe2q => exact rfl); (case qe3q => exact rfl); (case qhdq => k_extra "lv9"); (case qhrq => k_extra "lv9"); (case qhnsq => rfl); (case qhmnq => k_extra "lv9"); (case qhoq => (intro y a b c d e; (have b1 := b _ (.head _)); (have b2 := b _ (.tail _ (.head _))); k_extra "ho7")); (case qhbq => kstt_sub); (case qhneq => k_extra "ne9"))
  | (refine' out_end ?qFq ?qNq ?qhiq ?qhlq ?qhvq ?qe2q ?qhrq ?qhnq ?qh0q ?qhoq ?qhbq ?qhneq; (case qFq => k_asm); (case qNq => k_asm); (case qhiq => k_mem); (case qhlq => k_mem); (case qhvq => with_reducible assumption); (case qe2q => exact rfl); (case qhrq => exact rfl); (case qhnq => k_extra "lv9"); (case qh0q => omega); (case qhoq => (intro y a b c; (have b1 := b _ (.head _)); (have b2 := b _ (.tail _ (.head _))); (have b3 := b _ (.tail _ (.tail _ (.head _)))); (have b4 := b _ (.tail _ (.tail _ (.tail _ (.head _))))); (have b5 := b _ (.tail _ (.tail _ (.tail _ (.tail _ (.head _)))))); (have b6 := b _ (.tail _ (.tail _ (.tail _ (.tail _ (.tail _ (.head _))))))); k_extra "ho7")); (case qhbq => kstt_sub); (case qhneq => k_extra "ne9")))))
  (k_with "lv9" => first | (with_reducible refine' MinOk.lt ?qhq ?qhrq ?qhlq; (case qhq => with_reducible assumption); (case qhrq => exact in_val (by with_reducible assumption) (by with_reducible assumption)); (case qhlq => with_reducible assumption)) | (with_reducible refine' MinOk.ge ?qhq ?qhrq ?qhlq; (case qhq => with_reducible assumption); (case qhrq => exact in_val (by with_reducible assumption) (by with_reducible assumption)); (case qhlq => omega)) | (with_reducible exact in_val (by with_reducible assumption) (by with_reducible assumption)) | (with_reducible exact in_dist (by with_reducible assumption)) | (with_reducible exact len_L _) | omega | rfl)
  have hx1 := hx.len
  have hy1 := hy.len
  unfold Con
  k_fill
  intro w mean mg mb dp un gd cn cs a ccd cl outer A₀ base h₀ L m s Q E B F X N T hk hd9 hu ret
  refine wpAny_call ?_
  k_dflt (k_extra "enter9")
  k_steps
  all_goals first
    | (exfalso; exact MinOk.no (by with_reducible assumption) (by with_reducible assumption) (by omega) (by with_reducible assumption))
    | (refine' endI ret ?F ?N ?S ?e; (case F => k_asm); (case N => k_asm); (case S => first | exact fun _ h => h | (intro p hp; k_extra "sub7")); (case e => first
        | (with_reducible exact lev_same hr (by with_reducible assumption))
        | (with_reducible exact lev_full hr (by with_reducible assumption) (by with_reducible assumption) (by with_reducible assumption) (by with_reducible assumption) (by with_reducible assumption))
        | (with_reducible exact lev_none hr (by with_reducible assumption) (by with_reducible assumption) (by with_reducible assumption) (by omega))))
    | (exfalso; omega)

end Mine
end

section
local macro_rules | `(tactic| omega) => `(tactic| lia)
open PySem PySem.W PyProof.Rows PySem.Calls
set_option Elab.async false
set_option maxRecDepth 100000
set_option maxHeartbeats 8000000
namespace Mine

noncomputable def figs (xs : List Str) : Bool := [Str.ofString "7", Str.ofString "70"].any fun z => z == lastT xs
theorem figs_is (xs : List Str) : ([Str.ofString "7", Str.ofString "70"].any fun z => z == lastT xs) = figs xs := rfl
theorem con_mat (x y : Str) (t u v : Tok) (hx : Ho x) (hy : Tx y) (k : Int) (lb : Addr) (its : Array Value) (c : Nat) (xs : List Str) (hi : StrsAre its.toList xs) (hL : Labs xs) (h2 : 2 ≤ xs.length) (h4 : xs.length ≤ 4) (hk1 : 1 ≤ k) (hk2 : k < xs.length) (f1 : udmL (Ls (x ++ Str.ofString "a")) (Ls y) = false) (f2 : udmL (Ls (Txt.upper x)) (Ls y) = (y == x || !(figs xs)))
    (f3 : dmL (Ls (Txt.upper x)) (Ls y) = (y == x || (!(figs xs) && (xs.getD 0 Str.empty != Str.ofString "") && (lastT xs != Str.ofString "") && (xs.getD k.toNat Str.empty != Str.ofString ""))))
    (news : List (Addr × Obj)) (hm : (lb, PySem.W.listOf its c) ∈ news) : Con 211 [.str x t, .ref lb, .int k u, .str y v] news 12 80 (RetV news fun _ => .bool true) := by
  k_with_none
  (k_with "exec Assign" => k_fold)
  (k_with "exec If" => k_fold)
  (k_with "exec While" => k_fold)
  (k_with "exec For" => k_fold)
  (k_with "storeName" => (k_here; k_dflt ((refine' storeM ?qFq ?qNq ?_ ?qaq ?qbq; (case qFq => k_asm); (case qNq => k_asm); (case qaq => rfl); (case qbq => rfl); k_whole; intro h' tk m₁ F' N'; (try k_sweep)))))
  (k_with "sub7" => first | (with_reducible exact hp) | (refine List.mem_cons_of_mem _ ?_; (k_extra "sub7")) | (simp only [List.mem_cons, List.mem_append, hp, or_true, true_or]))
  (k_with "tx" => first | with_reducible assumption | with_reducible exact Tx.lower (by k_extra "tx") | with_reducible exact Tx.upper (by k_extra "tx") | with_reducible exact Tx.slice (by k_extra "tx") _ _)
  (k_with "getMethod ref" => (k_here; (with_reducible show wpAny _ _ (getMethod (Value.ref 50) _ _) _ _ _); k_dflt (refine' search_get ?qXq ?_; (case qXq => k_in); k_whole)))
  (k_with "call builtin:re.Pattern.search" => (k_here; k_dflt (first
  | (refine' search_none ?qqq ?qXq ?qFq ?qNq ?qxq ?_; (case qqq => assumption); (case qXq => k_in); (case qFq => k_asm); (case qNq => k_asm); (case qxq => k_extra "tx"); k_whole)
  | (refine' search_some ?qqq ?qXq ?qFq ?qNq ?qxq ?_; (case qqq => assumption); (case qXq => k_in); (case qFq => k_asm); (case qNq => k_asm); (case qxq => k_extra "tx"); k_whole; intro mt' mo' h' F' N' l1 l2; (try k_lt l1); (try k_lt2 l2); (try k_sweep))
  | (refine search_split ?_ ?_ <;> intros))))
  (k_with "truthy ref" => (k_here; k_dflt (refine' truthy_match ?qNq ?qqq ?_; (case qNq => k_asm); (case qqq => k_mem); k_whole)))
  (k_with "getMethod ref" => (k_here; k_dflt (refine' span_get ?qNq ?qqq ?_; (case qNq => k_asm); (case qqq => k_mem); k_whole)))
  (k_with "call builtin:re.Match.span" => (k_here; k_dflt (refine' span_call ?qFq ?qNq ?qqq ?quq ?_; (case qFq => k_asm); (case qNq => k_asm); (case qqq => k_mem); (case quq => k_mem); k_whole; intro a' h' t1' t2' tk' F' N' l1; (try k_lt l1); (try k_sweep))))
  (k_with "getAttr ref" => (k_here; (with_reducible show wpAny _ _ (getAttr (Value.ref _) (PySem.Str.ofString "string") _) _ _ _); k_dflt (refine' string_attr ?qNq ?qqq ?_; (case qNq => k_asm); (case qqq => k_mem); k_whole)))
  (k_with "enter9" => (refine' code_m ?qk1q ?qk2q ?qk3q ?qk4q ?qk5q ?qkAq ?qkFq ?qkKq ?qk6q ?qk7q ?qk8q ?qk9q ?qkBq ?_ ?qc2q ?qc3q ?qc4q ?qc5q; (case qkAq => exact rfl); (case qkFq => exact rfl); (case qkKq => first | exact rfl | assumption); (case qk1q => k_asm); (case qk2q => k_asm); (case qk3q => k_asm); (case qk4q => k_asm); (case qk5q => k_asm); (case qk6q => k_is); (case qk7q => k_is); (case qk8q => (first | omega | (dsimp only [Around.deeper, Around.in1, ktrTop]; omega) | ktr_room)); (case qk9q => first | exact BindsTo.of_eq rfl | exact binds_K (by k_in) rfl (by k_is) rfl rfl rfl); (case qc5q => decide); (case qkBq => exact locs rfl); (case qc2q => exact rfl); (case qc3q => exact rfl); (case qc4q => exact rfl); k_whole; intro g' L' h' tk' FG' m' F' N' B' X' T'; (try dsimp only); (try k_lift B'); (try k_fold)))
  (k_with "ho9" => (intro y9 a9 b9; simp only [List.forall_mem_cons, List.forall_mem_nil, and_true] at b9; simp only [bsM, a9, b9, if_false]))
  (k_with "ne9" => ((try simp only [AllNe, and_true, ne_eq] at *); first | assumption | trivial | grind))
  (k_with "k_mem9w" => (with_reducible (refine List.mem_cons_of_mem _ ?_); k_mem))
  (k_with "k_mem9w" => (with_reducible assumption))
  (k_with "labs" => first | with_reducible assumption | (with_reducible refine' Labs.pick ?_ _ _; (focus k_extra "labs")) | (with_reducible refine' Labs.rev ?_; (focus k_extra "labs")) | (with_reducible refine' Labs.app ?_ ?_; (focus k_extra "labs"); (focus k_extra "labs")))
  (k_with "len4" => first | omega | (have hp4 := pick_len; (simp only [List.length_append, List.length_reverse]); grind))
  (k_with "call builtin:len" => (k_here; (with_reducible show wpAny _ _ (call (Value.builtin "len") [Value.ref _]) _ _ _); k_dflt (refine' lst_len ?qNq ?qqq ?qiq ?qzq ?_; (case qNq => k_asm); (case qqq => k_mem); (case qiq => with_reducible assumption); (case qzq => k_extra "len4"); k_whole); intro _ _))
  (k_with "subscriptTail" => (k_here; (with_reducible show wpAny _ _ (subscriptTail _ _ (Value.ref _) (Value.int _ _)) _ _ _); k_dflt (refine' lst_item ?qNq ?qqq ?qiq ?qh0q ?qh1q ?qzq ?_ ?qhsq; (case qNq => k_asm); (case qqq => k_mem); (case qiq => with_reducible assumption); (case qh0q => omega); (case qh1q => omega); (case qzq => omega); (case qhsq => with_unfolding_all rfl); k_whole); intro _))
  (k_with "subscriptTail" => (k_here; (with_reducible show wpAny _ _ (subscriptTail _ _ (Value.ref _) (Value.int (-1) _)) _ _ _); k_dflt (refine' lst_last ?qNq ?qqq ?qiq ?qh0q ?_ ?qhsq; (case qNq => k_asm); (case qqq => k_mem); (case qiq => with_reducible assumption); (case qh0q => omega); (case qhsq => with_unfolding_all rfl); k_whole); intro _))
  (k_with "subscriptTail Name Slice ref ref" => (k_here; (with_reducible show wpAny _ _ (subscriptTail _ (PySem.Expr.Slice _ _ none _) (Value.ref _) (Value.ref _)) _ _ _); k_dflt (refine' lst_slice ?qFq ?qNq ?qlq ?qiq ?qpq ?qqq ?qzq ?_ ?qsq ?qtq; (case qFq => k_asm); (case qNq => k_asm); (case qlq => k_mem); (case qiq => with_reducible assumption); (case qpq => kmk_part); (case qqq => kmk_part); (case qzq => k_extra "len4"); (case qsq => with_unfolding_all rfl); (case qtq => kmk_pure)); intro D' h' js' c' F' N' l1 hi'; (try k_lt l1); (try k_sweep)))
  (k_with "subscriptTail Name Slice ref ref" => (k_here; (with_reducible show wpAny _ _ (subscriptTail _ (PySem.Expr.Slice none none (some _) _) (Value.ref _) (Value.ref _)) _ _ _); k_dflt (refine' lst_rev ?qFq ?qNq ?qlq ?qiq ?qpq ?qzq ?_ ?qsq ?qtq; (case qFq => k_asm); (case qNq => k_asm); (case qlq => k_mem); (case qiq => with_reducible assumption); (case qpq => kmk_part); (case qzq => k_extra "len4"); (case qsq => with_unfolding_all rfl); (case qtq => kmk_pure)); intro D' h' js' c' F' N' l1 hi'; (try k_lt l1); (try k_sweep)))
  (k_with "call builtin:str.join" => (k_here; (with_reducible show wpAny _ _ (call (Value.builtin "str.join") [Value.str _ _, Value.ref _]) _ _ _); k_dflt (refine' lst_join ?qNq ?qqq ?qiq ?qhLq ?qzq ?qhsq ?_; (case qNq => k_asm); (case qqq => k_mem); (case qiq => with_reducible assumption); (case qhLq => k_extra "labs"); (case qzq => k_extra "len4"); (case qhsq => decide); k_whole); intro _ _))
  (k_with "binaryOp Add ref ref" => (k_here; (with_reducible show wpAny _ _ (binaryOp _ (Value.ref _) (Value.ref _)) _ _ _); k_dflt (refine' lst_cat ?qFq ?qNq ?qaq ?qbq ?qiq ?qjq ?qyq ?qzq ?_; (case qFq => k_asm); (case qNq => k_asm); (case qaq => k_mem); (case qbq => k_mem); (case qiq => with_reducible assumption); (case qjq => with_reducible assumption); (case qyq => k_extra "len4"); (case qzq => k_extra "len4")); intro D' h' js' c' F' N' l1 hI'; (try k_lt l1); (try k_sweep)))
  (k_with "call ref" => (k_here; (with_reducible show wpAny _ _ (call (Value.ref 64) _) _ _ _); k_dflt (refine' Con.use (con_dm _ _ _ _ ?qhxq ?qhyq _) ?qBq ?qFq ?qXq ?qNq ?qTq ?qhkq ?qh1q ?qh2q ?_; (case qFq => k_asm); (case qNq => k_asm); (case qhxq => k_extra "tx"); (case qhyq => k_extra "tx"); (case qBq => k_asm); (case qXq => k_asm); (case qTq => k_asm); (case qhkq => first | exact rfl | assumption); (case qh1q => (first | omega | (dsimp only [Around.deeper, Around.in1, ktrTop]; omega))); (case qh2q => (first | omega | (dsimp only [Around.deeper, Around.in1, ktrTop]; omega))); k_whole; intro t' h' tk' F' N'; (try k_sweep); (try dsimp only); (try k_fold))))
  (k_with "call ref" => (k_here; (with_reducible show wpAny _ _ (call (Value.ref 78) _) _ _ _); k_dflt (refine' Con.use (con_udm _ _ _ _ ?qhxq ?qhyq _) ?qBq ?qFq ?qXq ?qNq ?qTq ?qhkq ?qh1q ?qh2q ?_; (case qFq => k_asm); (case qNq => k_asm); (case qhxq => k_extra "tx"); (case qhyq => k_extra "tx"); (case qBq => k_asm); (case qXq => k_asm); (case qTq => k_asm); (case qhkq => first | exact rfl | assumption); (case qh1q => (first | omega | (dsimp only [Around.deeper, Around.in1, ktrTop]; omega))); (case qh2q => (first | omega | (dsimp only [Around.deeper, Around.in1, ktrTop]; omega))); k_whole; intro t' h' tk' F' N'; (try k_sweep); (try dsimp only); (try k_fold))))
  (k_with "tx" => first | with_reducible assumption | (with_reducible exact Ho.tx (by assumption)) | (with_reducible exact app_tx (by assumption) a_ho) | (with_reducible refine' Tx.upper ?_; (focus k_extra "tx")))
  have hx1 := hx.1
  have hy1 := hy.len
  unfold Con
  k_fill
  intro w mean mg mb dp un gd cn cs a ccd cl outer A₀ base h₀ L m s Q E B F X N T hk hd9 hu ret
  refine wpAny_call ?_
  k_dflt (k_extra "enter9")
  k_steps
  all_goals (refine' endB ret ?F ?N ?S ?e; (case F => k_asm); (case N => k_asm); (case S => first | exact fun _ h => h | (intro p hp; k_extra "sub7")); (case e => (simp only [figs_is] at *; simp_all)))

end Mine
end

section
local macro_rules | `(tactic| omega) => `(tactic| lia)
open PySem PySem.W PyProof.Rows PySem.Calls
set_option Elab.async false
set_option maxRecDepth 100000
set_option maxHeartbeats 8000000
namespace Mine

theorem upper_len {x : Str} (h : Tx x) : (Txt.upper x).length = x.length := by
  rw [len_L, len_L, L_upper h.2, List.length_map]

theorem in_ab (n : Nat) : (!(Builtin.Str.occurrences (Str.ofString "ab") ⟨#[n]⟩ 0 (Str.ofString "ab").length 1).isEmpty) = isLet n := by
  have e : (Str.ofString "ab").cps.toList = [97, 98] := by decide +kernel
  rw [Bool.eq_iff_iff, StrLaws.found_iff]
  constructor
  · rintro ⟨i, h⟩
    rw [StrLaws.subAt_one, e] at h
    match i, h with
    | 0, h => simp at h; subst h; rfl
    | 1, h => simp at h; subst h; rfl
    | i + 2, h => simp at h
  · intro h
    unfold isLet at h
    rcases Bool.or_eq_true _ _ ▸ h with h | h
    · refine ⟨0, (StrLaws.subAt_one _ _ _).mpr ?_⟩
      rw [e, beq_iff_eq.mp h]; rfl
    · refine ⟨1, (StrLaws.subAt_one _ _ _).mpr ?_⟩
      rw [e, beq_iff_eq.mp h]; rfl
theorem ab_len (l : List Nat) : ((l.map fun n => (⟨#[n]⟩ : Str)).filter fun a => !(Builtin.Str.occurrences (Str.ofString "ab") a 0 (Str.ofString "ab").length 1).isEmpty).length = letL l := by
  unfold letL
  induction l with
  | nil => rfl
  | cons c r ih =>
    rw [List.map_cons, List.filter_cons, List.filter_cons, in_ab]
    cases isLet c with
    | true => simpa using ih
    | false => simpa using ih
section
variable {prog : Program} {w : World} {A : Around} {E : Value → Shared → Prop} {s : Shared}
theorem len_let {D : Addr} {ys : List Value} {y : Str} {Q : Value → Shared → Prop} (hl : s.heap.IsList D ys.toArray) (hc : CarriedAll ys (List.map PyData.str (List.filter (fun a => !(Builtin.Str.occurrences (Str.ofString "ab") a 0 (Str.ofString "ab").length 1).isEmpty) (signs y)))) (hy : y.length ≤ 17)
    (h : ∀ t tk, Q (.int (letL (Ls y) : Int) t) { s with toks := tk }) : wpAny (model prog w) A (call (.builtin "len") [.ref D]) Q E s := by
  have e : (List.map PyData.str (List.filter (fun a => !(Builtin.Str.occurrences (Str.ofString "ab") a 0 (Str.ofString "ab").length 1).isEmpty) (signs y))).length = letL (Ls y) := by
    rw [List.length_map]; exact ab_len _
  refine len_list_made hl hc ?_ ?_
  · rw [e]; unfold letL; have := List.length_filter_le isLet (Ls y); rw [len_L] at hy; omega
  · rw [e]; exact h _ _
end
theorem con_ways (x y : Str) (t u v : Tok) (hx : Ho x) (hy : Tx y) (hy2 : y.length ≤ 17) (hsg : ∀ c ∈ Ls y, Sg c) (k : Int) (lb : Addr) (its : Array Value) (c : Nat) (xs : List Str) (hi : StrsAre its.toList xs) (hL : Labs xs) (h2 : 2 ≤ xs.length) (h4 : xs.length ≤ 4) (hk1 : 1 ≤ k) (hk2 : k < xs.length)
    (f1 : LevIs (Ls x) (Ls y) (2 * ((x.length : Int) - y.length))) (f2 : LevIs (Ls (Txt.upper x)) (Ls y) (2 * ((x.length : Int) - y.length) + (letL (Ls y) : Int)))
    (f3 : LevIs (Ls (Txt.join (Str.ofString ".") (pickT xs none (some k)))) (Ls x) (2 * ((x.length : Int) - (Txt.join (Str.ofString ".") (pickT xs none (some k))).length)))
    (news : List (Addr × Obj)) (hm : (lb, PySem.W.listOf its c) ∈ news) : Con 228 [.str x t, .ref lb, .int k u, .str y v] news 10 120 (RetV news fun _ => .bool true) := by
  k_with_none
  (k_with "exec Assign" => k_fold)
  (k_with "exec If" => k_fold)
  (k_with "exec While" => k_fold)
  (k_with "exec For" => k_fold)
  (k_with "storeName" => (k_here; k_dflt ((refine' storeM ?qFq ?qNq ?_ ?qaq ?qbq; (case qFq => k_asm); (case qNq => k_asm); (case qaq => rfl); (case qbq => rfl); k_whole; intro h' tk m₁ F' N'; (try k_sweep)))))
  (k_with "sub7" => first | (with_reducible exact hp) | (refine List.mem_cons_of_mem _ ?_; (k_extra "sub7")) | (simp only [List.mem_cons, List.mem_append, hp, or_true, true_or]))
  (k_with "tx" => first | with_reducible assumption | with_reducible exact Tx.lower (by k_extra "tx") | with_reducible exact Tx.upper (by k_extra "tx") | with_reducible exact Tx.slice (by k_extra "tx") _ _)
  (k_with "getMethod ref" => (k_here; (with_reducible show wpAny _ _ (getMethod (Value.ref 50) _ _) _ _ _); k_dflt (refine' search_get ?qXq ?_; (case qXq => k_in); k_whole)))
  (k_with "call builtin:re.Pattern.search" => (k_here; k_dflt (first
  | (refine' search_none ?qqq ?qXq ?qFq ?qNq ?qxq ?_; (case qqq => assumption); (case qXq => k_in); (case qFq => k_asm); (case qNq => k_asm); (case qxq => k_extra "tx"); k_whole)
  | (refine' search_some ?qqq ?qXq ?qFq ?qNq ?qxq ?_; (case qqq => assumption); (case qXq => k_in); (case qFq => k_asm); (case qNq => k_asm); (case qxq => k_extra "tx"); k_whole; intro mt' mo' h' F' N' l1 l2; (try k_lt l1); (try k_lt2 l2); (try k_sweep))
  | (refine search_split ?_ ?_ <;> intros))))
  (k_with "truthy ref" => (k_here; k_dflt (refine' truthy_match ?qNq ?qqq ?_; (case qNq => k_asm); (case qqq => k_mem); k_whole)))
  (k_with "getMethod ref" => (k_here; k_dflt (refine' span_get ?qNq ?qqq ?_; (case qNq => k_asm); (case qqq => k_mem); k_whole)))
  (k_with "call builtin:re.Match.span" => (k_here; k_dflt (refine' span_call ?qFq ?qNq ?qqq ?quq ?_; (case qFq => k_asm); (case qNq => k_asm); (case qqq => k_mem); (case quq => k_mem); k_whole; intro a' h' t1' t2' tk' F' N' l1; (try k_lt l1); (try k_sweep))))
  (k_with "getAttr ref" => (k_here; (with_reducible show wpAny _ _ (getAttr (Value.ref _) (PySem.Str.ofString "string") _) _ _ _); k_dflt (refine' string_attr ?qNq ?qqq ?_; (case qNq => k_asm); (case qqq => k_mem); k_whole)))
  (k_with "enter9" => (refine' code_m ?qk1q ?qk2q ?qk3q ?qk4q ?qk5q ?qkAq ?qkFq ?qkKq ?qk6q ?qk7q ?qk8q ?qk9q ?qkBq ?_ ?qc2q ?qc3q ?qc4q ?qc5q; (case qkAq => exact rfl); (case qkFq => exact rfl); (case qkKq => first | exact rfl | assumption); (case qk1q => k_asm); (case qk2q => k_asm); (case qk3q => k_asm); (case qk4q => k_asm); (case qk5q => k_asm); (case qk6q => k_is); (case qk7q => k_is); (case qk8q => (first | omega | (dsimp only [Around.deeper, Around.in1, ktrTop]; omega) | ktr_room)); (case qk9q => first | exact BindsTo.of_eq rfl | exact binds_K (by k_in) rfl (by k_is) rfl rfl rfl); (case qc5q => decide); (case qkBq => exact locs rfl); (case qc2q => exact rfl); (case qc3q => exact rfl); (case qc4q => exact rfl); k_whole; intro g' L' h' tk' FG' m' F' N' B' X' T'; (try dsimp only); (try k_lift B'); (try k_fold)))
  (k_with "ho9" => (intro y9 a9 b9; simp only [List.forall_mem_cons, List.forall_mem_nil, and_true] at b9; simp only [bsM, a9, b9, if_false]))
  (k_with "ne9" => ((try simp only [AllNe, and_true, ne_eq] at *); first | assumption | trivial | grind))
  (k_with "k_mem9w" => (with_reducible (refine List.mem_cons_of_mem _ ?_); k_mem))
  (k_with "k_mem9w" => (with_reducible assumption))
  (k_with "labs" => first | with_reducible assumption | (with_reducible refine' Labs.pick ?_ _ _; (focus k_extra "labs")) | (with_reducible refine' Labs.rev ?_; (focus k_extra "labs")) | (with_reducible refine' Labs.app ?_ ?_; (focus k_extra "labs"); (focus k_extra "labs")))
  (k_with "len4" => first | omega | (have hp4 := pick_len; (try simp only [List.length_append, List.length_reverse]); first | (exact Nat.le_trans (pick_len _ _ _) (by with_reducible assumption)) | grind))
  (k_with "call builtin:len" => (k_here; (with_reducible show wpAny _ _ (call (Value.builtin "len") [Value.ref _]) _ _ _); k_dflt (refine' lst_len ?qNq ?qqq ?qiq ?qzq ?_; (case qNq => k_asm); (case qqq => k_mem); (case qiq => with_reducible assumption); (case qzq => k_extra "len4"); k_whole); intro _ _))
  (k_with "subscriptTail" => (k_here; (with_reducible show wpAny _ _ (subscriptTail _ _ (Value.ref _) (Value.int _ _)) _ _ _); k_dflt (refine' lst_item ?qNq ?qqq ?qiq ?qh0q ?qh1q ?qzq ?_ ?qhsq; (case qNq => k_asm); (case qqq => k_mem); (case qiq => with_reducible assumption); (case qh0q => omega); (case qh1q => omega); (case qzq => omega); (case qhsq => with_unfolding_all rfl); k_whole); intro _))
  (k_with "subscriptTail" => (k_here; (with_reducible show wpAny _ _ (subscriptTail _ _ (Value.ref _) (Value.int (-1) _)) _ _ _); k_dflt (refine' lst_last ?qNq ?qqq ?qiq ?qh0q ?_ ?qhsq; (case qNq => k_asm); (case qqq => k_mem); (case qiq => with_reducible assumption); (case qh0q => omega); (case qhsq => with_unfolding_all rfl); k_whole); intro _))
  (k_with "subscriptTail Name Slice ref ref" => (k_here; (with_reducible show wpAny _ _ (subscriptTail _ (PySem.Expr.Slice _ _ none _) (Value.ref _) (Value.ref _)) _ _ _); k_dflt (refine' lst_slice ?qFq ?qNq ?qlq ?qiq ?qpq ?qqq ?qzq ?_ ?qsq ?qtq; (case qFq => k_asm); (case qNq => k_asm); (case qlq => k_mem); (case qiq => with_reducible assumption); (case qpq => kmk_part); (case qqq => kmk_part); (case qzq => k_extra "len4"); (case qsq => with_unfolding_all rfl); (case qtq => kmk_pure)); intro D' h' js' c' F' N' l1 hi'; (try k_lt l1); (try k_sweep)))
  (k_with "subscriptTail Name Slice ref ref" => (k_here; (with_reducible show wpAny _ _ (subscriptTail _ (PySem.Expr.Slice none none (some _) _) (Value.ref _) (Value.ref _)) _ _ _); k_dflt (refine' lst_rev ?qFq ?qNq ?qlq ?qiq ?qpq ?qzq ?_ ?qsq ?qtq; (case qFq => k_asm); (case qNq => k_asm); (case qlq => k_mem); (case qiq => with_reducible assumption); (case qpq => kmk_part); (case qzq => k_extra "len4"); (case qsq => with_unfolding_all rfl); (case qtq => kmk_pure)); intro D' h' js' c' F' N' l1 hi'; (try k_lt l1); (try k_sweep)))
  (k_with "call builtin:str.join" => (k_here; (with_reducible show wpAny _ _ (call (Value.builtin "str.join") [Value.str _ _, Value.ref _]) _ _ _); k_dflt (refine' lst_join ?qNq ?qqq ?qiq ?qhLq ?qzq ?qhsq ?_; (case qNq => k_asm); (case qqq => k_mem); (case qiq => with_reducible assumption); (case qhLq => k_extra "labs"); (case qzq => k_extra "len4"); (case qhsq => decide); k_whole); intro _ _))
  (k_with "binaryOp Add ref ref" => (k_here; (with_reducible show wpAny _ _ (binaryOp _ (Value.ref _) (Value.ref _)) _ _ _); k_dflt (refine' lst_cat ?qFq ?qNq ?qaq ?qbq ?qiq ?qjq ?qyq ?qzq ?_; (case qFq => k_asm); (case qNq => k_asm); (case qaq => k_mem); (case qbq => k_mem); (case qiq => with_reducible assumption); (case qjq => with_reducible assumption); (case qyq => k_extra "len4"); (case qzq => k_extra "len4")); intro D' h' js' c' F' N' l1 hI'; (try k_lt l1); (try k_sweep)))
  (k_with "call ref" => (k_here; (with_reducible show wpAny _ _ (call (Value.ref 173) _) _ _ _); k_dflt (refine' Con.use (con_lev _ _ _ _ _ ?qhxq ?qhyq ?qb1q ?qb2q _ ?qhrq _) ?qBq ?qFq ?qXq ?qNq ?qTq ?qhkq ?qh1q ?qh2q ?_; (case qFq => k_asm); (case qNq => k_asm); (case qhrq => with_reducible assumption); (case qhxq => k_extra "tx"); (case qhyq => k_extra "tx"); (case qb1q => k_extra "len30"); (case qb2q => k_extra "len30"); (case qBq => k_asm); (case qXq => k_asm); (case qTq => k_asm); (case qhkq => first | exact rfl | assumption); (case qh1q => (first | omega | (dsimp only [Around.deeper, Around.in1, ktrTop]; omega))); (case qh2q => (first | omega | (dsimp only [Around.deeper, Around.in1, ktrTop]; omega))); k_whole; intro t' h' tk' F' N'; (try k_sweep); (try dsimp only); (try k_fold))))
  (k_with "tx" => first | with_reducible assumption | (with_reducible exact Ho.tx (by assumption)) | (with_reducible refine' Tx.upper ?_; (focus k_extra "tx")))
  (k_with "len30" => omega)
  (k_with "call builtin:len" => (k_here; (with_reducible show wpAny _ _ (call (Value.builtin "len") [Value.ref _]) _ _ _); k_dflt (refine' len_let ?qlq ?qcq ?qyq ?_; (case qlq => with_reducible assumption); (case qcq => with_reducible assumption); (case qyq => with_reducible assumption); k_whole); intro _ _))
  have hx1 := hx.1
  have hy1 := hy.len
  have hux := upper_len hx.tx
  have hxt := hx.tx
  have hut := hx.tx.upper
  have hfr := join_ho (hL.pick none (some k)) (Nat.le_trans (pick_len xs none (some k)) h4)
  have hft := hfr.tx
  have hf1 := hfr.1
  unfold Con
  k_fill
  intro w mean mg mb dp un gd cn cs a ccd cl outer A₀ base h₀ L m s Q E B F X N T hk hd9 hu ret
  refine wpAny_call ?_
  k_dflt (k_extra "enter9")
  k_steps
  all_goals first
    | (exfalso; omega)
    | (refine' endB ret ?F ?N ?S ?e; (case F => k_asm); (case N => k_asm); (case S => first | exact fun _ h => h | (intro p hp; k_extra "sub7")); (case e => exact beq_self_eq_true _))


end Mine
end

section
local macro_rules | `(tactic| omega) => `(tactic| lia)
open PySem PySem.W PyProof.Rows PySem.Calls
set_option Elab.async false
set_option maxRecDepth 100000
set_option maxHeartbeats 8000000
namespace Mine


noncomputable def leftL : Nat → List Str → List Str
  | 0, _ => []
  | n + 1, xs => if 1 < xs.length ∧ figs xs = true then Txt.join (Str.ofString ".") (pickT xs none (some (-1))) :: leftL n (pickT xs none (some (-1))) else Str.ofString "<end unmatched() failed>" :: leftL n []
theorem left_yes {n : Nat} {xs : List Str} (h : 1 < xs.length) (f : figs xs = true) : leftL (n + 1) xs = Txt.join (Str.ofString ".") (pickT xs none (some (-1))) :: leftL n (pickT xs none (some (-1))) := by rw [leftL, if_pos ⟨h, f⟩]
theorem left_no {n : Nat} {xs : List Str} (f : figs xs = false) : leftL (n + 1) xs = Str.ofString "<end unmatched() failed>" :: leftL n [] := by rw [leftL, if_neg (by simp [f])]
theorem left_short {n : Nat} {xs : List Str} (h : xs.length ≤ 1) : leftL (n + 1) xs = Str.ofString "<end unmatched() failed>" :: leftL n [] := by rw [leftL, if_neg (by omega)]
theorem left_nil {n : Nat} : leftL (n + 1) [] = Str.ofString "<end unmatched() failed>" :: leftL n [] := left_short (by simp)
noncomputable def LeftT (l : Addr) (news : List (Addr × Obj)) (ys : List Str) (m : Nat) (ps : List (Str × Value)) (nx : List (Addr × Obj)) : Prop :=
  ∃ (D : Addr) (its : Array Value) (k : Nat) (jts : Array Value) (kj : Nat) (c o : List Str) (bs : List (Addr × Obj)), ps = [(Str.ofString "labels", .ref D)] ∧ nx = (l, PySem.W.listOf jts kj) :: bs ∧ (D, PySem.W.listOf its k) ∈ bs ∧ StrsAre its.toList c ∧ Labs c ∧ c.length ≤ 4 ∧ StrsAre jts.toList o ∧ o ++ leftL m c = ys ∧ (∀ p ∈ news, p ∈ bs) ∧ (∀ p ∈ bs, p.1 ≠ l)
theorem LeftT.mono {l : Addr} {bs bs1 : List (Addr × Obj)} {ys : List Str} {m : Nat} {ps : List (Str × Value)} {nx : List (Addr × Obj)} (h : ∀ p ∈ bs, p ∈ bs1) (W : LeftT l bs1 ys m ps nx) : LeftT l bs ys m ps nx := by
  obtain ⟨D, its, k, jts, kj, c, o, bs', e1, e2, e3, e4, e5, e6, e7, e8, e9, e10⟩ := W
  exact ⟨D, its, k, jts, kj, c, o, bs', e1, e2, e3, e4, e5, e6, e7, e8, fun p hp => e9 p (h p hp), e10⟩
theorem left_len : ∀ (n : Nat) (xs : List Str), (leftL n xs).length = n
  | 0, _ => rfl
  | n + 1, xs => by
    rw [leftL]
    split <;> rw [List.length_cons, left_len n]
theorem left_next {l D : Addr} {bs : List (Addr × Obj)} {its jts : Array Value} {k kj : Nat} {c' o : List Str} {m : Nat} {y : Str} {u : Tok} {ys : List Str} (T : StrsAre jts.toList o) (S : StrsAre its.toList c') (hL : Labs c') (h4 : c'.length ≤ 4) (e : ys = o ++ (y :: leftL m c')) (hn : ∀ p ∈ (D, PySem.W.listOf its k) :: bs, p.1 ≠ l) :
    LeftT l bs ys m [(Str.ofString "labels", .ref D)] ((l, PySem.W.listOf (jts.push (.str y u)) kj) :: (D, PySem.W.listOf its k) :: bs) :=
  ⟨D, its, k, _, kj, c', o ++ [y], _, rfl, rfl, .head _, S, hL, h4, by rw [Array.toList_push]; exact kct_snoc T, by rw [e, List.append_assoc]; rfl, fun _ h => .tail _ h, hn⟩
theorem left_endY {l D : Addr} {bs : List (Addr × Obj)} {its jts : Array Value} {k kj : Nat} {c o : List Str} {m : Nat} {u : Tok} (T : StrsAre jts.toList o) (S : StrsAre its.toList (pickT c none (some (-1)))) (hL : Labs c) (h4 : c.length ≤ 4) (h1 : 1 < (c.length : Int)) (f : figs c = true) (hn : ∀ p ∈ (D, PySem.W.listOf its k) :: bs, p.1 ≠ l) :
    LeftT l bs (o ++ leftL (m + 1) c) m [(Str.ofString "labels", .ref D)] ((l, PySem.W.listOf (jts.push (.str (Txt.join (Str.ofString ".") (pickT c none (some (-1)))) u)) kj) :: (D, PySem.W.listOf its k) :: bs) :=
  left_next T S (hL.pick _ _) (Nat.le_trans (pick_len _ _ _) h4) (by rw [left_yes (by omega) f]) hn
theorem left_endN {l D : Addr} {bs : List (Addr × Obj)} {jts : Array Value} {k kj : Nat} {c o : List Str} {m : Nat} {u : Tok} (T : StrsAre jts.toList o) (f : ¬ 1 < (c.length : Int) ∨ figs c = false) (hn : ∀ p ∈ (D, PySem.W.listOf #[] k) :: bs, p.1 ≠ l) :
    LeftT l bs (o ++ leftL (m + 1) c) m [(Str.ofString "labels", .ref D)] ((l, PySem.W.listOf (jts.push (.str (Str.ofString "<end unmatched() failed>") u)) kj) :: (D, PySem.W.listOf #[] k) :: bs) :=
  left_next T (c' := []) .nil (fun _ h => absurd h List.not_mem_nil) (Nat.zero_le _) (by
    rcases f with f | f
    · rw [left_short (by omega)]
    · rw [left_no f]) hn
section
variable {prog : Program} {w : World} {A : Around} {E : Value → Shared → Prop} {s : Shared} {env : Env} {h₀ : Heap} {body : List Stmt} {Q : Flow → Shared → Prop}
theorem left_loop {r l lb : Addr} {k0 : Nat} {t u v : Tok} {b : Int} {its0 : Array Value} {c0 : Nat} {xs : List Str} {m₀ : Str → Option Value} {news : List (Addr × Obj)} (hi : StrsAre its0.toList xs) (hL : Labs xs) (h4 : xs.length ≤ 4) (hm : (lb, PySem.W.listOf its0 c0) ∈ news)
    (hh : A.handled = none) (hr : IsRange s.heap r 0 b 1 t u v) (hb : b = (xs.length : Int))
    (F : Fr h₀ env.locals s.heap m₀) (N : News h₀ env.locals s.heap ((l, PySem.W.listOf #[] k0) :: news)) (hl : AllLt l news) (hv : m₀ (Str.ofString "labels") = some (.ref lb))
    (turn : ∀ (i : Nat) u I o h tk bs D (its : Array Value) k (jts : Array Value) kj c out m, jts.size ≤ sizeLine → StrsAre its.toList c → Labs c → c.length ≤ 4 → (D, PySem.W.listOf its k) ∈ bs → StrsAre jts.toList out → (∀ p ∈ bs, p.1 ≠ l) → (@Ne Nat l I) → AllNe I bs →
      Fr h₀ env.locals h (bsM [(Str.ofString "turn", .int (0 + (i : Int)) u), (Str.ofString "labels", .ref D)] m₀) → News h₀ env.locals h ((I, o) :: (l, PySem.W.listOf jts kj) :: bs) →
      wpAny (model prog w) A (execs body env) (LG h₀ env.locals (fun m₁ nx => ∃ ps', LeftT l bs (out ++ leftL (m + 1) c) m ps' nx ∧ Has (Str.ofString "turn") m₁ m₀ ps') I o { s with heap := h, toks := tk } Q) E { s with heap := h, toks := tk })
    (done : ∀ (z : Str → Option Value) h tk bs D (jts : Array Value) kj, StrsAre jts.toList (leftL xs.length xs) → (∀ p ∈ news, p ∈ bs) → (∀ p ∈ bs, p.1 ≠ l) → Fr h₀ env.locals h (fun y => if y = Str.ofString "turn" then z y else bsM [(Str.ofString "labels", .ref D)] m₀ y) → News h₀ env.locals h ((l, PySem.W.listOf jts kj) :: bs) → Q .next { s with heap := h, toks := tk }) :
    wpAny (model prog w) A (pyIter (.ref r)) (fun it s₂ => LoopAtV prog w A h₀ env (Str.ofString "turn") body Q E it s₂) E s := by
  refine range_st (n := xs.length) (fun i ps nx => LeftT l news (leftL xs.length xs) (xs.length - i) ps nx) [(Str.ofString "labels", .ref lb)] hh hr (by omega) (by omega) F N ⟨lb, its0, c0, #[], k0, xs, [], news, rfl, rfl, hm, hi, hL, h4, .nil, rfl, fun _ h => h, ne_allLt hl⟩ (List.forall_mem_cons.mpr ⟨hv, List.forall_mem_nil _⟩) ?_ ?_
  · rintro i u ps nx I o h tk hi' ⟨D, its, k, jts, kj, c, out, bs, rfl, rfl, e3, e4, e5, e6, e7, e8, e9, e10⟩ hne F₁ N₁
    have hsz : jts.size ≤ sizeLine := by
      have h1 := e7.len_eq
      have h2 := congrArg List.length e8
      rw [List.length_append, left_len, left_len] at h2
      rw [Array.length_toList] at h1
      have : sizeLine = 2 ^ 24 := by rfl
      omega
    obtain ⟨m, hm⟩ : ∃ m, xs.length - i = m + 1 := ⟨xs.length - i - 1, by omega⟩
    rw [hm] at e8
    refine wpAny_mono (turn i u I o h tk bs D its k jts kj c out m hsz e4 e5 e6 e3 e7 e10 hne.1 hne.2 F₁ N₁) (fun f s₂ p9 => ?_) fun _ _ e => e
    have up : ∀ (m₁ : Str → Option Value) nx, (∃ ps', LeftT l bs (out ++ leftL (m + 1) c) m ps' nx ∧ Has (Str.ofString "turn") m₁ m₀ ps') → ∃ ps', LeftT l news (leftL xs.length xs) (xs.length - (i + 1)) ps' nx ∧ Has (Str.ofString "turn") m₁ m₀ ps' := by
      rintro m₁ nx ⟨ps', e1, hH⟩
      rw [e8] at e1
      rw [show xs.length - (i + 1) = m by omega]
      exact ⟨ps', e1.mono e9, hH⟩
    cases f with
    | ret v => exact p9
    | brk => exact p9
    | next =>
      obtain ⟨h', tk, m', nx, news', a, b, c, d, e, f, g⟩ := p9
      exact ⟨h', tk, m', nx, news', a, b, c, d, e, f, up _ _ g⟩
    | cont =>
      obtain ⟨h', tk, m', nx, news', a, b, c, d, e, f, g⟩ := p9
      exact ⟨h', tk, m', nx, news', a, b, c, d, e, f, up _ _ g⟩
  · rintro z ps nx h tk ⟨D, its, k, jts, kj, c, out, bs, rfl, rfl, e3, e4, e5, e6, e7, e8, e9, e10⟩ F₁ N₁
    rw [Nat.sub_self, leftL, List.append_nil] at e8
    exact done z h tk bs D jts kj (e8 ▸ e7) e9 e10 F₁ N₁
end
noncomputable abbrev RetTs (news : List (Addr × Obj)) (ys : List Str) : Wh := fun h₀ L m s Q =>
  ∀ (l : Addr) (its : Array Value) (k : Nat) (h' : Heap) (tk' : Nat), Fr h₀ L h' m → News h₀ L h' ((l, PySem.W.listOf its k) :: news) → StrsAre its.toList ys → Q (.ref l) { s with heap := h', toks := tk' }
theorem endTs {h₀ h' : Heap} {L : Addr} {m : Str → Option Value} {news all : List (Addr × Obj)} {s : Shared} {Q : Value → Shared → Prop} {tk' : Nat} {l : Addr} {its : Array Value} {k : Nat} {ys : List Str}
    (ret : RetTs news ys h₀ L m s Q) (F : Fr h₀ L h' m) (N : News h₀ L h' all) (hl : (l, PySem.W.listOf its k) ∈ all) (hb : ∀ p ∈ news, p ∈ all) (S : StrsAre its.toList ys) : Q (.ref l) { s with heap := h', toks := tk' } :=
  ret l its k h' tk' F (fun p hp => N p (List.forall_mem_cons.mpr ⟨hl, hb⟩ p hp)) S
theorem con_leftN (lb : Addr) (its : Array Value) (c : Nat) (xs : List Str) (hi : StrsAre its.toList xs) (hL : Labs xs) (h2 : 2 ≤ xs.length) (h4 : xs.length ≤ 4) (news : List (Addr × Obj)) (hm : (lb, PySem.W.listOf its c) ∈ news) : Con 204 [.ref lb] news 6 60 (RetTs news (leftL xs.length xs)) := by
  k_with_none
  (k_with "exec Assign" => k_fold)
  (k_with "exec If" => k_fold)
  (k_with "exec While" => k_fold)
  (k_with "exec For" => k_fold)
  (k_with "storeName" => (k_here; k_dflt ((refine' storeM ?qFq ?qNq ?_ ?qaq ?qbq; (case qFq => k_asm); (case qNq => k_asm); (case qaq => rfl); (case qbq => rfl); k_whole; intro h' tk m₁ F' N'; (try k_sweep)))))
  (k_with "ho7" => first | (refine (if_neg (by assumption)).trans ?_; (k_extra "ho7")) | exact rfl)
  (k_with "sub7" => first | (with_reducible exact hp) | (refine List.mem_cons_of_mem _ ?_; (k_extra "sub7")) | (simp only [List.mem_cons, List.mem_append, hp, or_true, true_or]))
  (k_with "tx" => first | with_reducible assumption | with_reducible exact Tx.lower (by k_extra "tx") | with_reducible exact Tx.upper (by k_extra "tx") | with_reducible exact Tx.slice (by k_extra "tx") _ _)
  (k_with "enter9" => (refine' code_m ?qk1q ?qk2q ?qk3q ?qk4q ?qk5q ?qkAq ?qkFq ?qkKq ?qk6q ?qk7q ?qk8q ?qk9q ?qkBq ?_ ?qc2q ?qc3q ?qc4q ?qc5q; (case qkAq => exact rfl); (case qkFq => exact rfl); (case qkKq => first | exact rfl | assumption); (case qk1q => k_asm); (case qk2q => k_asm); (case qk3q => k_asm); (case qk4q => k_asm); (case qk5q => k_asm); (case qk6q => k_is); (case qk7q => k_is); (case qk8q => (first | omega | (dsimp only [Around.deeper, Around.in1, ktrTop]; omega) | ktr_room)); (case qk9q => first | exact BindsTo.of_eq rfl | exact binds_K (by k_in) rfl (by k_is) rfl rfl rfl); (case qc5q => decide); (case qkBq => exact locs rfl); (case qc2q => exact rfl); (case qc3q => exact rfl); (case qc4q => exact rfl); k_whole; intro g' L' h' tk' FG' m' F' N' B' X' T'; (try dsimp only); (try k_lift B'); (try k_fold)))
  (k_with "ho9" => (intro y9 a9 b9; simp only [List.forall_mem_cons, List.forall_mem_nil, and_true] at b9; simp only [bsM, a9, b9, if_false]))
  (k_with "ne9" => ((try simp only [AllNe, and_true, ne_eq] at *); first | assumption | trivial | grind))
  (k_with "labs" => first | with_reducible assumption | (with_reducible refine' Labs.pick ?_ _ _; (focus k_extra "labs")) | (with_reducible refine' Labs.rev ?_; (focus k_extra "labs")) | (with_reducible refine' Labs.app ?_ ?_; (focus k_extra "labs"); (focus k_extra "labs")))
  (k_with "len4" => first | omega | (have hp4 := pick_len; (try simp only [List.length_append, List.length_reverse]); first | (exact Nat.le_trans (pick_len _ _ _) (by with_reducible assumption)) | grind))
  (k_with "call builtin:len" => (k_here; (with_reducible show wpAny _ _ (call (Value.builtin "len") [Value.ref _]) _ _ _); k_dflt (refine' lst_len ?qNq ?qqq ?qiq ?qzq ?_; (case qNq => k_asm); (case qqq => k_mem); (case qiq => with_reducible assumption); (case qzq => k_extra "len4"); k_whole); intro _ _))
  (k_with "subscriptTail" => (k_here; (with_reducible show wpAny _ _ (subscriptTail _ _ (Value.ref _) (Value.int (-1) _)) _ _ _); k_dflt (refine' lst_last ?qNq ?qqq ?qiq ?qh0q ?_ ?qhsq; (case qNq => k_asm); (case qqq => k_mem); (case qiq => with_reducible assumption); (case qh0q => omega); (case qhsq => with_unfolding_all rfl); k_whole); intro _))
  (k_with "subscriptTail Name Slice ref ref" => (k_here; (with_reducible show wpAny _ _ (subscriptTail _ (PySem.Expr.Slice _ _ none _) (Value.ref _) (Value.ref _)) _ _ _); k_dflt (refine' lst_slice ?qFq ?qNq ?qlq ?qiq ?qpq ?qqq ?qzq ?_ ?qsq ?qtq; (case qFq => k_asm); (case qNq => k_asm); (case qlq => k_mem); (case qiq => with_reducible assumption); (case qpq => kmk_part); (case qqq => kmk_part); (case qzq => k_extra "len4"); (case qsq => with_unfolding_all rfl); (case qtq => kmk_pure)); intro D' h' js' c' F' N' l1 hi'; (try k_lt l1); (try k_sweep)))
  (k_with "call builtin:str.join" => (k_here; (with_reducible show wpAny _ _ (call (Value.builtin "str.join") [Value.str _ _, Value.ref _]) _ _ _); k_dflt (refine' lst_join ?qNq ?qqq ?qiq ?qhLq ?qzq ?qhsq ?_; (case qNq => k_asm); (case qqq => k_mem); (case qiq => with_reducible assumption); (case qhLq => k_extra "labs"); (case qzq => k_extra "len4"); (case qhsq => decide); k_whole); intro _ _))
  (k_with "mm" => first | (with_reducible exact List.mem_cons_self) | (with_reducible assumption) | ((with_reducible refine List.mem_cons_of_mem _ ?_); (focus k_extra "mm")))
  (k_with "k_mem9w" => (k_extra "mm"))
  (k_with "call type:range" => (k_here; (rename Fr _ _ _ _ => F'); (rename News _ _ _ _ => N'); (with_unfolding_all refine range1_rows F' N' ?_); intro _ _ _ _ _ _ _ _ _))
  (k_with "k_all9w" => with_reducible assumption)
  (k_with "exec For Name Call cons nil" => (k_here; (rename Fr _ _ _ _ => lF'); (with_unfolding_all refine' For_invVF lF' ?qk1q ?qk2q ?_; (case qk1q => exact rfl); (case qk2q => exact rfl); k_whole)))
  (k_with "pyIter ref" => (k_here; k_dflt (refine' left_loop ?qiq ?qLq ?q4q ?qmq ?qhhq ?qhrq ?qhbq ?qFq ?qNq ?qhlq ?qvq ?_ ?_; (case qFq => k_asm); (case qNq => k_asm); (case qiq => with_reducible assumption); (case qLq => with_reducible assumption); (case q4q => with_reducible assumption); (case qmq => with_reducible assumption); (case qhhq => exact rfl); (case qhrq => assumption); (case qhbq => first | exact rfl | omega); (case qvq => exact rfl); (case qhlq => first | exact allLt_of (by assumption) | (simp only [AllLt, and_true]; first | assumption | grind))); (all_goals intros); (all_goals (try simp only [AllLt, AllNe, and_true, List.cons_append] at *)); (all_goals (try k_sweep)); (all_goals (try k_fold))))
  (k_with "LG" => (k_here; k_dflt (first
  | (refine' st_end1 ?qFq ?qNq ?qhiq ?qe1q (left_endY ?qTq ?qSq ?qhLq ?qh4q ?qlq ?qfq ?qhnq) ?qhoq ?qhbq ?qhneq; (case qFq => k_asm); (case qNq => k_asm); (case qhiq => k_mem); (case qe1q => exact rfl); (case qTq => with_reducible assumption); (case qSq => with_reducible assumption); (case qhLq => with_reducible assumption); (case qh4q => with_reducible assumption); (case qlq => (first | assumption | omega)); (case qfq => assumption); (case qhnq => (refine' List.forall_mem_cons.mpr ⟨?_, ?_⟩; (focus k_ne); (focus assumption))); (case qhbq => k_extra "sub9"); (case qhoq => (intro y a b; k_extra "ho7")); (case qhneq => (refine' And.intro ?_ (And.intro ?_ ?_); (focus k_ne); (focus k_ne); (first | assumption | grind))))
  | (refine' st_end1 ?qFq ?qNq ?qhiq ?qe1q (left_endN ?qTq ?qfq ?qhnq) ?qhoq ?qhbq ?qhneq; (case qFq => k_asm); (case qNq => k_asm); (case qhiq => k_mem); (case qe1q => exact rfl); (case qTq => with_reducible assumption); (case qfq => first | (left; assumption) | (left; omega) | (right; assumption)); (case qhnq => (refine' List.forall_mem_cons.mpr ⟨?_, ?_⟩; (focus k_ne); (focus assumption))); (case qhbq => k_extra "sub9"); (case qhoq => (intro y a b; k_extra "ho7")); (case qhneq => (refine' And.intro ?_ (And.intro ?_ ?_); (focus k_ne); (focus k_ne); (first | assumption | grind)))))))
  (k_with "sub9" => (refine' List.forall_mem_cons.mpr ⟨?qaq, ?qbq⟩; (case qaq => k_mem); (case qbq => refine' List.forall_mem_cons.mpr ⟨?qaq, ?qbq⟩; (case qaq => k_mem); (case qbq => (intro p hp; k_extra "sub7")))))
  (k_with "call builtin:list.append" => (k_here; k_dflt (refine' append_K ?qk1q ?qk2q ?qk3q ?_ ?qzq; (case qk1q => k_asm); (case qk2q => k_asm); (case qk3q => k_upd); (case qzq => (first | assumption | size_fits)); k_whole); intro h' F' N'; (try k_sweep)))
  unfold Con
  k_fill
  intro w mean mg mb dp un gd cn cs a ccd cl outer A₀ base h₀ L m s Q E B F X N T hk hd9 hu ret
  refine wpAny_call ?_
  k_dflt (k_extra "enter9")
  k_steps
  all_goals (refine' endTs ret ?zF9 ?zN9 ?zl9 ?zb9 ?zS9; (case zF9 => k_asm); (case zN9 => k_asm); (case zl9 => k_mem); (case zb9 => (intro p hp; exact List.mem_cons_of_mem _ ((by assumption : ∀ p ∈ news, p ∈ _) p hp))); (case zS9 => assumption))

end Mine
end

section
local macro_rules | `(tactic| omega) => `(tactic| lia)
open PySem PySem.W PyProof.Rows PySem.Calls
set_option Elab.async false
set_option maxRecDepth 100000
set_option maxHeartbeats 8000000
namespace Mine

noncomputable def LW (x : Str) : Str := tx (leadS (Ls x))
theorem LW_tx {x : Str} (h : Tx x) : Tx (LW x) := lead_tx h
theorem con_leadW (x : Str) (t : Tok) (hx : Tx x) (news : List (Addr × Obj)) : Con 183 [.str x t] news 6 40 (RetW news (LW x)) := con_lead x t hx news
theorem wsat_of {h₀ h' : Heap} {L a d tc tn : Addr} {vs : List Value} {e : WsT} {t : Tok} {x : Str} {news : List (Addr × Obj)} (_N : News h₀ L h' (wsObjs a d tc tn vs e x t news)) (hv : IntsAre vs (wsL (Ls x)).cnt) : WsAt (wsObjs a d tc tn vs e x t news) a x :=
  ⟨d, tc, tn, vs, e, t, .head _, .tail _ (.head _), .tail _ (.tail _ (.head _)), .tail _ (.tail _ (.tail _ (.head _))), hv⟩
noncomputable def eqW (x y : Str) : Bool := ((wsL (Ls x)).cnt == (wsL (Ls y)).cnt && ((wsL (Ls x)).b : Int) == ((wsL (Ls y)).b : Int))
noncomputable def lessW (x y : Str) : Bool := lessL (Ls x).length (Ls y).length (wsL (Ls x)) (wsL (Ls y))
theorem con_eqW (a b : Addr) (x y : Str) (hx : Tx x) (hy : Tx y) (news : List (Addr × Obj)) (W : WsAt news a x) (V : WsAt news b y) : Con 116 [.ref a, .ref b] news 4 100 (RetV news fun u => .bool (eqW x y)) := con_equal a b x y hx hy news W V
theorem con_lessW (a b : Addr) (x y : Str) (hx : Tx x) (hy : Tx y) (news : List (Addr × Obj)) (W : WsAt news a x) (V : WsAt news b y) : Con 130 [.ref a, .ref b] news 6 40 (RetV news fun u => .bool (lessW x y)) := con_less a b x y hx hy news W V
theorem labs_tx {ts : List Str} (h : Labs ts) (hn : ts.length ≤ 4) : Tx (Txt.join (Str.ofString ".") ts) := (join_ho h hn).tx
theorem labs0_tx {ts : List Str} (h : Labs ts) (hn : ts.length ≤ 4) : Tx (Txt.join (Str.ofString "") ts) := (join0_ho h hn).tx
theorem reps_fold (a : Array Nat) : ∀ (k : Nat) (acc : Array Nat), ((List.replicate k a).foldl (· ++ ·) acc).toList = acc.toList ++ (List.replicate k a.toList).flatten
  | 0, acc => by simp
  | k + 1, acc => by
    rw [List.replicate_succ, List.foldl_cons, reps_fold a k, Array.toList_append, List.replicate_succ, List.flatten_cons, List.append_assoc]
theorem dots_L (n : Int) : Ls (Txt.mul (Str.ofString ".") n) = List.replicate n.toNat 46 := by
  unfold Txt.mul
  split
  · rename_i h
    rw [show n.toNat = 0 by omega]; rfl
  · split
    · rename_i h h1
      have h2 : n = 1 := by
        rcases Bool.or_eq_true _ _ ▸ h1 with h1 | h1
        · exact beq_iff_eq.mp h1
        · exact absurd h1 (by decide)
      subst h2; exact L_dot
    · show (List.foldl (· ++ ·) #[] (List.replicate n.toNat (Str.ofString ".").cps)).toList = _
      rw [reps_fold]
      rw [show (Str.ofString ".").cps.toList = [46] from L_dot]
      simp
theorem dots_ho {n : Int} (h : n ≤ 4) : Ho (Txt.mul (Str.ofString ".") n) := by
  refine ⟨?_, ?_⟩
  · rw [len_L, dots_L, List.length_replicate]; omega
  · rw [dots_L]; intro c m; rw [List.eq_of_mem_replicate m]; decide


theorem con_beside (wa : Addr) (x : Str) (t : Tok) (lb : Addr) (its : Array Value) (c : Nat) (xs : List Str) (hx : Ho x) (hi : StrsAre its.toList xs) (hL : Labs xs) (h2 : 2 ≤ xs.length) (h4 : xs.length ≤ 4)
    (e1 : eqW (LW (Txt.join (Str.ofString ".") xs.reverse)) (LW x) = (((xs.getD 0 Str.empty).length : Int) == ((lastT xs).length : Int)))
    (e2 : lessW (LW x) (LW (x ++ Str.ofString "a")) = true) (e3 : eqW (LW x) (LW (x ++ Str.ofString "a")) = false)
    (e4 : lessW (LW (Txt.mul (Str.ofString ".") (xs.length - 1))) (LW (Txt.join (Str.ofString "") xs)) = false)
    (e5 : lessW (LW (Txt.join (Str.ofString "") xs)) (LW (Txt.mul (Str.ofString ".") (xs.length - 1))) = decide ((Txt.join (Str.ofString "") xs).length < (xs.length : Int) - 1))
    (news : List (Addr × Obj)) (hm : (lb, PySem.W.listOf its c) ∈ news) (W0 : WsAt news wa (LW x)) : Con 223 [.ref wa, .str x t, .ref lb] news 12 120 (RetV news fun _ => .bool true) := by
  k_with_none
  (k_with "exec Assign" => k_fold)
  (k_with "exec If" => k_fold)
  (k_with "exec While" => k_fold)
  (k_with "exec For" => k_fold)
  (k_with "storeName" => (k_here; k_dflt ((refine' storeM ?qFq ?qNq ?_ ?qaq ?qbq; (case qFq => k_asm); (case qNq => k_asm); (case qaq => rfl); (case qbq => rfl); k_whole; intro h' tk m₁ F' N'; (try k_sweep)))))
  (k_with "tx" => first | with_reducible assumption | with_reducible exact Tx.lower (by k_extra "tx") | with_reducible exact Tx.upper (by k_extra "tx") | with_reducible exact Tx.slice (by k_extra "tx") _ _)
  (k_with "enter9" => (refine' code_m ?qk1q ?qk2q ?qk3q ?qk4q ?qk5q ?qkAq ?qkFq ?qkKq ?qk6q ?qk7q ?qk8q ?qk9q ?qkBq ?_ ?qc2q ?qc3q ?qc4q ?qc5q; (case qkAq => exact rfl); (case qkFq => exact rfl); (case qkKq => first | exact rfl | assumption); (case qk1q => k_asm); (case qk2q => k_asm); (case qk3q => k_asm); (case qk4q => k_asm); (case qk5q => k_asm); (case qk6q => k_is); (case qk7q => k_is); (case qk8q => (first | omega | (dsimp only [Around.deeper, Around.in1, ktrTop]; omega) | ktr_room)); (case qk9q => first | exact BindsTo.of_eq rfl | exact binds_K (by k_in) rfl (by k_is) rfl rfl rfl); (case qc5q => decide); (case qkBq => exact locs rfl); (case qc2q => exact rfl); (case qc3q => exact rfl); (case qc4q => exact rfl); k_whole; intro g' L' h' tk' FG' m' F' N' B' X' T'; (try dsimp only); (try k_lift B'); (try k_fold)))
  (k_with "ho9" => (intro y9 a9 b9; simp only [List.forall_mem_cons, List.forall_mem_nil, and_true] at b9; simp only [bsM, a9, b9, if_false]))
  (k_with "ne9" => ((try simp only [AllNe, and_true, ne_eq] at *); first | assumption | trivial | grind))
  (k_with "k_mem9w" => (with_reducible (refine List.mem_cons_of_mem _ ?_); k_mem))
  (k_with "k_mem9w" => (with_reducible assumption))
  (k_with "labs" => first | with_reducible assumption | (with_reducible refine' Labs.pick ?_ _ _; (focus k_extra "labs")) | (with_reducible refine' Labs.rev ?_; (focus k_extra "labs")) | (with_reducible refine' Labs.app ?_ ?_; (focus k_extra "labs"); (focus k_extra "labs")))
  (k_with "len4" => first | omega | (have hp4 := pick_len; (try simp only [List.length_append, List.length_reverse]); first | (exact Nat.le_trans (pick_len _ _ _) (by with_reducible assumption)) | grind))
  (k_with "call builtin:len" => (k_here; (with_reducible show wpAny _ _ (call (Value.builtin "len") [Value.ref _]) _ _ _); k_dflt (refine' lst_len ?qNq ?qqq ?qiq ?qzq ?_; (case qNq => k_asm); (case qqq => k_mem); (case qiq => with_reducible assumption); (case qzq => k_extra "len4"); k_whole); intro _ _))
  (k_with "subscriptTail" => (k_here; (with_reducible show wpAny _ _ (subscriptTail _ _ (Value.ref _) (Value.int _ _)) _ _ _); k_dflt (refine' lst_item ?qNq ?qqq ?qiq ?qh0q ?qh1q ?qzq ?_ ?qhsq; (case qNq => k_asm); (case qqq => k_mem); (case qiq => with_reducible assumption); (case qh0q => omega); (case qh1q => omega); (case qzq => omega); (case qhsq => with_unfolding_all rfl); k_whole); intro _))
  (k_with "subscriptTail" => (k_here; (with_reducible show wpAny _ _ (subscriptTail _ _ (Value.ref _) (Value.int (-1) _)) _ _ _); k_dflt (refine' lst_last ?qNq ?qqq ?qiq ?qh0q ?_ ?qhsq; (case qNq => k_asm); (case qqq => k_mem); (case qiq => with_reducible assumption); (case qh0q => omega); (case qhsq => with_unfolding_all rfl); k_whole); intro _))
  (k_with "subscriptTail Name Slice ref ref" => (k_here; (with_reducible show wpAny _ _ (subscriptTail _ (PySem.Expr.Slice _ _ none _) (Value.ref _) (Value.ref _)) _ _ _); k_dflt (refine' lst_slice ?qFq ?qNq ?qlq ?qiq ?qpq ?qqq ?qzq ?_ ?qsq ?qtq; (case qFq => k_asm); (case qNq => k_asm); (case qlq => k_mem); (case qiq => with_reducible assumption); (case qpq => kmk_part); (case qqq => kmk_part); (case qzq => k_extra "len4"); (case qsq => with_unfolding_all rfl); (case qtq => kmk_pure)); intro D' h' js' c' F' N' l1 hi'; (try k_lt l1); (try k_sweep)))
  (k_with "subscriptTail Name Slice ref ref" => (k_here; (with_reducible show wpAny _ _ (subscriptTail _ (PySem.Expr.Slice none none (some _) _) (Value.ref _) (Value.ref _)) _ _ _); k_dflt (refine' lst_rev ?qFq ?qNq ?qlq ?qiq ?qpq ?qzq ?_ ?qsq ?qtq; (case qFq => k_asm); (case qNq => k_asm); (case qlq => k_mem); (case qiq => with_reducible assumption); (case qpq => kmk_part); (case qzq => k_extra "len4"); (case qsq => with_unfolding_all rfl); (case qtq => kmk_pure)); intro D' h' js' c' F' N' l1 hi'; (try k_lt l1); (try k_sweep)))
  (k_with "call builtin:str.join" => (k_here; (with_reducible show wpAny _ _ (call (Value.builtin "str.join") [Value.str _ _, Value.ref _]) _ _ _); k_dflt (refine' lst_join ?qNq ?qqq ?qiq ?qhLq ?qzq ?qhsq ?_; (case qNq => k_asm); (case qqq => k_mem); (case qiq => with_reducible assumption); (case qhLq => k_extra "labs"); (case qzq => k_extra "len4"); (case qhsq => decide); k_whole); intro _ _))
  (k_with "binaryOp Add ref ref" => (k_here; (with_reducible show wpAny _ _ (binaryOp _ (Value.ref _) (Value.ref _)) _ _ _); k_dflt (refine' lst_cat ?qFq ?qNq ?qaq ?qbq ?qiq ?qjq ?qyq ?qzq ?_; (case qFq => k_asm); (case qNq => k_asm); (case qaq => k_mem); (case qbq => k_mem); (case qiq => with_reducible assumption); (case qjq => with_reducible assumption); (case qyq => k_extra "len4"); (case qzq => k_extra "len4")); intro D' h' js' c' F' N' l1 hI'; (try k_lt l1); (try k_sweep)))
  (k_with "tx" => first | with_reducible assumption | (with_reducible exact Ho.tx (by assumption)) | (with_reducible refine' Tx.upper ?_; (focus k_extra "tx")) | (with_reducible refine' LW_tx ?_; (focus k_extra "tx")) | (with_reducible refine' app_tx ?_ a_ho; with_reducible assumption) | (with_reducible refine' labs_tx ?_ ?_; (focus k_extra "labs"); (focus k_extra "len4")) | (with_reducible refine' labs0_tx ?_ ?_; (focus k_extra "labs"); (focus k_extra "len4")) | (with_reducible refine' Ho.tx (dots_ho ?_); omega))
  (k_with "submem" => (intro p hp; repeat (first | (with_reducible exact hp) | (with_reducible refine List.mem_cons_of_mem _ ?_))))
  (k_with "wsat" => (refine' WsAt.sub ?qWq ?qsq; (case qWq => with_reducible assumption); (case qsq => k_extra "submem")))
  (k_with "call ref" => (k_here; (with_reducible show wpAny _ _ (call (Value.ref 183) _) _ _ _); k_dflt (refine' Con.use (con_leadW _ _ ?qhxq _) ?qBq ?qFq ?qXq ?qNq ?qTq ?qhkq ?qh1q ?qh2q ?_; (case qFq => k_asm); (case qNq => k_asm); (case qhxq => k_extra "tx"); (case qBq => k_asm); (case qXq => k_asm); (case qTq => k_asm); (case qhkq => first | exact rfl | assumption); (case qh1q => (first | omega | (dsimp only [Around.deeper, Around.in1, ktrTop]; omega))); (case qh2q => (first | omega | (dsimp only [Around.deeper, Around.in1, ktrTop]; omega))); k_whole; intro a' d' tc' tn' vs' e' t' h' tk' F' N' hv' l1 l2 l3 l4 l5 l6 l7; (have hw9' := wsat_of N' hv'); (try k_sweep); (try dsimp only); (try k_fold))))
  (k_with "call ref" => (k_here; (with_reducible show wpAny _ _ (call (Value.ref 116) _) _ _ _); k_dflt (refine' Con.use (con_eqW _ _ _ _ ?qhxq ?qhyq _ ?qWq ?qVq) ?qBq ?qFq ?qXq ?qNq ?qTq ?qhkq ?qh1q ?qh2q ?_; (case qFq => k_asm); (case qNq => k_asm); (case qWq => k_extra "wsat"); (case qVq => k_extra "wsat"); (case qhxq => k_extra "tx"); (case qhyq => k_extra "tx"); (case qBq => k_asm); (case qXq => k_asm); (case qTq => k_asm); (case qhkq => first | exact rfl | assumption); (case qh1q => (first | omega | (dsimp only [Around.deeper, Around.in1, ktrTop]; omega))); (case qh2q => (first | omega | (dsimp only [Around.deeper, Around.in1, ktrTop]; omega))); k_whole; intro t' h' tk' F' N'; (try k_sweep); (try dsimp only); (try k_fold))))
  (k_with "call ref" => (k_here; (with_reducible show wpAny _ _ (call (Value.ref 130) _) _ _ _); k_dflt (refine' Con.use (con_lessW _ _ _ _ ?qhxq ?qhyq _ ?qWq ?qVq) ?qBq ?qFq ?qXq ?qNq ?qTq ?qhkq ?qh1q ?qh2q ?_; (case qFq => k_asm); (case qNq => k_asm); (case qWq => k_extra "wsat"); (case qVq => k_extra "wsat"); (case qhxq => k_extra "tx"); (case qhyq => k_extra "tx"); (case qBq => k_asm); (case qXq => k_asm); (case qTq => k_asm); (case qhkq => first | exact rfl | assumption); (case qh1q => (first | omega | (dsimp only [Around.deeper, Around.in1, ktrTop]; omega))); (case qh2q => (first | omega | (dsimp only [Around.deeper, Around.in1, ktrTop]; omega))); k_whole; intro t' h' tk' F' N'; (try k_sweep); (try dsimp only); (try k_fold))))
  (k_with "binaryOp Mult str int" => (k_here; (with_reducible show wpAny _ _ (binaryOp _ (Value.str (Str.ofString ".") _) (Value.int _ _)) _ _ _); (refine SB.mul (mulOk_of 16 16 (by decide) (by omega) (by omega) (by decide) (by decide)) ?_; intro _ _)))
  have hx1 := hx.1
  have hxt := hx.tx
  have hg0 : (xs.getD (Int.toNat 0) Str.empty).length ≤ 3 := (hL.getD _).1
  have hg9 : (lastT xs).length ≤ 3 := (hL.getD _).1
  have e1' : (eqW (LW (Txt.join (Str.ofString ".") xs.reverse)) (LW x) != (((xs.getD (Int.toNat 0) Str.empty).length : Int) == ((lastT xs).length : Int))) = false := by rw [e1]; exact bne_self_eq_false' _
  have e2' : (lessW (LW x) (LW (x ++ Str.ofString "a")) != true) = false := by rw [e2]; rfl
  have e3' : (eqW (LW x) (LW (x ++ Str.ofString "a")) != false) = false := by rw [e3]; rfl
  have e4' : (lessW (LW (Txt.mul (Str.ofString ".") (xs.length - 1))) (LW (Txt.join (Str.ofString "") xs)) != false) = false := by rw [e4]; rfl
  obtain ⟨wd, wtc, wtn, wvs, we, wt, wm1, wm2, wm3, wm4, whv⟩ := W0.ex
  have hgj : (Txt.join (Str.ofString "") xs).length ≤ 16 := (join0_ho hL h4).1
  unfold Con
  k_fill
  intro w mean mg mb dp un gd cn cs a ccd cl outer A₀ base h₀ L m s Q E B F X N T hk hd9 hu ret
  refine wpAny_call ?_
  k_dflt (k_extra "enter9")
  k_steps
  all_goals first
    | (exfalso; exact Bool.noConfusion (e1'.symm.trans (by with_reducible assumption)))
    | (exfalso; exact Bool.noConfusion (e2'.symm.trans (by with_reducible assumption)))
    | (exfalso; exact Bool.noConfusion (e3'.symm.trans (by with_reducible assumption)))
    | (exfalso; exact Bool.noConfusion (e4'.symm.trans (by with_reducible assumption)))
    | (refine' endB ret ?F ?N ?S ?e; (case F => k_asm); (case N => k_asm); (case S => k_extra "submem"); (case e => (rw [e5]; exact beq_self_eq_true _)))


end Mine
end

section
local macro_rules | `(tactic| omega) => `(tactic| lia)
open PySem PySem.W PyProof.Rows PySem.Calls PySem.Spec
set_option Elab.async false
set_option maxRecDepth 100000
set_option maxHeartbeats 4000000
namespace Mine
noncomputable abbrev tabO (ps : Array Value) : Obj := { cls := .none, data := .fields ps }
section
variable {M : Model} {A : Around} {E : Value → Shared → Prop} {s : Shared}
theorem code_made {env : Env} {c P : Addr} {ps : Array Value} {pos : Pos} {qualname : Str} {scope : Scope} {Q : Value → Shared → Prop} (hc : env.code = .ref c) (hok : s.heap.IsCode c P ps) (htab : s.heap.TableAt c P ps)
    (hQ : ∀ code h' tk ps', Heap.ExtBut P s.heap h' → s.heap.objs.size ≤ h'.objs.size → h'.IsCode c P ps' → h'.TableAt c P ps' → Q code { s with heap := h', toks := tk }) :
    wpAny M A (genexprCode env pos qualname scope) Q E s := by
  cases hnf : codeAmong pos ps.toList with
  | none => exact wpAny_genexprCodeX hc hok htab hnf fun c' h' tk hx hge hlt h1 _ h2 _ => hQ _ h' tk _ hx (by omega) h1 h2
  | some cv =>
    obtain ⟨o, vs, file, tf, flags, tg, inF, text, tt, op, ho, hd, h11, h2, h7, h9, h10, hop, hpd, htr, hne⟩ := id hok
    unfold genexprCode codeAt
    rw [hc, if_neg (show ¬ ((Value.ref c == Value.none) = true) from Bool.false_ne_true)]
    refine wpAny_bind (wpAny_fieldsOf ho hd ?_)
    rw [h11]
    refine wpAny_bind (wpAny_fieldsOf hop hpd ?_)
    rw [hnf]
    exact wpAny_pure (hQ cv s.heap s.toks ps (Heap.ExtBut.refl _ _) (Nat.le_refl _) hok htab)
end
theorem pass_all (n : Nat) : passing (fun _ => true) n 0 = List.range n := by
  unfold passing; rw [List.drop_zero, List.filter_eq_self.mpr fun _ _ => rfl]
section
variable {prog : Program} {w : World} {A : Around} {E : Value → Shared → Prop} {s : Shared}
/-- an items' walk of a generator made from the list l; the frame L is not looked at -/
theorem gen_made {env : Env} {elt iter : Expr} {x : Str} {px : Pos} {scope : Scope} {cl : List (Str × Addr)} {pos : Pos} {Q : Value → Shared → Prop} {L l c P bm : Addr} {ps items : Array Value} {F : Nat → Value → Prop} {mg : Str → Option Value} {ob : Obj}
    (hh : A.handled = none) (hco : scope.isCoroutine = false) (hclos : closureFor scope env = pure cl) (hcell : ∀ y ∈ scope.names, y.2 ≠ .cell) (h0 : scope.names.lookup (".0" : Str) = some NameKind.local)
    (hx : scope.names.lookup x = some .local) (hkind : scope.kind = .function) (hroom : A.depth < recursionLimit)
    (hcode : env.code = .ref c) (hC : s.heap.IsCode c P ps) (hT : s.heap.TableAt c P ps) (M : BMod s.heap env.globals mg bm ob) (hlim : s.heap.NoLimit)
    (hLl : L ≠ l) (hLs : L < s.heap.objs.size) (hL1 : L ≠ cStatics) (hl : s.heap.IsList l items) (hG : AllBare s.gens)
    (hiter : ∀ Q' : Value → Shared → Prop, Q' (.ref l) s → wpAny (model prog w) A (eval iter env) Q' E s)
    (hq : ∀ (code : Value) (C : Addr) (A' : Around) E' i v (t : Shared) m₂, A'.handled = none → A'.depth ≤ A.depth + 1 → A'.units ≤ A.units + 8 → items[i]? = some v → s.heap.objs.size ≤ C → t.heap.Ns C m₂ → m₂ x = some v → (∀ b o, b ≠ P → b ≠ L → s.heap.get? b = some o → t.heap.get? b = some o) →
      wpAny (model prog w) A' (eval elt (genEnv scope cl C code builtinsNs env)) (fun y s₃ => F i y ∧ Keeps t s₃) E' t)
    (hQ : ∀ (a K : Addr) (ps' : Array Value) (s₅ : Shared), s₅.os = s.os → AllBare s₅.gens → s₅.heap.IsCode c P ps' → s₅.heap.TableAt c P ps' → (∀ b o, b ≠ P → s.heap.get? b = some o → s₅.heap.get? b = some o) → L ≤ K → s.heap.objs.size = K + 1 → K < a →
      (∀ h' tk, (∀ b o, b ≠ L → s₅.heap.get? b = some o → h'.get? b = some o) → Gen prog w A K a items.size F { s₅ with heap := h', toks := tk }) → Q (.ref a) s₅)
    (hs : ∀ x, genFold iter env x = pure x) :
    wpAny (model prog w) A (eval (.GeneratorExp elt [⟨.Name x px, iter, [], 0⟩] scope pos) env) Q E s := by
  have hlt : l < s.heap.objs.size := by obtain ⟨_, e, _⟩ := hl; exact Heap.lt_size e
  have hlP : l ≠ P := fun e => by
    obtain ⟨o, ho, hc, _⟩ := hl
    rw [e, hT.2] at ho; cases ho; exact absurd hc (by simp)
  have hPlt : P < s.heap.objs.size := Heap.lt_size hT.2
  have hP1 : cStatics ≠ P := fun e => by
    obtain ⟨_, ⟨o, es, ep, ho, hd, _⟩, _⟩ := hlim
    rw [e, hT.2] at ho; cases ho; cases hd
  have hIget : ∀ b o, s.heap.get? b = some o → (s.heap.push { cls := .type "list_iterator", data := .fields #[.ref l, .int 0 0] }).get? b = some o := fun b o e => Heap.get?_push_of_some _ e
  refine wpAny_GeneratorExp_make hco hclos hcell h0 hkind hroom (hiter _ (wpAny_pyIter_list hl ⟨hlim.push _, code_made (P := P) (ps := ps) hcode (hC.keeps hIget) (hT.keeps hIget) fun code h₃ tk₃ ps' hx₃ hsz₃ hC₃ hT₃ => ?_⟩)) hs
  have M₃ : BMod h₃ env.globals mg bm ob := (M.keeps hIget).extBut (hT.keeps hIget) hx₃
  have hl₃ : h₃.NoLimit := (hlim.push _).extBut hx₃ hP1
  refine wpAny_builtinsFor M₃.ns M₃.name M₃.ne M₃.obj M₃.cls M₃.dict M₃.data ?_
  intro h' hn' hs'
  have hsI : s.heap.objs.size < h₃.objs.size := by
    refine Nat.lt_of_lt_of_le ?_ hsz₃
    show s.heap.objs.size < (s.heap.push _).objs.size
    rw [Heap.size_push]; exact Nat.lt_succ_self _
  have hsz : h'.objs.size = h₃.objs.size + 1 := by rw [hs'.1, Heap.size_push]
  have keep' : ∀ b o, h₃.get? b = some o → h'.get? b = some o := fun b o e => hs'.extBut b o (Nat.ne_of_lt (Heap.lt_size e)) (Heap.get?_push_of_some _ e)
  have old₃ : ∀ b o, b ≠ P → s.heap.get? b = some o → h₃.get? b = some o := fun b o hb e => hx₃ b o hb (hIget b o e)
  have hI₃ : h₃.IsListIter s.heap.objs.size l 0 := Heap.IsListIter.at (h := s.heap.push { cls := .type "list_iterator", data := .fields #[.ref l, .int 0 0] }) ⟨_, Heap.get?_push_size _ rfl, rfl, rfl⟩ fun o e => hx₃ _ o (Nat.ne_of_gt hPlt) e
  have hl3 : h₃.IsList l items := hl.at fun o e => old₃ l o hlP e
  let fp : List Addr := (List.range h₃.objs.size).filter fun b => decide (b ≠ L) && (h₃.get? b).isSome
  have mfp : ∀ b, b ∈ fp ↔ b ≠ L ∧ ∃ o, h₃.get? b = some o := fun b => by
    show b ∈ (List.range h₃.objs.size).filter _ ↔ _
    rw [List.mem_filter, List.mem_range, Bool.and_eq_true, decide_eq_true_eq, Option.isSome_iff_exists]
    exact ⟨fun q => q.2, fun q => ⟨let ⟨o, e⟩ := q.2; Heap.lt_size e, q⟩⟩
  have hfI : s.heap.objs.size ∈ fp := (mfp _).mpr ⟨Nat.ne_of_gt hLs, let ⟨o, e, _⟩ := hI₃; ⟨o, e⟩⟩
  have hfl : l ∈ fp := (mfp _).mpr ⟨Ne.symm hLl, let ⟨o, e, _⟩ := hl3; ⟨o, e⟩⟩
  have hfc : cStatics ∈ fp := (mfp _).mpr ⟨Ne.symm hL1, let ⟨_, ⟨o, _, _, e, _⟩, _⟩ := hl₃; ⟨o, e⟩⟩
  have hC0 : h₃.objs.size ∉ fp := fun hm => by
    obtain ⟨_, o, e⟩ := (mfp _).mp hm
    exact Nat.lt_irrefl _ (Heap.lt_size e)
  have ha0 : h'.objs.size ∉ fp := fun hm => by
    obtain ⟨_, o, e⟩ := (mfp _).mp hm
    exact absurd (Heap.lt_size e) (by rw [hsz]; exact Nat.not_lt_of_le (Nat.le_succ _))
  have haC : h'.objs.size ≠ h₃.objs.size := by rw [hsz]; exact Nat.succ_ne_self _
  have hsub : ∀ b ∈ [s.heap.objs.size], b ∈ fp := fun b hb => by rw [List.mem_singleton.mp hb]; exact hfI
  have W₀ : ∀ A' : Around, A'.handled = none → Walks prog w A' s.heap.objs.size fp [s.heap.objs.size] items.size (fun i v => items[i]? = some v) (fun i h => h.IsListIter s.heap.objs.size l i ∧ h.IsList l items) := fun A' hA =>
    (Walks.list hA _ _ (Nat.ne_of_lt hlt) items).mono_fp fun b hb => by
      rcases List.mem_cons.mp hb with rfl | hb
      · exact hfI
      · rw [List.mem_singleton.mp hb]; exact hfl
  have hcw : cStatics ∉ [s.heap.objs.size] := fun hm => by
    rw [List.mem_singleton] at hm
    obtain ⟨_, hn, _⟩ := hlim
    exact absurd hn.lt (by rw [hm]; exact Nat.lt_irrefl _)
  have hc3 : cStatics < h₃.objs.size := let ⟨_, hn, _⟩ := hl₃; hn.lt
  have keep₅ : ∀ b o, h₃.get? b = some o → (h'.push { cls := .type "generator", data := .fields #[.int s.gens.size 0, .str "<genexpr>" (tk₃ + 1), .str (env.qual ++ "<genexpr>") (tk₃ + 1 + 1)] }).get? b = some o :=
    fun b o e => Heap.get?_push_of_some _ (keep' b o e)
  have hquiet : QuietGenD prog w (genEnv scope cl h₃.objs.size code builtinsNs env) x [] elt fp [s.heap.objs.size] (fun i v => items[i]? = some v) (fun _ => true) F (h'.push { cls := .type "generator", data := .fields #[.int s.gens.size 0, .str "<genexpr>" (tk₃ + 1), .str (env.qual ++ "<genexpr>") (tk₃ + 1 + 1)] }) (A.depth + 1) (A.units + 8) := by
    refine ⟨fun A' E' i v s₂ m₂ hA hD hU hP hn hm hkp => wpAny_pure ⟨rfl, s₂.heap, s₂.toks, rfl, fun _ _ e => e⟩, fun A' E' i v s₂ m₂ hA hD hU hP _ hn hm hkp => ?_⟩
    refine hq code _ A' E' i v s₂ m₂ hA hD hU hP (Nat.le_of_lt hsI) hn hm fun b o hb hbL e => ?_
    have e3 := old₃ b o hb e
    exact hkp b ((mfp b).mpr ⟨hbL, o, e3⟩) (fun hm => by rw [List.mem_singleton] at hm; exact absurd (Heap.lt_size e) (by rw [hm]; exact Nat.lt_irrefl _)) o (keep₅ b o e3)
  have W := WalksS.genexpQ (prog := prog) (w := w) (A := A.in4) hh h'.objs.size s.gens.size h₃.objs.size fp [s.heap.objs.size] (fun _ => true) items.size F haC ha0 hsub hroom hfc (Nat.ne_of_lt hc3) hcw
  have S0 : GenAt prog w A.in4 h'.objs.size s.gens.size h₃.objs.size fp [s.heap.objs.size] (fun _ => true) items.size F 0 { s with gens := s.gens.push (.fresh (.compStart (.GeneratorExp elt [⟨.Name x px, iter, [], 0⟩] scope pos) 0 (.ref s.heap.objs.size) .none (genEnv scope cl h₃.objs.size code builtinsNs env))), toks := tk₃ + 1 + 1 + 1, heap := h'.push { cls := .type "generator", data := .fields #[.int s.gens.size 0, .str "<genexpr>" (tk₃ + 1), .str (env.qual ++ "<genexpr>") (tk₃ + 1 + 1)] } } :=
    GenAt.freshD (A := A.in4) (cenv := genEnv scope cl h₃.objs.size code builtinsNs env) (m := fun y => if y = ".0" then some (.ref s.heap.objs.size) else none) hh
      W₀ (fun _ => true) F hx (by simp [genEnv, hkind]) hco hC0 hquiet ⟨_, _, _, Heap.get?_push_size _ rfl, rfl, rfl, rfl⟩ (Array.getElem?_push_size ..)
      ⟨hI₃.at fun o e => keep₅ _ o e, hl3.at fun o e => keep₅ _ o e⟩ (hn'.push _) (hl₃.keeps keep₅)
  rw [pass_all, List.length_range] at W
  have hpos : 0 < s.heap.objs.size := Nat.lt_of_le_of_lt (Nat.zero_le _) hLs
  have hsa : s.heap.objs.size < h'.objs.size := Nat.lt_trans hsI (by rw [hsz]; exact Nat.lt_succ_self _)
  have neL : ∀ b, b ∈ h'.objs.size :: h₃.objs.size :: fp → b ≠ L := fun b hb => by
    rcases List.mem_cons.mp hb with rfl | hb
    · exact Nat.ne_of_gt (Nat.lt_trans hLs hsa)
    · rcases List.mem_cons.mp hb with rfl | hb
      · exact Nat.ne_of_gt (Nat.lt_trans hLs hsI)
      · exact ((mfp b).mp hb).1
  have getL : ∀ b, b ∈ h'.objs.size :: h₃.objs.size :: fp → ∃ o, (h'.push { cls := .type "generator", data := .fields #[.int s.gens.size 0, .str "<genexpr>" (tk₃ + 1), .str (env.qual ++ "<genexpr>") (tk₃ + 1 + 1)] }).get? b = some o := fun b hb => by
    rcases List.mem_cons.mp hb with rfl | hb
    · exact ⟨_, Heap.get?_push_size _ rfl⟩
    · rcases List.mem_cons.mp hb with rfl | hb
      · obtain ⟨o, _, _, e, _⟩ := hn'
        exact ⟨o, Heap.get?_push_of_some _ e⟩
      · obtain ⟨_, o, e⟩ := (mfp b).mp hb
        exact ⟨o, keep₅ b o e⟩
  refine hQ h'.objs.size (s.heap.objs.size - 1) ps' _ rfl (hG.push rfl) (hC₃.keeps keep₅) (hT₃.keeps keep₅) (fun b o hb e => keep₅ b o (old₃ b o hb e)) (Nat.le_sub_one_of_lt hLs) (Nat.sub_add_cancel hpos).symm (Nat.lt_of_le_of_lt (Nat.sub_le _ _) hsa) ?_
  intro h6 tk6 hk6
  refine ⟨_, _, _, _, W.imp ?_, ?_, (fun i s' st => st.1.typeIs), List.mem_cons_self, ?_, ?_⟩
  · rintro j y ⟨i, hi, hF⟩
    obtain ⟨hj, e⟩ := List.getElem?_eq_some_iff.mp hi
    rw [List.getElem_range] at e
    subst e; exact hF
  · obtain ⟨⟨o, nm, qn, ho, r⟩, ⟨mc, hns, hnn⟩, gs, hgs, hal⟩ := S0
    exact ⟨⟨o, nm, qn, hk6 _ o (neL _ List.mem_cons_self) ho, r⟩, ⟨mc, hns.at' fun o e => hk6 _ o (Ne.symm hL1) e, hnn⟩, gs, hgs, fun s'' hal' => hal s'' fun b hb o e => hal' b hb o (hk6 b o (neL b (List.mem_cons_of_mem _ hb)) e)⟩
  · intro b hb
    show b < h6.objs.size
    obtain ⟨o, e⟩ := getL b hb
    exact Heap.lt_size (hk6 b o (neL b hb) e)
  · intro b hb
    rcases List.mem_cons.mp hb with rfl | hb
    · exact Nat.lt_of_le_of_lt (Nat.sub_le _ _) hsI
    · rw [List.mem_singleton.mp hb]; exact Nat.sub_lt hpos (by decide)
end
end Mine
end

section
open PySem PySem.W PyProof.Rows PySem.Calls
set_option Elab.async false
set_option maxRecDepth 100000
namespace Mine
noncomputable abbrev looseH : List Str := looseW hd.view_39 [Str.ofString "IPV4_RE", Str.ofString "Whitespace", Str.ofString "_safe_string"]
theorem in_v {l : List Str} (h : l.all (fun y => looseV.contains y) = true) {x : Str} (m : x ∈ l) : x ∈ looseV := by
  simpa using List.all_eq_true.mp h x m
noncomputable abbrev tabsV : List (Addr × Addr) := [(150, 146)]
section
variable {h₁ : Heap} {P : Params} {mean : ExcName → Option Value} {mg mb : Str → Option Value}
theorem tabs_v (T : Top hd.view_39 looseH mean mg mb h₁) (X : (hd.heap_39 P).In h₁) : TabsAt tabsV h₁ := by
  intro q hq
  rw [List.mem_singleton.mp hq]
  obtain ⟨d, hr⟩ := Option.isSome_iff_exists.mp (show ((recsOf hd.view_39).find? (fun e => e.name == Str.ofString "format_witnesses")).isSome = true by kernel_rfl)
  exact tab_of (x := Str.ofString "format_witnesses") T X hr (by kernel_rfl)
theorem ghost_vw (T : Top hd.view_39 looseH mean mg mb h₁) (hT : TabsAt tabsV h₁) : Top vw looseV mean mg mb (ghostOf h₁ tabsV) where
  g := ghost_ns hT T.g
  b := ghost_ns hT T.b
  nolimit := let ⟨mc, a, r⟩ := T.nolimit; ⟨mc, ghost_ns hT a, r⟩
  nodigits := let ⟨mc, a, r⟩ := T.nodigits; ⟨mc, ghost_ns hT a, r⟩
  fn := fun d hd => absurd (show d ∈ ([] : List DefRec) from hd) List.not_mem_nil
  own := fun o ho => absurd (show o ∈ ([] : List OwnSpec) from ho) List.not_mem_nil
  const := fun x d e => by cases (show (none : Option PyData) = some d from e)
  free := fun x h1 h2 _ _ _ => T.free x h1 (fun q => h2 (in_v (by decide +kernel) q)) (fun q => h2 (in_v (by decide +kernel) q)) (fun q => h2 (in_v (by decide +kernel) q)) fun q => h2 (in_v (by decide +kernel) q)
  builtins := T.builtins
  tab := fun d hd => absurd (show d ∈ ([] : List DefRec) from hd) List.not_mem_nil
  bmain := let ⟨bm, ob, a1, a2, a3, a4, r⟩ := T.bmain; ⟨bm, ob, a1, a2, ghost_get hT a3 (fun q => by rw [q] at a4; cases a4), a4, r⟩
  seer := fun _ => by
    obtain ⟨⟨mc, s1, s2, s3⟩, ⟨mm, m1, m2⟩, ⟨mb', i1, i2⟩, ⟨mg', bm, ob, n1, n2, n3, n4, n5⟩⟩ := T.seer (by decide +kernel)
    exact ⟨⟨mc, ghost_ns hT s1, s2, s3⟩, ⟨mm, ghost_ns hT m1, m2⟩, ⟨mb', ghost_ns hT i1, i2⟩, ⟨mg', bm, ob, ghost_ns hT n1, n2, ghost_get hT n3 (fun q => by rw [q] at n4; cases n4), n4, n5⟩⟩
theorem ghost_in (hT : TabsAt tabsV h₁) (X : (hd.heap_39 P).In h₁) : (hd.heap_39 P).In (ghostOf h₁ tabsV) := ghost_K hT X (by kernel_rfl)
end
end Mine
end

section
local macro_rules | `(tactic| omega) => `(tactic| lia)
open PySem PySem.W PyProof.Rows PySem.Calls
set_option Elab.async false
set_option maxRecDepth 100000
set_option maxHeartbeats 8000000
namespace Mine

theorem tups_at {bs : List (Addr × Obj)} : ∀ {vs : List Value} {nss : List (List Int)}, TupsAre bs vs nss → ∀ (i : Nat) (v : Value), vs[i]? = some v → ∃ a ws ns, v = .ref a ∧ (a, tupO ws) ∈ bs ∧ IntsAre ws ns ∧ nss[i]? = some ns
  | _, _, .nil, _, _, e => by cases e
  | _, _, .cons h hi r, 0, v, e => by cases e; exact ⟨_, _, _, rfl, h, hi, rfl⟩
  | _, _, .cons _ _ r, i + 1, v, e => tups_at r i v e
theorem fmt_elt {w : World} {mean : ExcName → Option Value} {mg mb : Str → Option Value} {g : Heap} {C tp : Addr} {ws : List Value} {ns : List Int} {t : Shared} {m₂ : Str → Option Value} {A' : Around} {E' : Value → Shared → Prop} {code : Value} {L : Addr} {Q : Value → Shared → Prop}
    (F : Fr g C t.heap m₂) (N : News g C t.heap [(tp, tupO ws)]) (T : Top vw looseV mean mg mb g) (hm : m₂ (Str.ofString "tup") = some (.ref tp)) (hi : IntsAre ws ns) (h0 : 0 < ns.length) (h9 : ns.length ≤ 16) (hn : (ns.getD 0 0).natAbs.log2 < 1920)
    (h : ∀ t' tk, Q (.str (toString (ns.getD 0 0)) t') { t with toks := tk }) :
    wpAny (model PySem.Challenge.rw_xe0049_01.row.prog w) A' (eval ((Expr.Name (Str.ofString "str") { line := 113, col := 14, endLine := 113, endCol := 17 }).Call [(Expr.Name (Str.ofString "tup") { line := 113, col := 18, endLine := 113, endCol := 21 }).Subscript (Expr.Constant (Const.int 0) 0 { line := 113, col := 22, endLine := 113, endCol := 23 }) { line := 113, col := 18, endLine := 113, endCol := 24 }] [] { line := 113, col := 14, endLine := 113, endCol := 25 }) (genEnv (Scope.mk ScopeKind.function [(Str.ofString ".0", NameKind.local), (Str.ofString "tup", NameKind.local), (Str.ofString "str", NameKind.globalImplicit)] true false []) [] C code builtinsNs (envOf (Str.ofString "format_witnesses") (Scope.mk ScopeKind.function [(Str.ofString "w", NameKind.local), (Str.ofString "firsts", NameKind.local), (Str.ofString "prefix", NameKind.local), (Str.ofString "len", NameKind.globalImplicit)] false false []) L 151 (Value.ref 150)))) Q E' t := by
  refine Call_ ?_
  refine Name_function_global rfl rfl (loadGlobal_builtin (T.g.keeps F.keep) (T.free _ (by decide +kernel) (by decide +kernel) (by decide +kernel) (by decide +kernel) (by decide +kernel)) (T.b.keeps F.keep) ((T.builtins _ (by decide +kernel)).trans rfl) ?_) (by decide)
  refine PyProof.Rows.callWith_type1 ?_
  refine args_cons ?_
  refine Subscript_ ?_
  refine ldVarG F hm ?_
  refine wpAny_Constant_int ?_
  refine sub_tupN (k := 0) N (List.mem_singleton.mpr rfl) hi (by omega) (by omega) (by omega) (fun u' => ?_)
  refine args_nil ?_
  exact P.str_of_int hn (h _ _)

end Mine
end

section
open PySem PySem.W PyProof.Rows PySem.Calls
set_option Elab.async false
set_option maxRecDepth 100000
set_option maxHeartbeats 8000000
namespace Mine

theorem code150_ {P : Params} {h : Heap} : PySem.Challenge.rw_xe0049_01 = PySem.Challenge.rw_xe0049_01 → (hd.heap_39 P).In h → CodeHd h 150 146 := by
  k_fill
  intro _ X
  have e : h.get? 150 = some _ := X 150 _ (by k_is)
  exact ⟨_, _, _, _, _, _, _, _, _, e, rfl, rfl, rfl, rfl, rfl, rfl, rfl, rfl, by decide⟩
theorem code150 {P : Params} {h : Heap} (X : (hd.heap_39 P).In h) : CodeHd h 150 146 := code150_ rfl X
noncomputable def firstT (ns : List Int) : Str := toString (ns.getD 0 0)
noncomputable def FmtF (iss : List (List Int)) (i : Nat) (y : Value) : Prop := ∃ ns u, iss[i]? = some ns ∧ y = .str (firstT ns) u
/-- what stands below L and above, the frame aside -/
noncomputable def others (h₀ h : Heap) (L : Addr) : List (Addr × Obj) := (List.range h.objs.size).filterMap fun b => if b = L ∨ (h₀.get? b).isSome then none else (h.get? b).map fun o => (b, o)
theorem mem_others {h₀ h : Heap} {L b : Addr} {o : Obj} : (b, o) ∈ others h₀ h L ↔ b ≠ L ∧ h₀.get? b = none ∧ h.get? b = some o := by
  unfold others
  rw [List.mem_filterMap]
  constructor
  · rintro ⟨b', _, e⟩
    split at e
    · cases e
    · rename_i hn
      obtain ⟨o', e1, e2⟩ := Option.map_eq_some_iff.mp e
      cases e2
      have h2 : ¬ (h₀.get? b).isSome = true := fun q => hn (.inr q)
      refine ⟨fun q => hn (.inl q), ?_, e1⟩
      cases q : h₀.get? b with
      | none => rfl
      | some _ => rw [q] at h2; exact absurd rfl h2
  · rintro ⟨h1, h2, h3⟩
    refine ⟨b, List.mem_range.mpr (Heap.lt_size h3), ?_⟩
    rw [if_neg (by rw [h2]; simp [h1]), h3]; rfl
theorem others_news {h₀ h : Heap} {L : Addr} : News h₀ L h (others h₀ h L) := fun p hp => by
  obtain ⟨b, o⟩ := p
  obtain ⟨h1, h2, h3⟩ := mem_others.mp hp
  exact ⟨h3, h1, h2⟩
theorem others_keep {h₀ h h' : Heap} {L : Addr} {m m' : Str → Option Value} (F : Fr h₀ L h' m') (F₀ : Fr h₀ L h m) (N : News h₀ L h' (others h₀ h L)) : ∀ b o, b ≠ L → h.get? b = some o → h'.get? b = some o := fun b o hb e => by
  cases q : h₀.get? b with
  | none => exact (N (b, o) (mem_others.mpr ⟨hb, q, e⟩)).1
  | some o' =>
    have := F₀.keep _ _ q
    rw [e] at this; cases this
    exact F.keep _ _ q
theorem fmt_gen {w : World} {mean : ExcName → Option Value} {mg mb : Str → Option Value} {A : Around} {h₀ : Heap} {L : Addr} {m : Str → Option Value} {s : Shared} {news : List (Addr × Obj)} {ps its : Array Value} {l : Addr} {k : Nat} {iss : List (List Int)} {Q E : Value → Shared → Prop}
    (F : Fr h₀ L s.heap m) (X : (hd.heap_39 w.params).In h₀) (N : News h₀ L s.heap ((146, tabO ps) :: news)) (T : Top vw looseV mean mg mb h₀) (hps : TriplesOk ps.toList) (hG : AllBare s.gens)
    (T0 : TupsAre news its.toList iss) (hl : (l, PySem.W.listOf its k) ∈ news) (hw : m (Str.ofString "w") = some (.ref l)) (hz : ∀ ns ∈ iss, 0 < ns.length ∧ ns.length ≤ 16 ∧ (ns.getD 0 0).natAbs.log2 < 1920)
    (hne : ∀ p ∈ news, p.1 ≠ 146) (hh : A.handled = none) (hroom : A.depth < recursionLimit)
    (hQ : ∀ (a K : Addr) (ps' : Array Value) (s' : Shared) (nx : List (Addr × Obj)), s'.os = s.os → AllBare s'.gens → TriplesOk ps'.toList → Fr h₀ L s'.heap m → News h₀ L s'.heap nx → (∀ p ∈ (146, tabO ps') :: news, p ∈ nx ∧ p.1 ≤ K) → L ≤ K →
      (∀ (h' : Heap) (tk : Nat) (m' : Str → Option Value), Fr h₀ L h' m' → News h₀ L h' nx → Gen PySem.Challenge.rw_xe0049_01.row.prog w A K a iss.length (FmtF iss) { s' with heap := h', toks := tk }) → Q (.ref a) s') :
    wpAny (model PySem.Challenge.rw_xe0049_01.row.prog w) A (eval (Expr.GeneratorExp ((Expr.Name (Str.ofString "str") { line := 113, col := 14, endLine := 113, endCol := 17 }).Call [(Expr.Name (Str.ofString "tup") { line := 113, col := 18, endLine := 113, endCol := 21 }).Subscript (Expr.Constant (Const.int 0) 0 { line := 113, col := 22, endLine := 113, endCol := 23 }) { line := 113, col := 18, endLine := 113, endCol := 24 }] [] { line := 113, col := 14, endLine := 113, endCol := 25 }) [⟨Expr.Name (Str.ofString "tup") { line := 113, col := 30, endLine := 113, endCol := 33 }, Expr.Name (Str.ofString "w") { line := 113, col := 37, endLine := 113, endCol := 38 }, [], 0⟩] (Scope.mk ScopeKind.function [(Str.ofString ".0", NameKind.local), (Str.ofString "tup", NameKind.local), (Str.ofString "str", NameKind.globalImplicit)] true false []) { line := 113, col := 13, endLine := 113, endCol := 39 }) (envOf (Str.ofString "format_witnesses") (Scope.mk ScopeKind.function [(Str.ofString "w", NameKind.local), (Str.ofString "firsts", NameKind.local), (Str.ofString "prefix", NameKind.local), (Str.ofString "len", NameKind.globalImplicit)] false false []) L 151 (Value.ref 150))) Q E s := by
  obtain ⟨bm, ob, b1, b2, b3, b4, b5, b6⟩ := T.bmain
  have C₀ := (code150 X).keeps F.keep
  have hP : s.heap.get? 146 = some (tabO ps) := (N _ (.head _)).1
  have hP0 : h₀.get? 146 = none := (N _ (.head _)).2.2
  have hPL : (146 : Addr) ≠ L := (N _ (.head _)).2.1
  have N1 : News h₀ L s.heap news := fun p hp => N p (.tail _ hp)
  have hll := (N1 _ hl).2.1
  have hlen : its.size = iss.length := by rw [← T0.length, Array.length_toList]
  have hcs : L ≠ cStatics := fun q => by
    obtain ⟨mc, hn, _⟩ := T.nolimit
    exact absurd (Nat.lt_of_lt_of_le hn.lt F.above) (by rw [q]; exact Nat.lt_irrefl _)
  refine gen_made (F := FmtF iss) (L := L) (l := l) (c := 150) (P := 146) (bm := bm) (ob := ob) (mg := mg) (items := its) (cl := []) hh rfl rfl (by decide) rfl rfl rfl hroom rfl (C₀.code hP hps) (C₀.tab hP)
    ⟨T.g.keeps F.keep, b1, b2, F.keep _ _ b3, b4, b5, b6⟩ (T.nolimit.keeps F.keep) (Ne.symm hll) F.ns.lt hcs (News.isList N1 hl) hG (fun Q' q => ld F hw q) ?_ ?_ ?_
  · intro code C A' E' i v t m₂ hA _ _ hi hsz hns hmx hkp
    obtain ⟨tp, ws, ns, rfl, hmem, hws, hiss⟩ := tups_at T0 i v (by simpa using hi)
    obtain ⟨z1, z2, z3⟩ := hz ns (List.mem_of_getElem? hiss)
    obtain ⟨n1, n2, n3⟩ := N1 _ hmem
    have ne : tp ≠ 146 := fun q => by
      rw [q, hP] at n1
      exact absurd (congrArg (fun o => o.map Obj.cls) n1) (by simp [tupO, tabO])
    have ne0 : ∀ b o, h₀.get? b = some o → b ≠ 146 ∧ b ≠ L := fun b o e => ⟨(fun q => by rw [q, hP0] at e; cases e), fun q => absurd (Nat.lt_of_lt_of_le (Heap.lt_size e) F.above) (by rw [q]; exact Nat.lt_irrefl _)⟩
    refine fmt_elt (g := h₀) (tp := tp) ⟨hns, fun b o e => hkp b o (ne0 b o e).1 (ne0 b o e).2 (F.keep b o e), Nat.le_trans F.above (Nat.le_trans (Nat.le_of_lt F.ns.lt) hsz)⟩
      (fun p hp => by rw [List.mem_singleton.mp hp]; exact ⟨hkp _ _ ne n2 n1, Nat.ne_of_lt (Nat.lt_of_lt_of_le (Heap.lt_size n1) hsz), n3⟩) T hmx hws z1 z2 z3 fun t' tk => ⟨⟨ns, t', hiss, rfl⟩, t.heap, tk, rfl, fun _ _ e => e⟩
  · intro a K ps' s₅ hos hg hic htab hkeep hLK hKs hKa hgen
    have hps' : TriplesOk ps'.toList := by
      obtain ⟨_, _, _, _, _, _, _, _, _, op, _, _, _, _, _, _, _, hop, hpd, htr, _⟩ := hic
      exact htr
    have ne0 : ∀ b o, h₀.get? b = some o → b ≠ 146 := fun b o e q => by rw [q, hP0] at e; cases e
    obtain ⟨oL, es, ep, hL, hr⟩ := F.ns
    have F₅ : Fr h₀ L s₅.heap m := ⟨⟨oL, es, ep, hkeep _ _ (Ne.symm hPL) hL, hr⟩, fun b o e => hkeep b o (ne0 b o e) (F.keep b o e), F.above⟩
    refine hQ a K ps' s₅ (others h₀ s₅.heap L) hos hg hps' F₅ others_news (fun p hp => ?_) hLK fun h' tk m' F' N' => ?_
    · have hle : ∀ b o, s.heap.get? b = some o → b ≤ K := fun b o e => Nat.le_of_lt_succ (by have h9 := Heap.lt_size e; rw [hKs] at h9; exact h9)
      rcases List.mem_cons.mp hp with rfl | hp
      · exact ⟨mem_others.mpr ⟨hPL, hP0, htab.2⟩, hle _ _ hP⟩
      · obtain ⟨n1, n2, n3⟩ := N1 p hp
        exact ⟨mem_others.mpr ⟨n2, n3, hkeep _ _ (hne p hp) n1⟩, hle _ _ n1⟩
    · rw [← hlen]
      exact hgen h' tk (others_keep F' F₅ N')
  · intro x; rfl

end Mine
end

section
local macro_rules | `(tactic| omega) => `(tactic| lia)
open PySem PySem.W PyProof.Rows PySem.Calls
set_option Elab.async false
set_option maxRecDepth 100000
set_option maxHeartbeats 8000000
namespace Mine

theorem fmt_map (iss : List (List Int)) : (List.range iss.length).map (fun j => firstT (iss.getD j [])) = iss.map firstT := by
  apply List.ext_getElem?
  intro j
  by_cases hj : j < iss.length
  · simp [hj, List.getD_eq_getElem?_getD]
  · rw [List.getElem?_eq_none (by simpa using hj), List.getElem?_eq_none (by simpa using hj)]
theorem fmt_join {w : World} {A : Around} {h₀ h' : Heap} {tk : Nat} {L a K : Addr} {m : Str → Option Value} {s : Shared} {nx nw : List (Addr × Obj)} {iss : List (List Int)} {Q E : Value → Shared → Prop} {sep : Str} {t : Tok}
    (F : Fr h₀ L h' m) (N : News h₀ L h' nx) (hg : AllBare s.gens) (hsub : ∀ p ∈ nw, p ∈ nx ∧ p.1 ≤ K) (hLK : L ≤ K)
    (hgen : ∀ (h' : Heap) (tk : Nat) (m' : Str → Option Value), Fr h₀ L h' m' → News h₀ L h' nx → Gen PySem.Challenge.rw_xe0049_01.row.prog w A K a iss.length (FmtF iss) { s with heap := h', toks := tk })
    (hok : JoinOk sep (iss.map firstT) = true) (hz : iss.length ≤ 16) {o : OsState} (hos : s.os = o)
    (hQ : ∀ (s₂ : Shared) t', s₂.os = o → AllBare s₂.gens → Fr h₀ L s₂.heap m → News h₀ L s₂.heap nw → Q (.str (Txt.join sep (iss.map firstT)) t') s₂) :
    wpAny (model PySem.Challenge.rw_xe0049_01.row.prog w) A (call (.builtin "str.join") [.str sep t, .ref a]) Q E { s with heap := h', toks := tk } := by
  refine join_rowsK (s := { s with heap := h', toks := tk }) F hg (hgen h' tk m F N) hLK (fun j => firstT (iss.getD j [])) (fun j v hv => ?_) (by rw [fmt_map]; exact hok) (fun s' t' f1 g1 o1 k1 => ?_) (Nat.le_trans hz (by decide))
  · obtain ⟨ns, u, h1, rfl⟩ := hv
    exact ⟨u, by rw [List.getD_eq_getElem?_getD, h1]; rfl⟩
  · rw [fmt_map]
    exact hQ s' t' (o1.trans hos) g1 f1 fun p hp => let ⟨q1, q2⟩ := hsub p hp; ⟨k1 _ _ q2 (N p q1).1, (N p q1).2.1, (N p q1).2.2⟩
theorem lst_lenT {prog : Program} {w : World} {A : Around} {E : Value → Shared → Prop} {s : Shared} {h₀ : Heap} {L : Addr} {news bs : List (Addr × Obj)} {l : Addr} {its : Array Value} {c : Nat} {iss : List (List Int)} {Q : Value → Shared → Prop}
    (N : News h₀ L s.heap news) (hm : (l, PySem.W.listOf its c) ∈ news) (T : TupsAre bs its.toList iss) (hz : iss.length ≤ 16384) (h : ∀ t tk, Q (.int (iss.length : Int) t) { s with toks := tk }) :
    wpAny (model prog w) A (call (.builtin "len") [.ref l]) Q E s := by
  have hlen : its.size = iss.length := by rw [← T.length, Array.length_toList]
  refine len_list (News.isList N hm) (by rw [hlen]; omega) ?_
  rw [hlen]; exact h _ _
noncomputable def fmtT (iss : List (List Int)) : Str := (if 1 < iss.length then Str.ofString "at tab sizes" else Str.ofString "at tab size") ++ Str.ofString " " ++ Txt.join (Str.ofString ", ") (iss.map firstT)
theorem fmt_many {iss : List (List Int)} (h : 1 < (iss.length : Int)) : fmtT iss = Str.ofString "at tab sizes" ++ Str.ofString " " ++ Txt.join (Str.ofString ", ") (iss.map firstT) := by
  unfold fmtT; rw [if_pos (by omega)]
theorem fmt_one {iss : List (List Int)} (h : ¬ 1 < (iss.length : Int)) : fmtT iss = Str.ofString "at tab size" ++ Str.ofString " " ++ Txt.join (Str.ofString ", ") (iss.map firstT) := by
  unfold fmtT; rw [if_neg (by omega)]
noncomputable abbrev RetFmt (news : List (Addr × Obj)) (y : Str) (h₀ : Heap) (L : Addr) (m : Str → Option Value) (s : Shared) (Q : Value → Shared → Prop) : Prop :=
  ∀ (t : Tok) (ps' : Array Value) (s' : Shared), s'.os = s.os → AllBare s'.gens → TriplesOk ps'.toList → Fr h₀ L s'.heap m → News h₀ L s'.heap ((146, tabO ps') :: news) → Q (.str y t) s'
theorem con_fmt (l : Addr) (its : Array Value) (k : Nat) (iss : List (List Int)) (news : List (Addr × Obj)) (T0 : TupsAre news its.toList iss) (h4 : iss.length ≤ 16) (hl : (l, PySem.W.listOf its k) ∈ news) 
    (hz : ∀ ns ∈ iss, 0 < ns.length ∧ ns.length ≤ 16 ∧ (ns.getD 0 0).natAbs.log2 < 1920) (hne : ∀ p ∈ news, p.1 ≠ 146) (hok : JoinOk (Str.ofString ", ") (iss.map firstT) = true) (hjl : (Txt.join (Str.ofString ", ") (iss.map firstT)).length ≤ 64) :
    ∀ (w : World) (mean : ExcName → Option Value) (mg mb : Str → Option Value) (dp un : Nat) (gd : Option (List Code)) (cn : Str) (cs : Scope) (a : Addr) (ccd : Value) (cl : List (Str × Addr)) (outer : List Env) (A₀ : Around)
    (base h₀ : Heap) (L : Addr) (m : Str → Option Value) (s : Shared) (Q E : Value → Shared → Prop) (ps : Array Value),
    Below A₀ base outer h₀ → Fr h₀ L s.heap m → (hd.heap_39 w.params).In h₀ → News h₀ L s.heap ((146, tabO ps) :: news) → TriplesOk ps.toList → AllBare s.gens →
    Top vw looseV mean mg mb h₀ →
    cs.kind = .function → dp + 4 < recursionLimit → un + 40 < cLine → RetFmt news (fmtT iss) h₀ L m s Q →
    wpAny (model PySem.Challenge.rw_xe0049_01.row.prog w) (ktrTop dp un gd cn cs L a ccd cl outer) (call (.ref 151) [.ref l]) Q E s := by
  k_with_none
  (k_with "tx" => first | with_reducible assumption | with_reducible exact Tx.lower (by k_extra "tx") | with_reducible exact Tx.upper (by k_extra "tx") | with_reducible exact Tx.slice (by k_extra "tx") _ _)
  (k_with "getMethod ref" => (k_here; (with_reducible show wpAny _ _ (getMethod (Value.ref 50) _ _) _ _ _); k_dflt (refine' search_get ?qXq ?_; (case qXq => k_in); k_whole)))
  (k_with "call builtin:re.Pattern.search" => (k_here; k_dflt (first
  | (refine' search_none ?qqq ?qXq ?qFq ?qNq ?qxq ?_; (case qqq => assumption); (case qXq => k_in); (case qFq => k_asm); (case qNq => k_asm); (case qxq => k_extra "tx"); k_whole)
  | (refine' search_some ?qqq ?qXq ?qFq ?qNq ?qxq ?_; (case qqq => assumption); (case qXq => k_in); (case qFq => k_asm); (case qNq => k_asm); (case qxq => k_extra "tx"); k_whole; intro mt' mo' h' F' N' l1 l2; (try k_lt l1); (try k_lt2 l2); (try k_sweep))
  | (refine search_split ?_ ?_ <;> intros))))
  (k_with "truthy ref" => (k_here; k_dflt (refine' truthy_match ?qNq ?qqq ?_; (case qNq => k_asm); (case qqq => k_mem); k_whole)))
  (k_with "getMethod ref" => (k_here; k_dflt (refine' span_get ?qNq ?qqq ?_; (case qNq => k_asm); (case qqq => k_mem); k_whole)))
  (k_with "call builtin:re.Match.span" => (k_here; k_dflt (refine' span_call ?qFq ?qNq ?qqq ?quq ?_; (case qFq => k_asm); (case qNq => k_asm); (case qqq => k_mem); (case quq => k_mem); k_whole; intro a' h' t1' t2' tk' F' N' l1; (try k_lt l1); (try k_sweep))))
  (k_with "getAttr ref" => (k_here; (with_reducible show wpAny _ _ (getAttr (Value.ref _) (PySem.Str.ofString "string") _) _ _ _); k_dflt (refine' string_attr ?qNq ?qqq ?_; (case qNq => k_asm); (case qqq => k_mem); k_whole)))
  (k_with "enter9" => (refine' code_def ?qk1q ?qk2q ?qk3q ?qk4q ?qk5q ?qkAq ?qkFq ?qkKq ?qk6q ?qk7q ?qk8q ?qk9q ?qkBq ?_ ?qc2q ?qc3q ?qc4q ?qc5q; (case qkAq => exact rfl); (case qkFq => exact rfl); (case qkKq => first | exact rfl | assumption); (case qk1q => k_asm); (case qk2q => k_asm); (case qk3q => k_asm); (case qk4q => k_asm); (case qk5q => k_asm); (case qk6q => k_is); (case qk7q => k_is); (case qk8q => (first | omega | (dsimp only [Around.deeper, Around.in1, ktrTop]; omega) | ktr_room)); (case qk9q => first | exact BindsTo.of_eq rfl | exact binds_K (by k_in) rfl (by k_is) rfl rfl rfl); (case qc5q => decide); (case qkBq => exact locs rfl); (case qc2q => exact rfl); (case qc3q => exact rfl); (case qc4q => exact rfl); k_whole; intro g' L' h' FG' F' N' B' X' T'; (try dsimp only); (try k_lift B'); (try k_fold)))
  (k_with "ho9" => (intro y9 a9 b9; simp only [List.forall_mem_cons, List.forall_mem_nil, and_true] at b9; simp only [bsM, a9, b9, if_false]))
  (k_with "ne9" => ((try simp only [AllNe, and_true, ne_eq] at *); first | assumption | trivial | grind))
  (k_with "k_mem9w" => (with_reducible (refine List.mem_cons_of_mem _ ?_); k_mem))
  (k_with "call builtin:len" => (k_here; (with_reducible show wpAny _ _ (call (Value.builtin "len") [Value.ref _]) _ _ _); k_dflt (refine' lst_lenT ?qNq ?qqq ?qiq ?qzq ?_; (case qNq => k_asm); (case qqq => k_mem); (case qiq => with_reducible assumption); (case qzq => omega); k_whole); intro _ _))
  (k_with "eval GeneratorExp" => (k_here; k_dflt (refine' fmt_gen ?qFq ?qXq ?qNq ?qTq ?qhpsq ?qhGq ?qT0q ?qhlq ?qhwq ?qhzq ?qhneq ?qhhq ?qhroomq ?_; (case qFq => k_asm); (case qXq => k_asm); (case qNq => k_asm); (case qTq => k_asm); (case qhpsq => assumption); (case qhGq => assumption); (case qT0q => assumption); (case qhlq => assumption); (case qhwq => exact rfl); (case qhzq => assumption); (case qhneq => assumption); (case qhhq => exact rfl); (case qhroomq => (first | omega | (dsimp only [Around.deeper, Around.in1, ktrTop]; omega))); k_whole); intro a' K' ps' s' nx' hos' hg' hps' F' N' hsub' hLK' hgen'; (have hl9 := (hsub' _ (List.Mem.tail _ (by assumption))).1); (try k_sweep)))
  (k_with "call builtin:str.join" => (k_here; k_dflt (refine' fmt_join ?qFq ?qNq ?qhgq ?qhsq ?qhLKq ?qhgenq ?qhokq ?qhzq ?qhosq ?_; (case qhosq => assumption); (case qFq => k_asm); (case qNq => k_asm); (case qhgenq => assumption); (case qhgq => assumption); (case qhsq => assumption); (case qhLKq => assumption); (case qhokq => assumption); (case qhzq => omega); k_whole); intro s2' t2' hos2' hg2' F' N'; (try k_sweep)))
  k_fill
  intro w mean mg mb dp un gd cn cs a ccd cl outer A₀ base h₀ L m s Q E ps B F X N hps hG T hk hd9 hu ret
  refine wpAny_call ?_
  k_dflt (k_extra "enter9")
  k_steps
  all_goals (first | rw [← fmt_many (by assumption)] | rw [← fmt_one (by assumption)])
  all_goals (refine' ret _ _ _ ?o9 ?g9 ?p9 ?F9 ?N9; (case o9 => assumption); (case g9 => assumption); (case p9 => assumption); (case F9 => k_asm); (case N9 => k_asm))

end Mine
end

section
open PySem PySem.W PyProof.Rows PySem.Calls
set_option Elab.async false
set_option maxRecDepth 100000
set_option maxHeartbeats 8000000
namespace Mine

/-- what stays when the code's table has grown -/
noncomputable def Kept (nw nx : List (Addr × Obj)) : Prop := ∀ p ∈ nw, (∀ ps, p.2 ≠ tabO ps) → p ∈ nx
theorem Kept.refl (nw : List (Addr × Obj)) : Kept nw nw := fun _ h _ => h
theorem Kept.trans {a b c : List (Addr × Obj)} (h : Kept a b) (k : Kept b c) : Kept a c := fun p hp hc => k p (h p hp hc) hc
theorem Kept.of_sub {a b : List (Addr × Obj)} (h : ∀ p ∈ a, p ∈ b) : Kept a b := fun p hp _ => h p hp
theorem no_cls {o : Obj} (h : o.cls ≠ .none) : ∀ ps, o ≠ tabO ps := fun ps e => h (by rw [e])
theorem no_cell {o : Obj} {v : Option Value} (h : o.data = .cell v) : ∀ ps, o ≠ tabO ps := fun ps e => by rw [e] at h; cases h
theorem Kept.list {nw nx : List (Addr × Obj)} (h : Kept nw nx) {l : Addr} {its : Array Value} {c : Nat} (m : (l, PySem.W.listOf its c) ∈ nw) : (l, PySem.W.listOf its c) ∈ nx := h _ m (no_cls (by simp))
theorem Kept.tup {nw nx : List (Addr × Obj)} (h : Kept nw nx) {l : Addr} {vs : List Value} (m : (l, tupO vs) ∈ nw) : (l, tupO vs) ∈ nx := h _ m (no_cls (by simp))
theorem Kept.cell {nw nx : List (Addr × Obj)} (h : Kept nw nx) {l : Addr} {o : Obj} {v : Option Value} (hd : o.data = .cell v) (m : (l, o) ∈ nw) : (l, o) ∈ nx := h _ m (no_cell hd)
theorem Kept.mem {nw nx : List (Addr × Obj)} (h : Kept nw nx) {p : Addr × Obj} (hc : ∀ ps, p.2 ≠ tabO ps) (m : p ∈ nw) : p ∈ nx := h _ m hc
theorem Kept.ws {nw nx : List (Addr × Obj)} (h : Kept nw nx) {a : Addr} {x : Str} (W : WsAt nw a x) : WsAt nx a x := by
  obtain ⟨d, tc, tn, vs, e, t, m1, m2, m3, m4, hv⟩ := W
  exact ⟨d, tc, tn, vs, e, t, h _ m1 (no_cls (by simp)), h _ m2 (no_cls (by simp [wsDict])), h.tup m3, h.tup m4, hv⟩
/-- what is known stands in what is not -/
noncomputable def SubL (nw nx : List (Addr × Obj)) : Prop := ∀ p ∈ nw, p ∈ nx
theorem SubL.mem {nw nx : List (Addr × Obj)} (h : SubL nw nx) {p : Addr × Obj} (m : p ∈ nw) : p ∈ nx := h p m
theorem SubL.ws {nw nx : List (Addr × Obj)} (h : SubL nw nx) {a : Addr} {x : Str} (W : WsAt nw a x) : WsAt nx a x := W.sub h
theorem ws_tail {nw : List (Addr × Obj)} {q : Addr × Obj} {a : Addr} {x : Str} (W : WsAt nw a x) : WsAt (q :: nw) a x := W.sub fun _ h => .tail _ h
theorem ws_right {nw bs : List (Addr × Obj)} {a : Addr} {x : Str} (W : WsAt nw a x) : WsAt (bs ++ nw) a x := W.sub fun _ h => List.mem_append_right _ h
theorem TupsAre.keep {bs bs' : List (Addr × Obj)} (h : ∀ a ws, (a, tupO ws) ∈ bs → (a, tupO ws) ∈ bs') : ∀ {vs : List Value} {nss : List (List Int)}, TupsAre bs vs nss → TupsAre bs' vs nss
  | _, _, .nil => .nil
  | _, _, .cons h' i r => .cons (h _ _ h') i (TupsAre.keep h r)
noncomputable abbrev RetX (v : Tok → Value) (nw : List (Addr × Obj)) (h₀ : Heap) (L : Addr) (m : Str → Option Value) (s : Shared) (Q : Value → Shared → Prop) : Prop :=
  ∀ (t : Tok) (ps' : Array Value) (nx : List (Addr × Obj)) (s' : Shared), s'.os = s.os → AllBare s'.gens → TriplesOk ps'.toList → Fr h₀ L s'.heap m → News h₀ L s'.heap nx → (146, tabO ps') ∈ nx → Kept nw nx → Q (v t) s'
theorem off146 {h₀ h : Heap} {L : Addr} {nw : List (Addr × Obj)} {ps : Array Value} (N : News h₀ L h nw) (h1 : (146, tabO ps) ∈ nw) : ∀ p ∈ nw, (∀ ps, p.2 ≠ tabO ps) → p.1 ≠ 146 := fun p hp hc e => by
  have a1 := (N _ h1).1
  have a2 := (N _ hp).1
  rw [e] at a2
  rw [a1] at a2
  exact hc ps (Option.some.inj a2).symm
theorem con_fmtX (l : Addr) (its : Array Value) (k : Nat) (iss : List (List Int)) (nw : List (Addr × Obj)) (T0 : TupsAre nw its.toList iss) (h4 : iss.length ≤ 16) (hl : (l, PySem.W.listOf its k) ∈ nw) 
    (hz : ∀ ns ∈ iss, 0 < ns.length ∧ ns.length ≤ 16 ∧ (ns.getD 0 0).natAbs.log2 < 1920) (hok : JoinOk (Str.ofString ", ") (iss.map firstT) = true) (hjl : (Txt.join (Str.ofString ", ") (iss.map firstT)).length ≤ 64)
    {w : World} {mean : ExcName → Option Value} {mg mb : Str → Option Value} {dp un : Nat} {gd : Option (List Code)} {cn : Str} {cs : Scope} {a : Addr} {ccd : Value} {cl : List (Str × Addr)} {outer : List Env} {A₀ : Around}
    {base h₀ : Heap} {L : Addr} {m : Str → Option Value} {s : Shared} {Q E : Value → Shared → Prop} {ps : Array Value}
    (B : Below A₀ base outer h₀) (F : Fr h₀ L s.heap m) (X : (hd.heap_39 w.params).In h₀) (N : News h₀ L s.heap nw) (h146 : (146, tabO ps) ∈ nw) (hps : TriplesOk ps.toList) (hG : AllBare s.gens)
    (T : Top vw looseV mean mg mb h₀)
    (hk : cs.kind = .function) (h1 : dp + 4 < recursionLimit) (h2 : un + 40 < cLine) (ret : RetX (fun t => .str (fmtT iss) t) nw h₀ L m s Q) :
    wpAny (model PySem.Challenge.rw_xe0049_01.row.prog w) (ktrTop dp un gd cn cs L a ccd cl outer) (call (.ref 151) [.ref l]) Q E s := by
  have o9 := off146 N h146
  have hf : ∀ p ∈ nw, (∀ ps, p.2 ≠ tabO ps) → p ∈ nw.filter (fun p => p.1 ≠ 146) := fun p hp hc => List.mem_filter.mpr ⟨hp, decide_eq_true (o9 p hp hc)⟩
  refine con_fmt l its k iss (nw.filter fun p => p.1 ≠ 146) (T0.keep fun a ws hm => hf _ hm (no_cls (by simp))) h4 (hf _ hl (no_cls (by simp))) hz (fun p hp => of_decide_eq_true (List.mem_filter.mp hp).2) hok hjl
    w mean mg mb dp un gd cn cs a ccd cl outer A₀ base h₀ L m s Q E ps B F X (fun p hp => ?_) hps hG T hk h1 h2 ?_
  · rcases List.mem_cons.mp hp with rfl | hp
    · exact N _ h146
    · exact N _ (List.mem_filter.mp hp).1
  · intro t ps' s' e1 e2 e3 e4 e5
    exact ret t ps' _ s' e1 e2 e3 e4 e5 (.head _) fun p hp hc => .tail _ (hf p hp hc)

end Mine
end

section
local macro_rules | `(tactic| omega) => `(tactic| lia)
open PySem PySem.W PyProof.Rows PySem.Calls
set_option Elab.async false
set_option maxRecDepth 100000
set_option maxHeartbeats 4000000
namespace Mine
section
variable {prog : Program} {w : World} {A : Around} {s : Shared} {h₀ : Heap} {L : Addr} {m : Str → Option Value} {env : Env} {ct elt : Expr} {x : Str} {scope : Scope} {cl : List (Str × Addr)} {S : List (Addr × Obj) → Prop} {Fin : List Value → List (Addr × Obj) → Prop} {news : List (Addr × Obj)}
/-- a tested comprehension over a range: the ints that pass -/
noncomputable def ksL (a : Int) (p : Int → Bool) (n : Nat) : List Int := ((List.range n).map fun i : Nat => a + (i : Int)).filter p
theorem ksL_succ (a : Int) (p : Int → Bool) (n : Nat) : ksL a p (n + 1) = ksL a p n ++ (if p (a + (n : Int)) then [a + (n : Int)] else []) := by
  unfold ksL
  rw [List.range_succ, List.map_append, List.filter_append]
  congr 1
  simp only [List.map_cons, List.map_nil, List.filter_cons, List.filter_nil]
theorem ksL_len (a : Int) (p : Int → Bool) (n : Nat) : (ksL a p n).length ≤ n := by
  unfold ksL
  refine Nat.le_trans (List.length_filter_le _ _) ?_
  simp
theorem ksL_mem {a : Int} {p : Int → Bool} {n : Nat} {k : Int} (h : k ∈ ksL a p n) : a ≤ k ∧ k < a + n ∧ p k = true := by
  unfold ksL at h
  obtain ⟨h1, h2⟩ := List.mem_filter.mp h
  obtain ⟨i, hi, rfl⟩ := List.mem_map.mp h1
  have := List.mem_range.mp hi
  exact ⟨by omega, by omega, h2⟩
theorem rest_filt {a : Int} {n : Nat} (p : Int → Bool)
    (turn : ∀ (i : Nat) t I oI C oC D m₂ ys h tk (E' : Value → Shared → Prop), i < n → LCg.NsObj oC m₂ → m₂ x = some (.int (a + (i : Int)) t) → Fr h₀ L h m → News h₀ L h ((I, oI) :: (C, oC) :: (D, LCg.lst ys) :: news) → LCg.Off3 I C D news → ((@Ne Nat I C) ∧ (@Ne Nat I D) ∧ (@Ne Nat C D)) →
      wpAny (model prog w) A (isTrue ct (compEnvC scope cl C env) (eval ct (compEnvC scope cl C env))) (fun ok s' => if ok = true then
        wpAny (model prog w) A (eval elt (compEnvC scope cl C env)) (LCg.CompEnd h₀ L m { s with heap := h, toks := tk } I oI C oC D (LCg.lst ys) S (fun y nw' => nw' = news ∧ p (a + (i : Int)) = true ∧ ∃ t', y = .int (a + (i : Int)) t')) E' s'
        else LCg.CompEnd h₀ L m { s with heap := h, toks := tk } I oI C oC D (LCg.lst ys) S (fun _ nw' => nw' = news ∧ p (a + (i : Int)) = false) Value.none s') E' { s with heap := h, toks := tk })
    (fin : ∀ ys, IntsAre ys (ksL a p n) → Fin ys news) : LCt.CompRestT prog w A h₀ L m env ct elt x scope cl s S (fun i v => ∃ t, v = .int (a + (i : Int)) t) Fin n 0 [] news := by
  have key : ∀ (j i : Nat) (ys : List Value), i + j = n → IntsAre ys (ksL a p i) → LCt.CompRestT prog w A h₀ L m env ct elt x scope cl s S (fun i v => ∃ t, v = .int (a + (i : Int)) t) Fin j i ys news := by
    intro j
    induction j with
    | zero =>
      intro i ys hi hy
      have e : i = n := by omega
      subst e
      exact LCt.CompRestT.zero (fin ys hy)
    | succ j ih =>
      intro i ys hi hy
      refine LCt.CompRestT.succ ?_
      rintro v I oI C oC D m₂ h tk E' ⟨t, rfl⟩ hC hx F N off ne
      refine wpAny_mono (turn i t I oI C oC D m₂ ys h tk E' (by omega) hC hx F N off ne) (fun ok s₂ hq => ?_) fun _ _ e => e
      cases ok with
      | true =>
        refine wpAny_mono hq (fun y s₃ hq => ?_) fun _ _ e => e
        obtain ⟨h', tk', nw', e, F', N', off', hS, rfl, hp, t', rfl⟩ := hq
        refine ⟨h', tk', _, e, F', N', off', hS, ih (i + 1) _ (by omega) ?_⟩
        rw [ksL_succ, hp]
        exact IntsAre.append hy (.cons _ t' .nil)
      | false =>
        obtain ⟨h', tk', nw', e, F', N', off', hS, rfl, hp⟩ := hq
        refine ⟨h', tk', _, e, F', N', off', hS, ih (i + 1) _ (by omega) ?_⟩
        rw [ksL_succ, hp, if_neg Bool.false_ne_true, List.append_nil]
        exact hy
  exact key n 0 [] (by omega) (by simpa [ksL] using IntsAre.nil)
/-- which sizes are due -/
noncomputable def sizeP (k : Int) (xs : List Str) (t : Int) : Bool := decide (k = 1) && decide (((xs.getD 0 Str.empty).length : Int) < t)
structure SizeMark (k : Int) (xs : List Str) : Prop where
theorem rest_sizes {k : Int} {xs : List Str} (_ : SizeMark k xs) {n : Nat}
    (turn : ∀ (i : Nat) t I oI C oC D m₂ ys h tk (E' : Value → Shared → Prop), i < n → LCg.NsObj oC m₂ → m₂ x = some (.int (1 + (i : Int)) t) → Fr h₀ L h m → News h₀ L h ((I, oI) :: (C, oC) :: (D, LCg.lst ys) :: news) → LCg.Off3 I C D news → ((@Ne Nat I C) ∧ (@Ne Nat I D) ∧ (@Ne Nat C D)) →
      wpAny (model prog w) A (isTrue ct (compEnvC scope cl C env) (eval ct (compEnvC scope cl C env))) (fun ok s' => if ok = true then
        wpAny (model prog w) A (eval elt (compEnvC scope cl C env)) (LCg.CompEnd h₀ L m { s with heap := h, toks := tk } I oI C oC D (LCg.lst ys) S (fun y nw' => nw' = news ∧ sizeP k xs (1 + (i : Int)) = true ∧ ∃ t', y = .int (1 + (i : Int)) t')) E' s'
        else LCg.CompEnd h₀ L m { s with heap := h, toks := tk } I oI C oC D (LCg.lst ys) S (fun _ nw' => nw' = news ∧ sizeP k xs (1 + (i : Int)) = false) Value.none s') E' { s with heap := h, toks := tk })
    (fin : ∀ ys, IntsAre ys (ksL 1 (sizeP k xs) n) → Fin ys news) : LCt.CompRestT prog w A h₀ L m env ct elt x scope cl s S (fun i v => ∃ t, v = .int (1 + (i : Int)) t) Fin n 0 [] news := rest_filt (sizeP k xs) turn fin
theorem size_small {M : Int} (h : 0 ≤ M ∧ M ≤ 3) : Builtin.Range.small 1 (M + 2) 1 = true := small_one (by omega) (by omega) (by omega) (by omega)
theorem size_size {M : Int} (h : 0 ≤ M ∧ M ≤ 3) : Builtin.Range.rangeSize 1 (M + 2) 1 = ((M + 1).toNat : Int) := by
  unfold Builtin.Range.rangeSize
  rw [if_pos (by decide), if_pos (by omega), Int.ediv_one]
  omega
theorem size_line {M : Int} (h : 0 ≤ M ∧ M ≤ 3) : (M + 1).toNat ≤ sizeLine := Nat.le_trans (show (M + 1).toNat ≤ 64 by omega) (by decide)
theorem most_le {xs : List Str} {M : Int} (hL : Labs xs) (h : M ∈ xs.map fun z => (z.length : Int)) : 0 ≤ M ∧ M ≤ 3 := by
  obtain ⟨z, hz, rfl⟩ := List.mem_map.mp h
  have := (hL z hz).1
  omega
theorem cendR {I C D : Addr} {oI oC oD : Obj} {rest : Value → List (Addr × Obj) → Prop} {y : Value} {h' : Heap} {tk : Nat} {all : List (Addr × Obj)} {s₁ : Shared} {news' : List (Addr × Obj)} (F : Fr h₀ L h' m) (N : News h₀ L h' all)
    (i1 : (I, oI) ∈ all) (i2 : (C, oC) ∈ all) (i3 : (D, oD) ∈ all) (sub : ∀ p ∈ news', p ∈ all) (off : LCg.Off3 I C D news') (hS : S news') (r : rest y news') :
    LCg.CompEnd h₀ L m s₁ I oI C oC D oD S rest y { s₁ with heap := h', toks := tk } := cend F N news' i1 i2 i3 sub off hS r
end
end Mine
end

section
local macro_rules | `(tactic| omega) => `(tactic| lia)
open PySem PySem.W PyProof.Rows PySem.Calls PySem.Spec
set_option Elab.async false
set_option maxRecDepth 100000
set_option maxHeartbeats 4000000
namespace Mine
theorem reads_tups {h₀ h : Heap} {L : Addr} {bs : List (Addr × Obj)} (N : News h₀ L h bs) : ∀ {vs : List Value} {iss : List (List Int)}, TupsAre bs vs iss → ReadsAll h vs (iss.map fun ns => PyData.tuple (ns.map PyData.int)) []
  | _, _, .nil => .nil
  | _, _, .cons h' hi r => .cons (as := []) (bs := []) (.tuple (N _ h').1 rfl rfl (by simpa using reads_ints hi)) (reads_tups N r)
theorem lay_tups : ∀ iss : List (List Int), PyData.canLayAll0 (iss.map fun ns => PyData.tuple (ns.map PyData.int)) = true
  | [] => rfl
  | _ :: r => by simp [PyData.canLayAll0, PyData.canLay0, ke_canLayAll0, lay_tups r]
theorem depth_tups : ∀ iss : List (List Int), PyData.depthAll (iss.map fun ns => PyData.tuple (ns.map PyData.int)) ≤ 1
  | [] => by simp [PyData.depthAll]
  | _ :: r => by
    have := depth_tups r
    simp only [List.map_cons, PyData.depthAll, PyData.depth, ke_depthAll]
    omega
theorem shaped_tups (iss : List (List Int)) : SeqAt.shaped (.list (iss.map fun ns => PyData.tuple (ns.map PyData.int))) = true := by
  have := depth_tups iss
  simp [SeqAt.shaped, PyData.canLay0, PyData.depth, lay_tups]
  try omega
theorem eqv_tups : ∀ iss jss : List (List Int), PyData.eqvAll (iss.map fun ns => PyData.tuple (ns.map PyData.int)) (jss.map fun ns => PyData.tuple (ns.map PyData.int)) = decide (iss = jss)
  | [], [] => by simp [PyData.eqvAll]
  | [], _ :: _ => by simp [PyData.eqvAll]
  | _ :: _, [] => by simp [PyData.eqvAll]
  | a :: r, b :: t => by
    simp only [List.map_cons, PyData.eqvAll, PyData.eqv, eqv_tups r t, ked_eqvAll]
    simp
section
variable {prog : Program} {w : World} {A : Around} {E : Value → Shared → Prop} {s : Shared} {h₀ : Heap} {L : Addr} {news : List (Addr × Obj)} {l l2 : Addr} {its its2 : Array Value} {c c2 : Nat} {Q : Value → Shared → Prop}
theorem ne_tups {bs bs2 : List (Addr × Obj)} {iss jss : List (List Int)} (N : News h₀ L s.heap news) (h1 : (l, PySem.W.listOf its c) ∈ news) (T1 : TupsAre bs its.toList iss) (S1 : ∀ p ∈ bs, p ∈ news) (h2 : (l2, PySem.W.listOf its2 c2) ∈ news) (T2 : TupsAre bs2 its2.toList jss) (S2 : ∀ p ∈ bs2, p ∈ news) (hu : A.units + 64 < cLine) (h : Q (.bool (!decide (iss = jss))) s) :
    wpAny (model prog w) A (compareOp .NotEq (.ref l) (.ref l2)) Q E s :=
  ne_dataH (.list (N _ h1).1 rfl rfl (reads_tups N (T1.sub S1))) (.list (N _ h2).1 rfl rfl (reads_tups N (T2.sub S2))) (shaped_tups _) (shaped_tups _) hu (by
    have e : PyData.eqv (.list (iss.map fun ns => PyData.tuple (ns.map PyData.int))) (.list (jss.map fun ns => PyData.tuple (ns.map PyData.int))) = decide (iss = jss) := by
      simp only [PyData.eqv, eqv_tups]
    rw [e]; exact h)
end
end Mine
end

section
local macro_rules | `(tactic| omega) => `(tactic| lia)
open PySem PySem.W PyProof.Rows PySem.Calls
set_option Elab.async false
set_option maxRecDepth 100000
set_option maxHeartbeats 4000000
namespace Mine
/-- the witnesses that the text owes -/
noncomputable def dueF (x y : Str) (k : Int) : List Int := [k, colL k (KStt.codes y), colL k (KStt.codes x)]
noncomputable def witW (y x : Str) : List (List Int) := witL (wsL (Ls (LW y))) (wsL (Ls (LW x))) (topL (wsL (Ls (LW y))) (wsL (Ls (LW x)))).toNat
noncomputable def longW (x : Str) : Int := longL (wsL (Ls (LW x)))
theorem con_witW (a b : Addr) (y x : Str) (hy : Tx (LW y)) (hx : Tx (LW x)) (news : List (Addr × Obj)) (W : WsAt news a (LW y)) (V : WsAt news b (LW x)) : Con 137 [.ref a, .ref b] news 6 40 (RetWit news (witW y x)) := con_wit a b (LW y) (LW x) hy hx news W V
theorem con_longW (a : Addr) (x : Str) (hx : Tx (LW x)) (news : List (Addr × Obj)) (W : WsAt news a (LW x)) : Con 102 [.ref a] news 4 20 (RetV news fun u => .int (longW x) u) := con_long a (LW x) hx news W
structure DueMark (x y : Str) : Prop where
noncomputable def Most (xs : List Str) (mx : Int) : Prop := mx ∈ xs.map (fun z => (z.length : Int)) ∧ ∀ a ∈ xs.map (fun z => (z.length : Int)), a ≤ mx
theorem most_eq {xs : List Str} {M mx : Int} (h : Most xs mx) (h1 : M ∈ xs.map (fun z => (z.length : Int))) (h2 : ∀ a ∈ xs.map (fun z => (z.length : Int)), a ≤ M) : M = mx := Int.le_antisymm (h.2 _ h1) (h2 _ h.1)
theorem ks_four {p : Int → Bool} {M k : Int} (hM : 0 ≤ M ∧ M ≤ 3) (h : k ∈ ksL 1 p (M + 1).toNat) : 1 ≤ k ∧ k ≤ 4 := by
  have := ksL_mem h
  omega
theorem ks_len4 {p : Int → Bool} {M : Int} (hM : 0 ≤ M ∧ M ≤ 3) : (ksL 1 p (M + 1).toNat).length ≤ 4 := by
  have := ksL_len 1 p (M + 1).toNat
  omega
theorem ks_size {p : Int → Bool} {M : Int} {ys : List Value} (hM : 0 ≤ M ∧ M ≤ 3) (h : IntsAre ys (ksL 1 p (M + 1).toNat)) : ys.toArray.size ≤ sizeLine := by
  have := ks_len4 (p := p) hM
  rw [List.size_toArray, h.length]; exact Nat.le_trans this (by decide)
theorem first_due (x y : Str) (k : Int) : firstT (dueF x y k) = toString k := rfl
theorem str_one {k : Int} (h : 1 ≤ k ∧ k ≤ 4) : ((toString k : String) : Str).length = 1 := by
  have : k = 1 ∨ k = 2 ∨ k = 3 ∨ k = 4 := by omega
  rcases this with rfl | rfl | rfl | rfl <;> decide +kernel
noncomputable def fmtK (ks : List Int) : List Str := ks.map fun k => ((toString k : String) : Str)
theorem map_first (x y : Str) (ks : List Int) : (ks.map (dueF x y)).map firstT = fmtK ks := by
  rw [List.map_map]; rfl
theorem fmt_ok {ks : List Int} (h : ∀ k ∈ ks, 1 ≤ k ∧ k ≤ 4) (hl : ks.length ≤ 4) : JoinOk (Str.ofString ", ") (fmtK ks) = true ∧ (Txt.join (Str.ofString ", ") (fmtK ks)).length ≤ 64 := by
  have hsum : ∀ l : List Int, (∀ k ∈ l, 1 ≤ k ∧ k ≤ 4) → ((fmtK l).map (·.length)).sum = l.length := by
    intro l
    induction l with
    | nil => intro _; rfl
    | cons a r ih =>
      intro h
      have := ih fun k hk => h k (.tail _ hk)
      unfold fmtK at *
      simp only [List.map_cons, List.sum_cons, List.length_cons]
      rw [str_one (h a (.head _))]
      omega
  have hj := joinL_len (sep := Ls (Str.ofString ", ")) ((fmtK ks).map Ls)
  rw [← L_join, List.map_map, List.length_map] at hj
  have hm : (fmtK ks).map (List.length ∘ Ls) = (fmtK ks).map (·.length) := List.map_congr_left fun z _ => (len_L z).symm
  rw [hm] at hj
  have hc2 : (Ls (Str.ofString ", ")).length = 2 := by decide
  have e := hsum ks h
  have hc : (Str.ofString ", ").length = 2 := by decide
  have hn : (fmtK ks).length = ks.length := List.length_map _
  refine ⟨?_, ?_⟩
  · exact joinOk_of (by rw [e, hn, hc]; omega)
  · rw [len_L]
    rw [e, hn, hc2] at hj; omega
theorem strs_are_k {ks : List Int} {zs : List Str} (hn : zs.length = ks.length) (h : ∀ (i : Nat) (z : Str) (k : Int), zs[i]? = some z → ks[i]? = some k → z = ((toString k : String) : Str)) : zs = fmtK ks := by
  apply List.ext_getElem?
  intro i
  unfold fmtK
  rw [List.getElem?_map]
  by_cases hi : i < ks.length
  · have h1 : zs[i]? = some zs[i] := List.getElem?_eq_getElem (by omega)
    have h2 : ks[i]? = some ks[i] := List.getElem?_eq_getElem hi
    rw [h1, h2, h i _ _ h1 h2]; rfl
  · rw [List.getElem?_eq_none (by omega), List.getElem?_eq_none (by omega)]; rfl
theorem rest_tupsM {prog : Program} {w : World} {A : Around} {s : Shared} {h₀ : Heap} {L : Addr} {m : Str → Option Value} {env : Env} {elt : Expr} {x : Str} {scope : Scope} {cl : List (Str × Addr)} {S : List (Addr × Obj) → Prop} {Fin : List Value → List (Addr × Obj) → Prop} {news : List (Addr × Obj)} {its : Array Value} {ks : List Int} {p q : Str} (_ : DueMark p q) (hi : IntsAre its.toList ks)
    (turn : ∀ k t I oI C oC D m₂ ys bs h tk (E' : Value → Shared → Prop), k ∈ ks → LCg.NsObj oC m₂ → m₂ x = some (.int k t) → Fr h₀ L h m → News h₀ L h ((I, oI) :: (C, oC) :: (D, LCg.lst ys) :: (bs ++ news)) → LCg.Off3 I C D (bs ++ news) → ((@Ne Nat I C) ∧ (@Ne Nat I D) ∧ (@Ne Nat C D)) →
      wpAny (model prog w) A (eval elt (compEnvC scope cl C env)) (LCg.CompEnd h₀ L m { s with heap := h, toks := tk } I oI C oC D (LCg.lst ys) S (fun y nw' => ∃ a ws, nw' = (a, tupO ws) :: (bs ++ news) ∧ y = .ref a ∧ IntsAre ws [k, colL k (KStt.codes q), colL k (KStt.codes p)])) E' { s with heap := h, toks := tk })
    (fin : ∀ ys bs, TupsAre (bs ++ news) ys (ks.map (dueF p q)) → Fin ys (bs ++ news)) : LCg.CompRest prog w A h₀ L m env elt x scope cl s S (fun i v => its[i]? = some v) Fin its.size 0 [] news := rest_tups (dueF p q) hi turn fin

theorem labs_at {xs : List Str} (h : Labs xs) {z : Str} (hz : z ∈ xs) : z.length ≤ 3 := (h z hz).1
theorem SubL.of {nw nx : List (Addr × Obj)} (h : ∀ p ∈ nw, p ∈ nx) : SubL nw nx := h
theorem cendT {h₀ : Heap} {L : Addr} {m : Str → Option Value} {S : List (Addr × Obj) → Prop} {I C D a : Addr} {oI oC oD : Obj} {ws : List Value} {l : List Int} {h' : Heap} {tk : Nat} {all base : List (Addr × Obj)} {s₁ : Shared} (F : Fr h₀ L h' m) (N : News h₀ L h' all)
    (hm : (a, tupO ws) ∈ all) (hi : IntsAre ws l) (i1 : (I, oI) ∈ all) (i2 : (C, oC) ∈ all) (i3 : (D, oD) ∈ all) (sub : ∀ p ∈ base, p ∈ all) (na : (@Ne Nat a I) ∧ (@Ne Nat a C) ∧ (@Ne Nat a D)) (off : LCg.Off3 I C D base) (hS : S ((a, tupO ws) :: base)) :
    LCg.CompEnd h₀ L m s₁ I oI C oC D oD S (fun y nw' => ∃ a ws, nw' = (a, tupO ws) :: base ∧ y = .ref a ∧ IntsAre ws l) (.ref a) { s₁ with heap := h', toks := tk } :=
  cendR (news' := (a, tupO ws) :: base) F N i1 i2 i3 (fun p hp => by
    rcases List.mem_cons.mp hp with rfl | hp
    · exact hm
    · exact sub p hp) (show ((@Ne Nat a I) ∧ (@Ne Nat a C) ∧ (@Ne Nat a D)) ∧ LCg.Off3 I C D base from ⟨na, off⟩) hS (show ∃ a' ws', _ from ⟨a, ws, rfl, rfl, hi⟩)
noncomputable def manyT (b : Bool) : Str := if b = true then Str.ofString "s" else Str.ofString ""
theorem manyT_len (b : Bool) : (manyT b).length ≤ 1 := by cases b <;> decide
theorem ite_many {M : Model} {A : Around} {E : Value → Shared → Prop} {s : Shared} {b : Bool} {env : Env} {k1 k2 : Nat} {p1 p2 : Pos} {Q : Value → Shared → Prop} (h : (manyT b).length ≤ 1 → Q (.str (manyT b) s.toks) { s with toks := s.toks + 1 }) :
    if b = true then wpAny M A (eval (Expr.Constant (Const.str (Str.ofString "s")) k1 p1) env) Q E s else wpAny M A (eval (Expr.Constant (Const.str (Str.ofString "")) k2 p2) env) Q E s := by
  have h := h (manyT_len b)
  cases b with
  | true => rw [if_pos rfl]; exact Constant_str h
  | false => rw [if_neg Bool.false_ne_true]; exact Constant_str h
theorem fmt_same (x y : Str) (ks : List Int) : fmtT (ks.map (dueF x y)) = Str.ofString "at tab size" ++ manyT (decide (1 < (ks.length : Int))) ++ Str.ofString " " ++ Txt.join (Str.ofString ", ") (fmtK ks) := by
  unfold fmtT manyT
  rw [List.length_map, map_first]
  by_cases h : 1 < ks.length
  · rw [if_pos h, if_pos (decide_eq_true (by omega))]
    rw [show Str.ofString "at tab size" ++ Str.ofString "s" = Str.ofString "at tab sizes" by decide +kernel]
  · rw [if_neg h, if_neg (by rw [decide_eq_true_eq]; omega)]
    rw [show Str.ofString "at tab size" ++ Str.ofString "" = Str.ofString "at tab size" by decide +kernel]
theorem fmtK_weight : ∀ {ks : List Int}, (∀ k ∈ ks, 1 ≤ k ∧ k ≤ 4) → ((fmtK ks).map (·.length)).sum = ks.length
  | [], _ => rfl
  | a :: r, h => by
    have := fmtK_weight (ks := r) fun k hk => h k (.tail _ hk)
    unfold fmtK at *
    simp only [List.map_cons, List.sum_cons, List.length_cons]
    rw [str_one (h a (.head _))]
    omega
theorem lst_joinK {prog : Program} {w : World} {A : Around} {E : Value → Shared → Prop} {s : Shared} {h₀ : Heap} {L : Addr} {news : List (Addr × Obj)} {l : Addr} {ys : List Value} {ks : List Int} {sep : Str} {t : Tok} {Q : Value → Shared → Prop}
    (N : News h₀ L s.heap news) (hm : (l, LCg.lst ys) ∈ news) (hi : StrsAre ys (fmtK ks)) (hb : ∀ k ∈ ks, 1 ≤ k ∧ k ≤ 4) (hl : ks.length ≤ 4) (hs : sep.length ≤ 16) (h : ∀ t' k, Q (.str (Txt.join sep (fmtK ks)) t') { s with toks := k }) :
    wpAny (model prog w) A (call (.builtin "str.join") [.str sep t, .ref l]) Q E s :=
  join_listW (News.isList N hm) (by simpa using hi) hs (by rw [fmtK_weight hb]; unfold fmtK; rw [List.length_map]; omega) h
theorem ks_lenI {p : Int → Bool} {M : Int} {ys : List Value} (hM : 0 ≤ M ∧ M ≤ 3) (_ : IntsAre ys (ksL 1 p (M + 1).toNat)) : (ksL 1 p (M + 1).toNat).length ≤ 4 := ks_len4 hM
theorem lst_lenI {prog : Program} {w : World} {A : Around} {E : Value → Shared → Prop} {s : Shared} {h₀ : Heap} {L : Addr} {news : List (Addr × Obj)} {l : Addr} {ys : List Value} {ks : List Int} {Q : Value → Shared → Prop}
    (N : News h₀ L s.heap news) (hm : (l, LCg.lst ys) ∈ news) (T : IntsAre ys ks) (hz : ks.length ≤ 4) (h : ∀ t tk, Q (.int (ks.length : Int) t) { s with toks := tk }) :
    wpAny (model prog w) A (call (.builtin "len") [.ref l]) Q E s := by
  have hlen : ys.toArray.size = ks.length := by rw [← T.length, List.size_toArray]
  refine len_list (News.isList N hm) (by rw [hlen]; omega) ?_
  rw [hlen]; exact h _ _
end Mine
end

section
local macro_rules | `(tactic| omega) => `(tactic| lia)
open PySem PySem.W PyProof.Rows PySem.Calls
set_option Elab.async false
set_option maxRecDepth 100000
set_option maxHeartbeats 8000000
namespace Mine




theorem con_indents (wa : Addr) (x y : Str) (t u v : Tok) (lb : Addr) (its : Array Value) (c : Nat) (xs : List Str) (hx : Ho x) (hy : Tx y) (hi : StrsAre its.toList xs) (hL : Labs xs) (h2 : 2 ≤ xs.length) (h4 : xs.length ≤ 4) (k : Int) (hk1 : 1 ≤ k) (hk2 : k < xs.length)
    (mx : Int) (f0 : Most xs mx) (f1 : longW x = mx) (f2 : witW y x = (ksL 1 (sizeP k xs) (mx + 1).toNat).map (dueF x y)) (f3 : lessW (LW y) (LW x) = decide (1 < k)) (f4 : eqW (LW y) (LW x) = (y == x)) (f5 : lessW (LW (Txt.join (Str.ofString ".") (pickT xs none (some k)))) (LW x) = true)
    (nw : List (Addr × Obj)) (hm : (lb, PySem.W.listOf its c) ∈ nw) (W0 : WsAt nw wa (LW x))
    {w : World} {mean : ExcName → Option Value} {mg mb : Str → Option Value} {dp un : Nat} {gd : Option (List Code)} {cn : Str} {cs : Scope} {a : Addr} {ccd : Value} {cl : List (Str × Addr)} {outer : List Env} {A₀ : Around}
    {base h₀ : Heap} {L : Addr} {m : Str → Option Value} {s : Shared} {Q E : Value → Shared → Prop} {ps : Array Value} :
    Below A₀ base outer h₀ → Fr h₀ L s.heap m → (hd.heap_39 w.params).In h₀ → News h₀ L s.heap nw → (146, tabO ps) ∈ nw → TriplesOk ps.toList → AllBare s.gens → Top vw looseV mean mg mb h₀ →
    cs.kind = .function → dp + 20 < recursionLimit → un + 200 < cLine → RetX (fun _ => .bool true) nw h₀ L m s Q →
    wpAny (model PySem.Challenge.rw_xe0049_01.row.prog w) (ktrTop dp un gd cn cs L a ccd cl outer) (call (.ref 216) [.ref wa, .str x t, .ref lb, .int k u, .str y v]) Q E s := by
  k_with_none
  (k_with "exec Assign" => k_fold)
  (k_with "exec If" => k_fold)
  (k_with "exec While" => k_fold)
  (k_with "exec For" => k_fold)
  (k_with "storeName" => (k_here; k_dflt ((refine' storeM ?qFq ?qNq ?_ ?qaq ?qbq; (case qFq => k_asm); (case qNq => k_asm); (case qaq => rfl); (case qbq => rfl); k_whole; intro h' tk m₁ F' N'; (try k_sweep)))))
  (k_with "tx" => first | with_reducible assumption | with_reducible exact Tx.lower (by k_extra "tx") | with_reducible exact Tx.upper (by k_extra "tx") | with_reducible exact Tx.slice (by k_extra "tx") _ _)
  (k_with "enter9" => (refine' code_m ?qk1q ?qk2q ?qk3q ?qk4q ?qk5q ?qkAq ?qkFq ?qkKq ?qk6q ?qk7q ?qk8q ?qk9q ?qkBq ?_ ?qc2q ?qc3q ?qc4q ?qc5q; (case qkAq => exact rfl); (case qkFq => exact rfl); (case qkKq => first | exact rfl | assumption); (case qk1q => k_asm); (case qk2q => k_asm); (case qk3q => k_asm); (case qk4q => k_asm); (case qk5q => k_asm); (case qk6q => k_is); (case qk7q => k_is); (case qk8q => (first | omega | (dsimp only [Around.deeper, Around.in1, ktrTop]; omega) | ktr_room)); (case qk9q => first | exact BindsTo.of_eq rfl | exact binds_K (by k_in) rfl (by k_is) rfl rfl rfl); (case qc5q => decide); (case qkBq => exact locs rfl); (case qc2q => exact rfl); (case qc3q => exact rfl); (case qc4q => exact rfl); k_whole; intro g' L' h' tk' FG' m' F' N' B' X' T'; (try dsimp only); (try k_lift B'); (try k_fold)))
  (k_with "ho9" => (intro y9 a9 b9; simp only [List.forall_mem_cons, List.forall_mem_nil, and_true] at b9; simp only [bsM, a9, b9, if_false]))
  (k_with "ne9" => ((try simp only [AllNe, and_true, ne_eq] at *); first | assumption | trivial | grind))
  (k_with "labs" => first | with_reducible assumption | (with_reducible refine' Labs.pick ?_ _ _; (focus k_extra "labs")) | (with_reducible refine' Labs.rev ?_; (focus k_extra "labs")) | (with_reducible refine' Labs.app ?_ ?_; (focus k_extra "labs"); (focus k_extra "labs")))
  (k_with "len4" => first | omega | (have hp4 := pick_len; (try simp only [List.length_append, List.length_reverse]); first | (exact Nat.le_trans (pick_len _ _ _) (by with_reducible assumption)) | grind))
  (k_with "call builtin:len" => (k_here; (with_reducible show wpAny _ _ (call (Value.builtin "len") [Value.ref _]) _ _ _); k_dflt (refine' lst_len ?qNq ?qqq ?qiq ?qzq ?_; (case qNq => k_asm); (case qqq => k_mem); (case qiq => with_reducible assumption); (case qzq => k_extra "len4"); k_whole); intro _ _))
  (k_with "subscriptTail" => (k_here; (with_reducible show wpAny _ _ (subscriptTail _ _ (Value.ref _) (Value.int _ _)) _ _ _); k_dflt (refine' lst_item ?qNq ?qqq ?qiq ?qh0q ?qh1q ?qzq ?_ ?qhsq; (case qNq => k_asm); (case qqq => k_mem); (case qiq => with_reducible assumption); (case qh0q => omega); (case qh1q => omega); (case qzq => omega); (case qhsq => with_unfolding_all rfl); k_whole); intro _))
  (k_with "subscriptTail" => (k_here; (with_reducible show wpAny _ _ (subscriptTail _ _ (Value.ref _) (Value.int (-1) _)) _ _ _); k_dflt (refine' lst_last ?qNq ?qqq ?qiq ?qh0q ?_ ?qhsq; (case qNq => k_asm); (case qqq => k_mem); (case qiq => with_reducible assumption); (case qh0q => omega); (case qhsq => with_unfolding_all rfl); k_whole); intro _))
  (k_with "subscriptTail Name Slice ref ref" => (k_here; (with_reducible show wpAny _ _ (subscriptTail _ (PySem.Expr.Slice _ _ none _) (Value.ref _) (Value.ref _)) _ _ _); k_dflt (refine' lst_slice ?qFq ?qNq ?qlq ?qiq ?qpq ?qqq ?qzq ?_ ?qsq ?qtq; (case qFq => k_asm); (case qNq => k_asm); (case qlq => k_mem); (case qiq => with_reducible assumption); (case qpq => kmk_part); (case qqq => kmk_part); (case qzq => k_extra "len4"); (case qsq => with_unfolding_all rfl); (case qtq => kmk_pure)); intro D' h' js' c' F' N' l1 hi'; (try k_lt l1); (try k_sweep)))
  (k_with "subscriptTail Name Slice ref ref" => (k_here; (with_reducible show wpAny _ _ (subscriptTail _ (PySem.Expr.Slice none none (some _) _) (Value.ref _) (Value.ref _)) _ _ _); k_dflt (refine' lst_rev ?qFq ?qNq ?qlq ?qiq ?qpq ?qzq ?_ ?qsq ?qtq; (case qFq => k_asm); (case qNq => k_asm); (case qlq => k_mem); (case qiq => with_reducible assumption); (case qpq => kmk_part); (case qzq => k_extra "len4"); (case qsq => with_unfolding_all rfl); (case qtq => kmk_pure)); intro D' h' js' c' F' N' l1 hi'; (try k_lt l1); (try k_sweep)))
  (k_with "call builtin:str.join" => (k_here; (with_reducible show wpAny _ _ (call (Value.builtin "str.join") [Value.str _ _, Value.ref _]) _ _ _); k_dflt (refine' lst_join ?qNq ?qqq ?qiq ?qhLq ?qzq ?qhsq ?_; (case qNq => k_asm); (case qqq => k_mem); (case qiq => with_reducible assumption); (case qhLq => k_extra "labs"); (case qzq => k_extra "len4"); (case qhsq => decide); k_whole); intro _ _))
  (k_with "binaryOp Add ref ref" => (k_here; (with_reducible show wpAny _ _ (binaryOp _ (Value.ref _) (Value.ref _)) _ _ _); k_dflt (refine' lst_cat ?qFq ?qNq ?qaq ?qbq ?qiq ?qjq ?qyq ?qzq ?_; (case qFq => k_asm); (case qNq => k_asm); (case qaq => k_mem); (case qbq => k_mem); (case qiq => with_reducible assumption); (case qjq => with_reducible assumption); (case qyq => k_extra "len4"); (case qzq => k_extra "len4")); intro D' h' js' c' F' N' l1 hI'; (try k_lt l1); (try k_sweep)))
  (k_with "mm" => first | (with_reducible exact List.mem_cons_self) | (with_reducible assumption) | ((with_reducible refine List.mem_cons_of_mem _ ?_); (focus k_extra "mm")) | ((with_reducible refine List.mem_append_right _ ?_); (focus k_extra "mm")) | ((with_reducible refine SubL.mem (by assumption) ?_); (focus k_extra "mm")) | ((with_reducible refine Kept.mem (by assumption) ?_ ?_); rotate_left; (focus (k_extra "mm")); (focus (first | (with_reducible assumption) | exact no_cls (by intro h9; cases h9) | exact no_cell (by assumption)))))
  (k_with "k_mem9w" => (k_extra "mm"))
  (k_with "tx" => first | with_reducible assumption | (with_reducible exact Ho.tx (by assumption)) | (with_reducible refine' Tx.upper ?_; (focus k_extra "tx")) | (with_reducible refine' LW_tx ?_; (focus k_extra "tx")) | (with_reducible refine' app_tx ?_ a_ho; with_reducible assumption) | (with_reducible refine' labs_tx ?_ ?_; (focus k_extra "labs"); (focus k_extra "len4")) | (with_reducible refine' labs0_tx ?_ ?_; (focus k_extra "labs"); (focus k_extra "len4")) | (with_reducible refine' Ho.tx (dots_ho ?_); omega))
  (k_with "submem" => (intro p hp; repeat (first | (with_reducible exact hp) | (with_reducible refine List.mem_cons_of_mem _ ?_))))
  (k_with "wsat" => with_reducible first | assumption | (refine ws_tail ?_; (focus k_extra "wsat")) | (refine ws_right ?_; (focus k_extra "wsat")) | (refine SubL.ws (by assumption) ?_; (focus k_extra "wsat")) | (refine Kept.ws (by assumption) ?_; (focus k_extra "wsat")))
  (k_with "call ref" => (k_here; (with_reducible show wpAny _ _ (call (Value.ref 183) _) _ _ _); k_dflt (refine' Con.use (con_leadW _ _ ?qhxq _) ?qBq ?qFq ?qXq ?qNq ?qTq ?qhkq ?qh1q ?qh2q ?_; (case qFq => k_asm); (case qNq => k_asm); (case qhxq => k_extra "tx"); (case qBq => k_asm); (case qXq => k_asm); (case qTq => k_asm); (case qhkq => first | exact rfl | assumption); (case qh1q => (first | omega | (dsimp only [Around.deeper, Around.in1, ktrTop]; omega))); (case qh2q => (first | omega | (dsimp only [Around.deeper, Around.in1, ktrTop]; omega))); k_whole; intro a' d' tc' tn' vs' e' t' h' tk' F' N' hv' l1 l2 l3 l4 l5 l6 l7; (have hw9' := wsat_of N' hv'); (try k_sweep); (try dsimp only); (try k_fold))))
  (k_with "call ref" => (k_here; (with_reducible show wpAny _ _ (call (Value.ref 116) _) _ _ _); k_dflt (refine' Con.use (con_eqW _ _ _ _ ?qhxq ?qhyq _ ?qWq ?qVq) ?qBq ?qFq ?qXq ?qNq ?qTq ?qhkq ?qh1q ?qh2q ?_; (case qFq => k_asm); (case qNq => k_asm); (case qWq => k_extra "wsat"); (case qVq => k_extra "wsat"); (case qhxq => k_extra "tx"); (case qhyq => k_extra "tx"); (case qBq => k_asm); (case qXq => k_asm); (case qTq => k_asm); (case qhkq => first | exact rfl | assumption); (case qh1q => (first | omega | (dsimp only [Around.deeper, Around.in1, ktrTop]; omega))); (case qh2q => (first | omega | (dsimp only [Around.deeper, Around.in1, ktrTop]; omega))); k_whole; intro t' h' tk' F' N'; (try k_sweep); (try dsimp only); (try k_fold))))
  (k_with "call ref" => (k_here; (with_reducible show wpAny _ _ (call (Value.ref 130) _) _ _ _); k_dflt (refine' Con.use (con_lessW _ _ _ _ ?qhxq ?qhyq _ ?qWq ?qVq) ?qBq ?qFq ?qXq ?qNq ?qTq ?qhkq ?qh1q ?qh2q ?_; (case qFq => k_asm); (case qNq => k_asm); (case qWq => k_extra "wsat"); (case qVq => k_extra "wsat"); (case qhxq => k_extra "tx"); (case qhyq => k_extra "tx"); (case qBq => k_asm); (case qXq => k_asm); (case qTq => k_asm); (case qhkq => first | exact rfl | assumption); (case qh1q => (first | omega | (dsimp only [Around.deeper, Around.in1, ktrTop]; omega))); (case qh2q => (first | omega | (dsimp only [Around.deeper, Around.in1, ktrTop]; omega))); k_whole; intro t' h' tk' F' N'; (try k_sweep); (try dsimp only); (try k_fold))))
  (k_with "enterC" => (refine' code_mC ?qk1q ?qk2q ?qk3q ?qk4q ?qk5q ?qkAq ?qkFq ?qkKq ?qk6q ?qk7q ?qk8q ?qk9q ?qkBq ?qkDq ?_ ?qc2q ?qc3q ?qc4q; (case qkAq => exact rfl); (case qkFq => exact rfl); (case qkKq => first | exact rfl | assumption); (case qk1q => k_asm); (case qk2q => k_asm); (case qk3q => k_asm); (case qk4q => k_asm); (case qk5q => k_asm); (case qk6q => k_is); (case qk7q => k_is); (case qk8q => (first | omega | (dsimp only [Around.deeper, Around.in1, ktrTop]; omega) | ktr_room)); (case qk9q => first | exact BindsTo.of_eq rfl | exact binds_K (by k_in) rfl (by k_is) rfl rfl rfl); (case qkBq => exact rfl); (case qkDq => decide +kernel); (case qc2q => exact rfl); (case qc3q => exact rfl); (case qc4q => exact rfl); k_whole; intro g' L' h' tk' cells' FG' m' F' N' Y' B' X' T' l1; (try k_lt l1); k_cells Y'; (try simp only [List.cons_append, List.nil_append] at N'); (try dsimp only); (try k_lift B'); (try k_fold)))
  (k_with "eval ListComp" => (k_here; (with_reducible show wpAny _ _ (eval (Expr.ListComp (Expr.Call _ _ _ _) [{ target := _, iter := _, ifs := [], is_async := _ }] _ _) _) _ _ _); k_dflt (refine LCg.ListComp_U (F₀ := by k_asm) (by with_unfolding_all rfl) (by decide) (by rfl) (by decide) (by rfl) ?_); k_dflt lcg_toSrc))
  (k_with "exec Assign cons ListComp" => (k_here; (with_reducible show wpAny _ _ (exec (Stmt.Assign _ (Expr.ListComp (Expr.Name _ _) _ _ _) _) _) _ _ _); k_dflt (refine LCt.Assign_ListComp_T (F₀ := by k_asm) (by rfl) (by with_unfolding_all rfl) (by with_unfolding_all rfl) (by decide) (by rfl) (by decide) (by rfl) (by rfl) (by rfl) ?_); k_dflt lct_toSrc))
  (k_with "exec Assign cons ListComp" => (k_here; (with_reducible show wpAny _ _ (exec (Stmt.Assign _ (Expr.ListComp (Expr.Tuple _ _ _) _ _ _) _) _) _ _ _); k_dflt (refine LCg.Assign_ListComp_U (F₀ := by k_asm) (by rfl) (by with_unfolding_all rfl) (by with_unfolding_all rfl) (by decide) (by rfl) (by decide) (by rfl) (by rfl) (by rfl) ?_); k_dflt lcg_toSrc))
  (k_with "CompSrcT" => (k_here; (have hMx9' := most_eq (by assumption) (by assumption) (by assumption)); (subst hMx9'); (have hM9' := most_le (by assumption) (by assumption)); k_dflt (refine' LCt.CompSrcT.range ?qhhq ?qFq ?qNq ?qrq (size_small hM9') (size_size hM9') (size_line hM9') ?_; (case qhhq => rfl); (case qFq => k_asm); (case qNq => k_asm); (case qrq => assumption)); intro g'; k_dflt (refine' rest_sizes (by assumption) ?qturn1q ?qfin1q); (case' qturn1q => (intro i9' t9' I' oI' C' oC' D' m2' ys9' h' tk' E' hz9' hC' hx' F' N' off' ne')); (case' qfin1q => (intro ys9' hys9'; (have hyz9' := ks_size hM9' hys9'); (have hkl9' := ks_lenI hM9' hys9')))))
  (k_with "CompSrc" => (k_here; (with_reducible show LCg.CompSrc _ _ _ _ _ _ _ (Expr.Call (Expr.Name (Str.ofString "str") _) _ _ _) _ _ _ _ _ _); k_dflt (refine' LCg.CompSrc.ledger ?qhhq ?qFq ?qNq ?qmq ?qzq ?_; (case qhhq => rfl); (case qFq => k_asm); (case qNq => k_asm); (case qmq => k_mem); (case qzq => assumption)); intro g'; k_dflt (refine' rest_strs (fun k z => z = ((toString k : String) : Str)) ?qhiq ?qturn2q ?qfin2q; (case qhiq => exact (by assumption : IntsAre _ _))); (case' qturn2q => (intro z9' t9' I' oI' C' oC' D' m2' ys9' h' tk' E' hz9' hC' hx' F' N' off' ne'; (have hzl9' := ks_four (by assumption) hz9'))); (case' qfin2q => (intro ys9' zs9' hys9' hzn9' hzr9'; (have hzq9' := strs_are_k hzn9' hzr9'); subst hzq9'))))
  (k_with "CompSrc" => (k_here; (with_reducible show LCg.CompSrc _ _ _ _ _ _ _ (Expr.Call (Expr.Name (Str.ofString "len") _) _ _ _) _ _ _ _ _ _); k_dflt (refine' LCg.CompSrc.ledger ?qhhq ?qFq ?qNq ?qmq ?qzq ?_; (case qhhq => rfl); (case qFq => k_asm); (case qNq => k_asm); (case qmq => k_mem); (case qzq => assumption)); intro g'; k_dflt (refine' rest_lens (fun z => (z.length : Int)) ?qhiq ?qturn3q ?qfin3q; (case qhiq => assumption)); (case' qturn3q => (intro z9' t9' I' oI' C' oC' D' m2' ys9' h' tk' E' hz9' hC' hx' F' N' off' ne'; (have hzl9' := labs_at (by assumption) hz9'))); (case' qfin3q => intro ys9' hys9')))
  (k_with "CompSrc" => (k_here; (with_reducible show LCg.CompSrc _ _ _ _ _ _ _ (Expr.Tuple _ _ _) _ _ _ _ _ _); (with_reducible rename DueMark _ _ => hdm9'); k_dflt (refine' LCg.CompSrc.ledger ?qhhq ?qFq ?qNq ?qmq ?qzq ?_; (case qhhq => rfl); (case qFq => k_asm); (case qNq => k_asm); (case qmq => k_mem); (case qzq => assumption)); intro g'; k_dflt (refine' rest_tupsM hdm9' ?qhiq ?qturn4q ?qfin4q; (case qhiq => exact (by assumption : IntsAre _ _))); (case' qturn4q => (intro z9' t9' I' oI' C' oC' D' m2' ys9' bs9' h' tk' E' hz9' hC' hx' F' N' off' ne'; (have hzl9' := ks_four (by assumption) hz9'))); (case' qfin4q => intro ys9' bs9' hys9')))
  (k_with "sizeP" => (unfold sizeP; (try simp only [Bool.and_eq_true, Bool.and_eq_false_iff, decide_eq_true_eq, decide_eq_false_iff_not, beq_iff_eq] at *); first | omega | simp_all; done | grind))
  (k_with "CompEnd" => k_dflt (refine' cendR ?qFq ?qNq ?qi1q ?qi2q ?qi3q ?qsubq ?qoffq ?qhSq ?qrq; (case qrq => first | exact ⟨rfl, _, rfl⟩ | exact ⟨rfl, _, _, rfl, rfl⟩ | exact ⟨rfl, by k_extra "sizeP", _, rfl⟩ | exact ⟨rfl, by k_extra "sizeP"⟩); (case qFq => k_asm); (case qNq => k_asm); (case qi1q => k_mem); (case qi2q => k_mem); (case qi3q => k_mem); (case qsubq => k_extra "submem"); (case qoffq => assumption); (case qhSq => first | exact True.intro | exact Or.inr ⟨_, by k_mem, rfl, _, rfl⟩)))
  (k_with "CompEnd" => k_dflt (refine' cendT ?qFq ?qNq ?qhmq ?qhiq ?qi1q ?qi2q ?qi3q ?qsubq ?qnaq ?qoffq ?qhSq; (case qFq => k_asm); (case qNq => k_asm); (case qhmq => k_mem); (case qhiq => exact .cons _ _ (.cons _ _ (.cons _ _ .nil))); (case qi1q => k_mem); (case qi2q => k_mem); (case qi3q => k_mem); (case qsubq => k_extra "submem"); (case qnaq => exact ⟨by k_ne, by k_ne, by k_ne⟩); (case qoffq => assumption); (case qhSq => exact Or.inr ⟨_, by k_mem, rfl, _, rfl⟩)))
  (k_with "compareOp NotEq ref ref" => (k_here; k_dflt (refine' ne_tups ?qNq ?qh1q ?qT1q ?qS1q ?qh2q ?qT2q ?qS2q ?quq ?_; (case qNq => k_asm); (case qh1q => k_mem); (case qT1q => assumption); (case qS1q => k_extra "suball"); (case qh2q => k_mem); (case qT2q => assumption); (case qS2q => k_extra "suball"); (case quq => ((have hcL9 := cLine_is); dsimp only [Around.deeper, Around.in1, ktrTop]; omega)); k_whole)))
  (k_with "suball" => (intro p hp; repeat (first | (with_reducible exact hp) | (with_reducible refine List.mem_cons_of_mem _ ?_) | (with_reducible refine SubL.mem (by assumption) ?_))))
  (k_with "call builtin:len" => (k_here; (with_reducible show wpAny _ _ (call (Value.builtin "len") [Value.ref _]) _ _ _); k_dflt (refine' lst_lenI ?qNq ?qqq ?qiq ?qzq ?_; (case qNq => k_asm); (case qqq => k_mem); (case qiq => with_reducible assumption); (case qzq => with_reducible assumption); k_whole); intro _ _))
  (k_with "call builtin:str.join" => (k_here; (with_reducible show wpAny _ _ (call (Value.builtin "str.join") [Value.str _ _, Value.ref _]) _ _ _); k_dflt (refine' lst_joinK ?qNq ?qqq ?qiq ?qhbq ?qhlq ?qhsq ?_; (case qNq => k_asm); (case qqq => k_mem); (case qiq => with_reducible assumption); (case qhbq => (intro k9 hk9; exact ks_four (by assumption) hk9)); (case qhlq => with_reducible assumption); (case qhsq => decide); k_whole); intro _ _))
  (k_with "call ref" => (k_here; (with_reducible show wpAny _ _ (call (Value.ref 190) _) _ _ _); k_dflt (refine' Con.use (con_col _ _ _ _ ?qhxq ?qn1q ?qn2q _) ?qBq ?qFq ?qXq ?qNq ?qTq ?qhkq ?qh1q ?qh2q ?_; (case qFq => k_asm); (case qNq => k_asm); (case qhxq => k_extra "tx"); (case qn1q => omega); (case qn2q => omega); (case qBq => k_asm); (case qXq => k_asm); (case qTq => k_asm); (case qhkq => first | exact rfl | assumption); (case qh1q => (first | omega | (dsimp only [Around.deeper, Around.in1, ktrTop]; omega))); (case qh2q => (first | omega | (dsimp only [Around.deeper, Around.in1, ktrTop]; omega))); k_whole; intro t' h' tk' F' N'; (try k_sweep); (try dsimp only); (try k_fold))))
  (k_with "call ref" => (k_here; (with_reducible show wpAny _ _ (call (Value.ref 102) _) _ _ _); k_dflt (refine' Con.use (con_longW _ _ ?qhxq _ ?qWq) ?qBq ?qFq ?qXq ?qNq ?qTq ?qhkq ?qh1q ?qh2q ?_; (case qFq => k_asm); (case qNq => k_asm); (case qWq => k_extra "wsat"); (case qhxq => k_extra "tx"); (case qBq => k_asm); (case qXq => k_asm); (case qTq => k_asm); (case qhkq => first | exact rfl | assumption); (case qh1q => (first | omega | (dsimp only [Around.deeper, Around.in1, ktrTop]; omega))); (case qh2q => (first | omega | (dsimp only [Around.deeper, Around.in1, ktrTop]; omega))); k_whole; intro t' h' tk' F' N'; (try k_sweep); (try dsimp only); (try k_fold))))
  (k_with "call ref" => (k_here; (with_reducible show wpAny _ _ (call (Value.ref 137) _) _ _ _); k_dflt (refine' Con.use (con_witW _ _ _ _ ?qhxq ?qhyq _ ?qWq ?qVq) ?qBq ?qFq ?qXq ?qNq ?qTq ?qhkq ?qh1q ?qh2q ?_; (case qFq => k_asm); (case qNq => k_asm); (case qWq => k_extra "wsat"); (case qVq => k_extra "wsat"); (case qhxq => k_extra "tx"); (case qhyq => k_extra "tx"); (case qBq => k_asm); (case qXq => k_asm); (case qTq => k_asm); (case qhkq => first | exact rfl | assumption); (case qh1q => (first | omega | (dsimp only [Around.deeper, Around.in1, ktrTop]; omega))); (case qh2q => (first | omega | (dsimp only [Around.deeper, Around.in1, ktrTop]; omega))); k_whole; intro l9' k9' bs9' its9' h' tk' F' N' ht9' hsb9' hn9'; (have hsc9' := SubL.of hsb9'); (try k_sweep); (try dsimp only); (try k_fold))))
  (k_with "call ref" => (k_here; (with_reducible show wpAny _ _ (call (Value.ref 151) _) _ _ _); k_dflt (refine' con_fmtX _ _ _ _ _ ?qT0q ?qh4q ?qhlq ?qhzq ?qhokq ?qhjlq ?qBq ?qFq ?qXq ?qNq ?qh146q ?qhpsq ?qhGq ?qTq ?qhkq ?qh1q ?qh2q ?_; (case qFq => k_asm); (case qNq => k_asm); (case qT0q => (refine' TupsAre.sub ?qsq ?qtq; (case qtq => assumption); (case qsq => k_extra "suball"))); (case qh4q => assumption); (case qhlq => k_mem); (case qhzq => assumption); (case qhokq => assumption); (case qhjlq => assumption); (case qh146q => k_mem); (case qhpsq => assumption); (case qhGq => assumption); (case qBq => k_asm); (case qXq => k_asm); (case qTq => k_asm); (case qhkq => first | exact rfl | assumption); (case qh1q => (first | omega | (dsimp only [Around.deeper, Around.in1, ktrTop]; omega))); (case qh2q => (first | omega | (dsimp only [Around.deeper, Around.in1, ktrTop]; omega))); k_whole; intro t9' ps9' nx9' s9' hos9' hg9' hps9' F' N' h146' hkp9'; (try k_sweep); (try dsimp only); (try k_fold))))
  (k_with "ite" => ((with_reducible refine ite_many ?_); intro hml9'))
  have hx1 := hx.1
  have hxt := hx.tx
  have hg0 : (xs.getD (Int.toNat 0) Str.empty).length ≤ 3 := (hL.getD _).1
  have hiz : its.size ≤ sizeLine := by rw [← Array.length_toList, hi.length]; exact Nat.le_trans h4 (by decide)
  have hmx := most_le hL f0.1
  have hko := fmt_ok (ks := ksL 1 (sizeP k xs) (mx + 1).toNat) (fun k hk => ks_four hmx hk) (ks_len4 hmx)
  have hwe : (witW y x).map firstT = fmtK (ksL 1 (sizeP k xs) (mx + 1).toNat) := by rw [f2, map_first]
  have hw4 : (witW y x).length ≤ 16 := by rw [f2, List.length_map]; exact Nat.le_trans (ks_len4 hmx) (by decide)
  have hwz : ∀ ns ∈ witW y x, 0 < ns.length ∧ ns.length ≤ 16 ∧ (ns.getD 0 0).natAbs.log2 < 1920 := by
    rw [f2]; intro ns hns
    obtain ⟨k', hk', rfl⟩ := List.mem_map.mp hns
    have hb := ks_four hmx hk'
    have hq : k' = 1 ∨ k' = 2 ∨ k' = 3 ∨ k' = 4 := by omega
    refine ⟨by simp [dueF], by simp [dueF], ?_⟩
    show k'.natAbs.log2 < 1920
    rcases hq with rfl | rfl | rfl | rfl <;> decide
  have hwok : JoinOk (Str.ofString ", ") ((witW y x).map firstT) = true := by rw [hwe]; exact hko.1
  have hwjl : (Txt.join (Str.ofString ", ") ((witW y x).map firstT)).length ≤ 64 := by rw [hwe]; exact hko.2
  have hkj := hko.2
  have e1' : (fmtT (witW y x) != Str.ofString "at tab size" ++ manyT (decide (1 < ((ksL 1 (sizeP k xs) (mx + 1).toNat).length : Int))) ++ Str.ofString " " ++ Txt.join (Str.ofString ", ") (fmtK (ksL 1 (sizeP k xs) (mx + 1).toNat))) = false := by
    rw [f2, fmt_same]; exact bne_self_eq_false' _
  have e2' : (lessW (LW y) (LW x) != decide (1 < k)) = false := by rw [f3]; exact bne_self_eq_false' _
  have e3' : (eqW (LW y) (LW x) != (y == x)) = false := by rw [f4]; exact bne_self_eq_false' _
  have hSM : SizeMark k xs := ⟨⟩
  have hDM : DueMark x y := ⟨⟩
  obtain ⟨wd, wtc, wtn, wvs, we, wt, wm1, wm2, wm3, wm4, whv⟩ := W0.ex
  k_fill
  intro B F X N h146 hps hG T hk hd9 hu ret
  refine wpAny_call ?_
  k_dflt (k_extra "enterC")
  k_steps
  all_goals first
    | (exfalso; exact absurd f1 (by with_reducible assumption))
    | (exfalso; exact Bool.noConfusion (e1'.symm.trans (by with_reducible assumption)))
    | (exfalso; exact Bool.noConfusion (e2'.symm.trans (by with_reducible assumption)))
    | (exfalso; exact Bool.noConfusion (e3'.symm.trans (by with_reducible assumption)))
    | (rw [f5]; refine' ret 0 _ _ _ ?o9 ?g9 ?p9 ?F9 ?N9 ?m9 ?k9; (case o9 => assumption); (case g9 => assumption); (case p9 => assumption); (case F9 => k_asm); (case N9 => k_asm); (case m9 => k_mem); (case k9 => exact fun p hp hc => by k_mem))

end Mine
end

section
local macro_rules | `(tactic| omega) => `(tactic| lia)
open PySem PySem.W PyProof.Rows PySem.Calls PySem.Spec
set_option Elab.async false
set_option maxRecDepth 100000
set_option maxHeartbeats 4000000
namespace Mine
theorem ia_drop : ∀ {vs : List Value} {ns : List Int}, IntsAre vs ns → ∀ k, IntsAre (vs.drop k) (ns.drop k)
  | _, _, h, 0 => h
  | _, _, .nil, k + 1 => .nil
  | _, _, .cons n t r, k + 1 => ia_drop r k
theorem ia_take : ∀ {vs : List Value} {ns : List Int}, IntsAre vs ns → ∀ k, IntsAre (vs.take k) (ns.take k)
  | _, _, _, 0 => .nil
  | _, _, .nil, k + 1 => .nil
  | _, _, .cons n t r, k + 1 => .cons n t (ia_take r k)
noncomputable def pickI (ns : List Int) (lo hi : Option Int) : List Int := (ns.drop (kms_lo lo ns.length)).take (kms_hi hi ns.length - kms_lo lo ns.length)
theorem pickI_mem {ns : List Int} {lo hi : Option Int} {d : Int} (h : d ∈ pickI ns lo hi) : d ∈ ns := List.mem_of_mem_drop (List.mem_of_mem_take h)
theorem pickI_to {ns : List Int} : (pickI ns none (some 5)).length ≤ 5 := by
  unfold pickI kms_lo kms_hi
  rw [List.length_take]
  simp only [show ¬ ((5 : Int) < 0) by decide, if_false]
  omega
section
variable {prog : Program} {w : World} {A : Around} {E : Value → Shared → Prop} {s : Shared} {h₀ : Heap} {L : Addr} {m : Str → Option Value} {news : List (Addr × Obj)} {l : Addr} {its : Array Value} {c : Nat} {ns : List Int} {Q : Value → Shared → Prop} {value slice : Expr}
theorem base_list (F : Fr h₀ L s.heap m) (hl : h₀.IsList l its) : s.heap.IsList l its :=
  let ⟨o, e, r⟩ := hl; ⟨o, F.keep _ _ e, r⟩
theorem base_list2 {h g : Heap} {L' : Addr} {m' : Str → Option Value} (hl : h₀.IsList l its) (FG : Fr h₀ L' g m') (F : Fr g L h m) : h.IsList l its :=
  let ⟨o, e, r⟩ := hl; ⟨o, F.keep _ _ (FG.keep _ _ e), r⟩
theorem lst_sliceI {vl vu : Value} {lo hi : Option Int} (F : Fr h₀ L s.heap m) (N : News h₀ L s.heap news) (hl : s.heap.IsList l its) (hi' : IntsAre its.toList ns) (pl : IsPart vl lo) (pu : IsPart vu hi) (hz : ns.length ≤ 1024)
    (h : ∀ D h' (js : Array Value) c', Fr h₀ L h' m → News h₀ L h' ((D, PySem.W.listOf js c') :: news) → (∀ p ∈ news, p.1 < D) → IntsAre js.toList (pickI ns lo hi) → Q (.ref D) { s with heap := h' })
    (hs : subscripted slice false (.ref l) (.ref s.heap.objs.size) = operate [.ref s.heap.objs.size, .ref l] (getItem (.ref l) (.ref s.heap.objs.size))) (ht : ∀ r, letTemporaryGo value (.ref l) r = pure ()) :
    wpAny (model prog w) A (subscriptTail value slice (.ref l) (.ref s.heap.objs.size)) Q E { s with heap := s.heap.push { cls := .type "slice", data := .fields #[vl, vu, .none] } } := by
  have hl' := hi'.length
  refine kms_slice_lit F N hl pl pu rfl (fun D h' F' N' l1 => h D h' _ _ F' N' l1 ?_) hs ht ?_
  · rw [List.toList_toArray]
    unfold kms_pick pickI
    rw [hl']
    exact ia_take (ia_drop hi' _) _
  · rw [← Array.length_toList, hl', sizeLine_eq]; omega
theorem lst_sliceN {vl vu : Value} {lo hi : Option Int} (F : Fr h₀ L s.heap m) (N : News h₀ L s.heap news) (hm : (l, PySem.W.listOf its c) ∈ news) (hi' : IntsAre its.toList ns) (pl : IsPart vl lo) (pu : IsPart vu hi) (hz : ns.length ≤ 1024)
    (h : ∀ D h' (js : Array Value) c', Fr h₀ L h' m → News h₀ L h' ((D, PySem.W.listOf js c') :: news) → (∀ p ∈ news, p.1 < D) → IntsAre js.toList (pickI ns lo hi) → Q (.ref D) { s with heap := h' })
    (hs : subscripted slice false (.ref l) (.ref s.heap.objs.size) = operate [.ref s.heap.objs.size, .ref l] (getItem (.ref l) (.ref s.heap.objs.size))) (ht : ∀ r, letTemporaryGo value (.ref l) r = pure ()) :
    wpAny (model prog w) A (subscriptTail value slice (.ref l) (.ref s.heap.objs.size)) Q E { s with heap := s.heap.push { cls := .type "slice", data := .fields #[vl, vu, .none] } } :=
  lst_sliceI F N (News.isList N hm) hi' pl pu hz h hs ht
theorem lst_catI {l2 : Addr} {its2 : Array Value} {c2 : Nat} {ms : List Int} (F : Fr h₀ L s.heap m) (N : News h₀ L s.heap news) (hm : (l, PySem.W.listOf its c) ∈ news) (hm2 : (l2, PySem.W.listOf its2 c2) ∈ news) (hi : IntsAre its.toList ns) (hi2 : IntsAre its2.toList ms) (hz : ns.length ≤ 1024) (hz2 : ms.length ≤ 1024)
    (h : ∀ D h' (js : Array Value) c', Fr h₀ L h' m → News h₀ L h' ((D, PySem.W.listOf js c') :: news) → (∀ p ∈ news, p.1 < D) → IntsAre js.toList (ns ++ ms) → Q (.ref D) { s with heap := h' }) :
    wpAny (model prog w) A (binaryOp .Add (.ref l) (.ref l2)) Q E s := by
  have hl := hi.length
  have hl2 := hi2.length
  refine kmk_add_lit F N (News.isList N hm) (News.isList N hm2) rfl (fun D h' F' N' l1 => h D h' _ _ F' N' l1 ?_) ?_
  · rw [List.toList_toArray]; exact IntsAre.append hi hi2
  · rw [hl, hl2, sizeLine_eq]; omega
theorem lst_lenJ (N : News h₀ L s.heap news) (hm : (l, PySem.W.listOf its c) ∈ news) (T : IntsAre its.toList ns) (hz : ns.length ≤ 64) (h : ∀ t tk, Q (.int (ns.length : Int) t) { s with toks := tk }) :
    wpAny (model prog w) A (call (.builtin "len") [.ref l]) Q E s := by
  have hlen : its.size = ns.length := by rw [← T.length, Array.length_toList]
  refine len_list (News.isList N hm) (by rw [hlen]; omega) ?_
  rw [hlen]; exact h _ _
theorem lst_itemI {k : Int} {t : Tok} (N : News h₀ L s.heap news) (hm : (l, PySem.W.listOf its c) ∈ news) (hi : IntsAre its.toList ns) (h0 : 0 ≤ k) (h1 : k < (ns.length : Int)) (hz : ns.length ≤ 16384) (h : ∀ t, Q (.int (ns.getD k.toNat 0) t) s)
    (hs : subscripted slice false (.ref l) (.int k t) = operate [.ref l, .int k t] (getItem (.ref l) (.int k t)) := by with_unfolding_all rfl) :
    wpAny (model prog w) A (subscriptTail value slice (.ref l) (.int k t)) Q E s := by
  obtain ⟨u, hu⟩ := hi.get k.toNat (ns.getD k.toNat 0) (by
    rw [List.getD_eq_getElem?_getD, List.getElem?_eq_getElem (by omega)]; rfl)
  exact PyProof.Rows.item_listR (News.isList N hm) h0 (by omega) (by simpa using hu) (h u) hs
end
noncomputable def tabT : List Str := [Str.ofString "a", Str.ofString "ab", Str.ofString "7", Str.ofString "", Str.ofString "b7a", Str.ofString "bb", Str.ofString "70"]
theorem tab_item {prog : Program} {w : World} {A : Around} {E : Value → Shared → Prop} {s : Shared} {h₀ : Heap} {L : Addr} {news : List (Addr × Obj)} {l : Addr} {c : Nat} {u1 u2 u3 u4 u5 u6 u7 : Tok} {Q : Value → Shared → Prop} {value slice : Expr} {k : Int} {t : Tok}
    (N : News h₀ L s.heap news) (hm : (l, PySem.W.listOf #[.str (Str.ofString "a") u1, .str (Str.ofString "ab") u2, .str (Str.ofString "7") u3, .str (Str.ofString "") u4, .str (Str.ofString "b7a") u5, .str (Str.ofString "bb") u6, .str (Str.ofString "70") u7] c) ∈ news) (h0 : 0 ≤ k) (h1 : k < 7) (h : ∀ z t, z ∈ tabT → Q (.str z t) s)
    (hs : subscripted slice false (.ref l) (.int k t) = operate [.ref l, .int k t] (getItem (.ref l) (.int k t)) := by with_unfolding_all rfl) :
    wpAny (model prog w) A (subscriptTail value slice (.ref l) (.int k t)) Q E s := by
  have hi : StrsAre (#[.str (Str.ofString "a") u1, .str (Str.ofString "ab") u2, .str (Str.ofString "7") u3, .str (Str.ofString "") u4, .str (Str.ofString "b7a") u5, .str (Str.ofString "bb") u6, .str (Str.ofString "70") u7] : Array Value).toList tabT := .cons _ _ (.cons _ _ (.cons _ _ (.cons _ _ (.cons _ _ (.cons _ _ (.cons _ _ .nil))))))
  have hlen : tabT.length = 7 := rfl
  refine lst_item N hm hi h0 (by rw [hlen]; exact h1) (by rw [hlen]; omega) (fun t => h _ t ?_) hs
  rw [List.getD_eq_getElem?_getD, List.getElem?_eq_getElem (by rw [hlen]; omega)]
  exact List.getElem_mem _
theorem pickI_to5 {js : List Value} {ns : List Int} (_ : IntsAre js (pickI ns none (some 5))) : (pickI ns none (some 5)).length ≤ 5 := pickI_to
theorem pickI_size {js : Array Value} {ns : List Int} (h : IntsAre js.toList (pickI ns none (some 5))) : js.size ≤ sizeLine := by
  rw [← Array.length_toList, h.length]; exact Nat.le_trans pickI_to (by decide)
theorem pickJ_size {js : Array Value} {ns : List Int} (h : IntsAre js.toList ns) (hl : 2 ≤ ns.length ∧ ns.length ≤ 4) : js.size ≤ sizeLine := by
  rw [← Array.length_toList, h.length]; exact Nat.le_trans hl.2 (by decide)
theorem news_sub {h₀ h : Heap} {L : Addr} {a b : List (Addr × Obj)} (N : News h₀ L h a) (k : ∀ p ∈ b, p ∈ a) : News h₀ L h b := fun p hp => N p (k p hp)
theorem fmod_at (x : Int) (n : Int) (h : 0 < n) : 0 ≤ x.fmod n ∧ x.fmod n < n := ⟨Int.fmod_nonneg_of_pos x h, Int.fmod_lt_of_pos x h⟩
theorem fmod_draw (x : Int) : 0 ≤ x.fmod 1000000 ∧ x.fmod 1000000 < 1000000 := fmod_at x _ (by decide)
theorem fmod_seven (x : Int) : 0 ≤ x.fmod 7 ∧ x.fmod 7 < 7 := fmod_at x _ (by decide)
theorem fmod_three (x : Int) : 0 ≤ x.fmod 3 ∧ x.fmod 3 < 3 := fmod_at x _ (by decide)
/-- the draws -/
noncomputable def Draws (ds : List Int) : Prop := ∀ d ∈ ds, 0 ≤ d ∧ d < 1000000
noncomputable def fillI (ms : List Int) : List Int := pickI [1, 1, 4, 5, 0] (some (ms.length : Int)) none
theorem fill_len {ms : List Int} (h : ms.length ≤ 5) : (ms ++ fillI ms).length = 5 := by
  unfold fillI pickI kms_lo kms_hi
  rw [List.length_append, List.length_take, List.length_drop]
  simp only [List.length_cons, List.length_nil, if_neg (show ¬ ((ms.length : Int) < 0) by omega)]
  omega
theorem fill_draws {ms : List Int} (h : Draws ms) : Draws (ms ++ fillI ms) := fun d hd => by
  rcases List.mem_append.mp hd with hd | hd
  · exact h d hd
  · have := pickI_mem hd
    simp only [List.mem_cons, List.not_mem_nil, or_false] at this
    omega
theorem draws_at {ds : List Int} (h : Draws ds) (hl : ds.length = 5) : 0 ≤ ds.getD 0 0 ∧ ds.getD 0 0 < 1000000 := by
  refine h _ ?_
  rw [List.getD_eq_getElem?_getD, List.getElem?_eq_getElem (by omega)]
  exact List.getElem_mem _
theorem fill_le {ms : List Int} : (fillI ms).length ≤ 1024 := by
  unfold fillI pickI
  rw [List.length_take, List.length_drop]
  simp only [List.length_cons, List.length_nil]
  omega
theorem draws_of {js : Array Value} {ms : List Int} (h : IntsAre js.toList (ms ++ fillI ms)) (hl : ms.length ≤ 5) (hd : Draws ms) : ∃ ds, IntsAre js.toList ds ∧ ds.length = 5 ∧ Draws ds ∧ (0 ≤ ds.getD 0 0 ∧ ds.getD 0 0 < 1000000) :=
  ⟨_, h, fill_len hl, fill_draws hd, draws_at (fill_draws hd) (fill_len hl)⟩
theorem draw_in {ds : List Int} {lo hi : Option Int} {d : Int} (h : Draws ds) (hm : d ∈ pickI ds lo hi) : 0 ≤ d ∧ d < 1000000 := h d (pickI_mem hm)
theorem pickJ_len {ds : List Int} {b : Int} (hl : ds.length = 5) (h1 : 3 ≤ b) (h2 : b ≤ 5) : 2 ≤ (pickI ds (some 1) (some b)).length ∧ (pickI ds (some 1) (some b)).length ≤ 4 := by
  unfold pickI kms_lo kms_hi
  rw [List.length_take, List.length_drop, hl]
  simp only [show ¬ ((1 : Int) < 0) by decide, if_false, if_neg (show ¬ b < 0 by omega)]
  omega
theorem pickJ_len3 {ds : List Int} {x : Int} (hl : ds.length = 5) : 2 ≤ (pickI ds (some 1) (some (3 + x.fmod 3))).length ∧ (pickI ds (some 1) (some (3 + x.fmod 3))).length ≤ 4 := by
  have := fmod_three x
  exact pickJ_len hl (by omega) (by omega)
theorem pickK_len {js : List Value} {ds : List Int} {x : Int} (_ : IntsAre js (pickI ds (some 1) (some (3 + x.fmod 3)))) (hl : ds.length = 5) : 2 ≤ (pickI ds (some 1) (some (3 + x.fmod 3))).length ∧ (pickI ds (some 1) (some (3 + x.fmod 3))).length ≤ 4 := pickJ_len3 hl
section
variable {prog : Program} {w : World} {A : Around} {s : Shared} {h₀ : Heap} {L : Addr} {m : Str → Option Value} {env : Env} {elt : Expr} {x : Str} {scope : Scope} {cl : List (Str × Addr)} {S : List (Addr × Obj) → Prop} {Fin : List Value → List (Addr × Obj) → Prop} {news : List (Addr × Obj)}
/-- ints to draws -/
theorem rest_draws {its : Array Value} {ks : List Int} (hi : IntsAre its.toList ks) (hk5 : ks.length ≤ 5)
    (turn : ∀ k t I oI C oC D m₂ ys h tk (E' : Value → Shared → Prop), k ∈ ks → LCg.NsObj oC m₂ → m₂ x = some (.int k t) → Fr h₀ L h m → News h₀ L h ((I, oI) :: (C, oC) :: (D, LCg.lst ys) :: news) → LCg.Off3 I C D news → ((@Ne Nat I C) ∧ (@Ne Nat I D) ∧ (@Ne Nat C D)) →
      wpAny (model prog w) A (eval elt (compEnvC scope cl C env)) (LCg.CompEnd h₀ L m { s with heap := h, toks := tk } I oI C oC D (LCg.lst ys) S (fun y nw' => nw' = news ∧ ∃ d t', y = .int d t' ∧ 0 ≤ d ∧ d < 1000000)) E' { s with heap := h, toks := tk })
    (fin : ∀ ys ms, IntsAre ys ms → ms.length ≤ 5 → Draws ms → Fin ys news) : LCg.CompRest prog w A h₀ L m env elt x scope cl s S (fun i v => its[i]? = some v) Fin its.size 0 [] news := by
  have hl := hi.length
  rw [Array.length_toList] at hl
  refine rest_inv (fun i ys nw => nw = news ∧ ∃ ms, IntsAre ys ms ∧ ms.length = i ∧ Draws ms) ⟨rfl, [], .nil, rfl, fun d hd => nomatch hd⟩ ?_ ?_
  · rintro i v I oI C oC D m₂ ys nw h tk E' hi' ⟨rfl, ms, hy, hz, hR⟩ hv hC hx F N off ne
    obtain ⟨k, t, rfl, hk⟩ := IntsAre.at hi i v (by simpa using hv)
    refine wpAny_mono (turn k t I oI C oC D m₂ ys h tk E' (List.mem_of_getElem? hk) hC hx F N off ne) (fun y s₂ hq => ?_) fun _ _ e => e
    obtain ⟨h', tk', nw', e, F', N', off', hS, rfl, d, t', rfl, hd⟩ := hq
    refine ⟨h', tk', _, e, F', N', off', hS, rfl, ms ++ [d], IntsAre.append hy (.cons _ t' .nil), by simp [hz], ?_⟩
    intro d' hd'
    rcases List.mem_append.mp hd' with q | q
    · exact hR d' q
    · rw [List.mem_singleton.mp q]; exact hd
  · rintro ys nw ⟨rfl, ms, hy, hz, hR⟩
    exact fin ys ms hy (by omega) hR
theorem rest_tab {its : Array Value} {ks : List Int} (hi : IntsAre its.toList ks)
    (turn : ∀ k t I oI C oC D m₂ ys h tk (E' : Value → Shared → Prop), k ∈ ks → LCg.NsObj oC m₂ → m₂ x = some (.int k t) → Fr h₀ L h m → News h₀ L h ((I, oI) :: (C, oC) :: (D, LCg.lst ys) :: news) → LCg.Off3 I C D news → ((@Ne Nat I C) ∧ (@Ne Nat I D) ∧ (@Ne Nat C D)) →
      wpAny (model prog w) A (eval elt (compEnvC scope cl C env)) (LCg.CompEnd h₀ L m { s with heap := h, toks := tk } I oI C oC D (LCg.lst ys) S (fun y nw' => nw' = news ∧ ∃ z t', y = .str z t' ∧ z ∈ tabT)) E' { s with heap := h, toks := tk })
    (fin : ∀ ys zs, StrsAre ys zs → zs.length = ks.length → (∀ z ∈ zs, z ∈ tabT) → Fin ys news) : LCg.CompRest prog w A h₀ L m env elt x scope cl s S (fun i v => its[i]? = some v) Fin its.size 0 [] news := by
  refine rest_strs (fun _ z => z ∈ tabT) hi turn fun ys zs h1 h2 h3 => fin ys zs h1 h2 fun z hz => ?_
  obtain ⟨i, hi', e⟩ := List.getElem_of_mem hz
  exact h3 i z (ks[i]'(by omega)) (by rw [List.getElem?_eq_getElem hi', e]) (List.getElem?_eq_getElem (by omega))
end
end Mine
end

section
local macro_rules | `(tactic| omega) => `(tactic| lia)
open PySem PySem.W PyProof.Rows PySem.Calls
set_option Elab.async false
set_option maxRecDepth 100000
set_option maxHeartbeats 8000000
namespace Mine


noncomputable abbrev RetL (news : List (Addr × Obj)) (h₀ : Heap) (L : Addr) (m : Str → Option Value) (s : Shared) (Q : Value → Shared → Prop) : Prop :=
  ∀ (l : Addr) (its : Array Value) (k : Nat) (xs : List Str) (h' : Heap) (tk' : Nat), Fr h₀ L h' m → News h₀ L h' ((l, PySem.W.listOf its k) :: news) → StrsAre its.toList xs → (∀ x ∈ xs, x ∈ tabT) → 2 ≤ xs.length → xs.length ≤ 4 → Q (.ref l) { s with heap := h', toks := tk' }
theorem con_labels (sa : Addr) (vs : List Value) (ns : List Int) (hi : IntsAre vs ns) (hn : ns.length ≤ 63) {ps : Array Value}
    {w : World} {mean : ExcName → Option Value} {mg mb : Str → Option Value} {dp un : Nat} {gd : Option (List Code)} {cn : Str} {cs : Scope} {a : Addr} {ccd : Value} {cl : List (Str × Addr)} {outer : List Env} {A₀ : Around}
    {base h₀ : Heap} {L : Addr} {m : Str → Option Value} {s : Shared} {Q E : Value → Shared → Prop} :
    h₀.IsList sa vs.toArray → Below A₀ base outer h₀ → Fr h₀ L s.heap m → (hd.heap_39 w.params).In h₀ → News h₀ L s.heap [(146, tabO ps)] → Top vw looseV mean mg mb h₀ →
    cs.kind = .function → dp + 4 < recursionLimit → un + 100 < cLine → RetL [(146, tabO ps)] h₀ L m s Q →
    wpAny (model PySem.Challenge.rw_xe0049_01.row.prog w) (ktrTop dp un gd cn cs L a ccd cl outer) (call (.ref 178) [.ref sa]) Q E s := by
  k_with_none
  (k_with "exec Assign" => k_fold)
  (k_with "exec If" => k_fold)
  (k_with "exec While" => k_fold)
  (k_with "exec For" => k_fold)
  (k_with "storeName" => (k_here; k_dflt ((refine' storeM ?qFq ?qNq ?_ ?qaq ?qbq; (case qFq => k_asm); (case qNq => k_asm); (case qaq => rfl); (case qbq => rfl); k_whole; intro h' tk m₁ F' N'; (try k_sweep)))))
  (k_with "tx" => first | with_reducible assumption | with_reducible exact Tx.lower (by k_extra "tx") | with_reducible exact Tx.upper (by k_extra "tx") | with_reducible exact Tx.slice (by k_extra "tx") _ _)
  (k_with "enter9" => (refine' code_m ?qk1q ?qk2q ?qk3q ?qk4q ?qk5q ?qkAq ?qkFq ?qkKq ?qk6q ?qk7q ?qk8q ?qk9q ?qkBq ?_ ?qc2q ?qc3q ?qc4q ?qc5q; (case qkAq => exact rfl); (case qkFq => exact rfl); (case qkKq => first | exact rfl | assumption); (case qk1q => k_asm); (case qk2q => k_asm); (case qk3q => k_asm); (case qk4q => k_asm); (case qk5q => k_asm); (case qk6q => k_is); (case qk7q => k_is); (case qk8q => (first | omega | (dsimp only [Around.deeper, Around.in1, ktrTop]; omega) | ktr_room)); (case qk9q => first | exact BindsTo.of_eq rfl | exact binds_K (by k_in) rfl (by k_is) rfl rfl rfl); (case qc5q => decide); (case qkBq => exact locs rfl); (case qc2q => exact rfl); (case qc3q => exact rfl); (case qc4q => exact rfl); k_whole; intro g' L' h' tk' FG' m' F' N' B' X' T'; (try dsimp only); (try k_lift B'); (try k_fold)))
  (k_with "ho9" => (intro y9 a9 b9; simp only [List.forall_mem_cons, List.forall_mem_nil, and_true] at b9; simp only [bsM, a9, b9, if_false]))
  (k_with "ne9" => ((try simp only [AllNe, and_true, ne_eq] at *); first | assumption | trivial | grind))
  (k_with "mm" => first | (with_reducible exact List.mem_cons_self) | (with_reducible assumption) | ((with_reducible refine List.mem_cons_of_mem _ ?_); (focus k_extra "mm")) | ((with_reducible refine List.mem_append_right _ ?_); (focus k_extra "mm")) | ((with_reducible refine SubL.mem (by assumption) ?_); (focus k_extra "mm")) | ((with_reducible refine Kept.mem (by assumption) ?_ ?_); rotate_left; (focus (k_extra "mm")); (focus (first | (with_reducible assumption) | exact no_cls (by intro h9; cases h9) | exact no_cell (by assumption)))))
  (k_with "k_mem9w" => (k_extra "mm"))
  (k_with "enterC" => (refine' code_mC ?qk1q ?qk2q ?qk3q ?qk4q ?qk5q ?qkAq ?qkFq ?qkKq ?qk6q ?qk7q ?qk8q ?qk9q ?qkBq ?qkDq ?_ ?qc2q ?qc3q ?qc4q; (case qkAq => exact rfl); (case qkFq => exact rfl); (case qkKq => first | exact rfl | assumption); (case qk1q => k_asm); (case qk2q => k_asm); (case qk3q => k_asm); (case qk4q => k_asm); (case qk5q => k_asm); (case qk6q => k_is); (case qk7q => k_is); (case qk8q => (first | omega | (dsimp only [Around.deeper, Around.in1, ktrTop]; omega) | ktr_room)); (case qk9q => first | exact BindsTo.of_eq rfl | exact binds_K (by k_in) rfl (by k_is) rfl rfl rfl); (case qkBq => exact rfl); (case qkDq => decide +kernel); (case qc2q => exact rfl); (case qc3q => exact rfl); (case qc4q => exact rfl); k_whole; intro g' L' h' tk' cells' FG' m' F' N' Y' B' X' T' l1; (try k_lt l1); k_cells Y'; (try simp only [List.cons_append, List.nil_append] at N'); (try dsimp only); (try k_lift B'); (try k_fold)))
  (k_with "submem" => (intro p hp; repeat (first | (with_reducible exact hp) | (with_reducible refine List.mem_cons_of_mem _ ?_))))
  (k_with "lit5" => exact (.cons _ _ (.cons _ _ (.cons _ _ (.cons _ _ (.cons _ _ .nil))))))
  (k_with "exec Assign cons ListComp" => (k_here; k_dflt (refine LCg.Assign_ListComp_U (F₀ := by k_asm) (by rfl) (by with_unfolding_all rfl) (by with_unfolding_all rfl) (by decide) (by rfl) (by decide) (by rfl) (by rfl) (by rfl) ?_); k_dflt lcg_toSrc))
  (k_with "eval ListComp" => (k_here; k_dflt (refine LCg.ListComp_U (F₀ := by k_asm) (by with_unfolding_all rfl) (by decide) (by rfl) (by decide) (by rfl) ?_); k_dflt lcg_toSrc))
  (k_with "CompSrc" => (k_here; (with_reducible show LCg.CompSrc _ _ _ _ _ _ _ (Expr.BinOp _ _ _ _) _ _ _ _ _ _); k_dflt (refine' LCg.CompSrc.ledger ?qhhq ?qFq ?qNq ?qmq ?qzq ?_; (case qhhq => rfl); (case qFq => k_asm); (case qNq => k_asm); (case qmq => k_mem); (case qzq => assumption)); intro g'; k_dflt (refine' rest_draws ?qhiq ?qh5q ?qturnAq ?qfinAq; (case qhiq => exact (by assumption : IntsAre _ _)); (case qh5q => assumption)); (case' qturnAq => (intro z9' t9' I' oI' C' oC' D' m2' ys9' h' tk' E' hz9' hC' hx' F' N' off' ne')); (case' qfinAq => (intro ys9' ms9' hys9' hm59' hmd9'))))
  (k_with "CompSrc" => (k_here; (with_reducible show LCg.CompSrc _ _ _ _ _ _ _ (Expr.Subscript _ _ _) _ _ _ _ _ _); k_dflt (refine' LCg.CompSrc.ledger ?qhhq ?qFq ?qNq ?qmq ?qzq ?_; (case qhhq => rfl); (case qFq => k_asm); (case qNq => k_asm); (case qmq => k_mem); (case qzq => assumption)); intro g'; k_dflt (refine' rest_tab ?qhiq ?qturnBq ?qfinBq; (case qhiq => exact (by assumption : IntsAre _ _))); (case' qturnBq => (intro z9' t9' I' oI' C' oC' D' m2' ys9' h' tk' E' hz9' hC' hx' F' N' off' ne'; (have hzb9' := draw_in (by assumption) hz9'))); (case' qfinBq => (intro ys9' zs9' hys9' hzl9' hzt9'))))
  (k_with "CompEnd" => k_dflt (refine' cendR ?qFq ?qNq ?qi1q ?qi2q ?qi3q ?qsubq ?qoffq ?qhSq ?qrq; (case qrq => first | exact ⟨rfl, _, _, rfl, by assumption⟩ | exact ⟨rfl, _, _, rfl, fmod_draw _⟩); (case qFq => k_asm); (case qNq => k_asm); (case qi1q => k_mem); (case qi2q => k_mem); (case qi3q => k_mem); (case qsubq => k_extra "submem"); (case qoffq => assumption); (case qhSq => exact Or.inr ⟨_, by k_mem, rfl, _, rfl⟩)))
  (k_with "subscriptTail" => (k_here; (with_reducible show wpAny _ _ (subscriptTail _ _ (Value.ref _) (Value.int _ _)) _ _ _); k_dflt (refine' tab_item ?qNq ?qqq ?qh0q ?qh1q ?_ ?qhsq; (case qNq => k_asm); (case qqq => k_mem); (case qh0q => exact (fmod_seven _).1); (case qh1q => exact (fmod_seven _).2); (case qhsq => with_unfolding_all rfl); k_whole); intro z9' _ hzt9'))
  (k_with "subscriptTail" => (k_here; (with_reducible show wpAny _ _ (subscriptTail _ _ (Value.ref _) (Value.int 0 _)) _ _ _); k_dflt (refine' lst_itemI ?qNq ?qqq ?qiq ?qh0q ?qh1q ?qzq ?_ ?qhsq; (case qNq => k_asm); (case qqq => k_mem); (case qiq => assumption); (case qh0q => omega); (case qh1q => omega); (case qzq => omega); (case qhsq => with_unfolding_all rfl); k_whole); intro _))
  (k_with "call builtin:len" => (k_here; (with_reducible show wpAny _ _ (call (Value.builtin "len") [Value.ref _]) _ _ _); k_dflt (refine' lst_lenJ ?qNq ?qqq ?qiq ?qzq ?_; (case qNq => k_asm); (case qqq => k_mem); (case qiq => assumption); (case qzq => omega); k_whole); intro _ _))
  (k_with "subscriptTail Name Slice ref ref" => (k_here; (with_reducible show wpAny _ _ (subscriptTail _ (PySem.Expr.Slice none _ none _) (Value.ref _) (Value.ref _)) _ _ _); k_dflt (refine' lst_sliceI ?qFq ?qNq ?qlq ?qiq ?qpq ?qqq ?qzq ?_ ?qsq ?qtq; (case qFq => k_asm); (case qNq => k_asm); (case qlq => (refine' base_list2 ?qlg9q ?qlf29q ?qlf9q; (case qlg9q => assumption); (case qlf29q => assumption); (case qlf9q => k_asm))); (case qiq => (rw [List.toList_toArray]; assumption)); (case qpq => kmk_part); (case qqq => kmk_part); (case qzq => omega); (case qsq => with_unfolding_all rfl); (case qtq => kmk_pure)); intro D' h' js' c' F' N' l1 hi9'; (have hp59' := pickI_to5 hi9'); (have hq59' := pickI_size hi9'); (try k_lt l1); (try k_sweep)))
  (k_with "subscriptTail Name Slice ref ref" => (k_here; (with_reducible show wpAny _ _ (subscriptTail _ (PySem.Expr.Slice (some _) none none _) (Value.ref _) (Value.ref _)) _ _ _); k_dflt (refine' lst_sliceN ?qFq ?qNq ?qlq ?qiq ?qpq ?qqq ?qzq ?_ ?qsq ?qtq; (case qFq => k_asm); (case qNq => k_asm); (case qlq => k_mem); (case qiq => k_extra "lit5"); (case qpq => kmk_part); (case qqq => kmk_part); (case qzq => decide); (case qsq => with_unfolding_all rfl); (case qtq => kmk_pure)); intro D' h' js' c' F' N' l1 hi9'; (try k_lt l1); (try k_sweep)))
  (k_with "subscriptTail Name Slice ref ref" => (k_here; (with_reducible show wpAny _ _ (subscriptTail _ (PySem.Expr.Slice (some _) (some _) none _) (Value.ref _) (Value.ref _)) _ _ _); k_dflt (refine' lst_sliceN ?qFq ?qNq ?qlq ?qiq ?qpq ?qqq ?qzq ?_ ?qsq ?qtq; (case qFq => k_asm); (case qNq => k_asm); (case qlq => k_mem); (case qiq => assumption); (case qpq => kmk_part); (case qqq => kmk_part); (case qzq => omega); (case qsq => with_unfolding_all rfl); (case qtq => kmk_pure)); intro D' h' js' c' F' N' l1 hi9'; (have hpl9' := pickK_len hi9' (by assumption)); (have hq59' := pickJ_size hi9' hpl9'); (try k_lt l1); (try k_sweep)))
  (k_with "binaryOp Add ref ref" => (k_here; k_dflt (refine' lst_catI ?qFq ?qNq ?qaq ?qbq ?qiq ?qjq ?qyq ?qzq ?_; (case qFq => k_asm); (case qNq => k_asm); (case qaq => k_mem); (case qbq => k_mem); (case qiq => assumption); (case qjq => assumption); (case qyq => omega); (case qzq => exact fill_le)); intro D' h' js' c' F' N' l1 hi9'; (obtain ⟨ds9', hi9', hdl9', hdd9', hda9'⟩ := draws_of hi9' (by assumption) (by assumption)); (try k_lt l1); (try k_sweep)))
  k_fill
  intro hl B F X N T hk hd9 hu ret
  refine wpAny_call ?_
  k_dflt (k_extra "enterC")
  k_steps
  all_goals (refine' ret _ _ _ _ _ _ ?F9 ?N9 ?i9 ?t9 ?a9 ?b9; (case F9 => k_asm); (case N9 => (refine' news_sub ?nn9 ?ns9; (case nn9 => k_asm); (case ns9 => intro p hp; rcases List.mem_cons.mp hp with hp | hp; (focus (rw [hp]; k_mem)); (focus (rw [List.mem_singleton.mp hp]; k_mem))))); (case i9 => assumption); (case t9 => assumption); (case a9 => omega); (case b9 => omega))

end Mine
end

section
local macro_rules | `(tactic| omega) => `(tactic| lia)
open PySem PySem.W PyProof.Rows PySem.Calls PySem.Spec
set_option Elab.async false
set_option maxRecDepth 100000
set_option maxHeartbeats 4000000
namespace Mine
theorem reads_strs {h : Heap} : ∀ {vs : List Value} {xs : List Str}, StrsAre vs xs → ReadsAll h vs (xs.map PyData.str) []
  | _, _, .nil => .nil
  | _, _, .cons n t r => .cons (as := []) (bs := []) (.str n t) (reads_strs r)
theorem lay_strs : ∀ xs : List Str, (∀ x ∈ xs, PyData.strOk x = true) → PyData.canLayAll0 (xs.map PyData.str) = true
  | [], _ => rfl
  | a :: r, h => by simp [PyData.canLayAll0, PyData.canLay0, h a (.head _), lay_strs r fun x m => h x (.tail _ m)]
theorem depth_strs : ∀ xs : List Str, PyData.depthAll (xs.map PyData.str) = 0
  | [] => rfl
  | _ :: r => by simp [PyData.depthAll, PyData.depth, depth_strs r]
theorem shaped_strs (xs : List Str) (h : ∀ x ∈ xs, PyData.strOk x = true) : SeqAt.shaped (.list (xs.map PyData.str)) = true := by
  simp [SeqAt.shaped, PyData.canLay0, PyData.depth, lay_strs xs h, depth_strs]
theorem eqv_strs : ∀ xs ys : List Str, PyData.eqvAll (xs.map PyData.str) (ys.map PyData.str) = decide (xs = ys)
  | [], [] => by simp [PyData.eqvAll]
  | [], _ :: _ => by simp [PyData.eqvAll]
  | _ :: _, [] => by simp [PyData.eqvAll]
  | a :: r, b :: t => by
    simp only [List.map_cons, PyData.eqvAll, PyData.eqv, eqv_strs r t]
    by_cases h : a = b <;> simp [h]
section
variable {prog : Program} {w : World} {A : Around} {E : Value → Shared → Prop} {s : Shared} {h₀ : Heap} {L : Addr} {news : List (Addr × Obj)} {l l2 : Addr} {its its2 : Array Value} {c c2 : Nat} {Q : Value → Shared → Prop}
theorem ne_strs {xs ys : List Str} (N : News h₀ L s.heap news) (h1 : (l, PySem.W.listOf its c) ∈ news) (T1 : StrsAre its.toList xs) (h2 : (l2, PySem.W.listOf its2 c2) ∈ news) (T2 : StrsAre its2.toList ys) (o1 : ∀ x ∈ xs, PyData.strOk x = true) (o2 : ∀ x ∈ ys, PyData.strOk x = true) (hu : A.units + 64 < cLine) (h : Q (.bool (!decide (xs = ys))) s) :
    wpAny (model prog w) A (compareOp .NotEq (.ref l) (.ref l2)) Q E s :=
  ne_dataH (.list (N _ h1).1 rfl rfl (reads_strs T1)) (.list (N _ h2).1 rfl rfl (reads_strs T2)) (shaped_strs _ o1) (shaped_strs _ o2) hu (by
    have e : PyData.eqv (.list (xs.map PyData.str)) (.list (ys.map PyData.str)) = decide (xs = ys) := by
      simp only [PyData.eqv, eqv_strs]
    rw [e]; exact h)
end
section
variable {prog : Program} {w : World} {A : Around} {E : Value → Shared → Prop} {s : Shared} {env : Env} {h₀ : Heap} {x : Str} {px : Pos} {body : List Stmt} {Q : Flow → Shared → Prop}
/-- a turn's end in the law -/
noncomputable def LZ (h₀ : Heap) (L : Addr) (x y : Str) (m₀ : Str → Option Value) (base : List (Addr × Obj)) (I : Addr) (o : Obj) (s : Shared) (f : Flow) (s₂ : Shared) : Prop :=
  f = .next ∧ ∃ m' ps, s₂.os = s.os ∧ AllBare s₂.gens ∧ TriplesOk ps.toList ∧ Fr h₀ L s₂.heap m' ∧ News h₀ L s₂.heap ((I, o) :: (146, tabO ps) :: base) ∧ ∀ z, z ≠ x → z ≠ y → m' z = m₀ z
theorem law_iter {r : Addr} {n : Nat} {b : Int} {t u v : Tok} {m₀ : Str → Option Value} {base : List (Addr × Obj)} {ps : Array Value} (y : Str)
    (hh : A.handled = none) (hr : IsRange s.heap r 1 b 1 t u v) (hn : b = (n : Int) + 1) (hsm : n ≤ 1000) (hx : env.kindOf x = some .local) (hp : (env.scope.kind == .class || (env.scope.kind == .module && env.locals != env.globals)) = false)
    (F : Fr h₀ env.locals s.heap m₀) (N : News h₀ env.locals s.heap ((146, tabO ps) :: base)) (hG : AllBare s.gens) (hps : TriplesOk ps.toList)
    (turn : ∀ (i : Nat) u (z : Option Value) ps I o (s₁ : Shared), i < n → s₁.os = s.os → AllBare s₁.gens → TriplesOk ps.toList → (∀ qs, o ≠ tabO qs) →
      Fr h₀ env.locals s₁.heap (fun k => if k = x then some (.int (1 + (i : Int)) u) else if k = y then z else m₀ k) → News h₀ env.locals s₁.heap ((I, o) :: (146, tabO ps) :: base) →
      wpAny (model prog w) A (execs body env) (LZ h₀ env.locals x y m₀ base I o s) E s₁)
    (done : ∀ z₁ z₂ ps (s₁ : Shared), s₁.os = s.os → AllBare s₁.gens → TriplesOk ps.toList → Fr h₀ env.locals s₁.heap (fun k => if k = x then z₁ else if k = y then z₂ else m₀ k) → News h₀ env.locals s₁.heap ((146, tabO ps) :: base) → Q .next s₁)
    (hE : PassesOwn (model prog w) A env E := by passes_own) :
    wpAny (model prog w) A (pyIter (.ref r)) (fun it s₂ => codeAny (model prog w) A (.forLoop (.Name x px) it body [] env) (fun r s' => match r with | .ok f => Q f s' | .error e => cameBackBy (model prog w) A env E e s') s₂) E s := by
  subst hn
  have hsmall : Builtin.Range.small 1 ((n : Int) + 1) 1 = true := small_one (by omega) (by omega) (by omega) (by omega)
  have hsz : Builtin.Range.rangeSize 1 ((n : Int) + 1) 1 = (n : Int) := by
    unfold Builtin.Range.rangeSize
    rw [if_pos (by decide), Int.ediv_one]
    split <;> omega
  refine wpAny_pyIter_range hr hsmall ?_
  have hI₀ := next_is_new F
  have hLI : env.locals ≠ s.heap.objs.size := Nat.ne_of_lt F.ns.lt
  have hb : ∀ p ∈ base, p.1 ≠ s.heap.objs.size := fun p hp => Nat.ne_of_lt (Heap.lt_size (N p (.tail _ hp)).1)
  have h146 : (146 : Addr) ≠ s.heap.objs.size := Nat.ne_of_lt (Heap.lt_size (N _ (.head _)).1)
  have W := Walks.range (prog := prog) (w := w) hh s.heap.objs.size 1 1 n
  refine codeAny_forLoop
    (fun k s' => ∃ m' ps i, s'.os = s.os ∧ AllBare s'.gens ∧ TriplesOk ps.toList ∧ IsRangeIter s'.heap s.heap.objs.size (1 + ((i : Nat) : Int) * 1) ((n : Int) - ((i : Nat) : Int)) 1 ∧ Fr h₀ env.locals s'.heap m' ∧ News h₀ env.locals s'.heap ((146, tabO ps) :: base) ∧ (∀ z, z ≠ x → z ≠ y → m' z = m₀ z) ∧ i ≤ n ∧ k = n + 1 - i) ?_ (n + 1)
    ⟨m₀, ps, 0, rfl, hG, hps, ?_, F.push _, (fun p hp => ⟨Heap.get?_push_of_some _ (N p hp).1, (N p hp).2⟩), (fun _ _ _ => rfl), Nat.zero_le _, rfl⟩
  · rintro k s' ⟨m', ps', i, ho, hg, hps', hst, F', N', hJ, hi, rfl⟩
    have hne : ∀ p ∈ (146, tabO ps') :: base, p.1 ≠ s.heap.objs.size := fun p hp => by
      rcases List.mem_cons.mp hp with rfl | hp
      · exact h146
      · exact hb p hp
    have next : ∀ h₁ : Heap, (∀ b o, b ∉ [s.heap.objs.size] → s'.heap.get? b = some o → h₁.get? b = some o) → Fr h₀ env.locals h₁ m' ∧ News h₀ env.locals h₁ ((146, tabO ps') :: base) := fun h₁ hk₁ =>
      ⟨⟨F'.ns.at' fun o e => hk₁ _ o (by simpa using hLI) e, fun b o e => hk₁ b o (fun hb => by rw [List.mem_singleton.mp hb, hI₀] at e; cases e) (F'.keep b o e), F'.above⟩, fun p hp => ⟨hk₁ _ _ (by simpa using hne p hp) (N' p hp).1, (N' p hp).2⟩⟩
    by_cases hlt : i < n
    · refine W.item i _ _ _ hlt hst fun v h₁ tk₁ hP hst₁ hk₁ => ?_
      obtain ⟨t9, rfl⟩ := hP
      obtain ⟨F₁, N₁⟩ := next h₁ hk₁
      refine wpAny_assign_Name (wpAny_storeName_local hx F₁.ns (fun h₂ hn₂ hs₂ => ?_) hp)
      have F₂ := F₁.set hn₂ hs₂
      have hst₂ : IsRangeIter h₂ s.heap.objs.size (1 + ((i + 1 : Nat) : Int) * 1) ((n : Int) - ((i + 1 : Nat) : Int)) 1 := W.frame _ _ _ hst₁ fun b hb o e => (hs₂.2 b fun q => hLI (by rw [← q]; exact List.mem_singleton.mp hb)).trans e
      have e1 : (1 + (i : Int) * 1) = 1 + (i : Int) := by omega
      rw [e1] at F₂
      have N₂ : News h₀ env.locals h₂ ((s.heap.objs.size, _) :: (146, tabO ps') :: base) := fun p hp => by
        rcases List.mem_cons.mp hp with e | hp
        · rw [e]; exact ⟨hst₂, Ne.symm hLI, hI₀⟩
        · exact (N₁.set hs₂) p hp
      have em : (fun k => if k = x then some (Value.int (1 + (i : Int)) t9) else m' k) = fun k => if k = x then some (Value.int (1 + (i : Int)) t9) else if k = y then m' y else m₀ k := by
        funext k
        by_cases h1 : k = x
        · rw [if_pos h1, if_pos h1]
        · rw [if_neg h1, if_neg h1]
          by_cases h2 : k = y
          · rw [if_pos h2, h2]
          · rw [if_neg h2, hJ k h1 h2]
      rw [em] at F₂
      refine wpAny_passesOwn hE (wpAny_mono (turn i t9 _ ps' _ _ { s' with heap := h₂, toks := _ } hlt ho hg hps' (no_cls (by simp)) F₂ N₂) (fun f s₃ p9 => ?_) fun _ _ e => e)
      obtain ⟨rfl, m₃, ps₃, ho₃, hg₃, hps₃, F₃, N₃, hJ₃⟩ := p9
      exact ⟨n + 1 - (i + 1), by omega, m₃, ps₃, i + 1, ho₃, hg₃, hps₃, (N₃ _ (.head _)).1, F₃, (fun p hp => N₃ p (.tail _ hp)), hJ₃, hlt, rfl⟩
    · have hin : i = n := by omega
      subst hin
      refine W.done _ _ _ hst fun h₁ tk₁ hk₁ => wpAny_execs_nil ?_
      obtain ⟨F₁, N₁⟩ := next h₁ hk₁
      have em : m' = fun k => if k = x then m' x else if k = y then m' y else m₀ k := by
        funext k
        by_cases h1 : k = x
        · rw [if_pos h1, h1]
        · rw [if_neg h1]
          by_cases h2 : k = y
          · rw [if_pos h2, h2]
          · rw [if_neg h2, hJ k h1 h2]
      rw [em] at F₁
      exact done _ _ ps' { s' with heap := h₁, toks := tk₁ } ho hg hps' F₁ N₁
  · have e1 : (1 : Int) + ((0 : Nat) : Int) * 1 = 1 := by omega
    have e2 : (n : Int) - ((0 : Nat) : Int) = n := by omega
    rw [hsz, e1, e2]
    exact Heap.get?_push_size _ rfl
end
/-- what the ground was -/
theorem old_ghost {h₁ h' : Heap} {ps : Array Value} (hT : TabsAt tabsV h₁) (hk : ∀ b o, (ghostOf h₁ tabsV).get? b = some o → h'.get? b = some o) (h146 : h'.get? 146 = some (tabO ps)) : OldK h₁ h' := by
  have q := hT (150, 146) (.head _)
  refine ⟨fun b o e => ?_, fun b o e => ?_⟩
  · by_cases hb : b = 146
    · subst hb
      have e2 := q.2
      rw [e] at e2
      cases e2
      exact .inr (.inl ⟨(q.1.tab q.2).isCodeTable, rfl, #[], ps, rfl, by rw [Array.empty_append]; exact h146⟩)
    · exact .inl (hk b o (ghost_ne e (by simpa using hb)))
  · by_cases hb : b = 146
    · subst hb; exact ⟨_, h146⟩
    · exact ⟨o, hk b o (ghost_ne e (by simpa using hb))⟩
end Mine
end

section
local macro_rules | `(tactic| omega) => `(tactic| lia)
open PySem PySem.W PyProof.Rows PySem.Calls PySem.Spec
set_option Elab.async false
set_option maxRecDepth 100000
set_option maxHeartbeats 4000000
namespace Mine
noncomputable def NoTabs (base : List (Addr × Obj)) : Prop := ∀ p ∈ base, ∀ ps, p.2 ≠ tabO ps
theorem NoTabs.at' {base : List (Addr × Obj)} (h : NoTabs base) {p : Addr × Obj} (m : p ∈ base) : ∀ ps, p.2 ≠ tabO ps := h p m
section
variable {prog : Program} {w : World} {A : Around} {E : Value → Shared → Prop} {s : Shared} {env : Env} {h₀ : Heap} {x : Str} {px : Pos} {body : List Stmt} {Q : Flow → Shared → Prop}
open Classical in
theorem law_iter2 {r : Addr} {z9 : Int} {b : Int} {t u v : Tok} {m₀ : Str → Option Value} {nw : List (Addr × Obj)} {ps : Array Value} (y : Str)
    (hh : A.handled = none) (hr : IsRange s.heap r 1 b 1 t u v) (hz : b = z9) (hz1 : 1 ≤ z9) (hsm : z9 ≤ 1000) (hx : env.kindOf x = some .local) (hp : (env.scope.kind == .class || (env.scope.kind == .module && env.locals != env.globals)) = false)
    (F : Fr h₀ env.locals s.heap m₀) (N : News h₀ env.locals s.heap nw) (h146 : (146, tabO ps) ∈ nw) (hG : AllBare s.gens) (hps : TriplesOk ps.toList)
    (turn : ∀ base, Kept nw base → NoTabs base → ∀ (k : Int) u (z : Option Value) ps I o (s₁ : Shared), 1 ≤ k → k < z9 → s₁.os = s.os → AllBare s₁.gens → TriplesOk ps.toList → (∀ qs, o ≠ tabO qs) →
      Fr h₀ env.locals s₁.heap (fun j => if j = x then some (.int k u) else if j = y then z else m₀ j) → News h₀ env.locals s₁.heap ((I, o) :: (146, tabO ps) :: base) →
      wpAny (model prog w) A (execs body env) (LZ h₀ env.locals x y m₀ base I o s) E s₁)
    (done : ∀ base, Kept nw base → NoTabs base → ∀ z₁ z₂ ps (s₁ : Shared), s₁.os = s.os → AllBare s₁.gens → TriplesOk ps.toList → Fr h₀ env.locals s₁.heap (fun k => if k = x then z₁ else if k = y then z₂ else m₀ k) → News h₀ env.locals s₁.heap ((146, tabO ps) :: base) → Q .next s₁)
    (hE : PassesOwn (model prog w) A env E := by passes_own) :
    wpAny (model prog w) A (pyIter (.ref r)) (fun it s₂ => codeAny (model prog w) A (.forLoop (.Name x px) it body [] env) (fun r s' => match r with | .ok f => Q f s' | .error e => cameBackBy (model prog w) A env E e s') s₂) E s := by
  subst hz
  have hk : Kept nw (nw.filter fun p => decide (∀ ps, p.2 ≠ tabO ps)) := fun p hp hc => List.mem_filter.mpr ⟨hp, decide_eq_true hc⟩
  have hn : NoTabs (nw.filter fun p => decide (∀ ps, p.2 ≠ tabO ps)) := fun p hp => of_decide_eq_true (List.mem_filter.mp hp).2
  refine law_iter (n := (b - 1).toNat) (base := nw.filter fun p => decide (∀ ps, p.2 ≠ tabO ps)) (ps := ps) y hh hr (by omega) (by omega) hx hp F (fun p hp => ?_) hG hps ?_ ?_ hE
  · rcases List.mem_cons.mp hp with rfl | hp
    · exact N _ h146
    · exact N _ (List.mem_filter.mp hp).1
  · intro i u z ps I o s₁ hi ho hg hps hno F₁ N₁
    exact turn _ hk hn (1 + (i : Int)) u z ps I o s₁ (by omega) (by omega) ho hg hps hno F₁ N₁
  · intro z₁ z₂ ps s₁ ho hg hps F₁ N₁
    exact done _ hk hn z₁ z₂ ps s₁ ho hg hps F₁ N₁
theorem lz_end {h₀ : Heap} {L : Addr} {x y : Str} {m₀ m' : Str → Option Value} {base all : List (Addr × Obj)} {I : Addr} {o : Obj} {s s₂ : Shared} {ps : Array Value} (ho : s₂.os = s.os) (hg : AllBare s₂.gens) (hp : TriplesOk ps.toList) (F : Fr h₀ L s₂.heap m') (N : News h₀ L s₂.heap all)
    (i1 : (I, o) ∈ all) (i2 : (146, tabO ps) ∈ all) (i3 : ∀ p ∈ base, p ∈ all) (hm : ∀ z, z ≠ x → z ≠ y → m' z = m₀ z) : LZ h₀ L x y m₀ base I o s .next s₂ :=
  ⟨rfl, m', ps, ho, hg, hp, F, fun p h => by
    rcases List.mem_cons.mp h with rfl | h
    · exact N _ i1
    · rcases List.mem_cons.mp h with rfl | h
      · exact N _ i2
      · exact N _ (i3 p h), hm⟩
end
theorem labs_tab {xs : List Str} (h : ∀ x ∈ xs, x ∈ tabT) : Labs xs := fun x m => by
  have := h x m
  simp only [tabT, List.mem_cons, List.not_mem_nil, or_false] at this
  rcases this with rfl | rfl | rfl | rfl | rfl | rfl | rfl <;> exact ⟨by decide +kernel, by decide +kernel⟩
/-- a host's texts -/
noncomputable abbrev hostT (xs : List Str) : Str := Txt.join (Str.ofString ".") xs
noncomputable abbrev domT (xs : List Str) (k : Int) : Str := Str.ofString "." ++ Txt.join (Str.ofString ".") (pickT xs (some k) none)
noncomputable abbrev otherT (xs : List Str) : Str := Txt.join (Str.ofString ".") ((pickT xs none (some (-1))).reverse ++ pickT xs (some (-1)) none)
structure TurnFacts (xs : List Str) (k : Int) : Prop where
  m1 : udmL (Ls (hostT xs ++ Str.ofString "a")) (Ls (domT xs k)) = false
  m2 : udmL (Ls (Txt.upper (hostT xs))) (Ls (domT xs k)) = (domT xs k == hostT xs || !(figs xs))
  m3 : dmL (Ls (Txt.upper (hostT xs))) (Ls (domT xs k)) = (domT xs k == hostT xs || (!(figs xs) && (xs.getD 0 Str.empty != Str.ofString "") && (lastT xs != Str.ofString "") && (xs.getD k.toNat Str.empty != Str.ofString "")))
  i2 : ∃ mx, Most xs mx ∧ longW (hostT xs) = mx ∧ witW (domT xs k) (hostT xs) = (ksL 1 (sizeP k xs) (mx + 1).toNat).map (dueF (hostT xs) (domT xs k))
  i3 : lessW (LW (domT xs k)) (LW (hostT xs)) = decide (1 < k)
  i4 : eqW (LW (domT xs k)) (LW (hostT xs)) = (domT xs k == hostT xs)
  i5 : lessW (LW (Txt.join (Str.ofString ".") (pickT xs none (some k)))) (LW (hostT xs)) = true
  w1 : LevIs (Ls (hostT xs)) (Ls (domT xs k)) (2 * (((hostT xs).length : Int) - (domT xs k).length))
  w2 : LevIs (Ls (Txt.upper (hostT xs))) (Ls (domT xs k)) (2 * (((hostT xs).length : Int) - (domT xs k).length) + (letL (Ls (domT xs k)) : Int))
  w3 : LevIs (Ls (Txt.join (Str.ofString ".") (pickT xs none (some k)))) (Ls (hostT xs)) (2 * (((hostT xs).length : Int) - (Txt.join (Str.ofString ".") (pickT xs none (some k))).length))
structure Facts (xs : List Str) : Prop where
  turn : ∀ k : Int, 1 ≤ k → k < xs.length → TurnFacts xs k
  hdn : hdnL (Ls (hostT xs)) = (!([Str.ofString "", Str.ofString "7", Str.ofString "70"].any fun z => z == lastT xs) && (xs.getD 0 Str.empty != Str.ofString ""))
  peel : peels (Ls (hostT xs)) xs.length = leftL xs.length xs
  b1 : eqW (LW (Txt.join (Str.ofString ".") xs.reverse)) (LW (hostT xs)) = (((xs.getD 0 Str.empty).length : Int) == ((lastT xs).length : Int))
  b2 : lessW (LW (hostT xs)) (LW (hostT xs ++ Str.ofString "a")) = true
  b3 : eqW (LW (hostT xs)) (LW (hostT xs ++ Str.ofString "a")) = false
  b4 : lessW (LW (Txt.mul (Str.ofString ".") (xs.length - 1))) (LW (Txt.join (Str.ofString "") xs)) = false
  b5 : lessW (LW (Txt.join (Str.ofString "") xs)) (LW (Txt.mul (Str.ofString ".") (xs.length - 1))) = decide ((Txt.join (Str.ofString "") xs).length < (xs.length : Int) - 1)
  oe : eqW (LW (otherT xs)) (LW (hostT xs)) = true
  ou : udmL (Ls (Txt.upper (otherT xs))) (Ls (hostT xs)) = (otherT xs == hostT xs)
theorem sg_lab {x : Str} (h : Lab x) : ∀ c ∈ Ls x, Sg c := fun c m => .inr (h.2 c m)
theorem sg_joinL {sep : List Nat} (hs : ∀ c ∈ sep, Sg c) : ∀ (ts : List (List Nat)), (∀ t ∈ ts, ∀ c ∈ t, Sg c) → ∀ c ∈ joinL sep ts, Sg c
  | [], _, _, m => nomatch m
  | [x], h, c, m => h x (.head _) c m
  | x :: y :: r, h, c, m => by
    rw [joinL] at m
    rcases List.mem_append.mp m with m | m
    · rcases List.mem_append.mp m with m | m
      · exact h x (.head _) c m
      · exact hs c m
    · exact sg_joinL hs (y :: r) (fun t ht => h t (.tail _ ht)) c m
theorem dom_sg {xs : List Str} (h : Labs xs) (k : Int) : ∀ c ∈ Ls (domT xs k), Sg c := by
  rw [L_app, L_dot, L_join, L_dot]
  intro c m
  rcases List.mem_append.mp m with m | m
  · rw [List.mem_singleton.mp m]; exact .inl rfl
  · refine sg_joinL (fun c m => by rw [List.mem_singleton.mp m]; exact .inl rfl) _ (fun t ht => ?_) c m
    obtain ⟨z, hz, rfl⟩ := List.mem_map.mp ht
    exact sg_lab (h.pick (some k) none z hz)
theorem dom_len {xs : List Str} (h : Labs xs) (h4 : xs.length ≤ 4) (k : Int) : (domT xs k).length ≤ 17 := by
  have := (join_ho (h.pick (some k) none) (Nat.le_trans (pick_len xs _ _) h4)).1
  rw [len_L, L_app, List.length_append, L_dot, ← len_L]
  simp only [List.length_cons, List.length_nil]
  omega
theorem dom_tx {xs : List Str} (h : Labs xs) (h4 : xs.length ≤ 4) (k : Int) : Tx (domT xs k) := app_tx dot_ho (join_ho (h.pick (some k) none) (Nat.le_trans (pick_len xs _ _) h4))
theorem host_ho {xs : List Str} (h : Labs xs) (h4 : xs.length ≤ 4) : Ho (hostT xs) := join_ho h h4
theorem other_ho {xs : List Str} (h : Labs xs) (h4 : xs.length ≤ 4) : Ho (otherT xs) := by
  refine join_ho ((h.pick _ _).rev.app (h.pick _ _)) ?_
  rw [List.length_append, List.length_reverse]
  unfold pickT kms_lo kms_hi
  simp only [List.length_take, List.length_drop, show ((-1 : Int) < 0) = True by decide, if_true]
  omega
theorem strOk_tx {x : Str} (h : Tx x) : PyData.strOk x = true := by
  unfold PyData.strOk
  rw [← Array.all_toList, List.all_eq_true]
  intro c hc
  exact decide_eq_true (Nat.lt_trans (h.2 c hc).1 (by decide))
theorem peels_ok {l : List Nat} (h : Tx (tx l)) (n : Nat) : ∀ z ∈ peels l n, PyData.strOk z = true := fun z hz => by
  unfold peels at hz
  obtain ⟨k, _, rfl⟩ := List.mem_map.mp hz
  exact strOk_tx (peelN_tx h (k + 1))
end Mine
end

section
open PySem PySem.W PyProof.Rows PySem.Calls PySem.Spec
set_option Elab.async false
set_option maxRecDepth 100000
set_option maxHeartbeats 4000000
namespace Mine
theorem law_post (ns : List Int) : PySem.Challenge.rw_xe0049_01.row.claim.post [ofPy (PyData.list (ns.map PyData.int))] (ofPy (.bool true)) [ofPy (PyData.list (ns.map PyData.int))] = true := by
  first
  | rfl
  | exact postW_of (by wrow_shape) (by wtm_val) (by first | done | w_fin)
  | simp [OpenLaw.row]
theorem law_end {cl : Str → Option Addr} {mean : ExcName → Option Value} {ns : List Int} {s₁ s' : Shared} {L : Addr} {m : Str → Option Value} {nw : List (Addr × Obj)} {ps : Array Value} (hT : TabsAt tabsV s₁.heap) (F : Fr (ghostOf s₁.heap tabsV) L s'.heap m) (N : News (ghostOf s₁.heap tabsV) L s'.heap nw) (hm : (146, tabO ps) ∈ nw) (hg : AllBare s'.gens) (ho : s'.os = s₁.os) :
    GoodWG PySem.Challenge.rw_xe0049_01.row.claim cl mean [ofPy (PyData.list (ns.map PyData.int))] s₁ (.ok (.ret (.bool true))) s' := by
  refine ⟨.inl ⟨.bool true, ofPy (.bool true), [], rfl, fun x => ?_, readsW_of_reads (.bool true), ?_, fun _ => ⟨.nil, fun _ h => nomatch h⟩⟩, old_ghost hT F.keep (N _ hm).1, ho, hg⟩
  · rfl
  · exact law_post ns
theorem end_hdn {xs : List Str} (F : Facts xs) (h : (hdnL (Ls (Txt.join (Str.ofString ".") xs)) != ((![Str.ofString "", Str.ofString "7", Str.ofString "70"].any fun x => x == lastT xs) && xs.getD (Int.toNat 0) Str.empty != Str.ofString "")) = true) : False := by
  have e := F.hdn
  rw [show hdnL (Ls (Txt.join (Str.ofString ".") xs)) = _ from e] at h
  simp at h
theorem end_oe {xs : List Str} (F : Facts xs) (h : (eqW (LW (Txt.join (Str.ofString ".") ((pickT xs none (some (-1))).reverse ++ pickT xs (some (-1)) none))) (LW (Txt.join (Str.ofString ".") xs)) != true) = true) : False := by
  have e := F.oe
  rw [show eqW (LW (Txt.join (Str.ofString ".") ((pickT xs none (some (-1))).reverse ++ pickT xs (some (-1)) none))) (LW (Txt.join (Str.ofString ".") xs)) = true from e] at h
  exact absurd h (by decide)
theorem end_ou {xs : List Str} (F : Facts xs) : (udmL (Ls (Txt.upper (Txt.join (Str.ofString ".") ((pickT xs none (some (-1))).reverse ++ pickT xs (some (-1)) none)))) (Ls (Txt.join (Str.ofString ".") xs)) == (Txt.join (Str.ofString ".") ((pickT xs none (some (-1))).reverse ++ pickT xs (some (-1)) none) == Txt.join (Str.ofString ".") xs)) = true := by
  have e := F.ou
  rw [show udmL (Ls (Txt.upper (Txt.join (Str.ofString ".") ((pickT xs none (some (-1))).reverse ++ pickT xs (some (-1)) none)))) (Ls (Txt.join (Str.ofString ".") xs)) = _ from e]
  exact beq_self_eq_true _
end Mine
end

section
local macro_rules | `(tactic| omega) => `(tactic| lia)
open PySem PySem.W PyProof.Rows PySem.Calls
set_option Elab.async false
set_option maxRecDepth 100000
set_option maxHeartbeats 8000000
namespace Mine

theorem and_join {M : Model} {A : Around} {E : Value → Shared → Prop} {s : Shared} {b c : Bool} {e : List Expr} {p : Pos} {env : Env} {Q : Value → Shared → Prop} (cmp : ∀ Q' : Value → Shared → Prop, (∀ tk, Q' (.bool c) { s with toks := tk }) → wpAny M A (eval (Expr.BoolOp BoolOp.And e p) env) Q' E s) (h : ∀ tk, Q (.bool (b && c)) { s with toks := tk }) :
    if b = true then wpAny M A (eval (Expr.BoolOp BoolOp.And e p) env) Q E s else Q (.bool b) s := by
  cases b with
  | true => rw [if_pos rfl]; exact cmp Q h
  | false => rw [if_neg Bool.false_ne_true]; exact h s.toks
theorem other_len {xs : List Str} (h4 : xs.length ≤ 4) : ((pickT xs none (some (-1))).reverse ++ pickT xs (some (-1)) none).length ≤ 4 := by
  rw [List.length_append, List.length_reverse]
  unfold pickT kms_lo kms_hi
  simp only [List.length_take, List.length_drop, show ((-1 : Int) < 0) = True by decide, if_true]
  omega
theorem other_le {xs : List Str} (h : Labs xs) (h4 : xs.length ≤ 4) : (Txt.join (Str.ofString ".") ((pickT xs none (some (-1))).reverse ++ pickT xs (some (-1)) none)).length ≤ 16 := (other_ho h h4).1
theorem facts_of {xs : List Str} (h : ∀ xs, (∀ x ∈ xs, x ∈ tabT) → 2 ≤ xs.length → xs.length ≤ 4 → Facts xs) (a : ∀ x ∈ xs, x ∈ tabT) (b : 2 ≤ xs.length) (c : xs.length ≤ 4) : Facts xs := h xs a b c
theorem first_le {xs : List Str} (h : Labs xs) : (xs.getD (Int.toNat 0) Str.empty).length ≤ 3 := (h.getD _).1
theorem last_le {xs : List Str} (h : Labs xs) : (lastT xs).length ≤ 3 := (h.getD _).1
theorem dom_join {xs : List Str} (h : Labs xs) (h4 : xs.length ≤ 4) (k : Int) : (Txt.join (Str.ofString ".") (pickT xs (some k) none)).length ≤ 16 := (join_ho (h.pick (some k) none) (Nat.le_trans (pick_len xs _ _) h4)).1



theorem law_holds (facts : ∀ xs, (∀ x ∈ xs, x ∈ tabT) → 2 ≤ xs.length → xs.length ≤ 4 → Facts xs) : PySem.Challenge.rw_xe0049_01.Holds := hd (by
  k_with_none
  (k_with "exec Assign" => k_fold)
  (k_with "exec If" => k_fold)
  (k_with "exec While" => k_fold)
  (k_with "exec For" => k_fold)
  (k_with "storeName" => (k_here; k_dflt ((refine' storeM ?qFq ?qNq ?_ ?qaq ?qbq; (case qFq => k_asm); (case qNq => k_asm); (case qaq => rfl); (case qbq => rfl); k_whole; intro h' tk m₁ F' N'; (try k_sweep)))))
  (k_with "ho7" => first | (refine (if_neg (by assumption)).trans ?_; (k_extra "ho7")) | exact rfl)
  (k_with "tx" => first | with_reducible assumption | with_reducible exact Tx.lower (by k_extra "tx") | with_reducible exact Tx.upper (by k_extra "tx") | with_reducible exact Tx.slice (by k_extra "tx") _ _)
  (k_with "enter9" => (refine' code_m ?qk1q ?qk2q ?qk3q ?qk4q ?qk5q ?qkAq ?qkFq ?qkKq ?qk6q ?qk7q ?qk8q ?qk9q ?qkBq ?_ ?qc2q ?qc3q ?qc4q ?qc5q; (case qkAq => exact rfl); (case qkFq => exact rfl); (case qkKq => first | exact rfl | assumption); (case qk1q => k_asm); (case qk2q => k_asm); (case qk3q => k_asm); (case qk4q => k_asm); (case qk5q => k_asm); (case qk6q => k_is); (case qk7q => k_is); (case qk8q => (first | omega | (dsimp only [Around.deeper, Around.in1, ktrTop]; omega) | ktr_room)); (case qk9q => first | exact BindsTo.of_eq rfl | exact binds_K (by k_in) rfl (by k_is) rfl rfl rfl); (case qc5q => decide); (case qkBq => exact locs rfl); (case qc2q => exact rfl); (case qc3q => exact rfl); (case qc4q => exact rfl); k_whole; intro g' L' h' tk' FG' m' F' N' B' X' T'; (try dsimp only); (try k_lift B'); (try k_fold)))
  (k_with "ho9" => (intro y9 a9 b9; simp only [List.forall_mem_cons, List.forall_mem_nil, and_true] at b9; simp only [bsM, a9, b9, if_false]))
  (k_with "ne9" => ((try simp only [AllNe, and_true, ne_eq] at *); first | assumption | trivial | grind))
  (k_with "labs" => first | with_reducible assumption | (with_reducible refine' Labs.pick ?_ _ _; (focus k_extra "labs")) | (with_reducible refine' Labs.rev ?_; (focus k_extra "labs")) | (with_reducible refine' Labs.app ?_ ?_; (focus k_extra "labs"); (focus k_extra "labs")))
  (k_with "len4" => first | omega | (have hp4 := pick_len; (try simp only [List.length_append, List.length_reverse]); first | (exact Nat.le_trans (pick_len _ _ _) (by with_reducible assumption)) | grind))
  (k_with "call builtin:len" => (k_here; (with_reducible show wpAny _ _ (call (Value.builtin "len") [Value.ref _]) _ _ _); k_dflt (refine' lst_len ?qNq ?qqq ?qiq ?qzq ?_; (case qNq => k_asm); (case qqq => k_mem); (case qiq => with_reducible assumption); (case qzq => k_extra "len4"); k_whole); intro _ _))
  (k_with "subscriptTail" => (k_here; (with_reducible show wpAny _ _ (subscriptTail _ _ (Value.ref _) (Value.int _ _)) _ _ _); k_dflt (refine' lst_item ?qNq ?qqq ?qiq ?qh0q ?qh1q ?qzq ?_ ?qhsq; (case qNq => k_asm); (case qqq => k_mem); (case qiq => with_reducible assumption); (case qh0q => omega); (case qh1q => omega); (case qzq => omega); (case qhsq => with_unfolding_all rfl); k_whole); intro _))
  (k_with "subscriptTail" => (k_here; (with_reducible show wpAny _ _ (subscriptTail _ _ (Value.ref _) (Value.int (-1) _)) _ _ _); k_dflt (refine' lst_last ?qNq ?qqq ?qiq ?qh0q ?_ ?qhsq; (case qNq => k_asm); (case qqq => k_mem); (case qiq => with_reducible assumption); (case qh0q => omega); (case qhsq => with_unfolding_all rfl); k_whole); intro _))
  (k_with "subscriptTail Name Slice ref ref" => (k_here; (with_reducible show wpAny _ _ (subscriptTail _ (PySem.Expr.Slice _ _ none _) (Value.ref _) (Value.ref _)) _ _ _); k_dflt (refine' lst_slice ?qFq ?qNq ?qlq ?qiq ?qpq ?qqq ?qzq ?_ ?qsq ?qtq; (case qFq => k_asm); (case qNq => k_asm); (case qlq => k_mem); (case qiq => with_reducible assumption); (case qpq => kmk_part); (case qqq => kmk_part); (case qzq => k_extra "len4"); (case qsq => with_unfolding_all rfl); (case qtq => kmk_pure)); intro D' h' js' c' F' N' l1 hi'; (try k_lt l1); (try k_sweep)))
  (k_with "subscriptTail Name Slice ref ref" => (k_here; (with_reducible show wpAny _ _ (subscriptTail _ (PySem.Expr.Slice none none (some _) _) (Value.ref _) (Value.ref _)) _ _ _); k_dflt (refine' lst_rev ?qFq ?qNq ?qlq ?qiq ?qpq ?qzq ?_ ?qsq ?qtq; (case qFq => k_asm); (case qNq => k_asm); (case qlq => k_mem); (case qiq => with_reducible assumption); (case qpq => kmk_part); (case qzq => k_extra "len4"); (case qsq => with_unfolding_all rfl); (case qtq => kmk_pure)); intro D' h' js' c' F' N' l1 hi'; (try k_lt l1); (try k_sweep)))
  (k_with "call builtin:str.join" => (k_here; (with_reducible show wpAny _ _ (call (Value.builtin "str.join") [Value.str _ _, Value.ref _]) _ _ _); k_dflt (refine' lst_join ?qNq ?qqq ?qiq ?qhLq ?qzq ?qhsq ?_; (case qNq => k_asm); (case qqq => k_mem); (case qiq => with_reducible assumption); (case qhLq => k_extra "labs"); (case qzq => k_extra "len4"); (case qhsq => decide); k_whole); intro _ _))
  (k_with "binaryOp Add ref ref" => (k_here; (with_reducible show wpAny _ _ (binaryOp _ (Value.ref _) (Value.ref _)) _ _ _); k_dflt (refine' lst_cat ?qFq ?qNq ?qaq ?qbq ?qiq ?qjq ?qyq ?qzq ?_; (case qFq => k_asm); (case qNq => k_asm); (case qaq => k_mem); (case qbq => k_mem); (case qiq => with_reducible assumption); (case qjq => with_reducible assumption); (case qyq => k_extra "len4"); (case qzq => k_extra "len4")); intro D' h' js' c' F' N' l1 hI'; (try k_lt l1); (try k_sweep)))
  (k_with "mm" => first | (with_reducible exact List.mem_cons_self) | (with_reducible assumption) | ((with_reducible refine List.mem_cons_of_mem _ ?_); (focus k_extra "mm")) | ((with_reducible refine List.mem_append_right _ ?_); (focus k_extra "mm")) | ((with_reducible refine SubL.mem (by assumption) ?_); (focus k_extra "mm")) | ((with_reducible refine Kept.mem (by assumption) ?_ ?_); rotate_left; (focus (k_extra "mm")); (focus (first | (with_reducible assumption) | (with_reducible exact NoTabs.at' (by assumption) (by assumption)) | exact no_cls (by intro h9; cases h9) | exact no_cell (by assumption)))))
  (k_with "k_mem9w" => (k_extra "mm"))
  (k_with "tx" => first | with_reducible assumption | (with_reducible exact Ho.tx (by assumption)) | (with_reducible refine' Tx.upper ?_; (focus k_extra "tx")) | (with_reducible refine' LW_tx ?_; (focus k_extra "tx")) | (with_reducible refine' app_tx ?_ a_ho; with_reducible assumption) | (with_reducible refine' labs_tx ?_ ?_; (focus k_extra "labs"); (focus k_extra "len4")) | (with_reducible refine' labs0_tx ?_ ?_; (focus k_extra "labs"); (focus k_extra "len4")) | (with_reducible refine' Ho.tx (dots_ho ?_); omega))
  (k_with "submem" => (intro p hp; repeat (first | (with_reducible exact hp) | (with_reducible refine List.mem_cons_of_mem _ ?_))))
  (k_with "wsat" => with_reducible first | assumption | (refine ws_tail ?_; (focus k_extra "wsat")) | (refine ws_right ?_; (focus k_extra "wsat")) | (refine SubL.ws (by assumption) ?_; (focus k_extra "wsat")) | (refine Kept.ws (by assumption) ?_; (focus k_extra "wsat")))
  (k_with "call ref" => (k_here; (with_reducible show wpAny _ _ (call (Value.ref 183) _) _ _ _); k_dflt (refine' Con.use (con_leadW _ _ ?qhxq _) ?qBq ?qFq ?qXq ?qNq ?qTq ?qhkq ?qh1q ?qh2q ?_; (case qFq => k_asm); (case qNq => k_asm); (case qhxq => k_extra "tx"); (case qBq => k_asm); (case qXq => k_asm); (case qTq => k_asm); (case qhkq => first | exact rfl | assumption); (case qh1q => (first | omega | (dsimp only [Around.deeper, Around.in1, ktrTop]; omega) | (dsimp only [Around.deeper, Around.in1, ktrTop, callerA]; decide))); (case qh2q => (first | omega | (dsimp only [Around.deeper, Around.in1, ktrTop]; omega) | (dsimp only [Around.deeper, Around.in1, ktrTop, callerA]; decide))); k_whole; intro a' d' tc' tn' vs' e' t' h' tk' F' N' hv' l1 l2 l3 l4 l5 l6 l7; (have hw9' := wsat_of N' hv'); (try k_sweep); (try dsimp only); (try k_fold))))
  (k_with "call ref" => (k_here; (with_reducible show wpAny _ _ (call (Value.ref 116) _) _ _ _); k_dflt (refine' Con.use (con_eqW _ _ _ _ ?qhxq ?qhyq _ ?qWq ?qVq) ?qBq ?qFq ?qXq ?qNq ?qTq ?qhkq ?qh1q ?qh2q ?_; (case qFq => k_asm); (case qNq => k_asm); (case qWq => k_extra "wsat"); (case qVq => k_extra "wsat"); (case qhxq => k_extra "tx"); (case qhyq => k_extra "tx"); (case qBq => k_asm); (case qXq => k_asm); (case qTq => k_asm); (case qhkq => first | exact rfl | assumption); (case qh1q => (first | omega | (dsimp only [Around.deeper, Around.in1, ktrTop]; omega) | (dsimp only [Around.deeper, Around.in1, ktrTop, callerA]; decide))); (case qh2q => (first | omega | (dsimp only [Around.deeper, Around.in1, ktrTop]; omega) | (dsimp only [Around.deeper, Around.in1, ktrTop, callerA]; decide))); k_whole; intro t' h' tk' F' N'; (try k_sweep); (try dsimp only); (try k_fold))))
  (k_with "call ref" => (k_here; (with_reducible show wpAny _ _ (call (Value.ref 130) _) _ _ _); k_dflt (refine' Con.use (con_lessW _ _ _ _ ?qhxq ?qhyq _ ?qWq ?qVq) ?qBq ?qFq ?qXq ?qNq ?qTq ?qhkq ?qh1q ?qh2q ?_; (case qFq => k_asm); (case qNq => k_asm); (case qWq => k_extra "wsat"); (case qVq => k_extra "wsat"); (case qhxq => k_extra "tx"); (case qhyq => k_extra "tx"); (case qBq => k_asm); (case qXq => k_asm); (case qTq => k_asm); (case qhkq => first | exact rfl | assumption); (case qh1q => (first | omega | (dsimp only [Around.deeper, Around.in1, ktrTop]; omega) | (dsimp only [Around.deeper, Around.in1, ktrTop, callerA]; decide))); (case qh2q => (first | omega | (dsimp only [Around.deeper, Around.in1, ktrTop]; omega) | (dsimp only [Around.deeper, Around.in1, ktrTop, callerA]; decide))); k_whole; intro t' h' tk' F' N'; (try k_sweep); (try dsimp only); (try k_fold))))
  (k_with "call ref" => (k_here; (with_reducible show wpAny _ _ (call (Value.ref 57) _) _ _ _); k_dflt (refine' Con.use (con_hdn _ _ ?qxq _) ?qBq ?qFq ?qXq ?qNq ?qTq ?qhkq ?qh1q ?qh2q ?_; (case qFq => k_asm); (case qNq => k_asm); (case qxq => k_extra "tx"); (case qBq => k_asm); (case qXq => k_asm); (case qTq => k_asm); (case qhkq => first | exact rfl | assumption); (case qh1q => (first | omega | (dsimp only [Around.deeper, Around.in1, ktrTop]; omega) | (dsimp only [Around.deeper, Around.in1, ktrTop, callerA]; decide))); (case qh2q => (first | omega | (dsimp only [Around.deeper, Around.in1, ktrTop]; omega) | (dsimp only [Around.deeper, Around.in1, ktrTop, callerA]; decide))); k_whole; intro t' h' tk' F' N'; (try k_sweep); (try dsimp only); (try k_fold))))
  (k_with "call ref" => (k_here; (with_reducible show wpAny _ _ (call (Value.ref 78) _) _ _ _); k_dflt (refine' Con.use (con_udm _ _ _ _ ?qhxq ?qhyq _) ?qBq ?qFq ?qXq ?qNq ?qTq ?qhkq ?qh1q ?qh2q ?_; (case qFq => k_asm); (case qNq => k_asm); (case qhxq => k_extra "tx"); (case qhyq => k_extra "tx"); (case qBq => k_asm); (case qXq => k_asm); (case qTq => k_asm); (case qhkq => first | exact rfl | assumption); (case qh1q => (first | omega | (dsimp only [Around.deeper, Around.in1, ktrTop]; omega) | (dsimp only [Around.deeper, Around.in1, ktrTop, callerA]; decide))); (case qh2q => (first | omega | (dsimp only [Around.deeper, Around.in1, ktrTop]; omega) | (dsimp only [Around.deeper, Around.in1, ktrTop, callerA]; decide))); k_whole; intro t' h' tk' F' N'; (try k_sweep); (try dsimp only); (try k_fold))))
  (k_with "call ref" => (k_here; (with_reducible show wpAny _ _ (call (Value.ref 204) _) _ _ _); k_dflt (refine' Con.use (con_leftN _ _ _ _ ?qhiq ?qhLq ?qg2q ?qg4q _ ?qhmq) ?qBq ?qFq ?qXq ?qNq ?qTq ?qhkq ?qh1q ?qh2q ?_; (case qFq => k_asm); (case qNq => k_asm); (case qhmq => k_mem); (case qhiq => with_reducible assumption); (case qhLq => with_reducible assumption); (case qg2q => with_reducible assumption); (case qg4q => with_reducible assumption); (case qBq => k_asm); (case qXq => k_asm); (case qTq => k_asm); (case qhkq => first | exact rfl | assumption); (case qh1q => (first | omega | (dsimp only [Around.deeper, Around.in1, ktrTop]; omega) | (dsimp only [Around.deeper, Around.in1, ktrTop, callerA]; decide))); (case qh2q => (first | omega | (dsimp only [Around.deeper, Around.in1, ktrTop]; omega) | (dsimp only [Around.deeper, Around.in1, ktrTop, callerA]; decide))); k_whole; intro l9' its9' k9' h' tk' F' N' hS9'; (try k_sweep); (try dsimp only); (try k_fold))))
  (k_with "call ref" => (k_here; (with_reducible show wpAny _ _ (call (Value.ref 211) _) _ _ _); k_dflt (refine' Con.use (con_mat _ _ _ _ _ ?qhxq ?qhyq _ _ _ _ _ ?qhiq ?qhLq ?qg2q ?qg4q ?qhk1q ?qhk2q ?qf1q ?qf2q ?qf3q _ ?qhmq) ?qBq ?qFq ?qXq ?qNq ?qTq ?qhkq ?qh1q ?qh2q ?_; (case qFq => k_asm); (case qNq => k_asm); (case qhmq => k_mem); (case qhiq => with_reducible assumption); (case qhxq => with_reducible assumption); (case qhyq => with_reducible assumption); (case qhLq => with_reducible assumption); (case qg2q => with_reducible assumption); (case qg4q => with_reducible assumption); (case qhk1q => with_reducible assumption); (case qhk2q => with_reducible assumption); (case qf1q => exact TurnFacts.m1 (by assumption)); (case qf2q => exact TurnFacts.m2 (by assumption)); (case qf3q => exact TurnFacts.m3 (by assumption)); (case qBq => k_asm); (case qXq => k_asm); (case qTq => k_asm); (case qhkq => first | exact rfl | assumption); (case qh1q => (first | omega | (dsimp only [Around.deeper, Around.in1, ktrTop]; omega) | (dsimp only [Around.deeper, Around.in1, ktrTop, callerA]; decide))); (case qh2q => (first | omega | (dsimp only [Around.deeper, Around.in1, ktrTop]; omega) | (dsimp only [Around.deeper, Around.in1, ktrTop, callerA]; decide))); k_whole; intro t' h' tk' F' N'; (try k_sweep); (try dsimp only); (try k_fold))))
  (k_with "call ref" => (k_here; (with_reducible show wpAny _ _ (call (Value.ref 228) _) _ _ _); k_dflt (refine' Con.use (con_ways _ _ _ _ _ ?qhxq ?qhyq ?qhy2q ?qhsgq _ _ _ _ _ ?qhiq ?qhLq ?qg2q ?qg4q ?qhk1q ?qhk2q ?qf1q ?qf2q ?qf3q _ ?qhmq) ?qBq ?qFq ?qXq ?qNq ?qTq ?qhkq ?qh1q ?qh2q ?_; (case qFq => k_asm); (case qNq => k_asm); (case qhmq => k_mem); (case qhiq => with_reducible assumption); (case qhxq => with_reducible assumption); (case qhyq => with_reducible assumption); (case qhy2q => with_reducible assumption); (case qhsgq => with_reducible assumption); (case qhLq => with_reducible assumption); (case qg2q => with_reducible assumption); (case qg4q => with_reducible assumption); (case qhk1q => with_reducible assumption); (case qhk2q => with_reducible assumption); (case qf1q => exact TurnFacts.w1 (by assumption)); (case qf2q => exact TurnFacts.w2 (by assumption)); (case qf3q => exact TurnFacts.w3 (by assumption)); (case qBq => k_asm); (case qXq => k_asm); (case qTq => k_asm); (case qhkq => first | exact rfl | assumption); (case qh1q => (first | omega | (dsimp only [Around.deeper, Around.in1, ktrTop]; omega) | (dsimp only [Around.deeper, Around.in1, ktrTop, callerA]; decide))); (case qh2q => (first | omega | (dsimp only [Around.deeper, Around.in1, ktrTop]; omega) | (dsimp only [Around.deeper, Around.in1, ktrTop, callerA]; decide))); k_whole; intro t' h' tk' F' N'; (try k_sweep); (try dsimp only); (try k_fold))))
  (k_with "call ref" => (k_here; (with_reducible show wpAny _ _ (call (Value.ref 223) _) _ _ _); k_dflt (refine' Con.use (con_beside _ _ _ _ _ _ _ ?qhxq ?qhiq ?qhLq ?qg2q ?qg4q ?qe1q ?qe2q ?qe3q ?qe4q ?qe5q _ ?qhmq ?qW0q) ?qBq ?qFq ?qXq ?qNq ?qTq ?qhkq ?qh1q ?qh2q ?_; (case qFq => k_asm); (case qNq => k_asm); (case qhmq => k_mem); (case qW0q => k_extra "wsat"); (case qhiq => with_reducible assumption); (case qhxq => with_reducible assumption); (case qhLq => with_reducible assumption); (case qg2q => with_reducible assumption); (case qg4q => with_reducible assumption); (case qe1q => exact Facts.b1 (by assumption)); (case qe2q => exact Facts.b2 (by assumption)); (case qe3q => exact Facts.b3 (by assumption)); (case qe4q => exact Facts.b4 (by assumption)); (case qe5q => exact Facts.b5 (by assumption)); (case qBq => k_asm); (case qXq => k_asm); (case qTq => k_asm); (case qhkq => first | exact rfl | assumption); (case qh1q => (first | omega | (dsimp only [Around.deeper, Around.in1, ktrTop]; omega) | (dsimp only [Around.deeper, Around.in1, ktrTop, callerA]; decide))); (case qh2q => (first | omega | (dsimp only [Around.deeper, Around.in1, ktrTop]; omega) | (dsimp only [Around.deeper, Around.in1, ktrTop, callerA]; decide))); k_whole; intro t' h' tk' F' N'; (try k_sweep); (try dsimp only); (try k_fold))))
  (k_with "call ref" => (k_here; (with_reducible show wpAny _ _ (call (Value.ref 216) _) _ _ _); k_dflt (refine' con_indents _ _ _ _ _ _ _ _ _ _ ?qhxq ?qhyq ?qhiq ?qhLq ?qh2q ?qh4q _ ?qhk1q ?qhk2q _ ?qf0q ?qf1q ?qf2q ?qf3q ?qf4q ?qf5q _ ?qhmq ?qW0q ?qBq ?qFq ?qXq ?qNq ?qh146q ?qhpsq ?qhGq ?qTq ?qhkq ?qh1q ?qh2xq ?_; (case qFq => k_asm); (case qNq => k_asm); (case qhmq => k_mem); (case qW0q => k_extra "wsat"); (case qhiq => with_reducible assumption); (case qhxq => with_reducible assumption); (case qhyq => with_reducible assumption); (case qhLq => with_reducible assumption); (case qh2q => with_reducible assumption); (case qh4q => with_reducible assumption); (case qhk1q => with_reducible assumption); (case qhk2q => with_reducible assumption); (case qf2q => with_reducible assumption); (case qf0q => with_reducible assumption); (case qf1q => with_reducible assumption); (case qf3q => exact TurnFacts.i3 (by assumption)); (case qf4q => exact TurnFacts.i4 (by assumption)); (case qf5q => exact TurnFacts.i5 (by assumption)); (case qh146q => k_mem); (case qhpsq => assumption); (case qhGq => assumption); (case qBq => k_asm); (case qXq => k_asm); (case qTq => k_asm); (case qhkq => first | exact rfl | assumption); (case qh1q => (first | omega | (dsimp only [Around.deeper, Around.in1, ktrTop, callerA]; decide))); (case qh2xq => (first | omega | (dsimp only [Around.deeper, Around.in1, ktrTop, callerA]; decide))); k_whole; intro t9' ps9' nx9' s9' hos9' hg9' hps9' F' N' h146' hkp9'; (try k_sweep); (try dsimp only); (try k_fold))))
  (k_with "call ref" => (k_here; (with_reducible show wpAny _ _ (call (Value.ref 178) _) _ _ _); k_dflt (refine' con_labels _ _ _ ?qhiq ?qhnq ?qhlq ?qBq ?qFq ?qXq ?qNq ?qTq ?qhkq ?qh1q ?qh2q ?_; (case qhlq => assumption); (case qhiq => assumption); (case qhnq => omega); (case qFq => k_asm); (case qNq => k_asm); (case qBq => k_asm); (case qXq => k_asm); (case qTq => k_asm); (case qhkq => first | exact rfl | assumption); (case qh1q => (first | omega | (dsimp only [Around.deeper, Around.in1, ktrTop, callerA]; decide))); (case qh2q => (first | omega | (dsimp only [Around.deeper, Around.in1, ktrTop, callerA]; decide))); k_whole; intro l9' its9' k9' xs9' h' tk' F' N' hi9' ht9' h29' h49'; (have hF9' := facts_of (by assumption) ht9' h29' h49'); (have hL9' := labs_tab ht9'); (have hon9' := other_len h49'); (have hh9' := host_ho hL9' h49'); (have hhl9' := hh9'.1); (have hoh9' := other_ho hL9' h49'); (have hol9' := other_le hL9' h49'); (have hht9' := hh9'.tx); (have hg09' := first_le hL9'); (have hg99' := last_le hL9'); (try k_sweep); (try dsimp only); (try k_fold))))
  (k_with "call ref" => (k_here; (with_reducible show wpAny _ _ (call (Value.ref 197) _) _ _ _); k_dflt (refine' con_peeled _ _ _ _ ?qhxq ?qhnq _ _ _ _ _ _ _ _ _ _ _ _ _ _ _ _ _ _ _ _ ?qXBq ?qTBq ?qBq ?qFq ?qXq ?qNq ?qTq ?qhkq ?qh1q ?qh2q ?_; (case qFq => k_asm); (case qNq => k_asm); (case qhxq => k_extra "tx"); (case qhnq => with_reducible assumption); (case qBq => k_asm); (case qXBq => k_asm); (case qTBq => k_asm); (case qXq => k_asm); (case qTq => k_asm); (case qhkq => first | exact rfl | assumption); (case qh1q => (first | omega | (dsimp only [Around.deeper, Around.in1, ktrTop, callerA]; decide))); (case qh2q => (first | omega | (dsimp only [Around.deeper, Around.in1, ktrTop, callerA]; decide))); k_whole; intro l9' its9' k9' h' tk' F' N' hS9'; (try k_sweep); (try dsimp only); (try k_fold))))
  (k_with "compareOp NotEq ref ref" => (k_here; k_dflt (refine' ne_strs ?qNq ?qh1q ?qT1q ?qh2q ?qT2q ?qo1q ?qo2q ?quq ?_; (case qNq => k_asm); (case qh1q => k_mem); (case qT1q => assumption); (case qh2q => k_mem); (case qT2q => assumption); (case qo1q => exact peels_ok (Ho.tx (by assumption)) _); (case qo2q => (rw [← Facts.peel (by assumption)]; exact peels_ok (Ho.tx (by assumption)) _)); (case quq => ((have hcL9 := cLine_is); dsimp only [Around.deeper, Around.in1, ktrTop, callerA]; omega)); k_whole)))
  (k_with "exec For Name Call cons nil" => (k_here; k_dflt (refine wpAny_For ?_); k_whole))
  (k_with "pyIter ref" => (k_here; k_dflt (refine' law_iter2 (Str.ofString "domain") ?qhhq ?qhrq ?qhzq ?qhz1q ?qhsmq ?qhxxq ?qhpq ?qFq ?qNq ?qh146q ?qhGq ?qhpsq ?qturnZq ?qdoneZq; (case qFq => k_asm); (case qNq => k_asm); (case qhhq => exact rfl); (case qhrq => assumption); (case qhzq => rfl); (case qhz1q => omega); (case qhsmq => omega); (case qhxxq => exact rfl); (case qhpq => exact rfl); (case qh146q => k_mem); (case qhGq => assumption); (case qhpsq => assumption)); (case' qturnZq => (intro base9' hkb9' hnt9' k9' u9' z9' ps9' I9' o9' s9' hk19' hk29' hos9' hg9' hps9' hno9' F' N'; (have hTF9' := Facts.turn (by assumption) _ hk19' hk29'); (obtain ⟨mx9', hi09', hi19', hi29'⟩ := TurnFacts.i2 hTF9'); (have hdt9' := dom_tx (by assumption) (by assumption) k9'); (have hdl9' := dom_len (by assumption) (by assumption) k9'); (have hds9' := dom_sg (by assumption) k9'); (have hdj9' := dom_join (by assumption) (by assumption) k9'); (try k_sweep); (try k_fold))); (case' qdoneZq => (intro base9' hkb9' hnt9' z9' z29' ps9' s9' hos9' hg9' hps9' F' N'; (try k_sweep); (try k_fold)))))
  (k_with "ite" => (k_here; k_dflt (refine' and_join ?qcmp9q ?_; (case qcmp9q => (intro Q9' hQ9'; (repeat' (first | walk1 | (dsimp only; walk1))); exact hQ9' _))); intro tk9'))
  (k_with "LZ" => (k_here; k_dflt (refine' lz_end ?qoq ?qgq ?qpq ?qFq ?qNq ?qi1q ?qi2q ?qi3q ?qhmq; (case qoq => first | assumption | exact Eq.trans (by assumption) (by assumption)); (case qgq => assumption); (case qpq => assumption); (case qFq => k_asm); (case qNq => k_asm); (case qi1q => k_mem); (case qi2q => k_mem); (case qi3q => (intro p hp; k_mem)); (case qhmq => (intro y a b; k_extra "ho7")))))
  lge_go0
  all_goals (rename LGe.Mark => lgeM9); clear lgeM9
  all_goals try k_fold
  (rename Top _ _ _ _ _ _ => T0); (rename Frag.In _ _ => X0); (rename Fr _ _ _ _ => F0); (rename News _ _ _ _ => N0); (rename Heap.IsList _ _ _ => hl0); (rename Shared.gens _ = #[] => hg0); (rename Below _ _ _ _ => K0)
  have hT9 := tabs_v T0 X0
  have X' := ghost_in hT9 X0
  have T' := ghost_vw T0 hT9
  have F' := ghost_fr hT9 F0
  have N' := ghost_news hT9 F0 N0
  have hl' := ghost_list hT9 hl0
  have B' := ghost_below hT9
  have hG9 := AllBare.of_eq hg0
  have hps9 : TriplesOk (#[] : Array Value).toList := True.intro
  simp only [tabNews, List.map_cons, List.map_nil, List.nil_append, List.cons_append] at N'
  clear K0
  clear N0 F0 X0 T0 hl0
  k_steps
  all_goals (try dsimp only)
  all_goals first
    | (exfalso; exact end_hdn (by assumption) (by assumption))
    | (exfalso; exact end_oe (by assumption) (by assumption))
    | (exfalso; exact absurd (Facts.peel (by assumption)) (by assumption))
    | (rw [end_ou (by assumption)]; refine' law_end hT9 ?F9 ?N9 ?m9 ?g9 ?o9; (case F9 => k_asm); (case N9 => k_asm); (case m9 => k_mem); (case g9 => assumption); (case o9 => assumption)))

end Mine
end

section
local macro_rules | `(tactic| omega) => `(tactic| lia)
open PySem PySem.W PyProof.Rows
set_option Elab.async false
set_option maxHeartbeats 1000000
namespace Mine
noncomputable def figN (l : List Nat) : Bool := l != [] && l.all Sre.isDigit
theorem srch_none : ∀ {l : List Nat}, 46 ∉ l → srchL l = none
  | [], _ => rfl
  | c :: r, h => by
    rw [srchL_cons, if_neg (fun q => h (by rw [q.1]; exact List.mem_cons_self)), srch_none fun m => h (List.mem_cons_of_mem _ m)]; rfl
theorem no_dig : Sre.isDigit 46 = false := by decide
theorem srch_skip : ∀ (p q : List Nat), srchL (p ++ 46 :: q) = (srchL (46 :: q)).map (· + p.length)
  | [], q => by simp
  | c :: p, q => by
    rw [List.cons_append, srchL_cons, if_neg (fun h => by
      have := List.all_eq_true.mp h.2.2 46 (by simp)
      rw [no_dig] at this; cases this), srch_skip p q, Option.map_map]
    congr 1
theorem srch_dot {p q : List Nat} (h : 46 ∉ q) : srchL (p ++ 46 :: q) = if figN q = true then some p.length else none := by
  rw [srch_skip, srchL_cons, srch_none h]
  unfold figN
  by_cases h1 : q ≠ [] ∧ q.all Sre.isDigit = true
  · rw [if_pos ⟨rfl, h1.1, h1.2⟩, if_pos (by simp [h1.1, h1.2])]; simp
  · rw [if_neg (fun z => h1 ⟨z.2.1, z.2.2⟩), if_neg (by
      intro z
      apply h1
      simpa using z)]; rfl
theorem joinL_app : ∀ {a b : List (List Nat)}, a ≠ [] → b ≠ [] → joinL [46] (a ++ b) = joinL [46] a ++ 46 :: joinL [46] b
  | [], _, h, _ => absurd rfl h
  | [x], [], _, h => absurd rfl h
  | [x], y :: r, _, _ => by simp [joinL]
  | x :: y :: r, b, _, hb => by
    have ih := joinL_app (a := y :: r) (b := b) (by simp) hb
    rw [List.cons_append, List.cons_append] at *
    rw [joinL, ih, joinL]
    simp
noncomputable abbrev lastN (ls : List (List Nat)) : List Nat := ls.getD (ls.length - 1) []
noncomputable abbrev firstN (ls : List (List Nat)) : List Nat := ls.getD 0 []
theorem split_last {ls : List (List Nat)} (h : ls ≠ []) : ls = ls.dropLast ++ [lastN ls] := by
  have e : lastN ls = ls.getLast h := by
    unfold lastN
    rw [List.getD_eq_getElem?_getD, List.getLast_eq_getElem, List.getElem?_eq_getElem (by have := List.length_pos_iff.mpr h; omega)]; rfl
  rw [e]; exact (List.dropLast_concat_getLast h).symm
theorem join_last {ls : List (List Nat)} (h : 2 ≤ ls.length) : joinL [46] ls = joinL [46] ls.dropLast ++ 46 :: lastN ls := by
  have hne : ls ≠ [] := by intro e; rw [e] at h; simp at h
  conv => lhs; rw [split_last hne]
  rw [joinL_app (by intro e; have := congrArg List.length e; simp at this; omega) (by simp)]
  rfl
theorem join_first {ls : List (List Nat)} (h : 2 ≤ ls.length) : joinL [46] ls = firstN ls ++ 46 :: joinL [46] (ls.drop 1) := by
  match ls, h with
  | x :: y :: r, _ => simp [joinL, firstN]
theorem mem_last {ls : List (List Nat)} (h : ls ≠ []) : lastN ls ∈ ls := by
  rw [split_last h] ; simp
theorem mem_first {ls : List (List Nat)} (h : ls ≠ []) : firstN ls ∈ ls := by
  cases ls with
  | nil => exact absurd rfl h
  | cons a r => simp [firstN]
noncomputable abbrev NoDot (ls : List (List Nat)) : Prop := ∀ l ∈ ls, 46 ∉ l
theorem srch_join {ls : List (List Nat)} (hN : NoDot ls) (h : ls ≠ []) : srchL (joinL [46] ls) = if 2 ≤ ls.length ∧ figN (lastN ls) = true then some (joinL [46] ls.dropLast).length else none := by
  by_cases h2 : 2 ≤ ls.length
  · rw [join_last h2, srch_dot (hN _ (mem_last h))]
    by_cases hf : figN (lastN ls) = true
    · rw [if_pos hf, if_pos ⟨h2, hf⟩]
    · rw [if_neg hf, if_neg fun z => hf z.2]
  · match ls, h with
    | [x], _ =>
      rw [if_neg fun z => h2 z.1]
      exact srch_none (hN x List.mem_cons_self)
    | x :: y :: r, _ => exact absurd (by simp) h2
theorem getD_last {p q : List Nat} (h : q ≠ []) : (p ++ q).getD ((p ++ q).length - 1) 0 = q.getD (q.length - 1) 0 := by
  have h1 : 0 < q.length := List.length_pos_iff.mpr h
  rw [List.getD_eq_getElem?_getD, List.getD_eq_getElem?_getD, List.length_append, List.getElem?_append_right (by omega)]
  congr 2; omega
theorem getD_ne {q : List Nat} (h : q ≠ []) (hd : 46 ∉ q) (i : Nat) (hi : i < q.length) : (q.getD i 0 == 46) = false := by
  rw [beq_eq_false_iff_ne]
  intro e
  rw [List.getD_eq_getElem?_getD, List.getElem?_eq_getElem hi] at e
  exact hd (e ▸ List.getElem_mem hi)
theorem some_join {ls : List (List Nat)} (hN : NoDot ls) (h : ls ≠ []) : (srchL (joinL [46] ls)).isSome = (decide (2 ≤ ls.length) && figN (lastN ls)) := by
  rw [srch_join hN h]
  by_cases h2 : 2 ≤ ls.length ∧ figN (lastN ls) = true
  · rw [if_pos h2, h2.2, decide_eq_true h2.1]; rfl
  · rw [if_neg h2]
    cases hf : figN (lastN ls) with
    | true =>
      have : ¬ 2 ≤ ls.length := fun z => h2 ⟨z, hf⟩
      rw [decide_eq_false this]; rfl
    | false => rw [Bool.and_false]; rfl
theorem first_dot {ls : List (List Nat)} (hN : NoDot ls) (h2 : 2 ≤ ls.length) : ((joinL [46] ls).getD 0 0 == 46) = (firstN ls == []) := by
  have h : ls ≠ [] := by intro e; rw [e] at h2; simp at h2
  have hd := hN _ (mem_first h)
  rw [join_first h2]
  revert hd
  generalize firstN ls = q
  intro hd
  cases q with
  | nil => rfl
  | cons c r =>
    show (c == 46) = false
    exact beq_eq_false_iff_ne.mpr fun e => hd (by rw [e]; exact List.mem_cons_self)
theorem last_dot {ls : List (List Nat)} (hN : NoDot ls) (h2 : 2 ≤ ls.length) : ((joinL [46] ls).getD ((joinL [46] ls).length - 1) 0 == 46) = (lastN ls == []) := by
  have h : ls ≠ [] := by intro e; rw [e] at h2; simp at h2
  have hd := hN _ (mem_last h)
  rw [join_last h2]
  revert hd
  generalize lastN ls = q
  intro hd
  by_cases hq : q = []
  · rw [hq, getD_last (by simp)]; rfl
  · rw [show joinL [46] ls.dropLast ++ 46 :: q = (joinL [46] ls.dropLast ++ [46]) ++ q by simp, getD_last hq, getD_ne hq hd _ (by have := List.length_pos_iff.mpr hq; omega)]
    exact (beq_eq_false_iff_ne.mpr hq).symm
theorem hdn_join {ls : List (List Nat)} (hN : NoDot ls) (h : ls ≠ []) : hdnL (joinL [46] ls) = (!(decide (2 ≤ ls.length) && figN (lastN ls)) && (firstN ls != []) && (lastN ls != [])) := by
  unfold hdnL
  rw [some_join hN h]
  by_cases h2 : 2 ≤ ls.length
  · have hne : (joinL [46] ls == []) = false := by rw [join_last h2, beq_eq_false_iff_ne]; simp
    rw [hne, first_dot hN h2, last_dot hN h2, decide_eq_true h2]
    generalize figN (lastN ls) = f
    unfold bne
    cases f <;> cases (firstN ls == []) <;> cases (lastN ls == []) <;> rfl
  · rw [decide_eq_false h2]
    match ls, h with
    | [x], _ =>
      have hx := hN x List.mem_cons_self
      show (if false = true then false else if (x == []) = true then false else if (x.getD 0 0 == 46 || x.getD (x.length - 1) 0 == 46) = true then false else true) = (true && (x != []) && (x != []))
      by_cases hq : x = []
      · subst hq; rfl
      · have hp := List.length_pos_iff.mpr hq
        rw [getD_ne hq hx 0 hp, getD_ne hq hx _ (by omega)]
        unfold bne
        rw [beq_eq_false_iff_ne.mpr hq]; rfl
    | x :: y :: r, _ => exact absurd (by simp) h2
theorem lhdn_join {ls : List (List Nat)} (hN : NoDot ls) (h : 2 ≤ ls.length) : lhdnL (joinL [46] ls) = !(figN (lastN ls)) := by
  have hne : ls ≠ [] := by intro e; rw [e] at h; simp at h
  unfold lhdnL
  rw [some_join hN hne, decide_eq_true h, Bool.true_and]
/-- a domain -/
theorem dom_join2 {ls : List (List Nat)} (h : ls ≠ []) : 46 :: joinL [46] ls = joinL [46] ([] :: ls) := by
  cases ls with
  | nil => exact absurd rfl h
  | cons x r => simp [joinL]
theorem last_drop {ls : List (List Nat)} {k : Nat} (h : k < ls.length) : lastN (ls.drop k) = lastN ls := by
  unfold lastN
  rw [List.getD_eq_getElem?_getD, List.getD_eq_getElem?_getD, List.length_drop, List.getElem?_drop]
  congr 2; omega
theorem last_cons {ls : List (List Nat)} (h : ls ≠ []) (x : List Nat) : lastN (x :: ls) = lastN ls := by
  have := List.length_pos_iff.mpr h
  unfold lastN
  rw [List.getD_eq_getElem?_getD, List.getD_eq_getElem?_getD, List.length_cons, show ls.length + 1 - 1 = (ls.length - 1) + 1 by omega, List.getElem?_cons_succ]
theorem host_split {ls : List (List Nat)} {k : Nat} (h1 : 1 ≤ k) (h : k < ls.length) : joinL [46] ls = joinL [46] (ls.take k) ++ 46 :: joinL [46] (ls.drop k) := by
  conv => lhs; rw [← List.take_append_drop k ls]
  exact joinL_app (by intro e; have := congrArg List.length e; rw [List.length_take] at this; simp only [List.length_nil] at this; omega) (by intro e; have := congrArg List.length e; rw [List.length_drop] at this; simp only [List.length_nil] at this; omega)
theorem sg_lo {c : Nat} (h : Sg c) : lo1 c = c := by rcases h with rfl | rfl | rfl | rfl | rfl <;> decide
theorem sg_loup {c : Nat} (h : Sg c) : lo1 (up1 c) = c := by rcases h with rfl | rfl | rfl | rfl | rfl <;> decide
theorem map_lo {l : List Nat} (h : ∀ c ∈ l, Sg c) : l.map lo1 = l := by
  conv => rhs; rw [← List.map_id l]
  exact List.map_congr_left fun c m => sg_lo (h c m)
theorem map_loup {l : List Nat} (h : ∀ c ∈ l, Sg c) : (l.map up1).map lo1 = l := by
  rw [List.map_map]
  conv => rhs; rw [← List.map_id l]
  exact List.map_congr_left fun c m => sg_loup (h c m)
theorem udm_val {a b A B : List Nat} (ea : a.map lo1 = A) (eb : b.map lo1 = B) : udmL a b = (if !(lhdnL A && lhdnL B) then A == B else if dotted B && tailOf A B then true else if !(dotted B) && A == B then true else false) := by
  unfold udmL; rw [ea, eb]
theorem rot : ∀ {c d : Nat} {t : List Nat}, c :: t = t ++ [d] → c = d
  | c, d, [], h => (List.cons.inj h).1
  | c, d, e :: t, h => by
    have h1 := List.cons.inj h
    rw [← h1.1] at h1
    exact rot h1.2
theorem text_m1 {P R : List Nat} (h : ∀ c ∈ P ++ 46 :: R, Sg c) : udmL ((P ++ 46 :: R) ++ [97]) (46 :: R) = false := by
  have ea : ((P ++ 46 :: R) ++ [97]).map lo1 = (P ++ 46 :: R) ++ [97] := map_lo fun c m => by
    rcases List.mem_append.mp m with m | m
    · exact h c m
    · rw [List.mem_singleton.mp m]; exact .inr (.inl rfl)
  have eb : (46 :: R).map lo1 = 46 :: R := map_lo fun c m => h c (List.mem_append_right _ m)
  have n1 : (((P ++ 46 :: R) ++ [97]) == (46 :: R)) = false := by
    rw [beq_eq_false_iff_ne]; intro e
    have := congrArg List.length e
    simp at this; omega
  have n2 : tailOf ((P ++ 46 :: R) ++ [97]) (46 :: R) = false := by
    unfold tailOf
    rw [Bool.eq_false_iff]
    intro hs
    have hs := List.isSuffixOf_iff_suffix.mp hs
    obtain ⟨p, hp⟩ := hs
    have e : p ++ 46 :: R = (P ++ [46]) ++ (R ++ [97]) := by rw [hp]; simp
    have e2 := congrArg List.length e
    simp at e2
    have e3 : (46 :: R) = R ++ [97] := (List.append_inj e (by simp; omega)).2
    exact absurd (rot e3) (by decide)
  rw [udm_val ea eb, n1, n2]
  simp [dotted]
theorem text_m2 {P R : List Nat} (h : ∀ c ∈ P ++ 46 :: R, Sg c) {f : Bool} (h1 : lhdnL (P ++ 46 :: R) = !f) (h2 : lhdnL (46 :: R) = !f) : udmL ((P ++ 46 :: R).map up1) (46 :: R) = ((46 :: R) == (P ++ 46 :: R) || !f) := by
  have eb : (46 :: R).map lo1 = 46 :: R := map_lo fun c m => h c (List.mem_append_right _ m)
  have hs : tailOf (P ++ 46 :: R) (46 :: R) = true := List.isSuffixOf_iff_suffix.mpr ⟨P, rfl⟩
  rw [udm_val (map_loup h) eb, h1, h2, hs]
  cases f with
  | true =>
    simp only [Bool.not_true, Bool.and_self, Bool.not_false, if_true, Bool.or_false]
    exact Bool.beq_comm
  | false => simp [dotted]
theorem text_m3 {P R : List Nat} (h : ∀ c ∈ P ++ 46 :: R, Sg c) : dmL ((P ++ 46 :: R).map up1) (46 :: R) = ((46 :: R) == (P ++ 46 :: R) || (hdnL (P ++ 46 :: R) && hdnL R)) := by
  have eb : (46 :: R).map lo1 = 46 :: R := map_lo fun c m => h c (List.mem_append_right _ m)
  unfold dmL
  rw [map_loup h, eb]
  by_cases hP : P = []
  · subst hP; simp
  · have hp := List.length_pos_iff.mpr hP
    have n1 : ((P ++ 46 :: R) == (46 :: R)) = false := by
      rw [beq_eq_false_iff_ne]; intro e
      have := congrArg List.length e
      rw [List.length_append] at this; omega
    have n1' : ((46 :: R) == (P ++ 46 :: R)) = false := by
      rw [beq_eq_false_iff_ne]; intro e
      have := congrArg List.length e
      rw [List.length_append] at this; omega
    have ho : occ1 (P ++ 46 :: R) (46 :: R) = true := by
      unfold occ1
      rw [List.any_eq_true]
      refine ⟨P.length - 1, List.mem_range.mpr (by simp; omega), ?_⟩
      rw [show P.length - 1 + 1 = P.length by omega, List.drop_left]
      exact List.isPrefixOf_iff_prefix.mpr (List.prefix_refl _)
    rw [n1, n1', ho]
    cases hdnL (P ++ 46 :: R) <;> cases hq : hdnL R <;> simp [dotted, hq]
theorem text_ou {O H : List Nat} (hO : ∀ c ∈ O, Sg c) (hH : ∀ c ∈ H, Sg c) (hl : O.length = H.length) (h : lhdnL O = lhdnL H) : udmL (O.map up1) H = (O == H) := by
  rw [udm_val (map_loup hO) (map_lo hH), h]
  have hs : tailOf O H = (O == H) := by
    unfold tailOf
    rw [Bool.eq_iff_iff, beq_iff_eq, List.isSuffixOf_iff_suffix]
    exact ⟨fun ⟨p, hp⟩ => by
      have := congrArg List.length hp
      simp at this
      have hp0 : p = [] := List.length_eq_zero_iff.mp (by omega)
      rw [hp0] at hp; exact hp.symm, fun e => by rw [e]; exact List.suffix_refl _⟩
  rw [hs]
  cases lhdnL H <;> cases hd : dotted H <;> cases he : (O == H) <;> simp [he]
theorem lhdn_perm {a b : List (List Nat)} (ha : NoDot a) (hb : NoDot b) (h2 : 2 ≤ a.length) (h3 : 2 ≤ b.length) (hl : lastN a = lastN b) : lhdnL (joinL [46] a) = lhdnL (joinL [46] b) := by
  rw [lhdn_join ha h2, lhdn_join hb h3, hl]
end Mine
end

section
local macro_rules | `(tactic| omega) => `(tactic| lia)
open PySem PySem.W PyProof.Rows
set_option Elab.async false
set_option maxHeartbeats 1000000
namespace Mine
theorem peelN_shift (l : List Nat) : ∀ k, peelN l (k + 1) = peelN (peel1 l) k
  | 0 => rfl
  | k + 1 => by
    show peel1 (peelN l (k + 1)) = peel1 (peelN (peel1 l) k)
    rw [peelN_shift l k]
theorem peels_cons (l : List Nat) (m : Nat) : peels l (m + 1) = tx (peel1 l) :: peels (peel1 l) m := by
  unfold peels
  rw [List.range_succ_eq_map, List.map_cons, List.map_map]
  congr 1
  exact List.map_congr_left fun k _ => by
    show tx (peelN l (k + 1 + 1)) = tx (peelN (peel1 l) (k + 1))
    rw [peelN_shift l (k + 1)]
theorem fail_peel : peel1 failL = failL := by
  unfold peel1
  rw [show srchL failL = none by decide +kernel]
theorem fail_all : ∀ m, peels failL m = leftL m []
  | 0 => rfl
  | m + 1 => by rw [peels_cons, fail_peel, fail_all m, left_nil]; rfl
theorem pick_from {xs : List Str} {k : Int} (h0 : 0 ≤ k) (h1 : k ≤ xs.length) : pickT xs (some k) none = xs.drop k.toNat := by
  unfold pickT kms_lo kms_hi
  simp only [if_neg (show ¬ k < 0 by omega)]
  rw [show min k.toNat xs.length = k.toNat by omega]
  exact List.take_of_length_le (by rw [List.length_drop]; omega)
theorem pick_to {xs : List Str} {k : Int} (h0 : 0 ≤ k) (h1 : k ≤ xs.length) : pickT xs none (some k) = xs.take k.toNat := by
  unfold pickT kms_lo kms_hi
  simp only [if_neg (show ¬ k < 0 by omega)]
  rw [show min k.toNat xs.length = k.toNat by omega, List.drop_zero, Nat.sub_zero]
theorem pick_front2 (xs : List Str) : pickT xs none (some (-1)) = xs.dropLast := by
  unfold pickT kms_lo kms_hi
  simp only [show ((-1 : Int) < 0) = True by decide, if_true, Int.neg_neg, Int.toNat_one]
  rw [List.drop_zero, Nat.sub_zero, List.dropLast_eq_take]
theorem pick_back (xs : List Str) : pickT xs (some (-1)) none = xs.drop (xs.length - 1) := by
  unfold pickT kms_lo kms_hi
  simp only [show ((-1 : Int) < 0) = True by decide, if_true, Int.neg_neg, Int.toNat_one]
  exact List.take_of_length_le (by rw [List.length_drop]; omega)
noncomputable abbrev lsOf (xs : List Str) : List (List Nat) := xs.map Ls
theorem lab_nodot {x : Str} (h : Lab x) : 46 ∉ Ls x := fun m => by
  rcases h.2 46 m with e | e | e | e <;> cases e
theorem ls_nodot {xs : List Str} (h : Labs xs) : NoDot (lsOf xs) := fun l m => by
  obtain ⟨x, hx, rfl⟩ := List.mem_map.mp m
  exact lab_nodot (h x hx)
theorem ls_getD (xs : List Str) (i : Nat) : (lsOf xs).getD i [] = Ls (xs.getD i Str.empty) := by
  rw [List.getD_eq_getElem?_getD, List.getD_eq_getElem?_getD, List.getElem?_map]
  cases xs[i]? <;> rfl
theorem ls_last (xs : List Str) : lastN (lsOf xs) = Ls (lastT xs) := by
  unfold lastN lastT
  rw [List.length_map]; exact ls_getD xs _
theorem ls_first (xs : List Str) : firstN (lsOf xs) = Ls (xs.getD 0 Str.empty) := ls_getD xs 0
theorem host_L (xs : List Str) : Ls (hostT xs) = joinL [46] (lsOf xs) := by rw [L_join, L_dot]
theorem fig_tab : ∀ z ∈ tabT, ([Str.ofString "7", Str.ofString "70"].any fun w => w == z) = figN (Ls z) := by decide +kernel
theorem tab_last {xs : List Str} (h : ∀ x ∈ xs, x ∈ tabT) (hn : xs ≠ []) : lastT xs ∈ tabT := by
  have hp := List.length_pos_iff.mpr hn
  refine h _ ?_
  unfold lastT
  rw [List.getD_eq_getElem?_getD, List.getElem?_eq_getElem (by omega)]
  exact List.getElem_mem _
theorem figs_N {xs : List Str} (h : ∀ x ∈ xs, x ∈ tabT) (hn : xs ≠ []) : figs xs = figN (lastN (lsOf xs)) := by
  rw [ls_last]; exact fig_tab _ (tab_last h hn)
theorem peel1_join {xs : List Str} (h : ∀ x ∈ xs, x ∈ tabT) (hn : xs ≠ []) : peel1 (joinL [46] (lsOf xs)) = if 1 < xs.length ∧ figs xs = true then joinL [46] (lsOf xs.dropLast) else failL := by
  have hN := ls_nodot (labs_tab h)
  have hne : lsOf xs ≠ [] := by simpa using hn
  unfold peel1
  rw [srch_join hN hne, ← figs_N h hn, List.length_map]
  by_cases h2 : 2 ≤ xs.length ∧ figs xs = true
  · rw [if_pos h2, if_pos (show 1 < xs.length ∧ figs xs = true from h2)]
    show List.take _ _ = _
    have e := join_last (ls := lsOf xs) (by rw [List.length_map]; exact h2.1)
    rw [e, List.take_left]
    show joinL [46] (xs.map Ls).dropLast = joinL [46] (xs.dropLast.map Ls)
    rw [List.map_dropLast]
  · rw [if_neg h2, if_neg (show ¬ (1 < xs.length ∧ figs xs = true) from h2)]
theorem peels_left : ∀ (m : Nat) (xs : List Str), (∀ x ∈ xs, x ∈ tabT) → xs ≠ [] → peels (joinL [46] (lsOf xs)) m = leftL m xs
  | 0, _, _, _ => rfl
  | m + 1, xs, h, hn => by
    rw [peels_cons, peel1_join h hn, leftL, pick_front2]
    by_cases h2 : 1 < xs.length ∧ figs xs = true
    · rw [if_pos h2, if_pos h2]
      have hd : ∀ x ∈ xs.dropLast, x ∈ tabT := fun x hx => h x (List.dropLast_subset _ hx)
      have hne : xs.dropLast ≠ [] := by
        intro e; have := congrArg List.length e
        rw [List.length_dropLast, List.length_nil] at this; omega
      rw [peels_left m _ hd hne]
      congr 1
      refine L_inj ?_
      rw [L_tx, L_join, L_dot]
    · rw [if_neg h2, if_neg h2, fail_all]; rfl
theorem bne_L (x y : Str) : (x != y) = (Ls x != Ls y) := by unfold bne; rw [beq_L]
theorem hdn_fact {xs : List Str} (h : ∀ x ∈ xs, x ∈ tabT) (h2 : 2 ≤ xs.length) : hdnL (Ls (hostT xs)) = (!([Str.ofString "", Str.ofString "7", Str.ofString "70"].any fun z => z == lastT xs) && (xs.getD 0 Str.empty != Str.ofString "")) := by
  have hn : xs ≠ [] := by intro e; rw [e] at h2; simp at h2
  rw [host_L, hdn_join (ls_nodot (labs_tab h)) (by simpa using hn), List.length_map, decide_eq_true h2, Bool.true_and, ls_last, ls_first, bne_L, L_none]
  have key : ∀ z ∈ tabT, (!([Str.ofString "", Str.ofString "7", Str.ofString "70"].any fun w => w == z)) = (!figN (Ls z) && (Ls z != [])) := by decide +kernel
  rw [key _ (tab_last h hn)]
  cases figN (Ls (lastT xs)) <;> cases (Ls (lastT xs) != []) <;> cases (Ls (xs.getD 0 Str.empty) != []) <;> rfl
section
variable {xs : List Str} {k : Int}
theorem dom_L (h1 : 1 ≤ k) (h2 : k < xs.length) : Ls (domT xs k) = 46 :: joinL [46] ((lsOf xs).drop k.toNat) := by
  rw [L_app, L_dot, L_join, L_dot, pick_from (by omega) (by omega), List.map_drop]; rfl
theorem front_L (h1 : 1 ≤ k) (h2 : k < xs.length) : Ls (Txt.join (Str.ofString ".") (pickT xs none (some k))) = joinL [46] ((lsOf xs).take k.toNat) := by
  rw [L_join, L_dot, pick_to (by omega) (by omega), List.map_take]
theorem host_dom (h1 : 1 ≤ k) (h2 : k < xs.length) : Ls (hostT xs) = joinL [46] ((lsOf xs).take k.toNat) ++ 46 :: joinL [46] ((lsOf xs).drop k.toNat) := by
  rw [host_L]; exact host_split (by omega) (by rw [List.length_map]; omega)
theorem host_sg (h : ∀ x ∈ xs, x ∈ tabT) : ∀ c ∈ Ls (hostT xs), Sg c := by
  rw [host_L]
  refine sg_joinL (fun c m => by rw [List.mem_singleton.mp m]; exact .inl rfl) _ fun t ht => ?_
  obtain ⟨z, hz, rfl⟩ := List.mem_map.mp ht
  exact sg_lab (labs_tab h z hz)
theorem host_ok (h : ∀ x ∈ xs, x ∈ tabT) : Ok (Ls (hostT xs)) := fun c m => by
  rcases host_sg h c m with rfl | rfl | rfl | rfl | rfl <;> decide
theorem lhdn_dom (h : ∀ x ∈ xs, x ∈ tabT) (h1 : 1 ≤ k) (h2 : k < xs.length) : lhdnL (46 :: joinL [46] ((lsOf xs).drop k.toNat)) = !(figs xs) := by
  have hN := ls_nodot (labs_tab h)
  have hn : xs ≠ [] := by intro e; rw [e] at h2; simp at h2; omega
  have hd : (lsOf xs).drop k.toNat ≠ [] := by
    intro e; have := congrArg List.length e
    rw [List.length_drop, List.length_map, List.length_nil] at this; omega
  rw [dom_join2 hd, lhdn_join (fun l m => by
    rcases List.mem_cons.mp m with rfl | m
    · exact List.not_mem_nil
    · exact hN l (List.mem_of_mem_drop m)) (by have := List.length_pos_iff.mpr hd; rw [List.length_cons]; omega), last_cons hd, last_drop (by rw [List.length_map]; omega), figs_N h hn]
theorem lhdn_host (h : ∀ x ∈ xs, x ∈ tabT) (h2 : 2 ≤ xs.length) : lhdnL (Ls (hostT xs)) = !(figs xs) := by
  have hn : xs ≠ [] := by intro e; rw [e] at h2; simp at h2
  rw [host_L, lhdn_join (ls_nodot (labs_tab h)) (by rw [List.length_map]; exact h2), figs_N h hn]
theorem fact_m1 (h : ∀ x ∈ xs, x ∈ tabT) (h1 : 1 ≤ k) (h2 : k < xs.length) : udmL (Ls (hostT xs ++ Str.ofString "a")) (Ls (domT xs k)) = false := by
  have hs := host_sg h
  rw [host_dom h1 h2] at hs
  rw [L_app, L_a, dom_L h1 h2, host_dom h1 h2]
  exact text_m1 hs
theorem fact_m2 (h : ∀ x ∈ xs, x ∈ tabT) (h1 : 1 ≤ k) (h2 : k < xs.length) : udmL (Ls (Txt.upper (hostT xs))) (Ls (domT xs k)) = (domT xs k == hostT xs || !(figs xs)) := by
  have hs := host_sg h
  have hl := lhdn_host h (by omega)
  rw [host_dom h1 h2] at hs hl
  rw [L_upper (host_ok h), beq_L, dom_L h1 h2, host_dom h1 h2]
  exact text_m2 hs hl (lhdn_dom h h1 h2)
theorem fact_m3 (h : ∀ x ∈ xs, x ∈ tabT) (h1 : 1 ≤ k) (h2 : k < xs.length) : dmL (Ls (Txt.upper (hostT xs))) (Ls (domT xs k)) = (domT xs k == hostT xs || (!(figs xs) && (xs.getD 0 Str.empty != Str.ofString "") && (lastT xs != Str.ofString "") && (xs.getD k.toNat Str.empty != Str.ofString ""))) := by
  have hs := host_sg h
  have hN := ls_nodot (labs_tab h)
  have hn : xs ≠ [] := by intro e; rw [e] at h2; simp at h2; omega
  have hd : (lsOf xs).drop k.toNat ≠ [] := by
    intro e; have := congrArg List.length e
    rw [List.length_drop, List.length_map, List.length_nil] at this; omega
  have e1 : hdnL (Ls (hostT xs)) = (!(figs xs) && (Ls (xs.getD 0 Str.empty) != []) && (Ls (lastT xs) != [])) := by
    rw [host_L, hdn_join hN (by simpa using hn), List.length_map, decide_eq_true (show 2 ≤ xs.length by omega), Bool.true_and, ← figs_N h hn, ls_last, ls_first]
  have e2 : hdnL (joinL [46] ((lsOf xs).drop k.toNat)) = (!(decide (2 ≤ ((lsOf xs).drop k.toNat).length) && figs xs) && (Ls (xs.getD k.toNat Str.empty) != []) && (Ls (lastT xs) != [])) := by
    rw [hdn_join (fun l m => hN l (List.mem_of_mem_drop m)) hd, last_drop (by rw [List.length_map]; omega), ← figs_N h hn, ls_last]
    have ef : firstN ((lsOf xs).drop k.toNat) = Ls (xs.getD k.toNat Str.empty) := by
      rw [← ls_getD]
      unfold firstN
      rw [List.getD_eq_getElem?_getD, List.getD_eq_getElem?_getD, List.getElem?_drop, Nat.add_zero]
    rw [ef]
  rw [host_dom h1 h2] at hs e1
  rw [L_upper (host_ok h), beq_L, bne_L, bne_L, bne_L, L_none, dom_L h1 h2, host_dom h1 h2, text_m3 hs, e1, e2]
  cases figs xs <;> cases (Ls (xs.getD 0 Str.empty) != []) <;> cases (Ls (lastT xs) != []) <;> cases (Ls (xs.getD k.toNat Str.empty) != []) <;> cases (decide (2 ≤ ((lsOf xs).drop k.toNat).length)) <;> rfl
theorem fact_w1 (h1 : 1 ≤ k) (h2 : k < xs.length) : LevIs (Ls (hostT xs)) (Ls (domT xs k)) (2 * (((hostT xs).length : Int) - (domT xs k).length)) := by
  have e := lev_tail (joinL [46] ((lsOf xs).take k.toNat)) (Ls (domT xs k))
  rw [dom_L h1 h2, ← host_dom h1 h2, ← dom_L h1 h2] at e
  have el : (2 * (((hostT xs).length : Int) - (domT xs k).length)) = 2 * ((joinL [46] ((lsOf xs).take k.toNat)).length : Int) := by
    rw [len_L, len_L, host_dom h1 h2, dom_L h1 h2, List.length_append]; omega
  rw [el]; exact e
theorem fact_w2 (h : ∀ x ∈ xs, x ∈ tabT) (h1 : 1 ≤ k) (h2 : k < xs.length) : LevIs (Ls (Txt.upper (hostT xs))) (Ls (domT xs k)) (2 * (((hostT xs).length : Int) - (domT xs k).length) + (letL (Ls (domT xs k)) : Int)) := by
  have hs := host_sg h
  rw [host_dom h1 h2] at hs
  have e := lev_up (joinL [46] ((lsOf xs).take k.toNat)) (Ls (domT xs k)) (fun c m => hs c (List.mem_append_right _ (by rw [← dom_L h1 h2]; exact m)))
  rw [dom_L h1 h2, ← host_dom h1 h2, ← dom_L h1 h2, ← L_upper (host_ok h)] at e
  have el : (2 * (((hostT xs).length : Int) - (domT xs k).length)) = 2 * ((joinL [46] ((lsOf xs).take k.toNat)).length : Int) := by
    rw [len_L, len_L, host_dom h1 h2, dom_L h1 h2, List.length_append]; omega
  rw [el]; exact e
theorem fact_w3 (h1 : 1 ≤ k) (h2 : k < xs.length) : LevIs (Ls (Txt.join (Str.ofString ".") (pickT xs none (some k)))) (Ls (hostT xs)) (2 * (((hostT xs).length : Int) - (Txt.join (Str.ofString ".") (pickT xs none (some k))).length)) := by
  have e := lev_head (joinL [46] ((lsOf xs).take k.toNat)) (46 :: joinL [46] ((lsOf xs).drop k.toNat))
  rw [← host_dom h1 h2, ← front_L h1 h2] at e
  have el : (2 * (((hostT xs).length : Int) - (Txt.join (Str.ofString ".") (pickT xs none (some k))).length)) = 2 * ((46 :: joinL [46] ((lsOf xs).drop k.toNat)).length : Int) := by
    rw [len_L, len_L, host_dom h1 h2, front_L h1 h2, List.length_append]; omega
  rw [el]; exact e
end
theorem joinL_length : ∀ {ls : List (List Nat)}, ls ≠ [] → (joinL [46] ls).length + 1 = (ls.map List.length).sum + ls.length
  | [x], _ => by simp [joinL]
  | x :: y :: r, _ => by
    have ih := joinL_length (ls := y :: r) (by simp)
    rw [joinL]
    simp only [List.length_append, List.map_cons, List.sum_cons, List.length_cons, List.length_nil] at *
    omega
theorem sum_rev (l : List Nat) : l.reverse.sum = l.sum := List.sum_reverse l
theorem other_L (xs : List Str) : Ls (otherT xs) = joinL [46] ((lsOf xs).dropLast.reverse ++ (lsOf xs).drop ((lsOf xs).length - 1)) := by
  rw [L_join, L_dot, pick_front2, pick_back, List.map_append, List.map_reverse, List.map_dropLast, List.map_drop, List.length_map]
theorem fact_ou {xs : List Str} (h : ∀ x ∈ xs, x ∈ tabT) (h2 : 2 ≤ xs.length) (h4 : xs.length ≤ 4) : udmL (Ls (Txt.upper (otherT xs))) (Ls (hostT xs)) = (otherT xs == hostT xs) := by
  have hN := ls_nodot (labs_tab h)
  have hn : lsOf xs ≠ [] := by intro e; have := congrArg List.length e; rw [List.length_map] at this; simp at this; rw [this] at h2; simp at h2
  have hd : (lsOf xs).drop ((lsOf xs).length - 1) = [lastN (lsOf xs)] := by
    conv => lhs; rw [split_last hn]
    rw [List.drop_append_of_le_length (by rw [List.length_append, List.length_dropLast]; simp), List.length_append, List.length_dropLast]
    simp
  have hno : NoDot ((lsOf xs).dropLast.reverse ++ [lastN (lsOf xs)]) := fun l m => by
    rcases List.mem_append.mp m with m | m
    · exact hN l (List.dropLast_subset _ (List.mem_reverse.mp m))
    · rw [List.mem_singleton.mp m]; exact hN _ (mem_last hn)
  have hlen : ((lsOf xs).dropLast.reverse ++ [lastN (lsOf xs)]).length = (lsOf xs).length := by
    rw [List.length_append, List.length_reverse, List.length_dropLast]
    have := List.length_pos_iff.mpr hn
    simp; omega
  have ho := other_ho (labs_tab h) h4
  rw [L_upper ho.2, beq_L, other_L, hd, host_L]
  refine text_ou ?_ (by rw [← host_L]; exact host_sg h) ?_ (lhdn_perm hno hN (by rw [hlen, List.length_map]; exact h2) (by rw [List.length_map]; exact h2) ?_)
  · refine sg_joinL (fun c m => by rw [List.mem_singleton.mp m]; exact .inl rfl) _ fun t ht => ?_
    have hm : t ∈ lsOf xs := by
      rcases List.mem_append.mp ht with m | m
      · exact List.dropLast_subset _ (List.mem_reverse.mp m)
      · rw [List.mem_singleton.mp m]; exact mem_last hn
    obtain ⟨z, hz, rfl⟩ := List.mem_map.mp hm
    exact sg_lab (labs_tab h z hz)
  · have e1 := joinL_length (ls := (lsOf xs).dropLast.reverse ++ [lastN (lsOf xs)]) (by simp)
    have e2 := joinL_length hn
    have e3 : (((lsOf xs).dropLast.reverse ++ [lastN (lsOf xs)]).map List.length).sum = ((lsOf xs).map List.length).sum := by
      conv => rhs; rw [split_last hn]
      rw [List.map_append, List.map_append, List.sum_append, List.sum_append, List.map_reverse, sum_rev]
    rw [hlen] at e1
    omega
  · rw [show lastN ((lsOf xs).dropLast.reverse ++ [lastN (lsOf xs)]) = lastN (lsOf xs) by
      unfold lastN
      rw [List.getD_eq_getElem?_getD, List.length_append, List.getElem?_append_right (by simp)]
      simp]
end Mine
end

section
open PySem PySem.W PyProof.Rows
set_option Elab.async false
set_option maxHeartbeats 1000000
namespace Mine
/-- a lead of labels by their lengths -/
noncomputable def leadN (ns : List Nat) : List Nat := joinL [9] (ns.map fun n => List.replicate n 32)
noncomputable def eqL (x y : List Nat) : Bool := ((wsL x).cnt == (wsL y).cnt && ((wsL x).b : Int) == ((wsL y).b : Int))
noncomputable def lessLL (x y : List Nat) : Bool := lessL x.length y.length (wsL x) (wsL y)
noncomputable def colTF (n : Int) (c : Int) (k : Nat) : Int := if k = 9 then c.fdiv n * n + n else c + 1
noncomputable def colT (n : Int) (l : List Nat) : Int := l.foldl (colTF n) 0
noncomputable def maxN (ns : List Nat) : Nat := ns.foldl max 0
noncomputable def chkA (ns : List Nat) : Bool :=
  (eqL (leadN ns.reverse) (leadN ns) == ((ns.getD 0 0 : Int) == (ns.getD (ns.length - 1) 0 : Int))) && lessLL (leadN ns) (leadN ns ++ [32]) && !(eqL (leadN ns) (leadN ns ++ [32])) &&
  !(lessLL (List.replicate (ns.length - 1) 9) (List.replicate ns.sum 32)) && (lessLL (List.replicate ns.sum 32) (List.replicate (ns.length - 1) 9) == decide (ns.sum < ns.length - 1)) &&
  eqL (leadN (ns.dropLast.reverse ++ ns.drop (ns.length - 1))) (leadN ns)
noncomputable def chkB (ns : List Nat) (k : Nat) : Bool :=
  (ns.contains (maxN ns)) && ns.all (fun a => decide (a ≤ maxN ns)) && (longL (wsL (leadN ns)) == (maxN ns : Int)) &&
  (witL (wsL (9 :: leadN (ns.drop k))) (wsL (leadN ns)) (topL (wsL (9 :: leadN (ns.drop k))) (wsL (leadN ns))).toNat == (ksL 1 (fun t => decide ((k : Int) = 1) && decide ((ns.getD 0 0 : Int) < t)) ((maxN ns : Int) + 1).toNat).map fun t => [t, colT t (9 :: leadN (ns.drop k)), colT t (leadN ns)]) &&
  (lessLL (9 :: leadN (ns.drop k)) (leadN ns) == decide (1 < k)) && (eqL (9 :: leadN (ns.drop k)) (leadN ns) == (leadN (ns.take k) == [])) && lessLL (leadN (ns.take k)) (leadN ns)
noncomputable def allN : Nat → List (List Nat)
  | 0 => [[]]
  | n + 1 => (allN n).flatMap fun l => [0, 1, 2, 3].map fun a => a :: l
noncomputable def chkN (ns : List Nat) : Bool := chkA ns && (List.range (ns.length - 1)).all fun j => chkB ns (j + 1)
theorem chk2 : (allN 2).all chkN = true := by decide +kernel
theorem chk3 : (allN 3).all chkN = true := by decide +kernel
theorem chk4 : (allN 4).all chkN = true := by decide +kernel
end Mine
end

section
local macro_rules | `(tactic| omega) => `(tactic| lia)
open PySem PySem.W PyProof.Rows
set_option Elab.async false
set_option maxHeartbeats 1000000
namespace Mine
theorem mem_allN : ∀ (ns : List Nat), (∀ a ∈ ns, a ≤ 3) → ns ∈ allN ns.length
  | [], _ => List.mem_singleton.mpr rfl
  | a :: r, h => by
    rw [List.length_cons, allN]
    refine List.mem_flatMap.mpr ⟨r, mem_allN r fun b hb => h b (List.mem_cons_of_mem _ hb), List.mem_map.mpr ⟨a, ?_, rfl⟩⟩
    have := h a List.mem_cons_self
    have : a = 0 ∨ a = 1 ∨ a = 2 ∨ a = 3 := by omega
    rcases this with rfl | rfl | rfl | rfl <;> decide
theorem chk_of {ns : List Nat} (h : ∀ a ∈ ns, a ≤ 3) (h2 : 2 ≤ ns.length) (h4 : ns.length ≤ 4) : chkN ns = true := by
  have hm := mem_allN ns h
  have : ns.length = 2 ∨ ns.length = 3 ∨ ns.length = 4 := by omega
  rcases this with e | e | e
  · exact List.all_eq_true.mp chk2 ns (e ▸ hm)
  · exact List.all_eq_true.mp chk3 ns (e ▸ hm)
  · exact List.all_eq_true.mp chk4 ns (e ▸ hm)
theorem lead_lab : ∀ {l : List Nat}, 46 ∉ l → leadS l = List.replicate l.length 32
  | [], _ => rfl
  | c :: r, h => by
    have ih := lead_lab (l := r) fun m => h (List.mem_cons_of_mem _ m)
    unfold leadS at *
    rw [List.map_cons, ih, if_neg (fun e => h (by rw [e]; exact List.mem_cons_self)), List.length_cons, List.replicate_succ]
theorem leadS_app (a b : List Nat) : leadS (a ++ b) = leadS a ++ leadS b := List.map_append
theorem lead_join : ∀ {ls : List (List Nat)}, NoDot ls → leadS (joinL [46] ls) = leadN (ls.map List.length)
  | [], _ => rfl
  | [x], h => lead_lab (h x List.mem_cons_self)
  | x :: y :: r, h => by
    have ih := lead_join (ls := y :: r) fun l m => h l (List.mem_cons_of_mem _ m)
    rw [joinL, leadS_app, leadS_app, ih, lead_lab (h x List.mem_cons_self)]
    unfold leadN
    simp only [List.map_cons, joinL]
    rfl
theorem lead_dom {ls : List (List Nat)} (h : NoDot ls) : leadS (46 :: joinL [46] ls) = 9 :: leadN (ls.map List.length) := by
  rw [← lead_join h]; rfl
theorem LW_L (x : Str) : Ls (LW x) = leadS (Ls x) := rfl
theorem eqW_L (x y : Str) : eqW x y = eqL (Ls x) (Ls y) := rfl
theorem lessW_L (x y : Str) : lessW x y = lessLL (Ls x) (Ls y) := rfl
noncomputable abbrev nsOf (xs : List Str) : List Nat := (lsOf xs).map List.length
theorem ns_le {xs : List Str} (h : Labs xs) : ∀ a ∈ nsOf xs, a ≤ 3 := fun a m => by
  obtain ⟨l, hl, rfl⟩ := List.mem_map.mp m
  obtain ⟨x, hx, rfl⟩ := List.mem_map.mp hl
  rw [← len_L]; exact (h x hx).1
theorem ns_len (xs : List Str) : (nsOf xs).length = xs.length := by rw [List.length_map, List.length_map]
theorem ns_getD (xs : List Str) (i : Nat) : (nsOf xs).getD i 0 = (xs.getD i Str.empty).length := by
  rw [len_L, ← ls_getD, List.getD_eq_getElem?_getD, List.getD_eq_getElem?_getD, List.getElem?_map]
  cases (lsOf xs)[i]? <;> rfl
theorem col_lead (n : Int) : ∀ (l : List Nat) (c : Int), (l.map fun (k : Nat) => (k : Int)).foldl (colF n) c = (leadS l).foldl (colTF n) c
  | [], c => rfl
  | k :: r, c => by
    have e : colF n c (k : Int) = colTF n c (if k = 46 then 9 else 32) := by
      unfold colF colTF
      by_cases h : k = 46
      · rw [if_pos (by omega), if_pos h, if_pos rfl]
      · rw [if_neg (by omega), if_neg h, if_neg (by decide)]
    show ((r.map fun (k : Nat) => (k : Int)).foldl (colF n) (colF n c (k : Int))) = (leadS r).foldl (colTF n) (colTF n c (if k = 46 then 9 else 32))
    rw [e, col_lead n r]
theorem col_codes (n : Int) (x : Str) : colL n (KStt.codes x) = colT n (leadS (Ls x)) := col_lead n (Ls x) 0
section
variable {xs : List Str} {k : Int}
theorem lead_host (h : Labs xs) : leadS (Ls (hostT xs)) = leadN (nsOf xs) := by rw [host_L, lead_join (ls_nodot h)]
theorem lead_domT (h : Labs xs) (h1 : 1 ≤ k) (h2 : k < xs.length) : leadS (Ls (domT xs k)) = 9 :: leadN ((nsOf xs).drop k.toNat) := by
  rw [dom_L h1 h2, lead_dom (fun l m => ls_nodot h l (List.mem_of_mem_drop m)), List.map_drop]
theorem lead_front (h : Labs xs) (h1 : 1 ≤ k) (h2 : k < xs.length) : leadS (Ls (Txt.join (Str.ofString ".") (pickT xs none (some k)))) = leadN ((nsOf xs).take k.toNat) := by
  rw [front_L h1 h2, lead_join (fun l m => ls_nodot h l (List.mem_of_mem_take m)), List.map_take]
theorem dom_eq (h : Labs xs) (h1 : 1 ≤ k) (h2 : k < xs.length) : (domT xs k == hostT xs) = (leadN ((nsOf xs).take k.toNat) == []) := by
  rw [beq_L, ← lead_front h h1 h2, front_L h1 h2, dom_L h1 h2, host_dom h1 h2, Bool.eq_iff_iff, beq_iff_eq, beq_iff_eq]
  constructor
  · intro e
    have e := congrArg List.length e
    rw [List.length_append] at e
    have : (joinL [46] ((lsOf xs).take k.toNat)) = [] := List.length_eq_zero_iff.mp (by omega)
    rw [this]; rfl
  · intro e
    have e := congrArg List.length e
    rw [lead_len] at e
    have : (joinL [46] ((lsOf xs).take k.toNat)) = [] := List.length_eq_zero_iff.mp e
    rw [this]; rfl
theorem turn_facts (h : ∀ x ∈ xs, x ∈ tabT) (h2 : 2 ≤ xs.length) (h4 : xs.length ≤ 4) (k1 : 1 ≤ k) (k2 : k < xs.length) : TurnFacts xs k := by
  have hL := labs_tab h
  have hc := chk_of (ns_le hL) (by rw [ns_len]; exact h2) (by rw [ns_len]; exact h4)
  unfold chkN at hc
  have hb := List.all_eq_true.mp (Bool.and_eq_true_iff.mp hc).2 (k.toNat - 1) (List.mem_range.mpr (by rw [ns_len]; omega))
  rw [show k.toNat - 1 + 1 = k.toNat by omega] at hb
  unfold chkB at hb
  simp only [Bool.and_eq_true, beq_iff_eq] at hb
  obtain ⟨⟨⟨⟨⟨⟨c1, c2⟩, c3⟩, c4⟩, c5⟩, c6⟩, c7⟩ := hb
  have ek : ((k.toNat : Nat) : Int) = k := by omega
  refine ⟨fact_m1 h k1 k2, fact_m2 h k1 k2, fact_m3 h k1 k2, ⟨(maxN (nsOf xs) : Int), ⟨?_, ?_⟩, ?_, ?_⟩, ?_, ?_, ?_, fact_w1 k1 k2, fact_w2 h k1 k2, fact_w3 k1 k2⟩
  · have hm := List.contains_iff_mem.mp c1
    obtain ⟨l, hl, e⟩ := List.mem_map.mp hm
    obtain ⟨x, hx, rfl⟩ := List.mem_map.mp hl
    exact List.mem_map.mpr ⟨x, hx, by rw [len_L, e]⟩
  · intro a ha
    obtain ⟨x, hx, rfl⟩ := List.mem_map.mp ha
    have := of_decide_eq_true (List.all_eq_true.mp c2 (Ls x).length (List.mem_map.mpr ⟨Ls x, List.mem_map.mpr ⟨x, hx, rfl⟩, rfl⟩))
    rw [len_L]; omega
  · unfold longW
    rw [LW_L, lead_host hL]; exact c3
  · unfold witW
    rw [LW_L, LW_L, lead_host hL, lead_domT hL k1 k2, c4]
    have ep : (fun t => decide ((k.toNat : Int) = 1) && decide (((nsOf xs).getD 0 0 : Int) < t)) = sizeP k xs := by
      funext t
      unfold sizeP
      rw [ek, ns_getD]
    rw [ep]
    refine List.map_congr_left fun t _ => ?_
    unfold dueF
    rw [col_codes, col_codes, lead_host hL, lead_domT hL k1 k2]
  · rw [lessW_L, LW_L, LW_L, lead_host hL, lead_domT hL k1 k2, c5]
    rw [decide_eq_decide]; omega
  · rw [eqW_L, LW_L, LW_L, lead_host hL, lead_domT hL k1 k2, c6, dom_eq hL k1 k2]
  · rw [lessW_L, LW_L, LW_L, lead_host hL, lead_front hL k1 k2]; exact c7
end
theorem join0_L : ∀ {ls : List (List Nat)}, NoDot ls → leadS (joinL [] ls) = List.replicate (ls.map List.length).sum 32
  | [], _ => rfl
  | [x], h => by simpa [joinL] using lead_lab (h x List.mem_cons_self)
  | x :: y :: r, h => by
    have ih := join0_L (ls := y :: r) fun l m => h l (List.mem_cons_of_mem _ m)
    rw [joinL, leadS_app, leadS_app, ih, lead_lab (h x List.mem_cons_self)]
    simp only [List.map_cons, List.sum_cons]
    rw [show leadS [] = [] from rfl, List.append_nil, List.replicate_append_replicate]
theorem lead_dots (n : Nat) : leadS (List.replicate n 46) = List.replicate n 9 := by
  unfold leadS
  rw [List.map_replicate]; rfl
theorem facts {xs : List Str} (h : ∀ x ∈ xs, x ∈ tabT) (h2 : 2 ≤ xs.length) (h4 : xs.length ≤ 4) : Facts xs := by
  have hL := labs_tab h
  have hN := ls_nodot hL
  have hn : xs ≠ [] := by intro e; rw [e] at h2; simp at h2
  have hc := chk_of (ns_le hL) (by rw [ns_len]; exact h2) (by rw [ns_len]; exact h4)
  unfold chkN at hc
  have ha := (Bool.and_eq_true_iff.mp hc).1
  unfold chkA at ha
  simp only [Bool.and_eq_true, beq_iff_eq, Bool.not_eq_true'] at ha
  obtain ⟨⟨⟨⟨⟨c1, c2⟩, c3⟩, c4⟩, c5⟩, c6⟩ := ha
  have ed : leadS (Ls (Txt.mul (Str.ofString ".") ((xs.length : Int) - 1))) = List.replicate ((nsOf xs).length - 1) 9 := by
    rw [dots_L, lead_dots, ns_len]
    congr 1
    omega
  have e0 : leadS (Ls (Txt.join (Str.ofString "") xs)) = List.replicate (nsOf xs).sum 32 := by
    rw [L_join, L_none, join0_L hN]
  have el : ((Txt.join (Str.ofString "") xs).length : Nat) = (nsOf xs).sum := by
    rw [len_L, ← lead_len, e0, List.length_replicate]
  refine ⟨fun k k1 k2 => turn_facts h h2 h4 k1 k2, hdn_fact h h2, ?_, ?_, ?_, ?_, ?_, ?_, ?_, fact_ou h h2 h4⟩
  · rw [host_L]; exact peels_left _ xs h hn
  · rw [eqW_L, LW_L, LW_L, lead_host hL, L_join, L_dot, List.map_reverse, lead_join (fun l m => hN l (List.mem_reverse.mp m)), List.map_reverse, c1]
    unfold lastT
    simp only [ns_getD, ns_len]
  · rw [lessW_L, LW_L, LW_L, L_app, L_a, leadS_app, lead_host hL]; exact c2
  · rw [eqW_L, LW_L, LW_L, L_app, L_a, leadS_app, lead_host hL]; exact c3
  · rw [lessW_L, LW_L, LW_L, ed, e0]; exact c4
  · rw [lessW_L, LW_L, LW_L, ed, e0, c5, el, ns_len, decide_eq_decide]; omega
  · rw [eqW_L, LW_L, LW_L, lead_host hL, other_L, lead_join (fun l m => by
      rcases List.mem_append.mp m with m | m
      · exact hN l (List.dropLast_subset _ (List.mem_reverse.mp m))
      · exact hN l (List.mem_of_mem_drop m)), List.map_append, List.map_reverse, List.map_dropLast, List.map_drop]
    rw [show (lsOf xs).length = (nsOf xs).length by rw [ns_len, List.length_map]]
    exact c6
end Mine
end
end

theorem PySem.Challenge.cw_xe0049_01_holds : PySem.Challenge.rw_xe0049_01.Holds :=
  Mine.law_holds fun _ h h2 h4 => Mine.facts h h2 h4
