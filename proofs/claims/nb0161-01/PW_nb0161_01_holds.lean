import PyProof.Rows.All
import Wide.All
import OpenK.AllK
import Wide.FinOn
import PySem.Builtin.Sre.Common
import PyProof.StrLawsIdx
import PyProof.StrLawsTight
import PyProof.StrLawsReplace
import PyProof.StrLawsLast
import PySem.Challenge.RW_nb0161_01
set_option Elab.async false
section
open PySem PySem.W PyProof.Rows
set_option maxRecDepth 100000
set_option maxHeartbeats 8000000
namespace Mine
open_top hd for PySem.Challenge.rw_nb0161_01
end Mine
end

section
open PySem PySem.W PyProof.Rows
set_option maxRecDepth 100000
set_option maxHeartbeats 4000000
namespace Mine
theorem plainAttrs_pat : PlainAttrs "re.Pattern" :=
  ⟨⟨"object.__getattribute__", by rw [typeLookup_type, builtinLookup_eq_fast]; kernel_rfl, by decide +kernel⟩, by rw [typeLookup_type, builtinLookup_eq_fast]; kernel_rfl⟩
theorem slot_search : Slot "re.Pattern" "search" "re.Pattern.search" :=
  .of (owner := "re.Pattern") (n := "search") (by rw [typeLookup_type, builtinLookup_eq_fast]; kernel_rfl) (by decide +kernel) (by decide +kernel) (by decide +kernel)
    (by first | exact .inl (by decide +kernel) | exact .inr (by decide +kernel)) (by rw [isSubtype_type]; kernel_rfl)
theorem type_search : typeOf (.builtin "re.Pattern.search") = pure (.type "method_descriptor") := by show builtinType _ = _; rw [builtinType_eq_fast]; kernel_rfl
theorem entry_search : entryFor table "re.Pattern.search" = some Builtin.«re.Pattern.search» := entryFor_of_tree (by kernel_rfl)
theorem args_search (a b : Value) : argsOk "re.Pattern.search" ⟨[a, b], []⟩ := by
  unfold argsOk
  kernel_rfl
end Mine
end

section
open PySem
set_option maxRecDepth 100000
set_option maxHeartbeats 4000000
namespace Mine
open PySem.Sre
def reCode : Array Nat := #[14, 8, 1, 2, 4294967295, 1, 1, 46, 0, 16, 46, 24, 9, 1, 4294967295, 13, 4, 8, 0, 0, 1, 6, 5, 1]
def hit : List Nat → Bool
  | [] => false
  | c :: r => (c == 46 && !r.isEmpty && r.all isDigit) || hit r
@[reducible] def st (t : Array Nat) (start handed : Nat) (outer : Bool) (pc pos : Nat) (frames : List Sre.Frame) (weight : Nat) (answer : Option Bool) (seen : Sre.Seen) : M :=
  { code := reCode, text := t, lim := t.size, start := start, lastStart := t.size, pc := pc, pos := pos, handed := handed, outermost := outer, marks := #[], frames := frames, weight := weight, answer := answer, seen := seen }
@[reducible] def fS (s : Nat) (first : Bool) : Sre.Frame := { wait := .nextStart, pc := 9, pos := s, outermost := first }
@[reducible] def fG (p : Nat) (first : Bool) (n : Nat) : Sre.Frame := { wait := .giveBack, pc := 11, pos := p, outermost := first, count := n, kept := { lastmark := -1, lastindex := -1, whole := false, marks := #[] } }
/-- the state at the start s -/
@[reducible] def at0 (t : Array Nat) (s : Nat) (first : Bool) (seen : Sre.Seen) : M := st t s s first 9 s [fS s first] 1 none seen

theorem start_eq (t : Array Nat) (h : 2 ≤ t.size) : ∃ seen, forSearch reCode t 0 0 t.size false = at0 t 0 true seen := by
  apply Exists.intro
  unfold forSearch
  rw [if_neg (by simp [header, reCode, ops]; omega)]
  rfl
theorem start_short (t : Array Nat) (h : t.size < 2) : (forSearch reCode t 0 0 t.size false).outcome = none ∧ (forSearch reCode t 0 0 t.size false).frames = [] ∧ (forSearch reCode t 0 0 t.size false).answer = some false := by
  unfold forSearch
  rw [if_pos (by simp [header, reCode, ops]; omega)]
  exact ⟨rfl, rfl, rfl⟩

theorem runFor_some {m : M} (h : m.outcome.isSome = true) : ∀ k, M.runFor k m = m
  | 0 => rfl
  | k + 1 => by unfold M.runFor; rw [if_pos h]
theorem runFor_succ {m : M} (h : ¬ m.outcome.isSome = true) (k : Nat) : M.runFor (k + 1) m = M.runFor k m.step := by
  conv => lhs; unfold M.runFor
  rw [if_neg h]
theorem runFor_add (a b : Nat) (m : M) : M.runFor (a + b) m = M.runFor b (M.runFor a m) := by
  induction a generalizing m with
  | zero => rw [Nat.zero_add]; rfl
  | succ a ih =>
    by_cases h : m.outcome.isSome = true
    · rw [runFor_some h, runFor_some h, runFor_some h]
    · rw [show a + 1 + b = (a + b) + 1 by omega, runFor_succ h, runFor_succ h, ih]
theorem runFor_one {m : M} (h : m.outcome = none) : M.runFor 1 m = m.step := by
  unfold M.runFor; rw [h]; rfl

theorem lit_no {t : Array Nat} {s : Nat} {first : Bool} {seen : Sre.Seen} (h : ¬ (s < t.size ∧ t.getD s 0 = 46)) :
    ∃ seen', (at0 t s first seen).step = st t s s first 9 s [fS s first] 1 (some false) seen' := by
  by_cases hs : s < t.size
  · have hc : (t.getD s 0 == 46) = false := by
      simp only [beq_eq_false_iff_ne]; exact fun e => h ⟨hs, e⟩
    apply Exists.intro
    show M.exec (at0 t s first seen) = _
    show (if s ≥ t.size then _ else _) = _
    rw [if_neg (by omega)]
    show (match (Except.ok (t.getD s 0 == 46, _) : Except String (Bool × Sre.Seen)) with | .error why => _ | .ok (false, seen) => _ | .ok (true, seen) => _) = _
    rw [hc]
    rfl
  · apply Exists.intro
    show M.exec (at0 t s first seen) = _
    show (if s ≥ t.size then _ else _) = _
    rw [if_pos (by omega)]
    rfl
theorem lit_yes {t : Array Nat} {s : Nat} {first : Bool} {seen : Sre.Seen} (hs : s < t.size) (h : t.getD s 0 = 46) :
    ∃ seen', (at0 t s first seen).step = st t s s first 11 (s + 1) [fS s first] 1 none seen' := by
  have hc : (t.getD s 0 == 46) = true := by rw [h]; rfl
  apply Exists.intro
  show M.exec (at0 t s first seen) = _
  show (if s ≥ t.size then _ else _) = _
  rw [if_neg (by omega)]
  show (match (Except.ok (t.getD s 0 == 46, _) : Except String (Bool × Sre.Seen)) with | .error why => _ | .ok (false, seen) => _ | .ok (true, seen) => _) = _
  rw [hc]
  rfl
theorem run_spec (t : Array Nat) : ∀ (n p found : Nat) (seen : Sre.Seen), p + n ≤ t.size → ∃ seen',
    Sre.run reCode t 15 n p found seen = .ok (found + (((t.toList.drop p).take n).takeWhile isDigit).length, seen')
  | 0, p, found, seen, _ => ⟨seen, by simp [Sre.run]⟩
  | n + 1, p, found, seen, h => by
    have hp : p < t.size := by omega
    have ha : ∃ seen', accepts reCode 15 (t.getD p 0) seen = .ok (isDigit (t.getD p 0), seen') := by
      show ∃ seen', inSet reCode (t.getD p 0) reCode.size 17 true seen = .ok (isDigit (t.getD p 0), seen')
      cases hd : isDigit (t.getD p 0) with
      | true =>
        have hc : category 0 (t.getD p 0) = .ok true := by
          generalize t.getD p 0 = c at hd ⊢; simp [category, hd, Except.map]
        apply Exists.intro
        show (do if ← category 0 (t.getD p 0) then pure (true, _) else inSet reCode (t.getD p 0) 23 19 true _ : Except String (Bool × Sre.Seen)) = _
        rw [hc]
        rfl
      | false =>
        have hc : category 0 (t.getD p 0) = .ok false := by
          generalize t.getD p 0 = c at hd ⊢; simp [category, hd, Except.map]
        apply Exists.intro
        show (do if ← category 0 (t.getD p 0) then pure (true, _) else inSet reCode (t.getD p 0) 23 19 true _ : Except String (Bool × Sre.Seen)) = _
        rw [hc]
        rfl
    obtain ⟨seen1, ha⟩ := ha
    have hdrop : t.toList.drop p = t.getD p 0 :: t.toList.drop (p + 1) := by
      rw [List.drop_eq_getElem_cons (by simpa using hp)]
      congr 1
      simp [Array.getD, hp]
    cases hd : isDigit (t.getD p 0) with
    | true =>
      obtain ⟨seen', hr⟩ := run_spec t n (p + 1) (found + 1) seen1 (by omega)
      refine ⟨seen', ?_⟩
      rw [Sre.run, ha, hd]
      show Sre.run reCode t 15 n (p + 1) (found + 1) seen1 = _
      rw [hr, hdrop, List.take_succ_cons, List.takeWhile_cons, hd]
      simp only [if_true, List.length_cons]
      congr 2
      omega
    | false =>
      refine ⟨seen1, ?_⟩
      rw [Sre.run, ha, hd, hdrop, List.take_succ_cons, List.takeWhile_cons, hd]
      rfl
/-- how many figures stand from p on -/
def figs (t : Array Nat) (p : Nat) : Nat := ((t.toList.drop p).takeWhile isDigit).length
theorem figs_le (t : Array Nat) (p : Nat) : figs t p ≤ t.size - p := by
  unfold figs
  have h := (List.takeWhile_sublist isDigit (l := t.toList.drop p)).length_le
  simpa using h
theorem rep_no {t : Array Nat} {s : Nat} {first : Bool} {seen : Sre.Seen} (hs : s < t.size) (hsz : t.size < 4294967295) (h : figs t (s + 1) = 0) :
    ∃ seen', (st t s s first 11 (s + 1) [fS s first] 1 none seen).step = st t s s first 11 (s + 1) [fS s first] 1 (some false) seen' := by
  by_cases hr : s + 1 < t.size
  · obtain ⟨seen', e⟩ := run_spec t (min 4294967295 (((t.size : Int) - ((s + 1 : Nat) : Int)).toNat)) (s + 1) 0 ((seen.add 24).add 13) (by omega)
    have hn : min 4294967295 (((t.size : Int) - ((s + 1 : Nat) : Int)).toNat) = t.size - (s + 1) := by omega
    have hf : List.length (List.takeWhile isDigit (List.take (min 4294967295 (((t.size : Int) - ((s + 1 : Nat) : Int)).toNat)) (List.drop (s + 1) t.toList))) = 0 := by
      rw [hn, List.take_of_length_le (by simp)]; exact h
    rw [hf] at e
    apply Exists.intro
    show (if ((1 : Nat) : Int) > (t.size : Int) - ((s + 1 : Nat) : Int) then _ else (match Sre.run reCode t 15 (min 4294967295 (((t.size : Int) - ((s + 1 : Nat) : Int)).toNat)) (s + 1) 0 ((seen.add 24).add 13) with | .error why => _ | .ok (n, seen) => _)) = _
    rw [if_neg (by omega), e]
    rfl
  · apply Exists.intro
    show (if ((1 : Nat) : Int) > (t.size : Int) - ((s + 1 : Nat) : Int) then _ else _) = _
    rw [if_pos (by omega)]
    rfl
theorem rep_yes {t : Array Nat} {s : Nat} {first : Bool} {seen : Sre.Seen} (hs : s + 1 < t.size) (hsz : t.size < 4294967295) (h : 0 < figs t (s + 1)) :
    ∃ seen', (st t s s first 11 (s + 1) [fS s first] 1 none seen).step = st t s (s + 1 + figs t (s + 1)) first 21 (s + 1 + figs t (s + 1)) [fG (s + 1 + figs t (s + 1)) first (figs t (s + 1)), fS s first] 2 none seen' := by
  obtain ⟨seen', e⟩ := run_spec t (min 4294967295 (((t.size : Int) - ((s + 1 : Nat) : Int)).toNat)) (s + 1) 0 ((seen.add 24).add 13) (by omega)
  have hn : min 4294967295 (((t.size : Int) - ((s + 1 : Nat) : Int)).toNat) = t.size - (s + 1) := by omega
  have hf : List.length (List.takeWhile isDigit (List.take (min 4294967295 (((t.size : Int) - ((s + 1 : Nat) : Int)).toNat)) (List.drop (s + 1) t.toList))) = figs t (s + 1) := by
    rw [hn, List.take_of_length_le (by simp)]; rfl
  rw [hf, Nat.zero_add] at e
  generalize hk : figs t (s + 1) = k at *
  apply Exists.intro
  show (if ((1 : Nat) : Int) > (t.size : Int) - ((s + 1 : Nat) : Int) then _ else (match Sre.run reCode t 15 (min 4294967295 (((t.size : Int) - ((s + 1 : Nat) : Int)).toNat)) (s + 1) 0 ((seen.add 24).add 13) with | .error why => _ | .ok (n, seen) => _)) = _
  rw [if_neg (by omega), e]
  show (if k < 1 then _ else _) = _
  rw [if_neg (by omega)]
  rfl
/-- the end is reached: matched -/
theorem end_yes {t : Array Nat} {s p n : Nat} {first : Bool} {seen : Sre.Seen} (h : p = t.size) :
    (M.runFor 5 (st t s p first 21 p [fG p first n, fS s first] 2 none seen)).outcome = some .matched := by
  subst h
  have h1 : ∃ seen', (st t s t.size first 21 t.size [fG t.size first n, fS s first] 2 none seen).step = st t s t.size first 23 t.size [fG t.size first n, fS s first] 2 none seen' := by
    apply Exists.intro
    show (if (t.size == t.size || _) = true then _ else _) = _
    rw [if_pos (by simp)]
    try rfl
  obtain ⟨s1, h1⟩ := h1
  have h2 : ∃ seen', (st t s t.size first 23 t.size [fG t.size first n, fS s first] 2 none s1).step = st t s t.size first 23 t.size [fG t.size first n, fS s first] 2 (some true) seen' := by
    apply Exists.intro
    show (if (first && _) = true then _ else _) = _
    rw [if_neg (by simp)]
    try rfl
  obtain ⟨s2, h2⟩ := h2
  rw [runFor_succ (by simp), h1, runFor_succ (by simp), h2]
  rfl
/-- the end is not reached: one figure is given back -/
theorem end_no {t : Array Nat} {s p n : Nat} {first : Bool} {seen : Sre.Seen} (h : p < t.size) (h10 : t.getD p 0 ≠ 10) :
    ∃ seen', (st t s p first 21 p [fG p first n, fS s first] 2 none seen).step = st t s p first 21 p [fG p first n, fS s first] 2 (some false) seen' := by
  apply Exists.intro
  show (if (p == t.size || (p + 1 == t.size && t.getD p 0 == 10)) = true then _ else _) = _
  rw [if_neg (by simp only [Bool.or_eq_true, Bool.and_eq_true, beq_iff_eq]; rintro (h' | ⟨_, h'⟩); exact absurd h' (Nat.ne_of_lt h); exact h10 h')]
  rfl
theorem back_more {t : Array Nat} {s p n : Nat} {first : Bool} {seen : Sre.Seen} :
    (st t s (p + 1) first 21 (p + 1) [fG (p + 1) first (n + 2), fS s first] 2 (some false) seen).step = st t s p first 21 p [fG p first (n + 1), fS s first] 2 none seen := by
  show (if (((n + 2 : Nat) : Int) - 1 < ((1 : Nat) : Int)) then _ else _) = _
  rw [if_neg (by omega)]
  have e : (((n + 2 : Nat) : Int) - 1) = ((n + 1 : Nat) : Int) := by omega
  rw [e]
  rfl
theorem back_last {t : Array Nat} {s p : Nat} {first : Bool} {seen : Sre.Seen} :
    (st t s p first 21 p [fG p first 1, fS s first] 2 (some false) seen).step = st t s p first 11 p [fS s first] 1 (some false) seen := by
  rfl
theorem next_yes {t : Array Nat} {s hd pc pos : Nat} {first : Bool} {seen : Sre.Seen} (h : s < t.size) :
    (st t s hd first pc pos [fS s first] 1 (some false) seen).step = at0 t (s + 1) false seen := by
  show (if s < t.size then _ else _) = _
  rw [if_pos h]
  rfl
theorem next_no {t : Array Nat} {s hd pc pos : Nat} {first : Bool} {seen : Sre.Seen} (h : ¬ s < t.size) :
    (M.runFor 2 (st t s hd first pc pos [fS s first] 1 (some false) seen)).outcome = some .failed := by
  have e : (st t s hd first pc pos [fS s first] 1 (some false) seen).step = st t s hd first 9 s [] 0 (some false) seen := by
    show (if s < t.size then _ else _) = _
    rw [if_neg h]
    rfl
  rw [runFor_succ (by simp), e]
  rfl
end Mine
end

section
open PySem
set_option maxRecDepth 100000
set_option maxHeartbeats 4000000
namespace Mine
open PySem.Sre
theorem give_back {t : Array Nat} {s : Nat} {first : Bool} (h10 : ∀ i, t.getD i 0 ≠ 10) : ∀ (n p : Nat) (seen : Sre.Seen), p < t.size → n ≤ p →
    ∃ q seen', M.runFor (2 * (n + 1)) (st t s p first 21 p [fG p first (n + 1), fS s first] 2 none seen) = st t s q first 11 q [fS s first] 1 (some false) seen'
  | 0, p, seen, hp, _ => by
    obtain ⟨s1, h1⟩ := end_no (s := s) (n := 1) (first := first) (seen := seen) hp (h10 p)
    refine ⟨p, s1, ?_⟩
    show M.runFor 2 _ = _
    rw [runFor_succ (by simp), h1, runFor_succ (by simp), back_last]
    rfl
  | n + 1, 0, _, _, hn => by omega
  | n + 1, p + 1, seen, hp, hn => by
    obtain ⟨s1, h1⟩ := end_no (s := s) (n := n + 2) (first := first) (seen := seen) hp (h10 (p + 1))
    obtain ⟨q, s2, h2⟩ := give_back h10 n p s1 (by omega) (by omega)
    refine ⟨q, s2, ?_⟩
    rw [show 2 * (n + 1 + 1) = 2 * (n + 1) + 1 + 1 by omega, runFor_succ (by simp), h1, runFor_succ (by simp), back_more, h2]

theorem hit_cons (c : Nat) (r : List Nat) : hit (c :: r) = ((c == 46 && !r.isEmpty && r.all isDigit) || hit r) := rfl
theorem drop_at {t : Array Nat} {s : Nat} (h : s < t.size) : t.toList.drop s = t.getD s 0 :: t.toList.drop (s + 1) := by
  rw [List.drop_eq_getElem_cons (by simpa using h)]
  congr 1
  simp [Array.getD, h]
theorem takeWhile_all {r : List Nat} {f : Nat → Bool} (h : (r.takeWhile f).length = r.length) : r.all f = true := by
  have e : r.takeWhile f = r := (List.takeWhile_prefix f).eq_of_length h
  rw [List.all_eq_true]
  intro x hx
  rw [← e] at hx
  exact List.all_eq_true.mp List.all_takeWhile x hx
theorem all_takeWhile' {r : List Nat} {f : Nat → Bool} (h : r.all f = true) : (r.takeWhile f).length = r.length := by
  induction r with
  | nil => rfl
  | cons a r ih =>
    rw [List.all_cons, Bool.and_eq_true] at h
    rw [List.takeWhile_cons, h.1, if_pos rfl, List.length_cons, List.length_cons, ih h.2]

theorem from_start {t : Array Nat} (h10 : ∀ i, t.getD i 0 ≠ 10) (hsz : t.size < 4294967295) : ∀ (d s : Nat) (first : Bool) (seen : Sre.Seen), s + d = t.size →
    ∃ k, k ≤ (d + 1) * (2 * t.size + 8) ∧ (M.runFor k (at0 t s first seen)).outcome = some (if hit (t.toList.drop s) then .matched else .failed)
  | 0, s, first, seen, h => by
    obtain ⟨s1, h1⟩ := lit_no (first := first) (seen := seen) (t := t) (s := s) (by omega)
    refine ⟨3, by omega, ?_⟩
    rw [runFor_succ (by simp), h1, next_no (by omega)]
    rw [List.drop_eq_nil_of_le (by simp; omega)]
    rfl
  | d + 1, s, first, seen, h => by
    have hs : s < t.size := by omega
    have go : ∀ seen', ∃ k, k ≤ (d + 1) * (2 * t.size + 8) ∧ (M.runFor k (at0 t (s + 1) false seen')).outcome = some (if hit (t.toList.drop (s + 1)) then .matched else .failed) :=
      fun seen' => from_start h10 hsz d (s + 1) false seen' (by omega)
    have hb : (d + 1 + 1) * (2 * t.size + 8) = (d + 1) * (2 * t.size + 8) + (2 * t.size + 8) := by rw [Nat.add_mul (d + 1) 1, Nat.one_mul]
    have hlen : (t.toList.drop (s + 1)).length = d := by simp; omega
    rw [drop_at hs, hit_cons]
    by_cases hc : t.getD s 0 = 46
    · obtain ⟨s1, h1⟩ := lit_yes (first := first) (seen := seen) hs hc
      rw [hc]
      by_cases hf : figs t (s + 1) = 0
      · obtain ⟨s2, h2⟩ := rep_no (first := first) (seen := s1) hs hsz hf
        obtain ⟨k, hk, e⟩ := go s2
        refine ⟨k + 3, by omega, ?_⟩
        rw [runFor_succ (by simp), h1, runFor_succ (by simp), h2, runFor_succ (by simp), next_yes hs, e]
        have : ((46 == 46 && !(t.toList.drop (s + 1)).isEmpty && (t.toList.drop (s + 1)).all isDigit)) = false := by
          cases hr : t.toList.drop (s + 1) with
          | nil => rfl
          | cons a r =>
            unfold figs at hf
            rw [hr, List.takeWhile_cons] at hf
            cases ha : isDigit a with
            | true => rw [ha, if_pos rfl] at hf; simp at hf
            | false => simp [ha]
        rw [this, Bool.false_or]
      · have hs1 : s + 1 < t.size := by have := figs_le t (s + 1); omega
        obtain ⟨s2, h2⟩ := rep_yes (first := first) (seen := s1) hs1 hsz (by omega)
        have hle := figs_le t (s + 1)
        by_cases he : s + 1 + figs t (s + 1) = t.size
        · refine ⟨5 + 1 + 1, by omega, ?_⟩
          rw [runFor_succ (by simp), h1, runFor_succ (by simp), h2, end_yes he]
          have ha : (t.toList.drop (s + 1)).all isDigit = true := takeWhile_all (by unfold figs at he; omega)
          have hne : (t.toList.drop (s + 1)).isEmpty = false := by
            cases hr : t.toList.drop (s + 1) with
            | nil => rw [hr] at hlen; simp at hlen; omega
            | cons a r => rfl
          rw [ha, hne]
          rfl
        · obtain ⟨n, hn⟩ : ∃ n, figs t (s + 1) = n + 1 := ⟨figs t (s + 1) - 1, by omega⟩
          obtain ⟨q, s3, h3⟩ := give_back (s := s) (first := first) h10 n (s + 1 + (n + 1)) s2 (by omega) (by omega)
          obtain ⟨k, hk, e⟩ := go s3
          refine ⟨(2 * (n + 1) + (k + 1)) + 1 + 1, by omega, ?_⟩
          rw [runFor_succ (by simp), h1, runFor_succ (by simp), h2, hn, runFor_add, h3, runFor_succ (by simp), next_yes hs, e]
          have ha : (t.toList.drop (s + 1)).all isDigit = false := by
            cases hq : (t.toList.drop (s + 1)).all isDigit with
            | false => rfl
            | true => have := all_takeWhile' hq; unfold figs at he; omega
          rw [ha, Bool.and_false, Bool.false_or]
    · obtain ⟨s1, h1⟩ := lit_no (first := first) (seen := seen) (t := t) (s := s) (fun x => hc x.2)
      obtain ⟨k, hk, e⟩ := go s1
      refine ⟨k + 2, by omega, ?_⟩
      rw [runFor_succ (by simp), h1, runFor_succ (by simp), next_yes hs, e]
      have : (t.getD s 0 == 46) = false := by simpa using hc
      rw [this, Bool.false_and, Bool.false_and, Bool.false_or]

theorem search_ends (t : Array Nat) (h10 : ∀ i, t.getD i 0 ≠ 10) (hsz : t.size ≤ 1000000) :
    ∃ k, k ≤ 2 ^ 64 ∧ (M.runFor k (forSearch reCode t 0 0 t.size false)).outcome = some (if hit t.toList then .matched else .failed) := by
  by_cases h : 2 ≤ t.size
  · obtain ⟨seen, e⟩ := start_eq t h
    obtain ⟨k, hk, r⟩ := from_start h10 (by omega) t.size 0 true seen (by omega)
    refine ⟨k, Nat.le_trans hk (Nat.le_trans (Nat.mul_le_mul (show t.size + 1 ≤ 1000001 by omega) (show 2 * t.size + 8 ≤ 2000008 by omega)) (by decide)), ?_⟩
    rw [e, r]
    rfl
  · obtain ⟨h1, h2, h3⟩ := start_short t (by omega)
    refine ⟨1, by decide, ?_⟩
    rw [runFor_one h1]
    have hh : hit t.toList = false := by
      have hl : t.toList.length < 2 := by simpa using h
      cases ht : t.toList with
      | nil => rfl
      | cons a r =>
        cases r with
        | nil => simp [hit]
        | cons b r => rw [ht] at hl; simp at hl; omega
    rw [hh]
    unfold M.step
    rw [h1, h2, h3]
    rfl
end Mine
end

section
open PySem PySem.W PyProof.Rows
set_option maxRecDepth 100000
set_option maxHeartbeats 4000000
namespace Mine
open PySem.Builtin.Re
section
variable {M : Model} {A : Around} {E : Value → Shared → Prop} {s : Shared}
theorem drive_ends {o : Sre.Outcome} {Q : Sre.M → Shared → Prop} (hQ : ∀ m', m'.outcome = some o → Q m' s) : ∀ (turns k : Nat) (m : Sre.M),
    (Sre.M.runFor k m).outcome = some o → k ≤ 4 * turns → 0 < turns → wpAny M A (reDrive turns m) Q E s
  | 0, _, _, _, _, h => absurd h (by omega)
  | n + 1, k, m, ho, hk, _ => by
    show wpAny M A (if (Sre.M.runFor 4 m).outcome.isSome = true then pure (Sre.M.runFor 4 m) else do rule "sre.turn"; reDrive n (Sre.M.runFor 4 m)) Q E s
    by_cases h4 : (Sre.M.runFor 4 m).outcome.isSome = true
    · rw [if_pos h4]
      refine wpAny_pure (hQ _ ?_)
      by_cases hk4 : k ≤ 4
      · have e : Sre.M.runFor 4 m = Sre.M.runFor k m := by
          rw [show 4 = k + (4 - k) by omega, runFor_add]
          exact runFor_some (by rw [ho]; rfl) _
        rw [e, ho]
      · have e : Sre.M.runFor k m = Sre.M.runFor 4 m := by
          rw [show k = 4 + (k - 4) by omega, runFor_add]
          exact runFor_some h4 _
        rw [← e, ho]
    · rw [if_neg h4]
      have hk4 : 4 < k := by
        apply Nat.lt_of_not_le
        intro hk4
        have e : Sre.M.runFor 4 m = Sre.M.runFor k m := by
          rw [show 4 = k + (4 - k) by omega, runFor_add]
          exact runFor_some (by rw [ho]; rfl) _
        rw [e, ho] at h4
        exact h4 rfl
      refine wpAny_bind (wpAny_rule ?_)
      refine drive_ends hQ n (k - 4) _ ?_ (by omega) (by omega)
      rw [← runFor_add, show 4 + (k - 4) = k by omega]
      exact ho
theorem rules_end {c : Nat → Bool} {f : Nat → String} {Q : PUnit → Shared → Prop} (hQ : Q PUnit.unit s) : ∀ l : List Nat,
    wpAny M A (forIn l PUnit.unit fun i _ => if c i = true then do rule (f i); pure (ForInStep.yield PUnit.unit) else pure (ForInStep.yield PUnit.unit)) Q E s
  | [] => by rw [List.forIn_nil]; exact wpAny_pure hQ
  | i :: l => by
    rw [List.forIn_cons]
    refine wpAny_bind ?_
    by_cases h : c i = true
    · rw [if_pos h]
      exact wpAny_bind (wpAny_rule (wpAny_pure (rules_end hQ l)))
    · rw [if_neg h]
      exact wpAny_pure (rules_end hQ l)
theorem run_matched {Q : Option Sre.M → Shared → Prop} {m : Sre.M} {k : Nat} (ho : (Sre.M.runFor k m).outcome = some .matched) (hk : k ≤ 2 ^ 64) (hQ : ∀ m', Q (some m') s) : wpAny M A (reRunToEnd m) Q E s := by
  unfold reRunToEnd
  refine wpAny_bind (drive_ends (o := .matched) (fun m' hm' => ?_) (2 ^ 64) k m ho (by omega) (by decide))
  refine wpAny_bind (rules_end ?_ _)
  rw [hm']
  exact wpAny_pure (hQ m')
theorem run_failed {Q : Option Sre.M → Shared → Prop} {m : Sre.M} {k : Nat} (ho : (Sre.M.runFor k m).outcome = some .failed) (hk : k ≤ 2 ^ 64) (hQ : Q none s) : wpAny M A (reRunToEnd m) Q E s := by
  unfold reRunToEnd
  refine wpAny_bind (drive_ends (o := .failed) (fun m' hm' => ?_) (2 ^ 64) k m ho (by omega) (by decide))
  refine wpAny_bind (rules_end ?_ _)
  rw [hm']
  exact wpAny_pure hQ
end
end Mine
end

section
open PySem PySem.W PyProof.Rows
set_option maxRecDepth 100000
set_option maxHeartbeats 4000000
namespace Mine
open PySem.Builtin.Re
@[reducible] def codeItems : Array Value := #[Value.int 14 0, Value.int 8 0, Value.int 1 0, Value.int 2 0, Value.int 4294967295 0, Value.int 1 0,
        Value.int 1 0, Value.int 46 0, Value.int 0 0, Value.int 16 0, Value.int 46 0, Value.int 24 0, Value.int 9 0,
        Value.int 1 0, Value.int 4294967295 0, Value.int 13 0, Value.int 4 0, Value.int 8 0, Value.int 0 0,
        Value.int 0 0, Value.int 1 0, Value.int 6 0, Value.int 5 0, Value.int 1 0]
@[reducible] def codeObj : Obj := { cls := Value.type "tuple", data := Data.seq codeItems }
theorem codeItems_are : (codeItems.map reRawOf).map (fun x => x.toNat) = reCode := by decide +kernel
@[reducible] def patObj : Obj := { cls := Value.type "re.Pattern", data := Data.fields #[Value.str (Str.ofString "\\.\\d+$") 285, Value.int 256 312, Value.int 0 0, Value.none, Value.none, Value.ref 35, Value.int 0 0] }
@[reducible] def matchObj (vs : Array Value) : Obj := { cls := Value.type "re.Match", data := Data.fields vs }
theorem heap_pat (P : Params) : (Mine.hd.heap_39 P).lookup 36 = some patObj := rfl
theorem heap_code (P : Params) : (Mine.hd.heap_39 P).lookup 35 = some codeObj := rfl
section
variable {prog : Program} {w : World} {A : Around} {E : Value → Shared → Prop} {s : Shared} {h₀ : Heap} {L : Addr} {m : Str → Option Value} {news : List (Addr × Obj)}
theorem target_ {t : Str} {tk : Tok} {Q : ReTarget → Shared → Prop} {M : Model} (hp : s.heap.get? 36 = some patObj) (hc : s.heap.get? 35 = some codeObj) (hsz : t.cps.size ≤ 1000000)
    (h : Q { pattern := .ref 36, string := .str t tk, code := reCode, text := t.cps, kind := 0, groups := 0, pos := 0, lim := t.cps.size } s) :
    wpAny M A (reTarget "re.Pattern.search" "search" ⟨[.ref 36, .str t tk], []⟩) Q E s := by
  unfold reTarget
  refine wpAny_bind (m := reNamed "re.Pattern.search" "search" ["string", "pos", "endpos"] 1 [.str t tk] []) ?_
  have e : reNamed "re.Pattern.search" "search" ["string", "pos", "endpos"] 1 [.str t tk] [] = pure [some (.str t tk), none, none] := by
    unfold reNamed
    rfl
  rw [e]
  refine wpAny_pure ?_
  refine wpAny_bind (wpAny_pure ?_)
  refine wpAny_bind (wpAny_pure ?_)
  refine wpAny_bind (wpAny_fieldsOf hp rfl ?_)
  refine wpAny_bind (m := reTextOf (.str t tk)) ?_
  refine wpAny_bind (m := asStr? (.str t tk)) (wpAny_pure ?_)
  refine wpAny_pure ?_
  refine wpAny_bind (m := reNoCollectionInside (.str t tk) 0) (wpAny_pure ?_)
  refine wpAny_bind (m := reRawItems (.ref 35)) ?_
  refine wpAny_bind (wpAny_seqItems hc rfl ?_)
  refine wpAny_pure ?_
  refine wpAny_pure ?_
  have e1 : min (((2 : Int) ^ 63 - 1).toNat) t.cps.size = t.cps.size := by
    have : ((2 : Int) ^ 63 - 1).toNat = 9223372036854775807 := by decide
    rw [this]; omega
  have e2 : min (Int.toNat 0) t.cps.size = 0 := by simp
  show Q { pattern := .ref 36, string := .str t tk, code := (codeItems.map reRawOf).map (fun x => x.toNat), text := t.cps, kind := 0, groups := 0, pos := min (Int.toNat 0) t.cps.size, lim := min (((2 : Int) ^ 63 - 1).toNat) t.cps.size } s
  rw [e1, e2, codeItems_are]
  exact h
theorem search_call {t : Str} {tk : Tok} {Q : Value → Shared → Prop} (F : Fr h₀ L s.heap m) (N : News h₀ L s.heap news) (hp : s.heap.get? 36 = some patObj) (hc : s.heap.get? 35 = some codeObj)
    (hsz : t.cps.size ≤ 1000000) (h10 : ∀ i, t.cps.getD i 0 ≠ 10)
    (hy : hit t.cps.toList = true → ∀ a vs h', Fr h₀ L h' m → News h₀ L h' ((a, matchObj vs) :: news) → Q (.ref a) { s with heap := h' }) (hn : hit t.cps.toList = false → Q .none s) :
    wpAny (model prog w) A (call (.builtin "re.Pattern.search") [.ref 36, .str t tk]) Q E s := by
  refine wpAny_call (codeAny_call_builtin slot_search.plain entry_search (slot_search.check _ _ _ _ _ _ _ _ ⟨_, hp, rfl⟩ (args_search _ _) ?_))
  unfold Builtin.«re.Pattern.search»
  refine wpAny_bind (target_ hp hc hsz ?_)
  unfold reAnswer
  obtain ⟨k, hk, ho⟩ := search_ends t.cps h10 hsz
  cases hh : hit t.cps.toList with
  | true =>
    rw [hh] at ho
    refine wpAny_bind (run_matched ho hk fun m' => ?_)
    refine wpAny_bind (m := reNewMatch (.ref 36) (.str t tk) 0 0 t.cps.size m') ?_
    unfold reNewMatch
    refine wpAny_bind (m := newTuple (rawInt m'.start :: rawInt m'.handed :: [])) (f := fun v => newFields "re.Match" [Value.str t tk, Value.ref 36, rawInt 0, rawInt t.cps.size, rawInt m'.lastindex, v]) ?_
    refine wpAny_newTuple ?_ (by simp [sizeLine])
    refine wpAny_newObj_type ?_ (by show 6 ≤ sizeLine + 2; decide)
    refine wpAny_pure ?_
    have N1 := News.push F N ({ cls := .type "tuple", data := .seq [rawInt m'.start, rawInt m'.handed].toArray } : Obj) rfl
    have N2 : News h₀ L _ news := fun p hp => N1 p (List.mem_cons_of_mem _ hp)
    exact hy hh _ _ _ ((F.push _).push _) (News.push (F.push _) N2 _ rfl)
  | false =>
    rw [hh] at ho
    refine wpAny_bind (run_failed ho hk ?_)
    exact wpAny_pure (hn hh)
theorem no_bool : typeLookup (.type "re.Match") "__bool__" = pure none := by rw [typeLookup_type, builtinLookup_eq_fast]; kernel_rfl
theorem no_len : typeLookup (.type "re.Match") "__len__" = pure none := by rw [typeLookup_type, builtinLookup_eq_fast]; kernel_rfl
theorem truthy_match {M : Model} {a : Addr} {vs : Array Value} {Q : Bool → Shared → Prop} (N : News h₀ L s.heap ((a, matchObj vs) :: news)) (h : Q true s) : wpAny M A (truthy (.ref a)) Q E s := by
  have hT : s.TypeIs (.ref a) "re.Match" := ⟨_, N.get (.head _), rfl⟩
  unfold truthy
  refine wpAny_bind (m := callSpecial? (.ref a) (Str.ofString "__bool__")) ?_
  unfold callSpecial?
  refine wpAny_bind (wpAny_specialOf hT no_bool ?_)
  refine wpAny_pure ?_
  refine wpAny_bind (wpAny_specialOf hT no_len ?_)
  exact wpAny_pure h
theorem method_search {M : Model} {pl : Sem Bool} {Q : Value × List Value → Shared → Prop} (hp : s.heap.get? 36 = some patObj) (h : Q (.builtin "re.Pattern.search", [.ref 36]) s) :
    wpAny M A (getMethod (.ref 36) (Str.ofString "search") pl) Q E s :=
  getMethod_builtin ⟨_, hp, rfl⟩ plainAttrs_pat slot_search type_search (fun a e => by cases e; exact ⟨_, hp, rfl⟩) h
end
/-- a contract of a def of the text -/
abbrev Spec (d u : Nat) (w : World) (p : Program) (loose : List Str) (mean : ExcName → Option Value) (mg mb : Str → Option Value) (f : Addr) (vs : List Value) (kw : List (Str × Value)) (news news' : List (Addr × Obj)) (pre : Prop) (Res : Value → Prop) : Prop :=
  ∀ (dp un : Nat) (gd : Option (List Code)) (cn : Str) (cs : Scope) (a : Addr) (ccd : Value) (cl : List (Str × Addr)) (outer : List Env) (A₀ : Around) (base h₀ : Heap) (L : Addr) (m : Str → Option Value) (s : Shared) (Q E : Value → Shared → Prop),
    Below A₀ base outer h₀ → Fr h₀ L s.heap m → (Mine.hd.heap_39 w.params).In h₀ → News h₀ L s.heap news → Top p loose mean mg mb h₀ → cs.kind = .function →
    pre → dp + d < recursionLimit → un + u < cLine →
    (∀ (v : Value) (h' : Heap) (tk' : Nat), Res v → Fr h₀ L h' m → News h₀ L h' news' → Q v { s with heap := h', toks := tk' }) →
    wpAny (model PySem.Challenge.rw_nb0161_01.row.prog w) (ktrTop dp un gd cn cs L a ccd cl outer) (call (.ref f) vs kw) Q E s
theorem sp_ret {h₀ h' : Heap} {L : Addr} {m : Str → Option Value} {news : List (Addr × Obj)} {s : Shared} {Q : Value → Shared → Prop} {tk' : Nat} {Res : Value → Prop} {v : Value}
    (hret : ∀ (v : Value) (h' : Heap) (tk' : Nat), Res v → Fr h₀ L h' m → News h₀ L h' news → Q v { s with heap := h', toks := tk' }) (e : Res v) (F : Fr h₀ L h' m) (N : News h₀ L h' news) : Q v { s with heap := h', toks := tk' } := hret v h' tk' e F N
/-- the texts of the law: short, of six signs -/
structure Ok (t : Str) : Prop where
  len : t.length ≤ 64
  sign : ∀ c ∈ t.cps.toList, c = 97 ∨ c = 66 ∨ c = 46 ∨ c = 55 ∨ c = 98 ∨ c = 65
theorem Ok.no10 {t : Str} (h : Ok t) (i : Nat) : t.cps.getD i 0 ≠ 10 := by
  intro e
  by_cases hi : i < t.cps.size
  · have hm : t.cps.getD i 0 ∈ t.cps.toList := by simp [Array.getD, hi]
    rcases h.sign _ hm with q | q | q | q | q | q <;> omega
  · simp [Array.getD, hi] at e
section
variable {prog : Program} {w : World} {A : Around} {E : Value → Shared → Prop} {s : Shared} {h₀ : Heap} {L : Addr} {m : Str → Option Value} {news : List (Addr × Obj)}
theorem search_K {t : Str} {tk : Tok} {Q : Value → Shared → Prop} (F : Fr h₀ L s.heap m) (N : News h₀ L s.heap news) (X : (Mine.hd.heap_39 w.params).In h₀) (ht : Ok t)
    (hy : hit t.cps.toList = true → ∀ a vs h', Fr h₀ L h' m → News h₀ L h' ((a, matchObj vs) :: news) → Q (.ref a) { s with heap := h' }) (hn : hit t.cps.toList = false → Q .none s) :
    wpAny (model prog w) A (call (.builtin "re.Pattern.search") [.ref 36, .str t tk]) Q E s :=
  search_call F N (F.keep _ _ (X _ _ (heap_pat _))) (F.keep _ _ (X _ _ (heap_code _))) (Nat.le_trans ht.len (by decide)) ht.no10 hy hn
theorem method_K {M : Model} {pl : Sem Bool} {Q : Value × List Value → Shared → Prop} (F : Fr h₀ L s.heap m) (X : (Mine.hd.heap_39 w.params).In h₀) (h : Q (.builtin "re.Pattern.search", [.ref 36]) s) :
    wpAny M A (getMethod (.ref 36) (Str.ofString "search") pl) Q E s := method_search (F.keep _ _ (X _ _ (heap_pat _))) h
end
end Mine
end

section
open PySem PySem.W PyProof.Rows
set_option maxRecDepth 100000
set_option maxHeartbeats 4000000
namespace Mine
/-- what is_HDN tells -/
def isHDN (t : Str) : Bool := !hit t.cps.toList && (!(t == Str.ofString "") && (!(Txt.item t 0 == Str.ofString ".") && !(Txt.item t (-1) == Str.ofString ".")))
local macro_rules | `(tactic| walk_at "getMethod ref") => `(tactic| (k_here; (with_reducible show wpAny _ _ (getMethod (Value.ref 36) _ _) _ _ _); refine' method_K ?k1 ?k2 ?_; (case k1 => k_asm); (case k2 => k_asm); k_whole))
local macro_rules | `(tactic| walk_at "call builtin:re.Pattern.search") => `(tactic| (k_here; refine' search_K ?k1 ?k2 ?k3 ?k4 ?_ ?_; (case k1 => k_asm); (case k2 => k_asm); (case k3 => k_asm); (case k4 => assumption); k_whole; intro hhit; (try intro a9 vs9 h' F' N'); (try dsimp only)))
local macro_rules | `(tactic| walk_at "truthy ref") => `(tactic| (k_here; refine' truthy_match ?k1 ?_; (case k1 => k_asm); k_whole))
theorem is_HDN_spec {w : World} {p : Program} {loose : List Str} {mean : ExcName → Option Value} {mg mb : Str → Option Value} (news : List (Addr × Obj)) (text : Str) (tk : Tok) :
    Spec 1 8 w p loose mean mg mb 43 [.str text tk] [] news news (Ok text) (fun v => v = .bool (isHDN text)) := by

  dsimp only [Spec]; k_fill; intros; rename_i hret
  refine wpAny_call ?_
  k_dflt cell_enter
  w_on
  k_steps
  all_goals (refine sp_ret hret ?e1 ?e2 ?e3; (case e2 => k_asm); (case e3 => first | k_asm | (refine' cb_drop ?cbN ?cbS; (case cbN => assumption); (case cbS => kcj_all))); (case e1 => (refine congrArg Value.bool ?_; simp [isHDN, *])))
end Mine
end

section
open PySem PySem.W PyProof.Rows
set_option maxRecDepth 100000
set_option maxHeartbeats 4000000
namespace Mine
/-- the signs of a text -/
abbrev sg (x : Str) : List Nat := x.cps.toList
theorem sg_len (x : Str) : (sg x).length = x.length := by simp [Str.length]
theorem sg_ext {x y : Str} (h : sg x = sg y) : x = y := by
  cases x; cases y
  exact congrArg Str.mk (Array.ext' h)
def lowc (c : Nat) : Nat := if c = 66 then 98 else if c = 65 then 97 else c
def upc (c : Nat) : Nat := if c = 98 then 66 else if c = 97 then 65 else c
@[irreducible] def low (x : Str) : Str := ⟨((sg x).map lowc).toArray⟩
@[irreducible] def upp (x : Str) : Str := ⟨((sg x).map upc).toArray⟩
theorem sg_low (x : Str) : sg (low x) = (sg x).map lowc := by unfold low; rfl
theorem sg_upp (x : Str) : sg (upp x) = (sg x).map upc := by unfold upp; rfl
theorem placed_one (x : Str) (f : Nat → Nat → List Nat) (g : Nat → Nat) (h : ∀ i c, x.cps[i]? = some c → f i c = [g c]) : (placed x f).toList = (sg x).map g := by
  have e : (x.cps.mapIdx fun i c => (f i c).toArray) = x.cps.map fun c => #[g c] := by
    apply Array.ext
    · simp
    · intro i h1 h2
      have hi : i < x.cps.size := by simpa using h1
      simp only [Array.getElem_mapIdx, Array.getElem_map]
      rw [h i _ (Array.getElem?_eq_getElem hi)]
  unfold placed
  rw [e]
  have key : ∀ l : List Nat, ((l.map fun c => #[g c]).map Array.toList).flatten = l.map g := by
    intro l
    induction l with
    | nil => rfl
    | cons a l ih => rw [List.map_cons, List.map_cons, List.flatten_cons, ih]; rfl
  rw [Array.toList_flatten, Array.toList_map]
  exact key x.cps.toList
theorem Ok.mem {x : Str} (h : Ok x) {i c : Nat} (e : x.cps[i]? = some c) : c = 97 ∨ c = 66 ∨ c = 46 ∨ c = 55 ∨ c = 98 ∨ c = 65 := by
  refine h.sign c ?_
  obtain ⟨hi, rfl⟩ := Array.getElem?_eq_some_iff.mp e
  simp
theorem lower_ok {x : Str} (h : Ok x) : Txt.lower x = low x := by
  refine sg_ext ?_
  rw [sg_low]
  refine placed_one x _ lowc fun i c e => ?_
  unfold Unicode.lowerAt
  rw [e]
  rcases h.mem e with q | q | q | q | q | q <;> subst q <;> exact (show Unicode.lowerOf _ = _ by decide +kernel)
theorem upper_ok {x : Str} (h : Ok x) : Txt.upper x = upp x := by
  refine sg_ext ?_
  rw [sg_upp]
  refine placed_one x _ upc fun i c e => ?_
  rcases h.mem e with q | q | q | q | q | q <;> subst q <;> decide +kernel
theorem Ok.of_sg {x y : Str} (h : Ok x) (hl : y.length ≤ x.length) (hs : ∀ c ∈ sg y, c ∈ sg x) : Ok y := ⟨Nat.le_trans hl h.len, fun c hc => h.sign c (hs c hc)⟩
theorem low_len (x : Str) : (low x).length = x.length := by rw [← sg_len, sg_low, List.length_map, sg_len]
theorem upp_len (x : Str) : (upp x).length = x.length := by rw [← sg_len, sg_upp, List.length_map, sg_len]
theorem Ok.low {x : Str} (h : Ok x) : Ok (low x) := by
  refine ⟨by rw [low_len]; exact h.len, fun c hc => ?_⟩
  have hc' : c ∈ sg (Mine.low x) := hc
  rw [sg_low] at hc'
  obtain ⟨d, hd, rfl⟩ := List.mem_map.mp hc'
  rcases h.sign d hd with q | q | q | q | q | q <;> subst q <;> decide
theorem Ok.upp {x : Str} (h : Ok x) : Ok (upp x) := by
  refine ⟨by rw [upp_len]; exact h.len, fun c hc => ?_⟩
  have hc' : c ∈ sg (Mine.upp x) := hc
  rw [sg_upp] at hc'
  obtain ⟨d, hd, rfl⟩ := List.mem_map.mp hc'
  rcases h.sign d hd with q | q | q | q | q | q <;> subst q <;> decide
theorem slice_mem (x : Str) (l u : Option Int) : ∀ c ∈ sg (Txt.slice x l u), c ∈ sg x := by
  intro c hc
  unfold Txt.slice at hc
  split at hc
  · exact hc
  · have hc' := List.mem_filterMap.mp (by simpa using hc)
    obtain ⟨i, _, e⟩ := hc'
    obtain ⟨hi, rfl⟩ := Array.getElem?_eq_some_iff.mp e
    simp
theorem Ok.slice {x : Str} (h : Ok x) (l u : Option Int) : Ok (Txt.slice x l u) := h.of_sg (Txt.slice_le x l u) (slice_mem x l u)
theorem slice_clip_hi (x : Str) (l : Option Int) {j : Int} (h0 : 0 ≤ j) : Txt.slice x l (some j) = Txt.slice x l (some (min j x.length)) := by
  have e : Builtin.Str.strSliceIndices l (some j) 1 x.length = Builtin.Str.strSliceIndices l (some (min j x.length)) 1 x.length := by
    unfold Builtin.Str.strSliceIndices
    have h1 : ¬ j < 0 := by omega
    have h2 : ¬ min j (x.length : Int) < 0 := by omega
    have h3 : min (min j (x.length : Int)) (x.length : Int) = min j (x.length : Int) := by omega
    simp only [if_neg h1, if_neg h2, h3, show (1 : Int) > 0 from by decide, if_true]
  unfold Txt.slice
  rw [e]
theorem sg_slice_to (x : Str) {j : Int} (h0 : 0 ≤ j) : sg (Txt.slice x none (some j)) = (sg x).take j.toNat := by
  rw [slice_clip_hi x none h0]
  have h := StrLaws.sliceText_to (x := x) (j := min j x.length) ⟨by omega, by simp [Str.length]; omega⟩
  have e : Txt.slice x none (some (min j x.length)) = ⟨((x.cps.toList.drop 0).take (min j x.length - 0).toNat).toArray⟩ := h
  rw [e]
  show (List.take (min j x.length - 0).toNat (sg x)) = _
  by_cases hj : j ≤ x.length
  · rw [show (min j x.length - 0).toNat = j.toNat by omega]
  · rw [List.take_of_length_le (by rw [sg_len]; omega), List.take_of_length_le (by rw [sg_len]; omega)]
theorem slice_clip_lo (x : Str) (u : Option Int) {j : Int} (h0 : 0 ≤ j) : Txt.slice x (some j) u = Txt.slice x (some (min j x.length)) u := by
  have e : Builtin.Str.strSliceIndices (some j) u 1 x.length = Builtin.Str.strSliceIndices (some (min j x.length)) u 1 x.length := by
    unfold Builtin.Str.strSliceIndices
    have h1 : ¬ j < 0 := by omega
    have h2 : ¬ min j (x.length : Int) < 0 := by omega
    have h3 : min (min j (x.length : Int)) (x.length : Int) = min j (x.length : Int) := by omega
    simp only [if_neg h1, if_neg h2, h3, show (1 : Int) > 0 from by decide, if_true]
  unfold Txt.slice
  rw [e]
theorem sg_slice_from (x : Str) {i : Int} (h0 : 0 ≤ i) : sg (Txt.slice x (some i) none) = (sg x).drop i.toNat := by
  rw [slice_clip_lo x none h0]
  have h := StrLaws.sliceText_from (x := x) (i := min i x.length) ⟨by omega, by simp [Str.length]; omega⟩
  have e : Txt.slice x (some (min i x.length)) none = ⟨((x.cps.toList.drop (min i x.length).toNat).take ((x.cps.toList.length : Int) - min i x.length).toNat).toArray⟩ := h
  rw [e]
  show List.take ((x.cps.toList.length : Int) - min i x.length).toNat (List.drop (min i (x.length : Int)).toNat (sg x)) = _
  rw [List.take_of_length_le (by simp [Str.length]; omega)]
  by_cases hi : i ≤ x.length
  · rw [show (min i x.length).toNat = i.toNat by omega]
  · rw [List.drop_eq_nil_of_le (by rw [sg_len]; omega), List.drop_eq_nil_of_le (by rw [sg_len]; omega)]
theorem sg_slice (x : Str) {i j : Int} (h0 : 0 ≤ i) (h1 : i ≤ j) (h2 : j ≤ x.length) : sg (Txt.slice x (some i) (some j)) = ((sg x).drop i.toNat).take (j - i).toNat := by
  have h := StrLaws.sliceText_plain (x := x) (i := i) (j := j) ⟨h0, h1, by simpa [Str.length] using h2⟩
  have e : Txt.slice x (some i) (some j) = ⟨((x.cps.toList.drop i.toNat).take (j - i).toNat).toArray⟩ := h
  rw [e]
end Mine
end

section
open PySem PySem.W PyProof.Rows
set_option maxRecDepth 100000
set_option maxHeartbeats 4000000
namespace Mine
/-- what domain_match tells -/
def dmatch (a b : Str) : Bool := (low a == low b) || (isHDN (low a) && (decide (Txt.rfind (low a) (low b) ≠ -1 ∧ Txt.rfind (low a) (low b) ≠ 0) && (Txt.startswith (low b) (Str.ofString ".") && isHDN (Txt.slice (low b) (some 1) none))))
theorem lower_K {prog : Program} {w : World} {A : Around} {E : Value → Shared → Prop} {s : Shared} {x : Str} {t : Tok} {Q : Value → Shared → Prop} (hO : Ok x) (h : Ok (low x) → (low x).length ≤ 64 → Q (.str (low x) s.toks) { s with toks := s.toks + 1 }) :
    wpAny (model prog w) A (call (.builtin "str.lower") [.str x t]) Q E s :=
  SCL.lower (Nat.le_trans hO.len (by decide)) fun _ => by rw [lower_ok hO]; exact h hO.low hO.low.len
theorem upper_K {prog : Program} {w : World} {A : Around} {E : Value → Shared → Prop} {s : Shared} {x : Str} {t : Tok} {Q : Value → Shared → Prop} (hO : Ok x) (h : Ok (upp x) → (upp x).length ≤ 64 → Q (.str (upp x) s.toks) { s with toks := s.toks + 1 }) :
    wpAny (model prog w) A (call (.builtin "str.upper") [.str x t]) Q E s :=
  SCL.upper (Nat.le_trans hO.len (by decide)) fun _ => by rw [upper_ok hO]; exact h hO.upp hO.upp.len
local macro_rules | `(tactic| walk_at "call builtin:str.lower") => `(tactic| (k_here; (with_reducible show wpAny _ _ (call (Value.builtin "str.lower") [Value.str _ _]) _ _ _); refine' lower_K ?k1 ?_; (case k1 => assumption); k_whole; intro hO9 hl9))
local macro_rules | `(tactic| walk_at "call ref") => `(tactic| (k_here; (with_reducible show wpAny _ _ (call (Value.ref 43) [Value.str _ _]) _ _ _); refine' is_HDN_spec _ _ _ _ _ _ _ _ _ _ _ _ _ _ _ _ _ _ _ _ ?k1 ?k2 ?k3 ?k4 ?k5 ?kK ?kp ?kd ?ku ?kR; (case k1 => k_asm); (case k2 => k_asm); (case k3 => k_asm); (case k4 => k_asm); (case k5 => k_asm); (case kK => first | exact rfl | assumption); (case kp => first | assumption | exact Ok.slice (by assumption) _ _); (case kd => ktr_room); (case ku => ktr_units); intro v9 h9 tk9 e9 F9 N9; subst e9; (try dsimp only); (try k_fold)))
theorem domain_match_spec {w : World} {p : Program} {loose : List Str} {mean : ExcName → Option Value} {mg mb : Str → Option Value} (news : List (Addr × Obj)) (a b : Str) (ta tb : Tok) :
    Spec 3 24 w p loose mean mg mb 50 [.str a ta, .str b tb] [] news news (Ok a ∧ Ok b) (fun v => v = .bool (dmatch a b)) := by
  dsimp only [Spec]; k_fill; intros; rename_i hpre hdp hun hret; obtain ⟨hOa, hOb⟩ := hpre; have hla := hOa.len; have hlb := hOb.len
  refine wpAny_call ?_
  k_dflt cell_enter
  w_on
  k_steps
  all_goals (try (walk_at "call ref"; k_steps))
  all_goals (refine sp_ret hret ?e1 ?e2 ?e3; (case e2 => k_asm); (case e3 => k_asm); (case e1 => (refine congrArg Value.bool ?_; simp [dmatch, *])))
end Mine
end

section
open PySem PySem.W PyProof.Rows
set_option maxRecDepth 100000
set_option maxHeartbeats 4000000
namespace Mine
/-- the walk halts here -/
def Hold (P : Prop) : Prop := P
theorem Hold.out {P : Prop} (h : Hold P) : P := h
/-- q parts the places below n: p is so ahead of it, and not from it on -/
structure Bnd (p : Nat → Bool) (n q : Nat) : Prop where
  le : q ≤ n
  yes : ∀ i, i < q → p i = true
  no : ∀ i, q ≤ i → i < n → p i = false
def BisIn (p : Nat → Bool) (n : Nat) (lo hi : Int) : Prop := ∀ q, Bnd p n q → lo ≤ q ∧ (q : Int) ≤ hi
/-- what a search by halving tells -/
structure BisR (p : Nat → Bool) (n : Nat) (r : Int) : Prop where
  lo : 0 ≤ r
  hi : r ≤ n
  eq : ∀ q : Nat, Bnd p n q → r = q
theorem bis_start (p : Nat → Bool) (n : Nat) : BisIn p n 0 n := fun q b => ⟨by omega, by have := b.le; omega⟩
theorem bis_up {p : Nat → Bool} {n : Nat} {lo hi mid : Int} (h : BisIn p n lo hi) (h0 : 0 ≤ mid) (hn : mid < n) (e : p mid.toNat = true) : BisIn p n (mid + 1) hi := fun q b => by
  refine ⟨?_, (h q b).2⟩
  rcases (show mid < (q : Int) ∨ (q : Int) ≤ mid by omega) with g | g
  · omega
  · have := b.no mid.toNat (by omega) (by omega)
    rw [e] at this; cases this
theorem bis_down {p : Nat → Bool} {n : Nat} {lo hi mid : Int} (h : BisIn p n lo hi) (h0 : 0 ≤ mid) (hn : mid < n) (e : p mid.toNat = false) : BisIn p n lo mid := fun q b => by
  refine ⟨(h q b).1, ?_⟩
  rcases (show mid < (q : Int) ∨ (q : Int) ≤ mid by omega) with g | g
  · have := b.yes mid.toNat (by omega)
    rw [e] at this; cases this
  · omega
theorem bis_end {p : Nat → Bool} {n : Nat} {lo hi : Int} (h : BisIn p n lo hi) (h0 : 0 ≤ lo) (hn : hi ≤ n) (h1 : lo ≤ hi) (e : ¬ lo < hi) : BisR p n lo :=
  ⟨h0, by omega, fun q b => by have := h q b; omega⟩
abbrev BisP (p : Nat → Bool) (n : Nat) (lo hi : Int) : Prop := 0 ≤ lo ∧ lo ≤ hi ∧ hi ≤ (n : Int) ∧ BisIn p n lo hi
theorem half {lo hi : Int} (h0 : 0 ≤ lo) (h1 : lo < hi) : lo ≤ (lo + hi).fdiv 2 ∧ (lo + hi).fdiv 2 < hi := by
  rw [Int.fdiv_eq_ediv_of_nonneg _ (by decide)]
  omega
theorem bis_P0 (p : Nat → Bool) (n : Nat) : BisP p n 0 n := ⟨by omega, by omega, by omega, bis_start p n⟩
theorem bis_Pup {p : Nat → Bool} {n : Nat} {lo hi : Int} (h : BisP p n lo hi) (hlt : lo < hi) (e : p ((lo + hi).fdiv 2).toNat = true) : BisP p n ((lo + hi).fdiv 2 + 1) hi := by
  obtain ⟨h0, h1, h2, h3⟩ := h
  have := half h0 hlt
  exact ⟨by omega, by omega, by omega, bis_up h3 (by omega) (by omega) e⟩
theorem bis_Pdown {p : Nat → Bool} {n : Nat} {lo hi : Int} (h : BisP p n lo hi) (hlt : lo < hi) (e : p ((lo + hi).fdiv 2).toNat = false) : BisP p n lo ((lo + hi).fdiv 2) := by
  obtain ⟨h0, h1, h2, h3⟩ := h
  have := half h0 hlt
  exact ⟨by omega, by omega, by omega, bis_down h3 (by omega) (by omega) e⟩
theorem bis_Pend {p : Nat → Bool} {n : Nat} {lo hi : Int} (h : BisP p n lo hi) (e : ¬ lo < hi) : BisR p n lo := bis_end h.2.2.2 h.1 h.2.2.1 h.2.1 e
theorem strs_at {its : List Value} {ss : List Str} (hS : StrsAre its ss) {k : Nat} (hk : k < ss.length) : ∃ t, its[k]? = some (.str (ss.getD k Str.empty) t) := by
  induction hS generalizing k with
  | nil => simp at hk
  | cons y t _ ih =>
    cases k with
    | zero => exact ⟨t, rfl⟩
    | succ k => exact ih (by simpa using hk)
theorem item_strs {prog : Program} {w : World} {A : Around} {E : Value → Shared → Prop} {s : Shared} {h₀ : Heap} {L : Addr} {news : List (Addr × Obj)} {value slice : PySem.Expr} {l : Addr} {its : Array Value} {n : Nat} {ss : List Str} {k : Int} {u : Tok} {Q : Value → Shared → Prop}
    (N : News h₀ L s.heap news) (hm : (l, W.listOf its n) ∈ news) (hS : StrsAre its.toList ss) (h0 : 0 ≤ k) (hk : k < ss.length) (hn : ss.length ≤ 1000000) (h : ∀ t, Q (.str (ss.getD k.toNat Str.empty) t) s)
    (hs : subscripted slice false (.ref l) (.int k u) = operate [.ref l, .int k u] (getItem (.ref l) (.int k u)) := by with_unfolding_all rfl) :
    wpAny (model prog w) A (subscriptTail value slice (.ref l) (.int k u)) Q E s := by
  have hl : s.heap.IsList l its := ⟨_, N.get hm, rfl, n, rfl⟩
  obtain ⟨t, e⟩ := strs_at hS (k := k.toNat) (by omega)
  exact tail_any hl.typeIs slot_list_getitem.lookup (wpAny_getItem_list hl h0 (by omega) (by simpa using e) (h t)) hs
/-- a contract whose ledger turns -/
abbrev SpecL (d u : Nat) (w : World) (p : Program) (loose : List Str) (mean : ExcName → Option Value) (mg mb : Str → Option Value) (f : Addr) (vs : List Value) (kw : List (Str × Value)) (news : List (Addr × Obj)) (pre : Prop) (Post : Value → List (Addr × Obj) → Prop) : Prop :=
  ∀ (dp un : Nat) (gd : Option (List Code)) (cn : Str) (cs : Scope) (a : Addr) (ccd : Value) (cl : List (Str × Addr)) (outer : List Env) (A₀ : Around) (base h₀ : Heap) (L : Addr) (m : Str → Option Value) (s : Shared) (Q E : Value → Shared → Prop),
    Below A₀ base outer h₀ → Fr h₀ L s.heap m → (Mine.hd.heap_39 w.params).In h₀ → News h₀ L s.heap news → Top p loose mean mg mb h₀ → cs.kind = .function →
    pre → dp + d < recursionLimit → un + u < cLine →
    (∀ (v : Value) (led : List (Addr × Obj)) (h' : Heap) (tk' : Nat), Post v led → Fr h₀ L h' m → News h₀ L h' led → Q v { s with heap := h', toks := tk' }) →
    wpAny (model PySem.Challenge.rw_nb0161_01.row.prog w) (ktrTop dp un gd cn cs L a ccd cl outer) (call (.ref f) vs kw) Q E s
theorem sl_ret {h₀ h' : Heap} {L : Addr} {m : Str → Option Value} {s : Shared} {Q : Value → Shared → Prop} {tk' : Nat} {Post : Value → List (Addr × Obj) → Prop} {v : Value} {led : List (Addr × Obj)}
    (hret : ∀ (v : Value) (led : List (Addr × Obj)) (h' : Heap) (tk' : Nat), Post v led → Fr h₀ L h' m → News h₀ L h' led → Q v { s with heap := h', toks := tk' }) (N : News h₀ L h' led) (F : Fr h₀ L h' m) (e : Post v led) : Q v { s with heap := h', toks := tk' } := hret v led h' tk' e F N
theorem insert_K {prog : Program} {w : World} {A : Around} {E : Value → Shared → Prop} {s : Shared} {h₀ : Heap} {L : Addr} {m : Str → Option Value} {news : List (Addr × Obj)} {l : Addr} {its : Array Value} {n : Nat} {r : Int} {u : Tok} {y : Value} {Q : Value → Shared → Prop}
    (F : Fr h₀ L s.heap m) (N : News h₀ L s.heap ((l, W.listOf its n) :: news)) (hne : ∀ q ∈ news, q.1 ≠ l) (h0 : 0 ≤ r) (hr : r ≤ 64) (hz : its.toList.length ≤ 64)
    (h : ∀ h', Fr h₀ L h' m → News h₀ L h' ((l, W.listOf (kl_ins its.toList r y).toArray (n + 1)) :: news) → Q .none { s with heap := h' }) :
    wpAny (model prog w) A (call (.builtin "list.insert") [.ref l, .int r u, y]) Q E s :=
  kl_insert F N (by unfold Builtin.List.listFitsIndex; simp; omega) rfl (Upd.head hne) (Nat.le_trans hz (by decide)) h
/-- a key that cuts texts -/
def KeyS (w : World) (p : Program) (loose : List Str) (mean : ExcName → Option Value) (mg mb : Str → Option Value) (f : Addr) (led : List (Addr × Obj)) (cut : Str → Str) : Prop :=
  ∀ (t : Str) (tk : Tok), Ok t → Spec 1 12 w p loose mean mg mb f [.str t tk] [] led led True (fun v => ∃ tk', v = .str (cut t) tk')
theorem KeyS.use {w : World} {p : Program} {loose : List Str} {mean : ExcName → Option Value} {mg mb : Str → Option Value} {f : Addr} {led : List (Addr × Obj)} {cut : Str → Str} {t : Str} {tk : Tok}
    {dp un : Nat} {gd : Option (List Code)} {cn : Str} {cs : Scope} {a : Addr} {ccd : Value} {cl : List (Str × Addr)} {outer : List Env} {A₀ : Around} {base h₀ : Heap} {L : Addr} {m : Str → Option Value} {s : Shared} {Q E : Value → Shared → Prop}
    (K : KeyS w p loose mean mg mb f led cut) (hO : Ok t)
    (B : Below A₀ base outer h₀) (F : Fr h₀ L s.heap m) (X : (Mine.hd.heap_39 w.params).In h₀) (N : News h₀ L s.heap led) (T : Top p loose mean mg mb h₀) (hk : cs.kind = .function)
    (hd : dp + 1 < recursionLimit) (hu : un + 12 < cLine) (ret : ∀ (tk' : Tok) (h' : Heap) (tk'' : Nat), Fr h₀ L h' m → News h₀ L h' led → Q (.str (cut t) tk') { s with heap := h', toks := tk'' }) :
    wpAny (model PySem.Challenge.rw_nb0161_01.row.prog w) (ktrTop dp un gd cn cs L a ccd cl outer) (call (.ref f) [.str t tk]) Q E s :=
  K t tk hO _ _ _ _ _ _ _ _ _ _ _ _ _ _ _ _ _ B F X N T hk trivial hd hu fun v h' tk'' e F' N' => by obtain ⟨tk', rfl⟩ := e; exact ret tk' h' tk'' F' N'
theorem ok_at {ss : List Str} (h : ∀ t ∈ ss, Ok t) (i : Nat) : Ok (ss.getD i Str.empty) := by
  by_cases hi : i < ss.length
  · refine h _ ?_
    rw [List.getD_eq_getElem?_getD, List.getElem?_eq_getElem hi]
    exact List.getElem_mem hi
  · rw [List.getD_eq_getElem?_getD, List.getElem?_eq_none (by omega)]
    exact ⟨by decide, fun c hc => by cases hc⟩
theorem ints_at {its : List Value} {ns : List Int} (hS : IntsAre its ns) {k : Nat} (hk : k < ns.length) : ∃ t, its[k]? = some (.int (ns.getD k 0) t) := by
  induction hS generalizing k with
  | nil => simp at hk
  | cons y t _ ih =>
    cases k with
    | zero => exact ⟨t, rfl⟩
    | succ k => exact ih (by simpa using hk)
theorem item_ints {prog : Program} {w : World} {A : Around} {E : Value → Shared → Prop} {s : Shared} {h₀ : Heap} {L : Addr} {news : List (Addr × Obj)} {value slice : PySem.Expr} {l : Addr} {its : Array Value} {n : Nat} {ns : List Int} {k : Int} {u : Tok} {Q : Value → Shared → Prop}
    (N : News h₀ L s.heap news) (hm : (l, W.listOf its n) ∈ news) (hS : IntsAre its.toList ns) (h0 : 0 ≤ k) (hk : k < ns.length) (hn : ns.length ≤ 1000000) (h : ∀ t, Q (.int (ns.getD k.toNat 0) t) s)
    (hs : subscripted slice false (.ref l) (.int k u) = operate [.ref l, .int k u] (getItem (.ref l) (.int k u)) := by with_unfolding_all rfl) :
    wpAny (model prog w) A (subscriptTail value slice (.ref l) (.int k u)) Q E s := by
  have hl : s.heap.IsList l its := ⟨_, N.get hm, rfl, n, rfl⟩
  obtain ⟨t, e⟩ := ints_at hS (k := k.toNat) (by omega)
  exact tail_any hl.typeIs slot_list_getitem.lookup (wpAny_getItem_list hl h0 (by omega) (by simpa using e) (h t)) hs
/-- a key that asks of ints -/
def KeyI (w : World) (p : Program) (loose : List Str) (mean : ExcName → Option Value) (mg mb : Str → Option Value) (f : Addr) (led : List (Addr × Obj)) (ask : Int → Bool) : Prop :=
  ∀ (i : Int) (tk : Tok), Spec 6 60 w p loose mean mg mb f [.int i tk] [] led led (0 ≤ i ∧ i ≤ 64) (fun v => v = .bool (ask i))
theorem KeyI.use {w : World} {p : Program} {loose : List Str} {mean : ExcName → Option Value} {mg mb : Str → Option Value} {f : Addr} {led : List (Addr × Obj)} {ask : Int → Bool} {i : Int} {tk : Tok}
    {dp un : Nat} {gd : Option (List Code)} {cn : Str} {cs : Scope} {a : Addr} {ccd : Value} {cl : List (Str × Addr)} {outer : List Env} {A₀ : Around} {base h₀ : Heap} {L : Addr} {m : Str → Option Value} {s : Shared} {Q E : Value → Shared → Prop}
    (K : KeyI w p loose mean mg mb f led ask) (hO : 0 ≤ i ∧ i ≤ 64)
    (B : Below A₀ base outer h₀) (F : Fr h₀ L s.heap m) (X : (Mine.hd.heap_39 w.params).In h₀) (N : News h₀ L s.heap led) (T : Top p loose mean mg mb h₀) (hk : cs.kind = .function)
    (hd : dp + 6 < recursionLimit) (hu : un + 60 < cLine) (ret : ∀ (h' : Heap) (tk'' : Nat), Fr h₀ L h' m → News h₀ L h' led → Q (.bool (ask i)) { s with heap := h', toks := tk'' }) :
    wpAny (model PySem.Challenge.rw_nb0161_01.row.prog w) (ktrTop dp un gd cn cs L a ccd cl outer) (call (.ref f) [.int i tk]) Q E s :=
  K i tk _ _ _ _ _ _ _ _ _ _ _ _ _ _ _ _ _ B F X N T hk hO hd hu fun v h' tk'' e F' N' => by subst e; exact ret h' tk'' F' N'
theorem int_at {ns : List Int} (h : ∀ i ∈ ns, 0 ≤ i ∧ i ≤ 64) (k : Nat) : 0 ≤ ns.getD k 0 ∧ ns.getD k 0 ≤ 64 := by
  by_cases hi : k < ns.length
  · refine h _ ?_
    rw [List.getD_eq_getElem?_getD, List.getElem?_eq_getElem hi]
    exact List.getElem_mem hi
  · rw [List.getD_eq_getElem?_getD, List.getElem?_eq_none (by omega)]
    exact ⟨by decide, by decide⟩
def leI (ns : List Int) (x : Int) (i : Nat) : Bool := !decide (x < ns.getD i 0)
def askI (ask : Int → Bool) (ns : List Int) (i : Nat) : Bool := !ask (ns.getD i 0)
theorem ask_up {b : Bool} (h : b2i b < b2i true) : (!b) = true := by cases b <;> first | rfl | exact absurd h (Int.lt_irrefl _)
theorem ask_down {b : Bool} (h : ¬ b2i b < b2i true) : (!b) = false := by cases b <;> first | rfl | exact absurd (by decide) h
def ltS (ss : List Str) (x : Str) (i : Nat) : Bool := decide ((ss.getD i Str.empty).cps.toList < x.cps.toList)
def ltK (cut : Str → Str) (ss : List Str) (x : Str) (i : Nat) : Bool := decide ((cut (ss.getD i Str.empty)).cps.toList < x.cps.toList)
def leK (cut : Str → Str) (ss : List Str) (x : Str) (i : Nat) : Bool := !decide (x.cps.toList < (cut (ss.getD i Str.empty)).cps.toList)
end Mine
end

section
open PySem PySem.W PyProof.Rows
set_option maxRecDepth 100000
set_option maxHeartbeats 4000000
namespace Mine
local macro_rules | `(tactic| walk_at "exec While Compare cons nil") => `(tactic| (k_here; refine Hold.out ?_))
local macro_rules | `(tactic| walk_at "subscriptTail") => `(tactic| (k_here; (with_reducible show wpAny _ _ (subscriptTail _ _ (Value.ref _) (Value.int _ _)) _ _ _); (with_unfolding_all refine' item_strs ?k1 ?k2 ?k3 ?k4 ?k5 ?k6 ?_ ?k7; (case k1 => k_asm); (case k2 => k_mem); (case k3 => assumption); (case k4 => (rw [Int.fdiv_eq_ediv_of_nonneg _ (by decide)]; omega)); (case k5 => (rw [Int.fdiv_eq_ediv_of_nonneg _ (by decide)]; omega)); (case k6 => omega); (case k7 => with_unfolding_all rfl); k_whole); intro t9))
theorem bisect_left_spec {w : World} {p : Program} {loose : List Str} {mean : ExcName → Option Value} {mg mb : Str → Option Value} (news : List (Addr × Obj)) (l : Addr) (its : Array Value) (n : Nat) (ss : List Str) (x : Str) (tx : Tok) :
    Spec 3 24 w p loose mean mg mb 77 [.ref l, .str x tx] [] ((l, W.listOf its n) :: news) ((l, W.listOf its n) :: news) (Ok x ∧ StrsAre its.toList ss ∧ ss.length ≤ 64) (fun v => ∃ r t, v = .int r t ∧ BisR (ltS ss x) ss.length r) := by
  dsimp only [Spec]; k_fill; intros; rename_i hpre hdp hun hret; obtain ⟨hOa, hS, hlen⟩ := hpre; have hla := hOa.len
  refine wpAny_call ?_
  k_dflt (refine' code_def ?k1 ?k2 ?k3 ?k4 ?k5 ?kA ?kF ?kK ?k6 ?k7 ?k8 ?k9 ?kB ?_ ?c2 ?c3 ?c4 ?c5; (case kA => exact rfl); (case kF => exact rfl); (case kK => assumption); (case k1 => k_asm); (case k2 => k_asm); (case k3 => k_asm); (case k4 => k_asm); (case k5 => k_asm); (case k6 => k_is); (case k7 => k_is); (case k8 => ktr_room); (case k9 => exact kp_binds (by k_in) (fun _ => by rfl)); (case c5 => decide); (case kB => exact locs rfl); (case c2 => exact rfl); (case c3 => exact rfl); (case c4 => exact rfl); k_whole; intro g' L' h' FG' F' N' B' X' T'; (try dsimp only); (try k_lift B'); (try k_fold))
  w_on
  k_steps
  all_goals (try unfold Hold)
  (k_with "state" => first | exact bis_P0 _ _ | exact bis_Pup ⟨by assumption, by assumption, by assumption, by assumption⟩ (by assumption) (decide_eq_true (by assumption)) | exact bis_Pdown ⟨by assumption, by assumption, by assumption, by assumption⟩ (by assumption) (decide_eq_false (by assumption)))
  (k_with "measure" => (rw [Int.fdiv_eq_ediv_of_nonneg _ (by decide)]; omega))
  k_while (fun _ lo hi => BisP (ltS ss x) ss.length lo hi) (fun _ lo hi => (hi - lo).toNat) "lo" "hi"
  k_steps
  all_goals (refine sp_ret hret ?e1 ?e2 ?e3; (case e2 => k_asm); (case e3 => k_asm); (case e1 => exact ⟨_, _, rfl, bis_Pend ⟨by assumption, by assumption, by assumption, by assumption⟩ (by assumption)⟩))
end Mine
end

section
open PySem PySem.W PyProof.Rows
set_option maxRecDepth 100000
set_option maxHeartbeats 4000000
namespace Mine
local macro_rules | `(tactic| walk_at "exec While Compare cons nil") => `(tactic| (k_here; refine Hold.out ?_))
local macro_rules | `(tactic| walk_at "subscriptTail") => `(tactic| (k_here; (with_reducible show wpAny _ _ (subscriptTail _ _ (Value.ref _) (Value.int _ _)) _ _ _); (with_unfolding_all refine' item_strs ?k1 ?k2 ?k3 ?k4 ?k5 ?k6 ?_ ?k7; (case k1 => k_asm); (case k2 => k_mem); (case k3 => assumption); (case k4 => (rw [Int.fdiv_eq_ediv_of_nonneg _ (by decide)]; omega)); (case k5 => (rw [Int.fdiv_eq_ediv_of_nonneg _ (by decide)]; omega)); (case k6 => omega); (case k7 => with_unfolding_all rfl); k_whole); intro t9))
theorem bisect_left4_spec {w : World} {p : Program} {loose : List Str} {mean : ExcName → Option Value} {mg mb : Str → Option Value} (news : List (Addr × Obj)) (l : Addr) (its : Array Value) (n : Nat) (ss : List Str) (x : Str) (tx : Tok) (t0 : Tok) :
    Spec 3 24 w p loose mean mg mb 77 [.ref l, .str x tx, .int 0 t0, .none] [] ((l, W.listOf its n) :: news) ((l, W.listOf its n) :: news) (Ok x ∧ StrsAre its.toList ss ∧ ss.length ≤ 64) (fun v => ∃ r t, v = .int r t ∧ BisR (ltS ss x) ss.length r) := by
  dsimp only [Spec]; k_fill; intros; rename_i hpre hdp hun hret; obtain ⟨hOa, hS, hlen⟩ := hpre; have hla := hOa.len
  refine wpAny_call ?_
  k_dflt (refine' code_def ?k1 ?k2 ?k3 ?k4 ?k5 ?kA ?kF ?kK ?k6 ?k7 ?k8 ?k9 ?kB ?_ ?c2 ?c3 ?c4 ?c5; (case kA => exact rfl); (case kF => exact rfl); (case kK => assumption); (case k1 => k_asm); (case k2 => k_asm); (case k3 => k_asm); (case k4 => k_asm); (case k5 => k_asm); (case k6 => k_is); (case k7 => k_is); (case k8 => ktr_room); (case k9 => exact kp_binds (by k_in) (fun _ => by rfl)); (case c5 => decide); (case kB => exact locs rfl); (case c2 => exact rfl); (case c3 => exact rfl); (case c4 => exact rfl); k_whole; intro g' L' h' FG' F' N' B' X' T'; (try dsimp only); (try k_lift B'); (try k_fold))
  w_on
  k_steps
  all_goals (try unfold Hold)
  (k_with "state" => first | exact bis_P0 _ _ | exact bis_Pup ⟨by assumption, by assumption, by assumption, by assumption⟩ (by assumption) (decide_eq_true (by assumption)) | exact bis_Pdown ⟨by assumption, by assumption, by assumption, by assumption⟩ (by assumption) (decide_eq_false (by assumption)))
  (k_with "measure" => (rw [Int.fdiv_eq_ediv_of_nonneg _ (by decide)]; omega))
  k_while (fun _ lo hi => BisP (ltS ss x) ss.length lo hi) (fun _ lo hi => (hi - lo).toNat) "lo" "hi"
  k_steps
  all_goals (refine sp_ret hret ?e1 ?e2 ?e3; (case e2 => k_asm); (case e3 => k_asm); (case e1 => exact ⟨_, _, rfl, bis_Pend ⟨by assumption, by assumption, by assumption, by assumption⟩ (by assumption)⟩))
end Mine
end

section
open PySem PySem.W PyProof.Rows
set_option maxRecDepth 100000
set_option maxHeartbeats 4000000
namespace Mine
local macro_rules | `(tactic| walk_at "exec While Compare cons nil") => `(tactic| (k_here; refine Hold.out ?_))
local macro_rules | `(tactic| walk_at "subscriptTail") => `(tactic| (k_here; (with_reducible show wpAny _ _ (subscriptTail _ _ (Value.ref _) (Value.int _ _)) _ _ _); (with_unfolding_all refine' item_strs ?k1 ?k2 ?k3 ?k4 ?k5 ?k6 ?_ ?k7; (case k1 => k_asm); (case k2 => k_mem); (case k3 => assumption); (case k4 => (rw [Int.fdiv_eq_ediv_of_nonneg _ (by decide)]; omega)); (case k5 => (rw [Int.fdiv_eq_ediv_of_nonneg _ (by decide)]; omega)); (case k6 => omega); (case k7 => with_unfolding_all rfl); k_whole); intro t9))
local macro_rules | `(tactic| walk_at "callWith ref") => `(tactic| (k_here; k_dflt (refine' callWith_F ?k1 ?_; (case k1 => exact FnAt.of (by k_asm) (by k_mem)); k_whole)))
local macro_rules | `(tactic| walk_at "call ref") => `(tactic| (k_here; (try dsimp only [List.nil_append]); (with_reducible show wpAny _ _ (call (Value.ref _) [Value.str _ _]) _ _ _); refine' KeyS.use ?k0 ?kO ?k1 ?k2 ?k3 ?k4 ?k5 ?kK ?kd ?ku ?_; (case k0 => assumption); (case kO => exact ok_at (by assumption) _); (case k1 => k_asm); (case k2 => k_asm); (case k3 => k_asm); (case k4 => k_asm); (case k5 => k_asm); (case kK => first | exact rfl | assumption); (case kd => ktr_room); (case ku => ktr_units); intro t9 h9 tk9 F9 N9; (try dsimp only); (try k_fold)))
theorem bisect_left_key {w : World} {p : Program} {loose : List Str} {mean : ExcName → Option Value} {mg mb : Str → Option Value} (news : List (Addr × Obj)) (l f : Addr) (its : Array Value) (n : Nat) (oc : Value) (od : Option Addr) (fd : FuncData) (sl : Array (Option Value)) (ss : List Str) (x : Str) (tx : Tok) (cut : Str → Str) :
    Spec 3 24 w p loose mean mg mb 77 [.ref l, .str x tx] [(Str.ofString "key", .ref f)] ((l, W.listOf its n) :: (f, ⟨oc, od, .func fd, sl⟩) :: news) ((l, W.listOf its n) :: (f, ⟨oc, od, .func fd, sl⟩) :: news)
      (Ok x ∧ StrsAre its.toList ss ∧ ss.length ≤ 64 ∧ (∀ t ∈ ss, Ok t) ∧ KeyS w p loose mean mg mb f ((l, W.listOf its n) :: (f, ⟨oc, od, .func fd, sl⟩) :: news) cut) (fun v => ∃ r t, v = .int r t ∧ BisR (ltK cut ss x) ss.length r) := by
  dsimp only [Spec]; k_fill; intros; rename_i hpre hdp hun hret; obtain ⟨hOa, hS, hlen, hOs, hK⟩ := hpre; have hla := hOa.len
  refine wpAny_call ?_
  k_dflt (refine' code_def ?k1 ?k2 ?k3 ?k4 ?k5 ?kA ?kF ?kK ?k6 ?k7 ?k8 ?k9 ?kB ?_ ?c2 ?c3 ?c4 ?c5; (case kA => exact rfl); (case kF => exact rfl); (case kK => assumption); (case k1 => k_asm); (case k2 => k_asm); (case k3 => k_asm); (case k4 => k_asm); (case k5 => k_asm); (case k6 => k_is); (case k7 => k_is); (case k8 => ktr_room); (case k9 => exact kp_binds (by k_in) (fun _ => by rfl)); (case c5 => decide); (case kB => exact locs rfl); (case c2 => exact rfl); (case c3 => exact rfl); (case c4 => exact rfl); k_whole; intro g' L' h' FG' F' N' B' X' T'; (try dsimp only); (try k_lift B'); (try k_fold))
  w_on
  k_steps
  all_goals (try unfold Hold)
  (k_with "state" => first | exact bis_P0 _ _ | exact bis_Pup ⟨by assumption, by assumption, by assumption, by assumption⟩ (by assumption) (decide_eq_true (by assumption)) | exact bis_Pdown ⟨by assumption, by assumption, by assumption, by assumption⟩ (by assumption) (decide_eq_false (by assumption)))
  (k_with "measure" => (rw [Int.fdiv_eq_ediv_of_nonneg _ (by decide)]; omega))
  k_while (fun _ lo hi => BisP (ltK cut ss x) ss.length lo hi) (fun _ lo hi => (hi - lo).toNat) "lo" "hi"
  k_steps
  all_goals (try (walk_at "call ref"; k_steps))
  all_goals (refine sp_ret hret ?e1 ?e2 ?e3; (case e2 => k_asm); (case e3 => k_asm); (case e1 => exact ⟨_, _, rfl, bis_Pend ⟨by assumption, by assumption, by assumption, by assumption⟩ (by assumption)⟩))
end Mine
end

section
open PySem PySem.W PyProof.Rows
set_option maxRecDepth 100000
set_option maxHeartbeats 4000000
namespace Mine
local macro_rules | `(tactic| walk_at "exec While Compare cons nil") => `(tactic| (k_here; refine Hold.out ?_))
local macro_rules | `(tactic| walk_at "subscriptTail") => `(tactic| (k_here; (with_reducible show wpAny _ _ (subscriptTail _ _ (Value.ref _) (Value.int _ _)) _ _ _); (with_unfolding_all refine' item_strs ?k1 ?k2 ?k3 ?k4 ?k5 ?k6 ?_ ?k7; (case k1 => k_asm); (case k2 => k_mem); (case k3 => assumption); (case k4 => (rw [Int.fdiv_eq_ediv_of_nonneg _ (by decide)]; omega)); (case k5 => (rw [Int.fdiv_eq_ediv_of_nonneg _ (by decide)]; omega)); (case k6 => omega); (case k7 => with_unfolding_all rfl); k_whole); intro t9))
local macro_rules | `(tactic| walk_at "callWith ref") => `(tactic| (k_here; k_dflt (refine' callWith_F ?k1 ?_; (case k1 => exact FnAt.of (by k_asm) (by k_mem)); k_whole)))
local macro_rules | `(tactic| walk_at "call ref") => `(tactic| (k_here; (try dsimp only [List.nil_append]); (with_reducible show wpAny _ _ (call (Value.ref _) [Value.str _ _]) _ _ _); refine' KeyS.use ?k0 ?kO ?k1 ?k2 ?k3 ?k4 ?k5 ?kK ?kd ?ku ?_; (case k0 => assumption); (case kO => exact ok_at (by assumption) _); (case k1 => k_asm); (case k2 => k_asm); (case k3 => k_asm); (case k4 => k_asm); (case k5 => k_asm); (case kK => first | exact rfl | assumption); (case kd => ktr_room); (case ku => ktr_units); intro t9 h9 tk9 F9 N9; (try dsimp only); (try k_fold)))
theorem bisect_right_key {w : World} {p : Program} {loose : List Str} {mean : ExcName → Option Value} {mg mb : Str → Option Value} (news : List (Addr × Obj)) (l f : Addr) (its : Array Value) (n : Nat) (oc : Value) (od : Option Addr) (fd : FuncData) (sl : Array (Option Value)) (ss : List Str) (x : Str) (tx : Tok) (cut : Str → Str) :
    Spec 3 24 w p loose mean mg mb 59 [.ref l, .str x tx] [(Str.ofString "key", .ref f)] ((l, W.listOf its n) :: (f, ⟨oc, od, .func fd, sl⟩) :: news) ((l, W.listOf its n) :: (f, ⟨oc, od, .func fd, sl⟩) :: news)
      (Ok x ∧ StrsAre its.toList ss ∧ ss.length ≤ 64 ∧ (∀ t ∈ ss, Ok t) ∧ KeyS w p loose mean mg mb f ((l, W.listOf its n) :: (f, ⟨oc, od, .func fd, sl⟩) :: news) cut) (fun v => ∃ r t, v = .int r t ∧ BisR (leK cut ss x) ss.length r) := by
  dsimp only [Spec]; k_fill; intros; rename_i hpre hdp hun hret; obtain ⟨hOa, hS, hlen, hOs, hK⟩ := hpre; have hla := hOa.len
  refine wpAny_call ?_
  k_dflt (refine' code_def ?k1 ?k2 ?k3 ?k4 ?k5 ?kA ?kF ?kK ?k6 ?k7 ?k8 ?k9 ?kB ?_ ?c2 ?c3 ?c4 ?c5; (case kA => exact rfl); (case kF => exact rfl); (case kK => assumption); (case k1 => k_asm); (case k2 => k_asm); (case k3 => k_asm); (case k4 => k_asm); (case k5 => k_asm); (case k6 => k_is); (case k7 => k_is); (case k8 => ktr_room); (case k9 => exact kp_binds (by k_in) (fun _ => by rfl)); (case c5 => decide); (case kB => exact locs rfl); (case c2 => exact rfl); (case c3 => exact rfl); (case c4 => exact rfl); k_whole; intro g' L' h' FG' F' N' B' X' T'; (try dsimp only); (try k_lift B'); (try k_fold))
  w_on
  k_steps
  all_goals (try unfold Hold)
  (k_with "state" => first | exact bis_P0 _ _ | exact bis_Pup ⟨by assumption, by assumption, by assumption, by assumption⟩ (by assumption) (by unfold leK; rw [decide_eq_false (by assumption)]; rfl) | exact bis_Pdown ⟨by assumption, by assumption, by assumption, by assumption⟩ (by assumption) (by unfold leK; rw [decide_eq_true (by assumption)]; rfl))
  (k_with "measure" => (rw [Int.fdiv_eq_ediv_of_nonneg _ (by decide)]; omega))
  k_while (fun _ lo hi => BisP (leK cut ss x) ss.length lo hi) (fun _ lo hi => (hi - lo).toNat) "lo" "hi"
  k_steps
  all_goals (try (walk_at "call ref"; k_steps))
  all_goals (refine sp_ret hret ?e1 ?e2 ?e3; (case e2 => k_asm); (case e3 => k_asm); (case e1 => exact ⟨_, _, rfl, bis_Pend ⟨by assumption, by assumption, by assumption, by assumption⟩ (by assumption)⟩))
end Mine
end

section
open PySem PySem.W PyProof.Rows
set_option maxRecDepth 100000
set_option maxHeartbeats 4000000
namespace Mine
local macro_rules | `(tactic| walk_at "exec While Compare cons nil") => `(tactic| (k_here; refine Hold.out ?_))
local macro_rules | `(tactic| walk_at "subscriptTail") => `(tactic| (k_here; (with_reducible show wpAny _ _ (subscriptTail _ _ (Value.ref _) (Value.int _ _)) _ _ _); (with_unfolding_all refine' item_ints ?k1 ?k2 ?k3 ?k4 ?k5 ?k6 ?_ ?k7; (case k1 => k_asm); (case k2 => k_mem); (case k3 => assumption); (case k4 => (rw [Int.fdiv_eq_ediv_of_nonneg _ (by decide)]; omega)); (case k5 => (rw [Int.fdiv_eq_ediv_of_nonneg _ (by decide)]; omega)); (case k6 => omega); (case k7 => with_unfolding_all rfl); k_whole); intro t9))
theorem bisect_right_ints {w : World} {p : Program} {loose : List Str} {mean : ExcName → Option Value} {mg mb : Str → Option Value} (news : List (Addr × Obj)) (l : Addr) (its : Array Value) (n : Nat) (ss : List Int) (x : Int) (tx : Tok) :
    Spec 3 24 w p loose mean mg mb 59 [.ref l, .int x tx] [] ((l, W.listOf its n) :: news) ((l, W.listOf its n) :: news)
      (IntsAre its.toList ss ∧ ss.length ≤ 64) (fun v => ∃ r t, v = .int r t ∧ BisR (leI ss x) ss.length r) := by
  dsimp only [Spec]; k_fill; intros; rename_i hpre hdp hun hret; obtain ⟨hS, hlen⟩ := hpre
  refine wpAny_call ?_
  k_dflt (refine' code_def ?k1 ?k2 ?k3 ?k4 ?k5 ?kA ?kF ?kK ?k6 ?k7 ?k8 ?k9 ?kB ?_ ?c2 ?c3 ?c4 ?c5; (case kA => exact rfl); (case kF => exact rfl); (case kK => assumption); (case k1 => k_asm); (case k2 => k_asm); (case k3 => k_asm); (case k4 => k_asm); (case k5 => k_asm); (case k6 => k_is); (case k7 => k_is); (case k8 => ktr_room); (case k9 => exact kp_binds (by k_in) (fun _ => by rfl)); (case c5 => decide); (case kB => exact locs rfl); (case c2 => exact rfl); (case c3 => exact rfl); (case c4 => exact rfl); k_whole; intro g' L' h' FG' F' N' B' X' T'; (try dsimp only); (try k_lift B'); (try k_fold))
  w_on
  k_steps
  all_goals (try unfold Hold)
  (k_with "state" => first | exact bis_P0 _ _ | exact bis_Pup ⟨by assumption, by assumption, by assumption, by assumption⟩ (by assumption) (by unfold leI; rw [decide_eq_false (by assumption)]; rfl) | exact bis_Pdown ⟨by assumption, by assumption, by assumption, by assumption⟩ (by assumption) (by unfold leI; rw [decide_eq_true (by assumption)]; rfl))
  (k_with "measure" => (rw [Int.fdiv_eq_ediv_of_nonneg _ (by decide)]; omega))
  k_while (fun _ lo hi => BisP (leI ss x) ss.length lo hi) (fun _ lo hi => (hi - lo).toNat) "lo" "hi"
  k_steps
  all_goals (refine sp_ret hret ?e1 ?e2 ?e3; (case e2 => k_asm); (case e3 => k_asm); (case e1 => exact ⟨_, _, rfl, bis_Pend ⟨by assumption, by assumption, by assumption, by assumption⟩ (by assumption)⟩))
end Mine
end

section
open PySem PySem.W PyProof.Rows
set_option maxRecDepth 100000
set_option maxHeartbeats 4000000
namespace Mine
local macro_rules | `(tactic| walk_at "exec While Compare cons nil") => `(tactic| (k_here; refine Hold.out ?_))
local macro_rules | `(tactic| walk_at "subscriptTail") => `(tactic| (k_here; (with_reducible show wpAny _ _ (subscriptTail _ _ (Value.ref _) (Value.int _ _)) _ _ _); (with_unfolding_all refine' item_ints ?k1 ?k2 ?k3 ?k4 ?k5 ?k6 ?_ ?k7; (case k1 => k_asm); (case k2 => k_mem); (case k3 => assumption); (case k4 => (rw [Int.fdiv_eq_ediv_of_nonneg _ (by decide)]; omega)); (case k5 => (rw [Int.fdiv_eq_ediv_of_nonneg _ (by decide)]; omega)); (case k6 => omega); (case k7 => with_unfolding_all rfl); k_whole); intro t9))
local macro_rules | `(tactic| walk_at "callWith ref") => `(tactic| (k_here; k_dflt (refine' callWith_F ?k1 ?_; (case k1 => exact FnAt.of (by k_asm) (by k_mem)); k_whole)))
local macro_rules | `(tactic| walk_at "call ref") => `(tactic| (k_here; (try dsimp only [List.nil_append]); (with_reducible show wpAny _ _ (call (Value.ref _) [Value.int _ _]) _ _ _); refine' KeyI.use ?k0 ?kO ?k1 ?k2 ?k3 ?k4 ?k5 ?kK ?kd ?ku ?_; (case k0 => assumption); (case kO => exact int_at (by assumption) _); (case k1 => k_asm); (case k2 => k_asm); (case k3 => k_asm); (case k4 => k_asm); (case k5 => k_asm); (case kK => first | exact rfl | assumption); (case kd => ktr_room); (case ku => ktr_units); intro h9 tk9 F9 N9; (try dsimp only); (try k_fold)))
theorem bisect_left_ask {w : World} {p : Program} {loose : List Str} {mean : ExcName → Option Value} {mg mb : Str → Option Value} (news : List (Addr × Obj)) (l f : Addr) (its : Array Value) (n : Nat) (oc : Value) (od : Option Addr) (fd : FuncData) (sl : Array (Option Value)) (ss : List Int) (ask : Int → Bool) :
    Spec 9 90 w p loose mean mg mb 77 [.ref l, .bool true] [(Str.ofString "key", .ref f)] ((l, W.listOf its n) :: (f, ⟨oc, od, .func fd, sl⟩) :: news) ((l, W.listOf its n) :: (f, ⟨oc, od, .func fd, sl⟩) :: news)
      (IntsAre its.toList ss ∧ ss.length ≤ 64 ∧ (∀ i ∈ ss, 0 ≤ i ∧ i ≤ 64) ∧ KeyI w p loose mean mg mb f ((l, W.listOf its n) :: (f, ⟨oc, od, .func fd, sl⟩) :: news) ask) (fun v => ∃ r t, v = .int r t ∧ BisR (askI ask ss) ss.length r) := by
  dsimp only [Spec]; k_fill; intros; rename_i hpre hdp hun hret; obtain ⟨hS, hlen, hOs, hK⟩ := hpre
  refine wpAny_call ?_
  k_dflt (refine' code_def ?k1 ?k2 ?k3 ?k4 ?k5 ?kA ?kF ?kK ?k6 ?k7 ?k8 ?k9 ?kB ?_ ?c2 ?c3 ?c4 ?c5; (case kA => exact rfl); (case kF => exact rfl); (case kK => assumption); (case k1 => k_asm); (case k2 => k_asm); (case k3 => k_asm); (case k4 => k_asm); (case k5 => k_asm); (case k6 => k_is); (case k7 => k_is); (case k8 => ktr_room); (case k9 => exact kp_binds (by k_in) (fun _ => by rfl)); (case c5 => decide); (case kB => exact locs rfl); (case c2 => exact rfl); (case c3 => exact rfl); (case c4 => exact rfl); k_whole; intro g' L' h' FG' F' N' B' X' T'; (try dsimp only); (try k_lift B'); (try k_fold))
  w_on
  k_steps
  all_goals (try unfold Hold)
  (k_with "state" => first | exact bis_P0 _ _ | exact bis_Pup ⟨by assumption, by assumption, by assumption, by assumption⟩ (by assumption) (ask_up (by assumption)) | exact bis_Pdown ⟨by assumption, by assumption, by assumption, by assumption⟩ (by assumption) (ask_down (by assumption)))
  (k_with "measure" => (rw [Int.fdiv_eq_ediv_of_nonneg _ (by decide)]; omega))
  k_while (fun _ lo hi => BisP (askI ask ss) ss.length lo hi) (fun _ lo hi => (hi - lo).toNat) "lo" "hi"
  k_steps
  all_goals (try (walk_at "call ref"; k_steps))
  all_goals (refine sp_ret hret ?e1 ?e2 ?e3; (case e2 => k_asm); (case e3 => k_asm); (case e1 => exact ⟨_, _, rfl, bis_Pend ⟨by assumption, by assumption, by assumption, by assumption⟩ (by assumption)⟩))
end Mine
end

section
open PySem PySem.W PyProof.Rows
set_option maxRecDepth 100000
set_option maxHeartbeats 4000000
namespace Mine
local macro_rules | `(tactic| walk_at "call ref") => `(tactic| (k_here; (with_reducible show wpAny _ _ (call (Value.ref 77) [Value.ref _, Value.str _ _, Value.int _ _, Value.none]) _ _ _); refine' bisect_left4_spec _ _ _ _ _ _ _ _ _ _ _ _ _ _ _ _ _ _ _ _ _ _ _ _ _ ?k1 ?k2 ?k3 ?k4 ?k5 ?kK ?kp ?kd ?ku ?kR; (case k1 => k_asm); (case k2 => k_asm); (case k3 => k_asm); (case k4 => k_asm); (case k5 => k_asm); (case kK => first | exact rfl | assumption); (case kp => exact ⟨by assumption, by assumption, by omega⟩); (case kd => ktr_room); (case ku => ktr_units); intro v9 h9 tk9 e9 F9 N9; obtain ⟨r9, t9, e9, hb9⟩ := e9; subst e9; (have hlo9 := hb9.lo); (have hhi9 := hb9.hi); (try dsimp only); (try k_fold)))
local macro_rules | `(tactic| walk_at "call builtin:list.insert") => `(tactic| (k_here; (try dsimp only [List.nil_append, List.cons_append]); (with_reducible show wpAny _ _ (call (Value.builtin _) [Value.ref _, Value.int _ _, _]) _ _ _); k_dflt (refine' insert_K ?k1 ?k2 ?k3 ?k4 ?k5 ?k6 ?_; (case k1 => k_asm); (case k2 => k_asm); (case k3 => assumption); (case k4 => assumption); (case k5 => omega); (case k6 => assumption); k_whole); intro h9 F9 N9))
theorem insort_left_spec {w : World} {p : Program} {loose : List Str} {mean : ExcName → Option Value} {mg mb : Str → Option Value} (news : List (Addr × Obj)) (l : Addr) (its : Array Value) (n : Nat) (ss : List Str) (x : Str) (tx : Tok) :
    SpecL 5 40 w p loose mean mg mb 68 [.ref l, .str x tx] [] ((l, W.listOf its n) :: news) (Ok x ∧ StrsAre its.toList ss ∧ ss.length ≤ 63 ∧ ∀ q ∈ news, q.1 ≠ l)
      (fun v led => v = .none ∧ ∃ r, BisR (ltS ss x) ss.length r ∧ led = (l, W.listOf (kl_ins its.toList r (.str x tx)).toArray (n + 1)) :: news) := by
  dsimp only [SpecL]; k_fill; intros; rename_i hpre hdp hun hret; obtain ⟨hOa, hS, hlen, hne⟩ := hpre; have hla := hOa.len
  have hil : its.toList.length ≤ 64 := by rw [StrsAre.length hS]; omega
  refine wpAny_call ?_
  k_dflt (refine' code_def ?k1 ?k2 ?k3 ?k4 ?k5 ?kA ?kF ?kK ?k6 ?k7 ?k8 ?k9 ?kB ?_ ?c2 ?c3 ?c4 ?c5; (case kA => exact rfl); (case kF => exact rfl); (case kK => assumption); (case k1 => k_asm); (case k2 => k_asm); (case k3 => k_asm); (case k4 => k_asm); (case k5 => k_asm); (case k6 => k_is); (case k7 => k_is); (case k8 => ktr_room); (case k9 => exact kp_binds (by k_in) (fun _ => by rfl)); (case c5 => decide); (case kB => exact locs rfl); (case c2 => exact rfl); (case c3 => exact rfl); (case c4 => exact rfl); k_whole; intro g' L' h' FG' F' N' B' X' T'; (try dsimp only); (try k_lift B'); (try k_fold))
  w_on
  k_steps
  all_goals (try (walk_at "call builtin:list.insert"; k_steps))
  all_goals (rename News _ _ _ _ => kN9; exact sl_ret hret kN9 (by assumption) ⟨rfl, _, by assumption, rfl⟩)
end Mine
end

section
open PySem PySem.W PyProof.Rows
set_option maxRecDepth 100000
set_option maxHeartbeats 4000000
namespace Mine
theorem ne_of_at {z : List (Str × Tok)} {y : Str} (h : (List.map (fun x => x.fst) z)[Int.toNat 0]? = some y) : z ≠ [] := by
  intro e; subst e; cases h
@[irreducible] def lastP (z : List (Str × Tok)) : Str := (List.map (fun x => x.fst) z).getLast?.getD Str.empty
theorem lastP_snoc (q : List (Str × Tok)) (e : Str × Tok) : lastP (q ++ [e]) = e.1 := by unfold lastP; simp
theorem item_last {prog : Program} {w : World} {A : Around} {E : Value → Shared → Prop} {s : Shared} {h₀ : Heap} {L : Addr} {news : List (Addr × Obj)} {value slice : PySem.Expr} {l : Addr} {z : List (Str × Tok)} {n : Nat} {u : Tok} {x : Str} {Q : Value → Shared → Prop}
    (N : News h₀ L s.heap news) (hm : (l, ({ cls := .type "list", data := .seq (strValues z).toArray n } : Obj)) ∈ news) (hz : z ≠ []) (hle : ∀ a, a ∈ List.map (fun x => x.fst) z → a.length ≤ x.length) (hx : x.length ≤ 64)
    (h : ∀ t, (lastP z).length ≤ 64 → Q (.str (lastP z) t) s)
    (hs : subscripted slice false (.ref l) (.int (-1) u) = operate [.ref l, .int (-1) u] (getItem (.ref l) (.int (-1) u)) := by with_unfolding_all rfl) :
    wpAny (model prog w) A (subscriptTail value slice (.ref l) (.int (-1) u)) Q E s := by
  have hl : s.heap.IsList l (strValues z).toArray := ⟨_, N.get hm, rfl, n, rfl⟩
  obtain ⟨q, e, rfl⟩ : ∃ q a, z = q ++ [a] := ⟨z.dropLast, z.getLast hz, (List.dropLast_concat_getLast hz).symm⟩
  have hsz : (strValues (q ++ [e])).toArray.size = q.length + 1 := by simp [strValues]
  refine tail_any hl.typeIs slot_list_getitem.lookup (wpAny_getItem_list_neg (k := -1) (x := .str e.1 e.2) hl (by decide) (by rw [hsz]; omega) (by decide) ?_ ?_) hs
  · rw [hsz, show ((-1 : Int) + ((q.length + 1 : Nat) : Int)).toNat = q.length by omega]
    simp [strValues]
  · have := h e.2 (by rw [lastP_snoc]; exact Nat.le_trans (hle _ (by simp)) hx)
    rwa [lastP_snoc] at this
local macro_rules | `(tactic| walk_at "subscriptTail Name UnaryOp ref int") => `(tactic| (k_here; (with_reducible show wpAny _ _ (subscriptTail _ _ (Value.ref _) (Value.int _ _)) _ _ _); (with_unfolding_all refine' item_last ?k1 ?k2 ?k3 ?k4 ?k5 ?_ ?k7; (case k1 => k_asm); (case k2 => k_mem); (case k3 => exact ne_of_at (by assumption)); (case k4 => assumption); (case k5 => assumption); (case k7 => with_unfolding_all rfl); k_whole); intro t9 hl9))
local macro_rules | `(tactic| walk_at "call builtin:str.replace") => `(tactic| (k_here; (try dsimp only [List.nil_append, List.cons_append]); (with_reducible show wpAny _ _ (call (Value.builtin "str.replace") [Value.str _ _, Value.str _ _, Value.str _ _]) _ _ _); refine' SC.replaceW ?k1 ?k2 ?k3 ?k4 ?k5 ?k6 ?_; (case k1 => omega); (case k2 => omega); (case k3 => omega); (case k4 => decide); (case k5 => omega); (case k6 => decide); k_whole; intro t9 k9))
/-- what _law_name tells -/
def lname (t : Str) : Bool := !((Txt.split t (Str.ofString "."))[0]?.getD Str.empty == Str.ofString "") && (!((Txt.split t (Str.ofString ".")).getLast?.getD Str.empty == Str.ofString "") && (((Txt.split t (Str.ofString ".")).length : Int) == 1 || Txt.replace ((Txt.split t (Str.ofString ".")).getLast?.getD Str.empty) (Str.ofString "7") (Str.ofString "") != Str.ofString ""))
theorem lname_of {t ya : Str} {z : List (Str × Tok)} (hl : List.map (fun x => x.fst) z = Txt.split t (Str.ofString ".")) (h0 : (List.map (fun x => x.fst) z)[Int.toNat 0]? = some ya) :
    lname t = (!(ya == Str.ofString "") && (!(lastP z == Str.ofString "") && (((z.length : Nat) : Int) == 1 || Txt.replace (lastP z) (Str.ofString "7") (Str.ofString "") != Str.ofString ""))) := by
  unfold lname lastP
  have h0' : (List.map (fun x => x.fst) z)[0]? = some ya := h0
  have hlen : (Txt.split t (Str.ofString ".")).length = z.length := by rw [← hl, List.length_map]
  rw [hlen, ← hl, h0']
  rfl
theorem lname_of0 {t ya : Str} {z : List (Str × Tok)} (hl : List.map (fun x => x.fst) z = Txt.split t (Str.ofString ".")) (h0 : (List.map (fun x => x.fst) z)[Int.toNat 0]? = some ya) (h1 : (ya == Str.ofString "") = true) : lname t = false := by
  unfold lname
  have h0' : (List.map (fun x => x.fst) z)[0]? = some ya := h0
  rw [← hl, h0']
  show (!(ya == Str.ofString "") && _) = false
  rw [h1]
  rfl
theorem law_name_spec {w : World} {p : Program} {loose : List Str} {mean : ExcName → Option Value} {mg mb : Str → Option Value} (news : List (Addr × Obj)) (text : Str) (tk : Tok) :
    Spec 1 12 w p loose mean mg mb 89 [.str text tk] [] news news (Ok text) (fun v => v = .bool (lname text)) := by
  dsimp only [Spec]; k_fill; intros; rename_i hpre hdp hun hret; have hla := hpre.len
  refine wpAny_call ?_
  k_dflt cell_enter
  w_on
  k_steps
  all_goals (refine sp_ret hret ?e1 ?e2 ?e3; (case e2 => k_asm); (case e3 => first | k_asm | (refine' cb_drop ?cbN ?cbS; (case cbN => assumption); (case cbS => kcj_all))); (case e1 => (refine congrArg Value.bool ?_; first | exact (lname_of0 (by assumption) (by assumption) (by assumption)).symm | (rw [lname_of (by assumption) (by assumption)]; simp [*]))))
end Mine
end

section
open PySem PySem.W PyProof.Rows
set_option maxRecDepth 100000
set_option maxHeartbeats 4000000
namespace Mine
/-- the beginnings that two texts share -/
def commG (a b : Str) (l : List Int) (k : Int) : List Int := if (Txt.slice a none (some k) == Txt.slice b none (some k)) = true then l ++ [k] else l
theorem comm_mem (a b : Str) (ks : List Int) : ∀ (l : List Int) (k : Int), k ∈ ks.foldl (commG a b) l ↔ k ∈ l ∨ (k ∈ ks ∧ (Txt.slice a none (some k) == Txt.slice b none (some k)) = true) := by
  induction ks with
  | nil => intro l k; simp
  | cons x r ih =>
    intro l k
    rw [List.foldl_cons, ih]
    unfold commG
    by_cases h : (Txt.slice a none (some x) == Txt.slice b none (some x)) = true
    · rw [if_pos h]
      constructor
      · rintro (q | q)
        · rcases List.mem_append.mp q with q | q
          · exact .inl q
          · rw [List.mem_singleton.mp q]; exact .inr ⟨.head _, h⟩
        · exact .inr ⟨.tail _ q.1, q.2⟩
      · rintro (q | ⟨q, e⟩)
        · exact .inl (List.mem_append_left _ q)
        · rcases List.mem_cons.mp q with q | q
          · subst q; exact .inl (List.mem_append_right _ (.head _))
          · exact .inr ⟨q, e⟩
    · rw [if_neg h]
      constructor
      · rintro (q | q)
        · exact .inl q
        · exact .inr ⟨.tail _ q.1, q.2⟩
      · rintro (q | ⟨q, e⟩)
        · exact .inl q
        · rcases List.mem_cons.mp q with q | q
          · subst q; exact absurd e h
          · exact .inr ⟨q, e⟩
theorem mem_range0 {n : Nat} {k : Int} : k ∈ rangeKs 0 n ↔ 0 ≤ k ∧ k < n := by
  constructor
  · intro h; have := mem_rangeKs h; omega
  · intro h
    unfold rangeKs
    simp
    exact ⟨k.toNat, by omega, by omega⟩
/-- the longest beginning that two texts share -/
structure Common (a b : Str) (M : Int) : Prop where
  lo : 0 ≤ M
  hi : M ≤ a.length
  same : (Txt.slice a none (some M) == Txt.slice b none (some M)) = true
  top : ∀ k : Int, 0 ≤ k → k ≤ a.length → (Txt.slice a none (some k) == Txt.slice b none (some k)) = true → k ≤ M
theorem slice_zero (a b : Str) : (Txt.slice a none (some 0) == Txt.slice b none (some 0)) = true := by
  have e : Txt.slice a none (some 0) = Txt.slice b none (some 0) := sg_ext (by rw [sg_slice_to a (Int.le_refl 0), sg_slice_to b (Int.le_refl 0)]; rfl)
  rw [e]
  exact beq_self_eq_true _
theorem comm_pos (a b : Str) (n : Nat) (hn : 0 < n) : 0 < ((rangeKs 0 n).foldl (commG a b) []).length := by
  refine List.length_pos_of_mem (a := 0) ((comm_mem a b _ _ _).mpr (.inr ⟨mem_range0.mpr (by omega), slice_zero a b⟩))
theorem comm_max {a b : Str} {n : Nat} {M : Int} (hn : (n : Int) = a.length + 1) (h1 : M ∈ (rangeKs 0 n).foldl (commG a b) []) (h2 : ∀ k, k ∈ (rangeKs 0 n).foldl (commG a b) [] → k ≤ M) : Common a b M := by
  have q := (comm_mem a b _ _ _).mp h1
  simp only [List.not_mem_nil, false_or, mem_range0] at q
  exact ⟨q.1.1, by omega, q.2, fun k k0 k1 e => h2 k ((comm_mem a b _ _ _).mpr (.inr ⟨mem_range0.mpr (by omega), e⟩))⟩
local macro_rules | `(tactic| walk_at "KCiEl") => `(tactic| (refine kci_el (if_pos (by assumption)) (by with_unfolding_all rfl) (by with_unfolding_all rfl)))
local macro_rules | `(tactic| walk_at "KCiNo") => `(tactic| exact ⟨rfl, if_neg (by simp [*])⟩)
local macro_rules | `(tactic| walk_at "CompSrcT") => `(tactic| (k_here; refine Hold.out ?_))
theorem law_common_spec {w : World} {p : Program} {loose : List Str} {mean : ExcName → Option Value} {mg mb : Str → Option Value} (news : List (Addr × Obj)) (a b : Str) (ta tb : Tok)   :
    Spec 3 24 w p loose mean mg mb 94 [.str a ta, .str b tb] [] news news (Ok a ∧ Ok b) (fun v => ∃ M t, v = .int M t ∧ Common a b M) := by
  dsimp only [Spec]; k_fill; intros; rename_i hpre hdp hun hret; obtain ⟨hOa, hOb⟩ := hpre; have hla := hOa.len; have hlb := hOb.len
  refine wpAny_call ?_
  k_dflt (refine' code_defC ?k1 ?k2 ?k3 ?k4 ?k5 ?kA ?kF ?kK ?k6 ?k7 ?k8 ?k9 ?kB ?kD ?_ ?c2 ?c3 ?c4; (case kA => exact rfl); (case kF => exact rfl); (case kK => assumption); (case k1 => k_asm); (case k2 => k_asm); (case k3 => k_asm); (case k4 => k_asm); (case k5 => k_asm); (case k6 => k_is); (case k7 => k_is); (case k8 => ktr_room); (case k9 => exact BindsTo.of_eq rfl); (case kB => exact rfl); (case kD => decide +kernel); (case c2 => exact rfl); (case c3 => exact rfl); (case c4 => exact rfl); k_whole; intro g' L' h' tk' cells' FG' F' N' Y' B' X' T' l1; (try k_lt l1); k_cells Y'; (try simp only [List.cons_append, List.nil_append] at N'); (try dsimp only); (try k_lift B'); (try k_fold))
  w_on
  k_steps
  unfold Hold
  refine LCt.CompSrcT.range (by rfl) (by k_asm) (by k_asm) (by assumption) (by first | decide | exact small_one (by l_bnd) (by l_bnd) (by l_bnd) (by l_bnd)) (by first | exact rangeSize_nat _ _ | rfl) (by first | exact Nat.le_of_ble_eq_true rfl | (rw [PySem.sizeLine_eq]; omega) | size_fits) ?_
  intro g9
  refine' kci_range (commG a b) (fun k' t' I' oI' C' oC' D' m' ys' l' h' tk' E' hlo' hhi' hI' hC' hx' F' N' off' ne' => ?_) ?_ ?_
  · have off9 := off'
    simp only [LCg.Off3] at off'
    (show KPfMark → _); intro hMark'
    k_steps
    · rename News _ _ _ _ => kN9
      exact LCg.CompEnd.intro (by assumption) kN9 _ (fun p hp => hp) off9 (by first | trivial | assumption) (kci_el (if_pos (by assumption)) rfl rfl)
    · rename News _ _ _ _ => kN9
      exact LCg.CompEnd.intro (by assumption) kN9 _ (fun p hp => hp) off9 (by first | trivial | assumption) (kci_no (if_neg (by simp [*])) rfl)
  · show ∀ ys, _
    intro ys9 hI9 hlen9
    k_steps
    rename News _ _ _ _ => kN9
    refine kso_max (by assumption) kN9 (l := _) (vs := ys9) ⟨_, kN9.get (.head _), rfl, _, rfl⟩ hI9 (comm_pos _ _ _ (by omega)) rfl ?_
    intro h8 M8 t8 tk8 F8 N8 hm8 ht8
    k_steps
    all_goals (refine sp_ret hret ?e1 ?e2 ?e3; (case e2 => k_asm); (case e3 => first | k_asm | (refine' cb_drop ?cbN ?cbS; (case cbN => assumption); (case cbS => kcj_all))); (case e1 => exact ⟨_, _, rfl, comm_max (by omega) hm8 ht8⟩))
  · intro l k
    unfold commG
    split <;> simp
end Mine
end

section
open PySem PySem.W PyProof.Rows
set_option maxRecDepth 100000
set_option maxHeartbeats 1000000
namespace Mine
/-- the four pieces -/
def pieces4 : List Str := [Str.ofString ".a", Str.ofString "B", Str.ofString ".", Str.ofString ".7"]
def pieceAt (n : Int) (size : Int) (k : Int) : Str := pieces4.getD ((n.fdiv (4 ^ (size - 1 - k).toNat)).fmod 4).toNat Str.empty
theorem pow4_ne (e : Nat) : (4 : Int) ^ e ≠ 0 := Int.pow_ne_zero (by decide)
theorem pow4_small {e : Nat} (he : e ≤ 8) : ((4 : Int) ^ e).natAbs < 1073741824 := by
  rw [Int.natAbs_pow]
  exact Nat.lt_of_le_of_lt (Nat.pow_le_pow_right (by decide) he) (by decide)
theorem floordiv4 {prog : Program} {w : World} {A : Around} {E : Value → Shared → Prop} {s : Shared} {n : Int} {e : Nat} {t u : Tok} {Q : Value → Shared → Prop} (he : e ≤ 8) (h : Q (.int (n.fdiv (4 ^ e)) s.toks) { s with toks := s.toks + 1 }) :
    wpAny (model prog w) A (binaryOp .FloorDiv (.int n t) (.int (4 ^ e) u)) Q E s := floordiv_int (pow4_ne e) h (.inl (PyProof.noPylong_small (pow4_small he)))
theorem mod4 {prog : Program} {w : World} {A : Around} {E : Value → Shared → Prop} {s : Shared} {n : Int} {t u : Tok} {Q : Value → Shared → Prop} (h : Q (.int (n.fmod 4) s.toks) { s with toks := s.toks + 1 }) :
    wpAny (model prog w) A (binaryOp .Mod (.int n t) (.int 4 u)) Q E s := mod_int' (by decide) h
theorem fmod4 (x : Int) : 0 ≤ x.fmod 4 ∧ x.fmod 4 < 4 := by rw [Int.fmod_eq_emod_of_nonneg _ (by decide)]; omega
theorem item4 {prog : Program} {w : World} {A : Around} {E : Value → Shared → Prop} {s : Shared} {h₀ : Heap} {L : Addr} {news : List (Addr × Obj)} {value slice : PySem.Expr} {l : Addr} {t1 t2 t3 t4 : Tok} {n : Nat} {k : Int} {u : Tok} {Q : Value → Shared → Prop}
    (N : News h₀ L s.heap news) (hm : (l, W.listOf #[.str (Str.ofString ".a") t1, .str (Str.ofString "B") t2, .str (Str.ofString ".") t3, .str (Str.ofString ".7") t4] n) ∈ news) (h : ∀ t, Q (.str (pieces4.getD (k.fmod 4).toNat Str.empty) t) s)
    (hs : subscripted slice false (.ref l) (.int (k.fmod 4) u) = operate [.ref l, .int (k.fmod 4) u] (getItem (.ref l) (.int (k.fmod 4) u)) := by with_unfolding_all rfl) :
    wpAny (model prog w) A (subscriptTail value slice (.ref l) (.int (k.fmod 4) u)) Q E s :=
  item_strs (ss := pieces4) N hm (.cons _ _ (.cons _ _ (.cons _ _ (.cons _ _ .nil)))) (fmod4 k).1 (fmod4 k).2 (by decide) h hs
/-- what _law_text makes -/
def ltext (n : Int) (k : Nat) : Str := Txt.join (Str.ofString "") ((rangeKs 0 k).map (pieceAt n k))
theorem piece_len (n s k : Int) : (pieceAt n s k).length ≤ 2 := by
  unfold pieceAt
  have : ∀ i : Nat, (pieces4.getD i Str.empty).length ≤ 2 := by
    intro i
    match i with
    | 0 => decide
    | 1 => decide
    | 2 => decide
    | 3 => decide
    | _ + 4 => exact Nat.zero_le _
  exact this _
theorem pieces_len (n s : Int) : ∀ ks : List Int, ((ks.map (pieceAt n s)).map (·.length)).sum ≤ 2 * ks.length
  | [] => by simp
  | k :: r => by
    have := pieces_len n s r
    have := piece_len n s k
    simp only [List.map_cons, List.sum_cons, List.length_cons]
    omega
theorem strs_carried (g : Int → Str) : ∀ (ks : List Int) (vs : List Value), CarriedAll vs (ks.map fun k => PyData.str (g k)) → StrsAre vs (ks.map g)
  | [], _, h => by cases h; exact .nil
  | k :: r, _, h => by
    cases h with
    | cons c q =>
      cases c with
      | str => exact .cons _ _ (strs_carried g r _ q)
local macro_rules | `(tactic| walk_at "binaryOp Pow int int") => `(tactic| (k_here; (with_reducible refine' pow_int_small ?k1 ?k2 ?k3 ?_); (case k1 => omega); (case k2 => omega); (case k3 => decide); k_whole))
local macro_rules | `(tactic| walk_at "binaryOp FloorDiv int int") => `(tactic| (k_here; (with_reducible refine' floordiv4 ?k1 ?_); (case k1 => omega); k_whole))
local macro_rules | `(tactic| walk_at "binaryOp Mod int int") => `(tactic| (k_here; (with_reducible refine' mod4 ?_); k_whole))
local macro_rules | `(tactic| walk_at "subscriptTail") => `(tactic| (k_here; (with_reducible show wpAny _ _ (subscriptTail _ _ (Value.ref _) (Value.int _ _)) _ _ _); (with_unfolding_all refine' item4 ?k1 ?k2 ?_ ?k7; (case k1 => k_asm); (case k2 => k_mem); (case k7 => with_unfolding_all rfl); k_whole); intro t9))
local macro_rules | `(tactic| walk_at "CompSrc") => `(tactic| (k_here; refine Hold.out ?_))
theorem law_text4_spec {w : World} {p : Program} {loose : List Str} {mean : ExcName → Option Value} {mg mb : Str → Option Value} (news : List (Addr × Obj)) (n : Int) (ta tb : Tok) :
    Spec 3 24 w p loose mean mg mb 82 [.int n ta, .int 4 tb] [] news news True (fun v => ∃ t, v = .str (ltext n 4) t) := by
  dsimp only [Spec]; k_fill; intros; rename_i hpre hdp hun hret
  refine wpAny_call ?_
  k_dflt (refine' code_defC ?k1 ?k2 ?k3 ?k4 ?k5 ?kA ?kF ?kK ?k6 ?k7 ?k8 ?k9 ?kB ?kD ?_ ?c2 ?c3 ?c4; (case kA => exact rfl); (case kF => exact rfl); (case kK => assumption); (case k1 => k_asm); (case k2 => k_asm); (case k3 => k_asm); (case k4 => k_asm); (case k5 => k_asm); (case k6 => k_is); (case k7 => k_is); (case k8 => ktr_room); (case k9 => exact BindsTo.of_eq rfl); (case kB => exact rfl); (case kD => decide +kernel); (case c2 => exact rfl); (case c3 => exact rfl); (case c4 => exact rfl); k_whole; intro g' L' h' tk' cells' FG' F' N' Y' B' X' T' l1; (try k_lt l1); k_cells Y'; (try simp only [List.cons_append, List.nil_append] at N'); (try dsimp only); (try k_lift B'); (try k_fold))
  w_on
  k_steps
  unfold Hold
  refine LCg.CompSrc.range (by rfl) (by k_asm) (by k_asm) (by assumption) (by first | decide | exact small_one (by l_bnd) (by l_bnd) (by l_bnd) (by l_bnd)) (by first | exact rangeSize_nat _ _ | rfl) (by first | exact Nat.le_of_ble_eq_true rfl | (rw [PySem.sizeLine_eq]; omega) | size_fits) ?_
  intro g9
  refine' kct_range (pieceAt n 4) (fun k' t' I' oI' C' oC' D' m' ys' h' tk' E' hlo' hhi' hC' hx' F' N' off' ne' => ?_) ?_
  · have off9 := off'
    simp only [LCg.Off3] at off'
    (show KPfMark → _); intro hMark'
    k_steps
    rename News _ _ _ _ => kN9
    exact LCg.CompEnd.intro (by assumption) kN9 _ (fun p hp => List.mem_cons_of_mem _ hp) off9 (by first | trivial | assumption) (kct_el rfl rfl rfl)
  · show ∀ ys, _
    intro ys9 hC9 hlen9
    have hS9 := strs_carried (pieceAt n 4) _ _ hC9
    k_steps
    rename News _ _ _ _ => kN9
    refine join_listC (items := ys9.toArray) (ys := (rangeKs 0 4).map (pieceAt n 4)) ⟨_, kN9.get (.head _), rfl, _, rfl⟩ (by simpa using hS9) (by decide) ?_ ?_
    · have := pieces_len n 4 (rangeKs 0 4)
      have h4 : (rangeKs 0 4).length = 4 := rangeKs_length 0 4
      rw [List.length_map]
      omega
    · intro t8 k8
      k_steps
      all_goals (refine sp_ret hret ?e1 ?e2 ?e3; (case e2 => k_asm); (case e3 => first | k_asm | (refine' cb_drop ?cbN ?cbS; (case cbN => assumption); (case cbS => kcj_all))); (case e1 => exact ⟨_, rfl⟩))
theorem law_text3_spec {w : World} {p : Program} {loose : List Str} {mean : ExcName → Option Value} {mg mb : Str → Option Value} (news : List (Addr × Obj)) (n : Int) (ta tb : Tok) :
    Spec 3 24 w p loose mean mg mb 82 [.int n ta, .int 3 tb] [] news news True (fun v => ∃ t, v = .str (ltext n 3) t) := by
  dsimp only [Spec]; k_fill; intros; rename_i hpre hdp hun hret
  refine wpAny_call ?_
  k_dflt (refine' code_defC ?k1 ?k2 ?k3 ?k4 ?k5 ?kA ?kF ?kK ?k6 ?k7 ?k8 ?k9 ?kB ?kD ?_ ?c2 ?c3 ?c4; (case kA => exact rfl); (case kF => exact rfl); (case kK => assumption); (case k1 => k_asm); (case k2 => k_asm); (case k3 => k_asm); (case k4 => k_asm); (case k5 => k_asm); (case k6 => k_is); (case k7 => k_is); (case k8 => ktr_room); (case k9 => exact BindsTo.of_eq rfl); (case kB => exact rfl); (case kD => decide +kernel); (case c2 => exact rfl); (case c3 => exact rfl); (case c4 => exact rfl); k_whole; intro g' L' h' tk' cells' FG' F' N' Y' B' X' T' l1; (try k_lt l1); k_cells Y'; (try simp only [List.cons_append, List.nil_append] at N'); (try dsimp only); (try k_lift B'); (try k_fold))
  w_on
  k_steps
  unfold Hold
  refine LCg.CompSrc.range (by rfl) (by k_asm) (by k_asm) (by assumption) (by first | decide | exact small_one (by l_bnd) (by l_bnd) (by l_bnd) (by l_bnd)) (by first | exact rangeSize_nat _ _ | rfl) (by first | exact Nat.le_of_ble_eq_true rfl | (rw [PySem.sizeLine_eq]; omega) | size_fits) ?_
  intro g9
  refine' kct_range (pieceAt n 3) (fun k' t' I' oI' C' oC' D' m' ys' h' tk' E' hlo' hhi' hC' hx' F' N' off' ne' => ?_) ?_
  · have off9 := off'
    simp only [LCg.Off3] at off'
    (show KPfMark → _); intro hMark'
    k_steps
    rename News _ _ _ _ => kN9
    exact LCg.CompEnd.intro (by assumption) kN9 _ (fun p hp => List.mem_cons_of_mem _ hp) off9 (by first | trivial | assumption) (kct_el rfl rfl rfl)
  · show ∀ ys, _
    intro ys9 hC9 hlen9
    have hS9 := strs_carried (pieceAt n 3) _ _ hC9
    k_steps
    rename News _ _ _ _ => kN9
    refine join_listC (items := ys9.toArray) (ys := (rangeKs 0 3).map (pieceAt n 3)) ⟨_, kN9.get (.head _), rfl, _, rfl⟩ (by simpa using hS9) (by decide) ?_ ?_
    · have := pieces_len n 3 (rangeKs 0 3)
      have h4 : (rangeKs 0 3).length = 3 := rangeKs_length 0 3
      rw [List.length_map]
      omega
    · intro t8 k8
      k_steps
      all_goals (refine sp_ret hret ?e1 ?e2 ?e3; (case e2 => k_asm); (case e3 => first | k_asm | (refine' cb_drop ?cbN ?cbS; (case cbN => assumption); (case cbS => kcj_all))); (case e1 => exact ⟨_, rfl⟩))
end Mine
end

section
open PySem PySem.W PyProof.Rows
set_option maxRecDepth 100000
set_option maxHeartbeats 4000000
namespace Mine
section
variable {prog : Program} {w : World} {A : Around} {E : Value → Shared → Prop} {s : Shared} {h₀ : Heap} {L : Addr} {env : Env}
/-- what a turn leaves -/
def TurnR (h₀ : Heap) (L : Addr) (s : Shared) (J : (Str → Option Value) → List (Addr × Obj) → Prop) (Q : Flow → Shared → Prop) (I : Addr) (oI : Obj) (f : Flow) (s₃ : Shared) : Prop :=
  match f with
  | .ret v => Q (.ret v) s₃
  | .brk => Q .next s₃
  | _ => ∃ m' nx' h' tk', s₃ = { s with heap := h', toks := tk' } ∧ J m' nx' ∧ (∀ p ∈ nx', p.1 ≠ I) ∧ Fr h₀ L h' m' ∧ News h₀ L h' ((I, oI) :: nx')
/-- a for over a range, by an invariant over the frame's map and the ledger; the target is stored by the walk -/
theorem forR {x : Str} {px : Pos} {body : List Stmt} {r : Addr} {a₀ b₀ : Int} {t₀ u₀ v₀ : Tok} {n : Nat} {m₀ : Str → Option Value} {news : List (Addr × Obj)} {Q : Flow → Shared → Prop} (J : Nat → (Str → Option Value) → List (Addr × Obj) → Prop)
    (hh : A.handled = none) (hr : IsRange s.heap r a₀ b₀ 1 t₀ u₀ v₀) (hsmall : Builtin.Range.small a₀ b₀ 1 = true) (hn : Builtin.Range.rangeSize a₀ b₀ 1 = (n : Int)) (F : Fr h₀ L s.heap m₀) (N : News h₀ L s.heap news) (hj : J 0 m₀ news)
    (turn : ∀ i t m₁ nx h tk I oI, i < n → J i m₁ nx → (∀ p ∈ nx, p.1 ≠ I) → L ≠ I → (∀ p ∈ news, p.1 < I) → Fr h₀ L h m₁ → News h₀ L h ((I, oI) :: nx) →
      wpAny (model prog w) A (assign (.Name x px) env (.int (a₀ + (i : Int)) t)) (fun _ s₂ => wpAny (model prog w) A (execs body env) (TurnR h₀ L s (J (i + 1)) Q I oI) E s₂) E { s with heap := h, toks := tk })
    (done : ∀ m₁ nx h tk, J n m₁ nx → Fr h₀ L h m₁ → News h₀ L h nx → Q .next { s with heap := h, toks := tk })
    (hE : PassesOwn (model prog w) A env E := by passes_own) :
    wpAny (model prog w) A (pyIter (.ref r)) (fun it s₂ => codeAny (model prog w) A (.forLoop (.Name x px) it body [] env) (fun r s' => match r with | .ok f => Q f s' | .error e => cameBackBy (model prog w) A env E e s') s₂) E s := by
  refine wpAny_pyIter_range hr hsmall ?_
  have W : Walks prog w A s.heap.objs.size [s.heap.objs.size] [s.heap.objs.size] n (fun i v => i < n ∧ ∃ t, v = .int (a₀ + i * 1) t)
      (fun i h => IsRangeIter h s.heap.objs.size (a₀ + (i : Nat) * 1) ((n : Int) - (i : Nat)) 1) := (Walks.range hh _ a₀ 1 n).bound
  have hLI : L ≠ s.heap.objs.size := Nat.ne_of_lt F.ns.lt
  have hI₀ : h₀.get? s.heap.objs.size = none := next_is_new F
  have hlt : ∀ p ∈ news, p.1 < s.heap.objs.size := fun p hp => Heap.lt_size (N p hp).1
  refine codeAny_forLoop (fun k s' => ∃ h' tk m' nx i, s' = { s with heap := h', toks := tk } ∧ IsRangeIter h' s.heap.objs.size (a₀ + (i : Nat) * 1) ((n : Int) - (i : Nat)) 1 ∧ Fr h₀ L h' m' ∧ News h₀ L h' nx ∧ (∀ p ∈ nx, p.1 ≠ s.heap.objs.size) ∧ J i m' nx ∧ i ≤ n ∧ k = n + 1 - i) ?_ (n + 1)
    ⟨_, s.toks, m₀, news, 0, rfl, by show IsRangeIter _ _ _ _ _; rw [hn]; simpa using Heap.get?_push_size _ rfl, F.push _, fun p hp => ⟨Heap.get?_push_of_some _ (N p hp).1, (N p hp).2⟩, fun p hp => Nat.ne_of_lt (hlt p hp), hj, Nat.zero_le _, rfl⟩
  rintro k s' ⟨h', tk, m', nx, i, rfl, hst', F', N', hnw', hJ, hi, rfl⟩
  have next : ∀ h₁ : Heap, (∀ b o, b ∉ [s.heap.objs.size] → h'.get? b = some o → h₁.get? b = some o) → Fr h₀ L h₁ m' ∧ News h₀ L h₁ nx := fun h₁ hk₁ =>
    ⟨⟨F'.ns.at' fun o e => hk₁ _ o (by simpa using hLI) e, fun b o e => hk₁ b o (fun hb => by rw [List.mem_singleton.mp hb, hI₀] at e; cases e) (F'.keep b o e), F'.above⟩, fun p hp => ⟨hk₁ _ _ (by simpa using hnw' p hp) (N' p hp).1, (N' p hp).2⟩⟩
  by_cases hin : i < n
  · refine W.item i _ _ _ hin hst' fun v h₁ tk₁ hP hst₁ hk₁ => ?_
    obtain ⟨F₁, N₁⟩ := next h₁ hk₁
    obtain ⟨_, t, rfl⟩ := hP
    rw [Int.mul_one]
    have hoI : ∃ oI, h₁.get? s.heap.objs.size = some oI := ⟨_, hst₁⟩
    obtain ⟨oI, hoI⟩ := hoI
    have N₂ : News h₀ L h₁ ((s.heap.objs.size, oI) :: nx) := fun p hp => by
      rcases List.mem_cons.mp hp with rfl | hp
      · exact ⟨hoI, Ne.symm hLI, hI₀⟩
      · exact N₁ p hp
    have key := turn i t m' nx h₁ tk₁ s.heap.objs.size oI hin hJ hnw' hLI hlt F₁ N₂
    refine wpAny_passesOwn hE (wpAny_mono key (fun _ s₂ q => ?_) fun _ _ e => e)
    refine wpAny_passesOwn hE (wpAny_mono q (fun f s₃ h₃ => ?_) fun _ _ e => e)
    have fin : (∃ m' nx' h' tk', s₃ = { s with heap := h', toks := tk' } ∧ J (i + 1) m' nx' ∧ (∀ p ∈ nx', p.1 ≠ s.heap.objs.size) ∧ Fr h₀ L h' m' ∧ News h₀ L h' ((s.heap.objs.size, oI) :: nx')) →
        ∃ m, m < n + 1 - i ∧ ∃ h' tk m' nx i, s₃ = { s with heap := h', toks := tk } ∧ IsRangeIter h' s.heap.objs.size (a₀ + (i : Nat) * 1) ((n : Int) - (i : Nat)) 1 ∧ Fr h₀ L h' m' ∧ News h₀ L h' nx ∧ (∀ p ∈ nx, p.1 ≠ s.heap.objs.size) ∧ J i m' nx ∧ i ≤ n ∧ m = n + 1 - i := by
      rintro ⟨m₃, nx₃, h4, tk₃, rfl, hJ₃, ho₃, F₃, N₃⟩
      refine ⟨n + 1 - (i + 1), by omega, h4, tk₃, m₃, nx₃, i + 1, rfl, ?_, F₃, fun p hp => N₃ p (List.mem_cons_of_mem _ hp), ho₃, hJ₃, hin, rfl⟩
      refine W.frame _ _ _ hst₁ fun b hb o e => ?_
      rw [List.mem_singleton.mp hb] at e ⊢
      rw [hoI] at e
      cases e
      exact (N₃ _ (.head _)).1
    cases f with
    | ret v => exact h₃
    | brk => exact h₃
    | cont => exact fin h₃
    | next => exact fin h₃
  · have hin' : i = n := by omega
    subst hin'
    refine W.done _ _ _ hst' fun h₁ tk₁ hk₁ => wpAny_execs_nil ?_
    obtain ⟨F₁, N₁⟩ := next h₁ hk₁
    exact done m' nx h₁ tk₁ hJ F₁ N₁
theorem map_kept {m m₀ : Str → Option Value} {stored : List Str} (h : ∀ z, stored.contains z = false → m z = m₀ z) : m = fun z => if stored.contains z = true then m z else m₀ z := by
  funext z
  cases hz : stored.contains z with
  | true => simp
  | false => simp only [Bool.false_eq_true, if_false]; exact h z hz
/-- forR, the names that the body stores told apart -/
theorem forRS {x : Str} {px : Pos} {body : List Stmt} {r : Addr} {a₀ b₀ : Int} {t₀ u₀ v₀ : Tok} {n : Nat} {m₀ : Str → Option Value} {news : List (Addr × Obj)} {Q : Flow → Shared → Prop} (stored : List Str) (J : Nat → List (Addr × Obj) → Prop)
    (hh : A.handled = none) (hr : IsRange s.heap r a₀ b₀ 1 t₀ u₀ v₀) (hsmall : Builtin.Range.small a₀ b₀ 1 = true) (hn : Builtin.Range.rangeSize a₀ b₀ 1 = (n : Int)) (F : Fr h₀ L s.heap m₀) (N : News h₀ L s.heap news) (hj : J 0 news)
    (turn : ∀ i t (u : Str → Option Value) nx h tk I oI, i < n → J i nx → (∀ p ∈ nx, p.1 ≠ I) → L ≠ I → (∀ p ∈ news, p.1 < I) → Fr h₀ L h (fun z => if stored.contains z = true then u z else m₀ z) → News h₀ L h ((I, oI) :: nx) →
      wpAny (model prog w) A (assign (.Name x px) env (.int (a₀ + (i : Int)) t)) (fun _ s₂ => wpAny (model prog w) A (execs body env) (TurnR h₀ L s (fun m' nx' => (∀ z, stored.contains z = false → m' z = m₀ z) ∧ J (i + 1) nx') Q I oI) E s₂) E { s with heap := h, toks := tk })
    (done : ∀ (u : Str → Option Value) nx h tk, J n nx → Fr h₀ L h (fun z => if stored.contains z = true then u z else m₀ z) → News h₀ L h nx → Q .next { s with heap := h, toks := tk })
    (hE : PassesOwn (model prog w) A env E := by passes_own) :
    wpAny (model prog w) A (pyIter (.ref r)) (fun it s₂ => codeAny (model prog w) A (.forLoop (.Name x px) it body [] env) (fun r s' => match r with | .ok f => Q f s' | .error e => cameBackBy (model prog w) A env E e s') s₂) E s :=
  forR (fun i m' nx => (∀ z, stored.contains z = false → m' z = m₀ z) ∧ J i nx) hh hr hsmall hn F N ⟨fun _ _ => rfl, hj⟩
    (fun i t m₁ nx h tk I oI hi hJ ho hL hlt F' N' => turn i t m₁ nx h tk I oI hi hJ.2 ho hL hlt (by rw [← map_kept hJ.1]; exact F') N')
    (fun m₁ nx h tk hJ F' N' => done m₁ nx h tk hJ.2 (by rw [← map_kept hJ.1]; exact F') N') hE
end
end Mine
end

section
open PySem PySem.W PyProof.Rows
set_option maxRecDepth 100000
set_option maxHeartbeats 4000000
namespace Mine
section
variable {prog : Program} {w : World} {A : Around} {E : Value → Shared → Prop} {s : Shared} {h₀ : Heap} {L : Addr} {env : Env}
theorem TurnR.go {J : (Str → Option Value) → List (Addr × Obj) → Prop} {Q : Flow → Shared → Prop} {I : Addr} {oI : Obj} {m' : Str → Option Value} {nx' : List (Addr × Obj)} {h' : Heap} {tk' : Nat} (F : Fr h₀ L h' m') (hJ : J m' nx') (off : ∀ p ∈ nx', p.1 ≠ I) (N : News h₀ L h' ((I, oI) :: nx')) : TurnR h₀ L s J Q I oI .next { s with heap := h', toks := tk' } :=
  ⟨m', nx', h', tk', rfl, hJ, off, F, N⟩
/-- a for over a list of the ledger, by an invariant over the frame's map and the ledger -/
theorem forL {x : Str} {px : Pos} {body : List Stmt} {ax : Addr} {its : Array Value} {kk : Nat} {m₀ : Str → Option Value} {news : List (Addr × Obj)} {Q : Flow → Shared → Prop} (J : Nat → (Str → Option Value) → List (Addr × Obj) → Prop)
    (hh : A.handled = none) (F : Fr h₀ L s.heap m₀) (N : News h₀ L s.heap news) (hax : ∀ i m' nx, J i m' nx → (ax, W.listOf its kk) ∈ nx) (hj : J 0 m₀ news)
    (turn : ∀ i v m₁ nx h tk I oI, i < its.size → its[i]? = some v → J i m₁ nx → (∀ p ∈ nx, p.1 ≠ I) → L ≠ I → (∀ p ∈ news, p.1 < I) → Fr h₀ L h m₁ → News h₀ L h ((I, oI) :: nx) →
      wpAny (model prog w) A (assign (.Name x px) env v) (fun _ s₂ => wpAny (model prog w) A (execs body env) (TurnR h₀ L s (J (i + 1)) Q I oI) E s₂) E { s with heap := h, toks := tk })
    (done : ∀ m₁ nx h tk, J its.size m₁ nx → Fr h₀ L h m₁ → News h₀ L h nx → Q .next { s with heap := h, toks := tk })
    (hE : PassesOwn (model prog w) A env E := by passes_own) :
    wpAny (model prog w) A (pyIter (.ref ax)) (fun it s₂ => codeAny (model prog w) A (.forLoop (.Name x px) it body [] env) (fun r s' => match r with | .ok f => Q f s' | .error e => cameBackBy (model prog w) A env E e s') s₂) E s := by
  have hm := hax 0 m₀ news hj
  have hl : s.heap.IsList ax its := ⟨_, (N _ hm).1, rfl, kk, rfl⟩
  refine wpAny_pyIter_list hl ?_
  have hlt : ∀ p ∈ news, p.1 < s.heap.objs.size := fun p hp => Heap.lt_size (N p hp).1
  have haI : ax ≠ s.heap.objs.size := Nat.ne_of_lt (hlt _ hm)
  have W := Walks.list (prog := prog) (w := w) hh s.heap.objs.size ax haI its
  have hLI : L ≠ s.heap.objs.size := Nat.ne_of_lt F.ns.lt
  have hI₀ : h₀.get? s.heap.objs.size = none := next_is_new F
  refine codeAny_forLoop (fun k s' => ∃ h' tk m' nx i, s' = { s with heap := h', toks := tk } ∧ (h'.IsListIter s.heap.objs.size ax i ∧ h'.IsList ax its) ∧ Fr h₀ L h' m' ∧ News h₀ L h' nx ∧ (∀ p ∈ nx, p.1 ≠ s.heap.objs.size) ∧ J i m' nx ∧ i ≤ its.size ∧ k = its.size + 1 - i) ?_ (its.size + 1)
    ⟨_, s.toks, m₀, news, 0, rfl, ⟨⟨_, Heap.get?_push_size _ rfl, rfl, rfl⟩, hl.push _⟩, F.push _, fun p hp => ⟨Heap.get?_push_of_some _ (N p hp).1, (N p hp).2⟩, fun p hp => Nat.ne_of_lt (hlt p hp), hj, Nat.zero_le _, rfl⟩
  rintro k s' ⟨h', tk, m', nx, i, rfl, hst', F', N', hnw', hJ, hi, rfl⟩
  have next : ∀ h₁ : Heap, (∀ b o, b ∉ [s.heap.objs.size] → h'.get? b = some o → h₁.get? b = some o) → Fr h₀ L h₁ m' ∧ News h₀ L h₁ nx := fun h₁ hk₁ =>
    ⟨⟨F'.ns.at' fun o e => hk₁ _ o (by simpa using hLI) e, fun b o e => hk₁ b o (fun hb => by rw [List.mem_singleton.mp hb, hI₀] at e; cases e) (F'.keep b o e), F'.above⟩, fun p hp => ⟨hk₁ _ _ (by simpa using hnw' p hp) (N' p hp).1, (N' p hp).2⟩⟩
  by_cases hin : i < its.size
  · refine W.item i _ _ _ hin hst' fun v h₁ tk₁ hP hst₁ hk₁ => ?_
    obtain ⟨F₁, N₁⟩ := next h₁ hk₁
    have hoI : ∃ oI, h₁.get? s.heap.objs.size = some oI := by obtain ⟨o, e, _⟩ := hst₁.1; exact ⟨o, e⟩
    obtain ⟨oI, hoI⟩ := hoI
    have N₂ : News h₀ L h₁ ((s.heap.objs.size, oI) :: nx) := fun p hp => by
      rcases List.mem_cons.mp hp with rfl | hp
      · exact ⟨hoI, Ne.symm hLI, hI₀⟩
      · exact N₁ p hp
    have key := turn i v m' nx h₁ tk₁ s.heap.objs.size oI hin hP hJ hnw' hLI hlt F₁ N₂
    refine wpAny_passesOwn hE (wpAny_mono key (fun _ s₂ q => ?_) fun _ _ e => e)
    refine wpAny_passesOwn hE (wpAny_mono q (fun f s₃ h₃ => ?_) fun _ _ e => e)
    have fin : (∃ m' nx' h' tk', s₃ = { s with heap := h', toks := tk' } ∧ J (i + 1) m' nx' ∧ (∀ p ∈ nx', p.1 ≠ s.heap.objs.size) ∧ Fr h₀ L h' m' ∧ News h₀ L h' ((s.heap.objs.size, oI) :: nx')) →
        ∃ m, m < its.size + 1 - i ∧ ∃ h' tk m' nx i, s₃ = { s with heap := h', toks := tk } ∧ (h'.IsListIter s.heap.objs.size ax i ∧ h'.IsList ax its) ∧ Fr h₀ L h' m' ∧ News h₀ L h' nx ∧ (∀ p ∈ nx, p.1 ≠ s.heap.objs.size) ∧ J i m' nx ∧ i ≤ its.size ∧ m = its.size + 1 - i := by
      rintro ⟨m₃, nx₃, h4, tk₃, rfl, hJ₃, ho₃, F₃, N₃⟩
      refine ⟨its.size + 1 - (i + 1), by omega, h4, tk₃, m₃, nx₃, i + 1, rfl, ?_, F₃, fun p hp => N₃ p (List.mem_cons_of_mem _ hp), ho₃, hJ₃, hin, rfl⟩
      refine W.frame _ _ _ hst₁ fun b hb o e => ?_
      rcases List.mem_cons.mp hb with hb | hb
      · rw [hb] at e ⊢
        rw [hoI] at e
        cases e
        exact (N₃ _ (.head _)).1
      · rw [List.mem_singleton.mp hb] at e ⊢
        rw [(N₁ _ (hax i m' nx hJ)).1] at e
        cases e
        exact (N₃ _ (.tail _ (hax _ _ _ hJ₃))).1
    cases f with
    | ret v => exact h₃
    | brk => exact h₃
    | cont => exact fin h₃
    | next => exact fin h₃
  · have hin' : i = its.size := by omega
    subst hin'
    refine W.done _ _ _ hst' fun h₁ tk₁ hk₁ => wpAny_execs_nil ?_
    obtain ⟨F₁, N₁⟩ := next h₁ hk₁
    exact done m' nx h₁ tk₁ hJ F₁ N₁
/-- the stored names told apart -/
theorem forLS {x : Str} {px : Pos} {body : List Stmt} {ax : Addr} {its : Array Value} {kk : Nat} {m₀ : Str → Option Value} {news : List (Addr × Obj)} {Q : Flow → Shared → Prop} (stored : List Str) (J : Nat → List (Addr × Obj) → Prop)
    (hh : A.handled = none) (F : Fr h₀ L s.heap m₀) (N : News h₀ L s.heap news) (hax : ∀ i nx, J i nx → (ax, W.listOf its kk) ∈ nx) (hj : J 0 news)
    (turn : ∀ i v (u : Str → Option Value) nx h tk I oI, i < its.size → its[i]? = some v → J i nx → (∀ p ∈ nx, p.1 ≠ I) → L ≠ I → (∀ p ∈ news, p.1 < I) → Fr h₀ L h (fun z => if stored.contains z = true then u z else m₀ z) → News h₀ L h ((I, oI) :: nx) →
      wpAny (model prog w) A (assign (.Name x px) env v) (fun _ s₂ => wpAny (model prog w) A (execs body env) (TurnR h₀ L s (fun m' nx' => (∀ z, stored.contains z = false → m' z = m₀ z) ∧ J (i + 1) nx') Q I oI) E s₂) E { s with heap := h, toks := tk })
    (done : ∀ (u : Str → Option Value) nx h tk, J its.size nx → Fr h₀ L h (fun z => if stored.contains z = true then u z else m₀ z) → News h₀ L h nx → Q .next { s with heap := h, toks := tk })
    (hE : PassesOwn (model prog w) A env E := by passes_own) :
    wpAny (model prog w) A (pyIter (.ref ax)) (fun it s₂ => codeAny (model prog w) A (.forLoop (.Name x px) it body [] env) (fun r s' => match r with | .ok f => Q f s' | .error e => cameBackBy (model prog w) A env E e s') s₂) E s :=
  forL (fun i m' nx => (∀ z, stored.contains z = false → m' z = m₀ z) ∧ J i nx) hh F N (fun i _ nx h => hax i nx h.2) ⟨fun _ _ => rfl, hj⟩
    (fun i v m₁ nx h tk I oI hi hv hJ ho hL hlt F' N' => turn i v m₁ nx h tk I oI hi hv hJ.2 ho hL hlt (by rw [← map_kept hJ.1]; exact F') N')
    (fun m₁ nx h tk hJ F' N' => done m₁ nx h tk hJ.2 (by rw [← map_kept hJ.1]; exact F') N') hE
end
end Mine
end

section
open PySem PySem.W PyProof.Rows
set_option maxRecDepth 100000
set_option maxHeartbeats 4000000
namespace Mine
theorem among_snoc {pos q : Pos} {c x : Value} (l : List Value) (h : TriplesOk l) (hs : codeAmong pos (l ++ [rawInt q.line, rawInt q.col, c]) = some x) : codeAmong pos l = some x ∨ x = c := by
  fun_induction TriplesOk l with
  | case1 =>
    simp only [List.nil_append, codeAmong, rawInt] at hs
    split at hs
    · exact .inr (Option.some.inj hs).symm
    · cases hs
  | case2 a t b u y rest ih =>
    simp only [List.cons_append, codeAmong] at hs ⊢
    split at hs
    · rename_i e
      rw [if_pos e]
      exact .inl hs
    · rename_i e
      rw [if_neg e]
      exact ih h hs
  | case3 => exact h.elim
theorem triples_at1 (l : List Value) (h : TriplesOk l) {x : Str} {t : Tok} : ¬ l[1]? = some (.str x t) := by
  fun_induction TriplesOk l with
  | case1 => intro e; cases e
  | case2 a t b u y rest ih => intro e; cases e
  | case3 => exact h.elim
/-- the code table of _law_dot: its codes lie in T -/
structure TabOk (qual : Str) (ps : Array Value) (T : List (Addr × Obj)) : Prop where
  ok : TriplesOk ps.toList
  code : ∀ (pos : Pos) (x : Value), codeAmong pos ps.toList = some x → ∃ a oc vs t, x = .ref a ∧ (a, oc) ∈ T ∧ (oc : Obj).data = .fields vs ∧ vs[1]? = some (.str qual t)
theorem TabOk.more {qual : Str} {ps : Array Value} {T T' : List (Addr × Obj)} (h : TabOk qual ps T) (hs : ∀ p ∈ T, p ∈ T') : TabOk qual ps T' :=
  ⟨h.ok, fun pos x e => by obtain ⟨a, oc, vs, t, e1, e2, e3, e4⟩ := h.code pos x e; exact ⟨a, oc, vs, t, e1, hs _ e2, e3, e4⟩⟩
theorem tabOk_nil (qual : Str) (T : List (Addr × Obj)) : TabOk qual #[] T := ⟨trivial, fun _ _ e => by cases e⟩
section
variable {M : Model} {A : Around} {E : Value → Shared → Prop} {s : Shared} {h₀ : Heap} {L a : Addr} {m : Str → Option Value} {cn : Str} {cs : Scope} {ccd : Value} {cl clos : List (Str × Addr)} {news : List (Addr × Obj)}
  {p : Program} {loose : List Str} {mean : ExcName → Option Value} {mg mb : Str → Option Value} {name qual : Str} {params : Arguments} {body : Expr} {scope : Scope} {c P : Addr} {ps : Array Value} {pos : Pos} {firstLine : Nat} {g : Obj → List (Addr × Obj)}
/-- a lambda made anew or found: one rule -/
theorem lam_K {Q : Value → Shared → Prop} (F : Fr h₀ L s.heap m) (N : News h₀ L s.heap news) (T : Top p loose mean mg mb h₀) (C : CodeHd h₀ c P) (hcd : ccd = .ref c) (U : UpdF P (tabObj ps) news g) (ht : TabOk qual ps news)
    (hcl : closureFor scope (envX cn cs L a ccd cl) = pure clos)
    (h : ∀ f c' oc vs t ctv ps' more h' tk, Fr h₀ L h' m → News h₀ L h' ((f, kla_obj name qual params body scope clos ((mg "__name__").getD .none) c' ctv) :: (more ++ g (tabObj ps'))) → (c', oc) ∈ more ++ g (tabObj ps') → (oc : Obj).data = .fields vs → vs[1]? = some (.str qual t) →
      TabOk qual ps' (more ++ g (tabObj ps')) → (∀ q ∈ news, ∀ r ∈ more, q.1 < r.1) → (∀ q ∈ news, q.1 < f) → (∀ r ∈ more, r.1 < f) → Q (.ref f) { s with heap := h', toks := tk }) :
    wpAny M A (makeFunction name qual params (.expr body) scope (envX cn cs L a ccd cl) [] [] [] pos firstLine) Q E s := by
  obtain ⟨pre, post, hnews, hg, _, _⟩ := U.split
  have key : ∀ o', ∀ q ∈ news, q ≠ (P, tabObj ps) → q ∈ g o' := fun o' q hq hne => by
    rw [hnews] at hq
    rw [hg o']
    rcases List.mem_append.mp hq with hq | hq
    · exact List.mem_append_left _ hq
    · rcases List.mem_cons.mp hq with hq | hq
      · exact absurd hq hne
      · exact List.mem_append_right _ (.tail _ hq)
  have hsame : g (tabObj ps) = news := by rw [hg, hnews]
  have hmem : (P, tabObj ps) ∈ news := by rw [hnews]; exact List.mem_append_right _ (.head _)
  cases hf : codeAmong pos ps.toList with
  | none =>
    refine kla_nest F N T C hcd U ht.ok hf hcl fun f c' oc vs t ctv h' tk F' N' e1 e2 l1 l2 => ?_
    refine h f c' oc vs t ctv (ps ++ #[rawInt pos.line, rawInt pos.col, .ref c']) [(c', oc)] h' tk F' N' (.head _) e1 e2 ⟨?_, ?_⟩ ?_ ?_ ?_
    · have : (ps ++ #[rawInt pos.line, rawInt pos.col, .ref c']).toList = ps.toList ++ [rawInt pos.line, rawInt pos.col, .ref c'] := by simp
      rw [this]
      exact TriplesOk_snoc _ _ _ _ ht.ok
    · intro pos' x e
      have : (ps ++ #[rawInt pos.line, rawInt pos.col, .ref c']).toList = ps.toList ++ [rawInt pos.line, rawInt pos.col, .ref c'] := by simp
      rw [this] at e
      rcases among_snoc _ ht.ok e with e | e
      · obtain ⟨a', oc', vs', t', q1, q2, q3, q4⟩ := ht.code _ _ e
        refine ⟨a', oc', vs', t', q1, List.mem_append_right _ (key _ _ q2 ?_), q3, q4⟩
        intro z
        have z2 := congrArg Prod.snd z
        simp only at z2
        subst z2
        have q3' : Data.fields ps = Data.fields vs' := q3
        cases q3'
        exact triples_at1 ps.toList ht.ok (by simpa using q4)
      · exact ⟨c', oc, vs, t, e, .head _, e1, e2⟩
    · intro q hq r hr
      rw [List.mem_singleton.mp hr]
      exact l1 q hq
    · intro q hq
      exact Nat.lt_trans (l1 q hq) l2
    · intro r hr
      rw [List.mem_singleton.mp hr]
      exact l2
  | some x =>
    obtain ⟨c', oc, vs, t, rfl, q2, q3, q4⟩ := ht.code _ _ hf
    refine kla_hit F N T C hcd hmem ht.ok hf hcl fun f ctv h' tk F' N' l1 => ?_
    refine h f c' oc vs t ctv ps [] h' tk F' (by rw [List.nil_append, hsame]; exact N') (by rw [List.nil_append, hsame]; exact q2) q3 q4 (by rw [List.nil_append, hsame]; exact ht) (fun _ _ _ hr => by cases hr) l1 (fun _ hr => by cases hr)
end
end Mine
end

section
open PySem PySem.W PyProof.Rows
set_option maxRecDepth 100000
set_option maxHeartbeats 4000000
namespace Mine
section
variable {M : Model} {A : Around} {E : Value → Shared → Prop} {s : Shared} {h₀ : Heap} {L a : Addr} {m : Str → Option Value} {cn : Str} {cs : Scope} {ccd : Value} {cl clos : List (Str × Addr)} {rest codes : List (Addr × Obj)}
  {p : Program} {loose : List Str} {mean : ExcName → Option Value} {mg mb : Str → Option Value} {name qual : Str} {params : Arguments} {body : Expr} {scope : Scope} {c P : Addr} {ps : Array Value} {pos : Pos} {firstLine : Nat}
/-- a lambda made anew or found; the table first in the ledger, the codes apart -/
theorem lam_T {Q : Value → Shared → Prop} (F : Fr h₀ L s.heap m) (N : News h₀ L s.heap ((P, tabObj ps) :: rest)) (hne : ∀ q ∈ rest, q.1 ≠ P) (T : Top p loose mean mg mb h₀) (C : CodeHd h₀ c P) (hcd : ccd = .ref c) (ht : TabOk qual ps codes) (hsub : ∀ q ∈ codes, q ∈ rest)
    (hcl : closureFor scope (envX cn cs L a ccd cl) = pure clos)
    (h : ∀ f c' oc vs t ctv ps' more h' tk, Fr h₀ L h' m → News h₀ L h' ((P, tabObj ps') :: (f, kla_obj name qual params body scope clos ((mg "__name__").getD .none) c' ctv) :: (rest ++ more)) → (c', oc) ∈ codes ++ more → (oc : Obj).data = .fields vs → vs[1]? = some (.str qual t) →
      TabOk qual ps' (codes ++ more) → (∀ r ∈ more, P < r.1 ∧ ∀ q ∈ rest, q.1 < r.1) → P < f → (∀ q ∈ rest, q.1 < f) → (∀ r ∈ more, r.1 < f) → Q (.ref f) { s with heap := h', toks := tk }) :
    wpAny M A (makeFunction name qual params (.expr body) scope (envX cn cs L a ccd cl) [] [] [] pos firstLine) Q E s := by
  cases hf : codeAmong pos ps.toList with
  | none =>
    refine kla_nest F N T C hcd (UpdF.head hne) ht.ok hf hcl fun f c' oc vs t ctv h' tk F' N' e1 e2 l1 l2 => ?_
    refine h f c' oc vs t ctv (ps ++ #[rawInt pos.line, rawInt pos.col, .ref c']) [(c', oc)] h' tk F' ?_ (List.mem_append_right _ (.head _)) e1 e2 ⟨?_, ?_⟩ ?_ ?_ ?_ ?_
    · intro q hq
      refine N' q ?_
      rcases List.mem_cons.mp hq with rfl | hq
      · exact .tail _ (.tail _ (.head _))
      rcases List.mem_cons.mp hq with rfl | hq
      · exact .head _
      rcases List.mem_append.mp hq with hq | hq
      · exact .tail _ (.tail _ (.tail _ hq))
      · rw [List.mem_singleton.mp hq]; exact .tail _ (.head _)
    · have : (ps ++ #[rawInt pos.line, rawInt pos.col, .ref c']).toList = ps.toList ++ [rawInt pos.line, rawInt pos.col, .ref c'] := by simp
      rw [this]
      exact TriplesOk_snoc _ _ _ _ ht.ok
    · intro pos' x e
      have : (ps ++ #[rawInt pos.line, rawInt pos.col, .ref c']).toList = ps.toList ++ [rawInt pos.line, rawInt pos.col, .ref c'] := by simp
      rw [this] at e
      rcases among_snoc _ ht.ok e with e | e
      · obtain ⟨a', oc', vs', t', q1, q2, q3, q4⟩ := ht.code _ _ e
        exact ⟨a', oc', vs', t', q1, List.mem_append_left _ q2, q3, q4⟩
      · exact ⟨c', oc, vs, t, e, List.mem_append_right _ (.head _), e1, e2⟩
    · intro r hr
      rw [List.mem_singleton.mp hr]
      exact ⟨l1 _ (.head _), fun q hq => l1 q (.tail _ hq)⟩
    · exact Nat.lt_trans (l1 _ (.head _)) l2
    · intro q hq
      exact Nat.lt_trans (l1 q (.tail _ hq)) l2
    · intro r hr
      rw [List.mem_singleton.mp hr]
      exact l2
  | some x =>
    obtain ⟨c', oc, vs, t, rfl, q2, q3, q4⟩ := ht.code _ _ hf
    refine kla_hit F N T C hcd (.head _) ht.ok hf hcl fun f ctv h' tk F' N' l1 => ?_
    refine h f c' oc vs t ctv ps [] h' tk F' ?_ (List.mem_append_left _ q2) q3 q4 (by rw [List.append_nil]; exact ht) (fun _ hr => by cases hr) (l1 _ (.head _)) (fun q hq => l1 q (.tail _ hq)) (fun _ hr => by cases hr)
    intro q hq
    refine N' q ?_
    rcases List.mem_cons.mp hq with rfl | hq
    · exact .tail _ (.head _)
    rcases List.mem_cons.mp hq with rfl | hq
    · exact .head _
    · rw [List.append_nil] at hq
      exact .tail _ (.tail _ hq)
end
theorem Spec.dup {d u : Nat} {w : World} {p : Program} {loose : List Str} {mean : ExcName → Option Value} {mg mb : Str → Option Value} {f : Addr} {vs : List Value} {kw : List (Str × Value)} {led led' : List (Addr × Obj)} {pre : Prop} {Res : Value → Prop}
    (h : Spec d u w p loose mean mg mb f vs kw led' led' pre Res) (h1 : ∀ q ∈ led', q ∈ led) (h2 : ∀ q ∈ led, q ∈ led') : Spec d u w p loose mean mg mb f vs kw led led pre Res :=
  fun dp un gd cn cs a ccd cl outer A₀ base h₀ L m s Q E B F X N T hk pre hd hu ret =>
    h dp un gd cn cs a ccd cl outer A₀ base h₀ L m s Q E B F X (fun q hq => N q (h1 q hq)) T hk pre hd hu fun v h' tk' r F' N' => ret v h' tk' r F' fun q hq => N' q (h2 q hq)
theorem mem_dup1 {x : Addr × Obj} {led : List (Addr × Obj)} (h : x ∈ led) : ∀ q ∈ x :: led, q ∈ led := fun q hq => by
  rcases List.mem_cons.mp hq with rfl | hq
  · exact h
  · exact hq
theorem mem_dup2 {x y : Addr × Obj} {led : List (Addr × Obj)} (h : x ∈ led) (h' : y ∈ led) : ∀ q ∈ x :: y :: led, q ∈ led := fun q hq => by
  rcases List.mem_cons.mp hq with rfl | hq
  · exact h
  · exact mem_dup1 h' q hq
theorem mem_two {x y : Addr × Obj} {led : List (Addr × Obj)} : ∀ q ∈ led, q ∈ x :: y :: led := fun _ hq => .tail _ (.tail _ hq)
end Mine
end

section
open PySem PySem.W PyProof.Rows
set_option maxRecDepth 100000
set_option maxHeartbeats 4000000
namespace Mine
theorem KeyS.of_mem {w : World} {p : Program} {loose : List Str} {mean : ExcName → Option Value} {mg mb : Str → Option Value} {f : Addr} {led led' : List (Addr × Obj)} {cut : Str → Str} (h : KeyS w p loose mean mg mb f led' cut) (h1 : ∀ q ∈ led', q ∈ led) (h2 : ∀ q ∈ led, q ∈ led') : KeyS w p loose mean mg mb f led cut :=
  fun t tk hO dp un gd cn cs a ccd cl outer A₀ base h₀ L m s Q E B F X N T hk pre hd hu ret =>
    h t tk hO dp un gd cn cs a ccd cl outer A₀ base h₀ L m s Q E B F X (fun q hq => N q (h1 q hq)) T hk pre hd hu fun v h' tk' r F' N' => ret v h' tk' r F' fun q hq => N' q (h2 q hq)
@[reducible] def parOf (x : Str) (p0 : Pos) : Arguments := { posonlyargs := [], args := [{ arg := x, annotation := none, pos := p0 }], vararg := none, kwonlyargs := [], kw_defaults := [], kwarg := none, defaults := [] }
@[reducible] def cutBody (p1 p2 p3 p4 : Pos) : Expr := .Subscript (.Name (Str.ofString "tail") p1) (.Slice none (some (.Name (Str.ofString "end") p2)) none p3) p4
@[reducible] def cutScope : Scope := { kind := .function, names := [(Str.ofString "tail", .local), (Str.ofString "end", .free)], isGenerator := false, isCoroutine := false, more := [] }
theorem cut_key {w : World} {p : Program} {loose : List Str} {mean : ExcName → Option Value} {mg mb : Str → Option Value} (led : List (Addr × Obj)) (f c' ce : Addr) (oc oe : Obj) (p0 p1 p2 p3 p4 : Pos) (pm ctv : Value) (name qual : Str) (vs : Array Value) (t0 te : Tok) (e : Int)
    (hvs : oc.data = .fields vs) (h1 : vs[1]? = some (.str qual t0)) (hd : oe.data = .cell (some (.int e te))) (he0 : 0 ≤ e) (he1 : e ≤ 64) :
    KeyS w p loose mean mg mb f ((f, kla_obj name qual (parOf (Str.ofString "tail") p0) (cutBody p1 p2 p3 p4) cutScope [(Str.ofString "end", ce)] pm c' ctv) :: (c', oc) :: (ce, oe) :: led) (fun t => Txt.slice t none (some e)) := by
  intro t tk hO
  have hla := hO.len
  dsimp only [Spec]; k_fill; intros; rename_i hpre hdp hun hret
  refine wpAny_call ?_
  k_dflt (refine' kla_code ?k1 ?k2 ?k3 ?k4 ?k5 ?kA ?kF ?kK ?k6 ?k7 ?k8 ?k9 ?kB ?_ ?c2 ?c3 ?c4 ?c5; (case kA => exact rfl); (case kF => exact rfl); (case kK => assumption); (case k1 => k_asm); (case k2 => k_asm); (case k3 => k_asm); (case k4 => k_asm); (case k5 => k_asm); (case k6 => k_mem); (case k7 => exact codeRec_news (by k_asm) (by k_mem) (by assumption) (by assumption)); (case k8 => ktr_room); (case k9 => exact rfl); (case c5 => decide); (case kB => exact locs rfl); (case c2 => exact rfl); (case c3 => exact rfl); (case c4 => exact rfl); k_whole; intro g' L' h' FG' F' N' B' X' T'; (try dsimp only); (try k_lift B'); (try k_fold))
  have codeHd := codeHd_of_K (c := 98) (P := 96) X' (by kernel_rfl)
  w_on
  k_steps
  all_goals (refine sp_ret hret ?e1 ?e2 ?e3; (case e2 => k_asm); (case e3 => first | k_asm | (refine' cb_drop ?cbN ?cbS; (case cbN => assumption); (case cbS => kcj_all))); (case e1 => exact ⟨_, rfl⟩))
theorem KeyI.of_mem {w : World} {p : Program} {loose : List Str} {mean : ExcName → Option Value} {mg mb : Str → Option Value} {f : Addr} {led led' : List (Addr × Obj)} {ask : Int → Bool} (h : KeyI w p loose mean mg mb f led' ask) (h1 : ∀ q ∈ led', q ∈ led) (h2 : ∀ q ∈ led, q ∈ led') : KeyI w p loose mean mg mb f led ask :=
  fun t tk dp un gd cn cs a ccd cl outer A₀ base h₀ L m s Q E B F X N T hk pre hd hu ret =>
    h t tk dp un gd cn cs a ccd cl outer A₀ base h₀ L m s Q E B F X (fun q hq => N q (h1 q hq)) T hk pre hd hu fun v h' tk' r F' N' => ret v h' tk' r F' fun q hq => N' q (h2 q hq)
@[reducible] def askBody (p1 p2 p3 p4 p5 p6 p7 p8 p9 : Pos) : Expr :=
  .Compare (.Call (.Name (Str.ofString "domain_match") p1) [.Name (Str.ofString "loud") p2, .Subscript (.Name (Str.ofString "whole") p3) (.Slice none (some (.Name (Str.ofString "length") p4)) none p5) p6] [] p7) [.Is] [.Constant (.bool false) 0 p8] p9
@[reducible] def askScope : Scope := { kind := .function, names := [(Str.ofString "length", .local), (Str.ofString "loud", .free), (Str.ofString "whole", .free), (Str.ofString "domain_match", .globalImplicit)], isGenerator := false, isCoroutine := false, more := [] }
local macro_rules | `(tactic| walk_at "call ref") => `(tactic| (k_here; (try dsimp only [List.nil_append]); (with_reducible show wpAny _ _ (call (Value.ref 50) [Value.str _ _, Value.str _ _]) _ _ _); refine' domain_match_spec _ _ _ _ _ _ _ _ _ _ _ _ _ _ _ _ _ _ _ _ _ _ ?k1 ?k2 ?k3 ?k4 ?k5 ?kK ?kp ?kd ?ku ?kR; (case k1 => k_asm); (case k2 => k_asm); (case k3 => k_asm); (case k4 => k_asm); (case k5 => k_asm); (case kK => first | exact rfl | assumption); (case kp => exact ⟨by first | assumption | exact Ok.slice (by assumption) _ _, by first | assumption | exact Ok.slice (by assumption) _ _⟩); (case kd => ktr_room); (case ku => ktr_units); intro v9 h9 tk9 e9 F9 N9; subst e9; (try dsimp only); (try k_fold)))
theorem ask_key {w : World} {p : Program} {loose : List Str} {mean : ExcName → Option Value} {mg mb : Str → Option Value} (led : List (Addr × Obj)) (f c' c1 c2 : Addr) (oc o1 o2 : Obj) (p0 p1 p2 p3 p4 p5 p6 p7 p8 p9 : Pos) (pm ctv : Value) (name qual : Str) (vs : Array Value) (t0 t1 t2 : Tok) (loud whole : Str)
    (hvs : oc.data = .fields vs) (h1 : vs[1]? = some (.str qual t0)) (hd1 : o1.data = .cell (some (.str loud t1))) (hd2 : o2.data = .cell (some (.str whole t2))) (hO1 : Ok loud) (hO2 : Ok whole) :
    KeyI w p loose mean mg mb f ((f, kla_obj name qual (parOf (Str.ofString "length") p0) (askBody p1 p2 p3 p4 p5 p6 p7 p8 p9) askScope [(Str.ofString "whole", c2), (Str.ofString "loud", c1)] pm c' ctv) :: (c', oc) :: (c1, o1) :: (c2, o2) :: led) (fun i => dmatch loud (Txt.slice whole none (some i)) == false) := by
  intro t tk
  have hl1 := hO1.len
  have hl2 := hO2.len
  dsimp only [Spec]; k_fill; intros; rename_i hpre hdp hun hret
  obtain ⟨hi0, hi1⟩ := hpre
  refine wpAny_call ?_
  k_dflt (refine' kla_code ?k1 ?k2 ?k3 ?k4 ?k5 ?kA ?kF ?kK ?k6 ?k7 ?k8 ?k9 ?kB ?_ ?c2 ?c3 ?c4 ?c5; (case kA => exact rfl); (case kF => exact rfl); (case kK => assumption); (case k1 => k_asm); (case k2 => k_asm); (case k3 => k_asm); (case k4 => k_asm); (case k5 => k_asm); (case k6 => k_mem); (case k7 => exact codeRec_news (by k_asm) (by k_mem) (by assumption) (by assumption)); (case k8 => ktr_room); (case k9 => exact rfl); (case c5 => decide); (case kB => exact locs rfl); (case c2 => exact rfl); (case c3 => exact rfl); (case c4 => exact rfl); k_whole; intro g' L' h' FG' F' N' B' X' T'; (try dsimp only); (try k_lift B'); (try k_fold))
  have codeHd := codeHd_of_K (c := 98) (P := 96) X' (by kernel_rfl)
  w_on
  k_steps
  all_goals (try (walk_at "call ref"; k_steps))
  all_goals (refine sp_ret hret ?e1 ?e2 ?e3; (case e2 => k_asm); (case e3 => first | k_asm | (refine' cb_drop ?cbN ?cbS; (case cbN => assumption); (case cbS => kcj_all))); (case e1 => rfl))
end Mine
end

section
open PySem PySem.W PyProof.Rows
set_option maxRecDepth 100000
set_option maxHeartbeats 4000000
namespace Mine
/-- three places that part, out of omega's sight -/
def Apart3 (a b c : Nat) : Prop := a ≠ b ∧ a ≠ c ∧ b ≠ c
theorem Apart3.any {a b c x y : Nat} (h : Apart3 a b c) (e : (x = a ∧ y = b) ∨ (x = a ∧ y = c) ∨ (x = b ∧ y = c)) : x ≠ y := by
  rcases e with ⟨rfl, rfl⟩ | ⟨rfl, rfl⟩ | ⟨rfl, rfl⟩
  · exact h.1
  · exact h.2.1
  · exact h.2.2
theorem off_any {a b I C D : Nat} {nw : List (Addr × Obj)} (h : LCg.Off3 I C D nw) (e : b = I ∨ b = C ∨ b = D) (m : ∃ o, (a, o) ∈ nw) : a ≠ b := by
  obtain ⟨_, m⟩ := m
  have q := h.mem _ m
  rcases e with rfl | rfl | rfl
  · exact q.1
  · exact q.2.1
  · exact q.2.2
theorem lt_sub0 {i n : Nat} (h : i < ((n : Int) - 0).toNat) : i < n := by omega
section
variable {prog : Program} {w : World} {A : Around} {h₀ : Heap} {L : Addr} {m : Str → Option Value} {env : Env} {ct elt : Expr} {x : Str} {scope : Scope} {cl : List (Str × Addr)} {s : Shared} {S : List (Addr × Obj) → Prop} {P : Nat → Value → Prop} {Fin : List Value → List (Addr × Obj) → Prop} {news : List (Addr × Obj)}
/-- a comprehension by an invariant over what it has laid and the ledger -/
theorem comp_go {n : Nat} (J : Nat → List Value → List (Addr × Obj) → Prop) (j0 : J 0 [] news)
    (turn : ∀ i v I oI C oC D m₂ ys nw h tk (E' : Value → Shared → Prop), i < n → P i v → J i ys nw → LCg.NsObj oC m₂ → m₂ x = some v → Fr h₀ L h m → News h₀ L h ((I, oI) :: (C, oC) :: (D, LCg.lst ys) :: nw) → LCg.Off3 I C D nw → ((@Ne Nat I C) ∧ (@Ne Nat I D) ∧ (@Ne Nat C D)) →
      wpAny (model prog w) A (eval elt (compEnvC scope cl C env)) (LCg.CompEnd h₀ L m { s with heap := h, toks := tk } I oI C oC D (LCg.lst ys) S (fun y nw' => J (i + 1) (ys ++ [y]) nw')) E' { s with heap := h, toks := tk })
    (fin : ∀ ys nw, J n ys nw → Fin ys nw) : LCg.CompRest prog w A h₀ L m env elt x scope cl s S P Fin n 0 [] news := by
  have key : ∀ (j i : Nat) (ys : List Value) (nw : List (Addr × Obj)), i + j = n → J i ys nw → LCg.CompRest prog w A h₀ L m env elt x scope cl s S P Fin j i ys nw := by
    intro j
    induction j with
    | zero =>
      intro i ys nw hi hy
      have e : i = n := by omega
      subst e
      exact LCg.CompRest.zero (fin ys nw hy)
    | succ j ih =>
      intro i ys nw hi hy
      refine LCg.CompRest.succ ?_
      intro v I oI C oC D m₂ h tk E' hv hC hx F N off ne
      refine wpAny_mono (turn i v I oI C oC D m₂ ys nw h tk E' (by omega) hv hy hC hx F N off ne) (fun y s₂ hq => ?_) fun _ _ e => e
      obtain ⟨h', tk', nw', e, F', N', off', hS, hn⟩ := hq
      exact ⟨h', tk', nw', e, F', N', off', hS, ih (i + 1) _ nw' (by omega) hn⟩
  exact key n 0 [] news (by omega) j0
/-- a comprehension that leaves the ledger as it was -/
theorem comp_same {n : Nat} (J : Nat → List Value → Prop) (j0 : J 0 [])
    (turn : ∀ i v I oI C oC D m₂ ys h tk (E' : Value → Shared → Prop), i < n → P i v → J i ys → LCg.NsObj oC m₂ → m₂ x = some v → Fr h₀ L h m → News h₀ L h ((I, oI) :: (C, oC) :: (D, LCg.lst ys) :: news) → LCg.Off3 I C D news → ((@Ne Nat I C) ∧ (@Ne Nat I D) ∧ (@Ne Nat C D)) →
      wpAny (model prog w) A (eval elt (compEnvC scope cl C env)) (LCg.CompEnd h₀ L m { s with heap := h, toks := tk } I oI C oC D (LCg.lst ys) S (fun y nw' => nw' = news ∧ J (i + 1) (ys ++ [y]))) E' { s with heap := h, toks := tk })
    (fin : ∀ ys, J n ys → Fin ys news) : LCg.CompRest prog w A h₀ L m env elt x scope cl s S P Fin n 0 [] news :=
  comp_go (fun i ys nw => nw = news ∧ J i ys) ⟨rfl, j0⟩ (fun i v I oI C oC D m₂ ys nw h tk E' hi hv hJ hC hx F N off ne => by
    obtain ⟨rfl, hJ⟩ := hJ
    exact turn i v I oI C oC D m₂ ys h tk E' hi hv hJ hC hx F N off ne) (fun ys nw hJ => by
    obtain ⟨rfl, hJ⟩ := hJ
    exact fin ys hJ)
/-- the same with a test -/
theorem comp_goT {n : Nat} (J : Nat → List Value → List (Addr × Obj) → Prop) (j0 : J 0 [] news)
    (turn : ∀ i v I oI C oC D m₂ ys nw h tk (E' : Value → Shared → Prop), i < n → P i v → J i ys nw → LCg.NsObj oC m₂ → m₂ x = some v → Fr h₀ L h m → News h₀ L h ((I, oI) :: (C, oC) :: (D, LCg.lst ys) :: nw) → LCg.Off3 I C D nw → ((@Ne Nat I C) ∧ (@Ne Nat I D) ∧ (@Ne Nat C D)) →
      wpAny (model prog w) A (isTrue ct (compEnvC scope cl C env) (eval ct (compEnvC scope cl C env))) (fun b s' => if b = true then wpAny (model prog w) A (eval elt (compEnvC scope cl C env)) (LCg.CompEnd h₀ L m { s with heap := h, toks := tk } I oI C oC D (LCg.lst ys) S (fun y nw' => J (i + 1) (ys ++ [y]) nw')) E' s'
        else LCg.CompEnd h₀ L m { s with heap := h, toks := tk } I oI C oC D (LCg.lst ys) S (fun _ nw' => J (i + 1) ys nw') Value.none s') E' { s with heap := h, toks := tk })
    (fin : ∀ ys nw, J n ys nw → Fin ys nw) : LCt.CompRestT prog w A h₀ L m env ct elt x scope cl s S P Fin n 0 [] news := by
  have key : ∀ (j i : Nat) (ys : List Value) (nw : List (Addr × Obj)), i + j = n → J i ys nw → LCt.CompRestT prog w A h₀ L m env ct elt x scope cl s S P Fin j i ys nw := by
    intro j
    induction j with
    | zero =>
      intro i ys nw hi hy
      have e : i = n := by omega
      subst e
      exact LCt.CompRestT.zero (fin ys nw hy)
    | succ j ih =>
      intro i ys nw hi hy
      refine LCt.CompRestT.succ ?_
      intro v I oI C oC D m₂ h tk E' hv hC hx F N off ne
      refine wpAny_mono (turn i v I oI C oC D m₂ ys nw h tk E' (by omega) hv hy hC hx F N off ne) (fun b s₂ hq => ?_) fun _ _ e => e
      cases b with
      | true =>
        simp only [if_true] at hq ⊢
        refine wpAny_mono hq (fun y s₃ hr => ?_) fun _ _ e => e
        obtain ⟨h', tk', nw', e, F', N', off', hS, hn⟩ := hr
        exact ⟨h', tk', nw', e, F', N', off', hS, ih (i + 1) _ nw' (by omega) hn⟩
      | false =>
        simp only [Bool.false_eq_true, if_false] at hq ⊢
        obtain ⟨h', tk', nw', e, F', N', off', hS, hn⟩ := hq
        exact ⟨h', tk', nw', e, F', N', off', hS, ih (i + 1) _ nw' (by omega) hn⟩
  exact key n 0 [] news (by omega) j0
end
end Mine
end

section
open PySem PySem.W PyProof.Rows
set_option maxRecDepth 100000
set_option maxHeartbeats 4000000
namespace Mine
section
variable {prog : Program} {w : World} {A : Around} {h₀ : Heap} {L : Addr} {m : Str → Option Value} {env : Env} {ct elt : Expr} {x : Str} {scope : Scope} {cl : List (Str × Addr)} {s : Shared} {S : List (Addr × Obj) → Prop} {P : Nat → Value → Prop} {Fin : List Value → List (Addr × Obj) → Prop} {news : List (Addr × Obj)}
def TextEl (news : List (Addr × Obj)) (c : Str → Bool) (k : Str) (y : Value) (news' : List (Addr × Obj)) : Prop := news' = news ∧ c k = true ∧ ∃ t : Tok, y = .str k t
def TextNo (news : List (Addr × Obj)) (c : Str → Bool) (k : Str) (news' : List (Addr × Obj)) : Prop := news' = news ∧ c k = false
theorem end_mono {s₁ s₂ : Shared} {I C D : Addr} {oI oC oD : Obj} {R R' : Value → List (Addr × Obj) → Prop} {y : Value} (q : LCg.CompEnd h₀ L m s₁ I oI C oC D oD S R y s₂) (up : ∀ nw, R y nw → R' y nw) : LCg.CompEnd h₀ L m s₁ I oI C oC D oD S R' y s₂ := by
  obtain ⟨a, b, nw, q1, q2, q3, q4, q5, r⟩ := q
  exact ⟨a, b, nw, q1, q2, q3, q4, q5, up nw r⟩
theorem filter_next {ks : List Str} {c : Str → Bool} {i : Nat} {k : Str} (hk : ks[i]? = some k) : (ks.take (i + 1)).filter c = (ks.take i).filter c ++ [k].filter c := by
  rw [List.take_add_one, hk, List.filter_append]; rfl
/-- a comprehension that keeps the texts of a list that pass a test -/
theorem texts_kept {n : Nat} {ks : List Str} (c : Str → Bool) (hks : ks.length = n) (hP : ∀ i v, i < n → P i v → ∃ k t, ks[i]? = some k ∧ v = .str k t)
    (turn : ∀ k t I oI C oC D m₂ ys h tk (E' : Value → Shared → Prop), k ∈ ks → LCg.NsObj oC m₂ → m₂ x = some (.str k t) → Fr h₀ L h m → News h₀ L h ((I, oI) :: (C, oC) :: (D, LCg.lst ys) :: news) → LCg.Off3 I C D news → ((@Ne Nat I C) ∧ (@Ne Nat I D) ∧ (@Ne Nat C D)) →
      wpAny (model prog w) A (isTrue ct (compEnvC scope cl C env) (eval ct (compEnvC scope cl C env))) (fun b s' => if b = true then wpAny (model prog w) A (eval elt (compEnvC scope cl C env)) (LCg.CompEnd h₀ L m { s with heap := h, toks := tk } I oI C oC D (LCg.lst ys) S (fun y news' => TextEl news c k y news')) E' s'
        else LCg.CompEnd h₀ L m { s with heap := h, toks := tk } I oI C oC D (LCg.lst ys) S (fun _ news' => TextNo news c k news') Value.none s') E' { s with heap := h, toks := tk })
    (fin : ∀ ys, StrsAre ys (ks.filter c) → Fin ys news) : LCt.CompRestT prog w A h₀ L m env ct elt x scope cl s S P Fin n 0 [] news := by
  refine comp_goT (fun i ys nw => nw = news ∧ StrsAre ys ((ks.take i).filter c)) ⟨rfl, .nil⟩ (fun i v I oI C oC D m₂ ys nw h tk E' hi hv hJ hC hx F N off ne => ?_) (fun ys nw hJ => ?_)
  · obtain ⟨e, hy⟩ := hJ
    subst e
    obtain ⟨k, t, hk, e⟩ := hP i v hi hv
    subst e
    refine wpAny_mono (turn k t I oI C oC D m₂ ys h tk E' (List.mem_of_getElem? hk) hC hx F N off ne) (fun b s₂ hq => ?_) fun _ _ e => e
    cases b
    · rw [if_neg Bool.false_ne_true] at hq ⊢
      exact end_mono hq fun nw ⟨e, q⟩ => ⟨e, by rw [filter_next hk, List.filter_cons_of_neg (by rw [q]; decide), List.filter_nil, List.append_nil]; exact hy⟩
    · rw [if_pos rfl] at hq ⊢
      refine wpAny_mono hq (fun y s₃ hr => end_mono hr fun nw ⟨e, q, t', e'⟩ => ⟨e, ?_⟩) fun _ _ e => e
      rw [e', filter_next hk, List.filter_cons_of_pos q, List.filter_nil]
      exact kct_snoc hy
  · obtain ⟨e, hy⟩ := hJ
    subst e
    rw [← hks, List.take_length] at hy
    exact fin ys hy
end
end Mine
end

section
open PySem PySem.W PyProof.Rows
set_option maxRecDepth 100000
namespace Mine
theorem bnd_filter {α : Type} (d : α) (q : α → Bool) : ∀ (ss : List α), (∀ i j, i ≤ j → j < ss.length → q (ss.getD j d) = true → q (ss.getD i d) = true) → Bnd (fun i => q (ss.getD i d)) ss.length (ss.filter q).length
  | [], _ => ⟨Nat.le_refl _, fun i h => absurd h (Nat.not_lt_zero i), fun i _ h => absurd h (Nat.not_lt_zero i)⟩
  | a :: r, h => by
    have ih := bnd_filter d q r fun i j hij hj e => by
      have := h (i + 1) (j + 1) (by omega) (by simpa using hj) (by simpa using e)
      simpa using this
    cases ha : q a with
    | true =>
      rw [List.filter_cons, ha, if_pos rfl, List.length_cons, List.length_cons]
      refine ⟨Nat.succ_le_succ ih.le, fun i hi => ?_, fun i h1 h2 => ?_⟩
      · cases i with
        | zero => simpa using ha
        | succ i => simpa using ih.yes i (by omega)
      · cases i with
        | zero => omega
        | succ i => simpa using ih.no i (by omega) (by omega)
    | false =>
      have none : ∀ x ∈ r, q x = false := by
        intro x hx
        cases hq : q x with
        | false => rfl
        | true =>
          obtain ⟨j, hj, e⟩ := List.getElem_of_mem hx
          have := h 0 (j + 1) (by omega) (by simpa using hj) (by simp [hj, e, hq])
          simp [ha] at this
      have hf : (a :: r).filter q = [] := by
        rw [List.filter_eq_nil_iff]
        intro x hx
        rcases List.mem_cons.mp hx with rfl | hx
        · simp [ha]
        · simp [none x hx]
      rw [hf]
      refine ⟨Nat.zero_le _, fun i hi => absurd hi (Nat.not_lt_zero i), fun i _ hi => ?_⟩
      cases i with
      | zero => simpa using ha
      | succ i =>
        have hi' : i < r.length := by simpa using hi
        have := none r[i] (List.getElem_mem hi')
        simp [hi', this]
theorem BisR.of {p : Nat → Bool} {n q : Nat} {r : Int} (h : BisR p n r) (b : Bnd p n q) : r = q := h.eq q b
theorem take_lt : ∀ (e : Nat) (a b : List Nat), a.take e < b.take e → a < b
  | 0, a, b, h => by simp at h
  | e + 1, [], [], h => by simp at h
  | e + 1, [], b :: r, _ => List.nil_lt_cons b r
  | e + 1, a :: r, [], h => by simp at h
  | e + 1, a :: r, b :: q, h => by
    rw [List.take_succ_cons, List.take_succ_cons, List.cons_lt_cons_iff] at h
    rw [List.cons_lt_cons_iff]
    rcases h with h | ⟨h1, h2⟩
    · exact .inl h
    · exact .inr ⟨h1, take_lt e r q h2⟩
theorem lt_trans' {a b c : List Nat} (h1 : a < b) (h2 : b < c) : a < c := List.lt_trans h1 h2
theorem le_lt {a b c : List Nat} (h1 : ¬ b < a) (h2 : b < c) : a < c := List.lt_of_le_of_lt (List.not_lt.mp h1) h2
theorem lt_le {a b c : List Nat} (h1 : a < b) (h2 : ¬ c < b) : a < c := by
  rcases Classical.em (b = c) with e | e
  · subst e; exact h1
  · rcases Classical.em (a < c) with q | q
    · exact q
    · exact absurd (le_lt q h1) h2
/-- rising, by the order of the signs -/
def Rising (ss : List Str) : Prop := ∀ i j, i ≤ j → j < ss.length → ¬ sg (ss.getD j Str.empty) < sg (ss.getD i Str.empty)
/-- the search for less: it ends behind the tails that begin with less -/
theorem bnd_less {ss : List Str} (hr : Rising ss) (e : Nat) (x : List Nat) : Bnd (fun i => decide ((sg (ss.getD i Str.empty)).take e < x)) ss.length (ss.filter fun t => decide ((sg t).take e < x)).length := by
  refine bnd_filter Str.empty (fun t => decide ((sg t).take e < x)) ss fun i j hij hj h => ?_
  have h' := of_decide_eq_true h
  refine decide_eq_true (le_lt (fun q => hr i j hij hj (take_lt e _ _ q)) h')
theorem bnd_upto {ss : List Str} (hr : Rising ss) (e : Nat) (x : List Nat) : Bnd (fun i => !decide (x < (sg (ss.getD i Str.empty)).take e)) ss.length (ss.filter fun t => !decide (x < (sg t).take e)).length := by
  refine bnd_filter Str.empty (fun t => !decide (x < (sg t).take e)) ss fun i j hij hj h => ?_
  have h' : ¬ x < (sg (ss.getD j Str.empty)).take e := by simpa using h
  have : ¬ x < (sg (ss.getD i Str.empty)).take e := fun q => h' (lt_le q fun z => hr i j hij hj (take_lt e _ _ z))
  simpa using this
theorem filter_split (ss : List Str) (e : Nat) (x : List Nat) : (ss.filter fun t => !decide (x < (sg t).take e)).length = (ss.filter fun t => decide ((sg t).take e < x)).length + (ss.filter fun t => decide ((sg t).take e = x)).length := by
  induction ss with
  | nil => rfl
  | cons a r ih =>
    simp only [List.filter_cons]
    rcases Classical.em ((sg a).take e < x) with h1 | h1
    · have h2 : ¬ x < (sg a).take e := fun q => List.lt_irrefl _ (List.lt_trans h1 q)
      have h3 : ¬ (sg a).take e = x := fun q => List.lt_irrefl x (q ▸ h1)
      simp [h1, h2, h3, ih]
      omega
    · rcases Classical.em ((sg a).take e = x) with h3 | h3
      · have h4 : ¬ x < x := List.lt_irrefl x
        simp [h3, h4, ih]
        omega
      · have h2 : x < (sg a).take e := by
          rcases Classical.em (x < (sg a).take e) with q | q
          · exact q
          · exact absurd (List.le_antisymm (List.not_lt.mp q) (List.not_lt.mp h1)) h3
        simp [h1, h2, h3, ih]
end Mine
end

section
open PySem PySem.W PyProof.Rows
set_option maxRecDepth 100000
namespace Mine
def Up (ss : List Str) : Prop := ss.Pairwise fun a b => ¬ sg b < sg a
theorem getD_at {ss : List Str} {i : Nat} (h : i < ss.length) : ss.getD i Str.empty = ss[i] := by
  rw [List.getD_eq_getElem?_getD, List.getElem?_eq_getElem h]; rfl
theorem Up.rising {ss : List Str} (h : Up ss) : Rising ss := by
  intro i j hij hj
  have hi : i < ss.length := by omega
  rw [getD_at hj, getD_at hi]
  rcases Nat.lt_or_ge i j with q | q
  · exact List.pairwise_iff_getElem.mp h i j hi hj q
  · have : i = j := by omega
    subst this
    exact List.lt_irrefl _
theorem bnd_whole {ss : List Str} (h : Up ss) (x : Str) : Bnd (ltS ss x) ss.length (ss.filter fun t => decide (sg t < sg x)).length := by
  refine bnd_filter Str.empty (fun t => decide (sg t < sg x)) ss fun i j hij hj e => ?_
  exact decide_eq_true (le_lt (h.rising i j hij hj) (of_decide_eq_true e))
theorem up_insert {ss : List Str} {x : Str} {q : Nat} (h : Up ss) (b : Bnd (ltS ss x) ss.length q) : Up (ss.take q ++ x :: ss.drop q) := by
  have hq := b.le
  unfold Up at h ⊢
  have hs : ss.take q ++ ss.drop q = ss := List.take_append_drop q ss
  have h' := h
  rw [← hs, List.pairwise_append] at h'
  rw [List.pairwise_append, List.pairwise_cons]
  have low : ∀ a ∈ ss.take q, sg a < sg x := by
    intro a ha
    obtain ⟨i, hi, rfl⟩ := List.getElem_of_mem ha
    have hi' : i < q := by simp at hi; omega
    have := b.yes i hi'
    have := of_decide_eq_true this
    change sg (ss.getD i Str.empty) < sg x at this
    rw [getD_at (by omega)] at this
    simpa using this
  have high : ∀ a ∈ ss.drop q, ¬ sg a < sg x := by
    intro a ha
    obtain ⟨i, hi, rfl⟩ := List.getElem_of_mem ha
    have hi' : q + i < ss.length := by simp at hi; omega
    have := b.no (q + i) (by omega) hi'
    have := of_decide_eq_false this
    change ¬ sg (ss.getD (q + i) Str.empty) < sg x at this
    rw [getD_at hi'] at this
    simpa using this
  refine ⟨h'.1, ⟨high, h'.2.1⟩, fun a ha c hc => ?_⟩
  rcases List.mem_cons.mp hc with rfl | hc
  · exact fun z => List.lt_irrefl _ (List.lt_trans z (low a ha))
  · exact h'.2.2 a ha c hc
theorem insert_perm (ss : List Str) (x : Str) (q : Nat) : (ss.take q ++ x :: ss.drop q).Perm (x :: ss) := by
  have : (ss.take q ++ x :: ss.drop q).Perm (x :: (ss.take q ++ ss.drop q)) := List.perm_middle
  rwa [List.take_append_drop] at this
/-- two rising lists of the same texts are one -/
theorem up_unique : ∀ {a b : List Str}, Up a → Up b → a.Perm b → a = b := by
  intro a b ha hb hp
  refine hp.eq_of_pairwise ?_ ha hb
  intro x y _ _ h1 h2
  exact sg_ext (List.le_antisymm (List.not_lt.mp h1) (List.not_lt.mp h2))
end Mine
end

section
open PySem PySem.W PyProof.Rows
set_option maxRecDepth 100000
namespace Mine
/-- pieces glued by a sign -/
def jn (c : Nat) : List (List Nat) → List Nat
  | [] => []
  | [a] => a
  | a :: b :: r => a ++ c :: jn c (b :: r)
theorem sg_join (c : Nat) : ∀ P : List Str, sg (Str.join ⟨#[c]⟩ P) = jn c (P.map sg)
  | [] => rfl
  | [a] => rfl
  | a :: b :: r => by
    have ih := sg_join c (b :: r)
    show sg (a ++ (⟨#[c]⟩ : Str) ++ Str.join ⟨#[c]⟩ (b :: r)) = sg a ++ c :: jn c ((b :: r).map sg)
    rw [← ih]
    show ((a.cps ++ #[c]) ++ (Str.join ⟨#[c]⟩ (b :: r)).cps).toList = _
    simp
theorem hit_free {l : List Nat} (h : 46 ∉ l) : hit l = false := by
  induction l with
  | nil => rfl
  | cons a r ih =>
    have h1 : a ≠ 46 := fun e => h (by simp [e])
    have h2 : 46 ∉ r := fun e => h (by simp [e])
    rw [hit_cons, ih h2]
    simp [h1]
theorem hit_app {a l : List Nat} (h : 46 ∉ a) : hit (a ++ 46 :: l) = ((!l.isEmpty && l.all Sre.isDigit) || hit l) := by
  induction a with
  | nil => rw [List.nil_append, hit_cons]; simp
  | cons b r ih =>
    have h1 : b ≠ 46 := fun e => h (by simp [e])
    have h2 : 46 ∉ r := fun e => h (by simp [e])
    rw [List.cons_append, hit_cons, ih h2]
    have : (b == 46) = false := by simpa using h1
    simp [this]
theorem jn_has {c : Nat} {a b : List Nat} {r : List (List Nat)} : c ∈ jn c (a :: b :: r) := by
  show c ∈ a ++ c :: jn c (b :: r)
  simp
theorem hit_jn : ∀ (P : List (List Nat)), (∀ p ∈ P, 46 ∉ p) → hit (jn 46 P) = (decide (2 ≤ P.length) && (!(P.getLast?.getD []).isEmpty && (P.getLast?.getD []).all Sre.isDigit))
  | [], _ => rfl
  | [a], h => by
    show hit a = _
    rw [hit_free (h a (by simp))]
    rfl
  | a :: b :: [], h => by
    show hit (a ++ 46 :: b) = _
    rw [hit_app (h a (by simp)), hit_free (h b (by simp))]
    simp
  | a :: b :: c :: r, h => by
    have ih := hit_jn (b :: c :: r) fun p hp => h p (List.mem_cons_of_mem _ hp)
    show hit (a ++ 46 :: jn 46 (b :: c :: r)) = _
    rw [hit_app (h a (by simp)), ih]
    have hn : (jn 46 (b :: c :: r)).all Sre.isDigit = false := by
      rw [List.all_eq_false]
      exact ⟨46, jn_has, by decide⟩
    rw [hn, Bool.and_false, Bool.false_or]
    simp
theorem jn_head : ∀ (P : List (List Nat)), P ≠ [] → (∀ p ∈ P, 46 ∉ p) → ((P[0]?.getD []).isEmpty = ((jn 46 P).isEmpty || (jn 46 P).head? == some 46))
  | [], h, _ => absurd rfl h
  | [a], _, h => by
    cases a with
    | nil => rfl
    | cons x r =>
      have : x ≠ 46 := fun e => h (x :: r) (by simp) (by simp [e])
      simp [jn, this]
  | a :: b :: r, _, h => by
    cases a with
    | nil => simp [jn]
    | cons x q =>
      have : x ≠ 46 := fun e => h (x :: q) (by simp) (by simp [e])
      simp [jn, this]
theorem jn_last : ∀ (P : List (List Nat)), P ≠ [] → (∀ p ∈ P, 46 ∉ p) → ((P.getLast?.getD []).isEmpty = ((jn 46 P).isEmpty || (jn 46 P).getLast? == some 46))
  | [], h, _ => absurd rfl h
  | [a], _, h => by
    show a.isEmpty = (a.isEmpty || a.getLast? == some 46)
    cases ha : a.getLast? with
    | none => simp
    | some x =>
      have hx : x ∈ a := List.mem_of_getLast? ha
      have : x ≠ 46 := fun e => h a (by simp) (e ▸ hx)
      simp [this]
  | a :: b :: r, _, h => by
    have ih := jn_last (b :: r) (by simp) fun p hp => h p (List.mem_cons_of_mem _ hp)
    have e1 : ((a :: b :: r).getLast?.getD []) = ((b :: r).getLast?.getD []) := by simp
    rw [e1, ih]
    show _ = ((a ++ 46 :: jn 46 (b :: r)).isEmpty || (a ++ 46 :: jn 46 (b :: r)).getLast? == some 46)
    rw [List.getLast?_append]
    cases hj : jn 46 (b :: r) with
    | nil => simp
    | cons x q =>
      have he : (a ++ 46 :: x :: q).isEmpty = false := by cases a <;> rfl
      have hl : (46 :: x :: q).getLast? = (x :: q).getLast? := by simp
      rw [he, hl, List.getLast?_cons]
      simp
end Mine
end

section
open PySem PySem.W PyProof.Rows
set_option maxRecDepth 100000
namespace Mine
theorem dot_is : Str.ofString "." = ⟨#[46]⟩ := by decide +kernel
theorem seven_is : Str.ofString "7" = ⟨#[55]⟩ := by decide +kernel
theorem none_is : Str.ofString "" = ⟨#[]⟩ := by decide +kernel
theorem beq_none (y : Str) : (y == Str.ofString "") = (sg y).isEmpty := by
  rw [none_is]
  cases h : sg y with
  | nil =>
    have : y = ⟨#[]⟩ := sg_ext h
    rw [this]; rfl
  | cons a r =>
    have : y ≠ ⟨#[]⟩ := fun e => by rw [e] at h; cases h
    simpa using this
theorem jn_seven : ∀ (P : List (List Nat)), (∀ p ∈ P, 55 ∉ p) → ((jn 55 P).all (· == 55) = P.all (·.isEmpty))
  | [], _ => rfl
  | [a], h => by
    show a.all (· == 55) = _
    cases a with
    | nil => rfl
    | cons x r =>
      have : x ≠ 55 := fun e => h (x :: r) (by simp) (by simp [e])
      simp [this]
  | a :: b :: r, h => by
    have ih := jn_seven (b :: r) fun p hp => h p (List.mem_cons_of_mem _ hp)
    show (a ++ 55 :: jn 55 (b :: r)).all (· == 55) = _
    rw [List.all_append, List.all_cons, ih]
    cases a with
    | nil => rfl
    | cons x q =>
      have : x ≠ 55 := fun e => h (x :: q) (by simp) (by simp [e])
      simp [this]
theorem empty_app (a b : List Nat) : (a ++ b).isEmpty = (a.isEmpty && b.isEmpty) := by cases a <;> rfl
theorem join_none : ∀ P : List Str, (sg (Str.join ⟨#[]⟩ P)).isEmpty = P.all fun p => (sg p).isEmpty
  | [] => rfl
  | [a] => by show (sg a).isEmpty = _; simp
  | a :: b :: r => by
    have ih := join_none (b :: r)
    have e : sg (Str.join ⟨#[]⟩ (a :: b :: r)) = sg a ++ sg (Str.join ⟨#[]⟩ (b :: r)) := by
      show ((a.cps ++ #[]) ++ (Str.join ⟨#[]⟩ (b :: r)).cps).toList = _
      simp
    rw [e, empty_app, ih]
    rfl
theorem seven_gone (y : Str) : (Txt.replace y (Str.ofString "7") (Str.ofString "") != Str.ofString "") = !(sg y).all (· == 55) := by
  have h1 : Txt.replace y (Str.ofString "7") (Str.ofString "") = Str.join ⟨#[]⟩ (Txt.split y ⟨#[55]⟩) := by
    rw [seven_is, none_is]; exact StrLaws.replace_one y ⟨#[]⟩ 55
  have h2 : sg y = jn 55 ((Txt.split y ⟨#[55]⟩).map sg) := by
    rw [← sg_join, StrLaws.join_split]
  have h3 := jn_seven ((Txt.split y ⟨#[55]⟩).map sg) (by
    intro p hp
    obtain ⟨q, hq, rfl⟩ := List.mem_map.mp hp
    exact StrLaws.split_free y 55 q hq)
  show (!(Txt.replace y (Str.ofString "7") (Str.ofString "") == Str.ofString "")) = _
  rw [beq_none, h1, join_none, h2, h3, List.all_map]
  rfl
theorem item_first {t : Str} (h : 0 < t.length) : (Txt.item t 0 == Str.ofString ".") = ((sg t).head? == some 46) := by
  rw [dot_is]
  obtain ⟨n, hn⟩ := StrLaws.some_at (x := t) (i := 0) (by decide) (by omega)
  have e : Txt.charAt t 0 = some n := StrLaws.at_nonneg (by decide) hn
  have e2 : (sg t).head? = some n := by
    have : t.cps[0]? = some n := hn
    rw [← Array.getElem?_toList] at this
    rw [List.head?_eq_getElem?]; exact this
  unfold Txt.item
  rw [e, e2]
  show ((⟨#[n]⟩ : Str) == ⟨#[46]⟩) = (some n == some 46)
  by_cases hn' : n = 46
  · subst hn'; rfl
  · have h1 : (⟨#[n]⟩ : Str) ≠ ⟨#[46]⟩ := fun q => hn' (by injection q with q; simpa using q)
    have h2 : (some n == some 46) = false := by simpa using hn'
    rw [h2]
    simpa using h1
theorem item_end {t : Str} (h : 0 < t.length) : (Txt.item t (-1) == Str.ofString ".") = ((sg t).getLast? == some 46) := by
  rw [dot_is]
  have hs : seqIndex? (-1) t.length = some (t.length - 1) := by
    rw [StrLaws.seqIndex_neg (by decide) (by omega)]
    congr 1
    omega
  have hl : t.length - 1 < t.cps.size := by have : t.cps.size = t.length := rfl; omega
  have e : Txt.charAt t (-1) = some (t.cps[t.length - 1]) := by
    unfold Txt.charAt
    rw [hs]
    show t.cps[t.length - 1]? = _
    exact Array.getElem?_eq_getElem hl
  have e2 : (sg t).getLast? = some (t.cps[t.length - 1]) := by
    rw [List.getLast?_eq_getElem?, sg_len, Array.getElem?_toList]
    exact Array.getElem?_eq_getElem hl
  generalize t.cps[t.length - 1] = n at e e2
  unfold Txt.item
  rw [e, e2]
  show ((⟨#[n]⟩ : Str) == ⟨#[46]⟩) = (some n == some 46)
  by_cases hn' : n = 46
  · subst hn'; rfl
  · have h1 : (⟨#[n]⟩ : Str) ≠ ⟨#[46]⟩ := fun q => hn' (by injection q with q; simpa using q)
    have h2 : (some n == some 46) = false := by simpa using hn'
    rw [h2]
    simpa using h1
end Mine
end

section
open PySem PySem.W PyProof.Rows
set_option maxRecDepth 100000
namespace Mine
theorem digit_seven {l : List Nat} (h : ∀ c ∈ l, c = 97 ∨ c = 66 ∨ c = 46 ∨ c = 55 ∨ c = 98 ∨ c = 65) : l.all Sre.isDigit = l.all (· == 55) := by
  induction l with
  | nil => rfl
  | cons a r ih =>
    rw [List.all_cons, List.all_cons, ih fun c hc => h c (List.mem_cons_of_mem _ hc)]
    congr 1
    rcases h a (by simp) with q | q | q | q | q | q <;> subst q <;> decide
theorem jn_mem : ∀ (P : List (List Nat)) (p : List Nat), p ∈ P → ∀ c ∈ p, c ∈ jn 46 P
  | [], _, h, _, _ => by cases h
  | [a], p, h, c, hc => by rw [List.mem_singleton.mp h] at hc; exact hc
  | a :: b :: r, p, h, c, hc => by
    show c ∈ a ++ 46 :: jn 46 (b :: r)
    rcases List.mem_cons.mp h with q | q
    · subst q; exact List.mem_append_left _ hc
    · exact List.mem_append_right _ (List.mem_cons_of_mem _ (jn_mem (b :: r) p q c hc))
/-- is_HDN and _law_name tell the same -/
theorem hdn_name {t : Str} (hO : Ok t) : isHDN t = lname t := by
  by_cases ht : t = ⟨#[]⟩
  · subst ht; decide +kernel
  · have hpos : 0 < t.length := by
      apply Nat.pos_of_ne_zero
      intro e
      exact ht (sg_ext (List.eq_nil_of_length_eq_zero (by rw [sg_len]; exact e)))
    have hj : sg t = jn 46 ((Txt.split t ⟨#[46]⟩).map sg) := by rw [← sg_join, StrLaws.join_split]
    have hf : ∀ p ∈ (Txt.split t ⟨#[46]⟩).map sg, 46 ∉ p := by
      intro p hp
      obtain ⟨q, hq, rfl⟩ := List.mem_map.mp hp
      exact StrLaws.split_free t 46 q hq
    have hne : (sg t).isEmpty = false := by
      cases hs : sg t with
      | nil => have := sg_len t; rw [hs] at this; simp at this; omega
      | cons a r => rfl
    unfold isHDN lname
    rw [item_first hpos, item_end hpos, seven_gone, dot_is]
    simp only [beq_none]
    generalize Txt.split t ⟨#[46]⟩ = P at hj hf
    have hL : P.map sg ≠ [] := by
      intro e
      rw [e] at hj
      rw [hj] at hne; cases hne
    have h1 := jn_head _ hL hf
    have h2 := jn_last _ hL hf
    have h3 := hit_jn _ hf
    rw [← hj] at h1 h2 h3
    have e0 : sg (P[0]?.getD Str.empty) = ((P.map sg)[0]?.getD []) := by
      rw [List.getElem?_map]; cases P[0]? <;> rfl
    have e1 : sg (P.getLast?.getD Str.empty) = ((P.map sg).getLast?.getD []) := by
      rw [List.getLast?_map]; cases P.getLast? <;> rfl
    rw [e0, e1, h1, h2, h3, hne]
    have e2 : ((P.map sg).getLast?.getD []).all Sre.isDigit = ((P.map sg).getLast?.getD []).all (· == 55) := by
      refine digit_seven fun c hc => hO.sign c ?_
      show c ∈ sg t
      rw [hj]
      cases hq : (P.map sg).getLast? with
      | none => rw [hq] at hc; cases hc
      | some q => rw [hq] at hc; exact jn_mem _ q (List.mem_of_getLast? hq) c hc
    rw [e2, h2, hne]
    have hlen : 1 ≤ P.length := by
      cases P with
      | nil => exact absurd rfl hL
      | cons a r => simp
    have e3 : ((P.length : Int) == 1) = !decide (2 ≤ (P.map sg).length) := by
      rw [List.length_map]
      by_cases q : 2 ≤ P.length
      · have : ¬ (P.length : Int) = 1 := by omega
        simp [q, this]
      · have : (P.length : Int) = 1 := by omega
        simp [q, this]
    rw [e3]
    cases decide (2 ≤ (P.map sg).length) <;> cases ((sg t).head? == some 46) <;> cases ((sg t).getLast? == some 46) <;> cases (((P.map sg).getLast?.getD []).all (· == 55)) <;> rfl
end Mine
end

section
open PySem PySem.W PyProof.Rows
set_option maxRecDepth 100000
namespace Mine
def occ (a b : List Nat) : Bool := (List.range a.length).any fun i => (a.drop i).take b.length == b
theorem occ_iff {x y : Str} (hy : 0 < y.length) : occ (sg x) (sg y) = true ↔ ∃ i, StrLaws.At x y x.length i := by
  unfold occ
  rw [List.any_eq_true]
  constructor
  · rintro ⟨i, hi, e⟩
    refine ⟨i, ?_, ?_⟩
    · have hl := congrArg List.length (eq_of_beq e)
      rw [List.length_take, List.length_drop, sg_len, sg_len] at hl
      rw [List.mem_range, sg_len] at hi
      omega
    · rw [StrLaws.subAt_eq, ← sg_len]; exact e
  · rintro ⟨i, h1, h2⟩
    rw [StrLaws.subAt_eq, ← sg_len] at h2
    exact ⟨i, by rw [List.mem_range, sg_len]; omega, h2⟩
/-- the host begins with another sign than the domain: rfind tells whether it stands in it -/
theorem rfind_occ {x y : Str} (hy : 0 < y.length) (h0 : (sg x).head? ≠ (sg y).head?) : decide (Txt.rfind x y ≠ -1 ∧ Txt.rfind x y ≠ 0) = occ (sg x) (sg y) := by
  rcases StrLaws.last_spec x y with ⟨e, hn⟩ | ⟨i, e, hA, _⟩
  · have hr : Txt.rfind x y = -1 := by unfold Txt.rfind; rw [e]
    have ho : occ (sg x) (sg y) = false := by
      cases h : occ (sg x) (sg y) with
      | false => rfl
      | true => obtain ⟨i, hi⟩ := (occ_iff hy).mp h; exact absurd hi (hn i)
    rw [hr, ho]; rfl
  · have hr : Txt.rfind x y = (i : Int) := by unfold Txt.rfind; rw [e]
    have ho : occ (sg x) (sg y) = true := (occ_iff hy).mpr ⟨i, hA⟩
    have hi : i ≠ 0 := by
      intro z
      subst z
      have h2 := hA.2
      rw [StrLaws.subAt_eq, ← sg_len] at h2
      have h3 := eq_of_beq h2
      rw [List.drop_zero] at h3
      have h4 : (sg y).head? = (List.take (sg y).length (sg x)).head? := congrArg List.head? h3.symm
      apply h0
      rw [h4, List.head?_take, if_neg (by rw [sg_len]; omega)]
    rw [hr, ho]
    exact decide_eq_true ⟨by omega, by omega⟩
end Mine
end

section
open PySem PySem.W PyProof.Rows
set_option maxRecDepth 100000
namespace Mine
theorem starts_dot {x : Str} (h : (sg x).head? = some 46) : Txt.startswith x (Str.ofString ".") = true := by
  rw [dot_is]
  cases hs : sg x with
  | nil => rw [hs] at h; cases h
  | cons a r =>
    rw [hs] at h
    have ha : a = 46 := by simpa using h
    subst ha
    have hl : x.length = r.length + 1 := by rw [← sg_len, hs]; rfl
    unfold Txt.startswith
    rw [StrLaws.subAt_eq]
    have e2 : (List.take (⟨#[46]⟩ : Str).length (List.drop 0 x.cps.toList) == (⟨#[46]⟩ : Str).cps.toList) = true := by
      have : x.cps.toList = 46 :: r := hs
      rw [this]; rfl
    rw [e2]
    have e1 : 0 + (⟨#[46]⟩ : Str).length ≤ x.length := by
      have : (⟨#[46]⟩ : Str).length = 1 := rfl
      omega
    rw [decide_eq_true e1]
    rfl
theorem dm_plain {A B : Str} (hOA : Ok A) (hOB : Ok B) (hA : (sg (low A)).head? = some 97) (hB : (sg (low B)).head? = some 46) :
    dmatch A B = (lname (low A) && (occ (sg (low A)) (sg (low B)) && lname (Txt.slice (low B) (some 1) none))) := by
  have hne : (low A == low B) = false := by
    have : low A ≠ low B := fun e => by rw [e, hB] at hA; cases hA
    simpa using this
  have hpos : 0 < (low B).length := by
    rw [← sg_len]
    cases hs : sg (low B) with
    | nil => rw [hs] at hB; cases hB
    | cons a r => simp
  unfold dmatch
  rw [hne, Bool.false_or, hdn_name hOA.low, rfind_occ hpos (by rw [hA, hB]; decide), starts_dot hB, hdn_name (hOB.low.slice _ _), Bool.true_and]
end Mine
end

section
open PySem PySem.W PyProof.Rows
set_option maxRecDepth 100000
namespace Mine
def tailsOf (l : List Nat) : List (List Nat) := (List.range l.length).map fun i => l.drop i
theorem occ_count {ss : List Str} {l b : List Nat} (hp : (ss.map sg).Perm (tailsOf l)) : occ l b = decide (0 < (ss.filter fun t => decide ((sg t).take b.length = b)).length) := by
  have h1 : occ l b = true ↔ 0 < (ss.filter fun t => decide ((sg t).take b.length = b)).length := by
    unfold occ
    rw [List.any_eq_true, List.length_pos_iff_exists_mem]
    constructor
    · rintro ⟨i, hi, e⟩
      have hm : l.drop i ∈ ss.map sg := hp.symm.subset (List.mem_map.mpr ⟨i, hi, rfl⟩)
      obtain ⟨t, ht, et⟩ := List.mem_map.mp hm
      exact ⟨t, List.mem_filter.mpr ⟨ht, decide_eq_true (by rw [et]; exact eq_of_beq e)⟩⟩
    · rintro ⟨t, ht⟩
      obtain ⟨h1, h2⟩ := List.mem_filter.mp ht
      have hm : sg t ∈ tailsOf l := hp.subset (List.mem_map.mpr ⟨t, h1, rfl⟩)
      obtain ⟨i, hi, e⟩ := List.mem_map.mp hm
      have h3 := of_decide_eq_true h2
      rw [← e] at h3
      exact ⟨i, hi, by rw [h3]; exact beq_self_eq_true _⟩
  cases h : occ l b with
  | true => exact (decide_eq_true (h1.mp h)).symm
  | false => exact (decide_eq_false fun q => by rw [h1.mpr q] at h; cases h).symm
theorem lowc_upc {c : Nat} (h : c = 97 ∨ c = 66 ∨ c = 46 ∨ c = 55 ∨ c = 98 ∨ c = 65) : lowc (upc c) = lowc c := by
  rcases h with q | q | q | q | q | q <;> subst q <;> decide
theorem low_upp {x : Str} (h : Ok x) : low (upp x) = low x := by
  refine sg_ext ?_
  rw [sg_low, sg_upp, sg_low, List.map_map]
  exact List.map_congr_left fun c hc => lowc_upc (h.sign c hc)
theorem low_slice_to (x : Str) {e : Int} (h0 : 0 ≤ e) : low (Txt.slice x none (some e)) = Txt.slice (low x) none (some e) := by
  refine sg_ext ?_
  rw [sg_low, sg_slice_to x h0, sg_slice_to _ h0, sg_low, List.map_take]
end Mine
end

section
open PySem PySem.W PyProof.Rows
set_option maxRecDepth 100000
namespace Mine
abbrev Six (c : Nat) : Prop := c = 97 ∨ c = 66 ∨ c = 46 ∨ c = 55 ∨ c = 98 ∨ c = 65
theorem lowc_dot {c : Nat} (h : Six c) : (lowc c == 46) = (c == 46) := by rcases h with q | q | q | q | q | q <;> subst q <;> decide
theorem lowc_digit {c : Nat} (h : Six c) : Sre.isDigit (lowc c) = Sre.isDigit c := by rcases h with q | q | q | q | q | q <;> subst q <;> decide
theorem all_low : ∀ {l : List Nat}, (∀ c ∈ l, Six c) → (l.map lowc).all Sre.isDigit = l.all Sre.isDigit
  | [], _ => rfl
  | a :: r, h => by
    rw [List.map_cons, List.all_cons, List.all_cons, all_low fun c hc => h c (List.mem_cons_of_mem _ hc), lowc_digit (h a (by simp))]
theorem hit_low : ∀ {l : List Nat}, (∀ c ∈ l, Six c) → hit (l.map lowc) = hit l
  | [], _ => rfl
  | a :: r, h => by
    have hr : ∀ c ∈ r, Six c := fun c hc => h c (List.mem_cons_of_mem _ hc)
    rw [List.map_cons, hit_cons, hit_cons, hit_low hr, all_low hr, lowc_dot (h a (by simp))]
    cases r <;> rfl
theorem hdn_low {t : Str} (hO : Ok t) : isHDN (low t) = isHDN t := by
  by_cases hl : 0 < t.length
  · have hl' : 0 < (low t).length := by rw [low_len]; exact hl
    unfold isHDN
    rw [item_first hl, item_end hl, item_first hl', item_end hl', beq_none, beq_none]
    show (!hit (sg (low t)) && _) = (!hit (sg t) && _)
    rw [sg_low, hit_low hO.sign]
    have e1 : ((sg t).map lowc).isEmpty = (sg t).isEmpty := by cases sg t <;> rfl
    have e2 : (((sg t).map lowc).head? == some 46) = ((sg t).head? == some 46) := by
      rw [List.head?_map]
      cases hh : (sg t).head? with
      | none => rfl
      | some c => exact lowc_dot (hO.sign c (List.mem_of_head? hh))
    have e3 : (((sg t).map lowc).getLast? == some 46) = ((sg t).getLast? == some 46) := by
      rw [List.getLast?_map]
      cases hh : (sg t).getLast? with
      | none => rfl
      | some c => exact lowc_dot (hO.sign c (List.mem_of_getLast? hh))
    rw [e1, e2, e3]
  · have hz : t = ⟨#[]⟩ := sg_ext (List.eq_nil_of_length_eq_zero (by rw [sg_len]; omega))
    subst hz
    have : low ⟨#[]⟩ = ⟨#[]⟩ := sg_ext (by rw [sg_low]; rfl)
    rw [this]
theorem part_tail (x : Str) {e : Int} (h1 : 1 ≤ e) (h2 : e ≤ x.length) : Txt.slice (Txt.slice (low x) none (some e)) (some 1) none = low (Txt.slice x (some 1) (some e)) := by
  refine sg_ext ?_
  rw [sg_slice_from _ (by decide), sg_slice_to _ (by omega), sg_low, sg_low, sg_slice x (by decide) h1 h2, List.map_take, List.map_drop, List.drop_take]
  congr 1
  omega
end Mine
end

section
open PySem PySem.W PyProof.Rows
set_option maxRecDepth 100000
namespace Mine
/-- between two texts that begin alike all begin so -/
theorem take_between (e : Nat) {a b c : List Nat} (h1 : ¬ b < a) (h2 : ¬ c < b) (h : a.take e = c.take e) : b.take e = c.take e := by
  have q1 : ¬ b.take e < a.take e := fun z => h1 (take_lt e _ _ z)
  have q2 : ¬ c.take e < b.take e := fun z => h2 (take_lt e _ _ z)
  rw [h] at q1
  exact List.le_antisymm (List.not_lt.mp q2) (List.not_lt.mp q1)
/-- the longest beginning stands at one of the two neighbours -/
theorem neighbour {ss : List Str} (hr : Rising ss) (w : List Nat) (near : Nat) (hn : near ≤ ss.length) (lo : ∀ i, i < near → sg (ss.getD i Str.empty) < w) (hi : ∀ i, near ≤ i → i < ss.length → ¬ sg (ss.getD i Str.empty) < w)
    (e i : Nat) (hil : i < ss.length) (h : (sg (ss.getD i Str.empty)).take e = w.take e) :
    ∃ j, near ≤ j + 1 ∧ j ≤ near ∧ j < ss.length ∧ (sg (ss.getD j Str.empty)).take e = w.take e := by
  rcases Nat.lt_or_ge i near with q | q
  · refine ⟨near - 1, by omega, by omega, by omega, ?_⟩
    refine take_between e (a := sg (ss.getD i Str.empty)) (hr i (near - 1) (by omega) (by omega)) ?_ h
    have := lo (near - 1) (by omega)
    exact fun z => List.lt_irrefl _ (List.lt_trans z this)
  · refine ⟨near, by omega, by omega, by omega, ?_⟩
    have h1 := hi near (by omega) (by omega)
    have h2 := hr near i (by omega) hil
    have := take_between e (a := w) (b := sg (ss.getD near Str.empty)) (c := sg (ss.getD i Str.empty)) h1 h2 h.symm
    rw [this, h]
end Mine
end

section
open PySem PySem.W PyProof.Rows
set_option maxRecDepth 100000
set_option maxHeartbeats 4000000
namespace Mine
theorem allLt_ne {d e : Nat} : ∀ {news : List (Addr × Obj)}, AllLt d news → d ≤ e → ∀ p ∈ news, p.1 ≠ e
  | [], _, _, _, hp => by cases hp
  | q :: r, h, hd, p, hp => by
    rcases List.mem_cons.mp hp with rfl | hp
    · exact Nat.ne_of_lt (Nat.lt_of_lt_of_le h.1 hd)
    · exact allLt_ne h.2 hd p hp
theorem cut_exec {M : Model} {A : Around} {E : Value → Shared → Prop} {s : Shared} {h₀ : Heap} {L : Addr} {m : Str → Option Value} {news : List (Addr × Obj)} {st : Stmt} {rest : List Stmt} {env : Env} {Q : Flow → Shared → Prop}
    (_F : Fr h₀ L s.heap m) (_N : News h₀ L s.heap news) (h1 : wpAny M A (exec st env) (fun f s' => f = .next ∧ ∃ h tk, s' = { s with heap := h, toks := tk } ∧ Fr h₀ L h m ∧ News h₀ L h news) E s)
    (h2 : ∀ h tk, Fr h₀ L h m → News h₀ L h news → wpAny M A (execs rest env) Q E { s with heap := h, toks := tk }) : wpAny M A (execs (st :: rest) env) Q E s := by
  refine wpAny_execs_cons (wpAny_mono h1 (fun f s' q => ?_) fun _ _ e => e)
  obtain ⟨rfl, h, tk, rfl, F, N⟩ := q
  exact h2 h tk F N
@[reducible] def headTo (e : Int) (t : Str) : Str := Txt.slice t none (some e)
/-- the ends of names among the first k -/
def endsTo (whole : Str) : Nat → List Int
  | 0 => []
  | k + 1 => endsTo whole k ++ (if lname (Txt.slice (headTo ((k : Int) + 1) (low whole)) (some 1) none) = true then [(k : Int) + 1] else [])
/-- what _law_dot asks, as plain facts -/
structure DotOk (ss : List Str) (loud : Str) (named : Bool) (whole : Str) : Prop where
  first : Txt.slice whole (some 1) (some 2) ≠ Str.ofString "." → dmatch loud (Txt.slice whole (some 1) none) = false
  lo : ∀ e : Int, 1 ≤ e → e ≤ whole.length → ∀ r, BisR (ltK (headTo e) ss (headTo e (low whole))) ss.length r → r = (ss.filter (fun t => decide ((headTo e t).cps.toList < (headTo e (low whole)).cps.toList))).length
  hi : ∀ e : Int, 1 ≤ e → e ≤ whole.length → ∀ r, BisR (leK (headTo e) ss (headTo e (low whole))) ss.length r → r = (ss.filter (fun t => decide ((headTo e t).cps.toList < (headTo e (low whole)).cps.toList))).length + (ss.filter (fun t => decide (headTo e t = headTo e (low whole)))).length
  hdn : ∀ e : Int, 1 ≤ e → e ≤ whole.length → isHDN (Txt.slice whole (some 1) (some e)) = lname (Txt.slice (headTo e (low whole)) (some 1) none)
  dm : ∀ e : Int, 1 ≤ e → e ≤ whole.length → dmatch loud (headTo e whole) = (named && (lname (Txt.slice (headTo e (low whole)) (some 1) none) && decide (0 < (ss.filter (fun t => decide (headTo e t = headTo e (low whole)))).length)))
end Mine
end

section
open PySem PySem.W PyProof.Rows
set_option maxRecDepth 100000
namespace Mine
theorem sg_headTo (t : Str) {e : Int} (h : 0 ≤ e) : (headTo e t).cps.toList = (sg t).take e.toNat := sg_slice_to t h
/-- the host's tails in a rising row -/
structure RowOk (ss : List Str) (small : Str) : Prop where
  up : Up ss
  perm : (ss.map sg).Perm (tailsOf (sg small))
theorem eq_cut {e : Int} (h : 0 ≤ e) (t x : Str) : (decide (headTo e t = headTo e x)) = decide ((sg t).take e.toNat = (sg x).take e.toNat) := by
  rw [decide_eq_decide]
  constructor
  · intro q
    have := congrArg sg q
    simpa only [sg_slice_to _ h] using this
  · intro q
    refine sg_ext ?_
    simpa only [sg_slice_to _ h] using q
theorem count_lt {ss : List Str} {e : Int} (h : 0 ≤ e) (x : Str) : (ss.filter (fun t => decide ((headTo e t).cps.toList < (headTo e x).cps.toList))) = ss.filter (fun t => decide ((sg t).take e.toNat < (sg x).take e.toNat)) := by
  congr 1
  funext t
  rw [sg_headTo t h, sg_headTo x h]
theorem count_eq {ss : List Str} {e : Int} (h : 0 ≤ e) (x : Str) : (ss.filter (fun t => decide (headTo e t = headTo e x))) = ss.filter (fun t => decide ((sg t).take e.toNat = (sg x).take e.toNat)) := by
  congr 1
  funext t
  exact eq_cut h t x
theorem dot_lo {ss : List Str} (hu : Up ss) (x : Str) (e : Int) (h : 1 ≤ e) (r : Int) (hr : BisR (ltK (headTo e) ss (headTo e x)) ss.length r) : r = (ss.filter (fun t => decide ((headTo e t).cps.toList < (headTo e x).cps.toList))).length := by
  rw [count_lt (by omega)]
  have e1 : ltK (headTo e) ss (headTo e x) = fun i => decide ((sg (ss.getD i Str.empty)).take e.toNat < (sg x).take e.toNat) := by
    funext i
    unfold ltK
    rw [sg_headTo _ (by omega), sg_headTo _ (by omega)]
  rw [e1] at hr
  exact hr.of (bnd_less hu.rising _ _)
theorem dot_hi {ss : List Str} (hu : Up ss) (x : Str) (e : Int) (h : 1 ≤ e) (r : Int) (hr : BisR (leK (headTo e) ss (headTo e x)) ss.length r) : r = (ss.filter (fun t => decide ((headTo e t).cps.toList < (headTo e x).cps.toList))).length + (ss.filter (fun t => decide (headTo e t = headTo e x))).length := by
  rw [count_lt (by omega), count_eq (by omega)]
  have e1 : leK (headTo e) ss (headTo e x) = fun i => !decide ((sg x).take e.toNat < (sg (ss.getD i Str.empty)).take e.toNat) := by
    funext i
    unfold leK
    rw [sg_headTo _ (by omega), sg_headTo _ (by omega)]
  rw [e1] at hr
  have := hr.of (bnd_upto hu.rising _ _)
  rw [this, filter_split]
  omega
theorem dot_hdn {whole : Str} (hO : Ok whole) (e : Int) (h1 : 1 ≤ e) (h2 : e ≤ whole.length) : isHDN (Txt.slice whole (some 1) (some e)) = lname (Txt.slice (headTo e (low whole)) (some 1) none) := by
  rw [part_tail whole h1 h2, ← hdn_name (hO.slice _ _).low, hdn_low (hO.slice _ _)]
theorem take_head {l : List Nat} {k c : Nat} (hk : 0 < k) (h : l.head? = some c) : (l.take k).head? = some c := by
  cases l with
  | nil => cases h
  | cons a r =>
    cases k with
    | zero => omega
    | succ k => exact h
theorem dot_dm {ss : List Str} {host whole : Str} (hOh : Ok host) (hOw : Ok whole) (hr : RowOk ss (low host)) (hh : (sg (low host)).head? = some 97) (hw : (sg (low whole)).head? = some 46) (e : Int) (h1 : 1 ≤ e) (h2 : e ≤ whole.length) :
    dmatch (upp host) (headTo e whole) = (lname (low host) && (lname (Txt.slice (headTo e (low whole)) (some 1) none) && decide (0 < (ss.filter (fun t => decide (headTo e t = headTo e (low whole)))).length))) := by
  have hl : low (upp host) = low host := low_upp hOh
  have hb : low (headTo e whole) = headTo e (low whole) := low_slice_to whole (by omega)
  rw [dm_plain hOh.upp (hOw.slice _ _) (by rw [hl]; exact hh) (by rw [hb]; show ((headTo e (low whole)).cps.toList).head? = _; rw [sg_headTo _ (by omega)]; exact take_head (by omega) hw), hl, hb]
  rw [occ_count hr.perm, count_eq (by omega)]
  have hlen : (sg (headTo e (low whole))).length = e.toNat := by
    show ((headTo e (low whole)).cps.toList).length = _
    rw [sg_headTo _ (by omega), List.length_take, sg_len, low_len]
    omega
  rw [hlen]
  have : sg (headTo e (low whole)) = (sg (low whole)).take e.toNat := sg_headTo _ (by omega)
  rw [this]
  rw [Bool.and_comm (decide _) (lname _)]
end Mine
end

section
open PySem PySem.W PyProof.Rows
set_option maxRecDepth 100000
namespace Mine
theorem ends_mem {whole : Str} : ∀ {k : Nat} {e : Int}, e ∈ endsTo whole k → 1 ≤ e ∧ e ≤ k ∧ lname (Txt.slice (headTo e (low whole)) (some 1) none) = true
  | 0, e, h => by cases h
  | k + 1, e, h => by
    unfold endsTo at h
    rcases List.mem_append.mp h with h | h
    · obtain ⟨h1, h2, h3⟩ := ends_mem h
      exact ⟨h1, by omega, h3⟩
    · split at h
      · rename_i q
        rw [List.mem_singleton] at h
        subst h
        exact ⟨by omega, by omega, q⟩
      · cases h
theorem ends_up {whole : Str} : ∀ {k : Nat}, (endsTo whole k).Pairwise (· ≤ ·)
  | 0 => .nil
  | k + 1 => by
    unfold endsTo
    rw [List.pairwise_append]
    refine ⟨ends_up, ?_, fun a ha b hb => ?_⟩
    · split
      · exact List.pairwise_singleton _ _
      · exact .nil
    · have := ends_mem ha
      split at hb
      · rw [List.mem_singleton] at hb
        omega
      · cases hb
theorem ends_len {whole : Str} : ∀ {k : Nat}, (endsTo whole k).length ≤ k
  | 0 => Nat.le_refl _
  | k + 1 => by
    unfold endsTo
    rw [List.length_append]
    have := @ends_len whole k
    split <;> simp <;> omega
theorem getI_mem {ns : List Int} {i : Nat} (h : i < ns.length) : ns.getD i 0 ∈ ns := by
  rw [List.getD_eq_getElem?_getD, List.getElem?_eq_getElem h]
  exact List.getElem_mem h
theorem bnd_le {ns : List Int} (hp : ns.Pairwise (· ≤ ·)) (x : Int) : ∃ q, Bnd (leI ns x) ns.length q := by
  refine ⟨_, bnd_filter 0 (fun y => !decide (x < y)) ns fun i j hij hj h => ?_⟩
  simp only [Bool.not_eq_true', decide_eq_false_iff_not] at h ⊢
  rcases Nat.lt_or_eq_of_le hij with q | q
  · have := List.pairwise_iff_getElem.mp hp i j (by omega) hj q
    rw [List.getD_eq_getElem?_getD, List.getElem?_eq_getElem hj] at h
    rw [List.getD_eq_getElem?_getD, List.getElem?_eq_getElem (by omega)]
    simp only [Option.getD_some] at h ⊢
    omega
  · subst q
    exact h
theorem bnd_same {p p' : Nat → Bool} {n q : Nat} (h : ∀ i, i < n → p i = p' i) (b : Bnd p n q) : Bnd p' n q :=
  ⟨b.le, fun i hi => by rw [← h i (Nat.lt_of_lt_of_le hi b.le)]; exact b.yes i hi, fun i h1 h2 => by rw [← h i h2]; exact b.no i h1 h2⟩
/-- a host that is no name keeps none -/
theorem last_no {ask : Int → Bool} {ns : List Int} (h : ∀ e ∈ ns, ask e = true) {kept : Int} (hk : BisR (askI ask ns) ns.length kept) : kept = 0 := by
  have := hk.eq 0 ⟨Nat.zero_le _, fun i hi => absurd hi (Nat.not_lt_zero _), fun i _ hi => by unfold askI; rw [h _ (getI_mem hi)]; rfl⟩
  simpa using this
theorem getD_sub {ss : List Str} {a c j : Nat} (hj : j < c) (h : a + j < ss.length) : ((ss.drop a).take c).getD j Str.empty = ss.getD (a + j) Str.empty := by
  simp only [List.getD_eq_getElem?_getD, List.getElem?_take, List.getElem?_drop, if_pos hj]
theorem last_yes {ss : List Str} (hu : Up ss) {small : Str} {near x fit : Int} (hnear : BisR (ltS ss small) ss.length near) (hx : (x = near - 1 ∧ 0 ≤ near - 1) ∨ (x = 0 ∧ near - 1 ≤ 0)) {sub : List Str} (hsub : sub = (ss.drop x.toNat).take (min (near + 1).toNat ss.length - x.toNat))
    {ms : List Int} (hlen : ms.length = sub.length) (hC : ∀ j, j < sub.length → Common (sub.getD j Str.empty) small (ms.getD j 0)) (hm : fit ∈ ms) (hM : ∀ a, a ∈ ms → a ≤ fit)
    (e : Int) (h1 : 1 ≤ e) (h2 : e ≤ small.length) : decide (0 < (ss.filter (fun t => decide (headTo e t = headTo e small))).length) = !decide (fit < e) := by
  have hb := hnear.eq _ (bnd_whole hu small)
  have hbd := bnd_whole hu small
  generalize (ss.filter fun t => decide (sg t < sg small)).length = nr at hb hbd
  subst hb
  have hx0 : x.toNat = nr - 1 := by omega
  have hle := hbd.le
  have hsl : sub.length = min (nr + 1) ss.length - (nr - 1) := by
    rw [hsub, List.length_take, List.length_drop, hx0]
    omega
  have hat : ∀ j, j < sub.length → sub.getD j Str.empty = ss.getD (nr - 1 + j) Str.empty := fun j hj => by
    rw [hsub, hx0]
    exact getD_sub (by omega) (by omega)
  rw [count_eq (by omega)]
  have key : (0 < (ss.filter (fun t => decide ((sg t).take e.toNat = (sg small).take e.toNat))).length) ↔ ¬ fit < e := by
    rw [List.length_pos_iff_exists_mem]
    constructor
    · rintro ⟨t, ht⟩
      rw [List.mem_filter, decide_eq_true_eq] at ht
      obtain ⟨i, hi, rfl⟩ := List.mem_iff_getElem.mp ht.1
      have ht2 := ht.2
      rw [← getD_at hi] at ht2
      obtain ⟨j, hj1, hj2, hj3, hj4⟩ := neighbour hu.rising (sg small) nr hle (fun i hi => by simpa [ltS] using hbd.yes i hi) (fun i h1 h2 => by simpa [ltS] using hbd.no i h1 h2) e.toNat i hi ht2
      have hk : j - (nr - 1) < sub.length := by omega
      have hjj : nr - 1 + (j - (nr - 1)) = j := by omega
      have hc := hC _ hk
      rw [hat _ hk, hjj] at hc
      have hl : e ≤ (ss.getD j Str.empty).length := by
        have := congrArg List.length hj4
        rw [List.length_take, List.length_take, sg_len, sg_len] at this
        omega
      have h3 := hc.top e (by omega) hl (by
        rw [beq_iff_eq]
        refine sg_ext ?_
        rw [sg_slice_to _ (by omega), sg_slice_to _ (by omega)]
        exact hj4)
      have h4 := hM _ (getI_mem (i := j - (nr - 1)) (by omega))
      omega
    · intro hf
      obtain ⟨j, hj, rfl⟩ := List.mem_iff_getElem.mp hm
      have hk : j < sub.length := by omega
      have hc := hC j hk
      have hg : ms.getD j 0 = ms[j] := by rw [List.getD_eq_getElem?_getD, List.getElem?_eq_getElem hj]; rfl
      rw [hg, hat _ hk] at hc
      refine ⟨ss.getD (nr - 1 + j) Str.empty, ?_⟩
      have hi : nr - 1 + j < ss.length := by omega
      rw [List.mem_filter, decide_eq_true_eq]
      refine ⟨by rw [getD_at hi]; exact List.getElem_mem hi, ?_⟩
      have hs := congrArg sg (eq_of_beq hc.same)
      rw [sg_slice_to _ hc.lo, sg_slice_to _ hc.lo] at hs
      have := congrArg (List.take e.toNat) hs
      rw [List.take_take, List.take_take, Nat.min_eq_left (by omega)] at this
      exact this
  by_cases hf : fit < e
  · rw [decide_eq_false (fun z => key.mp z hf), decide_eq_true hf]
    rfl
  · rw [decide_eq_true (key.mpr hf), decide_eq_false hf]
    rfl
end Mine
end

section
open PySem PySem.W PyProof.Rows
set_option maxRecDepth 100000
set_option maxHeartbeats 4000000
namespace Mine
section
variable {w : World} {p : Program} {loose : List Str} {mean : ExcName → Option Value} {mg mb : Str → Option Value} {LED : List (Addr × Obj)} {l f : Addr} {its : Array Value} {n : Nat}
    {dp un : Nat} {gd : Option (List Code)} {cn : Str} {cs : Scope} {a : Addr} {ccd : Value} {cl : List (Str × Addr)} {outer : List Env} {A₀ : Around} {base h₀ : Heap} {L : Addr} {m : Str → Option Value} {s : Shared} {Q E : Value → Shared → Prop}
theorem keyS_here {c' ce : Addr} {oc oe : Obj} {p0 p1 p2 p3 p4 : Pos} {pm ctv : Value} {name qual : Str} {vs : Array Value} {t0 te : Tok} {e : Int}
    (hf : (f, kla_obj name qual (parOf (Str.ofString "tail") p0) (cutBody p1 p2 p3 p4) cutScope [(Str.ofString "end", ce)] pm c' ctv) ∈ LED) (hc : (c', oc) ∈ LED) (he : (ce, oe) ∈ LED)
    (hvs : oc.data = .fields vs) (h1 : vs[1]? = some (.str qual t0)) (hd : oe.data = .cell (some (.int e te))) (he0 : 0 ≤ e) (he1 : e ≤ 64) :
    KeyS w p loose mean mg mb f LED (headTo e) :=
  (cut_key LED f c' ce oc oe p0 p1 p2 p3 p4 pm ctv name qual vs t0 te e hvs h1 hd he0 he1).of_mem (fun q hq => by
    rcases List.mem_cons.mp hq with rfl | hq
    · exact hf
    rcases List.mem_cons.mp hq with rfl | hq
    · exact hc
    rcases List.mem_cons.mp hq with rfl | hq
    · exact he
    · exact hq) fun q hq => .tail _ (.tail _ (.tail _ hq))
theorem keyI_here {c' c1 c2 : Addr} {oc o1 o2 : Obj} {p0 p1 p2 p3 p4 p5 p6 p7 p8 p9 : Pos} {pm ctv : Value} {name qual : Str} {vs : Array Value} {t0 t1 t2 : Tok} {loud whole : Str}
    (hf : (f, kla_obj name qual (parOf (Str.ofString "length") p0) (askBody p1 p2 p3 p4 p5 p6 p7 p8 p9) askScope [(Str.ofString "whole", c2), (Str.ofString "loud", c1)] pm c' ctv) ∈ LED) (hc : (c', oc) ∈ LED) (h1' : (c1, o1) ∈ LED) (h2' : (c2, o2) ∈ LED)
    (hvs : oc.data = .fields vs) (h1 : vs[1]? = some (.str qual t0)) (hd1 : o1.data = .cell (some (.str loud t1))) (hd2 : o2.data = .cell (some (.str whole t2))) (hO1 : Ok loud) (hO2 : Ok whole) :
    KeyI w p loose mean mg mb f LED (fun i => dmatch loud (Txt.slice whole none (some i)) == false) :=
  (ask_key LED f c' c1 c2 oc o1 o2 p0 p1 p2 p3 p4 p5 p6 p7 p8 p9 pm ctv name qual vs t0 t1 t2 loud whole hvs h1 hd1 hd2 hO1 hO2).of_mem (fun q hq => by
    rcases List.mem_cons.mp hq with rfl | hq
    · exact hf
    rcases List.mem_cons.mp hq with rfl | hq
    · exact hc
    rcases List.mem_cons.mp hq with rfl | hq
    · exact h1'
    rcases List.mem_cons.mp hq with rfl | hq
    · exact h2'
    · exact hq) fun q hq => .tail _ (.tail _ (.tail _ (.tail _ hq)))
theorem bl_key_use {fd : FuncData} {o : Obj} {ss : List Str} {x : Str} {tx : Tok} {cut : Str → Str} (hl : (l, W.listOf its n) ∈ LED) (hf : (f, o) ∈ LED) (ho : o.data = .func fd) (K : KeyS w p loose mean mg mb f LED cut) (hO : Ok x) (hS : StrsAre its.toList ss) (hlen : ss.length ≤ 64) (hOs : ∀ t ∈ ss, Ok t)
    (B : Below A₀ base outer h₀) (F : Fr h₀ L s.heap m) (X : (Mine.hd.heap_39 w.params).In h₀) (N : News h₀ L s.heap LED) (T : Top p loose mean mg mb h₀) (hk : cs.kind = .function)
    (hd : dp + 3 < recursionLimit) (hu : un + 24 < cLine) (ret : ∀ r t h' tk', BisR (ltK cut ss x) ss.length r → Fr h₀ L h' m → News h₀ L h' LED → Q (.int r t) { s with heap := h', toks := tk' }) :
    wpAny (model PySem.Challenge.rw_nb0161_01.row.prog w) (ktrTop dp un gd cn cs L a ccd cl outer) (call (.ref 77) [.ref l, .str x tx] [(Str.ofString "key", .ref f)]) Q E s := by
  obtain ⟨oc, od, dt, sl⟩ := o
  simp only at ho
  subst ho
  exact ((bisect_left_key LED l f its n oc od fd sl ss x tx cut).dup (mem_dup2 hl hf) mem_two) _ _ _ _ _ _ _ _ _ _ _ _ _ _ _ _ _ B F X N T hk ⟨hO, hS, hlen, hOs, K.of_mem mem_two (mem_dup2 hl hf)⟩ hd hu fun v h' tk' e F' N' => by obtain ⟨r, t, rfl, hr⟩ := e; exact ret r t h' tk' hr F' N'
theorem br_key_use {fd : FuncData} {o : Obj} {ss : List Str} {x : Str} {tx : Tok} {cut : Str → Str} (hl : (l, W.listOf its n) ∈ LED) (hf : (f, o) ∈ LED) (ho : o.data = .func fd) (K : KeyS w p loose mean mg mb f LED cut) (hO : Ok x) (hS : StrsAre its.toList ss) (hlen : ss.length ≤ 64) (hOs : ∀ t ∈ ss, Ok t)
    (B : Below A₀ base outer h₀) (F : Fr h₀ L s.heap m) (X : (Mine.hd.heap_39 w.params).In h₀) (N : News h₀ L s.heap LED) (T : Top p loose mean mg mb h₀) (hk : cs.kind = .function)
    (hd : dp + 3 < recursionLimit) (hu : un + 24 < cLine) (ret : ∀ r t h' tk', BisR (leK cut ss x) ss.length r → Fr h₀ L h' m → News h₀ L h' LED → Q (.int r t) { s with heap := h', toks := tk' }) :
    wpAny (model PySem.Challenge.rw_nb0161_01.row.prog w) (ktrTop dp un gd cn cs L a ccd cl outer) (call (.ref 59) [.ref l, .str x tx] [(Str.ofString "key", .ref f)]) Q E s := by
  obtain ⟨oc, od, dt, sl⟩ := o
  simp only at ho
  subst ho
  exact ((bisect_right_key LED l f its n oc od fd sl ss x tx cut).dup (mem_dup2 hl hf) mem_two) _ _ _ _ _ _ _ _ _ _ _ _ _ _ _ _ _ B F X N T hk ⟨hO, hS, hlen, hOs, K.of_mem mem_two (mem_dup2 hl hf)⟩ hd hu fun v h' tk' e F' N' => by obtain ⟨r, t, rfl, hr⟩ := e; exact ret r t h' tk' hr F' N'
theorem bl_ask_use {fd : FuncData} {o : Obj} {ss : List Int} {ask : Int → Bool} (hl : (l, W.listOf its n) ∈ LED) (hf : (f, o) ∈ LED) (ho : o.data = .func fd) (K : KeyI w p loose mean mg mb f LED ask) (hS : IntsAre its.toList ss) (hlen : ss.length ≤ 64) (hOs : ∀ i ∈ ss, 0 ≤ i ∧ i ≤ 64)
    (B : Below A₀ base outer h₀) (F : Fr h₀ L s.heap m) (X : (Mine.hd.heap_39 w.params).In h₀) (N : News h₀ L s.heap LED) (T : Top p loose mean mg mb h₀) (hk : cs.kind = .function)
    (hd : dp + 9 < recursionLimit) (hu : un + 90 < cLine) (ret : ∀ r t h' tk', BisR (askI ask ss) ss.length r → Fr h₀ L h' m → News h₀ L h' LED → Q (.int r t) { s with heap := h', toks := tk' }) :
    wpAny (model PySem.Challenge.rw_nb0161_01.row.prog w) (ktrTop dp un gd cn cs L a ccd cl outer) (call (.ref 77) [.ref l, .bool true] [(Str.ofString "key", .ref f)]) Q E s := by
  obtain ⟨oc, od, dt, sl⟩ := o
  simp only at ho
  subst ho
  exact ((bisect_left_ask LED l f its n oc od fd sl ss ask).dup (mem_dup2 hl hf) mem_two) _ _ _ _ _ _ _ _ _ _ _ _ _ _ _ _ _ B F X N T hk ⟨hS, hlen, hOs, K.of_mem mem_two (mem_dup2 hl hf)⟩ hd hu fun v h' tk' e F' N' => by obtain ⟨r, t, rfl, hr⟩ := e; exact ret r t h' tk' hr F' N'
theorem bl_use {ss : List Str} {x : Str} {tx : Tok} (hl : (l, W.listOf its n) ∈ LED) (hO : Ok x) (hS : StrsAre its.toList ss) (hlen : ss.length ≤ 64)
    (B : Below A₀ base outer h₀) (F : Fr h₀ L s.heap m) (X : (Mine.hd.heap_39 w.params).In h₀) (N : News h₀ L s.heap LED) (T : Top p loose mean mg mb h₀) (hk : cs.kind = .function)
    (hd : dp + 3 < recursionLimit) (hu : un + 24 < cLine) (ret : ∀ r t h' tk', BisR (ltS ss x) ss.length r → Fr h₀ L h' m → News h₀ L h' LED → Q (.int r t) { s with heap := h', toks := tk' }) :
    wpAny (model PySem.Challenge.rw_nb0161_01.row.prog w) (ktrTop dp un gd cn cs L a ccd cl outer) (call (.ref 77) [.ref l, .str x tx]) Q E s :=
  ((bisect_left_spec LED l its n ss x tx).dup (mem_dup1 hl) (fun _ hq => .tail _ hq)) _ _ _ _ _ _ _ _ _ _ _ _ _ _ _ _ _ B F X N T hk ⟨hO, hS, hlen⟩ hd hu fun v h' tk' e F' N' => by obtain ⟨r, t, rfl, hr⟩ := e; exact ret r t h' tk' hr F' N'
theorem bri_use {ss : List Int} {x : Int} {tx : Tok} (hl : (l, W.listOf its n) ∈ LED) (hS : IntsAre its.toList ss) (hlen : ss.length ≤ 64)
    (B : Below A₀ base outer h₀) (F : Fr h₀ L s.heap m) (X : (Mine.hd.heap_39 w.params).In h₀) (N : News h₀ L s.heap LED) (T : Top p loose mean mg mb h₀) (hk : cs.kind = .function)
    (hd : dp + 3 < recursionLimit) (hu : un + 24 < cLine) (ret : ∀ r t h' tk', BisR (leI ss x) ss.length r → Fr h₀ L h' m → News h₀ L h' LED → Q (.int r t) { s with heap := h', toks := tk' }) :
    wpAny (model PySem.Challenge.rw_nb0161_01.row.prog w) (ktrTop dp un gd cn cs L a ccd cl outer) (call (.ref 59) [.ref l, .int x tx]) Q E s :=
  ((bisect_right_ints LED l its n ss x tx).dup (mem_dup1 hl) (fun _ hq => .tail _ hq)) _ _ _ _ _ _ _ _ _ _ _ _ _ _ _ _ _ B F X N T hk ⟨hS, hlen⟩ hd hu fun v h' tk' e F' N' => by obtain ⟨r, t, rfl, hr⟩ := e; exact ret r t h' tk' hr F' N'
end
end Mine
end

section
open PySem PySem.W PyProof.Rows
set_option maxRecDepth 100000
namespace Mine
theorem strs_drop {vs : List Value} {ss : List Str} (h : StrsAre vs ss) : ∀ k : Nat, StrsAre (vs.drop k) (ss.drop k) := by
  induction h with
  | nil => intro k; simp only [List.drop_nil]; exact .nil
  | cons y t r ih =>
    intro k
    cases k with
    | zero => exact .cons y t r
    | succ k => exact ih k
theorem strs_take {vs : List Value} {ss : List Str} (h : StrsAre vs ss) : ∀ k : Nat, StrsAre (vs.take k) (ss.take k) := by
  induction h with
  | nil => intro k; simp only [List.take_nil]; exact .nil
  | cons y t r ih =>
    intro k
    cases k with
    | zero => exact .nil
    | succ k => exact .cons y t (ih k)
theorem strs_len {its : List Value} {ss : List Str} (hS : StrsAre its ss) : its.length = ss.length := by
  induction hS with
  | nil => rfl
  | cons y t _ ih => simp [ih]
theorem strs_run {its : Array Value} {ss : List Str} (hS : StrsAre its.toList ss) {x y : Int} (h : 0 ≤ x) (h2 : 0 ≤ y) : StrsAre (slicePick its (some x) (some y) none).toList ((ss.drop x.toNat).take (min y.toNat ss.length - x.toNat)) := by
  have e : sliceBounds (some x) (some y) none its.size = (((min x.toNat its.size : Nat) : Int), ((min y.toNat its.size : Nat) : Int), 1) := by
    simp only [sliceBounds, Option.getD_none, show (1 : Int) > 0 by decide, if_true, if_neg (show ¬ (x < 0) by omega), if_neg (show ¬ (y < 0) by omega)]
    congr 1
    · omega
    · congr 1
      omega
  rw [kmk_pick_nat _ e]
  have hn : its.size = ss.length := by rw [← strs_len hS, Array.length_toList]
  rw [hn]
  show StrsAre ((its.toList.drop (min x.toNat ss.length)).take (min y.toNat ss.length - min x.toNat ss.length)) _
  rcases Nat.le_total x.toNat ss.length with q | q
  · rw [Nat.min_eq_left q]
    exact strs_take (strs_drop hS _) _
  · rw [Nat.min_eq_right q]
    have e1 : min y.toNat ss.length - ss.length = 0 := by omega
    have e2 : min y.toNat ss.length - x.toNat = 0 := by omega
    rw [e1, e2, List.take_zero, List.take_zero]
    exact .nil
/-- the last comparison -/
theorem DotOk.last {ss : List Str} {loud whole : Str} {named : Bool} (hD : DotOk ss loud named whole) (hu : Up ss) {near x fit kept : Int} (hnear : BisR (ltS ss (low whole)) ss.length near) (hx : (x = near - 1 ∧ 0 ≤ near - 1) ∨ (x = 0 ∧ near - 1 ≤ 0))
    {ms : List Int} (hlen : ms.length = ((ss.drop x.toNat).take (min (near + 1).toNat ss.length - x.toNat)).length) (hC : ∀ j, j < ((ss.drop x.toNat).take (min (near + 1).toNat ss.length - x.toNat)).length → Common (((ss.drop x.toNat).take (min (near + 1).toNat ss.length - x.toNat)).getD j Str.empty) (low whole) (ms.getD j 0)) (hm : fit ∈ ms) (hM : ∀ a, a ∈ ms → a ≤ fit)
    (hk : BisR (askI (fun i => dmatch loud (headTo i whole) == false) (endsTo whole whole.length)) (endsTo whole whole.length).length kept) :
    (named = false → kept = 0) ∧ (named = true → ∀ r, BisR (leI (endsTo whole whole.length) fit) (endsTo whole whole.length).length r → kept = r) := by
  constructor
  · intro hn
    subst hn
    refine last_no (fun e he => ?_) hk
    obtain ⟨h1, h2, _⟩ := ends_mem he
    show (dmatch loud (headTo e whole) == false) = true
    rw [hD.dm e h1 h2, Bool.false_and]
    rfl
  · intro hn r hr
    subst hn
    obtain ⟨q, hq⟩ := bnd_le (ns := endsTo whole whole.length) ends_up fit
    rw [hr.of hq]
    refine hk.of (bnd_same (fun i hi => ?_) hq)
    obtain ⟨h1, h2, h3⟩ := ends_mem (getI_mem hi)
    unfold leI askI
    show _ = !(dmatch loud (headTo ((endsTo whole whole.length).getD i 0) whole) == false)
    rw [hD.dm _ h1 h2, h3, last_yes hu hnear hx rfl hlen hC hm hM _ h1 (by rw [low_len]; exact h2)]
    simp
/-- a neighbour there is -/
theorem sub_pos {ss : List Str} (h0 : 0 < ss.length) {near x : Int} (h1 : 0 ≤ near) (h2 : near ≤ ss.length) (hx : (x = near - 1 ∧ 0 ≤ near - 1) ∨ (x = 0 ∧ near - 1 ≤ 0)) : 0 < ((ss.drop x.toNat).take (min (near + 1).toNat ss.length - x.toNat)).length := by
  rw [List.length_take, List.length_drop]
  omega
end Mine
end

section
open PySem PySem.W PyProof.Rows
set_option maxRecDepth 100000
namespace Mine
theorem cut_if {M : Model} {A : Around} {E : Value → Shared → Prop} {s : Shared} {h₀ : Heap} {L : Addr} {m : Str → Option Value} {news : List (Addr × Obj)} {st : Stmt} {env : Env} {K : Flow → Shared → Prop}
    (_F : Fr h₀ L s.heap m) (_N : News h₀ L s.heap news) (h1 : wpAny M A (exec st env) (fun f s' => f = .next ∧ ∃ h tk, s' = { s with heap := h, toks := tk } ∧ Fr h₀ L h m ∧ News h₀ L h news) E s)
    (h2 : ∀ h tk, Fr h₀ L h m → News h₀ L h news → K .next { s with heap := h, toks := tk }) : wpAny M A (exec st env) K E s := by
  refine wpAny_mono h1 (fun f s' q => ?_) fun _ _ e => e
  obtain ⟨rfl, h, tk, rfl, F, N⟩ := q
  exact h2 h tk F N
theorem ints_len {its : List Value} {ns : List Int} (hS : IntsAre its ns) : its.length = ns.length := by
  induction hS with
  | nil => rfl
  | cons y t _ ih => simp [ih]
theorem ints_snoc {y : Int} {t : Tok} : ∀ {vs : List Value} {ys : List Int}, IntsAre vs ys → IntsAre (vs ++ [.int y t]) (ys ++ [y])
  | _, _, .nil => .cons y t .nil
  | _, _, .cons z u r => .cons z u (ints_snoc r)
theorem ends_push {whole : Str} {i : Nat} {es : Array Value} {t : Tok} (hes : IntsAre es.toList (endsTo whole i)) (h : lname (Txt.slice (Txt.slice (low whole) none (some (1 + (i : Int)))) (some 1) none) = true) : IntsAre (es.push (.int (1 + (i : Int)) t)).toList (endsTo whole (i + 1)) := by
  unfold endsTo
  rw [Array.toList_push, Int.add_comm (i : Int) 1, if_pos h]
  exact ints_snoc hes
theorem ends_keep {whole : Str} {i : Nat} {es : Array Value} (hes : IntsAre es.toList (endsTo whole i)) (h : lname (Txt.slice (Txt.slice (low whole) none (some (1 + (i : Int)))) (some 1) none) = false) : IntsAre es.toList (endsTo whole (i + 1)) := by
  unfold endsTo
  rw [Int.add_comm (i : Int) 1, if_neg (by rw [h]; decide), List.append_nil]
  exact hes
theorem bool_ne {a b : Bool} (h : a = b) (h' : (a != b) = true) : False := by subst h; simp at h'
theorem dm_bad2 {d n l : Bool} {cL cE : Nat} {r1 r2 : Int} (hdm : d = (n && (l && decide (0 < cE)))) (e1 : r1 = cL) (e2 : r2 = cL + cE) (hn : n = true) (hl : l = true) (h : (d != decide (r1 < r2)) = true) : False := by
  subst hn hl
  refine bool_ne ?_ h
  rw [hdm, Bool.true_and, Bool.true_and, decide_eq_decide]
  omega
theorem dm_bad3 {d n l : Bool} {cE : Nat} (hdm : d = (n && (l && decide (0 < cE)))) (hn : n = true) (hl : l = false) (h : (d != l) = true) : False := by
  subst hn hl
  exact bool_ne hdm h
theorem dm_bad4 {d n l : Bool} {cE : Nat} (hdm : d = (n && (l && decide (0 < cE)))) (hn : n = false) (h : (d != n) = true) : False := by
  subst hn
  exact bool_ne hdm h
abbrev lamQual : Str := Str.ofString "_law_dot.<locals>.<lambda>"
theorem strs_P {its : Array Value} {ss : List Str} (hS : StrsAre its.toList ss) {i : Nat} {v : Value} (h : its[i]? = some v) : ∃ k t, ss[i]? = some k ∧ v = .str k t := by
  have hi : i < ss.length := by
    rw [← strs_len hS, Array.length_toList]
    exact (Array.getElem?_eq_some_iff.mp h).1
  obtain ⟨t, e⟩ := strs_at hS hi
  rw [Array.getElem?_toList, h] at e
  refine ⟨ss.getD i Str.empty, t, ?_, Option.some.inj e⟩
  rw [List.getD_eq_getElem?_getD, List.getElem?_eq_getElem hi]
  rfl
theorem allLt_mem {d : Nat} : ∀ {news : List (Addr × Obj)}, AllLt d news → ∀ p ∈ news, p.1 < d
  | [], _, _, hp => by cases hp
  | q :: r, h, p, hp => by
    rcases List.mem_cons.mp hp with rfl | hp
    · exact h.1
    · exact allLt_mem h.2 p hp
theorem memOf {h₀ h : Heap} {L : Addr} {led : List (Addr × Obj)} (_ : News h₀ L h led) {q : Addr × Obj} (hq : q ∈ led) : q ∈ led := hq
theorem dropSecond {h₀ h : Heap} {L : Addr} {x y : Addr × Obj} {led : List (Addr × Obj)} (N : News h₀ L h (x :: y :: led)) : News h₀ L h (x :: led) := fun q hq => by
  rcases List.mem_cons.mp hq with rfl | hq
  · exact N _ (.head _)
  · exact N _ (.tail _ (.tail _ hq))
theorem dropFirst {h₀ h : Heap} {L : Addr} {x : Addr × Obj} {led : List (Addr × Obj)} (N : News h₀ L h (x :: led)) : News h₀ L h led := fun q hq => N _ (.tail _ hq)
theorem turn_off {I le L' l : Addr} {tab ends oE oP oS oW oL row : Obj} {news codes more : List (Addr × Obj)} (h1 : @LT.lt Nat _ 96 I) (h2 : @LT.lt Nat _ le I) (h3 : @LT.lt Nat _ (L' + 1 + 1 + 1 + 1 + 1) le) (h4 : @LT.lt Nat _ l le) (hall : AllLt L' (news ++ codes))
    (hm : ∀ r ∈ more, 96 < r.1 ∧ le < r.1 ∧ r.1 ≠ I ∧ ∀ q ∈ news ++ codes, q.1 < r.1) :
    ∀ p ∈ (96, tab) :: (le, ends) :: (L' + 1 + 1 + 1 + 1 + 1, oE) :: (L' + 1 + 1 + 1 + 1, oP) :: (L' + 1 + 1 + 1, oS) :: (L' + 1 + 1, oW) :: (L' + 1, oL) :: (l, row) :: ((news ++ codes) ++ more), p.1 ≠ I := fun p hp => by
  rcases List.mem_cons.mp hp with e | hp
  · subst e; exact Nat.ne_of_lt h1
  rcases List.mem_cons.mp hp with e | hp
  · subst e; exact Nat.ne_of_lt h2
  rcases List.mem_cons.mp hp with e | hp
  · subst e; exact Nat.ne_of_lt (by omega)
  rcases List.mem_cons.mp hp with e | hp
  · subst e; exact Nat.ne_of_lt (by omega)
  rcases List.mem_cons.mp hp with e | hp
  · subst e; exact Nat.ne_of_lt (by omega)
  rcases List.mem_cons.mp hp with e | hp
  · subst e; exact Nat.ne_of_lt (by omega)
  rcases List.mem_cons.mp hp with e | hp
  · subst e; exact Nat.ne_of_lt (by omega)
  rcases List.mem_cons.mp hp with e | hp
  · subst e; exact Nat.ne_of_lt (by omega)
  rcases List.mem_append.mp hp with hp | hp
  · exact Nat.ne_of_lt (Nat.lt_trans (allLt_mem hall p hp) (by omega))
  · exact (hm p hp).2.2.1
theorem name_skip {α : Type} {a b : α} (z : Str) (hz : [Str.ofString "low", Str.ofString "high", Str.ofString "name"].contains z = false) : (if z = Str.ofString "name" then a else b) = b := if_neg fun e => by subst e; revert hz; decide +kernel
theorem high_skip {α : Type} {a b : α} (z : Str) (hz : [Str.ofString "low", Str.ofString "high", Str.ofString "name"].contains z = false) : (if z = Str.ofString "high" then a else b) = b := if_neg fun e => by subst e; revert hz; decide +kernel
theorem low_skip {α : Type} {a b : α} (z : Str) (hz : [Str.ofString "low", Str.ofString "high", Str.ofString "name"].contains z = false) : (if z = Str.ofString "low" then a else b) = b := if_neg fun e => by subst e; revert hz; decide +kernel
end Mine
end

section
open PySem PySem.W PyProof.Rows
set_option maxRecDepth 100000
namespace Mine
theorem sg_join0 : ∀ P : List Str, sg (Str.join ⟨#[]⟩ P) = (P.map sg).flatten
  | [] => rfl
  | [a] => by simp [Str.join]
  | a :: b :: r => by
    have ih := sg_join0 (b :: r)
    show sg (a ++ (⟨#[]⟩ : Str) ++ Str.join ⟨#[]⟩ (b :: r)) = sg a ++ ((b :: r).map sg).flatten
    rw [← ih]
    show ((a.cps ++ #[]) ++ (Str.join ⟨#[]⟩ (b :: r)).cps).toList = _
    simp
/-- the signs that a piece has just one of -/
def mark (c : Nat) : Bool := c == 46 || (c == 98 || c == 66)
def marks (l : List Nat) : Nat := (l.filter mark).length
theorem marks_append (a b : List Nat) : marks (a ++ b) = marks a + marks b := by unfold marks; rw [List.filter_append, List.length_append]
theorem marks_drop (l : List Nat) (k : Nat) : marks (l.drop k) ≤ marks l := by
  have := marks_append (l.take k) (l.drop k)
  rw [List.take_append_drop] at this
  omega
theorem mark_lowc {c : Nat} (h : Six c) : mark (lowc c) = mark c := by rcases h with q | q | q | q | q | q <;> subst q <;> decide
theorem marks_low : ∀ {l : List Nat}, (∀ c ∈ l, Six c) → marks (l.map lowc) = marks l
  | [], _ => rfl
  | c :: r, h => by
    have ih := marks_low (l := r) fun c hc => h c (.tail _ hc)
    have hc := mark_lowc (h c (.head _))
    unfold marks at ih ⊢
    rw [List.map_cons, List.filter_cons, List.filter_cons, hc]
    split
    · rw [List.length_cons, List.length_cons, ih]
    · exact ih
/-- a piece -/
structure Piece (t : Str) : Prop where
  six : ∀ c ∈ sg t, Six c
  one : marks (sg t) = 1
  len : (sg t).length ≤ 2
theorem piece_of (n s k : Int) : Piece (pieceAt n s k) := by
  unfold pieceAt
  have h0 := fmod4 (n.fdiv (4 ^ (s - 1 - k).toNat))
  generalize (n.fdiv (4 ^ (s - 1 - k).toNat)).fmod 4 = x at h0
  have : x.toNat = 0 ∨ x.toNat = 1 ∨ x.toNat = 2 ∨ x.toNat = 3 := by omega
  rcases this with q | q | q | q <;> rw [q] <;> exact ⟨by decide +kernel, by decide +kernel, by decide +kernel⟩
theorem pieces_sum : ∀ {P : List Str}, (∀ t ∈ P, Piece t) → marks (P.map sg).flatten = P.length ∧ (P.map sg).flatten.length ≤ 2 * P.length ∧ ∀ c ∈ (P.map sg).flatten, Six c
  | [], _ => ⟨rfl, Nat.zero_le _, fun c hc => by cases hc⟩
  | t :: r, h => by
    obtain ⟨i1, i2, i3⟩ := pieces_sum (P := r) fun t ht => h t (.tail _ ht)
    obtain ⟨p1, p2, p3⟩ := h t (.head _)
    rw [List.map_cons, List.flatten_cons]
    refine ⟨?_, ?_, ?_⟩
    · rw [marks_append, i1, p2, List.length_cons]; omega
    · rw [List.length_append, List.length_cons]; omega
    · intro c hc
      rcases List.mem_append.mp hc with hc | hc
      · exact p1 c hc
      · exact i3 c hc
theorem nil_is : Str.ofString "" = ⟨#[]⟩ := by decide +kernel
theorem sg_ltext (n : Int) (k : Nat) : sg (ltext n k) = (((rangeKs 0 k).map (pieceAt n k)).map sg).flatten := by
  unfold ltext
  rw [nil_is]
  unfold Txt.join
  rw [StrLaws.glued_eq_join]
  exact sg_join0 _
theorem ltext_facts (n : Int) (k : Nat) : marks (sg (ltext n k)) = k ∧ (ltext n k).length ≤ 2 * k ∧ ∀ c ∈ sg (ltext n k), Six c := by
  have h := pieces_sum (P := (rangeKs 0 k).map (pieceAt n k)) fun t ht => by
    obtain ⟨j, _, rfl⟩ := List.mem_map.mp ht
    exact piece_of _ _ _
  rw [← sg_ltext, List.length_map, rangeKs_length, sg_len] at h
  exact h
theorem ltext_ok (n : Int) {k : Nat} (hk : k ≤ 8) : Ok (ltext n k) := by
  obtain ⟨_, h2, h3⟩ := ltext_facts n k
  exact ⟨by omega, h3⟩
/-- the host -/
@[reducible] def hostOf (n : Int) : Str := Str.ofString "a" ++ ltext n 4
theorem sg_host (n : Int) : sg (hostOf n) = 97 :: sg (ltext n 4) := by
  show (#[97] ++ (ltext n 4).cps).toList = _
  simp
theorem host_ok (n : Int) : Ok (hostOf n) ∧ (hostOf n).length ≤ 9 := by
  obtain ⟨_, h2, h3⟩ := ltext_facts n 4
  have hl : (hostOf n).length = (ltext n 4).length + 1 := by rw [← sg_len, sg_host, List.length_cons, sg_len]
  refine ⟨⟨by omega, fun c hc => ?_⟩, by omega⟩
  have hc' : c ∈ sg (hostOf n) := hc
  rw [sg_host] at hc'
  rcases List.mem_cons.mp hc' with rfl | hc'
  · exact .inl rfl
  · exact h3 c hc'
theorem host_head (n : Int) : (sg (low (hostOf n))).head? = some 97 := by rw [sg_low, sg_host]; rfl
theorem host_marks (n : Int) : marks (sg (low (hostOf n))) = 4 := by
  rw [sg_low, marks_low (host_ok n).1.sign]
  show marks (sg (hostOf n)) = 4
  rw [sg_host]
  have := (ltext_facts n 4).1
  show marks ([97] ++ sg (ltext n 4)) = 4
  rw [marks_append, this]
  rfl
theorem starts_no {x : Str} (h : (sg x).head? ≠ some 46) : Txt.startswith x (Str.ofString ".") = false := by
  rw [dot_is]
  unfold Txt.startswith
  rw [StrLaws.subAt_eq]
  have e2 : (List.take (⟨#[46]⟩ : Str).length (List.drop 0 x.cps.toList) == (⟨#[46]⟩ : Str).cps.toList) = false := by
    cases hs : x.cps.toList with
    | nil => rfl
    | cons a r =>
      have h' : (x.cps.toList).head? ≠ some 46 := h
      rw [hs] at h'
      have ha : a ≠ 46 := fun q => h' (by rw [q]; rfl)
      show ([a] == [46]) = false
      simpa using ha
  rw [e2, Bool.and_false]
/-- the first test -/
theorem dot_first (n : Int) {dom : Str} (hO : Ok dom) (hm : marks (sg (low dom)) ≤ 3) (place : Nat) {whole : Str} (hw : sg whole = (sg dom).drop place) (hOw : Ok whole) (h : Txt.slice whole (some 1) (some 2) ≠ Str.ofString ".") : dmatch (upp (hostOf n)) (Txt.slice whole (some 1) none) = false := by
  have hs : sg (Txt.slice whole (some 1) none) = (sg whole).drop 1 := sg_slice_from whole (by decide)
  have hne : low (upp (hostOf n)) ≠ low (Txt.slice whole (some 1) none) := by
    rw [low_upp (host_ok n).1]
    intro q
    have q2 := congrArg (fun t => marks (sg t)) q
    rw [host_marks, sg_low, hs, hw, List.drop_drop, List.map_drop] at q2
    rw [sg_low] at hm
    have := marks_drop ((sg dom).map lowc) (place + 1)
    omega
  have hst : Txt.startswith (low (Txt.slice whole (some 1) none)) (Str.ofString ".") = false := by
    refine starts_no fun q => h ?_
    rw [sg_low, hs, List.head?_map] at q
    refine sg_ext ?_
    rw [dot_is]
    cases hd : (sg whole).drop 1 with
    | nil => rw [hd] at q; cases q
    | cons a r =>
      rw [hd] at q
      have ha : lowc a = 46 := by simpa using q
      have h6 : Six a := hOw.sign a (by
        have : a ∈ (sg whole).drop 1 := by rw [hd]; exact .head _
        exact List.mem_of_mem_drop this)
      have ha' : a = 46 := by
        have := lowc_dot h6
        rw [ha] at this
        simpa using this.symm
      have hl : 2 ≤ whole.length := by
        have := congrArg List.length hd
        rw [List.length_drop, sg_len, List.length_cons] at this
        omega
      rw [sg_slice whole (by decide) (by decide) (by omega)]
      show ((sg whole).drop 1).take 1 = [46]
      rw [hd, ha']
      rfl
  unfold dmatch
  rw [hst]
  simp [hne]
theorem dom_marks (n : Int) : marks (sg (low (ltext n 3))) = 3 := by
  rw [sg_low, marks_low (ltext_ok n (by decide)).sign]
  exact (ltext_facts n 3).1
end Mine
end

section
open PySem PySem.W PyProof.Rows PyProof PySem.Calls PyProof.V PySem.Spec PySem.SeqAt
set_option maxRecDepth 100000
namespace Mine
theorem depthAll_strs (ns : List Str) : PyData.depthAll (ns.map PyData.str) ≤ 1 := by
  induction ns with
  | nil => simp [PyData.depthAll]
  | cons n r ih => simp only [List.map_cons, PyData.depthAll, PyData.depth]; omega
theorem strOk_of {t : Str} (h : Ok t) : PyData.strOk t = true := by
  unfold PyData.strOk
  rw [Array.all_eq_true']
  intro c hc
  have := h.sign c (Array.mem_toList_iff.mpr hc)
  simp only [decide_eq_true_eq]
  rcases this with q | q | q | q | q | q <;> omega
theorem canLayAll0_strs : ∀ ns : List Str, (∀ t ∈ ns, Ok t) → PyData.canLayAll0 (ns.map PyData.str) = true
  | [], _ => by simp [PyData.canLayAll0]
  | t :: r, h => by simp [PyData.canLayAll0, PyData.canLay0, canLayAll0_strs r (fun t ht => h t (.tail _ ht)), strOk_of (h t (.head _))]
theorem readsAll_of_strs {h : Heap} : ∀ {vs : List Value} {ns : List Str}, StrsAre vs ns → ReadsAll h vs (ns.map PyData.str) []
  | _, _, .nil => .nil
  | _, _, .cons k t r => by
    have := ReadsAll.cons (Reads.str (h := h) k t) (readsAll_of_strs (h := h) r)
    simpa using this
theorem reads_of_strs {h : Heap} {a : Addr} {vs : List Value} {ns : List Str} (hl : h.IsList a vs.toArray) (hi : StrsAre vs ns) : Reads h (.ref a) (.list (ns.map PyData.str)) [a] := by
  obtain ⟨o, ho, hc, n, hd⟩ := hl
  exact Reads.list ho hc hd (by simpa using readsAll_of_strs hi)
theorem shaped_strs (ns : List Str) (hO : ∀ t ∈ ns, Ok t) : SeqAt.shaped (.list (ns.map PyData.str)) = true := by
  have h1 := depthAll_strs ns
  have h2 : PyData.depth (.list (ns.map PyData.str)) ≤ 64 := by simp only [PyData.depth]; omega
  show (PyData.canLay0 (.list (ns.map PyData.str)) && decide (PyData.depth (.list (ns.map PyData.str)) ≤ 64)) = true
  rw [Bool.and_eq_true]
  exact ⟨by simp only [PyData.canLay0]; exact canLayAll0_strs ns hO, decide_eq_true h2⟩
theorem noMix_strs : ∀ ns ms : List Str, SeqAt.noMixAll (ns.map PyData.str) (ms.map PyData.str) = true
  | [], [] => by simp [SeqAt.noMixAll]
  | [], _ :: _ => by simp [SeqAt.noMixAll]
  | _ :: _, [] => by simp [SeqAt.noMixAll]
  | _ :: r, _ :: q => by simp [SeqAt.noMixAll, SeqAt.noMix, noMix_strs r q]
theorem same_strs : ∀ ns ms : List Str, PySem.Spec.sameAll (ns.map PyData.str) (ms.map PyData.str) = decide (ns = ms)
  | [], [] => by simp [PySem.Spec.sameAll]
  | [], _ :: _ => by simp [PySem.Spec.sameAll]
  | _ :: _, [] => by simp [PySem.Spec.sameAll]
  | n :: r, k :: q => by
    simp only [List.map_cons, PySem.Spec.sameAll, PySem.Spec.same, same_strs r q]
    by_cases h : n = k <;> simp [h]
theorem ne_strsK {prog : Program} {w : World} {A : Around} {E : Value → Shared → Prop} {s : Shared} {a b : Addr} {vs us : List Value} {ns ms : List Str} {Q : Value → Shared → Prop} (hl : s.heap.IsList a vs.toArray) (hi : StrsAre vs ns) (hl' : s.heap.IsList b us.toArray) (hi' : StrsAre us ms) (hO : ∀ t ∈ ns, Ok t) (hO' : ∀ t ∈ ms, Ok t) (hu : A.units + 64 < cLine)
    (h : Q (.bool (!decide (ns = ms))) s) : wpAny (model prog w) A (compareOp .NotEq (.ref a) (.ref b)) Q E s :=
  ne_dataH_same (reads_of_strs hl hi) (reads_of_strs hl' hi') (shaped_strs ns hO) (shaped_strs ms hO') hu (by simp only [SeqAt.noMix]; exact noMix_strs ns ms) (by simp only [PySem.Spec.same]; rw [same_strs]; exact h)
theorem ne_strs_same {prog : Program} {w : World} {A : Around} {E : Value → Shared → Prop} {s : Shared} {a b : Addr} {vs us : List Value} {ns ms : List Str} {Q : Value → Shared → Prop} (hl : s.heap.IsList a vs.toArray) (hi : StrsAre vs ns) (hl' : s.heap.IsList b us.toArray) (hi' : StrsAre us ms) (he : ns = ms) (hO : ∀ t ∈ ns, Ok t) (hu : A.units + 64 < cLine)
    (h : Q (.bool false) s) : wpAny (model prog w) A (compareOp .NotEq (.ref a) (.ref b)) Q E s := by
  subst he
  refine ne_strsK hl hi hl' hi' hO hO hu ?_
  rw [decide_eq_true rfl]
  exact h
end Mine
end

section
open PySem PySem.W PyProof.Rows
set_option maxRecDepth 100000
namespace Mine
/-- the tails of a text -/
def tailTexts (small : Str) (n : Nat) : List Str := (List.range n).map fun (j : Nat) => Txt.slice small (some (j : Int)) none
theorem tails_succ (small : Str) (n : Nat) : tailTexts small (n + 1) = tailTexts small n ++ [Txt.slice small (some (n : Int)) none] := by
  unfold tailTexts
  rw [List.range_succ, List.map_append]
  rfl
theorem tails_len (small : Str) (n : Nat) : (tailTexts small n).length = n := by unfold tailTexts; rw [List.length_map, List.length_range]
theorem tails_ok {small : Str} (h : Ok small) (n : Nat) : ∀ t ∈ tailTexts small n, Ok t := fun t ht => by
  obtain ⟨j, _, rfl⟩ := List.mem_map.mp ht
  exact h.slice _ _
theorem tails_sg (small : Str) : (tailTexts small small.length).map sg = tailsOf (sg small) := by
  unfold tailTexts tailsOf
  rw [List.map_map, sg_len]
  refine List.map_congr_left fun j _ => ?_
  exact sg_slice_from small (by omega)
theorem strs_append {vs us : List Value} {ss ts : List Str} (h : StrsAre vs ss) (h' : StrsAre us ts) : StrsAre (vs ++ us) (ss ++ ts) := by
  induction h with
  | nil => exact h'
  | cons y t _ ih => exact .cons y t ih
theorem strs_insert {its : List Value} {ss : List Str} (hS : StrsAre its ss) (x : Str) (t : Tok) {r : Int} {q : Nat} (hr : r = q) (hq : q ≤ ss.length) : StrsAre (kl_ins its r (.str x t)) (ss.take q ++ x :: ss.drop q) := by
  subst hr
  unfold kl_ins
  rw [if_neg (by omega), strs_len hS, Int.toNat_natCast, Nat.min_eq_left hq]
  exact strs_append (strs_take hS q) (.cons x t (strs_drop hS q))
/-- what the row is after some turns -/
structure RowTo (ss tails : List Str) (i : Nat) : Prop where
  up : Up ss
  perm : ss.Perm (tails.take i)
theorem rowTo_nil (tails : List Str) : RowTo [] tails 0 := ⟨.nil, by rw [List.take_zero]⟩
theorem rowTo_next {ss tails : List Str} {i : Nat} {x : Str} {r : Int} (h : RowTo ss tails i) (hx : tails[i]? = some x) (hr : BisR (ltS ss x) ss.length r) :
    ∃ q : Nat, r = q ∧ q ≤ ss.length ∧ RowTo (ss.take q ++ x :: ss.drop q) tails (i + 1) := by
  have hb := bnd_whole h.up x
  refine ⟨_, hr.of hb, hb.le, up_insert h.up hb, ?_⟩
  refine (insert_perm ss x _).trans ?_
  rw [List.take_add_one, hx]
  exact ((List.Perm.cons x h.perm).trans (List.perm_append_singleton x _).symm)
theorem up_of_sorted : ∀ {ss : List Str}, sortedS ss = true → Up ss
  | [], _ => .nil
  | [a], _ => List.pairwise_singleton _ _
  | a :: b :: r, h => by
    have h' : (!PySem.Spec.ltCps b.cps.toList a.cps.toList && sortedS (b :: r)) = true := h
    rw [Bool.and_eq_true, ltCps_eq] at h'
    have ih := up_of_sorted (ss := b :: r) h'.2
    have hab : ¬ sg b < sg a := by simpa using h'.1
    refine List.Pairwise.cons (fun c hc => ?_) ih
    rcases List.mem_cons.mp hc with rfl | hc
    · exact hab
    · have hbc := (List.pairwise_cons.mp ih).1 c hc
      exact fun z => hbc (lt_le z hab)
theorem row_whole {ss tails : List Str} {n : Nat} (h : RowTo ss tails n) (hn : tails.length = n) : ss.Perm tails := by
  have := h.perm
  rw [← hn, List.take_length] at this
  exact this
theorem row_sorted {ss tails ss' : List Str} {n : Nat} (h : RowTo ss tails n) (hn : tails.length = n) (hp : ss'.Perm tails) (hs : sortedS ss' = true) : ss = ss' :=
  up_unique h.up (up_of_sorted hs) ((row_whole h hn).trans hp.symm)
theorem row_ok {ss : List Str} {small : Str} (h : RowTo ss (tailTexts small small.length) small.length) : RowOk ss small :=
  ⟨h.up, by rw [← tails_sg]; exact (row_whole h (tails_len _ _)).map sg⟩
/-- what _law_dot asks of a dot of the domain -/
theorem dotOk_at (a b : Int) {ss : List Str} (hr : RowOk ss (low (hostOf a))) {place : Nat} (hp : place < (ltext b 3).length) (hd : (sg (ltext b 3))[place]? = some 46) {whole : Str} (hw : whole = Txt.slice (ltext b 3) (some (place : Int)) none) :
    DotOk ss (upp (hostOf a)) (lname (low (hostOf a))) whole := by
  have hO := ltext_ok b (k := 3) (by decide)
  have hOw : Ok whole := by rw [hw]; exact hO.slice _ _
  have hs : sg whole = (sg (ltext b 3)).drop place := by rw [hw]; exact sg_slice_from _ (by omega)
  have hh : (sg (low whole)).head? = some 46 := by
    rw [sg_low, hs, List.head?_map, List.head?_drop, hd]
    rfl
  exact ⟨dot_first a hO (by rw [dom_marks]; decide) place hs hOw, fun e h1 h2 r hb => dot_lo hr.up _ e h1 r hb, fun e h1 h2 r hb => dot_hi hr.up _ e h1 r hb, fun e h1 h2 => dot_hdn hOw e h1 h2, fun e h1 h2 => dot_dm (host_ok a).1 hOw hr (host_head a) hh e h1 h2⟩
theorem item_dot {x : Str} {i : Nat} (hi : i < x.length) (h : (Txt.item x (0 + (i : Int)) == Str.ofString ".") = true) : (sg x)[i]? = some 46 := by
  rw [beq_iff_eq, dot_is, Int.zero_add] at h
  unfold Txt.item at h
  have h1 : (Txt.charAt x (i : Int)).getD 0 = 46 := by
    have := congrArg (fun t : Str => t.cps.toList) h
    simpa using this
  have h2 : Txt.charAt x (i : Int) = x.cps[i]? := by
    unfold Txt.charAt
    have : seqIndex? (i : Int) x.length = some i := by
      unfold seqIndex?
      have e1 : ¬ ((i : Int) < 0) := by omega
      have e2 : (decide (0 ≤ (i : Int)) && decide ((i : Int) < (x.length : Int))) = true := by simp; omega
      simp only [if_neg e1]
      rw [if_pos e2]
      simp
    rw [this]
    rfl
  rw [h2] at h1
  have h3 : i < x.cps.size := hi
  rw [Array.getElem?_eq_getElem h3] at h1
  show x.cps.toList[i]? = some 46
  rw [Array.getElem?_toList, Array.getElem?_eq_getElem h3]
  simpa using h1
theorem bools_true : ∀ {ys : List Value}, (∀ y ∈ ys, y = .bool true) → LSm.BoolsAre ys (ys.map fun _ => true)
  | [], _ => .nil
  | y :: r, h => by
    rw [h y (.head _)]
    exact .cons true (bools_true fun y hy => h y (.tail _ hy))
theorem bools_all (ys : List Value) : (ys.map fun _ => true).all id = true := by
  rw [List.all_eq_true]
  intro b hb
  obtain ⟨_, _, rfl⟩ := List.mem_map.mp hb
  rfl
/-- the host in great letters matches itself -/
theorem self_match {h : Str} (hO : Ok h) : dmatch (upp h) h = true := by
  unfold dmatch
  rw [low_upp hO, beq_self_eq_true]
  rfl
end Mine
end

section
open PySem PySem.W PyProof.Rows
set_option maxRecDepth 100000
set_option maxHeartbeats 40000000
namespace Mine
theorem off_all {T : List (Addr × Obj)} {a b c d e : Nat} (h : ∀ q ∈ T, q.1 ≠ a ∧ q.1 ≠ b ∧ q.1 ≠ c ∧ q.1 ≠ d) (he : e = a ∨ e = b ∨ e = c ∨ e = d) : ∀ q ∈ T, q.1 ≠ e := fun q hq => by
  obtain ⟨h1, h2, h3, h4⟩ := h q hq
  rcases he with rfl | rfl | rfl | rfl <;> assumption
local macro_rules | `(tactic| k_all) => `(tactic| first | (refine' allLt_ne ?q1 ?q2; (case q1 => assumption); (case q2 => omega)) | (refine' off_all ?q1 ?q2; (case q1 => assumption); (case q2 => omega)))
local macro_rules | `(tactic| walk_at "call ref") => `(tactic| (k_here; refine Hold.out ?_))
local macro_rules | `(tactic| walk_at "call mine") => `(tactic| (k_here; (try dsimp only [List.nil_append]); (with_reducible show wpAny _ _ (call (Value.ref 50) [Value.str _ _, Value.str _ _]) _ _ _); refine' domain_match_spec _ _ _ _ _ _ _ _ _ _ _ _ _ _ _ _ _ _ _ _ _ _ ?k1 ?k2 ?k3 ?k4 ?k5 ?kK ?kp ?kd ?ku ?kR; (case k1 => k_asm); (case k2 => k_asm); (case k3 => k_asm); (case k4 => k_asm); (case k5 => k_asm); (case kK => first | exact rfl | assumption); (case kp => exact ⟨by first | with_reducible assumption | exact Ok.slice (by with_reducible assumption) _ _, by first | with_reducible assumption | exact Ok.slice (by with_reducible assumption) _ _⟩); (case kd => ktr_room); (case ku => ktr_units); intro v9 h9 tk9 e9 F9 N9; subst e9; (try dsimp only); (try k_fold)))
local macro_rules | `(tactic| walk_at "call builtin:str.lower") => `(tactic| (k_here; (with_reducible show wpAny _ _ (call (Value.builtin "str.lower") [Value.str _ _]) _ _ _); refine' lower_K ?k1 ?_; (case k1 => assumption); k_whole; intro hO9 hl9))
local macro_rules | `(tactic| walk_at "exec For Name Call cons nil") => `(tactic| (k_here; refine Hold.out ?_))
local macro_rules | `(tactic| walk_at "call mine") => `(tactic| (k_here; (try dsimp only [List.nil_append]); (with_reducible show wpAny _ _ (call (Value.ref 77) [Value.ref _, Value.str _ _] _) _ _ _); (show wpAny _ _ (call (Value.ref 77) [Value.ref _, Value.str _ _] [(Str.ofString "key", Value.ref _)]) _ _ _); refine' bl_key_use (ss := _) ?l1 ?l2 ?l3 ?l4 ?l5 ?l6 ?l7 ?l8 ?k1 ?k2 ?k3 ?k4 ?k5 ?kK ?kd ?ku ?kR; (case k4 => k_asm); (case l1 => k_mem); (case l2 => k_mem); (case l3 => rfl); (case l4 => with_reducible assumption); (case l5 => first | with_reducible assumption | exact Ok.slice (by with_reducible assumption) _ _); (case l6 => with_reducible assumption); (case l7 => with_reducible assumption); (case l8 => with_reducible assumption); (case k1 => k_asm); (case k2 => k_asm); (case k3 => k_asm); (case k5 => k_asm); (case kK => first | exact rfl | assumption); (case kd => ktr_room); (case ku => ktr_units); intro r9 t9 h9 tk9 e9 F9 N9; (try dsimp only); (try k_fold)))
local macro_rules | `(tactic| walk_at "call mine") => `(tactic| (k_here; (try dsimp only [List.nil_append]); (with_reducible show wpAny _ _ (call (Value.ref 59) [Value.ref _, Value.str _ _] _) _ _ _); (show wpAny _ _ (call (Value.ref 59) [Value.ref _, Value.str _ _] [(Str.ofString "key", Value.ref _)]) _ _ _); refine' br_key_use (ss := _) ?l1 ?l2 ?l3 ?l4 ?l5 ?l6 ?l7 ?l8 ?k1 ?k2 ?k3 ?k4 ?k5 ?kK ?kd ?ku ?kR; (case k4 => k_asm); (case l1 => k_mem); (case l2 => k_mem); (case l3 => rfl); (case l4 => with_reducible assumption); (case l5 => first | with_reducible assumption | exact Ok.slice (by with_reducible assumption) _ _); (case l6 => with_reducible assumption); (case l7 => with_reducible assumption); (case l8 => with_reducible assumption); (case k1 => k_asm); (case k2 => k_asm); (case k3 => k_asm); (case k5 => k_asm); (case kK => first | exact rfl | assumption); (case kd => ktr_room); (case ku => ktr_units); intro r9 t9 h9 tk9 e9 F9 N9; (try dsimp only); (try k_fold)))
local macro_rules | `(tactic| walk_at "callWith ref") => `(tactic| (k_here; k_dflt (refine' callWith_F ?k1 ?_; (case k1 => exact FnAt.of (by k_asm) (by k_mem)); k_whole)))
local macro_rules | `(tactic| walk_at "CompSrcT") => `(tactic| (k_here; refine Hold.out ?_))
local macro_rules | `(tactic| walk_at "call builtin:len") => `(tactic| (k_here; (with_reducible show wpAny _ _ (call (Value.builtin "len") [Value.ref _]) _ _ _); (refine KM.len_K (by k_asm) (by k_dflt k_mem) (by with_reducible assumption) (by omega) ?_)))
local macro_rules | `(tactic| walk_at "call mine") => `(tactic| (k_here; (try dsimp only [List.nil_append]); (with_reducible show wpAny _ _ (call (Value.ref 89) [Value.str _ _]) _ _ _); refine' law_name_spec _ _ _ _ _ _ _ _ _ _ _ _ _ _ _ _ _ _ _ _ ?k1 ?k2 ?k3 ?k4 ?k5 ?kK ?kp ?kd ?ku ?kR; (case k1 => k_asm); (case k2 => k_asm); (case k3 => k_asm); (case k4 => k_asm); (case k5 => k_asm); (case kK => first | exact rfl | assumption); (case kp => first | with_reducible assumption | exact Ok.slice (by first | with_reducible assumption | exact Ok.slice (by with_reducible assumption) _ _) _ _); (case kd => ktr_room); (case ku => ktr_units); intro v9 h9 tk9 e9 F9 N9; subst e9; (try dsimp only); (try k_fold)))
local macro_rules | `(tactic| walk_at "call mine") => `(tactic| (k_here; (try dsimp only [List.nil_append]); (with_reducible show wpAny _ _ (call (Value.ref 43) [Value.str _ _]) _ _ _); refine' is_HDN_spec _ _ _ _ _ _ _ _ _ _ _ _ _ _ _ _ _ _ _ _ ?k1 ?k2 ?k3 ?k4 ?k5 ?kK ?kp ?kd ?ku ?kR; (case k1 => k_asm); (case k2 => k_asm); (case k3 => k_asm); (case k4 => k_asm); (case k5 => k_asm); (case kK => first | exact rfl | assumption); (case kp => first | with_reducible assumption | exact Ok.slice (by first | with_reducible assumption | exact Ok.slice (by with_reducible assumption) _ _) _ _); (case kd => ktr_room); (case ku => ktr_units); intro v9 h9 tk9 e9 F9 N9; subst e9; (try dsimp only); (try k_fold)))
local macro_rules | `(tactic| walk_at "call builtin:list.append") => `(tactic| (k_here; (try dsimp only [List.cons_append, List.nil_append]); (with_reducible show wpAny _ _ (call (Value.builtin _) [Value.ref _, _]) _ _ _); k_dflt (refine' append_K ?k1 ?k2 ?k3 ?_ ?z; (case k1 => k_asm); (case k2 => k_asm); (case k3 => k_upd); (case z => (rw [PySem.sizeLine_eq]; omega)); k_whole); intro h' F' N'; (try k_sweep)))
local macro_rules | `(tactic| walk_at "call mine") => `(tactic| (k_here; (try dsimp only [List.nil_append]); (with_reducible show wpAny _ _ (call (Value.ref 77) [Value.ref _, Value.str _ _] _) _ _ _); (show wpAny _ _ (call (Value.ref 77) [Value.ref _, Value.str _ _] []) _ _ _); refine' bl_use (ss := _) ?l1 ?l5 ?l6 ?l7 ?k1 ?k2 ?k3 ?k4 ?k5 ?kK ?kd ?ku ?kR; (case k4 => k_asm); (case l1 => k_mem); (case l5 => first | with_reducible assumption | exact Ok.slice (by with_reducible assumption) _ _); (case l6 => with_reducible assumption); (case l7 => with_reducible assumption); (case k1 => k_asm); (case k2 => k_asm); (case k3 => k_asm); (case k5 => k_asm); (case kK => first | exact rfl | assumption); (case kd => ktr_room); (case ku => ktr_units); intro r9 t9 h9 tk9 e9 F9 N9; (try dsimp only); (try k_fold)))
local macro_rules | `(tactic| walk_at "call mine") => `(tactic| (k_here; (try dsimp only [List.nil_append]); (with_reducible show wpAny _ _ (call (Value.ref 59) [Value.ref _, Value.int _ _] _) _ _ _); (show wpAny _ _ (call (Value.ref 59) [Value.ref _, Value.int _ _] []) _ _ _); refine' bri_use (ss := _) ?l1 ?l6 ?l7 ?k1 ?k2 ?k3 ?k4 ?k5 ?kK ?kd ?ku ?kR; (case k4 => k_asm); (case l1 => k_mem); (case l6 => with_reducible assumption); (case l7 => with_reducible assumption); (case k1 => k_asm); (case k2 => k_asm); (case k3 => k_asm); (case k5 => k_asm); (case kK => first | exact rfl | assumption); (case kd => ktr_room); (case ku => ktr_units); intro r9 t9 h9 tk9 e9 F9 N9; (try dsimp only); (try k_fold)))
local macro_rules | `(tactic| walk_at "call mine") => `(tactic| (k_here; (try dsimp only [List.nil_append]); (with_reducible show wpAny _ _ (call (Value.ref 77) [Value.ref _, Value.bool true] _) _ _ _); (show wpAny _ _ (call (Value.ref 77) [Value.ref _, Value.bool true] [(Str.ofString "key", Value.ref _)]) _ _ _); refine' bl_ask_use (ss := _) ?l1 ?l2 ?l3 ?l4 ?l6 ?l7 ?l8 ?k1 ?k2 ?k3 ?k4 ?k5 ?kK ?kd ?ku ?kR; (case k4 => k_asm); (case l1 => k_mem); (case l2 => k_mem); (case l3 => rfl); (case l4 => with_reducible assumption); (case l6 => with_reducible assumption); (case l7 => with_reducible assumption); (case l8 => with_reducible assumption); (case k1 => k_asm); (case k2 => k_asm); (case k3 => k_asm); (case k5 => k_asm); (case kK => first | exact rfl | assumption); (case kd => ktr_room); (case ku => ktr_units); intro r9 t9 h9 tk9 e9 F9 N9; (try dsimp only); (try k_fold)))
local macro_rules | `(tactic| walk_at "CompSrc") => `(tactic| (k_here; refine Hold.out ?_))
local macro_rules | `(tactic| walk_at "eval ListComp") => `(tactic| (k_here; (with_reducible show wpAny _ _ (eval (Expr.ListComp _ [⟨_, _, [], _⟩] _ _) _) _ _ _); k_dflt (refine LCg.ListComp_U (F₀ := by k_asm) (by with_unfolding_all rfl) (by decide) (by rfl) (by decide) (by rfl) ?_)))
local macro_rules | `(tactic| walk_at "call mine") => `(tactic| (k_here; (try dsimp only [List.nil_append]); (with_reducible show wpAny _ _ (call (Value.ref 94) [Value.str _ _, Value.str _ _]) _ _ _); refine' law_common_spec _ _ _ _ _ _ _ _ _ _ _ _ _ _ _ _ _ _ _ _ _ _ ?k1 ?k2 ?k3 ?k4 ?k5 ?kK ?kp ?kd ?ku ?kR; (case k1 => k_asm); (case k2 => k_asm); (case k3 => k_asm); (case k4 => k_asm); (case k5 => k_asm); (case kK => first | exact rfl | assumption); (case kp => exact ⟨by with_reducible assumption, by with_reducible assumption⟩); (case kd => ktr_room); (case ku => ktr_units); intro v9 h9 tk9 e9 F9 N9; obtain ⟨M9, t9, e8, hM9⟩ := e9; subst e8; (try dsimp only); (try k_fold)))
local macro_rules | `(tactic| walk_at "subscriptTail Name Slice ref ref") => `(tactic| (k_here; refine Hold.out ?_))
local macro_rules | `(tactic| walk_at "call builtin:max") => `(tactic| (k_here; (with_reducible show wpAny _ _ (call (Value.builtin "max") [Value.ref _]) _ _ _); refine Hold.out ?_))
local macro_rules | `(tactic| walk_at "eval Lambda") => `(tactic| (k_here; refine Hold.out ?_))
theorem common_snoc {ys : List Value} {sub : List Str} {b kk : Str} {i : Nat} {M : Int} {t : Tok} (hJ : ∃ ms, IntsAre ys ms ∧ ms.length = i ∧ ∀ j, j < i → Common (sub.getD j Str.empty) b (ms.getD j 0)) (hk : sub[i]? = some kk) (hM : Common kk b M) :
    ∃ ms, IntsAre (ys ++ [.int M t]) ms ∧ ms.length = i + 1 ∧ ∀ j, j < i + 1 → Common (sub.getD j Str.empty) b (ms.getD j 0) := by
  obtain ⟨ms, h1, h2, h3⟩ := hJ
  refine ⟨ms ++ [M], ints_snoc h1, by rw [List.length_append, h2]; rfl, fun j hj => ?_⟩
  rcases Nat.lt_or_ge j i with q | q
  · have := h3 j q
    simp only [List.getD_eq_getElem?_getD] at this ⊢
    rw [List.getElem?_append_left (by omega)]
    exact this
  · have e : j = i := by omega
    subst e
    simp only [List.getD_eq_getElem?_getD]
    rw [hk, List.getElem?_append_right (by omega), h2]
    simpa using hM
theorem first_bad {a b : Str} {d : Bool} (h : a ≠ b → d = false) (h1 : (a != b) = true) (h2 : (d != false) = true) : False := by
  have := h (by simpa using h1)
  subst this
  simp at h2
theorem law_dot_spec {w : World} {p : Program} {loose : List Str} {mean : ExcName → Option Value} {mg mb : Str → Option Value} (news codes : List (Addr × Obj)) (l : Addr) (its : Array Value) (n : Nat) (ps : Array Value) (ss : List Str) (loud whole : Str) (named : Bool) (tl tw : Tok) :
    SpecL 20 200 w p loose mean mg mb 99 [.ref l, .str loud tl, .bool named, .str whole tw] [] ((l, W.listOf its n) :: (96, tabObj ps) :: (news ++ codes)) (Ok loud ∧ Ok whole ∧ StrsAre its.toList ss ∧ ss.length ≤ 64 ∧ (∀ t ∈ ss, Ok t) ∧ DotOk ss loud named whole ∧ Up ss ∧ 0 < ss.length ∧ l ≠ 96 ∧ (∀ q ∈ news ++ codes, q.1 ≠ 96) ∧ TabOk lamQual ps codes)
      (fun v led => v = .bool true ∧ ∃ ps' more, led = (l, W.listOf its n) :: (96, tabObj ps') :: (news ++ (codes ++ more)) ∧ TabOk lamQual ps' (codes ++ more) ∧ ∀ r ∈ more, 96 < r.1 ∧ l < r.1 ∧ ∀ q ∈ news, q.1 < r.1) := by
  dsimp only [SpecL]; k_fill; intros; rename_i hpre hdp hun hret; obtain ⟨hOl, hOw, hS, hlen, hOs, hD, hUp, hpos, hl96, hn96, hTab⟩ := hpre; have hll := hOl.len; have hlw := hOw.len
  refine wpAny_call ?_
  k_dflt (refine' code_defC ?k1 ?k2 ?k3 ?k4 ?k5 ?kA ?kF ?kK ?k6 ?k7 ?k8 ?k9 ?kB ?kD ?_ ?c2 ?c3 ?c4; (case kA => exact rfl); (case kF => exact rfl); (case kK => assumption); (case k1 => k_asm); (case k2 => k_asm); (case k3 => k_asm); (case k4 => k_asm); (case k5 => k_asm); (case k6 => k_is); (case k7 => k_is); (case k8 => ktr_room); (case k9 => exact BindsTo.of_eq rfl); (case kB => exact rfl); (case kD => decide +kernel); (case c2 => exact rfl); (case c3 => exact rfl); (case c4 => exact rfl); k_whole; intro g' L' h' tk' cells' FG' F' N' Y' B' X' T' l1; (try k_lt l1); k_cells Y'; (try simp only [List.cons_append, List.nil_append] at N'); (try dsimp only); (try k_lift B'); (try k_fold))
  obtain ⟨hl1, h961, hall⟩ := l1
  have codeHd := codeHd_of_K (c := 98) (P := 96) X' (by kernel_rfl)
  w_on
  refine cut_exec F' N' ?_ (fun h2' tk2' F2' N2' => ?_)
  · k_steps
    all_goals (try (unfold Hold; walk_at "call mine"; k_steps))
    all_goals (first | k_asm | (exfalso; exact first_bad hD.first (by with_reducible assumption) (by with_reducible assumption)))
  · k_steps
    unfold Hold
    refine wpAny_For ?_ (by intro _; rfl)
    k_steps
    rename_i oE oP oS0 oW oL dE dP dS0 dW dL hO9 hl9 h3 o3 d3 le h4 l1 h5 F5 N5 h6 tk6 t1 u1 v1 R6 F6 N6 keep6
    replace dW : oW.data = .cell (some (.str whole tw)) := dW
    replace dL : oL.data = .cell (some (.str loud tl)) := dL
    replace dE : oE.data = .cell none := dE
    replace dP : oP.data = .cell none := dP
    have N7 : News g' L' h6 ((96, tabObj ps) :: (le, W.listOf #[] 0) :: (L' + 1 + 1 + 1 + 1 + 1, oE) :: (L' + 1 + 1 + 1 + 1, oP) :: (L' + 1 + 1 + 1, o3) :: (L' + 1 + 1, oW) :: (L' + 1, oL) :: (l, W.listOf its n) :: ((news ++ codes) ++ [])) := fun q hq => N6 q (by simp only [List.mem_cons, List.append_nil] at hq ⊢; grind only)
    clear keep6 F5 N5 N6 dS0
    dsimp only at d3 R6 l1
    obtain ⟨l11, l12, l13, l14, l15, l16, l17, l18⟩ := l1
    dsimp only
    refine forRS (n := whole.length) [Str.ofString "low", Str.ofString "high", Str.ofString "name"] (fun i nx => ∃ ps' more es k oE oP, nx = (96, tabObj ps') :: (le, W.listOf es k) :: (L' + 1 + 1 + 1 + 1 + 1, oE) :: (L' + 1 + 1 + 1 + 1, oP) :: (L' + 1 + 1 + 1, o3) :: (L' + 1 + 1, oW) :: (L' + 1, oL) :: (l, W.listOf its n) :: ((news ++ codes) ++ more) ∧ (∃ v, oE.data = .cell v) ∧ (∃ v, oP.data = .cell v) ∧ TabOk lamQual ps' (codes ++ more) ∧ IntsAre es.toList (endsTo whole i) ∧ (∀ r ∈ more, 96 < r.1 ∧ le < r.1 ∧ ∀ q ∈ news ++ codes, q.1 < r.1))
      rfl R6 (small_one (by l_bnd) (by l_bnd) (by l_bnd) (by l_bnd)) (by rw [rangeSize_nat]; omega) F6 N7 ⟨ps, [], #[], 0, oE, oP, rfl, ⟨_, dE⟩, ⟨_, dP⟩, by rw [List.append_nil]; exact hTab, .nil, fun _ h => by cases h⟩ ?turn ?done
    case turn =>
      clear N7 F6 R6 dE dP
      intro i t u nx h7 tk7 I oI hi ⟨ps1, more1, es, k, oE, oP, hnx, ⟨vE, dE⟩, ⟨vP, dP⟩, hTab1, hes, hmore⟩ hoff hLI hlt F7 N7
      subst hnx
      have N8 : News g' L' h7 ((96, tabObj ps1) :: (le, W.listOf es k) :: (L' + 1 + 1 + 1 + 1 + 1, oE) :: (L' + 1 + 1 + 1 + 1, oP) :: (L' + 1 + 1 + 1, o3) :: (L' + 1 + 1, oW) :: (L' + 1, oL) :: (l, W.listOf its n) :: (I, oI) :: ((news ++ codes) ++ more1)) := fun q hq => N7 q (by simp only [List.mem_cons] at hq ⊢; grind only)
      clear N7
      have hI1 : @LT.lt Nat _ 96 I := hlt _ (.head _)
      have hI2 : @LT.lt Nat _ le I := hlt _ (.tail _ (.head _))
      have hoffT : ∀ q ∈ (news ++ codes) ++ more1, q.1 ≠ 96 ∧ q.1 ≠ le ∧ q.1 ≠ L' + 1 + 1 + 1 + 1 + 1 ∧ q.1 ≠ L' + 1 + 1 + 1 + 1 := fun q hq => by
        rcases List.mem_append.mp hq with hq | hq
        · have h1 := hn96 q hq
          have h2 := allLt_mem hall q hq
          exact ⟨h1, Nat.ne_of_lt (Nat.lt_of_lt_of_le h2 (by omega)), Nat.ne_of_lt (Nat.lt_of_lt_of_le h2 (by omega)), Nat.ne_of_lt (Nat.lt_of_lt_of_le h2 (by omega))⟩
        · obtain ⟨h1, h2, _⟩ := hmore q hq
          exact ⟨Nat.ne_of_gt h1, Nat.ne_of_gt h2, Nat.ne_of_gt (Nat.lt_of_le_of_lt (by omega) h2), Nat.ne_of_gt (Nat.lt_of_le_of_lt (by omega) h2)⟩
      have hesz : es.size ≤ 64 := by have h1 := ints_len hes; have h2 := @ends_len whole i; rw [Array.length_toList] at h1; omega
      have hmI : ∀ r ∈ more1, r.1 ≠ I := fun r hr => hoff r (by simp only [List.mem_cons, List.mem_append]; exact .inr (.inr (.inr (.inr (.inr (.inr (.inr (.inr (.inr hr)))))))))
      clear hoff hlt
      dsimp only
      k_steps
      unfold Hold
      rename_i h8 oE1 dE1 h9 tp tk9 hlp h10 oP1 F10 N10 dP1
      clear dE dP
      (k_here; kn_here; k_dflt (refine' kla_eval ?d0 ?_; (case d0 => exact rfl)); k_dflt (refine' lam_T ?F ?N ?ne ?T ?C ?cd ?ht ?sub ?cl ?_; (case F => k_asm); (case N => k_asm); (case ne => (first | k_all | fail)); (case T => k_asm); (case cd => exact rfl); (case C => kn_code); (case ht => assumption); (case sub => (intro q hq; simp only [List.mem_cons, List.mem_append] at hq ⊢; grind only)); (case cl => exact rfl); k_whole))
      intro f1 c1 oc1 vs1 tv1 ctv1 ps2 more2 h11 tk11 F11 N11 hc1 hvs1 hq1 hTab2 hmore2 hPf1 hf1 hmf1
      simp only [List.cons_append] at N11
      rw [List.append_assoc (news ++ codes) more1 more2] at N11
      rw [List.append_assoc codes more1 more2] at hTab2 hc1
      replace hTab2 : TabOk lamQual ps2 (codes ++ (more1 ++ more2)) := hTab2
      have hmoreA : ∀ r ∈ more1 ++ more2, 96 < r.1 ∧ le < r.1 ∧ r.1 ≠ I ∧ ∀ q ∈ news ++ codes, q.1 < r.1 := fun r hr => by
        rcases List.mem_append.mp hr with hr | hr
        · exact ⟨(hmore r hr).1, (hmore r hr).2.1, hmI r hr, (hmore r hr).2.2⟩
        · obtain ⟨q1, q2⟩ := hmore2 r hr
          exact ⟨q1, q2 _ (.head _), Nat.ne_of_gt (q2 (I, oI) (by simp)), fun q hq => q2 q (by simp only [List.mem_cons]; exact .inr (.inr (.inr (.inr (.inr (.inr (.inr (.inr (List.mem_append_left _ hq))))))))) ⟩
      have hle1 : @LT.lt Nat _ le f1 := hf1 _ (.head _)
      clear hmore2 hmf1 hf1 hmore hoffT hTab1 hmI
      generalize more1 ++ more2 = moreA at *
      have hoffT : ∀ q ∈ (news ++ codes) ++ moreA, q.1 ≠ 96 ∧ q.1 ≠ le ∧ q.1 ≠ L' + 1 + 1 + 1 + 1 + 1 ∧ q.1 ≠ L' + 1 + 1 + 1 + 1 := fun q hq => by
        rcases List.mem_append.mp hq with hq | hq
        · have h1 := hn96 q hq
          have h2 := allLt_mem hall q hq
          exact ⟨h1, Nat.ne_of_lt (Nat.lt_of_lt_of_le h2 (by omega)), Nat.ne_of_lt (Nat.lt_of_lt_of_le h2 (by omega)), Nat.ne_of_lt (Nat.lt_of_lt_of_le h2 (by omega))⟩
        · obtain ⟨h1, h2, _⟩ := hmoreA q hq
          exact ⟨Nat.ne_of_gt h1, Nat.ne_of_gt h2, Nat.ne_of_gt (Nat.lt_of_le_of_lt (by omega) h2), Nat.ne_of_gt (Nat.lt_of_le_of_lt (by omega) h2)⟩
      have hcT : (c1, oc1) ∈ (news ++ codes) ++ moreA := by
        rcases List.mem_append.mp hc1 with q | q
        · exact List.mem_append_left _ (List.mem_append_right _ q)
        · exact List.mem_append_right _ q
      have hK1 := keyS_here (w := w) (p := p) (loose := loose) (mean := mean) (mg := mg) (mb := mb) (f := f1) (ce := L' + 1 + 1 + 1 + 1 + 1) (memOf N11 (.tail _ (.head _))) (by repeat (first | exact hcT | refine List.Mem.tail _ ?_)) (by k_mem) hvs1 hq1 dE1 (by omega) (by omega)
      clear hq1 hvs1 hc1 hcT
      k_steps
      unfold Hold
      walk_at "call mine"
      rename_i r1 tr1 h12 tk12 e1 F12 N12
      replace N12 := dropSecond N12
      replace e1 := hD.lo (1 + i) (by omega) (by omega) r1 e1
      clear hK1 N11 F11
      k_steps
      unfold Hold
      (k_here; kn_here; k_dflt (refine' kla_eval ?d0 ?_; (case d0 => exact rfl)); k_dflt (refine' lam_T ?F ?N ?ne ?T ?C ?cd ?ht ?sub ?cl ?_; (case F => k_asm); (case N => k_asm); (case ne => (first | k_all | fail)); (case T => k_asm); (case cd => exact rfl); (case C => kn_code); (case ht => assumption); (case sub => (intro q hq; simp only [List.mem_cons, List.mem_append] at hq ⊢; grind only)); (case cl => exact rfl); k_whole))
      intro f2 c2 oc2 vs2 tv2 ctv2 ps3 more3 h13 tk13 F13 N13 hc2 hvs2 hq2 hTab3 hmore3 hPf2 hf2 hmf2
      simp only [List.cons_append] at N13
      rw [List.append_assoc (news ++ codes) moreA more3] at N13
      rw [List.append_assoc codes moreA more3] at hTab3 hc2
      replace hTab3 : TabOk lamQual ps3 (codes ++ (moreA ++ more3)) := hTab3
      have hmoreB : ∀ r ∈ moreA ++ more3, 96 < r.1 ∧ le < r.1 ∧ r.1 ≠ I ∧ ∀ q ∈ news ++ codes, q.1 < r.1 := fun r hr => by
        rcases List.mem_append.mp hr with hr | hr
        · exact hmoreA r hr
        · obtain ⟨q1, q2⟩ := hmore3 r hr
          exact ⟨q1, q2 _ (.head _), Nat.ne_of_gt (q2 (I, oI) (by simp)), fun q hq => q2 q (by simp only [List.mem_cons]; exact .inr (.inr (.inr (.inr (.inr (.inr (.inr (.inr (List.mem_append_left _ hq))))))))) ⟩
      have hle2 : @LT.lt Nat _ le f2 := hf2 _ (.head _)
      clear hmore3 hmf2 hf2 hmoreA hoffT hTab2
      generalize moreA ++ more3 = moreB at *
      have hoffT : ∀ q ∈ (news ++ codes) ++ moreB, q.1 ≠ 96 ∧ q.1 ≠ le ∧ q.1 ≠ L' + 1 + 1 + 1 + 1 + 1 ∧ q.1 ≠ L' + 1 + 1 + 1 + 1 := fun q hq => by
        rcases List.mem_append.mp hq with hq | hq
        · have h1 := hn96 q hq
          have h2 := allLt_mem hall q hq
          exact ⟨h1, Nat.ne_of_lt (Nat.lt_of_lt_of_le h2 (by omega)), Nat.ne_of_lt (Nat.lt_of_lt_of_le h2 (by omega)), Nat.ne_of_lt (Nat.lt_of_lt_of_le h2 (by omega))⟩
        · obtain ⟨h1, h2, _⟩ := hmoreB q hq
          exact ⟨Nat.ne_of_gt h1, Nat.ne_of_gt h2, Nat.ne_of_gt (Nat.lt_of_le_of_lt (by omega) h2), Nat.ne_of_gt (Nat.lt_of_le_of_lt (by omega) h2)⟩
      have hcT : (c2, oc2) ∈ (news ++ codes) ++ moreB := by
        rcases List.mem_append.mp hc2 with q | q
        · exact List.mem_append_left _ (List.mem_append_right _ q)
        · exact List.mem_append_right _ q
      have hK2 := keyS_here (w := w) (p := p) (loose := loose) (mean := mean) (mg := mg) (mb := mb) (f := f2) (ce := L' + 1 + 1 + 1 + 1 + 1) (memOf N13 (.tail _ (.head _))) (by repeat (first | exact hcT | refine List.Mem.tail _ ?_)) (by k_mem) hvs2 hq2 dE1 (by omega) (by omega)
      clear hq2 hvs2 hc2 hcT
      k_steps
      unfold Hold
      walk_at "call mine"
      rename_i r2 tr2 h14 tk14 e2 F14 N14
      replace N14 := dropSecond N14
      replace e2 := hD.hi (1 + i) (by omega) (by omega) r2 e2
      clear hK2 N13 F13
      k_steps
      unfold Hold
      have hsz : its.size ≤ sizeLine := by rw [← Array.length_toList, strs_len hS, PySem.sizeLine_eq]; omega
      obtain ⟨cL, hcL⟩ : ∃ c, c = (ss.filter (fun t => decide ((headTo (1 + i) t).cps.toList < (headTo (1 + i) (low whole)).cps.toList))).length := ⟨_, rfl⟩
      obtain ⟨cE, hcE⟩ : ∃ c, c = (ss.filter (fun t => decide (headTo (1 + i) t = headTo (1 + i) (low whole)))).length := ⟨_, rfl⟩
      have hcL64 : cL ≤ 64 := by have := List.length_filter_le (fun t => decide ((headTo (1 + i) t).cps.toList < (headTo (1 + i) (low whole)).cps.toList)) ss; omega
      have hcE64 : cE ≤ 64 := by have := List.length_filter_le (fun t => decide (headTo (1 + i) t = headTo (1 + i) (low whole))) ss; omega
      rw [← hcL] at e1 e2
      rw [← hcE] at e2
      refine LCt.CompSrcT.ledger (by rfl) (by k_asm) (by k_asm) (by k_mem) hsz ?_
      intro g9
      refine texts_kept (ks := ss) (fun t => decide ((headTo (1 + i) t).cps.toList < (headTo (1 + i) (low whole)).cps.toList)) (by rw [← Array.length_toList, strs_len hS]) (fun j v _ hv => strs_P hS hv) (fun k' t' I' oI' C' oC' D' m' ys' h' tk' E' hk' hC' hx' F' N' off' ne' => ?_) ?_
      · have off9 := off'
        have hOk := hOs _ hk'
        have hkl := hOk.len
        simp only [LCg.Off3] at off'
        have hMark' : KPfMark := trivial
        k_steps
        all_goals (rename News _ _ _ _ => kN9)
        · exact LCg.CompEnd.intro (by assumption) kN9 _ (fun p hp => hp) off9 (.inr ⟨_, by k_mem, rfl, _, rfl⟩) ⟨rfl, decide_eq_true (by assumption), _, rfl⟩
        · exact LCg.CompEnd.intro (by assumption) kN9 _ (fun p hp => hp) off9 (.inr ⟨_, by k_mem, rfl, _, rfl⟩) ⟨rfl, decide_eq_false (by assumption)⟩
      show ∀ ys, _
      intro ys9 hS9
      have hz9 : ys9.toArray.size = cL := by rw [hcL]; simpa using strs_len hS9
      k_steps
      · exfalso; omega
      unfold Hold
      clear hS9 hz9
      rename News _ _ _ _ => N15
      replace N15 := dropFirst N15
      refine LCt.CompSrcT.ledger (by rfl) (by k_asm) (by k_asm) (by k_mem) hsz ?_
      intro g9
      refine texts_kept (ks := ss) (fun t => decide (headTo (1 + i) t = headTo (1 + i) (low whole))) (by rw [← Array.length_toList, strs_len hS]) (fun j v _ hv => strs_P hS hv) (fun k' t' I' oI' C' oC' D' m' ys' h' tk' E' hk' hC' hx' F' N' off' ne' => ?_) ?_
      · have off9 := off'
        have hOk := hOs _ hk'
        have hkl := hOk.len
        simp only [LCg.Off3] at off'
        have hMark' : KPfMark := trivial
        k_steps
        all_goals (rename News _ _ _ _ => kN9)
        · exact LCg.CompEnd.intro (by assumption) kN9 _ (fun p hp => hp) off9 (.inr ⟨_, by k_mem, rfl, _, rfl⟩) ⟨rfl, decide_eq_true (eq_of_beq (by assumption)), _, rfl⟩
        · exact LCg.CompEnd.intro (by assumption) kN9 _ (fun p hp => hp) off9 (.inr ⟨_, by k_mem, rfl, _, rfl⟩) ⟨rfl, decide_eq_false (ne_of_beq_false (by assumption))⟩
      show ∀ ys, _
      intro ys9 hS9
      have hz9 : ys9.toArray.size = cE := by rw [hcE]; simpa using strs_len hS9
      k_steps
      · exfalso; omega
      clear hS9 hz9
      rename News _ _ _ _ => N16
      replace N16 := dropFirst N16
      unfold Hold
      walk_at "call mine"
      k_steps
      all_goals (try (unfold Hold; walk_at "call mine"; k_steps))
      all_goals (try (unfold Hold; walk_at "call mine"; k_steps))
      all_goals (try (exfalso; have hhd := hD.hdn (1 + i) (by omega) (by omega); exact bool_ne hhd (by with_reducible assumption)))
      all_goals (try (exfalso; have hdm := hD.dm (1 + i) (by omega) (by omega); rw [← hcE] at hdm; first | exact dm_bad2 hdm e1 e2 (by with_reducible assumption) (by with_reducible assumption) (by with_reducible assumption) | exact dm_bad3 hdm (by with_reducible assumption) (by with_reducible assumption) (by with_reducible assumption) | exact dm_bad4 hdm (by with_reducible assumption) (by with_reducible assumption)))
      all_goals (rename Fr _ _ _ _ => F20)
      all_goals (rename News _ _ _ _ => N20)
      all_goals (first | (refine TurnR.go (nx' := (96, tabObj ps3) :: (le, W.listOf (es.push (.int (1 + (i : Int)) t)) (k + 1)) :: (L' + 1 + 1 + 1 + 1 + 1, oE1) :: (L' + 1 + 1 + 1 + 1, oP1) :: (L' + 1 + 1 + 1, o3) :: (L' + 1 + 1, oW) :: (L' + 1, oL) :: (l, W.listOf its n) :: ((news ++ codes) ++ moreB)) F20 ⟨fun z hz => by dsimp only; rw [name_skip z hz, high_skip z hz, low_skip z hz, if_neg (by rw [hz]; decide)], ps3, moreB, _, _, oE1, oP1, rfl, ⟨_, dE1⟩, ⟨_, dP1⟩, hTab3, ends_push hes (by with_reducible assumption), fun r hr => ⟨(hmoreB r hr).1, (hmoreB r hr).2.1, (hmoreB r hr).2.2.2⟩⟩ (turn_off hI1 hI2 l11 l16 hall hmoreB) (fun q hq => N20 q (by simp only [List.mem_cons] at hq ⊢; grind only))) | (refine TurnR.go (nx' := (96, tabObj ps3) :: (le, W.listOf (es) (k)) :: (L' + 1 + 1 + 1 + 1 + 1, oE1) :: (L' + 1 + 1 + 1 + 1, oP1) :: (L' + 1 + 1 + 1, o3) :: (L' + 1 + 1, oW) :: (L' + 1, oL) :: (l, W.listOf its n) :: ((news ++ codes) ++ moreB)) F20 ⟨fun z hz => by dsimp only; rw [name_skip z hz, high_skip z hz, low_skip z hz, if_neg (by rw [hz]; decide)], ps3, moreB, _, _, oE1, oP1, rfl, ⟨_, dE1⟩, ⟨_, dP1⟩, hTab3, ends_keep hes (by with_reducible assumption), fun r hr => ⟨(hmoreB r hr).1, (hmoreB r hr).2.1, (hmoreB r hr).2.2.2⟩⟩ (turn_off hI1 hI2 l11 l16 hall hmoreB) (fun q hq => N20 q (by simp only [List.mem_cons] at hq ⊢; grind only))))
    case done =>
      clear N7 F6 R6 dE dP
      intro u nx h7 tk7 ⟨ps1, more1, es, k, oE, oP, hnx, ⟨vE, dE⟩, ⟨vP, dP⟩, hTab1, hes, hmore⟩ F7 N7
      subst hnx
      have hoffT : ∀ q ∈ (news ++ codes) ++ more1, q.1 ≠ 96 ∧ q.1 ≠ le ∧ q.1 ≠ L' + 1 + 1 + 1 + 1 + 1 ∧ q.1 ≠ L' + 1 + 1 + 1 + 1 := fun q hq => by
        rcases List.mem_append.mp hq with hq | hq
        · have h1 := hn96 q hq
          have h2 := allLt_mem hall q hq
          exact ⟨h1, Nat.ne_of_lt (Nat.lt_of_lt_of_le h2 (by omega)), Nat.ne_of_lt (Nat.lt_of_lt_of_le h2 (by omega)), Nat.ne_of_lt (Nat.lt_of_lt_of_le h2 (by omega))⟩
        · obtain ⟨h1, h2, _⟩ := hmore q hq
          exact ⟨Nat.ne_of_gt h1, Nat.ne_of_gt h2, Nat.ne_of_gt (Nat.lt_of_le_of_lt (by omega) h2), Nat.ne_of_gt (Nat.lt_of_le_of_lt (by omega) h2)⟩
      have hel : (endsTo whole whole.length).length ≤ 64 := Nat.le_trans ends_len hlw
      have hei : ∀ i ∈ endsTo whole whole.length, 0 ≤ i ∧ i ≤ 64 := fun i hi => by
        obtain ⟨h1, h2, _⟩ := ends_mem hi
        omega
      have hsz : its.size ≤ sizeLine := by rw [← Array.length_toList, strs_len hS, PySem.sizeLine_eq]; omega
      dsimp only
      k_steps
      unfold Hold
      walk_at "call mine"
      rename_i near tn h8 tk8 en F8 N8
      have hn0 := en.lo
      have hn1 := en.hi
      k_steps
      unfold Hold
      (k_here; k_dflt (refine' kmk_slice ?sF ?sN ?sl ?sp ?sq ?_ ?sS ?sT ?sZ; (case sF => k_asm); (case sN => k_asm); (case sl => kmk_list); (case sp => kmk_part); (case sq => kmk_part); (case sS => with_unfolding_all rfl); (case sT => kmk_pure); (case sZ => exact hsz)))
      intro D1 h9 F9 N9 l9
      obtain ⟨x, hxd⟩ : ∃ x, x = (if (0 : Int) > near - 1 then 0 else near - 1) := ⟨_, rfl⟩
      have hx : (x = near - 1 ∧ 0 ≤ near - 1) ∨ (x = 0 ∧ near - 1 ≤ 0) := by rw [hxd]; split <;> omega
      rw [← hxd] at N9
      have hx0 : 0 ≤ x := by omega
      have hS9 := strs_run hS hx0 (show 0 ≤ near + 1 by omega)
      have hpos9 := sub_pos hpos hn0 hn1 hx
      have hsub : ∀ t ∈ ((ss.drop x.toNat).take (min (near + 1).toNat ss.length - x.toNat)), Ok t := fun t ht => hOs t (List.mem_of_mem_drop (List.mem_of_mem_take ht))
      have hsz9 : (slicePick its (some x) (some (near + 1)) none).size ≤ 64 := by
        rw [← Array.length_toList, strs_len hS9, List.length_take, List.length_drop]
        omega
      obtain ⟨sub, hsubd⟩ : ∃ z, z = ((ss.drop x.toNat).take (min (near + 1).toNat ss.length - x.toNat)) := ⟨_, rfl⟩
      rw [← hsubd] at hS9 hpos9 hsub
      obtain ⟨its9, hits9⟩ : ∃ z, z = slicePick its (some x) (some (near + 1)) none := ⟨_, rfl⟩
      rw [← hits9] at hS9 hsz9 N9
      dsimp only
      refine LCg.CompSrc.ledger (by rfl) (by k_asm) (by k_asm) (by k_mem) (by rw [PySem.sizeLine_eq]; omega) ?_
      intro g9
      refine comp_same (fun i ys => ∃ ms, IntsAre ys ms ∧ ms.length = i ∧ ∀ j, j < i → Common (sub.getD j Str.empty) (low whole) (ms.getD j 0)) ⟨[], .nil, rfl, fun j hj => absurd hj (Nat.not_lt_zero _)⟩ (fun i' v' I' oI' C' oC' D' m' ys' h' tk' E' hi' hv' hJ' hC' hx' F' N' off' ne' => ?_) (fun ys9 hJ9 => ?_)
      · obtain ⟨kk, tt, hkk, hve⟩ := strs_P hS9 hv'
        subst hve
        have off9 := off'
        have hOk := hsub _ (List.mem_of_getElem? hkk)
        have hkl := hOk.len
        simp only [LCg.Off3] at off'
        have hMark' : KPfMark := trivial
        k_steps
        unfold Hold
        walk_at "call mine"
        rename_i h9' tk9 F9' N9' M9 t9 hM9
        k_steps
        exact LCg.CompEnd.intro (by assumption) N9' _ (fun p hp => hp) off9 (.inr ⟨_, by k_mem, rfl, _, rfl⟩) ⟨rfl, common_snoc hJ' hkk hM9⟩
      · obtain ⟨ms, hI9, hl9', hC9⟩ := hJ9
        have hszs : its9.size = sub.length := by rw [← Array.length_toList, strs_len hS9]
        rw [hszs] at hl9' hC9
        k_steps
        unfold Hold
        rename Fr _ _ _ _ => F10
        rename News _ _ _ _ => N10
        refine kso_max F10 N10 (l := _) (vs := ys9) ⟨_, N10.get (.head _), rfl, _, rfl⟩ hI9 (by omega) rfl ?_
        intro h11 fit tfit tk11 F11 N11 hm hMx
        replace N11 := dropFirst (dropFirst N11)
        clear F10 N10 hI9 N9 F9
        k_steps
        unfold Hold
        (k_here; kn_here; k_dflt (refine' kla_eval ?d0 ?_; (case d0 => exact rfl)); k_dflt (refine' lam_T ?F ?N ?ne ?T ?C ?cd ?ht ?sub ?cl ?_; (case F => k_asm); (case N => k_asm); (case ne => (first | k_all | fail)); (case T => k_asm); (case cd => exact rfl); (case C => kn_code); (case ht => assumption); (case sub => (intro q hq; simp only [List.mem_cons, List.mem_append] at hq ⊢; grind only)); (case cl => exact rfl); k_whole))
        intro f1 c1 oc1 vs1 tv1 ctv1 ps2 more2 h13 tk13 F13 N13 hc1 hvs1 hq1 hTab2 hmore2 hPf1 hf1 hmf1
        simp only [List.cons_append] at N13
        rw [List.append_assoc (news ++ codes) more1 more2] at N13
        rw [List.append_assoc codes more1 more2] at hTab2 hc1
        replace hTab2 : TabOk lamQual ps2 (codes ++ (more1 ++ more2)) := hTab2
        have hmoreA : ∀ r ∈ more1 ++ more2, 96 < r.1 ∧ le < r.1 ∧ ∀ q ∈ news ++ codes, q.1 < r.1 := fun r hr => by
          rcases List.mem_append.mp hr with hr | hr
          · exact hmore r hr
          · obtain ⟨q1, q2⟩ := hmore2 r hr
            exact ⟨q1, q2 _ (.head _), fun q hq => q2 q (by simp only [List.mem_cons]; exact .inr (.inr (.inr (.inr (.inr (.inr (.inr (List.mem_append_left _ hq)))))))) ⟩
        have hle1 : @LT.lt Nat _ le f1 := hf1 _ (.head _)
        clear hmore2 hmf1 hf1 hmore hoffT hTab1
        generalize more1 ++ more2 = moreA at *
        have hcT : (c1, oc1) ∈ (news ++ codes) ++ moreA := by
          rcases List.mem_append.mp hc1 with q | q
          · exact List.mem_append_left _ (List.mem_append_right _ q)
          · exact List.mem_append_right _ q
        have hK1 := keyI_here (w := w) (p := p) (loose := loose) (mean := mean) (mg := mg) (mb := mb) (f := f1) (c1 := L' + 1) (c2 := L' + 1 + 1) (memOf N13 (.tail _ (.head _))) (by repeat (first | exact hcT | refine List.Mem.tail _ ?_)) (by k_mem) (by k_mem) hvs1 hq1 dL dW hOl hOw
        clear hq1 hvs1 hc1 hcT
        k_steps
        unfold Hold
        walk_at "call mine"
        rename_i kept tkp h14 tk14 ekp F14 N14
        replace N14 := dropSecond N14
        obtain ⟨hlast0, hlast1⟩ := hD.last hUp en hx (by rw [hl9', hsubd]) (by rw [← hsubd]; exact hC9) hm hMx ekp
        clear hK1 F13
        k_steps
        all_goals (try (unfold Hold; walk_at "call mine"; k_steps))
        all_goals (rename News _ _ _ _ => kN9)
        all_goals (rename Fr _ _ _ _ => kF9)
        · refine sl_ret hret (led := (l, W.listOf its n) :: (96, tabObj ps2) :: (news ++ (codes ++ moreA))) (fun q hq => kN9 q (by simp only [List.mem_cons, List.mem_append] at hq ⊢; grind only)) kF9 ⟨?_, ps2, moreA, rfl, hTab2, fun r hr => ⟨(hmoreA r hr).1, Nat.lt_trans l16 (hmoreA r hr).2.1, fun q hq => (hmoreA r hr).2.2 q (List.mem_append_left _ hq)⟩⟩
          rw [hlast1 (by with_reducible assumption) _ (by with_reducible assumption), beq_self_eq_true]
        · refine sl_ret hret (led := (l, W.listOf its n) :: (96, tabObj ps2) :: (news ++ (codes ++ moreA))) (fun q hq => kN9 q (by simp only [List.mem_cons, List.mem_append] at hq ⊢; grind only)) kF9 ⟨?_, ps2, moreA, rfl, hTab2, fun r hr => ⟨(hmoreA r hr).1, Nat.lt_trans l16 (hmoreA r hr).2.1, fun q hq => (hmoreA r hr).2.2 q (List.mem_append_left _ hq)⟩⟩
          rw [hlast0 (by with_reducible assumption), beq_self_eq_true]
end Mine
end

section
open PySem PySem.W PyProof.Rows
set_option maxRecDepth 100000
set_option maxHeartbeats 40000000
namespace Mine
theorem tail_skip {α : Type} {a b : α} (z : Str) (hz : [Str.ofString "tail"].contains z = false) : (if z = Str.ofString "tail" then a else b) = b := if_neg fun e => by subst e; revert hz; decide +kernel
local macro_rules | `(tactic| k_all) => `(tactic| (refine' allLt_ne ?q1 ?q2; (case q1 => assumption); (case q2 => omega)))
local macro_rules | `(tactic| walk_at "call builtin:str.lower") => `(tactic| (k_here; (with_reducible show wpAny _ _ (call (Value.builtin "str.lower") [Value.str _ _]) _ _ _); refine' lower_K ?k1 ?_; (case k1 => assumption); k_whole; intro hO9 hl9))
local macro_rules | `(tactic| walk_at "call builtin:str.upper") => `(tactic| (k_here; (with_reducible show wpAny _ _ (call (Value.builtin "str.upper") [Value.str _ _]) _ _ _); refine' upper_K ?k1 ?_; (case k1 => assumption); k_whole; intro hO9 hl9))
local macro_rules | `(tactic| walk_at "CompSrc") => `(tactic| (k_here; refine Hold.out ?_))
local macro_rules | `(tactic| walk_at "CompSrcT") => `(tactic| (k_here; refine Hold.out ?_))
local macro_rules | `(tactic| walk_at "exec For Name Name cons nil") => `(tactic| (k_here; refine Hold.out ?_))
local macro_rules | `(tactic| walk_at "call ref") => `(tactic| (k_here; (try dsimp only [List.nil_append]); (with_reducible show wpAny _ _ (call (Value.ref 68) [Value.ref _, Value.str _ _]) _ _ _); refine' insort_left_spec _ _ _ _ _ _ _ _ _ _ _ _ _ _ _ _ _ _ _ _ _ _ _ _ ?k1 ?k2 ?k3 ?k4 ?k5 ?kK ?kp ?kd ?ku ?kR; (case k4 => k_asm); (case k1 => k_asm); (case k2 => k_asm); (case k3 => k_asm); (case k5 => k_asm); (case kK => first | exact rfl | assumption); (case kp => exact ⟨by assumption, by assumption, by omega, by first | k_all | fail⟩); (case kd => ktr_room); (case ku => ktr_units); intro v9 led9 h9 tk9 e9 F9 N9; obtain ⟨e8, r9, e7, e6⟩ := e9; subst e8; subst e6; (try dsimp only); (try k_fold)))
local macro_rules | `(tactic| walk_at "exec If") => `(tactic| (k_here; refine Hold.out ?_))
local macro_rules | `(tactic| walk_at "call builtin:sorted") => `(tactic| (k_here; refine Hold.out ?_))
local macro_rules | `(tactic| walk_at "compareOp NotEq ref ref") => `(tactic| (k_here; refine Hold.out ?_))
local macro_rules | `(tactic| walk_at "call ref") => `(tactic| (k_here; (try dsimp only [List.nil_append]); (with_reducible show wpAny _ _ (call (Value.ref 89) [Value.str _ _]) _ _ _); refine' law_name_spec _ _ _ _ _ _ _ _ _ _ _ _ _ _ _ _ _ _ _ _ ?k1 ?k2 ?k3 ?k4 ?k5 ?kK ?kp ?kd ?ku ?kR; (case k1 => k_asm); (case k2 => k_asm); (case k3 => k_asm); (case k4 => k_asm); (case k5 => k_asm); (case kK => first | exact rfl | assumption); (case kp => first | assumption | exact Ok.slice (by first | assumption | exact Ok.slice (by assumption) _ _) _ _); (case kd => ktr_room); (case ku => ktr_units); intro v9 h9 tk9 e9 F9 N9; subst e9; (try dsimp only); (try k_fold)))
local macro_rules | `(tactic| walk_at "call ref") => `(tactic| (k_here; (try dsimp only [List.nil_append]); (with_reducible show wpAny _ _ (call (Value.ref 50) [Value.str _ _, Value.str _ _]) _ _ _); refine' domain_match_spec _ _ _ _ _ _ _ _ _ _ _ _ _ _ _ _ _ _ _ _ _ _ ?k1 ?k2 ?k3 ?k4 ?k5 ?kK ?kp ?kd ?ku ?kR; (case k1 => k_asm); (case k2 => k_asm); (case k3 => k_asm); (case k4 => k_asm); (case k5 => k_asm); (case kK => first | exact rfl | assumption); (case kp => exact ⟨by first | assumption | exact Ok.slice (by assumption) _ _, by first | assumption | exact Ok.slice (by assumption) _ _⟩); (case kd => ktr_room); (case ku => ktr_units); intro v9 h9 tk9 e9 F9 N9; subst e9; (try dsimp only); (try k_fold)))
local macro_rules | `(tactic| k_ne) => `(tactic| (refine neN ?_; (try dsimp only); first | (refine Apart3.any (by with_reducible assumption) ?_; with_reducible first | exact .inl ⟨rfl, rfl⟩ | exact .inr (.inl ⟨rfl, rfl⟩) | exact .inr (.inr ⟨rfl, rfl⟩)) | (refine off_any (by with_reducible assumption) ?_ ⟨_, by with_reducible repeat (first | exact List.Mem.head _ | refine List.Mem.tail _ ?_)⟩; with_reducible first | exact .inl rfl | exact .inr (.inl rfl) | exact .inr (.inr rfl)) | (refine Ne.symm ?_; refine Apart3.any (by with_reducible assumption) ?_; with_reducible first | exact .inl ⟨rfl, rfl⟩ | exact .inr (.inl ⟨rfl, rfl⟩) | exact .inr (.inr ⟨rfl, rfl⟩)) | (refine Ne.symm ?_; refine off_any (by with_reducible assumption) ?_ ⟨_, by with_reducible repeat (first | exact List.Mem.head _ | refine List.Mem.tail _ ?_)⟩; with_reducible first | exact .inl rfl | exact .inr (.inl rfl) | exact .inr (.inr rfl)) | omega))
theorem law_one_spec {w : World} {p : Program} {loose : List Str} {mean : ExcName → Option Value} {mg mb : Str → Option Value} (news codes : List (Addr × Obj)) (ps : Array Value) (a b : Int) (ta tb : Tok) :
    SpecL 30 300 w p loose mean mg mb 104 [.str (hostOf a) ta, .str (ltext b 3) tb] [] ((96, tabObj ps) :: (news ++ codes)) ((∀ q ∈ news ++ codes, q.1 ≠ 96) ∧ TabOk lamQual ps codes)
      (fun v led => v = .bool true ∧ ∃ ps' more, led = (96, tabObj ps') :: (news ++ (codes ++ more)) ∧ TabOk lamQual ps' (codes ++ more) ∧ ∀ r ∈ more, 96 < r.1 ∧ ∀ q ∈ news, q.1 < r.1) := by
  obtain ⟨hOh, hlh⟩ := host_ok a
  have hOd := ltext_ok b (k := 3) (by decide)
  have hld := (ltext_facts b 3).2.1
  have hph : 0 < (hostOf a).length := by rw [← sg_len, sg_host]; exact Nat.succ_pos _
  obtain ⟨hh, hhd⟩ : ∃ z, z = hostOf a := ⟨_, rfl⟩
  obtain ⟨dd, hdd⟩ : ∃ z, z = ltext b 3 := ⟨_, rfl⟩
  rw [← hhd] at hOh hlh hph ⊢
  rw [← hdd] at hOd hld ⊢
  dsimp only [SpecL]; k_fill; intros; rename_i hpre hdp hun hret; obtain ⟨hn96, hTab⟩ := hpre
  refine wpAny_call ?_
  k_dflt (refine' code_defC ?k1 ?k2 ?k3 ?k4 ?k5 ?kA ?kF ?kK ?k6 ?k7 ?k8 ?k9 ?kB ?kD ?_ ?c2 ?c3 ?c4; (case kA => exact rfl); (case kF => exact rfl); (case kK => assumption); (case k1 => k_asm); (case k2 => k_asm); (case k3 => k_asm); (case k4 => k_asm); (case k5 => k_asm); (case k6 => k_is); (case k7 => k_is); (case k8 => ktr_room); (case k9 => exact BindsTo.of_eq rfl); (case kB => exact rfl); (case kD => decide +kernel); (case c2 => exact rfl); (case c3 => exact rfl); (case c4 => exact rfl); k_whole; intro g' L' h' tk' cells' FG' F' N' Y' B' X' T' l1; (try k_lt l1); k_cells Y'; (try simp only [List.cons_append, List.nil_append] at N'); (try dsimp only); (try k_lift B'); (try k_fold))
  obtain ⟨h961, hall⟩ := l1
  w_on
  k_steps
  unfold Hold
  have hOs : Ok (low hh) := hOh.low
  have hls : (low hh).length = hh.length := low_len hh
  refine LCg.CompSrc.range (by rfl) (by k_asm) (by k_asm) (by assumption) (by first | decide | exact small_one (by l_bnd) (by l_bnd) (by l_bnd) (by l_bnd)) (by first | exact rangeSize_nat _ _ | rfl) (by first | exact Nat.le_of_ble_eq_true rfl | (rw [PySem.sizeLine_eq]; omega) | size_fits) ?_
  intro g9
  refine comp_same (fun i ys => StrsAre ys (tailTexts (low hh) i)) .nil (fun i' v' I' oI' C' oC' D' m' ys' h' tk' E' hi' hv' hJ' hC' hx' F' N' off' ne' => ?_) (fun ys9 hJ9 => ?_)
  · obtain ⟨tt, hve⟩ := hv'
    subst hve
    have off9 := off'
    have ne9 : Apart3 I' C' D' := ne'
    clear off' ne'
    have hMark' : KPfMark := trivial
    k_steps
    rename News _ _ _ _ => kN9
    exact LCg.CompEnd.intro (by assumption) kN9 _ (fun p hp => hp) off9 trivial ⟨rfl, by rw [tails_succ, Int.zero_add]; exact kct_snoc hJ'⟩
  · have hn9 : ((((low hh).length : Nat) : Int) - 0).toNat = (low hh).length := by omega
    rw [hn9] at hJ9
    k_steps
    unfold Hold
    refine wpAny_For ?_ (by intro _; rfl)
    k_steps
    rename_i oN oR0 oL0 oS0 oD dN dR0 dL0 dS0 dD hOl1 hll1 hx5 oS dS hOu hlu hx4 oL dL hx3 tkx t1 u1 v1 R9 keep9 D1 hx2 tkx2 o1 lr hx1 l1 h6 oR F6 N6 dR
    replace dD : oD.data = .cell (some (.str dd tb)) := dD
    replace dN : oN.data = .cell none := dN
    clear keep9 R9 dR0 dL0 dS0
    dsimp only at dS dL
    obtain ⟨q1, q2, q3, q4, q5, q6, q7, hall2⟩ := l1
    try dsimp only at dS dL
    refine forLS (its := ys9.toArray) (kk := _) [Str.ofString "tail"] (fun i nx => ∃ (vs : List Value) (n : Nat) (ss : List Str), nx = (lr, W.listOf vs.toArray n) :: (D1, LCg.lst ys9) :: (L' + 1 + 1 + 1 + 1 + 1, oN) :: (L' + 1 + 1 + 1 + 1, oR) :: (L' + 1 + 1 + 1, oL) :: (L' + 1 + 1, oS) :: (L' + 1, oD) :: (96, tabObj ps) :: (news ++ codes) ∧ StrsAre vs ss ∧ ss.length = i ∧ RowTo ss (tailTexts (low hh) (low hh).length) i)
      rfl F6 N6 (fun i nx hJ => by obtain ⟨vs, n, ss, e, _⟩ := hJ; subst e; exact .tail _ (.head _)) ⟨[], 0, [], rfl, .nil, rfl, rowTo_nil _⟩ ?turn ?done
    case turn =>
      intro i v u nx h7 tk7 I oI hi hv ⟨vs, n, ss, hnx, hS, hsl, hR⟩ hoff hLI hlt F7 N7
      subst hnx
      clear N6 F6
      obtain ⟨x, tx, hx, hve⟩ := strs_P (its := ys9.toArray) hJ9 hv
      subst hve
      have hOx := tails_ok hOs _ x (List.mem_of_getElem? hx)
      have hin : i < (low hh).length := by
        have := (List.getElem?_eq_some_iff.mp hx).1
        rwa [tails_len] at this
      have hIr : @Ne Nat lr I := hoff _ (.head _)
      have hlI : @LT.lt Nat _ lr I := hlt _ (.head _)
      have N8 : News g' L' h7 ((lr, W.listOf vs.toArray n) :: (I, oI) :: (D1, LCg.lst ys9) :: (L' + 1 + 1 + 1 + 1 + 1, oN) :: (L' + 1 + 1 + 1 + 1, oR) :: (L' + 1 + 1 + 1, oL) :: (L' + 1 + 1, oS) :: (L' + 1, oD) :: (96, tabObj ps) :: (news ++ codes)) := fun q hq => N7 q (by simp only [List.mem_cons] at hq ⊢; grind only)
      clear N7
      try dsimp only
      k_steps
      rename_i h9 tk9 F9 r9 e7 N9
      obtain ⟨q, hq, hql, hR'⟩ := rowTo_next hR hx e7
      refine TurnR.go (nx' := (lr, W.listOf (kl_ins vs r9 (.str x tx)).toArray (n + 1)) :: (D1, LCg.lst ys9) :: (L' + 1 + 1 + 1 + 1 + 1, oN) :: (L' + 1 + 1 + 1 + 1, oR) :: (L' + 1 + 1 + 1, oL) :: (L' + 1 + 1, oS) :: (L' + 1, oD) :: (96, tabObj ps) :: (news ++ codes)) F9 ⟨fun z hz => by dsimp only; rw [tail_skip z hz, if_neg (by rw [hz]; decide)], _, _, _, rfl, strs_insert hS x tx hq hql, by simp only [List.length_append, List.length_cons, List.length_take, List.length_drop]; omega, hR'⟩ (fun p' hp => ?_) (fun q' hq' => N9 q' ?_)
      · rcases List.mem_cons.mp hp with e | hp
        · subst e; exact hIr
        · exact hoff p' (.tail _ hp)
      · simp only [List.mem_cons] at hq' ⊢
        grind only
    case done =>
      intro u nx h7 tk7 ⟨vs, n, ss, hnx, hS, hsl, hR⟩ F7 N7
      subst hnx
      try dsimp only
      k_steps
      unfold Hold
      have hn8 : ys9.length = (low hh).length := by rw [strs_len hJ9, tails_len]
      have hR8 : RowTo ss (tailTexts (low hh) (low hh).length) (low hh).length := by have := hR; rw [List.size_toArray, hn8] at this; exact this
      have hsl8 : ss.length = (low hh).length := by rw [hsl, List.size_toArray, hn8]
      have hOss : ∀ t ∈ ss, Ok t := fun t ht => tails_ok hOs _ t ((row_whole hR8 (tails_len _ _)).subset ht)
      clear hall2
      rename Fr _ _ _ _ => F8
      rename News _ _ _ _ => N8
      refine cut_if F8 N8 ?_ (fun h9 tk9 F9 N9 => ?_)
      · refine wpAny_If ?_
        k_steps
        unfold Hold
        rename Fr _ _ _ _ => F10
        rename News _ _ _ _ => N10
        refine sorted_N_str F10 N10 (l := D1) (vs := ys9) ⟨_, N10.get (by k_mem), rfl, _, rfl⟩ hJ9 (by omega) ?_
        intro h11 vs11 ss11 e11 F11 N11 hS11 hp11 hs11
        have hss := row_sorted hR8 (tails_len _ _) hp11 hs11
        clear F10 N10
        try dsimp only
        k_steps
        unfold Hold
        refine ne_strs_same (vs := vs) (us := vs11) ⟨_, N11.get (.tail _ (.head _)), rfl, _, rfl⟩ hS ⟨_, N11.get (.head _), rfl, _, rfl⟩ hS11 hss hOss (by ktr_units) ?_
        k_steps
        all_goals (try (walk_at "call ref"; k_steps))
        all_goals (first | (exfalso; exact bool_ne (self_match hOh) (by assumption)) | k_asm | (refine' cb_drop ?cbN ?cbS; (case cbN => assumption); (case cbS => kcj_all)))
      clear F8 N8
      try dsimp only
      k_steps
      walk_at "call ref"
      k_steps
      unfold Hold
      rename_i hz1 tz1 hz2 oN1 Fz Nz dN1 h14 tk14 t2 u2 v2 R14 F14 N14 keep14
      have N15 : News g' L' h14 ((lr, W.listOf vs.toArray n) :: (96, tabObj ps) :: (D1, LCg.lst ys9) :: (L' + 1 + 1 + 1 + 1 + 1, oN1) :: (L' + 1 + 1 + 1 + 1, oR) :: (L' + 1 + 1 + 1, oL) :: (L' + 1 + 1, oS) :: (L' + 1, oD) :: (news ++ (codes ++ []))) := fun q hq => N14 q (by simp only [List.mem_cons, List.append_nil] at hq ⊢; grind only)
      clear N14 keep14 Fz Nz dN
      have hD196 : D1 ≠ 96 := fun e => by
        have z1 := (N15 (D1, LCg.lst ys9) (.tail _ (.tail _ (.head _)))).1
        have z2 := (N15 (96, tabObj ps) (.tail _ (.head _))).1
        rw [e, z2] at z1
        cases z1
      have hrow : RowOk ss (low hh) := row_ok hR8
      refine LCt.CompSrcT.range (by rfl) F14 N15 R14 (by first | decide | exact small_one (by l_bnd) (by l_bnd) (by l_bnd) (by l_bnd)) (by first | exact rangeSize_nat _ _ | rfl) (by first | exact Nat.le_of_ble_eq_true rfl | (rw [PySem.sizeLine_eq]; omega) | size_fits) ?_
      intro g9
      refine comp_goT (fun i ys nw => ∃ ps' more, nw = (lr, W.listOf vs.toArray n) :: (96, tabObj ps') :: (D1, LCg.lst ys9) :: (L' + 1 + 1 + 1 + 1 + 1, oN1) :: (L' + 1 + 1 + 1 + 1, oR) :: (L' + 1 + 1 + 1, oL) :: (L' + 1 + 1, oS) :: (L' + 1, oD) :: (news ++ (codes ++ more)) ∧ TabOk lamQual ps' (codes ++ more) ∧ (∀ r ∈ more, 96 < r.1 ∧ lr < r.1 ∧ ∀ q ∈ news, q.1 < r.1) ∧ ∀ y ∈ ys, y = .bool true)
        ⟨ps, [], rfl, by rw [List.append_nil]; exact hTab, fun _ h => (by cases h), fun _ h => (by cases h)⟩ (fun i' v' I' oI' C' oC' D' m' ys' nw' h' tk' E' hi' hv' hJ' hC' hx' F' N' off' ne' => ?_) (fun ys10 nw10 hJ10 => ?_)
      · obtain ⟨ps1, more1, hnw, hTab1, hmore1, hys1⟩ := hJ'
        obtain ⟨tt, hve⟩ := hv'
        subst hve
        subst hnw
        have off9 := off'
        have ne9 : Apart3 I' C' D' := ne'
        clear off' ne'
        have hMark' : KPfMark := trivial
        have hil : i' < dd.length := lt_sub0 hi'
        k_steps
        all_goals (rename News _ _ _ _ => kN9)
        all_goals (rename Fr _ _ _ _ => kF9)
        · have hdot : DotOk ss (upp hh) (lname (low hh)) (Txt.slice dd (some (0 + (i' : Int))) none) := by
            rw [hhd, hdd]
            rw [hhd] at hrow
            refine dotOk_at a b hrow (place := i') (by rw [← hdd]; exact hil) (by rw [← hdd]; exact item_dot hil (by assumption)) (by rw [Int.zero_add])
          have off96 := off9.mem (96, tabObj ps1) (.tail _ (.head _))
          have h96 : ∀ q ∈ ((I', oI') :: (C', oC') :: (D', LCg.lst ys') :: (D1, LCg.lst ys9) :: (L' + 1 + 1 + 1 + 1 + 1, oN1) :: (L' + 1 + 1 + 1 + 1, oR) :: (L' + 1 + 1 + 1, oL) :: (L' + 1 + 1, oS) :: (L' + 1, oD) :: news) ++ (codes ++ more1), q.1 ≠ 96 := fun q hq => by
            simp only [List.cons_append, List.mem_cons, List.mem_append] at hq
            rcases hq with e | e | e | e | e | e | e | e | e | e | e | e
            · subst e; exact Ne.symm off96.1
            · subst e; exact Ne.symm off96.2.1
            · subst e; exact Ne.symm off96.2.2
            · subst e; exact hD196
            · subst e; exact Nat.ne_of_gt (by omega)
            · subst e; exact Nat.ne_of_gt (by omega)
            · subst e; exact Nat.ne_of_gt (by omega)
            · subst e; exact Nat.ne_of_gt (by omega)
            · subst e; exact Nat.ne_of_gt (by omega)
            · exact hn96 q (List.mem_append_left _ e)
            · exact hn96 q (List.mem_append_right _ e)
            · exact Nat.ne_of_gt (hmore1 q e).1
          refine law_dot_spec ((I', oI') :: (C', oC') :: (D', LCg.lst ys') :: (D1, LCg.lst ys9) :: (L' + 1 + 1 + 1 + 1 + 1, oN1) :: (L' + 1 + 1 + 1 + 1, oR) :: (L' + 1 + 1 + 1, oL) :: (L' + 1 + 1, oS) :: (L' + 1, oD) :: news) (codes ++ more1) lr vs.toArray n ps1 ss (upp hh) (Txt.slice dd (some (0 + (i' : Int))) none) (lname (low hh)) _ _ _ _ _ _ _ _ _ _ _ _ _ _ _ _ _ _ _ (by k_asm) kF9 (by k_asm) (fun q hq => kN9 q (by simp only [List.cons_append, List.mem_cons, List.mem_append] at hq ⊢; grind only)) (by k_asm) rfl ⟨hOu, Ok.slice hOd _ _, hS, by omega, hOss, hdot, hR8.up, by omega, Nat.ne_of_gt q7, h96, hTab1⟩ (by ktr_room) (by ktr_units) ?_
          intro v9 led9 h9 tk9 e9 F9 N9
          obtain ⟨e8, ps2, more2, e7, hTab2, hmore2⟩ := e9
          subst e8
          subst e7
          refine LCg.CompEnd.intro F9 N9 ((lr, W.listOf vs.toArray n) :: (96, tabObj ps2) :: (D1, LCg.lst ys9) :: (L' + 1 + 1 + 1 + 1 + 1, oN1) :: (L' + 1 + 1 + 1 + 1, oR) :: (L' + 1 + 1 + 1, oL) :: (L' + 1 + 1, oS) :: (L' + 1, oD) :: (news ++ (codes ++ (more1 ++ more2)))) (fun q hq => by simp only [List.cons_append, List.mem_cons, List.mem_append] at hq ⊢; grind only) (LCg.Off3.of fun q hq => ?_) trivial ⟨ps2, more1 ++ more2, rfl, by rw [← List.append_assoc]; exact hTab2, fun r hr => ?_, fun y hy => ?_⟩
          · have om := off9.mem
            simp only [List.mem_cons, List.mem_append] at hq om
            rcases hq with e | e | e | e | e | e | e | e | e | e | e | e
            · exact om q (.inl e)
            · subst e; exact off96
            · exact om q (.inr (.inr (.inl e)))
            · exact om q (.inr (.inr (.inr (.inl e))))
            · exact om q (.inr (.inr (.inr (.inr (.inl e)))))
            · exact om q (.inr (.inr (.inr (.inr (.inr (.inl e))))))
            · exact om q (.inr (.inr (.inr (.inr (.inr (.inr (.inl e)))))))
            · exact om q (.inr (.inr (.inr (.inr (.inr (.inr (.inr (.inl e))))))))
            · exact om q (.inr (.inr (.inr (.inr (.inr (.inr (.inr (.inr (.inl e)))))))))
            · exact om q (.inr (.inr (.inr (.inr (.inr (.inr (.inr (.inr (.inr (.inl e))))))))))
            · exact om q (.inr (.inr (.inr (.inr (.inr (.inr (.inr (.inr (.inr (.inr e))))))))))
            · have hm := (hmore2 q e).2.2
              exact ⟨Nat.ne_of_gt (hm (I', oI') (.head _)), Nat.ne_of_gt (hm (C', oC') (.tail _ (.head _))), Nat.ne_of_gt (hm (D', LCg.lst ys') (.tail _ (.tail _ (.head _))))⟩
          · rcases List.mem_append.mp hr with hr | hr
            · exact hmore1 r hr
            · exact ⟨(hmore2 r hr).1, (hmore2 r hr).2.1, fun q hq => (hmore2 r hr).2.2 q (by simp only [List.mem_cons]; exact .inr (.inr (.inr (.inr (.inr (.inr (.inr (.inr (.inr hq)))))))))⟩
          · rcases List.mem_append.mp hy with hy | hy
            · exact hys1 y hy
            · exact List.mem_singleton.mp hy
        · exact LCg.CompEnd.intro kF9 kN9 _ (fun p hp => hp) off9 trivial ⟨ps1, more1, rfl, hTab1, hmore1, hys1⟩
      · obtain ⟨ps1, more1, hnw, hTab1, hmore1, hys1⟩ := hJ10
        subst hnw
        k_steps
        rename News _ _ _ _ => kN9
        rename Fr _ _ _ _ => kF9
        refine LSm.all_bools kF9 kN9 rfl ⟨_, kN9.get (.head _), rfl, _, rfl⟩ (bools_true hys1) ?_
        intro h16 tk16 F16 N16
        rw [bools_all]
        clear kN9 kF9
        k_steps
        rename News _ _ _ _ => kN9
        rename Fr _ _ _ _ => kF9
        refine sl_ret hret (led := (96, tabObj ps1) :: (news ++ (codes ++ more1))) (fun q hq => kN9 q (by simp only [List.mem_cons, List.mem_append] at hq ⊢; grind only)) kF9 ⟨rfl, ps1, more1, rfl, hTab1, fun r hr => ⟨(hmore1 r hr).1, (hmore1 r hr).2.2⟩⟩
end Mine
end

section
open PySem PySem.W PyProof.Rows
set_option maxRecDepth 100000
namespace Mine
theorem ints_P {its : Array Value} {ns : List Int} (hS : IntsAre its.toList ns) {i : Nat} {v : Value} (h : its[i]? = some v) : ∃ k t, ns[i]? = some k ∧ v = .int k t := by
  have hi : i < ns.length := by
    rw [← ints_len hS, Array.length_toList]
    exact (Array.getElem?_eq_some_iff.mp h).1
  obtain ⟨t, e⟩ := ints_at hS hi
  rw [Array.getElem?_toList, h] at e
  refine ⟨ns.getD i 0, t, ?_, Option.some.inj e⟩
  rw [List.getD_eq_getElem?_getD, List.getElem?_eq_getElem hi]
  rfl
theorem getS_mem {ss : List Str} {i : Nat} (h : i < ss.length) : ss.getD i Str.empty ∈ ss := by
  rw [List.getD_eq_getElem?_getD, List.getElem?_eq_getElem h]
  exact List.getElem_mem h
theorem item_strs_any {prog : Program} {w : World} {A : Around} {E : Value → Shared → Prop} {s : Shared} {h₀ : Heap} {L : Addr} {news : List (Addr × Obj)} {value slice : PySem.Expr} {l : Addr} {vs : List Value} {ss : List Str} {k : Int} {u : Tok} {Q : Value → Shared → Prop}
    (N : News h₀ L s.heap news) (hm : (l, LCg.lst vs) ∈ news) (hS : StrsAre vs ss) (h0 : -(ss.length : Int) ≤ k) (hk : k < ss.length) (hn : ss.length ≤ 1000000) (h : ∀ y t, y ∈ ss → Q (.str y t) s)
    (hs : subscripted slice false (.ref l) (.int k u) = operate [.ref l, .int k u] (getItem (.ref l) (.int k u)) := by with_unfolding_all rfl) :
    wpAny (model prog w) A (subscriptTail value slice (.ref l) (.int k u)) Q E s := by
  have hl : s.heap.IsList l vs.toArray := ⟨_, N.get hm, rfl, _, rfl⟩
  have hlen := strs_len hS
  by_cases hk0 : 0 ≤ k
  · obtain ⟨t, e⟩ := strs_at hS (k := k.toNat) (by omega)
    exact tail_any hl.typeIs slot_list_getitem.lookup (wpAny_getItem_list hl hk0 (by omega) (by simpa using e) (h _ t (getS_mem (by omega)))) hs
  · obtain ⟨t, e⟩ := strs_at hS (k := (k + (ss.length : Int)).toNat) (by omega)
    refine tail_any hl.typeIs slot_list_getitem.lookup (wpAny_getItem_list_neg hl (by omega) (by rw [List.size_toArray, hlen]; exact h0) (by omega) (x := .str (ss.getD (k + (ss.length : Int)).toNat Str.empty) t) ?_ (h _ t (getS_mem (by omega)))) hs
    rw [List.size_toArray, hlen]
    simpa using e
theorem front6 {h₀ h : Heap} {L : Addr} {x1 x2 x3 x4 x5 y : Addr × Obj} (N : News h₀ L h [x1, x2, x3, x4, x5, y]) : News h₀ L h [y, x1, x2, x3, x4, x5] := fun q hq => N q (by
  simp only [List.mem_cons, List.not_mem_nil, or_false] at hq ⊢
  rcases hq with e | e | e | e | e | e
  · exact .inr (.inr (.inr (.inr (.inr e))))
  · exact .inl e
  · exact .inr (.inl e)
  · exact .inr (.inr (.inl e))
  · exact .inr (.inr (.inr (.inl e)))
  · exact .inr (.inr (.inr (.inr (.inl e)))))
theorem map_snoc {f : Int → Str} {ys : List Value} {ns : List Int} {i : Nat} {k : Int} {t : Tok} (h : StrsAre ys ((ns.take i).map f)) (hk : ns[i]? = some k) : StrsAre (ys ++ [.str (f k) t]) ((ns.take (i + 1)).map f) := by
  rw [List.take_add_one, hk, List.map_append]
  exact kct_snoc h
end Mine
end

section
open PySem PySem.W PyProof.Rows
set_option maxRecDepth 100000
set_option maxHeartbeats 40000000
namespace Mine
local macro_rules | `(tactic| walk_at "CompSrc") => `(tactic| (k_here; refine Hold.out ?_))
local macro_rules | `(tactic| walk_at "call ref") => `(tactic| (k_here; refine Hold.out ?_))
local macro_rules | `(tactic| walk_at "call builtin:len") => `(tactic| (k_here; (with_reducible show wpAny _ _ (call (Value.builtin "len") [Value.ref _]) _ _ _); (refine KM.len_K (by k_asm) (by k_dflt k_mem) (by with_reducible assumption) (by omega) ?_)))
local macro_rules | `(tactic| walk_at "subscriptTail") => `(tactic| (k_here; (with_reducible show wpAny _ _ (subscriptTail _ _ (Value.ref _) (Value.int _ _)) _ _ _); refine Hold.out ?_))
local macro_rules | `(tactic| k_ne) => `(tactic| (refine neN ?_; (try dsimp only); first | (refine Apart3.any (by with_reducible assumption) ?_; with_reducible first | exact .inl ⟨rfl, rfl⟩ | exact .inr (.inl ⟨rfl, rfl⟩) | exact .inr (.inr ⟨rfl, rfl⟩)) | (refine off_any (by with_reducible assumption) ?_ ⟨_, by with_reducible repeat (first | exact List.Mem.head _ | refine List.Mem.tail _ ?_)⟩; with_reducible first | exact .inl rfl | exact .inr (.inl rfl) | exact .inr (.inr rfl)) | (refine Ne.symm ?_; refine Apart3.any (by with_reducible assumption) ?_; with_reducible first | exact .inl ⟨rfl, rfl⟩ | exact .inr (.inl ⟨rfl, rfl⟩) | exact .inr (.inr ⟨rfl, rfl⟩)) | (refine Ne.symm ?_; refine off_any (by with_reducible assumption) ?_ ⟨_, by with_reducible repeat (first | exact List.Mem.head _ | refine List.Mem.tail _ ?_)⟩; with_reducible first | exact .inl rfl | exact .inr (.inl rfl) | exact .inr (.inr rfl)) | omega))
theorem holds0 : PySem.Challenge.rw_nb0161_01.Holds := by
  refine Mine.hd ?_
  w_strict (k_go0)
  (all_goals try k_fold)
  k_steps
  rename_i D1 ws1 hx1 hI1 hC1 hL1 l1a ll hx2 l1b D2 ws2 hx3 hI2 l1c h6 F6 N6
  unfold Hold
  obtain ⟨nums, hnums, hnl1, hnl2⟩ : ∃ z : List Int, IntsAre ws2 z ∧ 1 ≤ z.length ∧ z.length ≤ 5 := ⟨_, hI2, by simp, by simp; omega⟩
  have N7 := dropSecond (dropSecond N6)
  clear N6 hI1 hI2 hC1 hL1
  have hsz2 : ws2.toArray.size = nums.length := by rw [List.size_toArray, ints_len hnums]
  refine LCg.CompSrc.ledger (by rfl) F6 N7 (.head _) (by rw [List.size_toArray, ints_len hnums, PySem.sizeLine_eq]; omega) ?_
  intro g9
  refine comp_same (fun i ys => StrsAre ys ((nums.take i).map hostOf)) (by rw [List.take_zero]; exact .nil) (fun i' v' I' oI' C' oC' D' m' ys' h' tk' E' hi' hv' hJ' hC' hx' F' N' off' ne' => ?_) (fun ys9 hJ9 => ?_)
  · obtain ⟨kk, tt, hkk, hve⟩ := ints_P (its := ws2.toArray) hnums hv'
    subst hve
    have off9 := off'
    have hl4 := (ltext_facts kk 4).2.1
    have hl3 := (ltext_facts kk 3).2.1
    have ne9 : Apart3 I' C' D' := ne'
    clear off' ne'
    have hMark' : KPfMark := trivial
    k_steps
    unfold Hold
    (k_here; (try dsimp only [List.nil_append]); (with_reducible show wpAny _ _ (call (Value.ref 82) [Value.int _ _, Value.int _ _]) _ _ _);  refine' law_text4_spec _ _ _ _ _ _ _ _ _ _ _ _ _ _ _ _ _ _ _ _ _ ?k1 ?k2 ?k3 ?k4 ?k5 ?kK ?kp ?kd ?ku ?kR; (case k1 => k_asm); (case k2 => k_asm); (case k3 => k_asm); (case k4 => k_asm); (case k5 => k_asm); (case kK => first | exact rfl | assumption); (case kp => trivial); (case kd => ktr_room); (case ku => ktr_units); intro v9 h9 tk9 e9 F9 N9; obtain ⟨t9, e8⟩ := e9; subst e8; (try dsimp only); (try k_fold))
    k_steps
    first | exact map_snoc (f := hostOf) hJ' hkk | (rename News _ _ _ _ => kN9; exact LCg.CompEnd.intro (by assumption) kN9 _ (fun p hp => hp) off9 (.inr ⟨_, by k_mem, rfl, _, rfl⟩) ⟨rfl, map_snoc (f := hostOf) hJ' hkk⟩)
  have hH : StrsAre ys9 (nums.map hostOf) := by have := hJ9; rw [hsz2, List.take_length] at this; exact this
  clear hJ9 N7 F6
  k_steps
  unfold Hold
  rename News _ _ _ _ => N8
  rename Fr _ _ _ _ => F8
  refine LCg.CompSrc.ledger (by rfl) F8 N8 (by k_mem) (by rw [List.size_toArray, ints_len hnums, PySem.sizeLine_eq]; omega) ?_
  intro g9
  refine comp_same (fun i ys => StrsAre ys ((nums.take i).map (fun k => ltext k 3))) (by rw [List.take_zero]; exact .nil) (fun i' v' I' oI' C' oC' D' m' ys' h' tk' E' hi' hv' hJ' hC' hx' F' N' off' ne' => ?_) (fun ys8 hJ8 => ?_)
  · obtain ⟨kk, tt, hkk, hve⟩ := ints_P (its := ws2.toArray) hnums hv'
    subst hve
    have off9 := off'
    have hl4 := (ltext_facts kk 4).2.1
    have hl3 := (ltext_facts kk 3).2.1
    have ne9 : Apart3 I' C' D' := ne'
    clear off' ne'
    have hMark' : KPfMark := trivial
    k_steps
    unfold Hold
    (k_here; (try dsimp only [List.nil_append]); (with_reducible show wpAny _ _ (call (Value.ref 82) [Value.int _ _, Value.int _ _]) _ _ _);  refine' law_text3_spec _ _ _ _ _ _ _ _ _ _ _ _ _ _ _ _ _ _ _ _ _ ?zk1 ?zk2 ?zk3 ?zk4 ?zk5 ?zkK ?zkp ?zkd ?zku ?zkR; (case zk1 => k_asm); (case zk2 => k_asm); (case zk3 => k_asm); (case zk4 => k_asm); (case zk5 => k_asm); (case zkK => first | exact rfl | assumption); (case zkp => trivial); (case zkd => ktr_room); (case zku => ktr_units); intro v9 h9 tk9 e9 F9 N9; obtain ⟨t9, e8⟩ := e9; subst e8; (try dsimp only); (try k_fold))
    k_steps
    first | exact map_snoc (f := (fun k => ltext k 3)) hJ' hkk | (rename News _ _ _ _ => kN9; exact LCg.CompEnd.intro (by assumption) kN9 _ (fun p hp => hp) off9 (.inr ⟨_, by k_mem, rfl, _, rfl⟩) ⟨rfl, map_snoc (f := (fun k => ltext k 3)) hJ' hkk⟩)
  have hDm : StrsAre ys8 (nums.map fun k => ltext k 3) := by have := hJ8; rw [hsz2, List.take_length] at this; exact this
  clear hJ8 N8 F8
  k_steps
  unfold Hold
  rename Shared => s1
  rename_i HL hb4 tkb1 o1H hb3 oH dH tkb2 DL hb2 tkb3 o1D hb1 oDm Fb Nb dDm h14 tk14 t1 u1 v1 R14 F14 N14 keep14
  have N15 := front6 N14
  clear N14 keep14 Fb Nb
  have hHl : (nums.map hostOf).length = nums.length := List.length_map ..
  have hDl : (nums.map fun k => ltext k 3).length = nums.length := List.length_map ..
  refine LCg.CompSrc.range (by rfl) F14 N15 R14 (by first | decide | exact small_one (by l_bnd) (by l_bnd) (by l_bnd) (by l_bnd)) (by first | exact rangeSize_nat _ _ | rfl) (by first | exact Nat.le_of_ble_eq_true rfl | (rw [PySem.sizeLine_eq]; omega) | size_fits) ?_
  intro g15
  refine comp_go (fun i ys nw => ∃ ps' more, nw = (96, tabObj ps') :: (DL, LCg.lst ys8) :: (HL, LCg.lst ys9) :: (D2, W.listOf ws2.toArray 0) :: (s1.heap.objs.size + 1 + 1, oDm) :: (s1.heap.objs.size + 1, oH) :: more ∧ TabOk lamQual ps' more ∧ (∀ r ∈ more, 96 < r.1) ∧ ∀ y ∈ ys, y = .bool true)
    ⟨_, [], rfl, tabOk_nil _ _, fun _ h => (by cases h), fun _ h => (by cases h)⟩ (fun i' v' I' oI' C' oC' D' m' ys' nw' h' tk' E' hi' hv' hJ' hC' hx' F' N' off' ne' => ?_) (fun ys10 nw10 hJ10 => ?_)
  · obtain ⟨ps1, more1, hnw, hTab1, hmore1, hys1⟩ := hJ'
    obtain ⟨tt, hve⟩ := hv'
    subst hve
    subst hnw
    have off9 := off'
    have ne9 : Apart3 I' C' D' := ne'
    clear off' ne'
    have hMark' : KPfMark := trivial
    have hil : i' < nums.length := by omega
    k_steps
    unfold Hold
    refine item_strs_any (by k_asm) (by k_mem) hH (by omega) (by omega) (by omega) ?_
    intro y1 ty1 hy1
    obtain ⟨a1, _, hy1⟩ := List.mem_map.mp hy1
    subst hy1
    k_steps
    unfold Hold
    refine item_strs_any (by k_asm) (by k_mem) hDm (by omega) (by omega) (by omega) ?_
    intro y2 ty2 hy2
    obtain ⟨b1, _, hy2⟩ := List.mem_map.mp hy2
    subst hy2
    k_steps
    unfold Hold
    rename News _ _ _ _ => kN9
    rename Fr _ _ _ _ => kF9
    have off96 := off9.mem (96, tabObj ps1) (.head _)
    have h96 : ∀ q ∈ ((I', oI') :: (C', oC') :: (D', LCg.lst ys') :: (DL, LCg.lst ys8) :: (HL, LCg.lst ys9) :: (D2, W.listOf ws2.toArray 0) :: (s1.heap.objs.size + 1 + 1, oDm) :: (s1.heap.objs.size + 1, oH) :: []) ++ more1, q.1 ≠ 96 := fun q hq => by
      simp only [List.cons_append, List.nil_append, List.mem_cons] at hq
      rcases hq with e | e | e | e | e | e | e | e | e
      · subst e; exact Ne.symm off96.1
      · subst e; exact Ne.symm off96.2.1
      · subst e; exact Ne.symm off96.2.2
      · subst e; exact (by omega : @Ne Nat DL 96)
      · subst e; exact (by omega : @Ne Nat HL 96)
      · subst e; exact Nat.ne_of_gt (by omega)
      · subst e; exact Nat.ne_of_gt (by omega)
      · subst e; exact Nat.ne_of_gt (by omega)
      · exact Nat.ne_of_gt (hmore1 q e)
    refine law_one_spec ((I', oI') :: (C', oC') :: (D', LCg.lst ys') :: (DL, LCg.lst ys8) :: (HL, LCg.lst ys9) :: (D2, W.listOf ws2.toArray 0) :: (s1.heap.objs.size + 1 + 1, oDm) :: (s1.heap.objs.size + 1, oH) :: []) more1 ps1 a1 b1 _ _ _ _ _ _ _ _ _ _ _ _ _ _ _ _ _ _ _ (by k_asm) kF9 (by k_asm) (fun q hq => kN9 q (by simp only [List.cons_append, List.nil_append, List.mem_cons] at hq ⊢; grind only)) (by k_asm) rfl ⟨h96, hTab1⟩ (by ktr_room) (by ktr_units) ?_
    intro v9 led9 h9 tk9 e9 F9 N9
    obtain ⟨e8, ps2, more2, e7, hTab2, hmore2⟩ := e9
    subst e8
    subst e7
    refine LCg.CompEnd.intro F9 N9 ((96, tabObj ps2) :: (DL, LCg.lst ys8) :: (HL, LCg.lst ys9) :: (D2, W.listOf ws2.toArray 0) :: (s1.heap.objs.size + 1 + 1, oDm) :: (s1.heap.objs.size + 1, oH) :: (more1 ++ more2)) (fun q hq => by simp only [List.cons_append, List.nil_append, List.mem_cons, List.mem_append] at hq ⊢; grind only) (LCg.Off3.of fun q hq => ?_) trivial ⟨ps2, more1 ++ more2, rfl, hTab2, fun r hr => ?_, fun y hy => ?_⟩
    · have om := off9.mem
      simp only [List.mem_cons, List.mem_append] at hq om
      rcases hq with e | e | e | e | e | e | e | e
      · subst e; exact off96
      · exact om q (.inr (.inl e))
      · exact om q (.inr (.inr (.inl e)))
      · exact om q (.inr (.inr (.inr (.inl e))))
      · exact om q (.inr (.inr (.inr (.inr (.inl e)))))
      · exact om q (.inr (.inr (.inr (.inr (.inr (.inl e))))))
      · exact om q (.inr (.inr (.inr (.inr (.inr (.inr e))))))
      · have hm := (hmore2 q e).2
        exact ⟨Nat.ne_of_gt (hm (I', oI') (.head _)), Nat.ne_of_gt (hm (C', oC') (.tail _ (.head _))), Nat.ne_of_gt (hm (D', LCg.lst ys') (.tail _ (.tail _ (.head _))))⟩
    · rcases List.mem_append.mp hr with hr | hr
      · exact hmore1 r hr
      · exact (hmore2 r hr).1
    · rcases List.mem_append.mp hy with hy | hy
      · exact hys1 y hy
      · exact List.mem_singleton.mp hy
  · obtain ⟨ps1, more1, hnw, hTab1, hmore1, hys1⟩ := hJ10
    subst hnw
    k_steps
    rename News _ _ _ _ => kN9
    rename Fr _ _ _ _ => kF9
    refine LSm.all_bools kF9 kN9 rfl ⟨_, kN9.get (.head _), rfl, _, rfl⟩ (bools_true hys1) ?_
    intro h16 tk16 F16 N16
    rw [bools_all]
    clear kN9 kF9
    k_steps
end Mine
end

theorem PySem.Challenge.cw_nb0161_01_holds : PySem.Challenge.rw_nb0161_01.Holds := by
  exact Mine.holds0
