/-
  Plain functions, no run of the model in it: unicode.SimpleFold as its text goes, over plain tables; every rune beyond ASCII comes back to itself within four steps; names.foldRune and names.Fold as plain functions.
-/
import Derived.Lib.CaseU
import Derived.Lib.RuneBytes
import Derived.KernelRfl
namespace Go.Proofs.Qxb6615948aDoor
open Go.Lib

/-- unicode.caseOrbit: (From, To). -/
def orbL : List (Nat × Nat) := [(75, 107), (83, 115), (107, 8490), (115, 383), (181, 924), (197, 229), (223, 7838), (229, 8491), (304, 304), (305, 305), (383, 83), (452, 453), (453, 454), (454, 452), (455, 456), (456, 457), (457, 455), (458, 459), (459, 460), (460, 458), (497, 498), (498, 499), (499, 497), (837, 921), (912, 8147), (914, 946), (917, 949), (920, 952), (921, 953), (922, 954), (924, 956), (928, 960), (929, 961), (931, 962), (934, 966), (937, 969), (944, 8163), (946, 976), (949, 1013), (952, 977), (953, 8126), (954, 1008), (956, 181), (960, 982), (961, 1009), (962, 963), (963, 931), (966, 981), (969, 8486), (976, 914), (977, 1012), (981, 934), (982, 928), (1008, 922), (1009, 929), (1012, 920), (1013, 917), (1042, 1074), (1044, 1076), (1054, 1086), (1057, 1089), (1058, 1090), (1066, 1098), (1074, 7296), (1076, 7297), (1086, 7298), (1089, 7299), (1090, 7300), (1098, 7302), (1122, 1123), (1123, 7303), (7296, 1042), (7297, 1044), (7298, 1054), (7299, 1057), (7300, 7301), (7301, 1058), (7302, 1066), (7303, 1122), (7304, 42570), (7776, 7777), (7777, 7835), (7835, 7776), (7838, 223), (8126, 837), (8147, 912), (8163, 944), (8486, 937), (8490, 75), (8491, 197), (42570, 42571), (42571, 7304), (64261, 64262), (64262, 64261)]
/-- unicode.asciiFold. -/
def ascL : List Nat := [0, 1, 2, 3, 4, 5, 6, 7, 8, 9, 10, 11, 12, 13, 14, 15, 16, 17, 18, 19, 20, 21, 22, 23, 24, 25, 26, 27, 28, 29, 30, 31, 32, 33, 34, 35, 36, 37, 38, 39, 40, 41, 42, 43, 44, 45, 46, 47, 48, 49, 50, 51, 52, 53, 54, 55, 56, 57, 58, 59, 60, 61, 62, 63, 64, 97, 98, 99, 100, 101, 102, 103, 104, 105, 106, 107, 108, 109, 110, 111, 112, 113, 114, 115, 116, 117, 118, 119, 120, 121, 122, 91, 92, 93, 94, 95, 96, 65, 66, 67, 68, 69, 70, 71, 72, 73, 74, 8490, 76, 77, 78, 79, 80, 81, 82, 383, 84, 85, 86, 87, 88, 89, 90, 123, 124, 125, 126, 127]
def orbFrom (i : Nat) : Nat := (orbL.getD i (0, 0)).1
def orbTo (i : Nat) : Nat := (orbL.getD i (0, 0)).2

/-- 'for lo < hi { m := int(uint(lo+hi) >> 1); if rune(caseOrbit[m].From) < r { lo = m + 1 } else { hi = m } }': where lo ends. -/
def orbIdx (r : Int) : Nat → Nat → Nat → Nat
  | 0, lo, _ => lo
  | f + 1, lo, hi => if lo < hi then (if (orbFrom ((lo + hi) / 2) : Int) < r then orbIdx r f ((lo + hi) / 2 + 1) hi else orbIdx r f lo ((lo + hi) / 2)) else lo

/-- What SimpleFold does where caseOrbit does not list r. -/
def sfTail (r : Int) : Int :=
  match lookupIdx caseA r (caseA.size + 1) 0 caseA.size with
    | some i => if convertR 1 r (caseA.getD i (0, 0, 0, 0, 0)) = r then convertR 0 r (caseA.getD i (0, 0, 0, 0, 0)) else convertR 1 r (caseA.getD i (0, 0, 0, 0, 0))
    | none => r
theorem sfTail_some {r : Int} {i : Nat} (h : lookupIdx caseA r (caseA.size + 1) 0 caseA.size = some i) : sfTail r = if convertR 1 r (caseA.getD i (0, 0, 0, 0, 0)) = r then convertR 0 r (caseA.getD i (0, 0, 0, 0, 0)) else convertR 1 r (caseA.getD i (0, 0, 0, 0, 0)) := by
  unfold sfTail
  rw [h]
theorem sfTail_none {r : Int} (h : lookupIdx caseA r (caseA.size + 1) 0 caseA.size = none) : sfTail r = r := by
  unfold sfTail
  rw [h]
/-- unicode.SimpleFold. -/
def sfold (r : Int) : Int :=
  if r < 0 then r else if 1114111 < r then r else if r < 128 then ((ascL.getD r.toNat 0 : Nat) : Int)
  else if orbIdx r 95 0 94 < 94 ∧ (orbFrom (orbIdx r 95 0 94) : Int) = r then ((orbTo (orbIdx r 95 0 94) : Nat) : Int)
  else sfTail r

/-! ### the two searches find what a plain look finds -/
theorem orbIdx_spec (r : Int) : ∀ (f lo hi : Nat), lo ≤ hi → hi ≤ 94 → hi - lo < f → (∀ i j, i ≤ j → j < 94 → orbFrom i ≤ orbFrom j) → (∀ i, i < lo → (orbFrom i : Int) < r) → (∀ i, hi ≤ i → i < 94 → r ≤ (orbFrom i : Int)) →
    (∀ i, i < orbIdx r f lo hi → (orbFrom i : Int) < r) ∧ (∀ i, orbIdx r f lo hi ≤ i → i < 94 → r ≤ (orbFrom i : Int))
  | 0, lo, hi, _, _, h, _, _, _ => by omega
  | f + 1, lo, hi, h1, h2, h3, hs, hl, hh => by
    unfold orbIdx
    by_cases hlt : lo < hi
    · rw [if_pos hlt]
      have hm : lo ≤ (lo + hi) / 2 ∧ (lo + hi) / 2 < hi := by omega
      by_cases hc : (orbFrom ((lo + hi) / 2) : Int) < r
      · rw [if_pos hc]
        refine orbIdx_spec r f _ hi (by omega) h2 (by omega) hs (fun i hi' => ?_) hh
        have := hs i ((lo + hi) / 2) (by omega) (by omega)
        omega
      · rw [if_neg hc]
        refine orbIdx_spec r f lo _ (by omega) (by omega) (by omega) hs hl (fun i hi' hi94 => ?_)
        have := hs ((lo + hi) / 2) i hi' hi94
        omega
    · rw [if_neg hlt]
      obtain rfl : lo = hi := by omega
      exact ⟨hl, hh⟩

/-- A chain that rises at each step rises throughout. -/
theorem rises {n : Nat} (g : Nat → Nat) (h : ∀ i, i + 1 < n → g i ≤ g (i + 1)) : ∀ j i, i ≤ j → j < n → g i ≤ g j
  | 0, i, hi, _ => by
    obtain rfl : i = 0 := by omega
    exact Nat.le_refl _
  | j + 1, i, hi, hj => by
    by_cases e : i = j + 1
    · subst e; exact Nat.le_refl _
    · exact Nat.le_trans (rises g h j i (by omega) (by omega)) (h j hj)

theorem orb_step : ∀ i, i + 1 < 94 → orbFrom i ≤ orbFrom (i + 1) := by
  have h : (List.range 93).all (fun i => decide (orbFrom i ≤ orbFrom (i + 1))) = true := by kernel_rfl
  intro i hi
  have := List.all_eq_true.1 h i (List.mem_range.2 (by omega))
  simpa using this
theorem orb_sorted : ∀ i j, i ≤ j → j < 94 → orbFrom i ≤ orbFrom j := fun i j => rises orbFrom orb_step j i

/-- The rows' bounds. -/
def cLo (i : Nat) : Nat := (caseA.getD i (0, 0, 0, 0, 0)).1
def cHi (i : Nat) : Nat := (caseA.getD i (0, 0, 0, 0, 0)).2.1
theorem caseA_336 : caseA.size = 336 := by kernel_rfl
theorem caseA_getD (i : Nat) : caseA.getD i (0, 0, 0, 0, 0) = caseT.getD i (0, 0, 0, 0, 0) := by
  unfold caseA
  by_cases h : i < caseT.length <;> simp [Array.getD, List.getD, h]
def rowsRise : List (Nat × Nat × Int × Int × Int) → Bool
  | x :: y :: r => x.1 ≤ x.2.1 && x.2.1 < y.1 && rowsRise (y :: r)
  | [x] => x.1 ≤ x.2.1
  | [] => true
theorem case_rise : rowsRise caseT = true := by kernel_rfl
theorem rowsRise_at : ∀ (l : List (Nat × Nat × Int × Int × Int)) (i : Nat), rowsRise l = true → i < l.length → (l.getD i (0, 0, 0, 0, 0)).1 ≤ (l.getD i (0, 0, 0, 0, 0)).2.1 ∧ (i + 1 < l.length → (l.getD i (0, 0, 0, 0, 0)).2.1 < (l.getD (i + 1) (0, 0, 0, 0, 0)).1)
  | [], i, _, h => by simp at h
  | [x], i, h, hi => by
    obtain rfl : i = 0 := by simp at hi; omega
    exact ⟨by simpa [rowsRise] using h, by simp⟩
  | x :: y :: r, 0, h, _ => by
    simp [rowsRise] at h
    exact ⟨by simpa using h.1.1, by simpa using h.1.2⟩
  | x :: y :: r, i + 1, h, hi => by
    have h' : rowsRise (y :: r) = true := by
      simp [rowsRise] at h
      exact h.2
    have := rowsRise_at (y :: r) i h' (by simp at hi ⊢; omega)
    simpa using this
theorem caseT_336 : caseT.length = 336 := by kernel_rfl
theorem c_row (i : Nat) (h : i < 336) : cLo i ≤ cHi i := by
  unfold cLo cHi
  rw [caseA_getD]
  exact (rowsRise_at caseT i case_rise (by rw [caseT_336]; exact h)).1
theorem c_next (i : Nat) (h : i + 1 < 336) : cHi i < cLo (i + 1) := by
  unfold cLo cHi
  rw [caseA_getD, caseA_getD]
  exact (rowsRise_at caseT i case_rise (by rw [caseT_336]; omega)).2 (by rw [caseT_336]; exact h)
theorem c_lo_rises : ∀ i j, i ≤ j → j < 336 → cLo i ≤ cLo j := fun i j => rises cLo (fun k hk => by have := c_row k (by omega); have := c_next k hk; omega) j i
theorem c_hi_rises : ∀ i j, i ≤ j → j < 336 → cHi i ≤ cHi j := fun i j => rises cHi (fun k hk => by have := c_row (k + 1) (by omega); have := c_next k hk; omega) j i

/-- What the search gives bears r. -/
theorem lookup_some (r : Int) : ∀ (f lo hi i : Nat), hi ≤ 336 → lookupIdx caseA r f lo hi = some i → i < 336 ∧ (cLo i : Int) ≤ r ∧ r ≤ (cHi i : Int)
  | 0, _, _, _, _, h => by simp [lookupIdx] at h
  | f + 1, lo, hi, i, hh, h => by
    unfold lookupIdx at h
    by_cases hlt : lo < hi
    · rw [if_pos hlt] at h
      by_cases hin : ((caseA.getD ((lo + hi) / 2) (0, 0, 0, 0, 0)).1 : Int) ≤ r ∧ r ≤ ((caseA.getD ((lo + hi) / 2) (0, 0, 0, 0, 0)).2.1 : Int)
      · rw [if_pos hin] at h
        cases h
        exact ⟨by omega, hin.1, hin.2⟩
      · rw [if_neg hin] at h
        by_cases hb : r < ((caseA.getD ((lo + hi) / 2) (0, 0, 0, 0, 0)).1 : Int)
        · rw [if_pos hb] at h
          exact lookup_some r f lo _ i (by omega) h
        · rw [if_neg hb] at h
          exact lookup_some r f _ hi i hh h
    · rw [if_neg hlt] at h
      cases h
/-- .. and where a row bears r, the search gives it. -/
theorem lookup_finds (r : Int) (i : Nat) (hi0 : (cLo i : Int) ≤ r) (hi1 : r ≤ (cHi i : Int)) : ∀ (f lo hi : Nat), lo ≤ i → i < hi → hi ≤ 336 → hi - lo < f → lookupIdx caseA r f lo hi = some i
  | 0, lo, hi, _, _, _, h => by omega
  | f + 1, lo, hi, h1, h2, h3, h4 => by
    unfold lookupIdx
    rw [if_pos (by omega)]
    have hm : lo ≤ (lo + hi) / 2 ∧ (lo + hi) / 2 < hi := by omega
    by_cases hin : (cLo ((lo + hi) / 2) : Int) ≤ r ∧ r ≤ (cHi ((lo + hi) / 2) : Int)
    · rw [if_pos (show ((caseA.getD ((lo + hi) / 2) (0, 0, 0, 0, 0)).1 : Int) ≤ r ∧ r ≤ ((caseA.getD ((lo + hi) / 2) (0, 0, 0, 0, 0)).2.1 : Int) from hin)]
      congr 1
      rcases Nat.lt_trichotomy ((lo + hi) / 2) i with h | h | h
      · have a := c_lo_rises ((lo + hi) / 2 + 1) i h (by omega)
        have b := c_next ((lo + hi) / 2) (by omega)
        omega
      · exact h
      · have a := c_lo_rises (i + 1) ((lo + hi) / 2) h (by omega)
        have b := c_next i (by omega)
        omega
    · rw [if_neg (show ¬ (((caseA.getD ((lo + hi) / 2) (0, 0, 0, 0, 0)).1 : Int) ≤ r ∧ r ≤ ((caseA.getD ((lo + hi) / 2) (0, 0, 0, 0, 0)).2.1 : Int)) from hin)]
      by_cases hb : r < (cLo ((lo + hi) / 2) : Int)
      · rw [if_pos (show r < ((caseA.getD ((lo + hi) / 2) (0, 0, 0, 0, 0)).1 : Int) from hb)]
        have : i < (lo + hi) / 2 := by
          rcases Nat.lt_or_ge i ((lo + hi) / 2) with h | h
          · exact h
          · have := c_lo_rises ((lo + hi) / 2) i h (by omega)
            omega
        exact lookup_finds r i hi0 hi1 f lo _ h1 this (by omega) (by omega)
      · rw [if_neg (show ¬ r < ((caseA.getD ((lo + hi) / 2) (0, 0, 0, 0, 0)).1 : Int) from hb)]
        have : (lo + hi) / 2 < i := by
          rcases Nat.lt_or_ge ((lo + hi) / 2) i with h | h
          · exact h
          · have := c_hi_rises i ((lo + hi) / 2) h (by omega)
            omega
        exact lookup_finds r i hi0 hi1 f _ hi this h2 h3 (by omega)

/-! ### the same, by plain looks over numbers: for the kernel -/
def conv (c : Nat) (r : Nat) (x : Nat × Nat × Int × Int × Int) : Int := convertR c (r : Int) x
def sfRow (r : Nat) (x : Nat × Nat × Int × Int × Int) : Int := if conv 1 r x = (r : Int) then conv 0 r x else conv 1 r x
def inRow (r : Nat) (x : Nat × Nat × Int × Int × Int) : Bool := Nat.ble x.1 r && Nat.ble r x.2.1
def sfN (r : Nat) : Int :=
  if r < 128 then ((ascL.getD r 0 : Nat) : Int)
  else match orbL.find? (fun p => Nat.beq p.1 r) with
    | some p => (p.2 : Int)
    | none => match caseT.find? (inRow r) with
      | some x => sfRow r x
      | none => (r : Int)

theorem find_row (r : Nat) : ∀ (l : List (Nat × Nat × Int × Int × Int)), (∃ i, i < l.length ∧ l.find? (inRow r) = some (l.getD i (0, 0, 0, 0, 0)) ∧ inRow r (l.getD i (0, 0, 0, 0, 0)) = true) ∨ (l.find? (inRow r) = none ∧ ∀ x ∈ l, inRow r x = false)
  | [] => Or.inr ⟨rfl, by simp⟩
  | x :: t => by
    cases hx : inRow r x with
    | true => exact Or.inl ⟨0, by simp, by simp [List.find?, hx], by simpa using hx⟩
    | false =>
      rcases find_row r t with ⟨i, h1, h2, h3⟩ | ⟨h1, h2⟩
      · exact Or.inl ⟨i + 1, by simp; omega, by simpa [List.find?, hx] using h2, by simpa using h3⟩
      · exact Or.inr ⟨by simpa [List.find?, hx] using h1, fun y hy => by
          rcases List.mem_cons.1 hy with rfl | hy
          · exact hx
          · exact h2 y hy⟩

theorem find_orb (r : Nat) : ∀ (l : List (Nat × Nat)), (∃ i, i < l.length ∧ l.find? (fun p => Nat.beq p.1 r) = some (l.getD i (0, 0)) ∧ (l.getD i (0, 0)).1 = r) ∨ (l.find? (fun p => Nat.beq p.1 r) = none ∧ ∀ i, i < l.length → (l.getD i (0, 0)).1 ≠ r)
  | [] => Or.inr ⟨rfl, by simp⟩
  | x :: t => by
    cases hx : Nat.beq x.1 r with
    | true => exact Or.inl ⟨0, by simp, by simp [List.find?, hx], Nat.eq_of_beq_eq_true hx⟩
    | false =>
      rcases find_orb r t with ⟨i, h1, h2, h3⟩ | ⟨h1, h2⟩
      · exact Or.inl ⟨i + 1, by simp; omega, by simpa [List.find?, hx] using h2, by simpa using h3⟩
      · refine Or.inr ⟨by simpa [List.find?, hx] using h1, fun i hi => ?_⟩
        cases i with
        | zero =>
          intro e
          have e' : x.1 = r := by simpa using e
          rw [e', Nat.beq_refl] at hx
          cases hx
        | succ i => simpa using h2 i (by simp at hi; omega)

theorem orbL_94 : orbL.length = 94 := by kernel_rfl

/-- THE SEARCHES' ANSWER IS THE PLAIN LOOKS'. -/
theorem sfold_eq (r : Nat) (hr : r ≤ 1114111) : sfold (r : Int) = sfN r := by
  unfold sfold sfN
  rw [if_neg (by omega), if_neg (by omega)]
  by_cases h128 : r < 128
  · rw [if_pos (by omega), if_pos h128]
    rfl
  rw [if_neg (by omega), if_neg h128]
  obtain ⟨b1, b2⟩ := orbIdx_spec (r : Int) 95 0 94 (by omega) (by omega) (by omega) orb_sorted (fun i hi => by omega) (fun i hi hi' => by omega)
  generalize orbIdx (r : Int) 95 0 94 = m at b1 b2 ⊢
  rcases find_orb r orbL with ⟨i, h1, h2, h3⟩ | ⟨h1, h2⟩
  · rw [orbL_94] at h1
    have hif : (orbFrom i : Int) = r := by unfold orbFrom; omega
    have hmi : m ≤ i := by
      rcases Nat.lt_or_ge i m with h | h
      · have := b1 i h; omega
      · exact h
    have hmr : (orbFrom m : Int) = r := by
      have u := b2 m (Nat.le_refl _) (by omega)
      have v := orb_sorted m i hmi h1
      omega
    rw [if_pos ⟨by omega, hmr⟩, h2]
    have hto : orbTo m = orbTo i := by
      have hinj : (List.range 93).all (fun i => decide (orbFrom i < orbFrom (i + 1))) = true := by kernel_rfl
      have hstep : ∀ k, k + 1 < 94 → orbFrom k < orbFrom (k + 1) := fun k hk => by simpa using List.all_eq_true.1 hinj k (List.mem_range.2 (by omega))
      rcases Nat.lt_or_ge m i with h | h
      · have a := hstep m (by omega)
        have b := orb_sorted (m + 1) i h h1
        omega
      · obtain rfl : m = i := by omega
        rfl
    rw [hto]
    rfl
  · rw [h1]
    rw [if_neg (fun h => by
      have := h2 m (by rw [orbL_94]; exact h.1)
      have e := h.2
      unfold orbFrom at e
      omega)]
    rcases find_row r caseT with ⟨i, h1, h2, h3⟩ | ⟨h1, h2⟩
    · rw [caseT_336] at h1
      rw [h2]
      have hb : (cLo i : Int) ≤ r ∧ (r : Int) ≤ (cHi i : Int) := by
        unfold cLo cHi
        rw [caseA_getD]
        unfold inRow at h3
        rw [Bool.and_eq_true] at h3
        have a := Nat.le_of_ble_eq_true h3.1
        have b := Nat.le_of_ble_eq_true h3.2
        omega
      have hf := lookup_finds (r : Int) i hb.1 hb.2 337 0 336 (by omega) h1 (by omega) (by omega)
      rw [show (337 : Nat) = caseA.size + 1 by rw [caseA_336], show (336 : Nat) = caseA.size by rw [caseA_336]] at hf
      rw [sfTail_some hf, caseA_getD]
      rfl
    · rw [h1]
      cases hl : lookupIdx caseA (r : Int) (caseA.size + 1) 0 caseA.size with
      | none => rw [sfTail_none hl]
      | some i =>
        obtain ⟨e1, e2, e3⟩ := lookup_some (r : Int) _ _ _ i (by rw [caseA_336]; exact Nat.le_refl _) hl
        unfold cLo cHi at *
        rw [caseA_getD] at e2 e3
        have hm : caseT.getD i (0, 0, 0, 0, 0) ∈ caseT := by
          rw [List.getD, List.getElem?_eq_getElem (by rw [caseT_336]; exact e1)]
          exact List.getElem_mem _
        have := h2 _ hm
        unfold inRow at this
        rw [Bool.and_eq_false_iff] at this
        rcases this with h | h
        · rw [Nat.ble_eq_true_of_le (by omega)] at h
          cases h
        · rw [Nat.ble_eq_true_of_le (by omega)] at h
          cases h

/-! ### the cycles -/
/-- Back at r within n steps from f, all the way among runes. -/
def back (r : Nat) : Nat → Int → Bool
  | 0, _ => false
  | n + 1, f => match f with
    | .ofNat m => Nat.ble m 1114111 && (Nat.beq m r || back r n (sfN m))
    | .negSucc _ => false

/-- For each row: the row in which its runes' other case lies, and those of caseOrbit's runes that lie in it. (Two hints: what is used of them is checked.) -/
def hintL : List (Nat × List Nat) := [(0, [75, 83]), (1, [107, 115]), (2, [181]), (5, [197]), (6, []), (3, [229]), (4, []), (14, []), (8, []), (9, [304]), (10, [305]), (11, []), (12, []), (13, []), (7, []), (15, []), (16, [383]), (80, []), (87, []), (19, []), (88, []), (21, []), (89, []), (23, []), (63, []), (90, []), (91, []), (27, []), (93, []), (95, []), (69, []), (100, []), (99, []), (33, []), (76, []), (306, []), (104, []), (106, []), (72, []), (107, []), (40, []), (109, []), (42, []), (111, []), (44, []), (113, []), (46, []), (115, []), (48, []), (117, []), (50, []), (51, []), (70, []), (53, [452]), (54, [453]), (55, [454]), (56, [455]), (57, [456]), (58, [457]), (59, [458]), (60, [459]), (61, [460]), (62, []), (24, []), (64, []), (65, [497]), (66, [498]), (67, [499]), (68, []), (30, []), (52, []), (71, []), (38, []), (73, []), (262, []), (75, []), (34, []), (263, []), (271, []), (79, []), (17, []), (114, []), (116, []), (83, []), (267, []), (265, []), (268, []), (18, []), (20, []), (22, []), (25, []), (26, []), (291, []), (28, []), (292, []), (29, []), (304, []), (286, []), (290, []), (32, []), (31, []), (294, []), (259, []), (293, []), (36, []), (266, []), (37, []), (39, []), (261, []), (41, []), (301, []), (43, []), (296, []), (45, []), (81, []), (47, []), (82, []), (49, []), (297, []), (295, []), (120, [837]), (121, []), (122, []), (154, []), (148, []), (131, []), (132, []), (136, []), (137, []), (133, [914, 917, 920, 921, 922, 924, 928, 929]), (135, [931, 934, 937]), (125, []), (126, []), (129, [946, 949, 952, 953, 954, 956, 960, 961]), (134, [962]), (130, [963, 966, 969]), (127, []), (128, []), (143, []), (139, [976]), (140, [977]), (141, [981]), (142, [982]), (138, []), (144, []), (145, [1008]), (146, [1009]), (152, []), (124, []), (149, [1012]), (150, [1013]), (151, []), (147, []), (153, []), (123, []), (158, []), (157, [1042, 1044, 1054, 1057, 1058, 1066]), (156, [1074, 1076, 1086, 1089, 1090, 1098]), (155, []), (159, [1122, 1123]), (160, []), (163, []), (162, []), (161, []), (164, []), (166, []), (165, []), (275, []), (276, []), (277, []), (184, []), (185, []), (309, []), (174, []), (173, []), (175, [7296]), (176, [7297]), (177, [7298]), (178, [7299, 7300]), (179, [7301]), (180, [7302]), (181, [7303]), (182, [7304]), (183, []), (170, []), (171, []), (283, []), (260, []), (302, []), (189, [7776, 7777]), (190, [7835]), (191, [7838]), (192, []), (194, []), (193, []), (196, []), (195, []), (198, []), (197, []), (200, []), (199, []), (202, []), (201, []), (207, []), (208, []), (209, []), (210, []), (203, []), (204, []), (205, []), (206, []), (212, []), (211, []), (228, []), (232, []), (236, []), (243, []), (240, []), (244, []), (220, []), (219, []), (222, []), (221, []), (224, []), (223, []), (227, []), (229, []), (225, []), (213, []), (226, []), (230, [8126]), (233, []), (214, []), (231, []), (235, []), (234, []), (215, []), (239, []), (241, []), (237, []), (217, []), (238, []), (245, []), (216, []), (218, []), (242, []), (246, [8486]), (247, [8490]), (248, [8491]), (250, []), (249, []), (252, []), (251, []), (253, []), (255, []), (254, []), (257, []), (256, []), (258, []), (102, []), (187, []), (108, []), (74, []), (77, []), (264, []), (85, []), (105, []), (84, []), (86, []), (269, []), (270, []), (78, []), (272, []), (273, []), (274, []), (167, []), (168, []), (169, []), (278, [42570, 42571]), (279, []), (280, []), (281, []), (282, []), (186, []), (284, []), (285, []), (97, []), (287, []), (300, []), (289, []), (98, []), (92, []), (94, []), (103, []), (101, []), (119, []), (112, []), (118, []), (308, []), (299, []), (288, []), (110, []), (188, []), (303, []), (96, []), (305, []), (35, []), (307, []), (298, []), (172, []), (311, []), (310, []), (313, []), (312, []), (315, []), (314, []), (320, []), (321, []), (322, []), (323, []), (316, []), (317, []), (318, []), (319, []), (325, []), (324, []), (327, []), (326, []), (329, []), (328, []), (331, []), (330, []), (333, []), (332, []), (335, []), (334, [])]
def okRow (x : Nat × Nat × Int × Int × Int) (h : Nat × List Nat) : Bool :=
  orbL.all (fun p => !(inRow p.1 x) || h.2.any (Nat.beq p.1)) && h.2.all (fun o => orbL.any (fun p => Nat.beq p.1 o))
def isN (f : Int) (r : Nat) : Bool := match f with
  | .ofNat m => Nat.beq m r
  | .negSucc _ => false
def pairAt (y : Nat × Nat × Int × Int × Int) (ys : List Nat) (r : Nat) (f : Int) : Bool := match f with
  | .ofNat l => Nat.beq l r || (inRow l y && (!(ys.any (Nat.beq l)) && (Nat.ble 128 l && (Nat.ble l 1114111 && isN (sfRow l y) r))))
  | .negSucc _ => false
def chkAt (x y : Nat × Nat × Int × Int × Int) (os ys : List Nat) (r : Nat) : Bool := Nat.ble r 127 || (os.any (Nat.beq r) || pairAt y ys r (sfRow r x))
def chkRow (x : Nat × Nat × Int × Int × Int) (h : Nat × List Nat) : Bool :=
  (List.range (x.2.1 + 1 - x.1)).all fun k => chkAt x (caseT.getD h.1 (0, 0, 0, 0, 0)) h.2 (hintL.getD h.1 (0, [])).2 (x.1 + k)
set_option maxRecDepth 100000 in
theorem chk_rows : (caseT.zip hintL).all (fun p => okRow p.1 p.2 && chkRow p.1 p.2) = true := by kernel_rfl
set_option maxRecDepth 100000 in
theorem back_orbs : orbL.all (fun p => back p.1 4 (sfN p.1)) = true := by kernel_rfl


theorem hintL_336 : hintL.length = 336 := by kernel_rfl
theorem chk_at (i : Nat) (hi : i < 336) : okRow (caseT.getD i (0, 0, 0, 0, 0)) (hintL.getD i (0, [])) = true ∧ chkRow (caseT.getD i (0, 0, 0, 0, 0)) (hintL.getD i (0, [])) = true := by
  have a : i < caseT.length := by rw [caseT_336]; exact hi
  have b : i < hintL.length := by rw [hintL_336]; exact hi
  have hm : (caseT.getD i (0, 0, 0, 0, 0), hintL.getD i (0, [])) ∈ caseT.zip hintL := by
    refine List.mem_iff_getElem?.2 ⟨i, ?_⟩
    rw [List.getElem?_zip_eq_some]
    constructor
    · rw [List.getD, List.getElem?_eq_getElem a]; rfl
    · show hintL[i]? = some (hintL.getD i (0, []))
      rw [List.getD, List.getElem?_eq_getElem b]; rfl
  have := List.all_eq_true.1 chk_rows _ hm
  simpa [Bool.and_eq_true] using this

theorem inRow_iff {r : Nat} {x : Nat × Nat × Int × Int × Int} : inRow r x = true ↔ x.1 ≤ r ∧ r ≤ x.2.1 := by
  unfold inRow
  rw [Bool.and_eq_true]
  exact ⟨fun h => ⟨Nat.le_of_ble_eq_true h.1, Nat.le_of_ble_eq_true h.2⟩, fun h => ⟨Nat.ble_eq_true_of_le h.1, Nat.ble_eq_true_of_le h.2⟩⟩
/-- A rune lies in one row at the most. -/
theorem row_one {r i j : Nat} (hi : i < 336) (hj : j < 336) (a : inRow r (caseT.getD i (0, 0, 0, 0, 0)) = true) (b : inRow r (caseT.getD j (0, 0, 0, 0, 0)) = true) : i = j := by
  have u := inRow_iff.1 a
  have v := inRow_iff.1 b
  have eL : ∀ k, cLo k = (caseT.getD k (0, 0, 0, 0, 0)).1 := fun k => by unfold cLo; rw [caseA_getD]
  have eH : ∀ k, cHi k = (caseT.getD k (0, 0, 0, 0, 0)).2.1 := fun k => by unfold cHi; rw [caseA_getD]
  rw [← eL, ← eH] at u v
  rcases Nat.lt_trichotomy i j with h | h | h
  · have := c_lo_rises (i + 1) j h hj
    have := c_next i (by omega)
    omega
  · exact h
  · have := c_lo_rises (j + 1) i h hi
    have := c_next j (by omega)
    omega

/-- A rune in row i that caseOrbit does not list. -/
theorem sfN_row {r i : Nat} (h0 : 128 ≤ r) (ho : ∀ k, k < orbL.length → (orbL.getD k (0, 0)).1 ≠ r) (hi : i < 336) (a : inRow r (caseT.getD i (0, 0, 0, 0, 0)) = true) : sfN r = sfRow r (caseT.getD i (0, 0, 0, 0, 0)) := by
  unfold sfN
  rw [if_neg (by omega)]
  rcases find_orb r orbL with ⟨k, b1, _, b3⟩ | ⟨b1, _⟩
  · exact absurd b3 (ho k b1)
  · rw [b1]
    rcases find_row r caseT with ⟨k, c1, c2, c3⟩ | ⟨_, c2⟩
    · rw [caseT_336] at c1
      obtain rfl := row_one c1 hi c3 a
      rw [c2]
    · have hm : caseT.getD i (0, 0, 0, 0, 0) ∈ caseT := by
        rw [List.getD, List.getElem?_eq_getElem (by rw [caseT_336]; exact hi)]
        exact List.getElem_mem _
      rw [c2 _ hm] at a
      cases a

theorem any_beq {os : List Nat} {r : Nat} (h : os.any (Nat.beq r) = true) : r ∈ os := by
  obtain ⟨o, ho, e⟩ := List.any_eq_true.1 h
  rw [Nat.eq_of_beq_eq_true e]
  exact ho
theorem beq_any {os : List Nat} {r : Nat} (h : r ∈ os) : os.any (Nat.beq r) = true := List.any_eq_true.2 ⟨r, h, Nat.beq_refl r⟩

/-- EVERY RUNE BEYOND ASCII COMES BACK TO ITSELF WITHIN FOUR STEPS. -/
theorem sf_back (r : Nat) (h0 : 128 ≤ r) (h1 : r ≤ 1114111) : back r 4 (sfN r) = true := by
  rcases find_orb r orbL with ⟨i, a1, a2, a3⟩ | ⟨a1, a2⟩
  · have hm : orbL.getD i (0, 0) ∈ orbL := by
      rw [List.getD, List.getElem?_eq_getElem a1]
      exact List.getElem_mem _
    have := List.all_eq_true.1 back_orbs _ hm
    simp only [a3] at this
    exact this
  · have self : sfN r = Int.ofNat r → back r 4 (sfN r) = true := fun e => by
      rw [e]
      simp only [back, Nat.beq_refl, Nat.ble_eq_true_of_le h1, Bool.true_or, Bool.and_true]
    rcases find_row r caseT with ⟨i, b1, b2, b3⟩ | ⟨b1, _⟩
    · rw [caseT_336] at b1
      obtain ⟨hok, hchk⟩ := chk_at i b1
      have hs := sfN_row h0 a2 b1 b3
      have hr := inRow_iff.1 b3
      have h := List.all_eq_true.1 hchk (r - (caseT.getD i (0, 0, 0, 0, 0)).1) (List.mem_range.2 (by omega))
      rw [show (caseT.getD i (0, 0, 0, 0, 0)).1 + (r - (caseT.getD i (0, 0, 0, 0, 0)).1) = r by omega] at h
      unfold chkAt at h
      rw [Bool.or_eq_true, Bool.or_eq_true] at h
      rcases h with h | h | h
      · have := Nat.le_of_ble_eq_true h
        omega
      · have hm := any_beq h
        unfold okRow at hok
        rw [Bool.and_eq_true] at hok
        have := List.all_eq_true.1 hok.2 _ hm
        obtain ⟨p, hp, e⟩ := List.any_eq_true.1 this
        obtain ⟨k, hk, rfl⟩ := List.mem_iff_getElem.1 hp
        have := a2 k hk
        rw [List.getD, List.getElem?_eq_getElem hk] at this
        exact absurd (Nat.eq_of_beq_eq_true e) this
      · rw [← hs] at h
        unfold pairAt at h
        split at h
        · rename_i l hl
          rw [Bool.or_eq_true, Bool.and_eq_true, Bool.and_eq_true, Bool.and_eq_true, Bool.and_eq_true] at h
          rcases h with h | ⟨g1, g2, g3, g4, g5⟩
          · exact self (by rw [hl, Nat.eq_of_beq_eq_true h])
          · have g3' := Nat.le_of_ble_eq_true g3
            have hj : (hintL.getD i (0, [])).1 < 336 := by
              rcases Nat.lt_or_ge (hintL.getD i (0, [])).1 336 with h | h
              · exact h
              · have := (inRow_iff.1 g1).2
                rw [List.getD, List.getElem?_eq_none (by rw [caseT_336]; exact h)] at this
                simp at this
                omega
            obtain ⟨hok', _⟩ := chk_at _ hj
            have hno : ∀ k, k < orbL.length → (orbL.getD k (0, 0)).1 ≠ l := fun k hk e => by
              unfold okRow at hok'
              rw [Bool.and_eq_true] at hok'
              have hm : orbL.getD k (0, 0) ∈ orbL := by
                rw [List.getD, List.getElem?_eq_getElem hk]
                exact List.getElem_mem _
              have := List.all_eq_true.1 hok'.1 _ hm
              rw [e, g1] at this
              have g2' : (hintL.getD (hintL.getD i (0, [])).1 (0, [])).2.any (Nat.beq l) = false := by simpa using g2
              rw [g2'] at this
              cases this
            have hl' := sfN_row g3' hno hj g1
            unfold isN at g5
            split at g5
            · rename_i m hm
              rw [hl]
              simp only [back, g4, hl', hm, Nat.eq_of_beq_eq_true g5, Nat.beq_refl, Nat.ble_eq_true_of_le h1, Bool.true_or, Bool.and_true, Bool.or_true]
            · cases g5
        · cases h
    · refine self ?_
      unfold sfN
      rw [if_neg (by omega), a1, b1]
      rfl

/-- One step of 'back'. -/
theorem back_step {r n : Nat} {f : Int} (h : back r (n + 1) f = true) : 0 ≤ f ∧ f ≤ 1114111 ∧ (f = (r : Int) ∨ back r n (sfold f) = true) := by
  unfold back at h
  split at h
  · rename_i m
    rw [Bool.and_eq_true, Bool.or_eq_true] at h
    have a := Nat.le_of_ble_eq_true h.1
    refine ⟨by simp, by simp; omega, ?_⟩
    rcases h.2 with b | b
    · exact Or.inl (by rw [Nat.eq_of_beq_eq_true b]; rfl)
    · refine Or.inr ?_
      rw [show (Int.ofNat m) = ((m : Nat) : Int) from rfl, sfold_eq m a]
      exact b
  · cases h

/-! ### names.foldRune, names.Fold -/
/-- 'for f != r { least = min(least, f); f = SimpleFold(f) }', from (l, f) on, by at most so many rounds. -/
def leastLoop (r : Int) : Nat → Int → Int → Int
  | 0, l, _ => l
  | n + 1, l, f => if f = r then l else leastLoop r n (min l f) (sfold f)
def lowR (r : Int) : Int := if 65 ≤ r ∧ r ≤ 90 then r + 32 else r
def foldRuneR (r : Int) : Int := if r < 128 then lowR r else lowR (leastLoop r 4 r (sfold r))
theorem sf_back' (r : Int) (h0 : 128 ≤ r) (h1 : r ≤ 1114111) : back r.toNat 4 (sfold r) = true := by
  have hb := sf_back r.toNat (by omega) (by omega)
  rwa [← sfold_eq r.toNat (by omega), show ((r.toNat : Nat) : Int) = r by omega] at hb
theorem leastLoop_range (r : Int) : ∀ (n : Nat) (l f : Int), 0 ≤ l → l ≤ 1114111 → 0 ≤ r → r ≤ 1114111 → back r.toNat n f = true → 0 ≤ leastLoop r n l f ∧ leastLoop r n l f ≤ 1114111
  | 0, l, f, h1, h2, _, _, _ => ⟨h1, h2⟩
  | n + 1, l, f, h1, h2, h3, h4, hb => by
    obtain ⟨b0, b1, b2⟩ := back_step hb
    unfold leastLoop
    by_cases e : f = r
    · rw [if_pos e]; exact ⟨h1, h2⟩
    · rw [if_neg e]
      rcases b2 with b2 | b2
      · exact absurd (by omega) e
      · exact leastLoop_range r n _ _ (by omega) (by omega) h3 h4 b2
theorem foldRuneR_range (r : Int) (h0 : 0 ≤ r) (h1 : r ≤ 1114111) : 0 ≤ foldRuneR r ∧ foldRuneR r ≤ 1114111 := by
  unfold foldRuneR lowR
  by_cases h : r < 128
  · rw [if_pos h]
    split <;> omega
  · rw [if_neg h]
    have := leastLoop_range r 4 r (sfold r) h0 h1 h0 h1 (sf_back' r (by omega) h1)
    split <;> omega
end Go.Proofs.Qxb6615948aDoor
