/-
  The model's white space is the library's.
-/
import Derived.Test.Qxb6616118aDoorSpBe
import Derived.Test.Qxb6616118aDoorPlain
namespace Go.Proofs.Qxb6616118aDoor
open Go.PlainAid

theorem head_of {q : List UInt8} (hq : q ∈ Lib.spaceSeqs) (t : List UInt8) : Lib.headSpace (q ++ t) = q.length := by
  obtain ⟨h1, h2⟩ := Lib.seq_decodes q hq t
  have hne : q ++ t ≠ [] := by
    intro e
    have := seqs_ne q hq
    simp at e
    simp [e.1] at this
  rw [Lib.headSpace_eq _ hne, h1, if_pos rfl, h2]
theorem tail_of {q : List UInt8} (hq : q ∈ Lib.spaceSeqs) (t : List UInt8) : Lib.tailSpace (t ++ q) = q.length := by
  obtain ⟨h1, h2⟩ := Lib.seq_decodes_last q hq t
  have hne : t ++ q ≠ [] := by
    intro e
    have := seqs_ne q hq
    simp at e
    simp [e.2] at this
  rw [Lib.tailSpace_eq _ hne, h1, if_pos rfl, h2]
theorem tailSpace_zero {l : List UInt8} : Lib.tailSpace l = 0 ↔ ∀ q ∈ Lib.spaceSeqs, ¬ q <:+ l := by
  unfold Lib.tailSpace
  cases h : Lib.spaceSeqs.find? (·.isSuffixOf l) with
  | none =>
    simp only [Option.map_none, Option.getD_none, true_iff]
    intro q hq hp
    have := List.find?_eq_none.1 h q hq
    exact this (by simpa using hp)
  | some q =>
    have hq := List.mem_of_find?_eq_some h
    have hp : q.isSuffixOf l = true := List.find?_some (p := fun x : List UInt8 => x.isSuffixOf l) h
    simp only [Option.map_some, Option.getD_some]
    constructor
    · intro h0; exact absurd h0 (seqs_ne q hq)
    · intro h0; exact absurd (by simpa using hp) (h0 q hq)
abbrev one (c : UInt8) : Prop := (c.toNat : Int) = 32 ∨ (9 ≤ (c.toNat : Int) ∧ (c.toNat : Int) ≤ 13)
abbrev two (c d : UInt8) : Prop := (c.toNat : Int) = 194 ∧ ((d.toNat : Int) = 133 ∨ (d.toNat : Int) = 160)
abbrev three (c d e : UInt8) : Prop := sp3 c.toNat d.toNat e.toNat = true
theorem mem_one {c : UInt8} (h : one c) : [c] ∈ Lib.spaceSeqs := by
  have := Lib.mem1 ⟨c.toNat, c.toNat_lt⟩ (by unfold one at h; simp only; omega)
  rwa [← Lib.byte_of c] at this
theorem mem_two {c d : UInt8} (h : two c d) : [c, d] ∈ Lib.spaceSeqs := by
  have h1 := Lib.mem2 ⟨d.toNat, d.toNat_lt⟩ (by unfold two at h; simp only; omega)
  rw [← Lib.byte_of d] at h1
  have h2 : c = 194 := UInt8.toNat.inj (by unfold two at h; show c.toNat = 194; omega)
  rw [h2]
  exact h1
theorem mem_three {c d e : UInt8} (h : three c d e) : [c, d, e] ∈ Lib.spaceSeqs := by
  unfold three sp3 at h
  simp only [Bool.or_eq_true, Bool.and_eq_true, beq_iff_eq, decide_eq_true_eq] at h
  have hc : ∀ n : Nat, n < 256 → (c.toNat : Int) = n → c = UInt8.ofNat n := fun n hn h => UInt8.toNat.inj (by simp; omega)
  have hd : ∀ n : Nat, n < 256 → (d.toNat : Int) = n → d = UInt8.ofNat n := fun n hn h => UInt8.toNat.inj (by simp; omega)
  have he : ∀ n : Nat, n < 256 → (e.toNat : Int) = n → e = UInt8.ofNat n := fun n hn h => UInt8.toNat.inj (by simp; omega)
  rcases h with ((⟨⟨h1, h2⟩, h3⟩ | ⟨⟨h1, h2⟩, h3⟩) | ⟨⟨h1, h2⟩, h3⟩) | ⟨⟨h1, h2⟩, h3⟩
  · rw [hc 225 (by decide) h1, hd 154 (by decide) h2, he 128 (by decide) h3]; decide
  · rw [hc 226 (by decide) h1, hd 128 (by decide) h2]
    have := Lib.mem3 ⟨e.toNat, e.toNat_lt⟩ (by simp only; omega)
    rw [← Lib.byte_of e] at this
    exact this
  · rw [hc 226 (by decide) h1, hd 129 (by decide) h2, he 159 (by decide) h3]; decide
  · rw [hc 227 (by decide) h1, hd 128 (by decide) h2, he 128 (by decide) h3]; decide
theorem seq_cases {q : List UInt8} (hq : q ∈ Lib.spaceSeqs) : (∃ c, q = [c] ∧ one c) ∨ (∃ c d, q = [c, d] ∧ two c d) ∨ (∃ c d e, q = [c, d, e] ∧ three c d e) := by
  simp only [Lib.spaceSeqs, List.mem_cons, List.not_mem_nil, or_false] at hq
  rcases hq with rfl | rfl | rfl | rfl | rfl | rfl | rfl | rfl | rfl | rfl | rfl | rfl | rfl | rfl | rfl | rfl | rfl | rfl | rfl | rfl | rfl | rfl | rfl | rfl | rfl
  all_goals first
    | exact .inl ⟨_, rfl, by unfold one; decide⟩
    | exact .inr (.inl ⟨_, _, rfl, by unfold two; decide⟩)
    | exact .inr (.inr ⟨_, _, _, rfl, by unfold three; decide⟩)

/-- What stands at the head of a list, in numbers. -/
theorem head_one {c : UInt8} {t : List UInt8} (h : one c) : Lib.headSpace (c :: t) = 1 := head_of (mem_one h) t
theorem head_two {c d : UInt8} {t : List UInt8} (h : two c d) : Lib.headSpace (c :: d :: t) = 2 := head_of (mem_two h) t
theorem head_three {c d e : UInt8} {t : List UInt8} (h : three c d e) : Lib.headSpace (c :: d :: e :: t) = 3 := head_of (mem_three h) t
theorem head_none {c : UInt8} {t : List UInt8} (h1 : ¬ one c) (h2 : ∀ d r, t = d :: r → ¬ two c d) (h3 : ∀ d e r, t = d :: e :: r → ¬ three c d e) : Lib.headSpace (c :: t) = 0 := by
  rw [headSpace_zero]
  rintro q hq ⟨r, hr⟩
  rcases seq_cases hq with ⟨c', rfl, h⟩ | ⟨c', d, rfl, h⟩ | ⟨c', d, e, rfl, h⟩
  · simp at hr; obtain ⟨rfl, -⟩ := hr; exact h1 h
  · simp at hr; obtain ⟨rfl, hr⟩ := hr; exact h2 d r hr.symm h
  · simp at hr; obtain ⟨rfl, hr⟩ := hr; exact h3 d e r hr.symm h
theorem tail_one {c : UInt8} {t : List UInt8} (h : one c) : Lib.tailSpace (t ++ [c]) = 1 := tail_of (mem_one h) t
theorem tail_two {c d : UInt8} {t : List UInt8} (h : two c d) : Lib.tailSpace (t ++ [c, d]) = 2 := tail_of (mem_two h) t
theorem tail_three {c d e : UInt8} {t : List UInt8} (h : three c d e) : Lib.tailSpace (t ++ [c, d, e]) = 3 := tail_of (mem_three h) t
theorem tail_none {l : List UInt8} (h1 : ∀ t c, l = t ++ [c] → ¬ one c) (h2 : ∀ t c d, l = t ++ [c, d] → ¬ two c d) (h3 : ∀ t c d e, l = t ++ [c, d, e] → ¬ three c d e) : Lib.tailSpace l = 0 := by
  rw [tailSpace_zero]
  rintro q hq ⟨r, hr⟩
  rcases seq_cases hq with ⟨c, rfl, h⟩ | ⟨c, d, rfl, h⟩ | ⟨c, d, e, rfl, h⟩
  · exact h1 r c hr.symm h
  · exact h2 r c d hr.symm h
  · exact h3 r c d e hr.symm h
end Go.Proofs.Qxb6616118aDoor
