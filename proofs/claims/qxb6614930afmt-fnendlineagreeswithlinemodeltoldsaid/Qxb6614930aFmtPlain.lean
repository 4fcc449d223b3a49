/-
  The plain law: what endLine gives is what the line-first model says.
-/
import Derived.Test.Qxb6614930aFmtShim
namespace Go.Proofs.Qxb6614930aFmt
open Go.RowKit Go.PlainAid

theorem lf_true {t : ByteArray} {r : Nat} : lfB t r = true ↔ bt t r = 10 := by unfold lfB; simp
theorem lf_false {t : ByteArray} {r : Nat} : lfB t r = false ↔ bt t r ≠ 10 := by unfold lfB; simp
theorem cr_true {t : ByteArray} {r : Nat} : crB t r = true ↔ bt t r = 13 ∧ bt t (r + 1) = 10 := by unfold crB; simp
theorem cr_false {t : ByteArray} {r : Nat} : crB t r = false ↔ ¬ (bt t r = 13 ∧ bt t (r + 1) = 10) := by unfold crB; simp

/-- The line: it ends at e, its line break ends at M, what stands before the line break ends at c. -/
structure Line (t : ByteArray) (p e M c : Nat) : Prop where
  pe : p ≤ e
  none : ∀ i, p ≤ i → i < e → bt t i ≠ 10
  fin : (e < t.size ∧ bt t e = 10 ∧ M = e + 1) ∨ (e = t.size ∧ M = e)
  cut : (e < t.size ∧ p < e ∧ bt t (e - 1) = 13 ∧ c + 1 = e) ∨ (¬ (e < t.size ∧ p < e ∧ bt t (e - 1) = 13) ∧ c = e)

theorem Line.le {t : ByteArray} {p e M c : Nat} (L : Line t p e M c) : p ≤ c ∧ c ≤ e ∧ e ≤ t.size := by
  have h1 := L.pe
  rcases L.fin with ⟨a, -, -⟩ | ⟨a, -⟩ <;> rcases L.cut with ⟨-, b, -, d⟩ | ⟨-, d⟩ <;> omega
theorem Line.at {t : ByteArray} {p e M c : Nat} (L : Line t p e M c) : (c = t.size ∧ M = c) ∨ (c < t.size ∧ bt t c = 10 ∧ M = c + 1) ∨ (c < t.size ∧ bt t c = 13 ∧ bt t (c + 1) = 10 ∧ M = c + 2) := by
  rcases L.cut with ⟨a, b, x, d⟩ | ⟨-, d⟩
  · rcases L.fin with ⟨f, g, k⟩ | ⟨f, -⟩
    · have : e - 1 = c := by omega
      rw [this] at x
      subst d
      exact Or.inr (Or.inr ⟨by omega, x, g, by omega⟩)
    · omega
  · subst d
    rcases L.fin with ⟨f, g, k⟩ | ⟨f, k⟩
    · exact Or.inr (Or.inl ⟨f, g, k⟩)
    · exact Or.inl ⟨f, k⟩
theorem Line.before {t : ByteArray} {p e M c : Nat} (L : Line t p e M c) {r : Nat} (h0 : p ≤ r) (h1 : r < c) : lfB t r = false ∧ crB t r = false := by
  have hl := L.le
  refine ⟨lf_false.2 (L.none r h0 (by omega)), cr_false.2 ?_⟩
  rintro ⟨x, y⟩
  have hre : r + 1 = e := by
    by_cases h : r + 1 < e
    · exact absurd y (L.none _ (by omega) h)
    · omega
  have hes : e < t.size := by
    by_cases h : t.size ≤ r + 1
    · rw [bt_end t h] at y
      omega
    · omega
  rcases L.cut with ⟨-, -, -, d⟩ | ⟨n, -⟩
  · omega
  · refine n ⟨hes, by omega, ?_⟩
    have : e - 1 = r := by omega
    rw [this]
    exact x
theorem Line.stop {t : ByteArray} {p e M c : Nat} (L : Line t p e M c) : c = t.size ∨ (lfB t c || crB t c) = true := by
  rcases L.at with ⟨h, -⟩ | ⟨-, h, -⟩ | ⟨-, h, k, -⟩
  · exact Or.inl h
  · exact Or.inr (by rw [lf_true.2 h]; rfl)
  · exact Or.inr (by rw [cr_true.2 ⟨h, k⟩]; cases lfB t c <;> rfl)
theorem Line.fin_at {t : ByteArray} {p e M c : Nat} (L : Line t p e M c) {bad : Bool} {q : Nat} (h : Fin t c bad q) : bad = false ∧ q = M := by
  rcases L.at with ⟨a, b⟩ | ⟨a, b, d⟩ | ⟨a, b, b', d⟩
  · rcases h with ⟨x, y, z⟩ | ⟨x, _⟩ | ⟨x, _⟩ | ⟨x, _⟩
    · exact ⟨y, by omega⟩
    all_goals omega
  · rcases h with ⟨x, y, z⟩ | ⟨x, x1, y, z⟩ | ⟨x, x1, _⟩ | ⟨x, x1, _⟩
    · omega
    · exact ⟨y, by omega⟩
    · exact absurd b (lf_false.1 x1)
    · exact absurd b (lf_false.1 x1)
  · rcases h with ⟨x, y, z⟩ | ⟨x, x1, y, z⟩ | ⟨x, x1, x2, y, z⟩ | ⟨x, x1, x2, _⟩
    · omega
    · have := lf_true.1 x1
      omega
    · exact ⟨y, by omega⟩
    · exact absurd ⟨b, b'⟩ (cr_false.1 x2)
theorem Line.fin_before {t : ByteArray} {p e M c : Nat} (L : Line t p e M c) {r : Nat} {bad : Bool} {q : Nat} (h0 : p ≤ r) (h1 : r < c) (h : Fin t r bad q) : bad = true ∧ q = r := by
  have hl := L.le
  obtain ⟨a, b⟩ := L.before h0 h1
  rcases h with ⟨x, y, z⟩ | ⟨x, x1, y, z⟩ | ⟨x, x1, x2, y, z⟩ | ⟨x, x1, x2, y, z⟩
  · omega
  · rw [a] at x1; cases x1
  · rw [b] at x2; cases x2
  · exact ⟨y, z⟩

/-- What the model finds: the first byte that may not stand there, or -1. -/
def Found (t : ByteArray) (p c h : Nat) (off : Int) : Prop :=
  (∃ i : Nat, p ≤ i ∧ i < h ∧ ¬ (bt t i = 32 ∨ bt t i = 9) ∧ (∀ j, p ≤ j → j < i → bt t j = 32 ∨ bt t j = 9) ∧ off = i) ∨
  ((∀ j, p ≤ j → j < h → bt t j = 32 ∨ bt t j = 9) ∧ h = c ∧ off = -1) ∨
  ((∀ j, p ≤ j → j < h → bt t j = 32 ∨ bt t j = 9) ∧ h < c ∧ ∃ i : Nat, h < i ∧ i < c ∧ ctlB (bt t i) = true ∧ (∀ j, h < j → j < i → ctlB (bt t j) = false) ∧ off = i) ∨
  ((∀ j, p ≤ j → j < h → bt t j = 32 ∨ bt t j = 9) ∧ h < c ∧ (∀ j, h < j → j < c → ctlB (bt t j) = false) ∧ off = -1)

theorem model_law {t : ByteArray} {p e M c h : Nat} {off : Int} {bad : Bool} {q : Nat} (L : Line t p e M c) (hph : p ≤ h) (hhc : h ≤ c) (hn : ∀ i, p ≤ i → i < h → bt t i ≠ 35) (hh : h < c → bt t h = 35) (hF : Found t p c h off) (hE : EndSpec t p bad q) :
    bad = decide (0 ≤ off) ∧ (q : Int) = if 0 ≤ off then off else (M : Int) := by
  have hl := L.le
  have hst := L.stop
  have hat := L.at
  obtain ⟨p1, hp1, hp1n, hbl, hnb, hE⟩ := hE
  have hp1c : p1 ≤ c := by
    by_cases g : p1 ≤ c
    · exact g
    · have := hbl c hl.1 (by omega)
      rcases hat with ⟨a, -⟩ | ⟨-, b, -⟩ | ⟨-, b, -⟩ <;> omega
  have key : ∀ i, p ≤ i → i < t.size → ¬ (bt t i = 32 ∨ bt t i = 9) → (∀ j, p ≤ j → j < i → bt t j = 32 ∨ bt t j = 9) → p1 = i := fun i hi1 hi2 hi3 hi4 => by
    by_cases g1 : p1 < i
    · have a := hi4 p1 hp1 g1
      have b := hnb (by omega)
      omega
    · by_cases g2 : i < p1
      · exact absurd (hbl i hi1 g2) hi3
      · omega
  have inC : (h < c) → (∀ j, p ≤ j → j < h → bt t j = 32 ∨ bt t j = 9) → p1 = h ∧ ∃ p2, h < p2 ∧ p2 ≤ c ∧ (∀ i, h < i → i < p2 → Plain t i) ∧
       ((p2 < c ∧ ctlB (bt t p2) = true ∧ bad = true ∧ q = p2) ∨ (p2 = c ∧ bad = false ∧ q = M)) := fun hc hall => by
    have hbh := hh hc
    have e1 : p1 = h := key h hph (by omega) (by omega) hall
    subst e1
    refine ⟨rfl, ?_⟩
    rcases hE with ⟨x | x, -⟩ | ⟨-, -, p2, g1, g2, g3, g4⟩
    · omega
    · exact absurd hbh x
    · have hp2c : p2 ≤ c := by
        by_cases g : p2 ≤ c
        · exact g
        · obtain ⟨a, b, -⟩ := g3 c hc (by omega)
          rcases hst with s | s
          · omega
          · rw [a, b] at s; cases s
      refine ⟨p2, g1, hp2c, g3, ?_⟩
      by_cases hlt : p2 < c
      · rcases g4 with ⟨-, -, -, k, kb, kq⟩ | ⟨k | k, -⟩
        · exact Or.inl ⟨hlt, k, kb, kq⟩
        · omega
        · obtain ⟨a, b⟩ := L.before (r := p2) (by omega) hlt
          rw [a, b] at k
          cases k
      · have e2 : p2 = c := by omega
        subst e2
        rcases g4 with ⟨k0, a, b, -⟩ | ⟨-, k⟩
        · rcases hst with s | s
          · omega
          · rw [a, b] at s; cases s
        · obtain ⟨a, b⟩ := L.fin_at k
          exact Or.inr ⟨rfl, a, b⟩
  rcases hF with ⟨i, hi1, hi2, hi3, hi4, rfl⟩ | ⟨hall, rfl, rfl⟩ | ⟨hall, hc, i, hi1, hi2, hi3, hi4, rfl⟩ | ⟨hall, hc, hno, rfl⟩
  · have e1 := key i hi1 (by omega) hi3 hi4
    subst e1
    rcases hE with ⟨-, k⟩ | ⟨-, x, -⟩
    · obtain ⟨rfl, rfl⟩ := L.fin_before hi1 (by omega) k
      simp
    · exact absurd x (hn _ hi1 hi2)
  · have e1 : p1 = h := by
      by_cases g : p1 < h
      · have a := hall p1 hp1 g
        have b := hnb (by omega)
        omega
      · omega
    subst e1
    rcases hE with ⟨-, k⟩ | ⟨y, x, -⟩
    · obtain ⟨rfl, rfl⟩ := L.fin_at k
      simp
    · rcases hat with ⟨a, -⟩ | ⟨-, b, -⟩ | ⟨-, b, -⟩ <;> omega
  · obtain ⟨-, p2, g1, g2, g3, g4⟩ := inC hc hall
    rcases g4 with ⟨k0, k1, rfl, rfl⟩ | ⟨k0, -⟩
    · have e2 : q = i := by
        by_cases a : q < i
        · have := hi4 q g1 a
          rw [this] at k1; cases k1
        · by_cases b : i < q
          · have := (g3 i hi1 b).2.2
            rw [this] at hi3; cases hi3
          · omega
      subst e2
      simp
    · have := (g3 i hi1 (by omega)).2.2
      rw [this] at hi3; cases hi3
  · obtain ⟨-, p2, g1, g2, g3, g4⟩ := inC hc hall
    rcases g4 with ⟨k0, k1, -⟩ | ⟨k0, rfl, rfl⟩
    · have := hno p2 g1 k0
      rw [this] at k1; cases k1
    · simp
end Go.Proofs.Qxb6614930aFmt
