/-
  The text cut just past its line break: the same line.
-/
import Derived.Test.Qxb6614930aFmtPlain
namespace Go.Proofs.Qxb6614930aFmt
open Go.RowKit Go.PlainAid

theorem cut_size (t : ByteArray) (M : Nat) (h : M ≤ t.size) : (t.extract 0 M).size = M := by simp [ByteArray.size_extract]; omega
theorem cut_bt (t : ByteArray) (M : Nat) (i : Nat) (hi : i < M) : bt (t.extract 0 M) i = bt t i := by
  rw [bt_getElem?, bt_getElem?]
  have : (t.extract 0 M).data.toList[i]? = t.data.toList[i]? := by
    simp [ByteArray.data_extract, Array.toList_extract, hi]
  rw [this]
theorem Line.M_le {t : ByteArray} {p e M c : Nat} (L : Line t p e M c) : e ≤ M ∧ M ≤ t.size ∧ p ≤ M := by
  have := L.pe
  rcases L.fin with ⟨a, -, b⟩ | ⟨a, b⟩ <;> omega
theorem Line.of_cut {t : ByteArray} {p e M c : Nat} (L : Line t p e M c) : Line (t.extract 0 M) p e M c := by
  have hm := L.M_le
  have hz := cut_size t M hm.2.1
  have hb := cut_bt t M
  refine ⟨L.pe, fun i h1 h2 => by rw [hb i (by omega)]; exact L.none i h1 h2, ?_, ?_⟩
  · rw [hz]
    rcases L.fin with ⟨a, b, d⟩ | ⟨a, b⟩
    · exact Or.inl ⟨by omega, by rw [hb e (by omega)]; exact b, d⟩
    · exact Or.inr ⟨by omega, b⟩
  · rw [hz]
    rcases L.fin with ⟨a, b, d⟩ | ⟨a, b⟩
    · rw [hb (e - 1) (by omega)]
      rcases L.cut with ⟨x, y, z, u⟩ | ⟨x, u⟩
      · exact Or.inl ⟨by omega, y, z, u⟩
      · exact Or.inr ⟨fun g => x ⟨a, g.2.1, g.2.2⟩, u⟩
    · rcases L.cut with ⟨x, y, z, u⟩ | ⟨x, u⟩
      · omega
      · exact Or.inr ⟨fun g => by omega, u⟩
theorem both_law {t : ByteArray} {p e M c h : Nat} {off : Int} {bad badL : Bool} {q qL : Nat} (L : Line t p e M c) (hph : p ≤ h) (hhc : h ≤ c) (hn : ∀ i, p ≤ i → i < h → bt t i ≠ 35) (hh : h < c → bt t h = 35) (hE : EndSpec t p bad q) (hE' : EndSpec (t.extract 0 M) p badL qL) (hF : Found t p c h off) :
    (0 ≤ off → bad = true ∧ (q : Int) = off ∧ badL = true ∧ (qL : Int) = off) ∧ (off < 0 → bad = false ∧ q = M ∧ badL = false ∧ qL = M) := by
  have hm := L.M_le
  have hl := L.le
  have hb := cut_bt t M
  have A := model_law L hph hhc hn hh hF hE
  have B := model_law L.of_cut hph hhc (fun i g1 g2 => by rw [hb i (by omega)]; exact hn i g1 g2) (fun g => by rw [hb h (by omega)]; exact hh g) (off := off) (by
    have bl : (∀ j, p ≤ j → j < h → bt t j = 32 ∨ bt t j = 9) → (∀ j, p ≤ j → j < h → bt (t.extract 0 M) j = 32 ∨ bt (t.extract 0 M) j = 9) := fun g j g1 g2 => by rw [hb j (by omega)]; exact g j g1 g2
    rcases hF with ⟨i, h1, h2, h3, h4, rfl⟩ | ⟨h1, h2, rfl⟩ | ⟨h1, h2, i, h3, h4, h5, h6, rfl⟩ | ⟨h1, h2, h3, rfl⟩
    · exact Or.inl ⟨i, h1, h2, by rw [hb i (by omega)]; exact h3, fun j g1 g2 => by rw [hb j (by omega)]; exact h4 j g1 g2, rfl⟩
    · exact Or.inr (Or.inl ⟨bl h1, h2, rfl⟩)
    · exact Or.inr (Or.inr (Or.inl ⟨bl h1, h2, i, h3, h4, by rw [hb i (by omega)]; exact h5, fun j g1 g2 => by rw [hb j (by omega)]; exact h6 j g1 g2, rfl⟩))
    · exact Or.inr (Or.inr (Or.inr ⟨bl h1, h2, fun j g1 g2 => by rw [hb j (by omega)]; exact h3 j g1 g2, rfl⟩))) hE'
  constructor
  · intro h0
    rw [if_pos h0] at A B
    have : decide (0 ≤ off) = true := by simpa using h0
    rw [this] at A B
    exact ⟨A.1, A.2, B.1, B.2⟩
  · intro h0
    have h1 : ¬ 0 ≤ off := by omega
    rw [if_neg h1] at A B
    have : decide (0 ≤ off) = false := by simpa using h0
    rw [this] at A B
    exact ⟨A.1, by omega, B.1, by omega⟩
end Go.Proofs.Qxb6614930aFmt
