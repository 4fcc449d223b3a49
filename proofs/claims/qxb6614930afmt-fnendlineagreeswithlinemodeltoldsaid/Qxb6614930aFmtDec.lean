/-
  The decoder in memory, and the methods that only read it or move its place.
-/
import Derived.Test.Qxb6614930aFmtBase
import Derived.Test.Qxb6614930aFmtShelf
import Derived.PlainAid
import Derived.Below
import Derived.Deep.QuietTactic
import Derived.BigQuiet
namespace Go.Proofs.Qxb6614930aFmt
open Go.RowKit Go.PlainAid

/-- Block b holds a decoder at the place p of the text t. -/
def Dec (b : Nat) (t : ByteArray) (p : Nat) (W : World) : Prop :=
  W.cell? ⟨b, 0, none⟩ = some (.string t) ∧ W.cell? ⟨b, 1, none⟩ = some (.int .i64 p) ∧ W.cell? ⟨b, 3, none⟩ = some (.slice none 0 0) ∧ W.frozen? ⟨b, 1, none⟩ = false ∧ b < W.heap.size

theorem Dec.drewN {b : Nat} {t : ByteArray} {p : Nat} {W : World} (h : Dec b t p W) (n : Nat) : Dec b t p (W.drewN n) := h
theorem below_drewN {b : Nat} {w W : World} (h : Below b w W) (n : Nat) : Below b w (W.drewN n) := ⟨h.os, h.tape, h.output, h.size, h.block⟩
theorem Dec.set {b : Nat} {t : ByteArray} {p : Nat} {W : World} (h : Dec b t p W) (q : Nat) : Dec b t q (W.setCell ⟨b, 1, none⟩ (.int .i64 q)) := by
  obtain ⟨h0, h1, h3, hf, hb⟩ := h
  refine ⟨?_, ?_, ?_, ?_, ?_⟩
  · rw [World.cell?_setCell_other _ _ _ _ (by simp)]; exact h0
  · exact World.cell?_setCell_same _ _ _ h1
  · rw [World.cell?_setCell_other _ _ _ _ (by simp)]; exact h3
  · simpa using hf
  · simpa using hb
theorem Dec.below {b B : Nat} {t : ByteArray} {p : Nat} {W W' : World} (h : Dec b t p W) (hB : Below B W W') (hb : b < B) : Dec b t p W' := by
  obtain ⟨h0, h1, h3, hf, hs⟩ := h
  refine ⟨?_, ?_, ?_, ?_, ?_⟩
  · rw [hB.cell (p := ⟨b, 0, none⟩) hb]; exact h0
  · rw [hB.cell (p := ⟨b, 1, none⟩) hb]; exact h1
  · rw [hB.cell (p := ⟨b, 3, none⟩) hb]; exact h3
  · rw [hB.frozen (p := ⟨b, 1, none⟩) hb]; exact hf
  · have := hB.size; omega

def lfB (t : ByteArray) (p : Nat) : Bool := decide (bt t p = 10)
def crB (t : ByteArray) (p : Nat) : Bool := decide (bt t p = 13 ∧ bt t (p + 1) = 10)
theorem rest_list (t : ByteArray) (p : Nat) : (t.extract p t.size).data.toList = t.data.toList.drop p := by
  simp [ByteArray.data_extract, Array.toList_extract]
  exact List.take_of_length_le (by simp)
theorem bt_getElem? (t : ByteArray) (k : Nat) : bt t k = (match t.data.toList[k]? with | some c => (c.toNat : Int) | none => 0) := by
  unfold bt
  by_cases h : k < t.size
  · rw [dif_pos h]
    have : t.data.toList[k]? = some t[k] := by
      rw [List.getElem?_eq_getElem (by simpa using h)]
      rfl
    rw [this]
  · rw [dif_neg h, List.getElem?_eq_none (by simpa using h)]
theorem hp_lf (t : ByteArray) (p : Nat) : Lib.hasPrefix (t.extract p t.size).data.toList [10] = lfB t p := by
  rw [rest_list]
  unfold lfB Lib.hasPrefix
  rw [bt_getElem?]
  have e : t.data.toList[p]? = (t.data.toList.drop p)[0]? := by simp
  rw [e]
  cases t.data.toList.drop p with
  | nil => simp
  | cons c r =>
    rw [Bool.eq_iff_iff]
    simp [List.isPrefixOf]
    constructor
    · rintro rfl; rfl
    · intro h
      have : c.toNat = 10 := by omega
      exact (UInt8.toNat.inj (by simpa using this)).symm
theorem hp_cr (t : ByteArray) (p : Nat) : Lib.hasPrefix (t.extract p t.size).data.toList [13, 10] = crB t p := by
  rw [rest_list]
  unfold crB Lib.hasPrefix
  rw [bt_getElem?, bt_getElem?]
  have e : t.data.toList[p]? = (t.data.toList.drop p)[0]? := by simp
  have e1 : t.data.toList[p + 1]? = (t.data.toList.drop p)[1]? := by simp
  rw [e, e1]
  cases t.data.toList.drop p with
  | nil => simp
  | cons c r =>
    cases r with
    | nil => simp [List.isPrefixOf]
    | cons d r =>
      rw [Bool.eq_iff_iff]
      simp [List.isPrefixOf]
      constructor
      · rintro ⟨rfl, rfl⟩; exact ⟨rfl, rfl⟩
      · rintro ⟨h, h'⟩
        have h1 : c.toNat = 13 := by omega
        have h2 : d.toNat = 10 := by omega
        exact ⟨(UInt8.toNat.inj (by simpa using h1)).symm, (UInt8.toNat.inj (by simpa using h2)).symm⟩
theorem call_lf (t : ByteArray) (p : Nat) (w : World) : Calls Tryf.prog 19 #[.string (t.extract p t.size), .string ⟨#[10]⟩] w fun e w' => e = .returned (.bool (lfB t p)) ∧ w' = w := by
  rw [← hp_lf]; exact Tryf.strings_HasPrefix _ _ w
theorem call_cr (t : ByteArray) (p : Nat) (w : World) : Calls Tryf.prog 19 #[.string (t.extract p t.size), .string ⟨#[13, 10]⟩] w fun e w' => e = .returned (.bool (crB t p)) ∧ w' = w := by
  rw [← hp_cr]; exact Tryf.strings_HasPrefix _ _ w

theorem ret_bool {x y : Bool} (h : x = y) : Ending.returned (.bool x) = .returned (.bool y) := by rw [h]
def ctlB (c : Int) : Bool := decide ((c < 32 ∧ c ≠ 9) ∨ c = 127)
theorem isControl_any (c : Int) (w : World) (h0 : 0 ≤ c) (h1 : c ≤ 255) : Calls Tryf.prog 18 #[.int .u8 c] w fun e w' => e = .returned (.bool (ctlB c)) ∧ w' = w := by
  unfold ctlB
  by_cases ha : c < 32 <;> by_cases hb : c = 9 <;> by_cases hd : c = 127 <;>
  · go_enter Tryf.func18, Tryf.ntmps18
    go_wp2
    all_goals (go_ret; refine ⟨?_, rfl⟩; first | rfl | (simp_all; done) | (exfalso; omega) | (refine ret_bool ?_; rw [Bool.eq_iff_iff]; simp; omega))
theorem forbidden_any (c : Int) (w : World) (h0 : 0 ≤ c) (h1 : c ≤ 255) : Calls Tryf.prog 8 #[.int .u8 c] w fun e w' => e = .returned (.bool (ctlB c)) ∧ w' = w := by
  unfold ctlB
  by_cases ha : c < 32 <;> by_cases hb : c = 9 <;> by_cases hd : c = 127 <;>
  · go_enter Tryf.func8, Tryf.ntmps8
    go_wp2
    all_goals (go_ret; refine ⟨?_, rfl⟩; first | rfl | (simp_all; done) | (exfalso; omega) | (refine ret_bool ?_; rw [Bool.eq_iff_iff]; simp; omega))
def blB (c : Int) : Bool := decide (c = 32 ∨ c = 9)
theorem blank_any (c : Int) (w : World) : Calls Tryf.prog 7 #[.int .u8 c] w fun e w' => e = .returned (.bool (blB c)) ∧ w' = w := by
  unfold blB
  by_cases hb : c = 9 <;> by_cases hd : c = 32 <;>
  · go_enter Tryf.func7, Tryf.ntmps7
    go_wp2
    all_goals (go_ret; refine ⟨?_, rfl⟩; first | rfl | (simp_all; done) | (exfalso; omega) | (refine ret_bool ?_; rw [Bool.eq_iff_iff]; simp; omega))

set_option maxHeartbeats 1000000 in
theorem skipSpace_any (b : Nat) (t : ByteArray) (p : Nat) (w : World) (hd : Dec b t p w) (hp : p ≤ t.size) (ht : t.size ≤ 1048576) :
    Calls Tryf.prog 12 #[.pointer (some ⟨b, 0, none⟩)] w fun e w' => ∃ q, e = .returned (.tuple #[]) ∧ p ≤ q ∧ q ≤ t.size ∧ (∀ i, p ≤ i → i < q → bt t i = 32 ∨ bt t i = 9) ∧ (q < t.size → bt t q ≠ 32 ∧ bt t q ≠ 9) ∧ Dec b t q w' ∧ Below b w w' := by
  go_enter Tryf.func12, Tryf.ntmps12
  go_wp2
  go_loopw [] (fun wr => ∃ q, p ≤ q ∧ q ≤ t.size ∧ (∀ i, p ≤ i → i < q → bt t i = 32 ∨ bt t i = 9) ∧ Dec b t q wr ∧ Below b w wr) (fun wr => t.size - (intOf ((wr.cell? ⟨b, 1, none⟩).getD .nilIface)).toNat)
  case atStart => exact ⟨p, Nat.le_refl _, hp, fun i h1 h2 => by omega, hd, Below.refl _ _⟩
  case round =>
    obtain ⟨q, hpq, hq, hbl, hD, hB⟩ := hrel
    obtain ⟨h0, h1, h3, hf, hb⟩ := hD
    have hg := get_bt t
    clear hd
    have hm0 : (intOf ((wr.cell? ⟨b, 1, none⟩).getD .nilIface)).toNat = q := by rw [h1]; simp [intOf]
    have hn1 : ∀ n, Dec b t (q + 1) ((wr.drewN n).setCell ⟨b, 1, none⟩ (.int .i64 ((q : Int) + 1))) := fun n => Dec.set (W := wr.drewN n) (p := q) ⟨h0, h1, h3, hf, hb⟩ (q + 1)
    have hn2 : ∀ n, Below b w ((wr.drewN n).setCell ⟨b, 1, none⟩ (.int .i64 ((q : Int) + 1))) := fun n => (below_drewN hB n).setCell (p := ⟨b, 1, none⟩) (Nat.le_refl _) _
    by_cases hlt : q < t.size
    · have hv := hg q hlt
      have hbl1 : bt t q = 32 ∨ bt t q = 9 → ∀ i, p ≤ i → i < q + 1 → bt t i = 32 ∨ bt t i = 9 := fun h i h1 h2 => by
        by_cases hi : i < q
        · exact hbl i h1 hi
        · have : i = q := by omega
          subst this
          exact h
      have hbl2 : Hid (bt t q = 32 ∨ bt t q = 9 → ∀ i, p ≤ i → i < q + 1 → bt t i = 32 ∨ bt t i = 9) := hbl1
      clear hbl1
      by_cases c1 : bt t q = 32
      · go_wp2; go_quiet (fail)
        go_wp2
        go_roundw
        case rel => exact ⟨q + 1, by omega, by omega, hbl2.out (Or.inl c1), hn1 _, hn2 _⟩
        case measure =>
          rw [hm0]
          have := (hn1 nq).2.1
          rw [this]
          simp [intOf]
          omega
      · by_cases c2 : bt t q = 9
        · go_wp2; go_quiet (fail)
          go_wp2
          go_roundw
          case rel => exact ⟨q + 1, by omega, by omega, hbl2.out (Or.inr c2), hn1 _, hn2 _⟩
          case measure =>
            rw [hm0]
            have := (hn1 nq).2.1
            rw [this]
            simp [intOf]
            omega
        · have e1 : (bt t q == 32) = false := by simpa using c1
          have e2 : (bt t q == 9) = false := by simpa using c2
          go_wp2; go_quiet (fail)
          go_wp2
          exact bodyPost_end (v := .tuple #[]) (by simp [results, Tryf.results12, go_sem]) rfl ⟨q, rfl, hpq, hq, hbl, fun _ => ⟨c1, c2⟩, ⟨h0, h1, h3, hf, hb⟩, below_drewN hB _⟩
    · have he : q = t.size := by omega
      subst he
      go_wp2; go_quiet (fail)
      go_wp2
      exact bodyPost_end (v := .tuple #[]) (by simp [results, Tryf.results12, go_sem]) rfl ⟨_, rfl, hpq, hq, hbl, fun h => absurd h hlt, ⟨h0, h1, h3, hf, hb⟩, below_drewN hB _⟩

set_option maxHeartbeats 1000000 in
theorem atLineBreak_any (b : Nat) (t : ByteArray) (p : Nat) (w : World) (hd : Dec b t p w) (hp : p ≤ t.size) :
    Calls Tryf.prog 17 #[.pointer (some ⟨b, 0, none⟩)] w fun e w' => e = .returned (.bool (lfB t p || crB t p)) ∧ ∃ n, w' = w.drewN n := by
  obtain ⟨h0, h1, h3, hf, hb⟩ := hd
  have h2 : (p : Int).toNat = p := by omega
  cases h5 : lfB t p <;> cases h6 : crB t p <;>
  · go_enter Tryf.func17, Tryf.ntmps17
    go_wp2; go_quiet (fail)
    go_wp2_with (first | (go_at_call 19; refine (call_lf t p _).mono ?_; rintro e w' ⟨rfl, rfl⟩; rw [h5]) | (go_at_call 19; refine (call_cr t p _).mono ?_; rintro e w' ⟨rfl, rfl⟩; rw [h6]) | fail)
    all_goals (go_ret; exact ⟨rfl, _, rfl⟩)

set_option maxHeartbeats 1000000 in
theorem lineBreak_any (b : Nat) (t : ByteArray) (p : Nat) (w : World) (hd : Dec b t p w) (hp : p ≤ t.size) (ht : t.size ≤ 1048576) :
    Calls Tryf.prog 14 #[.pointer (some ⟨b, 0, none⟩)] w fun e w' => e = .returned (.bool (lfB t p || crB t p)) ∧ Dec b t (if lfB t p then p + 1 else if crB t p then p + 2 else p) w' ∧ Below b w w' := by
  have hd2 : Hid (Dec b t p w) := hd
  obtain ⟨h0, h1, h3, hf, hb⟩ := hd
  have h2 : (p : Int).toNat = p := by omega
  cases h5 : lfB t p
  · cases h6 : crB t p
    · go_enter Tryf.func14, Tryf.ntmps14
      go_wp2
      go_quiet (first | (go_at_call 19; exact Calls.quiet_of_same (h5 ▸ call_lf t p _)) | fail)
      go_wp2
      have H : Dec b t p (w.drewN nq) := hd2.out
      have HB : Below b w (w.drewN nq) := below_drewN (Below.refl _ _) _
      clear h0 h1 h3 hf hb hd2
      generalize w.drewN nq = w1 at H HB ⊢
      have hd2 : Hid (Dec b t p w1) := H
      obtain ⟨h0, h1, h3, hf, hb⟩ := H
      go_quiet (first | (go_at_call 19; exact Calls.quiet_of_same (h6 ▸ call_cr t p _)) | fail)
      go_wp2
      go_ret
      exact ⟨rfl, hd2.out.drewN nq, below_drewN HB _⟩
    · go_enter Tryf.func14, Tryf.ntmps14
      go_wp2
      go_quiet (first | (go_at_call 19; exact Calls.quiet_of_same (h5 ▸ call_lf t p _)) | fail)
      go_wp2
      have H : Dec b t p (w.drewN nq) := hd2.out
      have HB : Below b w (w.drewN nq) := below_drewN (Below.refl _ _) _
      clear h0 h1 h3 hf hb hd2
      generalize w.drewN nq = w1 at H HB ⊢
      have hd2 : Hid (Dec b t p w1) := H
      obtain ⟨h0, h1, h3, hf, hb⟩ := H
      go_quiet (first | (go_at_call 19; exact Calls.quiet_of_same (h6 ▸ call_cr t p _)) | fail)
      go_wp2
      go_ret
      exact ⟨rfl, (hd2.out.drewN nq).set (p + 2), (below_drewN HB nq).setCell (p := ⟨b, 1, none⟩) (Nat.le_refl _) _⟩
  · go_enter Tryf.func14, Tryf.ntmps14
    go_wp2
    go_quiet (first | (go_at_call 19; exact Calls.quiet_of_same (h5 ▸ call_lf t p _)) | fail)
    go_wp2
    go_ret
    exact ⟨rfl, (hd2.out.drewN nq).set (p + 1), (below_drewN (Below.refl _ w) nq).setCell (p := ⟨b, 1, none⟩) (Nat.le_refl _) _⟩
end Go.Proofs.Qxb6614930aFmt
