/-
  What the decoder says of a bad text: some string, some error that is not nil.
-/
import Derived.Test.Qxb6614930aFmtDec
import Derived.Lib.QuietBelow
namespace Go.Proofs.Qxb6614930aFmt
open Go.RowKit Go.PlainAid Go.Extern.Stop Go.Stop Go.Extern Go.Sort

theorem hide {p : Prop} (h : p) : Hid p := h
/-- The three tables of the library that the road reads. -/
def Props (w : World) : Prop := ∀ i : Nat, i < 256 → ∃ c : Int, 0 ≤ c ∧ c ≤ 255 ∧ w.cell? ⟨0, i, none⟩ = some (.int .u8 c)
def Tabs (w : World) : Prop := Lib.Utf8Tabs 1 2 w ∧ Props w

theorem Tabs.below {b : Nat} {w w' : World} (h : Tabs w) (hb : Below b w w') (h3 : 2 < b) : Tabs w' := by
  refine ⟨⟨fun c hc => (hb.cell (p := ⟨1, c, none⟩) (by simp; omega)).trans (h.1.1 c hc), fun i hi => ⟨(hb.cell (p := ⟨2, _, none⟩) (by simp; omega)).trans (h.1.2 i hi).1, (hb.cell (p := ⟨2, _, none⟩) (by simp; omega)).trans (h.1.2 i hi).2⟩⟩, fun i hi => ?_⟩
  obtain ⟨c, h0, h1, hc⟩ := h.2 i hi
  exact ⟨c, h0, h1, (hb.cell (p := ⟨0, i, none⟩) (by simp; omega)).trans hc⟩

theorem isCtl_any (r : Int) (w : World) (hp : Props w) : Calls Tryf.prog 22 #[.int .i32 r] w fun e w' => ∃ x : Bool, e = .returned (.bool x) ∧ w' = w := by
  obtain ⟨c, h0, h1, hc⟩ := hp (r % 256).toNat (by omega)
  have hk : IntKind.u8.wrap r = r % 256 := by rw [IntKind.wrap_u8]
  have hk2 : IntKind.u32.wrap r = r % 4294967296 := by rw [IntKind.wrap_u32]
  have g0 : 0 ≤ r % 256 := by omega
  have g1 : r % 256 ≤ 255 := by omega
  clear hp
  go_enter Tryf.func22, Tryf.ntmps22
  go_wp2
  all_goals (go_ret; exact ⟨_, rfl, rfl⟩)

set_option maxHeartbeats 1000000 in
theorem describe_any (b : Nat) (t : ByteArray) (p : Nat) (w : World) (hd : Dec b t p w) (hT : Tabs w) (hb2 : 2 < b) (hp : p ≤ t.size) :
    Calls Tryf.prog 16 #[.pointer (some ⟨b, 0, none⟩)] w fun e w' => ∃ s, e = .returned (.string s) ∧ Below w.heap.size w w' := by
  obtain ⟨h0, h1, h3, hf, hb⟩ := hd
  have h2 : (p : Int).toNat = p := by omega
  by_cases he : p = t.size
  · subst he
    go_enter Tryf.func16, Tryf.ntmps16
    go_wp2; go_quiet (fail)
    go_wp2
    go_ret
    exact ⟨_, rfl, below_drewN (Below.refl _ _) _⟩
  · have he2 : ((p : Int) == (t.size : Int)) = false := by simp; omega
    have hlb : ∀ n, Calls Tryf.prog 17 #[.pointer (some ⟨b, 0, none⟩)] (w.drewN n) fun e w' => e = .returned (.bool (lfB t p || crB t p)) ∧ ∃ m, w' = (w.drewN n).drewN m := fun n => atLineBreak_any b t p (w.drewN n) ⟨h0, h1, h3, hf, hb⟩ hp
    cases h5 : (lfB t p || crB t p)
    · rw [h5] at hlb
      have hlb2 : Hid (∀ n, Calls Tryf.prog 17 #[.pointer (some ⟨b, 0, none⟩)] (w.drewN n) fun e w' => e = .returned (.bool false) ∧ ∃ m, w' = (w.drewN n).drewN m) := hlb
      clear hlb
      go_enter Tryf.func16, Tryf.ntmps16
      go_wp2; go_quiet (fail)
      go_wp2_with (first | (go_at_call 17; refine (hlb2.out _).mono ?_; rintro e w' ⟨rfl, m, rfl⟩) | fail)
      have H : Dec b t p (w.drewN (nq + m)) := ⟨h0, h1, h3, hf, hb⟩
      have HB : Below w.heap.size w (w.drewN (nq + m)) := below_drewN (Below.refl _ _) _
      have HT : Tabs (w.drewN (nq + m)) := hT.below HB (by omega)
      clear h0 h1 h3 hf hT hlb2
      generalize w.drewN (nq + m) = w1 at H HB HT ⊢
      obtain ⟨h0, h1, h3, hf, hb1⟩ := H
      have cD : ∀ d os, Calls Tryf.prog 21 #[.string (t.extract p t.size)] (grow (redrawn w1 d) os) fun e w'' => e = .returned (.tuple #[.int .i32 (Lib.decodeGo (t.extract p t.size)).1, .int .i64 (Lib.decodeGo (t.extract p t.size)).2]) ∧ ∃ p : Regrown, w'' = grow (redrawn w1 p.d) p.os := fun d os => Calls.regrown_of (Tryf.utf8_DecodeRuneInString _ _ (Utf8Tabs_below HT.1 (below_regrown w1 d os)))
      generalize (Lib.decodeGo (t.extract p t.size)).1 = r at cD
      generalize (Lib.decodeGo (t.extract p t.size)).2 = r2 at cD
      have CD := hide cD
      have x0 := cell_regrown h0
      have x1 := cell_regrown h1
      clear cD
      refine wp_region_quiet_below (by kernel_rfl) (by kernel_rfl) ?_
      repeat (quiet_step (first | (go_at_call 21; exact CD.out _ _)))
      refine wpQuiet_nil ?_
      intro _ hw'
      obtain ⟨⟨dq, osq⟩, hw''⟩ := hw'
      subst hw''
      have HB2 := below_regrown w1 dq osq
      have HT2 : Tabs (grow (redrawn w1 dq) osq) := HT.below HB2 (by omega)
      clear CD x0 x1 HT
      generalize grow (redrawn w1 dq) osq = w2 at HB2 HT2 ⊢
      have hsU := fun B w => run_sprintf fU B 85 w p_U
      have hsq := fun B w => run_sprintf fq B 113 w p_q
      unfold fU at hsU
      unfold fq at hsq
      go_wp2_with (first | (go_at_call 22; refine (isCtl_any _ _ HT2.2).mono ?_; rintro e w' ⟨x, rfl, rfl⟩) | fail)
      · refine rows_sprintf _ _ (.iface 21 (.int .i32 r)) 85 _ _ _ (by simp) (act21_85 _ _ _) (op21_85 _ _ _) ?_
        intro s
        go_wp2
        go_ret
        exact ⟨_, rfl, ((HB.trans (HB2.mono HB.size)).alloc (Nat.le_trans HB.size HB2.size) _).drew⟩
      · refine rows_sprintf _ _ (.iface 21 (.int .i32 r)) 113 _ _ _ (by simp) (act21_113 _ _ _) (op21_113 _ _ _) ?_
        intro s
        go_wp2
        go_ret
        exact ⟨_, rfl, ((HB.trans (HB2.mono HB.size)).alloc (Nat.le_trans HB.size HB2.size) _).drew⟩
    · rw [h5] at hlb
      have hlb2 : Hid (∀ n, Calls Tryf.prog 17 #[.pointer (some ⟨b, 0, none⟩)] (w.drewN n) fun e w' => e = .returned (.bool true) ∧ ∃ m, w' = (w.drewN n).drewN m) := hlb
      clear hlb
      go_enter Tryf.func16, Tryf.ntmps16
      go_wp2; go_quiet (fail)
      go_wp2_with (first | (go_at_call 17; refine (hlb2.out _).mono ?_; rintro e w' ⟨rfl, m, rfl⟩) | fail)
      go_ret
      exact ⟨_, rfl, below_drewN (Below.refl _ _) _⟩

theorem Errorf_any (B : Nat) (n : Int) (x : ByteArray) (w : World) (h0 : w.cell? ⟨B, 0, none⟩ = some (.iface 3 (.int .i64 n))) (h1 : w.cell? ⟨B, 1, none⟩ = some (.iface 9 (.string x))) :
    Calls Tryf.prog 26 #[.string fLine, .slice (some ⟨B, 0, none⟩) 2 2] w fun e w' => ∃ a, e = .returned (.iface 65 (.pointer (some a))) ∧ Below w.heap.size w w' := by
  obtain ⟨s, hs⟩ := run_errorf B n x w h0 h1
  generalize fLine = f at hs ⊢
  clear h0 h1
  go_enter Tryf.func26, Tryf.ntmps26
  go_wp2
  go_ret
  exact ⟨_, rfl, ((Below.refl _ _).alloc (Nat.le_refl _) _).drew⟩

set_option maxHeartbeats 1000000 in
theorem errorAt_any (b : Nat) (t : ByteArray) (p : Nat) (f : ByteArray) (B : Nat) (x : ByteArray) (w : World) (hf : FmtStop.printed? f 1 = some [(0, 115, false)]) (hd : Dec b t p w) (hp : p ≤ t.size) (hB : w.cell? ⟨B, 0, none⟩ = some (.iface 9 (.string x))) :
    Calls Tryf.prog 20 #[.pointer (some ⟨b, 0, none⟩), .int .i64 p, .string f, .slice (some ⟨B, 0, none⟩) 1 1] w fun e w' => ∃ a, e = .returned (.iface 65 (.pointer (some a))) ∧ Below w.heap.size w w' := by
  obtain ⟨h0, h1, h3, hfz, hb⟩ := hd
  have h2 : (p : Int).toNat = p := by omega
  have hs := fun B w => run_sprintf f B 115 w hf
  go_enter Tryf.func20, Tryf.ntmps20
  go_wp2_with (first | (go_at_call 25; refine (Tryf.strings_Count_one _ _ _).mono ?_; rintro e w1 ⟨rfl, rfl⟩) | fail)
  refine rows_sprintf _ _ (.iface 9 (.string x)) 115 _ _ _ hB (act9_115 _ _ _) (op9_115 _ _ _) ?_
  intro s
  generalize wrap64 (1 + ↑(Lib.countByte (List.take p t.data.toList) 10)) = n
  have hE := fun B w h0 h1 => Errorf_any B n s w h0 h1
  unfold fLine at hE
  have HE := hide hE
  clear hE
  go_wp2_with (first | (go_at_call 26; refine (HE.out _ _ (by simp) (by simp)).mono ?_; rintro e w' ⟨a, rfl, hb⟩) | fail)
  go_ret
  refine ⟨_, rfl, Below.trans (B := w1.heap.size) ?_ (hb.mono (by simp))⟩
  exact ((Below.refl w1.heap.size w1).alloc (Nat.le_refl _) _).drew

theorem errorf_any (b : Nat) (t : ByteArray) (p : Nat) (f : ByteArray) (B : Nat) (x : ByteArray) (w : World) (hf : FmtStop.printed? f 1 = some [(0, 115, false)]) (hd : Dec b t p w) (hp : p ≤ t.size) (hB : w.cell? ⟨B, 0, none⟩ = some (.iface 9 (.string x))) :
    Calls Tryf.prog 15 #[.pointer (some ⟨b, 0, none⟩), .string f, .slice (some ⟨B, 0, none⟩) 1 1] w fun e w' => ∃ a, e = .returned (.iface 65 (.pointer (some a))) ∧ Below w.heap.size w w' := by
  have hE := hide (errorAt_any b t p f B x w hf hd hp hB)
  obtain ⟨h0, h1, h3, hfz, hb⟩ := hd
  go_enter Tryf.func15, Tryf.ntmps15
  go_wp2_with (first | (go_at_call 20; refine hE.out.mono ?_; rintro e w' ⟨a, rfl, hb⟩) | fail)
  go_ret
  exact ⟨_, rfl, hb⟩
end Go.Proofs.Qxb6614930aFmt
