/-
  The walks of packetType and of Type.String.
-/
import Derived.Test.Qxb6616037aDoorRows
import Derived.Test.Qxb6616037aDoorShelf
import Derived.Laws.IdiomStrings
import Derived.WalkKit
import Derived.WalkSpells
import Derived.WalkLawsBesides
import Derived.PlainAid
import Derived.Below
import Derived.Lib.LazyBuf
import Derived.Lib.BufferWrite
import Derived.Deep.WholeRow
namespace Go.Proofs.Qxb6616037aDoor
open Go.RowKit Go.PlainAid

theorem hide {p : Prop} (h : p) : Hid p := h
def pre : ByteArray := ⟨#[80, 65, 82, 32, 50, 46, 48, 0]⟩
/-- Sixteen bytes of s, zeros behind its end, as a row of memory. -/
def row16 (s : ByteArray) : Array Value := #[.int .u8 (bt s 0), .int .u8 (bt s 1), .int .u8 (bt s 2), .int .u8 (bt s 3), .int .u8 (bt s 4), .int .u8 (bt s 5), .int .u8 (bt s 6), .int .u8 (bt s 7), .int .u8 (bt s 8), .int .u8 (bt s 9), .int .u8 (bt s 10), .int .u8 (bt s 11), .int .u8 (bt s 12), .int .u8 (bt s 13), .int .u8 (bt s 14), .int .u8 (bt s 15)]
def zero16 : Array Value := #[.int .u8 0, .int .u8 0, .int .u8 0, .int .u8 0, .int .u8 0, .int .u8 0, .int .u8 0, .int .u8 0, .int .u8 0, .int .u8 0, .int .u8 0, .int .u8 0, .int .u8 0, .int .u8 0, .int .u8 0, .int .u8 0]

theorem bt_list (s : ByteArray) (k : Nat) : bt s k = (s.data.toList.map fun x => (x.toNat : Int)).getD k 0 := by
  unfold bt
  by_cases h : k < s.size
  · rw [dif_pos h]
    have hl : k < s.data.toList.length := by simpa using h
    simp [List.getD, List.getElem?_eq_getElem hl]
    rfl
  · rw [dif_neg h]
    have hl : s.data.toList.length ≤ k := by simpa using h
    simp [List.getD, List.getElem?_eq_none hl]

theorem row16_of (s : ByteArray) : ((Lib.byteCells s.data.toList).take (Nat.min s.size 16) ++ zero16.toList.drop (Nat.min s.size 16)).toArray = row16 s := by
  unfold row16 Lib.byteCells
  simp only [bt_list]
  have e : s.size = s.data.toList.length := Lib.size_eq s
  rw [e]
  generalize s.data.toList = l
  rcases l with _ | ⟨a0, _ | ⟨a1, _ | ⟨a2, _ | ⟨a3, _ | ⟨a4, _ | ⟨a5, _ | ⟨a6, _ | ⟨a7, _ | ⟨a8, _ | ⟨a9, _ | ⟨b0, _ | ⟨b1, _ | ⟨b2, _ | ⟨b3, _ | ⟨b4, _ | ⟨b5, r⟩⟩⟩⟩⟩⟩⟩⟩⟩⟩⟩⟩⟩⟩⟩⟩ <;> simp [zero16]

theorem copy16 (s : ByteArray) (w : World) (g : Nat) (hg : g = w.heap.size) :
    (Builtin.copy_ #[31, 9] 3 #[.slice (some ⟨g, 0, none⟩) 16 16, .string s]).run Tryd.prog (w.alloc (.cells zero16 25)) = .ok (goInt (Nat.min s.size 16)) (w.alloc (.cells (row16 s) 25)) := by
  subst hg
  have hz : ∀ w, (Go.sizeOf 5).run Tryd.prog w = .ok 1 w := Tryd.sizeOf5
  have hlen : ((Lib.byteCells s.data.toList).take (Nat.min s.size 16)).length = Nat.min s.size 16 := by
    rw [List.length_take, Lib.byteCells_length, ← Lib.size_eq]
    exact Nat.min_eq_left (Nat.min_le_left _ _)
  have hst := run_storeCells_at (P := Tryd.prog) w.heap.size 0 25 ((Lib.byteCells s.data.toList).take (Nat.min s.size 16)) 0 zero16 (w.alloc (.cells zero16 25)) (by unfold World.alloc; simp) (by rw [hlen]; simp [zero16]; exact Nat.min_le_right _ _) (fun v hv => Lib.byteCells_one _ v (List.mem_of_mem_take hv))
  rw [hlen] at hst
  simp only [Nat.add_zero, Nat.zero_add, List.take_zero, List.nil_append] at hst
  rw [row16_of, World.setRow_alloc_new] at hst
  have hb : List.map (fun b : UInt8 => Value.int IntKind.u8 (b.toNat : Int)) s.data.toList = Lib.byteCells s.data.toList := rfl
  simp [Builtin.copy_, run_underlying Tryd.underlying31, Builtin.lenOf, Builtin.firstCells, hz]
  rw [hb, hst]
  simp [Result.andThen]

set_option maxHeartbeats 1000000 in
theorem packet_any (name : ByteArray) (w : World) (hn : name.size ≤ 65536) :
    Calls Tryd.prog 9 #[.string name] w fun e w' => e = .returned (.agg (row16 (pre ++ name))) ∧ w' = (w.alloc (.cells (row16 (pre ++ name)) 25)).alloc (.cells (row16 (pre ++ name)) 25) := by
  have hc := copy16 (pre ++ name) (w.alloc (.cells zero16 25)) (w.heap.size + 1) (by simp)
  unfold pre zero16 at hc
  unfold pre
  generalize hs : ({ data := #[80, 65, 82, 32, 50, 46, 48, 0] } ++ name : ByteArray) = s at hc ⊢
  unfold row16 at hc
  go_enter Tryd.func9, Tryd.ntmps9
  go_wp2
  exact bodyPost_ret (v := .agg (row16 s)) (by simp [results, Tryd.results9, go_sem, row16]) rfl ⟨rfl, rfl⟩

set_option maxHeartbeats 1000000 in
theorem shim_any (name : ByteArray) (w : World) (hn : name.size ≤ 65536) :
    Calls Tryd.prog 7 #[.string name] w fun e w' => e = .returned (.agg (row16 (pre ++ name))) ∧ Below w.heap.size w w' := by
  have HP := hide (fun w => packet_any name w hn)
  generalize pre ++ name = s at HP ⊢
  unfold row16 at HP ⊢
  go_enter Tryd.func7, Tryd.ntmps7
  go_wp2_with (first | (go_at_call 9; refine (HP.out _).mono ?_; rintro e w' ⟨rfl, rfl⟩) | fail)
  exact bodyPost_ret (v := .agg (row16 s)) (by simp [results, Tryd.results7, go_sem, row16]) rfl ⟨rfl, (((Below.refl _ w).alloc (Nat.le_refl _) _).alloc (by simp) _).alloc (by simp; omega) _⟩

/-- Sixteen bytes of l, zeros behind its end. -/
def pad16 (l : List UInt8) : List UInt8 := (l ++ List.replicate 16 0).take 16
theorem pad16_len (l : List UInt8) : (pad16 l).length = 16 := by simp [pad16]
theorem pad16_at (s : ByteArray) (j : Nat) (hj : j < 16) : ((pad16 s.data.toList)[j]'(by rw [pad16_len]; exact hj)).toNat = bt s j := by
  rw [bt_list]
  unfold pad16
  rw [List.getElem_take]
  by_cases h : j < s.data.toList.length
  · rw [List.getElem_append_left h]
    simp [List.getD, List.getElem?_eq_getElem h]
  · rw [List.getElem_append_right (by omega), List.getElem_replicate]
    simp [List.getD, List.getElem?_eq_none (by omega : s.data.toList.length ≤ j)]

theorem conv16 (s : ByteArray) (w : World) (g : Nat) (hg : g = w.heap.size) :
    (convert 31 9 (.slice (some ⟨g, 0, none⟩) 16 16)).run Tryd.prog (w.alloc (.cells (row16 s) 25)) = .ok (.string ⟨(pad16 s.data.toList).toArray⟩) (w.alloc (.cells (row16 s) 25)) := by
  subst hg
  have := run_convert_bytes_back (P := Tryd.prog) (w.alloc (.cells (row16 s) 25)) 31 9 5 ⟨w.heap.size, 0, none⟩ 16 (pad16 s.data.toList) Tryd.underlying31 Tryd.underlying5 Tryd.underlying9 (fun j hj => by
    rw [pad16_len] at hj
    rw [pad16_at s j hj]
    have e : ((⟨w.heap.size, 0, none⟩ : Addr).add j) = ⟨w.heap.size, j, none⟩ := by simp [Addr.add]; omega
    rw [e]
    have hr : (row16 s)[j]? = some (.int .u8 (bt s j)) := by
      unfold row16
      match j, hj with
      | 0, _ => rfl
      | 1, _ => rfl
      | 2, _ => rfl
      | 3, _ => rfl
      | 4, _ => rfl
      | 5, _ => rfl
      | 6, _ => rfl
      | 7, _ => rfl
      | 8, _ => rfl
      | 9, _ => rfl
      | 10, _ => rfl
      | 11, _ => rfl
      | 12, _ => rfl
      | 13, _ => rfl
      | 14, _ => rfl
      | 15, _ => rfl
      | j + 16, h => omega
    rw [← hr]
    have hh : (w.alloc (.cells (row16 s) 25)).heap[w.heap.size]? = some (.cells (row16 s) 25) := by unfold World.alloc; simp
    unfold World.cell?
    simp only [hh]
    rfl)
  rw [pad16_len] at this
  exact this

/-- What String gives of the sixteen bytes l. -/
def said (l : List UInt8) : ByteArray := ⟨(Lib.trimRightB (Lib.trimPrefix l [80, 65, 82, 32, 50, 46, 48, 0]) 0).toArray⟩

set_option maxHeartbeats 1000000 in
theorem string_any (s : ByteArray) (w : World) :
    Calls Tryd.prog 8 #[.agg (row16 s)] w fun e w' => e = .returned (.string (said (pad16 s.data.toList))) ∧ Below w.heap.size w w' := by
  have hc := conv16 s w w.heap.size rfl
  have hl := pad16_len s.data.toList
  generalize pad16 s.data.toList = l at hc hl ⊢
  have HC := hide (fun w => Tryd.strings_CutPrefix ⟨l.toArray⟩ ⟨#[80, 65, 82, 32, 50, 46, 48, 0]⟩ w)
  simp only at HC
  have hle : (Lib.trimPrefix l [80, 65, 82, 32, 50, 46, 48, 0]).length ≤ 16 := by
    unfold Lib.trimPrefix
    split
    · simp; omega
    · omega
  have HR := hide (fun w => Tryd.strings_TrimRight_one ⟨(Lib.trimPrefix l [80, 65, 82, 32, 50, 46, 48, 0]).toArray⟩ 0 (by decide) w (by show (Lib.trimPrefix l [80, 65, 82, 32, 50, 46, 48, 0]).toArray.size ≤ _; simp; omega))
  unfold row16 at hc ⊢
  go_enter Tryd.func8, Tryd.ntmps8
  go_wp2_with (first | (go_at_call 10; refine (HC.out _).mono ?_; rintro e w' ⟨rfl, rfl⟩) | (go_at_call 11; refine (HR.out _).mono ?_; rintro e w' ⟨rfl, rfl⟩) | fail)
  go_ret
  exact ⟨rfl, (Below.refl _ w).alloc (Nat.le_refl _) _⟩
end Go.Proofs.Qxb6616037aDoor
