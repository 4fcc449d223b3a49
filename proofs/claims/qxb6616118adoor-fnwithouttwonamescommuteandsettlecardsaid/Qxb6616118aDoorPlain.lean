/-
  The plain law: what is left of Cookie fields when the cookies of some names go: twice over, and over again.
-/
import Derived.Test.Qxb6616118aDoorPieces
import Derived.Lib.Join
namespace Go.Proofs.Qxb6616118aDoor

def nameL (x : List UInt8) : List UInt8 := Lib.trimSpaceU (if Lib.indexByte x 61 = -1 then x else x.take (Lib.indexByte x 61).toNat)
def textsL (f : List UInt8) : List (List UInt8) := ((pieces 59 f).map Lib.trimSpaceU).filter fun x => !x.isEmpty
def keepL (p : List UInt8 → Bool) (f : List UInt8) : List (List UInt8) := (textsL f).filter fun x => !p (nameL x)
def foundL (p : List UInt8 → Bool) (fs : List (List UInt8)) : Bool := fs.any fun f => (textsL f).any fun x => p (nameL x)
def leftL (p : List UInt8 → Bool) (fs : List (List UInt8)) : List (List UInt8) := ((fs.map (keepL p)).filter fun ys => !ys.isEmpty).map fun ys => Lib.join ys [59, 32]
def withoutL (p : List UInt8 → Bool) (fs : List (List UInt8)) : List (List UInt8) := if foundL p fs then leftL p fs else fs

theorem headSpace_nil : Lib.headSpace [] = 0 := by decide
theorem tailSpace_nil : Lib.tailSpace [] = 0 := by decide
theorem headSpace_stripL : ∀ (n : Nat) (l : List UInt8), l.length ≤ n → Lib.headSpace (Lib.stripL n l) = 0
  | 0, l, h => by
    have : l = [] := List.length_eq_zero_iff.1 (by omega)
    subst this; exact headSpace_nil
  | n + 1, l, h => by
    unfold Lib.stripL
    split
    · assumption
    · exact headSpace_stripL n _ (by simp; omega)
theorem tailSpace_stripR : ∀ (n : Nat) (l : List UInt8), l.length ≤ n → Lib.tailSpace (Lib.stripR n l) = 0
  | 0, l, h => by
    have : l = [] := List.length_eq_zero_iff.1 (by omega)
    subst this; exact tailSpace_nil
  | n + 1, l, h => by
    unfold Lib.stripR
    split
    · assumption
    · exact tailSpace_stripR n _ (by simp; omega)
theorem stripL_of {l : List UInt8} (h : Lib.headSpace l = 0) : ∀ n, Lib.stripL n l = l
  | 0 => rfl
  | n + 1 => by unfold Lib.stripL; rw [if_pos h]
theorem stripR_of {l : List UInt8} (h : Lib.tailSpace l = 0) : ∀ n, Lib.stripR n l = l
  | 0 => rfl
  | n + 1 => by unfold Lib.stripR; rw [if_pos h]
theorem stripL_succ : ∀ (n : Nat) (l : List UInt8), l.length ≤ n → Lib.stripL (n + 1) l = Lib.stripL n l
  | 0, l, h => by
    have : l = [] := List.length_eq_zero_iff.1 (by omega)
    subst this; rfl
  | n + 1, l, h => by
    rw [Lib.stripL]
    conv => rhs; rw [Lib.stripL]
    split
    · rfl
    · exact stripL_succ n _ (by simp; omega)
theorem stripR_succ : ∀ (n : Nat) (l : List UInt8), l.length ≤ n → Lib.stripR (n + 1) l = Lib.stripR n l
  | 0, l, h => by
    have : l = [] := List.length_eq_zero_iff.1 (by omega)
    subst this; rfl
  | n + 1, l, h => by
    rw [Lib.stripR]
    conv => rhs; rw [Lib.stripR]
    split
    · rfl
    · exact stripR_succ n _ (by simp; omega)
theorem seqs_ne : ∀ q ∈ Lib.spaceSeqs, q.length ≠ 0 := by decide
theorem headSpace_zero {l : List UInt8} : Lib.headSpace l = 0 ↔ ∀ q ∈ Lib.spaceSeqs, ¬ q <+: l := by
  unfold Lib.headSpace
  cases h : Lib.spaceSeqs.find? (·.isPrefixOf l) with
  | none =>
    simp only [Option.map_none, Option.getD_none, true_iff]
    intro q hq hp
    have := List.find?_eq_none.1 h q hq
    exact this (by simpa using hp)
  | some q =>
    have hq := List.mem_of_find?_eq_some h
    have hp : q.isPrefixOf l = true := List.find?_some (p := fun x : List UInt8 => x.isPrefixOf l) h
    simp only [Option.map_some, Option.getD_some]
    constructor
    · intro h0; exact absurd h0 (seqs_ne q hq)
    · intro h0; exact absurd (by simpa using hp) (h0 q hq)
theorem headSpace_prefix {p l : List UInt8} (h : p <+: l) (h0 : Lib.headSpace l = 0) : Lib.headSpace p = 0 := by
  rw [headSpace_zero] at h0 ⊢
  exact fun q hq hp => h0 q hq (hp.trans h)
theorem stripR_prefix : ∀ (n : Nat) (l : List UInt8), Lib.stripR n l <+: l
  | 0, l => List.prefix_refl l
  | n + 1, l => by
    unfold Lib.stripR
    split
    · exact List.prefix_refl l
    · exact (stripR_prefix n _).trans (List.take_prefix _ _)
theorem stripL_suffix : ∀ (n : Nat) (l : List UInt8), Lib.stripL n l <:+ l
  | 0, l => List.suffix_refl l
  | n + 1, l => by
    unfold Lib.stripL
    split
    · exact List.suffix_refl l
    · exact (stripL_suffix n _).trans (List.drop_suffix _ _)
theorem trim_idem (l : List UInt8) : Lib.trimSpaceU (Lib.trimSpaceU l) = Lib.trimSpaceU l := by
  have h1 : Lib.headSpace (Lib.trimSpaceU l) = 0 := headSpace_prefix (stripR_prefix _ _) (headSpace_stripL _ _ (Nat.le_refl _))
  have h2 : Lib.tailSpace (Lib.trimSpaceU l) = 0 := tailSpace_stripR _ _ (stripL_le _ _)
  show Lib.stripR _ (Lib.stripL _ (Lib.trimSpaceU l)) = Lib.trimSpaceU l
  rw [stripL_of h1, stripR_of h2]
theorem trim_mem {l : List UInt8} {b : UInt8} (h : b ∈ Lib.trimSpaceU l) : b ∈ l :=
  (stripL_suffix l.length l).mem ((stripR_prefix l.length _).mem h)
theorem headSpace_blank (l : List UInt8) : Lib.headSpace (32 :: l) = 1 := by
  simp [Lib.headSpace, Lib.spaceSeqs, List.isPrefixOf]
theorem trim_blank (l : List UInt8) : Lib.trimSpaceU (32 :: l) = Lib.trimSpaceU l := by
  have : Lib.stripL (l.length + 1) (32 :: l) = Lib.stripL l.length l := by
    rw [Lib.stripL, headSpace_blank, if_neg (by decide)]; rfl
  show Lib.stripR (l.length + 1) (Lib.stripL (l.length + 1) (32 :: l)) = Lib.stripR l.length (Lib.stripL l.length l)
  rw [this, stripR_succ _ _ (stripL_le _ _)]

theorem pieces_none {c : UInt8} : ∀ {l : List UInt8}, c ∉ l → pieces c l = [l]
  | [], _ => rfl
  | b :: l, h => by
    have hb : b ≠ c := fun e => h (by simp [e])
    have hl : c ∉ l := fun e => h (by simp [e])
    unfold pieces
    rw [if_neg hb, pieces_none hl]
theorem pieces_app {c : UInt8} (r : List UInt8) : ∀ {l : List UInt8}, c ∉ l → pieces c (l ++ c :: r) = l :: pieces c r
  | [], _ => by simp [pieces]
  | b :: l, h => by
    have hb : b ≠ c := fun e => h (by simp [e])
    have hl : c ∉ l := fun e => h (by simp [e])
    rw [List.cons_append, pieces, if_neg hb, pieces_app r hl]
theorem pieces_free {c : UInt8} : ∀ (l x : List UInt8), x ∈ pieces c l → c ∉ x
  | [], x, h => by
    simp only [pieces, List.mem_singleton] at h
    subst h; simp
  | b :: l, x, h => by
    unfold pieces at h
    split at h
    · rcases List.mem_cons.1 h with rfl | h
      · simp
      · exact pieces_free l x h
    · rename_i hb
      split at h
      · simp only [List.mem_singleton] at h
        subst h; simp [Ne.symm hb]
      · rename_i p ps hp
        rcases List.mem_cons.1 h with rfl | h
        · have := pieces_free l p (by rw [hp]; simp)
          simp [Ne.symm hb, this]
        · exact pieces_free l x (by rw [hp]; simp [h])
/-- A cookie's text: not empty, trimmed, no semicolon in it. -/
structure Good (x : List UInt8) : Prop where
  ne : x ≠ []
  trim : Lib.trimSpaceU x = x
  free : (59 : UInt8) ∉ x
theorem texts_good {f x : List UInt8} (h : x ∈ textsL f) : Good x := by
  unfold textsL at h
  obtain ⟨h1, h2⟩ := List.mem_filter.1 h
  obtain ⟨y, hy, rfl⟩ := List.mem_map.1 h1
  exact ⟨by intro e; rw [e] at h2; simp at h2, trim_idem y, fun hm => pieces_free f y hy (trim_mem hm)⟩
theorem pieces_join : ∀ (r : List (List UInt8)) (x : List UInt8), (59 : UInt8) ∉ x → (∀ y ∈ r, (59 : UInt8) ∉ y) → pieces 59 (x ++ Lib.joinTail [59, 32] r) = x :: r.map (32 :: ·)
  | [], x, hx, _ => by simp [Lib.joinTail, pieces_none hx]
  | y :: r, x, hx, hr => by
    have : Lib.joinTail [59, 32] (y :: r) = 59 :: ((32 :: y) ++ Lib.joinTail [59, 32] r) := by simp [Lib.joinTail]
    rw [this, pieces_app _ hx, pieces_join r (32 :: y) (by simpa using hr y (by simp)) (fun z hz => hr z (by simp [hz]))]
    simp
theorem texts_join {ys : List (List UInt8)} (h : ∀ y ∈ ys, Good y) : textsL (Lib.join ys [59, 32]) = ys := by
  cases ys with
  | nil => rw [Lib.join_nil]; decide
  | cons x r =>
    unfold textsL
    rw [Lib.join_cons, pieces_join r x (h x (by simp)).free (fun y hy => (h y (by simp [hy])).free), List.map_cons, (h x (by simp)).trim, List.map_map]
    have : List.map (Lib.trimSpaceU ∘ fun x => 32 :: x) r = r := by
      conv => rhs; rw [← List.map_id r]
      exact List.map_congr_left fun y hy => by simp [trim_blank, (h y (by simp [hy])).trim]
    rw [this, List.filter_eq_self.2]
    intro y hy
    have := (h y hy).ne
    simpa using this
theorem keep_good {p : List UInt8 → Bool} {f x : List UInt8} (h : x ∈ keepL p f) : Good x := texts_good (List.mem_filter.1 h).1
theorem texts_left (p : List UInt8 → Bool) (fs : List (List UInt8)) : (leftL p fs).map textsL = (fs.map (keepL p)).filter fun ys => !ys.isEmpty := by
  unfold leftL
  rw [List.map_map]
  conv => rhs; rw [← List.map_id (List.filter (fun ys => !ys.isEmpty) (fs.map (keepL p)))]
  refine List.map_congr_left fun ys hys => ?_
  obtain ⟨f, -, rfl⟩ := List.mem_map.1 (List.mem_filter.1 hys).1
  exact texts_join fun y hy => keep_good hy
theorem foundL_left (p q : List UInt8 → Bool) (fs : List (List UInt8)) : foundL q (leftL p fs) = fs.any fun f => (keepL p f).any fun x => q (nameL x) := by
  have h1 : foundL q (leftL p fs) = ((leftL p fs).map textsL).any fun ys => ys.any fun x => q (nameL x) := by
    unfold foundL; rw [List.any_map]; rfl
  rw [h1, texts_left]
  rw [Bool.eq_iff_iff]
  simp only [List.any_eq_true, List.mem_filter, List.mem_map]
  constructor
  · rintro ⟨ys, ⟨⟨f, hf, rfl⟩, -⟩, x, hx, hq⟩
    exact ⟨f, hf, x, hx, hq⟩
  · rintro ⟨f, hf, x, hx, hq⟩
    exact ⟨_, ⟨⟨f, hf, rfl⟩, by cases hk : keepL p f with | nil => rw [hk] at hx; simp at hx | cons a b => simp⟩, x, hx, hq⟩
theorem leftL_left (p q : List UInt8 → Bool) (fs : List (List UInt8)) : leftL q (leftL p fs) = leftL (fun x => p x || q x) fs := by
  have h1 : (leftL p fs).map (keepL q) = ((leftL p fs).map textsL).map (List.filter fun x => !q (nameL x)) := by
    rw [List.map_map]; rfl
  have h2 : ∀ f, keepL (fun x => p x || q x) f = (keepL p f).filter fun x => !q (nameL x) := by
    intro f
    unfold keepL
    rw [List.filter_filter]
    congr 1
    funext x
    show (!(p (nameL x) || q (nameL x))) = (!q (nameL x) && !p (nameL x))
    cases p (nameL x) <;> cases q (nameL x) <;> rfl
  show List.map (fun ys => Lib.join ys [59, 32]) (List.filter (fun ys => !ys.isEmpty) (List.map (keepL q) (leftL p fs))) = List.map (fun ys => Lib.join ys [59, 32]) (List.filter (fun ys => !ys.isEmpty) (List.map (keepL fun x => p x || q x) fs))
  rw [h1, texts_left]
  congr 1
  clear h1
  induction fs with
  | nil => rfl
  | cons f fs ih =>
    simp only [List.map_cons]
    rw [h2 f]
    cases hk : keepL p f with
    | nil => simpa using ih
    | cons a b =>
      rw [List.filter_cons_of_pos (by simp), List.map_cons]
      cases hk2 : List.filter (fun x => !q (nameL x)) (a :: b) with
      | nil => simpa using ih
      | cons c d => rw [List.filter_cons_of_pos (by simp), List.filter_cons_of_pos (by simp), ih]
theorem keepL_same {p q : List UInt8 → Bool} {f : List UInt8} (h : ∀ x ∈ textsL f, p (nameL x) = q (nameL x)) : keepL p f = keepL q f := by
  unfold keepL
  exact List.filter_congr fun x hx => by rw [h x hx]
theorem leftL_same {p q : List UInt8 → Bool} {fs : List (List UInt8)} (h : ∀ f ∈ fs, ∀ x ∈ textsL f, p (nameL x) = q (nameL x)) : leftL p fs = leftL q fs := by
  unfold leftL
  rw [List.map_congr_left fun f hf => keepL_same (h f hf)]
theorem found_false {p : List UInt8 → Bool} {fs : List (List UInt8)} (h : foundL p fs = false) : ∀ f ∈ fs, ∀ x ∈ textsL f, p (nameL x) = false := by
  intro f hf x hx
  cases hp : p (nameL x) with
  | false => rfl
  | true =>
    have : foundL p fs = true := List.any_eq_true.2 ⟨f, hf, List.any_eq_true.2 ⟨x, hx, hp⟩⟩
    rw [this] at h; cases h
theorem found_true {p : List UInt8 → Bool} {fs : List (List UInt8)} : foundL p fs = true ↔ ∃ f ∈ fs, ∃ x ∈ textsL f, p (nameL x) = true := by
  simp [foundL, List.any_eq_true]
theorem without_two (p q : List UInt8 → Bool) (fs : List (List UInt8)) : withoutL q (withoutL p fs) = withoutL (fun x => p x || q x) fs := by
  cases hp : foundL p fs with
  | false =>
    have h0 := found_false hp
    have e1 : withoutL p fs = fs := by unfold withoutL; rw [hp]; rfl
    rw [e1]
    unfold withoutL
    have hf : foundL (fun x => p x || q x) fs = foundL q fs := by
      rw [Bool.eq_iff_iff, found_true, found_true]
      constructor
      · rintro ⟨f, hf, x, hx, h⟩; exact ⟨f, hf, x, hx, by simpa [h0 f hf x hx] using h⟩
      · rintro ⟨f, hf, x, hx, h⟩; exact ⟨f, hf, x, hx, by simp [h]⟩
    rw [hf, leftL_same (p := fun x => p x || q x) (q := q) fun f hf x hx => by simp [h0 f hf x hx]]
  | true =>
    have e1 : withoutL p fs = leftL p fs := by unfold withoutL; rw [hp]; rfl
    rw [e1]
    unfold withoutL
    have hf : foundL (fun x => p x || q x) fs = true := by
      obtain ⟨f, hf, x, hx, h⟩ := found_true.1 hp
      exact found_true.2 ⟨f, hf, x, hx, by simp [h]⟩
    rw [hf, if_pos rfl, foundL_left, leftL_left]
    cases hq : fs.any fun f => (keepL p f).any fun x => q (nameL x) with
    | true => rw [if_pos rfl]
    | false =>
      rw [if_neg (by simp)]
      refine leftL_same fun f hf x hx => ?_
      cases hpx : p (nameL x) with
      | true => rfl
      | false =>
        cases hqx : q (nameL x) with
        | false => rfl
        | true =>
          have : (fs.any fun f => (keepL p f).any fun x => q (nameL x)) = true := List.any_eq_true.2 ⟨f, hf, List.any_eq_true.2 ⟨x, List.mem_filter.2 ⟨hx, by simp [hpx]⟩, hqx⟩⟩
          rw [this] at hq; cases hq
theorem without_again (p q : List UInt8 → Bool) (fs : List (List UInt8)) (h : ∀ x, p x = true → q x = true) : withoutL p (withoutL q fs) = withoutL q fs := by
  rw [without_two]
  congr 1
  funext x
  cases hp : p x with
  | true => simp [h x hp]
  | false => simp
end Go.Proofs.Qxb6616118aDoor
