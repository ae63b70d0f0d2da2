/- Plain laws, no walk in sight: encL writes letters without a point, at most twice as many as there are bytes; jwt_ZZSplit.f, and so impl_Split.f, finds the three parts of a text with two points and nothing in a text with more or fewer; laws_zzFits1.f always answers. -/
import Derived.Test.YtmmnjlcepkkjeaaEnc
import Derived.Test.YtmmnjlcepkkjeaaSplit
import Derived.Test.YtmmnjlcepkkjeaaPFnSplitx1
import Derived.Lib.IndexBytes
namespace Go.Proofs.Ytmmnjlcepkkjeaa.Own
open Go.RowKit Go.Proofs.YtmmnjlcepkkjeaaW.PrintWords Go.Proofs.YtmmnjlcepkkjeaaW.PrintLast Go.Proofs.YtmmnjlcepkkjeaaW.PrintMore
open Go.Proofs.Ytmmnjlcepkkjeaa.PFnSplit

/-! ### 1. Letters -/
def Letter (x : Int) : Prop := 0 ≤ x ∧ x < 256 ∧ x ≠ 46
theorem alphabet_letter : ∀ n : Nat, n < 64 → bt alphabet (n : Int) < 256 ∧ bt alphabet (n : Int) ≠ 46 := by decide +kernel
theorem letter_at (i : Int) (h0 : 0 ≤ i) (h1 : i < 64) : Letter (bt alphabet i) := by
  obtain ⟨n, rfl⟩ := Int.eq_ofNat_of_zero_le h0
  have h := alphabet_letter n (by omega)
  exact ⟨(bt_range _ _).1, h.1, h.2⟩
theorem encL_letters : ∀ row : List Int, (∀ x ∈ row, IsByte x) → ∀ u ∈ encL row, Letter u
  | x :: y :: z :: r, hb, u, hu => by
    obtain ⟨x0, x1⟩ := hb x (by simp)
    obtain ⟨y0, y1⟩ := hb y (by simp)
    obtain ⟨z0, z1⟩ := hb z (by simp)
    simp only [encL, List.mem_cons] at hu
    rcases hu with rfl | rfl | rfl | rfl | hu
    · exact letter_at _ (by omega) (by omega)
    · exact letter_at _ (by omega) (by omega)
    · exact letter_at _ (by omega) (by omega)
    · exact letter_at _ (by omega) (by omega)
    · exact encL_letters r (fun v hv => hb v (by simp [hv])) u hu
  | [x, y], hb, u, hu => by
    obtain ⟨x0, x1⟩ := hb x (by simp)
    obtain ⟨y0, y1⟩ := hb y (by simp)
    simp only [encL, List.mem_cons, List.not_mem_nil, or_false] at hu
    rcases hu with rfl | rfl | rfl
    · exact letter_at _ (by omega) (by omega)
    · exact letter_at _ (by omega) (by omega)
    · exact letter_at _ (by omega) (by omega)
  | [x], hb, u, hu => by
    obtain ⟨x0, x1⟩ := hb x (by simp)
    simp only [encL, List.mem_cons, List.not_mem_nil, or_false] at hu
    rcases hu with rfl | rfl
    · exact letter_at _ (by omega) (by omega)
    · exact letter_at _ (by omega) (by omega)
  | [], _, u, hu => by cases hu

/-- A row's text. -/
def E (row : List Int) : ByteArray := strOfNums (encL row)
def NoDot (e : ByteArray) : Prop := ∀ b ∈ e.data.toList, b ≠ 46
theorem E_size (row : List Int) : (E row).size ≤ 2 * row.length := by
  unfold E
  rw [strOfNums_size]
  exact encL_len row
theorem E_noDot (row : List Int) (hr : ∀ x ∈ row, IsByte x) : NoDot (E row) := by
  intro b hb
  unfold E at hb
  rw [strOfNums_data] at hb
  obtain ⟨x, hx, rfl⟩ := List.mem_map.1 hb
  obtain ⟨h0, h1, h2⟩ := encL_letters row hr x hx
  intro h
  have h3 := congrArg UInt8.toNat h
  rw [UInt8.toNat_ofNat'] at h3
  have : (46 : UInt8).toNat = 46 := rfl
  rw [this] at h3
  omega

/-! ### 2. The cut at the first point -/
def dot : ByteArray := ⟨#[46]⟩
theorem bytes_ext {a b : ByteArray} (h : a.data.toList = b.data.toList) : a = b := by
  cases a
  cases b
  simp only [ByteArray.mk.injEq]
  exact Array.toList_inj.1 h
theorem wrap_small {i : Int} (h0 : 0 ≤ i) (h1 : i ≤ 1000000) : wrap64 i = i := by
  unfold wrap64
  omega
theorem size_list (s : ByteArray) : s.data.toList.length = s.size := data_length s

theorem cut_step (s : ByteArray) (i : Nat) (hi : i < s.size) : (s.extract i (i + 1)).toList = [s.data.toList.getD i 0] := by
  rw [ByteArray.toList_eq, Lib.extract_data]
  have hl : i < s.data.toList.length := by rw [size_list]; exact hi
  rw [Nat.add_sub_cancel_left, List.drop_eq_getElem_cons hl, List.getD_eq_getElem?_getD, List.getElem?_eq_getElem hl]
  rfl

theorem cut_yes (s p q : ByteArray) (hs : s.data.toList = p.data.toList ++ 46 :: q.data.toList) (hp : ∀ b ∈ p.data.toList, b ≠ 46) (hsz : s.size ≤ 100000) (d : Nat) :
    ∀ (i k : Nat), i + d = p.size → d < k → jwt_zzCut.l0 k s dot (i : Int) = some (p, q, true) := by
  have hlen : s.size = p.size + 1 + q.size := by
    have := congrArg List.length hs
    rw [List.length_append, List.length_cons, size_list, size_list, size_list] at this
    omega
  have hd1 : (dot.size : Int) = 1 := rfl
  have hdl : dot.toList = [46] := by rw [ByteArray.toList_eq]; rfl
  induction d with
  | zero =>
    intro i k hi hk
    obtain ⟨k, rfl⟩ : ∃ m, k = m + 1 := ⟨k - 1, by omega⟩
    have hw : wrap64 ((i : Int) + 1) = (i : Int) + 1 := wrap_small (by omega) (by omega)
    have ht : ((i : Int) + 1).toNat = i + 1 := by omega
    have hb : s.data.toList.getD i 0 = 46 := by
      rw [hs, List.getD_eq_getElem?_getD, List.getElem?_append_right (by rw [size_list]; omega), size_list]
      have : i - p.size = 0 := by omega
      rw [this]
      rfl
    simp only [jwt_zzCut.l0, hd1, hw, ht, Int.toNat_natCast, hdl, cut_step s i (by omega), hb]
    rw [if_pos (by omega), if_pos (by omega), if_pos (by omega), if_pos True.intro, if_pos (by omega), if_pos (by omega)]
    simp only [Option.some.injEq, Prod.mk.injEq, and_true]
    constructor
    · apply bytes_ext
      rw [Lib.extract_data, hs]
      have : i - 0 = p.data.toList.length := by rw [size_list]; omega
      rw [this, List.drop_zero, List.take_left]
    · apply bytes_ext
      rw [Lib.extract_to_end, hs]
      have : i + 1 = (p.data.toList ++ [46]).length := by rw [List.length_append, size_list]; simp; omega
      rw [this, show p.data.toList ++ 46 :: q.data.toList = (p.data.toList ++ [46]) ++ q.data.toList by simp, List.drop_left]
  | succ d ih =>
    intro i k hi hk
    obtain ⟨k, rfl⟩ : ∃ m, k = m + 1 := ⟨k - 1, by omega⟩
    have hw : wrap64 ((i : Int) + 1) = (i : Int) + 1 := wrap_small (by omega) (by omega)
    have ht : ((i : Int) + 1).toNat = i + 1 := by omega
    have hip : i < p.data.toList.length := by rw [size_list]; omega
    have hb : s.data.toList.getD i 0 ≠ 46 := by
      rw [hs, List.getD_eq_getElem?_getD, List.getElem?_append_left hip, List.getElem?_eq_getElem hip]
      exact hp _ (List.getElem_mem hip)
    simp only [jwt_zzCut.l0, hd1, hw, ht, Int.toNat_natCast, hdl, cut_step s i (by omega)]
    rw [if_pos (by omega), if_pos (by omega), if_pos (by omega), if_neg (by intro h; injection h with h; exact hb h)]
    have := ih (i + 1) k (by omega) (by omega)
    rw [show ((i + 1 : Nat) : Int) = (i : Int) + 1 by omega] at this
    exact this

theorem cut_no (s : ByteArray) (hp : ∀ b ∈ s.data.toList, b ≠ 46) (hsz : s.size ≤ 100000) (d : Nat) :
    ∀ (i k : Nat), i + d = s.size → d < k → jwt_zzCut.l0 k s dot (i : Int) = some (s, ⟨#[]⟩, false) := by
  have hd1 : (dot.size : Int) = 1 := rfl
  have hdl : dot.toList = [46] := by rw [ByteArray.toList_eq]; rfl
  induction d with
  | zero =>
    intro i k hi hk
    obtain ⟨k, rfl⟩ : ∃ m, k = m + 1 := ⟨k - 1, by omega⟩
    have hw : wrap64 ((i : Int) + 1) = (i : Int) + 1 := wrap_small (by omega) (by omega)
    simp only [jwt_zzCut.l0, hd1, hw]
    rw [if_neg (by omega)]
  | succ d ih =>
    intro i k hi hk
    obtain ⟨k, rfl⟩ : ∃ m, k = m + 1 := ⟨k - 1, by omega⟩
    have hw : wrap64 ((i : Int) + 1) = (i : Int) + 1 := wrap_small (by omega) (by omega)
    have ht : ((i : Int) + 1).toNat = i + 1 := by omega
    have hip : i < s.data.toList.length := by rw [size_list]; omega
    have hb : s.data.toList.getD i 0 ≠ 46 := by
      rw [List.getD_eq_getElem?_getD, List.getElem?_eq_getElem hip]
      exact hp _ (List.getElem_mem hip)
    simp only [jwt_zzCut.l0, hd1, hw, ht, Int.toNat_natCast, hdl, cut_step s i (by omega)]
    rw [if_pos (by omega), if_pos (by omega), if_pos (by omega), if_neg (by intro h; injection h with h; exact hb h)]
    have := ih (i + 1) k (by omega) (by omega)
    rw [show ((i + 1 : Nat) : Int) = (i : Int) + 1 by omega] at this
    exact this

/-! ### 3. The split -/
def joinL : List (List UInt8) → List UInt8
  | [] => []
  | [a] => a
  | a :: b :: r => a ++ 46 :: joinL (b :: r)
theorem joinL_snoc (x : List UInt8) : ∀ l : List (List UInt8), l ≠ [] → joinL (l ++ [x]) = joinL l ++ 46 :: x
  | [], h => absurd rfl h
  | [a], _ => rfl
  | a :: b :: r, _ => by
    have h := joinL_snoc x (b :: r) (by simp)
    simp only [List.cons_append] at h ⊢
    simp only [joinL, h, List.append_assoc, List.cons_append]

def joined (es : List ByteArray) : ByteArray := ⟨(joinL (es.map fun e => e.data.toList)).toArray⟩
theorem joined_list (es : List ByteArray) : (joined es).data.toList = joinL (es.map fun e => e.data.toList) := rfl
theorem joined_cons (a b : ByteArray) (r : List ByteArray) : (joined (a :: b :: r)).data.toList = a.data.toList ++ 46 :: (joined (b :: r)).data.toList := rfl
theorem joined_one (a : ByteArray) : joined [a] = a := bytes_ext rfl
theorem joined_size (a b : ByteArray) (r : List ByteArray) : (joined (a :: b :: r)).size = a.size + 1 + (joined (b :: r)).size := by
  have := congrArg List.length (joined_cons a b r)
  rw [List.length_append, List.length_cons, size_list, size_list, size_list] at this
  omega

theorem cut_more (a b : ByteArray) (r : List ByteArray) (ha : NoDot a) (hsz : (joined (a :: b :: r)).size ≤ 100000) (k : Nat) (hk : 100000 < k) : jwt_zzCut.f k (joined (a :: b :: r)) ⟨#[46]⟩ = some (a, joined (b :: r), true) := by
  have hs := joined_size a b r
  exact cut_yes _ a (joined (b :: r)) (joined_cons a b r) ha hsz a.size 0 k (by omega) (by omega)
theorem cut_last (a : ByteArray) (ha : NoDot a) (hsz : a.size ≤ 100000) (k : Nat) (hk : 100000 < k) : jwt_zzCut.f k a ⟨#[46]⟩ = some (a, ⟨#[]⟩, false) :=
  cut_no a ha hsz a.size 0 k (by omega) (by omega)

theorem split_tells (es : List ByteArray) (h1 : 1 ≤ es.length) (hp : ∀ e ∈ es, NoDot e) (hsz : (joined es).size ≤ 4096) (k : Nat) (hk : 100000 < k) :
    impl_Split.f k (joined es) = some (if es.length = 3 then es else [], decide (es.length = 3)) := by
  unfold impl_Split.f jwt_ZZSplit.f jwt_splitToken.f
  rw [if_pos hsz, if_pos (by omega)]
  simp only [Option.bind_some]
  match es, h1, hp, hsz with
  | [a], _, hp, hsz =>
    rw [joined_one] at hsz ⊢
    rw [cut_last a (hp a (by simp)) (by omega) k hk]
    simp
  | [a, b], _, hp, hsz =>
    have s1 := joined_size a b []
    rw [joined_one] at s1
    rw [cut_more a b [] (hp a (by simp)) (by omega) k hk]
    simp only [Option.bind_some, joined_one, if_true]
    rw [if_pos (by simp), cut_last b (hp b (by simp)) (by omega) k hk]
    simp
  | [a, b, c], _, hp, hsz =>
    have s1 := joined_size a b [c]
    have s2 := joined_size b c []
    rw [joined_one] at s2
    rw [cut_more a b [c] (hp a (by simp)) (by omega) k hk]
    simp only [Option.bind_some, if_true]
    rw [if_pos (by simp), cut_more b c [] (hp b (by simp)) (by omega) k hk]
    simp only [Option.bind_some, if_true, joined_one]
    rw [if_pos (by simp), cut_last c (hp c (by simp)) (by omega) k hk]
    simp
  | a :: b :: c :: d :: r, _, hp, hsz =>
    have s1 := joined_size a b (c :: d :: r)
    have s2 := joined_size b c (d :: r)
    rw [cut_more a b (c :: d :: r) (hp a (by simp)) (by omega) k hk]
    simp only [Option.bind_some, if_true]
    rw [if_pos (by simp), cut_more b c (d :: r) (hp b (by simp)) (by omega) k hk]
    simp only [Option.bind_some, if_true]
    rw [if_pos (by simp), cut_more c d r (hp c (by simp)) (by omega) k hk]
    simp

/-! ### 4. Beside them -/
theorem abc_tells (k : Nat) (hk : 100000 < k) : impl_Split.f k (⟨#[97, 46, 98, 46, 99]⟩ : ByteArray) = some ([⟨#[97]⟩, ⟨#[98]⟩, ⟨#[99]⟩], true) := by
  have h := split_tells [⟨#[97]⟩, ⟨#[98]⟩, ⟨#[99]⟩] (by simp) (by intro e he; simp only [List.mem_cons, List.not_mem_nil, or_false] at he; rcases he with rfl | rfl | rfl <;> (intro b hb; simp at hb; subst hb; decide)) (by decide) k hk
  exact h

theorem joined_snoc (es : List ByteArray) (e : ByteArray) (h : es ≠ []) : joined (es ++ [e]) = (joined es ++ (⟨#[46]⟩ : ByteArray)) ++ e := by
  apply bytes_ext
  rw [joined_list, List.map_append, List.map_cons, List.map_nil, joinL_snoc _ _ (by simpa using h)]
  simp [joined_list]

theorem fits_tells (rows : List (List Int)) (hn : rows.length ≤ 2147483647) (d : Nat) : ∀ (i k : Nat), i + d = rows.length → d < k →
    ∃ b, laws_zzFits1.l0 k rows (rows.length : Int) (i : Int) = some b := by
  induction d with
  | zero =>
    intro i k hi hk
    obtain ⟨k, rfl⟩ : ∃ m, k = m + 1 := ⟨k - 1, by omega⟩
    refine ⟨true, ?_⟩
    simp only [laws_zzFits1.l0]
    rw [if_neg (by omega)]
  | succ d ih =>
    intro i k hi hk
    obtain ⟨k, rfl⟩ : ∃ m, k = m + 1 := ⟨k - 1, by omega⟩
    simp only [laws_zzFits1.l0]
    rw [if_pos (by omega), if_pos (by omega), if_pos (by omega)]
    by_cases h : ((rd_L1 rows (i : Int)).length : Int) > 2147483647
    · exact ⟨false, by rw [if_pos h]⟩
    · rw [if_neg h]
      have hw : wrap64 ((i : Int) + 1) = ((i + 1 : Nat) : Int) := by
        unfold wrap64
        omega
      rw [hw]
      exact ih (i + 1) k (by omega) (by omega)

end Go.Proofs.Ytmmnjlcepkkjeaa.Own
