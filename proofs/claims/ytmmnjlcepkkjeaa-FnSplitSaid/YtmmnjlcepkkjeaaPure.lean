/- Plain laws, no program in sight: spec_Encode.f writes every list of bytes as a text without a point, at most twice as long; jwt_ZZSplit.f finds the three parts of a text with two points and nothing in a text with more or fewer; laws_FnSplit.f answers true of every list of lists of bytes. -/
import Derived.Test.YtmmnjlcepkkjeaaWalk
import Derived.Lib.IndexBytes
namespace Go.Proofs.Ytmmnjlcepkkjeaa.Own
open Go.RowKit Go.Proofs.YtmmnjlcepkkjeaaW.PrintWords Go.Proofs.YtmmnjlcepkkjeaaW.PrintLast Go.Proofs.YtmmnjlcepkkjeaaW.PrintMore
open Go.Proofs.Ytmmnjlcepkkjeaa.PFnSplit

/-! ### 1. Letters -/
def Letter (x : Int) : Prop := 0 ≤ x ∧ x < 256 ∧ x ≠ 46
def IsByte (x : Int) : Prop := 0 ≤ x ∧ x < 256

def alphabet : ByteArray := ⟨#[65, 66, 67, 68, 69, 70, 71, 72, 73, 74, 75, 76, 77, 78, 79, 80, 81, 82, 83, 84, 85, 86, 87, 88, 89, 90, 97, 98, 99, 100, 101, 102, 103, 104, 105, 106, 107, 108, 109, 110, 111, 112, 113, 114, 115, 116, 117, 118, 119, 120, 121, 122, 48, 49, 50, 51, 52, 53, 54, 55, 56, 57, 45, 95]⟩

theorem alphabet_letter : ∀ n : Nat, n < 64 → bt alphabet (n : Int) < 256 ∧ bt alphabet (n : Int) ≠ 46 := by decide +kernel
theorem letter_at (i : Int) (h0 : 0 ≤ i) (h1 : i < 64) : Letter (bt alphabet i) := by
  obtain ⟨n, rfl⟩ := Int.eq_ofNat_of_zero_le h0
  have h := alphabet_letter n (by omega)
  exact ⟨(bt_range _ _).1, h.1, h.2⟩

theorem and3 (x : Int) (h : IsByte x) : bits .and .u8 x 3 = x % 4 := bits_mask .u8 8 (by decide) wraps_u8 2 (by decide) x h.1 h.2
theorem and15 (x : Int) (h : IsByte x) : bits .and .u8 x 15 = x % 16 := u8_and15 x h.1 h.2
theorem and63 (x : Int) (h : IsByte x) : bits .and .u8 x 63 = x % 64 := u8_and63 x h.1 h.2
theorem or4 (x y : Int) (hy : IsByte y) : bits .or .u8 (x % 4 * 16 % 256) (y / 16) = x % 4 * 16 + y / 16 := by
  have h : x % 4 * 16 % 256 = x % 4 * 16 := by omega
  rw [h]
  have := hy.1
  have := hy.2
  exact bits_join .u8 8 (by decide) wraps_u8 4 (x % 4 * 16) (y / 16) (by omega) (by omega) (by omega) (by omega) (by omega) (by omega)
theorem or2 (x y : Int) (hy : IsByte y) : bits .or .u8 (x % 16 * 4 % 256) (y / 64) = x % 16 * 4 + y / 64 := by
  have h : x % 16 * 4 % 256 = x % 16 * 4 := by omega
  rw [h]
  have := hy.1
  have := hy.2
  exact bits_join .u8 8 (by decide) wraps_u8 2 (x % 16 * 4) (y / 64) (by omega) (by omega) (by omega) (by omega) (by omega) (by omega)

theorem rd_byte {row : List Int} (h : ∀ x ∈ row, IsByte x) (i : Int) : IsByte (rd row i) := by
  unfold rd
  rw [List.getD_eq_getElem?_getD]
  cases e : row[i.toNat]? with
  | none => exact ⟨by simp, by simp⟩
  | some x => exact h x (List.mem_of_getElem? e)

/-! ### 2. Encode -/
theorem enc_tells (n : Nat) : ∀ (row acc : List Int), row.length ≤ n → (∀ x ∈ row, IsByte x) → (∀ x ∈ acc, Letter x) → acc.length + 2 * row.length ≤ 100000 →
    ∃ out : List Int, (∀ x ∈ out, Letter x) ∧ out.length ≤ acc.length + 2 * row.length ∧ ∀ k, n < k → spec_Encode.l0 k row acc = some (strOfNums out) := by
  induction n with
  | zero =>
    intro row acc hn hrow hacc hsz
    obtain rfl : row = [] := List.eq_nil_of_length_eq_zero (by omega)
    refine ⟨acc, hacc, by omega, fun k hk => ?_⟩
    obtain ⟨k, rfl⟩ : ∃ m, k = m + 1 := ⟨k - 1, by omega⟩
    simp only [spec_Encode.l0]
    rw [if_neg (by simp), if_neg (by simp), if_neg (by simp)]
  | succ n ih =>
    intro row acc hn hrow hacc hsz
    have b0 := rd_byte hrow 0
    have b1 := rd_byte hrow 1
    have b2 := rd_byte hrow 2
    have p0 := b0.1
    have q0 := b0.2
    have p1 := b1.1
    have q1 := b1.2
    have p2 := b2.1
    have q2 := b2.2
    by_cases h3 : (row.length : Int) ≥ 3
    · have L0 := letter_at (rd row 0 / 4) (by omega) (by omega)
      have L1 := letter_at (rd row 0 % 4 * 16 + rd row 1 / 16) (by omega) (by omega)
      have L2 := letter_at (rd row 1 % 16 * 4 + rd row 2 / 64) (by omega) (by omega)
      have L3 := letter_at (rd row 2 % 64) (by omega) (by omega)
      obtain ⟨out, ho, hl, hk⟩ := ih (row.drop 3) (acc ++ [bt alphabet (rd row 0 / 4), bt alphabet (rd row 0 % 4 * 16 + rd row 1 / 16), bt alphabet (rd row 1 % 16 * 4 + rd row 2 / 64), bt alphabet (rd row 2 % 64)])
        (by rw [List.length_drop]; omega) (fun x hx => hrow x (List.mem_of_mem_drop hx))
        (by
          intro x hx
          simp only [List.mem_append, List.mem_cons, List.not_mem_nil, or_false] at hx
          rcases hx with hx | rfl | rfl | rfl | rfl
          · exact hacc x hx
          · exact L0
          · exact L1
          · exact L2
          · exact L3)
        (by simp only [List.length_append, List.length_cons, List.length_nil, List.length_drop]; omega)
      refine ⟨out, ho, ?_, fun k hk' => ?_⟩
      · simp only [List.length_append, List.length_cons, List.length_nil, List.length_drop] at hl
        omega
      · obtain ⟨k, rfl⟩ : ∃ m, k = m + 1 := ⟨k - 1, by omega⟩
        simp only [spec_Encode.l0, and3 _ b0, and15 _ b1, and63 _ b2, or4 _ _ b1, or2 _ _ b2]
        rw [if_pos h3, if_pos (by omega), if_pos (by omega), if_pos (by omega), if_pos (by omega), if_pos (by omega), if_pos (by omega), if_pos (by omega), if_pos (by omega), if_pos (by omega), if_pos (by omega), if_pos (by omega)]
        simp only [Option.bind_some]
        rw [if_pos (by simp only [List.length_cons, List.length_nil]; omega), if_pos (by omega)]
        exact hk k (by omega)
    · by_cases h1 : (row.length : Int) = 1
      · have L0 := letter_at (rd row 0 / 4) (by omega) (by omega)
        have L1 := letter_at (rd row 0 % 4 * 16 % 256) (by omega) (by omega)
        refine ⟨acc ++ [bt alphabet (rd row 0 / 4), bt alphabet (rd row 0 % 4 * 16 % 256)], ?_, ?_, fun k hk' => ?_⟩
        · intro x hx
          simp only [List.mem_append, List.mem_cons, List.not_mem_nil, or_false] at hx
          rcases hx with hx | rfl | rfl
          · exact hacc x hx
          · exact L0
          · exact L1
        · simp only [List.length_append, List.length_cons, List.length_nil]
          omega
        · obtain ⟨k, rfl⟩ : ∃ m, k = m + 1 := ⟨k - 1, by omega⟩
          simp only [spec_Encode.l0, and3 _ b0]
          rw [if_neg h3, if_pos h1, if_pos (by omega), if_pos (by omega), if_pos (by omega), if_pos (by omega), if_pos (by omega)]
          simp only [Option.bind_some]
          rw [if_pos (by simp only [List.length_cons, List.length_nil]; omega)]
          rfl
      · by_cases h2 : (row.length : Int) = 2
        · have L0 := letter_at (rd row 0 / 4) (by omega) (by omega)
          have L1 := letter_at (rd row 0 % 4 * 16 + rd row 1 / 16) (by omega) (by omega)
          have L2 := letter_at (rd row 1 % 16 * 4 % 256) (by omega) (by omega)
          refine ⟨acc ++ [bt alphabet (rd row 0 / 4), bt alphabet (rd row 0 % 4 * 16 + rd row 1 / 16), bt alphabet (rd row 1 % 16 * 4 % 256)], ?_, ?_, fun k hk' => ?_⟩
          · intro x hx
            simp only [List.mem_append, List.mem_cons, List.not_mem_nil, or_false] at hx
            rcases hx with hx | rfl | rfl | rfl
            · exact hacc x hx
            · exact L0
            · exact L1
            · exact L2
          · simp only [List.length_append, List.length_cons, List.length_nil]
            omega
          · obtain ⟨k, rfl⟩ : ∃ m, k = m + 1 := ⟨k - 1, by omega⟩
            simp only [spec_Encode.l0, and3 _ b0, and15 _ b1, or4 _ _ b1]
            rw [if_neg h3, if_neg h1, if_pos h2, if_pos (by omega), if_pos (by omega), if_pos (by omega), if_pos (by omega), if_pos (by omega), if_pos (by omega), if_pos (by omega), if_pos (by omega)]
            simp only [Option.bind_some]
            rw [if_pos (by simp only [List.length_cons, List.length_nil]; omega)]
            rfl
        · refine ⟨acc, hacc, by omega, fun k hk' => ?_⟩
          obtain ⟨k, rfl⟩ : ∃ m, k = m + 1 := ⟨k - 1, by omega⟩
          simp only [spec_Encode.l0]
          rw [if_neg h3, if_neg h1, if_neg h2]

/-- A text without a point, of at most so many bytes. -/
def Plain (n : Nat) (e : ByteArray) : Prop := e.size ≤ n ∧ ∀ b ∈ e.data.toList, b ≠ 46

theorem encode_tells (row : List Int) (hl : row.length ≤ 100) (hb : ∀ x ∈ row, IsByte x) : ∃ e : ByteArray, Plain 200 e ∧ ∀ k, 100 < k → spec_Encode.f k row = some e := by
  obtain ⟨out, ho, hlen, hk⟩ := enc_tells 100 row [] hl hb (by simp) (by simp; omega)
  refine ⟨strOfNums out, ⟨?_, ?_⟩, hk⟩
  · rw [strOfNums_size]
    simp only [List.length_nil] at hlen
    omega
  · intro b hb
    rw [strOfNums_data] at hb
    obtain ⟨x, hx, rfl⟩ := List.mem_map.1 hb
    obtain ⟨h0, h1, h2⟩ := ho x hx
    intro h
    have h3 := congrArg UInt8.toNat h
    rw [UInt8.toNat_ofNat'] at h3
    have : (46 : UInt8).toNat = 46 := rfl
    rw [this] at h3
    omega

/-! ### 3. The cut at the first point -/
def dot : ByteArray := ⟨#[46]⟩
theorem bytes_ext {a b : ByteArray} (h : a.data.toList = b.data.toList) : a = b := by
  cases a
  cases b
  simp only [ByteArray.mk.injEq]
  exact Array.toList_inj.1 h
theorem wrap_small {i : Int} (h0 : 0 ≤ i) (h1 : i ≤ 1000000) : wrap64 i = i := by
  unfold wrap64
  omega
theorem size_list (s : ByteArray) : s.data.toList.length = s.size := data_length s

theorem cut_step (s : ByteArray) (i : Nat) (hi : i < s.size) : (s.extract i (i + 1)).toList = [s.data.toList.getD i 0] := by
  rw [ByteArray.toList_eq, Lib.extract_data]
  have hl : i < s.data.toList.length := by rw [size_list]; exact hi
  rw [Nat.add_sub_cancel_left, List.drop_eq_getElem_cons hl, List.getD_eq_getElem?_getD, List.getElem?_eq_getElem hl]
  rfl

theorem cut_yes (s p q : ByteArray) (hs : s.data.toList = p.data.toList ++ 46 :: q.data.toList) (hp : ∀ b ∈ p.data.toList, b ≠ 46) (hsz : s.size ≤ 100000) (d : Nat) :
    ∀ (i k : Nat), i + d = p.size → d < k → jwt_zzCut.l0 k s dot (i : Int) = some (p, q, true) := by
  have hlen : s.size = p.size + 1 + q.size := by
    have := congrArg List.length hs
    rw [List.length_append, List.length_cons, size_list, size_list, size_list] at this
    omega
  have hd1 : (dot.size : Int) = 1 := rfl
  have hdl : dot.toList = [46] := by rw [ByteArray.toList_eq]; rfl
  induction d with
  | zero =>
    intro i k hi hk
    obtain ⟨k, rfl⟩ : ∃ m, k = m + 1 := ⟨k - 1, by omega⟩
    have hw : wrap64 ((i : Int) + 1) = (i : Int) + 1 := wrap_small (by omega) (by omega)
    have ht : ((i : Int) + 1).toNat = i + 1 := by omega
    have hb : s.data.toList.getD i 0 = 46 := by
      rw [hs, List.getD_eq_getElem?_getD, List.getElem?_append_right (by rw [size_list]; omega), size_list]
      have : i - p.size = 0 := by omega
      rw [this]
      rfl
    simp only [jwt_zzCut.l0, hd1, hw, ht, Int.toNat_natCast, hdl, cut_step s i (by omega), hb]
    rw [if_pos (by omega), if_pos (by omega), if_pos (by omega), if_pos True.intro, if_pos (by omega), if_pos (by omega)]
    simp only [Option.some.injEq, Prod.mk.injEq, and_true]
    constructor
    · apply bytes_ext
      rw [Lib.extract_data, hs]
      have : i - 0 = p.data.toList.length := by rw [size_list]; omega
      rw [this, List.drop_zero, List.take_left]
    · apply bytes_ext
      rw [Lib.extract_to_end, hs]
      have : i + 1 = (p.data.toList ++ [46]).length := by rw [List.length_append, size_list]; simp; omega
      rw [this, show p.data.toList ++ 46 :: q.data.toList = (p.data.toList ++ [46]) ++ q.data.toList by simp, List.drop_left]
  | succ d ih =>
    intro i k hi hk
    obtain ⟨k, rfl⟩ : ∃ m, k = m + 1 := ⟨k - 1, by omega⟩
    have hw : wrap64 ((i : Int) + 1) = (i : Int) + 1 := wrap_small (by omega) (by omega)
    have ht : ((i : Int) + 1).toNat = i + 1 := by omega
    have hip : i < p.data.toList.length := by rw [size_list]; omega
    have hb : s.data.toList.getD i 0 ≠ 46 := by
      rw [hs, List.getD_eq_getElem?_getD, List.getElem?_append_left hip, List.getElem?_eq_getElem hip]
      exact hp _ (List.getElem_mem hip)
    simp only [jwt_zzCut.l0, hd1, hw, ht, Int.toNat_natCast, hdl, cut_step s i (by omega)]
    rw [if_pos (by omega), if_pos (by omega), if_pos (by omega), if_neg (by intro h; injection h with h; exact hb h)]
    have := ih (i + 1) k (by omega) (by omega)
    rw [show ((i + 1 : Nat) : Int) = (i : Int) + 1 by omega] at this
    exact this

theorem cut_no (s : ByteArray) (hp : ∀ b ∈ s.data.toList, b ≠ 46) (hsz : s.size ≤ 100000) (d : Nat) :
    ∀ (i k : Nat), i + d = s.size → d < k → jwt_zzCut.l0 k s dot (i : Int) = some (s, ⟨#[]⟩, false) := by
  have hd1 : (dot.size : Int) = 1 := rfl
  have hdl : dot.toList = [46] := by rw [ByteArray.toList_eq]; rfl
  induction d with
  | zero =>
    intro i k hi hk
    obtain ⟨k, rfl⟩ : ∃ m, k = m + 1 := ⟨k - 1, by omega⟩
    have hw : wrap64 ((i : Int) + 1) = (i : Int) + 1 := wrap_small (by omega) (by omega)
    simp only [jwt_zzCut.l0, hd1, hw]
    rw [if_neg (by omega)]
  | succ d ih =>
    intro i k hi hk
    obtain ⟨k, rfl⟩ : ∃ m, k = m + 1 := ⟨k - 1, by omega⟩
    have hw : wrap64 ((i : Int) + 1) = (i : Int) + 1 := wrap_small (by omega) (by omega)
    have ht : ((i : Int) + 1).toNat = i + 1 := by omega
    have hip : i < s.data.toList.length := by rw [size_list]; omega
    have hb : s.data.toList.getD i 0 ≠ 46 := by
      rw [List.getD_eq_getElem?_getD, List.getElem?_eq_getElem hip]
      exact hp _ (List.getElem_mem hip)
    simp only [jwt_zzCut.l0, hd1, hw, ht, Int.toNat_natCast, hdl, cut_step s i (by omega)]
    rw [if_pos (by omega), if_pos (by omega), if_pos (by omega), if_neg (by intro h; injection h with h; exact hb h)]
    have := ih (i + 1) k (by omega) (by omega)
    rw [show ((i + 1 : Nat) : Int) = (i : Int) + 1 by omega] at this
    exact this

/-! ### 4. The split -/
def joinL : List (List UInt8) → List UInt8
  | [] => []
  | [a] => a
  | a :: b :: r => a ++ 46 :: joinL (b :: r)
theorem joinL_snoc (x : List UInt8) : ∀ l : List (List UInt8), l ≠ [] → joinL (l ++ [x]) = joinL l ++ 46 :: x
  | [], h => absurd rfl h
  | [a], _ => rfl
  | a :: b :: r, _ => by
    have h := joinL_snoc x (b :: r) (by simp)
    simp only [List.cons_append] at h ⊢
    simp only [joinL, h, List.append_assoc, List.cons_append]

def joined (es : List ByteArray) : ByteArray := ⟨(joinL (es.map fun e => e.data.toList)).toArray⟩
theorem joined_list (es : List ByteArray) : (joined es).data.toList = joinL (es.map fun e => e.data.toList) := rfl
theorem joined_cons (a b : ByteArray) (r : List ByteArray) : (joined (a :: b :: r)).data.toList = a.data.toList ++ 46 :: (joined (b :: r)).data.toList := rfl
theorem joined_one (a : ByteArray) : joined [a] = a := bytes_ext rfl
theorem joined_size (a b : ByteArray) (r : List ByteArray) : (joined (a :: b :: r)).size = a.size + 1 + (joined (b :: r)).size := by
  have := congrArg List.length (joined_cons a b r)
  rw [List.length_append, List.length_cons, size_list, size_list, size_list] at this
  omega

def NoDot (e : ByteArray) : Prop := ∀ b ∈ e.data.toList, b ≠ 46

theorem cut_more (a b : ByteArray) (r : List ByteArray) (ha : NoDot a) (hsz : (joined (a :: b :: r)).size ≤ 100000) (k : Nat) (hk : 100000 < k) : jwt_zzCut.f k (joined (a :: b :: r)) ⟨#[46]⟩ = some (a, joined (b :: r), true) := by
  have hs := joined_size a b r
  exact cut_yes _ a (joined (b :: r)) (joined_cons a b r) ha hsz a.size 0 k (by omega) (by omega)
theorem cut_last (a : ByteArray) (ha : NoDot a) (hsz : a.size ≤ 100000) (k : Nat) (hk : 100000 < k) : jwt_zzCut.f k a ⟨#[46]⟩ = some (a, ⟨#[]⟩, false) :=
  cut_no a ha hsz a.size 0 k (by omega) (by omega)

theorem split_tells (es : List ByteArray) (h1 : 1 ≤ es.length) (hp : ∀ e ∈ es, NoDot e) (hsz : (joined es).size ≤ 4096) (k : Nat) (hk : 100000 < k) :
    impl_Split.f k (joined es) = some (if es.length = 3 then es else [], decide (es.length = 3)) := by
  unfold impl_Split.f jwt_ZZSplit.f jwt_splitToken.f
  rw [if_pos hsz, if_pos (by omega)]
  simp only [Option.bind_some]
  match es, h1, hp, hsz with
  | [a], _, hp, hsz =>
    rw [joined_one] at hsz ⊢
    rw [cut_last a (hp a (by simp)) (by omega) k hk]
    simp
  | [a, b], _, hp, hsz =>
    have s1 := joined_size a b []
    rw [joined_one] at s1
    rw [cut_more a b [] (hp a (by simp)) (by omega) k hk]
    simp only [Option.bind_some, joined_one, if_true]
    rw [if_pos (by simp), cut_last b (hp b (by simp)) (by omega) k hk]
    simp
  | [a, b, c], _, hp, hsz =>
    have s1 := joined_size a b [c]
    have s2 := joined_size b c []
    rw [joined_one] at s2
    rw [cut_more a b [c] (hp a (by simp)) (by omega) k hk]
    simp only [Option.bind_some, if_true]
    rw [if_pos (by simp), cut_more b c [] (hp b (by simp)) (by omega) k hk]
    simp only [Option.bind_some, if_true, joined_one]
    rw [if_pos (by simp), cut_last c (hp c (by simp)) (by omega) k hk]
    simp
  | a :: b :: c :: d :: r, _, hp, hsz =>
    have s1 := joined_size a b (c :: d :: r)
    have s2 := joined_size b c (d :: r)
    rw [cut_more a b (c :: d :: r) (hp a (by simp)) (by omega) k hk]
    simp only [Option.bind_some, if_true]
    rw [if_pos (by simp), cut_more b c (d :: r) (hp b (by simp)) (by omega) k hk]
    simp only [Option.bind_some, if_true]
    rw [if_pos (by simp), cut_more c d r (hp c (by simp)) (by omega) k hk]
    simp

/-! ### 5. The law -/
def E (row : List Int) : ByteArray := (spec_Encode.f 101 row).getD ByteArray.empty
theorem E_tells (row : List Int) (hl : row.length ≤ 100) (hb : ∀ x ∈ row, IsByte x) : (E row).size ≤ 200 ∧ NoDot (E row) ∧ ∀ k, 100 < k → spec_Encode.f k row = some (E row) := by
  obtain ⟨e, ⟨h1, h2⟩, hk⟩ := encode_tells row hl hb
  have he : E row = e := by unfold E; rw [hk 101 (by omega)]; rfl
  rw [he]
  exact ⟨h1, h2, hk⟩

theorem fits_tells (rows : List (List Int)) (hn : rows.length ≤ 2147483647) (d : Nat) : ∀ (i k : Nat), i + d = rows.length → d < k →
    ∃ b, laws_zzFits1.l0 k rows (rows.length : Int) (i : Int) = some b := by
  induction d with
  | zero =>
    intro i k hi hk
    obtain ⟨k, rfl⟩ : ∃ m, k = m + 1 := ⟨k - 1, by omega⟩
    refine ⟨true, ?_⟩
    simp only [laws_zzFits1.l0]
    rw [if_neg (by omega)]
  | succ d ih =>
    intro i k hi hk
    obtain ⟨k, rfl⟩ : ∃ m, k = m + 1 := ⟨k - 1, by omega⟩
    simp only [laws_zzFits1.l0]
    rw [if_pos (by omega), if_pos (by omega), if_pos (by omega)]
    by_cases h : ((rd_L1 rows (i : Int)).length : Int) > 2147483647
    · exact ⟨false, by rw [if_pos h]⟩
    · rw [if_neg h]
      have hw : wrap64 ((i : Int) + 1) = ((i + 1 : Nat) : Int) := by
        unfold wrap64
        omega
      rw [hw]
      exact ih (i + 1) k (by omega) (by omega)

theorem rd_row (rows : List (List Int)) (i : Nat) (h : i < rows.length) : rd_L1 rows (i : Int) = rows[i] := by
  unfold rd_L1
  rw [Int.toNat_natCast, List.getD_eq_getElem?_getD, List.getElem?_eq_getElem h]
  rfl

theorem abc_tells (k : Nat) (hk : 100000 < k) : impl_Split.f k (⟨#[97, 46, 98, 46, 99]⟩ : ByteArray) = some ([⟨#[97]⟩, ⟨#[98]⟩, ⟨#[99]⟩], true) := by
  have h := split_tells [⟨#[97]⟩, ⟨#[98]⟩, ⟨#[99]⟩] (by simp) (by intro e he; simp only [List.mem_cons, List.not_mem_nil, or_false] at he; rcases he with rfl | rfl | rfl <;> (intro b hb; simp at hb; subst hb; decide)) (by decide) k hk
  exact h

/-- What the last lines answer: the parts are the rows' texts where there are three, and there are none elsewhere. -/
theorem last_tells (rows : List (List Int)) (h100 : ∀ r ∈ rows, r.length ≤ 100) (hb : ∀ r ∈ rows, ∀ x ∈ r, IsByte x) (k : Nat) (hk : 100000 < k) :
    laws_FnSplit.j2 k rows (if (rows.map E).length = 3 then rows.map E else []) (decide ((rows.map E).length = 3)) (decide ((rows.map E).length = 3) != ((rows.length : Int) == 3)) = some true := by
  obtain ⟨k, rfl⟩ : ∃ m, k = m + 1 := ⟨k - 1, by omega⟩
  rw [List.length_map]
  by_cases h3 : rows.length = 3
  · have e3 : ((rows.length : Int) == 3) = true := beq_iff_eq.2 (by omega)
    have d3 : decide (rows.length = 3) = true := decide_eq_true h3
    rw [e3, d3, if_pos h3]
    match rows, h3 with
    | [a, b, c], _ =>
      have ha := E_tells a (h100 a (by simp)) (hb a (by simp))
      have hb' := E_tells b (h100 b (by simp)) (hb b (by simp))
      have hc := E_tells c (h100 c (by simp)) (hb c (by simp))
      have r0 : rd_L1 [a, b, c] 0 = a := rfl
      have r1 : rd_L1 [a, b, c] 1 = b := rfl
      have r2 : rd_L1 [a, b, c] 2 = c := rfl
      have s0 : rdOf ByteArray.empty [E a, E b, E c] 0 = E a := rfl
      have s1 : rdOf ByteArray.empty [E a, E b, E c] 1 = E b := rfl
      have s2 : rdOf ByteArray.empty [E a, E b, E c] 2 = E c := rfl
      simp only [laws_FnSplit.j2, List.map_cons, List.map_nil, List.length_cons, List.length_nil, r0, r1, r2, s0, s1, s2, ha.2.2 k (by omega), hb'.2.2 k (by omega), hc.2.2 k (by omega), Option.bind_some]
      simp
  · have e3 : ((rows.length : Int) == 3) = false := beq_eq_false_iff_ne.2 (by omega)
    have d3 : decide (rows.length = 3) = false := decide_eq_false h3
    rw [e3, d3, if_neg h3]
    simp [laws_FnSplit.j2]

theorem joined_snoc (es : List ByteArray) (e : ByteArray) (h : es ≠ []) : joined (es ++ [e]) = (joined es ++ (⟨#[46]⟩ : ByteArray)) ++ e := by
  apply bytes_ext
  rw [joined_list, List.map_append, List.map_cons, List.map_nil, joinL_snoc _ _ (by simpa using h)]
  simp [joined_list]

theorem round_tells (rows : List (List Int)) (h1 : 1 ≤ rows.length) (h10 : rows.length ≤ 10) (hb : ∀ r ∈ rows, ∀ x ∈ r, IsByte x) (d : Nat) : ∀ (i k : Nat) (s : ByteArray), i + d = rows.length → 100001 + d < k →
    (∀ j, j < i → ∀ h : j < rows.length, (rows[j]).length ≤ 100) → s = joined ((rows.take i).map E) → s.size ≤ 201 * i →
    laws_FnSplit.l0 k rows s rows (rows.length : Int) (i : Int) = some true := by
  induction d with
  | zero =>
    intro i k s hi hk h100 hs hsz
    obtain ⟨k, rfl⟩ : ∃ m, k = m + 1 := ⟨k - 1, by omega⟩
    have hall : ∀ r ∈ rows, r.length ≤ 100 := by
      intro r hr
      obtain ⟨j, hj, rfl⟩ := List.mem_iff_getElem.1 hr
      exact h100 j (by omega) hj
    have ht : rows.take i = rows := List.take_of_length_le (by omega)
    rw [ht] at hs
    have hsp := split_tells (rows.map E) (by rw [List.length_map]; omega)
      (by
        intro e he
        obtain ⟨r, hr, rfl⟩ := List.mem_map.1 he
        exact (E_tells r (hall r hr) (hb r hr)).2.1)
      (by rw [← hs]; omega) k (by omega)
    simp only [laws_FnSplit.l0]
    rw [if_neg (by omega), hs, hsp, abc_tells k (by omega)]
    simp only [Option.bind_some, if_true]
    rw [if_pos (by rfl)]
    exact last_tells rows hall hb k (by omega)
  | succ d ih =>
    intro i k s hi hk h100 hs hsz
    obtain ⟨k, rfl⟩ : ∃ m, k = m + 1 := ⟨k - 1, by omega⟩
    have hlt : i < rows.length := by omega
    have hrow := rd_row rows i hlt
    have hw : wrap64 ((i : Int) + 1) = ((i + 1 : Nat) : Int) := by
      unfold wrap64
      omega
    simp only [laws_FnSplit.l0, hrow, hw]
    rw [if_pos (by omega), if_pos (by omega), if_pos (by omega)]
    by_cases hl : ((rows[i]).length : Int) > 100
    · rw [if_pos hl]
    · rw [if_neg hl]
      obtain ⟨he1, he2, hek⟩ := E_tells rows[i] (by omega) (hb _ (List.getElem_mem hlt))
      rw [hek k (by omega)]
      simp only [Option.bind_some]
      have htake : (rows.take (i + 1)).map E = (rows.take i).map E ++ [E rows[i]] := by
        rw [List.take_succ_eq_append_getElem hlt, List.map_append]
        rfl
      have hnext : ∀ j, j < i + 1 → ∀ h : j < rows.length, (rows[j]).length ≤ 100 := by
        intro j hj h
        by_cases e : j = i
        · subst e
          omega
        · exact h100 j (by omega) h
      by_cases h0 : (i : Int) > 0
      · rw [if_pos h0, if_pos (by omega)]
        have hsz1 : (s ++ (⟨#[46]⟩ : ByteArray)).size = s.size + 1 := by rw [ByteArray.size_append]; rfl
        rw [if_pos (by omega)]
        refine ih (i + 1) k _ (by omega) (by omega) hnext ?_ ?_
        · rw [htake, joined_snoc _ _ (by intro h; have h2 := congrArg List.length h; rw [List.length_map, List.length_take, List.length_nil] at h2; omega), hs]
        · rw [ByteArray.size_append, hsz1]
          omega
      · rw [if_neg h0, if_pos (by omega)]
        refine ih (i + 1) k _ (by omega) (by omega) hnext ?_ ?_
        · obtain rfl : i = 0 := by omega
          rw [htake, hs]
          apply bytes_ext
          simp [joinL, joined]
        · rw [ByteArray.size_append]
          omega

theorem law_tells (rows : List (List Int)) (hb : ∀ r ∈ rows, ∀ x ∈ r, IsByte x) : ∃ k, laws_FnSplit.f k rows = some true := by
  refine ⟨rows.length + 200000, ?_⟩
  unfold laws_FnSplit.f laws_zzFits1.f
  by_cases hn : (rows.length : Int) > 2147483647
  · rw [if_pos hn]
    rfl
  · rw [if_neg hn]
    obtain ⟨b, hb0⟩ := fits_tells rows (by omega) rows.length 0 (rows.length + 200000) (by omega) (by omega)
    have hb1 : laws_zzFits1.l0 (rows.length + 200000) rows (rows.length : Int) 0 = some b := hb0
    rw [hb1]
    simp only [Option.bind_some]
    cases b with
    | false => rfl
    | true =>
      rw [if_pos rfl]
      by_cases h1 : (rows.length : Int) < 1
      · rw [if_pos h1]
        simp [laws_FnSplit.j0]
      · rw [if_neg h1]
        by_cases h10 : (rows.length : Int) > 10
        · rw [decide_eq_true h10]
          simp [laws_FnSplit.j0]
        · rw [decide_eq_false h10]
          obtain ⟨k, hk⟩ : ∃ k, rows.length + 200000 = k + 1 := ⟨rows.length + 199999, by omega⟩
          rw [hk]
          simp only [laws_FnSplit.j0]
          rw [if_neg (by simp)]
          exact round_tells rows (by omega) (by omega) hb rows.length 0 k _ (by omega) (by omega) (fun j hj => by omega) (by apply bytes_ext; simp [joined_list, joinL]) (by simp [ByteArray.size])

end Go.Proofs.Ytmmnjlcepkkjeaa.Own
