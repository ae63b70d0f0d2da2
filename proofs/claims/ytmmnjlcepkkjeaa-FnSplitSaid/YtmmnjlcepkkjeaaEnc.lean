/- The contract of spec.Encode, at every list of at most a hundred bytes, read from whatever memory: it returns the text strOfNums (encL row); what was in memory stays as it was. -/
import Derived.Test.YtmmnjlcepkkjeaaPFnSplitx0
import Derived.WalkSpells
import Derived.Deep.AppendLies
namespace Go.Proofs.Ytmmnjlcepkkjeaa.Own
open Go.RowKit Go.Proofs.YtmmnjlcepkkjeaaW.PrintWords Go.Proofs.YtmmnjlcepkkjeaaW.PrintLast Go.Proofs.YtmmnjlcepkkjeaaW.PrintMore
open Go.Proofs.Ytmmnjlcepkkjeaa.PFnSplit

/-! ### 1. Plain: the letters -/
def IsByte (x : Int) : Prop := 0 ≤ x ∧ x < 256
def alphabet : ByteArray := ⟨#[65, 66, 67, 68, 69, 70, 71, 72, 73, 74, 75, 76, 77, 78, 79, 80, 81, 82, 83, 84, 85, 86, 87, 88, 89, 90, 97, 98, 99, 100, 101, 102, 103, 104, 105, 106, 107, 108, 109, 110, 111, 112, 113, 114, 115, 116, 117, 118, 119, 120, 121, 122, 48, 49, 50, 51, 52, 53, 54, 55, 56, 57, 45, 95]⟩
theorem letter_rule (i : Int) : ∀ h : i.toNat < (⟨#[65, 66, 67, 68, 69, 70, 71, 72, 73, 74, 75, 76, 77, 78, 79, 80, 81, 82, 83, 84, 85, 86, 87, 88, 89, 90, 97, 98, 99, 100, 101, 102, 103, 104, 105, 106, 107, 108, 109, 110, 111, 112, 113, 114, 115, 116, 117, 118, 119, 120, 121, 122, 48, 49, 50, 51, 52, 53, 54, 55, 56, 57, 45, 95]⟩ : ByteArray).size, (((⟨#[65, 66, 67, 68, 69, 70, 71, 72, 73, 74, 75, 76, 77, 78, 79, 80, 81, 82, 83, 84, 85, 86, 87, 88, 89, 90, 97, 98, 99, 100, 101, 102, 103, 104, 105, 106, 107, 108, 109, 110, 111, 112, 113, 114, 115, 116, 117, 118, 119, 120, 121, 122, 48, 49, 50, 51, 52, 53, 54, 55, 56, 57, 45, 95]⟩ : ByteArray)[i.toNat]'h).toNat : Int) = bt alphabet i := bt_at alphabet i
theorem and3 (x : Int) (h : IsByte x) : bits .and .u8 x 3 = x % 4 := bits_mask .u8 8 (by decide) wraps_u8 2 (by decide) x h.1 h.2
theorem and15 (x : Int) (h : IsByte x) : bits .and .u8 x 15 = x % 16 := u8_and15 x h.1 h.2
theorem and63 (x : Int) (h : IsByte x) : bits .and .u8 x 63 = x % 64 := u8_and63 x h.1 h.2
theorem wrap4 (x : Int) : IntKind.u8.wrap (x % 4 * 16) = x % 4 * 16 := by rw [IntKind.wrap_u8]; omega
theorem wrap2 (x : Int) : IntKind.u8.wrap (x % 16 * 4) = x % 16 * 4 := by rw [IntKind.wrap_u8]; omega
theorem or4 (x y : Int) (hy : IsByte y) : bits .or .u8 (x % 4 * 16) (y / 16) = x % 4 * 16 + y / 16 := by
  have := hy.1
  have := hy.2
  exact bits_join .u8 8 (by decide) wraps_u8 4 (x % 4 * 16) (y / 16) (by omega) (by omega) (by omega) (by omega) (by omega) (by omega)
theorem or2 (x y : Int) (hy : IsByte y) : bits .or .u8 (x % 16 * 4) (y / 64) = x % 16 * 4 + y / 64 := by
  have := hy.1
  have := hy.2
  exact bits_join .u8 8 (by decide) wraps_u8 2 (x % 16 * 4) (y / 64) (by omega) (by omega) (by omega) (by omega) (by omega) (by omega)
def encL : List Int → List Int
  | x :: y :: z :: r => bt alphabet (x / 4) :: bt alphabet (x % 4 * 16 + y / 16) :: bt alphabet (y % 16 * 4 + z / 64) :: bt alphabet (z % 64) :: encL r
  | [x, y] => [bt alphabet (x / 4), bt alphabet (x % 4 * 16 + y / 16), bt alphabet (y % 16 * 4)]
  | [x] => [bt alphabet (x / 4), bt alphabet (x % 4 * 16)]
  | [] => []
theorem encL_len : ∀ row : List Int, (encL row).length ≤ 2 * row.length
  | x :: y :: z :: r => by
    have := encL_len r
    simp only [encL, List.length_cons]
    omega
  | [x, y] => by simp [encL]
  | [x] => by simp [encL]
  | [] => by simp [encL]

/-! ### 2. A statement that draws its order, walked in the order of its text -/
def upTo (n k : Nat) : Array Bool := ((List.range n).map fun i => decide (i < k)).toArray
section
variable {P : Program} {md : Region.Mode} {ops : Array Oper} {Q : Exit → Act → World → Prop} {S : World → Prop} {ds : List Nat}
theorem pure_k {n k : Nat} {N : Option Tmp} {oi : Oper} {v : Value} {fuel : Nat} {a : Act} {w : World} (hi : ops[k]? = some oi) (hN : oi.dst = N) (hc : anyB md ops (upTo n k) (upTo n (k + 1)) k = true)
    (hQ : ∀ c a w, Q (.panic c) (a.put oi.dst v) w → Q (.panic c) a w) (hy : Yields P ops oi v a) {a' : Act} (ha : a.put N v = a')
    (h : wpAnyLast P md ops Q S ds fuel (upTo n (k + 1)) a' w) : wpAnyLast P md ops Q S ds (fuel + 1) (upTo n k) a w := pure_ _ hi hN hc hQ hy ha h
theorem take_k {n k : Nat} {N : Option Tmp} {oi : Oper} {v : Value} {fuel : Nat} {a : Act} {w : World} (hi : ops[k]? = some oi) (hN : oi.dst = N) (hc : takeB md ops ds (upTo n k) (upTo n (k + 1)) k = true)
    (hQ : ∀ c a w, Q (.panic c) (a.put oi.dst v) w → Q (.panic c) a w) (hy : YieldsIf P ops S oi v a) (hS : S w) {a' : Act} (ha : a.put N v = a')
    (h : wpAnyLast P md ops Q S ds fuel (upTo n (k + 1)) a' w) : wpAnyLast P md ops Q S ds (fuel + 1) (upTo n k) a w := take_ _ hi hN hc hQ hy hS ha h
end

/-! ### 3. The walk -/
def lenOf : Value → Nat
  | .slice _ n _ => n
  | _ => 0

set_option linter.unusedSimpArgs false
set_option linter.unusedVariables false
set_option maxHeartbeats 4000000 in
set_option maxRecDepth 100000 in
theorem enc_calls (row : List Int) (A0 : Option Addr) (c0 : Nat) (w : World) (hr : Kd.C (Kd.int .u8) w A0 row.length row) (hc : row.length ≤ c0) (hl : row.length ≤ 100) (hby : ∀ x ∈ row, IsByte x) :
    Calls Try.prog 5 #[.slice A0 row.length c0] w fun e w' => e = .returned (.string (strOfNums (encL row))) ∧ Below w.heap.size w w' := by
  have HR := Aside0.mk hr
  have HC := Aside0.mk hc
  have HL := Aside0.mk hl
  have HY := Aside0.mk hby
  have HE := Aside0.mk (encL_len row)
  clear hr hc hl hby
  obtain ⟨i0, hi0, hz0, hz1, hz2⟩ := info_parts info5
  have HI := Aside0.mk hi0
  have HZ0 := Aside0.mk hz0
  have HZ1 := Aside0.mk hz1
  have HZ2 := Aside0.mk hz2
  clear hi0 hz0 hz1 hz2
  go_enter Try.func5, Try.ntmps5
  go_wp2
  go_loopw [0, 3] (fun b out wr => ∃ (rest acc : List Int) (A : Option Addr) (c : Nat), b = .slice A rest.length c ∧ Aside0 (rest.length ≤ c ∧ rest.length ≤ 100 ∧ Kd.C (Kd.int .u8) w A rest.length rest ∧ (∀ x ∈ rest, IsByte x) ∧ acc ++ encL rest = encL row) ∧
      Aside0 (wr.ownsRow w.heap.size 5 1 out acc.length (nums .u8 acc)) ∧ Aside0 (Below w.heap.size w wr))
    (fun b _ _ => lenOf b)
  case atStart => exact ⟨row, [], A0, c0, rfl, ⟨HC.out, HL.out, HR.out, HY.out, rfl⟩, ⟨World.ownsRow_made w #[] 0 (Nat.le_refl _) (Nat.zero_le _) rfl⟩, ⟨(Below.refl _ _).alloc (Nat.le_refl _) _⟩⟩
  case round =>
    obtain ⟨rest, acc, A, c, rfl, H1, HO, HB⟩ := hrel
    have hacc := congrArg List.length H1.out.2.2.2.2
    rw [List.length_append] at hacc
    have HA := Aside0.mk (show acc.length ≤ 200 by have := HE.out; have := HL.out; omega)
    clear hacc
    match rest, H1 with
    | [], H1 =>
      have hcv := own_string (P := Try.prog) (src := 24) (dst := 9) (e := 5) Try.underlying24 Try.underlying5 Try.underlying9 HO.out
      go_wp2
      go_ret
      exact ⟨by have := H1.out.2.2.2.2; rw [← this]; simp [encL], HB.out⟩
    | [x], H1 =>
      have hC := H1.out.2.2.1
      obtain ⟨ad, e0, hx0⟩ := Kd.at_int hC 0 (by omega) (by simp)
      subst e0
      replace hx0 : w.cell? ad = some (.int .u8 x) := by rw [show ((0 : Int)).toNat = 0 from rfl, Addr.add_zero'] at hx0; exact hx0
      replace hx0 := (HB.out.cell (World.block_lt_of_cell? w _ hx0)).trans hx0
      have b0 := H1.out.2.2.2.1 x (by simp)
      have hn : [x].length = 1 := rfl
      obtain ⟨n, hnn⟩ : ∃ n, n = [x].length := ⟨_, rfl⟩
      rw [← hnn] at hn ⊢
      have n0 : (0 : Int) < (n : Int) := by omega
      have n0' : 0 < n := by omega
      have m3 : decide ((3 : Int) ≤ (n : Int)) = false := decide_eq_false (by omega)
      have m3' : decide (3 ≤ n) = false := decide_eq_false (by omega)
      have m1 : ((n : Int) == 1) = true := beq_iff_eq.2 (by omega)
      clear hC hn hnn
      have q0 := b0.1
      have q0' := b0.2
      have a1 := and3 x b0
      have wx := wrap4 x
      clear b0
      have r0 : 0 ≤ x / 4 := by omega
      have r0' : x / 4 < 64 := by omega
      have r1 : 0 ≤ x % 4 * 16 := by omega
      have r1' : x % 4 * 16 < 64 := by omega
      have t0 := letter_rule (x / 4)
      have t1 := letter_rule (x % 4 * 16)
      go_wp2
      have HO1 := Aside0.mk (HO.out.drew)
      have HB1 := Aside0.mk (below_drew1 HB.out)
      replace hx0 : wr.drew.cell? ad = some (.int .u8 x) := hx0
      refine start_ (n := 15) (S := fun w' => w'.cell? ad = some (.int .u8 x)) (ds := [13]) (upTo 15 0) (by kernel_rfl) rfl (by kernel_rfl) hx0 (fun hHeld => ?_)
      clear HO HB
      generalize wr.drew = wd at HO1 HB1 hx0 hHeld ⊢
      iterate 12 (first
          | (refine pure_k (v := ?_) (a' := ?_) rfl rfl (by kernel_rfl) (fun _ _ _ h => h) (Or.inl ⟨by rfl, ?_⟩) ?_ ?_
             rotate_left
             · intro w'
               go_simp
               with_reducible rfl
             rotate_left
             · simp only [Act.put, List.setIfInBounds_toArray, List.set_cons_zero, List.set_cons_succ]
               rfl)
          | (refine take_k (v := ?_) (a' := ?_) rfl rfl (by kernel_rfl) (fun _ _ _ h => h) (Or.inl ⟨by rfl, ?_⟩) hHeld ?_ ?_
             rotate_left
             · rintro w' s0
               go_simp
               with_reducible rfl
             rotate_left
             · simp only [Act.put, List.setIfInBounds_toArray, List.set_cons_zero, List.set_cons_succ]
               rfl))
      refine one_ (i := 12) (N := some 61) (upTo 15 13) rfl rfl (by kernel_rfl) (by decide) (fun K hK => ?_)
      go_simp
      have hba := below_alloc (Below.refl wd.heap.size wd) (Obj.cells #[Value.int .u8 (bt alphabet (x / 4)), Value.int .u8 (bt alphabet (x % 4 * 16))] 5)
      refine hK.out _ _ ((hba.cell (World.block_lt_of_cell? _ _ hx0)).trans hx0) (fun hHeld => ?_)
      clear hK K hHeld hba
      refine last_ (i := 13) (N := some 62) (upTo 15 14) rfl rfl (by kernel_rfl) (by decide) (fun K hK => ?_)
      refine step_append_lies _ (by rfl) _ _ _ (by rfl) w.heap.size 5 i0 _ 1 1 Try.underlying24 HI.out HZ0.out HZ1.out HZ2.out rfl (by omega) u3 acc.length (nums .u8 acc) (by rfl) (HO1.out.alloc _) ⟨wd.heap.size, 0, none⟩ 2 2 [.int .u8 (bt alphabet (x / 4)), .int .u8 (bt alphabet (x % 4 * 16))] (by rfl) (by rfl) (World.news_of_block (t := 5) (fr := (0, 0)) (heap_alloc_new wd _)) (by simp [Value.oneCell']) (by omega) (by unfold maxLen; have := HA.out; omega) (by have := HA.out; omega) (by have := HB1.out.size; simp; omega) (wd.heap.size + 1) (by simp) ?_
      intro gg cap w1 hown1 hgrow hat hlt
      have HB2 := Aside0.mk (HB1.out.alloc HB1.out.size _ |>.grown hgrow (by have := HB1.out.size; simp; omega) (own_base HO1.out))
      have HO3 := Aside0.mk (show w1.ownsRow w.heap.size 5 1 (.slice (some ⟨gg, 0, none⟩) (acc.length + 2) cap) (acc ++ [bt alphabet (x / 4), bt alphabet (x % 4 * 16)]).length (nums .u8 (acc ++ [bt alphabet (x / 4), bt alphabet (x % 4 * 16)])) by rw [List.length_append, nums_append]; exact hown1)
      clear hown1 hgrow hat hlt HO1 HB1 hx0
      refine hK.out _ _ ?_
      clear hK K
      refine norm_ (a' := ?_) ?_ ?_
      rotate_left
      · simp only [Act.put, List.setIfInBounds_toArray, List.set_cons_zero, List.set_cons_succ]
        rfl
      refine pure_k (k := 14) (v := ?_) (a' := ?_) rfl rfl (by kernel_rfl) (fun _ _ _ h => h) (Or.inl ⟨by rfl, ?_⟩) ?_ ?_
      rotate_left
      · intro w'
        go_simp
        with_reducible rfl
      rotate_left
      · simp only [Act.put, List.setIfInBounds_toArray, List.set_cons_zero, List.set_cons_succ]
        rfl
      refine done_ (by kernel_rfl) ?_
      have hcv := own_string (P := Try.prog) (src := 24) (dst := 9) (e := 5) Try.underlying24 Try.underlying5 Try.underlying9 HO3.out
      go_wp2
      go_ret
      exact ⟨by have := H1.out.2.2.2.2; rw [← this]; simp [encL], HB2.out⟩
    | [x, y], H1 =>
      have hC := H1.out.2.2.1
      obtain ⟨ad, e0, hx0⟩ := Kd.at_int hC 0 (by omega) (by simp)
      obtain ⟨ad1, e1, hx1⟩ := Kd.at_int hC 1 (by omega) (by simp)
      subst e0
      obtain rfl : ad = ad1 := by injection e1
      replace hx0 : w.cell? ad = some (.int .u8 x) := by rw [show ((0 : Int)).toNat = 0 from rfl, Addr.add_zero'] at hx0; exact hx0
      replace hx1 : w.cell? ⟨ad.block, ad.off + 1, none⟩ = some (.int .u8 y) := by simp only [show (1 : Int).toNat = 1 from rfl, Nat.reduceEqDiff, Go.Addr.add, ↓reduceIte] at hx1; exact hx1
      replace hx0 := (HB.out.cell (World.block_lt_of_cell? w _ hx0)).trans hx0
      replace hx1 := (HB.out.cell (World.block_lt_of_cell? w _ hx1)).trans hx1
      have b0 := H1.out.2.2.2.1 x (by simp)
      have b1 := H1.out.2.2.2.1 y (by simp)
      have hn : [x, y].length = 2 := rfl
      obtain ⟨n, hnn⟩ : ∃ n, n = [x, y].length := ⟨_, rfl⟩
      rw [← hnn] at hn ⊢
      have n0 : (0 : Int) < (n : Int) := by omega
      have n0' : 0 < n := by omega
      have n1 : (1 : Int) < (n : Int) := by omega
      have m3 : decide ((3 : Int) ≤ (n : Int)) = false := decide_eq_false (by omega)
      have m3' : decide (3 ≤ n) = false := decide_eq_false (by omega)
      have m1 : ((n : Int) == 1) = false := beq_eq_false_iff_ne.2 (by omega)
      have m2 : ((n : Int) == 2) = true := beq_iff_eq.2 (by omega)
      clear hC hn hnn e1
      have q0 := b0.1
      have q0' := b0.2
      have q1 := b1.1
      have q1' := b1.2
      have a1 := and3 x b0
      have a2 := and15 y b1
      have wx := wrap4 x
      have wy := wrap2 y
      have o1 := or4 x y b1
      clear b0 b1
      have r0 : 0 ≤ x / 4 := by omega
      have r0' : x / 4 < 64 := by omega
      have r1 : 0 ≤ x % 4 * 16 + y / 16 := by omega
      have r1' : x % 4 * 16 + y / 16 < 64 := by omega
      have r2 : 0 ≤ y % 16 * 4 := by omega
      have r2' : y % 16 * 4 < 64 := by omega
      have t0 := letter_rule (x / 4)
      have t1 := letter_rule (x % 4 * 16 + y / 16)
      have t2 := letter_rule (y % 16 * 4)
      go_wp2
      have HO1 := Aside0.mk (HO.out.drew)
      have HB1 := Aside0.mk (below_drew1 HB.out)
      replace hx0 : wr.drew.cell? ad = some (.int .u8 x) := hx0
      replace hx1 : wr.drew.cell? ⟨ad.block, ad.off + 1, none⟩ = some (.int .u8 y) := hx1
      refine start_ (n := 26) (S := fun w' => w'.cell? ad = some (.int .u8 x) ∧ w'.cell? ⟨ad.block, ad.off + 1, none⟩ = some (.int .u8 y)) (ds := [24]) (upTo 26 0) (by kernel_rfl) rfl (by kernel_rfl) ⟨hx0, hx1⟩ (fun hHeld => ?_)
      clear HO HB
      generalize wr.drew = wd at HO1 HB1 hx0 hx1 hHeld ⊢
      iterate 23 (first
          | (refine pure_k (v := ?_) (a' := ?_) rfl rfl (by kernel_rfl) (fun _ _ _ h => h) (Or.inl ⟨by rfl, ?_⟩) ?_ ?_
             rotate_left
             · intro w'
               go_simp
               with_reducible rfl
             rotate_left
             · simp only [Act.put, List.setIfInBounds_toArray, List.set_cons_zero, List.set_cons_succ]
               rfl)
          | (refine take_k (v := ?_) (a' := ?_) rfl rfl (by kernel_rfl) (fun _ _ _ h => h) (Or.inl ⟨by rfl, ?_⟩) hHeld ?_ ?_
             rotate_left
             · rintro w' ⟨s0, s1⟩
               go_simp
               with_reducible rfl
             rotate_left
             · simp only [Act.put, List.setIfInBounds_toArray, List.set_cons_zero, List.set_cons_succ]
               rfl))
      refine one_ (i := 23) (N := some 88) (upTo 26 24) rfl rfl (by kernel_rfl) (by decide) (fun K hK => ?_)
      go_simp
      have hba := below_alloc (Below.refl wd.heap.size wd) (Obj.cells #[Value.int .u8 (bt alphabet (x / 4)), Value.int .u8 (bt alphabet (x % 4 * 16 + y / 16)), Value.int .u8 (bt alphabet (y % 16 * 4))] 5)
      refine hK.out _ _ ⟨(hba.cell (World.block_lt_of_cell? _ _ hx0)).trans hx0, (hba.cell (World.block_lt_of_cell? _ _ hx1)).trans hx1⟩ (fun hHeld => ?_)
      clear hK K hHeld hba
      refine last_ (i := 24) (N := some 89) (upTo 26 25) rfl rfl (by kernel_rfl) (by decide) (fun K hK => ?_)
      refine step_append_lies _ (by rfl) _ _ _ (by rfl) w.heap.size 5 i0 _ 1 1 Try.underlying24 HI.out HZ0.out HZ1.out HZ2.out rfl (by omega) u3 acc.length (nums .u8 acc) (by rfl) (HO1.out.alloc _) ⟨wd.heap.size, 0, none⟩ 3 3 [.int .u8 (bt alphabet (x / 4)), .int .u8 (bt alphabet (x % 4 * 16 + y / 16)), .int .u8 (bt alphabet (y % 16 * 4))] (by rfl) (by rfl) (World.news_of_block (t := 5) (fr := (0, 0)) (heap_alloc_new wd _)) (by simp [Value.oneCell']) (by omega) (by unfold maxLen; have := HA.out; omega) (by have := HA.out; omega) (by have := HB1.out.size; simp; omega) (wd.heap.size + 1) (by simp) ?_
      intro gg cap w1 hown1 hgrow hat hlt
      have HB2 := Aside0.mk (HB1.out.alloc HB1.out.size _ |>.grown hgrow (by have := HB1.out.size; simp; omega) (own_base HO1.out))
      have HO3 := Aside0.mk (show w1.ownsRow w.heap.size 5 1 (.slice (some ⟨gg, 0, none⟩) (acc.length + 3) cap) (acc ++ [bt alphabet (x / 4), bt alphabet (x % 4 * 16 + y / 16), bt alphabet (y % 16 * 4)]).length (nums .u8 (acc ++ [bt alphabet (x / 4), bt alphabet (x % 4 * 16 + y / 16), bt alphabet (y % 16 * 4)])) by rw [List.length_append, nums_append]; exact hown1)
      clear hown1 hgrow hat hlt HO1 HB1 hx0 hx1
      refine hK.out _ _ ?_
      clear hK K
      refine norm_ (a' := ?_) ?_ ?_
      rotate_left
      · simp only [Act.put, List.setIfInBounds_toArray, List.set_cons_zero, List.set_cons_succ]
        rfl
      refine pure_k (k := 25) (v := ?_) (a' := ?_) rfl rfl (by kernel_rfl) (fun _ _ _ h => h) (Or.inl ⟨by rfl, ?_⟩) ?_ ?_
      rotate_left
      · intro w'
        go_simp
        with_reducible rfl
      rotate_left
      · simp only [Act.put, List.setIfInBounds_toArray, List.set_cons_zero, List.set_cons_succ]
        rfl
      refine done_ (by kernel_rfl) ?_
      have hcv := own_string (P := Try.prog) (src := 24) (dst := 9) (e := 5) Try.underlying24 Try.underlying5 Try.underlying9 HO3.out
      go_wp2
      go_ret
      exact ⟨by have := H1.out.2.2.2.2; rw [← this]; simp [encL], HB2.out⟩
    | x :: y :: z :: r, H1 =>
      have hC := H1.out.2.2.1
      obtain ⟨ad, e0, hx0⟩ := Kd.at_int hC 0 (by omega) (by simp only [List.length_cons]; omega)
      obtain ⟨ad1, e1, hx1⟩ := Kd.at_int hC 1 (by omega) (by simp only [List.length_cons]; omega)
      obtain ⟨ad2, e2, hx2⟩ := Kd.at_int hC 2 (by omega) (by simp only [List.length_cons]; omega)
      subst e0
      obtain rfl : ad = ad1 := by injection e1
      obtain rfl : ad = ad2 := by injection e2
      replace hx0 : w.cell? ad = some (.int .u8 x) := by rw [show ((0 : Int)).toNat = 0 from rfl, Addr.add_zero'] at hx0; exact hx0
      replace hx1 : w.cell? ⟨ad.block, ad.off + 1, none⟩ = some (.int .u8 y) := by simp only [show (1 : Int).toNat = 1 from rfl, Nat.reduceEqDiff, Go.Addr.add, ↓reduceIte] at hx1; exact hx1
      replace hx2 : w.cell? ⟨ad.block, ad.off + 2, none⟩ = some (.int .u8 z) := by simp only [show (2 : Int).toNat = 2 from rfl, Nat.reduceEqDiff, Go.Addr.add, ↓reduceIte] at hx2; exact hx2
      have hlt : ad.block < w.heap.size := World.block_lt_of_cell? w _ hx0
      replace hx0 := (HB.out.cell (World.block_lt_of_cell? w _ hx0)).trans hx0
      replace hx1 := (HB.out.cell (World.block_lt_of_cell? w _ hx1)).trans hx1
      replace hx2 := (HB.out.cell (World.block_lt_of_cell? w _ hx2)).trans hx2
      have b0 := H1.out.2.2.2.1 x (by simp)
      have b1 := H1.out.2.2.2.1 y (by simp)
      have b2 := H1.out.2.2.2.1 z (by simp)
      have LT := Aside0.mk hlt
      have hn : (x :: y :: z :: r).length = r.length + 3 := rfl
      obtain ⟨n, hnn⟩ : ∃ n, n = (x :: y :: z :: r).length := ⟨_, rfl⟩
      rw [← hnn] at hn ⊢
      have n0 : (0 : Int) < (n : Int) := by omega
      have n0' : 0 < n := by omega
      have n1 : (1 : Int) < (n : Int) := by omega
      have n2 : (2 : Int) < (n : Int) := by omega
      have n3 : (3 : Int) ≤ (n : Int) := by omega
      have HN := Aside0.mk hn
      have HNN := Aside0.mk hnn
      clear hC e1 e2 hlt hn hnn
      have q0 := b0.1
      have q0' := b0.2
      have q1 := b1.1
      have q1' := b1.2
      have q2 := b2.1
      have q2' := b2.2
      have a1 := and3 x b0
      have a2 := and15 y b1
      have a3 := and63 z b2
      have wx := wrap4 x
      have wy := wrap2 y
      have o1 := or4 x y b1
      have o2 := or2 y z b2
      clear b0 b1 b2
      have r0 : 0 ≤ x / 4 := by omega
      have r0' : x / 4 < 64 := by omega
      have r1 : 0 ≤ x % 4 * 16 + y / 16 := by omega
      have r1' : x % 4 * 16 + y / 16 < 64 := by omega
      have r2 : 0 ≤ y % 16 * 4 + z / 64 := by omega
      have r2' : y % 16 * 4 + z / 64 < 64 := by omega
      have r3 : 0 ≤ z % 64 := by omega
      have r3' : z % 64 < 64 := by omega
      have t0 := letter_rule (x / 4)
      have t1 := letter_rule (x % 4 * 16 + y / 16)
      have t2 := letter_rule (y % 16 * 4 + z / 64)
      have t3 := letter_rule (z % 64)
      go_wp2
      have HO1 := Aside0.mk (HO.out.drew)
      have HB1 := Aside0.mk (below_drew1 HB.out)
      replace hx0 : wr.drew.cell? ad = some (.int .u8 x) := hx0
      replace hx1 : wr.drew.cell? ⟨ad.block, ad.off + 1, none⟩ = some (.int .u8 y) := hx1
      replace hx2 : wr.drew.cell? ⟨ad.block, ad.off + 2, none⟩ = some (.int .u8 z) := hx2
      refine start_ (n := 36) (S := fun w' => w'.cell? ad = some (.int .u8 x) ∧ w'.cell? ⟨ad.block, ad.off + 1, none⟩ = some (.int .u8 y) ∧ w'.cell? ⟨ad.block, ad.off + 2, none⟩ = some (.int .u8 z)) (ds := [34]) (upTo 36 0) (by kernel_rfl) rfl (by kernel_rfl) ⟨hx0, hx1, hx2⟩ (fun hHeld => ?_)
      clear HO HB
      generalize wr.drew = wd at HO1 HB1 hx0 hx1 hx2 hHeld ⊢
      iterate 33 (first
          | (refine pure_k (v := ?_) (a' := ?_) rfl rfl (by kernel_rfl) (fun _ _ _ h => h) (Or.inl ⟨by rfl, ?_⟩) ?_ ?_
             rotate_left
             · intro w'
               go_simp
               with_reducible rfl
             rotate_left
             · simp only [Act.put, List.setIfInBounds_toArray, List.set_cons_zero, List.set_cons_succ]
               rfl)
          | (refine take_k (v := ?_) (a' := ?_) rfl rfl (by kernel_rfl) (fun _ _ _ h => h) (Or.inl ⟨by rfl, ?_⟩) hHeld ?_ ?_
             rotate_left
             · rintro w' ⟨s0, s1, s2⟩
               go_simp
               with_reducible rfl
             rotate_left
             · simp only [Act.put, List.setIfInBounds_toArray, List.set_cons_zero, List.set_cons_succ]
               rfl))
      refine one_ (i := 33) (N := some 43) (upTo 36 34) rfl rfl (by kernel_rfl) (by decide) (fun K hK => ?_)
      go_simp
      have hba := below_alloc (Below.refl wd.heap.size wd) (Obj.cells #[Value.int .u8 (bt alphabet (x / 4)), Value.int .u8 (bt alphabet (x % 4 * 16 + y / 16)), Value.int .u8 (bt alphabet (y % 16 * 4 + z / 64)), Value.int .u8 (bt alphabet (z % 64))] 5)
      refine hK.out _ _ ⟨(hba.cell (World.block_lt_of_cell? _ _ hx0)).trans hx0, (hba.cell (World.block_lt_of_cell? _ _ hx1)).trans hx1, (hba.cell (World.block_lt_of_cell? _ _ hx2)).trans hx2⟩ (fun hHeld => ?_)
      clear hK K hHeld hba
      refine last_ (i := 34) (N := some 44) (upTo 36 35) rfl rfl (by kernel_rfl) (by decide) (fun K hK => ?_)
      refine step_append_lies _ (by rfl) _ _ _ (by rfl) w.heap.size 5 i0 _ 1 1 Try.underlying24 HI.out HZ0.out HZ1.out HZ2.out rfl (by omega) u3 acc.length (nums .u8 acc) (by rfl) (HO1.out.alloc _) ⟨wd.heap.size, 0, none⟩ 4 4 [.int .u8 (bt alphabet (x / 4)), .int .u8 (bt alphabet (x % 4 * 16 + y / 16)), .int .u8 (bt alphabet (y % 16 * 4 + z / 64)), .int .u8 (bt alphabet (z % 64))] (by rfl) (by rfl) (World.news_of_block (t := 5) (fr := (0, 0)) (heap_alloc_new wd _)) (by simp [Value.oneCell']) (by omega) (by unfold maxLen; have := HA.out; omega) (by have := HA.out; omega) (by have := HB1.out.size; simp; omega) (wd.heap.size + 1) (by simp) ?_
      intro gg cap w1 hown1 hgrow hat hlt
      have HO2 := Aside0.mk hown1
      have HB2 := Aside0.mk (HB1.out.alloc HB1.out.size _ |>.grown hgrow (by have := HB1.out.size; simp; omega) (own_base HO1.out))
      clear hown1 hgrow hat hlt HO1 HB1 hx0 hx1 hx2
      refine hK.out _ _ ?_
      clear hK K
      refine norm_ (a' := ?_) ?_ ?_
      rotate_left
      · simp only [Act.put, List.setIfInBounds_toArray, List.set_cons_zero, List.set_cons_succ]
        rfl
      refine pure_k (k := 35) (v := ?_) (a' := ?_) rfl rfl (by kernel_rfl) (fun _ _ _ h => h) (Or.inl ⟨by rfl, ?_⟩) ?_ ?_
      rotate_left
      · intro w'
        go_simp
        with_reducible rfl
      rotate_left
      · simp only [Act.put, List.setIfInBounds_toArray, List.set_cons_zero, List.set_cons_succ]
        rfl
      refine done_ (by kernel_rfl) ?_
      clear t0 t1 t2 t3 a1 a2 a3 wx wy o1 o2 r0 r0' r1 r1' r2 r2' r3 r3' q0 q0' q1 q1' q2 q2'
      have hcut := cut_from (P := Try.prog) 24 5 .i64 Try.underlying24 HI.out 1 HZ1.out (some ad) n c 3 (by omega) n3
      obtain ⟨A1, hA1⟩ : ∃ A1, A1 = (if c = Int.toNat 3 then some ad else Option.map (fun x => x.add (Int.toNat 3 * 1)) (some ad)) := ⟨_, rfl⟩
      obtain ⟨c1, hc1⟩ : ∃ c1, c1 = c - Int.toNat 3 := ⟨_, rfl⟩
      have hn3 : n - Int.toNat 3 = r.length := by
        have := HN.out
        show n - 3 = _
        omega
      rw [← hA1, ← hc1, hn3] at hcut
      have HCr := Aside0.mk (show Kd.C (Kd.int .u8) w A1 r.length r by rw [hA1]; exact Kd.C_drop (m := 3) (c := c) H1.out.2.2.1 (by simp only [List.length_cons]; omega) H1.out.1)
      have HL1 := Aside0.mk (show r.length ≤ c1 by have := HN.out; have := HNN.out; have := H1.out.1; have h3 : Int.toNat 3 = 3 := rfl; rw [hc1, h3]; omega)
      have HO3 := Aside0.mk (show w1.ownsRow w.heap.size 5 1 (.slice (some ⟨gg, 0, none⟩) (acc.length + 4) cap) (acc ++ [bt alphabet (x / 4), bt alphabet (x % 4 * 16 + y / 16), bt alphabet (y % 16 * 4 + z / 64), bt alphabet (z % 64)]).length (nums .u8 (acc ++ [bt alphabet (x / 4), bt alphabet (x % 4 * 16 + y / 16), bt alphabet (y % 16 * 4 + z / 64), bt alphabet (z % 64)])) by rw [List.length_append, nums_append]; exact HO2.out)
      clear hA1 hc1 hn3 hHeld
      go_wp2
      go_roundw
      case rel => exact ⟨r, _, A1, c1, rfl, ⟨HL1.out, by have := H1.out.2.1; simp only [List.length_cons] at this; omega, HCr.out, fun b hb => H1.out.2.2.2.1 b (by simp [hb]), by rw [List.append_assoc]; exact H1.out.2.2.2.2⟩, ⟨HO3.out⟩, ⟨HB2.out⟩⟩
      case measure =>
        have := HN.out
        simp [lenOf]
        omega

end Go.Proofs.Ytmmnjlcepkkjeaa.Own
