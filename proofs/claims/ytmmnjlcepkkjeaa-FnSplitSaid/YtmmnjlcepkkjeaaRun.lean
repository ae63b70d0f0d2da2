/- The walk through laws.FnSplit at every list of lists of bytes, read from whatever memory: the call returns true; what was in memory stays as it was. -/
import Derived.Test.YtmmnjlcepkkjeaaPlain
import Derived.Laws.Strings
namespace Go.Proofs.Ytmmnjlcepkkjeaa.Own
open Go.RowKit Go.Proofs.YtmmnjlcepkkjeaaW.PrintWords Go.Proofs.YtmmnjlcepkkjeaaW.PrintLast Go.Proofs.YtmmnjlcepkkjeaaW.PrintMore
open Go.Proofs.Ytmmnjlcepkkjeaa.PFnSplit
set_option linter.unusedSimpArgs false
set_option linter.unusedVariables false

theorem row_at {w : World} {A : Option Addr} {rows : List (List Int)} (hC : Kd.C (Kd.slice 5 (Kd.int .u8)) w A rows.length rows) (i : Nat) (hi : i < rows.length) :
    ∃ ad Ai ci, A = some ad ∧ w.cell? (ad.add i) = some (.slice Ai (rows[i]).length ci) ∧ (rows[i]).length ≤ ci ∧ Kd.C (Kd.int .u8) w Ai (rows[i]).length rows[i] := by
  obtain ⟨ad, Ai, ci, e, hx, hl, hr⟩ := at_L1 hC (i : Int) (by omega) (by omega)
  have e1 : rd_L1 rows (i : Int) = rows[i] := by
    unfold rd_L1
    rw [Int.toNat_natCast, List.getD_eq_getElem?_getD, List.getElem?_eq_getElem hi]
    rfl
  rw [e1] at hx hl hr
  rw [Int.toNat_natCast] at hx
  exact ⟨ad, Ai, ci, e, hx, hl, hr⟩

theorem size_dot (s : ByteArray) : (s ++ (⟨#[46]⟩ : ByteArray)).size = s.size + 1 := by
  rw [ByteArray.size_append]
  rfl

theorem E_calls (row : List Int) (A0 : Option Addr) (c0 : Nat) (w : World) (hr : Kd.C (Kd.int .u8) w A0 row.length row) (hc : row.length ≤ c0) (hl : row.length ≤ 100) (hby : ∀ x ∈ row, IsByte x) :
    Calls Try.prog 5 #[.slice A0 row.length c0] w fun e w' => e = .returned (.string (E row)) ∧ Below w.heap.size w w' := enc_calls row A0 c0 w hr hc hl hby

theorem next_row (rows : List (List Int)) (i : Nat) (hi : i < rows.length) (s : ByteArray) (H : i ≤ rows.length ∧ (∀ j, j < i → ∀ h : j < rows.length, (rows[j]).length ≤ 100) ∧ s = joined ((rows.take i).map E) ∧ s.size ≤ 201 * i) (hl : (rows[i]).length ≤ 100)
    (t : ByteArray) (ht : t = if 0 < i then (s ++ (⟨#[46]⟩ : ByteArray)) ++ E rows[i] else s ++ E rows[i]) :
    i + 1 ≤ rows.length ∧ (∀ j, j < i + 1 → ∀ h : j < rows.length, (rows[j]).length ≤ 100) ∧ t = joined ((rows.take (i + 1)).map E) ∧ t.size ≤ 201 * (i + 1) := by
  obtain ⟨h1, h2, h3, h4⟩ := H
  have htake : (rows.take (i + 1)).map E = (rows.take i).map E ++ [E rows[i]] := by
    rw [List.take_succ_eq_append_getElem hi, List.map_append]
    rfl
  have hE := E_size rows[i]
  refine ⟨by omega, fun j hj h => ?_, ?_, ?_⟩
  · by_cases e : j = i
    · subst e
      exact hl
    · exact h2 j (by omega) h
  · rw [ht, htake]
    by_cases h0 : 0 < i
    · rw [if_pos h0, joined_snoc _ _ (by intro h; have h5 := congrArg List.length h; rw [List.length_map, List.length_take, List.length_nil] at h5; omega), h3]
    · rw [if_neg h0]
      obtain rfl : i = 0 := by omega
      rw [h3]
      apply bytes_ext
      simp [joinL, joined]
  · rw [ht]
    split
    · rw [ByteArray.size_append, size_dot]
      omega
    · rw [ByteArray.size_append]
      omega

set_option maxHeartbeats 1000000 in
set_option maxRecDepth 100000 in
/-- The ways that end ahead of the loop. -/
theorem early (rows : List (List Int)) (A0 : Option Addr) (c0 : Nat) (w : World) (k : Nat) (b : Bool) (hC : Kd.C (Kd.slice 5 (Kd.int .u8)) w A0 rows.length rows) (hc : rows.length ≤ c0)
    (hk : laws_zzFits1.f k rows = some b) (hb : b = false ∨ rows.length < 1 ∨ 10 < rows.length) :
    Calls Try.prog 3 #[.slice A0 rows.length c0] w fun e w' => e = .returned (.bool true) ∧ Below w.heap.size w w' := by
  have HC := Aside0.mk hC
  have HCC := Aside0.mk hc
  have HK := Aside0.mk hk
  clear hC hc hk
  cases b with
  | false =>
    clear hb
    go_enter Try.func3, Try.ntmps3
    go_wp2_with (go_at_call 4; refine (laws_zzFits1.calls k A0 c0 rows false _ HC.out HCC.out HK.out).mono ?_; rintro e w' ⟨rfl, ⟨nd, rfl⟩⟩)
    go_ret
    exact ⟨rfl, pw_below_drewN (Below.refl _ _) nd⟩
  | true =>
    by_cases h1 : rows.length < 1
    · have d1 : decide ((rows.length : Int) < 1) = true := decide_eq_true (by omega)
      have d1' : decide (rows.length < 1) = true := decide_eq_true h1
      clear hb h1
      go_enter Try.func3, Try.ntmps3
      go_wp2_with (go_at_call 4; refine (laws_zzFits1.calls k A0 c0 rows true _ HC.out HCC.out HK.out).mono ?_; rintro e w' ⟨rfl, ⟨nd, rfl⟩⟩)
      go_ret
      exact ⟨rfl, pw_below_drewN (Below.refl _ _) nd⟩
    · have h10 : 10 < rows.length := by
        rcases hb with hb | hb | hb
        · cases hb
        · exact absurd hb h1
        · exact hb
      have d1 : decide ((rows.length : Int) < 1) = false := decide_eq_false (by omega)
      have d1' : decide (rows.length < 1) = false := decide_eq_false h1
      have d2 : decide ((10 : Int) < (rows.length : Int)) = true := decide_eq_true (by omega)
      have d2' : decide (10 < rows.length) = true := decide_eq_true h10
      clear hb h1 h10
      go_enter Try.func3, Try.ntmps3
      go_wp2_with (go_at_call 4; refine (laws_zzFits1.calls k A0 c0 rows true _ HC.out HCC.out HK.out).mono ?_; rintro e w' ⟨rfl, ⟨nd, rfl⟩⟩)
      go_ret
      exact ⟨rfl, pw_below_drewN (Below.refl _ _) nd⟩

set_option maxHeartbeats 2000000 in
set_option maxRecDepth 100000 in
theorem main_walk (rows : List (List Int)) (A0 : Option Addr) (c0 : Nat) (w : World) (k : Nat) (hC : Kd.C (Kd.slice 5 (Kd.int .u8)) w A0 rows.length rows) (hc : rows.length ≤ c0)
    (hk : laws_zzFits1.f k rows = some true) (h1 : 1 ≤ rows.length) (h10 : rows.length ≤ 10) (hby : ∀ r ∈ rows, ∀ x ∈ r, IsByte x) :
    Calls Try.prog 3 #[.slice A0 rows.length c0] w fun e w' => e = .returned (.bool true) ∧ Below w.heap.size w w' := by
  have HC := Aside0.mk hC
  have HCC := Aside0.mk hc
  have HK := Aside0.mk hk
  have HY := Aside0.mk hby
  have d1 : decide ((rows.length : Int) < 1) = false := decide_eq_false (by omega)
  have d1' : decide (rows.length < 1) = false := decide_eq_false (by omega)
  have d2 : decide ((10 : Int) < (rows.length : Int)) = false := decide_eq_false (by omega)
  have d2' : decide (10 < rows.length) = false := decide_eq_false (by omega)
  have H1 := Aside0.mk h1
  clear hC hc hk hby h1
  go_enter Try.func3, Try.ntmps3
  go_wp2_with (go_at_call 4; refine (laws_zzFits1.calls k A0 c0 rows true _ HC.out HCC.out HK.out).mono ?_; rintro e w' ⟨rfl, ⟨nd, rfl⟩⟩)
  have HB0 := Aside0.mk (pw_below_drewN (Below.refl w.heap.size w) nd)
  generalize w.drewN nd = w0 at HB0 ⊢
  go_loopw [3, 23] (fun sv iv wr => ∃ (i : Nat) (s : ByteArray), sv = .string s ∧ iv = .int .i64 i ∧ Aside0 (i ≤ rows.length ∧ (∀ j, j < i → ∀ h : j < rows.length, (rows[j]).length ≤ 100) ∧ s = joined ((rows.take i).map E) ∧ s.size ≤ 201 * i) ∧ Aside0 (Below w.heap.size w wr))
    (fun _ iv _ => rows.length - (intOf iv).toNat)
  case atStart => exact ⟨0, ⟨#[]⟩, rfl, rfl, ⟨by omega, fun j hj => by omega, by apply bytes_ext; simp [joined_list, joinL], by simp [ByteArray.size]⟩, HB0⟩
  case round =>
    obtain ⟨i, s, rfl, rfl, H, HB⟩ := hrel
    by_cases hi : i < rows.length
    · obtain ⟨ad, Ai, ci, rfl, hx, hl, hr⟩ := row_at HC.out i hi
      replace hx := (HB.out.cell (World.block_lt_of_cell? w _ hx)).trans hx
      have HR := Aside0.mk (Kd.C_below hr HB.out)
      have HL := Aside0.mk hl
      have HBY := Aside0.mk (HY.out _ (List.getElem_mem hi))
      have HE := Aside0.mk (E_size rows[i])
      obtain ⟨row, hrow⟩ : ∃ row, row = rows[i] := ⟨_, rfl⟩
      rw [← hrow] at hx HR HL HBY HE
      have HW := Aside0.mk hrow
      clear hl hr hrow
      have p0 : (0 : Int) ≤ (i : Int) := by omega
      have p1 : (i : Int) < (rows.length : Int) := by omega
      by_cases hrl : 100 < row.length
      · have d3 : decide ((100 : Int) < (row.length : Int)) = true := decide_eq_true (by omega)
        have d3' : decide (100 < row.length) = true := decide_eq_true hrl
        clear hrl
        go_wp2
        go_ret
        exact ⟨rfl, HB.out⟩
      · have d3 : decide ((100 : Int) < (row.length : Int)) = false := decide_eq_false (by omega)
        have d3' : decide (100 < row.length) = false := decide_eq_false hrl
        have HRL := Aside0.mk (show row.length ≤ 100 by omega)
        clear hrl
        by_cases hi0 : 0 < i
        · have d4 : decide ((0 : Int) < (i : Int)) = true := decide_eq_true (by omega)
          have d4' : decide (0 < i) = true := decide_eq_true hi0
          have HI0 := Aside0.mk hi0
          clear hi0
          have z1 : (9223372036854775807 < s.size + 1) = False := eq_false (by have := H.out.2.2.2; omega)
          have z2 : (9223372036854775807 < s.size + 1 + (E row).size) = False := eq_false (by have := H.out.2.2.2; have := HE.out; have := HRL.out; omega)
          go_wp2_with (go_at_call 5; refine (E_calls row Ai ci _ HR.out HL.out HRL.out HBY.out).mono ?_; rintro e w' ⟨rfl, hbw⟩)
          go_roundw
          case rel => exact ⟨i + 1, _, rfl, by go_num, ⟨next_row rows i hi s H.out (by rw [← HW.out]; exact HRL.out) _ (by rw [if_pos HI0.out, ← HW.out])⟩, ⟨below_step HB.out hbw⟩⟩
          case measure =>
            simp [intOf]
            omega
        · have d4 : decide ((0 : Int) < (i : Int)) = false := decide_eq_false (by omega)
          have d4' : decide (0 < i) = false := decide_eq_false hi0
          have HI0 := Aside0.mk hi0
          clear hi0
          have z1 : (9223372036854775807 < s.size + (E row).size) = False := eq_false (by have := H.out.2.2.2; have := HE.out; have := HRL.out; omega)
          go_wp2_with (go_at_call 5; refine (E_calls row Ai ci _ HR.out HL.out HRL.out HBY.out).mono ?_; rintro e w' ⟨rfl, hbw⟩)
          go_roundw
          case rel => exact ⟨i + 1, _, rfl, by go_num, ⟨next_row rows i hi s H.out (by rw [← HW.out]; exact HRL.out) _ (by rw [if_neg HI0.out, ← HW.out])⟩, ⟨below_step HB.out hbw⟩⟩
          case measure =>
            simp [intOf]
            omega
    · obtain rfl : i = rows.length := by have := H.out.1; omega
      have hs : s = joined (rows.map E) := by
        have := H.out.2.2.1
        rwa [List.take_of_length_le (Nat.le_refl _)] at this
      have h100 : ∀ r ∈ rows, r.length ≤ 100 := by
        intro r hr
        obtain ⟨j, hj, rfl⟩ := List.mem_iff_getElem.1 hr
        exact H.out.2.1 j hj hj
      have hsp := split_tells (rows.map E) (by rw [List.length_map]; exact H1.out)
        (by
          intro e he
          obtain ⟨r, hr, rfl⟩ := List.mem_map.1 he
          exact E_noDot r (HY.out r hr))
        (by have := H.out.2.2.2; rw [← hs]; omega) 100001 (by omega)
      rw [List.length_map, ← hs] at hsp
      have habc := abc_tells 100001 (by omega)
      have HABC := Aside0.mk habc
      have HLEN := Aside0.mk h100
      clear habc h100 hi hs
      by_cases h3 : rows.length = 3
      · have hmap : rows.map E = [E rows[0], E rows[1], E rows[2]] := by
          match rows, h3 with
          | [a, b, c], _ => rfl
        rw [if_pos h3, decide_eq_true h3, hmap] at hsp
        have HSP := Aside0.mk hsp
        obtain ⟨ad, A0_, c0_, rfl, hx0, hl0, hr0⟩ := row_at HC.out 0 (by omega)
        obtain ⟨ad1, A1, c1, e1, hx1, hl1, hr1⟩ := row_at HC.out 1 (by omega)
        obtain rfl : ad = ad1 := by injection e1
        obtain ⟨ad2, A2, c2, e2, hx2, hl2, hr2⟩ := row_at HC.out 2 (by omega)
        obtain rfl : ad = ad2 := by injection e2
        have HRL0 := Aside0.mk (HLEN.out rows[0] (List.getElem_mem _))
        have HRL1 := Aside0.mk (HLEN.out rows[1] (List.getElem_mem _))
        have HRL2 := Aside0.mk (HLEN.out rows[2] (List.getElem_mem _))
        have HBY0 := Aside0.mk (HY.out rows[0] (List.getElem_mem _))
        have HBY1 := Aside0.mk (HY.out rows[1] (List.getElem_mem _))
        have HBY2 := Aside0.mk (HY.out rows[2] (List.getElem_mem _))
        have e3 : ((rows.length : Int) == 3) = true := beq_iff_eq.2 (by omega)
        have n0 : (0 : Int) < (rows.length : Int) := by omega
        have n0' : 0 < rows.length := by omega
        have n1 : (1 : Int) < (rows.length : Int) := by omega
        have n2 : (2 : Int) < (rows.length : Int) := by omega
        generalize rows[0] = row0 at HSP hx0 hl0 hr0 HRL0 HBY0
        generalize rows[1] = row1 at HSP hx1 hl1 hr1 HRL1 HBY1
        generalize rows[2] = row2 at HSP hx2 hl2 hr2 HRL2 HBY2
        have HL0 := Aside0.mk hl0
        have HL1 := Aside0.mk hl1
        have HL2 := Aside0.mk hl2
        have HR0 := Aside0.mk hr0
        have HR1 := Aside0.mk hr1
        have HR2 := Aside0.mk hr2
        rw [Addr.add_zero'] at hx0
        simp only [Nat.reduceEqDiff, Go.Addr.add, ↓reduceIte] at hx1 hx2
        have HX0 := Aside0.mk hx0
        have HX1 := Aside0.mk hx1
        have HX2 := Aside0.mk hx2
        clear hsp hmap h3 e1 e2 hl0 hl1 hl2 hr0 hr1 hr2 hx0 hx1 hx2
        go_wp2_with fail
        refine (impl_Split.calls 100001 _ _ true _ HSP.out).mono ?_
        rintro e w1 ⟨v1, rfl, hR1, hb1⟩
        have HB1 := Aside0.mk (below_step HB.out hb1)
        obtain ⟨B1, k1, hv1⟩ := Kd.R_slice hR1
        subst hv1
        have HP := Aside0.mk (Kd.R_reads' hR1).2.2
        clear hb1 hR1
        go_wp2_with fail
        refine (impl_Split.calls 100001 _ _ true _ HABC.out).mono ?_
        rintro e w2 ⟨v2, rfl, hR2, hb2⟩
        have HB2 := Aside0.mk (below_step HB1.out hb2)
        have HP2 := Aside0.mk (Kd.C_below HP.out hb2)
        obtain ⟨B2, k2, hv2⟩ := Kd.R_slice hR2
        subst hv2
        clear hb2 hR2 HP
        go_wp2_with fail
        obtain ⟨pa, ep, hp0⟩ := Kd.at_string HP2.out 0 (by omega) (by simp)
        obtain ⟨pa1, ep1, hp1⟩ := Kd.at_string HP2.out 1 (by omega) (by simp)
        obtain ⟨pa2, ep2, hp2⟩ := Kd.at_string HP2.out 2 (by omega) (by simp)
        subst ep
        obtain rfl : pa = pa1 := by injection ep1
        obtain rfl : pa = pa2 := by injection ep2
        have hp0 : w2.drew.cell? pa = some (.string (E row0)) := by rw [show ((0 : Int)).toNat = 0 from rfl, Addr.add_zero'] at hp0; exact hp0
        have hp1 : w2.drew.cell? ⟨pa.block, pa.off + 1, none⟩ = some (.string (E row1)) := by simp only [show (1 : Int).toNat = 1 from rfl, Nat.reduceEqDiff, Go.Addr.add, ↓reduceIte] at hp1; exact hp1
        have hp2 : w2.drew.cell? ⟨pa.block, pa.off + 2, none⟩ = some (.string (E row2)) := by simp only [show (2 : Int).toNat = 2 from rfl, Nat.reduceEqDiff, Go.Addr.add, ↓reduceIte] at hp2; exact hp2
        have hx0 : w2.drew.cell? ad = some (.slice A0_ row0.length c0_) := (HB2.out.cell (World.block_lt_of_cell? w _ HX0.out)).trans HX0.out
        have hx1 : w2.drew.cell? ⟨ad.block, ad.off + 1, none⟩ = some (.slice A1 row1.length c1) := (HB2.out.cell (World.block_lt_of_cell? w _ HX1.out)).trans HX1.out
        have hx2 : w2.drew.cell? ⟨ad.block, ad.off + 2, none⟩ = some (.slice A2 row2.length c2) := (HB2.out.cell (World.block_lt_of_cell? w _ HX2.out)).trans HX2.out
        refine start_ (n := 38) (S := fun w' => w'.cell? pa = some (.string (E row0)) ∧ w'.cell? ⟨pa.block, pa.off + 1, none⟩ = some (.string (E row1)) ∧ w'.cell? ⟨pa.block, pa.off + 2, none⟩ = some (.string (E row2)) ∧ w'.cell? ad = some (.slice A0_ row0.length c0_) ∧ w'.cell? ⟨ad.block, ad.off + 1, none⟩ = some (.slice A1 row1.length c1) ∧ w'.cell? ⟨ad.block, ad.off + 2, none⟩ = some (.slice A2 row2.length c2)) (ds := []) (upTo 38 0) (by kernel_rfl) rfl (by kernel_rfl) ⟨hp0, hp1, hp2, hx0, hx1, hx2⟩ (fun hHeld => ?_)
        have HBd := Aside0.mk (below_drew1 HB2.out)
        clear hp0 hp1 hp2 hx0 hx1 hx2 ep1 ep2 HP2
        generalize w2.drew = wd at HBd hHeld ⊢
        refine pure_k (k := 0) (N := some 63) (v := ?_) (a' := ?_) rfl rfl (by kernel_rfl) (fun _ _ _ h => h) (Or.inl ⟨by rfl, ?_⟩) ?_ ?_
        rotate_left
        · intro w'
          go_simp
          with_reducible rfl
        rotate_left
        · simp only [Act.put, List.setIfInBounds_toArray, List.set_cons_zero, List.set_cons_succ]
          rfl
        refine pure_k (k := 1) (N := some 64) (v := ?_) (a' := ?_) rfl rfl (by kernel_rfl) (fun _ _ _ h => h) (Or.inl ⟨by rfl, ?_⟩) ?_ ?_
        rotate_left
        · intro w'
          go_simp
          with_reducible rfl
        rotate_left
        · simp only [Act.put, List.setIfInBounds_toArray, List.set_cons_zero, List.set_cons_succ]
          rfl
        refine pure_k (k := 2) (N := some 65) (v := ?_) (a' := ?_) rfl rfl (by kernel_rfl) (fun _ _ _ h => h) (Or.inl ⟨by rfl, ?_⟩) ?_ ?_
        rotate_left
        · intro w'
          go_simp
          with_reducible rfl
        rotate_left
        · simp only [Act.put, List.setIfInBounds_toArray, List.set_cons_zero, List.set_cons_succ]
          rfl
        refine pure_k (k := 3) (N := some 66) (v := ?_) (a' := ?_) rfl rfl (by kernel_rfl) (fun _ _ _ h => h) (Or.inl ⟨by rfl, ?_⟩) ?_ ?_
        rotate_left
        · intro w'
          go_simp
          with_reducible rfl
        rotate_left
        · simp only [Act.put, List.setIfInBounds_toArray, List.set_cons_zero, List.set_cons_succ]
          rfl
        refine pure_k (k := 4) (N := some 67) (v := ?_) (a' := ?_) rfl rfl (by kernel_rfl) (fun _ _ _ h => h) (Or.inl ⟨by rfl, ?_⟩) ?_ ?_
        rotate_left
        · intro w'
          go_simp
          with_reducible rfl
        rotate_left
        · simp only [Act.put, List.setIfInBounds_toArray, List.set_cons_zero, List.set_cons_succ]
          rfl
        refine pure_k (k := 5) (N := some 68) (v := ?_) (a' := ?_) rfl rfl (by kernel_rfl) (fun _ _ _ h => h) (Or.inl ⟨by rfl, ?_⟩) ?_ ?_
        rotate_left
        · intro w'
          go_simp
          with_reducible rfl
        rotate_left
        · simp only [Act.put, List.setIfInBounds_toArray, List.set_cons_zero, List.set_cons_succ]
          rfl
        refine pure_k (k := 6) (N := some 69) (v := ?_) (a' := ?_) rfl rfl (by kernel_rfl) (fun _ _ _ h => h) (Or.inl ⟨by rfl, ?_⟩) ?_ ?_
        rotate_left
        · intro w'
          go_simp
          with_reducible rfl
        rotate_left
        · simp only [Act.put, List.setIfInBounds_toArray, List.set_cons_zero, List.set_cons_succ]
          rfl
        refine pure_k (k := 7) (N := some 70) (v := ?_) (a' := ?_) rfl rfl (by kernel_rfl) (fun _ _ _ h => h) (Or.inl ⟨by rfl, ?_⟩) ?_ ?_
        rotate_left
        · intro w'
          go_simp
          with_reducible rfl
        rotate_left
        · simp only [Act.put, List.setIfInBounds_toArray, List.set_cons_zero, List.set_cons_succ]
          rfl
        refine pure_k (k := 8) (N := some 71) (v := ?_) (a' := ?_) rfl rfl (by kernel_rfl) (fun _ _ _ h => h) (Or.inl ⟨by rfl, ?_⟩) ?_ ?_
        rotate_left
        · intro w'
          go_simp
          with_reducible rfl
        rotate_left
        · simp only [Act.put, List.setIfInBounds_toArray, List.set_cons_zero, List.set_cons_succ]
          rfl
        refine take_k (k := 9) (N := some 72) (v := ?_) (a' := ?_) rfl rfl (by kernel_rfl) (fun _ _ _ h => h) (Or.inl ⟨by rfl, ?_⟩) hHeld ?_ ?_
        rotate_left
        · rintro w' ⟨s0, s1, s2, s3, s4, s5⟩
          go_simp
          with_reducible rfl
        rotate_left
        · simp only [Act.put, List.setIfInBounds_toArray, List.set_cons_zero, List.set_cons_succ]
          rfl
        refine pure_k (k := 10) (N := some 73) (v := ?_) (a' := ?_) rfl rfl (by kernel_rfl) (fun _ _ _ h => h) (Or.inl ⟨by rfl, ?_⟩) ?_ ?_
        rotate_left
        · intro w'
          go_simp
          with_reducible rfl
        rotate_left
        · simp only [Act.put, List.setIfInBounds_toArray, List.set_cons_zero, List.set_cons_succ]
          rfl
        refine pure_k (k := 11) (N := some 74) (v := ?_) (a' := ?_) rfl rfl (by kernel_rfl) (fun _ _ _ h => h) (Or.inl ⟨by rfl, ?_⟩) ?_ ?_
        rotate_left
        · intro w'
          go_simp
          with_reducible rfl
        rotate_left
        · simp only [Act.put, List.setIfInBounds_toArray, List.set_cons_zero, List.set_cons_succ]
          rfl
        refine take_k (k := 12) (N := some 75) (v := ?_) (a' := ?_) rfl rfl (by kernel_rfl) (fun _ _ _ h => h) (Or.inl ⟨by rfl, ?_⟩) hHeld ?_ ?_
        rotate_left
        · rintro w' ⟨s0, s1, s2, s3, s4, s5⟩
          go_simp
          with_reducible rfl
        rotate_left
        · simp only [Act.put, List.setIfInBounds_toArray, List.set_cons_zero, List.set_cons_succ]
          rfl
        refine one_ (i := 13) (N := some 76) (upTo 38 14) rfl rfl (by kernel_rfl) (by decide) (fun K hK => ?_)
        refine call_ 5 #[.slice A0_ row0.length c0_] (by rfl) rfl (by go_simp) ?_
        refine (E_calls row0 A0_ c0_ _ (Kd.C_below HR0.out HBd.out) HL0.out HRL0.out HBY0.out).mono ?_
        rintro e wn0 ⟨rfl, hbn⟩
        refine ⟨_, rfl, ?_⟩
        have HBe := Aside0.mk (below_step HBd.out hbn)
        refine hK.out _ _ ⟨(hbn.cell (World.block_lt_of_cell? _ _ hHeld.1)).trans hHeld.1, (hbn.cell (World.block_lt_of_cell? _ _ hHeld.2.1)).trans hHeld.2.1, (hbn.cell (World.block_lt_of_cell? _ _ hHeld.2.2.1)).trans hHeld.2.2.1, (hbn.cell (World.block_lt_of_cell? _ _ hHeld.2.2.2.1)).trans hHeld.2.2.2.1, (hbn.cell (World.block_lt_of_cell? _ _ hHeld.2.2.2.2.1)).trans hHeld.2.2.2.2.1, (hbn.cell (World.block_lt_of_cell? _ _ hHeld.2.2.2.2.2)).trans hHeld.2.2.2.2.2⟩ (fun hHeldn => ?_)
        clear hK K hHeld hbn HBd
        have HBd := HBe
        have hHeld := hHeldn
        clear HBe hHeldn
        refine norm_ (a' := ?_) ?_ ?_
        rotate_left
        · simp only [Act.put, List.setIfInBounds_toArray, List.set_cons_zero, List.set_cons_succ]
          rfl
        refine pure_k (k := 14) (N := some 77) (v := ?_) (a' := ?_) rfl rfl (by kernel_rfl) (fun _ _ _ h => h) (Or.inl ⟨by rfl, ?_⟩) ?_ ?_
        rotate_left
        · intro w'
          go_simp
          with_reducible rfl
        rotate_left
        · simp only [Act.put, List.setIfInBounds_toArray, List.set_cons_zero, List.set_cons_succ]
          rfl
        refine pure_k (k := 15) (N := some 78) (v := ?_) (a' := ?_) rfl rfl (by kernel_rfl) (fun _ _ _ h => h) (Or.inl ⟨by rfl, ?_⟩) ?_ ?_
        rotate_left
        · intro w'
          go_simp
          with_reducible rfl
        rotate_left
        · simp only [Act.put, List.setIfInBounds_toArray, List.set_cons_zero, List.set_cons_succ]
          rfl
        refine pure_k (k := 16) (N := some 79) (v := ?_) (a' := ?_) rfl rfl (by kernel_rfl) (fun _ _ _ h => h) (Or.inl ⟨by rfl, ?_⟩) ?_ ?_
        rotate_left
        · intro w'
          go_simp
          with_reducible rfl
        rotate_left
        · simp only [Act.put, List.setIfInBounds_toArray, List.set_cons_zero, List.set_cons_succ]
          rfl
        refine pure_k (k := 17) (N := some 80) (v := ?_) (a' := ?_) rfl rfl (by kernel_rfl) (fun _ _ _ h => h) (Or.inl ⟨by rfl, ?_⟩) ?_ ?_
        rotate_left
        · intro w'
          go_simp
          with_reducible rfl
        rotate_left
        · simp only [Act.put, List.setIfInBounds_toArray, List.set_cons_zero, List.set_cons_succ]
          rfl
        refine pure_k (k := 18) (N := some 81) (v := ?_) (a' := ?_) rfl rfl (by kernel_rfl) (fun _ _ _ h => h) (Or.inl ⟨by rfl, ?_⟩) ?_ ?_
        rotate_left
        · intro w'
          go_simp
          with_reducible rfl
        rotate_left
        · simp only [Act.put, List.setIfInBounds_toArray, List.set_cons_zero, List.set_cons_succ]
          rfl
        refine take_k (k := 19) (N := some 82) (v := ?_) (a' := ?_) rfl rfl (by kernel_rfl) (fun _ _ _ h => h) (Or.inl ⟨by rfl, ?_⟩) hHeld ?_ ?_
        rotate_left
        · rintro w' ⟨s0, s1, s2, s3, s4, s5⟩
          go_simp
          with_reducible rfl
        rotate_left
        · simp only [Act.put, List.setIfInBounds_toArray, List.set_cons_zero, List.set_cons_succ]
          rfl
        refine pure_k (k := 20) (N := some 83) (v := ?_) (a' := ?_) rfl rfl (by kernel_rfl) (fun _ _ _ h => h) (Or.inl ⟨by rfl, ?_⟩) ?_ ?_
        rotate_left
        · intro w'
          go_simp
          with_reducible rfl
        rotate_left
        · simp only [Act.put, List.setIfInBounds_toArray, List.set_cons_zero, List.set_cons_succ]
          rfl
        refine pure_k (k := 21) (N := some 84) (v := ?_) (a' := ?_) rfl rfl (by kernel_rfl) (fun _ _ _ h => h) (Or.inl ⟨by rfl, ?_⟩) ?_ ?_
        rotate_left
        · intro w'
          go_simp
          with_reducible rfl
        rotate_left
        · simp only [Act.put, List.setIfInBounds_toArray, List.set_cons_zero, List.set_cons_succ]
          rfl
        refine take_k (k := 22) (N := some 85) (v := ?_) (a' := ?_) rfl rfl (by kernel_rfl) (fun _ _ _ h => h) (Or.inl ⟨by rfl, ?_⟩) hHeld ?_ ?_
        rotate_left
        · rintro w' ⟨s0, s1, s2, s3, s4, s5⟩
          go_simp
          with_reducible rfl
        rotate_left
        · simp only [Act.put, List.setIfInBounds_toArray, List.set_cons_zero, List.set_cons_succ]
          rfl
        refine one_ (i := 23) (N := some 86) (upTo 38 24) rfl rfl (by kernel_rfl) (by decide) (fun K hK => ?_)
        refine call_ 5 #[.slice A1 row1.length c1] (by rfl) rfl (by go_simp) ?_
        refine (E_calls row1 A1 c1 _ (Kd.C_below HR1.out HBd.out) HL1.out HRL1.out HBY1.out).mono ?_
        rintro e wn1 ⟨rfl, hbn⟩
        refine ⟨_, rfl, ?_⟩
        have HBe := Aside0.mk (below_step HBd.out hbn)
        refine hK.out _ _ ⟨(hbn.cell (World.block_lt_of_cell? _ _ hHeld.1)).trans hHeld.1, (hbn.cell (World.block_lt_of_cell? _ _ hHeld.2.1)).trans hHeld.2.1, (hbn.cell (World.block_lt_of_cell? _ _ hHeld.2.2.1)).trans hHeld.2.2.1, (hbn.cell (World.block_lt_of_cell? _ _ hHeld.2.2.2.1)).trans hHeld.2.2.2.1, (hbn.cell (World.block_lt_of_cell? _ _ hHeld.2.2.2.2.1)).trans hHeld.2.2.2.2.1, (hbn.cell (World.block_lt_of_cell? _ _ hHeld.2.2.2.2.2)).trans hHeld.2.2.2.2.2⟩ (fun hHeldn => ?_)
        clear hK K hHeld hbn HBd
        have HBd := HBe
        have hHeld := hHeldn
        clear HBe hHeldn
        refine norm_ (a' := ?_) ?_ ?_
        rotate_left
        · simp only [Act.put, List.setIfInBounds_toArray, List.set_cons_zero, List.set_cons_succ]
          rfl
        refine pure_k (k := 24) (N := some 87) (v := ?_) (a' := ?_) rfl rfl (by kernel_rfl) (fun _ _ _ h => h) (Or.inl ⟨by rfl, ?_⟩) ?_ ?_
        rotate_left
        · intro w'
          go_simp
          with_reducible rfl
        rotate_left
        · simp only [Act.put, List.setIfInBounds_toArray, List.set_cons_zero, List.set_cons_succ]
          rfl
        refine pure_k (k := 25) (N := some 88) (v := ?_) (a' := ?_) rfl rfl (by kernel_rfl) (fun _ _ _ h => h) (Or.inl ⟨by rfl, ?_⟩) ?_ ?_
        rotate_left
        · intro w'
          go_simp
          with_reducible rfl
        rotate_left
        · simp only [Act.put, List.setIfInBounds_toArray, List.set_cons_zero, List.set_cons_succ]
          rfl
        refine pure_k (k := 26) (N := some 89) (v := ?_) (a' := ?_) rfl rfl (by kernel_rfl) (fun _ _ _ h => h) (Or.inl ⟨by rfl, ?_⟩) ?_ ?_
        rotate_left
        · intro w'
          go_simp
          with_reducible rfl
        rotate_left
        · simp only [Act.put, List.setIfInBounds_toArray, List.set_cons_zero, List.set_cons_succ]
          rfl
        refine pure_k (k := 27) (N := some 90) (v := ?_) (a' := ?_) rfl rfl (by kernel_rfl) (fun _ _ _ h => h) (Or.inl ⟨by rfl, ?_⟩) ?_ ?_
        rotate_left
        · intro w'
          go_simp
          with_reducible rfl
        rotate_left
        · simp only [Act.put, List.setIfInBounds_toArray, List.set_cons_zero, List.set_cons_succ]
          rfl
        refine pure_k (k := 28) (N := some 91) (v := ?_) (a' := ?_) rfl rfl (by kernel_rfl) (fun _ _ _ h => h) (Or.inl ⟨by rfl, ?_⟩) ?_ ?_
        rotate_left
        · intro w'
          go_simp
          with_reducible rfl
        rotate_left
        · simp only [Act.put, List.setIfInBounds_toArray, List.set_cons_zero, List.set_cons_succ]
          rfl
        refine take_k (k := 29) (N := some 92) (v := ?_) (a' := ?_) rfl rfl (by kernel_rfl) (fun _ _ _ h => h) (Or.inl ⟨by rfl, ?_⟩) hHeld ?_ ?_
        rotate_left
        · rintro w' ⟨s0, s1, s2, s3, s4, s5⟩
          go_simp
          with_reducible rfl
        rotate_left
        · simp only [Act.put, List.setIfInBounds_toArray, List.set_cons_zero, List.set_cons_succ]
          rfl
        refine pure_k (k := 30) (N := some 93) (v := ?_) (a' := ?_) rfl rfl (by kernel_rfl) (fun _ _ _ h => h) (Or.inl ⟨by rfl, ?_⟩) ?_ ?_
        rotate_left
        · intro w'
          go_simp
          with_reducible rfl
        rotate_left
        · simp only [Act.put, List.setIfInBounds_toArray, List.set_cons_zero, List.set_cons_succ]
          rfl
        refine pure_k (k := 31) (N := some 94) (v := ?_) (a' := ?_) rfl rfl (by kernel_rfl) (fun _ _ _ h => h) (Or.inl ⟨by rfl, ?_⟩) ?_ ?_
        rotate_left
        · intro w'
          go_simp
          with_reducible rfl
        rotate_left
        · simp only [Act.put, List.setIfInBounds_toArray, List.set_cons_zero, List.set_cons_succ]
          rfl
        refine take_k (k := 32) (N := some 95) (v := ?_) (a' := ?_) rfl rfl (by kernel_rfl) (fun _ _ _ h => h) (Or.inl ⟨by rfl, ?_⟩) hHeld ?_ ?_
        rotate_left
        · rintro w' ⟨s0, s1, s2, s3, s4, s5⟩
          go_simp
          with_reducible rfl
        rotate_left
        · simp only [Act.put, List.setIfInBounds_toArray, List.set_cons_zero, List.set_cons_succ]
          rfl
        refine one_ (i := 33) (N := some 96) (upTo 38 34) rfl rfl (by kernel_rfl) (by decide) (fun K hK => ?_)
        refine call_ 5 #[.slice A2 row2.length c2] (by rfl) rfl (by go_simp) ?_
        refine (E_calls row2 A2 c2 _ (Kd.C_below HR2.out HBd.out) HL2.out HRL2.out HBY2.out).mono ?_
        rintro e wn2 ⟨rfl, hbn⟩
        refine ⟨_, rfl, ?_⟩
        have HBe := Aside0.mk (below_step HBd.out hbn)
        refine hK.out _ _ ⟨(hbn.cell (World.block_lt_of_cell? _ _ hHeld.1)).trans hHeld.1, (hbn.cell (World.block_lt_of_cell? _ _ hHeld.2.1)).trans hHeld.2.1, (hbn.cell (World.block_lt_of_cell? _ _ hHeld.2.2.1)).trans hHeld.2.2.1, (hbn.cell (World.block_lt_of_cell? _ _ hHeld.2.2.2.1)).trans hHeld.2.2.2.1, (hbn.cell (World.block_lt_of_cell? _ _ hHeld.2.2.2.2.1)).trans hHeld.2.2.2.2.1, (hbn.cell (World.block_lt_of_cell? _ _ hHeld.2.2.2.2.2)).trans hHeld.2.2.2.2.2⟩ (fun hHeldn => ?_)
        clear hK K hHeld hbn HBd
        have HBd := HBe
        have hHeld := hHeldn
        clear HBe hHeldn
        refine norm_ (a' := ?_) ?_ ?_
        rotate_left
        · simp only [Act.put, List.setIfInBounds_toArray, List.set_cons_zero, List.set_cons_succ]
          rfl
        refine pure_k (k := 34) (N := some 97) (v := ?_) (a' := ?_) rfl rfl (by kernel_rfl) (fun _ _ _ h => h) (Or.inl ⟨by rfl, ?_⟩) ?_ ?_
        rotate_left
        · intro w'
          go_simp
          with_reducible rfl
        rotate_left
        · simp only [Act.put, List.setIfInBounds_toArray, List.set_cons_zero, List.set_cons_succ]
          rfl
        refine pure_k (k := 35) (N := some 98) (v := ?_) (a' := ?_) rfl rfl (by kernel_rfl) (fun _ _ _ h => h) (Or.inl ⟨by rfl, ?_⟩) ?_ ?_
        rotate_left
        · intro w'
          go_simp
          with_reducible rfl
        rotate_left
        · simp only [Act.put, List.setIfInBounds_toArray, List.set_cons_zero, List.set_cons_succ]
          rfl
        refine pure_k (k := 36) (N := some 99) (v := ?_) (a' := ?_) rfl rfl (by kernel_rfl) (fun _ _ _ h => h) (Or.inl ⟨by rfl, ?_⟩) ?_ ?_
        rotate_left
        · intro w'
          go_simp
          with_reducible rfl
        rotate_left
        · simp only [Act.put, List.setIfInBounds_toArray, List.set_cons_zero, List.set_cons_succ]
          rfl
        refine pure_k (k := 37) (N := some 2) (v := ?_) (a' := ?_) rfl rfl (by kernel_rfl) (fun _ _ _ h => h) (Or.inl ⟨by rfl, ?_⟩) ?_ ?_
        rotate_left
        · intro w'
          go_simp
          with_reducible rfl
        rotate_left
        · simp only [Act.put, List.setIfInBounds_toArray, List.set_cons_zero, List.set_cons_succ]
          rfl
        refine done_ (by kernel_rfl) ?_
        go_wp2
        go_ret
        exact ⟨rfl, HBd.out⟩
      · rw [if_neg h3, decide_eq_false h3] at hsp
        have HSP := Aside0.mk hsp
        clear hsp
        have e3 : ((rows.length : Int) == 3) = false := beq_eq_false_iff_ne.2 (by omega)
        have e3' : ((rows.length : Int) != 3) = true := bne_iff_ne.2 (by omega)
        clear h3
        go_wp2_with fail
        refine (impl_Split.calls 100001 _ [] false _ HSP.out).mono ?_
        rintro e w1 ⟨v1, rfl, hR1, hb1⟩
        have HB1 := Aside0.mk (below_step HB.out hb1)
        have HR1 := Aside0.mk hR1
        clear hb1 hR1
        go_wp2_with fail
        refine (impl_Split.calls 100001 _ _ true _ HABC.out).mono ?_
        rintro e w2 ⟨v2, rfl, hR2, hb2⟩
        have HB2 := Aside0.mk (below_step HB1.out hb2)
        obtain ⟨A2, c2, hv2⟩ := Kd.R_slice hR2
        subst hv2
        have HR2 := Aside0.mk hR2
        clear hb2 hR2
        go_wp2_with fail
        refine start_ (n := 38) (S := fun _ => True) (ds := []) (upTo 38 0) (by kernel_rfl) rfl (by kernel_rfl) trivial (fun hHeld => ?_)
        have HB3 := Aside0.mk (below_drew1 HB2.out)
        generalize w2.drew = w3 at HB3 ⊢
        refine pure_k (k := 0) (N := some 63) (v := ?_) (a' := ?_) rfl rfl (by kernel_rfl) (fun _ _ _ h => h) (Or.inl ⟨by rfl, ?_⟩) ?_ ?_
        rotate_left
        · intro w'
          go_simp
          with_reducible rfl
        rotate_left
        · simp only [Act.put, List.setIfInBounds_toArray, List.set_cons_zero, List.set_cons_succ]
          rfl
        refine pure_k (k := 1) (N := some 64) (v := ?_) (a' := ?_) rfl rfl (by kernel_rfl) (fun _ _ _ h => h) (Or.inl ⟨by rfl, ?_⟩) ?_ ?_
        rotate_left
        · intro w'
          go_simp
          with_reducible rfl
        rotate_left
        · simp only [Act.put, List.setIfInBounds_toArray, List.set_cons_zero, List.set_cons_succ]
          rfl
        refine pure_k (k := 2) (N := some 65) (v := ?_) (a' := ?_) rfl rfl (by kernel_rfl) (fun _ _ _ h => h) (Or.inl ⟨by rfl, ?_⟩) ?_ ?_
        rotate_left
        · intro w'
          go_simp
          with_reducible rfl
        rotate_left
        · simp only [Act.put, List.setIfInBounds_toArray, List.set_cons_zero, List.set_cons_succ]
          rfl
        refine pure_k (k := 3) (N := some 66) (v := undef) (a' := ?_) rfl rfl (by kernel_rfl) (fun _ _ _ h => h) (Or.inr ⟨by kernel_rfl, rfl⟩) ?_ ?_
        rotate_left
        · simp only [Act.put, List.setIfInBounds_toArray, List.set_cons_zero, List.set_cons_succ]
          rfl
        refine pure_k (k := 4) (N := some 67) (v := undef) (a' := ?_) rfl rfl (by kernel_rfl) (fun _ _ _ h => h) (Or.inr ⟨by kernel_rfl, rfl⟩) ?_ ?_
        rotate_left
        · simp only [Act.put, List.setIfInBounds_toArray, List.set_cons_zero, List.set_cons_succ]
          rfl
        refine pure_k (k := 5) (N := some 68) (v := undef) (a' := ?_) rfl rfl (by kernel_rfl) (fun _ _ _ h => h) (Or.inr ⟨by kernel_rfl, rfl⟩) ?_ ?_
        rotate_left
        · simp only [Act.put, List.setIfInBounds_toArray, List.set_cons_zero, List.set_cons_succ]
          rfl
        refine pure_k (k := 6) (N := some 69) (v := undef) (a' := ?_) rfl rfl (by kernel_rfl) (fun _ _ _ h => h) (Or.inr ⟨by kernel_rfl, rfl⟩) ?_ ?_
        rotate_left
        · simp only [Act.put, List.setIfInBounds_toArray, List.set_cons_zero, List.set_cons_succ]
          rfl
        refine pure_k (k := 7) (N := some 70) (v := undef) (a' := ?_) rfl rfl (by kernel_rfl) (fun _ _ _ h => h) (Or.inr ⟨by kernel_rfl, rfl⟩) ?_ ?_
        rotate_left
        · simp only [Act.put, List.setIfInBounds_toArray, List.set_cons_zero, List.set_cons_succ]
          rfl
        refine pure_k (k := 8) (N := some 71) (v := undef) (a' := ?_) rfl rfl (by kernel_rfl) (fun _ _ _ h => h) (Or.inr ⟨by kernel_rfl, rfl⟩) ?_ ?_
        rotate_left
        · simp only [Act.put, List.setIfInBounds_toArray, List.set_cons_zero, List.set_cons_succ]
          rfl
        refine pure_k (k := 9) (N := some 72) (v := undef) (a' := ?_) rfl rfl (by kernel_rfl) (fun _ _ _ h => h) (Or.inr ⟨by kernel_rfl, rfl⟩) ?_ ?_
        rotate_left
        · simp only [Act.put, List.setIfInBounds_toArray, List.set_cons_zero, List.set_cons_succ]
          rfl
        refine pure_k (k := 10) (N := some 73) (v := undef) (a' := ?_) rfl rfl (by kernel_rfl) (fun _ _ _ h => h) (Or.inr ⟨by kernel_rfl, rfl⟩) ?_ ?_
        rotate_left
        · simp only [Act.put, List.setIfInBounds_toArray, List.set_cons_zero, List.set_cons_succ]
          rfl
        refine pure_k (k := 11) (N := some 74) (v := undef) (a' := ?_) rfl rfl (by kernel_rfl) (fun _ _ _ h => h) (Or.inr ⟨by kernel_rfl, rfl⟩) ?_ ?_
        rotate_left
        · simp only [Act.put, List.setIfInBounds_toArray, List.set_cons_zero, List.set_cons_succ]
          rfl
        refine pure_k (k := 12) (N := some 75) (v := undef) (a' := ?_) rfl rfl (by kernel_rfl) (fun _ _ _ h => h) (Or.inr ⟨by kernel_rfl, rfl⟩) ?_ ?_
        rotate_left
        · simp only [Act.put, List.setIfInBounds_toArray, List.set_cons_zero, List.set_cons_succ]
          rfl
        refine pure_k (k := 13) (N := some 76) (v := undef) (a' := ?_) rfl rfl (by kernel_rfl) (fun _ _ _ h => h) (Or.inr ⟨by kernel_rfl, rfl⟩) ?_ ?_
        rotate_left
        · simp only [Act.put, List.setIfInBounds_toArray, List.set_cons_zero, List.set_cons_succ]
          rfl
        refine pure_k (k := 14) (N := some 77) (v := undef) (a' := ?_) rfl rfl (by kernel_rfl) (fun _ _ _ h => h) (Or.inr ⟨by kernel_rfl, rfl⟩) ?_ ?_
        rotate_left
        · simp only [Act.put, List.setIfInBounds_toArray, List.set_cons_zero, List.set_cons_succ]
          rfl
        refine pure_k (k := 15) (N := some 78) (v := undef) (a' := ?_) rfl rfl (by kernel_rfl) (fun _ _ _ h => h) (Or.inr ⟨by kernel_rfl, rfl⟩) ?_ ?_
        rotate_left
        · simp only [Act.put, List.setIfInBounds_toArray, List.set_cons_zero, List.set_cons_succ]
          rfl
        refine pure_k (k := 16) (N := some 79) (v := undef) (a' := ?_) rfl rfl (by kernel_rfl) (fun _ _ _ h => h) (Or.inr ⟨by kernel_rfl, rfl⟩) ?_ ?_
        rotate_left
        · simp only [Act.put, List.setIfInBounds_toArray, List.set_cons_zero, List.set_cons_succ]
          rfl
        refine pure_k (k := 17) (N := some 80) (v := undef) (a' := ?_) rfl rfl (by kernel_rfl) (fun _ _ _ h => h) (Or.inr ⟨by kernel_rfl, rfl⟩) ?_ ?_
        rotate_left
        · simp only [Act.put, List.setIfInBounds_toArray, List.set_cons_zero, List.set_cons_succ]
          rfl
        refine pure_k (k := 18) (N := some 81) (v := undef) (a' := ?_) rfl rfl (by kernel_rfl) (fun _ _ _ h => h) (Or.inr ⟨by kernel_rfl, rfl⟩) ?_ ?_
        rotate_left
        · simp only [Act.put, List.setIfInBounds_toArray, List.set_cons_zero, List.set_cons_succ]
          rfl
        refine pure_k (k := 19) (N := some 82) (v := undef) (a' := ?_) rfl rfl (by kernel_rfl) (fun _ _ _ h => h) (Or.inr ⟨by kernel_rfl, rfl⟩) ?_ ?_
        rotate_left
        · simp only [Act.put, List.setIfInBounds_toArray, List.set_cons_zero, List.set_cons_succ]
          rfl
        refine pure_k (k := 20) (N := some 83) (v := undef) (a' := ?_) rfl rfl (by kernel_rfl) (fun _ _ _ h => h) (Or.inr ⟨by kernel_rfl, rfl⟩) ?_ ?_
        rotate_left
        · simp only [Act.put, List.setIfInBounds_toArray, List.set_cons_zero, List.set_cons_succ]
          rfl
        refine pure_k (k := 21) (N := some 84) (v := undef) (a' := ?_) rfl rfl (by kernel_rfl) (fun _ _ _ h => h) (Or.inr ⟨by kernel_rfl, rfl⟩) ?_ ?_
        rotate_left
        · simp only [Act.put, List.setIfInBounds_toArray, List.set_cons_zero, List.set_cons_succ]
          rfl
        refine pure_k (k := 22) (N := some 85) (v := undef) (a' := ?_) rfl rfl (by kernel_rfl) (fun _ _ _ h => h) (Or.inr ⟨by kernel_rfl, rfl⟩) ?_ ?_
        rotate_left
        · simp only [Act.put, List.setIfInBounds_toArray, List.set_cons_zero, List.set_cons_succ]
          rfl
        refine pure_k (k := 23) (N := some 86) (v := undef) (a' := ?_) rfl rfl (by kernel_rfl) (fun _ _ _ h => h) (Or.inr ⟨by kernel_rfl, rfl⟩) ?_ ?_
        rotate_left
        · simp only [Act.put, List.setIfInBounds_toArray, List.set_cons_zero, List.set_cons_succ]
          rfl
        refine pure_k (k := 24) (N := some 87) (v := undef) (a' := ?_) rfl rfl (by kernel_rfl) (fun _ _ _ h => h) (Or.inr ⟨by kernel_rfl, rfl⟩) ?_ ?_
        rotate_left
        · simp only [Act.put, List.setIfInBounds_toArray, List.set_cons_zero, List.set_cons_succ]
          rfl
        refine pure_k (k := 25) (N := some 88) (v := undef) (a' := ?_) rfl rfl (by kernel_rfl) (fun _ _ _ h => h) (Or.inr ⟨by kernel_rfl, rfl⟩) ?_ ?_
        rotate_left
        · simp only [Act.put, List.setIfInBounds_toArray, List.set_cons_zero, List.set_cons_succ]
          rfl
        refine pure_k (k := 26) (N := some 89) (v := undef) (a' := ?_) rfl rfl (by kernel_rfl) (fun _ _ _ h => h) (Or.inr ⟨by kernel_rfl, rfl⟩) ?_ ?_
        rotate_left
        · simp only [Act.put, List.setIfInBounds_toArray, List.set_cons_zero, List.set_cons_succ]
          rfl
        refine pure_k (k := 27) (N := some 90) (v := undef) (a' := ?_) rfl rfl (by kernel_rfl) (fun _ _ _ h => h) (Or.inr ⟨by kernel_rfl, rfl⟩) ?_ ?_
        rotate_left
        · simp only [Act.put, List.setIfInBounds_toArray, List.set_cons_zero, List.set_cons_succ]
          rfl
        refine pure_k (k := 28) (N := some 91) (v := undef) (a' := ?_) rfl rfl (by kernel_rfl) (fun _ _ _ h => h) (Or.inr ⟨by kernel_rfl, rfl⟩) ?_ ?_
        rotate_left
        · simp only [Act.put, List.setIfInBounds_toArray, List.set_cons_zero, List.set_cons_succ]
          rfl
        refine pure_k (k := 29) (N := some 92) (v := undef) (a' := ?_) rfl rfl (by kernel_rfl) (fun _ _ _ h => h) (Or.inr ⟨by kernel_rfl, rfl⟩) ?_ ?_
        rotate_left
        · simp only [Act.put, List.setIfInBounds_toArray, List.set_cons_zero, List.set_cons_succ]
          rfl
        refine pure_k (k := 30) (N := some 93) (v := undef) (a' := ?_) rfl rfl (by kernel_rfl) (fun _ _ _ h => h) (Or.inr ⟨by kernel_rfl, rfl⟩) ?_ ?_
        rotate_left
        · simp only [Act.put, List.setIfInBounds_toArray, List.set_cons_zero, List.set_cons_succ]
          rfl
        refine pure_k (k := 31) (N := some 94) (v := undef) (a' := ?_) rfl rfl (by kernel_rfl) (fun _ _ _ h => h) (Or.inr ⟨by kernel_rfl, rfl⟩) ?_ ?_
        rotate_left
        · simp only [Act.put, List.setIfInBounds_toArray, List.set_cons_zero, List.set_cons_succ]
          rfl
        refine pure_k (k := 32) (N := some 95) (v := undef) (a' := ?_) rfl rfl (by kernel_rfl) (fun _ _ _ h => h) (Or.inr ⟨by kernel_rfl, rfl⟩) ?_ ?_
        rotate_left
        · simp only [Act.put, List.setIfInBounds_toArray, List.set_cons_zero, List.set_cons_succ]
          rfl
        refine pure_k (k := 33) (N := some 96) (v := undef) (a' := ?_) rfl rfl (by kernel_rfl) (fun _ _ _ h => h) (Or.inr ⟨by kernel_rfl, rfl⟩) ?_ ?_
        rotate_left
        · simp only [Act.put, List.setIfInBounds_toArray, List.set_cons_zero, List.set_cons_succ]
          rfl
        refine pure_k (k := 34) (N := some 97) (v := undef) (a' := ?_) rfl rfl (by kernel_rfl) (fun _ _ _ h => h) (Or.inr ⟨by kernel_rfl, rfl⟩) ?_ ?_
        rotate_left
        · simp only [Act.put, List.setIfInBounds_toArray, List.set_cons_zero, List.set_cons_succ]
          rfl
        refine pure_k (k := 35) (N := some 98) (v := undef) (a' := ?_) rfl rfl (by kernel_rfl) (fun _ _ _ h => h) (Or.inr ⟨by kernel_rfl, rfl⟩) ?_ ?_
        rotate_left
        · simp only [Act.put, List.setIfInBounds_toArray, List.set_cons_zero, List.set_cons_succ]
          rfl
        refine pure_k (k := 36) (N := some 99) (v := ?_) (a' := ?_) rfl rfl (by kernel_rfl) (fun _ _ _ h => h) (Or.inl ⟨by rfl, ?_⟩) ?_ ?_
        rotate_left
        · intro w'
          go_simp
          with_reducible rfl
        rotate_left
        · simp only [Act.put, List.setIfInBounds_toArray, List.set_cons_zero, List.set_cons_succ]
          rfl
        refine pure_k (k := 37) (N := some 2) (v := ?_) (a' := ?_) rfl rfl (by kernel_rfl) (fun _ _ _ h => h) (Or.inl ⟨by rfl, ?_⟩) ?_ ?_
        rotate_left
        · intro w'
          go_simp
          with_reducible rfl
        rotate_left
        · simp only [Act.put, List.setIfInBounds_toArray, List.set_cons_zero, List.set_cons_succ]
          rfl
        refine done_ (by kernel_rfl) ?_
        go_wp2
        go_ret
        exact ⟨rfl, HB3.out⟩

end Go.Proofs.Ytmmnjlcepkkjeaa.Own
