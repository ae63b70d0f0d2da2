-- PRINTED BY print.sh 35421559b90ae4d0a3588c463048766b98c2df88dd9212a6774a882060cdf62d: not written by this session
import Derived.Test.YtmmnjlcepkkjeaaPFnSplitx0
namespace Go.Proofs.Ytmmnjlcepkkjeaa.PFnSplit
open Go.RowKit Go.Proofs.YtmmnjlcepkkjeaaW.PrintWords Go.Proofs.YtmmnjlcepkkjeaaW.PrintLast Go.Proofs.YtmmnjlcepkkjeaaW.PrintMore
attribute [local go_sem] max2_int min2_int max_two min_two max_three min_three max_four min_four   -- for this text's walks alone
set_option linter.unusedVariables false
set_option linter.unusedSimpArgs false

-- NOT PRINTED: function 13 (slices_IndexFunc_string_string)

-- NOT PRINTED: function 10 (slices_ContainsFunc_string_string)

-- NOT PRINTED: function 7 (impl_short)

/-! ### jwt_zzCut: function 14 -/
def jwt_zzCut.l0 : Nat → ByteArray → ByteArray → Int → Option (ByteArray × ByteArray × Bool)
  | 0, _, _, _ => none
  | k + 1, x0, x1, x7 => if (wrap64 (x7 + (x1.size : Int))) ≤ (x0.size : Int) then (if 0 ≤ x7 then (if x7 ≤ (wrap64 (x7 + (x1.size : Int))) then (if (x0.extract (x7 : Int).toNat ((wrap64 (x7 + (x1.size : Int))) : Int).toNat).toList = x1.toList then (if x7 ≤ (x0.size : Int) then (if 0 ≤ (wrap64 (x7 + (x1.size : Int))) then (some (x0.extract 0 (x7 : Int).toNat, x0.extract ((wrap64 (x7 + (x1.size : Int))) : Int).toNat x0.size, true)) else (none)) else (none)) else (jwt_zzCut.l0 k x0 x1 (wrap64 (x7 + 1)))) else (none)) else (none)) else (some (x0, (⟨#[]⟩ : ByteArray), false))
def jwt_zzCut.f (k : Nat) (a0 : ByteArray) (a1 : ByteArray) : Option (ByteArray × ByteArray × Bool) := jwt_zzCut.l0 k a0 a1 0
theorem jwt_zzCut.mono_l : ∀ k, (∀ y0 y1 y2, LeO (jwt_zzCut.l0 k y0 y1 y2) (jwt_zzCut.l0 (k + 1) y0 y1 y2))
  | 0 => fun _ _ _ r h => by simp [jwt_zzCut.l0] at h
  | k + 1 => by
    have ih0 := jwt_zzCut.mono_l k
    · intro y0 y1 y2
      unfold jwt_zzCut.l0
      repeat' first
      | (with_reducible exact ih0 _ _ _)
      | (with_reducible exact LeO.refl _)
      | (with_reducible exact LeO.none _)
      | (with_reducible refine LeO.ite ?_ ?_)
      | (with_reducible refine LeO.bind ?_ (fun _ => ?_))
      | exact ih0 _ _ _
      | exact LeO.none _
      | refine LeO.ite ?_ ?_
      | refine LeO.bind ?_ (fun _ => ?_)
theorem jwt_zzCut.mono : ∀ a0 a1 k, LeO (jwt_zzCut.f k a0 a1) (jwt_zzCut.f (k + 1) a0 a1) := by
  intro a0 a1 k
  have ih0 := jwt_zzCut.mono_l k
  unfold jwt_zzCut.f
  repeat' first
      | (with_reducible exact ih0 _ _ _)
      | (with_reducible exact LeO.refl _)
      | (with_reducible exact LeO.none _)
      | (with_reducible refine LeO.ite ?_ ?_)
      | (with_reducible refine LeO.bind ?_ (fun _ => ?_))
      | exact ih0 _ _ _
      | exact LeO.none _
      | refine LeO.ite ?_ ?_
      | refine LeO.bind ?_ (fun _ => ?_)
set_option maxHeartbeats 8000000 in
set_option maxRecDepth 100000 in
theorem jwt_zzCut.calls (k : Nat) (a0 : ByteArray) (a1 : ByteArray) (r1 : ByteArray) (r2 : ByteArray) (r3 : Bool) (w : World) (h : jwt_zzCut.f k a0 a1 = some (r1, r2, r3)) :
    Calls Try.prog 14 #[.string a0, .string a1] w fun e w' => e = .returned (.tuple #[.string r1, .string r2, .bool r3]) ∧ Drawn0 w w' := by
  have H : (jwt_zzCut.l0 k a0 a1 0) = some (r1, r2, r3) := h
  clear h
  have H' := Aside0.mk H
  clear H
  go_enter Try.func14, Try.ntmps14
  go_wp2
  repeat (go_quiet (fail); try go_wp2)
  go_loopg [7] k (fun kq v7 w' => ∃ (x7_1 : Int), v7 = .int .i64 x7_1 ∧ Aside0 (jwt_zzCut.l0 kq a0 a1 x7_1 = some (r1, r2, r3)) ∧ Aside0 (kq ≤ k) ∧ Drawn0 w w')
  case atStart => exact ⟨(0), (by first | rfl | (simp; done) | (simp [*]; done)), H', ⟨Nat.le_refl _⟩, by repeat (first | exact Drawn0.refl _ | apply Drawn0.step)⟩
  case round =>
    clear H'
    try clear c1
    try clear p2
    obtain ⟨x7_1, rfl, HA, HK1, ⟨m1, rfl⟩⟩ := hrel
    cases gk with
    | zero => exact absurd HA.out (by simp [jwt_zzCut.l0])
    | succ k1 =>
      have H := HA.out
      clear HA
      simp only [jwt_zzCut.l0] at H
      by_cases c3 : (wrap64 (x7_1 + (a1.size : Int))) ≤ (a0.size : Int)
      · rw [if_pos c3] at H
        have c3b0 : decide ((wrap64 (x7_1 + (a1.size : Int))) ≤ (a0.size : Int)) = true := decide_eq_true c3
        clear c3
        by_cases c4 : 0 ≤ x7_1
        · rw [if_pos c4] at H
          have c4b0 := eq_true c4
          have c4b1 : decide (0 ≤ x7_1) = true := decide_eq_true c4
          clear c4
          by_cases c5 : x7_1 ≤ (wrap64 (x7_1 + (a1.size : Int)))
          · rw [if_pos c5] at H
            have c5b0 := eq_true c5
            have c5b1 : decide (x7_1 ≤ (wrap64 (x7_1 + (a1.size : Int)))) = true := decide_eq_true c5
            have c6b0 := eq_true (of_decide_eq_true (by first | (with_reducible assumption) | assumption) : (wrap64 (x7_1 + (a1.size : Int))) ≤ (a0.size : Int))
            by_cases c7 : (a0.extract (x7_1 : Int).toNat ((wrap64 (x7_1 + (a1.size : Int))) : Int).toNat).toList = a1.toList
            · rw [if_pos c7] at H
              have c7b0 : ((a0.extract (x7_1 : Int).toNat ((wrap64 (x7_1 + (a1.size : Int))) : Int).toNat).toList == a1.toList) = true := beq_iff_eq.mpr c7
              have c7b1 : ((a0.extract (x7_1 : Int).toNat ((wrap64 (x7_1 + (a1.size : Int))) : Int).toNat).toList != a1.toList) = false := bne_eq_false_iff_eq.mpr c7
              clear c7
              have c8b0 := eq_true (of_decide_eq_true (by first | (with_reducible assumption) | assumption) : 0 ≤ x7_1)
              by_cases c9 : x7_1 ≤ (a0.size : Int)
              · rw [if_pos c9] at H
                have c9b0 := eq_true c9
                have c9b1 : decide (x7_1 ≤ (a0.size : Int)) = true := decide_eq_true c9
                clear c9
                obtain ⟨ji10, hji10⟩ : ∃ j_ : Int, (wrap64 (x7_1 + (a1.size : Int))) = j_ := ⟨_, rfl⟩
                replace H : (if 0 ≤ (ji10) then (some (a0.extract 0 (x7_1 : Int).toNat, a0.extract ((ji10) : Int).toNat a0.size, true)) else (none)) = some (r1, r2, r3) := by first | (rw [hji10] at H; exact H) | (simp only [hji10] at H ⊢; exact H)
                (try rw [hji10] at c3b0)
                (try rw [hji10] at c5b0)
                (try rw [hji10] at c5b1)
                (try rw [hji10] at c5)
                (try rw [hji10] at c7b0)
                (try rw [hji10] at c7b1)
                have hji10w : (IntKind.i64.wrap (x7_1 + (a1.size : Int))) = ji10 := (i64_w _).trans hji10
                by_cases c11 : 0 ≤ (ji10)
                · rw [if_pos c11] at H
                  have c11b0 := eq_true c11
                  have c11b1 : decide (0 ≤ (ji10)) = true := decide_eq_true c11
                  clear c11
                  have c12b0 := eq_true (of_decide_eq_true (by first | (with_reducible assumption) | assumption) : (ji10) ≤ (a0.size : Int))
                  simp only [Option.some.injEq, Prod.mk.injEq] at H
                  obtain ⟨rfl, rfl, rfl⟩ := H
                  go_wp2
                  repeat (go_quiet (fail); try go_wp2)
                  go_ret3
                  exact ⟨by first | rfl | (simp; done) | (simp only [← hji10] <;> (first | rfl | simp)) | (simp [*]; done), by repeat (first | exact Drawn0.refl _ | apply Drawn0.step)⟩
                · rw [if_neg c11] at H
                  exact absurd H (by simp)
              · rw [if_neg c9] at H
                exact absurd H (by simp)
            · rw [if_neg c7] at H
              have c7b0 : ((a0.extract (x7_1 : Int).toNat ((wrap64 (x7_1 + (a1.size : Int))) : Int).toNat).toList == a1.toList) = false := beq_eq_false_iff_ne.mpr c7
              have c7b1 : ((a0.extract (x7_1 : Int).toNat ((wrap64 (x7_1 + (a1.size : Int))) : Int).toNat).toList != a1.toList) = true := bne_iff_ne.mpr c7
              have H' := Aside0.mk H
              clear H
              go_wp2
              repeat (go_quiet (fail); try go_wp2)
              go_roundg k1
              case measure => have := HK1.out; omega
              case rel => exact ⟨(wrap64 (x7_1 + 1)), (by first | rfl | (simp; done) | (simp [*]; done)), H', ⟨by have := HK1.out; omega⟩, by repeat (first | exact Drawn0.refl _ | apply Drawn0.step)⟩
          · rw [if_neg c5] at H
            exact absurd H (by simp)
        · rw [if_neg c4] at H
          exact absurd H (by simp)
      · rw [if_neg c3] at H
        have c3b0 : decide ((wrap64 (x7_1 + (a1.size : Int))) ≤ (a0.size : Int)) = false := decide_eq_false c3
        clear c3
        simp only [Option.some.injEq, Prod.mk.injEq] at H
        obtain ⟨rfl, rfl, rfl⟩ := H
        go_wp2
        repeat (go_quiet (fail); try go_wp2)
        go_ret3
        exact ⟨by first | rfl | (simp; done) | (simp [*]; done), by repeat (first | exact Drawn0.refl _ | apply Drawn0.step)⟩

/-! ### jwt_splitToken: function 12 -/
def jwt_splitToken.f (k : Nat) (a0 : ByteArray) : Option (List ByteArray × Bool) := if 3 ≤ 17592186044416 then ((some (List.replicate 3 (⟨#[]⟩ : ByteArray) : List ByteArray)).bind fun y140 => ((jwt_zzCut.f k a0 (⟨#[46]⟩ : ByteArray)).bind fun bt143 => (if bt143.2.2 = true then (if 0 < (y140.length : Int) then ((jwt_zzCut.f k bt143.2.1 (⟨#[46]⟩ : ByteArray)).bind fun bt147 => (if bt147.2.2 = true then (if 1 < (y140.length : Int) then ((jwt_zzCut.f k bt147.2.1 (⟨#[46]⟩ : ByteArray)).bind fun bt151 => (if bt151.2.2 = true then (some (([] : List ByteArray), false)) else (if 2 < (y140.length : Int) then (some ((((y140.set (0 : Int).toNat bt143.1).set (1 : Int).toNat bt147.1).set (2 : Int).toNat bt151.1), true)) else (none)))) else (none)) else (some (([] : List ByteArray), false)))) else (none)) else (some (([] : List ByteArray), false))))) else (none)
theorem jwt_splitToken.mono : ∀ a0 k, LeO (jwt_splitToken.f k a0) (jwt_splitToken.f (k + 1) a0) := by
  intro a0 k
  unfold jwt_splitToken.f
  repeat' first
      | (with_reducible exact jwt_zzCut.mono _ _ _)
      | (with_reducible exact LeO.refl _)
      | (with_reducible exact LeO.none _)
      | (with_reducible refine LeO.ite ?_ ?_)
      | (with_reducible refine LeO.bind ?_ (fun _ => ?_))
      | exact jwt_zzCut.mono _ _ _
      | exact LeO.none _
      | refine LeO.ite ?_ ?_
      | refine LeO.bind ?_ (fun _ => ?_)
set_option maxHeartbeats 8000000 in
set_option maxRecDepth 100000 in
theorem jwt_splitToken.calls (k : Nat) (a0 : ByteArray) (r1 : List ByteArray) (r2 : Bool) (w : World) (h : jwt_splitToken.f k a0 = some (r1, r2)) :
    Calls Try.prog 12 #[.string a0] w fun e w' => ∃ v0_ : Value, e = .returned (.tuple #[v0_, .bool r2]) ∧ Kd.R Kd.string 9 w' w.heap.size (fun _ => True) v0_ r1 ∧ Below w.heap.size w w' := by
  have HB := Aside0.mk (Below.refl w.heap.size w)
  have H : (if 3 ≤ 17592186044416 then ((some (List.replicate 3 (⟨#[]⟩ : ByteArray) : List ByteArray)).bind fun y140 => ((jwt_zzCut.f k a0 (⟨#[46]⟩ : ByteArray)).bind fun bt143 => (if bt143.2.2 = true then (if 0 < (y140.length : Int) then ((jwt_zzCut.f k bt143.2.1 (⟨#[46]⟩ : ByteArray)).bind fun bt147 => (if bt147.2.2 = true then (if 1 < (y140.length : Int) then ((jwt_zzCut.f k bt147.2.1 (⟨#[46]⟩ : ByteArray)).bind fun bt151 => (if bt151.2.2 = true then (some (([] : List ByteArray), false)) else (if 2 < (y140.length : Int) then (some ((((y140.set (0 : Int).toNat bt143.1).set (1 : Int).toNat bt147.1).set (2 : Int).toNat bt151.1), true)) else (none)))) else (none)) else (some (([] : List ByteArray), false)))) else (none)) else (some (([] : List ByteArray), false))))) else (none)) = some (r1, r2) := h
  clear h
  by_cases c2 : 3 ≤ 17592186044416
  · rw [if_pos c2] at H
    have c2b0 := eq_true c2
    have c2b1 : decide (3 ≤ 17592186044416) = true := decide_eq_true c2
    clear c2
    obtain ⟨y140, hy140⟩ : ∃ y_ : List ByteArray, y_ = (List.replicate 3 (⟨#[]⟩ : ByteArray)) := ⟨_, rfl⟩
    replace H : ((jwt_zzCut.f k a0 (⟨#[46]⟩ : ByteArray)).bind fun bt143 => (if bt143.2.2 = true then (if 0 < (y140.length : Int) then ((jwt_zzCut.f k bt143.2.1 (⟨#[46]⟩ : ByteArray)).bind fun bt147 => (if bt147.2.2 = true then (if 1 < (y140.length : Int) then ((jwt_zzCut.f k bt147.2.1 (⟨#[46]⟩ : ByteArray)).bind fun bt151 => (if bt151.2.2 = true then (some (([] : List ByteArray), false)) else (if 2 < (y140.length : Int) then (some ((((y140.set (0 : Int).toNat bt143.1).set (1 : Int).toNat bt147.1).set (2 : Int).toNat bt151.1), true)) else (none)))) else (none)) else (some (([] : List ByteArray), false)))) else (none)) else (some (([] : List ByteArray), false)))) = some (r1, r2) := by first | (rw [hy140]; with_reducible exact H) | (have H2_ := (Option.bind_some _ _).symm.trans H; rw [hy140]; with_reducible exact H2_) | (have H2_ := (Option.bind_some _ _).symm.trans H; with_reducible exact H2_) | with_reducible exact H | (rw [hy140]; exact H) | exact H
    have Ny140 := Aside0.mk hy140
    clear hy140
    replace H := Option.bind_eq_some_iff.mp H
    obtain ⟨⟨t143, t144, t145⟩, A30, H⟩ := H
    replace H : (if t145 = true then (if 0 < (y140.length : Int) then ((jwt_zzCut.f k t144 (⟨#[46]⟩ : ByteArray)).bind fun bt147 => (if bt147.2.2 = true then (if 1 < (y140.length : Int) then ((jwt_zzCut.f k bt147.2.1 (⟨#[46]⟩ : ByteArray)).bind fun bt151 => (if bt151.2.2 = true then (some (([] : List ByteArray), false)) else (if 2 < (y140.length : Int) then (some ((((y140.set (0 : Int).toNat t143).set (1 : Int).toNat bt147.1).set (2 : Int).toNat bt151.1), true)) else (none)))) else (none)) else (some (([] : List ByteArray), false)))) else (none)) else (some (([] : List ByteArray), false))) = some (r1, r2) := H
    have A3 := Aside0.mk A30
    clear A30
    by_cases c4 : t145 = true
    · subst c4
      have H1 : (if 0 < (y140.length : Int) then ((jwt_zzCut.f k t144 (⟨#[46]⟩ : ByteArray)).bind fun bt147 => (if bt147.2.2 = true then (if 1 < (y140.length : Int) then ((jwt_zzCut.f k bt147.2.1 (⟨#[46]⟩ : ByteArray)).bind fun bt151 => (if bt151.2.2 = true then (some (([] : List ByteArray), false)) else (if 2 < (y140.length : Int) then (some ((((y140.set (0 : Int).toNat t143).set (1 : Int).toNat bt147.1).set (2 : Int).toNat bt151.1), true)) else (none)))) else (none)) else (some (([] : List ByteArray), false)))) else (none)) = some (r1, r2) := by rw [if_pos rfl] at H; exact H
      clear H
      have H := H1
      clear H1
      by_cases c5 : 0 < (y140.length : Int)
      · rw [if_pos c5] at H
        have c5b0 : decide (0 < (y140.length : Int)) = true := decide_eq_true c5
        have c5b1 : decide (0 < y140.length) = true := decide_eq_true (by omega)
        clear c5
        obtain ⟨y146, hy146⟩ : ∃ y_ : List ByteArray, y_ = (y140.set (0 : Int).toNat t143) := ⟨_, rfl⟩
        replace H : ((jwt_zzCut.f k t144 (⟨#[46]⟩ : ByteArray)).bind fun bt147 => (if bt147.2.2 = true then (if 1 < (y140.length : Int) then ((jwt_zzCut.f k bt147.2.1 (⟨#[46]⟩ : ByteArray)).bind fun bt151 => (if bt151.2.2 = true then (some (([] : List ByteArray), false)) else (if 2 < (y140.length : Int) then (some (((y146.set (1 : Int).toNat bt147.1).set (2 : Int).toNat bt151.1), true)) else (none)))) else (none)) else (some (([] : List ByteArray), false)))) = some (r1, r2) := by first | (rw [hy146]; with_reducible exact H) | (have H2_ := (Option.bind_some _ _).symm.trans H; rw [hy146]; with_reducible exact H2_) | (have H2_ := (Option.bind_some _ _).symm.trans H; with_reducible exact H2_) | with_reducible exact H | (rw [hy146]; exact H) | exact H
        have Ny146 := Aside0.mk hy146
        clear hy146
        replace H := Option.bind_eq_some_iff.mp H
        obtain ⟨⟨t147, t148, t149⟩, A70, H⟩ := H
        replace H : (if t149 = true then (if 1 < (y140.length : Int) then ((jwt_zzCut.f k t148 (⟨#[46]⟩ : ByteArray)).bind fun bt151 => (if bt151.2.2 = true then (some (([] : List ByteArray), false)) else (if 2 < (y140.length : Int) then (some (((y146.set (1 : Int).toNat t147).set (2 : Int).toNat bt151.1), true)) else (none)))) else (none)) else (some (([] : List ByteArray), false))) = some (r1, r2) := H
        have A7 := Aside0.mk A70
        clear A70
        by_cases c8 : t149 = true
        · subst c8
          have H1 : (if 1 < (y140.length : Int) then ((jwt_zzCut.f k t148 (⟨#[46]⟩ : ByteArray)).bind fun bt151 => (if bt151.2.2 = true then (some (([] : List ByteArray), false)) else (if 2 < (y140.length : Int) then (some (((y146.set (1 : Int).toNat t147).set (2 : Int).toNat bt151.1), true)) else (none)))) else (none)) = some (r1, r2) := by rw [if_pos rfl] at H; exact H
          clear H
          have H := H1
          clear H1
          by_cases c9 : 1 < (y140.length : Int)
          · rw [if_pos c9] at H
            have c9b0 : decide (1 < (y140.length : Int)) = true := decide_eq_true c9
            have c9b1 : decide (1 < y140.length) = true := decide_eq_true (by omega)
            clear c9
            obtain ⟨y150, hy150⟩ : ∃ y_ : List ByteArray, y_ = (y146.set (1 : Int).toNat t147) := ⟨_, rfl⟩
            replace H : ((jwt_zzCut.f k t148 (⟨#[46]⟩ : ByteArray)).bind fun bt151 => (if bt151.2.2 = true then (some (([] : List ByteArray), false)) else (if 2 < (y140.length : Int) then (some ((y150.set (2 : Int).toNat bt151.1), true)) else (none)))) = some (r1, r2) := by first | (rw [hy150]; with_reducible exact H) | (have H2_ := (Option.bind_some _ _).symm.trans H; rw [hy150]; with_reducible exact H2_) | (have H2_ := (Option.bind_some _ _).symm.trans H; with_reducible exact H2_) | with_reducible exact H | (rw [hy150]; exact H) | exact H
            have Ny150 := Aside0.mk hy150
            clear hy150
            replace H := Option.bind_eq_some_iff.mp H
            obtain ⟨⟨t151, t152, t153⟩, A110, H⟩ := H
            replace H : (if t153 = true then (some (([] : List ByteArray), false)) else (if 2 < (y140.length : Int) then (some ((y150.set (2 : Int).toNat t151), true)) else (none))) = some (r1, r2) := H
            have A11 := Aside0.mk A110
            clear A110
            by_cases c12 : t153 = true
            · subst c12
              have H1 : (some (([] : List ByteArray), false)) = some (r1, r2) := by rw [if_pos rfl] at H; exact H
              clear H
              have H := H1
              clear H1
              simp only [Option.some.injEq, Prod.mk.injEq] at H
              obtain ⟨rfl, rfl⟩ := H
              go_enter Try.func12, Try.ntmps12
              go_wp2_with (first | ((with_reducible refine gate_dst (N := 12) rfl ?_); refine Kd.R_make Kd.string _ 9 rfl (N := 12) rfl 26 _ _ rfl 3 rfl rfl Try.underlying26 (.string ⟨#[]⟩) 16 info9 rfl (by decide) (by omega) (⟨#[]⟩ : ByteArray) (ok := fun _ => True) (okp := fun _ => True) rfl (fun _ hk => hk) trivial (by omega) (by omega) (Below.refl _ _) (Nat.le_refl _) ?_; intro v141 w13 ho14 hb hg_ hnew_; clear hg_ hnew_; (first | rw [← Ny140.out] at ho14 | (simp only [Int.reduceToNat] at ho14; rw [← Ny140.out] at ho14)); have n0_ := Aside0.mk (Kd.R_lower ho14 (below_size (by repeat (first | (with_reducible first | exact HB.out | apply below_alloc | apply pw_below_drewN | apply below_drew1) | exact HB.out)))); have n1_ := Aside0.mk (below_step (by repeat (first | (with_reducible first | exact HB.out | apply below_alloc | apply pw_below_drewN | apply below_drew1) | exact HB.out)) hb); clear HB; have HO142 := n0_; have HB := n1_; clear n0_ n1_; clear hb ho14) | ((with_reducible refine gate_callee (f := 14) rfl ?_); refine goesL_ (some 15) rfl rfl Try.func14 (by kernel_rfl) rfl #[.string a0, .string (⟨#[46]⟩ : ByteArray)] rfl (by (try simp only [List.map_toArray, List.map_cons, List.map_nil]); first | done | rfl | (simp only [List.length_drop, List.length_take]; rfl)) ?_; (with_reducible refine (jwt_zzCut.calls k a0 (⟨#[46]⟩ : ByteArray) t143 t144 true _ A3.out).mono ?_); rintro e w' ⟨rfl, ⟨nd, rfl⟩⟩; refine ⟨_, rfl, ?_⟩; (try (rw [drewN_self w13]; generalize hq_ : World.drewN w13 _ = w13; have n0_ : Aside0 (Kd.R Kd.string 9 w13 w.heap.size (fun _ => True) v141 y140) := ⟨by rw [← hq_]; exact (by (with_reducible repeat (first | apply Kd.R_alloc | apply Kd.R_drewN | apply Kd.R_drew)); exact HO142.out)⟩; have n1_ : Aside0 (Below w.heap.size w w13) := ⟨by rw [← hq_]; exact (by repeat (first | (with_reducible first | exact HB.out | apply below_alloc | apply pw_below_drewN | apply below_drew1) | exact HB.out))⟩; clear HO142 HB hq_; have HO142 := n0_; have HB := n1_; clear n0_ n1_)); have p6 : 0 ≤ (0 : Int) := (by omega); have q6 : (0 : Int) < ((y140.length : Int) : Int) := of_decide_eq_true (by first | (with_reducible assumption) | assumption); have qi6 : (0 < y140.length) = True := eq_true (by omega); obtain ⟨go6, co6, eo6, gb6, gl6, cl6, HG6⟩ := Kd.R_form HO142.out (by omega); (first | cases eo6 | (injection eo6 with ea_ en_ ec_; (first | subst ea_ | (injection ea_ with ea_; subst ea_)); subst ec_; clear en_)); have GB6 := Aside0.mk gb6; have GG6 := Aside0.mk HG6; clear gb6 gl6 HG6; obtain ⟨hx6_0, hf6_0⟩ := Kd.R_celln (⟨#[]⟩ : ByteArray) HO142.out (0 : Int) p6 q6; (try rw [show ((0 : Int)).toNat = 0 from rfl] at hx6_0); (try simp only [Nat.reduceMul, Nat.zero_mul, Nat.zero_add, Nat.reduceAdd] at hx6_0); (try rw [show ((0 : Int)).toNat = 0 from rfl] at hf6_0); (try simp only [Nat.reduceMul, Nat.zero_mul, Nat.zero_add, Nat.reduceAdd] at hf6_0); replace p6 := eq_true p6; replace q6 := eq_true q6; obtain ⟨hy15_, hz15_⟩ := Kd.R_celln (⟨#[]⟩ : ByteArray) HO142.out (0 : Int) (by omega) (of_decide_eq_true (by first | (with_reducible assumption) | assumption)); (try simp only [Int.reduceToNat, Int.toNat_zero, Int.toNat_ofNat, Nat.reduceMul, Nat.zero_mul, Nat.zero_add] at hy15_ hz15_); (try rw [show ((0 : Int)).toNat = 0 from rfl] at hy15_); (try rw [show ((0 : Int)).toNat = 0 from rfl] at hz15_); have HP15 := Kd.R_putg HO142.out (0 : Int) t143) | ((with_reducible refine gate_store (t := 9) (p := 23) rfl ?_); refine store_event (t := 9) (p := 23) (v := ?vo_w16) (w1 := (w13.setCell ⟨go6, (0 : Int).toNat, none⟩ (.string t143))) ?hg ?ho ?hn ?hr ?_; (case ho => rfl); (case hg => rfl); (case hn => rfl); (case hr => first | (go_simp; done) | (go_simp; rfl)); intro w16 hw; have hg : w13.grownBy w16 (some go6) := (by rw [hw]; exact HP15.2); have hp_ : Kd.R Kd.string 9 w16 w.heap.size (fun _ => True) (.slice (some ⟨go6, 0, none⟩) y140.length co6) y146 := (by rw [hw, Ny146.out]; exact HP15.1); clear HP15; have n0_ := Aside0.mk (hp_); have n1_ := Aside0.mk ((by rw [hw]; exact below_set (HB.out) GB6.out : Below w.heap.size w w16)); clear HO142; clear HB; have HO142 := n0_; have HB := n1_; clear n0_ n1_; clear hg hw hp_) | ((with_reducible refine gate_callee (f := 14) rfl ?_); refine goesL_ (some 26) rfl rfl Try.func14 (by kernel_rfl) rfl #[.string t144, .string (⟨#[46]⟩ : ByteArray)] rfl (by (try simp only [List.map_toArray, List.map_cons, List.map_nil]); first | done | rfl | (simp only [List.length_drop, List.length_take]; rfl)) ?_; (with_reducible refine (jwt_zzCut.calls k t144 (⟨#[46]⟩ : ByteArray) t147 t148 true _ A7.out).mono ?_); rintro e w' ⟨rfl, ⟨nd, rfl⟩⟩; refine ⟨_, rfl, ?_⟩; (try (rw [drewN_self w16]; generalize hq_ : World.drewN w16 _ = w16; have n0_ : Aside0 (Kd.R Kd.string 9 w16 w.heap.size (fun _ => True) (.slice (some ⟨go6, 0, none⟩) y140.length co6) y146) := ⟨by rw [← hq_]; exact (by (with_reducible repeat (first | apply Kd.R_alloc | apply Kd.R_drewN | apply Kd.R_drew)); exact HO142.out)⟩; have n1_ : Aside0 (Below w.heap.size w w16) := ⟨by rw [← hq_]; exact (by repeat (first | (with_reducible first | exact HB.out | apply below_alloc | apply pw_below_drewN | apply below_drew1) | exact HB.out))⟩; clear HO142 HB hq_; have HO142 := n0_; have HB := n1_; clear n0_ n1_)); have p10 : 0 ≤ (1 : Int) := (by omega); have q10 : (1 : Int) < ((y140.length : Int) : Int) := of_decide_eq_true (by first | (with_reducible assumption) | assumption); have qi10 : (1 < y140.length) = True := eq_true (by omega); obtain ⟨hx10_0, hf10_0⟩ := Kd.R_celln (⟨#[]⟩ : ByteArray) HO142.out (1 : Int) p10 q10; (try rw [show ((1 : Int)).toNat = 1 from rfl] at hx10_0); (try simp only [Nat.reduceMul, Nat.zero_mul, Nat.zero_add, Nat.reduceAdd] at hx10_0); (try rw [show ((1 : Int)).toNat = 1 from rfl] at hf10_0); (try simp only [Nat.reduceMul, Nat.zero_mul, Nat.zero_add, Nat.reduceAdd] at hf10_0); replace p10 := eq_true p10; replace q10 := eq_true q10; obtain ⟨hy17_, hz17_⟩ := Kd.R_celln (⟨#[]⟩ : ByteArray) HO142.out (1 : Int) (by omega) (of_decide_eq_true (by first | (with_reducible assumption) | assumption)); (try simp only [Int.reduceToNat, Int.toNat_zero, Int.toNat_ofNat, Nat.reduceMul, Nat.zero_mul, Nat.zero_add] at hy17_ hz17_); (try rw [show ((1 : Int)).toNat = 1 from rfl] at hy17_); (try rw [show ((1 : Int)).toNat = 1 from rfl] at hz17_); have HP17 := Kd.R_putg HO142.out (1 : Int) t147) | ((with_reducible refine gate_store (t := 9) (p := 34) rfl ?_); refine store_event (t := 9) (p := 34) (v := ?vo_w18) (w1 := (w16.setCell ⟨go6, (1 : Int).toNat, none⟩ (.string t147))) ?hg ?ho ?hn ?hr ?_; (case ho => rfl); (case hg => rfl); (case hn => rfl); (case hr => first | (go_simp; done) | (go_simp; rfl)); intro w18 hw; have hg : w16.grownBy w18 (some go6) := (by rw [hw]; exact HP17.2); have hp_ : Kd.R Kd.string 9 w18 w.heap.size (fun _ => True) (.slice (some ⟨go6, 0, none⟩) y140.length co6) y150 := (by rw [hw, Ny150.out]; exact HP17.1); clear HP17; have n0_ := Aside0.mk (hp_); have n1_ := Aside0.mk ((by rw [hw]; exact below_set (HB.out) GB6.out : Below w.heap.size w w18)); clear HO142; clear HB; have HO142 := n0_; have HB := n1_; clear n0_ n1_; clear hg hw hp_) | ((with_reducible refine gate_callee (f := 14) rfl ?_); refine goesL_ (some 37) rfl rfl Try.func14 (by kernel_rfl) rfl #[.string t148, .string (⟨#[46]⟩ : ByteArray)] rfl (by (try simp only [List.map_toArray, List.map_cons, List.map_nil]); first | done | rfl | (simp only [List.length_drop, List.length_take]; rfl)) ?_; (with_reducible refine (jwt_zzCut.calls k t148 (⟨#[46]⟩ : ByteArray) t151 t152 true _ A11.out).mono ?_); rintro e w' ⟨rfl, ⟨nd, rfl⟩⟩; refine ⟨_, rfl, ?_⟩))
              go_ret2
              exact ⟨_, by first | rfl | (simp [errW_none, errW_some] <;> rfl) | (simp [*, errW_none, errW_some] <;> rfl), by first | exact Kd.R_nil _ _ _ _ _ | exact Kd.N_nil _ _ _ _ _ | exact Kd.V_nil _ _ _ _ _ | exact Kd.Q_nil _ _ _ _ _ | exact Kd.S_nil _ _ _ _ _, by repeat (first | (with_reducible first | exact HB.out | apply below_alloc | apply pw_below_drewN | apply below_drew1) | exact HB.out)⟩
            · replace c12 := Bool.eq_false_iff.mpr c12
              subst c12
              have H1 : (if 2 < (y140.length : Int) then (some ((y150.set (2 : Int).toNat t151), true)) else (none)) = some (r1, r2) := by rw [if_neg (show ¬ (false = true) by decide)] at H; exact H
              clear H
              have H := H1
              clear H1
              by_cases c19 : 2 < (y140.length : Int)
              · rw [if_pos c19] at H
                have c19b0 : decide (2 < (y140.length : Int)) = true := decide_eq_true c19
                have c19b1 : decide (2 < y140.length) = true := decide_eq_true (by omega)
                clear c19
                obtain ⟨y154, hy154⟩ : ∃ y_ : List ByteArray, y_ = (y150.set (2 : Int).toNat t151) := ⟨_, rfl⟩
                replace H : (some (y154, true)) = some (r1, r2) := by first | (rw [hy154]; with_reducible exact H) | (have H2_ := (Option.bind_some _ _).symm.trans H; rw [hy154]; with_reducible exact H2_) | (have H2_ := (Option.bind_some _ _).symm.trans H; with_reducible exact H2_) | with_reducible exact H | (rw [hy154]; exact H) | exact H
                have Ny154 := Aside0.mk hy154
                clear hy154
                simp only [Option.some.injEq, Prod.mk.injEq] at H
                obtain ⟨rfl, rfl⟩ := H
                go_enter Try.func12, Try.ntmps12
                go_wp2_with (first | ((with_reducible refine gate_dst (N := 12) rfl ?_); refine Kd.R_make Kd.string _ 9 rfl (N := 12) rfl 26 _ _ rfl 3 rfl rfl Try.underlying26 (.string ⟨#[]⟩) 16 info9 rfl (by decide) (by omega) (⟨#[]⟩ : ByteArray) (ok := fun _ => True) (okp := fun _ => True) rfl (fun _ hk => hk) trivial (by omega) (by omega) (Below.refl _ _) (Nat.le_refl _) ?_; intro v141 w21 ho22 hb hg_ hnew_; clear hg_ hnew_; (first | rw [← Ny140.out] at ho22 | (simp only [Int.reduceToNat] at ho22; rw [← Ny140.out] at ho22)); have n0_ := Aside0.mk (Kd.R_lower ho22 (below_size (by repeat (first | (with_reducible first | exact HB.out | apply below_alloc | apply pw_below_drewN | apply below_drew1) | exact HB.out)))); have n1_ := Aside0.mk (below_step (by repeat (first | (with_reducible first | exact HB.out | apply below_alloc | apply pw_below_drewN | apply below_drew1) | exact HB.out)) hb); clear HB; have HO142 := n0_; have HB := n1_; clear n0_ n1_; clear hb ho22) | ((with_reducible refine gate_callee (f := 14) rfl ?_); refine goesL_ (some 15) rfl rfl Try.func14 (by kernel_rfl) rfl #[.string a0, .string (⟨#[46]⟩ : ByteArray)] rfl (by (try simp only [List.map_toArray, List.map_cons, List.map_nil]); first | done | rfl | (simp only [List.length_drop, List.length_take]; rfl)) ?_; (with_reducible refine (jwt_zzCut.calls k a0 (⟨#[46]⟩ : ByteArray) t143 t144 true _ A3.out).mono ?_); rintro e w' ⟨rfl, ⟨nd, rfl⟩⟩; refine ⟨_, rfl, ?_⟩; (try (rw [drewN_self w21]; generalize hq_ : World.drewN w21 _ = w21; have n0_ : Aside0 (Kd.R Kd.string 9 w21 w.heap.size (fun _ => True) v141 y140) := ⟨by rw [← hq_]; exact (by (with_reducible repeat (first | apply Kd.R_alloc | apply Kd.R_drewN | apply Kd.R_drew)); exact HO142.out)⟩; have n1_ : Aside0 (Below w.heap.size w w21) := ⟨by rw [← hq_]; exact (by repeat (first | (with_reducible first | exact HB.out | apply below_alloc | apply pw_below_drewN | apply below_drew1) | exact HB.out))⟩; clear HO142 HB hq_; have HO142 := n0_; have HB := n1_; clear n0_ n1_)); have p6 : 0 ≤ (0 : Int) := (by omega); have q6 : (0 : Int) < ((y140.length : Int) : Int) := of_decide_eq_true (by first | (with_reducible assumption) | assumption); have qi6 : (0 < y140.length) = True := eq_true (by omega); obtain ⟨go6, co6, eo6, gb6, gl6, cl6, HG6⟩ := Kd.R_form HO142.out (by omega); (first | cases eo6 | (injection eo6 with ea_ en_ ec_; (first | subst ea_ | (injection ea_ with ea_; subst ea_)); subst ec_; clear en_)); have GB6 := Aside0.mk gb6; have GG6 := Aside0.mk HG6; clear gb6 gl6 HG6; obtain ⟨hx6_0, hf6_0⟩ := Kd.R_celln (⟨#[]⟩ : ByteArray) HO142.out (0 : Int) p6 q6; (try rw [show ((0 : Int)).toNat = 0 from rfl] at hx6_0); (try simp only [Nat.reduceMul, Nat.zero_mul, Nat.zero_add, Nat.reduceAdd] at hx6_0); (try rw [show ((0 : Int)).toNat = 0 from rfl] at hf6_0); (try simp only [Nat.reduceMul, Nat.zero_mul, Nat.zero_add, Nat.reduceAdd] at hf6_0); replace p6 := eq_true p6; replace q6 := eq_true q6; obtain ⟨hy23_, hz23_⟩ := Kd.R_celln (⟨#[]⟩ : ByteArray) HO142.out (0 : Int) (by omega) (of_decide_eq_true (by first | (with_reducible assumption) | assumption)); (try simp only [Int.reduceToNat, Int.toNat_zero, Int.toNat_ofNat, Nat.reduceMul, Nat.zero_mul, Nat.zero_add] at hy23_ hz23_); (try rw [show ((0 : Int)).toNat = 0 from rfl] at hy23_); (try rw [show ((0 : Int)).toNat = 0 from rfl] at hz23_); have HP23 := Kd.R_putg HO142.out (0 : Int) t143) | ((with_reducible refine gate_store (t := 9) (p := 23) rfl ?_); refine store_event (t := 9) (p := 23) (v := ?vo_w24) (w1 := (w21.setCell ⟨go6, (0 : Int).toNat, none⟩ (.string t143))) ?hg ?ho ?hn ?hr ?_; (case ho => rfl); (case hg => rfl); (case hn => rfl); (case hr => first | (go_simp; done) | (go_simp; rfl)); intro w24 hw; have hg : w21.grownBy w24 (some go6) := (by rw [hw]; exact HP23.2); have hp_ : Kd.R Kd.string 9 w24 w.heap.size (fun _ => True) (.slice (some ⟨go6, 0, none⟩) y140.length co6) y146 := (by rw [hw, Ny146.out]; exact HP23.1); clear HP23; have n0_ := Aside0.mk (hp_); have n1_ := Aside0.mk ((by rw [hw]; exact below_set (HB.out) GB6.out : Below w.heap.size w w24)); clear HO142; clear HB; have HO142 := n0_; have HB := n1_; clear n0_ n1_; clear hg hw hp_) | ((with_reducible refine gate_callee (f := 14) rfl ?_); refine goesL_ (some 26) rfl rfl Try.func14 (by kernel_rfl) rfl #[.string t144, .string (⟨#[46]⟩ : ByteArray)] rfl (by (try simp only [List.map_toArray, List.map_cons, List.map_nil]); first | done | rfl | (simp only [List.length_drop, List.length_take]; rfl)) ?_; (with_reducible refine (jwt_zzCut.calls k t144 (⟨#[46]⟩ : ByteArray) t147 t148 true _ A7.out).mono ?_); rintro e w' ⟨rfl, ⟨nd, rfl⟩⟩; refine ⟨_, rfl, ?_⟩; (try (rw [drewN_self w24]; generalize hq_ : World.drewN w24 _ = w24; have n0_ : Aside0 (Kd.R Kd.string 9 w24 w.heap.size (fun _ => True) (.slice (some ⟨go6, 0, none⟩) y140.length co6) y146) := ⟨by rw [← hq_]; exact (by (with_reducible repeat (first | apply Kd.R_alloc | apply Kd.R_drewN | apply Kd.R_drew)); exact HO142.out)⟩; have n1_ : Aside0 (Below w.heap.size w w24) := ⟨by rw [← hq_]; exact (by repeat (first | (with_reducible first | exact HB.out | apply below_alloc | apply pw_below_drewN | apply below_drew1) | exact HB.out))⟩; clear HO142 HB hq_; have HO142 := n0_; have HB := n1_; clear n0_ n1_)); have p10 : 0 ≤ (1 : Int) := (by omega); have q10 : (1 : Int) < ((y140.length : Int) : Int) := of_decide_eq_true (by first | (with_reducible assumption) | assumption); have qi10 : (1 < y140.length) = True := eq_true (by omega); obtain ⟨hx10_0, hf10_0⟩ := Kd.R_celln (⟨#[]⟩ : ByteArray) HO142.out (1 : Int) p10 q10; (try rw [show ((1 : Int)).toNat = 1 from rfl] at hx10_0); (try simp only [Nat.reduceMul, Nat.zero_mul, Nat.zero_add, Nat.reduceAdd] at hx10_0); (try rw [show ((1 : Int)).toNat = 1 from rfl] at hf10_0); (try simp only [Nat.reduceMul, Nat.zero_mul, Nat.zero_add, Nat.reduceAdd] at hf10_0); replace p10 := eq_true p10; replace q10 := eq_true q10; obtain ⟨hy25_, hz25_⟩ := Kd.R_celln (⟨#[]⟩ : ByteArray) HO142.out (1 : Int) (by omega) (of_decide_eq_true (by first | (with_reducible assumption) | assumption)); (try simp only [Int.reduceToNat, Int.toNat_zero, Int.toNat_ofNat, Nat.reduceMul, Nat.zero_mul, Nat.zero_add] at hy25_ hz25_); (try rw [show ((1 : Int)).toNat = 1 from rfl] at hy25_); (try rw [show ((1 : Int)).toNat = 1 from rfl] at hz25_); have HP25 := Kd.R_putg HO142.out (1 : Int) t147) | ((with_reducible refine gate_store (t := 9) (p := 34) rfl ?_); refine store_event (t := 9) (p := 34) (v := ?vo_w26) (w1 := (w24.setCell ⟨go6, (1 : Int).toNat, none⟩ (.string t147))) ?hg ?ho ?hn ?hr ?_; (case ho => rfl); (case hg => rfl); (case hn => rfl); (case hr => first | (go_simp; done) | (go_simp; rfl)); intro w26 hw; have hg : w24.grownBy w26 (some go6) := (by rw [hw]; exact HP25.2); have hp_ : Kd.R Kd.string 9 w26 w.heap.size (fun _ => True) (.slice (some ⟨go6, 0, none⟩) y140.length co6) y150 := (by rw [hw, Ny150.out]; exact HP25.1); clear HP25; have n0_ := Aside0.mk (hp_); have n1_ := Aside0.mk ((by rw [hw]; exact below_set (HB.out) GB6.out : Below w.heap.size w w26)); clear HO142; clear HB; have HO142 := n0_; have HB := n1_; clear n0_ n1_; clear hg hw hp_) | ((with_reducible refine gate_callee (f := 14) rfl ?_); refine goesL_ (some 37) rfl rfl Try.func14 (by kernel_rfl) rfl #[.string t148, .string (⟨#[46]⟩ : ByteArray)] rfl (by (try simp only [List.map_toArray, List.map_cons, List.map_nil]); first | done | rfl | (simp only [List.length_drop, List.length_take]; rfl)) ?_; (with_reducible refine (jwt_zzCut.calls k t148 (⟨#[46]⟩ : ByteArray) t151 t152 false _ A11.out).mono ?_); rintro e w' ⟨rfl, ⟨nd, rfl⟩⟩; refine ⟨_, rfl, ?_⟩; (try (rw [drewN_self w26]; generalize hq_ : World.drewN w26 _ = w26; have n0_ : Aside0 (Kd.R Kd.string 9 w26 w.heap.size (fun _ => True) (.slice (some ⟨go6, 0, none⟩) y140.length co6) y150) := ⟨by rw [← hq_]; exact (by (with_reducible repeat (first | apply Kd.R_alloc | apply Kd.R_drewN | apply Kd.R_drew)); exact HO142.out)⟩; have n1_ : Aside0 (Below w.heap.size w w26) := ⟨by rw [← hq_]; exact (by repeat (first | (with_reducible first | exact HB.out | apply below_alloc | apply pw_below_drewN | apply below_drew1) | exact HB.out))⟩; clear HO142 HB hq_; have HO142 := n0_; have HB := n1_; clear n0_ n1_)); have p20 : 0 ≤ (2 : Int) := (by omega); have q20 : (2 : Int) < ((y140.length : Int) : Int) := of_decide_eq_true (by first | (with_reducible assumption) | assumption); have qi20 : (2 < y140.length) = True := eq_true (by omega); obtain ⟨hx20_0, hf20_0⟩ := Kd.R_celln (⟨#[]⟩ : ByteArray) HO142.out (2 : Int) p20 q20; (try rw [show ((2 : Int)).toNat = 2 from rfl] at hx20_0); (try simp only [Nat.reduceMul, Nat.zero_mul, Nat.zero_add, Nat.reduceAdd] at hx20_0); (try rw [show ((2 : Int)).toNat = 2 from rfl] at hf20_0); (try simp only [Nat.reduceMul, Nat.zero_mul, Nat.zero_add, Nat.reduceAdd] at hf20_0); replace p20 := eq_true p20; replace q20 := eq_true q20; obtain ⟨hy27_, hz27_⟩ := Kd.R_celln (⟨#[]⟩ : ByteArray) HO142.out (2 : Int) (by omega) (of_decide_eq_true (by first | (with_reducible assumption) | assumption)); (try simp only [Int.reduceToNat, Int.toNat_zero, Int.toNat_ofNat, Nat.reduceMul, Nat.zero_mul, Nat.zero_add] at hy27_ hz27_); (try rw [show ((2 : Int)).toNat = 2 from rfl] at hy27_); (try rw [show ((2 : Int)).toNat = 2 from rfl] at hz27_); have HP27 := Kd.R_putg HO142.out (2 : Int) t151) | ((with_reducible refine gate_store (t := 9) (p := 44) rfl ?_); refine store_event (t := 9) (p := 44) (v := ?vo_w28) (w1 := (w26.setCell ⟨go6, (2 : Int).toNat, none⟩ (.string t151))) ?hg ?ho ?hn ?hr ?_; (case ho => rfl); (case hg => rfl); (case hn => rfl); (case hr => first | (go_simp; done) | (go_simp; rfl)); intro w28 hw; have hg : w26.grownBy w28 (some go6) := (by rw [hw]; exact HP27.2); have hp_ : Kd.R Kd.string 9 w28 w.heap.size (fun _ => True) (.slice (some ⟨go6, 0, none⟩) y140.length co6) y154 := (by rw [hw, Ny154.out]; exact HP27.1); clear HP27; have n0_ := Aside0.mk (hp_); have n1_ := Aside0.mk ((by rw [hw]; exact below_set (HB.out) GB6.out : Below w.heap.size w w28)); clear HO142; clear HB; have HO142 := n0_; have HB := n1_; clear n0_ n1_; clear hg hw hp_))
                go_ret2
                exact ⟨_, by first | rfl | (simp [errW_none, errW_some] <;> rfl) | (simp [*, errW_none, errW_some] <;> rfl), by (with_reducible repeat (first | apply Kd.R_alloc | apply Kd.R_drewN | apply Kd.R_drew)); exact HO142.out, by repeat (first | (with_reducible first | exact HB.out | apply below_alloc | apply pw_below_drewN | apply below_drew1) | exact HB.out)⟩
              · rw [if_neg c19] at H
                exact absurd H (by simp)
          · rw [if_neg c9] at H
            exact absurd H (by simp)
        · replace c8 := Bool.eq_false_iff.mpr c8
          subst c8
          have H1 : (some (([] : List ByteArray), false)) = some (r1, r2) := by rw [if_neg (show ¬ (false = true) by decide)] at H; exact H
          clear H
          have H := H1
          clear H1
          simp only [Option.some.injEq, Prod.mk.injEq] at H
          obtain ⟨rfl, rfl⟩ := H
          go_enter Try.func12, Try.ntmps12
          go_wp2_with (first | ((with_reducible refine gate_dst (N := 12) rfl ?_); refine Kd.R_make Kd.string _ 9 rfl (N := 12) rfl 26 _ _ rfl 3 rfl rfl Try.underlying26 (.string ⟨#[]⟩) 16 info9 rfl (by decide) (by omega) (⟨#[]⟩ : ByteArray) (ok := fun _ => True) (okp := fun _ => True) rfl (fun _ hk => hk) trivial (by omega) (by omega) (Below.refl _ _) (Nat.le_refl _) ?_; intro v141 w29 ho30 hb hg_ hnew_; clear hg_ hnew_; (first | rw [← Ny140.out] at ho30 | (simp only [Int.reduceToNat] at ho30; rw [← Ny140.out] at ho30)); have n0_ := Aside0.mk (Kd.R_lower ho30 (below_size (by repeat (first | (with_reducible first | exact HB.out | apply below_alloc | apply pw_below_drewN | apply below_drew1) | exact HB.out)))); have n1_ := Aside0.mk (below_step (by repeat (first | (with_reducible first | exact HB.out | apply below_alloc | apply pw_below_drewN | apply below_drew1) | exact HB.out)) hb); clear HB; have HO142 := n0_; have HB := n1_; clear n0_ n1_; clear hb ho30) | ((with_reducible refine gate_callee (f := 14) rfl ?_); refine goesL_ (some 15) rfl rfl Try.func14 (by kernel_rfl) rfl #[.string a0, .string (⟨#[46]⟩ : ByteArray)] rfl (by (try simp only [List.map_toArray, List.map_cons, List.map_nil]); first | done | rfl | (simp only [List.length_drop, List.length_take]; rfl)) ?_; (with_reducible refine (jwt_zzCut.calls k a0 (⟨#[46]⟩ : ByteArray) t143 t144 true _ A3.out).mono ?_); rintro e w' ⟨rfl, ⟨nd, rfl⟩⟩; refine ⟨_, rfl, ?_⟩; (try (rw [drewN_self w29]; generalize hq_ : World.drewN w29 _ = w29; have n0_ : Aside0 (Kd.R Kd.string 9 w29 w.heap.size (fun _ => True) v141 y140) := ⟨by rw [← hq_]; exact (by (with_reducible repeat (first | apply Kd.R_alloc | apply Kd.R_drewN | apply Kd.R_drew)); exact HO142.out)⟩; have n1_ : Aside0 (Below w.heap.size w w29) := ⟨by rw [← hq_]; exact (by repeat (first | (with_reducible first | exact HB.out | apply below_alloc | apply pw_below_drewN | apply below_drew1) | exact HB.out))⟩; clear HO142 HB hq_; have HO142 := n0_; have HB := n1_; clear n0_ n1_)); have p6 : 0 ≤ (0 : Int) := (by omega); have q6 : (0 : Int) < ((y140.length : Int) : Int) := of_decide_eq_true (by first | (with_reducible assumption) | assumption); have qi6 : (0 < y140.length) = True := eq_true (by omega); obtain ⟨go6, co6, eo6, gb6, gl6, cl6, HG6⟩ := Kd.R_form HO142.out (by omega); (first | cases eo6 | (injection eo6 with ea_ en_ ec_; (first | subst ea_ | (injection ea_ with ea_; subst ea_)); subst ec_; clear en_)); have GB6 := Aside0.mk gb6; have GG6 := Aside0.mk HG6; clear gb6 gl6 HG6; obtain ⟨hx6_0, hf6_0⟩ := Kd.R_celln (⟨#[]⟩ : ByteArray) HO142.out (0 : Int) p6 q6; (try rw [show ((0 : Int)).toNat = 0 from rfl] at hx6_0); (try simp only [Nat.reduceMul, Nat.zero_mul, Nat.zero_add, Nat.reduceAdd] at hx6_0); (try rw [show ((0 : Int)).toNat = 0 from rfl] at hf6_0); (try simp only [Nat.reduceMul, Nat.zero_mul, Nat.zero_add, Nat.reduceAdd] at hf6_0); replace p6 := eq_true p6; replace q6 := eq_true q6; obtain ⟨hy31_, hz31_⟩ := Kd.R_celln (⟨#[]⟩ : ByteArray) HO142.out (0 : Int) (by omega) (of_decide_eq_true (by first | (with_reducible assumption) | assumption)); (try simp only [Int.reduceToNat, Int.toNat_zero, Int.toNat_ofNat, Nat.reduceMul, Nat.zero_mul, Nat.zero_add] at hy31_ hz31_); (try rw [show ((0 : Int)).toNat = 0 from rfl] at hy31_); (try rw [show ((0 : Int)).toNat = 0 from rfl] at hz31_); have HP31 := Kd.R_putg HO142.out (0 : Int) t143) | ((with_reducible refine gate_store (t := 9) (p := 23) rfl ?_); refine store_event (t := 9) (p := 23) (v := ?vo_w32) (w1 := (w29.setCell ⟨go6, (0 : Int).toNat, none⟩ (.string t143))) ?hg ?ho ?hn ?hr ?_; (case ho => rfl); (case hg => rfl); (case hn => rfl); (case hr => first | (go_simp; done) | (go_simp; rfl)); intro w32 hw; have hg : w29.grownBy w32 (some go6) := (by rw [hw]; exact HP31.2); have hp_ : Kd.R Kd.string 9 w32 w.heap.size (fun _ => True) (.slice (some ⟨go6, 0, none⟩) y140.length co6) y146 := (by rw [hw, Ny146.out]; exact HP31.1); clear HP31; have n0_ := Aside0.mk (hp_); have n1_ := Aside0.mk ((by rw [hw]; exact below_set (HB.out) GB6.out : Below w.heap.size w w32)); clear HO142; clear HB; have HO142 := n0_; have HB := n1_; clear n0_ n1_; clear hg hw hp_) | ((with_reducible refine gate_callee (f := 14) rfl ?_); refine goesL_ (some 26) rfl rfl Try.func14 (by kernel_rfl) rfl #[.string t144, .string (⟨#[46]⟩ : ByteArray)] rfl (by (try simp only [List.map_toArray, List.map_cons, List.map_nil]); first | done | rfl | (simp only [List.length_drop, List.length_take]; rfl)) ?_; (with_reducible refine (jwt_zzCut.calls k t144 (⟨#[46]⟩ : ByteArray) t147 t148 false _ A7.out).mono ?_); rintro e w' ⟨rfl, ⟨nd, rfl⟩⟩; refine ⟨_, rfl, ?_⟩))
          go_ret2
          exact ⟨_, by first | rfl | (simp [errW_none, errW_some] <;> rfl) | (simp [*, errW_none, errW_some] <;> rfl), by first | exact Kd.R_nil _ _ _ _ _ | exact Kd.N_nil _ _ _ _ _ | exact Kd.V_nil _ _ _ _ _ | exact Kd.Q_nil _ _ _ _ _ | exact Kd.S_nil _ _ _ _ _, by repeat (first | (with_reducible first | exact HB.out | apply below_alloc | apply pw_below_drewN | apply below_drew1) | exact HB.out)⟩
      · rw [if_neg c5] at H
        exact absurd H (by simp)
    · replace c4 := Bool.eq_false_iff.mpr c4
      subst c4
      have H1 : (some (([] : List ByteArray), false)) = some (r1, r2) := by rw [if_neg (show ¬ (false = true) by decide)] at H; exact H
      clear H
      have H := H1
      clear H1
      simp only [Option.some.injEq, Prod.mk.injEq] at H
      obtain ⟨rfl, rfl⟩ := H
      go_enter Try.func12, Try.ntmps12
      go_wp2_with (first | ((with_reducible refine gate_dst (N := 12) rfl ?_); refine Kd.R_make Kd.string _ 9 rfl (N := 12) rfl 26 _ _ rfl 3 rfl rfl Try.underlying26 (.string ⟨#[]⟩) 16 info9 rfl (by decide) (by omega) (⟨#[]⟩ : ByteArray) (ok := fun _ => True) (okp := fun _ => True) rfl (fun _ hk => hk) trivial (by omega) (by omega) (Below.refl _ _) (Nat.le_refl _) ?_; intro v141 w33 ho34 hb hg_ hnew_; clear hg_ hnew_; (first | rw [← Ny140.out] at ho34 | (simp only [Int.reduceToNat] at ho34; rw [← Ny140.out] at ho34)); have n0_ := Aside0.mk (Kd.R_lower ho34 (below_size (by repeat (first | (with_reducible first | exact HB.out | apply below_alloc | apply pw_below_drewN | apply below_drew1) | exact HB.out)))); have n1_ := Aside0.mk (below_step (by repeat (first | (with_reducible first | exact HB.out | apply below_alloc | apply pw_below_drewN | apply below_drew1) | exact HB.out)) hb); clear HB; have HO142 := n0_; have HB := n1_; clear n0_ n1_; clear hb ho34) | ((with_reducible refine gate_callee (f := 14) rfl ?_); refine goesL_ (some 15) rfl rfl Try.func14 (by kernel_rfl) rfl #[.string a0, .string (⟨#[46]⟩ : ByteArray)] rfl (by (try simp only [List.map_toArray, List.map_cons, List.map_nil]); first | done | rfl | (simp only [List.length_drop, List.length_take]; rfl)) ?_; (with_reducible refine (jwt_zzCut.calls k a0 (⟨#[46]⟩ : ByteArray) t143 t144 false _ A3.out).mono ?_); rintro e w' ⟨rfl, ⟨nd, rfl⟩⟩; refine ⟨_, rfl, ?_⟩))
      go_ret2
      exact ⟨_, by first | rfl | (simp [errW_none, errW_some] <;> rfl) | (simp [*, errW_none, errW_some] <;> rfl), by first | exact Kd.R_nil _ _ _ _ _ | exact Kd.N_nil _ _ _ _ _ | exact Kd.V_nil _ _ _ _ _ | exact Kd.Q_nil _ _ _ _ _ | exact Kd.S_nil _ _ _ _ _, by repeat (first | (with_reducible first | exact HB.out | apply below_alloc | apply pw_below_drewN | apply below_drew1) | exact HB.out)⟩
  · rw [if_neg c2] at H
    exact absurd H (by simp)

/-! ### jwt_ZZSplit: function 8 -/
def jwt_ZZSplit.f (k : Nat) (a0 : ByteArray) : Option (List ByteArray × Bool) := (jwt_splitToken.f k a0).bind fun bt155 => (some (bt155.1, bt155.2))
theorem jwt_ZZSplit.mono : ∀ a0 k, LeO (jwt_ZZSplit.f k a0) (jwt_ZZSplit.f (k + 1) a0) := by
  intro a0 k
  unfold jwt_ZZSplit.f
  repeat' first
      | (with_reducible exact jwt_splitToken.mono _ _)
      | (with_reducible exact LeO.refl _)
      | (with_reducible exact LeO.none _)
      | (with_reducible refine LeO.ite ?_ ?_)
      | (with_reducible refine LeO.bind ?_ (fun _ => ?_))
      | exact jwt_splitToken.mono _ _
      | exact LeO.none _
      | refine LeO.ite ?_ ?_
      | refine LeO.bind ?_ (fun _ => ?_)
set_option maxHeartbeats 8000000 in
set_option maxRecDepth 100000 in
theorem jwt_ZZSplit.calls (k : Nat) (a0 : ByteArray) (r1 : List ByteArray) (r2 : Bool) (w : World) (h : jwt_ZZSplit.f k a0 = some (r1, r2)) :
    Calls Try.prog 8 #[.string a0] w fun e w' => ∃ v0_ : Value, e = .returned (.tuple #[v0_, .bool r2]) ∧ Kd.R Kd.string 9 w' w.heap.size (fun _ => True) v0_ r1 ∧ Below w.heap.size w w' := by
  have HB := Aside0.mk (Below.refl w.heap.size w)
  have H : ((jwt_splitToken.f k a0).bind fun bt155 => (some (bt155.1, bt155.2))) = some (r1, r2) := h
  clear h
  replace H := Option.bind_eq_some_iff.mp H
  obtain ⟨⟨t155, t156⟩, A20, H⟩ := H
  replace H : (some (t155, t156)) = some (r1, r2) := H
  have A2 := Aside0.mk A20
  clear A20
  simp only [Option.some.injEq, Prod.mk.injEq] at H
  obtain ⟨rfl, rfl⟩ := H
  go_enter Try.func8, Try.ntmps8
  go_wp2_with (first | ((with_reducible refine gate_callee (f := 12) rfl ?_); refine goesL_ (some 5) rfl rfl Try.func12 (by kernel_rfl) rfl #[.string a0] rfl (by (try simp only [List.map_toArray, List.map_cons, List.map_nil]); first | done | rfl | (simp only [List.length_drop, List.length_take]; rfl)) ?_; (with_reducible refine (jwt_splitToken.calls k a0 t155 t156 _ A2.out).mono ?_); rintro e w3 ⟨v157, rfl, ho0, hb⟩; refine ⟨_, rfl, ?_⟩; have n0_ := Aside0.mk (Kd.R_lower ho0 (below_size (by repeat (first | (with_reducible first | exact HB.out | apply below_alloc | apply pw_below_drewN | apply below_drew1) | exact HB.out)))); have n1_ := Aside0.mk (below_step (by repeat (first | (with_reducible first | exact HB.out | apply below_alloc | apply pw_below_drewN | apply below_drew1) | exact HB.out)) hb); clear HB; have HO158 := n0_; have HB := n1_; clear n0_ n1_; (try clear hb); (try clear hb2); (try clear hk); (try clear hi); (try clear ho0)))
  go_ret2
  exact ⟨_, by first | rfl | (simp [errW_none, errW_some] <;> rfl) | (simp [*, errW_none, errW_some] <;> rfl), by (with_reducible repeat (first | apply Kd.R_alloc | apply Kd.R_drewN | apply Kd.R_drew)); exact HO158.out, by repeat (first | (with_reducible first | exact HB.out | apply below_alloc | apply pw_below_drewN | apply below_drew1) | exact HB.out)⟩

-- NOT PRINTED: function 9 (slices_Clone_string_string)

-- NOT PRINTED: function 6 (impl_Split)

-- NOT PRINTED: function 3 (laws_FnSplit)

end Go.Proofs.Ytmmnjlcepkkjeaa.PFnSplit
