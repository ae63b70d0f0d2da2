/- The contract of impl.short at one text: it tells whether the text has at most 4096 bytes; the world is as it was, but for orders drawn. -/
import Derived.Test.YtmmnjlcepkkjeaaPFnSplitx3
import Derived.WalkSpells
namespace Go.Proofs.Ytmmnjlcepkkjeaa.Own
open Go.RowKit Go.Proofs.YtmmnjlcepkkjeaaW.PrintWords Go.Proofs.YtmmnjlcepkkjeaaW.PrintLast Go.Proofs.YtmmnjlcepkkjeaaW.PrintMore
open Go.Proofs.Ytmmnjlcepkkjeaa.PFnSplit

set_option maxHeartbeats 400000 in
theorem big_calls (s : ByteArray) (b : Bool) (hb : decide (4096 < s.size) = b) (w : World) :
    Calls Try.prog 11 #[.string s] w fun e w' => e = .returned (.bool b) ∧ w = w' := by
  subst hb
  go_enter Try.func11, Try.ntmps11
  go_wp2
  go_ret
  exact ⟨by simp; omega, rfl⟩

set_option maxHeartbeats 400000 in
theorem find_yes (s : ByteArray) (hs : decide (4096 < s.size) = true) (ad : Addr) (c : Nat) (w : World) (hc : w.cell? ad = some (.string s)) :
    Calls Try.prog 13 #[.slice (some ad) 1 c, .func (.func 11) #[] #[]] w fun e w' => e = .returned (.int .i64 0) ∧ w = w' := by
  have HS := Aside0.mk hs
  clear hs
  go_enter Try.func13, Try.ntmps13
  go_wp2
  go_loop [5, 8] (fun _ i => i = .int .i64 0) (fun _ i => 1 - (intOf i).toNat)
  case atStart => exact rfl
  case round =>
    obtain rfl := hrel
    go_wp2_with (go_at_call 11; refine (big_calls s true HS.out _).mono ?_; rintro e w' ⟨rfl, rfl⟩)
    go_ret
    exact ⟨rfl, rfl⟩

set_option maxHeartbeats 400000 in
theorem find_no (s : ByteArray) (hs : decide (4096 < s.size) = false) (ad : Addr) (c : Nat) (w : World) (hc : w.cell? ad = some (.string s)) :
    Calls Try.prog 13 #[.slice (some ad) 1 c, .func (.func 11) #[] #[]] w fun e w' => e = .returned (.int .i64 (-1)) ∧ w = w' := by
  have HS := Aside0.mk hs
  clear hs
  go_enter Try.func13, Try.ntmps13
  go_wp2
  go_loop [5, 8] (fun _ i => i = .int .i64 0 ∨ i = .int .i64 1) (fun _ i => 1 - (intOf i).toNat)
  case atStart => exact .inl rfl
  case round =>
    rcases hrel with rfl | rfl
    · go_wp2_with (go_at_call 11; refine (big_calls s false HS.out _).mono ?_; rintro e w' ⟨rfl, rfl⟩)
      go_round
      case rel => exact .inr rfl
      case measure => simp [intOf]
    · go_wp2
      go_ret
      exact ⟨rfl, rfl⟩

set_option maxHeartbeats 400000 in
theorem has_calls (s : ByteArray) (b : Bool) (hs : decide (4096 < s.size) = b) (ad : Addr) (c : Nat) (w : World) (hc : w.cell? ad = some (.string s)) :
    Calls Try.prog 10 #[.slice (some ad) 1 c, .func (.func 11) #[] #[]] w fun e w' => e = .returned (.bool b) ∧ w = w' := by
  have HS := Aside0.mk hs
  clear hs
  cases b with
  | true =>
    go_enter Try.func10, Try.ntmps10
    go_wp2_with (go_at_call 13; refine (find_yes s HS.out _ _ _ hc).mono ?_; rintro e w' ⟨rfl, rfl⟩)
    go_ret
    exact ⟨rfl, rfl⟩
  | false =>
    go_enter Try.func10, Try.ntmps10
    go_wp2_with (go_at_call 13; refine (find_no s HS.out _ _ _ hc).mono ?_; rintro e w' ⟨rfl, rfl⟩)
    go_ret
    exact ⟨rfl, rfl⟩

set_option maxHeartbeats 400000 in
theorem short_calls (s : ByteArray) (b : Bool) (hs : decide (4096 < s.size) = b) (ad : Addr) (c : Nat) (w : World) (hc : w.cell? ad = some (.string s)) :
    Calls Try.prog 7 #[.slice (some ad) 1 c] w fun e w' => e = .returned (.bool (!b)) ∧ Drawn0 w w' := by
  have HS := Aside0.mk hs
  clear hs
  go_enter Try.func7, Try.ntmps7
  go_wp2_with (go_at_call 10; refine (has_calls s b HS.out _ _ _ hc).mono ?_; rintro e w' ⟨rfl, rfl⟩)
  go_ret
  exact ⟨rfl, Drawn0.refl _⟩

end Go.Proofs.Ytmmnjlcepkkjeaa.Own
