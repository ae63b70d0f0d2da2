/- The contract of impl.Split at a text of at most 4096 bytes: it returns what ZZSplit returns, the parts in memory of its own; what was in memory stays as it was. -/
import Derived.Test.YtmmnjlcepkkjeaaShort
import Derived.Test.YtmmnjlcepkkjeaaClone
namespace Go.Proofs.Ytmmnjlcepkkjeaa.Own
open Go.RowKit Go.Proofs.YtmmnjlcepkkjeaaW.PrintWords Go.Proofs.YtmmnjlcepkkjeaaW.PrintLast Go.Proofs.YtmmnjlcepkkjeaaW.PrintMore
open Go.Proofs.Ytmmnjlcepkkjeaa.PFnSplit

def impl_Split.f (k : Nat) (a0 : ByteArray) : Option (List ByteArray × Bool) := if a0.size ≤ 4096 then (jwt_ZZSplit.f k a0).bind fun x => (if x.1.length < 1000 then some x else none) else none

theorem impl_Split.mono : ∀ a0 k, LeO (impl_Split.f k a0) (impl_Split.f (k + 1) a0) := by
  intro a0 k
  unfold impl_Split.f
  refine LeO.ite ?_ (LeO.none _)
  exact LeO.bind (jwt_ZZSplit.mono _ _) (fun _ => LeO.refl _)

set_option maxHeartbeats 800000 in
set_option maxRecDepth 100000 in
theorem impl_Split.calls (k : Nat) (a0 : ByteArray) (r1 : List ByteArray) (r2 : Bool) (w : World) (h : impl_Split.f k a0 = some (r1, r2)) :
    Calls Try.prog 6 #[.string a0] w fun e w' => ∃ v0_ : Value, e = .returned (.tuple #[v0_, .bool r2]) ∧ Kd.R Kd.string 9 w' w.heap.size (fun _ => True) v0_ r1 ∧ Below w.heap.size w w' := by
  have hs : decide (4096 < a0.size) = false ∧ jwt_ZZSplit.f k a0 = some (r1, r2) ∧ r1.length < 1000 := by
    unfold impl_Split.f at h
    split at h
    · rename_i hle
      obtain ⟨⟨x1, x2⟩, h1, h2⟩ := Option.bind_eq_some_iff.1 h
      split at h2
      · rename_i hlt
        simp only [Option.some.injEq, Prod.mk.injEq] at h2
        obtain ⟨rfl, rfl⟩ := h2
        exact ⟨by simp; omega, h1, hlt⟩
      · cases h2
    · cases h
  clear h
  have HS := Aside0.mk hs.1
  have HZ := Aside0.mk hs.2.1
  have HL := Aside0.mk hs.2.2
  clear hs
  have HB := Aside0.mk (Below.refl w.heap.size w)
  go_enter Try.func6, Try.ntmps6
  go_wp2_with fail
  refine (short_calls a0 false HS.out ⟨w.heap.size, 0, none⟩ 1 _ (by simp)).mono ?_
  rintro e w' ⟨rfl, ⟨nd, rfl⟩⟩
  have HB1 := Aside0.mk (pw_below_drewN (below_alloc HB.out (Obj.cells #[Value.string a0] 9)) nd)
  generalize (w.alloc (Obj.cells #[Value.string a0] 9)).drewN nd = w1 at HB1 ⊢
  go_wp2_with fail
  refine (jwt_ZZSplit.calls k a0 r1 r2 w1 HZ.out).mono ?_
  rintro e w2 ⟨v1, rfl, hR, hb2⟩
  have HB2 := Aside0.mk (below_step HB1.out hb2)
  clear hb2
  obtain ⟨A, c, rfl⟩ := Kd.R_slice hR
  have HR := Aside0.mk hR
  clear hR
  go_wp2_with fail
  refine (clone_calls A c r1 w2 w2 _ _ HR.out (Kd.R_reads' HR.out).2.2 (by have := HL.out; omega)).mono ?_
  rintro e w3 ⟨v2, rfl, hR, hb3⟩
  have HB3 := Aside0.mk (below_step HB2.out hb3)
  have HR3 := Aside0.mk (Kd.R_lower hR (below_size HB2.out))
  clear hb3 hR
  go_wp2_with fail
  go_ret2
  exact ⟨_, rfl, HR3.out, HB3.out⟩

end Go.Proofs.Ytmmnjlcepkkjeaa.Own
