/- FnSplit: for every list of lists of bytes, in whatever memory, the law returns true, and its argument reads behind the call as it read before. No condition. -/
import Derived.Test.YtmmnjlcepkkjeaaRows
import Derived.Test.YtmmnjlcepkkjeaaRun
import Derived.WalkKit
import Derived.ProofKit
import Derived.OpenShut
import Derived.ChangeOld
import Derived.Below
import Derived.Deep.Matrix
namespace Go.Proofs.Ytmmnjlcepkkjeaa.Own
open Go.ChangeShapes Go.WideShapes Go.ChangeAt Go.RowKit Go.Deep
open Go.Proofs.YtmmnjlcepkkjeaaW.PrintWords Go.Proofs.YtmmnjlcepkkjeaaW.PrintLast Go.Proofs.YtmmnjlcepkkjeaaW.PrintMore
open Go.Proofs.Ytmmnjlcepkkjeaa.PFnSplit

theorem own : ownKnob Try.prog.godebug = none := by kernel_rfl
theorem laidOut : laidOutB Try.prog = true := by kernel_rfl
theorem cells24 : Try.prog.cellsOf 24 = 1 := by kernel_rfl
theorem cells5 : Try.prog.cellsOf 5 = 1 := by kernel_rfl

/-- A slice of slices of bytes, opened row by row, is what the walk reads. -/
theorem rows_C {w : World} {a : Addr} {len cap : Nat} {A : Nat → Option Addr} {L C : Nat → Nat} {Z : Nat → List Int} (hl : len ≤ cap) (hm : cap ≤ maxLen)
    (h : ∀ r, r < cap → w.cell? (a.add r) = some (.slice (A r) (L r) (C r)) ∧ L r ≤ C r ∧ C r ≤ maxLen ∧ (Z r).length = C r ∧ (∀ n ∈ Z r, (Lit.int .u8 n).wf = true) ∧ (A r = none → C r = 0) ∧
      ∀ a', A r = some a' → 0 ≤ a'.block ∧ ∀ c, c < C r → w.cell? (a'.add c) = some (.int .u8 ((Z r).getD c 0))) :
    Kd.C (Kd.slice 5 (Kd.int .u8)) w (some a) len ((List.range len).map fun r => (Z r).take (L r)) := by
  have hmax : maxLen = 9223372036854775807 := rfl
  refine ⟨by simp, by omega, fun _ => ⟨a, rfl, fun j p hj => ?_⟩⟩
  have hjl : j < len := by
    have := (List.getElem?_eq_some_iff.1 hj).1
    simpa using this
  have hp : p = (Z j).take (L j) := by
    rw [List.getElem?_map, List.getElem?_range hjl] at hj
    simpa using hj.symm
  subst hp
  obtain ⟨h1, h2, h3, h4, h5, h6, h7⟩ := h j (by omega)
  have hlen : ((Z j).take (L j)).length = L j := by
    rw [List.length_take]
    omega
  refine ⟨[.slice (A j) (L j) (C j)], rfl, ⟨A j, C j, by rw [hlen], by rw [hlen]; exact h2, ?_⟩, fun i u hi => ?_⟩
  · refine ⟨rfl, by rw [hlen]; omega, fun hpos => ?_⟩
    rw [hlen] at hpos
    cases hA : A j with
    | none =>
      have := h6 hA
      omega
    | some a' =>
      refine ⟨a', rfl, fun i p hi => ?_⟩
      have hil : i < L j := by
        have := (List.getElem?_eq_some_iff.1 hi).1
        omega
      have hc := (h7 a' hA).2 i (by omega)
      have hpe : (Z j).getD i 0 = p := by
        rw [List.getElem?_take_of_lt hil] at hi
        rw [List.getD_eq_getElem?_getD, hi]
        rfl
      refine ⟨[.int .u8 p], rfl, rfl, fun m u hu => ?_⟩
      match m, hu with
      | 0, hu =>
        simp only [List.getElem?_cons_zero, Option.some.injEq] at hu
        subst hu
        have e : i * (Kd.int .u8).sz + 0 = i := by
          show i * 1 + 0 = i
          omega
        rw [e, hc, hpe]
  · match i, hi with
    | 0, hi =>
      simp only [List.getElem?_cons_zero, Option.some.injEq] at hi
      subst hi
      have e : j * (Kd.slice 5 (Kd.int .u8)).sz + 0 = j := by
        show j * 1 + 0 = j
        omega
      rw [e]
      exact h1

theorem byte_wf {n : Int} (h : (Lit.int .u8 n).wf = true) : IsByte n := by
  have h1 := bounds_u8 h
  exact ⟨by omega, by omega⟩

/-- The call, at every list of lists of bytes. -/
theorem law_calls (rows : List (List Int)) (A0 : Option Addr) (c0 : Nat) (w : World) (hC : Kd.C (Kd.slice 5 (Kd.int .u8)) w A0 rows.length rows) (hc : rows.length ≤ c0) (hby : ∀ r ∈ rows, ∀ x ∈ r, IsByte x) :
    Calls Try.prog 3 #[.slice A0 rows.length c0] w fun e w' => e = .returned (.bool true) ∧ Below w.heap.size w w' := by
  by_cases hn : (rows.length : Int) > 2147483647
  · exact early rows A0 c0 w 0 false hC hc (by unfold laws_zzFits1.f; rw [if_pos hn]) (.inl rfl)
  · obtain ⟨b, hb⟩ := fits_tells rows (by omega) rows.length 0 (rows.length + 1) (by omega) (by omega)
    have hk : laws_zzFits1.f (rows.length + 1) rows = some b := by
      unfold laws_zzFits1.f
      rw [if_neg hn]
      exact hb
    cases b with
    | false => exact early rows A0 c0 w _ false hC hc hk (.inl rfl)
    | true =>
      by_cases h1 : rows.length < 1
      · exact early rows A0 c0 w _ true hC hc hk (.inr (.inl h1))
      · by_cases h10 : 10 < rows.length
        · exact early rows A0 c0 w _ true hC hc hk (.inr (.inr h10))
        · exact main_walk rows A0 c0 w _ hC hc hk (by omega) (by omega) hby

set_option maxRecDepth 100000 in
theorem lifted (os : Os) (started : os.Started) (H : Type) (enc : TypeId × Value → H) :
    ReturnsInHanded {} Try.checked os 3 .any (Rows.fnSplitSpec.pre6 enc Try.prog Try.f3 Rows.fnSplitRow.domain false) (Rows.fnSplitSpec.post enc Try.prog Try.f3 false true false false) := by
  refine returnsInHanded_of_change (C := Try.checked) own started (by kernel_rfl) Try.func3
    (ChangeSpec.witness6 (enc := enc) (C := Try.checked) false ⟨#[], #[.slice none 0 0], []⟩ 8 (by kernel_rfl) (by kernel_rfl) (by kernel_rfl) (by kernel_rfl)) ?_
  intro W base args ds gs before hval0 hW hcnd _
  have hval : ∀ (j : Nat) t v, Try.f3.params[j]? = some t → args[j]? = some v → Value.okWide Try.prog W .any base t v := hval0
  have hW' := hW
  obtain ⟨p, q, hA0, hV, rfl, hfz, hnd⟩ := hW
  have hA : DataW.TrodAll enc Try.prog W 0 (fun _ => true) true Try.f3.params.toList args.toList ds p := hA0
  rw [Try.params3] at hA hval
  obtain ⟨v0, vs0, d0, ds0, p0, q0, hargs, rfl, rfl, h0, r0⟩ := trodAll_cons hA
  obtain ⟨rfl, rfl, rfl⟩ := trodAll_nil r0
  obtain rfl : args = #[v0] := by cases args; simp_all
  obtain ⟨rfl, rfl⟩ := trodVars_none hV
  obtain ⟨a0, len0, cap0, rfl⟩ := okWide_slice Try.underlying22 (hval 0 22 v0 rfl rfl)
  have k0 := h0
  have lt0 : ∀ x ∈ p0, x.block < W.heap.size := by obtain ⟨m, hm⟩ := k0; exact DataW.trod_lt m _ _ _ hm
  have hread : ∃ rows : List (List Int), (∀ r ∈ rows, ∀ x ∈ r, IsByte x) ∧ rows.length = len0 ∧ Kd.C (Kd.slice 5 (Kd.int .u8)) W a0 rows.length rows ∧ rows.length ≤ cap0 := by
    obtain ⟨fuel, hf⟩ := h0
    rcases open_int_rows Try.underlying22 Try.underlying24 Try.underlying5 cells24 cells5 hf with ⟨hcs, _⟩ | ⟨a, len, cap, A, L, C, Z, hcs, _, hl, hm, _, hr⟩
    · simp [Value.cells] at hcs
      obtain ⟨rfl, rfl, rfl⟩ := hcs
      exact ⟨[], by simp, rfl, ⟨rfl, by simp, fun h => absurd h (by simp)⟩, by simp⟩
    · simp [Value.cells] at hcs
      obtain ⟨rfl, rfl, rfl⟩ := hcs
      have hlen : ((List.range len0).map fun r => (Z r).take (L r)).length = len0 := by simp
      refine ⟨(List.range len0).map fun r => (Z r).take (L r), ?_, hlen, by rw [hlen]; exact rows_C hl hm hr, by rw [hlen]; exact hl⟩
      intro row hrow x hx
      obtain ⟨r, hrr, rfl⟩ := List.mem_map.1 hrow
      have hrl : r < len0 := List.mem_range.1 hrr
      exact byte_wf ((hr r (by omega)).2.2.2.2.1 x (List.mem_of_mem_take hx))
  obtain ⟨rows, hbytes, rfl, hC, hcap⟩ := hread
  clear hA0 hval0
  refine (law_calls rows a0 cap0 W hC hcap hbytes).mono fun e W' ⟨he, bel⟩ => ?_
  subst he
  exact ⟨_, rfl, _, _, _, [], _, [], hW', trodAll_mk1 (shut_bool Try.underlying4 _), (trodAll_cons_mk (Below.trod laidOut (by kernel_rfl) (of_decide_eq_true (by kernel_rfl)) k0 bel lt0) trodAll_mk0), rfl, bel.frame _, fun h => by cases h⟩

theorem over : Rows.fnSplitRow.holds Try.pinned (OpenSpec.ofChange Rows.fnSplitSpec) :=
  OpenClaim.holds_of_wide 3 Try.f3 rfl rfl rfl rfl rfl rfl rfl ⟨rfl, rfl, rfl, rfl, rfl⟩ rfl rfl rfl rfl rfl (by kernel_rfl) Try.func3 (by kernel_rfl)
    (of_decide_eq_true (by kernel_rfl)) (by unfold Func.isWrapper; first | (rw [if_pos (by decide +kernel)]; kernel_rfl) | (rw [if_neg (by decide +kernel)]; exact ⟨rfl, rfl⟩))
    (fun os started H enc _ => lifted os started H enc)

end Go.Proofs.Ytmmnjlcepkkjeaa.Own
namespace Go.Proofs.Ytmmnjlcepkkjeaa
/-- The row. -/
theorem fnSplit_holds : Rows.FnSplitSaid := Own.over
#print axioms fnSplit_holds
end Go.Proofs.Ytmmnjlcepkkjeaa
