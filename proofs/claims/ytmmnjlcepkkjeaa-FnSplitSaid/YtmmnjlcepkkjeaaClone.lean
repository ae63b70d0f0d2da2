/- The contract of slices.Clone at texts: it returns the same texts in memory of its own, and nil of nil. -/
import Derived.Test.YtmmnjlcepkkjeaaPFnSplitx3
import Derived.WalkSpells
namespace Go.Proofs.Ytmmnjlcepkkjeaa.Own
open Go.RowKit Go.Proofs.YtmmnjlcepkkjeaaW.PrintWords Go.Proofs.YtmmnjlcepkkjeaaW.PrintLast Go.Proofs.YtmmnjlcepkkjeaaW.PrintMore
open Go.Proofs.Ytmmnjlcepkkjeaa.PFnSplit

set_option maxHeartbeats 400000 in
theorem clone_nil (w : World) :
    Calls Try.prog 9 #[.slice none 0 0] w fun e w' => e = .returned (.slice none 0 0) ∧ w = w' := by
  have q26 : ∀ (w : World) (a : Option Addr) (n c n' c' : Nat), (binOp .eql 26 (.slice a n c) (.slice none n' c')).run Try.prog w = .ok (.bool a.isNone) w := fun w a n c n' c' => Lib.run_eql_slice_nil w _ _ a n c n' c' Try.underlying26
  go_enter Try.func9, Try.ntmps9
  go_wp2
  go_ret
  exact ⟨rfl, rfl⟩

set_option maxHeartbeats 800000 in
set_option maxRecDepth 100000 in
theorem clone_some (ad : Addr) (c0 : Nat) (l0 : List ByteArray) (w : World) (hr0 : Kd.C Kd.string w (some ad) l0.length l0) (hl : l0.length < 8796093022208) :
    Calls Try.prog 9 #[.slice (some ad) l0.length c0] w fun e w' => ∃ v0_ : Value, e = .returned v0_ ∧ Kd.R Kd.string 9 w' w.heap.size (fun _ => True) v0_ l0 ∧ Below w.heap.size w w' := by
  have HR0 := Aside0.mk hr0
  have HL := Aside0.mk hl
  clear hr0 hl
  have HB := Aside0.mk (Below.refl w.heap.size w)
  have q26 : ∀ (w : World) (a : Option Addr) (n c n' c' : Nat), (binOp .eql 26 (.slice a n c) (.slice none n' c')).run Try.prog w = .ok (.bool a.isNone) w := fun w a n c n' c' => Lib.run_eql_slice_nil w _ _ a n c n' c' Try.underlying26
  go_enter Try.func9, Try.ntmps9
  go_wp2_with (first | ((with_reducible refine gate_dst (N := 5) rfl ?_); refine Kd.R_lit Kd.string _ 9 ?hg (N := 5) ?hd (xs := ([] : List ByteArray)) (inner := []) (ok := fun _ => True) (okp := fun _ => True) ?hr ?hp (fun _ hk => hk) trivial (Below.refl _ _) (Nat.le_refl _) (by simp) ?_; (case hd => rfl); (case hg => rfl); (case hr => first | (go_simp; done) | (go_simp; rfl)); (case hp => exact (Reps.none _ _)); intro v161 w4 ho5 hb hg_ hnew_; clear hg_ hnew_; have HO162 := Aside0.mk (Kd.R_lower ho5 (below_size HB.out)); have n1_ := Aside0.mk (below_step HB.out hb); clear HB; have HB := n1_; clear n1_; clear hb ho5) | ((with_reducible refine gate_builtin (b := .append) (xs := #[.tmp 5, .tmp 6]) rfl ?_); at_builtin; refine Kd.R_append_rows Kd.string (w0 := w) w.heap.size rfl (.tmp 5) (.tmp 6) 26 9 (.string ⟨#[]⟩) 16 rfl Try.underlying26 info9 rfl (by decide) (by omega) v161 [] l0 _ _ _ (fun _ => True) (fun _ => False) rfl rfl ?aO ?aR (fun _ _ h => h) (fun _ h => h.elim) ?aF ?aB ?aS ?aL ?_; (case aR => exact (Kd.C_below HR0.out HB.out)); (case aB => exact HB.out); (case aF => exact (fun _ _ => trivial)); (case aO => exact HO162.out); (case aS => exact (below_size HB.out)); (case aL => have := HL.out; simp only [List.length_nil]; omega); intro v164 w6 ho hb hg hat; have n0_ := Aside0.mk hb; have n1_ := Aside0.mk ho; clear HB; clear HO162; have HB := n0_; have HO165 := n1_; clear n0_ n1_; clear ho hb hg hat))
  go_ret
  exact ⟨_, rfl, by simpa using HO165.out, HB.out⟩

/-- A row of the call's own is nil or has an address; nil holds nothing. -/
theorem own_none {w : World} {base : Nat} {ok : Nat → Prop} {n c : Nat} {xs : List ByteArray} (h : Kd.R Kd.string 9 w base ok (.slice none n c) xs) : n = 0 ∧ c = 0 ∧ xs = [] := by
  obtain ⟨inner, ho⟩ := Kd.R_own h
  rcases ho.2 with ⟨h1, _⟩ | ⟨g, cap, cur, h1, _⟩
  · injection h1 with _ h2 h3
    have := (Kd.R_reads' h).1
    exact ⟨h2, h3, List.eq_nil_of_length_eq_zero (by omega)⟩
  · cases h1

theorem clone_calls (A0 : Option Addr) (c0 : Nat) (l0 : List ByteArray) (w w1 : World) (base : Nat) (ok : Nat → Prop) (h1 : Kd.R Kd.string 9 w1 base ok (.slice A0 l0.length c0) l0) (hr0 : Kd.C Kd.string w A0 l0.length l0) (hl : l0.length < 8796093022208) :
    Calls Try.prog 9 #[.slice A0 l0.length c0] w fun e w' => ∃ v0_ : Value, e = .returned v0_ ∧ Kd.R Kd.string 9 w' w.heap.size (fun _ => True) v0_ l0 ∧ Below w.heap.size w w' := by
  cases A0 with
  | none =>
    obtain ⟨_, rfl, rfl⟩ := own_none h1
    refine (clone_nil w).mono ?_
    rintro e w' ⟨rfl, rfl⟩
    exact ⟨_, rfl, Kd.R_nil _ _ _ _ _, Below.refl _ _⟩
  | some ad => exact clone_some ad c0 l0 w hr0 hl

end Go.Proofs.Ytmmnjlcepkkjeaa.Own
