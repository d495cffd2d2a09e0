/-
  THE PROOF OF 'Rows.FnArrayIteratorFalsyUnlikeArraySaid' (the Go function zzlaws_root_b1.FnArrayIteratorFalsyUnlikeArray), out of the seat's contracts (YoeewwIter). The walk is ours: 'walk_in' (the guards have let the numbers by), 'walk' (all inputs); the row's step is the shell's, as it was given.
-/
import Derived.Test.YoeewwRows
import Derived.Test.YoeewwIter
import Derived.WalkKit
import Derived.ProofKit
import Derived.OpenShut
import Derived.ShutString
namespace Go.Proofs.Yoeeww.fnArrayIteratorFalsyUnlikeArray
open Go.ChangeShapes Go.WideShapes Go.ChangeAt Go.RowKit
open Go.ChangeMaps (open_string shut_string)
set_option linter.unusedVariables false      -- a walk need not use every 'w<i>' (that an integer argument fits its kind)

theorem own : ownKnob Eewg.prog.godebug = none := by kernel_rfl

/-! ### STEP 1: THE WALK: the Go text returns true. -/
/-- The Array of n slots that the law lays first. -/
def withArray (w : World) (n : Nat) : World := (w.alloc (.cells (madeCells #[.nilIface] n) 58)).alloc (.cells #[.slice (some ⟨w.heap.size, 0, none⟩) n n] 34)

theorem withArray_cell (w : World) (n : Nat) : (withArray w n).cell? ⟨w.heap.size + 1, 0, none⟩ = some (.slice (some ⟨w.heap.size, 0, none⟩) n n) := by simp [withArray]
theorem withArray_size (w : World) (n : Nat) : (withArray w n).heap.size = w.heap.size + 2 := by simp [withArray]
theorem withArray_grown (w : World) (n : Nat) : Grown w (withArray w n) := ((Grown.refl _).alloc _ _).alloc _ _

set_option maxHeartbeats 400000 in
/-- The guards have let the two numbers by. -/
theorem walk_in (n k : Nat) (hn : n ≤ 65536) (hk : k ≤ 65536) (w : World) :
    Calls Eewg.prog 8 #[.int .i64 (n : Int), .int .i64 (k : Int)] w fun e w' => e = .returned (.bool true) ∧ Grown w w' := by
  have hm := run_make_row' (P := Eewg.prog) 32 58 .nilIface 16 Eewg.underlying32 info58 rfl .i64 .i64 n (by omega) (by omega)
  by_cases h0 : n = 0
  · have hz : ((n : Int) == 0) = true := by simp; omega
    have HZ : Hid (n = 0) := h0
    clear h0
    go_enter Eewg.func8, Eewg.ntmps8
    go_wp2_with fail
    refine (new_any n hn (withArray w n)).mono ?_
    rintro e w1 ⟨b, rfl, hb, ht, hg⟩
    rw [withArray_size] at hb
    have hc := kept_cell hg (withArray_cell w n)
    go_wp2_with (first
      | (go_at_call 26; refine (array_yes _ _ _ _ _ hc HZ.out).mono ?_; rintro e w2 ⟨rfl, rfl⟩)
      | (go_at_call 25; refine (falsy_any _ _).mono ?_; rintro e w2 ⟨rfl, rfl⟩)
      | (go_at_call 13; refine (advance_any b n k _ ht hk).mono ?_; rintro e w3 ⟨rfl, ht3, hmv3⟩; have hc := (hmv3.cell (a := ⟨w.heap.size + 1, 0, none⟩) (by simp; omega)).trans hc))
    go_ret
    exact ⟨rfl, hmv3.grown (grown_trans (withArray_grown w n) hg) (by omega)⟩
  · have hz : ((n : Int) == 0) = false := by simp; omega
    go_enter Eewg.func8, Eewg.ntmps8
    go_wp2_with fail
    refine (new_any n hn (withArray w n)).mono ?_
    rintro e w1 ⟨b, rfl, hb, ht, hg⟩
    rw [withArray_size] at hb
    have hc := kept_cell hg (withArray_cell w n)
    go_wp2_with (first
      | (go_at_call 26; refine (array_no _ _ _ _ _ hc (by omega)).mono ?_; rintro e w2 ⟨rfl, rfl⟩)
      | (go_at_call 25; refine (falsy_any _ _).mono ?_; rintro e w2 ⟨rfl, rfl⟩)
      | (go_at_call 13; refine (advance_any b n k _ ht hk).mono ?_; rintro e w3 ⟨rfl, ht3, hmv3⟩; have hc := (hmv3.cell (a := ⟨w.heap.size + 1, 0, none⟩) (by simp; omega)).trans hc))
    go_ret
    exact ⟨rfl, hmv3.grown (grown_trans (withArray_grown w n) hg) (by omega)⟩

theorem walk (a0 : Int) (a1 : Int) (w0 : (Lit.int .i64 a0).wf = true) (w1 : (Lit.int .i64 a1).wf = true) (w : World) :
    Calls Eewg.prog 8 #[.int .i64 a0, .int .i64 a1] w fun e w' => e = .returned (.bool true) ∧ Grown w w' := by
  by_cases g1 : a0 < 0
  · go_enter Eewg.func8, Eewg.ntmps8
    go_wp2
    go_ret
    exact ⟨rfl, Grown.refl _⟩
  by_cases g2 : 65536 < a0
  · go_enter Eewg.func8, Eewg.ntmps8
    go_wp2
    go_ret
    exact ⟨rfl, Grown.refl _⟩
  by_cases g3 : a1 < 0
  · go_enter Eewg.func8, Eewg.ntmps8
    go_wp2
    go_ret
    exact ⟨rfl, Grown.refl _⟩
  by_cases g4 : 65536 < a1
  · go_enter Eewg.func8, Eewg.ntmps8
    go_wp2
    go_ret
    exact ⟨rfl, Grown.refl _⟩
  obtain ⟨n, rfl⟩ := Int.eq_ofNat_of_zero_le (show 0 ≤ a0 by omega)
  obtain ⟨k, rfl⟩ := Int.eq_ofNat_of_zero_le (show 0 ≤ a1 by omega)
  exact walk_in n k (by omega) (by omega) w

/-! ### THE ROW's STEP: WRITTEN OUT: LEAVE IT -/
set_option maxRecDepth 100000 in
theorem lifted (os : Os) (started : os.Started) (H : Type) (enc : TypeId × Value → H) :
    ReturnsInHanded {} Eewg.checked os 8 .any (Rows.fnArrayIteratorFalsyUnlikeArraySpec.pre6 enc Eewg.prog Eewg.f8 Rows.fnArrayIteratorFalsyUnlikeArrayRow.domain false) (Rows.fnArrayIteratorFalsyUnlikeArraySpec.post enc Eewg.prog Eewg.f8 false true false false) := by
  refine returnsInHanded_of_change (C := Eewg.checked) own started (by kernel_rfl) Eewg.func8
    (ChangeSpec.witness6 (enc := enc) (C := Eewg.checked) false ⟨#[], #[.int .i64 0, .int .i64 0], []⟩ 8 (by kernel_rfl) (by kernel_rfl) (by kernel_rfl) (by kernel_rfl)) ?_
  intro W base args ds gs before hval0 hW hcnd _
  have hval : ∀ (j : Nat) t v, Eewg.f8.params[j]? = some t → args[j]? = some v → Value.okWide Eewg.prog W .any base t v := hval0
  have hW' := hW
  obtain ⟨p, q, hA0, hV, rfl, hfz, hnd⟩ := hW
  have hA : DataW.TrodAll enc Eewg.prog W 0 (fun _ => true) true Eewg.f8.params.toList args.toList ds p := hA0
  rw [Eewg.params8] at hA hval
  obtain ⟨v0, vs0, d0, ds0, p0, q0, hargs, rfl, rfl, h0, r0⟩ := trodAll_cons hA
  obtain ⟨v1, vs1, d1, ds1, p1, q1, rfl, rfl, rfl, h1, r1⟩ := trodAll_cons r0
  obtain ⟨rfl, rfl, rfl⟩ := trodAll_nil r1
  obtain rfl : args = #[v0, v1] := by cases args; simp_all
  obtain ⟨rfl, rfl⟩ := trodVars_none hV
  obtain ⟨a0, rfl, rfl, rfl, w0⟩ := open_int Eewg.underlying3 (hval 0 3 v0 rfl rfl) h0
  obtain ⟨a1, rfl, rfl, rfl, w1⟩ := open_int Eewg.underlying3 (hval 1 3 v1 rfl rfl) h1
  clear hA0 hval0
  simp only [List.append_nil] at hW'
  refine (walk a0 a1 w0 w1 W).mono fun e W' ⟨he, hg⟩ => ?_
  subst he
  exact ⟨_, rfl, post_of_same (pa := []) (pv := []) hW' (fun _ _ _ => (trodAll_cons_mk (shut_bool Eewg.underlying4 _) trodAll_mk0)) (fun sp _ => (trodAll_cons_mk (shut_int Eewg.underlying3 w0) (trodAll_cons_mk (shut_int Eewg.underlying3 w1) trodAll_mk0))) (fun _ _ => rfl) rfl
    (hg.frame _) hg.2.1 (ok_one (by kernel_rfl) rfl (okWide_bool_mk Eewg.underlying4 _))⟩

theorem over : Rows.fnArrayIteratorFalsyUnlikeArrayRow.holds Eewg.pinned (OpenSpec.ofChange Rows.fnArrayIteratorFalsyUnlikeArraySpec) :=
  OpenClaim.holds_of_wide 8 Eewg.f8 rfl rfl rfl rfl rfl rfl rfl ⟨rfl, rfl, rfl, rfl, rfl⟩ rfl rfl rfl rfl rfl (by kernel_rfl) Eewg.func8 (by kernel_rfl)
    (of_decide_eq_true (by kernel_rfl)) (by unfold Func.isWrapper; first | (rw [if_pos (by decide +kernel)]; kernel_rfl) | (rw [if_neg (by decide +kernel)]; exact ⟨rfl, rfl⟩))
    (fun os started H enc _ => lifted os started H enc)

/-- ████ THE STATEMENT ████ -/
theorem proved : Rows.FnArrayIteratorFalsyUnlikeArraySaid :=
  over
#print axioms proved
end Go.Proofs.Yoeeww.fnArrayIteratorFalsyUnlikeArray
