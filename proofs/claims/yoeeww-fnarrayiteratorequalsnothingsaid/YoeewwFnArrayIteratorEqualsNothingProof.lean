/-
  THE PROOF OF 'Rows.FnArrayIteratorEqualsNothingSaid' (the Go function zzlaws_root_b1.FnArrayIteratorEqualsNothing), out of the seat's contracts (YoeewwIter). The walk is ours: 'walk_in' (the guards have let the numbers by), 'walk' (all inputs); the row's step is the shell's, as it was given.
-/
import Derived.Test.YoeewwRows
import Derived.Test.YoeewwIter
import Derived.WalkKit
import Derived.ProofKit
import Derived.OpenShut
import Derived.ShutString
namespace Go.Proofs.Yoeeww.fnArrayIteratorEqualsNothing
open Go.ChangeShapes Go.WideShapes Go.ChangeAt Go.RowKit
open Go.ChangeMaps (open_string shut_string)
set_option linter.unusedVariables false      -- a walk need not use every 'w<i>' (that an integer argument fits its kind)

theorem own : ownKnob Eewg.prog.godebug = none := by kernel_rfl

/-! ### STEP 1: THE WALK: the Go text returns true. -/
set_option maxHeartbeats 400000 in
/-- The guards have let the two numbers by. -/
theorem walk_in (n k : Nat) (x : Int) (hn : n ≤ 65536) (hk : k ≤ 65536) (w : World) :
    Calls Eewg.prog 9 #[.int .i64 (n : Int), .int .i64 (k : Int), .int .i64 x] w fun e w' => e = .returned (.bool true) ∧ Grown w w' := by
  by_cases hkn : k < n
  · go_enter Eewg.func9, Eewg.ntmps9
    go_wp2_with fail
    refine (new_any n hn _).mono ?_
    rintro e w1 ⟨b1, rfl, hb1, ht1, hg1⟩
    go_wp2_with fail
    refine (new_any n hn _).mono ?_
    rintro e w2 ⟨b2, rfl, hb2, ht2, hg2⟩
    have hlt : b1 < b2 := Nat.lt_trans ht1.block hb2
    have hs := hg1.2.2
    replace ht1 := ht1.kept hg2
    go_wp2_with fail
    refine (advance_any b1 n k _ ht1 hk).mono ?_
    rintro e w3 ⟨rfl, ht3, hm3⟩
    replace ht2 := hm3.it (by omega) ht2
    go_wp2_with fail
    refine (advance_any b2 n k _ ht2 hk).mono ?_
    rintro e w4 ⟨rfl, ht4, hm4⟩
    replace ht3 := hm4.it (by omega) ht3
    have hg4 : Grown w w4 := hm4.grown (hm3.grown (grown_trans hg1 hg2) (by omega)) (by omega)
    go_wp2_with (go_at_call 27; refine (equals_any _ _ _).mono ?_; rintro e w5 ⟨rfl, rfl⟩)
    refine (next_yes b1 _ _ _ (ht3.kept (((Grown.refl _).alloc _ _).alloc _ _)) (by omega) (by omega) (by omega)).mono ?_
    rintro e w6 ⟨rfl, ht6, hm6⟩
    go_wp2
    go_ret
    exact ⟨rfl, hm6.grown ((hg4.alloc _ _).alloc _ _) (by omega)⟩
  · go_enter Eewg.func9, Eewg.ntmps9
    go_wp2_with fail
    refine (new_any n hn _).mono ?_
    rintro e w1 ⟨b1, rfl, hb1, ht1, hg1⟩
    go_wp2_with fail
    refine (new_any n hn _).mono ?_
    rintro e w2 ⟨b2, rfl, hb2, ht2, hg2⟩
    have hlt : b1 < b2 := Nat.lt_trans ht1.block hb2
    have hs := hg1.2.2
    replace ht1 := ht1.kept hg2
    go_wp2_with fail
    refine (advance_any b1 n k _ ht1 hk).mono ?_
    rintro e w3 ⟨rfl, ht3, hm3⟩
    replace ht2 := hm3.it (by omega) ht2
    go_wp2_with fail
    refine (advance_any b2 n k _ ht2 hk).mono ?_
    rintro e w4 ⟨rfl, ht4, hm4⟩
    replace ht3 := hm4.it (by omega) ht3
    have hg4 : Grown w w4 := hm4.grown (hm3.grown (grown_trans hg1 hg2) (by omega)) (by omega)
    go_wp2_with (go_at_call 27; refine (equals_any _ _ _).mono ?_; rintro e w5 ⟨rfl, rfl⟩)
    refine (next_no b1 _ _ _ (ht3.kept (((Grown.refl _).alloc _ _).alloc _ _)) (by omega) (by omega) (by omega)).mono ?_
    rintro e w6 ⟨rfl, ht6, hm6⟩
    go_wp2
    go_ret
    exact ⟨rfl, hm6.grown ((hg4.alloc _ _).alloc _ _) (by omega)⟩

theorem walk (a0 : Int) (a1 : Int) (a2 : Int) (w0 : (Lit.int .i64 a0).wf = true) (w1 : (Lit.int .i64 a1).wf = true) (w2 : (Lit.int .i64 a2).wf = true) (w : World) :
    Calls Eewg.prog 9 #[.int .i64 a0, .int .i64 a1, .int .i64 a2] w fun e w' => e = .returned (.bool true) ∧ Grown w w' := by
  by_cases g1 : a0 < 0
  · go_enter Eewg.func9, Eewg.ntmps9
    go_wp2
    go_ret
    exact ⟨rfl, Grown.refl _⟩
  by_cases g2 : 65536 < a0
  · go_enter Eewg.func9, Eewg.ntmps9
    go_wp2
    go_ret
    exact ⟨rfl, Grown.refl _⟩
  by_cases g3 : a1 < 0
  · go_enter Eewg.func9, Eewg.ntmps9
    go_wp2
    go_ret
    exact ⟨rfl, Grown.refl _⟩
  by_cases g4 : 65536 < a1
  · go_enter Eewg.func9, Eewg.ntmps9
    go_wp2
    go_ret
    exact ⟨rfl, Grown.refl _⟩
  obtain ⟨n, rfl⟩ := Int.eq_ofNat_of_zero_le (show 0 ≤ a0 by omega)
  obtain ⟨k, rfl⟩ := Int.eq_ofNat_of_zero_le (show 0 ≤ a1 by omega)
  exact walk_in n k a2 (by omega) (by omega) w

/-! ### THE ROW's STEP: WRITTEN OUT: LEAVE IT -/
set_option maxRecDepth 100000 in
theorem lifted (os : Os) (started : os.Started) (H : Type) (enc : TypeId × Value → H) :
    ReturnsInHanded {} Eewg.checked os 9 .any (Rows.fnArrayIteratorEqualsNothingSpec.pre6 enc Eewg.prog Eewg.f9 Rows.fnArrayIteratorEqualsNothingRow.domain false) (Rows.fnArrayIteratorEqualsNothingSpec.post enc Eewg.prog Eewg.f9 false true false false) := by
  refine returnsInHanded_of_change (C := Eewg.checked) own started (by kernel_rfl) Eewg.func9
    (ChangeSpec.witness6 (enc := enc) (C := Eewg.checked) false ⟨#[], #[.int .i64 0, .int .i64 0, .int .i64 0], []⟩ 8 (by kernel_rfl) (by kernel_rfl) (by kernel_rfl) (by kernel_rfl)) ?_
  intro W base args ds gs before hval0 hW hcnd _
  have hval : ∀ (j : Nat) t v, Eewg.f9.params[j]? = some t → args[j]? = some v → Value.okWide Eewg.prog W .any base t v := hval0
  have hW' := hW
  obtain ⟨p, q, hA0, hV, rfl, hfz, hnd⟩ := hW
  have hA : DataW.TrodAll enc Eewg.prog W 0 (fun _ => true) true Eewg.f9.params.toList args.toList ds p := hA0
  rw [Eewg.params9] at hA hval
  obtain ⟨v0, vs0, d0, ds0, p0, q0, hargs, rfl, rfl, h0, r0⟩ := trodAll_cons hA
  obtain ⟨v1, vs1, d1, ds1, p1, q1, rfl, rfl, rfl, h1, r1⟩ := trodAll_cons r0
  obtain ⟨v2, vs2, d2, ds2, p2, q2, rfl, rfl, rfl, h2, r2⟩ := trodAll_cons r1
  obtain ⟨rfl, rfl, rfl⟩ := trodAll_nil r2
  obtain rfl : args = #[v0, v1, v2] := by cases args; simp_all
  obtain ⟨rfl, rfl⟩ := trodVars_none hV
  obtain ⟨a0, rfl, rfl, rfl, w0⟩ := open_int Eewg.underlying3 (hval 0 3 v0 rfl rfl) h0
  obtain ⟨a1, rfl, rfl, rfl, w1⟩ := open_int Eewg.underlying3 (hval 1 3 v1 rfl rfl) h1
  obtain ⟨a2, rfl, rfl, rfl, w2⟩ := open_int Eewg.underlying2 (hval 2 2 v2 rfl rfl) h2
  clear hA0 hval0
  simp only [List.append_nil] at hW'
  refine (walk a0 a1 a2 w0 w1 w2 W).mono fun e W' ⟨he, hg⟩ => ?_
  subst he
  exact ⟨_, rfl, post_of_same (pa := []) (pv := []) hW' (fun _ _ _ => (trodAll_cons_mk (shut_bool Eewg.underlying4 _) trodAll_mk0)) (fun sp _ => (trodAll_cons_mk (shut_int Eewg.underlying3 w0) (trodAll_cons_mk (shut_int Eewg.underlying3 w1) (trodAll_cons_mk (shut_int Eewg.underlying2 w2) trodAll_mk0)))) (fun _ _ => rfl) rfl
    (hg.frame _) hg.2.1 (ok_one (by kernel_rfl) rfl (okWide_bool_mk Eewg.underlying4 _))⟩

theorem over : Rows.fnArrayIteratorEqualsNothingRow.holds Eewg.pinned (OpenSpec.ofChange Rows.fnArrayIteratorEqualsNothingSpec) :=
  OpenClaim.holds_of_wide 9 Eewg.f9 rfl rfl rfl rfl rfl rfl rfl ⟨rfl, rfl, rfl, rfl, rfl⟩ rfl rfl rfl rfl rfl (by kernel_rfl) Eewg.func9 (by kernel_rfl)
    (of_decide_eq_true (by kernel_rfl)) (by unfold Func.isWrapper; first | (rw [if_pos (by decide +kernel)]; kernel_rfl) | (rw [if_neg (by decide +kernel)]; exact ⟨rfl, rfl⟩))
    (fun os started H enc _ => lifted os started H enc)

/-- ████ THE STATEMENT ████ -/
theorem proved : Rows.FnArrayIteratorEqualsNothingSaid :=
  over
#print axioms proved
end Go.Proofs.Yoeeww.fnArrayIteratorEqualsNothing
