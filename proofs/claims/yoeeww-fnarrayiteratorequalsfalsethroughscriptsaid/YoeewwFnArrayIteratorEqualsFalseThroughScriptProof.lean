/-
  THE PROOF OF 'Rows.FnArrayIteratorEqualsFalseThroughScriptSaid' (the Go function zzlaws_root_b1.FnArrayIteratorEqualsFalseThroughScript), out of the seat's contracts (YoeewwIter). The walk is ours: 'walk_in' (the guards have let the numbers by), 'walk' (all inputs); the row's step is the shell's, as it was given.
-/
import Derived.Test.YoeewwRows
import Derived.Test.YoeewwIter
import Derived.WalkKit
import Derived.ProofKit
import Derived.OpenShut
import Derived.ShutString
namespace Go.Proofs.Yoeeww.fnArrayIteratorEqualsFalseThroughScript
open Go.ChangeShapes Go.WideShapes Go.ChangeAt Go.RowKit
open Go.ChangeMaps (open_string shut_string)
set_option linter.unusedVariables false      -- a walk need not use every 'w<i>' (that an integer argument fits its kind)

theorem own : ownKnob Eewg.prog.godebug = none := by kernel_rfl

/-! ### STEP 1: THE WALK: the Go text returns true. -/
set_option maxHeartbeats 1000000 in
/-- The guards have let the two numbers by. -/
theorem walk_in (n k : Nat) (hn : n ≤ 65536) (hk : k ≤ 65536) (w : World) :
    Calls Eewg.prog 10 #[.int .i64 (n : Int), .int .i64 (k : Int)] w fun e w' => e = .returned (.bool true) ∧ Grown w w' := by
  go_enter Eewg.func10, Eewg.ntmps10
  go_wp2_with fail
  refine (new_any n hn _).mono ?_
  rintro e w1 ⟨b1, rfl, hb1, ht1, hg1⟩
  go_wp2_with fail
  refine (new_any n hn _).mono ?_
  rintro e w2 ⟨b2, rfl, hb2, ht2, hg2⟩
  have hlt : b1 < b2 := Nat.lt_trans ht1.block hb2
  have hs := hg1.2.2
  replace ht1 := ht1.kept hg2
  replace hg2 := grown_trans hg1 hg2
  clear hg1
  go_wp2_with fail
  go_loopw [7] (fun j wr => ∃ m : Nat, m ≤ k ∧ j = .int .i64 (m : Int) ∧ It wr b1 m n ∧ It wr b2 0 n ∧ Grown w wr) (fun j _ => k - (intOf j).toNat)
  case atStart => exact ⟨0, Nat.zero_le _, rfl, ht1, ht2, hg2⟩
  case round =>
    clear ht1 ht2 hg2
    obtain ⟨m, hm, rfl, htr, hor, hgr⟩ := hrel
    by_cases hmk : m < k
    · by_cases hmn : m < n
      · go_wp2_with (first
          | (go_at_call 27; refine (equals_any _ _ _).mono ?_; rintro e w5 ⟨rfl, rfl⟩)
          | (go_at_call 15; refine (next_yes b1 _ _ _ htr (by omega) (by omega) (by omega)).mono ?_; rintro e w6 ⟨rfl, ht6, hm6⟩))
        go_roundw
        case rel => exact ⟨m + 1, by omega, by go_num, by simpa using ht6, hm6.it (by omega) hor, hm6.grown hgr (by omega)⟩
        case measure => simp [intOf]; omega
      · go_wp2_with (first
          | (go_at_call 27; refine (equals_any _ _ _).mono ?_; rintro e w5 ⟨rfl, rfl⟩)
          | (go_at_call 15; refine (next_no b1 _ _ _ htr (by omega) (by omega) (by omega)).mono ?_; rintro e w6 ⟨rfl, ht6, hm6⟩))
        go_roundw
        case rel => exact ⟨m + 1, by omega, by go_num, by simpa using ht6, hm6.it (by omega) hor, hm6.grown hgr (by omega)⟩
        case measure => simp [intOf]; omega
    · obtain rfl : m = k := by omega
      by_cases hmn : m < n
      · have hz : 0 < n := by omega
        go_wp2_with (go_at_call 27; refine (equals_any _ _ _).mono ?_; rintro e w5 ⟨rfl, rfl⟩)
        refine (next_yes b1 _ _ _ htr (by omega) (by omega) (by omega)).mono ?_
        rintro e w6 ⟨rfl, ht6, hm6⟩
        replace hor := hm6.it (by omega) hor
        replace hgr := hm6.grown hgr (by omega)
        go_wp2_with fail
        refine (next_yes b2 _ _ _ hor (by omega) (by omega) (by omega)).mono ?_
        rintro e w7 ⟨rfl, ht7, hm7⟩
        go_wp2
        go_ret
        exact ⟨rfl, hm7.grown hgr (by omega)⟩
      · by_cases hz : 0 < n
        · go_wp2_with (go_at_call 27; refine (equals_any _ _ _).mono ?_; rintro e w5 ⟨rfl, rfl⟩)
          refine (next_no b1 _ _ _ htr (by omega) (by omega) (by omega)).mono ?_
          rintro e w6 ⟨rfl, ht6, hm6⟩
          replace hor := hm6.it (by omega) hor
          replace hgr := hm6.grown hgr (by omega)
          go_wp2_with fail
          refine (next_yes b2 _ _ _ hor (by omega) (by omega) (by omega)).mono ?_
          rintro e w7 ⟨rfl, ht7, hm7⟩
          go_wp2
          go_ret
          exact ⟨rfl, hm7.grown hgr (by omega)⟩
        · go_wp2_with (go_at_call 27; refine (equals_any _ _ _).mono ?_; rintro e w5 ⟨rfl, rfl⟩)
          refine (next_no b1 _ _ _ htr (by omega) (by omega) (by omega)).mono ?_
          rintro e w6 ⟨rfl, ht6, hm6⟩
          replace hor := hm6.it (by omega) hor
          replace hgr := hm6.grown hgr (by omega)
          go_wp2_with fail
          refine (next_no b2 _ _ _ hor (by omega) (by omega) (by omega)).mono ?_
          rintro e w7 ⟨rfl, ht7, hm7⟩
          go_wp2
          go_ret
          exact ⟨rfl, hm7.grown hgr (by omega)⟩

theorem walk (a0 : Int) (a1 : Int) (w0 : (Lit.int .i64 a0).wf = true) (w1 : (Lit.int .i64 a1).wf = true) (w : World) :
    Calls Eewg.prog 10 #[.int .i64 a0, .int .i64 a1] w fun e w' => e = .returned (.bool true) ∧ Grown w w' := by
  by_cases g1 : a0 < 0
  · go_enter Eewg.func10, Eewg.ntmps10
    go_wp2
    go_ret
    exact ⟨rfl, Grown.refl _⟩
  by_cases g2 : 65536 < a0
  · go_enter Eewg.func10, Eewg.ntmps10
    go_wp2
    go_ret
    exact ⟨rfl, Grown.refl _⟩
  by_cases g3 : a1 < 0
  · go_enter Eewg.func10, Eewg.ntmps10
    go_wp2
    go_ret
    exact ⟨rfl, Grown.refl _⟩
  by_cases g4 : 65536 < a1
  · go_enter Eewg.func10, Eewg.ntmps10
    go_wp2
    go_ret
    exact ⟨rfl, Grown.refl _⟩
  obtain ⟨n, rfl⟩ := Int.eq_ofNat_of_zero_le (show 0 ≤ a0 by omega)
  obtain ⟨k, rfl⟩ := Int.eq_ofNat_of_zero_le (show 0 ≤ a1 by omega)
  exact walk_in n k (by omega) (by omega) w

/-! ### THE ROW's STEP: WRITTEN OUT: LEAVE IT -/
set_option maxRecDepth 100000 in
theorem lifted (os : Os) (started : os.Started) (H : Type) (enc : TypeId × Value → H) :
    ReturnsInHanded {} Eewg.checked os 10 .any (Rows.fnArrayIteratorEqualsFalseThroughScriptSpec.pre6 enc Eewg.prog Eewg.f10 Rows.fnArrayIteratorEqualsFalseThroughScriptRow.domain false) (Rows.fnArrayIteratorEqualsFalseThroughScriptSpec.post enc Eewg.prog Eewg.f10 false true false false) := by
  refine returnsInHanded_of_change (C := Eewg.checked) own started (by kernel_rfl) Eewg.func10
    (ChangeSpec.witness6 (enc := enc) (C := Eewg.checked) false ⟨#[], #[.int .i64 0, .int .i64 0], []⟩ 8 (by kernel_rfl) (by kernel_rfl) (by kernel_rfl) (by kernel_rfl)) ?_
  intro W base args ds gs before hval0 hW hcnd _
  have hval : ∀ (j : Nat) t v, Eewg.f10.params[j]? = some t → args[j]? = some v → Value.okWide Eewg.prog W .any base t v := hval0
  have hW' := hW
  obtain ⟨p, q, hA0, hV, rfl, hfz, hnd⟩ := hW
  have hA : DataW.TrodAll enc Eewg.prog W 0 (fun _ => true) true Eewg.f10.params.toList args.toList ds p := hA0
  rw [Eewg.params10] at hA hval
  obtain ⟨v0, vs0, d0, ds0, p0, q0, hargs, rfl, rfl, h0, r0⟩ := trodAll_cons hA
  obtain ⟨v1, vs1, d1, ds1, p1, q1, rfl, rfl, rfl, h1, r1⟩ := trodAll_cons r0
  obtain ⟨rfl, rfl, rfl⟩ := trodAll_nil r1
  obtain rfl : args = #[v0, v1] := by cases args; simp_all
  obtain ⟨rfl, rfl⟩ := trodVars_none hV
  obtain ⟨a0, rfl, rfl, rfl, w0⟩ := open_int Eewg.underlying3 (hval 0 3 v0 rfl rfl) h0
  obtain ⟨a1, rfl, rfl, rfl, w1⟩ := open_int Eewg.underlying3 (hval 1 3 v1 rfl rfl) h1
  clear hA0 hval0
  simp only [List.append_nil] at hW'
  refine (walk a0 a1 w0 w1 W).mono fun e W' ⟨he, hg⟩ => ?_
  subst he
  exact ⟨_, rfl, post_of_same (pa := []) (pv := []) hW' (fun _ _ _ => (trodAll_cons_mk (shut_bool Eewg.underlying4 _) trodAll_mk0)) (fun sp _ => (trodAll_cons_mk (shut_int Eewg.underlying3 w0) (trodAll_cons_mk (shut_int Eewg.underlying3 w1) trodAll_mk0))) (fun _ _ => rfl) rfl
    (hg.frame _) hg.2.1 (ok_one (by kernel_rfl) rfl (okWide_bool_mk Eewg.underlying4 _))⟩

theorem over : Rows.fnArrayIteratorEqualsFalseThroughScriptRow.holds Eewg.pinned (OpenSpec.ofChange Rows.fnArrayIteratorEqualsFalseThroughScriptSpec) :=
  OpenClaim.holds_of_wide 10 Eewg.f10 rfl rfl rfl rfl rfl rfl rfl ⟨rfl, rfl, rfl, rfl, rfl⟩ rfl rfl rfl rfl rfl (by kernel_rfl) Eewg.func10 (by kernel_rfl)
    (of_decide_eq_true (by kernel_rfl)) (by unfold Func.isWrapper; first | (rw [if_pos (by decide +kernel)]; kernel_rfl) | (rw [if_neg (by decide +kernel)]; exact ⟨rfl, rfl⟩))
    (fun os started H enc _ => lifted os started H enc)

/-- ████ THE STATEMENT ████ -/
theorem proved : Rows.FnArrayIteratorEqualsFalseThroughScriptSaid :=
  over
#print axioms proved
end Go.Proofs.Yoeeww.fnArrayIteratorEqualsFalseThroughScript
