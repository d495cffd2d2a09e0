/-
  THE PROOF OF 'Rows.FnIteratorStringIsBracketedTypeNameSaid' (the Go function zzlaws_root_b1.FnIteratorStringIsBracketedTypeName), out of the seat's contracts (YoeewwIter). The walk is ours: 'walk_in' (the guards have let the numbers by), 'walk' (all inputs); the row's step is the shell's, as it was given.
-/
import Derived.Test.YoeewwRows
import Derived.Test.YoeewwIter
import Derived.WalkKit
import Derived.ProofKit
import Derived.OpenShut
import Derived.ShutString
namespace Go.Proofs.Yoeeww.fnIteratorStringIsBracketedTypeName
open Go.ChangeShapes Go.WideShapes Go.ChangeAt Go.RowKit
open Go.ChangeMaps (open_string shut_string)
set_option linter.unusedVariables false      -- a walk need not use every 'w<i>' (that an integer argument fits its kind)

theorem own : ownKnob Eewg.prog.godebug = none := by kernel_rfl

/-! ### STEP 1: THE WALK: the Go text returns true. -/
/-! A name and its brackets, byte by byte. -/
theorem ai_open : (⟨#[60]⟩ ++ ⟨#[97, 114, 114, 97, 121, 45, 105, 116, 101, 114, 97, 116, 111, 114]⟩ : ByteArray) = ⟨#[60, 97, 114, 114, 97, 121, 45, 105, 116, 101, 114, 97, 116, 111, 114]⟩ := by kernel_rfl
theorem ai_shut : (⟨#[60, 97, 114, 114, 97, 121, 45, 105, 116, 101, 114, 97, 116, 111, 114]⟩ ++ ⟨#[62]⟩ : ByteArray) = ⟨#[60, 97, 114, 114, 97, 121, 45, 105, 116, 101, 114, 97, 116, 111, 114, 62]⟩ := by kernel_rfl
theorem by_open : (⟨#[60]⟩ ++ ⟨#[98, 121, 116, 101, 115, 45, 105, 116, 101, 114, 97, 116, 111, 114]⟩ : ByteArray) = ⟨#[60, 98, 121, 116, 101, 115, 45, 105, 116, 101, 114, 97, 116, 111, 114]⟩ := by kernel_rfl
theorem by_shut : (⟨#[60, 98, 121, 116, 101, 115, 45, 105, 116, 101, 114, 97, 116, 111, 114]⟩ ++ ⟨#[62]⟩ : ByteArray) = ⟨#[60, 98, 121, 116, 101, 115, 45, 105, 116, 101, 114, 97, 116, 111, 114, 62]⟩ := by kernel_rfl
theorem ma_open : (⟨#[60]⟩ ++ ⟨#[109, 97, 112, 45, 105, 116, 101, 114, 97, 116, 111, 114]⟩ : ByteArray) = ⟨#[60, 109, 97, 112, 45, 105, 116, 101, 114, 97, 116, 111, 114]⟩ := by kernel_rfl
theorem ma_shut : (⟨#[60, 109, 97, 112, 45, 105, 116, 101, 114, 97, 116, 111, 114]⟩ ++ ⟨#[62]⟩ : ByteArray) = ⟨#[60, 109, 97, 112, 45, 105, 116, 101, 114, 97, 116, 111, 114, 62]⟩ := by kernel_rfl
theorem st_open : (⟨#[60]⟩ ++ ⟨#[115, 116, 114, 105, 110, 103, 45, 105, 116, 101, 114, 97, 116, 111, 114]⟩ : ByteArray) = ⟨#[60, 115, 116, 114, 105, 110, 103, 45, 105, 116, 101, 114, 97, 116, 111, 114]⟩ := by kernel_rfl
theorem st_shut : (⟨#[60, 115, 116, 114, 105, 110, 103, 45, 105, 116, 101, 114, 97, 116, 111, 114]⟩ ++ ⟨#[62]⟩ : ByteArray) = ⟨#[60, 115, 116, 114, 105, 110, 103, 45, 105, 116, 101, 114, 97, 116, 111, 114, 62]⟩ := by kernel_rfl

set_option maxHeartbeats 400000 in
/-- The guards have let the two numbers by. -/
theorem walk_in (n k : Nat) (hn : n ≤ 65536) (hk : k ≤ 65536) (w : World) :
    Calls Eewg.prog 6 #[.int .i64 (n : Int), .int .i64 (k : Int)] w fun e w' => e = .returned (.bool true) ∧ Grown w w' := by
  have ai1 := ai_open
  have ai2 := ai_shut
  have by1 := by_open
  have by2 := by_shut
  have ma1 := ma_open
  have ma2 := ma_shut
  have st1 := st_open
  have st2 := st_shut
  go_enter Eewg.func6, Eewg.ntmps6
  go_wp2_with (first
    | (go_at_call 11; refine (new_any n hn _).mono ?_; rintro e w1 ⟨b, rfl, hb, ht, hg⟩)
    | (go_at_call 13; refine (advance_any b n k _ ht hk).mono ?_; rintro e w3 ⟨rfl, ht3, hmv3⟩)
    | (go_at_call 12; refine (ai_name _ _).mono ?_; rintro e w2 ⟨rfl, rfl⟩)
    | (go_at_call 18; refine (by_name _ _).mono ?_; rintro e w2 ⟨rfl, rfl⟩)
    | (go_at_call 19; refine (ma_name _ _).mono ?_; rintro e w2 ⟨rfl, rfl⟩)
    | (go_at_call 20; refine (st_name _ _).mono ?_; rintro e w2 ⟨rfl, rfl⟩)
    | (go_at_call 21; refine (ai_text _ _).mono ?_; rintro e w2 ⟨rfl, rfl⟩)
    | (go_at_call 22; refine (by_text _ _).mono ?_; rintro e w2 ⟨rfl, rfl⟩)
    | (go_at_call 23; refine (ma_text _ _).mono ?_; rintro e w2 ⟨rfl, rfl⟩)
    | (go_at_call 24; refine (st_text _ _).mono ?_; rintro e w2 ⟨rfl, rfl⟩))
  go_ret
  exact ⟨rfl, by repeat (first | exact hmv3.grown hg (by omega) | apply Grown.drew | apply Grown.alloc)⟩

theorem walk (a0 : Int) (a1 : Int) (w0 : (Lit.int .i64 a0).wf = true) (w1 : (Lit.int .i64 a1).wf = true) (w : World) :
    Calls Eewg.prog 6 #[.int .i64 a0, .int .i64 a1] w fun e w' => e = .returned (.bool true) ∧ Grown w w' := by
  by_cases g1 : a0 < 0
  · go_enter Eewg.func6, Eewg.ntmps6
    go_wp2
    go_ret
    exact ⟨rfl, Grown.refl _⟩
  by_cases g2 : 65536 < a0
  · go_enter Eewg.func6, Eewg.ntmps6
    go_wp2
    go_ret
    exact ⟨rfl, Grown.refl _⟩
  by_cases g3 : a1 < 0
  · go_enter Eewg.func6, Eewg.ntmps6
    go_wp2
    go_ret
    exact ⟨rfl, Grown.refl _⟩
  by_cases g4 : 65536 < a1
  · go_enter Eewg.func6, Eewg.ntmps6
    go_wp2
    go_ret
    exact ⟨rfl, Grown.refl _⟩
  obtain ⟨n, rfl⟩ := Int.eq_ofNat_of_zero_le (show 0 ≤ a0 by omega)
  obtain ⟨k, rfl⟩ := Int.eq_ofNat_of_zero_le (show 0 ≤ a1 by omega)
  exact walk_in n k (by omega) (by omega) w

/-! ### THE ROW's STEP: WRITTEN OUT: LEAVE IT -/
set_option maxRecDepth 100000 in
theorem lifted (os : Os) (started : os.Started) (H : Type) (enc : TypeId × Value → H) :
    ReturnsInHanded {} Eewg.checked os 6 .any (Rows.fnIteratorStringIsBracketedTypeNameSpec.pre6 enc Eewg.prog Eewg.f6 Rows.fnIteratorStringIsBracketedTypeNameRow.domain false) (Rows.fnIteratorStringIsBracketedTypeNameSpec.post enc Eewg.prog Eewg.f6 false true false false) := by
  refine returnsInHanded_of_change (C := Eewg.checked) own started (by kernel_rfl) Eewg.func6
    (ChangeSpec.witness6 (enc := enc) (C := Eewg.checked) false ⟨#[], #[.int .i64 0, .int .i64 0], []⟩ 8 (by kernel_rfl) (by kernel_rfl) (by kernel_rfl) (by kernel_rfl)) ?_
  intro W base args ds gs before hval0 hW hcnd _
  have hval : ∀ (j : Nat) t v, Eewg.f6.params[j]? = some t → args[j]? = some v → Value.okWide Eewg.prog W .any base t v := hval0
  have hW' := hW
  obtain ⟨p, q, hA0, hV, rfl, hfz, hnd⟩ := hW
  have hA : DataW.TrodAll enc Eewg.prog W 0 (fun _ => true) true Eewg.f6.params.toList args.toList ds p := hA0
  rw [Eewg.params6] at hA hval
  obtain ⟨v0, vs0, d0, ds0, p0, q0, hargs, rfl, rfl, h0, r0⟩ := trodAll_cons hA
  obtain ⟨v1, vs1, d1, ds1, p1, q1, rfl, rfl, rfl, h1, r1⟩ := trodAll_cons r0
  obtain ⟨rfl, rfl, rfl⟩ := trodAll_nil r1
  obtain rfl : args = #[v0, v1] := by cases args; simp_all
  obtain ⟨rfl, rfl⟩ := trodVars_none hV
  obtain ⟨a0, rfl, rfl, rfl, w0⟩ := open_int Eewg.underlying3 (hval 0 3 v0 rfl rfl) h0
  obtain ⟨a1, rfl, rfl, rfl, w1⟩ := open_int Eewg.underlying3 (hval 1 3 v1 rfl rfl) h1
  clear hA0 hval0
  simp only [List.append_nil] at hW'
  refine (walk a0 a1 w0 w1 W).mono fun e W' ⟨he, hg⟩ => ?_
  subst he
  exact ⟨_, rfl, post_of_same (pa := []) (pv := []) hW' (fun _ _ _ => (trodAll_cons_mk (shut_bool Eewg.underlying4 _) trodAll_mk0)) (fun sp _ => (trodAll_cons_mk (shut_int Eewg.underlying3 w0) (trodAll_cons_mk (shut_int Eewg.underlying3 w1) trodAll_mk0))) (fun _ _ => rfl) rfl
    (hg.frame _) hg.2.1 (ok_one (by kernel_rfl) rfl (okWide_bool_mk Eewg.underlying4 _))⟩

theorem over : Rows.fnIteratorStringIsBracketedTypeNameRow.holds Eewg.pinned (OpenSpec.ofChange Rows.fnIteratorStringIsBracketedTypeNameSpec) :=
  OpenClaim.holds_of_wide 6 Eewg.f6 rfl rfl rfl rfl rfl rfl rfl ⟨rfl, rfl, rfl, rfl, rfl⟩ rfl rfl rfl rfl rfl (by kernel_rfl) Eewg.func6 (by kernel_rfl)
    (of_decide_eq_true (by kernel_rfl)) (by unfold Func.isWrapper; first | (rw [if_pos (by decide +kernel)]; kernel_rfl) | (rw [if_neg (by decide +kernel)]; exact ⟨rfl, rfl⟩))
    (fun os started H enc _ => lifted os started H enc)

/-- ████ THE STATEMENT ████ -/
theorem proved : Rows.FnIteratorStringIsBracketedTypeNameSaid :=
  over
#print axioms proved
end Go.Proofs.Yoeeww.fnIteratorStringIsBracketedTypeName
