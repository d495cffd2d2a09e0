/-
  THE SEAT's OWN GROUND: what an array iterator is in memory ('It'), what a step of it leaves alone ('Moved'), and the contracts of the functions that the eight laws call.
-/
import Derived.Test.YoeewwRows
import Derived.WalkKit
import Derived.WalkSpells
import Derived.BigQuiet
import Derived.Deep.QuietTactic
import Derived.Deep.OwnRows
import Derived.ProofKit
namespace Go.Proofs.Yoeeww
open Go.RowKit

/-- The iterator in block b stands at i and has the length n. -/
structure It (w : World) (b : Nat) (i n : Int) : Prop where
  pos : w.cell? ⟨b, 1, none⟩ = some (.int .i64 i)
  len : w.cell? ⟨b, 2, none⟩ = some (.int .i64 n)
  free : w.frozen? ⟨b, 1, none⟩ = false

/-- From w to w' block b alone may have turned. -/
structure Moved (b : Nat) (w w' : World) : Prop where
  os : w'.os = w.os
  output : w'.output = w.output
  size : w'.heap.size = w.heap.size
  frozen : ∀ a, w'.frozen? a = w.frozen? a
  other : ∀ k, k ≠ b → w'.heap[k]? = w.heap[k]?

theorem Moved.refl (b : Nat) (w : World) : Moved b w w := ⟨rfl, rfl, rfl, fun _ => rfl, fun _ _ => rfl⟩

theorem Moved.trans {b : Nat} {w w1 w2 : World} (h : Moved b w w1) (k : Moved b w1 w2) : Moved b w w2 :=
  ⟨k.os.trans h.os, k.output.trans h.output, k.size.trans h.size, fun a => (k.frozen a).trans (h.frozen a), fun j hj => (k.other j hj).trans (h.other j hj)⟩

theorem Moved.setCell (b o : Nat) (w : World) (v : Value) : Moved b w (w.setCell ⟨b, o, none⟩ v) :=
  ⟨rfl, rfl, by simp [World.setCell], fun a => World.frozen?_setCell _ _ _ _, fun k hk => Below.heap_setCell _ _ _ _ hk⟩

theorem Moved.cell {b : Nat} {w w' : World} (h : Moved b w w') {a : Addr} (ha : a.block ≠ b) : w'.cell? a = w.cell? a :=
  World.cell?_of_block (w := w) (h.other a.block ha)

theorem Moved.it {b c : Nat} {w w' : World} {i n : Int} (h : Moved b w w') (hc : c ≠ b) (t : It w c i n) : It w' c i n :=
  ⟨(h.cell (a := ⟨c, 1, none⟩) hc).trans t.pos, (h.cell (a := ⟨c, 2, none⟩) hc).trans t.len, (h.frozen _).trans t.free⟩

theorem Moved.grown {b : Nat} {W w w' : World} (h : Moved b w w') (g : Grown W w) (hb : W.heap.size ≤ b) : Grown W w' := by
  obtain ⟨⟨h1, h2, h3⟩, hf, hs⟩ := g
  refine ⟨⟨h.os.trans h1, h.output.trans h2, fun i hi => ?_⟩, fun a => (h.frozen a).trans (hf a), by rw [h.size]; exact hs⟩
  rw [h.other i (by omega)]
  exact h3 i hi

theorem It.block {w : World} {b : Nat} {i n : Int} (t : It w b i n) : b < w.heap.size :=
  World.block_lt_of_cell? w ⟨b, 1, none⟩ t.pos

theorem It.step {w : World} {b : Nat} {i n : Int} (t : It w b i n) (j : Int) (q : Nat) : It ((w.setCell ⟨b, 1, none⟩ (.int .i64 j)).drewN q) b j n := by
  refine ⟨?_, ?_, ?_⟩
  · rw [World.cell?_drewN]; exact World.cell?_setCell_same _ _ _ t.pos
  · rw [World.cell?_drewN, World.cell?_setCell_other _ _ _ _ (by simp)]; exact t.len
  · rw [World.frozen?_drewN, World.frozen?_setCell]; exact t.free

theorem Moved.drewN {b : Nat} {w w' : World} (h : Moved b w w') (q : Nat) : Moved b w (w'.drewN q) := ⟨h.os, h.output, h.size, h.frozen, h.other⟩

set_option maxHeartbeats 400000 in
/-- (*ArrayIterator).Next. -/
theorem next_any (b : Nat) (i n : Int) (w : World) (t : It w b i n) (h0 : 0 ≤ i) (h1 : i ≤ 1000000) :
    Calls Eewg.prog 15 #[.pointer (some ⟨b, 0, none⟩)] w fun e w' => e = .returned (.bool (decide (i + 1 ≤ n))) ∧ It w' b (i + 1) n ∧ Moved b w w' := by
  have HT : Hid (It w b i n) := t
  obtain ⟨t1, t2, t3⟩ := t
  go_enter Eewg.func15, Eewg.ntmps15
  go_wp2
  go_quiet (fail)
  go_wp2
  go_ret
  exact ⟨rfl, HT.out.step _ _, (Moved.setCell _ _ _ _).drewN _⟩

/-- Next, where an element is left. -/
theorem next_yes (b : Nat) (i n : Int) (w : World) (t : It w b i n) (h0 : 0 ≤ i) (h1 : i ≤ 1000000) (h : i < n) :
    Calls Eewg.prog 15 #[.pointer (some ⟨b, 0, none⟩)] w fun e w' => e = .returned (.bool true) ∧ It w' b (i + 1) n ∧ Moved b w w' := by
  have e : decide (i + 1 ≤ n) = true := decide_eq_true (by omega)
  have c := next_any b i n w t h0 h1
  rw [e] at c
  exact c

/-- Next, where none is left. -/
theorem next_no (b : Nat) (i n : Int) (w : World) (t : It w b i n) (h0 : 0 ≤ i) (h1 : i ≤ 1000000) (h : ¬ i < n) :
    Calls Eewg.prog 15 #[.pointer (some ⟨b, 0, none⟩)] w fun e w' => e = .returned (.bool false) ∧ It w' b (i + 1) n ∧ Moved b w w' := by
  have e : decide (i + 1 ≤ n) = false := decide_eq_false (by omega)
  have c := next_any b i n w t h0 h1
  rw [e] at c
  exact c

/-- The type Object's row of the table. -/
theorem info58 : (Eewg.prog.info? 58).map (fun i => (i.zero, i.size, i.bytes)) = some (some .nilIface, 1, 16) := by kernel_rfl

/-- An iterator that was just made. -/
theorem It.made (w : World) (o : Obj) (u : Value) (n : Int) : It ((w.alloc o).alloc (.cells #[u, .int .i64 0, .int .i64 n] 56)) (w.heap.size + 1) 0 n :=
  ⟨by simp, by simp, by simp⟩

set_option maxHeartbeats 400000 in
/-- ZZnewArrayIterator. -/
theorem new_any (n : Nat) (hn : n ≤ 65536) (w : World) :
    Calls Eewg.prog 11 #[.int .i64 (n : Int)] w fun e w' => ∃ b, e = .returned (.pointer (some ⟨b, 0, none⟩)) ∧ w.heap.size < b ∧ It w' b 0 n ∧ Grown w w' := by
  have hm := run_make_row' (P := Eewg.prog) 32 58 .nilIface 16 Eewg.underlying32 info58 rfl .i64 .i64 n (by omega) (by omega)
  go_enter Eewg.func11, Eewg.ntmps11
  go_wp2
  go_ret
  exact ⟨_, rfl, by omega, It.made _ _ _ _, ((Grown.refl _).alloc _ _).alloc _ _⟩

/-- The lesser of two numbers. -/
def lo (a b : Nat) : Nat := if a < b then a else b

theorem lo_le (a b : Nat) : lo a b ≤ a := by unfold lo; split <;> omega
theorem lo_zero (b : Nat) : lo 0 b = 0 := by unfold lo; split <;> omega
theorem lo_up {a b : Nat} (h : a + 1 ≤ b) : lo (a + 1) b = lo a b + 1 := by unfold lo; split <;> split <;> omega
theorem lo_still {a b : Nat} (h : ¬ a + 1 ≤ b) : lo (a + 1) b = lo a b := by unfold lo; split <;> split <;> omega

/-- zzMinB1. -/
theorem min_any (a b : Nat) (w : World) :
    Calls Eewg.prog 14 #[.int .i64 (a : Int), .int .i64 (b : Int)] w fun e w' => e = .returned (.int .i64 (lo a b : Nat)) ∧ w' = w := by
  by_cases h : a < b
  · have e : Hid (lo a b = a) := by unfold Hid lo; rw [if_pos h]
    go_enter Eewg.func14, Eewg.ntmps14
    go_wp2
    go_ret
    exact ⟨by rw [e.out]; rfl, rfl⟩
  · have e : Hid (lo a b = b) := by unfold Hid lo; rw [if_neg h]
    go_enter Eewg.func14, Eewg.ntmps14
    go_wp2
    go_ret
    exact ⟨by rw [e.out]; rfl, rfl⟩

set_option maxHeartbeats 400000 in
/-- zzAdvanceB1 on an iterator that stands at its head. -/
theorem advance_any (b n k : Nat) (w : World) (t : It w b 0 n) (hk : k ≤ 65536) :
    Calls Eewg.prog 13 #[.pointer (some ⟨b, 0, none⟩), .int .i64 (k : Int)] w fun e w' => e = .returned (.int .i64 (lo k n : Nat)) ∧ It w' b k n ∧ Moved b w w' := by
  go_enter Eewg.func13, Eewg.ntmps13
  go_wp2
  go_loopw [5, 6] (fun c j wr => ∃ m : Nat, m ≤ k ∧ j = .int .i64 (m : Int) ∧ c = .int .i64 (lo m n : Nat) ∧ It wr b m n ∧ Moved b w wr) (fun _ j _ => k - (intOf j).toNat)
  case atStart => exact ⟨0, Nat.zero_le _, rfl, by rw [lo_zero]; rfl, t, Moved.refl _ _⟩
  case round =>
    obtain ⟨m, hm, rfl, rfl, ht, hmv⟩ := hrel
    have hl := lo_le m n
    by_cases hlt : m < k
    · by_cases hmn : m + 1 ≤ n
      · have HL' : Hid (lo (m + 1) n = lo m n + 1) := lo_up hmn
        go_wp2_with (go_at_call 15; refine (next_any b _ _ _ ht (by omega) (by omega)).mono ?_; rintro e w1 ⟨rfl, ht1, hmv1⟩)
        go_roundw
        case rel => exact ⟨m + 1, by omega, by go_num, by rw [HL'.out]; go_num, by simpa using ht1, hmv.trans hmv1⟩
        case measure => simp [intOf]; omega
      · have HL' : Hid (lo (m + 1) n = lo m n) := lo_still hmn
        go_wp2_with (go_at_call 15; refine (next_any b _ _ _ ht (by omega) (by omega)).mono ?_; rintro e w1 ⟨rfl, ht1, hmv1⟩)
        go_roundw
        case rel => exact ⟨m + 1, by omega, by go_num, by rw [HL'.out], by simpa using ht1, hmv.trans hmv1⟩
        case measure => simp [intOf]; omega
    · obtain rfl : m = k := by omega
      go_wp2
      go_ret
      exact ⟨rfl, ht, hmv⟩
/-- (*ArrayIterator).IsFalsy. -/
theorem falsy_any (p : Value) (w : World) : Calls Eewg.prog 25 #[p] w fun e w' => e = .returned (.bool true) ∧ w' = w := by
  go_enter Eewg.func25, Eewg.ntmps25
  go_wp2
  go_ret
  exact ⟨rfl, rfl⟩

/-- (*ArrayIterator).Equals. -/
theorem equals_any (p q : Value) (w : World) : Calls Eewg.prog 27 #[p, q] w fun e w' => e = .returned (.bool false) ∧ w' = w := by
  go_enter Eewg.func27, Eewg.ntmps27
  go_wp2
  go_ret
  exact ⟨rfl, rfl⟩

/-- (*ArrayIterator).TypeName. -/
theorem ai_name (p : Value) (w : World) : Calls Eewg.prog 12 #[p] w fun e w' => e = .returned (.string ⟨#[97, 114, 114, 97, 121, 45, 105, 116, 101, 114, 97, 116, 111, 114]⟩) ∧ w' = w := by
  go_enter Eewg.func12, Eewg.ntmps12
  go_wp2
  go_ret
  exact ⟨rfl, rfl⟩

/-- (*Array).TypeName. -/
theorem ar_name (p : Value) (w : World) : Calls Eewg.prog 16 #[p] w fun e w' => e = .returned (.string ⟨#[97, 114, 114, 97, 121]⟩) ∧ w' = w := by
  go_enter Eewg.func16, Eewg.ntmps16
  go_wp2
  go_ret
  exact ⟨rfl, rfl⟩

/-- (*ImmutableArray).TypeName. -/
theorem im_name (p : Value) (w : World) : Calls Eewg.prog 17 #[p] w fun e w' => e = .returned (.string ⟨#[105, 109, 109, 117, 116, 97, 98, 108, 101, 45, 97, 114, 114, 97, 121]⟩) ∧ w' = w := by
  go_enter Eewg.func17, Eewg.ntmps17
  go_wp2
  go_ret
  exact ⟨rfl, rfl⟩

/-- (*BytesIterator).TypeName. -/
theorem by_name (p : Value) (w : World) : Calls Eewg.prog 18 #[p] w fun e w' => e = .returned (.string ⟨#[98, 121, 116, 101, 115, 45, 105, 116, 101, 114, 97, 116, 111, 114]⟩) ∧ w' = w := by
  go_enter Eewg.func18, Eewg.ntmps18
  go_wp2
  go_ret
  exact ⟨rfl, rfl⟩

/-- (*MapIterator).TypeName. -/
theorem ma_name (p : Value) (w : World) : Calls Eewg.prog 19 #[p] w fun e w' => e = .returned (.string ⟨#[109, 97, 112, 45, 105, 116, 101, 114, 97, 116, 111, 114]⟩) ∧ w' = w := by
  go_enter Eewg.func19, Eewg.ntmps19
  go_wp2
  go_ret
  exact ⟨rfl, rfl⟩

/-- (*StringIterator).TypeName. -/
theorem st_name (p : Value) (w : World) : Calls Eewg.prog 20 #[p] w fun e w' => e = .returned (.string ⟨#[115, 116, 114, 105, 110, 103, 45, 105, 116, 101, 114, 97, 116, 111, 114]⟩) ∧ w' = w := by
  go_enter Eewg.func20, Eewg.ntmps20
  go_wp2
  go_ret
  exact ⟨rfl, rfl⟩

/-- (*ArrayIterator).String. -/
theorem ai_text (p : Value) (w : World) : Calls Eewg.prog 21 #[p] w fun e w' => e = .returned (.string ⟨#[60, 97, 114, 114, 97, 121, 45, 105, 116, 101, 114, 97, 116, 111, 114, 62]⟩) ∧ w' = w := by
  go_enter Eewg.func21, Eewg.ntmps21
  go_wp2
  go_ret
  exact ⟨rfl, rfl⟩

/-- (*BytesIterator).String. -/
theorem by_text (p : Value) (w : World) : Calls Eewg.prog 22 #[p] w fun e w' => e = .returned (.string ⟨#[60, 98, 121, 116, 101, 115, 45, 105, 116, 101, 114, 97, 116, 111, 114, 62]⟩) ∧ w' = w := by
  go_enter Eewg.func22, Eewg.ntmps22
  go_wp2
  go_ret
  exact ⟨rfl, rfl⟩

/-- (*MapIterator).String. -/
theorem ma_text (p : Value) (w : World) : Calls Eewg.prog 23 #[p] w fun e w' => e = .returned (.string ⟨#[60, 109, 97, 112, 45, 105, 116, 101, 114, 97, 116, 111, 114, 62]⟩) ∧ w' = w := by
  go_enter Eewg.func23, Eewg.ntmps23
  go_wp2
  go_ret
  exact ⟨rfl, rfl⟩

/-- (*StringIterator).String. -/
theorem st_text (p : Value) (w : World) : Calls Eewg.prog 24 #[p] w fun e w' => e = .returned (.string ⟨#[60, 115, 116, 114, 105, 110, 103, 45, 105, 116, 101, 114, 97, 116, 111, 114, 62]⟩) ∧ w' = w := by
  go_enter Eewg.func24, Eewg.ntmps24
  go_wp2
  go_ret
  exact ⟨rfl, rfl⟩

/-- Two growths, one behind the other. -/
theorem grown_trans {a b c : World} (h : Grown a b) (k : Grown b c) : Grown a c :=
  ⟨World.keptBut_trans h.1 k.1, fun x => (k.2.1 x).trans (h.2.1 x), Nat.le_trans h.2.2 k.2.2⟩

/-- What was there when the world grew is there still. -/
theorem kept_cell {W w : World} (g : Grown W w) {a : Addr} {v : Value} (h : W.cell? a = some v) : w.cell? a = some v := by
  have hlt := World.block_lt_of_cell? W a h
  have hk := g.1.2.2 a.block hlt
  unfold World.cell? at h ⊢
  split at h
  · rename_i c t fr e
    rw [e] at hk
    split at hk
    · rename_i c1 t1 fr1 c2 t2 fr2 e1 e2
      simp only [Option.some.injEq, Obj.cells.injEq] at e1
      obtain ⟨rfl, rfl, rfl⟩ := e1
      rw [e2]
      simp only
      split at h
      · cases h
      · rename_i hs
        rw [if_neg hs, hk.2.2.2 a.off (fun f => f)]
        exact h
    · rename_i e1 e2
      cases e1
    · rw [hk]
      exact h
  · cases h

/-- An iterator stands where it stood when the world grew. -/
theorem It.kept {W w : World} {b : Nat} {i n : Int} (t : It W b i n) (g : Grown W w) : It w b i n :=
  ⟨kept_cell g t.pos, kept_cell g t.len, (g.2.1 _).trans t.free⟩

/-- (*Array).IsFalsy, no slot. -/
theorem array_yes (b m c : Nat) (a : Option Addr) (w : World) (h : w.cell? ⟨b, 0, none⟩ = some (.slice a m c)) (hm : m = 0) :
    Calls Eewg.prog 26 #[.pointer (some ⟨b, 0, none⟩)] w fun e w' => e = .returned (.bool true) ∧ w' = w := by
  subst hm
  go_enter Eewg.func26, Eewg.ntmps26
  go_wp2
  go_ret
  exact ⟨rfl, rfl⟩

/-- (*Array).IsFalsy, some slots. -/
theorem array_no (b m c : Nat) (a : Option Addr) (w : World) (h : w.cell? ⟨b, 0, none⟩ = some (.slice a m c)) (hm : 0 < m) :
    Calls Eewg.prog 26 #[.pointer (some ⟨b, 0, none⟩)] w fun e w' => e = .returned (.bool false) ∧ w' = w := by
  have hz : ((m : Int) == 0) = false := by simp; omega
  go_enter Eewg.func26, Eewg.ntmps26
  go_wp2
  go_ret
  exact ⟨rfl, rfl⟩

end Go.Proofs.Yoeeww
