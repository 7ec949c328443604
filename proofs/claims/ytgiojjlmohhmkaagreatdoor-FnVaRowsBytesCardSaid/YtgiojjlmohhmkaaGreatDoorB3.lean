/-
  The walk of vaValue: a value of each type code, and the bytes by which a result tells it.
-/
import Derived.Test.YtgiojjlmohhmkaaGreatDoorB1
import Derived.Test.YtgiojjlmohhmkaaGreatDoorB2
namespace Go.Proofs.YtgiojjlmohhmkaaGreatDoor
open Go Go.RowKit

/-- The cells of a value: its kind, its integer, its float, its bytes; all else is nought. -/
def valCells (kind int : Int) (fl : Nat) (bytes : Value) : Array Value :=
  #[.int .i64 kind, .bool false, .int .i64 int, .float .f64 fl, bytes, .string ⟨#[]⟩, .int .i64 0, .int .i64 0, .int .i64 0, .int .i64 0, .int .i64 0, .int .i64 0, .int .i64 0, .bool false, .slice none 0 0, .slice none 0 0,
    .int .i64 0, .int .i64 0, .int .i64 0, .int .i64 0, .int .u64 0, .slice none 0 0]
theorem valCells_one (k i : Int) (f : Nat) (A : Option Addr) (n c : Nat) : (valCells k i f (.slice A n c)).all (·.oneCell') = true := by
  simp [valCells, Value.oneCell']
theorem u64_lo (x : Int) : 0 ≤ IntKind.u64.wrap x := by rw [IntKind.wrap_u64]; omega
theorem u64_hi (x : Int) : IntKind.u64.wrap x ≤ 18446744073709551615 := by rw [IntKind.wrap_u64]; omega
theorem size41 : (Tryz.prog.info? 41).map (·.size) = some 22 := by kernel_rfl

set_option maxRecDepth 100000 in
set_option maxHeartbeats 400000 in
theorem value_1 (n : Int) (w : World) :
    Calls Tryz.prog 6 #[.int .i64 1, .int .i64 n] w fun e w' => ∃ v, e = .returned (.tuple #[.agg (valCells 2 (n % 256) 0 (.slice none 0 0)), v]) ∧ w'.ownsRow w.heap.size 5 1 v 2 (.int .u8 1 :: (low (n % 256) 1).map (Value.int .u8)) ∧ Below w.heap.size w w' := by
  obtain ⟨i0, hi, hz0, hz1, hz2⟩ := info_parts info5
  go_enter Tryz.func6, Tryz.ntmps6
  go_wp2_with (first | (go_at_call 11; refine (integer_0 _ _).mono ?_; rintro e w' ⟨rfl, rfl⟩) | (go_at_call 13; refine (width_1 _).mono ?_; rintro e w' ⟨rfl, rfl⟩))
  refine (low_1 _ _ (by omega) (by omega)).mono ?_
  rintro e w1 ⟨rfl, hrow, hbel⟩
  have hw0 : Row w1 w.heap.size 41 (valCells 0 0 0 (.slice none 0 0)) := ((Row.made w 41 _).alloc _).below hbel (by simp; omega)
  have hw1 : Row w1 (w.heap.size + 1) 5 #[.int .u8 1] := by
    have h := (Row.made (w.alloc (.cells (valCells 0 0 0 (.slice none 0 0)) 41)) 5 #[.int .u8 1])
    rw [World.size_alloc] at h
    exact h.below hbel (by simp)
  rw [World.size_alloc, World.size_alloc] at hrow
  have hsz : w.heap.size + 2 ≤ w1.heap.size := by have := hbel.size; simpa using this
  have hbw : Below w.heap.size w w1 := ((Below.refl _ _).alloc (Nat.le_refl _) _ |>.alloc (by simp) _).trans (hbel.mono (by simp; omega))
  have hown := hw1.own (base := w.heap.size) (size := 1) (n := 1) (by omega) rfl (by decide)
  clear hbel
  go_wp2_with (at_builtin; refine wpList_append_own _ rfl (.tmp 25) (.tmp 30) 22 rfl w.heap.size 5 i0 (.int .u8 0) 1 1 Tryz.underlying22 hi hz0 hz1 hz2 rfl (by decide) _ 1 [.int .u8 1] rfl hown ⟨w.heap.size + 1 + 1, 0, none⟩ 1 1 ((low (n % 256) 1).map (Value.int .u8)) rfl ?c1 ?c2 ?c3 ?c4 ?c5 ?c6 ?_)
  case c1 => simp [low_length]
  case c2 => exact hrow.cells
  case c3 => exact ints_oneCell _ _
  case c4 => decide
  case c5 => decide
  case c6 => omega
  intro v' w2 hown2 hg2 _
  have hw0' : Row w2 w.heap.size 41 (valCells 0 0 0 (.slice none 0 0)) := (hg2.block _ (by omega) (by simp [Value.ownBlock])).trans hw0
  have hb2 : Below w.heap.size w w2 := hbw.grown hg2 hbw.size (by intro k hk; simp [Value.ownBlock] at hk; omega)
  clear hw0 hw1 hrow hbw hown hg2
  go_wp2_with (refine wpList_store_row rfl 41 (.tmp 4) (.tmp 24) rfl w.heap.size (valCells 2 (n % 256) 0 (.slice none 0 0)) rfl rfl 41 _ hw0' size41 rfl (valCells_one _ _ _ _ _ _) ?_)
  refine bodyPost_ret (results_row_tmp (P := Tryz.prog) rfl _ _ w.heap.size 41 (valCells 2 (n % 256) 0 (.slice none 0 0)) _ rfl (hw0'.setRow _) Tryz.underlying41 rfl size41) rfl ?_
  exact ⟨v', rfl, own_setRow hown2 (own_ne hown2 hw0' (by decide)) _, below_setRow' hb2 (Nat.le_refl _) _⟩

set_option maxRecDepth 100000 in
set_option maxHeartbeats 400000 in
theorem value_2 (n : Int) (w : World) :
    Calls Tryz.prog 6 #[.int .i64 2, .int .i64 n] w fun e w' => ∃ v, e = .returned (.tuple #[.agg (valCells 2 (IntKind.i16.wrap n) 0 (.slice none 0 0)), v]) ∧ w'.ownsRow w.heap.size 5 1 v 3 (.int .u8 1 :: (low (IntKind.u64.wrap (IntKind.i16.wrap n)) 2).map (Value.int .u8)) ∧ Below w.heap.size w w' := by
  obtain ⟨i0, hi, hz0, hz1, hz2⟩ := info_parts info5
  go_enter Tryz.func6, Tryz.ntmps6
  go_wp2_with (first | (go_at_call 11; refine (integer_1 _ _).mono ?_; rintro e w' ⟨rfl, rfl⟩) | (go_at_call 13; refine (width_2 _).mono ?_; rintro e w' ⟨rfl, rfl⟩))
  refine (low_2 _ _ (u64_lo _) (u64_hi _)).mono ?_
  rintro e w1 ⟨rfl, hrow, hbel⟩
  have hw0 : Row w1 w.heap.size 41 (valCells 0 0 0 (.slice none 0 0)) := ((Row.made w 41 _).alloc _).below hbel (by simp; omega)
  have hw1 : Row w1 (w.heap.size + 1) 5 #[.int .u8 1] := by
    have h := (Row.made (w.alloc (.cells (valCells 0 0 0 (.slice none 0 0)) 41)) 5 #[.int .u8 1])
    rw [World.size_alloc] at h
    exact h.below hbel (by simp)
  rw [World.size_alloc, World.size_alloc] at hrow
  have hsz : w.heap.size + 2 ≤ w1.heap.size := by have := hbel.size; simpa using this
  have hbw : Below w.heap.size w w1 := ((Below.refl _ _).alloc (Nat.le_refl _) _ |>.alloc (by simp) _).trans (hbel.mono (by simp; omega))
  have hown := hw1.own (base := w.heap.size) (size := 1) (n := 1) (by omega) rfl (by decide)
  clear hbel
  go_wp2_with (at_builtin; refine wpList_append_own _ rfl (.tmp 25) (.tmp 30) 22 rfl w.heap.size 5 i0 (.int .u8 0) 1 1 Tryz.underlying22 hi hz0 hz1 hz2 rfl (by decide) _ 1 [.int .u8 1] rfl hown ⟨w.heap.size + 1 + 1, 0, none⟩ 2 2 ((low (IntKind.u64.wrap (IntKind.i16.wrap n)) 2).map (Value.int .u8)) rfl ?c1 ?c2 ?c3 ?c4 ?c5 ?c6 ?_)
  case c1 => simp [low_length]
  case c2 => exact hrow.cells
  case c3 => exact ints_oneCell _ _
  case c4 => decide
  case c5 => decide
  case c6 => omega
  intro v' w2 hown2 hg2 _
  have hw0' : Row w2 w.heap.size 41 (valCells 0 0 0 (.slice none 0 0)) := (hg2.block _ (by omega) (by simp [Value.ownBlock])).trans hw0
  have hb2 : Below w.heap.size w w2 := hbw.grown hg2 hbw.size (by intro k hk; simp [Value.ownBlock] at hk; omega)
  clear hw0 hw1 hrow hbw hown hg2
  go_wp2_with (refine wpList_store_row rfl 41 (.tmp 4) (.tmp 24) rfl w.heap.size (valCells 2 (IntKind.i16.wrap n) 0 (.slice none 0 0)) rfl rfl 41 _ hw0' size41 rfl (valCells_one _ _ _ _ _ _) ?_)
  refine bodyPost_ret (results_row_tmp (P := Tryz.prog) rfl _ _ w.heap.size 41 (valCells 2 (IntKind.i16.wrap n) 0 (.slice none 0 0)) _ rfl (hw0'.setRow _) Tryz.underlying41 rfl size41) rfl ?_
  exact ⟨v', rfl, own_setRow hown2 (own_ne hown2 hw0' (by decide)) _, below_setRow' hb2 (Nat.le_refl _) _⟩

set_option maxRecDepth 100000 in
set_option maxHeartbeats 400000 in
theorem value_3 (n : Int) (w : World) :
    Calls Tryz.prog 6 #[.int .i64 3, .int .i64 n] w fun e w' => ∃ v, e = .returned (.tuple #[.agg (valCells 2 (wrap32 n) 0 (.slice none 0 0)), v]) ∧ w'.ownsRow w.heap.size 5 1 v 5 (.int .u8 1 :: (low (IntKind.u64.wrap (wrap32 n)) 4).map (Value.int .u8)) ∧ Below w.heap.size w w' := by
  obtain ⟨i0, hi, hz0, hz1, hz2⟩ := info_parts info5
  go_enter Tryz.func6, Tryz.ntmps6
  go_wp2_with (first | (go_at_call 11; refine (integer_2 _ _).mono ?_; rintro e w' ⟨rfl, rfl⟩) | (go_at_call 13; refine (width_3 _).mono ?_; rintro e w' ⟨rfl, rfl⟩))
  refine (low_4 _ _ (u64_lo _) (u64_hi _)).mono ?_
  rintro e w1 ⟨rfl, hrow, hbel⟩
  have hw0 : Row w1 w.heap.size 41 (valCells 0 0 0 (.slice none 0 0)) := ((Row.made w 41 _).alloc _).below hbel (by simp; omega)
  have hw1 : Row w1 (w.heap.size + 1) 5 #[.int .u8 1] := by
    have h := (Row.made (w.alloc (.cells (valCells 0 0 0 (.slice none 0 0)) 41)) 5 #[.int .u8 1])
    rw [World.size_alloc] at h
    exact h.below hbel (by simp)
  rw [World.size_alloc, World.size_alloc] at hrow
  have hsz : w.heap.size + 2 ≤ w1.heap.size := by have := hbel.size; simpa using this
  have hbw : Below w.heap.size w w1 := ((Below.refl _ _).alloc (Nat.le_refl _) _ |>.alloc (by simp) _).trans (hbel.mono (by simp; omega))
  have hown := hw1.own (base := w.heap.size) (size := 1) (n := 1) (by omega) rfl (by decide)
  clear hbel
  go_wp2_with (at_builtin; refine wpList_append_own _ rfl (.tmp 25) (.tmp 30) 22 rfl w.heap.size 5 i0 (.int .u8 0) 1 1 Tryz.underlying22 hi hz0 hz1 hz2 rfl (by decide) _ 1 [.int .u8 1] rfl hown ⟨w.heap.size + 1 + 1, 0, none⟩ 4 4 ((low (IntKind.u64.wrap (wrap32 n)) 4).map (Value.int .u8)) rfl ?c1 ?c2 ?c3 ?c4 ?c5 ?c6 ?_)
  case c1 => simp [low_length]
  case c2 => exact hrow.cells
  case c3 => exact ints_oneCell _ _
  case c4 => decide
  case c5 => decide
  case c6 => omega
  intro v' w2 hown2 hg2 _
  have hw0' : Row w2 w.heap.size 41 (valCells 0 0 0 (.slice none 0 0)) := (hg2.block _ (by omega) (by simp [Value.ownBlock])).trans hw0
  have hb2 : Below w.heap.size w w2 := hbw.grown hg2 hbw.size (by intro k hk; simp [Value.ownBlock] at hk; omega)
  clear hw0 hw1 hrow hbw hown hg2
  go_wp2_with (refine wpList_store_row rfl 41 (.tmp 4) (.tmp 24) rfl w.heap.size (valCells 2 (wrap32 n) 0 (.slice none 0 0)) rfl rfl 41 _ hw0' size41 rfl (valCells_one _ _ _ _ _ _) ?_)
  refine bodyPost_ret (results_row_tmp (P := Tryz.prog) rfl _ _ w.heap.size 41 (valCells 2 (wrap32 n) 0 (.slice none 0 0)) _ rfl (hw0'.setRow _) Tryz.underlying41 rfl size41) rfl ?_
  exact ⟨v', rfl, own_setRow hown2 (own_ne hown2 hw0' (by decide)) _, below_setRow' hb2 (Nat.le_refl _) _⟩

set_option maxRecDepth 100000 in
set_option maxHeartbeats 400000 in
theorem value_4 (n : Int) (w : World) :
    Calls Tryz.prog 6 #[.int .i64 4, .int .i64 n] w fun e w' => ∃ v, e = .returned (.tuple #[.agg (valCells 2 (n) 0 (.slice none 0 0)), v]) ∧ w'.ownsRow w.heap.size 5 1 v 9 (.int .u8 1 :: (low (IntKind.u64.wrap n) 8).map (Value.int .u8)) ∧ Below w.heap.size w w' := by
  obtain ⟨i0, hi, hz0, hz1, hz2⟩ := info_parts info5
  go_enter Tryz.func6, Tryz.ntmps6
  go_wp2_with (first | (go_at_call 11; refine (integer_3 _ _).mono ?_; rintro e w' ⟨rfl, rfl⟩) | (go_at_call 13; refine (width_4 _).mono ?_; rintro e w' ⟨rfl, rfl⟩))
  refine (low_8 _ _ (u64_lo _) (u64_hi _)).mono ?_
  rintro e w1 ⟨rfl, hrow, hbel⟩
  have hw0 : Row w1 w.heap.size 41 (valCells 0 0 0 (.slice none 0 0)) := ((Row.made w 41 _).alloc _).below hbel (by simp; omega)
  have hw1 : Row w1 (w.heap.size + 1) 5 #[.int .u8 1] := by
    have h := (Row.made (w.alloc (.cells (valCells 0 0 0 (.slice none 0 0)) 41)) 5 #[.int .u8 1])
    rw [World.size_alloc] at h
    exact h.below hbel (by simp)
  rw [World.size_alloc, World.size_alloc] at hrow
  have hsz : w.heap.size + 2 ≤ w1.heap.size := by have := hbel.size; simpa using this
  have hbw : Below w.heap.size w w1 := ((Below.refl _ _).alloc (Nat.le_refl _) _ |>.alloc (by simp) _).trans (hbel.mono (by simp; omega))
  have hown := hw1.own (base := w.heap.size) (size := 1) (n := 1) (by omega) rfl (by decide)
  clear hbel
  go_wp2_with (at_builtin; refine wpList_append_own _ rfl (.tmp 25) (.tmp 30) 22 rfl w.heap.size 5 i0 (.int .u8 0) 1 1 Tryz.underlying22 hi hz0 hz1 hz2 rfl (by decide) _ 1 [.int .u8 1] rfl hown ⟨w.heap.size + 1 + 1, 0, none⟩ 8 8 ((low (IntKind.u64.wrap n) 8).map (Value.int .u8)) rfl ?c1 ?c2 ?c3 ?c4 ?c5 ?c6 ?_)
  case c1 => simp [low_length]
  case c2 => exact hrow.cells
  case c3 => exact ints_oneCell _ _
  case c4 => decide
  case c5 => decide
  case c6 => omega
  intro v' w2 hown2 hg2 _
  have hw0' : Row w2 w.heap.size 41 (valCells 0 0 0 (.slice none 0 0)) := (hg2.block _ (by omega) (by simp [Value.ownBlock])).trans hw0
  have hb2 : Below w.heap.size w w2 := hbw.grown hg2 hbw.size (by intro k hk; simp [Value.ownBlock] at hk; omega)
  clear hw0 hw1 hrow hbw hown hg2
  go_wp2_with (refine wpList_store_row rfl 41 (.tmp 4) (.tmp 24) rfl w.heap.size (valCells 2 (n) 0 (.slice none 0 0)) rfl rfl 41 _ hw0' size41 rfl (valCells_one _ _ _ _ _ _) ?_)
  refine bodyPost_ret (results_row_tmp (P := Tryz.prog) rfl _ _ w.heap.size 41 (valCells 2 (n) 0 (.slice none 0 0)) _ rfl (hw0'.setRow _) Tryz.underlying41 rfl size41) rfl ?_
  exact ⟨v', rfl, own_setRow hown2 (own_ne hown2 hw0' (by decide)) _, below_setRow' hb2 (Nat.le_refl _) _⟩

theorem f64bits (b : Nat) (w : World) : (callFunc 14 #[.float .f64 b]).run Tryz.prog w = .ok (.value (.int .u64 b)) w := by kernel_rfl

/-- The word of a float that is a whole number of at most six digits. -/
def flOf (n : Int) : Nat := floatOfInt .f64 (n.tmod 1000000)
theorem flOf_lt (n : Int) : flOf n < 2 ^ 64 := Ieee.Format.nearest_lt _ _ _ _

set_option maxRecDepth 100000 in
set_option maxHeartbeats 400000 in
theorem value_7 (n : Int) (w : World) :
    Calls Tryz.prog 6 #[.int .i64 7, .int .i64 n] w fun e w' => ∃ v, e = .returned (.tuple #[.agg (valCells 3 0 (flOf n) (.slice none 0 0)), v]) ∧ w'.ownsRow w.heap.size 5 1 v 8 ((low (flOf n) 8).map (Value.int .u8)) ∧ Below w.heap.size w w' := by
  have hfb := f64bits
  have hlt := flOf_lt n
  go_enter Tryz.func6, Tryz.ntmps6
  go_wp2_with fail
  refine (low_8 _ _ (by omega) (by unfold flOf at hlt; omega)).mono ?_
  rintro e w1 ⟨rfl, hrow, hbel⟩
  have hw0 : Row w1 w.heap.size 41 (valCells 0 0 0 (.slice none 0 0)) := (Row.made w 41 _).below hbel (by simp)
  rw [World.size_alloc] at hrow
  have hsz : w.heap.size + 1 ≤ w1.heap.size := by have := hbel.size; simpa using this
  have hbw : Below w.heap.size w w1 := ((Below.refl _ _).alloc (Nat.le_refl _) _).trans (hbel.mono (by simp))
  have hown := hrow.own (base := w.heap.size) (size := 1) (n := 8) (by omega) (by simp [low_length]) (by decide)
  clear hbel hfb hlt
  go_wp2_with (refine wpList_store_row rfl 41 (.tmp 4) (.tmp 38) rfl w.heap.size (valCells 3 0 (flOf n) (.slice none 0 0)) rfl rfl 41 _ hw0 size41 rfl (valCells_one _ _ _ _ _ _) ?_)
  refine bodyPost_ret (results_row_tmp (P := Tryz.prog) rfl _ _ w.heap.size 41 (valCells 3 0 (flOf n) (.slice none 0 0)) _ rfl (hw0.setRow _) Tryz.underlying41 rfl size41) rfl ?_
  exact ⟨_, rfl, own_setRow hown (own_ne hown hw0 (by decide)) _, below_setRow' hbw (Nat.le_refl _) _⟩


end Go.Proofs.YtgiojjlmohhmkaaGreatDoor
