/-
  The walks of the law's own small functions: vaWidth, vaInteger, vaLow.
-/
import Derived.Test.YtgiojjlmohhmkaaGreatDoorProg
import Derived.Test.YtgiojjlmohhmkaaGreatDoorA
import Derived.Deep.OwnRows
namespace Go.Proofs.YtgiojjlmohhmkaaGreatDoor
open Go Go.RowKit

theorem info5 : (Tryz.prog.info? 5).map (fun i => (i.zero, i.size, i.bytes)) = some (some (.int .u8 0), 1, 1) := by kernel_rfl

set_option maxHeartbeats 400000 in
theorem width_1 (w : World) : Calls Tryz.prog 13 #[.int .i64 1] w fun e w' => e = .returned (.int .i64 1) ∧ w = w' := by
  go_enter Tryz.func13, Tryz.ntmps13
  go_wp2
  go_ret
  exact ⟨rfl, rfl⟩
set_option maxHeartbeats 400000 in
theorem width_4 (w : World) : Calls Tryz.prog 13 #[.int .i64 4] w fun e w' => e = .returned (.int .i64 8) ∧ w = w' := by
  go_enter Tryz.func13, Tryz.ntmps13
  go_wp2
  go_ret
  exact ⟨rfl, rfl⟩
theorem Row.of_rowIs {w : World} {b : Nat} {t : TypeId} {n : Nat} {f : Nat → Value} (h : w.rowIs b t n f) : Row w b t ((List.range n).map f).toArray := by
  obtain ⟨c, hc, hn, hf⟩ := h
  refine (show w.heap[b]? = _ from hc).trans ?_
  congr 2
  refine Array.ext (by simp [hn]) fun i h1 h2 => ?_
  have := hf i (by omega)
  rw [Array.getElem?_eq_getElem h1] at this
  simpa using Option.some.inj this

set_option maxHeartbeats 400000 in
theorem width_2 (w : World) : Calls Tryz.prog 13 #[.int .i64 2] w fun e w' => e = .returned (.int .i64 2) ∧ w = w' := by
  go_enter Tryz.func13, Tryz.ntmps13
  go_wp2
  go_ret
  exact ⟨rfl, rfl⟩
set_option maxHeartbeats 400000 in
theorem width_3 (w : World) : Calls Tryz.prog 13 #[.int .i64 3] w fun e w' => e = .returned (.int .i64 4) ∧ w = w' := by
  go_enter Tryz.func13, Tryz.ntmps13
  go_wp2
  go_ret
  exact ⟨rfl, rfl⟩
set_option maxHeartbeats 400000 in
theorem integer_0 (n : Int) (w : World) :
    Calls Tryz.prog 11 #[.int .u8 0, .int .i64 n] w fun e w' => e = .returned (.tuple #[.int .i64 1, .int .i64 (n % 256)]) ∧ w = w' := by
  go_enter Tryz.func11, Tryz.ntmps11
  go_wp2
  go_ret2
  exact ⟨rfl, rfl⟩
theorem tup2 {u v v' : Value} (h : v = v') : Ending.returned (.tuple #[u, v]) = .returned (.tuple #[u, v']) := by rw [h]
theorem wrap_i16 (n : Int) : wrap64 (IntKind.i16.wrap n) = IntKind.i16.wrap n := by
  unfold wrap64
  simp only [IntKind.wrap, IntKind.bits, IntKind.signed]
  simp
  omega
theorem wrap_i32 (n : Int) : wrap64 (wrap32 n) = wrap32 n := by
  unfold wrap64 wrap32
  omega
set_option maxHeartbeats 400000 in
theorem integer_1 (n : Int) (w : World) :
    Calls Tryz.prog 11 #[.int .u8 1, .int .i64 n] w fun e w' => e = .returned (.tuple #[.int .i64 2, .int .i64 (IntKind.i16.wrap n)]) ∧ w = w' := by
  go_enter Tryz.func11, Tryz.ntmps11
  go_wp2
  go_ret2
  exact ⟨tup2 (congrArg _ (wrap_i16 n)), rfl⟩
set_option maxHeartbeats 400000 in
theorem integer_2 (n : Int) (w : World) :
    Calls Tryz.prog 11 #[.int .u8 2, .int .i64 n] w fun e w' => e = .returned (.tuple #[.int .i64 3, .int .i64 (wrap32 n)]) ∧ w = w' := by
  go_enter Tryz.func11, Tryz.ntmps11
  go_wp2
  go_ret2
  exact ⟨tup2 (congrArg _ (wrap_i32 n)), rfl⟩
set_option maxHeartbeats 400000 in
theorem integer_3 (n : Int) (w : World) :
    Calls Tryz.prog 11 #[.int .u8 3, .int .i64 n] w fun e w' => e = .returned (.tuple #[.int .i64 4, .int .i64 n]) ∧ w = w' := by
  go_enter Tryz.func11, Tryz.ntmps11
  go_wp2
  go_ret2
  exact ⟨rfl, rfl⟩

def low (u : Int) (s : Nat) : List Int := (List.range s).map fun i => u / 2 ^ (8 * i) % 256

set_option maxHeartbeats 400000 in
theorem low_any (u : Int) (s : Nat) (w : World) (_h0 : 0 ≤ u) (_hu : u ≤ 18446744073709551615) (hs : s ≤ 8) :
    Calls Tryz.prog 12 #[.int .u64 u, .int .i64 s] w fun e w' => e = .returned (.slice (some ⟨w.heap.size, 0, none⟩) s s) ∧ Row w' w.heap.size 5 ((low u s).map (Value.int .u8)).toArray ∧ Below w.heap.size w w' := by
  have hmk := run_make_row' (P := Tryz.prog) 22 5 (.int .u8 0) 1 Tryz.underlying22 info5 rfl .i64 .i64 s (by omega) (by omega)
  go_enter Tryz.func12, Tryz.ntmps12
  go_wp2
  go_loopw [11] (fun i wr => ∃ k : Nat, k ≤ s ∧ i = .int .i64 k ∧ wr.rowIs w.heap.size 5 s (fun j => if j < k then .int .u8 (u / 2 ^ (8 * j) % 256) else .int .u8 0) ∧ Below w.heap.size w wr) (fun i _ => s - (intOf i).toNat)
  case atStart => exact ⟨0, Nat.zero_le _, rfl, by simpa using World.rowIs_made w (.int .u8 0) s 5, (Below.refl _ _).alloc (Nat.le_refl _) _⟩
  case round =>
    obtain ⟨k, hk, rfl, hrow, hbel⟩ := hrel
    by_cases hlt : k < s
    · have hc := hrow.cell hlt
      have hf := hrow.frozen k
      go_wp2
      go_roundw
      case rel =>
        refine ⟨k + 1, by omega, by go_num, (hrow.set k _).congr fun i hi => ?_, hbel.setCell (Nat.le_refl _) _⟩
        by_cases e : i = k
        · subst e; simp
        · simp only [if_neg e]
          by_cases e2 : i < k
          · rw [if_pos e2, if_pos (by omega)]
          · rw [if_neg e2, if_neg (by omega)]
      case measure => simp [intOf]; omega
    · obtain rfl : k = s := by omega
      go_wp2
      go_ret
      refine ⟨rfl, ?_, hbel⟩
      have h := Row.of_rowIs hrow
      refine (show _ = _ from h).trans ?_
      congr 3
      unfold low
      rw [List.map_map]
      refine List.map_congr_left fun i hi => ?_
      rw [if_pos (by simpa using hi)]
      rfl
theorem low_1 (u : Int) (w : World) (h0 : 0 ≤ u) (hu : u ≤ 18446744073709551615) :
    Calls Tryz.prog 12 #[.int .u64 u, .int .i64 1] w fun e w' => e = .returned (.slice (some ⟨w.heap.size, 0, none⟩) 1 1) ∧ Row w' w.heap.size 5 ((low u 1).map (Value.int .u8)).toArray ∧ Below w.heap.size w w' := low_any u 1 w h0 hu (by omega)
theorem low_2 (u : Int) (w : World) (h0 : 0 ≤ u) (hu : u ≤ 18446744073709551615) :
    Calls Tryz.prog 12 #[.int .u64 u, .int .i64 2] w fun e w' => e = .returned (.slice (some ⟨w.heap.size, 0, none⟩) 2 2) ∧ Row w' w.heap.size 5 ((low u 2).map (Value.int .u8)).toArray ∧ Below w.heap.size w w' := low_any u 2 w h0 hu (by omega)
theorem low_4 (u : Int) (w : World) (h0 : 0 ≤ u) (hu : u ≤ 18446744073709551615) :
    Calls Tryz.prog 12 #[.int .u64 u, .int .i64 4] w fun e w' => e = .returned (.slice (some ⟨w.heap.size, 0, none⟩) 4 4) ∧ Row w' w.heap.size 5 ((low u 4).map (Value.int .u8)).toArray ∧ Below w.heap.size w w' := low_any u 4 w h0 hu (by omega)
theorem low_8 (u : Int) (w : World) (h0 : 0 ≤ u) (hu : u ≤ 18446744073709551615) :
    Calls Tryz.prog 12 #[.int .u64 u, .int .i64 8] w fun e w' => e = .returned (.slice (some ⟨w.heap.size, 0, none⟩) 8 8) ∧ Row w' w.heap.size 5 ((low u 8).map (Value.int .u8)).toArray ∧ Below w.heap.size w w' := low_any u 8 w h0 hu (by omega)
theorem low_length (u : Int) (s : Nat) : (low u s).length = s := by simp [low]
end Go.Proofs.YtgiojjlmohhmkaaGreatDoor
