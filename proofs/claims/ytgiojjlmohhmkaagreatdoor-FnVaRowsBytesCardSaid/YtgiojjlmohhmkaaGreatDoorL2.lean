/-
  The law FnVaRowsBytes: the early returns; the list of fields that the law lays.
-/
import Derived.Test.YtgiojjlmohhmkaaGreatDoorL1
namespace Go.Proofs.YtgiojjlmohhmkaaGreatDoor
open Go Go.RowKit

theorem info50 : (Tryz.prog.info? 50).map (fun i => (i.zero, i.size, i.bytes)) = some (some (.agg #[.int .i64 0, .int .i64 0, .int .i64 0, .int .i64 0, .int .i64 0, .int .i64 0, .string ⟨#[]⟩]), 7, 64) := by kernel_rfl

/-- k fields, one behind the other. -/
def fldsL (codes : Nat → Nat) : Nat → List Value
  | 0 => []
  | k + 1 => fldsL codes k ++ (fldCells (codes k)).toList
theorem fldsL_length (codes : Nat → Nat) (k : Nat) : (fldsL codes k).length = k * 7 := by
  induction k with
  | zero => rfl
  | succ k ih => rw [fldsL, List.length_append, ih]; simp [fldCells]; omega
theorem fldsL_get (codes : Nat → Nat) {k n j : Nat} {v : Value} (hk : k < n) (hv : (fldCells (codes k)).toList[j]? = some v) : (fldsL codes n)[k * 7 + j]? = some v := by
  have hj : j < 7 := by
    have := (List.getElem?_eq_some_iff.1 hv).1
    simpa [fldCells] using this
  induction n with
  | zero => omega
  | succ n ih =>
    rw [fldsL]
    by_cases e : k = n
    · subst e
      rw [List.getElem?_append_right (by rw [fldsL_length]; omega), fldsL_length, show k * 7 + j - k * 7 = j by omega]
      exact hv
    · rw [List.getElem?_append_left (by rw [fldsL_length]; omega)]
      exact ih (by omega)

set_option maxRecDepth 100000 in
set_option maxHeartbeats 800000 in
theorem law4_big {w : World} (A0 A1 : Option Addr) (n0 n1 c0 c1 : Nat) (hbig : 2147483647 < n0 ∨ 2147483647 < n1) :
    Calls Tryz.prog 4 #[.slice A0 n0 c0, .slice A1 n1 c1] w fun e w' => e = .returned (.bool true) ∧ Below w.heap.size w w' := by
  have hd : (decide ((2147483647 : Int) < n0) || decide ((2147483647 : Int) < n1)) = true := by
    simp
    omega
  go_enter Tryz.func4, Tryz.ntmps4
  go_wp2_with fail
  all_goals first | (exfalso; omega) | (go_ret; exact ⟨rfl, Below.refl _ _⟩)

set_option maxRecDepth 100000 in
set_option maxHeartbeats 800000 in
theorem law4_few {w : World} (A0 A1 : Option Addr) (n0 n1 c0 c1 : Nat) (z : Nat → Int) (h0 : Ints w .u8 A0 n0 z) (hz : ∀ j, 0 ≤ z j ∧ z j ≤ 255) (g0 : n0 ≤ 2147483647) (g1 : n1 ≤ 2147483647) (hfew : n0 = 0 ∨ n1 < min n0 10) :
    Calls Tryz.prog 4 #[.slice A0 n0 c0, .slice A1 n1 c1] w fun e w' => e = .returned (.bool true) ∧ Below w.heap.size w w' := by
  have f0 : decide ((2147483647 : Int) < n0) = false := by simp; omega
  have f1 : decide ((2147483647 : Int) < n1) = false := by simp; omega
  have HC := hide (codes_any A0 n0 c0 z w h0 hz (by omega))
  clear h0 hz
  go_enter Tryz.func4, Tryz.ntmps4
  go_wp2_with fail
  refine HC.out.mono ?_
  rintro e w1 ⟨v7, rfl, hown7, hbel1⟩
  clear f0 f1
  obtain ⟨cols, hcols⟩ : ∃ cols, min n0 10 = cols := ⟨_, rfl⟩
  rw [hcols] at hown7 hfew
  rcases cols with _ | c'
  · rcases hown7.2 with ⟨rfl, _⟩ | ⟨g, cap, cur, rfl, _⟩
    · go_wp2_with fail
      go_ret
      exact ⟨rfl, hbel1⟩
    · go_wp2_with fail
      go_ret
      exact ⟨rfl, hbel1⟩
  · obtain ⟨g7, cap7, cur7, rfl, hg7, hrow7, hl7, hm7, hs7, ht7⟩ := own_some hown7
    have f4 : decide ((n1 : Int) < ((c' + 1 : Nat) : Int)) = true := by simp; omega
    go_wp2_with fail
    all_goals first | (exfalso; omega) | (go_ret; exact ⟨rfl, hbel1⟩)
end Go.Proofs.YtgiojjlmohhmkaaGreatDoor
