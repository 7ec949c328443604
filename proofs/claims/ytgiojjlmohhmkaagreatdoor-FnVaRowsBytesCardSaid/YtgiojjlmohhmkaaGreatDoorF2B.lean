/-
  RowsOf called on what the law has laid.
-/
import Derived.Test.YtgiojjlmohhmkaaGreatDoorE2
import Derived.Test.YtgiojjlmohhmkaaGreatDoorF2
namespace Go.Proofs.YtgiojjlmohhmkaaGreatDoor
open Go Go.RowKit

/-- k columns, one behind the other. -/
def colsL (codes : Nat → Nat) : Nat → List Value
  | 0 => []
  | k + 1 => colsL codes k ++ (colCells (codes k)).toList

theorem colsL_length (codes : Nat → Nat) (k : Nat) : (colsL codes k).length = k * 8 := by
  induction k with
  | zero => rfl
  | succ k ih => rw [colsL, List.length_append, ih]; simp [colCells]; omega
theorem colsL_get (codes : Nat → Nat) {k n j : Nat} {v : Value} (hk : k < n) (hv : (colCells (codes k)).toList[j]? = some v) : (colsL codes n)[k * 8 + j]? = some v := by
  have hj : j < 8 := by
    have := (List.getElem?_eq_some_iff.1 hv).1
    simpa [colCells] using this
  induction n with
  | zero => omega
  | succ n ih =>
    rw [colsL]
    by_cases e : k = n
    · subst e
      rw [List.getElem?_append_right (by rw [colsL_length]; omega), colsL_length, show k * 8 + j - k * 8 = j by omega]
      exact hv
    · rw [List.getElem?_append_left (by rw [colsL_length]; omega)]
      exact ih (by omega)

theorem rows_call {wo w6 : World} {rows cols N m2 g8 cap8 g6 cap6 : Nat} {codes : Nat → Nat} {ns y : Nat → Int} {cur8 cur6 : Array Value} (hr0 : 0 < rows) (hr12 : rows ≤ 12) (hc0 : 0 < cols) (hc10 : cols ≤ 10) (hN : rows * cols = N) (hN120 : N ≤ 120) (hm20 : m2 ≤ 20)
    (hcodes : ∀ j, CodeOk (codes j)) (hns : ∀ k, -9223372036854775808 ≤ ns k ∧ ns k ≤ 9223372036854775807) (hy : ∀ j, 0 ≤ y j ∧ y j ≤ 255)
    (h8 : Row wo g8 28 cur8) (ht8 : cur8.toList.take (cols * 8) = colsL codes cols) (hk : Keeps (fun _ => False) wo w6)
    (h6 : Row w6 g6 5 cur6) (hl6 : pos codes ns cols N + m2 ≤ cap6) (ht6 : cur6.toList.take ((pos codes ns cols N + m2) * 1) = (allTold codes ns cols N).map (Value.int .u8) ++ (List.range m2).map fun j => Value.int .u8 (y j)) :
    Calls Tryz.prog 7 #[.slice (some ⟨g8, 0, none⟩) cols cap8, .slice (some ⟨g6, 0, none⟩) (pos codes ns cols N + m2) cap6, .int .i64 rows] w6 fun e w' => ∃ out xs, e = .returned (.tuple #[out, .slice none 0 0, .int .i64 (pos codes ns cols N), .int .i64 0]) ∧
      w'.ownsRow w6.heap.size 41 22 out N xs ∧ OutIs w' w6.heap.size (fun k => svOf (codes (k % cols)) (ns k)) N xs ∧ Below w6.heap.size w6 w' := by
  subst hN
  have hpl := pos_le codes ns cols (rows * cols)
  have hlen : (allTold codes ns cols (rows * cols) ++ (List.range m2).map y).length = pos codes ns cols (rows * cols) + m2 := by rw [List.length_append, allTold_length]; simp
  have hby : ByteL (allTold codes ns cols (rows * cols) ++ (List.range m2).map y) := (allTold_bytes _ _ _ _).append (fun x hx => by
    obtain ⟨j, _, rfl⟩ := List.mem_map.1 hx
    exact hy j)
  have h := rowsof_any rows cols hc0 hc10 hr0 hr12 codes hcodes ns hns (w := w6) (cb := g8) (cc := cap8) (r := g6) (rc := cap6) (bs := allTold codes ns cols (rows * cols) ++ (List.range m2).map y) (R := cur6) (CB := cur8) (h8.keeps hk id)
    (fun k hk' j v hv => by
      have h1 := colsL_get codes hk' hv
      rw [← ht8] at h1
      rw [List.getElem?_take] at h1
      split at h1
      · simpa using h1
      · cases h1)
    h6 (by rw [hlen, Nat.mul_one] at *; rw [ht6]; simp [Function.comp_def]) (by rw [hlen]; exact hl6) (by rw [hlen]; omega) hby.bt (fun k hk' => (allTold_at codes ns cols hk').append)
  rw [hlen] at h
  exact h
end Go.Proofs.YtgiojjlmohhmkaaGreatDoor
