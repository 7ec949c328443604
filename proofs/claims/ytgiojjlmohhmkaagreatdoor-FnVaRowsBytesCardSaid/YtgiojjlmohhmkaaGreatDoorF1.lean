/-
  The walk of vaSameVal: a value is the same as itself.
-/
import Derived.Test.YtgiojjlmohhmkaaGreatDoorE1
import Derived.Laws.BytesArg
namespace Go.Proofs.YtgiojjlmohhmkaaGreatDoor
open Go Go.RowKit

/-- The bytes of a slice, as a string. -/
theorem text_of {w : World} {base : Nat} {b : Value} {l : List Int} (h : w.ownsRow base 5 1 b l.length (l.map (Value.int .u8))) :
    (convert 22 9 b).run Tryz.prog w = .ok (.string (strOfNums l)) w := by
  rcases h.2 with ⟨rfl, hn⟩ | ⟨g, cap, cur, rfl, _, hg, hn, hc, hs, ht⟩
  · obtain rfl : l = [] := List.eq_nil_of_length_eq_zero hn
    exact run_convert_bytes_nil w 22 5 Tryz.underlying22 Tryz.underlying5 0 0 9 Tryz.underlying9
  · refine run_convert_bytes_arg w 22 5 Tryz.underlying22 Tryz.underlying5 g 0 l.length cap l rfl (fun i hi => ?_) 9 Tryz.underlying9
    have hcell := (show Row w g 5 cur from hg).cell (0 + i)
    rw [hcell, Nat.zero_add]
    have e : (cur.toList.take (l.length * 1))[i]? = (l.map (Value.int .u8))[i]? := by rw [ht]
    rw [List.getElem?_take, if_pos (by omega), Array.getElem?_toList] at e
    rw [e]
    simp [hi]

set_option maxRecDepth 100000 in
set_option maxHeartbeats 800000 in
theorem same_any (x : Sv) (hfl : FloatKind.f64.format.order x.fl x.fl = some Ordering.eq) {w : World} {base : Nat} {b1 b2 : Value} (h1 : w.ownsRow base 5 1 b1 x.txt.length (x.txt.map (Value.int .u8))) (h2 : w.ownsRow base 5 1 b2 x.txt.length (x.txt.map (Value.int .u8))) :
    Calls Tryz.prog 8 #[.agg (x.cells b1), .agg (x.cells b2)] w fun e w' => e = .returned (.bool true) ∧ Below w.heap.size w w' := by
  obtain ⟨a1, n1, c1, rfl⟩ := own_one h1
  obtain ⟨a2, n2, c2, rfl⟩ := own_one h2
  have T1 := text_of ((h1.alloc (.cells (x.cells (.slice a1 n1 c1)) 41)).alloc (.cells (x.cells (.slice a2 n2 c2)) 41))
  have T2 := text_of ((h2.alloc (.cells (x.cells (.slice a1 n1 c1)) 41)).alloc (.cells (x.cells (.slice a2 n2 c2)) 41))
  clear h1 h2
  simp only [Sv.cells, valCells] at T1 T2
  simp only [Sv.cells, valCells]
  go_enter Tryz.func8, Tryz.ntmps8
  go_wp2_with fail
  go_ret
  exact ⟨rfl, ((Below.refl _ _).alloc (Nat.le_refl _) _).alloc (by simp) _⟩

theorem order_of {x : Nat} (h : x % Ieee.Format.signWeight Ieee.double ≤ Ieee.Format.infRung Ieee.double) : Ieee.Format.order Ieee.double x x = some Ordering.eq := by
  unfold Ieee.Format.order Ieee.Format.read
  simp only []
  split
  · simp [Ieee.Datum.order]
  · split
    · simp [Ieee.Datum.order]
    · rw [if_pos (by omega)]
      simp [Ieee.Datum.order]
theorem flOf_order (n : Int) : FloatKind.f64.format.order (flOf n) (flOf n) = some Ordering.eq := by
  refine order_of ?_
  have hs : Ieee.Format.infRung Ieee.double < Ieee.Format.signWeight Ieee.double := by decide
  unfold flOf floatOfInt FloatKind.nearest FloatKind.encode Ieee.Format.write Ieee.Format.nearest
  simp only [FloatKind.format]
  have hw : ∀ (b : Bool) (r : Nat), r ≤ Ieee.Format.infRung Ieee.double → Ieee.double.word b r % Ieee.Format.signWeight Ieee.double ≤ Ieee.Format.infRung Ieee.double := by
    intro b r hr
    unfold Ieee.Format.word
    split
    · rw [Nat.add_mod_left, Nat.mod_eq_of_lt (by omega)]; exact hr
    · rw [Nat.mod_eq_of_lt (by omega)]; exact hr
  split
  · exact hw _ _ (by omega)
  · exact hw _ _ (by omega)
theorem svOf_order (c : Nat) (n : Int) : FloatKind.f64.format.order (svOf c n).fl (svOf c n).fl = some Ordering.eq := by
  have h0 : FloatKind.f64.format.order 0 0 = some Ordering.eq := by decide
  unfold svOf
  repeat (split; · first | exact h0 | exact flOf_order n)
  exact h0
end Go.Proofs.YtgiojjlmohhmkaaGreatDoor
