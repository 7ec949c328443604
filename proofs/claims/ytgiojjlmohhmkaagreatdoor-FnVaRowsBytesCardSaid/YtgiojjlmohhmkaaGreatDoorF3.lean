/-
  The walk of the law FnVaRowsOf.
-/
import Derived.Test.YtgiojjlmohhmkaaGreatDoorE2
import Derived.Test.YtgiojjlmohhmkaaGreatDoorF1
import Derived.Test.YtgiojjlmohhmkaaGreatDoorF2
import Derived.Test.YtgiojjlmohhmkaaGreatDoorF2B
import Derived.Maps.AppendAt
import Derived.Laws.AppendOwnNone
import Derived.Deep.RegionHeld3
import Derived.Deep.MidRow
namespace Go.Proofs.YtgiojjlmohhmkaaGreatDoor
open Go Go.RowKit

theorem info28 : (Tryz.prog.info? 28).map (fun i => (i.zero, i.size, i.bytes)) = some (some (.agg (colCells 0)), 8, 96) := by kernel_rfl

theorem own_pos {w : World} {base : Nat} {e : TypeId} {size : Nat} {v : Value} {n : Nat} {xs : List Value} (h : w.ownsRow base e size v n xs) (hn : 0 < n) : ∃ g cap cur, v = .slice (some ⟨g, 0, none⟩) n cap ∧ base ≤ g ∧ Row w g e cur ∧ n ≤ cap ∧ cap ≤ maxLen ∧ cur.size = cap * size ∧ cur.toList.take (n * size) = xs := by
  obtain ⟨m, rfl⟩ : ∃ m, n = m + 1 := ⟨n - 1, by omega⟩
  exact own_some h

/-- An append of nil, in a region that draws its order. -/
theorem step_append_own_none {P : Program} {ops : Array Oper} {o : Oper} {a : Act} {w : World} {K : Act → World → Prop} {Q : Exit → Act → World → Prop} {E : Prop} (hgd : o.guard = none) (s x : Operand) (t : TypeId)
    (ho : o.op = .call { callee := .builtin .append, args := #[s, x], argTypes := #[t, t] })
    (base : Nat) (e : TypeId) (i : TypeInfo) (size : Nat) (ht : P.underlying t = some (.slice e)) (hi : P.info? e = some i)
    (v : Value) (n : Nat) (xs : List Value) (hs : a.eval s = v) (hown : w.ownsRow base e size v n xs) (hx : a.eval x = .slice none 0 0)
    (h : K (a.put o.dst v) w) : if Region.wanted o (yielded ops a.tmps) = true then Oper.wp P o a w K Q else E := by
  have hw : Region.wanted o (yielded ops a.tmps) = true := by simp [Region.wanted, hgd]
  rw [if_pos hw]
  have hrun := run_append_owned_none (P := P) (w := w) base t o.type e i size ht hi v n xs hown
  unfold Oper.wp
  simp [execOp, ho, resolve, invoke, builtin, hs, hx, hrun, Result.andThen]
  exact h

/-- The cells of one value of a row of values. -/
theorem part_cells {w : World} {base g n cap m : Nat} {xs : List Value} {x : Sv} {b : Value} (h : w.ownsRow base 41 22 (.slice (some ⟨g, 0, none⟩) n cap) n xs) (hx : (xs.drop (m * 22)).take 22 = (x.cells b).toList) :
    ∀ j v, (x.cells b).toList[j]? = some v → w.cell? ⟨g, m * 22 + j, none⟩ = some v := by
  intro j v hv
  rw [← hx] at hv
  have hj : j < 22 := by
    have := (List.getElem?_eq_some_iff.1 hv).1
    simp at this
    omega
  rw [List.getElem?_take, if_pos hj, List.getElem?_drop] at hv
  have h2 := h.cells (g := g) rfl (m * 22 + j) v hv
  rwa [at_add] at h2

/-- The code of column j. -/
def codeAt (z : Nat → Int) (j : Nat) : Nat := codeOf (z j)

theorem rows_of (n1 cols : Nat) (hcp : 0 < cols) (hsm : cols ≤ n1) (g1 : n1 ≤ 2147483647) :
    ∃ rows : Nat, 0 < rows ∧ rows ≤ 12 ∧ rows * cols ≤ n1 ∧ ((wrap64 ((n1 : Int) / (cols : Int)) < 12 ∧ wrap64 ((n1 : Int) / (cols : Int)) = (rows : Int)) ∨ (12 ≤ wrap64 ((n1 : Int) / (cols : Int)) ∧ (12 : Int) = (rows : Int))) := by
  have hq1 : n1 / cols * cols ≤ n1 := Nat.div_mul_le_self _ _
  have hq2 : 0 < n1 / cols := Nat.div_pos hsm hcp
  have hq3 : n1 / cols ≤ n1 := Nat.div_le_self _ _
  have e : ((n1 : Int) / (cols : Int)) = ((n1 / cols : Nat) : Int) := by simp
  rw [e]
  generalize n1 / cols = q at hq1 hq2 hq3
  clear e
  have h3 : wrap64 (q : Int) = q := by unfold wrap64; omega
  rw [h3]
  by_cases h12 : q < 12
  · exact ⟨q, hq2, by omega, hq1, Or.inl ⟨by omega, rfl⟩⟩
  · exact ⟨12, by omega, by omega, Nat.le_trans (Nat.mul_le_mul_right _ (by omega)) hq1, Or.inr ⟨by omega, by omega⟩⟩

set_option maxRecDepth 100000 in
set_option maxHeartbeats 800000 in
theorem law_big {w : World} (A0 A1 A2 : Option Addr) (n0 n1 n2 c0 c1 c2 : Nat) (hbig : 2147483647 < n0 ∨ 2147483647 < n1 ∨ 2147483647 < n2) :
    Calls Tryz.prog 3 #[.slice A0 n0 c0, .slice A1 n1 c1, .slice A2 n2 c2] w fun e w' => e = .returned (.bool true) ∧ Below w.heap.size w w' := by
  have hd : (decide ((2147483647 : Int) < n0) || decide ((2147483647 : Int) < n1) || decide ((2147483647 : Int) < n2)) = true := by
    simp
    omega
  go_enter Tryz.func3, Tryz.ntmps3
  go_wp2_with fail
  all_goals first | (exfalso; omega) | (go_ret; exact ⟨rfl, Below.refl _ _⟩)

set_option maxRecDepth 100000 in
set_option maxHeartbeats 800000 in
theorem law_few {w : World} (A0 A1 A2 : Option Addr) (n0 n1 n2 c0 c1 c2 : Nat) (z : Nat → Int) (h0 : Ints w .u8 A0 n0 z) (hz : ∀ j, 0 ≤ z j ∧ z j ≤ 255) (g0 : n0 ≤ 2147483647) (g1 : n1 ≤ 2147483647) (g2 : n2 ≤ 2147483647) (hfew : n0 = 0 ∨ n1 < min n0 10) :
    Calls Tryz.prog 3 #[.slice A0 n0 c0, .slice A1 n1 c1, .slice A2 n2 c2] w fun e w' => e = .returned (.bool true) ∧ Below w.heap.size w w' := by
  have f0 : decide ((2147483647 : Int) < n0) = false := by simp; omega
  have f1 : decide ((2147483647 : Int) < n1) = false := by simp; omega
  have f2 : decide ((2147483647 : Int) < n2) = false := by simp; omega
  have HC := hide (codes_any A0 n0 c0 z w h0 hz (by omega))
  clear h0 hz
  go_enter Tryz.func3, Tryz.ntmps3
  go_wp2_with fail
  refine HC.out.mono ?_
  rintro e w1 ⟨v7, rfl, hown7, hbel1⟩
  clear f0 f1 f2
  obtain ⟨cols, hcols⟩ : ∃ cols, min n0 10 = cols := ⟨_, rfl⟩
  rw [hcols] at hown7 hfew
  rcases cols with _ | c'
  · rcases hown7.2 with ⟨rfl, _⟩ | ⟨g, cap, cur, rfl, _⟩
    · go_wp2_with fail
      go_ret
      exact ⟨rfl, hbel1⟩
    · go_wp2_with fail
      go_ret
      exact ⟨rfl, hbel1⟩
  · obtain ⟨g7, cap7, cur7, rfl, hg7, hrow7, hl7, hm7, hs7, ht7⟩ := own_some hown7
    have f4 : decide ((n1 : Int) < ((c' + 1 : Nat) : Int)) = true := by simp; omega
    go_wp2_with fail
    all_goals first | (exfalso; omega) | (go_ret; exact ⟨rfl, hbel1⟩)
end Go.Proofs.YtgiojjlmohhmkaaGreatDoor
