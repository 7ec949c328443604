/-
  The law FnVaRowsOf, called on whatever slices: it returns true, and nothing that was there has turned.
-/
import Derived.Test.YtgiojjlmohhmkaaGreatDoorF3A
import Derived.Test.YtgiojjlmohhmkaaGreatDoorF3B
import Derived.Test.YtgiojjlmohhmkaaGreatDoorF3C
import Derived.Test.YtgiojjlmohhmkaaGreatDoorF3D
import Derived.OpenShut
namespace Go.Proofs.YtgiojjlmohhmkaaGreatDoor
open Go Go.RowKit

/-- A slice of integers that came in: nil, or a row of cap cells, the numbers zs. -/
def IsRow (k : IntKind) (w : World) (a : Option Addr) (len cap : Nat) (zs : List Int) : Prop :=
  (a = none ∧ len = 0 ∧ cap = 0 ∧ zs = []) ∨
  ∃ x, a = some x ∧ len ≤ cap ∧ cap ≤ maxLen ∧ zs.length = cap ∧ (∀ i, i < zs.length → w.cell? (x.add i) = some (.int k (zs.getD i 0))) ∧ ∀ n ∈ zs, (Lit.int k n).wf = true

theorem getD_wf {k : IntKind} {zs : List Int} (h : ∀ n ∈ zs, (Lit.int k n).wf = true) (h0 : (Lit.int k 0).wf = true) (j : Nat) : (Lit.int k (zs.getD j 0)).wf = true := by
  by_cases hj : j < zs.length
  · have e : zs.getD j 0 = zs[j] := by simp [List.getD, hj]
    rw [e]
    exact h _ (List.getElem_mem hj)
  · have e : zs.getD j 0 = 0 := by simp [List.getD, hj]
    rw [e]
    exact h0
theorem IsRow.byte {w : World} {a : Option Addr} {len cap : Nat} {zs : List Int} (h : IsRow .u8 w a len cap zs) (j : Nat) : 0 ≤ zs.getD j 0 ∧ zs.getD j 0 ≤ 255 := by
  have hw : (Lit.int .u8 (zs.getD j 0)).wf = true := by
    rcases h with ⟨_, _, _, rfl⟩ | ⟨_, _, _, _, _, _, hw⟩
    · rfl
    · exact getD_wf hw (by decide) j
  have := Go.bounds_u8 hw
  omega
theorem IsRow.long {w : World} {a : Option Addr} {len cap : Nat} {zs : List Int} (h : IsRow .i64 w a len cap zs) (j : Nat) : -9223372036854775808 ≤ zs.getD j 0 ∧ zs.getD j 0 ≤ 9223372036854775807 := by
  have hw : (Lit.int .i64 (zs.getD j 0)).wf = true := by
    rcases h with ⟨_, _, _, rfl⟩ | ⟨_, _, _, _, _, _, hw⟩
    · rfl
    · exact getD_wf hw (by decide) j
  have := Go.bounds_i64 hw
  omega
theorem IsRow.ints {k : IntKind} {w : World} {a : Option Addr} {len cap : Nat} {zs : List Int} (h : IsRow k w a len cap zs) : Ints w k a len (fun j => zs.getD j 0) := by
  intro hn
  rcases h with ⟨_, h0, _, _⟩ | ⟨⟨b, o, spot⟩, ha, hl, _, hz, hc, _⟩
  · omega
  · have h1 := hc 0 (by omega)
    obtain rfl : spot = none := by simpa [Addr.add] using World.cell?_spot h1
    refine ⟨b, o, ha, World.block_lt_of_cell? w _ (by simpa [Addr.add] using h1), fun j hj => ?_⟩
    have h2 := hc j (by omega)
    rwa [Addr.add_mid] at h2

theorem law_any {w : World} {a0 a1 a2 : Option Addr} {l0 l1 l2 c0 c1 c2 : Nat} {z0 z1 z2 : List Int} (w0 : IsRow .u8 w a0 l0 c0 z0) (w1 : IsRow .i64 w a1 l1 c1 z1) (w2 : IsRow .u8 w a2 l2 c2 z2) :
    Calls Tryz.prog 3 #[.slice a0 l0 c0, .slice a1 l1 c1, .slice a2 l2 c2] w fun e w' => e = .returned (.bool true) ∧ Below w.heap.size w w' := by
  by_cases hbig : 2147483647 < l0 ∨ 2147483647 < l1 ∨ 2147483647 < l2
  · exact law_big a0 a1 a2 l0 l1 l2 c0 c1 c2 hbig
  by_cases hfew : l0 = 0 ∨ l1 < min l0 10
  · exact law_few a0 a1 a2 l0 l1 l2 c0 c1 c2 (fun j => z0.getD j 0) w0.ints w0.byte (by omega) (by omega) (by omega) hfew
  have hcp : 0 < min l0 10 := by omega
  have hsm : min l0 10 ≤ l1 := by omega
  by_cases h12 : wrap64 ((l1 : Int) / ((min l0 10 : Nat) : Int)) < 12
  · rcases w2 with ⟨rfl, rfl, rfl, _⟩ | ⟨ad, rfl, hl, hm, hz, hc, hw⟩
    · exact law_lo_nil a0 a1 l0 l1 c0 c1 _ _ _ w0.ints w0.byte w1.ints w1.long (by omega) (by omega) rfl hcp hsm h12
    · exact law_lo_some a0 a1 ad l0 l1 l2 c0 c1 c2 _ _ _ (fun j => z2.getD j 0) w0.ints w0.byte w1.ints w1.long (fun j hj => hc j (by omega)) (IsRow.byte (Or.inr ⟨ad, rfl, hl, hm, hz, hc, hw⟩)) (by omega) (by omega) (by omega) hl rfl hcp hsm h12
  · have h12' := Int.not_lt.1 h12
    rcases w2 with ⟨rfl, rfl, rfl, _⟩ | ⟨ad, rfl, hl, hm, hz, hc, hw⟩
    · exact law_hi_nil a0 a1 l0 l1 c0 c1 _ _ _ w0.ints w0.byte w1.ints w1.long (by omega) (by omega) rfl hcp hsm h12'
    · exact law_hi_some a0 a1 ad l0 l1 l2 c0 c1 c2 _ _ _ (fun j => z2.getD j 0) w0.ints w0.byte w1.ints w1.long (fun j hj => hc j (by omega)) (IsRow.byte (Or.inr ⟨ad, rfl, hl, hm, hz, hc, hw⟩)) (by omega) (by omega) (by omega) hl rfl hcp hsm h12'
end Go.Proofs.YtgiojjlmohhmkaaGreatDoor
