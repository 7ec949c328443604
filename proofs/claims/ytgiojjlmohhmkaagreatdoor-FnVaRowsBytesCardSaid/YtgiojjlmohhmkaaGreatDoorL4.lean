/-
  The law FnVaRowsBytes, called on whatever slices: it returns true, and nothing that was there has turned.
-/
import Derived.Test.YtgiojjlmohhmkaaGreatDoorL3A
import Derived.Test.YtgiojjlmohhmkaaGreatDoorL3B
import Derived.OpenShut
namespace Go.Proofs.YtgiojjlmohhmkaaGreatDoor
open Go Go.RowKit

/-- A slice of integers that came in: nil, or a row of cap cells, the numbers zs. -/
def SlIn (k : IntKind) (w : World) (a : Option Addr) (len cap : Nat) (zs : List Int) : Prop :=
  (a = none ∧ len = 0 ∧ cap = 0 ∧ zs = []) ∨
  ∃ x, a = some x ∧ len ≤ cap ∧ cap ≤ maxLen ∧ zs.length = cap ∧ (∀ i, i < zs.length → w.cell? (x.add i) = some (.int k (zs.getD i 0))) ∧ ∀ n ∈ zs, (Lit.int k n).wf = true

theorem getD_wf4 {k : IntKind} {zs : List Int} (h : ∀ n ∈ zs, (Lit.int k n).wf = true) (h0 : (Lit.int k 0).wf = true) (j : Nat) : (Lit.int k (zs.getD j 0)).wf = true := by
  by_cases hj : j < zs.length
  · have e : zs.getD j 0 = zs[j] := by simp [List.getD, hj]
    rw [e]
    exact h _ (List.getElem_mem hj)
  · have e : zs.getD j 0 = 0 := by simp [List.getD, hj]
    rw [e]
    exact h0
theorem SlIn.byte {w : World} {a : Option Addr} {len cap : Nat} {zs : List Int} (h : SlIn .u8 w a len cap zs) (j : Nat) : 0 ≤ zs.getD j 0 ∧ zs.getD j 0 ≤ 255 := by
  have hw : (Lit.int .u8 (zs.getD j 0)).wf = true := by
    rcases h with ⟨_, _, _, rfl⟩ | ⟨_, _, _, _, _, _, hw⟩
    · rfl
    · exact getD_wf4 hw (by decide) j
  have := Go.bounds_u8 hw
  omega
theorem SlIn.long {w : World} {a : Option Addr} {len cap : Nat} {zs : List Int} (h : SlIn .i64 w a len cap zs) (j : Nat) : -9223372036854775808 ≤ zs.getD j 0 ∧ zs.getD j 0 ≤ 9223372036854775807 := by
  have hw : (Lit.int .i64 (zs.getD j 0)).wf = true := by
    rcases h with ⟨_, _, _, rfl⟩ | ⟨_, _, _, _, _, _, hw⟩
    · rfl
    · exact getD_wf4 hw (by decide) j
  have := Go.bounds_i64 hw
  omega
theorem SlIn.ints {k : IntKind} {w : World} {a : Option Addr} {len cap : Nat} {zs : List Int} (h : SlIn k w a len cap zs) : Ints w k a len (fun j => zs.getD j 0) := by
  intro hn
  rcases h with ⟨_, h0, _, _⟩ | ⟨⟨b, o, spot⟩, ha, hl, _, hz, hc, _⟩
  · omega
  · have h1 := hc 0 (by omega)
    obtain rfl : spot = none := by simpa [Addr.add] using World.cell?_spot h1
    refine ⟨b, o, ha, World.block_lt_of_cell? w _ (by simpa [Addr.add] using h1), fun j hj => ?_⟩
    have h2 := hc j (by omega)
    rwa [Addr.add_mid] at h2

theorem law4_any {w : World} {a0 a1 : Option Addr} {l0 l1 c0 c1 : Nat} {z0 z1 : List Int} (w0 : SlIn .u8 w a0 l0 c0 z0) (w1 : SlIn .i64 w a1 l1 c1 z1) :
    Calls Tryz.prog 4 #[.slice a0 l0 c0, .slice a1 l1 c1] w fun e w' => e = .returned (.bool true) ∧ Below w.heap.size w w' := by
  by_cases hbig : 2147483647 < l0 ∨ 2147483647 < l1
  · exact law4_big a0 a1 l0 l1 c0 c1 hbig
  by_cases hfew : l0 = 0 ∨ l1 < min l0 10
  · exact law4_few a0 a1 l0 l1 c0 c1 (fun j => z0.getD j 0) w0.ints w0.byte (by omega) (by omega) hfew
  have hcp : 0 < min l0 10 := by omega
  have hsm : min l0 10 ≤ l1 := by omega
  by_cases h12 : wrap64 ((l1 : Int) / ((min l0 10 : Nat) : Int)) < 12
  · exact law4_lo a0 a1 l0 l1 c0 c1 _ _ _ w0.ints w0.byte w1.ints w1.long (by omega) (by omega) rfl hcp hsm h12
  · exact law4_hi a0 a1 l0 l1 c0 c1 _ _ _ w0.ints w0.byte w1.ints w1.long (by omega) (by omega) rfl hcp hsm (Int.not_lt.1 h12)
end Go.Proofs.YtgiojjlmohhmkaaGreatDoor
