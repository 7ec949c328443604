/-
  The walk of vaCodes.
-/
import Derived.Test.YtgiojjlmohhmkaaGreatDoorProg
import Derived.Test.YtgiojjlmohhmkaaGreatDoorA
namespace Go.Proofs.YtgiojjlmohhmkaaGreatDoor
open Go Go.RowKit

theorem info3 : (Tryz.prog.info? 3).map (fun i => (i.zero, i.size, i.bytes)) = some (some (.int .i64 0), 1, 8) := by kernel_rfl

/-- A slice that came in: n integers. -/
def Ints (w : World) (k : IntKind) (A : Option Addr) (n : Nat) (z : Nat → Int) : Prop :=
  0 < n → ∃ b o, A = some ⟨b, o, none⟩ ∧ b < w.heap.size ∧ ∀ j, j < n → w.cell? ⟨b, o + j, none⟩ = some (.int k (z j))

def codeOf (x : Int) : Nat := if x % 6 = 0 then 1 else if x % 6 = 1 then 2 else if x % 6 = 2 then 3 else if x % 6 = 3 then 4 else if x % 6 = 4 then 7 else 29

def codesL (z : Nat → Int) (n : Nat) : List Nat := (List.range (min n 10)).map fun j => codeOf (z j)
def codesTo (z : Nat → Int) (k : Nat) : List Value := (List.range k).map fun j => Value.int .i64 (codeOf (z j))

theorem codesTo_succ (z : Nat → Int) (k : Nat) : codesTo z (k + 1) = codesTo z k ++ [.int .i64 (codeOf (z k))] := by
  unfold codesTo
  rw [List.range_succ, List.map_append]
  rfl

theorem code_get (x : Int) (_h0 : 0 ≤ x) (h : (x % 6).toNat < 6) : ([Value.int .i64 1, Value.int .i64 2, Value.int .i64 3, Value.int .i64 4, Value.int .i64 7, Value.int .i64 29] : List Value)[(x % 6).toNat]'h = .int .i64 (codeOf x) := by
  have h6 : x % 6 = 0 ∨ x % 6 = 1 ∨ x % 6 = 2 ∨ x % 6 = 3 ∨ x % 6 = 4 ∨ x % 6 = 5 := by omega
  rcases h6 with e | e | e | e | e | e <;> simp [codeOf, e]

set_option maxRecDepth 100000 in
set_option maxHeartbeats 400000 in
theorem codes_any (A : Option Addr) (len cap : Nat) (z : Nat → Int) (w : World) (h : Ints w .u8 A len z) (hz : ∀ j, 0 ≤ z j ∧ z j ≤ 255) (hl : len ≤ 140737488351232) :
    Calls Tryz.prog 5 #[.slice A len cap] w fun e w' => ∃ v, e = .returned v ∧ w'.ownsRow w.heap.size 3 1 v (min len 10) (codesTo z (min len 10)) ∧ Below w.heap.size w w' := by
  obtain ⟨i0, hi, hz0, hz1, hz2⟩ := info_parts info3
  go_enter Tryz.func5, Tryz.ntmps5
  go_wp2
  go_loopw [3, 4] (fun v i wr => ∃ k : Nat, k ≤ len ∧ k ≤ 10 ∧ i = .int .i64 k ∧ wr.ownsRow w.heap.size 3 1 v k (codesTo z k) ∧ Below w.heap.size w wr) (fun _ i _ => 10 - (intOf i).toNat)
  case atStart => exact ⟨0, Nat.zero_le _, Nat.zero_le _, rfl, World.ownsRow_nil _ _ _ _, Below.refl _ _⟩
  case round =>
    obtain ⟨k, hk, hk10, rfl, hown, hbel⟩ := hrel
    by_cases hlt : k < len
    · obtain ⟨b, o, rfl, hb, hc⟩ := h (by omega)
      have hck := (hbel.cell (p := ⟨b, o + k, none⟩) hb).trans (hc k hlt)
      obtain ⟨hz1', hz2'⟩ := hz k
      have hbw : b < wr.heap.size := by have := hbel.size; omega
      have hca : ∀ x, (wr.alloc x).cell? ⟨b, o + k, none⟩ = some (.int .u8 (z k)) := fun x => (World.cell?_alloc_lt wr x _ hbw).trans hck
      clear hc
      by_cases hten : k < 10
      · have hget := code_get (z k) hz1'
        have hm1 : 0 ≤ z k % 6 := by omega
        have hm2 : z k % 6 < 6 := by omega
        go_wp2_with (at_builtin; refine wpList_append_own _ rfl (.tmp 15) (.tmp 25) 24 rfl w.heap.size 3 i0 (.int .i64 0) 1 8 Tryz.underlying24 hi hz0 hz1 hz2 rfl (by decide) _ _ _ rfl ((hown.alloc _).alloc _) ⟨wr.heap.size + 1, 0, none⟩ 1 1 [.int .i64 (codeOf (z k))] rfl rfl ?c1 ?c2 ?c3 ?c4 ?c5 ?_)
        case c1 => exact cells_new _ _ (by simp) _ _ _ rfl
        case c2 => intro u hu; simp at hu; subst hu; rfl
        case c3 => unfold maxLen; omega
        case c4 => omega
        case c5 => have := hbel.size; simp; omega
        intro v' w1 hown1 hg1 _
        have hb1 : Below w.heap.size w w1 := ((hbel.alloc hbel.size _).alloc (by have := hbel.size; simp; omega) _).grown hg1 (by have := hbel.size; simp; omega) (fun g hg => (hown.lt g hg).1)
        rw [← codesTo_succ] at hown1
        clear hg1 hown hbel hca hck hget
        go_wp2
        go_roundw
        case rel => exact ⟨k + 1, by omega, by omega, by go_num, hown1, hb1⟩
        case measure => simp [intOf]; omega
      · go_wp2
        go_ret
        exact ⟨_, rfl, by rw [show min len 10 = k from by omega]; exact hown, hbel⟩
    · go_wp2
      go_ret
      exact ⟨_, rfl, by rw [show min len 10 = k from by omega]; exact hown, hbel⟩
end Go.Proofs.YtgiojjlmohhmkaaGreatDoor
