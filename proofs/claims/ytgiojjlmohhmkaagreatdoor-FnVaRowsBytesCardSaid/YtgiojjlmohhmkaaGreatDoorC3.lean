/-
  The walks of encoding/binary's little-endian readers.
-/
import Derived.Test.YtgiojjlmohhmkaaGreatDoorC2
import Derived.BigQuiet
import Derived.Deep.QuietTactic
import Derived.Lib.EndianBits
namespace Go.Proofs.YtgiojjlmohhmkaaGreatDoor
open Go Go.RowKit

theorem ret_int {k : IntKind} {a b : Int} (h : a = b) : Ending.returned (.int k a) = .returned (.int k b) := by rw [h]
/-- The whole number of bytes, the lowest first. -/
def le (x : Nat → Int) : Nat → Int
  | 0 => 0
  | k + 1 => le x k + x k * 256 ^ k

theorem or_u16 (x : Nat → Int) (h : ∀ j, 0 ≤ x j ∧ x j ≤ 255) : (bits .or .u16 (x 0) (x 1 * 256)) = le x 2 := by
  have h0 := h 0
  have h1 := h 1
  rw [show bits .or .u16 (x 0) (x 1 * 256) = x 0 + x 1 * 256 from u16_or8 _ _ (by omega) (by omega) (by omega) (by omega) (by omega)]
  simp only [le]
  omega

set_option maxRecDepth 100000 in
set_option maxHeartbeats 400000 in
theorem u16_any (w : World) (s : Nat) (x : Nat → Int) (h : ∀ j, 0 ≤ x j ∧ x j ≤ 255) (hc : ∀ j, j < 2 → w.cell? ⟨s, j, none⟩ = some (.int .u8 (x j))) :
    Calls Tryz.prog 212 #[.agg #[], .slice (some ⟨s, 0, none⟩) 2 4096] w fun e w' => e = .returned (.int .u16 (le x 2)) ∧ Keeps (fun _ => False) w w' := by
  have hs : s < w.heap.size := World.block_lt_of_cell? w _ (hc 0 (by omega))
  have HO := hide (or_u16 x h)
  obtain ⟨a0, b0⟩ := h 0
  have c0 := hc 0 (by omega)
  have k0 : ∀ o, (w.alloc o).cell? ⟨s, 0, none⟩ = some (.int .u8 (x 0)) := fun o => (World.cell?_alloc_lt w o _ hs).trans c0
  obtain ⟨a1, b1⟩ := h 1
  have c1 := hc 1 (by omega)
  have k1 : ∀ o, (w.alloc o).cell? ⟨s, 1, none⟩ = some (.int .u8 (x 1)) := fun o => (World.cell?_alloc_lt w o _ hs).trans c1
  clear h hc
  go_enter Tryz.func212, Tryz.ntmps212
  go_wp2
  go_quiet (fail)
  go_wp2
  go_ret
  exact ⟨ret_int HO.out, ⟨rfl, rfl, rfl, by simp, fun k hk _ => Below.heap_alloc _ _ _ hk⟩⟩

theorem or_u32 (x : Nat → Int) (h : ∀ j, 0 ≤ x j ∧ x j ≤ 255) : (bits .or .u32 (bits .or .u32 (bits .or .u32 (x 0) (x 1 * 256)) (x 2 * 65536)) (x 3 * 16777216)) = le x 4 := by
  have h0 := h 0
  have h1 := h 1
  have h2 := h 2
  have h3 := h 3
  rw [show bits .or .u32 (x 0) (x 1 * 256) = x 0 + x 1 * 256 from u32_or8 _ _ (by omega) (by omega) (by omega) (by omega) (by omega)]
  rw [show bits .or .u32 (x 0 + x 1 * 256) (x 2 * 65536) = x 0 + x 1 * 256 + x 2 * 65536 from u32_or16 _ _ (by omega) (by omega) (by omega) (by omega) (by omega)]
  rw [show bits .or .u32 (x 0 + x 1 * 256 + x 2 * 65536) (x 3 * 16777216) = x 0 + x 1 * 256 + x 2 * 65536 + x 3 * 16777216 from u32_or24 _ _ (by omega) (by omega) (by omega) (by omega) (by omega)]
  simp only [le]
  omega

set_option maxRecDepth 100000 in
set_option maxHeartbeats 400000 in
theorem u32_any (w : World) (s : Nat) (x : Nat → Int) (h : ∀ j, 0 ≤ x j ∧ x j ≤ 255) (hc : ∀ j, j < 4 → w.cell? ⟨s, j, none⟩ = some (.int .u8 (x j))) :
    Calls Tryz.prog 213 #[.agg #[], .slice (some ⟨s, 0, none⟩) 4 4096] w fun e w' => e = .returned (.int .u32 (le x 4)) ∧ Keeps (fun _ => False) w w' := by
  have hs : s < w.heap.size := World.block_lt_of_cell? w _ (hc 0 (by omega))
  have HO := hide (or_u32 x h)
  obtain ⟨a0, b0⟩ := h 0
  have c0 := hc 0 (by omega)
  have k0 : ∀ o, (w.alloc o).cell? ⟨s, 0, none⟩ = some (.int .u8 (x 0)) := fun o => (World.cell?_alloc_lt w o _ hs).trans c0
  obtain ⟨a1, b1⟩ := h 1
  have c1 := hc 1 (by omega)
  have k1 : ∀ o, (w.alloc o).cell? ⟨s, 1, none⟩ = some (.int .u8 (x 1)) := fun o => (World.cell?_alloc_lt w o _ hs).trans c1
  obtain ⟨a2, b2⟩ := h 2
  have c2 := hc 2 (by omega)
  have k2 : ∀ o, (w.alloc o).cell? ⟨s, 2, none⟩ = some (.int .u8 (x 2)) := fun o => (World.cell?_alloc_lt w o _ hs).trans c2
  obtain ⟨a3, b3⟩ := h 3
  have c3 := hc 3 (by omega)
  have k3 : ∀ o, (w.alloc o).cell? ⟨s, 3, none⟩ = some (.int .u8 (x 3)) := fun o => (World.cell?_alloc_lt w o _ hs).trans c3
  clear h hc
  go_enter Tryz.func213, Tryz.ntmps213
  go_wp2
  go_quiet (fail)
  go_wp2
  go_ret
  exact ⟨ret_int HO.out, ⟨rfl, rfl, rfl, by simp, fun k hk _ => Below.heap_alloc _ _ _ hk⟩⟩

theorem or_u64 (x : Nat → Int) (h : ∀ j, 0 ≤ x j ∧ x j ≤ 255) : (bits .or .u64 (bits .or .u64 (bits .or .u64 (bits .or .u64 (bits .or .u64 (bits .or .u64 (bits .or .u64 (x 0) (x 1 * 256)) (x 2 * 65536)) (x 3 * 16777216)) (x 4 * 4294967296)) (x 5 * 1099511627776)) (x 6 * 281474976710656)) (x 7 * 72057594037927936)) = le x 8 := by
  have h0 := h 0
  have h1 := h 1
  have h2 := h 2
  have h3 := h 3
  have h4 := h 4
  have h5 := h 5
  have h6 := h 6
  have h7 := h 7
  rw [show bits .or .u64 (x 0) (x 1 * 256) = x 0 + x 1 * 256 from u64_or8 _ _ (by omega) (by omega) (by omega) (by omega) (by omega)]
  rw [show bits .or .u64 (x 0 + x 1 * 256) (x 2 * 65536) = x 0 + x 1 * 256 + x 2 * 65536 from u64_or16 _ _ (by omega) (by omega) (by omega) (by omega) (by omega)]
  rw [show bits .or .u64 (x 0 + x 1 * 256 + x 2 * 65536) (x 3 * 16777216) = x 0 + x 1 * 256 + x 2 * 65536 + x 3 * 16777216 from u64_or24 _ _ (by omega) (by omega) (by omega) (by omega) (by omega)]
  rw [show bits .or .u64 (x 0 + x 1 * 256 + x 2 * 65536 + x 3 * 16777216) (x 4 * 4294967296) = x 0 + x 1 * 256 + x 2 * 65536 + x 3 * 16777216 + x 4 * 4294967296 from u64_or32 _ _ (by omega) (by omega) (by omega) (by omega) (by omega)]
  rw [show bits .or .u64 (x 0 + x 1 * 256 + x 2 * 65536 + x 3 * 16777216 + x 4 * 4294967296) (x 5 * 1099511627776) = x 0 + x 1 * 256 + x 2 * 65536 + x 3 * 16777216 + x 4 * 4294967296 + x 5 * 1099511627776 from u64_or40 _ _ (by omega) (by omega) (by omega) (by omega) (by omega)]
  rw [show bits .or .u64 (x 0 + x 1 * 256 + x 2 * 65536 + x 3 * 16777216 + x 4 * 4294967296 + x 5 * 1099511627776) (x 6 * 281474976710656) = x 0 + x 1 * 256 + x 2 * 65536 + x 3 * 16777216 + x 4 * 4294967296 + x 5 * 1099511627776 + x 6 * 281474976710656 from u64_or48 _ _ (by omega) (by omega) (by omega) (by omega) (by omega)]
  rw [show bits .or .u64 (x 0 + x 1 * 256 + x 2 * 65536 + x 3 * 16777216 + x 4 * 4294967296 + x 5 * 1099511627776 + x 6 * 281474976710656) (x 7 * 72057594037927936) = x 0 + x 1 * 256 + x 2 * 65536 + x 3 * 16777216 + x 4 * 4294967296 + x 5 * 1099511627776 + x 6 * 281474976710656 + x 7 * 72057594037927936 from u64_or56 _ _ (by omega) (by omega) (by omega) (by omega) (by omega)]
  simp only [le]
  omega

set_option maxRecDepth 100000 in
set_option maxHeartbeats 400000 in
theorem u64_any (w : World) (s : Nat) (x : Nat → Int) (h : ∀ j, 0 ≤ x j ∧ x j ≤ 255) (hc : ∀ j, j < 8 → w.cell? ⟨s, j, none⟩ = some (.int .u8 (x j))) :
    Calls Tryz.prog 214 #[.agg #[], .slice (some ⟨s, 0, none⟩) 8 4096] w fun e w' => e = .returned (.int .u64 (le x 8)) ∧ Keeps (fun _ => False) w w' := by
  have hs : s < w.heap.size := World.block_lt_of_cell? w _ (hc 0 (by omega))
  have HO := hide (or_u64 x h)
  obtain ⟨a0, b0⟩ := h 0
  have c0 := hc 0 (by omega)
  have k0 : ∀ o, (w.alloc o).cell? ⟨s, 0, none⟩ = some (.int .u8 (x 0)) := fun o => (World.cell?_alloc_lt w o _ hs).trans c0
  obtain ⟨a1, b1⟩ := h 1
  have c1 := hc 1 (by omega)
  have k1 : ∀ o, (w.alloc o).cell? ⟨s, 1, none⟩ = some (.int .u8 (x 1)) := fun o => (World.cell?_alloc_lt w o _ hs).trans c1
  obtain ⟨a2, b2⟩ := h 2
  have c2 := hc 2 (by omega)
  have k2 : ∀ o, (w.alloc o).cell? ⟨s, 2, none⟩ = some (.int .u8 (x 2)) := fun o => (World.cell?_alloc_lt w o _ hs).trans c2
  obtain ⟨a3, b3⟩ := h 3
  have c3 := hc 3 (by omega)
  have k3 : ∀ o, (w.alloc o).cell? ⟨s, 3, none⟩ = some (.int .u8 (x 3)) := fun o => (World.cell?_alloc_lt w o _ hs).trans c3
  obtain ⟨a4, b4⟩ := h 4
  have c4 := hc 4 (by omega)
  have k4 : ∀ o, (w.alloc o).cell? ⟨s, 4, none⟩ = some (.int .u8 (x 4)) := fun o => (World.cell?_alloc_lt w o _ hs).trans c4
  obtain ⟨a5, b5⟩ := h 5
  have c5 := hc 5 (by omega)
  have k5 : ∀ o, (w.alloc o).cell? ⟨s, 5, none⟩ = some (.int .u8 (x 5)) := fun o => (World.cell?_alloc_lt w o _ hs).trans c5
  obtain ⟨a6, b6⟩ := h 6
  have c6 := hc 6 (by omega)
  have k6 : ∀ o, (w.alloc o).cell? ⟨s, 6, none⟩ = some (.int .u8 (x 6)) := fun o => (World.cell?_alloc_lt w o _ hs).trans c6
  obtain ⟨a7, b7⟩ := h 7
  have c7 := hc 7 (by omega)
  have k7 : ∀ o, (w.alloc o).cell? ⟨s, 7, none⟩ = some (.int .u8 (x 7)) := fun o => (World.cell?_alloc_lt w o _ hs).trans c7
  clear h hc
  go_enter Tryz.func214, Tryz.ntmps214
  go_wp2
  go_quiet (fail)
  go_wp2
  go_ret
  exact ⟨ret_int HO.out, ⟨rfl, rfl, rfl, by simp, fun k hk _ => Below.heap_alloc _ _ _ hk⟩⟩
end Go.Proofs.YtgiojjlmohhmkaaGreatDoor
