/-
  The walks of decoder, NewDecoder, ZzResultField, near.
-/
import Derived.Test.YtgiojjlmohhmkaaGreatDoorD4
namespace Go.Proofs.YtgiojjlmohhmkaaGreatDoor
open Go Go.RowKit

set_option maxRecDepth 100000 in
set_option maxHeartbeats 400000 in
theorem near_nought (w : World) : Calls Tryz.prog 16 #[.int .i64 0] w fun e w' => e = .returned (.bool true) ∧ w = w' := by
  go_enter Tryz.func16, Tryz.ntmps16
  go_wp2
  go_ret
  exact ⟨rfl, rfl⟩

set_option maxRecDepth 100000 in
set_option maxHeartbeats 400000 in
theorem resultfield_any (c : Nat) (w : World) :
    Calls Tryz.prog 17 #[.int .u8 c, .int .i64 0] w fun e w' => ∃ g nm, e = .returned (.pointer (some ⟨g, 0, none⟩)) ∧ w.heap.size ≤ g ∧ Row w' g 98 (fieldCells nm c) ∧ Keeps (fun _ => False) w w' := by
  go_enter Tryz.func17, Tryz.ntmps17
  go_wp2
  go_ret
  refine ⟨w.heap.size + 1, .pointer (some ⟨w.heap.size, 0, none⟩), rfl, by omega, ?_, ((Keeps.refl _ _).alloc _).alloc _⟩
  have h := Row.made (w.alloc (.cells #[.slice none 0 0] 92)) 98 (fieldCells (.pointer (some ⟨w.heap.size, 0, none⟩)) c)
  rw [World.size_alloc] at h
  exact h

theorem make_bytes (n : Nat) (hn : n ≤ 4096) : ∃ M : List Value, M.length = n ∧ ∀ w : World, (Instr.makeSlice 22 (.int .i64 (n : Int)) (.int .i64 (n : Int))).run Tryz.prog w = .ok (.slice (some ⟨w.heap.size, 0, none⟩) n n) (w.alloc (.cells M.toArray 5)) := by
  refine ⟨(madeCells #[.int .u8 0] n).toList, by rw [Array.length_toList, size_madeCells], fun w => ?_⟩
  rw [Array.toArray_toList]
  exact run_make_row' (P := Tryz.prog) 22 5 (.int .u8 0) 1 Tryz.underlying22 info5 rfl .i64 .i64 n (by omega) (by omega) w
theorem make4096 : ∃ M : List Value, M.length = 4096 ∧ ∀ w : World, (Instr.makeSlice 22 (.int .i64 4096) (.int .i64 4096)).run Tryz.prog w = .ok (.slice (some ⟨w.heap.size, 0, none⟩) 4096 4096) (w.alloc (.cells M.toArray 5)) :=
  make_bytes 4096 (Nat.le_refl _)

set_option maxRecDepth 100000 in
set_option maxHeartbeats 400000 in
theorem decoder_any (r rc : Nat) (bs : List Int) (R : Array Value) (w : World) (hr : Row w r 5 R) (ht : R.toList.take bs.length = bs.map (Value.int .u8)) (h1 : bs.length ≤ rc) (h2 : bs.length ≤ 140737488351232) :
    Calls Tryz.prog 18 #[.slice (some ⟨r, 0, none⟩) bs.length rc, .bool false, .bool false] w fun e w' => ∃ d s, e = .returned (.pointer (some ⟨d, 0, none⟩)) ∧ w.heap.size ≤ d ∧ w.heap.size ≤ s ∧ Dec w' d s r bs 0 ∧ Keeps (fun _ => False) w w' := by
  obtain ⟨M, hM, hmk⟩ := make4096
  have HM := hide hM
  clear hM
  have HT := hide ht
  clear ht
  go_enter Tryz.func18, Tryz.ntmps18
  go_wp2
  go_end0
  go_wp2
  go_ret
  have hlt := hr.lt
  refine ⟨w.heap.size + 1 + 1, w.heap.size + 1, rfl, by omega, by omega, ⟨rc, .iface 143 (.pointer (some ⟨w.heap.size, 0, none⟩)), M, R, ?_, ?_, ?_, ((hr.alloc _).alloc _).alloc _, HT.out, by omega, h1, h2⟩, (((Keeps.refl _ _).alloc _).alloc _).alloc _⟩
  · have h := Row.made ((w.alloc (.cells #[.nilFunc] 241)).alloc (.cells M.toArray 5)) 121 (decCells (.slice (some ⟨r, 0, none⟩) bs.length rc) 0 (.slice (some ⟨w.heap.size + 1, 0, none⟩) 4096 4096) (.iface 143 (.pointer (some ⟨w.heap.size, 0, none⟩))) 0)
    rw [World.size_alloc, World.size_alloc] at h
    exact h
  · have h := (Row.made (w.alloc (.cells #[.nilFunc] 241)) 5 M.toArray)
    rw [World.size_alloc] at h
    exact h.alloc _
  · exact HM.out
end Go.Proofs.YtgiojjlmohhmkaaGreatDoor
