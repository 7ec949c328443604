/-
  The walks of a result field's decodeResult and of resizeSlice.
-/
import Derived.Test.YtgiojjlmohhmkaaGreatDoorD1
namespace Go.Proofs.YtgiojjlmohhmkaaGreatDoor
open Go Go.RowKit

/-- The cells of a field of results of the type code c. -/
def fieldCells (nm : Value) (c : Nat) : Array Value := #[nm, .int .u32 0, .int .u32 0, .int .u32 0, .int .u32 0, .int .i64 0, .int .i64 0, .int .i8 0, .int .u8 c]

set_option maxRecDepth 100000 in
set_option maxHeartbeats 800000 in
theorem field_any (c : Nat) (hc : CodeOk c) (n : Int) (h0 : -9223372036854775808 ≤ n) (h1 : n ≤ 9223372036854775807) {w : World} {d s r f : Nat} {nm : Value} {bs : List Int} {p : Nat} (h : Dec w d s r bs p) (hb : ∀ j, 0 ≤ bt bs j ∧ bt bs j ≤ 255) (hat : At bs p (told c n)) (hf : Row w f 98 (fieldCells nm c)) :
    Calls Tryz.prog 51 #[.pointer (some ⟨f, 0, none⟩), .pointer (some ⟨d, 0, none⟩), .nilIface, .int .i64 0] w fun e w' => ∃ v, e = .returned (.tuple #[v, .nilIface]) ∧ IsAny w' w.heap.size v (svOf c n) ∧
      Dec w' d s r bs (p + (told c n).length) ∧ Keeps (fun i => i = d ∨ i = s) w w' := by
  have f6 := hf.cell 6
  have f8 := hf.cell 8
  simp [fieldCells] at f6 f8
  have HR := hide (result_any c hc n h0 h1 (h.drew) hb hat)
  clear h hb hat hf hc h0 h1
  go_enter Tryz.func51, Tryz.ntmps51
  go_wp2_with fail
  go_region_with (go_at_call 103; refine HR.out.mono ?_; rintro e w1 ⟨v, rfl, ha1, hd1, hk1⟩)
  all_goals
    go_wp2
    go_ret2
    exact ⟨v, rfl, ha1, hd1, ((Keeps.refl _ _).drew).trans hk1⟩

theorem info20 : (Tryz.prog.info? 20).map (fun i => (i.zero, i.size, i.bytes)) = some (some .nilIface, 1, 16) := by kernel_rfl

set_option maxRecDepth 100000 in
set_option maxHeartbeats 800000 in
theorem resize_nil (n : Nat) (hn : n ≤ 120) (w : World) :
    Calls Tryz.prog 50 #[.slice none 0 0, .int .i64 n] w fun e w' => e = .returned (.slice (some ⟨w.heap.size, 0, none⟩) n n) ∧ Row w' w.heap.size 20 (madeCells #[.nilIface] n) ∧ Keeps (fun _ => False) w w' := by
  have hmk := run_make_row' (P := Tryz.prog) 67 20 .nilIface 16 Tryz.underlying67 info20 rfl .i64 .i64 n (by omega) (by omega)
  have hnil := fun W A k c => Lib.run_eql_slice_nil (P := Tryz.prog) W 67 20 A k c 0 0 Tryz.underlying67
  go_enter Tryz.func50, Tryz.ntmps50
  go_wp2
  go_ret
  exact ⟨rfl, Row.made _ _ _, (Keeps.refl _ _).alloc _⟩
end Go.Proofs.YtgiojjlmohhmkaaGreatDoor
