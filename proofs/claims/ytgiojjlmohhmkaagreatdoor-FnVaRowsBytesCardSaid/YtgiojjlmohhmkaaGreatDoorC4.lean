/-
  The walks of the decoder's Bool, Int16, Int32, Int64, Uint64.
-/
import Derived.Test.YtgiojjlmohhmkaaGreatDoorC3
import Derived.Deep.RegionWith
namespace Go.Proofs.YtgiojjlmohhmkaaGreatDoor
open Go Go.RowKit

theorem Dec.keeps_none {w w' : World} {d s r : Nat} {bs : List Int} {p : Nat} (h : Dec w d s r bs p) (hk : Keeps (fun _ => False) w w') : Dec w' d s r bs p := h.keeps hk id id id
theorem Dec.drew {w : World} {d s r : Nat} {bs : List Int} {p : Nat} (h : Dec w d s r bs p) : Dec w.drew d s r bs p := h
theorem Keeps.none_trans {K : Nat → Prop} {w w1 w2 : World} (h : Keeps K w w1) (k : Keeps (fun _ => False) w1.drew w2) : Keeps K w w2 := h.drew.trans (k.mono (fun _ e => e.elim))

set_option maxRecDepth 100000 in
set_option maxHeartbeats 400000 in
theorem bool_yes {w : World} {d s r : Nat} {bs : List Int} {p : Nat} (h : Dec w d s r bs p) (hp : p < bs.length) (hb : bt bs p = 1) :
    Calls Tryz.prog 147 #[.pointer (some ⟨d, 0, none⟩)] w fun e w' => e = .returned (.bool true) ∧ Dec w' d s r bs (p + 1) ∧ Keeps (fun i => i = d ∨ i = s) w w' := by
  have H := byte_any h hp
  rw [hb] at H
  have HH := hide H
  clear H h hb
  go_enter Tryz.func147, Tryz.ntmps147
  go_wp2_with fail
  refine HH.out.mono ?_
  rintro e w1 ⟨rfl, hd1, hk1⟩
  go_wp2
  go_ret
  exact ⟨rfl, hd1, hk1⟩

set_option maxRecDepth 100000 in
set_option maxHeartbeats 400000 in
theorem int16_any {w : World} {d s r : Nat} {bs : List Int} {p : Nat} (h : Dec w d s r bs p) (hp : p + 2 ≤ bs.length) (hb : ∀ j, 0 ≤ bt bs j ∧ bt bs j ≤ 255) :
    Calls Tryz.prog 149 #[.pointer (some ⟨d, 0, none⟩)] w fun e w' => e = .returned (.int .i16 (IntKind.i16.wrap (le (fun j => bt bs (p + j)) 2))) ∧ Dec w' d s r bs (p + 2) ∧ Keeps (fun i => i = d ∨ i = s) w w' := by
  have c3 := h.facts
  have H := hide (scratch_read h 2 (by omega) (by omega))
  have HB := hide hb
  clear hb h
  go_enter Tryz.func149, Tryz.ntmps149
  go_wp2_with fail
  refine H.out.mono ?_
  rintro e w1 ⟨rfl, hd1, hc1, hk1⟩
  have d3 := hd1.facts
  have HC := hide hc1
  clear H hc1 c3
  go_wp2_with fail
  go_region_with (go_at_call 212; refine (u16_any _ s (fun j => bt bs (p + j)) (fun j => HB.out _) (by exact HC.out)).mono ?_; rintro e w2 ⟨rfl, hk2⟩)
  all_goals
    go_wp2
    go_ret
    exact ⟨rfl, hd1.drew.keeps_none hk2, hk1.none_trans hk2⟩

set_option maxRecDepth 100000 in
set_option maxHeartbeats 400000 in
theorem int32_any {w : World} {d s r : Nat} {bs : List Int} {p : Nat} (h : Dec w d s r bs p) (hp : p + 4 ≤ bs.length) (hb : ∀ j, 0 ≤ bt bs j ∧ bt bs j ≤ 255) :
    Calls Tryz.prog 150 #[.pointer (some ⟨d, 0, none⟩)] w fun e w' => e = .returned (.int .i32 (IntKind.i32.wrap (le (fun j => bt bs (p + j)) 4))) ∧ Dec w' d s r bs (p + 4) ∧ Keeps (fun i => i = d ∨ i = s) w w' := by
  have c3 := h.facts
  have H := hide (scratch_read h 4 (by omega) (by omega))
  have HB := hide hb
  clear hb h
  go_enter Tryz.func150, Tryz.ntmps150
  go_wp2_with fail
  refine H.out.mono ?_
  rintro e w1 ⟨rfl, hd1, hc1, hk1⟩
  have d3 := hd1.facts
  have HC := hide hc1
  clear H hc1 c3
  go_wp2_with fail
  go_region_with (go_at_call 213; refine (u32_any _ s (fun j => bt bs (p + j)) (fun j => HB.out _) (by exact HC.out)).mono ?_; rintro e w2 ⟨rfl, hk2⟩)
  all_goals
    go_wp2
    go_ret
    exact ⟨rfl, hd1.drew.keeps_none hk2, hk1.none_trans hk2⟩

set_option maxRecDepth 100000 in
set_option maxHeartbeats 400000 in
theorem int64_any {w : World} {d s r : Nat} {bs : List Int} {p : Nat} (h : Dec w d s r bs p) (hp : p + 8 ≤ bs.length) (hb : ∀ j, 0 ≤ bt bs j ∧ bt bs j ≤ 255) :
    Calls Tryz.prog 151 #[.pointer (some ⟨d, 0, none⟩)] w fun e w' => e = .returned (.int .i64 (IntKind.i64.wrap (le (fun j => bt bs (p + j)) 8))) ∧ Dec w' d s r bs (p + 8) ∧ Keeps (fun i => i = d ∨ i = s) w w' := by
  have c3 := h.facts
  have H := hide (scratch_read h 8 (by omega) (by omega))
  have HB := hide hb
  clear hb h
  go_enter Tryz.func151, Tryz.ntmps151
  go_wp2_with fail
  refine H.out.mono ?_
  rintro e w1 ⟨rfl, hd1, hc1, hk1⟩
  have d3 := hd1.facts
  have HC := hide hc1
  clear H hc1 c3
  go_wp2_with fail
  go_region_with (go_at_call 214; refine (u64_any _ s (fun j => bt bs (p + j)) (fun j => HB.out _) (by exact HC.out)).mono ?_; rintro e w2 ⟨rfl, hk2⟩)
  all_goals
    go_wp2
    go_ret
    exact ⟨rfl, hd1.drew.keeps_none hk2, hk1.none_trans hk2⟩

set_option maxRecDepth 100000 in
set_option maxHeartbeats 400000 in
theorem uint64_any {w : World} {d s r : Nat} {bs : List Int} {p : Nat} (h : Dec w d s r bs p) (hp : p + 8 ≤ bs.length) (hb : ∀ j, 0 ≤ bt bs j ∧ bt bs j ≤ 255) :
    Calls Tryz.prog 217 #[.pointer (some ⟨d, 0, none⟩)] w fun e w' => e = .returned (.int .u64 (le (fun j => bt bs (p + j)) 8)) ∧ Dec w' d s r bs (p + 8) ∧ Keeps (fun i => i = d ∨ i = s) w w' := by
  have c3 := h.facts
  have H := hide (scratch_read h 8 (by omega) (by omega))
  have HB := hide hb
  clear hb h
  go_enter Tryz.func217, Tryz.ntmps217
  go_wp2_with fail
  refine H.out.mono ?_
  rintro e w1 ⟨rfl, hd1, hc1, hk1⟩
  have d3 := hd1.facts
  have HC := hide hc1
  clear H hc1 c3
  go_wp2_with fail
  go_region_with (go_at_call 214; refine (u64_any _ s (fun j => bt bs (p + j)) (fun j => HB.out _) (by exact HC.out)).mono ?_; rintro e w2 ⟨rfl, hk2⟩)
  all_goals
    go_wp2
    go_ret
    exact ⟨rfl, hd1.drew.keeps_none hk2, hk1.none_trans hk2⟩
end Go.Proofs.YtgiojjlmohhmkaaGreatDoor
