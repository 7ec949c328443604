/-
  The walks of decodeResult at the type codes of integers, floats and texts.
-/
import Derived.Test.YtgiojjlmohhmkaaGreatDoorC5
namespace Go.Proofs.YtgiojjlmohhmkaaGreatDoor
open Go Go.RowKit

set_option maxRecDepth 100000 in
set_option maxHeartbeats 800000 in
theorem result_1 {w : World} {d s r : Nat} {bs : List Int} {p : Nat} (v : Int) (h : Dec w d s r bs p) (hp : p + 1 + 1 ≤ bs.length) (hb : ∀ j, 0 ≤ bt bs j ∧ bt bs j ≤ 255) (hone : bt bs p = 1) (hv : bt bs (p + 1) = v) (h0 : 0 ≤ v) (h1 : v ≤ 255) :
    Calls Tryz.prog 103 #[.int .u8 1, .pointer (some ⟨d, 0, none⟩), .nilIface, .int .i64 0, .int .i64 0] w fun e w' => e = .returned (.tuple #[.iface 2 (.int .i64 v), .nilIface]) ∧ Dec w' d s r bs (p + 1 + 1) ∧ Keeps (fun i => i = d ∨ i = s) w w' := by
  have HB := hide (bool_yes h (by omega) hone)
  have HV := hide hv
  have HR := hide hb
  clear h hone hv hb
  go_enter Tryz.func103, Tryz.ntmps103
  go_wp2_with fail
  refine HB.out.mono ?_
  rintro e w1 ⟨rfl, hd1, hk1⟩
  go_wp2_with fail
  have HN := byte_any hd1 (by omega)
  rw [HV.out] at HN
  refine HN.mono ?_
  rintro e w2 ⟨rfl, hd2, hk2⟩
  clear HB HN hd1
  go_wp2
  go_ret2
  exact ⟨rfl, hd2, hk1.trans hk2⟩

set_option maxRecDepth 100000 in
set_option maxHeartbeats 800000 in
theorem result_2 {w : World} {d s r : Nat} {bs : List Int} {p : Nat} (v : Int) (h : Dec w d s r bs p) (hp : p + 1 + 2 ≤ bs.length) (hb : ∀ j, 0 ≤ bt bs j ∧ bt bs j ≤ 255) (hone : bt bs p = 1) (hv : IntKind.i16.wrap (le (fun j => bt bs (p + 1 + j)) 2) = v) (h0 : -32768 ≤ v) (h1 : v ≤ 32767) :
    Calls Tryz.prog 103 #[.int .u8 2, .pointer (some ⟨d, 0, none⟩), .nilIface, .int .i64 0, .int .i64 0] w fun e w' => e = .returned (.tuple #[.iface 2 (.int .i64 v), .nilIface]) ∧ Dec w' d s r bs (p + 1 + 2) ∧ Keeps (fun i => i = d ∨ i = s) w w' := by
  have HB := hide (bool_yes h (by omega) hone)
  have HV := hide hv
  have HR := hide hb
  clear h hone hv hb
  go_enter Tryz.func103, Tryz.ntmps103
  go_wp2_with fail
  refine HB.out.mono ?_
  rintro e w1 ⟨rfl, hd1, hk1⟩
  go_wp2_with fail
  have HN := int16_any hd1 (by omega) HR.out
  rw [HV.out] at HN
  refine HN.mono ?_
  rintro e w2 ⟨rfl, hd2, hk2⟩
  clear HB HN hd1
  go_wp2
  go_ret2
  exact ⟨rfl, hd2, hk1.trans hk2⟩

set_option maxRecDepth 100000 in
set_option maxHeartbeats 800000 in
theorem result_3 {w : World} {d s r : Nat} {bs : List Int} {p : Nat} (v : Int) (h : Dec w d s r bs p) (hp : p + 1 + 4 ≤ bs.length) (hb : ∀ j, 0 ≤ bt bs j ∧ bt bs j ≤ 255) (hone : bt bs p = 1) (hv : IntKind.i32.wrap (le (fun j => bt bs (p + 1 + j)) 4) = v) (h0 : -2147483648 ≤ v) (h1 : v ≤ 2147483647) :
    Calls Tryz.prog 103 #[.int .u8 3, .pointer (some ⟨d, 0, none⟩), .nilIface, .int .i64 0, .int .i64 0] w fun e w' => e = .returned (.tuple #[.iface 2 (.int .i64 v), .nilIface]) ∧ Dec w' d s r bs (p + 1 + 4) ∧ Keeps (fun i => i = d ∨ i = s) w w' := by
  have HB := hide (bool_yes h (by omega) hone)
  have HV := hide hv
  have HR := hide hb
  clear h hone hv hb
  go_enter Tryz.func103, Tryz.ntmps103
  go_wp2_with fail
  refine HB.out.mono ?_
  rintro e w1 ⟨rfl, hd1, hk1⟩
  go_wp2_with fail
  have HN := int32_any hd1 (by omega) HR.out
  rw [HV.out] at HN
  refine HN.mono ?_
  rintro e w2 ⟨rfl, hd2, hk2⟩
  clear HB HN hd1
  go_wp2
  go_ret2
  exact ⟨rfl, hd2, hk1.trans hk2⟩

set_option maxRecDepth 100000 in
set_option maxHeartbeats 800000 in
theorem result_4 {w : World} {d s r : Nat} {bs : List Int} {p : Nat} (v : Int) (h : Dec w d s r bs p) (hp : p + 1 + 8 ≤ bs.length) (hb : ∀ j, 0 ≤ bt bs j ∧ bt bs j ≤ 255) (hone : bt bs p = 1) (hv : IntKind.i64.wrap (le (fun j => bt bs (p + 1 + j)) 8) = v) :
    Calls Tryz.prog 103 #[.int .u8 4, .pointer (some ⟨d, 0, none⟩), .nilIface, .int .i64 0, .int .i64 0] w fun e w' => e = .returned (.tuple #[.iface 2 (.int .i64 v), .nilIface]) ∧ Dec w' d s r bs (p + 1 + 8) ∧ Keeps (fun i => i = d ∨ i = s) w w' := by
  have HB := hide (bool_yes h (by omega) hone)
  have HV := hide hv
  have HR := hide hb
  clear h hone hv hb
  go_enter Tryz.func103, Tryz.ntmps103
  go_wp2_with fail
  refine HB.out.mono ?_
  rintro e w1 ⟨rfl, hd1, hk1⟩
  go_wp2_with fail
  have HN := int64_any hd1 (by omega) HR.out
  rw [HV.out] at HN
  refine HN.mono ?_
  rintro e w2 ⟨rfl, hd2, hk2⟩
  clear HB HN hd1
  go_wp2
  go_ret2
  exact ⟨rfl, hd2, hk1.trans hk2⟩

set_option maxRecDepth 100000 in
set_option maxHeartbeats 800000 in
theorem result_7 {w : World} {d s r : Nat} {bs : List Int} {p : Nat} (v : Int) (h : Dec w d s r bs p) (hp : p + 8 ≤ bs.length) (hb : ∀ j, 0 ≤ bt bs j ∧ bt bs j ≤ 255) (hv : le (fun j => bt bs (p + j)) 8 = v) (hne : (v == 18446744073709551615) = false) :
    Calls Tryz.prog 103 #[.int .u8 7, .pointer (some ⟨d, 0, none⟩), .nilIface, .int .i64 0, .int .i64 0] w fun e w' => e = .returned (.tuple #[.iface 30 (.float .f64 v.toNat), .nilIface]) ∧ Dec w' d s r bs (p + 8) ∧ Keeps (fun i => i = d ∨ i = s) w w' := by
  have HB := hide (double_any v h hp hb hv hne)
  clear h hv hb hne
  go_enter Tryz.func103, Tryz.ntmps103
  go_wp2_with fail
  refine HB.out.mono ?_
  rintro e w1 ⟨rfl, hd1, hk1⟩
  clear HB
  go_wp2
  go_ret2
  exact ⟨rfl, hd1, hk1⟩

set_option maxRecDepth 100000 in
set_option maxHeartbeats 800000 in
theorem result_29 {w : World} {d s r : Nat} {bs : List Int} {p : Nat} (n : Nat) (h : Dec w d s r bs p) (hp : p + 1 + n ≤ bs.length) (hb : bt bs p = n) (hn : n < 7) :
    Calls Tryz.prog 103 #[.int .u8 29, .pointer (some ⟨d, 0, none⟩), .nilIface, .int .i64 0, .int .i64 0] w fun e w' => ∃ g, e = .returned (.tuple #[.iface 22 (.slice (some ⟨g, 0, none⟩) n n), .nilIface]) ∧ w.heap.size ≤ g ∧
      Row w' g 5 (((bs.drop (p + 1)).take n).map (Value.int .u8)).toArray ∧ Dec w' d s r bs (p + 1 + n) ∧ Keeps (fun i => i = d ∨ i = s) w w' := by
  have HB := hide (varfield_any n h hp hb hn)
  clear h hb
  go_enter Tryz.func103, Tryz.ntmps103
  go_wp2_with fail
  refine HB.out.mono ?_
  rintro e w1 ⟨g, rfl, hg, hr1, hd1, hk1⟩
  clear HB
  go_wp2
  go_ret2
  exact ⟨g, rfl, hg, hr1, hd1, hk1⟩
end Go.Proofs.YtgiojjlmohhmkaaGreatDoor
