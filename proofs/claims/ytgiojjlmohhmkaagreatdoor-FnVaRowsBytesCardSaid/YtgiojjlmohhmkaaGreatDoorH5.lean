/-
  The walks of a parameter field: how many bytes a value takes, and the bytes.
-/
import Derived.Test.YtgiojjlmohhmkaaGreatDoorH4
namespace Go.Proofs.YtgiojjlmohhmkaaGreatDoor
open Go Go.RowKit

/-- The cells of a field of parameters of the type code c, which goes in. -/
def pfCells (nm : Value) (c : Nat) : Array Value := #[nm, .int .i64 0, .int .i64 0, .int .i64 0, .int .i8 0, .int .u8 c, .int .i8 1]

set_option maxRecDepth 100000 in
set_option maxHeartbeats 400000 in
theorem enctc_1 (w : World) : Calls Tryz.prog 71 #[.int .u8 1] w fun e w' => e = .returned (.int .u8 1) ∧ w = w' := by
  go_enter Tryz.func71, Tryz.ntmps71
  go_wp2
  go_ret
  exact ⟨rfl, rfl⟩
set_option maxRecDepth 100000 in
set_option maxHeartbeats 400000 in
theorem prm_1 {w : World} {f : Nat} {nm : Value} (n : Int) (hf : Row w f 132 (pfCells nm 1)) :
    Calls Tryz.prog 41 #[.pointer (some ⟨f, 0, none⟩), .iface 2 (.int .i64 n)] w fun e w' => e = .returned (.int .i64 1) ∧ w = w' := by
  have f5 := hf.cell 5
  simp [pfCells] at f5
  clear hf
  go_enter Tryz.func41, Tryz.ntmps41
  go_wp2
  go_ret
  exact ⟨rfl, rfl⟩
set_option maxRecDepth 100000 in
set_option maxHeartbeats 800000 in
theorem encp_1 {w : World} {e W s B f : Nat} {nm : Value} {bs : List Int} (h : Enc w e W s B bs) (n : Int) (hf : Row w f 132 (pfCells nm 1)) (hfB : f < B) (hfW : f ≠ W) (hfs : f ≠ s) (hbd : bs.length + 9 ≤ 100000) :
    Calls Tryz.prog 42 #[.pointer (some ⟨f, 0, none⟩), .pointer (some ⟨e, 0, none⟩), .iface 2 (.int .i64 n)] w fun ee w' => ee = .returned .nilIface ∧ Enc w' e W s B (bs ++ (1 :: [n % 256])) ∧ Keeps (fun i => i = W ∨ i = s ∨ B ≤ i) w w' := by
  have HB := hide (enc_byte h 1 (by omega))
  have HF := hide hf
  have f5 := hf.cell 5
  simp [pfCells] at f5
  clear h hf
  go_enter Tryz.func42, Tryz.ntmps42
  go_wp2_with fail
  refine (enctc_1 w).mono ?_
  rintro ee w1 ⟨rfl, rfl⟩
  go_wp2_with fail
  refine HB.out.mono ?_
  rintro ee w1 ⟨rfl, h1, hk1⟩
  have g5 := (HF.out.keeps hk1 (by rintro (hh | hh | hh) <;> omega)).cell 5
  simp [pfCells] at g5
  have HK1 := hide hk1
  have HC := hide (enc_tiny h1 n (by simp; omega))
  clear f5 h1 hk1 HB
  go_wp2_with fail
  refine HC.out.mono ?_
  rintro ee w2 ⟨rfl, h2, hk2⟩
  go_wp2
  go_ret
  refine ⟨rfl, ?_, HK1.out.trans hk2⟩
  rw [List.append_assoc] at h2
  exact h2

set_option maxRecDepth 100000 in
set_option maxHeartbeats 400000 in
theorem enctc_2 (w : World) : Calls Tryz.prog 71 #[.int .u8 2] w fun e w' => e = .returned (.int .u8 2) ∧ w = w' := by
  go_enter Tryz.func71, Tryz.ntmps71
  go_wp2
  go_ret
  exact ⟨rfl, rfl⟩
set_option maxRecDepth 100000 in
set_option maxHeartbeats 400000 in
theorem prm_2 {w : World} {f : Nat} {nm : Value} (n : Int) (hf : Row w f 132 (pfCells nm 2)) :
    Calls Tryz.prog 41 #[.pointer (some ⟨f, 0, none⟩), .iface 2 (.int .i64 n)] w fun e w' => e = .returned (.int .i64 2) ∧ w = w' := by
  have f5 := hf.cell 5
  simp [pfCells] at f5
  clear hf
  go_enter Tryz.func41, Tryz.ntmps41
  go_wp2
  go_ret
  exact ⟨rfl, rfl⟩
set_option maxRecDepth 100000 in
set_option maxHeartbeats 800000 in
theorem encp_2 {w : World} {e W s B f : Nat} {nm : Value} {bs : List Int} (h : Enc w e W s B bs) (n : Int) (hf : Row w f 132 (pfCells nm 2)) (hfB : f < B) (hfW : f ≠ W) (hfs : f ≠ s) (hbd : bs.length + 9 ≤ 100000) :
    Calls Tryz.prog 42 #[.pointer (some ⟨f, 0, none⟩), .pointer (some ⟨e, 0, none⟩), .iface 2 (.int .i64 n)] w fun ee w' => ee = .returned .nilIface ∧ Enc w' e W s B (bs ++ (2 :: low (IntKind.i16.wrap n % 65536) 2)) ∧ Keeps (fun i => i = W ∨ i = s ∨ B ≤ i) w w' := by
  have HB := hide (enc_byte h 2 (by omega))
  have HF := hide hf
  have f5 := hf.cell 5
  simp [pfCells] at f5
  clear h hf
  go_enter Tryz.func42, Tryz.ntmps42
  go_wp2_with fail
  refine (enctc_2 w).mono ?_
  rintro ee w1 ⟨rfl, rfl⟩
  go_wp2_with fail
  refine HB.out.mono ?_
  rintro ee w1 ⟨rfl, h1, hk1⟩
  have g5 := (HF.out.keeps hk1 (by rintro (hh | hh | hh) <;> omega)).cell 5
  simp [pfCells] at g5
  have HK1 := hide hk1
  have HC := hide (enc_small h1 n (by simp; omega))
  clear f5 h1 hk1 HB
  go_wp2_with fail
  refine HC.out.mono ?_
  rintro ee w2 ⟨rfl, h2, hk2⟩
  go_wp2
  go_ret
  refine ⟨rfl, ?_, HK1.out.trans hk2⟩
  rw [List.append_assoc] at h2
  exact h2

set_option maxRecDepth 100000 in
set_option maxHeartbeats 400000 in
theorem enctc_3 (w : World) : Calls Tryz.prog 71 #[.int .u8 3] w fun e w' => e = .returned (.int .u8 3) ∧ w = w' := by
  go_enter Tryz.func71, Tryz.ntmps71
  go_wp2
  go_ret
  exact ⟨rfl, rfl⟩
set_option maxRecDepth 100000 in
set_option maxHeartbeats 400000 in
theorem prm_3 {w : World} {f : Nat} {nm : Value} (n : Int) (hf : Row w f 132 (pfCells nm 3)) :
    Calls Tryz.prog 41 #[.pointer (some ⟨f, 0, none⟩), .iface 2 (.int .i64 n)] w fun e w' => e = .returned (.int .i64 4) ∧ w = w' := by
  have f5 := hf.cell 5
  simp [pfCells] at f5
  clear hf
  go_enter Tryz.func41, Tryz.ntmps41
  go_wp2
  go_ret
  exact ⟨rfl, rfl⟩
set_option maxRecDepth 100000 in
set_option maxHeartbeats 800000 in
theorem encp_3 {w : World} {e W s B f : Nat} {nm : Value} {bs : List Int} (h : Enc w e W s B bs) (n : Int) (hf : Row w f 132 (pfCells nm 3)) (hfB : f < B) (hfW : f ≠ W) (hfs : f ≠ s) (hbd : bs.length + 9 ≤ 100000) :
    Calls Tryz.prog 42 #[.pointer (some ⟨f, 0, none⟩), .pointer (some ⟨e, 0, none⟩), .iface 2 (.int .i64 n)] w fun ee w' => ee = .returned .nilIface ∧ Enc w' e W s B (bs ++ (3 :: low (wrap32 n % 4294967296) 4)) ∧ Keeps (fun i => i = W ∨ i = s ∨ B ≤ i) w w' := by
  have HB := hide (enc_byte h 3 (by omega))
  have HF := hide hf
  have f5 := hf.cell 5
  simp [pfCells] at f5
  clear h hf
  go_enter Tryz.func42, Tryz.ntmps42
  go_wp2_with fail
  refine (enctc_3 w).mono ?_
  rintro ee w1 ⟨rfl, rfl⟩
  go_wp2_with fail
  refine HB.out.mono ?_
  rintro ee w1 ⟨rfl, h1, hk1⟩
  have g5 := (HF.out.keeps hk1 (by rintro (hh | hh | hh) <;> omega)).cell 5
  simp [pfCells] at g5
  have HK1 := hide hk1
  have HC := hide (enc_integer h1 n (by simp; omega))
  clear f5 h1 hk1 HB
  go_wp2_with fail
  refine HC.out.mono ?_
  rintro ee w2 ⟨rfl, h2, hk2⟩
  go_wp2
  go_ret
  refine ⟨rfl, ?_, HK1.out.trans hk2⟩
  rw [List.append_assoc] at h2
  exact h2

set_option maxRecDepth 100000 in
set_option maxHeartbeats 400000 in
theorem enctc_4 (w : World) : Calls Tryz.prog 71 #[.int .u8 4] w fun e w' => e = .returned (.int .u8 4) ∧ w = w' := by
  go_enter Tryz.func71, Tryz.ntmps71
  go_wp2
  go_ret
  exact ⟨rfl, rfl⟩
set_option maxRecDepth 100000 in
set_option maxHeartbeats 400000 in
theorem prm_4 {w : World} {f : Nat} {nm : Value} (n : Int) (hf : Row w f 132 (pfCells nm 4)) :
    Calls Tryz.prog 41 #[.pointer (some ⟨f, 0, none⟩), .iface 2 (.int .i64 n)] w fun e w' => e = .returned (.int .i64 8) ∧ w = w' := by
  have f5 := hf.cell 5
  simp [pfCells] at f5
  clear hf
  go_enter Tryz.func41, Tryz.ntmps41
  go_wp2
  go_ret
  exact ⟨rfl, rfl⟩
set_option maxRecDepth 100000 in
set_option maxHeartbeats 800000 in
theorem encp_4 {w : World} {e W s B f : Nat} {nm : Value} {bs : List Int} (h : Enc w e W s B bs) (n : Int) (hf : Row w f 132 (pfCells nm 4)) (hfB : f < B) (hfW : f ≠ W) (hfs : f ≠ s) (hbd : bs.length + 9 ≤ 100000) :
    Calls Tryz.prog 42 #[.pointer (some ⟨f, 0, none⟩), .pointer (some ⟨e, 0, none⟩), .iface 2 (.int .i64 n)] w fun ee w' => ee = .returned .nilIface ∧ Enc w' e W s B (bs ++ (4 :: low (IntKind.u64.wrap n) 8)) ∧ Keeps (fun i => i = W ∨ i = s ∨ B ≤ i) w w' := by
  have HB := hide (enc_byte h 4 (by omega))
  have HF := hide hf
  have f5 := hf.cell 5
  simp [pfCells] at f5
  clear h hf
  go_enter Tryz.func42, Tryz.ntmps42
  go_wp2_with fail
  refine (enctc_4 w).mono ?_
  rintro ee w1 ⟨rfl, rfl⟩
  go_wp2_with fail
  refine HB.out.mono ?_
  rintro ee w1 ⟨rfl, h1, hk1⟩
  have g5 := (HF.out.keeps hk1 (by rintro (hh | hh | hh) <;> omega)).cell 5
  simp [pfCells] at g5
  have HK1 := hide hk1
  have HC := hide (enc_bigint h1 n (by simp; omega))
  clear f5 h1 hk1 HB
  go_wp2_with fail
  refine HC.out.mono ?_
  rintro ee w2 ⟨rfl, h2, hk2⟩
  go_wp2
  go_ret
  refine ⟨rfl, ?_, HK1.out.trans hk2⟩
  rw [List.append_assoc] at h2
  exact h2

set_option maxRecDepth 100000 in
set_option maxHeartbeats 400000 in
theorem enctc_7 (w : World) : Calls Tryz.prog 71 #[.int .u8 7] w fun e w' => e = .returned (.int .u8 7) ∧ w = w' := by
  go_enter Tryz.func71, Tryz.ntmps71
  go_wp2
  go_ret
  exact ⟨rfl, rfl⟩
set_option maxRecDepth 100000 in
set_option maxHeartbeats 400000 in
theorem prm_7 {w : World} {f : Nat} {nm : Value} (n : Nat) (hf : Row w f 132 (pfCells nm 7)) :
    Calls Tryz.prog 41 #[.pointer (some ⟨f, 0, none⟩), .iface 30 (.float .f64 n)] w fun e w' => e = .returned (.int .i64 8) ∧ w = w' := by
  have f5 := hf.cell 5
  simp [pfCells] at f5
  clear hf
  go_enter Tryz.func41, Tryz.ntmps41
  go_wp2
  go_ret
  exact ⟨rfl, rfl⟩
set_option maxRecDepth 100000 in
set_option maxHeartbeats 800000 in
theorem encp_7 {w : World} {e W s B f : Nat} {nm : Value} {bs : List Int} (h : Enc w e W s B bs) (n : Nat) (hn : n < 18446744073709551616) (hf : Row w f 132 (pfCells nm 7)) (hfB : f < B) (hfW : f ≠ W) (hfs : f ≠ s) (hbd : bs.length + 9 ≤ 100000) :
    Calls Tryz.prog 42 #[.pointer (some ⟨f, 0, none⟩), .pointer (some ⟨e, 0, none⟩), .iface 30 (.float .f64 n)] w fun ee w' => ee = .returned .nilIface ∧ Enc w' e W s B (bs ++ (7 :: low n 8)) ∧ Keeps (fun i => i = W ∨ i = s ∨ B ≤ i) w w' := by
  have HB := hide (enc_byte h 7 (by omega))
  have HF := hide hf
  have f5 := hf.cell 5
  simp [pfCells] at f5
  clear h hf
  go_enter Tryz.func42, Tryz.ntmps42
  go_wp2_with fail
  refine (enctc_7 w).mono ?_
  rintro ee w1 ⟨rfl, rfl⟩
  go_wp2_with fail
  refine HB.out.mono ?_
  rintro ee w1 ⟨rfl, h1, hk1⟩
  have g5 := (HF.out.keeps hk1 (by rintro (hh | hh | hh) <;> omega)).cell 5
  simp [pfCells] at g5
  have HK1 := hide hk1
  have HC := hide (enc_double h1 n hn (by simp; omega))
  clear f5 h1 hk1 HB
  go_wp2_with fail
  refine HC.out.mono ?_
  rintro ee w2 ⟨rfl, h2, hk2⟩
  go_wp2
  go_ret
  refine ⟨rfl, ?_, HK1.out.trans hk2⟩
  rw [List.append_assoc] at h2
  exact h2

set_option maxRecDepth 100000 in
set_option maxHeartbeats 400000 in
theorem enctc_29 (w : World) : Calls Tryz.prog 71 #[.int .u8 29] w fun e w' => e = .returned (.int .u8 29) ∧ w = w' := by
  go_enter Tryz.func71, Tryz.ntmps71
  go_wp2
  go_ret
  exact ⟨rfl, rfl⟩
set_option maxRecDepth 100000 in
set_option maxHeartbeats 400000 in
theorem prm_29 {w : World} {f : Nat} {nm : Value} (l : List Int) {g c : Nat} (hl : l.length < 7) (hf : Row w f 132 (pfCells nm 29)) :
    Calls Tryz.prog 41 #[.pointer (some ⟨f, 0, none⟩), .iface 22 (.slice (some ⟨g, 0, none⟩) l.length c)] w fun e w' => e = .returned (.int .i64 ((l.length : Int) + 1)) ∧ w = w' := by
  have f5 := hf.cell 5
  simp [pfCells] at f5
  have t22 := ta_22_22
  have h1 : (l.length : Int) ≤ 245 := by omega
  clear hf
  go_enter Tryz.func41, Tryz.ntmps41
  go_wp2
  go_ret
  exact ⟨rfl, rfl⟩
set_option maxRecDepth 100000 in
set_option maxHeartbeats 800000 in
theorem encp_29 {w : World} {e W s B f : Nat} {nm : Value} {bs : List Int} (h : Enc w e W s B bs) (l : List Int) {g c : Nat} (hl : l.length < 7) (hg : Lies w g l) (hgW : g ≠ W) (hgs : g ≠ s) (hgB : g < B) (hf : Row w f 132 (pfCells nm 29)) (hfB : f < B) (hfW : f ≠ W) (hfs : f ≠ s) (hbd : bs.length + 9 ≤ 100000) :
    Calls Tryz.prog 42 #[.pointer (some ⟨f, 0, none⟩), .pointer (some ⟨e, 0, none⟩), .iface 22 (.slice (some ⟨g, 0, none⟩) l.length c)] w fun ee w' => ee = .returned .nilIface ∧ Enc w' e W s B (bs ++ (29 :: ((l.length : Int) :: l))) ∧ Keeps (fun i => i = W ∨ i = s ∨ B ≤ i) w w' := by
  have HB := hide (enc_byte h 29 (by omega))
  have HF := hide hf
  have HG := hide hg
  clear hg
  have f5 := hf.cell 5
  simp [pfCells] at f5
  clear h hf
  go_enter Tryz.func42, Tryz.ntmps42
  go_wp2_with fail
  refine (enctc_29 w).mono ?_
  rintro ee w1 ⟨rfl, rfl⟩
  go_wp2_with fail
  refine HB.out.mono ?_
  rintro ee w1 ⟨rfl, h1, hk1⟩
  have g5 := (HF.out.keeps hk1 (by rintro (hh | hh | hh) <;> omega)).cell 5
  simp [pfCells] at g5
  have HK1 := hide hk1
  have HC := hide (enc_var h1 l (c := c) hl (HG.out.keeps hk1 (by rintro (hh | hh | hh) <;> omega)) hgW hgs hgB (by simp; omega))
  clear f5 h1 hk1 HB
  go_wp2_with fail
  refine HC.out.mono ?_
  rintro ee w2 ⟨rfl, h2, hk2⟩
  go_wp2
  go_ret
  refine ⟨rfl, ?_, HK1.out.trans hk2⟩
  rw [List.append_assoc] at h2
  exact h2
end Go.Proofs.YtgiojjlmohhmkaaGreatDoor
