/-
  The walks of the encoder's field methods at integers, floats and bytes.
-/
import Derived.Test.YtgiojjlmohhmkaaGreatDoorH3
namespace Go.Proofs.YtgiojjlmohhmkaaGreatDoor
open Go Go.RowKit

set_option maxRecDepth 100000 in
set_option maxHeartbeats 400000 in
theorem asint_8 (n : Int) (w : World) : Calls Tryz.prog 117 #[.iface 2 (.int .i64 n)] w fun e w' => e = .returned (.int .u8 (n % 256)) ∧ w = w' := by
  have t2 := ta_2_2
  go_enter Tryz.func117, Tryz.ntmps117
  go_wp2
  go_ret
  exact ⟨rfl, rfl⟩
set_option maxRecDepth 100000 in
set_option maxHeartbeats 400000 in
theorem asint_16 (n : Int) (w : World) : Calls Tryz.prog 119 #[.iface 2 (.int .i64 n)] w fun e w' => e = .returned (.int .i16 (IntKind.i16.wrap n)) ∧ w = w' := by
  have t2 := ta_2_2
  go_enter Tryz.func119, Tryz.ntmps119
  go_wp2
  go_ret
  exact ⟨rfl, rfl⟩
set_option maxRecDepth 100000 in
set_option maxHeartbeats 400000 in
theorem asint_32 (n : Int) (w : World) : Calls Tryz.prog 120 #[.iface 2 (.int .i64 n)] w fun e w' => e = .returned (.int .i32 (wrap32 n)) ∧ w = w' := by
  have t2 := ta_2_2
  go_enter Tryz.func120, Tryz.ntmps120
  go_wp2
  go_ret
  exact ⟨rfl, rfl⟩
set_option maxRecDepth 100000 in
set_option maxHeartbeats 400000 in
theorem asint_64 (n : Int) (w : World) : Calls Tryz.prog 122 #[.iface 2 (.int .i64 n)] w fun e w' => e = .returned (.int .i64 n) ∧ w = w' := by
  have t2 := ta_2_2
  go_enter Tryz.func122, Tryz.ntmps122
  go_wp2
  go_ret
  exact ⟨rfl, rfl⟩

set_option maxRecDepth 100000 in
set_option maxHeartbeats 400000 in
theorem enc_tiny {w : World} {e W s B : Nat} {bs : List Int} (h : Enc w e W s B bs) (n : Int) (hbd : bs.length + 1 ≤ 100000) :
    Calls Tryz.prog 75 #[.pointer (some ⟨e, 0, none⟩), .iface 2 (.int .i64 n)] w fun ee w' => ee = .returned .nilIface ∧ Enc w' e W s B (bs ++ [n % 256]) ∧ Keeps (fun i => i = W ∨ i = s ∨ B ≤ i) w w' := by
  have H := hide h
  clear h
  go_enter Tryz.func75, Tryz.ntmps75
  go_wp2_with fail
  refine (asint_8 n w).mono ?_
  rintro ee w1 ⟨rfl, rfl⟩
  go_wp2_with fail
  refine (enc_byte H.out (n % 256) hbd).mono ?_
  rintro ee w1 ⟨rfl, h1, hk1⟩
  go_wp2
  go_ret
  exact ⟨rfl, h1, hk1⟩
set_option maxRecDepth 100000 in
set_option maxHeartbeats 400000 in
theorem enc_small {w : World} {e W s B : Nat} {bs : List Int} (h : Enc w e W s B bs) (n : Int) (hbd : bs.length + 2 ≤ 100000) :
    Calls Tryz.prog 76 #[.pointer (some ⟨e, 0, none⟩), .iface 2 (.int .i64 n)] w fun ee w' => ee = .returned .nilIface ∧ Enc w' e W s B (bs ++ low (IntKind.i16.wrap n % 65536) 2) ∧ Keeps (fun i => i = W ∨ i = s ∨ B ≤ i) w w' := by
  have H := hide h
  clear h
  go_enter Tryz.func76, Tryz.ntmps76
  go_wp2_with fail
  refine (asint_16 n w).mono ?_
  rintro ee w1 ⟨rfl, rfl⟩
  go_wp2_with fail
  refine (enc_int16 H.out (IntKind.i16.wrap n) hbd).mono ?_
  rintro ee w1 ⟨rfl, h1, hk1⟩
  go_wp2
  go_ret
  exact ⟨rfl, h1, hk1⟩
set_option maxRecDepth 100000 in
set_option maxHeartbeats 400000 in
theorem enc_integer {w : World} {e W s B : Nat} {bs : List Int} (h : Enc w e W s B bs) (n : Int) (hbd : bs.length + 4 ≤ 100000) :
    Calls Tryz.prog 77 #[.pointer (some ⟨e, 0, none⟩), .iface 2 (.int .i64 n)] w fun ee w' => ee = .returned .nilIface ∧ Enc w' e W s B (bs ++ low (wrap32 n % 4294967296) 4) ∧ Keeps (fun i => i = W ∨ i = s ∨ B ≤ i) w w' := by
  have H := hide h
  clear h
  go_enter Tryz.func77, Tryz.ntmps77
  go_wp2_with fail
  refine (asint_32 n w).mono ?_
  rintro ee w1 ⟨rfl, rfl⟩
  go_wp2_with fail
  refine (enc_int32 H.out (wrap32 n) hbd).mono ?_
  rintro ee w1 ⟨rfl, h1, hk1⟩
  go_wp2
  go_ret
  exact ⟨rfl, h1, hk1⟩
set_option maxRecDepth 100000 in
set_option maxHeartbeats 400000 in
theorem enc_bigint {w : World} {e W s B : Nat} {bs : List Int} (h : Enc w e W s B bs) (n : Int) (hbd : bs.length + 8 ≤ 100000) :
    Calls Tryz.prog 78 #[.pointer (some ⟨e, 0, none⟩), .iface 2 (.int .i64 n)] w fun ee w' => ee = .returned .nilIface ∧ Enc w' e W s B (bs ++ low (IntKind.u64.wrap n) 8) ∧ Keeps (fun i => i = W ∨ i = s ∨ B ≤ i) w w' := by
  have H := hide h
  clear h
  go_enter Tryz.func78, Tryz.ntmps78
  go_wp2_with fail
  refine (asint_64 n w).mono ?_
  rintro ee w1 ⟨rfl, rfl⟩
  go_wp2_with fail
  refine (enc_int64 H.out n hbd).mono ?_
  rintro ee w1 ⟨rfl, h1, hk1⟩
  go_wp2
  go_ret
  exact ⟨rfl, h1, hk1⟩
set_option maxRecDepth 100000 in
set_option maxHeartbeats 400000 in
theorem enc_double {w : World} {e W s B : Nat} {bs : List Int} (h : Enc w e W s B bs) (n : Nat) (hn : n < 18446744073709551616) (hbd : bs.length + 8 ≤ 100000) :
    Calls Tryz.prog 80 #[.pointer (some ⟨e, 0, none⟩), .iface 30 (.float .f64 n)] w fun ee w' => ee = .returned .nilIface ∧ Enc w' e W s B (bs ++ low n 8) ∧ Keeps (fun i => i = W ∨ i = s ∨ B ≤ i) w w' := by
  have HC := hide (enc_float64 h n hn hbd)
  have t30 := ta_30_30
  clear h hn
  go_enter Tryz.func80, Tryz.ntmps80
  go_wp2_with fail
  refine HC.out.mono ?_
  rintro ee w1 ⟨rfl, h1, hk1⟩
  go_wp2
  go_ret
  exact ⟨rfl, h1, hk1⟩

set_option maxRecDepth 100000 in
set_option maxHeartbeats 400000 in
theorem enc_ind {w : World} {e W s B : Nat} {bs : List Int} (h : Enc w e W s B bs) (n : Nat) (hn : n < 7) (hbd : bs.length + 1 ≤ 100000) :
    Calls Tryz.prog 206 #[.pointer (some ⟨e, 0, none⟩), .int .i64 n] w fun ee w' => ee = .returned .nilIface ∧ Enc w' e W s B (bs ++ [(n : Int)]) ∧ Keeps (fun i => i = W ∨ i = s ∨ B ≤ i) w w' := by
  have HC := hide (enc_byte h (n : Int) hbd)
  have h1 : (n : Int) ≤ 245 := by omega
  have h2 : (n : Int) % 256 = n := by omega
  clear h
  go_enter Tryz.func206, Tryz.ntmps206
  go_wp2_with fail
  refine HC.out.mono ?_
  rintro ee w1 ⟨rfl, h1, hk1⟩
  go_wp2
  go_ret
  exact ⟨rfl, h1, hk1⟩

/-- A text that lies in a block below B, apart from the encoder's own. -/
def Lies (w : World) (g : Nat) (l : List Int) : Prop := ∃ cur, Row w g 5 cur ∧ cur.toList.take l.length = l.map (Value.int .u8)
theorem Lies.keeps {K : Nat → Prop} {w w' : World} {g : Nat} {l : List Int} (h : Lies w g l) (hk : Keeps K w w') (hg : ¬ K g) : Lies w' g l := by
  obtain ⟨cur, h1, h2⟩ := h
  exact ⟨cur, h1.keeps hk hg, h2⟩
theorem Lies.cells {w : World} {g : Nat} {l : List Int} (h : Lies w g l) : ∀ j u, (l.map (Value.int .u8))[j]? = some u → w.cell? ((⟨g, 0, none⟩ : Addr).add j) = some u := by
  obtain ⟨cur, h1, h2⟩ := h
  intro j u hu
  rw [← h2] at hu
  rw [at_add, h1.cell]
  rw [List.getElem?_take] at hu
  split at hu
  · simpa using hu
  · cases hu

set_option maxRecDepth 100000 in
set_option maxHeartbeats 400000 in
theorem enc_li {w : World} {e W s B : Nat} {bs : List Int} (h : Enc w e W s B bs) (l : List Int) {g c : Nat} (hl : l.length < 7) (hg : Lies w g l) (hgW : g ≠ W) (hgs : g ≠ s) (hgB : g < B) (hbd : bs.length + 8 ≤ 100000) :
    Calls Tryz.prog 137 #[.pointer (some ⟨e, 0, none⟩), .slice (some ⟨g, 0, none⟩) l.length c] w fun ee w' => ee = .returned .nilIface ∧ Enc w' e W s B (bs ++ ((l.length : Int) :: l)) ∧ Keeps (fun i => i = W ∨ i = s ∨ B ≤ i) w w' := by
  have HC := hide (enc_ind h l.length hl (by omega))
  have HG := hide hg
  clear h hg
  go_enter Tryz.func137, Tryz.ntmps137
  go_wp2_with fail
  refine HC.out.mono ?_
  rintro ee w1 ⟨rfl, h1, hk1⟩
  have hg1 := HG.out.keeps hk1 (by rintro (hh | hh | hh) <;> omega)
  have HC2 := hide (enc_bytes h1 l (c := c) rfl hg1.cells (by simp; omega))
  clear h1 hg1 HC
  go_wp2_with fail
  refine HC2.out.mono ?_
  rintro ee w2 ⟨rfl, h2, hk2⟩
  go_wp2
  go_ret
  refine ⟨rfl, ?_, hk1.trans hk2⟩
  rw [List.append_assoc] at h2
  exact h2
set_option maxRecDepth 100000 in
set_option maxHeartbeats 400000 in
theorem enc_var {w : World} {e W s B : Nat} {bs : List Int} (h : Enc w e W s B bs) (l : List Int) {g c : Nat} (hl : l.length < 7) (hg : Lies w g l) (hgW : g ≠ W) (hgs : g ≠ s) (hgB : g < B) (hbd : bs.length + 8 ≤ 100000) :
    Calls Tryz.prog 92 #[.pointer (some ⟨e, 0, none⟩), .iface 22 (.slice (some ⟨g, 0, none⟩) l.length c)] w fun ee w' => ee = .returned .nilIface ∧ Enc w' e W s B (bs ++ ((l.length : Int) :: l)) ∧ Keeps (fun i => i = W ∨ i = s ∨ B ≤ i) w w' := by
  have HC := hide (enc_li h l (c := c) hl hg hgW hgs hgB hbd)
  have t22 := ta_22_22
  clear h hg
  go_enter Tryz.func92, Tryz.ntmps92
  go_wp2_with fail
  refine HC.out.mono ?_
  rintro ee w1 ⟨rfl, h1, hk1⟩
  go_wp2
  go_ret
  exact ⟨rfl, h1, hk1⟩
end Go.Proofs.YtgiojjlmohhmkaaGreatDoor
