/-
  The walks of the encoder's methods that write an integer or a float through its scratch.
-/
import Derived.Test.YtgiojjlmohhmkaaGreatDoorH2
import Derived.Test.YtgiojjlmohhmkaaGreatDoorB3
namespace Go.Proofs.YtgiojjlmohhmkaaGreatDoor
open Go Go.RowKit

set_option maxRecDepth 100000 in
set_option maxHeartbeats 400000 in
theorem enc_int16 {w : World} {e W s B : Nat} {bs : List Int} (h : Enc w e W s B bs) (n : Int) (hbd : bs.length + 2 ≤ 100000) :
    Calls Tryz.prog 118 #[.pointer (some ⟨e, 0, none⟩), .int .i16 n] w fun ee w' => ee = .returned (.tuple #[]) ∧ Enc w' e W s B (bs ++ low (n % 65536) 2) ∧ Keeps (fun i => i = W ∨ i = s ∨ B ≤ i) w w' := by
  obtain ⟨S, hs, hS⟩ := h.scratch
  obtain ⟨c0, c1⟩ := h.facts
  have HP := hide (put16_any w.drew s S (n % 65536) (by omega) (by omega) hs hS)
  have H := hide h
  clear h hs hS
  go_enter Tryz.func118, Tryz.ntmps118
  go_wp2_with fail
  go_region_with (go_at_call 186; refine HP.out.mono ?_; rintro ee w1 ⟨rfl, S1, hs1, hS1, hc1, hk1⟩)
  all_goals
    have h1 := H.out.put hs1 hS1 ((Keeps.refl _ _).drew.trans hk1)
    have HC := hide (enc_write (n := 2) (c := 4096) h1.drew (low (n % 65536) 2) (low_length _ _) (scratch_cells hs1.drew hc1) hbd)
    obtain ⟨d0, d1⟩ := h1.facts
    have HK1 : Hid (Keeps (fun i => i = W ∨ i = s ∨ B ≤ i) w w1.drew) := (((Keeps.refl _ _).drew.trans hk1).drew.mono (fun _ e => Or.inr (Or.inl e)))
    clear h1 hs1 hS1 hc1 hk1 HP c0 c1
    go_wp2_with fail
    go_region_with (go_at_call 143; refine HC.out.mono ?_; rintro ee w2 ⟨rfl, h2, hk2⟩)
    all_goals
      have HE := hide h2
      have HK2 := hide hk2
      clear h2 hk2 HC
      go_wp2
      go_end0
      exact ⟨rfl, HE.out, HK1.out.trans HK2.out⟩

set_option maxRecDepth 100000 in
set_option maxHeartbeats 400000 in
theorem enc_int32 {w : World} {e W s B : Nat} {bs : List Int} (h : Enc w e W s B bs) (n : Int) (hbd : bs.length + 4 ≤ 100000) :
    Calls Tryz.prog 95 #[.pointer (some ⟨e, 0, none⟩), .int .i32 n] w fun ee w' => ee = .returned (.tuple #[]) ∧ Enc w' e W s B (bs ++ low (n % 4294967296) 4) ∧ Keeps (fun i => i = W ∨ i = s ∨ B ≤ i) w w' := by
  obtain ⟨S, hs, hS⟩ := h.scratch
  obtain ⟨c0, c1⟩ := h.facts
  have HP := hide (put32_any w.drew s S (n % 4294967296) (by omega) (by omega) hs hS)
  have H := hide h
  clear h hs hS
  go_enter Tryz.func95, Tryz.ntmps95
  go_wp2_with fail
  go_region_with (go_at_call 142; refine HP.out.mono ?_; rintro ee w1 ⟨rfl, S1, hs1, hS1, hc1, hk1⟩)
  all_goals
    have h1 := H.out.put hs1 hS1 ((Keeps.refl _ _).drew.trans hk1)
    have HC := hide (enc_write (n := 4) (c := 4096) h1.drew (low (n % 4294967296) 4) (low_length _ _) (scratch_cells hs1.drew hc1) hbd)
    obtain ⟨d0, d1⟩ := h1.facts
    have HK1 : Hid (Keeps (fun i => i = W ∨ i = s ∨ B ≤ i) w w1.drew) := (((Keeps.refl _ _).drew.trans hk1).drew.mono (fun _ e => Or.inr (Or.inl e)))
    clear h1 hs1 hS1 hc1 hk1 HP c0 c1
    go_wp2_with fail
    go_region_with (go_at_call 143; refine HC.out.mono ?_; rintro ee w2 ⟨rfl, h2, hk2⟩)
    all_goals
      have HE := hide h2
      have HK2 := hide hk2
      clear h2 hk2 HC
      go_wp2
      go_end0
      exact ⟨rfl, HE.out, HK1.out.trans HK2.out⟩

set_option maxRecDepth 100000 in
set_option maxHeartbeats 400000 in
theorem enc_int64 {w : World} {e W s B : Nat} {bs : List Int} (h : Enc w e W s B bs) (n : Int) (hbd : bs.length + 8 ≤ 100000) :
    Calls Tryz.prog 121 #[.pointer (some ⟨e, 0, none⟩), .int .i64 n] w fun ee w' => ee = .returned (.tuple #[]) ∧ Enc w' e W s B (bs ++ low (IntKind.u64.wrap n) 8) ∧ Keeps (fun i => i = W ∨ i = s ∨ B ≤ i) w w' := by
  obtain ⟨S, hs, hS⟩ := h.scratch
  obtain ⟨c0, c1⟩ := h.facts
  have HP := hide (put64_any w.drew s S (IntKind.u64.wrap n) (u64_lo _) (u64_hi _) hs hS)
  have H := hide h
  clear h hs hS
  go_enter Tryz.func121, Tryz.ntmps121
  go_wp2_with fail
  go_region_with (go_at_call 187; refine HP.out.mono ?_; rintro ee w1 ⟨rfl, S1, hs1, hS1, hc1, hk1⟩)
  all_goals
    have h1 := H.out.put hs1 hS1 ((Keeps.refl _ _).drew.trans hk1)
    have HC := hide (enc_write (n := 8) (c := 4096) h1.drew (low (IntKind.u64.wrap n) 8) (low_length _ _) (scratch_cells hs1.drew hc1) hbd)
    obtain ⟨d0, d1⟩ := h1.facts
    have HK1 : Hid (Keeps (fun i => i = W ∨ i = s ∨ B ≤ i) w w1.drew) := (((Keeps.refl _ _).drew.trans hk1).drew.mono (fun _ e => Or.inr (Or.inl e)))
    clear h1 hs1 hS1 hc1 hk1 HP c0 c1
    go_wp2_with fail
    go_region_with (go_at_call 143; refine HC.out.mono ?_; rintro ee w2 ⟨rfl, h2, hk2⟩)
    all_goals
      have HE := hide h2
      have HK2 := hide hk2
      clear h2 hk2 HC
      go_wp2
      go_end0
      exact ⟨rfl, HE.out, HK1.out.trans HK2.out⟩

set_option maxRecDepth 100000 in
set_option maxHeartbeats 400000 in
theorem enc_float64 {w : World} {e W s B : Nat} {bs : List Int} (h : Enc w e W s B bs) (n : Nat) (hn : n < 18446744073709551616) (hbd : bs.length + 8 ≤ 100000) :
    Calls Tryz.prog 124 #[.pointer (some ⟨e, 0, none⟩), .float .f64 n] w fun ee w' => ee = .returned (.tuple #[]) ∧ Enc w' e W s B (bs ++ low (n : Int) 8) ∧ Keeps (fun i => i = W ∨ i = s ∨ B ≤ i) w w' := by
  obtain ⟨S, hs, hS⟩ := h.scratch
  obtain ⟨c0, c1⟩ := h.facts
  have HP := hide (put64_any w.drew s S (n : Int) (by omega) (by omega) hs hS)
  have H := hide h
  have hfb := f64bits
  clear h hs hS
  go_enter Tryz.func124, Tryz.ntmps124
  go_wp2_with fail
  go_region_with (go_at_call 187; refine HP.out.mono ?_; rintro ee w1 ⟨rfl, S1, hs1, hS1, hc1, hk1⟩)
  all_goals
    have h1 := H.out.put hs1 hS1 ((Keeps.refl _ _).drew.trans hk1)
    have HC := hide (enc_write (n := 8) (c := 4096) h1.drew (low (n : Int) 8) (low_length _ _) (scratch_cells hs1.drew hc1) hbd)
    obtain ⟨d0, d1⟩ := h1.facts
    have HK1 : Hid (Keeps (fun i => i = W ∨ i = s ∨ B ≤ i) w w1.drew) := (((Keeps.refl _ _).drew.trans hk1).drew.mono (fun _ e => Or.inr (Or.inl e)))
    clear h1 hs1 hS1 hc1 hk1 HP c0 c1
    go_wp2_with fail
    go_region_with (go_at_call 143; refine HC.out.mono ?_; rintro ee w2 ⟨rfl, h2, hk2⟩)
    all_goals
      have HE := hide h2
      have HK2 := hide hk2
      clear h2 hk2 HC
      go_wp2
      go_end0
      exact ⟨rfl, HE.out, HK1.out.trans HK2.out⟩
end Go.Proofs.YtgiojjlmohhmkaaGreatDoor
