/-
  The walk of the input parameters' encode.
-/
import Derived.Test.YtgiojjlmohhmkaaGreatDoorH9
namespace Go.Proofs.YtgiojjlmohhmkaaGreatDoor
open Go Go.RowKit

set_option maxRecDepth 100000 in
set_option maxHeartbeats 1600000 in
theorem encode_any (rows cols : Nat) (hc0 : 0 < cols) (hc1 : cols ≤ 10) (hr1 : rows ≤ 12) {N : Nat} (hN : rows * cols = N) (codes : Nat → Nat) (hcodes : ∀ j, CodeOk (codes j)) (sv : Nat → Sv) (hfit : ∀ k, Fits (codes (k % cols)) (sv k))
    {w : World} {H P L lc V vc e W s B : Nat} (h : InAt w H P L lc V vc cols N codes sv) (hE : Enc w e W s B []) (hW : H ≤ W) (hs : H ≤ s) (hB : H ≤ B) (hPLV : ∀ i, (i = P ∨ i = L ∨ i = V) → ¬ (i = W ∨ i = s ∨ B ≤ i)) :
    Calls Tryz.prog 48 #[.pointer (some ⟨P, 0, none⟩), .pointer (some ⟨e, 0, none⟩)] w fun ee w' => ee = .returned .nilIface ∧ Enc w' e W s B (wall codes sv cols N) ∧ Keeps (fun i => i = W ∨ i = s ∨ B ≤ i) w w' := by
  have p0 := h.row.cell 0
  have p1 := h.row.cell 1
  simp at p0 p1
  have hN120 : N ≤ 120 := by rw [← hN]; exact Nat.le_trans (Nat.mul_le_mul hr1 hc1) (by decide)
  have hne : ((cols : Int) == 0) = false := by simp; omega
  have hdv : Value.int .i64 (wrap64 ((N : Int) / (cols : Int))) = Value.int .i64 (rows : Int) := by
    refine congrArg (Value.int .i64) ?_
    have e : ((N : Int) / (cols : Int)) = (rows : Int) := by
      rw [← hN]
      have h1 : (((rows * cols : Nat) : Int) / (cols : Int)) = ((rows * cols / cols : Nat) : Int) := by simp
      rw [h1, Nat.mul_div_cancel _ hc0]
    rw [e]
    unfold wrap64
    omega
  have hlo : ∀ i, (i < H ∨ i = P ∨ i = L ∨ i = V) → ¬ (i = W ∨ i = s ∨ B ≤ i) := fun i hi => hi.elim (fun hi e => by omega) (hPLV i)
  have HN := hide hN
  have HLO := hide hlo
  have HIN := hide h
  have HW := hide (fun k => wpos_le hfit k)
  clear hN h hlo
  go_enter Tryz.func48, Tryz.ntmps48
  go_wp2_with fail
  clear p0 p1
  go_loopw [6] (fun iv wr => ∃ i : Nat, i ≤ rows ∧ iv = .int .i64 i ∧ Enc wr e W s B (wall codes sv cols (i * cols)) ∧ Keeps (fun i => i = W ∨ i = s ∨ B ≤ i) w wr) (fun iv _ => rows - (intOf iv).toNat)
  case atStart => exact ⟨0, Nat.zero_le _, rfl, by rw [Nat.zero_mul]; exact hE, Keeps.refl _ _⟩
  case round =>
    obtain ⟨i, hi, rfl, hEr, hkr⟩ := hrel
    obtain ⟨wo, rfl⟩ : ∃ wo : World, wo = wr := ⟨_, rfl⟩
    have hin := HIN.out.keeps hkr HLO.out
    have p1 := hin.row.cell 1
    simp at p1
    have HER := hide hEr
    have HKR := hide hkr
    clear hEr hkr hin
    have hic : i * cols ≤ 120 := Nat.le_trans (Nat.mul_le_mul_right _ hi) (by rw [HN.out]; exact hN120)
    by_cases hlt2 : i < rows
    · go_wp2_with fail
      clear hdv p1
      go_loopw [7, 8] (fun hl jv wi => ∃ j : Nat, j ≤ cols ∧ jv = .int .i64 j ∧ hl = .bool false ∧ Enc wi e W s B (wall codes sv cols (i * cols + j)) ∧ Keeps (fun i => i = W ∨ i = s ∨ B ≤ i) w wi) (fun _ jv _ => cols - (intOf jv).toNat)
      case atStart => exact ⟨0, Nat.zero_le _, rfl, rfl, HER.out, HKR.out⟩
      case round =>
        obtain ⟨j, hj, rfl, rfl, hEi, hki⟩ := hrel
        obtain ⟨wi, rfl⟩ : ∃ wi : World, wi = wr := ⟨_, rfl⟩
        by_cases hlt3 : j < cols
        · have hin := HIN.out.keeps hki HLO.out
          obtain ⟨hP, ⟨C, hL, hC⟩, X, hV, hX⟩ := hin
          have p0 := hP.cell 0
          have p1 := hP.cell 1
          simp at p0 p1
          obtain ⟨f, nm, hCj, hfH, hrf⟩ := hC j hlt3
          have hkN : i * cols + j < N := by
            have h1 : (i + 1) * cols ≤ rows * cols := Nat.mul_le_mul_right _ (by omega)
            rw [HN.out, Nat.add_mul, Nat.one_mul] at h1
            omega
          have hmod : (i * cols + j) % cols = j := by rw [Nat.mul_comm, Nat.mul_add_mod]; exact Nat.mod_eq_of_lt hlt3
          obtain ⟨v, hXk, hav⟩ := hX _ hkN
          obtain ⟨tt, uu, rfl⟩ := hav.shape
          have cl := (hL.cell j).trans hCj
          have cv := (hV.cell (i * cols + j)).trans hXk
          have hfk := hfit (i * cols + j)
          rw [hmod] at hfk
          have hstep : wall codes sv cols (i * cols + (j + 1)) = wall codes sv cols (i * cols + j) ++ wrote (codes j) (sv (i * cols + j)) := by
            rw [← Nat.add_assoc, wall, hmod]
          have hwk := HW.out (i * cols + j)
          have HC := hide (encp_any hEi hfk hrf hav hfH hW hs hB (by rw [wall_length]; omega))
          have HRF := hide hrf
          have HFH := hide hfH
          have hs0 : IntKind.i64.wrap ((i : Int) * cols) = (i : Int) * cols := by
            have h1 : (i : Int) * cols = ((i * cols : Nat) : Int) := by simp
            rw [h1, IntKind.wrap_i64]; omega
          have hs1 : IntKind.i64.wrap ((i : Int) * cols + j) = (i : Int) * cols + j := by
            have h1 : (i : Int) * cols = ((i * cols : Nat) : Int) := by simp
            rw [h1, IntKind.wrap_i64]; omega
          have hs2 : (0 : Int) ≤ (i : Int) * cols + j := by
            have h1 : (i : Int) * cols = ((i * cols : Nat) : Int) := by simp
            rw [h1]; omega
          have hs3 : (i : Int) * cols + j < (N : Int) := by
            have h1 : (i : Int) * cols = ((i * cols : Nat) : Int) := by simp
            rw [h1]; omega
          have hs4 : ((i : Int) * cols + j).toNat = i * cols + j := by
            have h1 : (i : Int) * cols = ((i * cols : Nat) : Int) := by simp
            rw [h1]; omega
          have HST := hide hstep
          have HKI := hide hki
          clear hav hfk hXk hCj hrf hmod hstep hki hEi hP hL hC hV hX
          go_wp2_with fail
          refine HC.out.mono ?_
          rintro ee w2 ⟨rfl, hE2, hk2⟩
          rw [← HST.out] at hE2
          have HE2 := hide hE2
          have HK2 := hide (HKI.out.trans hk2)
          have HI := hide (islob_any (hcodes j) (HRF.out.keeps hk2 (HLO.out _ (Or.inl HFH.out))))
          clear hE2 hk2 p0 p1 cl cv HC HRF HKI
          go_wp2_with fail
          refine HI.out.mono ?_
          rintro ee w3 ⟨rfl, rfl⟩
          go_wp2
          go_roundw
          case rel => exact ⟨j + 1, by omega, by go_num, rfl, HE2.out, HK2.out⟩
          case measure => simp [intOf]; omega
        · obtain rfl : j = cols := by omega
          have HE := hide hEi
          have HK := hide hki
          clear hEi hki
          go_wp2
          go_roundw
          case rel => exact ⟨i + 1, by omega, by go_num, by rw [Nat.add_mul, Nat.one_mul]; exact HE.out, HK.out⟩
          case measure => simp [intOf]; omega
    · obtain rfl : i = rows := by omega
      go_wp2
      go_ret
      exact ⟨rfl, by have h1 := HER.out; rw [HN.out] at h1; exact h1, HKR.out⟩

set_option maxRecDepth 100000 in
set_option maxHeartbeats 400000 in
theorem numarg_any (rows cols : Nat) (hc0 : 0 < cols) (hr1 : rows ≤ 12) {N : Nat} (hN : rows * cols = N) {codes : Nat → Nat} {sv : Nat → Sv}
    {w : World} {H P L lc V vc : Nat} (h : InAt w H P L lc V vc cols N codes sv) :
    Calls Tryz.prog 47 #[.pointer (some ⟨P, 0, none⟩)] w fun e w' => e = .returned (.int .i64 rows) ∧ w = w' := by
  have p0 := h.row.cell 0
  have p1 := h.row.cell 1
  simp at p0 p1
  have hne : ((cols : Int) == 0) = false := by simp; omega
  have hdv : Value.int .i64 (wrap64 ((N : Int) / (cols : Int))) = Value.int .i64 (rows : Int) := by
    refine congrArg (Value.int .i64) ?_
    have e : ((N : Int) / (cols : Int)) = (rows : Int) := by
      rw [← hN]
      have h1 : (((rows * cols : Nat) : Int) / (cols : Int)) = ((rows * cols / cols : Nat) : Int) := by simp
      rw [h1, Nat.mul_div_cancel _ hc0]
    rw [e]
    unfold wrap64
    omega
  have HDV := hide hdv
  clear h hN hdv
  go_enter Tryz.func47, Tryz.ntmps47
  go_wp2
  go_ret
  exact ⟨congrArg _ HDV.out, rfl⟩
end Go.Proofs.YtgiojjlmohhmkaaGreatDoor
