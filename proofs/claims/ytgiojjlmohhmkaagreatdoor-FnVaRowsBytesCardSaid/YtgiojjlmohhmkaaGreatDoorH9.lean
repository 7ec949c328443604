/-
  The walk of the input parameters' size.
-/
import Derived.Test.YtgiojjlmohhmkaaGreatDoorH8
namespace Go.Proofs.YtgiojjlmohhmkaaGreatDoor
open Go Go.RowKit

/-- How many bytes the first k parameters take. -/
def wpos (codes : Nat → Nat) (sv : Nat → Sv) (cols : Nat) : Nat → Nat
  | 0 => 0
  | k + 1 => wpos codes sv cols k + (wrote (codes (k % cols)) (sv k)).length
/-- The bytes of the first k parameters. -/
def wall (codes : Nat → Nat) (sv : Nat → Sv) (cols : Nat) : Nat → List Int
  | 0 => []
  | k + 1 => wall codes sv cols k ++ wrote (codes (k % cols)) (sv k)
theorem wall_length (codes : Nat → Nat) (sv : Nat → Sv) (cols k : Nat) : (wall codes sv cols k).length = wpos codes sv cols k := by
  induction k with
  | zero => rfl
  | succ k ih => rw [wall, List.length_append, ih, wpos]
theorem wpos_le {codes : Nat → Nat} {sv : Nat → Sv} {cols : Nat} (h : ∀ k, Fits (codes (k % cols)) (sv k)) (k : Nat) : wpos codes sv cols k ≤ 9 * k := by
  induction k with
  | zero => exact Nat.le_refl _
  | succ k ih => rw [wpos]; have := wrote_length (h k); omega

/-- The parameters: a block of two slices; the fields, each in a block of its own, below H; the values, whose bytes lie below H. -/
structure InAt (w : World) (H P L lc V vc cols N : Nat) (codes : Nat → Nat) (sv : Nat → Sv) : Prop where
  row : Row w P 190 #[.slice (some ⟨L, 0, none⟩) cols lc, .slice (some ⟨V, 0, none⟩) N vc]
  fields : ∃ C, Row w L 76 C ∧ ∀ j, j < cols → ∃ f nm, C[j]? = some (.pointer (some ⟨f, 0, none⟩)) ∧ f < H ∧ Row w f 132 (pfCells nm (codes j))
  values : ∃ X, Row w V 138 X ∧ ∀ k, k < N → ∃ v, X[k]? = some v ∧ AnyIs w H v (sv k)

theorem InAt.keeps {K : Nat → Prop} {w w' : World} {H P L lc V vc cols N : Nat} {codes : Nat → Nat} {sv : Nat → Sv} (h : InAt w H P L lc V vc cols N codes sv) (hk : Keeps K w w') (hK : ∀ i, (i < H ∨ i = P ∨ i = L ∨ i = V) → ¬ K i) : InAt w' H P L lc V vc cols N codes sv := by
  obtain ⟨h1, ⟨C, h5, h6⟩, X, h7, h8⟩ := h
  refine ⟨h1.keeps hk (hK _ (Or.inr (Or.inl rfl))), ⟨C, h5.keeps hk (hK _ (Or.inr (Or.inr (Or.inl rfl)))), fun j hj => ?_⟩, X, h7.keeps hk (hK _ (Or.inr (Or.inr (Or.inr rfl)))), fun k hk' => ?_⟩
  · obtain ⟨f, nm, a1, a2, a3⟩ := h6 j hj
    exact ⟨f, nm, a1, a2, a3.keeps hk (hK _ (Or.inl a2))⟩
  · obtain ⟨v, a1, a2⟩ := h8 k hk'
    exact ⟨v, a1, a2.keeps hk (fun i hi => hK i (Or.inl hi))⟩

set_option maxRecDepth 100000 in
set_option maxHeartbeats 1600000 in
theorem size_any (rows cols : Nat) (hc0 : 0 < cols) (hc1 : cols ≤ 10) (hr1 : rows ≤ 12) {N : Nat} (hN : rows * cols = N) (codes : Nat → Nat) (hcodes : ∀ j, CodeOk (codes j)) (sv : Nat → Sv) (hfit : ∀ k, Fits (codes (k % cols)) (sv k))
    {w : World} {H P L lc V vc : Nat} (h : InAt w H P L lc V vc cols N codes sv) :
    Calls Tryz.prog 46 #[.pointer (some ⟨P, 0, none⟩)] w fun e w' => e = .returned (.int .i64 (wpos codes sv cols N)) ∧ w = w' := by
  obtain ⟨hP, ⟨C, hL, hC⟩, X, hV, hX⟩ := h
  have p0 := hP.cell 0
  have p1 := hP.cell 1
  simp at p0 p1
  have hN120 : N ≤ 120 := by rw [← hN]; exact Nat.le_trans (Nat.mul_le_mul hr1 hc1) (by decide)
  have hne : ((cols : Int) == 0) = false := by simp; omega
  have hdv : Value.int .i64 (wrap64 ((N : Int) / (cols : Int))) = Value.int .i64 (rows : Int) := by
    refine congrArg (Value.int .i64) ?_
    have e : ((N : Int) / (cols : Int)) = (rows : Int) := by
      rw [← hN]
      have h1 : (((rows * cols : Nat) : Int) / (cols : Int)) = ((rows * cols / cols : Nat) : Int) := by simp
      rw [h1, Nat.mul_div_cancel _ hc0]
    rw [e]
    unfold wrap64
    omega
  have HN := hide hN
  have HX := hide hX
  have HC := hide hC
  have HW := hide (fun k => wpos_le hfit k)
  clear hN hX hC hP
  go_enter Tryz.func46, Tryz.ntmps46
  go_wp2_with fail
  go_loopw [3, 5] (fun sz iv wr => ∃ i : Nat, i ≤ rows ∧ iv = .int .i64 i ∧ sz = .int .i64 (wpos codes sv cols (i * cols)) ∧ wr = w) (fun _ iv _ => rows - (intOf iv).toNat)
  case atStart => exact ⟨0, Nat.zero_le _, rfl, by rw [Nat.zero_mul]; rfl, rfl⟩
  case round =>
    obtain ⟨i, hi, rfl, rfl, hww⟩ := hrel
    subst hww
    have hwi := HW.out (i * cols)
    have hic : i * cols ≤ 120 := Nat.le_trans (Nat.mul_le_mul_right _ hi) (by rw [HN.out]; exact hN120)
    by_cases hlt2 : i < rows
    · go_wp2_with fail
      clear hdv
      go_loopw [3, 6, 7] (fun sz hl jv wi => ∃ j S : Nat, j ≤ cols ∧ jv = .int .i64 j ∧ hl = .bool false ∧ sz = .int .i64 S ∧ S + j = wpos codes sv cols (i * cols + j) + cols ∧ wi = wr) (fun _ _ jv _ => cols - (intOf jv).toNat)
      case atStart => exact ⟨0, wpos codes sv cols (i * cols) + cols, Nat.zero_le _, rfl, rfl, by go_num, rfl, rfl⟩
      case round =>
        obtain ⟨j, S, hj, rfl, rfl, rfl, hS, hww⟩ := hrel
        subst hww
        by_cases hlt3 : j < cols
        · obtain ⟨f, nm, hCj, hfH, hrf⟩ := HC.out j hlt3
          have hkN : i * cols + j < N := by
            have h1 : (i + 1) * cols ≤ rows * cols := Nat.mul_le_mul_right _ (by omega)
            rw [HN.out, Nat.add_mul, Nat.one_mul] at h1
            omega
          have hmod : (i * cols + j) % cols = j := by rw [Nat.mul_comm, Nat.mul_add_mod]; exact Nat.mod_eq_of_lt hlt3
          obtain ⟨v, hXk, hav⟩ := HX.out _ hkN
          obtain ⟨tt, uu, rfl⟩ := hav.shape
          have cl := (hL.cell j).trans hCj
          have cv := (hV.cell (i * cols + j)).trans hXk
          have hfk := hfit (i * cols + j)
          rw [hmod] at hfk
          have hstep : wpos codes sv cols (i * cols + (j + 1)) = wpos codes sv cols (i * cols + j) + ((pay (codes j) (sv (i * cols + j))).length + 1) := by
            rw [← Nat.add_assoc, wpos, hmod]; rfl
          have hpl := pay_length hfk
          have hwk := HW.out (i * cols + j)
          have hSb : S ≤ 2000 := by omega
          have HP := hide (prm_any hfk hrf hav)
          have HI := hide (islob_any (hcodes j) hrf)
          have hs0 : IntKind.i64.wrap ((i : Int) * cols) = (i : Int) * cols := by
            have h1 : (i : Int) * cols = ((i * cols : Nat) : Int) := by simp
            rw [h1, IntKind.wrap_i64]; omega
          have hs1 : IntKind.i64.wrap ((i : Int) * cols + j) = (i : Int) * cols + j := by
            have h1 : (i : Int) * cols = ((i * cols : Nat) : Int) := by simp
            rw [h1, IntKind.wrap_i64]; omega
          have hs2 : (0 : Int) ≤ (i : Int) * cols + j := by
            have h1 : (i : Int) * cols = ((i * cols : Nat) : Int) := by simp
            rw [h1]; omega
          have hs3 : (i : Int) * cols + j < (N : Int) := by
            have h1 : (i : Int) * cols = ((i * cols : Nat) : Int) := by simp
            rw [h1]; omega
          have hs4 : ((i : Int) * cols + j).toNat = i * cols + j := by
            have h1 : (i : Int) * cols = ((i * cols : Nat) : Int) := by simp
            rw [h1]; omega
          generalize (pay (codes j) (sv (i * cols + j))).length = pl at *
          have HST := hide hstep
          have HSS := hide hS
          clear hav hfk hXk hCj hrf hmod hstep hS
          go_wp2_with fail
          refine HP.out.mono ?_
          rintro e w2 ⟨rfl, rfl⟩
          go_wp2_with fail
          refine HI.out.mono ?_
          rintro e w2 ⟨rfl, rfl⟩
          go_wp2
          go_roundw
          case rel =>
            refine ⟨j + 1, S + pl, ?_, ?_, ?_, ?_, ?_, ?_⟩
            · omega
            · go_num
            · rfl
            · go_num
            · have := HST.out
              have := HSS.out
              omega
            · first | rfl | trivial
          case measure => simp [intOf]; omega
        · obtain rfl : j = cols := by omega
          have HSS := hide hS
          clear hS
          go_wp2
          go_roundw
          case rel =>
            refine ⟨i + 1, by omega, by go_num, ?_, by first | rfl | trivial⟩
            have h1 := HSS.out
            rw [Nat.add_mul, Nat.one_mul]
            rw [show S = wpos codes sv j (i * j + j) by omega]
          case measure => simp [intOf]; omega
    · obtain rfl : i = rows := by omega
      go_wp2
      go_ret
      exact ⟨by first | rfl | (rw [← HN.out]; rfl), rfl⟩
end Go.Proofs.YtgiojjlmohhmkaaGreatDoor
