/-
  The walk of ZzInput: rows of parameters, written.
-/
import Derived.Test.YtgiojjlmohhmkaaGreatDoorH10
namespace Go.Proofs.YtgiojjlmohhmkaaGreatDoor
open Go Go.RowKit

theorem info138 : (Tryz.prog.info? 138).map (fun i => (i.zero, i.size, i.bytes)) = some (some (.agg #[.nilIface]), 1, 16) := by kernel_rfl

set_option maxRecDepth 100000 in
set_option maxHeartbeats 400000 in
theorem newin_any (w : World) (A1 A2 : Option Addr) (n1 n2 c1 c2 : Nat) :
    Calls Tryz.prog 45 #[.slice A1 n1 c1, .slice A2 n2 c2] w fun e w' => e = .returned (.tuple #[.pointer (some ⟨w.heap.size, 0, none⟩), .nilIface]) ∧ w' = w.alloc (.cells #[.slice A1 n1 c1, .slice A2 n2 c2] 190) := by
  go_enter Tryz.func45, Tryz.ntmps45
  go_wp2
  go_ret2
  exact ⟨rfl, rfl⟩

set_option maxRecDepth 100000 in
set_option maxHeartbeats 1600000 in
theorem input_any (rows cols : Nat) (hc0 : 0 < cols) (hc1 : cols ≤ 10) (hr1 : rows ≤ 12) {N : Nat} (hN : rows * cols = N) (hN0 : 0 < N) (codes : Nat → Nat) (hcodes : ∀ j, CodeOk (codes j)) (sv : Nat → Sv) (hfit : ∀ k, Fits (codes (k % cols)) (sv k))
    {w : World} {H L lc V vc e W s : Nat} {C X : Array Value} (hL : Row w L 76 C) (hC : ∀ j, j < cols → ∃ f nm, C[j]? = some (.pointer (some ⟨f, 0, none⟩)) ∧ f < H ∧ Row w f 132 (pfCells nm (codes j)))
    (hV : Row w V 20 X) (hX : ∀ k, k < N → ∃ v, X[k]? = some v ∧ AnyIs w H v (sv k)) (hF : Fresh w e W s) (hW : H ≤ W) (hs : H ≤ s) :
    Calls Tryz.prog 29 #[.pointer (some ⟨e, 0, none⟩), .slice (some ⟨L, 0, none⟩) cols lc, .slice (some ⟨V, 0, none⟩) N vc] w fun ee w' => ee = .returned (.tuple #[.int .i64 (wpos codes sv cols N), .int .i64 rows, .nilIface]) ∧
      (∃ B, w.heap.size ≤ B ∧ Enc w' e W s B (wall codes sv cols N)) ∧ Keeps (fun i => i = W ∨ i = s) w w' := by
  obtain ⟨i138, mi, mz0, mz1, mz2⟩ := info_parts info138
  have hN120 : N ≤ 120 := by rw [← hN]; exact Nat.le_trans (Nat.mul_le_mul hr1 hc1) (by decide)
  have HN := hide hN
  have HL := hide hL
  have HC := hide hC
  have HV := hide hV
  have HX := hide hX
  have HF := hide hF
  clear hN hL hC hV hX hF
  go_enter Tryz.func29, Tryz.ntmps29
  go_wp2_with fail
  go_loopw [9, 18] (fun l iv wr => ∃ k : Nat, k ≤ N ∧ iv = .int .i64 k ∧ wr.ownsRow w.heap.size 138 1 l k (X.toList.take k) ∧ Keeps (fun _ => False) w wr) (fun _ iv _ => N - (intOf iv).toNat)
  case atStart => exact ⟨0, Nat.zero_le _, rfl, World.ownsRow_nil _ _ _ _, Keeps.refl _ _⟩
  case round =>
    obtain ⟨k, hk, rfl, hown, hkr⟩ := hrel
    obtain ⟨wo, rfl⟩ : ∃ wo : World, wo = wr := ⟨_, rfl⟩
    by_cases hlt : k < N
    · obtain ⟨v, hXk, hav⟩ := HX.out k hlt
      obtain ⟨tt, uu, rfl⟩ := hav.shape
      have cv := ((HV.out.keeps hkr id).cell k).trans hXk
      have hownx := hown.alloc (.cells #[.iface tt uu] 138)
      have hsr := hkr.size
      have htk : X.toList.take k ++ [.iface tt uu] = X.toList.take (k + 1) := by
        rw [List.take_add_one, Array.getElem?_toList, hXk]
        rfl
      have HTK := hide htk
      clear hav hXk htk
      go_wp2_with (at_builtin; refine wpList_append_own _ rfl (.tmp 22) (.tmp 25) 136 rfl w.heap.size 138 i138 (.agg #[.nilIface]) 1 16 Tryz.underlying136 mi mz0 mz1 mz2 rfl (by decide) _ _ _ rfl hownx ⟨wo.heap.size, 0, none⟩ 1 1 [.iface tt uu] rfl rfl ?c1 ?c2 ?c3 ?c4 ?c5 ?_)
      case c1 => exact cells_new _ _ rfl _ _ _ rfl
      case c2 => intro x hx; simp at hx; subst hx; rfl
      case c3 => unfold maxLen; omega
      case c4 => omega
      case c5 => simp; omega
      intro v' w6 hown6 hg6 _
      have hk6 : Keeps (fun _ => False) w w6 := (hkr.alloc _).grown hg6 (fun k e hk => by have := (hown.lt k e).1; omega)
      rw [HTK.out] at hown6
      have HO6 := hide hown6
      have HK6 := hide hk6
      clear hown6 hg6 hownx hown hkr cv hk6
      go_wp2
      go_roundw
      case rel => exact ⟨k + 1, by omega, by go_num, HO6.out, HK6.out⟩
      case measure => simp [intOf]; omega
    · obtain rfl : N = k := by omega
      obtain ⟨Vn, cap, cur, rfl, hVn, hrowV, _, _, _, hcur⟩ := own_pos hown hN0
      have hsr := hkr.size
      have HROW := hide hrowV
      have HCUR := hide hcur
      have HKR := hide hkr
      clear hown hrowV hcur hkr
      go_wp2_with fail
      refine (newin_any wo _ _ _ _ _ _).mono ?_
      rintro ee w2 ⟨rfl, rfl⟩
      have hP := Row.made wo 190 #[.slice (some ⟨L, 0, none⟩) cols lc, .slice (some ⟨Vn, 0, none⟩) N cap]
      have hk2 := HKR.out.alloc (.cells #[.slice (some ⟨L, 0, none⟩) cols lc, .slice (some ⟨Vn, 0, none⟩) N cap] 190)
      have hs2 : (wo.alloc (.cells #[.slice (some ⟨L, 0, none⟩) cols lc, .slice (some ⟨Vn, 0, none⟩) N cap] 190)).heap.size = wo.heap.size + 1 := World.size_alloc _ _
      have hVr := HROW.out.alloc (.cells #[.slice (some ⟨L, 0, none⟩) cols lc, .slice (some ⟨Vn, 0, none⟩) N cap] 190)
      have hVlt := HROW.out.lt
      have hFlt := HF.out.lt
      have hLne : L ≠ W ∧ L ≠ s ∧ L < w.heap.size := by
        obtain ⟨tr, S, h1, h2, h3, h4⟩ := HF.out
        exact ⟨HL.out.ne h4 (by decide), HL.out.ne h2 (by decide), HL.out.lt⟩
      generalize World.alloc _ _ = w2 at *
      have hin : InAt w2 H wo.heap.size L lc Vn cap cols N codes sv := ⟨hP, ⟨C, HL.out.keeps hk2 id, fun j hj => by
        obtain ⟨f, nm, a1, a2, a3⟩ := HC.out j hj
        exact ⟨f, nm, a1, a2, a3.keeps hk2 id⟩⟩, cur, hVr, fun k hk => by
        obtain ⟨v, a1, a2⟩ := HX.out k hk
        refine ⟨v, ?_, a2.keeps hk2 (fun _ _ => id)⟩
        have h1 : (cur.toList.take (N * 1))[k]? = (X.toList.take N)[k]? := by rw [HCUR.out]
        rw [List.getElem?_take, if_pos (by omega), List.getElem?_take, if_pos hk, Array.getElem?_toList, Array.getElem?_toList, a1] at h1
        exact h1⟩
      have hE2 : Enc w2 e W s w2.heap.size [] := (HF.out.keeps hk2 id id id).enc (by omega) (Nat.le_refl _)
      have HSZ := hide (size_any rows cols hc0 hc1 hr1 HN.out codes hcodes sv hfit hin)
      have HNA := hide (numarg_any rows cols hc0 hr1 HN.out hin)
      have HEN := hide (encode_any rows cols hc0 hc1 hr1 HN.out codes hcodes sv hfit hin hE2 hW hs (by omega) (fun i hi e => by omega))
      have HK2 := hide hk2
      clear hin hE2 hP hk2 hVr
      go_wp2_with fail
      refine HSZ.out.mono ?_
      rintro ee w3 ⟨rfl, rfl⟩
      go_wp2_with fail
      refine HNA.out.mono ?_
      rintro ee w3 ⟨rfl, rfl⟩
      go_wp2_with fail
      refine HEN.out.mono ?_
      rintro ee w3 ⟨rfl, hE3, hk3⟩
      have HE3 := hide hE3
      have HK3 := hide ((HK2.out.mono (fun _ e => e.elim)).trans_new hk3 (K := fun i => i = W ∨ i = s) (fun i hi e => e.elim Or.inl (fun e => e.elim Or.inr (fun e => by omega))))
      clear hE3 hk3 HSZ HNA HEN
      go_wp2
      go_ret3
      exact ⟨rfl, ⟨w2.heap.size, by omega, HE3.out⟩, HK3.out⟩
end Go.Proofs.YtgiojjlmohhmkaaGreatDoor
