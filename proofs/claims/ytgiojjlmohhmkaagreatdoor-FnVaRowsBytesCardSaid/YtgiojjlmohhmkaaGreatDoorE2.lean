/-
  The walk of RowsOf.
-/
import Derived.Test.YtgiojjlmohhmkaaGreatDoorE1
import Derived.Deep.RegionHeld3
namespace Go.Proofs.YtgiojjlmohhmkaaGreatDoor
open Go Go.RowKit

/-- A stop for the walk. -/
def Stop (p : Prop) : Prop := p
theorem wp_stop {p : Prop} (h : Stop p) : p := h

set_option maxRecDepth 100000 in
set_option maxHeartbeats 1600000 in
theorem rowsof_any (rows cols : Nat) (hc0 : 0 < cols) (hc1 : cols ≤ 10) (hr0 : 0 < rows) (hr1 : rows ≤ 12) (codes : Nat → Nat) (hcodes : ∀ j, CodeOk (codes j)) (ns : Nat → Int) (hns : ∀ k, -9223372036854775808 ≤ ns k ∧ ns k ≤ 9223372036854775807)
    {w : World} {cb cc r rc : Nat} {bs : List Int} {R CB : Array Value} (hCB : Row w cb 28 CB) (hcol : ∀ k, k < cols → ∀ j v, (colCells (codes k)).toList[j]? = some v → CB[k * 8 + j]? = some v)
    (hR : Row w r 5 R) (hRt : R.toList.take bs.length = bs.map (Value.int .u8)) (hrc : bs.length ≤ rc) (hbl : bs.length ≤ 20000) (hb : ∀ j, 0 ≤ bt bs j ∧ bt bs j ≤ 255) (hat : ∀ k, k < rows * cols → At bs (pos codes ns cols k) (told (codes (k % cols)) (ns k))) :
    Calls Tryz.prog 7 #[.slice (some ⟨cb, 0, none⟩) cols cc, .slice (some ⟨r, 0, none⟩) bs.length rc, .int .i64 rows] w fun e w' => ∃ out xs, e = .returned (.tuple #[out, .slice none 0 0, .int .i64 (pos codes ns cols (rows * cols)), .int .i64 0]) ∧
      w'.ownsRow w.heap.size 41 22 out (rows * cols) xs ∧ OutIs w' w.heap.size (fun k => svOf (codes (k % cols)) (ns k)) (rows * cols) xs ∧ Below w.heap.size w w' := by
  have hmf : ∀ (fn : Fn) (first cap : Array Value) (w : World), (Instr.makeFunc fn first cap).run Tryz.prog w = .ok (.func fn first cap) w := fun _ _ _ _ => rfl
  have g1 : decide ((cols : Int) < 1) = false := by simp; omega
  have g2 : decide ((20 : Int) < cols) = false := by simp; omega
  have g3 : decide ((rows : Int) < 0) = false := by simp
  have g4 : decide ((100 : Int) < rows) = false := by simp; omega
  have g5 : decide ((20000 : Int) < bs.length) = false := by simp; omega
  obtain ⟨i63, hi, hz0, hz1, hz2⟩ := info_parts info63
  obtain ⟨i41, ki, kz0, kz1, kz2⟩ := info_parts info41
  have hrlt := hR.lt
  have hcblt := hCB.lt
  go_enter_defers Tryz.func7, Tryz.ntmps7
  go_wp2_with fail
  have hF0 : Four ((((w.alloc (.cells #[.slice none 0 0] 29)).alloc (.cells #[.slice none 0 0] 24)).alloc (.cells #[.int .i64 0] 3)).alloc (.cells #[.int .i64 0] 3)) w.heap.size (.slice none 0 0) := by
    refine ⟨(((Row.made _ _ _).alloc _).alloc _).alloc _, ?_, ?_, ?_⟩
    · have h := Row.made (w.alloc (.cells #[.slice none 0 0] 29)) 24 #[.slice none 0 0]
      rw [World.size_alloc] at h
      exact (h.alloc _).alloc _
    · have h := Row.made ((w.alloc (.cells #[.slice none 0 0] 29)).alloc (.cells #[.slice none 0 0] 24)) 3 #[.int .i64 0]
      rw [World.size_alloc, World.size_alloc] at h
      exact h.alloc _
    · have h := Row.made (((w.alloc (.cells #[.slice none 0 0] 29)).alloc (.cells #[.slice none 0 0] 24)).alloc (.cells #[.int .i64 0] 3)) 3 #[.int .i64 0]
      rw [World.size_alloc, World.size_alloc, World.size_alloc] at h
      exact h
  have hk0 : Keeps (fun _ => False) w ((((w.alloc (.cells #[.slice none 0 0] 29)).alloc (.cells #[.slice none 0 0] 24)).alloc (.cells #[.int .i64 0] 3)).alloc (.cells #[.int .i64 0] 3)) := ((((Keeps.refl _ _).alloc _).alloc _).alloc _).alloc _
  have hsz : w.heap.size + 4 ≤ ((((w.alloc (.cells #[.slice none 0 0] 29)).alloc (.cells #[.slice none 0 0] 24)).alloc (.cells #[.int .i64 0] 3)).alloc (.cells #[.int .i64 0] 3)).heap.size := by simp [World.size_alloc]
  generalize hw1 : World.alloc _ _ = w1 at hF0 hk0 hsz ⊢
  clear hw1
  have HF := hide hF0
  have HK := hide hk0
  have HCB := hide hCB
  have HCOL := hide hcol
  have HR := hide hR
  have HRT := hide hRt
  have HB := hide hb
  have HAT := hide hat
  have HNS := hide hns
  clear hF0 hk0 hCB hcol hR hRt hb hat hns
  go_loopw [10, 42] (fun l iv wr => ∃ (k : Nat) (xs : List Value), k ≤ cols ∧ iv = .int .i64 k ∧ wr.ownsRow w1.heap.size 63 1 l k xs ∧ FieldsAt wr w1.heap.size codes k xs ∧ Keeps (fun _ => False) w1 wr) (fun _ iv _ => cols - (intOf iv).toNat)
  case atStart => exact ⟨0, [], Nat.zero_le _, rfl, World.ownsRow_nil _ _ _ _, ⟨fun _ => 0, fun _ => .nilIface, rfl, fun j hj => by omega⟩, Keeps.refl _ _⟩
  case round =>
    obtain ⟨k, xs, hk, rfl, hown, hfa, hkr⟩ := hrel
    obtain ⟨wo, rfl⟩ : ∃ wo : World, wo = wr := ⟨_, rfl⟩
    by_cases hlt : k < cols
    · have hcbr := (HCB.out.keeps HK.out id).keeps hkr id
      have hcells : ∀ j v, (colCells (codes k)).toList[j]? = some v → wo.cell? ((⟨cb, k * 8, none⟩ : Addr).add j) = some v := by
        intro j v hv
        have h1 := HCOL.out k hlt j v hv
        have h2 : ((⟨cb, k * 8, none⟩ : Addr).add j) = ⟨cb, k * 8 + j, none⟩ := by unfold Addr.add; split <;> simp_all
        rw [h2, hcbr.cell]
        exact h1
      have hrow0 : Row (wo.alloc (.cells #[.int .i64 0, .int .i64 0, .int .i64 0, .int .i64 0, .string ⟨#[]⟩, .string ⟨#[]⟩, .string ⟨#[]⟩, .string ⟨#[]⟩] 28)) wo.heap.size 28 #[.int .i64 0, .int .i64 0, .int .i64 0, .int .i64 0, .string ⟨#[]⟩, .string ⟨#[]⟩, .string ⟨#[]⟩, .string ⟨#[]⟩] := Row.made _ _ _
      go_wp2_with (first | (refine wpList_load_at rfl 28 (.tmp 44) rfl ⟨cb, k * 8, none⟩ rfl (colCells (codes k)) _ hcells Tryz.underlying28 rfl size28 ?_) | (refine wpList_store_row rfl 28 (.tmp 12) (.tmp 45) rfl wo.heap.size (colCells (codes k)) rfl rfl 28 _ hrow0 size28 rfl (col_one _) ?_; apply wp_stop))
      have hrow4 := hrow0.setRow (colCells (codes k))
      have hk4 : Keeps (fun _ => False) wo ((wo.alloc (.cells #[.int .i64 0, .int .i64 0, .int .i64 0, .int .i64 0, .string ⟨#[]⟩, .string ⟨#[]⟩, .string ⟨#[]⟩, .string ⟨#[]⟩] 28)).setRow wo.heap.size (colCells (codes k))) := Keeps.of_below (below_setRow' ((Below.refl _ _).alloc (Nat.le_refl _) _) (Nat.le_refl _) _) _
      have hown4 := own_keeps hown hk4 (fun _ _ _ _ => id)
      clear hrow0 hcbr hcells
      unfold Stop
      generalize World.setRow _ _ _ = w4 at *
      have c0 := hrow4.cell 0
      have c2 := hrow4.cell 2
      simp [colCells] at c0 c2
      have hcv : IntKind.u8.wrap (codes k : Int) = codes k := by
        have h := hcodes k
        unfold CodeOk at h
        simp only [IntKind.wrap, IntKind.bits, IntKind.signed]
        simp
        omega
      go_wp2_with fail
      refine (near_nought _).mono ?_
      rintro e w5 ⟨rfl, rfl⟩
      go_wp2_with fail
      refine (resultfield_any _ _).mono ?_
      rintro e w5 ⟨g, nm, rfl, hg5, hrow5, hk5⟩
      have hkx := (hk4.trans hk5)
      have hownx := (own_keeps hown4 hk5 (fun _ _ _ _ => id)).alloc (.cells #[.pointer (some ⟨g, 0, none⟩)] 63)
      have hs4 := hk4.size
      have hs5 := hk5.size
      have hsr := hkr.size
      clear hown hk4 hk5 hown4 hrow4 c0 c2 hcv
      go_wp2_with (at_builtin; refine wpList_append_own _ rfl (.tmp 50) (.tmp 57) 61 rfl w1.heap.size 63 i63 (.pointer none) 1 8 Tryz.underlying61 hi hz0 hz1 hz2 rfl (by decide) _ _ _ rfl hownx ⟨w5.heap.size, 0, none⟩ 1 1 [.pointer (some ⟨g, 0, none⟩)] rfl rfl ?c1 ?c2 ?c3 ?c4 ?c5 ?_)
      case c1 => exact cells_new _ _ rfl _ _ _ rfl
      case c2 => intro x hx; simp at hx; subst hx; rfl
      case c3 => unfold maxLen; omega
      case c4 => omega
      case c5 => simp; omega
      intro v' w6 hown6 hg6 _
      have hkg : Keeps (fun i => some i = u10.ownBlock) w5 w6 := ((Keeps.refl _ _).alloc _).grown hg6 (fun k e _ => e.symm)
      have hK6 : ∀ i t cs, Row w5 i t cs → t ≠ 63 → ¬ some i = u10.ownBlock := fun i t cs hi ht e => own_ne hownx (hi.alloc _) ht.symm e.symm
      have hall : Keeps (fun i => some i = u10.ownBlock) wo w6 := (hkx.mono (fun _ e => e.elim)).trans hkg
      have hfa6 := hfa.step hall (fun i cs hi _ => hK6 i 98 cs (hi.keeps hkx id) (by decide)) (by omega) (hrow5.keeps hkg (hK6 _ _ _ hrow5 (by decide)))
      have hk6 : Keeps (fun _ => False) w1 w6 := hkr.trans_new hall (fun i hi e => by have := (hownx.lt i e.symm).1; omega)
      clear hownx hall hkg hK6 hg6 hrow5 hkx hfa hkr
      go_wp2
      go_roundw
      case rel => exact ⟨k + 1, _, by omega, by go_num, hown6, hfa6, hk6⟩
      case measure => simp [intOf]; omega
    · obtain rfl : cols = k := by omega
      have HR1 := hide (((HR.out.keeps HK.out id).keeps hkr id))
      have hF1 := HF.out.keeps hkr (fun _ _ _ => id)
      obtain ⟨c', rfl⟩ : ∃ c', cols = c' + 1 := ⟨cols - 1, by omega⟩
      obtain ⟨L, lc, C, rfl, hL, hLr, hlc, _, _, hLt⟩ := own_some hown
      obtain ⟨fl, nm, rfl, hfl⟩ := hfa
      have hC : ∀ j, j < c' + 1 → C[j]? = some (.pointer (some ⟨fl j, 0, none⟩)) := by
        intro j hj
        have e : (C.toList.take ((c' + 1) * 1))[j]? = ((List.range (c' + 1)).map (fun j => Value.pointer (some ⟨fl j, 0, none⟩)))[j]? := by rw [hLt]
        rw [List.getElem?_take, if_pos (by omega), Array.getElem?_toList] at e
        rw [e]
        simp [hj]
      have hsr := hkr.size
      clear hown hLt
      go_wp2_with fail
      refine (decoder_any r rc bs R wo HR1.out HRT.out hrc (by omega)).mono ?_
      rintro e w7 ⟨d, s, rfl, hd7, hs7, hD7, hk7⟩
      have hL7 := hLr.keeps hk7 id
      have hfl7 := fun j hj => (hfl j hj).2.keeps hk7 id
      have hF7 := hF1.keeps hk7 (fun _ _ _ => id)
      have hs7' := hk7.size
      have HKA := hide (HK.out.trans (hkr.trans hk7))
      clear hLr hfl hF1 hk7 hkr
      go_wp2_with fail
      refine (rowset_any rows (c' + 1) hc0 hc1 hr1 codes hcodes ns HNS.out hL7 hC hfl7 hD7 HB.out HAT.out).mono ?_
      rintro e w8 ⟨G, X, rfl, hG8, hX8, hV8, hD8, hk8⟩
      have hF8 := hF7.keeps hk8 (fun i h1 h2 => by omega)
      obtain ⟨N, hN⟩ : ∃ N, rows * (c' + 1) = N := ⟨_, rfl⟩
      have hN1 : N ≤ 120 := by rw [← hN]; exact Nat.le_trans (Nat.mul_le_mul hr1 hc1) (by decide)
      simp only [hN] at hV8 hD8 ⊢
      have c1 := hF8.2.1.cell 0
      have f1 := hF8.2.1.frozen 0
      simp at c1
      have HF8 := hide hF8
      have hk9 := Keeps.one w8 (w.heap.size + 1) 0 (.slice none 0 0)
      have hs8 := hk8.size
      have hF9 : Four (w8.setCell ⟨w.heap.size + 1, 0, none⟩ (.slice none 0 0)) w.heap.size (.slice none 0 0) :=
        ⟨hF8.1.keeps hk9 (by omega), by simpa using hF8.2.1.put 0 (.slice none 0 0), hF8.2.2.1.keeps hk9 (by omega), hF8.2.2.2.keeps hk9 (by omega)⟩
      have HK9 := hide ((HKA.out.trans_new hk8 (fun i hi e => by omega)).trans_new hk9 (K := fun _ => False) (fun i hi e => by omega))
      have HD := hide (hD8.keeps hk9 (by omega) (by omega) (by omega))
      have HX := hide (hX8.keeps hk9 (by omega))
      have HV : Hid (∀ m, m < N → ∃ v, X[m]? = some v ∧ IsAny (w8.setCell ⟨w.heap.size + 1, 0, none⟩ (.slice none 0 0)) (G + 1) v (svOf (codes (m % (c' + 1))) (ns m))) := fun m hm => by
        obtain ⟨v, h1, h2⟩ := hV8.2 m hm
        exact ⟨v, h1, h2.keeps hk9 (fun g hg => by omega)⟩
      have HF9 := hide hF9
      clear hD7 hL7 hC hfl7 hF7 hD8 hV8 hX8 hk8 hF8 HAT HB HRT HR HR1 HKA HCOL HCB HF HK HNS HF8 hF9 hk9
      go_wp2_with fail
      clear c1 f1
      have hX0 := HX.out.lt
      have hs9 : w.heap.size + 4 ≤ (w8.setCell ⟨w.heap.size + 1, 0, none⟩ (.slice none 0 0)).heap.size := by omega
      generalize World.setCell _ _ _ = w9 at *
      have hGb : w.heap.size + 4 ≤ G := by omega
      have hdb : w.heap.size + 4 ≤ d ∧ w.heap.size + 4 ≤ s ∧ r < w.heap.size := by omega
      clear hs8 hsz hL hsr hd7 hs7 hs7' hG8 hi hz0 hz1 hz2
      go_loopw [74] (fun iv wr => ∃ (k : Nat) (out : Value) (xs : List Value), k ≤ N ∧ iv = .int .i64 k ∧ Row wr w.heap.size 29 #[out] ∧ wr.ownsRow w9.heap.size 41 22 out k xs ∧ OutIs wr w9.heap.size (fun k => svOf (codes (k % (c' + 1))) (ns k)) k xs ∧ Keeps (fun i => i = w.heap.size) w9 wr) (fun iv _ => N - (intOf iv).toNat)
      case atStart => exact ⟨0, _, [], Nat.zero_le _, rfl, HF9.out.1, World.ownsRow_nil _ _ _ _, ⟨rfl, fun m hm => by omega⟩, Keeps.refl _ _⟩
      case round =>
        obtain ⟨k, out, xs, hk, rfl, hrow, hown, hout, hkr⟩ := hrel
        obtain ⟨wo, rfl⟩ : ∃ wo : World, wo = wr := ⟨_, rfl⟩
        by_cases hlt2 : k < N
        · obtain ⟨v, hv, hav⟩ := HV.out k hlt2
          have hav2 := (hav.keeps hkr (fun g hg => by omega)).keeps (Keeps.refl (fun _ => False) wo).drew (fun _ _ => id)
          obtain ⟨tt, uu, rfl⟩ := hav.shape
          have cX := (HX.out.keeps hkr (by omega)).cell k
          rw [hv] at cX
          have cO := hrow.cell 0
          have fO := hrow.frozen 0
          simp at cO
          have HC := hide (val_any hav2 (svOf_txt _ _))
          have HROW := hide hrow
          have HOWN := hide hown
          have HOUT := hide hout
          have HKR := hide hkr
          clear hav hav2 hv hrow hown hout hkr
          go_wp2_with fail
          refine wp_region_noPanic ?_
          have hlo := HROW.out.lt
          have hso := HKR.out.size
          go_region_law (first | (go_simp; go_at_call 20; refine HC.out.mono ?_; rintro e w3 ⟨b3, rfl, hb3, hbe3⟩; have hk3 := ((Keeps.refl (fun _ => False) wo).drew.trans (Keeps.of_below hbe3 _)); have hs3 := hk3.size; have hrow3 := HROW.out.keeps hk3 id; have c3 := hrow3.cell 0; have f3 := hrow3.frozen 0; simp at c3; have c3b : (w3.alloc (.cells ((svOf (codes (k % (c' + 1))) (ns k)).cells b3) 41)).cell? ⟨w.heap.size, 0, none⟩ = some out := (hrow3.alloc _).cell 0; simp only [Sv.cells, valCells] at c3b; simp only [Sv.cells, valCells]) | (refine step_append_own rfl (.tmp 78) (.tmp 81) 29 rfl w9.heap.size 41 i41 (.agg (valCells 0 0 0 (.slice none 0 0))) 22 248 Tryz.underlying29 ki kz0 kz1 kz2 rfl (by decide) out k xs (by simp [Act.eval]) ((own_keeps HOWN.out hk3 (fun _ _ _ _ => id)).alloc (.cells ((svOf (codes (k % (c' + 1))) (ns k)).cells b3) 41)) ⟨w3.heap.size, 0, none⟩ 1 1 ((svOf (codes (k % (c' + 1))) (ns k)).cells b3).toList (by simp [Act.eval]) rfl (cells_new _ _ rfl _ _ _ rfl) (Sv.one _ hb3) (by unfold maxLen; omega) (by omega) (by simp [World.size_alloc]; omega) ?_; intro v4 w4 ho4 hg4; obtain ⟨g4, cap4, _, rfl, hg4b, _⟩ := own_some ho4; have hk4 : Keeps (fun i => some i = out.ownBlock) w3 w4 := ((Keeps.refl _ _).alloc _).grown hg4 (fun k e _ => e.symm); have hrow4 := hrow3.keeps hk4 (fun e => own_ne HOWN.out HROW.out (by decide) e.symm); have c4 := hrow4.cell 0; have f4 := hrow4.frozen 0; simp at c4))
          all_goals refine NoPanic.normal ?_
          all_goals
            have hone := Keeps.one w4 w.heap.size 0 (.slice (some ⟨g4, 0, none⟩) (k + 1) cap4)
            have hall : Keeps (fun i => some i = out.ownBlock ∨ i = w.heap.size) wo (w4.setCell ⟨w.heap.size, 0, none⟩ (.slice (some ⟨g4, 0, none⟩) (k + 1) cap4)) := ((hk3.mono (fun _ e => e.elim)).trans (hk4.mono (fun _ e => Or.inl e))).trans (hone.mono (fun _ e => Or.inr e))
            have hrow5 : Hid (Row (w4.setCell ⟨w.heap.size, 0, none⟩ (.slice (some ⟨g4, 0, none⟩) (k + 1) cap4)) w.heap.size 29 #[.slice (some ⟨g4, 0, none⟩) (k + 1) cap4]) := hide (by simpa using hrow4.put 0 (.slice (some ⟨g4, 0, none⟩) (k + 1) cap4))
            have hown5 := hide (own_keeps ho4 hone (fun g cs _ hg e => by omega))
            have hb5 := own_base (own_keeps (own_keeps hb3 hk4 (fun g cs hg _ e => own_ne (own_keeps HOWN.out hk3 (fun _ _ _ _ => id)) hg (by decide) e.symm)) hone (fun g cs _ hg e => by have : wo.heap.size ≤ g := hg; omega)) (show w9.heap.size ≤ wo.drew.heap.size from hso)
            have hout5 := hide (HOUT.out.step hall (fun i cs hi hg e => e.elim (fun e => own_ne HOWN.out hi (by decide) e.symm) (fun e => by omega)) hb5)
            have hkr5 := hide (HKR.out.trans_new hall (fun i hi e => e.elim (fun e => by have := (HOWN.out.lt i e.symm).1; omega) id))
            clear hone hall hb5 hrow4 c4 f4 hk4 hg4 ho4 hg4b c3 c3b f3 hrow3 hk3 hb3 hbe3 hs3 cO fO cX HC HROW HOWN HOUT HKR
            go_wp2
            go_roundw
            case rel => exact ⟨k + 1, _, _, by omega, by go_num, hrow5.out, hown5.out, hout5.out, hkr5.out⟩
            case measure => simp [intOf]; omega
        · obtain rfl : N = k := by omega
          have hrow1 := HF9.out.2.1.keeps hkr (by omega)
          have hrow2 := HF9.out.2.2.1.keeps hkr (by omega)
          have hrow3 := HF9.out.2.2.2.keeps hkr (by omega)
          obtain ⟨n', rfl⟩ : ∃ n', N = n' + 1 := ⟨N - 1, by have : 0 < rows * (c' + 1) := Nat.mul_pos hr0 hc0; omega⟩
          obtain ⟨g4, cap4, _, rfl, hg4b, _⟩ := own_some hown
          have c6 := hrow.cell 0
          have f6 := hrow.frozen 0
          have c7 := hrow1.cell 0
          have f7 := hrow1.frozen 0
          have c8 := hrow2.cell 0
          have f8 := hrow2.frozen 0
          have c9 := hrow3.cell 0
          have f9 := hrow3.frozen 0
          simp at c6 c7 c8 c9
          have hDw := HD.out.keeps hkr (by omega) (by omega) (by omega)
          have HCN := hide (cnt_any hDw.drew)
          clear hDw
          obtain ⟨zk, z6, z7, z8, z9⟩ := Four.ended ⟨hrow, hrow1, hrow2, hrow3⟩ (pos codes ns (c' + 1) (n' + 1))
          have HEND := hide (And.intro (own_base (own_keeps hown zk (fun g cs _ hg e => by omega)) (show w.heap.size ≤ w9.heap.size by omega)) (And.intro ((hout.keeps zk (fun i cs _ hg e => by omega)).base (show w.heap.size ≤ w9.heap.size by omega)) (((HK9.out.trans_new hkr (K := fun _ => False) (fun i hi e => by omega)).trans_new zk (K := fun _ => False) (fun i hi e => by omega)).below (fun _ _ => id) (Nat.le_refl _))))
          have Z6 := hide z6
          have Z7 := hide z7
          have Z8 := hide z8
          have Z9 := hide z9
          clear hrow hrow1 hrow2 hrow3 hown hout hkr HF9 HV HX HK9 HD zk z6 z7 z8 z9
          go_wp2_with fail
          refine (fun (key : Box ?theG) => ?theB) ⟨?theP⟩
          case theB =>
            refine wp_region_noPanic ?_
            go_region_with (go_at_call 21; refine HCN.out.mono ?_; rintro e w3 ⟨rfl, rfl⟩)
            all_goals (refine NoPanic.normal ?_; exact key.out)
          case theP =>
            clear c6 c7 c8 c9 f6 f7 f8 f9 HCN
            generalize World.drew _ = wz at *
            have z6 := Z6.out
            have z7 := Z7.out
            have z8 := Z8.out
            have z9 := Z9.out
            go_wp2
            simp only [hN]
            refine leaves_cons (f := 15) (args := #[.pointer (some ⟨w.heap.size, 0, none⟩), .pointer (some ⟨w.heap.size + 1, 0, none⟩), .pointer (some ⟨w.heap.size + 1 + 1, 0, none⟩), .pointer (some ⟨w.heap.size + 1 + 1 + 1, 0, none⟩)]) (by simp) (by simp [go_sem]) ?_
            refine (of_idle _ _ _ _ _).mono ?_
            rintro e u' w'' ⟨rfl, rfl, rfl⟩
            have h0 := HEND.out
            simp [Leaves, settle, results, Tryz.results7, go_sem, z6, z7, z8, z9]
            exact ⟨_, h0.1, h0.2.1, h0.2.2⟩
end Go.Proofs.YtgiojjlmohhmkaaGreatDoor
