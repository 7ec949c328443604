/-
  The walk of the law FnVaRowsBytes: 12 rows or more are left.
-/
import Derived.Test.YtgiojjlmohhmkaaGreatDoorL2
namespace Go.Proofs.YtgiojjlmohhmkaaGreatDoor
open Go Go.RowKit

set_option maxRecDepth 100000 in
set_option maxHeartbeats 1600000 in
theorem law4_hi {w : World} (A0 A1 : Option Addr) (n0 n1 c0 c1 cols : Nat) (z ns : Nat → Int) (h0 : Ints w .u8 A0 n0 z) (hz : ∀ j, 0 ≤ z j ∧ z j ≤ 255) (h1 : Ints w .i64 A1 n1 ns) (hns : ∀ k, -9223372036854775808 ≤ ns k ∧ ns k ≤ 9223372036854775807)
    (g0 : n0 ≤ 2147483647) (g1 : n1 ≤ 2147483647) (hcols : min n0 10 = cols) (hcp : 0 < cols) (hsm : cols ≤ n1)
    (H12 : Hid (12 ≤ wrap64 ((n1 : Int) / (cols : Int)))) :
    Calls Tryz.prog 4 #[.slice A0 n0 c0, .slice A1 n1 c1] w fun e w' => e = .returned (.bool true) ∧ Below w.heap.size w w' := by
  obtain ⟨i50, ji, jz0, jz1, jz2⟩ := info_parts info50
  obtain ⟨i41, ki, kz0, kz1, kz2⟩ := info_parts info41
  obtain ⟨i5, li, lz0, lz1, lz2⟩ := info_parts info5
  have f0 : decide ((2147483647 : Int) < n0) = false := by simp; omega
  have f1 : decide ((2147483647 : Int) < n1) = false := by simp; omega
  have H1 := hide h1
  have HNS := hide hns
  have HC := hide (codes_any A0 n0 c0 z w h0 hz (by omega))
  clear h0 h1 hns hz
  go_enter Tryz.func4, Tryz.ntmps4
  go_wp2_with fail
  refine HC.out.mono ?_
  rintro e w1 ⟨v7, rfl, hown7, hbel1⟩
  rw [hcols] at hown7
  obtain ⟨g7, cap7, cur7, rfl, hg7, hrow7, hl7, hm7, hs7, ht7⟩ := own_pos hown7 hcp
  have f4 : decide ((n1 : Int) < (cols : Int)) = false := by simp; omega
  have f4n : decide (n1 < cols) = false := by simp; omega
  have f5 : ((cols : Int) == 0) = false := by simp; omega
  have hc10 : cols ≤ 10 := by omega
  have HC7 : Hid (∀ k, k < cols → cur7[k]? = some (.int .i64 (codeAt z k))) := fun k hk => by
    have e : (cur7.toList.take (cols * 1))[k]? = (codesTo z cols)[k]? := by rw [ht7]
    rw [List.getElem?_take, if_pos (by omega), Array.getElem?_toList] at e
    rw [e]
    simp [codesTo, hk, codeAt]
  have H7 := hide hrow7
  have HB1 := hide hbel1
  clear hrow7 ht7 hown7 HC f0 f1 hbel1
  go_wp2_with fail
  clear f4 f5 f4n
  go_loopw [6, 44] (fun l iv wr => ∃ k : Nat, k ≤ cols ∧ iv = .int .i64 k ∧ wr.ownsRow w1.heap.size 50 7 l k (fldsL (codeAt z) k) ∧ Keeps (fun _ => False) w1 wr) (fun _ iv _ => cols - (intOf iv).toNat)
  case atStart => exact ⟨0, Nat.zero_le _, rfl, World.ownsRow_nil _ _ _ _, Keeps.refl _ _⟩
  case round =>
    obtain ⟨k, hk, rfl, hown, hkr⟩ := hrel
    obtain ⟨wo, rfl⟩ : ∃ wo : World, wo = wr := ⟨_, rfl⟩
    by_cases hlt : k < cols
    · have c7 := (H7.out.keeps hkr id).cell k
      rw [HC7.out k hlt] at c7
      have hownx := hown.alloc (.cells (fldCells (codeAt z k)) 50)
      have hsr := hkr.size
      go_wp2_with (at_builtin; refine wpList_append_own _ rfl (.tmp 48) (.tmp 51) 48 rfl w1.heap.size 50 i50 (.agg #[.int .i64 0, .int .i64 0, .int .i64 0, .int .i64 0, .int .i64 0, .int .i64 0, .string ⟨#[]⟩]) 7 64 Tryz.underlying48 ji jz0 jz1 jz2 rfl (by decide) _ _ _ rfl hownx ⟨wo.heap.size, 0, none⟩ 1 1 (fldCells (codeAt z k)).toList rfl rfl ?c1 ?c2 ?c3 ?c4 ?c5 ?_)
      case c1 => exact cells_new _ _ rfl _ _ _ rfl
      case c2 => intro x hx; simp [fldCells] at hx; rcases hx with rfl | rfl | rfl | rfl <;> rfl
      case c3 => unfold maxLen; omega
      case c4 => omega
      case c5 => simp; omega
      intro v' w6 hown6 hg6 _
      have hk6 : Keeps (fun _ => False) w1 w6 := (hkr.alloc _).grown hg6 (fun k e hk => by have := (hown.lt k e).1; omega)
      have HO6 : Hid (w6.ownsRow w1.heap.size 50 7 v' (k + 1) (fldsL (codeAt z) (k + 1))) := hown6
      clear hown6 hg6 hownx hown hkr c7
      go_wp2
      go_roundw
      case rel => exact ⟨k + 1, by omega, by go_num, HO6.out, hk6⟩
      case measure => simp [intOf]; omega
    · obtain rfl : cols = k := by omega
      have HOC := hide hown
      have HKR := hide hkr
      clear hown hkr
      have hrows := rows_of n1 cols hcp hsm g1
      obtain ⟨rows, hr0, hr12, hrq, hr⟩ := hrows
      have HRQ := hide hrq
      obtain ⟨q, hq⟩ : ∃ q : Nat, wrap64 ((n1 : Int) / (cols : Int)) = (q : Int) := ⟨(wrap64 ((n1 : Int) / (cols : Int))).toNat, (Int.toNat_of_nonneg (Int.le_trans (by decide) H12.out)).symm⟩
      have h12 : (12 : Int) ≤ (q : Int) := by rw [← hq]; exact H12.out
      have hrb : Hid ((12 : Int) = (rows : Int)) := hr.elim (fun h => absurd h.1 (Int.not_lt.2 H12.out)) (fun h => h.2)
      have hqv : Value.int .i64 (wrap64 ((n1 : Int) / (cols : Int))) = Value.int .i64 (q : Int) := congrArg (Value.int .i64) hq
      clear hq
      clear hr hrq
      go_wp2_with fail
      rw [hrb.out]
      clear hrb
      clear h12 hqv
      obtain ⟨b1, o1, rfl, hb1, hc1⟩ := H1.out (by omega)
      have HC1 := hide hc1
      clear hc1
      obtain ⟨N, hN⟩ : ∃ N, rows * cols = N := ⟨_, rfl⟩
      have hN0 : 0 < N := by rw [← hN]; exact Nat.mul_pos hr0 hcp
      have hN120 : N ≤ 120 := by rw [← hN]; exact Nat.le_trans (Nat.mul_le_mul hr12 hc10) (by decide)
      have hNn : N ≤ n1 := by rw [← hN]; exact HRQ.out
      have hwN : Value.int .i64 (wrap64 ((rows : Int) * (cols : Int))) = Value.int .i64 (N : Int) := by
        refine congrArg (Value.int .i64) ?_
        have e : ((rows : Int) * (cols : Int)) = ((rows * cols : Nat) : Int) := by simp
        rw [e, hN]
        unfold wrap64
        omega
      have HN := hide hN
      clear hN
      obtain ⟨sv, hsv⟩ : ∃ sv : Nat → Sv, sv = fun k => svOf (codeAt z (k % cols)) (ns k) := ⟨_, rfl⟩
      have HSV : Hid (∀ k, sv k = svOf (codeAt z (k % cols)) (ns k)) := fun k => by rw [hsv]
      clear hsv
      go_loopw [10, 11, 12] (fun v12 v13 iv wr => ∃ (k : Nat) (xs : List Value), k ≤ N ∧ iv = .int .i64 k ∧ wr.ownsRow wo.heap.size 41 22 v12 k xs ∧ WantIs wr wo.heap.size sv k xs v13 ∧ wr.ownsRow wo.heap.size 5 1 v13 (wpos (codeAt z) sv cols k) ((wall (codeAt z) sv cols k).map (Value.int .u8)) ∧ Keeps (fun _ => False) wo wr) (fun _ _ iv _ => N - (intOf iv).toNat)
      case atStart => exact ⟨0, [], Nat.zero_le _, rfl, World.ownsRow_nil _ _ _ _, ⟨rfl, fun m hm => by omega⟩, World.ownsRow_nil _ _ _ _, Keeps.refl _ _⟩
      case round =>
        obtain ⟨k, xs, hk, rfl, ho12, hwant, ho13, hkr⟩ := hrel
        obtain ⟨wi, rfl⟩ : ∃ wi : World, wi = wr := ⟨_, rfl⟩
        by_cases hlt2 : k < N
        · have hkw1 := HKR.out.trans hkr
          have c7 := (H7.out.keeps hkw1 id).cell (k % cols)
          rw [HC7.out _ (Nat.mod_lt _ hcp)] at c7
          have c1 : wi.cell? ⟨b1, o1 + k, none⟩ = some (.int .i64 (ns k)) := by
            have hbw := (hkw1.below (B := w1.heap.size) (fun _ _ => id) (Nat.le_refl _))
            rw [hbw.cell (p := ⟨b1, o1 + k, none⟩) (by have := HB1.out.size; exact Nat.lt_of_lt_of_le hb1 this), HB1.out.cell (p := ⟨b1, o1 + k, none⟩) hb1]
            exact HC1.out k (by omega)
          have hg7w : g7 < wi.heap.size := (H7.out.keeps hkw1 id).lt
          have hb1w : b1 < wi.heap.size := by have := HB1.out.size; have := hkw1.size; omega
          have c7a : ∀ x, (wi.alloc x).cell? ⟨g7, k % cols, none⟩ = some (.int .i64 (codeAt z (k % cols))) := fun x => (World.cell?_alloc_lt wi x _ hg7w).trans c7
          have c1a : ∀ x, (wi.alloc x).cell? ⟨b1, o1 + k, none⟩ = some (.int .i64 (ns k)) := fun x => (World.cell?_alloc_lt wi x _ hb1w).trans c1
          have hkn : k < n1 := Nat.lt_of_lt_of_le hlt2 hNn
          have hcne : ¬ cols = 0 := Nat.ne_of_gt hcp
          have hmm : ((k : Int).tmod (cols : Int)) = ((k % cols : Nat) : Int) := by rw [Int.tmod_eq_emod_of_nonneg (Int.natCast_nonneg _)]; simp
          have hm1 : (0 : Int) ≤ (k : Int).tmod (cols : Int) := by rw [hmm]; exact Int.natCast_nonneg _
          have hm2 : (k : Int).tmod (cols : Int) < (cols : Int) := by rw [hmm]; exact Int.ofNat_lt.2 (Nat.mod_lt _ hcp)
          have hm3 : ((k : Int).tmod (cols : Int)).toNat = k % cols := by rw [hmm]; rfl
          clear hmm
          have HO12 := hide ho12
          have HWANT := hide hwant
          have HO13 := hide ho13
          have HKI := hide hkr
          have HKW1 := hide hkw1
          clear ho12 hwant ho13 hkr hkw1
          go_wp2_with fail
          refine (fun (key : ∀ (p : Nat) (av : Option Addr) (mv cv : Nat) (b : Value) (w4 : World), Laid wi w4 p (svOf (codeAt z (k % cols)) (ns k)) (.slice av mv cv) b (told (codeAt z (k % cols)) (ns k)) → Box ((?theG : Nat → Option Addr → Nat → Nat → Value → World → Prop) p av mv cv b w4)) => ?theB) ?theP
          case theB =>
            go_region_law (first | (go_simp; go_at_call 6; refine (value_any (codeAt z (k % cols)) (codeOf_ok _) (ns k) _).mono ?_; rintro e w3 ⟨v, b, rfl, hv3, hb3, hbe3⟩; obtain ⟨av, mv, cv, rfl⟩ := own_one hv3; have hcs : ((svOf (codeAt z (k % cols)) (ns k)).cells b).size = 22 := rfl; first | (have hrow3 : Row w3 wi.heap.size 41 (valCells 0 0 0 (.slice none 0 0)) := (Row.made wi.drew 41 (valCells 0 0 0 (.slice none 0 0))).below hbe3 (by simp); have hstc := store_cells (P := Tryz.prog) (cells := (svOf (codeAt z (k % cols)) (ns k)).cells b) hrow3 rfl (Sv.all_one _ hb3)) | (have hstc := store_cells (P := Tryz.prog) (cells := (svOf (codeAt z (k % cols)) (ns k)).cells b) (Row.made w3 41 (valCells 0 0 0 (.slice none 0 0))) rfl (Sv.all_one _ hb3); simp only [valCells] at hstc)))
            all_goals first
              | (have L := laid_early hbe3 hv3 hb3
                 clear hbe3 hv3 hb3 hstc hcs
                 generalize World.setRow _ _ _ = w4 at L ⊢
                 generalize wi.heap.size = p at L ⊢
                 exact (key p av mv cv b w4 L).out)
              | (have L := laid_late (Z := valCells 0 0 0 (.slice none 0 0)) hbe3 hv3 hb3
                 clear hbe3 hv3 hb3 hstc hcs
                 simp only [valCells] at L
                 generalize World.setRow _ _ _ = w4 at L ⊢
                 generalize World.heap w3 = hh at L ⊢
                 generalize Array.size hh = p at L ⊢
                 exact (key p av mv cv b w4 L).out)
          case theP =>
            intro p av mv cv b w4 L
            refine ⟨?_⟩
            obtain ⟨hk4, hp, hrow4, _, hob⟩ := L
            rw [← HSV.out k] at hrow4 hob
            have hfx : Fits (codeAt z (k % cols)) (sv k) := by rw [HSV.out k]; exact svOf_fits (codeOf_ok _) _
            have hcx : Clean (sv k) := by rw [HSV.out k]; exact svOf_clean (codeOf_ok _) _
            obtain ⟨ab, mb, cb, rfl⟩ := own_one hob
            have hr7 := (H7.out.keeps HKW1.out id).keeps hk4 id
            have HROW := hide hrow4
            have HOB := hide hob
            have HK4 := hide hk4
            have HR7 := hide hr7
            have hs4 := hk4.size
            have hsw : wo.heap.size ≤ wi.heap.size := HKI.out.size
            clear hrow4 hob hk4 hr7 c7 c1 c7a c1a hwN hm1 hm2 hm3
            go_wp2_with fail
            refine region19_any (p := p) (g7 := g7) (cap7 := cap7) (k := k) (cols := cols) (c := codeAt z (k % cols)) (B := wi.heap.size) (x := sv k) (b := .slice ab mb cb) (cur7 := cur7) rfl rfl rfl rfl hcp HROW.out HR7.out (HC7.out _ (Nat.mod_lt _ hcp)) (codeOf_ok _) hfx hcx HOB.out (by omega) (fun _ _ _ _ _ h => h) ?_
            rintro a' w8 v rfl hov hk8
            simp only [Act.put, List.setIfInBounds_toArray]
            have hwl := wrote_length hfx
            obtain ⟨L8, hL8⟩ : ∃ L8, (wrote (codeAt z (k % cols)) (sv k)).length = L8 := ⟨_, rfl⟩
            have hL0 : 0 < L8 := by rw [← hL8]; simp [wrote]
            rw [hL8] at hov hwl
            have HL8 := hide hL8
            clear hL8
            obtain ⟨gv, capv, curv, rfl, hgv, _, hlv, hmv, _, _⟩ := own_pos hov hL0
            have hL1 : ((L8 : Int) == 0) = false := by simp; omega
            have ho12 := (own_keeps (own_keeps HO12.out HK4.out (fun _ _ _ _ => id)) hk8 (fun _ _ _ _ => id)).alloc (.cells ((sv k).cells (.slice ab mb cb)) 41)
            have hcells := (HROW.out.keeps hk8 id).cells
            have hs8 := hk8.size
            have HOV := hide hov
            have HK8 := hide hk8
            clear hov hk8
            go_wp2_with (first | (refine wpList_load_at rfl 41 (.tmp 13) rfl ⟨p, 0, none⟩ rfl ((sv k).cells (.slice ab mb cb)) _ hcells Tryz.underlying41 rfl size41 ?_; simp only [Sv.cells, valCells]) | (at_builtin; refine wpList_append_own_at _ rfl (.tmp 103) (.tmp 105) 29 rfl wo.heap.size 41 i41 (.agg (valCells 0 0 0 (.slice none 0 0))) 22 248 Tryz.underlying29 ki kz0 kz1 kz2 rfl (by decide) _ _ _ rfl ho12 ⟨w8.heap.size, 0, none⟩ 1 1 ((sv k).cells (.slice ab mb cb)).toList rfl rfl ?c1 ?c2 ?c3 ?c4 ?c5 ?_))
            case c1 => exact cells_new _ _ rfl _ _ _ rfl
            case c2 => exact Sv.one _ HOB.out
            case c3 => unfold maxLen; omega
            case c4 => omega
            case c5 => simp [World.size_alloc]; omega
            intro v5 w5 ho5 hg5 _ hat5
            have hob8 := own_keeps (own_keeps HOB.out HK8.out (fun _ _ _ _ => id)) (Keeps.refl (fun _ => False) w8) (fun _ _ _ _ => id)
            have ho12b := own_keeps (own_keeps HO12.out HK4.out (fun _ _ _ _ => id)) HK8.out (fun _ _ _ _ => id)
            have hk5 : Keeps (fun i => some i = u10.ownBlock) w8 w5 := ((Keeps.refl _ _).alloc _).grown hg5 (fun k e _ => e.symm)
            have hne5 : ∀ i cs, Row w8 i 5 cs → ¬ some i = u10.ownBlock := fun i cs hi e => own_ne ho12b hi (by decide) e.symm
            have hov5 := own_keeps HOV.out hk5 (fun g cs hr _ => hne5 g cs hr)
            have ho13b := own_keeps (own_keeps (own_keeps HO13.out HK4.out (fun _ _ _ _ => id)) HK8.out (fun _ _ _ _ => id)) hk5 (fun g cs hr _ => hne5 g cs hr)
            have hob5 := own_keeps hob8 hk5 (fun g cs hr _ => hne5 g cs hr)
            have hs5 := hk5.size
            have hpl : wpos (codeAt z) sv cols k ≤ 9 * k := wpos_le (fun m => by rw [HSV.out m]; exact svOf_fits (codeOf_ok _) _) k
            have HO5 := hide ho5
            have HNE5 := hide hne5
            have HK5 := hide hk5
            have HOB5 := hide hob5
            have HO13 := hide HO13.out
            clear ho5 hne5 hk5 hob5 hg5 ho12 ho12b hat5 hcells hob8
            go_wp2_with (at_builtin; refine wpList_append_own_at _ rfl (.tmp 107) (.tmp 108) 22 rfl wo.heap.size 5 i5 (.int .u8 0) 1 1 Tryz.underlying22 li lz0 lz1 lz2 rfl (by decide) _ _ _ rfl ho13b ⟨gv, 0, none⟩ L8 capv ((wrote (codeAt z (k % cols)) (sv k)).map (Value.int .u8)) rfl ?d1 (hov5.cells rfl) ?d2 ?d3 ?d4 ?d5 ?_)
            case d1 => simpa using HL8.out
            case d2 => exact ints_oneCell _ _
            case d3 => unfold maxLen; omega
            case d4 => omega
            case d5 => omega
            intro v6 w6 ho6 hg6 _ hat6
            have hk6 : Keeps (fun i => some i = u11.ownBlock) w5 w6 := (Keeps.refl _ _).grown hg6 (fun k e _ => e.symm)
            have hall : Keeps (fun i => some i = u10.ownBlock ∨ some i = u11.ownBlock) wi w6 := (((HK4.out.trans HK8.out).mono (fun _ e => e.elim)).trans (HK5.out.mono (fun _ e => Or.inl e))).trans (hk6.mono (fun _ e => Or.inr e))
            have hl13 : ∀ g, u11.ownBlock = some g → wo.heap.size ≤ g ∧ g < wi.heap.size := fun g e => HO13.out.lt g e
            have hl12 : ∀ g, u10.ownBlock = some g → wo.heap.size ≤ g := fun g e => (HO12.out.lt g e).1
            have hr5 : Hid (w6.ownsRow wo.heap.size 41 22 v5 (k + 1) (xs ++ ((sv k).cells (.slice ab mb cb)).toList)) := own_keeps HO5.out hk6 (fun g cs hr _ e => own_ne ho13b hr (by decide) e.symm)
            have hrb := own_base (own_keeps' HOB5.out hk6 (fun g cs hg _ hbg e => by have := (hl13 g e.symm).2; omega)) hsw
            have hrw : Hid (WantIs w6 wo.heap.size sv (k + 1) (xs ++ ((sv k).cells (.slice ab mb cb)).toList) v6) :=
              HWANT.out.step hall (fun i cs hi _ hn e => e.elim (fun e => own_ne HO12.out hi (by decide) e.symm) (fun e => hn e.symm)) (hat6.imp id (fun e => ⟨_, e, by omega⟩)) hrb
                (fun g hg e => by
                  have h1 := HOB.out.lt g hg
                  rcases hat6 with h | h
                  · rw [h] at e
                    have := (hl13 g e).2
                    omega
                  · rw [h] at e
                    cases e
                    omega)
            have hr6 : Hid (w6.ownsRow wo.heap.size 5 1 v6 (wpos (codeAt z) sv cols (k + 1)) ((wall (codeAt z) sv cols (k + 1)).map (Value.int .u8))) := by
              have h := ho6
              rw [← List.map_append, ← HL8.out] at h
              exact h
            have hr7 : Hid (Keeps (fun _ => False) wo w6) := HKI.out.trans_new hall (fun i hi e => e.elim (fun e => by have := hl12 i e.symm; omega) (fun e => by have := (hl13 i e.symm).1; omega))
            clear ho6 hg6 hat6 hk6 hall hl13 hl12 hrb hov5 ho13b hpl hwl hlv hmv
            go_wp2
            go_roundw
            case rel => exact ⟨k + 1, _, by omega, by go_num, hr5.out, hrw.out, hr6.out, hr7.out⟩
            case measure => simp [intOf]; omega
        · obtain rfl : N = k := by omega
          obtain ⟨g8, cap8, cur8, rfl, hg8, hrow8, hl8, hm8, hs8, ht8⟩ := own_pos HOC.out hcp
          obtain ⟨gb, capb, curb, rfl, hgb, hrowb, hlb, hmb, hsb, htb⟩ := own_pos ho13 (wpos_pos _ _ _ hN0)
          obtain ⟨gw, capw, curw, rfl, hgw, hroww, hlw, hmw, hsw, htw⟩ := own_pos ho12 hN0
          have hcol : ∀ k, k < cols → ∀ j v, (fldCells (codeAt z k)).toList[j]? = some v → cur8[k * 7 + j]? = some v := by
            intro k hk j v hv
            have h1 := fldsL_get (codeAt z) hk hv
            rw [← ht8] at h1
            rw [List.getElem?_take] at h1
            split at h1
            · simpa using h1
            · cases h1
          have hval : ∀ k, k < N → ∃ b base, (∀ j v, ((sv k).cells b).toList[j]? = some v → wi.cell? ⟨gw, k * 22 + j, none⟩ = some v) ∧ Clean (sv k) ∧ wi.ownsRow base 5 1 b (sv k).txt.length ((sv k).txt.map (Value.int .u8)) := by
            intro k hk
            obtain ⟨b, h1, h2, _⟩ := hwant.2 k hk
            exact ⟨b, wo.heap.size, part_cells ho12 h1, by rw [HSV.out k]; exact svOf_clean (codeOf_ok _) _, h2⟩
          have HRB := hide (rowsbytes_any rows cols hcp hc10 hr0 hr12 HN.out (codeAt z) (fun _ => codeOf_ok _) sv (fun m => by rw [HSV.out m]; exact svOf_fits (codeOf_ok _) _) (w := wi) (cb := g8) (cc := cap8) (vb := gw) (vc := capw) (hrow8.keeps hkr id) hcol hroww.lt hval)
          have HO13 := hide ho13
          have HBW : Hid (Below w.heap.size w wi) := HB1.out.trans (((HKR.out.trans hkr).below (B := w1.heap.size) (fun _ _ => id) (Nat.le_refl _)).mono HB1.out.size)
          clear ho12 hwant ho13 hkr hrow8 ht8 hrowb htb hroww htw hcol hval
          go_wp2_with fail
          clear hwN
          refine HRB.out.mono ?_
          rintro e w7 ⟨v, rfl, ho7, hbe7⟩
          obtain ⟨gq, capq, curq, rfl, _, _, _, _, _, _⟩ := own_pos ho7 (wpos_pos _ _ _ hN0)
          have hwl := wall_length (codeAt z) sv cols N
          have T1 := text_of (w := w7) (base := wi.heap.size) (l := wall (codeAt z) sv cols N) (by rw [hwl]; exact ho7)
          have T2 := text_of (w := w7) (base := wo.heap.size) (l := wall (codeAt z) sv cols N) (by rw [hwl]; exact own_keeps HO13.out (Keeps.of_below hbe7 (fun _ => False)) (fun _ _ _ _ => id))
          have HEND : Hid (Below w.heap.size w w7) := HBW.out.trans (hbe7.mono HBW.out.size)
          clear ho7 hbe7 HRB HO13 HBW hwl
          go_wp2
          go_ret
          exact ⟨rfl, HEND.out⟩
end Go.Proofs.YtgiojjlmohhmkaaGreatDoor
