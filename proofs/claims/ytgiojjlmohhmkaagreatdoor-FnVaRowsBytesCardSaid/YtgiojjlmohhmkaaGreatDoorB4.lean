/-
  The walk of vaValue at the type code of texts.
-/
import Derived.Test.YtgiojjlmohhmkaaGreatDoorB3
namespace Go.Proofs.YtgiojjlmohhmkaaGreatDoor
open Go Go.RowKit

/-- The letter of the place k, as the code reckons it. -/
def chr (u k : Int) : Int := IntKind.u64.wrap (97 + (IntKind.u64.wrap (u + k)).tmod 26) % 256
/-- The first k letters of a text of m. -/
def txtTo (u : Int) (m k : Nat) : List Int := (List.range k).map fun j => chr u ((m - j : Nat) : Int)
def txtOf (n : Int) : List Int := txtTo (IntKind.u64.wrap n) (IntKind.u64.wrap n % 7).toNat (IntKind.u64.wrap n % 7).toNat
theorem txtTo_length (u : Int) (m k : Nat) : (txtTo u m k).length = k := by simp [txtTo]
theorem txtTo_succ (u : Int) (m j i : Nat) (h : j + (i + 1) = m) : (txtTo u m (j + 1)).map (Value.int .u8) = (txtTo u m j).map (Value.int .u8) ++ [.int .u8 (chr u (i + 1))] := by
  have e : ((m - j : Nat) : Int) = (i : Int) + 1 := by omega
  unfold txtTo
  rw [List.range_succ, List.map_append, List.map_append, List.map_singleton, e]
  rfl
theorem txtOf_length (n : Int) : (txtOf n).length < 7 := by
  have := u64_lo n
  rw [txtOf, txtTo_length]
  omega

theorem own_empty {w : World} {base g : Nat} {e : TypeId} {size : Nat} (h : Row w g e #[]) (hb : base ≤ g) : w.ownsRow base e size (.slice (some ⟨g, 0, none⟩) 0 0) 0 [] :=
  ⟨by simp, .inr ⟨g, 0, #[], rfl, hb, h, Nat.le_refl _, by decide, by simp, by simp⟩⟩

set_option maxRecDepth 100000 in
set_option maxHeartbeats 400000 in
theorem value_29 (n : Int) (w : World) :
    Calls Tryz.prog 6 #[.int .i64 29, .int .i64 n] w fun e w' => ∃ v b, e = .returned (.tuple #[.agg (valCells 4 0 0 b), v]) ∧ w'.ownsRow w.heap.size 5 1 v ((txtOf n).length + 1) (.int .u8 (txtOf n).length :: (txtOf n).map (Value.int .u8)) ∧
      w'.ownsRow w.heap.size 5 1 b (txtOf n).length ((txtOf n).map (Value.int .u8)) ∧ Below w.heap.size w w' := by
  obtain ⟨i0, hi, hz0, hz1, hz2⟩ := info_parts info5
  have hu0 := u64_lo n
  have hu1 := u64_hi n
  unfold txtOf
  generalize hu : IntKind.u64.wrap n = u at hu0 hu1 ⊢
  obtain ⟨m, hm⟩ : ∃ m : Nat, u % 7 = (m : Int) := ⟨(u % 7).toNat, by omega⟩
  have hm7 : m < 7 := by omega
  have hmt : u.tmod 7 = m := by rw [Int.tmod_eq_emod_of_nonneg hu0]; exact hm
  go_enter Tryz.func6, Tryz.ntmps6
  go_wp2_with fail
  have HU := hide hu
  have HM := hide hm
  clear hm hmt
  go_loopw [7, 8] (fun v k wr => ∃ j i : Nat, j + i = m ∧ k = .int .u64 i ∧ wr.ownsRow w.heap.size 5 1 v j ((txtTo u m j).map (Value.int .u8)) ∧ ¬ v = .slice none 0 0 ∧ Row wr w.heap.size 41 (valCells 0 0 0 (.slice none 0 0)) ∧ Below w.heap.size w wr) (fun _ k _ => (intOf k).toNat)
  case atStart =>
    refine ⟨0, m, by omega, by go_num, ?_, (by intro h; cases h), (Row.made w 41 _).alloc _, ((Below.refl _ _).alloc (Nat.le_refl _) _).alloc (by simp) _⟩
    exact own_empty (by have h := Row.made (w.alloc (.cells (valCells 0 0 0 (.slice none 0 0)) 41)) 5 #[]; rw [World.size_alloc] at h; exact h) (by omega)
  case round =>
    obtain ⟨j, i, hji, rfl, hown, hne, hrow, hbel⟩ := hrel
    obtain ⟨g, cap, rfl, hg0, hg1, hcap⟩ := own_form hown hne
    clear hne
    rcases i with _ | i
    · have hnew : Row (wr.alloc (.cells #[.int .u8 (j : Int)] 5)) wr.heap.size 5 #[.int .u8 (j : Int)] := Row.made _ _ _
      have hbs := hbel.size
      have hown65 := hnew.own (base := w.heap.size) (size := 1) (n := 1) (by omega) rfl (by decide)
      go_wp2_with (at_builtin; refine wpList_append_own _ rfl (.tmp 65) (.tmp 66) 22 rfl w.heap.size 5 i0 (.int .u8 0) 1 1 Tryz.underlying22 hi hz0 hz1 hz2 rfl (by decide) _ 1 _ rfl hown65 ⟨g, 0, none⟩ j cap ((txtTo u m j).map (Value.int .u8)) rfl ?d1 ?d2 ?d3 ?d4 ?d5 ?d6 ?_)
      case d1 => simp [txtTo_length]
      case d2 => intro a b hab; have h2 := hown.cells (g := g) rfl a (.int .u8 b) (by simp [hab]); rw [at_add] at h2; exact h2
      case d3 => intro a _; rfl
      case d4 => unfold maxLen; omega
      case d5 => omega
      case d6 => omega
      intro v' w2 hown2 hg2 _
      have hb2 : Below w.heap.size w w2 := (hbel.alloc hbel.size _).grown hg2 (by simp; omega) (by intro k hk; simp [Value.ownBlock] at hk; omega)
      have hrow2 : Row w2 w.heap.size 41 (valCells 0 0 0 (.slice none 0 0)) := (hg2.block _ (by have := hrow.lt; simp; omega) (by simp [Value.ownBlock]; have := hrow.lt; omega)).trans (hrow.alloc _)
      have hown3 : w2.ownsRow w.heap.size 5 1 (.slice (some ⟨g, 0, none⟩) j cap) j ((txtTo u m j).map (Value.int .u8)) := (hown.alloc _).kept hg2 (Or.inr (by simp [Value.ownBlock]; omega))
      have HF : Hid (u = IntKind.u64.wrap n) := hu.symm
      clear hg2 hown hbel hrow hown65 hnew hbs hu
      go_wp2_with (refine wpList_store_row rfl 41 (.tmp 4) (.tmp 61) rfl w.heap.size (valCells 4 0 0 (.slice (some ⟨g, 0, none⟩) j cap)) rfl rfl 41 _ hrow2 size41 rfl (valCells_one _ _ _ _ _ _) ?_)
      refine bodyPost_ret (results_row_tmp (P := Tryz.prog) rfl _ _ w.heap.size 41 (valCells 4 0 0 (.slice (some ⟨g, 0, none⟩) j cap)) _ rfl (hrow2.setRow _) Tryz.underlying41 rfl size41) rfl ?_
      obtain rfl : j = m := by omega
      have em : (u % 7).toNat = j := by have := HM.out; omega
      refine ⟨v', .slice (some ⟨g, 0, none⟩) j cap, rfl, ?_, ?_, below_setRow' hb2 (Nat.le_refl _) _⟩
      · rw [em, txtTo_length, Nat.add_comm j 1]
        exact own_setRow hown2 (own_ne hown2 hrow2 (by decide)) _
      · rw [em, txtTo_length]
        exact own_setRow hown3 (own_ne hown3 hrow2 (by decide)) _
    · go_wp2_with (at_builtin; refine wpList_append_own _ rfl (.tmp 50) (.tmp 58) 22 rfl w.heap.size 5 i0 (.int .u8 0) 1 1 Tryz.underlying22 hi hz0 hz1 hz2 rfl (by decide) _ _ _ rfl (hown.alloc _) ⟨wr.heap.size, 0, none⟩ 1 1 [.int .u8 (chr u (i + 1))] rfl rfl ?c1 ?c2 ?c3 ?c4 ?c5 ?_)
      case c1 => exact cells_new _ _ rfl _ _ _ rfl
      case c2 => intro x hx; simp at hx; subst hx; rfl
      case c3 => unfold maxLen; omega
      case c4 => omega
      case c5 => have := hbel.size; simp; omega
      intro v' w1 hown1 hg1 hnil
      have hb1 : Below w.heap.size w w1 := (hbel.alloc hbel.size _).grown hg1 (by have := hbel.size; simp; omega) (fun k hk => (hown.lt k hk).1)
      have hrow1 : Row w1 w.heap.size 41 (valCells 0 0 0 (.slice none 0 0)) := (hg1.block _ (by have := hrow.lt; simp; omega) (fun e => own_ne hown hrow (by decide) e.symm)).trans (hrow.alloc _)
      rw [← txtTo_succ u m j i hji] at hown1
      clear hg1 hown hbel hrow
      have HN := hide hnil
      clear hnil
      go_wp2
      go_roundw
      case rel => exact ⟨j + 1, i, by omega, by go_num, hown1, HN.out, hrow1, hb1⟩
      case measure => simp [intOf]
end Go.Proofs.YtgiojjlmohhmkaaGreatDoor
