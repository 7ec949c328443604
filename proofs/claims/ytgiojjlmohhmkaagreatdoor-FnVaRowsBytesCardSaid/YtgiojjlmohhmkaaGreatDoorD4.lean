/-
  The walks of ZzRowset and of valOf.
-/
import Derived.Test.YtgiojjlmohhmkaaGreatDoorD3
namespace Go.Proofs.YtgiojjlmohhmkaaGreatDoor
open Go Go.RowKit

set_option maxRecDepth 100000 in
set_option maxHeartbeats 800000 in
theorem rowset_any (rows cols : Nat) (hc0 : 0 < cols) (hc1 : cols ≤ 10) (hr1 : rows ≤ 12) (codes : Nat → Nat) (hcodes : ∀ j, CodeOk (codes j)) (ns : Nat → Int) (hns : ∀ k, -9223372036854775808 ≤ ns k ∧ ns k ≤ 9223372036854775807)
    {w : World} {L lc d s r : Nat} {bs : List Int} {fl : Nat → Nat} {nm : Nat → Value} {C : Array Value} (hL : Row w L 63 C)
    (hC : ∀ j, j < cols → C[j]? = some (.pointer (some ⟨fl j, 0, none⟩))) (hf : ∀ j, j < cols → Row w (fl j) 98 (fieldCells (nm j) (codes j))) (hD : Dec w d s r bs 0) (hb : ∀ j, 0 ≤ bt bs j ∧ bt bs j ≤ 255)
    (hat : ∀ k, k < rows * cols → At bs (pos codes ns cols k) (told (codes (k % cols)) (ns k))) :
    Calls Tryz.prog 19 #[.pointer (some ⟨d, 0, none⟩), .slice (some ⟨L, 0, none⟩) cols lc, .int .i64 rows] w fun e w' => ∃ G X, e = .returned (.tuple #[.slice (some ⟨G, 0, none⟩) (rows * cols) (rows * cols), .slice none 0 0, .nilIface]) ∧ w.heap.size ≤ G ∧
      Row w' G 20 X ∧ Vals w' (G + 1) (fun k => svOf (codes (k % cols)) (ns k)) (rows * cols) (rows * cols) X ∧
      Dec w' d s r bs (pos codes ns cols (rows * cols)) ∧ Keeps (fun i => i = d ∨ i = s) w w' := by
  have HS := hide (set_any (w := w.alloc (.cells (setCells (.slice (some ⟨L, 0, none⟩) cols lc) (.slice none 0 0)) 108)) (R := w.heap.size) rows cols hc0 hc1 hr1 codes hcodes ns hns (Row.made _ _ _) (hL.alloc _) hC (fun j hj => (hf j hj).alloc _) (hD.alloc _) hb hat)
  clear hL hC hf hD hb hat hcodes hns
  go_enter Tryz.func19, Tryz.ntmps19
  go_wp2_with fail
  refine HS.out.mono ?_
  rintro e w1 ⟨rfl, G, X, hG, hR1, hX1, hV1, hD1, hk1⟩
  have hk : Keeps (fun i => i = d ∨ i = s) w w1 := ((Keeps.refl _ _).alloc _).trans_new hk1 (fun i hi e => by omega)
  have c1 := hR1.cell 1
  have c2 := hR1.cell 2
  simp [setCells] at c1 c2
  clear HS
  go_wp2_with fail
  refine wp_loop_rounds 1 ?_
  rw [rounds_succ]
  go_wp2
  go_ret3
  exact ⟨G, X, rfl, by simp at hG; omega, hX1, hV1, hD1, hk⟩
/-- The assertions of a type switch over integers, floats and bytes. -/
theorem ta_2_4 (v : Value) (w : World) : (Instr.typeAssert (.iface 2 v) 20 4 true).run Tryz.prog w = .ok (.tuple #[.bool false, .bool false]) w := by kernel_rfl
theorem ta_2_2 (v : Value) (w : World) : (Instr.typeAssert (.iface 2 v) 20 2 true).run Tryz.prog w = .ok (.tuple #[v, .bool true]) w := by kernel_rfl
theorem ta_30_4 (v : Value) (w : World) : (Instr.typeAssert (.iface 30 v) 20 4 true).run Tryz.prog w = .ok (.tuple #[.bool false, .bool false]) w := by kernel_rfl
theorem ta_30_2 (v : Value) (w : World) : (Instr.typeAssert (.iface 30 v) 20 2 true).run Tryz.prog w = .ok (.tuple #[.int .i64 0, .bool false]) w := by kernel_rfl
theorem ta_30_30 (v : Value) (w : World) : (Instr.typeAssert (.iface 30 v) 20 30 true).run Tryz.prog w = .ok (.tuple #[v, .bool true]) w := by kernel_rfl
theorem ta_22_4 (v : Value) (w : World) : (Instr.typeAssert (.iface 22 v) 20 4 true).run Tryz.prog w = .ok (.tuple #[.bool false, .bool false]) w := by kernel_rfl
theorem ta_22_2 (v : Value) (w : World) : (Instr.typeAssert (.iface 22 v) 20 2 true).run Tryz.prog w = .ok (.tuple #[.int .i64 0, .bool false]) w := by kernel_rfl
theorem ta_22_30 (v : Value) (w : World) : (Instr.typeAssert (.iface 22 v) 20 30 true).run Tryz.prog w = .ok (.tuple #[.float .f64 0, .bool false]) w := by kernel_rfl
theorem ta_22_22 (v : Value) (w : World) : (Instr.typeAssert (.iface 22 v) 20 22 true).run Tryz.prog w = .ok (.tuple #[v, .bool true]) w := by kernel_rfl

set_option maxRecDepth 100000 in
set_option maxHeartbeats 800000 in
theorem val_2 (n : Int) (w : World) :
    Calls Tryz.prog 20 #[.iface 2 (.int .i64 n)] w fun e w' => e = .returned (.agg (valCells 2 n 0 (.slice none 0 0))) ∧ Below w.heap.size w w' := by
  have hw0 : Row (w.alloc (.cells (valCells 0 0 0 (.slice none 0 0)) 41)) w.heap.size 41 (valCells 0 0 0 (.slice none 0 0)) := Row.made _ _ _
  have t4 := ta_2_4
  have t2 := ta_2_2
  go_enter Tryz.func20, Tryz.ntmps20
  go_wp2_with (refine wpList_store_row rfl 41 (.tmp 2) (.tmp 29) rfl w.heap.size (valCells 2 n 0 (.slice none 0 0)) rfl rfl 41 _ hw0 size41 rfl (valCells_one _ _ _ _ _ _) ?_)
  refine bodyPost_ret (results_cell_row (P := Tryz.prog) rfl _ _ w.heap.size 41 (valCells 2 n 0 (.slice none 0 0)) (0, 0) _ rfl (hw0.setRow _) Tryz.underlying41 rfl size41) rfl ?_
  exact ⟨rfl, below_setRow' ((Below.refl _ _).alloc (Nat.le_refl _) _) (Nat.le_refl _) _⟩

set_option maxRecDepth 100000 in
set_option maxHeartbeats 800000 in
theorem val_3 (b : Nat) (w : World) :
    Calls Tryz.prog 20 #[.iface 30 (.float .f64 b)] w fun e w' => e = .returned (.agg (valCells 3 0 b (.slice none 0 0))) ∧ Below w.heap.size w w' := by
  have hw0 : Row (w.alloc (.cells (valCells 0 0 0 (.slice none 0 0)) 41)) w.heap.size 41 (valCells 0 0 0 (.slice none 0 0)) := Row.made _ _ _
  have t4 := ta_30_4
  have t2 := ta_30_2
  have t30 := ta_30_30
  go_enter Tryz.func20, Tryz.ntmps20
  go_wp2_with (refine wpList_store_row rfl 41 (.tmp 2) (.tmp 34) rfl w.heap.size (valCells 3 0 b (.slice none 0 0)) rfl rfl 41 _ hw0 size41 rfl (valCells_one _ _ _ _ _ _) ?_)
  refine bodyPost_ret (results_cell_row (P := Tryz.prog) rfl _ _ w.heap.size 41 (valCells 3 0 b (.slice none 0 0)) (0, 0) _ rfl (hw0.setRow _) Tryz.underlying41 rfl size41) rfl ?_
  exact ⟨rfl, below_setRow' ((Below.refl _ _).alloc (Nat.le_refl _) _) (Nat.le_refl _) _⟩

set_option maxRecDepth 100000 in
set_option maxHeartbeats 800000 in
theorem val_4 (g : Nat) (l : List Int) (w : World) (hg : Row w g 5 (l.map (Value.int .u8)).toArray) (hl : l.length < 7) :
    Calls Tryz.prog 20 #[.iface 22 (.slice (some ⟨g, 0, none⟩) l.length l.length)] w fun e w' => ∃ b, e = .returned (.agg (valCells 4 0 0 b)) ∧ w'.ownsRow w.heap.size 5 1 b l.length (l.map (Value.int .u8)) ∧ Below w.heap.size w w' := by
  obtain ⟨i0, hi, hz0, hz1, hz2⟩ := info_parts info5
  have hw0 : Row ((w.alloc (.cells (valCells 0 0 0 (.slice none 0 0)) 41)).alloc (.cells #[] 5)) w.heap.size 41 (valCells 0 0 0 (.slice none 0 0)) := (Row.made _ _ _).alloc _
  have hr0 : Row ((w.alloc (.cells (valCells 0 0 0 (.slice none 0 0)) 41)).alloc (.cells #[] 5)) (w.heap.size + 1) 5 #[] := by
    have h := Row.made (w.alloc (.cells (valCells 0 0 0 (.slice none 0 0)) 41)) 5 #[]
    rw [World.size_alloc] at h
    exact h
  have hown0 := own_empty (base := w.heap.size) (size := 1) hr0 (by omega)
  have hg2 := (hg.alloc (.cells (valCells 0 0 0 (.slice none 0 0)) 41)).alloc (.cells #[] 5)
  have hglt := hg.lt
  clear hg hr0
  have t4 := ta_22_4
  have t2 := ta_22_2
  have t30 := ta_22_30
  have t22 := ta_22_22
  go_enter Tryz.func20, Tryz.ntmps20
  go_wp2_with (at_builtin; refine wpList_append_own _ rfl (.tmp 38) (.tmp 39) 22 rfl w.heap.size 5 i0 (.int .u8 0) 1 1 Tryz.underlying22 hi hz0 hz1 hz2 rfl (by decide) _ 0 [] rfl hown0 ⟨g, 0, none⟩ l.length l.length (l.map (Value.int .u8)) rfl ?c1 ?c2 ?c3 ?c4 ?c5 ?c6 ?_)
  case c1 => simp
  case c2 => exact hg2.cells
  case c3 => exact ints_oneCell _ _
  case c4 => unfold maxLen; omega
  case c5 => omega
  case c6 => simp; omega
  intro v' w2 hown2 hgr hnil
  have hw2 : Row w2 w.heap.size 41 (valCells 0 0 0 (.slice none 0 0)) := (hgr.block _ (by simp; omega) (by simp [Value.ownBlock])).trans hw0
  have hb2 : Below w.heap.size w w2 := (((Below.refl _ _).alloc (Nat.le_refl _) _).alloc (by simp) _).grown hgr (by simp; omega) (by intro k hk; simp [Value.ownBlock] at hk; omega)
  obtain ⟨g3, cap3, rfl, hb3, hl3, hc3⟩ := own_form hown2 hnil
  clear hown0 hg2 hgr hnil hw0
  go_wp2_with (refine wpList_store_row rfl 41 (.tmp 2) (.tmp 41) rfl w.heap.size (valCells 4 0 0 (.slice (some ⟨g3, 0, none⟩) l.length cap3)) rfl rfl 41 _ hw2 size41 rfl (valCells_one _ _ _ _ _ _) ?_)
  refine bodyPost_ret (results_cell_row (P := Tryz.prog) rfl _ _ w.heap.size 41 (valCells 4 0 0 (.slice (some ⟨g3, 0, none⟩) l.length cap3)) (0, 0) _ rfl (hw2.setRow _) Tryz.underlying41 rfl size41) rfl ?_
  exact ⟨_, rfl, own_setRow hown2 (own_ne hown2 hw2 (by decide)) _, below_setRow' hb2 (Nat.le_refl _) _⟩

/-- A value as Go's any, turned back into a value. -/
theorem val_any {w : World} {B : Nat} {v : Value} {x : Sv} (h : IsAny w B v x) (hl : x.txt.length < 7) :
    Calls Tryz.prog 20 #[v] w fun e w' => ∃ b, e = .returned (.agg (x.cells b)) ∧ w'.ownsRow w.heap.size 5 1 b x.txt.length (x.txt.map (Value.int .u8)) ∧ Below w.heap.size w w' := by
  obtain ⟨k, i, f, l⟩ := x
  rcases h with ⟨h1, h2, h3, h4⟩ | ⟨h1, h2, h3, h4⟩ | ⟨h1, h2, h3, g, h4, h5, h6⟩
  · simp only at h1 h2 h3 h4
    subst h1 h2 h3 h4
    exact (val_2 i w).mono fun e w' ⟨he, hb⟩ => ⟨_, he, World.ownsRow_nil _ _ _ _, hb⟩
  · simp only at h1 h2 h3 h4
    subst h1 h2 h3 h4
    exact (val_3 f w).mono fun e w' ⟨he, hb⟩ => ⟨_, he, World.ownsRow_nil _ _ _ _, hb⟩
  · simp only at h1 h2 h3 h4 h6 hl
    subst h1 h2 h3 h4
    exact (val_4 g l w h6 hl).mono fun e w' ⟨b, he, ho, hb⟩ => ⟨b, he, ho, hb⟩
theorem svOf_txt (c : Nat) (n : Int) : (svOf c n).txt.length < 7 := by
  unfold svOf
  repeat (split; · simp)
  exact txtOf_length n
end Go.Proofs.YtgiojjlmohhmkaaGreatDoor
