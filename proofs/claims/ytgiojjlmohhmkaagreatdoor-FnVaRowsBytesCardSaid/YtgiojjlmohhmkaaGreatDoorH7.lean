/-
  The walk of anyOf: a value as Go's any.
-/
import Derived.Test.YtgiojjlmohhmkaaGreatDoorH6
import Derived.Test.YtgiojjlmohhmkaaGreatDoorF3
namespace Go.Proofs.YtgiojjlmohhmkaaGreatDoor
open Go Go.RowKit

theorem own_lies {w : World} {B g c : Nat} {l : List Int} (h : w.ownsRow B 5 1 (.slice (some ⟨g, 0, none⟩) l.length c) l.length (l.map (Value.int .u8))) : Lies w g l := by
  rcases h.2 with ⟨hv, _⟩ | ⟨g', cap, cur, hv, _, hh, _, _, _, ht⟩
  · cases hv
  · cases hv
    exact ⟨cur, hh, by simpa using ht⟩
theorem Below.drewLast {B : Nat} {w w' : World} (h : Below B w w') : Below B w w'.drew := h.trans ⟨rfl, rfl, rfl, Nat.le_refl _, fun _ _ => rfl⟩
/-- An append to a slice of the call's own, in a region that draws its order: as step_append_own, and whether it is nil. -/
theorem step_append_own_nil {P : Program} {ops : Array Oper} {o : Oper} {a : Act} {w : World} {K : Act → World → Prop} {Q : Exit → Act → World → Prop} {E : Prop} (hgd : o.guard = none) (s x : Operand) (t : TypeId)
    (ho : o.op = .call { callee := .builtin .append, args := #[s, x], argTypes := #[t, t] })
    (base : Nat) (e : TypeId) (i : TypeInfo) (z : Value) (size bytes : Nat) (ht : P.underlying t = some (.slice e)) (hi : P.info? e = some i) (hz : i.zero = some z)
    (hsize : i.size = size) (hby : i.bytes = bytes) (hzs : z.cells.size = size) (hsz : 0 < size)
    (v : Value) (n : Nat) (xs : List Value) (hs : a.eval s = v) (hown : w.ownsRow base e size v n xs)
    (ad : Addr) (m c : Nat) (news : List Value) (hx : a.eval x = .slice (some ad) m c) (hl : news.length = m * size) (hnews : ∀ j u, news[j]? = some u → w.cell? (ad.add j) = some u) (h1 : ∀ u ∈ news, u.oneCell' = true)
    (h63 : n + m ≤ maxLen) (hbytes : (n + m) * bytes ≤ 140737488355328) (hbase : base ≤ w.heap.size)
    (h : ∀ v' w', w'.ownsRow base e size v' (n + m) (xs ++ news) → w.grownBy w' v.ownBlock → (v' = .slice none 0 0 ↔ v = .slice none 0 0 ∧ m = 0) → K (a.put o.dst v') w') :
    if Region.wanted o (yielded ops a.tmps) = true then Oper.wp P o a w K Q else E := by
  have hw : Region.wanted o (yielded ops a.tmps) = true := by simp [Region.wanted, hgd]
  rw [if_pos hw]
  exact wp_append_own w s x t ho base e i z size bytes ht hi hz hsize hby hzs hsz v n xs hs hown ad m c news hx hl hnews h1 h63 hbytes hbase h

set_option maxRecDepth 100000 in
set_option maxHeartbeats 800000 in
theorem anyof_2 (n : Int) (a : Option Addr) (m c : Nat) (w : World) :
    Calls Tryz.prog 23 #[.agg (valCells 2 n 0 (.slice a m c))] w fun e w' => e = .returned (.tuple #[.iface 2 (.int .i64 n), .bool true]) ∧ Below w.heap.size w w' := by
  simp only [valCells]
  go_enter Tryz.func23, Tryz.ntmps23
  go_wp2
  go_ret2
  exact ⟨rfl, (Below.refl _ _).alloc (Nat.le_refl _) _⟩
set_option maxRecDepth 100000 in
set_option maxHeartbeats 800000 in
theorem anyof_3 (n : Nat) (a : Option Addr) (m c : Nat) (w : World) :
    Calls Tryz.prog 23 #[.agg (valCells 3 0 n (.slice a m c))] w fun e w' => e = .returned (.tuple #[.iface 30 (.float .f64 n), .bool true]) ∧ Below w.heap.size w w' := by
  simp only [valCells]
  go_enter Tryz.func23, Tryz.ntmps23
  go_wp2
  go_ret2
  exact ⟨rfl, (Below.refl _ _).alloc (Nat.le_refl _) _⟩
set_option maxRecDepth 100000 in
set_option maxHeartbeats 3200000 in
theorem anyof_4 (l : List Int) (hl : l.length < 7) {w : World} {base : Nat} {a : Option Addr} {m c : Nat} (hb : w.ownsRow base 5 1 (.slice a m c) l.length (l.map (Value.int .u8))) :
    Calls Tryz.prog 23 #[.agg (valCells 4 0 0 (.slice a m c))] w fun e w' => ∃ g cc, e = .returned (.tuple #[.iface 22 (.slice (some ⟨g, 0, none⟩) l.length cc), .bool true]) ∧ w.heap.size ≤ g ∧ g < w'.heap.size ∧ Lies w' g l ∧ Below w.heap.size w w' := by
  obtain ⟨i5, li, lz0, lz1, lz2⟩ := info_parts info5
  have hb1 := hb.alloc (.cells (valCells 4 0 0 (.slice a m c)) 41)
  simp only [valCells] at hb1 ⊢
  obtain ⟨A, hA⟩ : ∃ A : Obj, A = .cells #[.int .i64 4, .bool false, .int .i64 0, .float .f64 0, .slice a m c, .string ⟨#[]⟩, .int .i64 0, .int .i64 0, .int .i64 0, .int .i64 0, .int .i64 0, .int .i64 0, .int .i64 0, .bool false, .slice none 0 0, .slice none 0 0, .int .i64 0, .int .i64 0, .int .i64 0, .int .i64 0, .int .u64 0, .slice none 0 0] 41 := ⟨_, rfl⟩
  have hown0 : ((w.alloc A).drew.alloc (.cells #[] 5)).ownsRow (w.heap.size + 1) 5 1 (.slice (some ⟨w.heap.size + 1, 0, none⟩) 0 0) 0 [] := own_empty (by have h := Row.made (w.alloc A).drew 5 #[]; rw [show (w.alloc A).drew.heap.size = w.heap.size + 1 from World.size_alloc _ _] at h; exact h) (Nat.le_refl _)
  have hrow : Row (w.alloc A).drew w.heap.size 41 #[.int .i64 4, .bool false, .int .i64 0, .float .f64 0, .slice a m c, .string ⟨#[]⟩, .int .i64 0, .int .i64 0, .int .i64 0, .int .i64 0, .int .i64 0, .int .i64 0, .int .i64 0, .bool false, .slice none 0 0, .slice none 0 0, .int .i64 0, .int .i64 0, .int .i64 0, .int .i64 0, .int .u64 0, .slice none 0 0] := by rw [hA]; exact Row.made w 41 _
  rw [← hA] at hb1
  have hkA : Below w.heap.size w (w.alloc A) := (Below.refl _ _).alloc (Nat.le_refl _) _
  have h7 : (l.length : Int) ≤ 131072 := by omega
  subst hA
  have HROW := hide hrow
  have HOWN0 := hide hown0
  rcases hb1.2 with ⟨hv, hn⟩ | ⟨g, cap, cur, hv, hbg, hh, hn, hcm, hs, ht⟩
  · cases hv
    obtain rfl : l = [] := List.eq_nil_of_length_eq_zero hn
    clear hb1 hb hrow hown0
    go_enter Tryz.func23, Tryz.ntmps23
    go_wp2_with fail
    have c4 := HROW.out.cell 4
    have c4a : (World.alloc (World.drew _) (.cells #[] 5)).cell? ⟨w.heap.size, 4, none⟩ = some (.slice none 0 0) := (HROW.out.alloc _).cell 4
    simp at c4
    go_region_law (refine step_append_own_none rfl (.tmp 30) (.tmp 32) 22 rfl (w.heap.size + 1) 5 i5 1 Tryz.underlying22 li (.slice (some ⟨w.heap.size + 1, 0, none⟩) 0 0) 0 [] (by simp [Act.eval, Act.put]) HOWN0.out (by simp [Act.eval, Act.put]) ?_)
    all_goals
      go_wp2
      go_ret2
      refine ⟨w.heap.size + 1, 0, rfl, by omega, by simp [World.size_alloc], ⟨#[], ?_, rfl⟩, (Below.drewLast (hkA.alloc hkA.size _))⟩
      have h := (HOWN0.out).2
      rcases h with ⟨h, _⟩ | ⟨g, cap, cur, hv, _, hh, _, _, hs, _⟩
      · cases h
      · cases hv
        obtain rfl : cur = #[] := by simpa using hs
        exact hh
  · cases hv
    have HB1 := hide hb1
    clear hb1 hb hrow hown0 ht hh
    go_enter Tryz.func23, Tryz.ntmps23
    go_wp2_with fail
    have c4 := HROW.out.cell 4
    simp at c4
    have c4a : (World.alloc (World.drew _) (.cells #[] 5)).cell? ⟨w.heap.size, 4, none⟩ = some (.slice (some ⟨g, 0, none⟩) l.length c) := (HROW.out.alloc _).cell 4
    go_region_law (refine step_append_own_nil rfl (.tmp 30) (.tmp 32) 22 rfl (w.heap.size + 1) 5 i5 (.int .u8 0) 1 1 Tryz.underlying22 li lz0 lz1 lz2 rfl (by decide) (.slice (some ⟨w.heap.size + 1, 0, none⟩) 0 0) 0 [] (by simp [Act.eval, Act.put]) HOWN0.out ⟨g, 0, none⟩ l.length c (l.map (Value.int .u8)) (by simp [Act.eval, Act.put]) (by simp) ((HB1.out.drew.alloc _).cells rfl) (ints_oneCell _ _) (by unfold maxLen; omega) (by omega) (by simp [World.size_alloc]) ?_; intro v2 w2 ho2 hg2 hnil2; obtain ⟨g2, cap2, rfl, hgb2, hgl2, hcm2⟩ := own_form ho2 (fun h => by have := (hnil2.1 h).1; cases this); have hk2 : Keeps (fun _ => False) w w2 := ((Keeps.of_below hkA (fun _ => False)).drew.alloc _).grown hg2 (fun i e hi => by simp [Value.ownBlock] at e; omega); have c5 : w2.cell? ⟨w.heap.size, 4, none⟩ = some (.slice (some ⟨g, 0, none⟩) l.length c) := ((Row.below (HROW.out.alloc _) ⟨hg2.os, hg2.tape, hg2.output, hg2.size, fun k hk => hg2.block k (by simp [World.size_alloc]; omega) (by simp [Value.ownBlock]; omega)⟩ (show w.heap.size < w.heap.size + 1 by omega)).cell 4))
    all_goals
      rw [Nat.zero_add, List.nil_append] at ho2
      have HL := hide (own_lies ho2)
      have HB := hide (hk2.below (B := w.heap.size) (fun _ _ => id) (Nat.le_refl _))
      clear ho2 hg2 hnil2 hk2 c5
      go_wp2
      go_ret2
      exact ⟨g2, cap2, rfl, by omega, hgl2, HL.out, HB.out⟩

/-- A value turned into Go's any. -/
theorem anyof_any {c : Nat} {x : Sv} (hx : Fits c x) (h0 : x.kind = 2 → x.fl = 0 ∧ x.txt = []) (h1 : x.kind = 3 → x.int = 0 ∧ x.txt = []) (h2 : x.kind = 4 → x.int = 0 ∧ x.fl = 0) {w : World} {base : Nat} {b : Value} (hb : w.ownsRow base 5 1 b x.txt.length (x.txt.map (Value.int .u8))) :
    Calls Tryz.prog 23 #[.agg (x.cells b)] w fun e w' => ∃ v, e = .returned (.tuple #[v, .bool true]) ∧ AnyIs w' w'.heap.size v x ∧ Below w.heap.size w w' := by
  obtain ⟨a, m, cb, rfl⟩ := own_one hb
  obtain ⟨k, i, f, l⟩ := x
  rcases hx with ⟨hk, _⟩ | ⟨hk, _⟩ | ⟨hk, _, hl⟩
  · obtain rfl : k = 2 := hk
    obtain ⟨rfl, rfl⟩ := h0 rfl
    exact (anyof_2 i a m cb w).mono fun e w' ⟨he, hb⟩ => ⟨_, he, Or.inl ⟨rfl, rfl⟩, hb⟩
  · obtain rfl : k = 3 := hk
    obtain ⟨rfl, rfl⟩ := h1 rfl
    exact (anyof_3 f a m cb w).mono fun e w' ⟨he, hb⟩ => ⟨_, he, Or.inr (Or.inl ⟨rfl, rfl⟩), hb⟩
  · obtain rfl : k = 4 := hk
    obtain ⟨rfl, rfl⟩ := h2 rfl
    exact (anyof_4 l hl hb).mono fun e w' ⟨g, cc, he, hg, hg2, hL, hB⟩ => ⟨_, he, Or.inr (Or.inr ⟨rfl, g, cc, rfl, hg2, hL⟩), hB⟩
end Go.Proofs.YtgiojjlmohhmkaaGreatDoor
