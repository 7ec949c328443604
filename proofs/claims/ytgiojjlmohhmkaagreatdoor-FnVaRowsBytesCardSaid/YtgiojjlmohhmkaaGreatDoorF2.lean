/-
  What the law lays behind one another, and where each part lies. No program in sight.
-/
import Derived.Test.YtgiojjlmohhmkaaGreatDoorE1
namespace Go.Proofs.YtgiojjlmohhmkaaGreatDoor
open Go Go.RowKit

/-- The bytes of the first k values. -/
def allTold (codes : Nat → Nat) (ns : Nat → Int) (cols : Nat) : Nat → List Int
  | 0 => []
  | k + 1 => allTold codes ns cols k ++ told (codes (k % cols)) (ns k)

theorem allTold_length (codes : Nat → Nat) (ns : Nat → Int) (cols k : Nat) : (allTold codes ns cols k).length = pos codes ns cols k := by
  induction k with
  | zero => rfl
  | succ k ih => rw [allTold, List.length_append, ih, pos]

theorem At.append {bs cs : List Int} {p : Nat} {l : List Int} (h : At bs p l) : At (bs ++ cs) p l := by
  refine ⟨by rw [List.length_append]; have := h.1; omega, fun j hj => ?_⟩
  rw [← h.2 j hj]
  have hlt : p + j < bs.length := by have := h.1; omega
  simp [bt, List.getD, List.getElem?_append, hlt]

theorem at_end (bs l : List Int) : At (bs ++ l) bs.length l := by
  refine ⟨by simp, fun j hj => ?_⟩
  have hn : ¬ bs.length + j < bs.length := by omega
  simp [bt, List.getD, List.getElem?_append, hn]

theorem allTold_at (codes : Nat → Nat) (ns : Nat → Int) (cols : Nat) {k N : Nat} (hk : k < N) : At (allTold codes ns cols N) (pos codes ns cols k) (told (codes (k % cols)) (ns k)) := by
  induction N with
  | zero => omega
  | succ N ih =>
    rw [allTold]
    by_cases e : k = N
    · subst e
      rw [← allTold_length]
      exact at_end _ _
    · exact (ih (by omega)).append

theorem low_bytes (u : Int) (s : Nat) : ∀ x ∈ low u s, 0 ≤ x ∧ x ≤ 255 := by
  intro x hx
  simp only [low, List.mem_map, List.mem_range] at hx
  obtain ⟨j, _, rfl⟩ := hx
  omega
theorem told_length (c : Nat) (n : Int) : (told c n).length ≤ 9 := by
  unfold told
  repeat (split; · simp [low_length])
  have := txtOf_length n
  simp
  omega
theorem pos_le (codes : Nat → Nat) (ns : Nat → Int) (cols k : Nat) : pos codes ns cols k ≤ 9 * k := by
  induction k with
  | zero => exact Nat.le_refl _
  | succ k ih => rw [pos]; have := told_length (codes (k % cols)) (ns k); omega

theorem pos_pos (codes : Nat → Nat) (ns : Nat → Int) (cols : Nat) {k : Nat} (hk : 0 < k) : 0 < pos codes ns cols k := by
  obtain ⟨m, rfl⟩ : ∃ m, k = m + 1 := ⟨k - 1, by omega⟩
  rw [pos]
  have : 0 < (told (codes (m % cols)) (ns m)).length := by
    unfold told
    repeat (split; · simp [low_length])
    simp
  omega
def ByteL (l : List Int) : Prop := ∀ x ∈ l, 0 ≤ x ∧ x ≤ 255
theorem ByteL.append {l m : List Int} (h : ByteL l) (h' : ByteL m) : ByteL (l ++ m) := fun x hx => (List.mem_append.1 hx).elim (h x) (h' x)
theorem ByteL.bt {l : List Int} (h : ByteL l) (j : Nat) : 0 ≤ bt l j ∧ bt l j ≤ 255 := by
  unfold Go.Proofs.YtgiojjlmohhmkaaGreatDoor.bt
  by_cases hj : j < l.length
  · simpa [List.getD, hj] using h _ (List.getElem_mem hj)
  · simp [List.getD, hj]
theorem txtOf_bytes (n : Int) : ByteL (txtOf n) := by
  intro x hx
  simp only [txtOf, txtTo, List.mem_map, List.mem_range] at hx
  obtain ⟨j, _, rfl⟩ := hx
  unfold chr
  omega
theorem told_bytes (c : Nat) (n : Int) : ByteL (told c n) := by
  have h1 : ByteL [1] := fun x hx => by simp at hx; omega
  unfold told
  repeat (split; · first | exact h1.append (low_bytes _ _) | exact low_bytes _ _)
  have h2 := txtOf_length n
  exact ByteL.append (l := [_]) (fun x hx => by simp at hx; omega) (txtOf_bytes n)
theorem allTold_bytes (codes : Nat → Nat) (ns : Nat → Int) (cols k : Nat) : ByteL (allTold codes ns cols k) := by
  induction k with
  | zero => intro x hx; cases hx
  | succ k ih => rw [allTold]; exact ih.append (told_bytes _ _)

theorem store_cells {P : Program} {w : World} {g : Nat} {t : TypeId} {old cells : Array Value} (hg : Row w g t old) (ho : old.size = cells.size) (h1 : cells.all (·.oneCell') = true) :
    (storeCells ⟨g, 0, none⟩ cells.toList).run P w = .ok () (w.setRow g cells) := by
  have := run_storeCells_from (P := P) g t cells.toList 0 old w hg (by simp; omega) (fun v hv => (Array.all_eq_true_iff_forall_mem.1 h1) v (by simpa using hv))
  simpa using this
theorem Sv.all_one {w : World} {base : Nat} {e : TypeId} {size n : Nat} {xs : List Value} (x : Sv) {b : Value} (h : w.ownsRow base e size b n xs) : (x.cells b).all (·.oneCell') = true := by
  obtain ⟨a, m, c, rfl⟩ := own_one h
  exact valCells_one x.kind x.int x.fl a m c

theorem told_pos (c : Nat) (n : Int) : 0 < (told c n).length := by
  unfold told
  repeat (split; · simp [low_length])
  simp
/-- What stands behind a value and its bytes: the struct in block p, the bytes v, the struct's own bytes b. -/
def Laid (wi w4 : World) (p : Nat) (x : Sv) (v b : Value) (l : List Int) : Prop :=
  Keeps (fun _ => False) wi w4 ∧ wi.heap.size ≤ p ∧ Row w4 p 41 (x.cells b) ∧ w4.ownsRow wi.heap.size 5 1 v l.length (l.map (Value.int .u8)) ∧ w4.ownsRow wi.heap.size 5 1 b x.txt.length (x.txt.map (Value.int .u8))

theorem laid_early {wi w3 : World} {Z : Array Value} {x : Sv} {v b : Value} {l : List Int} (hbe : Below (wi.drew.alloc (.cells Z 41)).heap.size (wi.drew.alloc (.cells Z 41)) w3) (hv : w3.ownsRow (wi.drew.alloc (.cells Z 41)).heap.size 5 1 v l.length (l.map (Value.int .u8)))
    (hb : w3.ownsRow (wi.drew.alloc (.cells Z 41)).heap.size 5 1 b x.txt.length (x.txt.map (Value.int .u8))) : Laid wi (w3.setRow wi.heap.size (x.cells b)) wi.heap.size x v b l := by
  have hrow : Row w3 wi.heap.size 41 Z := (Row.made wi.drew 41 Z).below hbe (by simp)
  have hk : Keeps (fun _ => False) wi w3 := ((Keeps.refl (fun _ => False) wi).drew.alloc _).trans (Keeps.of_below hbe _)
  have hs : wi.heap.size ≤ (wi.drew.alloc (.cells Z 41)).heap.size := by simp
  exact ⟨Keeps.of_below (below_setRow' (hk.below (fun _ _ => id) (Nat.le_refl _)) (Nat.le_refl _) _) _, Nat.le_refl _, hrow.setRow _, own_base (own_setRow hv (own_ne hv hrow (by decide)) _) hs, own_base (own_setRow hb (own_ne hb hrow (by decide)) _) hs⟩
theorem laid_late {wi w3 : World} {Z : Array Value} {x : Sv} {v b : Value} {l : List Int} (hbe : Below wi.drew.heap.size wi.drew w3) (hv : w3.ownsRow wi.drew.heap.size 5 1 v l.length (l.map (Value.int .u8)))
    (hb : w3.ownsRow wi.drew.heap.size 5 1 b x.txt.length (x.txt.map (Value.int .u8))) : Laid wi ((w3.alloc (.cells Z 41)).setRow w3.heap.size (x.cells b)) w3.heap.size x v b l := by
  have hrow : Row (w3.alloc (.cells Z 41)) w3.heap.size 41 Z := Row.made _ _ _
  have hk : Keeps (fun _ => False) wi (w3.alloc (.cells Z 41)) := ((Keeps.refl (fun _ => False) wi).drew.trans (Keeps.of_below hbe _)).alloc _
  have hs : wi.heap.size ≤ w3.heap.size := hbe.size
  have hv' := hv.alloc (.cells Z 41)
  have hb' := hb.alloc (.cells Z 41)
  exact ⟨Keeps.of_below (below_setRow' (hk.below (fun _ _ => id) (Nat.le_refl _)) hs _) _, hs, hrow.setRow _, own_setRow hv' (own_ne hv' hrow (by decide)) _, own_setRow hb' (own_ne hb' hrow (by decide)) _⟩

/-- k values as the law lays them: the bytes of each lie in a block of their own, apart from that of vb. -/
def WantIs (w : World) (base : Nat) (sv : Nat → Sv) (k : Nat) (xs : List Value) (vb : Value) : Prop :=
  xs.length = k * 22 ∧ ∀ m, m < k → ∃ b, (xs.drop (m * 22)).take 22 = ((sv m).cells b).toList ∧ w.ownsRow base 5 1 b (sv m).txt.length ((sv m).txt.map (Value.int .u8)) ∧ ∀ g, b.ownBlock = some g → vb.ownBlock ≠ some g

theorem own_keeps' {K : Nat → Prop} {w w' : World} {base : Nat} {e : TypeId} {size : Nat} {v : Value} {n : Nat} {xs : List Value} (h : w.ownsRow base e size v n xs) (hk : Keeps K w w') (hK : ∀ g cs, v.ownBlock = some g → Row w g e cs → base ≤ g → ¬ K g) : w'.ownsRow base e size v n xs := by
  refine ⟨h.1, ?_⟩
  rcases h.2 with hn | ⟨g, cap, cur, rfl, hb, hgg, rest⟩
  · exact .inl hn
  · exact .inr ⟨g, cap, cur, rfl, hb, (show Row w' g e cur from Row.keeps hgg hk (hK g cur rfl hgg hb)), rest⟩

theorem WantIs.step {w w' : World} {K : Nat → Prop} {base : Nat} {sv : Nat → Sv} {k : Nat} {xs : List Value} {b vb vb' : Value} (h : WantIs w base sv k xs vb) (hk : Keeps K w w') (hK : ∀ i cs, Row w i 5 cs → base ≤ i → vb.ownBlock ≠ some i → ¬ K i)
    (hvb : vb'.ownBlock = vb.ownBlock ∨ ∃ S, vb'.ownBlock = some S ∧ w.heap.size ≤ S)
    (ho : w'.ownsRow base 5 1 b (sv k).txt.length ((sv k).txt.map (Value.int .u8))) (hb : ∀ g, b.ownBlock = some g → vb'.ownBlock ≠ some g) : WantIs w' base sv (k + 1) (xs ++ ((sv k).cells b).toList) vb' := by
  refine ⟨by rw [List.length_append, h.1, Sv.cells_length]; omega, fun m hm => ?_⟩
  by_cases e : m = k
  · subst e
    refine ⟨b, ?_, ho, hb⟩
    rw [← h.1, List.drop_left, ← Sv.cells_length (sv m) b, List.take_length]
  · obtain ⟨b', h1, h2, h3⟩ := h.2 m (by omega)
    refine ⟨b', ?_, own_keeps' h2 hk (fun g cs hg hr hbg => hK g cs hr hbg (h3 g hg)), fun g hg e' => ?_⟩
    · have hl := h.1
      rw [List.drop_append_of_le_length (by omega), List.take_append_of_le_length (by rw [List.length_drop]; omega)]
      exact h1
    · rcases hvb with hv | ⟨S, hv, hS⟩
      · exact h3 g hg (hv ▸ e')
      · rw [hv] at e'
        cases e'
        have := (h2.lt _ hg).2
        omega
theorem WantIs.keeps {w w' : World} {K : Nat → Prop} {base : Nat} {sv : Nat → Sv} {k : Nat} {xs : List Value} {vb : Value} (h : WantIs w base sv k xs vb) (hk : Keeps K w w') (hK : ∀ i cs, Row w i 5 cs → base ≤ i → ¬ K i) : WantIs w' base sv k xs vb :=
  ⟨h.1, fun m hm => by
    obtain ⟨b, h1, h2, h3⟩ := h.2 m hm
    exact ⟨b, h1, own_keeps h2 hk hK, h3⟩⟩
end Go.Proofs.YtgiojjlmohhmkaaGreatDoor
