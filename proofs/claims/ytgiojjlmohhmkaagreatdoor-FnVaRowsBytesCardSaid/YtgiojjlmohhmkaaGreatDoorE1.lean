/-
  The walk of RowsOf.
-/
import Derived.Test.YtgiojjlmohhmkaaGreatDoorD5
import Derived.Test.YtgiojjlmohhmkaaGreatDoorE0
import Derived.Defers
import Derived.Recover
namespace Go.Proofs.YtgiojjlmohhmkaaGreatDoor
open Go Go.RowKit

/-- The deferred closure behind a return: nothing is recovered. -/
theorem of_idle (p q r s : Addr) (w : World) :
    CallsD Tryz.prog 15 #[.pointer (some p), .pointer (some q), .pointer (some r), .pointer (some s)] .returning w fun e u' w' => e = .returned (.tuple #[]) ∧ u' = .returning ∧ w' = w := by
  refine callsD_of_wpS Tryz.func15 rfl fun c₀ cs hu => ?_
  apply wpS_seq
  apply wpS_region
  simp [wpOpsS, go_sem, recoverD, hu, Tryz.ntmps15, Exit.thenS]
  refine wpS_cond (t := false) (by simp [Act.eval, Array.replicate]) ?_
  simp only [Bool.false_eq_true, if_false]
  refine wpS_of_wp (wp_skip ?_)
  cases c₀
  simp_all [bodyPostS, results, Tryz.results15]

set_option maxRecDepth 100000 in
set_option maxHeartbeats 400000 in
theorem cnt_any {w : World} {d s r : Nat} {bs : List Int} {p : Nat} (h : Dec w d s r bs p) : Calls Tryz.prog 21 #[.pointer (some ⟨d, 0, none⟩)] w fun e w' => e = .returned (.int .i64 p) ∧ w = w' := by
  obtain ⟨rc, tr, S, R, h1, _⟩ := h
  have c5 := h1.cell 5
  simp [decCells] at c5
  go_enter Tryz.func21, Tryz.ntmps21
  go_wp2
  go_ret
  exact ⟨rfl, rfl⟩

/-- The cells of a column of the type code c. -/
def colCells (c : Nat) : Array Value := #[.int .i64 c, .int .i64 0, .int .i64 0, .int .i64 0, .string ⟨#[]⟩, .string ⟨#[]⟩, .string ⟨#[]⟩, .string ⟨#[]⟩]

/-- k fields of results, each in a block of its own. -/
def FieldsAt (w : World) (base : Nat) (codes : Nat → Nat) (k : Nat) (xs : List Value) : Prop :=
  ∃ (fl : Nat → Nat) (nm : Nat → Value), xs = (List.range k).map (fun j => Value.pointer (some ⟨fl j, 0, none⟩)) ∧ ∀ j, j < k → base ≤ fl j ∧ Row w (fl j) 98 (fieldCells (nm j) (codes j))

theorem FieldsAt.step {w w' : World} {K : Nat → Prop} {base g : Nat} {codes : Nat → Nat} {k : Nat} {xs : List Value} {nm : Value} (h : FieldsAt w base codes k xs) (hk : Keeps K w w') (hK : ∀ i cs, Row w i 98 cs → base ≤ i → ¬ K i) (hg : base ≤ g) (hr : Row w' g 98 (fieldCells nm (codes k))) :
    FieldsAt w' base codes (k + 1) (xs ++ [.pointer (some ⟨g, 0, none⟩)]) := by
  obtain ⟨fl, nms, rfl, hf⟩ := h
  refine ⟨fun j => if j = k then g else fl j, fun j => if j = k then nm else nms j, ?_, fun j hj => ?_⟩
  · rw [List.range_succ, List.map_append]
    congr 1
    · refine List.map_congr_left fun j hj => ?_
      have hj' : j < k := by simpa using hj
      have hne : ¬ j = k := by omega
      simp only [if_neg hne]
    · simp
  · by_cases e : j = k
    · subst e; simpa using ⟨hg, hr⟩
    · simp only [if_neg e]
      exact ⟨(hf j (by omega)).1, (hf j (by omega)).2.keeps hk (hK _ _ (hf j (by omega)).2 (hf j (by omega)).1)⟩

theorem info63 : (Tryz.prog.info? 63).map (fun i => (i.zero, i.size, i.bytes)) = some (some (.pointer none), 1, 8) := by kernel_rfl
theorem info41 : (Tryz.prog.info? 41).map (fun i => (i.zero, i.size, i.bytes)) = some (some (.agg (valCells 0 0 0 (.slice none 0 0))), 22, 248) := by kernel_rfl
theorem size28 : (Tryz.prog.info? 28).map (·.size) = some 8 := by kernel_rfl
theorem col_one (c : Nat) : (colCells c).all (·.oneCell') = true := by simp [colCells, Value.oneCell']

/-- A slice of the call's own that holds something. -/
theorem own_some {w : World} {base : Nat} {e : TypeId} {size : Nat} {v : Value} {n : Nat} {xs : List Value} (h : w.ownsRow base e size v (n + 1) xs) : ∃ g cap cur, v = .slice (some ⟨g, 0, none⟩) (n + 1) cap ∧ base ≤ g ∧ Row w g e cur ∧ n + 1 ≤ cap ∧ cap ≤ maxLen ∧ cur.size = cap * size ∧ cur.toList.take ((n + 1) * size) = xs := by
  rcases h.2 with ⟨_, hn⟩ | ⟨g, cap, cur, hv, hb, hg, hn, hc, hs, ht⟩
  · omega
  · exact ⟨g, cap, cur, hv, hb, hg, hn, hc, hs, ht⟩

/-- The four results of RowsOf, each in a block of its own, with nothing in it but the first. -/
def Four (w : World) (b : Nat) (out : Value) : Prop := Row w b 29 #[out] ∧ Row w (b + 1) 24 #[.slice none 0 0] ∧ Row w (b + 1 + 1) 3 #[.int .i64 0] ∧ Row w (b + 1 + 1 + 1) 3 #[.int .i64 0]
theorem Four.keeps {K : Nat → Prop} {w w' : World} {b : Nat} {out : Value} (h : Four w b out) (hk : Keeps K w w') (hK : ∀ i, b ≤ i → i ≤ b + 1 + 1 + 1 → ¬ K i) : Four w' b out :=
  ⟨h.1.keeps hk (hK _ (by omega) (by omega)), h.2.1.keeps hk (hK _ (by omega) (by omega)), h.2.2.1.keeps hk (hK _ (by omega) (by omega)), h.2.2.2.keeps hk (hK _ (by omega) (by omega))⟩

/-- A fact that no assumption takes for another. -/
structure Box (p : Prop) : Prop where
  out : p
/-- What the last stores leave. -/
theorem Four.ended {w : World} {b : Nat} {out : Value} (h : Four w b out) (p : Int) :
    Keeps (fun i => b ≤ i ∧ i ≤ b + 1 + 1 + 1) w ((((w.setCell ⟨b, 0, none⟩ out).setCell ⟨b + 1, 0, none⟩ (.slice none 0 0)).setCell ⟨b + 1 + 1, 0, none⟩ (.int .i64 p)).setCell ⟨b + 1 + 1 + 1, 0, none⟩ (.int .i64 0)).drew ∧
    ((((w.setCell ⟨b, 0, none⟩ out).setCell ⟨b + 1, 0, none⟩ (.slice none 0 0)).setCell ⟨b + 1 + 1, 0, none⟩ (.int .i64 p)).setCell ⟨b + 1 + 1 + 1, 0, none⟩ (.int .i64 0)).drew.cell? ⟨b, 0, none⟩ = some out ∧
    ((((w.setCell ⟨b, 0, none⟩ out).setCell ⟨b + 1, 0, none⟩ (.slice none 0 0)).setCell ⟨b + 1 + 1, 0, none⟩ (.int .i64 p)).setCell ⟨b + 1 + 1 + 1, 0, none⟩ (.int .i64 0)).drew.cell? ⟨b + 1, 0, none⟩ = some (.slice none 0 0) ∧
    ((((w.setCell ⟨b, 0, none⟩ out).setCell ⟨b + 1, 0, none⟩ (.slice none 0 0)).setCell ⟨b + 1 + 1, 0, none⟩ (.int .i64 p)).setCell ⟨b + 1 + 1 + 1, 0, none⟩ (.int .i64 0)).drew.cell? ⟨b + 1 + 1, 0, none⟩ = some (.int .i64 p) ∧
    ((((w.setCell ⟨b, 0, none⟩ out).setCell ⟨b + 1, 0, none⟩ (.slice none 0 0)).setCell ⟨b + 1 + 1, 0, none⟩ (.int .i64 p)).setCell ⟨b + 1 + 1 + 1, 0, none⟩ (.int .i64 0)).drew.cell? ⟨b + 1 + 1 + 1, 0, none⟩ = some (.int .i64 0) := by
  obtain ⟨h1, h2, h3, h4⟩ := h
  have a1 := (((h1.put 0 out).far (p := ⟨b + 1, 0, none⟩) (by first | (simp; done) | (simp; omega)) (.slice none 0 0)).far (p := ⟨b + 1 + 1, 0, none⟩) (by first | (simp; done) | (simp; omega)) (.int .i64 p)).far (p := ⟨b + 1 + 1 + 1, 0, none⟩) (by first | (simp; done) | (simp; omega)) (.int .i64 0)
  have a2 := (((h2.far (p := ⟨b, 0, none⟩) (by first | (simp; done) | (simp; omega)) out).put 0 (.slice none 0 0)).far (p := ⟨b + 1 + 1, 0, none⟩) (by first | (simp; done) | (simp; omega)) (.int .i64 p)).far (p := ⟨b + 1 + 1 + 1, 0, none⟩) (by first | (simp; done) | (simp; omega)) (.int .i64 0)
  have a3 := (((h3.far (p := ⟨b, 0, none⟩) (by first | (simp; done) | (simp; omega)) out).far (p := ⟨b + 1, 0, none⟩) (by first | (simp; done) | (simp; omega)) (.slice none 0 0)).put 0 (.int .i64 p)).far (p := ⟨b + 1 + 1 + 1, 0, none⟩) (by first | (simp; done) | (simp; omega)) (.int .i64 0)
  have a4 := (((h4.far (p := ⟨b, 0, none⟩) (by first | (simp; done) | (simp; omega)) out).far (p := ⟨b + 1, 0, none⟩) (by first | (simp; done) | (simp; omega)) (.slice none 0 0)).far (p := ⟨b + 1 + 1, 0, none⟩) (by first | (simp; done) | (simp; omega)) (.int .i64 p)).put 0 (.int .i64 0)
  refine ⟨?_, (a1.drew.cell 0).trans (by simp), (a2.drew.cell 0).trans (by simp), (a3.drew.cell 0).trans (by simp), (a4.drew.cell 0).trans (by simp)⟩
  exact ((((((Keeps.one w b 0 out).mono (fun i e => by omega)).trans ((Keeps.one _ (b + 1) 0 _).mono (fun i e => by omega)))).trans ((Keeps.one _ (b + 1 + 1) 0 _).mono (fun i e => by omega))).trans ((Keeps.one _ (b + 1 + 1 + 1) 0 _).mono (fun i e => by omega))).drew

/-- k values, one behind the other, each of 22 cells; the bytes of each lie in a block that the call has laid. -/
def OutIs (w : World) (base : Nat) (sv : Nat → Sv) (k : Nat) (xs : List Value) : Prop :=
  xs.length = k * 22 ∧ ∀ m, m < k → ∃ b, (xs.drop (m * 22)).take 22 = ((sv m).cells b).toList ∧ w.ownsRow base 5 1 b (sv m).txt.length ((sv m).txt.map (Value.int .u8))

theorem Sv.cells_length (x : Sv) (b : Value) : (x.cells b).toList.length = 22 := rfl

theorem own_one {w : World} {base : Nat} {e : TypeId} {size : Nat} {v : Value} {n : Nat} {xs : List Value} (h : w.ownsRow base e size v n xs) : ∃ a m c, v = .slice a m c := by
  rcases h.2 with ⟨rfl, _⟩ | ⟨g, cap, cur, rfl, _⟩
  · exact ⟨_, _, _, rfl⟩
  · exact ⟨_, _, _, rfl⟩
theorem Sv.one {w : World} {base : Nat} {e : TypeId} {size n : Nat} {xs : List Value} (x : Sv) {b : Value} (h : w.ownsRow base e size b n xs) : ∀ u ∈ (x.cells b).toList, u.oneCell' = true := by
  obtain ⟨a, m, c, rfl⟩ := own_one h
  intro u hu
  have h1 := valCells_one x.kind x.int x.fl a m c
  rw [Array.all_eq_true'] at h1
  exact h1 u (by simpa [Sv.cells] using hu)

theorem OutIs.step {w w' : World} {K : Nat → Prop} {base : Nat} {sv : Nat → Sv} {k : Nat} {xs : List Value} {b : Value} (h : OutIs w base sv k xs) (hk : Keeps K w w') (hK : ∀ i cs, Row w i 5 cs → base ≤ i → ¬ K i)
    (ho : w'.ownsRow base 5 1 b (sv k).txt.length ((sv k).txt.map (Value.int .u8))) : OutIs w' base sv (k + 1) (xs ++ ((sv k).cells b).toList) := by
  refine ⟨by rw [List.length_append, h.1, Sv.cells_length]; omega, fun m hm => ?_⟩
  by_cases e : m = k
  · subst e
    refine ⟨b, ?_, ho⟩
    rw [← h.1, List.drop_left, ← Sv.cells_length (sv m) b, List.take_length]
  · obtain ⟨b', h1, h2⟩ := h.2 m (by omega)
    refine ⟨b', ?_, own_keeps h2 hk hK⟩
    have hl := h.1
    rw [List.drop_append_of_le_length (by omega), List.take_append_of_le_length (by rw [List.length_drop]; omega)]
    exact h1
theorem OutIs.keeps {w w' : World} {K : Nat → Prop} {base : Nat} {sv : Nat → Sv} {k : Nat} {xs : List Value} (h : OutIs w base sv k xs) (hk : Keeps K w w') (hK : ∀ i cs, Row w i 5 cs → base ≤ i → ¬ K i) : OutIs w' base sv k xs :=
  ⟨h.1, fun m hm => by
    obtain ⟨b, h1, h2⟩ := h.2 m hm
    exact ⟨b, h1, own_keeps h2 hk hK⟩⟩
theorem OutIs.base {w : World} {base base' : Nat} {sv : Nat → Sv} {k : Nat} {xs : List Value} (h : OutIs w base sv k xs) (hb : base' ≤ base) : OutIs w base' sv k xs :=
  ⟨h.1, fun m hm => by
    obtain ⟨b, h1, h2⟩ := h.2 m hm
    exact ⟨b, h1, own_base h2 hb⟩⟩
end Go.Proofs.YtgiojjlmohhmkaaGreatDoor
