/-
  The walks of the decoder's methods that read a few bytes through its scratch.
-/
import Derived.Test.YtgiojjlmohhmkaaGreatDoorC1
namespace Go.Proofs.YtgiojjlmohhmkaaGreatDoor
open Go Go.RowKit

/-- Byte i. -/
def bt (bs : List Int) (i : Nat) : Int := bs.getD i 0

/-- The decoder in block d, its scratch in block s, reads the bytes bs, which lie in block r; p of them are read. -/
def Dec (w : World) (d s r : Nat) (bs : List Int) (p : Nat) : Prop :=
  ∃ (rc : Nat) (tr : Value) (S : List Value) (R : Array Value), Row w d 121 (decCells (.slice (some ⟨r, 0, none⟩) bs.length rc) p (.slice (some ⟨s, 0, none⟩) 4096 4096) tr p) ∧
    Row w s 5 S.toArray ∧ S.length = 4096 ∧ Row w r 5 R ∧ R.toList.take bs.length = bs.map (Value.int .u8) ∧ s ≠ r ∧ bs.length ≤ rc ∧ bs.length ≤ 140737488351232

theorem Dec.keeps {K : Nat → Prop} {w w' : World} {d s r : Nat} {bs : List Int} {p : Nat} (h : Dec w d s r bs p) (hk : Keeps K w w') (hd : ¬ K d) (hs : ¬ K s) (hr : ¬ K r) : Dec w' d s r bs p := by
  obtain ⟨rc, tr, S, R, h1, h2, h3, h4, h5, h6, h7, h8⟩ := h
  exact ⟨rc, tr, S, R, h1.keeps hk hd, h2.keeps hk hs, h3, h4.keeps hk hr, h5, h6, h7, h8⟩

theorem byte_cells {w : World} {r : Nat} {R : Array Value} {bs : List Int} (hR : Row w r 5 R) (ht : R.toList.take bs.length = bs.map (Value.int .u8)) (p k : Nat) (_hp : p + k ≤ bs.length) :
    ∀ j v, (((bs.drop p).take k).map (Value.int .u8))[j]? = some v → w.cell? ⟨r, p + j, none⟩ = some v := by
  intro j v hv
  rw [hR.cell]
  have hj : j < k := by
    have := (List.getElem?_eq_some_iff.1 hv).1
    simp at this
    omega
  have e : (R.toList.take bs.length)[p + j]? = (bs.map (Value.int .u8))[p + j]? := by rw [ht]
  rw [List.getElem?_take, if_pos (by omega), Array.getElem?_toList] at e
  rw [e, ← hv]
  simp [hj]

/-- k bytes more, into the scratch. -/
theorem scratch_read {w : World} {d s r : Nat} {bs : List Int} {p : Nat} (h : Dec w d s r bs p) (k : Nat) (hk : k ≤ 4096) (hp : p + k ≤ bs.length) :
    Calls Tryz.prog 211 #[.pointer (some ⟨d, 0, none⟩), .slice (some ⟨s, 0, none⟩) k 4096] w fun e w' => e = .returned (.tuple #[.int .i64 k, .nilIface]) ∧
      Dec w' d s r bs (p + k) ∧ (∀ j, j < k → w'.cell? ⟨s, j, none⟩ = some (.int .u8 (bt bs (p + j)))) ∧ Keeps (fun i => i = d ∨ i = s) w w' := by
  obtain ⟨rc, tr, S, R, h1, h2, h3, h4, h5, h6, h7, h8⟩ := h
  have hl : (((bs.drop p).take k).map (Value.int .u8)).length = k := by simp; omega
  refine (read_any w d s r k 4096 bs.length rc p p _ tr S (((bs.drop p).take k).map (Value.int .u8)) h1 h2 hl (by omega) hp h7 h8 (by omega) (byte_cells h4 h5 p k hp) (ints_oneCell _ _)).mono ?_
  rintro e w' ⟨he, hd', hs', hk'⟩
  refine ⟨he, ⟨rc, tr, _, R, hd', hs', by rw [length_splice _ _ _ (by rw [hl]; omega)]; exact h3, h4.keeps hk' (fun e => ?_), h5, h6, h7, h8⟩, fun j hj => ?_, hk'⟩
  · rcases e with e | e
    · exact h1.ne h4 (by decide) e.symm
    · exact h6 e.symm
  · rw [hs'.cell]
    have hj2 : p + j < bs.length := by omega
    simp only [splice, List.take_zero, List.nil_append, Nat.zero_add]
    rw [List.getElem?_toArray, List.getElem?_append_left (by rw [hl]; exact hj)]
    simp [hj, hj2, bt, List.getD]

/-- What a walk asks of a decoder. -/
theorem Dec.facts {w : World} {d s r : Nat} {bs : List Int} {p : Nat} (h : Dec w d s r bs p) : w.cell? ⟨d, 3, none⟩ = some (.slice (some ⟨s, 0, none⟩) 4096 4096) := by
  obtain ⟨rc, tr, S, R, h1, _⟩ := h
  simpa [decCells] using h1.cell 3

set_option maxRecDepth 100000 in
set_option maxHeartbeats 400000 in
theorem byte_any {w : World} {d s r : Nat} {bs : List Int} {p : Nat} (h : Dec w d s r bs p) (hp : p < bs.length) :
    Calls Tryz.prog 148 #[.pointer (some ⟨d, 0, none⟩)] w fun e w' => e = .returned (.int .u8 (bt bs p)) ∧ Dec w' d s r bs (p + 1) ∧ Keeps (fun i => i = d ∨ i = s) w w' := by
  have c3 := h.facts
  have H := scratch_read h 1 (by omega) (by omega)
  go_enter Tryz.func148, Tryz.ntmps148
  go_wp2_with fail
  refine H.mono ?_
  rintro e w1 ⟨rfl, hd1, hc1, hk1⟩
  have d3 := hd1.facts
  have s0 := hc1 0 (by omega)
  clear H hc1 c3
  go_wp2
  go_ret
  exact ⟨rfl, hd1, hk1⟩
end Go.Proofs.YtgiojjlmohhmkaaGreatDoor
