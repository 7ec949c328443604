/-
  The encoder's state, and the walks of its methods that write a few bytes.
-/
import Derived.Test.YtgiojjlmohhmkaaGreatDoorH1
import Derived.Deep.RegionHeld3
namespace Go.Proofs.YtgiojjlmohhmkaaGreatDoor
open Go Go.RowKit

/-- The cells of an encoder: its writer, its scratch, its transformer. -/
def encCells (W s : Nat) (tr : Value) : Array Value := #[.pointer (some ⟨W, 0, none⟩), .slice (some ⟨s, 0, none⟩) 4096 4096, tr]

/-- The encoder in block e, its writer in block W, its scratch in block s, has written the bytes bs, which lie at B or above. -/
def Enc (w : World) (e W s B : Nat) (bs : List Int) : Prop :=
  ∃ (tr v : Value) (S : Array Value), Row w e 186 (encCells W s tr) ∧ Row w s 5 S ∧ S.size = 4096 ∧ s < B ∧ Row w W 81 #[v] ∧ w.ownsRow B 5 1 v bs.length (bs.map (Value.int .u8)) ∧ B ≤ w.heap.size

theorem Enc.keeps {K : Nat → Prop} {w w' : World} {e W s B : Nat} {bs : List Int} (h : Enc w e W s B bs) (hk : Keeps K w w') (he : ¬ K e) (hW : ¬ K W) (hs : ¬ K s) (hB : ∀ i, B ≤ i → ¬ K i) : Enc w' e W s B bs := by
  obtain ⟨tr, v, S, h1, h2, h3, h4, h5, h6, h7⟩ := h
  exact ⟨tr, v, S, h1.keeps hk he, h2.keeps hk hs, h3, h4, h5.keeps hk hW, own_keeps h6 hk (fun g _ _ hb => hB g hb), Nat.le_trans h7 hk.size⟩
theorem Enc.still {w w' : World} {e W s B : Nat} {bs : List Int} (h : Enc w e W s B bs) (hk : Keeps (fun _ => False) w w') : Enc w' e W s B bs :=
  h.keeps hk id id id (fun _ _ => id)
theorem Enc.drew {w : World} {e W s B : Nat} {bs : List Int} (h : Enc w e W s B bs) : Enc w.drew e W s B bs := h
theorem Enc.facts {w : World} {e W s B : Nat} {bs : List Int} (h : Enc w e W s B bs) : w.cell? ⟨e, 0, none⟩ = some (.pointer (some ⟨W, 0, none⟩)) ∧ w.cell? ⟨e, 1, none⟩ = some (.slice (some ⟨s, 0, none⟩) 4096 4096) := by
  obtain ⟨tr, v, S, h1, _⟩ := h
  have c0 := h1.cell 0
  have c1 := h1.cell 1
  simp [encCells] at c0 c1
  exact ⟨c0, c1⟩
theorem Enc.scratch {w : World} {e W s B : Nat} {bs : List Int} (h : Enc w e W s B bs) : ∃ S, Row w s 5 S ∧ S.size = 4096 := by
  obtain ⟨tr, v, S, h1, h2, h3, _⟩ := h
  exact ⟨S, h2, h3⟩
/-- The scratch is written anew. -/
theorem Enc.put {w w' : World} {e W s B : Nat} {bs : List Int} (h : Enc w e W s B bs) {S' : Array Value} (hs : Row w' s 5 S') (hS : S'.size = 4096) (hk : Keeps (fun i => i = s) w w') : Enc w' e W s B bs := by
  obtain ⟨tr, v, S, h1, h2, h3, h4, h5, h6, h7⟩ := h
  exact ⟨tr, v, S', h1.keeps hk (fun e => h1.ne h2 (by decide) e), hs, hS, h4, h5.keeps hk (fun e => h5.ne h2 (by decide) e), own_keeps h6 hk (fun g _ _ hb e => by omega), Nat.le_trans h7 hk.size⟩

theorem enc_write {w : World} {e W s B : Nat} {bs : List Int} (h : Enc w e W s B bs) (l : List Int) {ad : Addr} {n c : Nat} (hl : l.length = n) (hc : ∀ j u, (l.map (Value.int .u8))[j]? = some u → w.cell? (ad.add j) = some u) (hbd : bs.length + n ≤ 100000) :
    Calls Tryz.prog 143 #[.pointer (some ⟨W, 0, none⟩), .slice (some ad) n c] w fun ee w' => ee = .returned (.tuple #[.int .i64 n, .nilIface]) ∧ Enc w' e W s B (bs ++ l) ∧ Keeps (fun i => i = W ∨ i = s ∨ B ≤ i) w w' := by
  obtain ⟨tr, v, S, h1, h2, h3, h4, h5, h6, h7⟩ := h
  refine (write_any h5 h6 h7 hl hc hbd).mono ?_
  rintro ee w' ⟨v', he, hW', ho', hk'⟩
  have hlt : ∀ g, some g = v.ownBlock → B ≤ g := fun g hg => (h6.lt g hg.symm).1
  refine ⟨he, ⟨tr, v', S, h1.keeps hk' ?_, h2.keeps hk' ?_, h3, h4, hW', ?_, Nat.le_trans h7 hk'.size⟩, hk'.mono ?_⟩
  · rintro (hh | hh)
    · exact h1.ne h5 (by decide) hh
    · exact own_ne h6 h1 (by decide) hh.symm
  · rintro (hh | hh)
    · exact h2.ne h5 (by decide) hh
    · have := hlt _ hh; omega
  · rw [List.length_append, hl]; exact ho'
  · rintro i (hh | hh)
    · exact Or.inl hh
    · exact Or.inr (Or.inr (hlt _ hh))

/-- What lies in the scratch. -/
theorem scratch_cells {w : World} {s : Nat} {S : Array Value} {u : Int} {n : Nat} (hs : Row w s 5 S) (h : ∀ j, j < n → S[j]? = some (.int .u8 ((low u n).getD j 0))) : ∀ j x, ((low u n).map (Value.int .u8))[j]? = some x → w.cell? ((⟨s, 0, none⟩ : Addr).add j) = some x := by
  intro j x hx
  have hj : j < n := by
    have := (List.getElem?_eq_some_iff.1 hx).1
    simpa [low_length] using this
  rw [at_add, hs.cell, h j hj, ← hx]
  simp [List.getD, low_length, hj]

set_option maxRecDepth 100000 in
set_option maxHeartbeats 400000 in
theorem enc_bytes {w : World} {e W s B : Nat} {bs : List Int} (h : Enc w e W s B bs) (l : List Int) {ad : Addr} {n c : Nat} (hl : l.length = n) (hc : ∀ j u, (l.map (Value.int .u8))[j]? = some u → w.cell? (ad.add j) = some u) (hbd : bs.length + n ≤ 100000) :
    Calls Tryz.prog 116 #[.pointer (some ⟨e, 0, none⟩), .slice (some ad) n c] w fun ee w' => ee = .returned (.tuple #[]) ∧ Enc w' e W s B (bs ++ l) ∧ Keeps (fun i => i = W ∨ i = s ∨ B ≤ i) w w' := by
  have HC := hide (enc_write h l (c := c) hl hc hbd)
  obtain ⟨c0, c1⟩ := h.facts
  clear h hl hc
  go_enter Tryz.func116, Tryz.ntmps116
  go_wp2_with fail
  refine HC.out.mono ?_
  rintro ee w1 ⟨rfl, h1, hk1⟩
  go_wp2
  go_end0
  exact ⟨rfl, h1, hk1⟩

set_option maxRecDepth 100000 in
set_option maxHeartbeats 400000 in
theorem enc_byte {w : World} {e W s B : Nat} {bs : List Int} (h : Enc w e W s B bs) (b : Int) (hbd : bs.length + 1 ≤ 100000) :
    Calls Tryz.prog 72 #[.pointer (some ⟨e, 0, none⟩), .int .u8 b] w fun ee w' => ee = .returned (.tuple #[]) ∧ Enc w' e W s B (bs ++ [b]) ∧ Keeps (fun i => i = W ∨ i = s ∨ B ≤ i) w w' := by
  obtain ⟨S, hs, hS⟩ := h.scratch
  have hs1 := hs.put 0 (.int .u8 b)
  have hk1 : Keeps (fun i => i = s) w (w.setCell ⟨s, 0, none⟩ (.int .u8 b)) := Keeps.setCell (K := fun i => i = s) (p := ⟨s, 0, none⟩) (Keeps.refl _ _) (fun _ => rfl) _
  have h1 : Enc (w.setCell ⟨s, 0, none⟩ (.int .u8 b)) e W s B bs := h.put hs1 (by simpa using hS) hk1
  have hc : ∀ j u, (([b] : List Int).map (Value.int .u8))[j]? = some u → (w.setCell ⟨s, 0, none⟩ (.int .u8 b)).cell? ((⟨s, 0, none⟩ : Addr).add j) = some u := by
    intro j u hu
    rcases j with _ | j
    · rw [at_add, hs1.cell, ← hu]
      simp [hS]
    · simp at hu
  have HC := hide (enc_bytes (n := 1) h1 [b] (c := 4096) rfl hc hbd)
  obtain ⟨c0, c1⟩ := h.facts
  obtain ⟨d0, d1⟩ := h1.facts
  obtain ⟨x0, hx0⟩ : ∃ v, w.cell? ⟨s, 0, none⟩ = some v := ⟨_, (hs.cell 0).trans (Array.getElem?_eq_getElem (by omega))⟩
  have f0 := hs.frozen 0
  have HK := hide hk1
  clear h h1 hs hs1 hk1 hc
  go_enter Tryz.func72, Tryz.ntmps72
  go_wp2_with fail
  refine HC.out.mono ?_
  rintro ee w1 ⟨rfl, h1, hk1⟩
  go_wp2
  go_end0
  exact ⟨rfl, h1, (HK.out.mono (fun _ e => Or.inr (Or.inl e))).trans hk1⟩
end Go.Proofs.YtgiojjlmohhmkaaGreatDoor
