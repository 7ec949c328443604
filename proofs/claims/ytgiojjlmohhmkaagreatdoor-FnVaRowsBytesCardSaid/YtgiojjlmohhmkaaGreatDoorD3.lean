/-
  The walk of a result set's decodeResult: row by row, field by field.
-/
import Derived.Test.YtgiojjlmohhmkaaGreatDoorD2
namespace Go.Proofs.YtgiojjlmohhmkaaGreatDoor
open Go Go.RowKit

theorem Keeps.one (w : World) (g i : Nat) (u : Value) : Keeps (fun k => k = g) w (w.setCell ⟨g, i, none⟩ u) := Keeps.setCell (K := fun k => k = g) (Keeps.refl _ _) (fun _ => rfl) _

theorem IsAny.keeps {K : Nat → Prop} {w w' : World} {B : Nat} {v : Value} {x : Sv} (h : IsAny w B v x) (hk : Keeps K w w') (hK : ∀ g, B ≤ g → ¬ K g) : IsAny w' B v x := by
  rcases h with h | h | ⟨h1, h2, h3, g, h4, h5, h6⟩
  · exact Or.inl h
  · exact Or.inr (Or.inl h)
  · exact Or.inr (Or.inr ⟨h1, h2, h3, g, h4, h5, h6.keeps hk (hK g h5)⟩)
theorem IsAny.shape {w : World} {B : Nat} {v : Value} {x : Sv} (h : IsAny w B v x) : ∃ t u, v = .iface t u := by
  rcases h with ⟨_, h, _⟩ | ⟨_, h, _⟩ | ⟨_, _, _, g, h, _⟩ <;> exact ⟨_, _, h⟩
theorem IsAny.base {w : World} {B B' : Nat} {v : Value} {x : Sv} (h : IsAny w B v x) (hB : B' ≤ B) : IsAny w B' v x := by
  rcases h with h | h | ⟨h1, h2, h3, g, h4, h5, h6⟩
  · exact Or.inl h
  · exact Or.inr (Or.inl h)
  · exact Or.inr (Or.inr ⟨h1, h2, h3, g, h4, by omega, h6⟩)

/-- What the result set holds: N places, of which the first k are values. -/
def Vals (w : World) (B : Nat) (sv : Nat → Sv) (N k : Nat) (X : Array Value) : Prop := X.size = N ∧ ∀ m, m < k → ∃ v, X[m]? = some v ∧ IsAny w B v (sv m)

/-- How many bytes the first k values take. -/
def pos (codes : Nat → Nat) (ns : Nat → Int) (cols : Nat) : Nat → Nat
  | 0 => 0
  | k + 1 => pos codes ns cols k + (told (codes (k % cols)) (ns k)).length

/-- The cells of a result set. -/
def setCells (fields values : Value) : Array Value := #[fields, values, .slice none 0 0]

/-- What stands behind k values: the places, the decoder, and that nothing else has turned. -/
def SetSt (w2 wr : World) (d s r G N : Nat) (bs : List Int) (P : Nat → Nat) (sv : Nat → Sv) (k : Nat) : Prop :=
  ∃ X, Row wr G 20 X ∧ Vals wr (G + 1) sv N k X ∧ Dec wr d s r bs (P k) ∧ Keeps (fun i => i = d ∨ i = s ∨ i = G) w2 wr

theorem set_values {w : World} {R : Nat} {F V : Value} (h : Row w R 108 (setCells F V)) : w.cell? ⟨R, 1, none⟩ = some V := by
  have h1 := h.cell 1
  simpa [setCells] using h1

set_option maxRecDepth 100000 in
set_option maxHeartbeats 400000 in
theorem error_nil {w : World} {d s r : Nat} {bs : List Int} {p : Nat} (h : Dec w d s r bs p) : Calls Tryz.prog 53 #[.pointer (some ⟨d, 0, none⟩)] w fun e w' => e = .returned .nilIface ∧ w = w' := by
  obtain ⟨rc, tr, S, R, h1, _⟩ := h
  have c2 := h1.cell 2
  simp [decCells] at c2
  go_enter Tryz.func53, Tryz.ntmps53
  go_wp2
  go_ret
  exact ⟨rfl, rfl⟩

theorem SetSt.kept {w2 wr : World} {d s r G N : Nat} {bs : List Int} {P : Nat → Nat} {sv : Nat → Sv} {k : Nat} (h : SetSt w2 wr d s r G N bs P sv k) : Keeps (fun i => i = d ∨ i = s ∨ i = G) w2 wr := by
  obtain ⟨_, _, _, _, h⟩ := h
  exact h

theorem SetSt.cell {w2 wr w3 : World} {d s r G N : Nat} {bs : List Int} {P : Nat → Nat} {sv : Nat → Sv} {k : Nat} (h : SetSt w2 wr d s r G N bs P sv k) (hk : k < N) (hd : d < G) (hs : s < G) (hK : Keeps (fun i => i = d ∨ i = s) wr.drew w3) :
    ∃ u, w3.cell? ⟨G, k, none⟩ = some u ∧ w3.frozen? ⟨G, k, none⟩ = false := by
  obtain ⟨X, hX, ⟨hN, _⟩, _⟩ := h
  have hX3 := hX.drew.keeps hK (by rintro (e | e) <;> omega)
  exact ⟨X[k], by rw [hX3.cell]; exact Array.getElem?_eq_getElem (by omega), hX3.frozen k⟩

theorem SetSt.step {w2 wr w3 : World} {d s r G N : Nat} {bs : List Int} {P : Nat → Nat} {sv : Nat → Sv} {k : Nat} {v : Value} (h : SetSt w2 wr d s r G N bs P sv k) (hk : k < N) (hd : d < G) (hs : s < G) (hr : r < G)
    (ha : IsAny w3 wr.heap.size v (sv k)) (hD : Dec w3 d s r bs (P (k + 1))) (hK : Keeps (fun i => i = d ∨ i = s) wr w3) : SetSt w2 (w3.setCell ⟨G, k, none⟩ v) d s r G N bs P sv (k + 1) := by
  obtain ⟨X, hX, ⟨hN, hv⟩, hD0, hk0⟩ := h
  have hX3 := hX.keeps hK (by rintro (e | e) <;> omega)
  have hst : Keeps (fun i => i = G) w3 (w3.setCell ⟨G, k, none⟩ v) := Keeps.one _ _ _ _
  refine ⟨_, hX3.put k v, ⟨by simpa using hN, fun m hm => ?_⟩, hD.keeps hst (by omega) (by omega) (by omega), (hk0.trans (hK.mono (fun i e => e.elim Or.inl (fun e => Or.inr (Or.inl e))))).trans (hst.mono (fun i e => Or.inr (Or.inr e)))⟩
  by_cases e : m = k
  · subst e
    exact ⟨v, by simp [hN, hk], (ha.base (by have := hX.lt; omega)).keeps hst (fun g hg => by omega)⟩
  · obtain ⟨u, hu, hau⟩ := hv m (by omega)
    refine ⟨u, ?_, (hau.keeps hK (fun g hg => by omega)).keeps hst (fun g hg => by omega)⟩
    rw [Array.getElem?_setIfInBounds_ne (by omega)]
    exact hu

theorem resize_nil' (n : Nat) (x : Int) (w : World) (hn : n ≤ 120) (hx : x = (n : Int)) :
    Calls Tryz.prog 50 #[.slice none 0 0, .int .i64 x] w fun e w' => e = .returned (.slice (some ⟨w.heap.size, 0, none⟩) n n) ∧ Row w' w.heap.size 20 (madeCells #[.nilIface] n) ∧ Keeps (fun _ => False) w w' := by
  subst hx
  exact resize_nil n hn w

set_option maxRecDepth 100000 in
set_option maxHeartbeats 800000 in
theorem set_any (rows cols : Nat) (hc0 : 0 < cols) (hc1 : cols ≤ 10) (hr1 : rows ≤ 12) (codes : Nat → Nat) (hcodes : ∀ j, CodeOk (codes j)) (ns : Nat → Int) (hns : ∀ k, -9223372036854775808 ≤ ns k ∧ ns k ≤ 9223372036854775807)
    {w : World} {R L lc d s r : Nat} {bs : List Int} {fl : Nat → Nat} {nm : Nat → Value} {C : Array Value} (hR : Row w R 108 (setCells (.slice (some ⟨L, 0, none⟩) cols lc) (.slice none 0 0))) (hL : Row w L 63 C)
    (hC : ∀ j, j < cols → C[j]? = some (.pointer (some ⟨fl j, 0, none⟩))) (hf : ∀ j, j < cols → Row w (fl j) 98 (fieldCells (nm j) (codes j))) (hD : Dec w d s r bs 0) (hb : ∀ j, 0 ≤ bt bs j ∧ bt bs j ≤ 255)
    (hat : ∀ k, k < rows * cols → At bs (pos codes ns cols k) (told (codes (k % cols)) (ns k))) :
    Calls Tryz.prog 33 #[.pointer (some ⟨R, 0, none⟩), .pointer (some ⟨d, 0, none⟩), .int .i64 rows, .nilIface, .int .i64 0] w fun e w' => e = .returned .nilIface ∧ ∃ G X, w.heap.size ≤ G ∧
      Row w' R 108 (setCells (.slice (some ⟨L, 0, none⟩) cols lc) (.slice (some ⟨G, 0, none⟩) (rows * cols) (rows * cols))) ∧ Row w' G 20 X ∧ Vals w' (G + 1) (fun k => svOf (codes (k % cols)) (ns k)) (rows * cols) (rows * cols) X ∧
      Dec w' d s r bs (pos codes ns cols (rows * cols)) ∧ Keeps (fun i => i = d ∨ i = s ∨ i = R) w w' := by
  have r0 := hR.cell 0
  have r1 := hR.cell 1
  simp [setCells] at r0 r1
  have hN : rows * cols ≤ 120 := Nat.le_trans (Nat.mul_le_mul hr1 hc1) (by decide)
  go_enter Tryz.func33, Tryz.ntmps33
  go_wp2_with fail
  refine (resize_nil' (rows * cols) _ _ hN (by simp)).mono ?_
  rintro e w1 ⟨rfl, hG1, hk1⟩
  have hR1 := hR.keeps hk1 id
  have r1' := hR1.cell 1
  have f1' := hR1.frozen 1
  simp [setCells] at r1'
  have hGR : R ≠ w.heap.size := Nat.ne_of_lt hR.lt
  clear r0 r1
  go_wp2_with fail
  have hR2 : Row (w1.setCell ⟨R, 1, none⟩ (.slice (some ⟨w.heap.size, 0, none⟩) (rows * cols) (rows * cols))) R 108 (setCells (.slice (some ⟨L, 0, none⟩) cols lc) (.slice (some ⟨w.heap.size, 0, none⟩) (rows * cols) (rows * cols))) := by
    simpa [setCells] using hR1.put 1 (.slice (some ⟨w.heap.size, 0, none⟩) (rows * cols) (rows * cols))
  have hG2 := hG1.far (p := ⟨R, 1, none⟩) (fun e => hGR e.symm) (.slice (some ⟨w.heap.size, 0, none⟩) (rows * cols) (rows * cols))
  have hk2 : Keeps (fun i => i = R) w (w1.setCell ⟨R, 1, none⟩ (.slice (some ⟨w.heap.size, 0, none⟩) (rows * cols) (rows * cols))) := (hk1.mono (fun _ e => e.elim)).trans (Keeps.one _ _ _ _)
  clear hR1 hG1 hk1 r1' f1'
  generalize World.setCell w1 _ _ = w2 at *
  have hlt := hD.lt
  have hDR : ¬ d = R ∧ ¬ s = R ∧ ¬ r = R ∧ ¬ d = L ∧ ¬ s = L ∧ ∀ j, j < cols → ¬ d = fl j ∧ ¬ s = fl j := by
    obtain ⟨rc, tr, S, RR, h1, h2, h3, h4, _⟩ := hD
    exact ⟨h1.ne hR (by decide), h2.ne hR (by decide), h4.ne hR (by decide), h1.ne hL (by decide), h2.ne hL (by decide), fun j hj => ⟨h1.ne (hf j hj) (by decide), h2.ne (hf j hj) (by decide)⟩⟩
  obtain ⟨hdR, hsR, hrR, hdL, hsL, hdf⟩ := hDR
  have hLlt := hL.lt
  have hKR : ¬ (R = d ∨ R = s ∨ R = w.heap.size) := by rintro (e | e | e) <;> omega
  have hKL : ¬ (L = d ∨ L = s ∨ L = w.heap.size) := by rintro (e | e | e) <;> omega
  have hKf : ∀ j, j < cols → ¬ (fl j = d ∨ fl j = s ∨ fl j = w.heap.size) := by
    intro j hj
    have h1 := (hf j hj).lt
    have h2 := hdf j hj
    rintro (e | e | e) <;> omega
  have hSt : SetSt w2 w2 d s r w.heap.size (rows * cols) bs (pos codes ns cols) (fun k => svOf (codes (k % cols)) (ns k)) 0 :=
    ⟨_, hG2, ⟨by simp [madeCells], fun m hm => by omega⟩, hD.keeps hk2 hdR hsR hrR, Keeps.refl _ _⟩
  have hL2 := hL.keeps hk2 (hL.ne hR (by decide))
  have hf2 := fun j hj => (hf j hj).keeps hk2 ((hf j hj).ne hR (by decide))
  go_loopw [12] (fun iv wr => ∃ i : Nat, i ≤ rows ∧ iv = .int .i64 i ∧ SetSt w2 wr d s r w.heap.size (rows * cols) bs (pos codes ns cols) (fun k => svOf (codes (k % cols)) (ns k)) (i * cols)) (fun iv _ => rows - (intOf iv).toNat)
  case atStart => exact ⟨0, Nat.zero_le _, rfl, by rw [Nat.zero_mul]; exact hSt⟩
  case round =>
    obtain ⟨i, hi, rfl, hst⟩ := hrel
    have hkr := hst.kept
    have hRr := hR2.keeps hkr hKR
    have rr0 := hRr.cell 0
    simp [setCells] at rr0
    obtain ⟨wo, rfl⟩ : ∃ wo : World, wo = wr := ⟨_, rfl⟩
    by_cases hlt2 : i < rows
    · go_wp2_with fail
      go_loopw [42] (fun jv wi => ∃ j : Nat, j ≤ cols ∧ jv = .int .i64 j ∧ SetSt w2 wi d s r w.heap.size (rows * cols) bs (pos codes ns cols) (fun k => svOf (codes (k % cols)) (ns k)) (i * cols + j)) (fun jv _ => cols - (intOf jv).toNat)
      case atStart => exact ⟨0, Nat.zero_le _, rfl, hst⟩
      case round =>
        obtain ⟨j, hj, rfl, hsti⟩ := hrel
        by_cases hlt3 : j < cols
        · have hki := hsti.kept
          have hlj := (hL2.keeps hki hKL).cell j
          rw [hC j hlt3] at hlj
          have hRi := hR2.keeps hki hKR
          have ri1 := hRi.cell 1
          simp [setCells] at ri1
          have hfi := (hf2 j hlt3).keeps hki (hKf j hlt3)
          have hkN : i * cols + j < rows * cols := by
            have h1 : (i + 1) * cols ≤ rows * cols := Nat.mul_le_mul_right _ (by omega)
            rw [Nat.add_mul, Nat.one_mul] at h1
            omega
          have hmod : (i * cols + j) % cols = j := by rw [Nat.mul_comm, Nat.mul_add_mod]; exact Nat.mod_eq_of_lt hlt3
          have hatk := hat _ hkN
          rw [hmod] at hatk
          have hDi : Dec wr d s r bs (pos codes ns cols (i * cols + j)) := by
            obtain ⟨_, _, _, h, _⟩ := hsti
            exact h
          have HF := hide (field_any (codes j) (hcodes j) (ns (i * cols + j)) (hns _).1 (hns _).2 hDi.drew hb hatk hfi.drew)
          have hs0 : IntKind.i64.wrap ((i : Int) * cols) = (i : Int) * cols := by
            have h1 : (i : Int) * cols = ((i * cols : Nat) : Int) := by simp
            rw [h1, IntKind.wrap_i64]; omega
          have hs1 : IntKind.i64.wrap ((i : Int) * cols + j) = (i : Int) * cols + j := by
            have h1 : (i : Int) * cols = ((i * cols : Nat) : Int) := by simp
            rw [h1, IntKind.wrap_i64]; omega
          have hs2 : (0 : Int) ≤ (i : Int) * cols + j := by
            have h1 : (i : Int) * cols = ((i * cols : Nat) : Int) := by simp
            rw [h1]; omega
          have hs3 : (i : Int) * cols + j < (rows : Int) * cols := by
            have h1 : (i : Int) * cols = ((i * cols : Nat) : Int) := by simp
            have h2 : (rows : Int) * cols = ((rows * cols : Nat) : Int) := by simp
            rw [h1, h2]; omega
          have hs4 : ((i : Int) * cols + j).toNat = i * cols + j := by
            have h1 : (i : Int) * cols = ((i * cols : Nat) : Int) := by simp
            rw [h1]; omega
          have HST := hide hsti
          have HRI := hide hRi
          have HHR := hide hat
          have HHC := hide hC
          have HHF := hide hf2
          clear hf hf2 hC hat hatk hfi hsti hcodes hns hDi hst hRr rr0 hkr hb hKf hdf hSt hRi
          go_wp2_with fail
          go_region_with (go_at_call 51; refine HF.out.mono ?_; rintro e w3 ⟨v, rfl, ha, hd3, hk3⟩; obtain ⟨tt, uu, rfl⟩ := ha.shape; obtain ⟨x3, hx3, hz3⟩ := HST.out.cell hkN hlt.1 hlt.2.1 hk3; have y3 := set_values (HRI.out.drew.keeps hk3 (by rintro (e | e) <;> omega)))
          all_goals
            have hst3 := HST.out.step hkN hlt.1 hlt.2.1 hlt.2.2 (by have h1 := ha; simp only [hmod]; exact h1) (by simp only [pos, hmod]; exact hd3) ((Keeps.refl _ _).drew.trans hk3)
            have HS3 := hide hst3
            clear hst3 ha hd3 hk3 hx3 hz3 y3 HF HRI HST ri1 hlj
            go_wp2
            go_roundw
            case rel => exact ⟨j + 1, by omega, by go_num, HS3.out⟩
            case measure => simp [intOf]; omega
        · obtain rfl : j = cols := by omega
          go_wp2_with fail
          go_roundw
          case rel => exact ⟨i + 1, by omega, by go_num, by rw [Nat.add_mul, Nat.one_mul]; exact hsti⟩
          case measure => simp [intOf]; omega
    · obtain rfl : i = rows := by omega
      have HE : Hid (Dec wo d s r bs (pos codes ns cols (i * cols))) := by
        obtain ⟨_, _, _, h, _⟩ := hst
        exact h
      go_wp2_with fail
      refine (error_nil HE.out).mono ?_
      rintro e w4 ⟨rfl, rfl⟩
      go_wp2
      go_ret
      obtain ⟨X, hX, hV, hDD, hKK⟩ := hst
      refine ⟨rfl, w.heap.size, X, Nat.le_refl _, hRr, hX, hV, hDD, ?_⟩
      exact (hk2.mono (fun _ e => Or.inr (Or.inr e))).trans_new hKK (fun k hk e => by rcases e with e | e | e <;> omega)
end Go.Proofs.YtgiojjlmohhmkaaGreatDoor
