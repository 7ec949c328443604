/-
  The walk of RowsBytes: rows of parameters as bytes.
-/
import Derived.Test.YtgiojjlmohhmkaaGreatDoorH11
namespace Go.Proofs.YtgiojjlmohhmkaaGreatDoor
open Go Go.RowKit

/-- The deferred closure of RowsBytes behind a return: nothing is recovered. -/
theorem rb_idle (p q r s : Addr) (w : World) :
    CallsD Tryz.prog 28 #[.pointer (some p), .pointer (some q), .pointer (some r), .pointer (some s)] .returning w fun e u' w' => e = .returned (.tuple #[]) ∧ u' = .returning ∧ w' = w := by
  refine callsD_of_wpS Tryz.func28 rfl fun c₀ cs hu => ?_
  apply wpS_seq
  apply wpS_region
  simp [wpOpsS, go_sem, recoverD, hu, Tryz.ntmps28, Exit.thenS]
  refine wpS_cond (t := false) (by simp [Act.eval, Array.replicate]) ?_
  simp only [Bool.false_eq_true, if_false]
  refine wpS_of_wp (wp_skip ?_)
  cases c₀
  simp_all [bodyPostS, results, Tryz.results28]

theorem info76 : (Tryz.prog.info? 76).map (fun i => (i.zero, i.size, i.bytes)) = some (some (.pointer none), 1, 8) := by kernel_rfl
theorem size50 : (Tryz.prog.info? 50).map (·.size) = some 7 := by kernel_rfl
/-- The cells of a field of parameters of the type code c, as the law lays it. -/
def fldCells (c : Nat) : Array Value := #[.int .i64 c, .int .i64 0, .int .i64 0, .int .i64 0, .int .i64 0, .int .i64 1, .string ⟨#[]⟩]
theorem fld_one (c : Nat) : (fldCells c).all (·.oneCell') = true := by simp [fldCells, Value.oneCell']

/-- k fields, each in a block of its own. -/
def PfAt (w : World) (base : Nat) (codes : Nat → Nat) (k : Nat) (xs : List Value) : Prop :=
  xs.length = k ∧ ∀ j, j < k → ∃ f nm, xs[j]? = some (.pointer (some ⟨f, 0, none⟩)) ∧ base ≤ f ∧ Row w f 132 (pfCells nm (codes j))
theorem PfAt.step {w w' : World} {K : Nat → Prop} {base g : Nat} {codes : Nat → Nat} {k : Nat} {xs : List Value} {nm : Value} (h : PfAt w base codes k xs) (hk : Keeps K w w') (hK : ∀ i cs, Row w i 132 cs → ¬ K i) (hg : base ≤ g) (hr : Row w' g 132 (pfCells nm (codes k))) :
    PfAt w' base codes (k + 1) (xs ++ [.pointer (some ⟨g, 0, none⟩)]) := by
  refine ⟨by simp [h.1], fun j hj => ?_⟩
  by_cases e : j = k
  · subst e
    exact ⟨g, nm, by rw [List.getElem?_append_right (by rw [h.1]; exact Nat.le_refl _), h.1]; simp, hg, hr⟩
  · obtain ⟨f, nm', a1, a2, a3⟩ := h.2 j (by omega)
    exact ⟨f, nm', by rw [List.getElem?_append_left (by rw [h.1]; omega)]; exact a1, a2, a3.keeps hk (hK _ _ a3)⟩

/-- k values as Go's any. -/
def AnysAt (w : World) (sv : Nat → Sv) (k : Nat) (xs : List Value) : Prop :=
  xs.length = k ∧ ∀ j, j < k → ∃ v, xs[j]? = some v ∧ AnyIs w w.heap.size v (sv j)
theorem AnysAt.step {w w' : World} {K : Nat → Prop} {sv : Nat → Sv} {k : Nat} {xs : List Value} {v : Value} (h : AnysAt w sv k xs) (hk : Keeps K w w') (hK : ∀ i cs, Row w i 5 cs → ¬ K i) (hv : AnyIs w' w'.heap.size v (sv k)) :
    AnysAt w' sv (k + 1) (xs ++ [v]) := by
  refine ⟨by simp [h.1], fun j hj => ?_⟩
  by_cases e : j = k
  · subst e
    exact ⟨v, by rw [List.getElem?_append_right (by rw [h.1]; exact Nat.le_refl _), h.1]; simp, hv⟩
  · obtain ⟨v', a1, a2⟩ := h.2 j (by omega)
    exact ⟨v', by rw [List.getElem?_append_left (by rw [h.1]; omega)]; exact a1, (a2.keeps' hk (fun i cs _ hr => hK i cs hr)).up hk.size⟩

theorem wpos_pos (codes : Nat → Nat) (sv : Nat → Sv) (cols : Nat) {k : Nat} (hk : 0 < k) : 0 < wpos codes sv cols k := by
  obtain ⟨m, rfl⟩ : ∃ m, k = m + 1 := ⟨k - 1, by omega⟩
  rw [wpos]
  simp [wrote]
  omega
/-- The four results of RowsBytes, each in a block of its own. -/
def FourB (w : World) (b : Nat) (o1 o2 : Value) : Prop := Row w b 22 #[.slice none 0 0] ∧ Row w (b + 1) 3 #[o1] ∧ Row w (b + 1 + 1) 3 #[o2] ∧ Row w (b + 1 + 1 + 1) 3 #[.int .i64 0]
theorem FourB.keeps {K : Nat → Prop} {w w' : World} {b : Nat} {o1 o2 : Value} (h : FourB w b o1 o2) (hk : Keeps K w w') (hK : ∀ i, b ≤ i → i ≤ b + 1 + 1 + 1 → ¬ K i) : FourB w' b o1 o2 :=
  ⟨h.1.keeps hk (hK _ (by omega) (by omega)), h.2.1.keeps hk (hK _ (by omega) (by omega)), h.2.2.1.keeps hk (hK _ (by omega) (by omega)), h.2.2.2.keeps hk (hK _ (by omega) (by omega))⟩

/-- What the last stores leave. -/
theorem FourB.ended {w : World} {b : Nat} {o1 o2 : Value} (h : FourB w b o1 o2) (out : Value) (n m : Int) :
    Keeps (fun i => b ≤ i ∧ i ≤ b + 1 + 1 + 1) w ((((w.setCell ⟨b, 0, none⟩ out).setCell ⟨b + 1, 0, none⟩ (.int .i64 n)).setCell ⟨b + 1 + 1, 0, none⟩ (.int .i64 m)).setCell ⟨b + 1 + 1 + 1, 0, none⟩ (.int .i64 0)).drew ∧ ((((w.setCell ⟨b, 0, none⟩ out).setCell ⟨b + 1, 0, none⟩ (.int .i64 n)).setCell ⟨b + 1 + 1, 0, none⟩ (.int .i64 m)).setCell ⟨b + 1 + 1 + 1, 0, none⟩ (.int .i64 0)).drew.cell? ⟨b, 0, none⟩ = some out ∧
    ((((w.setCell ⟨b, 0, none⟩ out).setCell ⟨b + 1, 0, none⟩ (.int .i64 n)).setCell ⟨b + 1 + 1, 0, none⟩ (.int .i64 m)).setCell ⟨b + 1 + 1 + 1, 0, none⟩ (.int .i64 0)).drew.cell? ⟨b + 1, 0, none⟩ = some (.int .i64 n) ∧ ((((w.setCell ⟨b, 0, none⟩ out).setCell ⟨b + 1, 0, none⟩ (.int .i64 n)).setCell ⟨b + 1 + 1, 0, none⟩ (.int .i64 m)).setCell ⟨b + 1 + 1 + 1, 0, none⟩ (.int .i64 0)).drew.cell? ⟨b + 1 + 1, 0, none⟩ = some (.int .i64 m) ∧ ((((w.setCell ⟨b, 0, none⟩ out).setCell ⟨b + 1, 0, none⟩ (.int .i64 n)).setCell ⟨b + 1 + 1, 0, none⟩ (.int .i64 m)).setCell ⟨b + 1 + 1 + 1, 0, none⟩ (.int .i64 0)).drew.cell? ⟨b + 1 + 1 + 1, 0, none⟩ = some (.int .i64 0) := by
  obtain ⟨h1, h2, h3, h4⟩ := h
  have a1 := (((h1.put 0 out).far (p := ⟨b + 1, 0, none⟩) (by first | (simp; done) | (simp; omega)) (.int .i64 n)).far (p := ⟨b + 1 + 1, 0, none⟩) (by first | (simp; done) | (simp; omega)) (.int .i64 m)).far (p := ⟨b + 1 + 1 + 1, 0, none⟩) (by first | (simp; done) | (simp; omega)) (.int .i64 0)
  have a2 := (((h2.far (p := ⟨b, 0, none⟩) (by first | (simp; done) | (simp; omega)) out).put 0 (.int .i64 n)).far (p := ⟨b + 1 + 1, 0, none⟩) (by first | (simp; done) | (simp; omega)) (.int .i64 m)).far (p := ⟨b + 1 + 1 + 1, 0, none⟩) (by first | (simp; done) | (simp; omega)) (.int .i64 0)
  have a3 := (((h3.far (p := ⟨b, 0, none⟩) (by first | (simp; done) | (simp; omega)) out).far (p := ⟨b + 1, 0, none⟩) (by first | (simp; done) | (simp; omega)) (.int .i64 n)).put 0 (.int .i64 m)).far (p := ⟨b + 1 + 1 + 1, 0, none⟩) (by first | (simp; done) | (simp; omega)) (.int .i64 0)
  have a4 := (((h4.far (p := ⟨b, 0, none⟩) (by first | (simp; done) | (simp; omega)) out).far (p := ⟨b + 1, 0, none⟩) (by first | (simp; done) | (simp; omega)) (.int .i64 n)).far (p := ⟨b + 1 + 1, 0, none⟩) (by first | (simp; done) | (simp; omega)) (.int .i64 m)).put 0 (.int .i64 0)
  refine ⟨?_, (a1.drew.cell 0).trans (by simp), (a2.drew.cell 0).trans (by simp), (a3.drew.cell 0).trans (by simp), (a4.drew.cell 0).trans (by simp)⟩
  exact (((((Keeps.one w b 0 out).mono (fun i e => by omega)).trans ((Keeps.one _ (b + 1) 0 _).mono (fun i e => by omega))).trans ((Keeps.one _ (b + 1 + 1) 0 _).mono (fun i e => by omega))).trans ((Keeps.one _ (b + 1 + 1 + 1) 0 _).mono (fun i e => by omega))).drew

set_option maxRecDepth 100000 in
set_option maxHeartbeats 1600000 in
theorem rowsbytes_any (rows cols : Nat) (hc0 : 0 < cols) (hc1 : cols ≤ 10) (hr0 : 0 < rows) (hr1 : rows ≤ 12) {N : Nat} (hN : rows * cols = N) (codes : Nat → Nat) (hcodes : ∀ j, CodeOk (codes j)) (sv : Nat → Sv) (hfit : ∀ k, Fits (codes (k % cols)) (sv k))
    {w : World} {cb cc vb vc : Nat} {CB : Array Value} (hCB : Row w cb 50 CB) (hcol : ∀ k, k < cols → ∀ j v, (fldCells (codes k)).toList[j]? = some v → CB[k * 7 + j]? = some v) (hvb : vb < w.heap.size)
    (hval : ∀ k, k < N → ∃ b base, (∀ j v, ((sv k).cells b).toList[j]? = some v → w.cell? ⟨vb, k * 22 + j, none⟩ = some v) ∧ Clean (sv k) ∧ w.ownsRow base 5 1 b (sv k).txt.length ((sv k).txt.map (Value.int .u8))) :
    Calls Tryz.prog 10 #[.slice (some ⟨cb, 0, none⟩) cols cc, .slice (some ⟨vb, 0, none⟩) N vc] w fun e w' => ∃ v, e = .returned (.tuple #[v, .int .i64 (wpos codes sv cols N), .int .i64 rows, .int .i64 0]) ∧
      w'.ownsRow w.heap.size 5 1 v (wpos codes sv cols N) ((wall codes sv cols N).map (Value.int .u8)) ∧ Below w.heap.size w w' := by
  have hmf : ∀ (fn : Fn) (first cap : Array Value) (w : World), (Instr.makeFunc fn first cap).run Tryz.prog w = .ok (.func fn first cap) w := fun _ _ _ _ => rfl
  have hN120 : N ≤ 120 := by rw [← hN]; exact Nat.le_trans (Nat.mul_le_mul hr1 hc1) (by decide)
  have hN0 : 0 < N := by rw [← hN]; exact Nat.mul_pos hr0 hc0
  have g1 : decide ((20 : Int) < cols) = false := by simp; omega
  have g2 : decide ((200 : Int) < N) = false := by simp; omega
  obtain ⟨i76, hi, hz0, hz1, hz2⟩ := info_parts info76
  obtain ⟨i20, ki, kz0, kz1, kz2⟩ := info_parts info20
  have hcblt := hCB.lt
  go_enter_defers Tryz.func10, Tryz.ntmps10
  go_wp2_with fail
  have hF0 : FourB ((((w.alloc (.cells #[.slice none 0 0] 22)).alloc (.cells #[.int .i64 0] 3)).alloc (.cells #[.int .i64 0] 3)).alloc (.cells #[.int .i64 0] 3)) w.heap.size (.int .i64 0) (.int .i64 0) := by
    refine ⟨(((Row.made _ _ _).alloc _).alloc _).alloc _, ?_, ?_, ?_⟩
    · have h := Row.made (w.alloc (.cells #[.slice none 0 0] 22)) 3 #[.int .i64 0]
      rw [World.size_alloc] at h
      exact (h.alloc _).alloc _
    · have h := Row.made ((w.alloc (.cells #[.slice none 0 0] 22)).alloc (.cells #[.int .i64 0] 3)) 3 #[.int .i64 0]
      rw [World.size_alloc, World.size_alloc] at h
      exact h.alloc _
    · have h := Row.made (((w.alloc (.cells #[.slice none 0 0] 22)).alloc (.cells #[.int .i64 0] 3)).alloc (.cells #[.int .i64 0] 3)) 3 #[.int .i64 0]
      rw [World.size_alloc, World.size_alloc, World.size_alloc] at h
      exact h
  have hk0 : Keeps (fun _ => False) w ((((w.alloc (.cells #[.slice none 0 0] 22)).alloc (.cells #[.int .i64 0] 3)).alloc (.cells #[.int .i64 0] 3)).alloc (.cells #[.int .i64 0] 3)) := ((((Keeps.refl _ _).alloc _).alloc _).alloc _).alloc _
  have hsz : w.heap.size + 4 ≤ ((((w.alloc (.cells #[.slice none 0 0] 22)).alloc (.cells #[.int .i64 0] 3)).alloc (.cells #[.int .i64 0] 3)).alloc (.cells #[.int .i64 0] 3)).heap.size := by simp [World.size_alloc]
  generalize hw1 : World.alloc _ _ = w1 at hF0 hk0 hsz ⊢
  clear hw1
  have HF := hide hF0
  have HK := hide hk0
  have HCB := hide hCB
  have HCOL := hide hcol
  have HVAL := hide hval
  have HN := hide hN
  clear hF0 hk0 hCB hcol hval hN
  go_loopw [8, 29] (fun l iv wr => ∃ (k : Nat) (xs : List Value), k ≤ cols ∧ iv = .int .i64 k ∧ wr.ownsRow w1.heap.size 76 1 l k xs ∧ PfAt wr w1.heap.size codes k xs ∧ Keeps (fun _ => False) w1 wr) (fun _ iv _ => cols - (intOf iv).toNat)
  case atStart => exact ⟨0, [], Nat.zero_le _, rfl, World.ownsRow_nil _ _ _ _, ⟨rfl, fun j hj => by omega⟩, Keeps.refl _ _⟩
  case round =>
    obtain ⟨k, xs, hk, rfl, hown, hfa, hkr⟩ := hrel
    obtain ⟨wo, rfl⟩ : ∃ wo : World, wo = wr := ⟨_, rfl⟩
    by_cases hlt : k < cols
    · have hcbr := (HCB.out.keeps HK.out id).keeps hkr id
      have hcells : ∀ j v, (fldCells (codes k)).toList[j]? = some v → wo.cell? ((⟨cb, k * 7, none⟩ : Addr).add j) = some v := by
        intro j v hv
        have h1 := HCOL.out k hlt j v hv
        rw [Addr.add_mid, hcbr.cell]
        exact h1
      have hrow0 : Row (wo.alloc (.cells #[.int .i64 0, .int .i64 0, .int .i64 0, .int .i64 0, .int .i64 0, .int .i64 0, .string ⟨#[]⟩] 50)) wo.heap.size 50 #[.int .i64 0, .int .i64 0, .int .i64 0, .int .i64 0, .int .i64 0, .int .i64 0, .string ⟨#[]⟩] := Row.made _ _ _
      go_wp2_with (first | (refine wpList_load_at rfl 50 (.tmp 31) rfl ⟨cb, k * 7, none⟩ rfl (fldCells (codes k)) _ hcells Tryz.underlying50 rfl size50 ?_) | (refine wpList_store_row rfl 50 (.tmp 10) (.tmp 32) rfl wo.heap.size (fldCells (codes k)) rfl rfl 50 _ hrow0 size50 rfl (fld_one _) ?_; apply wp_stop))
      have hrow4 := hrow0.setRow (fldCells (codes k))
      have hk4 : Keeps (fun _ => False) wo ((wo.alloc (.cells #[.int .i64 0, .int .i64 0, .int .i64 0, .int .i64 0, .int .i64 0, .int .i64 0, .string ⟨#[]⟩] 50)).setRow wo.heap.size (fldCells (codes k))) := Keeps.of_below (below_setRow' ((Below.refl _ _).alloc (Nat.le_refl _) _) (Nat.le_refl _) _) _
      have hown4 := own_keeps hown hk4 (fun _ _ _ _ => id)
      clear hrow0 hcbr hcells
      unfold Stop
      generalize World.setRow _ _ _ = w4 at *
      have c0 := hrow4.cell 0
      have c2 := hrow4.cell 2
      have c3 := hrow4.cell 3
      have c5 := hrow4.cell 5
      simp [fldCells] at c0 c2 c3 c5
      have hcv : IntKind.u8.wrap (codes k : Int) = codes k := by
        have h := hcodes k
        unfold CodeOk at h
        simp only [IntKind.wrap, IntKind.bits, IntKind.signed]
        simp
        omega
      go_wp2_with fail
      refine (near_nought _).mono ?_
      rintro e w5 ⟨rfl, rfl⟩
      go_wp2_with fail
      refine (near_nought _).mono ?_
      rintro e w5 ⟨rfl, rfl⟩
      go_wp2_with fail
      refine (field_new _ _).mono ?_
      rintro e w5 ⟨g, nm, rfl, hg5, hrow5, hk5⟩
      have hkx := (hk4.trans hk5)
      have hownx := (own_keeps hown4 hk5 (fun _ _ _ _ => id)).alloc (.cells #[.pointer (some ⟨g, 0, none⟩)] 76)
      have hs4 := hk4.size
      have hs5 := hk5.size
      have hsr := hkr.size
      clear hown hk4 hk5 hown4 hrow4 c0 c2 c3 c5 hcv
      go_wp2_with (at_builtin; refine wpList_append_own _ rfl (.tmp 43) (.tmp 54) 85 rfl w1.heap.size 76 i76 (.pointer none) 1 8 Tryz.underlying85 hi hz0 hz1 hz2 rfl (by decide) _ _ _ rfl hownx ⟨w5.heap.size, 0, none⟩ 1 1 [.pointer (some ⟨g, 0, none⟩)] rfl rfl ?c1 ?c2 ?c3 ?c4 ?c5 ?_)
      case c1 => exact cells_new _ _ rfl _ _ _ rfl
      case c2 => intro x hx; simp at hx; subst hx; rfl
      case c3 => unfold maxLen; omega
      case c4 => omega
      case c5 => simp; omega
      intro v' w6 hown6 hg6 _
      have hkg : Keeps (fun i => some i = u8.ownBlock) w5 w6 := ((Keeps.refl _ _).alloc _).grown hg6 (fun k e _ => e.symm)
      have hK6 : ∀ i t cs, Row w5 i t cs → t ≠ 76 → ¬ some i = u8.ownBlock := fun i t cs hi ht e => own_ne hownx (hi.alloc _) ht.symm e.symm
      have hall : Keeps (fun i => some i = u8.ownBlock) wo w6 := (hkx.mono (fun _ e => e.elim)).trans hkg
      have hfa6 := hfa.step hall (fun i cs hi => hK6 i 132 cs (hi.keeps hkx id) (by decide)) (by omega) (hrow5.keeps hkg (hK6 _ _ _ hrow5 (by decide)))
      have hk6 : Keeps (fun _ => False) w1 w6 := hkr.trans_new hall (fun i hi e => by have := (hownx.lt i e.symm).1; omega)
      clear hownx hall hkg hK6 hg6 hrow5 hkx hfa hkr
      go_wp2
      go_roundw
      case rel => exact ⟨k + 1, _, by omega, by go_num, hown6, hfa6, hk6⟩
      case measure => simp [intOf]; omega
    · obtain rfl : cols = k := by omega
      obtain ⟨L, lc, C, rfl, hLb, hLr, _, _, _, hLt⟩ := own_pos hown hc0
      have hC : ∀ j, j < cols → ∃ f nm, C[j]? = some (.pointer (some ⟨f, 0, none⟩)) ∧ f < wo.heap.size ∧ Row wo f 132 (pfCells nm (codes j)) := by
        intro j hj
        obtain ⟨f, nm, a1, a2, a3⟩ := hfa.2 j hj
        have e : (C.toList.take (cols * 1))[j]? = xs[j]? := by rw [hLt]
        rw [List.getElem?_take, if_pos (by omega), Array.getElem?_toList, a1] at e
        exact ⟨f, nm, e, a3.lt, a3⟩
      have hsr := hkr.size
      have HL := hide hLr
      have HC := hide hC
      have HKA := hide (HK.out.trans hkr)
      have HFA := hide (HF.out.keeps hkr (fun _ _ _ => id))
      clear hown hfa hLr hLt hC hkr HK HF HCB HCOL
      go_wp2_with fail
      go_loopw [11, 59] (fun l iv wr => ∃ (k : Nat) (ys : List Value), k ≤ N ∧ iv = .int .i64 k ∧ wr.ownsRow wo.heap.size 20 1 l k ys ∧ AnysAt wr sv k ys ∧ Keeps (fun _ => False) wo wr) (fun _ iv _ => N - (intOf iv).toNat)
      case atStart => exact ⟨0, [], Nat.zero_le _, rfl, World.ownsRow_nil _ _ _ _, ⟨rfl, fun j hj => by omega⟩, Keeps.refl _ _⟩
      case round =>
        obtain ⟨k, ys, hk, rfl, hown, han, hkr⟩ := hrel
        obtain ⟨wp, rfl⟩ : ∃ wp : World, wp = wr := ⟨_, rfl⟩
        have hsp := hkr.size
        by_cases hlt2 : k < N
        · obtain ⟨b, base, hbc, hcl, hbo⟩ := HVAL.out k hlt2
          have hkW := HKA.out.trans hkr
          have hload : ∀ j v, ((sv k).cells b).toList[j]? = some v → wp.cell? ((⟨vb, k * 22, none⟩ : Addr).add j) = some v := by
            intro j v hv
            rw [Addr.add_mid]
            exact ((hkW.below (B := w.heap.size) (fun _ _ => id) (Nat.le_refl _)).cell (p := ⟨vb, k * 22 + j, none⟩) hvb).trans (hbc j v hv)
          have hbo1 := own_keeps hbo hkW (fun _ _ _ _ => id)
          have hrow0 : Row (wp.alloc (.cells (valCells 0 0 0 (.slice none 0 0)) 41)) wp.heap.size 41 (valCells 0 0 0 (.slice none 0 0)) := Row.made _ _ _
          have HOWN := hide hown
          have HAN := hide han
          have HKR := hide hkr
          have HCL := hide hcl
          clear hown han hkr hbc hbo hkW hcl
          go_wp2_with (first | (refine wpList_load_at rfl 41 (.tmp 61) rfl ⟨vb, k * 22, none⟩ rfl ((sv k).cells b) _ hload Tryz.underlying41 rfl size41 ?_) | (refine wpList_store_row rfl 41 (.tmp 13) (.tmp 62) rfl wp.heap.size ((sv k).cells b) rfl rfl 41 _ hrow0 size41 rfl (Sv.all_one _ hbo1) ?_; apply wp_stop))
          have hrow4 := hrow0.setRow ((sv k).cells b)
          have hk4 : Keeps (fun _ => False) wp ((wp.alloc (.cells (valCells 0 0 0 (.slice none 0 0)) 41)).setRow wp.heap.size ((sv k).cells b)) := Keeps.of_below (below_setRow' ((Below.refl _ _).alloc (Nat.le_refl _) _) (Nat.le_refl _) _) _
          simp only [valCells] at hrow4 hk4
          unfold Stop
          generalize World.setRow _ _ _ = w4 at hrow4 hk4 ⊢
          have hbo4 := own_keeps hbo1 hk4 (fun _ _ _ _ => id)
          have hload4 := hrow4.cells
          have HK4 := hide hk4
          clear hrow0 hload hbo1 hk4 hrow4
          go_wp2_with (refine wpList_load_at rfl 41 (.tmp 13) rfl ⟨wp.heap.size, 0, none⟩ rfl ((sv k).cells b) _ hload4 Tryz.underlying41 rfl size41 ?_)
          refine (anyof_any (hfit k) HCL.out.1 HCL.out.2.1 HCL.out.2.2 hbo4).mono ?_
          rintro e w5 ⟨v, rfl, hv5, hbe5⟩
          obtain ⟨tt, uu, rfl⟩ := hv5.shape
          have hk5 : Keeps (fun _ => False) wp w5 := HK4.out.trans (Keeps.of_below hbe5 _)
          have hownx := (own_keeps HOWN.out hk5 (fun _ _ _ _ => id)).alloc (.cells #[.iface tt uu] 20)
          have hs5 := hk5.size
          have HV5 := hide hv5
          have HK5 := hide hk5
          clear hload4 hbo4 hv5 hbe5 hk5
          go_wp2_with (at_builtin; refine wpList_append_own _ rfl (.tmp 70) (.tmp 72) 67 rfl wo.heap.size 20 i20 .nilIface 1 16 Tryz.underlying67 ki kz0 kz1 kz2 rfl (by decide) _ _ _ rfl hownx ⟨w5.heap.size, 0, none⟩ 1 1 [.iface tt uu] rfl rfl ?c1 ?c2 ?c3 ?c4 ?c5 ?_)
          case c1 => exact cells_new _ _ rfl _ _ _ rfl
          case c2 => intro x hx; simp at hx; subst hx; rfl
          case c3 => unfold maxLen; omega
          case c4 => omega
          case c5 => simp; omega
          intro v' w6 hown6 hg6 _
          have hkg : Keeps (fun i => some i = u11.ownBlock) w5 w6 := ((Keeps.refl _ _).alloc _).grown hg6 (fun k e _ => e.symm)
          have hK6 : ∀ i cs, Row w5 i 5 cs → ¬ some i = u11.ownBlock := fun i cs hi e => own_ne hownx (hi.alloc _) (by decide) e.symm
          have hall : Keeps (fun i => some i = u11.ownBlock) wp w6 := (HK5.out.mono (fun _ e => e.elim)).trans hkg
          have HAN6 := hide (HAN.out.step hall (fun i cs hi => hK6 i cs (hi.keeps HK5.out id)) ((HV5.out.keeps' hkg (fun i cs _ hi => hK6 i cs hi)).up hkg.size))
          have HK6 := hide (HKR.out.trans_new hall (K := fun _ => False) (fun i hi e => by have := (hownx.lt i e.symm).1; omega))
          have HO6 := hide hown6
          clear hownx hall hkg hK6 hg6 hown6 HAN HV5 HK5 HKR HOWN
          go_wp2
          go_roundw
          case rel => exact ⟨k + 1, _, by omega, by go_num, HO6.out, HAN6.out, HK6.out⟩
          case measure => simp [intOf]; omega
        · obtain rfl : N = k := by omega
          obtain ⟨V, vcap, X, rfl, hVb, hVr, _, _, _, hVt⟩ := own_pos hown hN0
          have hX : ∀ k, k < N → ∃ v, X[k]? = some v ∧ AnyIs wp wp.heap.size v (sv k) := by
            intro k hk
            obtain ⟨v, a1, a2⟩ := han.2 k hk
            have e : (X.toList.take (N * 1))[k]? = ys[k]? := by rw [hVt]
            rw [List.getElem?_take, if_pos (by omega), Array.getElem?_toList, a1] at e
            exact ⟨v, e, a2⟩
          have HX := hide hX
          have HVR := hide hVr
          have HKR := hide hkr
          clear hown han hVr hVt hkr hX
          go_wp2_with fail
          have hW4 := Row.made wp 81 #[.slice none 0 0]
          have hk4 : Keeps (fun _ => False) wp (wp.alloc (.cells #[.slice none 0 0] 81)) := (Keeps.refl _ _).alloc _
          have hs4 : (wp.alloc (.cells #[.slice none 0 0] 81)).heap.size = wp.heap.size + 1 := World.size_alloc _ _
          generalize World.alloc _ _ = w4 at *
          refine (encoder_any hW4).mono ?_
          rintro e w5 ⟨en, s, rfl, hs5, hen5, hFr, hk5⟩
          have hk45 := hk4.trans hk5
          have hsz5 := hk5.size
          have HI := hide (input_any rows cols hc0 hc1 hr1 HN.out hN0 codes hcodes sv hfit (H := wp.heap.size) (((HL.out.keeps HKR.out id)).keeps hk45 id) (fun j hj => by
            obtain ⟨f, nm, a1, a2, a3⟩ := HC.out j hj
            exact ⟨f, nm, a1, by omega, (a3.keeps HKR.out id).keeps hk45 id⟩) (HVR.out.keeps hk45 id) (fun k hk => by
            obtain ⟨v, a1, a2⟩ := HX.out k hk
            exact ⟨v, a1, a2.keeps hk45 (fun _ _ => id)⟩) (vc := vcap) (lc := lc) hFr (Nat.le_refl _) (by omega))
          have HF5 := hide ((HFA.out.keeps HKR.out (fun _ _ _ => id)).keeps hk45 (fun _ _ _ => id))
          have HK5 := hide ((HKA.out.trans HKR.out).trans hk45)
          clear hW4 hk4 hk5 hk45 hFr HL HC HVR HX HKA HFA HKR HVAL
          go_wp2_with fail
          refine HI.out.mono ?_
          rintro e w6 ⟨rfl, ⟨B, hB, hE6⟩, hk6⟩
          obtain ⟨tr, vv, S, _, _, _, _, hW6, ho6, hb6⟩ := hE6
          rw [wall_length] at ho6
          obtain ⟨gv, capv, curv, rfl, hgv, _, _, _, _, _⟩ := own_pos ho6 (wpos_pos codes sv cols hN0)
          have hF6 := HF5.out.keeps hk6 (fun i h1 h2 => by omega)
          have hs6 := hk6.size
          have c1 := hF6.2.1.cell 0
          have f1 := hF6.2.1.frozen 0
          have c2 := hF6.2.2.1.cell 0
          have f2 := hF6.2.2.1.frozen 0
          simp at c1 c2
          have HF6 := hide hF6
          have HW6 := hide hW6
          have HO6 := hide ho6
          have HK6 := hide (HK5.out.trans_new hk6 (K := fun _ => False) (fun i hi e => by omega))
          clear hF6 hW6 ho6 hk6 HI HF5 HK5
          go_wp2_with fail
          clear c1 f1 c2 f2
          have k1 := Keeps.one w6 (w.heap.size + 1) 0 (.int .i64 (wpos codes sv cols N))
          have k2 := Keeps.one (w6.setCell ⟨w.heap.size + 1, 0, none⟩ (.int .i64 (wpos codes sv cols N))) (w.heap.size + 1 + 1) 0 (.int .i64 rows)
          have hF7 : FourB ((w6.setCell ⟨w.heap.size + 1, 0, none⟩ (.int .i64 (wpos codes sv cols N))).setCell ⟨w.heap.size + 1 + 1, 0, none⟩ (.int .i64 rows)) w.heap.size (.int .i64 (wpos codes sv cols N)) (.int .i64 rows) :=
            ⟨(HF6.out.1.keeps k1 (by omega)).keeps k2 (by omega), by simpa using (HF6.out.2.1.put 0 (.int .i64 (wpos codes sv cols N))).keeps k2 (by omega), by simpa using (HF6.out.2.2.1.keeps k1 (by omega)).put 0 (.int .i64 rows), (HF6.out.2.2.2.keeps k1 (by omega)).keeps k2 (by omega)⟩
          have hW7 := (HW6.out.keeps k1 (by omega)).keeps k2 (by omega)
          have HO7 := hide (own_keeps (own_keeps HO6.out k1 (fun g cs _ hg e => by omega)) k2 (fun g cs _ hg e => by omega))
          have HK7 := hide ((HK6.out.trans_new k1 (K := fun _ => False) (fun i hi e => by omega)).trans_new k2 (K := fun _ => False) (fun i hi e => by omega))
          generalize World.setCell (World.setCell _ _ _) _ _ = w7 at *
          have HF7 := hide hF7
          have c0 := hW7.cell 0
          have d0 := hF7.1.cell 0
          have e0 := hF7.1.frozen 0
          have d1 := hF7.2.1.cell 0
          have e1 := hF7.2.1.frozen 0
          have d2 := hF7.2.2.1.cell 0
          have e2 := hF7.2.2.1.frozen 0
          have d3 := hF7.2.2.2.cell 0
          have e3 := hF7.2.2.2.frozen 0
          simp at c0 d0 d1 d2 d3
          clear k1 k2 hF7 hW7 HF6 HW6 HO6 HK6
          go_wp2_with fail
          refine wp_region_noPanic ?_
          go_region
          refine NoPanic.normal ?_
          obtain ⟨zk, z0, z1, z2, z3⟩ := HF7.out.ended (.slice (some ⟨gv, 0, none⟩) (wpos codes sv cols N) capv) (wpos codes sv cols N) rows
          have HO8 := hide (own_base (own_keeps HO7.out zk (fun g cs _ hg e => by omega)) (show w.heap.size ≤ B by omega))
          have HK8 := hide ((HK7.out.trans_new zk (K := fun _ => False) (fun i hi e => by omega)).below (B := w.heap.size) (fun _ _ => id) (Nat.le_refl _))
          have Z0 := hide z0
          have Z1 := hide z1
          have Z2 := hide z2
          have Z3 := hide z3
          clear zk z0 z1 z2 z3 c0 d0 d1 d2 d3 e0 e1 e2 e3 HF7 HO7 HK7
          generalize World.drew _ = wz at *
          have z0 := Z0.out
          have z1 := Z1.out
          have z2 := Z2.out
          have z3 := Z3.out
          go_wp2
          refine leaves_cons (f := 28) (args := #[.pointer (some ⟨w.heap.size, 0, none⟩), .pointer (some ⟨w.heap.size + 1, 0, none⟩), .pointer (some ⟨w.heap.size + 1 + 1, 0, none⟩), .pointer (some ⟨w.heap.size + 1 + 1 + 1, 0, none⟩)]) (by simp) (by simp [go_sem]) ?_
          refine (rb_idle _ _ _ _ _).mono ?_
          rintro e u' w'' ⟨rfl, rfl, rfl⟩
          have h0 := HO8.out
          have h1 := HK8.out
          simp [Leaves, settle, results, Tryz.results10, go_sem, z0, z1, z2, z3]
          exact ⟨h0, h1⟩
end Go.Proofs.YtgiojjlmohhmkaaGreatDoor
