/-
  A value as Go's any, of whatever code; the small functions on fields of parameters and on encoders.
-/
import Derived.Test.YtgiojjlmohhmkaaGreatDoorH5
import Derived.Test.YtgiojjlmohhmkaaGreatDoorD5
namespace Go.Proofs.YtgiojjlmohhmkaaGreatDoor
open Go Go.RowKit

/-- A value as Go's any; the bytes of one that is bytes lie in a block below H. -/
def AnyIs (w : World) (H : Nat) (v : Value) (x : Sv) : Prop :=
  (x.kind = 2 ∧ v = .iface 2 (.int .i64 x.int)) ∨ (x.kind = 3 ∧ v = .iface 30 (.float .f64 x.fl)) ∨
    (x.kind = 4 ∧ ∃ g c, v = .iface 22 (.slice (some ⟨g, 0, none⟩) x.txt.length c) ∧ g < H ∧ Lies w g x.txt)
theorem AnyIs.keeps {K : Nat → Prop} {w w' : World} {H : Nat} {v : Value} {x : Sv} (h : AnyIs w H v x) (hk : Keeps K w w') (hK : ∀ i, i < H → ¬ K i) : AnyIs w' H v x := by
  rcases h with h | h | ⟨h1, g, c, h2, h3, h4⟩
  · exact Or.inl h
  · exact Or.inr (Or.inl h)
  · exact Or.inr (Or.inr ⟨h1, g, c, h2, h3, h4.keeps hk (hK g h3)⟩)
theorem AnyIs.up {w : World} {H H' : Nat} {v : Value} {x : Sv} (h : AnyIs w H v x) (hH : H ≤ H') : AnyIs w H' v x := by
  rcases h with h | h | ⟨h1, g, c, h2, h3, h4⟩
  · exact Or.inl h
  · exact Or.inr (Or.inl h)
  · exact Or.inr (Or.inr ⟨h1, g, c, h2, by omega, h4⟩)
theorem AnyIs.shape {w : World} {H : Nat} {v : Value} {x : Sv} (h : AnyIs w H v x) : ∃ t u, v = .iface t u := by
  rcases h with ⟨_, h⟩ | ⟨_, h⟩ | ⟨_, g, c, h, _⟩ <;> exact ⟨_, _, h⟩

/-- A value that a parameter of the type code c takes. -/
def Fits (c : Nat) (x : Sv) : Prop :=
  (x.kind = 2 ∧ (c = 1 ∨ c = 2 ∨ c = 3 ∨ c = 4)) ∨ (x.kind = 3 ∧ c = 7 ∧ x.fl < 18446744073709551616) ∨ (x.kind = 4 ∧ c = 29 ∧ x.txt.length < 7)
theorem svOf_fits {c : Nat} (hc : CodeOk c) (n : Int) : Fits c (svOf c n) := by
  have hlt := flOf_lt n
  rcases hc with rfl | rfl | rfl | rfl | rfl | rfl
  · exact Or.inl ⟨rfl, by simp⟩
  · exact Or.inl ⟨rfl, by simp⟩
  · exact Or.inl ⟨rfl, by simp⟩
  · exact Or.inl ⟨rfl, by simp⟩
  · exact Or.inr (Or.inl ⟨rfl, rfl, by simpa [svOf] using hlt⟩)
  · exact Or.inr (Or.inr ⟨rfl, rfl, by simpa [svOf] using txtOf_length n⟩)

/-- The bytes of a parameter behind its type code. -/
def pay (c : Nat) (x : Sv) : List Int :=
  if c = 1 then [x.int % 256] else if c = 2 then low (IntKind.i16.wrap x.int % 65536) 2 else if c = 3 then low (wrap32 x.int % 4294967296) 4 else if c = 4 then low (IntKind.u64.wrap x.int) 8
  else if c = 7 then low x.fl 8 else (x.txt.length : Int) :: x.txt
/-- The bytes of a parameter. -/
def wrote (c : Nat) (x : Sv) : List Int := (c : Int) :: pay c x
theorem pay_length {c : Nat} {x : Sv} (h : Fits c x) : (pay c x).length ≤ 8 := by
  rcases h with ⟨_, rfl | rfl | rfl | rfl⟩ | ⟨_, rfl, _⟩ | ⟨_, rfl, h⟩ <;> simp [pay, low_length]
  omega
theorem wrote_length {c : Nat} {x : Sv} (h : Fits c x) : (wrote c x).length ≤ 9 := by
  have := pay_length h
  simp [wrote]
  omega

theorem prm_any {w : World} {f c H : Nat} {nm v : Value} {x : Sv} (hx : Fits c x) (hf : Row w f 132 (pfCells nm c)) (ha : AnyIs w H v x) :
    Calls Tryz.prog 41 #[.pointer (some ⟨f, 0, none⟩), v] w fun e w' => e = .returned (.int .i64 (pay c x).length) ∧ w = w' := by
  obtain ⟨k, i, fl, l⟩ := x
  rcases ha with ⟨h1, rfl⟩ | ⟨h1, rfl⟩ | ⟨h1, g, cp, rfl, _, _⟩
  · obtain rfl : k = 2 := h1
    rcases hx with ⟨_, rfl | rfl | rfl | rfl⟩ | ⟨h, _⟩ | ⟨h, _⟩
    · exact prm_1 i hf
    · exact prm_2 i hf
    · exact prm_3 i hf
    · exact prm_4 i hf
    · cases h
    · cases h
  · obtain rfl : k = 3 := h1
    rcases hx with ⟨h, _⟩ | ⟨_, rfl, _⟩ | ⟨h, _⟩
    · cases h
    · exact prm_7 fl hf
    · cases h
  · obtain rfl : k = 4 := h1
    rcases hx with ⟨h, _⟩ | ⟨h, _⟩ | ⟨_, rfl, h⟩
    · cases h
    · cases h
    · exact prm_29 l h hf

theorem encp_any {w : World} {e W s B f c H : Nat} {nm v : Value} {x : Sv} {bs : List Int} (h : Enc w e W s B bs) (hx : Fits c x) (hf : Row w f 132 (pfCells nm c)) (ha : AnyIs w H v x) (hfH : f < H) (hW : H ≤ W) (hs : H ≤ s) (hB : H ≤ B) (hbd : bs.length + 9 ≤ 100000) :
    Calls Tryz.prog 42 #[.pointer (some ⟨f, 0, none⟩), .pointer (some ⟨e, 0, none⟩), v] w fun ee w' => ee = .returned .nilIface ∧ Enc w' e W s B (bs ++ wrote c x) ∧ Keeps (fun i => i = W ∨ i = s ∨ B ≤ i) w w' := by
  obtain ⟨k, i, fl, l⟩ := x
  rcases ha with ⟨h1, rfl⟩ | ⟨h1, rfl⟩ | ⟨h1, g, cp, rfl, h2, h3⟩
  · obtain rfl : k = 2 := h1
    rcases hx with ⟨_, rfl | rfl | rfl | rfl⟩ | ⟨h, _⟩ | ⟨h, _⟩
    · exact encp_1 h i hf (by omega) (by omega) (by omega) hbd
    · exact encp_2 h i hf (by omega) (by omega) (by omega) hbd
    · exact encp_3 h i hf (by omega) (by omega) (by omega) hbd
    · exact encp_4 h i hf (by omega) (by omega) (by omega) hbd
    · cases h
    · cases h
  · obtain rfl : k = 3 := h1
    rcases hx with ⟨h, _⟩ | ⟨_, rfl, h'⟩ | ⟨h, _⟩
    · cases h
    · exact encp_7 h fl h' hf (by omega) (by omega) (by omega) hbd
    · cases h
  · obtain rfl : k = 4 := h1
    rcases hx with ⟨h, _⟩ | ⟨h, _⟩ | ⟨_, rfl, h'⟩
    · cases h
    · cases h
    · exact encp_29 h l h' h3 (by omega) (by omega) (by omega) hf (by omega) (by omega) (by omega) hbd

set_option maxRecDepth 100000 in
set_option maxHeartbeats 400000 in
theorem islob_any {c : Nat} (hc : CodeOk c) {w : World} {f : Nat} {nm : Value} (hf : Row w f 132 (pfCells nm c)) :
    Calls Tryz.prog 98 #[.pointer (some ⟨f, 0, none⟩)] w fun e w' => e = .returned (.bool false) ∧ w = w' := by
  have hl : ∀ (k : Nat), CodeOk k → Calls Tryz.prog 145 #[.int .u8 k] w fun e w' => e = .returned (.bool false) ∧ w = w' := by
    intro k hk
    rcases hk with rfl | rfl | rfl | rfl | rfl | rfl
    all_goals
      go_enter Tryz.func145, Tryz.ntmps145
      go_wp2
      go_ret
      exact ⟨rfl, rfl⟩
  have HL := hide (hl c hc)
  have f5 := hf.cell 5
  simp [pfCells] at f5
  clear hf hc hl
  go_enter Tryz.func98, Tryz.ntmps98
  go_wp2_with fail
  refine HL.out.mono ?_
  rintro e w1 ⟨rfl, rfl⟩
  go_wp2
  go_ret
  exact ⟨rfl, rfl⟩

set_option maxRecDepth 100000 in
set_option maxHeartbeats 400000 in
theorem field_new (c : Nat) (w : World) :
    Calls Tryz.prog 24 #[.int .u8 c, .int .i64 0, .int .i64 0, .int .i64 1] w fun e w' => ∃ g nm, e = .returned (.pointer (some ⟨g, 0, none⟩)) ∧ w.heap.size ≤ g ∧ Row w' g 132 (pfCells nm c) ∧ Keeps (fun _ => False) w w' := by
  go_enter Tryz.func24, Tryz.ntmps24
  go_wp2
  go_ret
  refine ⟨w.heap.size + 1, .pointer (some ⟨w.heap.size, 0, none⟩), rfl, by omega, ?_, ((Keeps.refl _ _).alloc _).alloc _⟩
  have h := Row.made (w.alloc (.cells #[.slice none 0 0] 92)) 132 (pfCells (.pointer (some ⟨w.heap.size, 0, none⟩)) c)
  rw [World.size_alloc] at h
  exact h

set_option maxRecDepth 100000 in
set_option maxHeartbeats 400000 in
theorem fieldsize_any {w : World} {f c H : Nat} {nm v : Value} {x : Sv} (hx : Fits c x) (hf : Row w f 132 (pfCells nm c)) (ha : AnyIs w H v x) :
    Calls Tryz.prog 25 #[.pointer (some ⟨f, 0, none⟩), v] w fun e w' => e = .returned (.int .i64 (pay c x).length) ∧ w = w' := by
  have HC := hide (prm_any hx hf ha)
  clear hx hf ha
  go_enter Tryz.func25, Tryz.ntmps25
  go_wp2_with fail
  refine HC.out.mono ?_
  rintro e w1 ⟨rfl, rfl⟩
  go_wp2
  go_ret
  exact ⟨rfl, rfl⟩
set_option maxRecDepth 100000 in
set_option maxHeartbeats 400000 in
theorem fieldbytes_any {w : World} {e W s B f c H : Nat} {nm v : Value} {x : Sv} {bs : List Int} (h : Enc w e W s B bs) (hx : Fits c x) (hf : Row w f 132 (pfCells nm c)) (ha : AnyIs w H v x) (hfH : f < H) (hW : H ≤ W) (hs : H ≤ s) (hB : H ≤ B) (hbd : bs.length + 9 ≤ 100000) :
    Calls Tryz.prog 26 #[.pointer (some ⟨f, 0, none⟩), .pointer (some ⟨e, 0, none⟩), v] w fun ee w' => ee = .returned .nilIface ∧ Enc w' e W s B (bs ++ wrote c x) ∧ Keeps (fun i => i = W ∨ i = s ∨ B ≤ i) w w' := by
  have HC := hide (encp_any h hx hf ha hfH hW hs hB hbd)
  clear h hx hf ha
  go_enter Tryz.func26, Tryz.ntmps26
  go_wp2_with fail
  refine HC.out.mono ?_
  rintro ee w1 ⟨rfl, h1, hk1⟩
  go_wp2
  go_ret
  exact ⟨rfl, h1, hk1⟩

/-- An encoder that has written nothing. -/
def Fresh (w : World) (e W s : Nat) : Prop :=
  ∃ (tr : Value) (S : Array Value), Row w e 186 (encCells W s tr) ∧ Row w s 5 S ∧ S.size = 4096 ∧ Row w W 81 #[.slice none 0 0]
theorem Fresh.keeps {K : Nat → Prop} {w w' : World} {e W s : Nat} (h : Fresh w e W s) (hk : Keeps K w w') (he : ¬ K e) (hW : ¬ K W) (hs : ¬ K s) : Fresh w' e W s := by
  obtain ⟨tr, S, h1, h2, h3, h4⟩ := h
  exact ⟨tr, S, h1.keeps hk he, h2.keeps hk hs, h3, h4.keeps hk hW⟩
theorem Fresh.lt {w : World} {e W s : Nat} (h : Fresh w e W s) : e < w.heap.size ∧ W < w.heap.size ∧ s < w.heap.size := by
  obtain ⟨tr, S, h1, h2, h3, h4⟩ := h
  exact ⟨h1.lt, h4.lt, h2.lt⟩
theorem Fresh.enc {w : World} {e W s B : Nat} (h : Fresh w e W s) (hs : s < B) (hB : B ≤ w.heap.size) : Enc w e W s B [] := by
  obtain ⟨tr, S, h1, h2, h3, h4⟩ := h
  exact ⟨tr, .slice none 0 0, S, h1, h2, h3, hs, h4, World.ownsRow_nil _ _ _ _, hB⟩

set_option maxRecDepth 100000 in
set_option maxHeartbeats 400000 in
theorem encoder_any {w : World} {W : Nat} (hW : Row w W 81 #[.slice none 0 0]) :
    Calls Tryz.prog 27 #[.pointer (some ⟨W, 0, none⟩)] w fun ee w' => ∃ e s, ee = .returned (.pointer (some ⟨e, 0, none⟩)) ∧ w.heap.size ≤ s ∧ w.heap.size ≤ e ∧ Fresh w' e W s ∧ Keeps (fun _ => False) w w' := by
  obtain ⟨M, hM, hmk⟩ := make4096
  have HM := hide hM
  have HW := hide hW
  clear hM hW
  go_enter Tryz.func27, Tryz.ntmps27
  go_wp2
  go_ret
  refine ⟨w.heap.size + 1 + 1, w.heap.size + 1, rfl, by omega, by omega, ⟨.iface 187 (.pointer (some ⟨w.heap.size, 0, none⟩)), M.toArray, ?_, ?_, by simpa using HM.out, ((HW.out.alloc _).alloc _).alloc _⟩, (((Keeps.refl _ _).alloc _).alloc _).alloc _⟩
  · have h := Row.made ((w.alloc (.cells #[.nilFunc] 285)).alloc (.cells M.toArray 5)) 186 (encCells W (w.heap.size + 1) (.iface 187 (.pointer (some ⟨w.heap.size, 0, none⟩))))
    rw [World.size_alloc, World.size_alloc] at h
    exact h
  · have h := Row.made (w.alloc (.cells #[.nilFunc] 285)) 5 M.toArray
    rw [World.size_alloc] at h
    exact h.alloc _
end Go.Proofs.YtgiojjlmohhmkaaGreatDoor
