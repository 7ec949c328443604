/-
  The walks of the decoder's DoubleField and VarField, and of what these call.
-/
import Derived.Test.YtgiojjlmohhmkaaGreatDoorC4
import Derived.Test.YtgiojjlmohhmkaaGreatDoorB4
namespace Go.Proofs.YtgiojjlmohhmkaaGreatDoor
open Go Go.RowKit

theorem f64of (n : Int) (w : World) : (callFunc 218 #[.int .u64 n]).run Tryz.prog w = .ok (.value (.float .f64 n.toNat)) w := by kernel_rfl

set_option maxRecDepth 100000 in
set_option maxHeartbeats 400000 in
theorem double_any {w : World} {d s r : Nat} {bs : List Int} {p : Nat} (v : Int) (h : Dec w d s r bs p) (hp : p + 8 ≤ bs.length) (hb : ∀ j, 0 ≤ bt bs j ∧ bt bs j ≤ 255) (hv : le (fun j => bt bs (p + j)) 8 = v) (hne : (v == 18446744073709551615) = false) :
    Calls Tryz.prog 153 #[.pointer (some ⟨d, 0, none⟩)] w fun e w' => e = .returned (.tuple #[.iface 30 (.float .f64 v.toNat), .nilIface]) ∧ Dec w' d s r bs (p + 8) ∧ Keeps (fun i => i = d ∨ i = s) w w' := by
  have H := uint64_any h hp hb
  rw [hv] at H
  have HH := hide H
  have hf := f64of
  clear H h hv hb
  go_enter Tryz.func153, Tryz.ntmps153
  go_wp2_with fail
  refine HH.out.mono ?_
  rintro e w1 ⟨rfl, hd1, hk1⟩
  go_wp2
  go_ret2
  exact ⟨rfl, hd1, hk1⟩

set_option maxRecDepth 100000 in
set_option maxHeartbeats 400000 in
theorem ind_small {w : World} {d s r : Nat} {bs : List Int} {p : Nat} (n : Nat) (h : Dec w d s r bs p) (hp : p < bs.length) (hb : bt bs p = n) (hn : n < 7) :
    Calls Tryz.prog 277 #[.pointer (some ⟨d, 0, none⟩)] w fun e w' => e = .returned (.tuple #[.int .i64 1, .int .i64 n, .bool false]) ∧ Dec w' d s r bs (p + 1) ∧ Keeps (fun i => i = d ∨ i = s) w w' := by
  have H := byte_any h hp
  rw [hb] at H
  have HH := hide H
  have h0 : (0 : Int) ≤ n := by omega
  have h1 : (n : Int) ≤ 245 := by omega
  have h2 : ((n : Int) == 255) = false := by simp; omega
  clear H h hb
  go_enter Tryz.func277, Tryz.ntmps277
  go_wp2_with fail
  refine HH.out.mono ?_
  rintro e w1 ⟨rfl, hd1, hk1⟩
  go_wp2
  go_ret3
  exact ⟨rfl, hd1, hk1⟩

set_option maxRecDepth 100000 in
set_option maxHeartbeats 400000 in
theorem room_fits {w : World} {d s r : Nat} {bs : List Int} {p : Nat} (n : Nat) (h : Dec w d s r bs p) (hp : p + n ≤ bs.length) :
    Calls Tryz.prog 234 #[.pointer (some ⟨d, 0, none⟩), .int .i64 n] w fun e w' => e = .returned (.int .i64 n) ∧ Dec w' d s r bs p ∧ Keeps (fun i => i = d ∨ i = s) w w' := by
  obtain ⟨rc, tr, S, R, h1, h2, h3, h4, h5, h6, h7, h8⟩ := h
  have c0 := h1.cell 0
  have c1 := h1.cell 1
  simp [decCells] at c0 c1
  have hle : (n : Int) ≤ (bs.length : Int) - p + 1 := by omega
  go_enter Tryz.func234, Tryz.ntmps234
  go_wp2
  go_region
  all_goals
    go_wp2
    go_ret
    refine ⟨rfl, ⟨rc, tr, S, R, h1.drew, h2.drew, h3, h4.drew, h5, h6, h7, h8⟩, (Keeps.refl _ _).drew⟩

/-- k bytes into a block of the call's own. -/
theorem block_read {w : World} {d s r : Nat} {bs : List Int} {p : Nat} (h : Dec w d s r bs p) (g k : Nat) (C : List Value) (hg : Row w g 5 C.toArray) (hC : C.length = k) (hgs : g ≠ s) (hgr : g ≠ r) (hp : p + k ≤ bs.length) :
    Calls Tryz.prog 211 #[.pointer (some ⟨d, 0, none⟩), .slice (some ⟨g, 0, none⟩) k k] w fun e w' => e = .returned (.tuple #[.int .i64 k, .nilIface]) ∧
      Dec w' d s r bs (p + k) ∧ Row w' g 5 (((bs.drop p).take k).map (Value.int .u8)).toArray ∧ Keeps (fun i => i = d ∨ i = g) w w' := by
  obtain ⟨rc, tr, S, R, h1, h2, h3, h4, h5, h6, h7, h8⟩ := h
  have hl : (((bs.drop p).take k).map (Value.int .u8)).length = k := by simp; omega
  refine (read_any w d g r k k bs.length rc p p _ tr C (((bs.drop p).take k).map (Value.int .u8)) h1 hg hl (by omega) hp h7 h8 (by omega) (byte_cells h4 h5 p k hp) (ints_oneCell _ _)).mono ?_
  rintro e w' ⟨he, hd', hg', hk'⟩
  refine ⟨he, ⟨rc, tr, S, R, hd', h2.keeps hk' ?_, h3, h4.keeps hk' ?_, h5, h6, h7, h8⟩, ?_, hk'⟩
  · rintro (e | e)
    · exact h1.ne h2 (by decide) e.symm
    · exact hgs e.symm
  · rintro (e | e)
    · exact h1.ne h4 (by decide) e.symm
    · exact hgr e.symm
  · have e : splice C 0 (((bs.drop p).take k).map (Value.int .u8)) = ((bs.drop p).take k).map (Value.int .u8) := by
      simp only [splice, List.take_zero, List.nil_append, hl, Nat.zero_add]
      have e0 : C.drop k = [] := List.drop_eq_nil_of_le (by omega)
      rw [e0, List.append_nil]
    rw [e] at hg'
    exact hg'

set_option maxRecDepth 100000 in
set_option maxHeartbeats 400000 in
theorem bytes_any {w : World} {d s r : Nat} {bs : List Int} {p : Nat} (h : Dec w d s r bs p) (g k : Nat) (C : List Value) (hg : Row w g 5 C.toArray) (hC : C.length = k) (hgs : g ≠ s) (hgr : g ≠ r) (hp : p + k ≤ bs.length) :
    Calls Tryz.prog 236 #[.pointer (some ⟨d, 0, none⟩), .slice (some ⟨g, 0, none⟩) k k] w fun e w' => e = .returned (.tuple #[]) ∧
      Dec w' d s r bs (p + k) ∧ Row w' g 5 (((bs.drop p).take k).map (Value.int .u8)).toArray ∧ Keeps (fun i => i = d ∨ i = g) w w' := by
  have HH := hide (block_read h g k C hg hC hgs hgr hp)
  clear h hg hC hgs hgr
  go_enter Tryz.func236, Tryz.ntmps236
  go_wp2_with fail
  refine HH.out.mono ?_
  rintro e w1 ⟨rfl, hd1, hr1, hk1⟩
  go_wp2
  go_end0
  exact ⟨rfl, hd1, hr1, hk1⟩

theorem Dec.alloc {w : World} {d s r : Nat} {bs : List Int} {p : Nat} (h : Dec w d s r bs p) (o : Obj) : Dec (w.alloc o) d s r bs p := by
  obtain ⟨rc, tr, S, R, h1, h2, h3, h4, h5, h6, h7, h8⟩ := h
  exact ⟨rc, tr, S, R, h1.alloc o, h2.alloc o, h3, h4.alloc o, h5, h6, h7, h8⟩
theorem Dec.lt {w : World} {d s r : Nat} {bs : List Int} {p : Nat} (h : Dec w d s r bs p) : d < w.heap.size ∧ s < w.heap.size ∧ r < w.heap.size := by
  obtain ⟨rc, tr, S, R, h1, h2, h3, h4, _⟩ := h
  exact ⟨h1.lt, h2.lt, h4.lt⟩

set_option maxRecDepth 100000 in
set_option maxHeartbeats 400000 in
theorem libytes_any {w : World} {d s r : Nat} {bs : List Int} {p : Nat} (n : Nat) (h : Dec w d s r bs p) (hp : p + 1 + n ≤ bs.length) (hb : bt bs p = n) (hn : n < 7) :
    Calls Tryz.prog 228 #[.pointer (some ⟨d, 0, none⟩)] w fun e w' => ∃ g, e = .returned (.tuple #[.int .i64 (1 + n), .slice (some ⟨g, 0, none⟩) n n]) ∧ w.heap.size ≤ g ∧ Row w' g 5 (((bs.drop (p + 1)).take n).map (Value.int .u8)).toArray ∧
      Dec w' d s r bs (p + 1 + n) ∧ Keeps (fun i => i = d ∨ i = s) w w' := by
  have HI := hide (ind_small n h (by omega) hb hn)
  have hlt := h.lt
  have hmk := run_make_row' (P := Tryz.prog) 22 5 (.int .u8 0) 1 Tryz.underlying22 info5 rfl .i64 .i64 n (by omega) (by omega)
  clear h hb
  go_enter Tryz.func228, Tryz.ntmps228
  go_wp2_with fail
  refine HI.out.mono ?_
  rintro e w1 ⟨rfl, hd1, hk1⟩
  go_wp2_with fail
  refine (room_fits n hd1 (by omega)).mono ?_
  rintro e w2 ⟨rfl, hd2, hk2⟩
  go_wp2_with fail
  have hz1 := hk1.size
  have hz2 := hk2.size
  refine (bytes_any (hd2.alloc _) w2.heap.size n (madeCells #[Value.int .u8 0] n).toList (Row.made _ _ _) (by simp [madeCells]) (by have := hlt.2.1; omega) (by have := hlt.2.2; omega) (by omega)).mono ?_
  rintro e w3 ⟨rfl, hd3, hr3, hk3⟩
  have hk : Keeps (fun i => i = d ∨ i = s) w w3 := ((hk1.trans hk2).alloc _).trans_new hk3 (fun i hi e => e.elim Or.inl (fun e => by omega))
  clear hd1 hd2 hk1 hk2 hk3 hmk HI
  go_wp2
  go_ret2
  exact ⟨w2.heap.size, rfl, by omega, hr3, hd3, hk⟩

set_option maxRecDepth 100000 in
set_option maxHeartbeats 400000 in
theorem varfield_any {w : World} {d s r : Nat} {bs : List Int} {p : Nat} (n : Nat) (h : Dec w d s r bs p) (hp : p + 1 + n ≤ bs.length) (hb : bt bs p = n) (hn : n < 7) :
    Calls Tryz.prog 165 #[.pointer (some ⟨d, 0, none⟩)] w fun e w' => ∃ g, e = .returned (.tuple #[.iface 22 (.slice (some ⟨g, 0, none⟩) n n), .nilIface]) ∧ w.heap.size ≤ g ∧ Row w' g 5 (((bs.drop (p + 1)).take n).map (Value.int .u8)).toArray ∧
      Dec w' d s r bs (p + 1 + n) ∧ Keeps (fun i => i = d ∨ i = s) w w' := by
  have HI := hide (libytes_any n h hp hb hn)
  have hnil := fun W A k c => Lib.run_eql_slice_nil (P := Tryz.prog) W 22 5 A k c 0 0 Tryz.underlying22
  clear h hb
  go_enter Tryz.func165, Tryz.ntmps165
  go_wp2_with fail
  refine HI.out.mono ?_
  rintro e w1 ⟨g, rfl, hg, hr1, hd1, hk1⟩
  go_wp2
  go_ret2
  exact ⟨g, rfl, hg, hr1, hd1, hk1⟩
end Go.Proofs.YtgiojjlmohhmkaaGreatDoor
