/-
  The law FnVaRowsBytes: the region that calls FieldBytes: whatever order is drawn. The frame is a variable.
-/
import Derived.Test.YtgiojjlmohhmkaaGreatDoorH12
import Derived.Test.YtgiojjlmohhmkaaGreatDoorF3R
namespace Go.Proofs.YtgiojjlmohhmkaaGreatDoor
open Go Go.RowKit

noncomputable def ops19 : Array Oper := (Tryz.f4.body.bind (regionOps 19)).getD #[]

set_option maxRecDepth 100000 in
set_option maxHeartbeats 1600000 in
theorem region19_any {Q : Exit → Act → World → Prop} {a : Act} {w4 : World} {p g7 cap7 k cols c B : Nat} {x : Sv} {b : Value} {cur7 : Array Value} (hs : a.tmps.size = 138) (h13 : a.eval (.tmp 13) = .pointer (some ⟨p, 0, none⟩))
    (h5 : a.eval (.tmp 5) = .slice (some ⟨g7, 0, none⟩) cols cap7) (h12 : a.eval (.tmp 12) = .int .i64 k) (hcp : 0 < cols) (hr1 : Row w4 p 41 (x.cells b)) (hr7 : Row w4 g7 3 cur7) (hc7 : cur7[k % cols]? = some (.int .i64 c))
    (hc : CodeOk c) (hx : Fits c x) (hcl : Clean x) (ho : w4.ownsRow B 5 1 b x.txt.length (x.txt.map (Value.int .u8))) (_hkb : k ≤ 120)
    (hQ : ∀ c (a : Act) (d : Tmp) v w, Q (.panic c) (a.put (some d) v) w → Q (.panic c) a w)
    (h : ∀ a' w8 v, a' = ((((((((((((((((a.put (some 84) (.slice (some ⟨g7, 0, none⟩) cols cap7)).put (some 85) (.int .i64 (k : Int))).put (some 86) (.slice (some ⟨g7, 0, none⟩) cols cap7)).put (some 87) (.int .i64 (cols : Int))).put (some 88) (.int .i64 ((k % cols : Nat) : Int))).put (some 89) (.pointer (some ⟨g7, k % cols, none⟩))).put (some 90) (.int .i64 (c : Int))).put (some 91) (.agg (x.cells b))).put (some 92) (.tuple #[v, .int .i64 ((pay c x).length : Int), .int .i64 0])).put (some 83) (.tuple #[v, .int .i64 ((pay c x).length : Int), .int .i64 0])).put (some 93) (v)).put (some 94) (.int .i64 ((pay c x).length : Int))).put (some 95) (.int .i64 0)).put (some 15) (v)).put (some 16) (.int .i64 ((pay c x).length : Int))).put (some 17) (.int .i64 0)) →
      w8.ownsRow w4.heap.size 5 1 v (wrote c x).length ((wrote c x).map (Value.int .u8)) → Keeps (fun _ => False) w4 w8 → Q .normal a' w8) :
    Code.wp Tryz.prog (Code.region 19 ops19 true) Q a w4 := by
  obtain ⟨n, hn⟩ : ∃ n : Int, n = ((pay c x).length : Int) := ⟨_, rfl⟩
  have HC := hide (fieldbytes_door c hc hx hcl (w := w4.drew) ho)
  rw [← hn] at HC
  rw [← hn] at h
  have hcne : ¬ cols = 0 := Nat.ne_of_gt hcp
  have hmm : ((k : Int).tmod (cols : Int)) = ((k % cols : Nat) : Int) := by rw [Int.tmod_eq_emod_of_nonneg (Int.natCast_nonneg _)]; simp
  have hml : k % cols < cols := Nat.mod_lt _ hcp
  have hm1 : (0 : Int) ≤ (k : Int) % (cols : Int) := Int.emod_nonneg _ (by omega)
  have hm2 : (k : Int) % (cols : Int) < (cols : Int) := Int.emod_lt_of_pos _ (by omega)
  have hm3 : ((k : Int) % (cols : Int)).toNat = k % cols := by rw [← Int.natCast_emod]; rfl
  clear ho hx hcl hc hn
  refine wp_region_held_drew (S := fun w' => Keeps (fun _ => False) w4 w') (by kernel_rfl) ((Keeps.refl _ _).drew) (fun hHeld => ?_)
  refine wpAnyH_take (i := 0) (v := .slice (some ⟨g7, 0, none⟩) cols cap7) rfl (by kernel_rfl) (by kernel_rfl) (by kernel_rfl) (fun c a w => hQ c a _ _ w) (Or.inl ⟨by rfl, fun w' hw => ?_⟩) hHeld ?_
  · exact (show ∀ v, a.eval (.tmp 5) = v → (execOp a.eval _).run Tryz.prog w' = .ok (.value v) w' from fun v hv => by subst hv; rfl) _ h5
  obtain ⟨a1, ha1⟩ : ∃ a', a' = a.put (some 84) (.slice (some ⟨g7, 0, none⟩) cols cap7) := ⟨_, rfl⟩
  have s1 : a1.tmps.size = 138 := by rw [ha1, put_size]; exact hs
  have E5_1 : a1.eval (.tmp 5) = .slice (some ⟨g7, 0, none⟩) cols cap7 := by rw [ha1, put_other (by decide)]; exact h5
  have E12_1 : a1.eval (.tmp 12) = .int .i64 (k : Int) := by rw [ha1, put_other (by decide)]; exact h12
  have E13_1 : a1.eval (.tmp 13) = .pointer (some ⟨p, 0, none⟩) := by rw [ha1, put_other (by decide)]; exact h13
  have E84_1 : a1.eval (.tmp 84) = .slice (some ⟨g7, 0, none⟩) cols cap7 := by rw [ha1]; exact put_same (by rw [hs]; decide)
  show wpAnyH _ _ _ _ _ _ _ (a.put (some 84) (.slice (some ⟨g7, 0, none⟩) cols cap7)) _
  rw [← ha1]
  refine wpAnyH_take (i := 1) (v := .int .i64 (k : Int)) rfl (by kernel_rfl) (by kernel_rfl) (by kernel_rfl) (fun c a w => hQ c a _ _ w) (Or.inl ⟨by rfl, fun w' hw => ?_⟩) hHeld ?_
  · exact (show ∀ v, a1.eval (.tmp 12) = v → (execOp a1.eval _).run Tryz.prog w' = .ok (.value v) w' from fun v hv => by subst hv; rfl) _ E12_1
  obtain ⟨a2, ha2⟩ : ∃ a', a' = a1.put (some 85) (.int .i64 (k : Int)) := ⟨_, rfl⟩
  have s2 : a2.tmps.size = 138 := by rw [ha2, put_size]; exact s1
  have E5_2 : a2.eval (.tmp 5) = .slice (some ⟨g7, 0, none⟩) cols cap7 := by rw [ha2, put_other (by decide)]; exact E5_1
  have E13_2 : a2.eval (.tmp 13) = .pointer (some ⟨p, 0, none⟩) := by rw [ha2, put_other (by decide)]; exact E13_1
  have E84_2 : a2.eval (.tmp 84) = .slice (some ⟨g7, 0, none⟩) cols cap7 := by rw [ha2, put_other (by decide)]; exact E84_1
  have E85_2 : a2.eval (.tmp 85) = .int .i64 (k : Int) := by rw [ha2]; exact put_same (by rw [s1]; decide)
  show wpAnyH _ _ _ _ _ _ _ (a1.put (some 85) (.int .i64 (k : Int))) _
  rw [← ha2]
  refine wpAnyH_take (i := 2) (v := .slice (some ⟨g7, 0, none⟩) cols cap7) rfl (by kernel_rfl) (by kernel_rfl) (by kernel_rfl) (fun c a w => hQ c a _ _ w) (Or.inl ⟨by rfl, fun w' hw => ?_⟩) hHeld ?_
  · exact (show ∀ v, a2.eval (.tmp 5) = v → (execOp a2.eval _).run Tryz.prog w' = .ok (.value v) w' from fun v hv => by subst hv; rfl) _ E5_2
  obtain ⟨a3, ha3⟩ : ∃ a', a' = a2.put (some 86) (.slice (some ⟨g7, 0, none⟩) cols cap7) := ⟨_, rfl⟩
  have s3 : a3.tmps.size = 138 := by rw [ha3, put_size]; exact s2
  have E13_3 : a3.eval (.tmp 13) = .pointer (some ⟨p, 0, none⟩) := by rw [ha3, put_other (by decide)]; exact E13_2
  have E84_3 : a3.eval (.tmp 84) = .slice (some ⟨g7, 0, none⟩) cols cap7 := by rw [ha3, put_other (by decide)]; exact E84_2
  have E85_3 : a3.eval (.tmp 85) = .int .i64 (k : Int) := by rw [ha3, put_other (by decide)]; exact E85_2
  have E86_3 : a3.eval (.tmp 86) = .slice (some ⟨g7, 0, none⟩) cols cap7 := by rw [ha3]; exact put_same (by rw [s2]; decide)
  show wpAnyH _ _ _ _ _ _ _ (a2.put (some 86) (.slice (some ⟨g7, 0, none⟩) cols cap7)) _
  rw [← ha3]
  refine wpAnyH_take (i := 3) (v := .int .i64 (cols : Int)) rfl (by kernel_rfl) (by kernel_rfl) (by kernel_rfl) (fun c a w => hQ c a _ _ w) (Or.inl ⟨by rfl, fun w' hw => ?_⟩) hHeld ?_
  · change (execOp a3.eval { dst := _, op := .call { callee := .builtin .len, args := #[.tmp 86], argTypes := _ }, type := _, pos := _, after := _, guard := _ }).run Tryz.prog w' = _
    simp only [execOp]
    go_simp
  obtain ⟨a4, ha4⟩ : ∃ a', a' = a3.put (some 87) (.int .i64 (cols : Int)) := ⟨_, rfl⟩
  have s4 : a4.tmps.size = 138 := by rw [ha4, put_size]; exact s3
  have E13_4 : a4.eval (.tmp 13) = .pointer (some ⟨p, 0, none⟩) := by rw [ha4, put_other (by decide)]; exact E13_3
  have E84_4 : a4.eval (.tmp 84) = .slice (some ⟨g7, 0, none⟩) cols cap7 := by rw [ha4, put_other (by decide)]; exact E84_3
  have E85_4 : a4.eval (.tmp 85) = .int .i64 (k : Int) := by rw [ha4, put_other (by decide)]; exact E85_3
  have E87_4 : a4.eval (.tmp 87) = .int .i64 (cols : Int) := by rw [ha4]; exact put_same (by rw [s3]; decide)
  show wpAnyH _ _ _ _ _ _ _ (a3.put (some 87) (.int .i64 (cols : Int))) _
  rw [← ha4]
  refine wpAnyH_take (i := 4) (v := .int .i64 ((k % cols : Nat) : Int)) rfl (by kernel_rfl) (by kernel_rfl) (by kernel_rfl) (fun c a w => hQ c a _ _ w) (Or.inl ⟨by rfl, fun w' hw => ?_⟩) hHeld ?_
  · change (execOp a4.eval { dst := _, op := .binOp .rem 3 (.tmp 85) (.tmp 87) 3, type := _, pos := _, after := _, guard := _ }).run Tryz.prog w' = _
    simp only [execOp]
    go_simp
  obtain ⟨a5, ha5⟩ : ∃ a', a' = a4.put (some 88) (.int .i64 ((k % cols : Nat) : Int)) := ⟨_, rfl⟩
  have s5 : a5.tmps.size = 138 := by rw [ha5, put_size]; exact s4
  have E13_5 : a5.eval (.tmp 13) = .pointer (some ⟨p, 0, none⟩) := by rw [ha5, put_other (by decide)]; exact E13_4
  have E84_5 : a5.eval (.tmp 84) = .slice (some ⟨g7, 0, none⟩) cols cap7 := by rw [ha5, put_other (by decide)]; exact E84_4
  have E88_5 : a5.eval (.tmp 88) = .int .i64 ((k % cols : Nat) : Int) := by rw [ha5]; exact put_same (by rw [s4]; decide)
  show wpAnyH _ _ _ _ _ _ _ (a4.put (some 88) (.int .i64 ((k % cols : Nat) : Int))) _
  rw [← ha5]
  refine wpAnyH_take (i := 5) (v := .pointer (some ⟨g7, k % cols, none⟩)) rfl (by kernel_rfl) (by kernel_rfl) (by kernel_rfl) (fun c a w => hQ c a _ _ w) (Or.inl ⟨by rfl, fun w' hw => ?_⟩) hHeld ?_
  · change (execOp a5.eval { dst := _, op := .indexAddr 24 (.tmp 84) (.tmp 88), type := _, pos := _, after := _, guard := _ }).run Tryz.prog w' = _
    simp only [execOp]
    go_simp
  obtain ⟨a6, ha6⟩ : ∃ a', a' = a5.put (some 89) (.pointer (some ⟨g7, k % cols, none⟩)) := ⟨_, rfl⟩
  have s6 : a6.tmps.size = 138 := by rw [ha6, put_size]; exact s5
  have E13_6 : a6.eval (.tmp 13) = .pointer (some ⟨p, 0, none⟩) := by rw [ha6, put_other (by decide)]; exact E13_5
  have E89_6 : a6.eval (.tmp 89) = .pointer (some ⟨g7, k % cols, none⟩) := by rw [ha6]; exact put_same (by rw [s5]; decide)
  show wpAnyH _ _ _ _ _ _ _ (a5.put (some 89) (.pointer (some ⟨g7, k % cols, none⟩))) _
  rw [← ha6]
  refine wpAnyH_take (i := 6) (v := .int .i64 (c : Int)) rfl (by kernel_rfl) (by kernel_rfl) (by kernel_rfl) (fun c a w => hQ c a _ _ w) (Or.inl ⟨by rfl, fun w' hw => ?_⟩) hHeld ?_
  · have cc := (hr7.keeps hw id).cell (k % cols)
    rw [hc7] at cc
    change (execOp a6.eval { dst := _, op := .load 3 (.tmp 89), type := _, pos := _, after := _, guard := _ }).run Tryz.prog w' = _
    simp only [execOp]
    go_simp
  obtain ⟨a7, ha7⟩ : ∃ a', a' = a6.put (some 90) (.int .i64 (c : Int)) := ⟨_, rfl⟩
  have s7 : a7.tmps.size = 138 := by rw [ha7, put_size]; exact s6
  have E13_7 : a7.eval (.tmp 13) = .pointer (some ⟨p, 0, none⟩) := by rw [ha7, put_other (by decide)]; exact E13_6
  have E90_7 : a7.eval (.tmp 90) = .int .i64 (c : Int) := by rw [ha7]; exact put_same (by rw [s6]; decide)
  show wpAnyH _ _ _ _ _ _ _ (a6.put (some 90) (.int .i64 (c : Int))) _
  rw [← ha7]
  refine wpAnyH_take (i := 7) (v := .agg (x.cells b)) rfl (by kernel_rfl) (by kernel_rfl) (by kernel_rfl) (fun c a w => hQ c a _ _ w) (yieldsIf_load_mid (by rfl) 41 (.tmp 13) rfl p 0 E13_7 (x.cells b).toList _ (fun w' hw j v hv => ?_) Tryz.underlying41 rfl size41) hHeld ?_
  · rw [Nat.zero_add, (hr1.keeps hw id).cell]; simpa using hv
  obtain ⟨a8, ha8⟩ : ∃ a', a' = a7.put (some 91) (.agg (x.cells b)) := ⟨_, rfl⟩
  have s8 : a8.tmps.size = 138 := by rw [ha8, put_size]; exact s7
  have E90_8 : a8.eval (.tmp 90) = .int .i64 (c : Int) := by rw [ha8, put_other (by decide)]; exact E90_7
  have E91_8 : a8.eval (.tmp 91) = .agg (x.cells b) := by rw [ha8]; exact put_same (by rw [s7]; decide)
  show wpAnyH _ _ _ _ _ _ _ (a7.put (some 91) (.agg (x.cells b))) _
  rw [← ha8]
  refine wpAnyH_ready (rs := [8]) (by kernel_rfl) (by simp) ?_
  have HA : Hid (a8 = ((((((((a.put (some 84) (.slice (some ⟨g7, 0, none⟩) cols cap7)).put (some 85) (.int .i64 (k : Int))).put (some 86) (.slice (some ⟨g7, 0, none⟩) cols cap7)).put (some 87) (.int .i64 (cols : Int))).put (some 88) (.int .i64 ((k % cols : Nat) : Int))).put (some 89) (.pointer (some ⟨g7, k % cols, none⟩))).put (some 90) (.int .i64 (c : Int))).put (some 91) (.agg (x.cells b)))) := by rw [ha8, ha7, ha6, ha5, ha4, ha3, ha2, ha1]; exact hide rfl
  clear ha8 ha7 ha6 ha5 ha4 ha3 ha2 ha1
  refine AllReadyH.cons (o := { dst := some 92, op := .call { callee := .value (.func 9), args := #[.tmp 90, .tmp 91, _, _], argTypes := _ }, type := _, pos := _, after := _, guard := _ }) rfl (fun K hK => ?_) AllReadyH.nil
  rw [if_pos (by rfl)]
  have k90 : a8.tmps[90]'(by rw [s8]; decide) = .int .i64 (c : Int) := by
    have := E90_8
    simpa [Act.eval, s8] using this
  have k91 : a8.tmps[91]'(by rw [s8]; decide) = .agg (x.cells b) := by
    have := E91_8
    simpa [Act.eval, s8] using this
  simp only [Oper.wp, execOp, resolve, invoke, Deferred.ofValue, Act.eval, Sem.run_bind, Sem.run_pure, Result.andThen_ok]
  go_simp
  try rw [k90]
  try rw [k91]
  refine HC.out.mono ?_
  rintro e w8 ⟨v, rfl, ho8, hb8⟩
  have hk8 : Keeps (fun _ => False) w4 w8 := (Keeps.refl _ _).drew.trans (Keeps.of_below hb8 _)
  refine hK.out _ _ hk8 (fun hHeld2 => ?_)
  obtain ⟨a9, ha9⟩ : ∃ a', a' = a8.put (some 92) (.tuple #[v, .int .i64 n, .int .i64 0]) := ⟨_, rfl⟩
  have s9 : a9.tmps.size = 138 := by rw [ha9, put_size]; exact s8
  have E92_9 : a9.eval (.tmp 92) = .tuple #[v, .int .i64 n, .int .i64 0] := by rw [ha9]; exact put_same (by rw [s8]; decide)
  show wpAnyH _ _ _ _ _ _ _ (a8.put (some 92) (.tuple #[v, .int .i64 n, .int .i64 0])) _
  rw [← ha9]
  refine wpAnyH_take (i := 9) (v := .tuple #[v, .int .i64 n, .int .i64 0]) rfl (by kernel_rfl) (by kernel_rfl) (by kernel_rfl) (fun c a w => hQ c a _ _ w) (Or.inl ⟨by rfl, fun w' hw => ?_⟩) hHeld2 ?_
  · exact (show ∀ v, a9.eval (.tmp 92) = v → (execOp a9.eval _).run Tryz.prog w' = .ok (.value v) w' from fun v hv => by subst hv; rfl) _ E92_9
  obtain ⟨a10, ha10⟩ : ∃ a', a' = a9.put (some 83) (.tuple #[v, .int .i64 n, .int .i64 0]) := ⟨_, rfl⟩
  have s10 : a10.tmps.size = 138 := by rw [ha10, put_size]; exact s9
  have E83_10 : a10.eval (.tmp 83) = .tuple #[v, .int .i64 n, .int .i64 0] := by rw [ha10]; exact put_same (by rw [s9]; decide)
  show wpAnyH _ _ _ _ _ _ _ (a9.put (some 83) (.tuple #[v, .int .i64 n, .int .i64 0])) _
  rw [← ha10]
  refine wpAnyH_take (i := 10) (v := v) rfl (by kernel_rfl) (by kernel_rfl) (by kernel_rfl) (fun c a w => hQ c a _ _ w) (Or.inl ⟨by rfl, fun w' hw => ?_⟩) hHeld2 ?_
  · change (execOp a10.eval { dst := _, op := .extract (.tmp 83) 0, type := _, pos := _, after := _, guard := _ }).run Tryz.prog w' = _
    simp only [execOp]
    go_simp
  obtain ⟨a11, ha11⟩ : ∃ a', a' = a10.put (some 93) (v) := ⟨_, rfl⟩
  have s11 : a11.tmps.size = 138 := by rw [ha11, put_size]; exact s10
  have E83_11 : a11.eval (.tmp 83) = .tuple #[v, .int .i64 n, .int .i64 0] := by rw [ha11, put_other (by decide)]; exact E83_10
  have E93_11 : a11.eval (.tmp 93) = v := by rw [ha11]; exact put_same (by rw [s10]; decide)
  show wpAnyH _ _ _ _ _ _ _ (a10.put (some 93) (v)) _
  rw [← ha11]
  refine wpAnyH_take (i := 11) (v := .int .i64 n) rfl (by kernel_rfl) (by kernel_rfl) (by kernel_rfl) (fun c a w => hQ c a _ _ w) (Or.inl ⟨by rfl, fun w' hw => ?_⟩) hHeld2 ?_
  · change (execOp a11.eval { dst := _, op := .extract (.tmp 83) 1, type := _, pos := _, after := _, guard := _ }).run Tryz.prog w' = _
    simp only [execOp]
    go_simp
  obtain ⟨a12, ha12⟩ : ∃ a', a' = a11.put (some 94) (.int .i64 n) := ⟨_, rfl⟩
  have s12 : a12.tmps.size = 138 := by rw [ha12, put_size]; exact s11
  have E83_12 : a12.eval (.tmp 83) = .tuple #[v, .int .i64 n, .int .i64 0] := by rw [ha12, put_other (by decide)]; exact E83_11
  have E93_12 : a12.eval (.tmp 93) = v := by rw [ha12, put_other (by decide)]; exact E93_11
  have E94_12 : a12.eval (.tmp 94) = .int .i64 n := by rw [ha12]; exact put_same (by rw [s11]; decide)
  show wpAnyH _ _ _ _ _ _ _ (a11.put (some 94) (.int .i64 n)) _
  rw [← ha12]
  refine wpAnyH_take (i := 12) (v := .int .i64 0) rfl (by kernel_rfl) (by kernel_rfl) (by kernel_rfl) (fun c a w => hQ c a _ _ w) (Or.inl ⟨by rfl, fun w' hw => ?_⟩) hHeld2 ?_
  · change (execOp a12.eval { dst := _, op := .extract (.tmp 83) 2, type := _, pos := _, after := _, guard := _ }).run Tryz.prog w' = _
    simp only [execOp]
    go_simp
  obtain ⟨a13, ha13⟩ : ∃ a', a' = a12.put (some 95) (.int .i64 0) := ⟨_, rfl⟩
  have s13 : a13.tmps.size = 138 := by rw [ha13, put_size]; exact s12
  have E93_13 : a13.eval (.tmp 93) = v := by rw [ha13, put_other (by decide)]; exact E93_12
  have E94_13 : a13.eval (.tmp 94) = .int .i64 n := by rw [ha13, put_other (by decide)]; exact E94_12
  have E95_13 : a13.eval (.tmp 95) = .int .i64 0 := by rw [ha13]; exact put_same (by rw [s12]; decide)
  show wpAnyH _ _ _ _ _ _ _ (a12.put (some 95) (.int .i64 0)) _
  rw [← ha13]
  refine wpAnyH_take (i := 13) (v := v) rfl (by kernel_rfl) (by kernel_rfl) (by kernel_rfl) (fun c a w => hQ c a _ _ w) (Or.inl ⟨by rfl, fun w' hw => ?_⟩) hHeld2 ?_
  · exact (show ∀ v, a13.eval (.tmp 93) = v → (execOp a13.eval _).run Tryz.prog w' = .ok (.value v) w' from fun v hv => by subst hv; rfl) _ E93_13
  obtain ⟨a14, ha14⟩ : ∃ a', a' = a13.put (some 15) (v) := ⟨_, rfl⟩
  have s14 : a14.tmps.size = 138 := by rw [ha14, put_size]; exact s13
  have E94_14 : a14.eval (.tmp 94) = .int .i64 n := by rw [ha14, put_other (by decide)]; exact E94_13
  have E95_14 : a14.eval (.tmp 95) = .int .i64 0 := by rw [ha14, put_other (by decide)]; exact E95_13
  show wpAnyH _ _ _ _ _ _ _ (a13.put (some 15) (v)) _
  rw [← ha14]
  refine wpAnyH_take (i := 14) (v := .int .i64 n) rfl (by kernel_rfl) (by kernel_rfl) (by kernel_rfl) (fun c a w => hQ c a _ _ w) (Or.inl ⟨by rfl, fun w' hw => ?_⟩) hHeld2 ?_
  · exact (show ∀ v, a14.eval (.tmp 94) = v → (execOp a14.eval _).run Tryz.prog w' = .ok (.value v) w' from fun v hv => by subst hv; rfl) _ E94_14
  obtain ⟨a15, ha15⟩ : ∃ a', a' = a14.put (some 16) (.int .i64 n) := ⟨_, rfl⟩
  have s15 : a15.tmps.size = 138 := by rw [ha15, put_size]; exact s14
  have E95_15 : a15.eval (.tmp 95) = .int .i64 0 := by rw [ha15, put_other (by decide)]; exact E95_14
  show wpAnyH _ _ _ _ _ _ _ (a14.put (some 16) (.int .i64 n)) _
  rw [← ha15]
  refine wpAnyH_take (i := 15) (v := .int .i64 0) rfl (by kernel_rfl) (by kernel_rfl) (by kernel_rfl) (fun c a w => hQ c a _ _ w) (Or.inl ⟨by rfl, fun w' hw => ?_⟩) hHeld2 ?_
  · exact (show ∀ v, a15.eval (.tmp 95) = v → (execOp a15.eval _).run Tryz.prog w' = .ok (.value v) w' from fun v hv => by subst hv; rfl) _ E95_15
  obtain ⟨a16, ha16⟩ : ∃ a', a' = a15.put (some 17) (.int .i64 0) := ⟨_, rfl⟩
  have s16 : a16.tmps.size = 138 := by rw [ha16, put_size]; exact s15
  show wpAnyH _ _ _ _ _ _ _ (a15.put (some 17) (.int .i64 0)) _
  rw [← ha16]
  refine wpAnyH_done (by kernel_rfl) ?_ _
  refine h _ _ v ?_ ho8 hk8
  rw [ha16, ha15, ha14, ha13, ha12, ha11, ha10, ha9, HA.out]
end Go.Proofs.YtgiojjlmohhmkaaGreatDoor
