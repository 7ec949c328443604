/-
  The region of the law that compares two values: whatever order is drawn, they are the same. The frame is a variable.
-/
import Derived.Test.YtgiojjlmohhmkaaGreatDoorF3
import Derived.Deep.RegionHeld
namespace Go.Proofs.YtgiojjlmohhmkaaGreatDoor
open Go Go.RowKit

/-- The operations of the region of number id. -/
def regionOps (id : Nat) : Code → Option (Array Oper)
  | .region i ops _ => if i = id then some ops else none
  | .seq a b => match regionOps id a with
    | some o => some o
    | none => regionOps id b
  | .block _ c => regionOps id c
  | .scope c => regionOps id c
  | .loop c => regionOps id c
  | .cond _ a b => match regionOps id a with
    | some o => some o
    | none => regionOps id b
  | _ => none
noncomputable def ops26 : Array Oper := (Tryz.f3.body.bind (regionOps 26)).getD #[]

theorem put_same {a : Act} {t : Tmp} {v : Value} (h : t < a.tmps.size) : (a.put (some t) v).eval (.tmp t) = v := by
  simp [Act.put, Act.eval, h]
theorem put_other {a : Act} {t u : Tmp} {v : Value} (h : t ≠ u) : (a.put (some t) v).eval (.tmp u) = a.eval (.tmp u) := by
  simp [Act.put, Act.eval, h]
theorem put_size {a : Act} {t : Option Tmp} {v : Value} : (a.put t v).tmps.size = a.tmps.size := by
  cases t <;> simp [Act.put]

set_option maxRecDepth 100000 in
theorem region26_any {Q : Exit → Act → World → Prop} {a : Act} {w4 : World} {g0 gw k n capw B : Nat} {x : Sv} {b1 b2 : Value} (hs : a.tmps.size = 148) (h22 : a.eval (.tmp 22) = .pointer (some ⟨g0, 0, none⟩))
    (h12 : a.eval (.tmp 12) = .slice (some ⟨gw, 0, none⟩) n capw) (h21 : a.eval (.tmp 21) = .int .i64 k) (hk : k < n) (hr1 : Row w4 g0 41 (x.cells b1)) (hr2 : ∀ j v, (x.cells b2).toList[j]? = some v → w4.cell? ⟨gw, k * 22 + j, none⟩ = some v)
    (hg : gw < w4.heap.size) (hord : FloatKind.f64.format.order x.fl x.fl = some Ordering.eq) (ho1 : w4.ownsRow B 5 1 b1 x.txt.length (x.txt.map (Value.int .u8))) (ho2 : w4.ownsRow B 5 1 b2 x.txt.length (x.txt.map (Value.int .u8)))
    (hQ : ∀ c (a : Act) (d : Tmp) v w, Q (.panic c) (a.put (some d) v) w → Q (.panic c) a w)
    (h : ∀ a' w8, a' = ((((((a.put (some 140) (.agg (x.cells b1))).put (some 141) (.slice (some ⟨gw, 0, none⟩) n capw)).put (some 142) (.int .i64 k)).put (some 143) (.pointer (some ⟨gw, k * 22, none⟩))).put (some 144) (.agg (x.cells b2))).put (some 145) (.bool true)).put (some 146) (.bool false) →
      Keeps (fun _ => False) w4 w8 → Q .normal a' w8) :
    Code.wp Tryz.prog (Code.region 26 ops26 true) Q a w4 := by
  refine wp_region_held_drew (S := fun w' => Keeps (fun _ => False) w4 w') (by kernel_rfl) ((Keeps.refl _ _).drew) (fun hHeld => ?_)
  refine wpAnyH_take (i := 0) (v := .agg (x.cells b1)) rfl (by kernel_rfl) (by kernel_rfl) (by kernel_rfl) (fun c a w => hQ c a _ _ w) (yieldsIf_load_mid (by rfl) 41 (.tmp 22) rfl g0 0 h22 (x.cells b1).toList _ (fun w' hw j v hv => ?_) Tryz.underlying41 rfl size41) hHeld ?_
  · rw [Nat.zero_add, (hr1.keeps hw id).cell]; simpa using hv
  obtain ⟨a1, ha1⟩ : ∃ a1, a1 = a.put (some 140) (.agg (x.cells b1)) := ⟨_, rfl⟩
  have s1 : a1.tmps.size = 148 := by rw [ha1, put_size]; exact hs
  have e140 : a1.eval (.tmp 140) = .agg (x.cells b1) := by rw [ha1]; exact put_same (by rw [hs]; decide)
  have e12 : a1.eval (.tmp 12) = .slice (some ⟨gw, 0, none⟩) n capw := by rw [ha1, put_other (by decide)]; exact h12
  have e21 : a1.eval (.tmp 21) = .int .i64 k := by rw [ha1, put_other (by decide)]; exact h21
  show wpAnyH _ _ _ _ _ _ _ (a.put (some 140) (.agg (x.cells b1))) _
  rw [← ha1]
  refine wpAnyH_take (i := 1) (v := .slice (some ⟨gw, 0, none⟩) n capw) rfl (by kernel_rfl) (by kernel_rfl) (by kernel_rfl) (fun c a w => hQ c a _ _ w) (Or.inl ⟨by rfl, fun w' _ => ?_⟩) hHeld ?_
  · exact (show ∀ v, a1.eval (.tmp 12) = v → (execOp a1.eval _).run Tryz.prog w' = .ok (.value v) w' from fun v hv => by subst hv; rfl) _ e12
  obtain ⟨a2, ha2⟩ : ∃ a2, a2 = a1.put (some 141) (.slice (some ⟨gw, 0, none⟩) n capw) := ⟨_, rfl⟩
  have s2 : a2.tmps.size = 148 := by rw [ha2, put_size]; exact s1
  have f140 : a2.eval (.tmp 140) = .agg (x.cells b1) := by rw [ha2, put_other (by decide)]; exact e140
  have f141 : a2.eval (.tmp 141) = .slice (some ⟨gw, 0, none⟩) n capw := by rw [ha2]; exact put_same (by rw [s1]; decide)
  have f21 : a2.eval (.tmp 21) = .int .i64 k := by rw [ha2, put_other (by decide)]; exact e21
  show wpAnyH _ _ _ _ _ _ _ (a1.put (some 141) (.slice (some ⟨gw, 0, none⟩) n capw)) _
  rw [← ha2]
  refine wpAnyH_take (i := 2) (v := .int .i64 k) rfl (by kernel_rfl) (by kernel_rfl) (by kernel_rfl) (fun c a w => hQ c a _ _ w) (Or.inl ⟨by rfl, fun w' _ => ?_⟩) hHeld ?_
  · exact (show ∀ v, a2.eval (.tmp 21) = v → (execOp a2.eval _).run Tryz.prog w' = .ok (.value v) w' from fun v hv => by subst hv; rfl) _ f21
  obtain ⟨a3, ha3⟩ : ∃ a3, a3 = a2.put (some 142) (.int .i64 k) := ⟨_, rfl⟩
  have s3 : a3.tmps.size = 148 := by rw [ha3, put_size]; exact s2
  have g140 : a3.eval (.tmp 140) = .agg (x.cells b1) := by rw [ha3, put_other (by decide)]; exact f140
  have g141 : a3.eval (.tmp 141) = .slice (some ⟨gw, 0, none⟩) n capw := by rw [ha3, put_other (by decide)]; exact f141
  have g142 : a3.eval (.tmp 142) = .int .i64 k := by rw [ha3]; exact put_same (by rw [s2]; decide)
  show wpAnyH _ _ _ _ _ _ _ (a2.put (some 142) (.int .i64 k)) _
  rw [← ha3]
  refine wpAnyH_take (i := 3) (v := .pointer (some ⟨gw, k * 22, none⟩)) rfl (by kernel_rfl) (by kernel_rfl) (by kernel_rfl) (fun c a w => hQ c a _ _ w) (Or.inl ⟨by rfl, fun w' _ => ?_⟩) hHeld ?_
  · change (execOp a3.eval { dst := _, op := .indexAddr 29 (.tmp 141) (.tmp 142), type := _, pos := _, after := _, guard := _ }).run Tryz.prog w' = _
    simp only [execOp]
    go_simp
  obtain ⟨a4, ha4⟩ : ∃ a4, a4 = a3.put (some 143) (.pointer (some ⟨gw, k * 22, none⟩)) := ⟨_, rfl⟩
  have s4 : a4.tmps.size = 148 := by rw [ha4, put_size]; exact s3
  have i140 : a4.eval (.tmp 140) = .agg (x.cells b1) := by rw [ha4, put_other (by decide)]; exact g140
  have i143 : a4.eval (.tmp 143) = .pointer (some ⟨gw, k * 22, none⟩) := by rw [ha4]; exact put_same (by rw [s3]; decide)
  show wpAnyH _ _ _ _ _ _ _ (a3.put (some 143) (.pointer (some ⟨gw, k * 22, none⟩))) _
  rw [← ha4]
  refine wpAnyH_take (i := 4) (v := .agg (x.cells b2)) rfl (by kernel_rfl) (by kernel_rfl) (by kernel_rfl) (fun c a w => hQ c a _ _ w) (yieldsIf_load_mid (by rfl) 41 (.tmp 143) rfl gw (k * 22) i143 (x.cells b2).toList _ (fun w' hw j v hv => ?_) Tryz.underlying41 rfl size41) hHeld ?_
  · exact ((hw.below (B := w4.heap.size) (fun _ _ => id) (Nat.le_refl _)).cell (p := ⟨gw, k * 22 + j, none⟩) hg).trans (hr2 j v hv)
  obtain ⟨a5, ha5⟩ : ∃ a5, a5 = a4.put (some 144) (.agg (x.cells b2)) := ⟨_, rfl⟩
  have s5 : a5.tmps.size = 148 := by rw [ha5, put_size]; exact s4
  have j140 : a5.eval (.tmp 140) = .agg (x.cells b1) := by rw [ha5, put_other (by decide)]; exact i140
  have j144 : a5.eval (.tmp 144) = .agg (x.cells b2) := by rw [ha5]; exact put_same (by rw [s4]; decide)
  show wpAnyH _ _ _ _ _ _ _ (a4.put (some 144) (.agg (x.cells b2))) _
  rw [← ha5]
  refine wpAnyH_ready (rs := [5]) (by kernel_rfl) (by simp) ?_
  have HA : Hid (a5 = ((((a.put (some 140) (.agg (x.cells b1))).put (some 141) (.slice (some ⟨gw, 0, none⟩) n capw)).put (some 142) (.int .i64 k)).put (some 143) (.pointer (some ⟨gw, k * 22, none⟩))).put (some 144) (.agg (x.cells b2))) := by rw [ha5, ha4, ha3, ha2, ha1]; exact hide rfl
  clear ha5 ha4 ha3 ha2 ha1
  have HC : Calls Tryz.prog 8 #[.agg (x.cells b1), .agg (x.cells b2)] w4.drew fun e w' => e = .returned (.bool true) ∧ Below w4.drew.heap.size w4.drew w' := same_any x hord ho1 ho2
  refine AllReadyH.cons (o := { dst := some 145, op := .call { callee := .value (.func 8), args := #[.tmp 140, .tmp 144], argTypes := _ }, type := _, pos := _, after := _, guard := _ }) rfl (fun K hK => ?_) AllReadyH.nil
  rw [if_pos (by rfl)]
  simp only [Oper.wp, execOp, resolve, invoke, Deferred.ofValue, Act.eval, Sem.run_bind, Sem.run_pure, Result.andThen_ok]
  go_simp
  have k140 : a5.tmps[140]'(by rw [s5]; decide) = .agg (x.cells b1) := by
    have := j140
    simpa [Act.eval, s5] using this
  have k144 : a5.tmps[144]'(by rw [s5]; decide) = .agg (x.cells b2) := by
    have := j144
    simpa [Act.eval, s5] using this
  rw [k140, k144]
  refine HC.mono ?_
  rintro e w8 ⟨rfl, hb8⟩
  have hk8 : Keeps (fun _ => False) w4 w8 := (Keeps.refl _ _).drew.trans (Keeps.of_below hb8 _)
  refine hK.out _ _ hk8 (fun hHeld2 => ?_)
  obtain ⟨a6, ha6⟩ : ∃ a6, a6 = a5.put (some 145) (.bool true) := ⟨_, rfl⟩
  have l145 : a6.eval (.tmp 145) = .bool true := by rw [ha6]; exact put_same (by rw [s5]; decide)
  show wpAnyH _ _ _ _ _ _ _ (a5.put (some 145) (.bool true)) _
  rw [← ha6]
  refine wpAnyH_take (i := 6) (v := .bool false) rfl (by kernel_rfl) (by kernel_rfl) (by kernel_rfl) (fun c a w => hQ c a _ _ w) (Or.inl ⟨by rfl, fun w' _ => ?_⟩) hHeld2 ?_
  · change (execOp a6.eval { dst := _, op := .unOp .not 4 (.tmp 145), type := _, pos := _, after := _, guard := _ }).run Tryz.prog w' = _
    simp only [execOp]
    go_simp
  refine wpAnyH_done (by kernel_rfl) ?_ _
  refine h _ _ ?_ hk8
  rw [ha6, HA.out]
  rfl
end Go.Proofs.YtgiojjlmohhmkaaGreatDoor
