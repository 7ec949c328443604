/-
  The walk of FieldBytes: the bytes of one parameter.
-/
import Derived.Test.YtgiojjlmohhmkaaGreatDoorH7
import Derived.BigRegion
namespace Go.Proofs.YtgiojjlmohhmkaaGreatDoor
open Go Go.RowKit

/-- The deferred closure of FieldBytes behind a return: nothing is recovered. -/
theorem fb_idle (p q r : Addr) (w : World) :
    CallsD Tryz.prog 22 #[.pointer (some p), .pointer (some q), .pointer (some r)] .returning w fun e u' w' => e = .returned (.tuple #[]) ∧ u' = .returning ∧ w' = w := by
  refine callsD_of_wpS Tryz.func22 rfl fun c₀ cs hu => ?_
  apply wpS_seq
  apply wpS_region
  simp [wpOpsS, go_sem, recoverD, hu, Tryz.ntmps22, Exit.thenS]
  refine wpS_cond (t := false) (by simp [Act.eval, Array.replicate]) ?_
  simp only [Bool.false_eq_true, if_false]
  refine wpS_of_wp (wp_skip ?_)
  cases c₀
  simp_all [bodyPostS, results, Tryz.results22]

theorem AnyIs.keeps' {K : Nat → Prop} {w w' : World} {H : Nat} {v : Value} {x : Sv} (h : AnyIs w H v x) (hk : Keeps K w w') (hK : ∀ i cs, i < H → Row w i 5 cs → ¬ K i) : AnyIs w' H v x := by
  rcases h with h | h | ⟨h1, g, c, h2, h3, cur, h4, h5⟩
  · exact Or.inl h
  · exact Or.inr (Or.inl h)
  · exact Or.inr (Or.inr ⟨h1, g, c, h2, h3, cur, h4.keeps hk (hK g cur h3 h4), h5⟩)

/-- What the last stores leave. -/
theorem three_ended {w : World} {b : Nat} {o0 o1 o2 : Value} (h1 : Row w b 22 #[o0]) (h2 : Row w (b + 1) 3 #[o1]) (h3 : Row w (b + 1 + 1) 3 #[o2]) (out : Value) (n : Int) :
    Keeps (fun i => b ≤ i ∧ i ≤ b + 1 + 1) w (((w.setCell ⟨b, 0, none⟩ out).setCell ⟨b + 1, 0, none⟩ (.int .i64 n)).setCell ⟨b + 1 + 1, 0, none⟩ (.int .i64 0)).drew ∧ (((w.setCell ⟨b, 0, none⟩ out).setCell ⟨b + 1, 0, none⟩ (.int .i64 n)).setCell ⟨b + 1 + 1, 0, none⟩ (.int .i64 0)).drew.cell? ⟨b, 0, none⟩ = some out ∧
    (((w.setCell ⟨b, 0, none⟩ out).setCell ⟨b + 1, 0, none⟩ (.int .i64 n)).setCell ⟨b + 1 + 1, 0, none⟩ (.int .i64 0)).drew.cell? ⟨b + 1, 0, none⟩ = some (.int .i64 n) ∧ (((w.setCell ⟨b, 0, none⟩ out).setCell ⟨b + 1, 0, none⟩ (.int .i64 n)).setCell ⟨b + 1 + 1, 0, none⟩ (.int .i64 0)).drew.cell? ⟨b + 1 + 1, 0, none⟩ = some (.int .i64 0) := by
  have a1 := ((h1.put 0 out).far (p := ⟨b + 1, 0, none⟩) (by first | (simp; done) | (simp; omega)) (.int .i64 n)).far (p := ⟨b + 1 + 1, 0, none⟩) (by first | (simp; done) | (simp; omega)) (.int .i64 0)
  have a2 := ((h2.far (p := ⟨b, 0, none⟩) (by first | (simp; done) | (simp; omega)) out).put 0 (.int .i64 n)).far (p := ⟨b + 1 + 1, 0, none⟩) (by first | (simp; done) | (simp; omega)) (.int .i64 0)
  have a3 := ((h3.far (p := ⟨b, 0, none⟩) (by first | (simp; done) | (simp; omega)) out).far (p := ⟨b + 1, 0, none⟩) (by first | (simp; done) | (simp; omega)) (.int .i64 n)).put 0 (.int .i64 0)
  refine ⟨?_, (a1.drew.cell 0).trans (by simp), (a2.drew.cell 0).trans (by simp), (a3.drew.cell 0).trans (by simp)⟩
  exact ((((Keeps.one w b 0 out).mono (fun i e => by omega)).trans ((Keeps.one _ (b + 1) 0 _).mono (fun i e => by omega))).trans ((Keeps.one _ (b + 1 + 1) 0 _).mono (fun i e => by omega))).drew

/-- Whatever kind a value is of, the rest is nought. -/
def Clean (x : Sv) : Prop :=
  (x.kind = 2 → x.fl = 0 ∧ x.txt = []) ∧ (x.kind = 3 → x.int = 0 ∧ x.txt = []) ∧ (x.kind = 4 → x.int = 0 ∧ x.fl = 0)
theorem svOf_clean {c : Nat} (hc : CodeOk c) (n : Int) : Clean (svOf c n) := by
  rcases hc with rfl | rfl | rfl | rfl | rfl | rfl <;> simp [Clean, svOf]

set_option maxRecDepth 100000 in
set_option maxHeartbeats 1600000 in
theorem fieldbytes_door (c : Nat) (hc : CodeOk c) {x : Sv} {b : Value} (hx : Fits c x) (hcl : Clean x) {w : World} {base : Nat} (hb : w.ownsRow base 5 1 b x.txt.length (x.txt.map (Value.int .u8))) :
    Calls Tryz.prog 9 #[.int .i64 c, .agg (x.cells b), .int .i64 0, .int .i64 0] w fun e w' => ∃ v, e = .returned (.tuple #[v, .int .i64 (pay c x).length, .int .i64 0]) ∧
      w'.ownsRow w.heap.size 5 1 v (wrote c x).length ((wrote c x).map (Value.int .u8)) ∧ Below w.heap.size w w' := by
  have hmf : ∀ (fn : Fn) (first cap : Array Value) (w : World), (Instr.makeFunc fn first cap).run Tryz.prog w = .ok (.func fn first cap) w := fun _ _ _ _ => rfl
  have hcv : IntKind.u8.wrap (c : Int) = c := by
    unfold CodeOk at hc
    simp only [IntKind.wrap, IntKind.bits, IntKind.signed]
    simp
    omega
  have hload : ∀ j v, (x.cells b).toList[j]? = some v → ((((w.alloc (.cells (x.cells b) 41)).alloc (.cells #[.slice none 0 0] 22)).alloc (.cells #[.int .i64 0] 3)).alloc (.cells #[.int .i64 0] 3)).cell? ((⟨w.heap.size, 0, none⟩ : Addr).add j) = some v :=
    ((((Row.made w 41 (x.cells b)).alloc _).alloc _).alloc _).cells
  have hF0 : Row ((((w.alloc (.cells (x.cells b) 41)).alloc (.cells #[.slice none 0 0] 22)).alloc (.cells #[.int .i64 0] 3)).alloc (.cells #[.int .i64 0] 3)) (w.heap.size + 1) 22 #[.slice none 0 0] := by
    have h := Row.made (w.alloc (.cells (x.cells b) 41)) 22 #[.slice none 0 0]
    rw [World.size_alloc] at h
    exact (h.alloc _).alloc _
  have hF1 : Row ((((w.alloc (.cells (x.cells b) 41)).alloc (.cells #[.slice none 0 0] 22)).alloc (.cells #[.int .i64 0] 3)).alloc (.cells #[.int .i64 0] 3)) (w.heap.size + 1 + 1) 3 #[.int .i64 0] := by
    have h := Row.made ((w.alloc (.cells (x.cells b) 41)).alloc (.cells #[.slice none 0 0] 22)) 3 #[.int .i64 0]
    rw [World.size_alloc, World.size_alloc] at h
    exact h.alloc _
  have hF2 : Row ((((w.alloc (.cells (x.cells b) 41)).alloc (.cells #[.slice none 0 0] 22)).alloc (.cells #[.int .i64 0] 3)).alloc (.cells #[.int .i64 0] 3)) (w.heap.size + 1 + 1 + 1) 3 #[.int .i64 0] := by
    have h := Row.made (((w.alloc (.cells (x.cells b) 41)).alloc (.cells #[.slice none 0 0] 22)).alloc (.cells #[.int .i64 0] 3)) 3 #[.int .i64 0]
    rw [World.size_alloc, World.size_alloc, World.size_alloc] at h
    exact h
  have hk0 : Keeps (fun _ => False) w ((((w.alloc (.cells (x.cells b) 41)).alloc (.cells #[.slice none 0 0] 22)).alloc (.cells #[.int .i64 0] 3)).alloc (.cells #[.int .i64 0] 3)) := ((((Keeps.refl _ _).alloc _).alloc _).alloc _).alloc _
  have hb0 := (((hb.alloc (.cells (x.cells b) 41)).alloc (.cells #[.slice none 0 0] 22)).alloc (.cells #[.int .i64 0] 3)).alloc (.cells #[.int .i64 0] 3)
  have hsz : ((((w.alloc (.cells (x.cells b) 41)).alloc (.cells #[.slice none 0 0] 22)).alloc (.cells #[.int .i64 0] 3)).alloc (.cells #[.int .i64 0] 3)).heap.size = w.heap.size + 4 := by simp [World.size_alloc]
  have HF0 := hide hF0
  have HF1 := hide hF1
  have HF2 := hide hF2
  have HK0 := hide hk0
  have HB0 := hide hb0
  have HSZ := hide hsz
  clear hF0 hF1 hF2 hk0 hb0 hsz hb
  go_enter_defers Tryz.func9, Tryz.ntmps9
  go_wp2_with (refine wpList_load_at rfl 41 (.tmp 5) rfl ⟨w.heap.size, 0, none⟩ rfl (x.cells b) _ hload Tryz.underlying41 rfl size41 ?_)
  clear hload
  generalize World.alloc _ _ = w1 at *
  refine (anyof_any hx hcl.1 hcl.2.1 hcl.2.2 HB0.out).mono ?_
  rintro e w2 ⟨v, rfl, hv2, hbe2⟩
  obtain ⟨tt, uu, rfl⟩ := hv2.shape
  have hk2 : Keeps (fun _ => False) w1 w2 := Keeps.of_below hbe2 _
  have hsz2 : w.heap.size + 4 ≤ w2.heap.size := by have := hk2.size; have := HSZ.out; omega
  have HV2 := hide hv2
  have HK2 := hide hk2
  clear hv2 hk2 hbe2
  go_wp2_with fail
  refine (near_nought _).mono ?_
  rintro e w3 ⟨rfl, rfl⟩
  go_wp2_with fail
  refine (near_nought _).mono ?_
  rintro e w3 ⟨rfl, rfl⟩
  go_wp2_with fail
  refine (field_new c w2).mono ?_
  rintro e w3 ⟨f, nm, rfl, hf3, hrow3, hk3⟩
  have hsz3 := hk3.size
  have hv3 := (HV2.out.keeps hk3 (fun _ _ => id)).up hsz3
  have hflt := hrow3.lt
  have hG0 := (HF0.out.keeps HK2.out id).keeps hk3 id
  have hG1 := (HF1.out.keeps HK2.out id).keeps hk3 id
  have hG2 := (HF2.out.keeps HK2.out id).keeps hk3 id
  have c1 := hG1.cell 0
  have f1 := hG1.frozen 0
  simp at c1
  have HV3 := hide hv3
  have HROW3 := hide hrow3
  have HK3 := hide ((HK0.out.trans HK2.out).trans hk3)
  have HG0 := hide hG0
  have HG1 := hide hG1
  have HG2 := hide hG2
  clear HK0 HK2 HF0 HF1 HF2 HB0 HV2 hG0 hG1 hG2 hv3 hrow3 hk3 hcv
  go_wp2_with fail
  refine (fieldsize_any hx HROW3.out HV3.out).mono ?_
  rintro e w4 ⟨rfl, rfl⟩
  go_wp2_with fail
  clear c1 f1
  have hone := Keeps.one w3 (w.heap.size + 1 + 1) 0 (.int .i64 (pay c x).length)
  have hW4 := Row.made (w3.setCell ⟨w.heap.size + 1 + 1, 0, none⟩ (.int .i64 (pay c x).length)) 81 #[.slice none 0 0]
  rw [show (w3.setCell ⟨w.heap.size + 1 + 1, 0, none⟩ (.int .i64 (pay c x).length)).heap.size = w3.heap.size by simp [World.setCell]] at hW4
  have hG1' := (HG1.out.put 0 (.int .i64 (pay c x).length)).alloc (.cells #[.slice none 0 0] 81)
  have hG0' := (HG0.out.keeps hone (by omega)).alloc (.cells #[.slice none 0 0] 81)
  have hG2' := (HG2.out.keeps hone (by omega)).alloc (.cells #[.slice none 0 0] 81)
  have hk4 : Keeps (fun i => i = w.heap.size + 1 + 1) w3 ((w3.setCell ⟨w.heap.size + 1 + 1, 0, none⟩ (.int .i64 (pay c x).length)).alloc (.cells #[.slice none 0 0] 81)) := hone.alloc _
  have hs4 : ((w3.setCell ⟨w.heap.size + 1 + 1, 0, none⟩ (.int .i64 (pay c x).length)).alloc (.cells #[.slice none 0 0] 81)).heap.size = w3.heap.size + 1 := by rw [World.size_alloc]; simp [World.setCell]
  simp at hG1'
  clear hone
  generalize World.alloc _ _ = w4 at *
  refine (encoder_any hW4).mono ?_
  rintro e w5 ⟨en, s, rfl, hs5, hen5, hFr, hk5⟩
  have hE5 := hFr.enc hFr.lt.2.2 (Nat.le_refl w5.heap.size)
  clear hFr
  have hsz5 := hk5.size
  have hlo : ∀ i, i < w3.heap.size → ¬ (i = w3.heap.size ∨ i = s ∨ w5.heap.size ≤ i) := fun i hi e => by omega
  have hk45 := hk4.trans (hk5.mono (fun _ e => e.elim))
  have HC := hide (fieldbytes_any (H := w3.heap.size) hE5 hx (HROW3.out.keeps hk45 (by have := HROW3.out.lt; omega)) (AnyIs.keeps' HV3.out hk45 (fun i cs hi hr e => hr.ne HG1.out (by decide) e)) hflt (Nat.le_refl _) (by omega) (by omega) (by simp))
  have hL0 := (hG0'.keeps hk5 id)
  have hL1 := (hG1'.keeps hk5 id)
  have hL2 := (hG2'.keeps hk5 id)
  have HL0 := hide hL0
  have HL1 := hide hL1
  have HL2 := hide hL2
  have HK5 := hide ((HK3.out.trans_new hk45 (K := fun _ => False) (fun i hi e => by omega)))
  clear hL0 hL1 hL2 hG0' hG1' hG2' hk4 hk5 hk45 hE5 hW4 HG0 HG1 HG2 HV3 HROW3 HK3
  go_wp2_with fail
  refine HC.out.mono ?_
  rintro e w6 ⟨rfl, hE6, hk6⟩
  obtain ⟨tr, vv, S, _, _, _, _, hW6, ho6, hb6⟩ := hE6
  rw [List.nil_append] at ho6
  obtain ⟨gv, capv, curv, rfl, hgv, _, _, _, _, _⟩ := own_pos ho6 (by simp [wrote])
  have hM0 := HL0.out.keeps hk6 (by omega)
  have hM1 := HL1.out.keeps hk6 (by omega)
  have hM2 := HL2.out.keeps hk6 (by omega)
  have c0 := hW6.cell 0
  have d0 := hM0.cell 0
  have e0 := hM0.frozen 0
  have d1 := hM1.cell 0
  have e1 := hM1.frozen 0
  have d2 := hM2.cell 0
  have e2 := hM2.frozen 0
  simp at c0 d0 d1 d2
  have HO6 := hide ho6
  have HM0 := hide hM0
  have HM1 := hide hM1
  have HM2 := hide hM2
  have HK6 := hide (HK5.out.trans_new hk6 (K := fun _ => False) (fun i hi e => by omega))
  have HS6 := hide hk6.size
  clear hM0 hM1 hM2 HL0 HL1 HL2 HK5 hk6 ho6 hW6 HC hlo
  go_wp2_with fail
  refine wp_region_noPanic ?_
  go_region
  refine NoPanic.normal ?_
  obtain ⟨zk, z0, z1, z2⟩ := three_ended HM0.out HM1.out HM2.out (.slice (some ⟨gv, 0, none⟩) (wrote c x).length capv) (pay c x).length
  have HO7 := hide (own_base (own_keeps HO6.out zk (fun g cs _ hg e => by omega)) (show w.heap.size ≤ w5.heap.size by omega))
  have HK7 := hide ((HK6.out.trans_new zk (K := fun _ => False) (fun i hi e => by omega)).below (B := w.heap.size) (fun _ _ => id) (Nat.le_refl _))
  have Z0 := hide z0
  have Z1 := hide z1
  have Z2 := hide z2
  clear zk z0 z1 z2 c0 d0 d1 d2 e0 e1 e2 HM0 HM1 HM2 HO6 HK6
  generalize World.drew _ = wz at *
  have z0 := Z0.out
  have z1 := Z1.out
  have z2 := Z2.out
  go_wp2
  refine leaves_cons (f := 22) (args := #[.pointer (some ⟨w.heap.size + 1, 0, none⟩), .pointer (some ⟨w.heap.size + 1 + 1, 0, none⟩), .pointer (some ⟨w.heap.size + 1 + 1 + 1, 0, none⟩)]) (by simp) (by simp [go_sem]) ?_
  refine (fb_idle _ _ _ _).mono ?_
  rintro e u' w'' ⟨rfl, rfl, rfl⟩
  have h0 := HO7.out
  have h1 := HK7.out
  simp [Leaves, settle, results, Tryz.results9, go_sem, z0, z1, z2]
  exact ⟨h0, h1⟩
end Go.Proofs.YtgiojjlmohhmkaaGreatDoor
