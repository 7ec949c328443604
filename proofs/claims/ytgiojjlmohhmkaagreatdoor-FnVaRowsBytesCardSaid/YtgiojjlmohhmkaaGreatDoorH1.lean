/-
  The walks of the writer's Write and of encoding/binary's little-endian writers.
-/
import Derived.Test.YtgiojjlmohhmkaaGreatDoorProg
import Derived.Test.YtgiojjlmohhmkaaGreatDoorB1
import Derived.Test.YtgiojjlmohhmkaaGreatDoorE1
import Derived.Maps.AppendAt
namespace Go.Proofs.YtgiojjlmohhmkaaGreatDoor
open Go Go.RowKit

set_option maxRecDepth 100000 in
set_option maxHeartbeats 400000 in
theorem write_any {w : World} {W B : Nat} {v : Value} {bs l : List Int} {ad : Addr} {n c : Nat} (hW : Row w W 81 #[v]) (hv : w.ownsRow B 5 1 v bs.length (bs.map (Value.int .u8))) (hB : B ≤ w.heap.size)
    (hl : l.length = n) (hc : ∀ j u, (l.map (Value.int .u8))[j]? = some u → w.cell? (ad.add j) = some u) (hbd : bs.length + n ≤ 100000) :
    Calls Tryz.prog 143 #[.pointer (some ⟨W, 0, none⟩), .slice (some ad) n c] w fun e w' => ∃ v', e = .returned (.tuple #[.int .i64 n, .nilIface]) ∧ Row w' W 81 #[v'] ∧
      w'.ownsRow B 5 1 v' (bs.length + n) ((bs ++ l).map (Value.int .u8)) ∧ Keeps (fun i => i = W ∨ some i = v.ownBlock) w w' := by
  obtain ⟨i5, li, lz0, lz1, lz2⟩ := info_parts info5
  have c0 := hW.cell 0
  have f0 := hW.frozen 0
  simp at c0
  have HW := hide hW
  have HV := hide hv
  have HC := hide hc
  have HL : Hid ((l.map (Value.int .u8)).length = n * 1) := hide (by simpa using hl)
  clear hW hc hl
  go_enter Tryz.func143, Tryz.ntmps143
  go_wp2_with (at_builtin; refine wpList_append_own_at _ rfl (.tmp 10) (.tmp 11) 22 rfl B 5 i5 (.int .u8 0) 1 1 Tryz.underlying22 li lz0 lz1 lz2 rfl (by decide) _ _ _ rfl hv ad n c (l.map (Value.int .u8)) rfl HL.out HC.out ?d2 ?d3 ?d4 ?d5 ?_)
  case d2 => exact ints_oneCell _ _
  case d3 => unfold maxLen; omega
  case d4 => omega
  case d5 => omega
  intro v' w2 ho2 hg2 _ _
  have hne := own_ne hv HW.out (by decide)
  have hW2 : Row w2 W 81 #[v] := (hg2.block _ HW.out.lt (fun e => hne e.symm)).trans HW.out
  have d0 := hW2.cell 0
  have e0 := hW2.frozen 0
  simp at d0
  have hk2 : Keeps (fun i => some i = v.ownBlock) w w2 := (Keeps.refl _ _).grown hg2 (fun k e _ => e.symm)
  obtain ⟨a2, m2, c2, rfl⟩ := own_one ho2
  have hne2 := own_ne ho2 hW2 (by decide)
  have HO2 := hide ho2
  have HW2 := hide hW2
  have HK2 := hide hk2
  clear ho2 hW2 hk2 hg2 hv hne
  go_wp2
  go_ret2
  refine ⟨_, rfl, HW2.out.put 0 _, ?_, Keeps.setCell (K := fun i => i = W ∨ some i = v.ownBlock) (p := ⟨W, 0, none⟩) (HK2.out.mono (fun _ e => Or.inr e)) (fun _ => Or.inl rfl) _⟩
  have h := World.ownsRow.kept HO2.out (row := some W) (w' := w2.setCell ⟨W, 0, none⟩ (.slice a2 m2 c2)) ⟨rfl, rfl, rfl, by simp [World.setCell], fun k _ hk => Below.heap_setCell _ _ _ _ (fun e => hk (by rw [e]))⟩ (Or.inr hne2)
  rw [List.map_append]
  exact h

set_option maxRecDepth 100000 in
set_option maxHeartbeats 400000 in
theorem put16_any (w : World) (s : Nat) (S : Array Value) (u : Int) (h0 : 0 ≤ u) (h1 : u ≤ 65535) (hs : Row w s 5 S) (hS : S.size = 4096) :
    Calls Tryz.prog 186 #[.agg #[], .slice (some ⟨s, 0, none⟩) 2 4096, .int .u16 u] w fun e w' => e = .returned (.tuple #[]) ∧ ∃ S', Row w' s 5 S' ∧ S'.size = 4096 ∧ (∀ j, j < 2 → S'[j]? = some (.int .u8 ((low u 2).getD j 0))) ∧ Keeps (fun i => i = s) w w' := by
  have hlt := hs.lt
  obtain ⟨v0, c0⟩ : ∃ v, w.cell? ⟨s, 0, none⟩ = some v := ⟨_, (hs.cell 0).trans (Array.getElem?_eq_getElem (by omega))⟩
  have f0 := hs.frozen 0
  have k0 : ∀ o, (w.alloc o).cell? ⟨s, 0, none⟩ = some v0 := fun o => (World.cell?_alloc_lt w o _ hlt).trans c0
  have q0 : ∀ o, (w.alloc o).frozen? ⟨s, 0, none⟩ = false := fun o => (hs.alloc o).frozen 0
  obtain ⟨v1, c1⟩ : ∃ v, w.cell? ⟨s, 1, none⟩ = some v := ⟨_, (hs.cell 1).trans (Array.getElem?_eq_getElem (by omega))⟩
  have f1 := hs.frozen 1
  have k1 : ∀ o, (w.alloc o).cell? ⟨s, 1, none⟩ = some v1 := fun o => (World.cell?_alloc_lt w o _ hlt).trans c1
  have q1 : ∀ o, (w.alloc o).frozen? ⟨s, 1, none⟩ = false := fun o => (hs.alloc o).frozen 1
  have HS := hide hs
  clear hs
  go_enter Tryz.func186, Tryz.ntmps186
  go_wp2
  go_end0
  refine ⟨rfl, _, ((HS.out.put 0 _).put 1 _).alloc _, by simp [hS], fun j hj => ?_, Keeps.alloc (Keeps.setCell (K := fun i => i = s) (p := ⟨s, 1, none⟩) (Keeps.setCell (K := fun i => i = s) (p := ⟨s, 0, none⟩) (Keeps.refl (fun i => i = s) w) (fun _ => rfl) _) (fun _ => rfl) _) _⟩
  rw [getD_low _ _ _ hj]
  rcases (show j = 0 ∨ j = 1 by omega) with rfl | rfl
  all_goals
    simp [hS]
    try omega

set_option maxRecDepth 100000 in
set_option maxHeartbeats 400000 in
theorem put32_any (w : World) (s : Nat) (S : Array Value) (u : Int) (h0 : 0 ≤ u) (h1 : u ≤ 4294967295) (hs : Row w s 5 S) (hS : S.size = 4096) :
    Calls Tryz.prog 142 #[.agg #[], .slice (some ⟨s, 0, none⟩) 4 4096, .int .u32 u] w fun e w' => e = .returned (.tuple #[]) ∧ ∃ S', Row w' s 5 S' ∧ S'.size = 4096 ∧ (∀ j, j < 4 → S'[j]? = some (.int .u8 ((low u 4).getD j 0))) ∧ Keeps (fun i => i = s) w w' := by
  have hlt := hs.lt
  obtain ⟨v0, c0⟩ : ∃ v, w.cell? ⟨s, 0, none⟩ = some v := ⟨_, (hs.cell 0).trans (Array.getElem?_eq_getElem (by omega))⟩
  have f0 := hs.frozen 0
  have k0 : ∀ o, (w.alloc o).cell? ⟨s, 0, none⟩ = some v0 := fun o => (World.cell?_alloc_lt w o _ hlt).trans c0
  have q0 : ∀ o, (w.alloc o).frozen? ⟨s, 0, none⟩ = false := fun o => (hs.alloc o).frozen 0
  obtain ⟨v1, c1⟩ : ∃ v, w.cell? ⟨s, 1, none⟩ = some v := ⟨_, (hs.cell 1).trans (Array.getElem?_eq_getElem (by omega))⟩
  have f1 := hs.frozen 1
  have k1 : ∀ o, (w.alloc o).cell? ⟨s, 1, none⟩ = some v1 := fun o => (World.cell?_alloc_lt w o _ hlt).trans c1
  have q1 : ∀ o, (w.alloc o).frozen? ⟨s, 1, none⟩ = false := fun o => (hs.alloc o).frozen 1
  obtain ⟨v2, c2⟩ : ∃ v, w.cell? ⟨s, 2, none⟩ = some v := ⟨_, (hs.cell 2).trans (Array.getElem?_eq_getElem (by omega))⟩
  have f2 := hs.frozen 2
  have k2 : ∀ o, (w.alloc o).cell? ⟨s, 2, none⟩ = some v2 := fun o => (World.cell?_alloc_lt w o _ hlt).trans c2
  have q2 : ∀ o, (w.alloc o).frozen? ⟨s, 2, none⟩ = false := fun o => (hs.alloc o).frozen 2
  obtain ⟨v3, c3⟩ : ∃ v, w.cell? ⟨s, 3, none⟩ = some v := ⟨_, (hs.cell 3).trans (Array.getElem?_eq_getElem (by omega))⟩
  have f3 := hs.frozen 3
  have k3 : ∀ o, (w.alloc o).cell? ⟨s, 3, none⟩ = some v3 := fun o => (World.cell?_alloc_lt w o _ hlt).trans c3
  have q3 : ∀ o, (w.alloc o).frozen? ⟨s, 3, none⟩ = false := fun o => (hs.alloc o).frozen 3
  have HS := hide hs
  clear hs
  go_enter Tryz.func142, Tryz.ntmps142
  go_wp2
  go_end0
  refine ⟨rfl, _, ((((HS.out.put 0 _).put 1 _).put 2 _).put 3 _).alloc _, by simp [hS], fun j hj => ?_, Keeps.alloc (Keeps.setCell (K := fun i => i = s) (p := ⟨s, 3, none⟩) (Keeps.setCell (K := fun i => i = s) (p := ⟨s, 2, none⟩) (Keeps.setCell (K := fun i => i = s) (p := ⟨s, 1, none⟩) (Keeps.setCell (K := fun i => i = s) (p := ⟨s, 0, none⟩) (Keeps.refl (fun i => i = s) w) (fun _ => rfl) _) (fun _ => rfl) _) (fun _ => rfl) _) (fun _ => rfl) _) _⟩
  rw [getD_low _ _ _ hj]
  rcases (show j = 0 ∨ j = 1 ∨ j = 2 ∨ j = 3 by omega) with rfl | rfl | rfl | rfl
  all_goals
    simp [hS]
    try omega

set_option maxRecDepth 100000 in
set_option maxHeartbeats 1600000 in
theorem put64_any (w : World) (s : Nat) (S : Array Value) (u : Int) (h0 : 0 ≤ u) (h1 : u ≤ 18446744073709551615) (hs : Row w s 5 S) (hS : S.size = 4096) :
    Calls Tryz.prog 187 #[.agg #[], .slice (some ⟨s, 0, none⟩) 8 4096, .int .u64 u] w fun e w' => e = .returned (.tuple #[]) ∧ ∃ S', Row w' s 5 S' ∧ S'.size = 4096 ∧ (∀ j, j < 8 → S'[j]? = some (.int .u8 ((low u 8).getD j 0))) ∧ Keeps (fun i => i = s) w w' := by
  have hlt := hs.lt
  obtain ⟨v0, c0⟩ : ∃ v, w.cell? ⟨s, 0, none⟩ = some v := ⟨_, (hs.cell 0).trans (Array.getElem?_eq_getElem (by omega))⟩
  have f0 := hs.frozen 0
  have k0 : ∀ o, (w.alloc o).cell? ⟨s, 0, none⟩ = some v0 := fun o => (World.cell?_alloc_lt w o _ hlt).trans c0
  have q0 : ∀ o, (w.alloc o).frozen? ⟨s, 0, none⟩ = false := fun o => (hs.alloc o).frozen 0
  obtain ⟨v1, c1⟩ : ∃ v, w.cell? ⟨s, 1, none⟩ = some v := ⟨_, (hs.cell 1).trans (Array.getElem?_eq_getElem (by omega))⟩
  have f1 := hs.frozen 1
  have k1 : ∀ o, (w.alloc o).cell? ⟨s, 1, none⟩ = some v1 := fun o => (World.cell?_alloc_lt w o _ hlt).trans c1
  have q1 : ∀ o, (w.alloc o).frozen? ⟨s, 1, none⟩ = false := fun o => (hs.alloc o).frozen 1
  obtain ⟨v2, c2⟩ : ∃ v, w.cell? ⟨s, 2, none⟩ = some v := ⟨_, (hs.cell 2).trans (Array.getElem?_eq_getElem (by omega))⟩
  have f2 := hs.frozen 2
  have k2 : ∀ o, (w.alloc o).cell? ⟨s, 2, none⟩ = some v2 := fun o => (World.cell?_alloc_lt w o _ hlt).trans c2
  have q2 : ∀ o, (w.alloc o).frozen? ⟨s, 2, none⟩ = false := fun o => (hs.alloc o).frozen 2
  obtain ⟨v3, c3⟩ : ∃ v, w.cell? ⟨s, 3, none⟩ = some v := ⟨_, (hs.cell 3).trans (Array.getElem?_eq_getElem (by omega))⟩
  have f3 := hs.frozen 3
  have k3 : ∀ o, (w.alloc o).cell? ⟨s, 3, none⟩ = some v3 := fun o => (World.cell?_alloc_lt w o _ hlt).trans c3
  have q3 : ∀ o, (w.alloc o).frozen? ⟨s, 3, none⟩ = false := fun o => (hs.alloc o).frozen 3
  obtain ⟨v4, c4⟩ : ∃ v, w.cell? ⟨s, 4, none⟩ = some v := ⟨_, (hs.cell 4).trans (Array.getElem?_eq_getElem (by omega))⟩
  have f4 := hs.frozen 4
  have k4 : ∀ o, (w.alloc o).cell? ⟨s, 4, none⟩ = some v4 := fun o => (World.cell?_alloc_lt w o _ hlt).trans c4
  have q4 : ∀ o, (w.alloc o).frozen? ⟨s, 4, none⟩ = false := fun o => (hs.alloc o).frozen 4
  obtain ⟨v5, c5⟩ : ∃ v, w.cell? ⟨s, 5, none⟩ = some v := ⟨_, (hs.cell 5).trans (Array.getElem?_eq_getElem (by omega))⟩
  have f5 := hs.frozen 5
  have k5 : ∀ o, (w.alloc o).cell? ⟨s, 5, none⟩ = some v5 := fun o => (World.cell?_alloc_lt w o _ hlt).trans c5
  have q5 : ∀ o, (w.alloc o).frozen? ⟨s, 5, none⟩ = false := fun o => (hs.alloc o).frozen 5
  obtain ⟨v6, c6⟩ : ∃ v, w.cell? ⟨s, 6, none⟩ = some v := ⟨_, (hs.cell 6).trans (Array.getElem?_eq_getElem (by omega))⟩
  have f6 := hs.frozen 6
  have k6 : ∀ o, (w.alloc o).cell? ⟨s, 6, none⟩ = some v6 := fun o => (World.cell?_alloc_lt w o _ hlt).trans c6
  have q6 : ∀ o, (w.alloc o).frozen? ⟨s, 6, none⟩ = false := fun o => (hs.alloc o).frozen 6
  obtain ⟨v7, c7⟩ : ∃ v, w.cell? ⟨s, 7, none⟩ = some v := ⟨_, (hs.cell 7).trans (Array.getElem?_eq_getElem (by omega))⟩
  have f7 := hs.frozen 7
  have k7 : ∀ o, (w.alloc o).cell? ⟨s, 7, none⟩ = some v7 := fun o => (World.cell?_alloc_lt w o _ hlt).trans c7
  have q7 : ∀ o, (w.alloc o).frozen? ⟨s, 7, none⟩ = false := fun o => (hs.alloc o).frozen 7
  have HS := hide hs
  clear hs
  go_enter Tryz.func187, Tryz.ntmps187
  go_wp2
  go_end0
  refine ⟨rfl, _, ((((((((HS.out.put 0 _).put 1 _).put 2 _).put 3 _).put 4 _).put 5 _).put 6 _).put 7 _).alloc _, by simp [hS], fun j hj => ?_, Keeps.alloc (Keeps.setCell (K := fun i => i = s) (p := ⟨s, 7, none⟩) (Keeps.setCell (K := fun i => i = s) (p := ⟨s, 6, none⟩) (Keeps.setCell (K := fun i => i = s) (p := ⟨s, 5, none⟩) (Keeps.setCell (K := fun i => i = s) (p := ⟨s, 4, none⟩) (Keeps.setCell (K := fun i => i = s) (p := ⟨s, 3, none⟩) (Keeps.setCell (K := fun i => i = s) (p := ⟨s, 2, none⟩) (Keeps.setCell (K := fun i => i = s) (p := ⟨s, 1, none⟩) (Keeps.setCell (K := fun i => i = s) (p := ⟨s, 0, none⟩) (Keeps.refl (fun i => i = s) w) (fun _ => rfl) _) (fun _ => rfl) _) (fun _ => rfl) _) (fun _ => rfl) _) (fun _ => rfl) _) (fun _ => rfl) _) (fun _ => rfl) _) (fun _ => rfl) _) _⟩
  rw [getD_low _ _ _ hj]
  rcases (show j = 0 ∨ j = 1 ∨ j = 2 ∨ j = 3 ∨ j = 4 ∨ j = 5 ∨ j = 6 ∨ j = 7 by omega) with rfl | rfl | rfl | rfl | rfl | rfl | rfl | rfl
  all_goals
    simp [hS]
    try omega
end Go.Proofs.YtgiojjlmohhmkaaGreatDoor
