/-
  The walk of the decoder's readFull.
-/
import Derived.Test.YtgiojjlmohhmkaaGreatDoorProg
import Derived.Test.YtgiojjlmohhmkaaGreatDoorA
namespace Go.Proofs.YtgiojjlmohhmkaaGreatDoor
open Go Go.RowKit

theorem size5 : (Tryz.prog.info? 5).map (·.size) = some 1 := by kernel_rfl

/-- The cells of a decoder: what it reads from, where it stands, its scratch, its transformer, how many bytes it has read. -/
def decCells (rd : Value) (at_ : Nat) (sc tr : Value) (cnt : Nat) : Array Value :=
  #[rd, .int .i64 at_, .nilIface, sc, tr, .int .i64 cnt, .bool false, .bool false]

set_option maxRecDepth 100000 in
set_option maxHeartbeats 400000 in
theorem read_any (w : World) (d g r k gc rl rc at_ cnt : Nat) (sc tr : Value) (C cs : List Value) (hd : Row w d 121 (decCells (.slice (some ⟨r, 0, none⟩) rl rc) at_ sc tr cnt)) (hg : Row w g 5 C.toArray)
    (hk : cs.length = k) (hkC : k ≤ C.length) (hat : at_ + k ≤ rl) (hrl : rl ≤ rc) (hrc : rl ≤ 140737488351232) (hcn : cnt ≤ 140737488351232)
    (hcs : ∀ j v, cs[j]? = some v → w.cell? ⟨r, at_ + j, none⟩ = some v) (hone : ∀ v ∈ cs, v.oneCell' = true) :
    Calls Tryz.prog 211 #[.pointer (some ⟨d, 0, none⟩), .slice (some ⟨g, 0, none⟩) k gc] w fun e w' => e = .returned (.tuple #[.int .i64 k, .nilIface]) ∧
      Row w' d 121 (decCells (.slice (some ⟨r, 0, none⟩) rl rc) (at_ + k) sc tr (cnt + k)) ∧ Row w' g 5 (splice C 0 cs).toArray ∧ Keeps (fun i => i = d ∨ i = g) w w' := by
  have hdg : d ≠ g := hd.ne hg (by decide)
  have c0 := hd.cell 0
  have c1 := hd.cell 1
  have c2 := hd.cell 2
  have c5 := hd.cell 5
  have f1 := hd.frozen 1
  have f5 := hd.frozen 5
  simp [decCells] at c0 c1 c2 c5
  have ha0 : (0 : Int) ≤ at_ := by omega
  have ha1 : (at_ : Int) ≤ rc := by omega
  have ha2 : (at_ : Int) ≤ rl := by omega
  have HN : Hid (cs.length = Nat.min (rl - at_) k) := by
    show cs.length = min (rl - at_) k
    omega
  have HP : Hid (0 < cs.length → ∃ ad, (if rc = at_ then some (⟨r, 0, none⟩ : Addr) else some ⟨r, at_, none⟩) = some ad ∧ ∀ j v, cs[j]? = some v → w.drew.cell? (ad.add j) = some v) := by
    intro h0
    refine ⟨⟨r, at_, none⟩, if_neg (by omega), fun j v hv => ?_⟩
    rw [Addr.add_lit]
    exact hcs j v hv
  have HF : Hid (0 + cs.length ≤ C.length) := (show 0 + cs.length ≤ C.length by omega)
  have HO := hide hone
  have HG := hide hg.drew
  have HK := hide hk
  clear hk hone hcs
  go_enter Tryz.func211, Tryz.ntmps211
  go_wp2_with fail
  go_region_law (refine step_copy_row rfl (.tmp 16) (.tmp 25) 22 22 rfl 5 Tryz.underlying22 size5 (some ⟨g, 0, none⟩) (if rc = at_ then some ⟨r, 0, none⟩ else some ⟨r, at_, none⟩) k gc (rl - at_) (rc - at_) (by simp [Act.eval, Act.put]) (by simp [Act.eval, Act.put]) g 0 C 5 HG.out cs HN.out k HK.out (fun _ => rfl) HP.out HF.out HO.out ?_; intro w1 HW)
  all_goals
    have hd1 : Row w1 d 121 (decCells (.slice (some ⟨r, 0, none⟩) rl rc) at_ sc tr cnt) := by rw [HW.out]; exact hd.drew.setRow_far _ hdg
    have hg1 : Row w1 g 5 (splice C 0 cs).toArray := by rw [HW.out]; exact hg.drew.setRow _
    have hk1 : Keeps (fun i => i = d ∨ i = g) w w1 := by rw [HW.out]; exact ((Keeps.refl _ _).drew).setRow (fun _ => Or.inr rfl) _
    have d1 := hd1.cell 1
    have d2 := hd1.cell 2
    have d5 := hd1.cell 5
    have e1 := hd1.frozen 1
    have e5 := hd1.frozen 5
    simp [decCells] at d1 d2 d5
    clear c0 c1 c2 c5 f1 f5 hd hg HG
    go_wp2
  all_goals
    go_ret2
    refine ⟨rfl, ?_, (hg1.far (fun e => hdg e.symm) _).far (fun e => hdg e.symm) _, (hk1.setCell (fun _ => Or.inl rfl) _).setCell (fun _ => Or.inl rfl) _⟩
    have h := (hd1.put 1 (.int .i64 ((at_ : Int) + k))).put 5 (.int .i64 ((cnt : Int) + k))
    first | (simpa [decCells] using h) | (have er : rc = at_ := by assumption
                                          subst er
                                          simpa [decCells] using h)
end Go.Proofs.YtgiojjlmohhmkaaGreatDoor
