/-
  Words on memory for the walks: a block known whole ('Row'), what stays outside a few blocks ('Keeps'), a slice of bytes that reads as a list ('Txt'). No program in sight.
-/
import Derived.WalkKit
import Derived.WalkSpells
import Derived.WalkLawsBesides
import Derived.Laws.CopyOwn
import Derived.Deep.RegionLaw
namespace Go.Proofs.YtgiojjlmohhmkaaGreatDoor
open Go Go.RowKit

/-- Block g is just the cells cs, of element type t, none of them frozen. -/
def Row (w : World) (g : Nat) (t : TypeId) (cs : Array Value) : Prop := w.heap[g]? = some (.cells cs t (0, 0))

/-- Of what lay in w nothing has turned but in the blocks that K names. -/
structure Keeps (K : Nat → Prop) (w w' : World) : Prop where
  os : w'.os = w.os
  tape : w'.tape = w.tape
  output : w'.output = w.output
  size : w.heap.size ≤ w'.heap.size
  block : ∀ k, k < w.heap.size → ¬ K k → w'.heap[k]? = w.heap[k]?

section
variable {K K' : Nat → Prop} {w w' w'' : World} {g : Nat} {t : TypeId} {cs : Array Value}

theorem Keeps.refl (K : Nat → Prop) (w : World) : Keeps K w w := ⟨rfl, rfl, rfl, Nat.le_refl _, fun _ _ _ => rfl⟩

theorem Keeps.trans (h : Keeps K w w') (k : Keeps K w' w'') : Keeps K w w'' :=
  ⟨k.os.trans h.os, k.tape.trans h.tape, k.output.trans h.output, Nat.le_trans h.size k.size,
    fun i hi hn => (k.block i (Nat.lt_of_lt_of_le hi h.size) hn).trans (h.block i hi hn)⟩

/-- What the second step may turn beyond K are blocks that the first has made. -/
theorem Keeps.trans_new (h : Keeps K w w') (k : Keeps K' w' w'') (hK : ∀ i, i < w.heap.size → K' i → K i) : Keeps K w w'' :=
  ⟨k.os.trans h.os, k.tape.trans h.tape, k.output.trans h.output, Nat.le_trans h.size k.size,
    fun i hi hn => (k.block i (Nat.lt_of_lt_of_le hi h.size) (fun e => hn (hK i hi e))).trans (h.block i hi hn)⟩

theorem Keeps.mono (h : Keeps K w w') (hK : ∀ i, K i → K' i) : Keeps K' w w' :=
  ⟨h.os, h.tape, h.output, h.size, fun i hi hn => h.block i hi (fun e => hn (hK i e))⟩

theorem Keeps.drew (h : Keeps K w w') : Keeps K w w'.drew := ⟨h.os, h.tape, h.output, h.size, h.block⟩

theorem Keeps.alloc (h : Keeps K w w') (o : Obj) : Keeps K w (w'.alloc o) :=
  h.trans ⟨rfl, rfl, rfl, by simp, fun k hk _ => Below.heap_alloc _ _ _ hk⟩

theorem Keeps.setCell (h : Keeps K w w') {p : Addr} (hp : p.block < w.heap.size → K p.block) (u : Value) : Keeps K w (w'.setCell p u) :=
  ⟨h.os, h.tape, h.output, by simpa [World.setCell] using h.size, fun k hk hn =>
    (Below.heap_setCell _ _ _ _ (fun e => hn (by subst e; exact hp hk))).trans (h.block k hk hn)⟩

theorem Keeps.of_grown {row : Option Nat} (h : w.grownBy w' row) : Keeps (fun k => some k = row) w w' :=
  ⟨h.os, h.tape, h.output, h.size, fun k hk hn => h.block k hk hn⟩

theorem Keeps.of_below (h : Below w.heap.size w w') (K : Nat → Prop) : Keeps K w w' :=
  ⟨h.os, h.tape, h.output, h.size, fun k hk _ => h.block k hk⟩

/-- Where K names none of the blocks below B. -/
theorem Keeps.below {B : Nat} (h : Keeps K w w') (hK : ∀ k, k < B → ¬ K k) (hB : B ≤ w.heap.size) : Below B w w' :=
  ⟨h.os, h.tape, h.output, h.size, fun k hk => h.block k (by omega) (hK k hk)⟩

theorem Row.lt (h : Row w g t cs) : g < w.heap.size := (Array.getElem?_eq_some_iff.1 h).1
theorem Row.keeps (h : Row w g t cs) (hk : Keeps K w w') (hg : ¬ K g) : Row w' g t cs := (hk.block g h.lt hg).trans h
theorem Row.below {B : Nat} {w0 : World} (h : Row w g t cs) (hb : Below B w w0) (hg : g < B) : Row w0 g t cs := (hb.block g hg).trans h
theorem Row.cell (h : Row w g t cs) (i : Nat) : w.cell? ⟨g, i, none⟩ = cs[i]? := cell_of_row w g i cs t (0, 0) h
theorem Row.frozen (h : Row w g t cs) (i : Nat) : w.frozen? ⟨g, i, none⟩ = false := by
  unfold Row at h
  simp [World.frozen?, h]
theorem Row.made (w : World) (t : TypeId) (cs : Array Value) : Row (w.alloc (.cells cs t)) w.heap.size t cs := heap_alloc_new w _
theorem Row.drew (h : Row w g t cs) : Row w.drew g t cs := h
theorem Row.drewN (h : Row w g t cs) (n : Nat) : Row (w.drewN n) g t cs := h
theorem Row.alloc (h : Row w g t cs) (o : Obj) : Row (w.alloc o) g t cs := (Below.heap_alloc w o g h.lt).trans h
theorem Row.put (h : Row w g t cs) (i : Nat) (u : Value) : Row (w.setCell ⟨g, i, none⟩ u) g t (cs.setIfInBounds i u) := by
  unfold Row at h ⊢
  simp [World.setCell, Array.getElem?_modify, h]
theorem Row.far (h : Row w g t cs) {p : Addr} (hp : g ≠ p.block) (u : Value) : Row (w.setCell p u) g t cs := (Below.heap_setCell w p u g hp).trans h
theorem Row.ne {g' : Nat} {t' : TypeId} {cs' : Array Value} (h : Row w g t cs) (h' : Row w g' t' cs') (hne : t ≠ t') : g ≠ g' := by
  rintro rfl
  unfold Row at h h'
  rw [h] at h'
  injection h' with h'
  injection h' with _ ht
  exact hne ht

/-- The value v is a slice (nil let in) of bytes that read as l. -/
def Txt (w : World) (v : Value) (l : List Int) : Prop :=
  (v = .slice none 0 0 ∧ l = []) ∨ ∃ g cap cur, v = .slice (some ⟨g, 0, none⟩) l.length cap ∧ Row w g 5 cur ∧ l.length ≤ cap ∧ cap ≤ maxLen ∧ cur.size = cap ∧ cur.toList.take l.length = l.map (.int .u8)

theorem Txt.of_own {base : Nat} {v : Value} {l : List Int} (h : w.ownsRow base 5 1 v l.length (l.map (.int .u8))) : Txt w v l := by
  rcases h.2 with ⟨hv, hn⟩ | ⟨g, cap, cur, hv, _, hg, hn, hc, hs, ht⟩
  · exact .inl ⟨hv, List.eq_nil_of_length_eq_zero hn⟩
  · exact .inr ⟨g, cap, cur, hv, hg, hn, hc, by simpa using hs, by simpa using ht⟩

/-- The block of a slice that is not nil. -/
def Txt.off (K : Nat → Prop) (v : Value) : Prop := ∀ g, v.ownBlock = some g → ¬ K g

theorem Txt.keeps {v : Value} {l : List Int} (h : Txt w v l) (hk : Keeps K w w') (hg : Txt.off K v) : Txt w' v l := by
  rcases h with h | ⟨g, cap, cur, rfl, hr, rest⟩
  · exact .inl h
  · exact .inr ⟨g, cap, cur, rfl, hr.keeps hk (hg g rfl), rest⟩

theorem Txt.lt {v : Value} {l : List Int} (h : Txt w v l) : ∀ g, v.ownBlock = some g → g < w.heap.size := by
  intro g hg
  rcases h with ⟨rfl, _⟩ | ⟨g', cap, cur, rfl, hr, _⟩
  · simp [Value.ownBlock] at hg
  · simp [Value.ownBlock] at hg
    subst hg
    exact hr.lt

theorem Txt.cell {g n c : Nat} {l : List Int} (h : Txt w (.slice (some ⟨g, 0, none⟩) n c) l) {j : Nat} (hj : j < l.length) : w.cell? ⟨g, j, none⟩ = some (.int .u8 (l.getD j 0)) := by
  rcases h with ⟨h, _⟩ | ⟨g', cap, cur, hv, hr, _, _, _, ht⟩
  · cases h
  · injection hv with h1 h2 h3
    injection h1 with h1
    injection h1 with h1
    subst h1
    rw [hr.cell]
    have e : (cur.toList.take l.length)[j]? = (l.map (Value.int .u8))[j]? := by rw [ht]
    rw [List.getElem?_take, if_pos hj] at e
    rw [Array.getElem?_toList] at e
    rw [e]
    simp [List.getD, hj]
end

/-- A block that the call has laid, as a slice of all its elements, is owned. -/
theorem Row.own {w : World} {base g : Nat} {e : TypeId} {size n : Nat} {cs : Array Value} (h : Row w g e cs) (hb : base ≤ g) (hs : cs.size = n * size) (hn : n ≤ maxLen) : w.ownsRow base e size (.slice (some ⟨g, 0, none⟩) n n) n cs.toList :=
  ⟨by simpa using hs, .inr ⟨g, n, cs, rfl, hb, h, Nat.le_refl _, hn, hs, List.take_of_length_le (by simp [hs])⟩⟩

theorem Row.setRow {w : World} {g : Nat} {t : TypeId} {cs : Array Value} (h : Row w g t cs) (ds : Array Value) : Row (w.setRow g ds) g t ds := setRow_heap w g cs ds t (0, 0) h
theorem setRow_other (w : World) (g : Nat) (ds : Array Value) (k : Nat) (hk : k ≠ g) : (w.setRow g ds).heap[k]? = w.heap[k]? := by
  simp only [World.setRow, Array.getElem?_modify]
  rw [if_neg (by omega)]
theorem Row.setRow_far {w : World} {g g' : Nat} {t : TypeId} {cs : Array Value} (h : Row w g t cs) (ds : Array Value) (hg : g ≠ g') : Row (w.setRow g' ds) g t cs := (setRow_other w g' ds g hg).trans h
theorem Keeps.setRow {K : Nat → Prop} {w w' : World} (h : Keeps K w w') {g : Nat} (hg : g < w.heap.size → K g) (ds : Array Value) : Keeps K w (w'.setRow g ds) :=
  ⟨h.os, h.tape, h.output, by simpa [World.setRow] using h.size, fun k hk hn => (setRow_other _ _ _ _ (fun e => hn (by subst e; exact hg hk))).trans (h.block k hk hn)⟩
theorem below_setRow' {B : Nat} {w w' : World} (h : Below B w w') {g : Nat} (hg : B ≤ g) (ds : Array Value) : Below B w (w'.setRow g ds) :=
  h.trans ⟨rfl, rfl, rfl, by simp [World.setRow], fun k hk => setRow_other _ _ _ _ (by omega)⟩
/-- A row that is owned stays so behind a write to another block. -/
theorem own_setRow {w : World} {base : Nat} {e : TypeId} {size : Nat} {v : Value} {n : Nat} {xs : List Value} (h : w.ownsRow base e size v n xs) {g : Nat} (hg : v.ownBlock ≠ some g) (ds : Array Value) : (w.setRow g ds).ownsRow base e size v n xs :=
  h.kept (row := some g) ⟨rfl, rfl, rfl, by simp [World.setRow], fun k _ hk => setRow_other _ _ _ _ (fun e => hk (by rw [e]))⟩ (Or.inr hg)
theorem own_ne {w : World} {base : Nat} {e t : TypeId} {size : Nat} {v : Value} {n g : Nat} {xs : List Value} {cs : Array Value} (h : w.ownsRow base e size v n xs) (hr : Row w g t cs) (hne : e ≠ t) : v.ownBlock ≠ some g := by
  rcases h.2 with ⟨rfl, _⟩ | ⟨g', cap, cur, rfl, _, hh, _⟩
  · simp [Value.ownBlock]
  · intro he
    have : g' = g := by simpa [Value.ownBlock] using he
    subst this
    exact Row.ne (t := e) hh hr hne rfl
/-- A result that lies in a block, and one in a slot. -/
theorem results_row_tmp {P : Program} {fn : Func} {p u : Tmp} {ty : TypeId} (h : fn.results = #[.cell p ty, .tmp u]) (tmps : Array Value) (w : World) (g : Nat) (t : TypeId) (cs : Array Value) (d : TypeDesc)
    (hp : tmps.getD p undef = .pointer (some ⟨g, 0, none⟩)) (hg : Row w g t cs)
    (hu : P.underlying ty = some d) (hd : (match d with | .struct _ | .array _ _ => true | _ => false) = true) (hi : (P.info? ty).map (·.size) = some cs.size) :
    (results fn tmps).run P w = .ok (.tuple #[.agg cs, tmps.getD u undef]) w := by
  rw [results_cell_tmp h, hp]
  simp [asAddr, run_loadVar_row w g t ty cs (0, 0) d hg hu hd hi]

/-- A slice of the call's own that is not nil. -/
theorem own_form {w : World} {base : Nat} {e : TypeId} {size : Nat} {v : Value} {n : Nat} {xs : List Value} (h : w.ownsRow base e size v n xs) (hne : ¬ v = .slice none 0 0) : ∃ g cap, v = .slice (some ⟨g, 0, none⟩) n cap ∧ base ≤ g ∧ g < w.heap.size ∧ cap ≤ maxLen := by
  rcases h.2 with ⟨hv, _⟩ | ⟨g, cap, cur, hv, hb, hg, _, hc, _⟩
  · exact absurd hv hne
  · exact ⟨g, cap, hv, hb, (Array.getElem?_eq_some_iff.1 hg).1, hc⟩

/-- A fact kept from the walk's eyes. -/
theorem hide {p : Prop} (h : p) : Hid p := h
/-- A row that is laid anew as it was. -/
theorem setRow_id {w : World} {g : Nat} {t : TypeId} {cs : Array Value} (h : Row w g t cs) : w.setRow g cs = w := by
  have e : (w.setRow g cs).heap = w.heap := by
    refine Array.ext (by simp [World.setRow]) fun i h1 h2 => ?_
    have h3 : (w.setRow g cs).heap[i]? = w.heap[i]? := by
      by_cases hi : i = g
      · subst hi
        exact (setRow_heap w i cs cs t (0, 0) h).trans (show w.heap[i]? = _ from h).symm
      · exact setRow_other w g cs i hi
    rw [Array.getElem?_eq_getElem h1, Array.getElem?_eq_getElem h2] at h3
    exact Option.some.inj h3
  show ({ w with heap := (w.setRow g cs).heap } : World) = w
  rw [e]

/-- 'copy' into a block of the call's own, in a region that draws its order: the world behind it outright. -/
theorem step_copy_row {P : Program} {ops : Array Oper} {o : Oper} {a : Act} {w : World} {K : Act → World → Prop} {Q : Exit → Act → World → Prop} {E : Prop} (hgd : o.guard = none) (d s : Operand) (dT sT : TypeId)
    (ho : o.op = .call { callee := .builtin .copy, args := #[d, s], argTypes := #[dT, sT] }) (elem : TypeId) (hu : P.underlying dT = some (.slice elem)) (hsz : (P.info? elem).map (·.size) = some 1)
    (dp sp : Option Addr) (dLen dCap sLen sCap : Nat) (hd : a.eval d = .slice dp dLen dCap) (hs : a.eval s = .slice sp sLen sCap)
    (g off : Nat) (cur : List Value) (t : TypeId) (hg : Row w g t cur.toArray) (cs : List Value) (hn : cs.length = Nat.min sLen dLen) (m : Nat) (hm : cs.length = m)
    (hdp : 0 < cs.length → dp = some ⟨g, off, none⟩) (hsp : 0 < cs.length → ∃ ad, sp = some ad ∧ ∀ j v, cs[j]? = some v → w.cell? (ad.add j) = some v)
    (hfit : off + cs.length ≤ cur.length) (h1 : ∀ v ∈ cs, v.oneCell' = true)
    (h : ∀ w', Hid (w' = w.setRow g (splice cur off cs).toArray) → K (a.put o.dst (goInt m)) w') :
    if Region.wanted o (yielded ops a.tmps) = true then Oper.wp P o a w K Q else E := by
  have hw : Region.wanted o (yielded ops a.tmps) = true := by simp [Region.wanted, hgd]
  rw [if_pos hw]
  subst hm
  by_cases h0 : cs.length = 0
  · obtain rfl : cs = [] := List.eq_nil_of_length_eq_zero h0
    have hrun := run_copy_none (P := P) w dT sT o.type elem dp sp dLen dCap sLen sCap hu hsz (by simpa using hn.symm)
    unfold Oper.wp
    simp [execOp, ho, resolve, invoke, builtin, hd, hs, hrun, Result.andThen]
    have e : (splice cur off []).toArray = cur.toArray := by simp [splice]
    rw [e, setRow_id hg] at h
    exact h w (hide rfl)
  · obtain rfl := hdp (by omega)
    obtain ⟨ad, rfl, hsrc⟩ := hsp (by omega)
    have hrun := run_copy_row (P := P) w dT sT o.type elem g off dLen dCap ad sLen sCap cur.toArray t cs hu hsz hg hn hsrc (by simpa using hfit) h1
    unfold Oper.wp
    simp [execOp, ho, resolve, invoke, builtin, hd, hs, hrun, Result.andThen]
    exact h _ (hide (by simp [splice]))

theorem at_add (g j : Nat) : (⟨g, 0, none⟩ : Addr).add j = ⟨g, j, none⟩ := by unfold Addr.add; split <;> simp_all

/-- The cells of the block that was laid last. -/
theorem cells_new (w : World) (g : Nat) (hg : g = w.heap.size) (cs : Array Value) (t : TypeId) (xs : List Value) (hx : cs.toList = xs) : ∀ j u, xs[j]? = some u → (w.alloc (.cells cs t)).cell? ((⟨g, 0, none⟩ : Addr).add j) = some u := by
  intro j u hu
  subst hg hx
  rw [at_add, (Row.made w t cs).cell]
  simpa using hu

theorem Row.cells {w : World} {g : Nat} {t : TypeId} {cs : Array Value} (h : Row w g t cs) : ∀ j u, cs.toList[j]? = some u → w.cell? ((⟨g, 0, none⟩ : Addr).add j) = some u := by
  intro j u hu
  rw [at_add, h.cell]
  simpa using hu
end Go.Proofs.YtgiojjlmohhmkaaGreatDoor
