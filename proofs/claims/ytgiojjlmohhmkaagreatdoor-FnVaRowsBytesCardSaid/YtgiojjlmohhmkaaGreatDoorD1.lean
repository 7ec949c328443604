/-
  A value of a type code, the bytes by which a result tells it, and what decodeResult makes of these.
-/
import Derived.Test.YtgiojjlmohhmkaaGreatDoorC6
namespace Go.Proofs.YtgiojjlmohhmkaaGreatDoor
open Go Go.RowKit

/-- A value: an integer (kind 2), a float (kind 3), or bytes (kind 4). -/
structure Sv where
  kind : Nat
  int : Int
  fl : Nat
  txt : List Int

def svOf (c : Nat) (n : Int) : Sv :=
  if c = 1 then ⟨2, n % 256, 0, []⟩ else if c = 2 then ⟨2, IntKind.i16.wrap n, 0, []⟩ else if c = 3 then ⟨2, wrap32 n, 0, []⟩ else if c = 4 then ⟨2, n, 0, []⟩
  else if c = 7 then ⟨3, 0, flOf n, []⟩ else ⟨4, 0, 0, txtOf n⟩

def told (c : Nat) (n : Int) : List Int :=
  if c = 1 then 1 :: low (n % 256) 1 else if c = 2 then 1 :: low (IntKind.u64.wrap (IntKind.i16.wrap n)) 2 else if c = 3 then 1 :: low (IntKind.u64.wrap (wrap32 n)) 4 else if c = 4 then 1 :: low (IntKind.u64.wrap n) 8
  else if c = 7 then low (flOf n) 8 else ((txtOf n).length : Int) :: txtOf n

def CodeOk (c : Nat) : Prop := c = 1 ∨ c = 2 ∨ c = 3 ∨ c = 4 ∨ c = 7 ∨ c = 29
theorem codeOf_ok (x : Int) : CodeOk (codeOf x) := by
  unfold codeOf CodeOk
  split
  · simp
  · split
    · simp
    · split
      · simp
      · split
        · simp
        · split <;> simp

/-- The cells of a value whose bytes are the slice b. -/
def Sv.cells (x : Sv) (b : Value) : Array Value := valCells x.kind x.int x.fl b

theorem value_any (c : Nat) (hc : CodeOk c) (n : Int) (w : World) :
    Calls Tryz.prog 6 #[.int .i64 c, .int .i64 n] w fun e w' => ∃ v b, e = .returned (.tuple #[.agg ((svOf c n).cells b), v]) ∧ w'.ownsRow w.heap.size 5 1 v (told c n).length ((told c n).map (Value.int .u8)) ∧
      w'.ownsRow w.heap.size 5 1 b (svOf c n).txt.length ((svOf c n).txt.map (Value.int .u8)) ∧ Below w.heap.size w w' := by
  rcases hc with rfl | rfl | rfl | rfl | rfl | rfl
  · exact (value_1 n w).mono fun e w' ⟨v, he, ho, hb⟩ => ⟨v, _, he, ho, World.ownsRow_nil _ _ _ _, hb⟩
  · exact (value_2 n w).mono fun e w' ⟨v, he, ho, hb⟩ => ⟨v, _, he, ho, World.ownsRow_nil _ _ _ _, hb⟩
  · exact (value_3 n w).mono fun e w' ⟨v, he, ho, hb⟩ => ⟨v, _, he, ho, World.ownsRow_nil _ _ _ _, hb⟩
  · exact (value_4 n w).mono fun e w' ⟨v, he, ho, hb⟩ => ⟨v, _, he, ho, World.ownsRow_nil _ _ _ _, hb⟩
  · exact (value_7 n w).mono fun e w' ⟨v, he, ho, hb⟩ => ⟨v, _, he, ho, World.ownsRow_nil _ _ _ _, hb⟩
  · exact (value_29 n w).mono fun e w' ⟨v, b, he, ho, hb, hw⟩ => ⟨v, b, he, by simpa [told] using ho, hb, hw⟩

/-- What the lowest k bytes of u are worth. -/
theorem le_low (u : Int) (hu : 0 ≤ u) (x : Nat → Int) : ∀ k, (∀ j, j < k → x j = u / 2 ^ (8 * j) % 256) → le x k = u % 256 ^ k := by
  intro k
  obtain ⟨m, rfl⟩ := Int.eq_ofNat_of_zero_le hu
  induction k with
  | zero => intro _; simp [le]
  | succ k ih =>
    intro h
    rw [le, ih (fun j hj => h j (by omega)), h k (by omega)]
    have e : (2 : Int) ^ (8 * k) = 256 ^ k := by rw [Int.pow_mul]; rfl
    rw [e]
    have hn := Nat.mod_mul (a := 256 ^ k) (b := 256) (x := m)
    rw [← Nat.pow_succ] at hn
    have h2 : ((m % 256 ^ (k + 1) : Nat) : Int) = ((m % 256 ^ k + 256 ^ k * (m / 256 ^ k % 256) : Nat) : Int) := by rw [hn]
    simp only [Int.natCast_add, Int.natCast_mul, Int.natCast_emod, Int.natCast_ediv, Int.natCast_pow] at h2
    rw [Int.mul_comm]
    exact h2.symm

theorem getD_low (u : Int) (s j : Nat) (hj : j < s) : (low u s).getD j 0 = u / 2 ^ (8 * j) % 256 := by
  simp [low, List.getD, hj]

theorem low_byte (u : Int) (s j : Nat) : 0 ≤ (low u s).getD j 0 ∧ (low u s).getD j 0 ≤ 255 := by
  by_cases hj : j < s
  · rw [getD_low u s j hj]; omega
  · simp [low, List.getD, hj]

/-- The bytes of bs from p on are those of l. -/
def At (bs : List Int) (p : Nat) (l : List Int) : Prop := p + l.length ≤ bs.length ∧ ∀ j, j < l.length → bt bs (p + j) = l.getD j 0

theorem At.le {bs : List Int} {p s : Nat} {u : Int} (h : At bs p (low u s)) (hu : 0 ≤ u) : le (fun j => bt bs (p + j)) s = u % 256 ^ s := by
  refine le_low u hu _ s fun j hj => ?_
  rw [h.2 j (by rw [low_length]; exact hj), getD_low u s j hj]
theorem At.tail {bs : List Int} {p : Nat} {x : Int} {l : List Int} (h : At bs p (x :: l)) : At bs (p + 1) l := by
  refine ⟨by have := h.1; simp at this; omega, fun j hj => ?_⟩
  have := h.2 (j + 1) (by simp; omega)
  rw [show p + 1 + j = p + (j + 1) by omega, this]
  simp [List.getD]
theorem At.head {bs : List Int} {p : Nat} {x : Int} {l : List Int} (h : At bs p (x :: l)) : bt bs p = x := by
  have := h.2 0 (by simp)
  simpa [List.getD] using this
theorem At.take {bs : List Int} {p : Nat} {l : List Int} (h : At bs p l) : (bs.drop p).take l.length = l := by
  refine List.ext_getElem (by simp; have := h.1; omega) fun j h1 h2 => ?_
  have h3 := h.2 j h2
  have h4 : p + j < bs.length := by have := h.1; omega
  simpa [bt, List.getD, h4, h2] using h3

/-- What a value is as Go's any. -/
def IsAny (w : World) (base : Nat) (v : Value) (x : Sv) : Prop :=
  (x.kind = 2 ∧ v = .iface 2 (.int .i64 x.int) ∧ x.fl = 0 ∧ x.txt = []) ∨ (x.kind = 3 ∧ v = .iface 30 (.float .f64 x.fl) ∧ x.int = 0 ∧ x.txt = []) ∨
    (x.kind = 4 ∧ x.int = 0 ∧ x.fl = 0 ∧ ∃ g, v = .iface 22 (.slice (some ⟨g, 0, none⟩) x.txt.length x.txt.length) ∧ base ≤ g ∧ Row w g 5 (x.txt.map (Value.int .u8)).toArray)

theorem flOf_ne (n : Int) : ((flOf n : Int) == 18446744073709551615) = false := by
  have h : flOf n ≤ Ieee.Format.signWeight Ieee.double + Ieee.Format.infRung Ieee.double := by
    unfold flOf floatOfInt FloatKind.nearest FloatKind.encode Ieee.Format.write Ieee.Format.nearest
    simp only [FloatKind.format]
    split
    · unfold Ieee.Format.word
      split <;> decide
    · unfold Ieee.Format.word
      split <;> omega
  have e : Ieee.Format.signWeight Ieee.double + Ieee.Format.infRung Ieee.double < 18446744073709551615 := by decide
  simp
  omega
theorem wraps_16 (n : Int) : IntKind.i16.wrap (IntKind.u64.wrap (IntKind.i16.wrap n) % 65536) = IntKind.i16.wrap n := by
  rw [IntKind.wrap_u64]
  simp only [IntKind.wrap, IntKind.bits, IntKind.signed]
  simp
  omega
theorem wraps_32 (n : Int) : IntKind.i32.wrap (IntKind.u64.wrap (wrap32 n) % 4294967296) = wrap32 n := by
  rw [IntKind.wrap_u64, IntKind.wrap_i32]
  unfold wrap32
  omega
theorem wraps_64 (n : Int) (h0 : -9223372036854775808 ≤ n) (h1 : n ≤ 9223372036854775807) : IntKind.i64.wrap (IntKind.u64.wrap n % 18446744073709551616) = n := by
  rw [IntKind.wrap_u64, IntKind.wrap_i64]
  omega
theorem wrap16_bd (n : Int) : -32768 ≤ IntKind.i16.wrap n ∧ IntKind.i16.wrap n ≤ 32767 := by
  simp only [IntKind.wrap, IntKind.bits, IntKind.signed]
  simp
  omega
theorem wrap32_bd (n : Int) : -2147483648 ≤ wrap32 n ∧ wrap32 n ≤ 2147483647 := by unfold wrap32; omega

theorem result_any (c : Nat) (hc : CodeOk c) (n : Int) (h0 : -9223372036854775808 ≤ n) (h1 : n ≤ 9223372036854775807) {w : World} {d s r : Nat} {bs : List Int} {p : Nat} (h : Dec w d s r bs p) (hb : ∀ j, 0 ≤ bt bs j ∧ bt bs j ≤ 255) (hat : At bs p (told c n)) :
    Calls Tryz.prog 103 #[.int .u8 c, .pointer (some ⟨d, 0, none⟩), .nilIface, .int .i64 0, .int .i64 0] w fun e w' => ∃ v, e = .returned (.tuple #[v, .nilIface]) ∧ IsAny w' w.heap.size v (svOf c n) ∧
      Dec w' d s r bs (p + (told c n).length) ∧ Keeps (fun i => i = d ∨ i = s) w w' := by
  rcases hc with rfl | rfl | rfl | rfl | rfl | rfl
  · have ht : At bs p (1 :: low (n % 256) 1) := hat
    have hv := ht.tail.2 0 (by simp [low_length])
    rw [getD_low _ _ _ (by omega)] at hv
    refine (result_1 (n % 256) h (by have := ht.1; simp [low_length] at this; omega) hb ht.head (by simpa using hv) (by omega) (by omega)).mono ?_
    rintro e w' ⟨he, hd, hk⟩
    exact ⟨_, he, Or.inl ⟨rfl, rfl, rfl, rfl⟩, hd, hk⟩
  · have ht : At bs p (1 :: low (IntKind.u64.wrap (IntKind.i16.wrap n)) 2) := hat
    have hv := ht.tail.le (u64_lo _)
    refine (result_2 (IntKind.i16.wrap n) h (by have := ht.1; simp [low_length] at this; omega) hb ht.head (by rw [hv]; exact wraps_16 n) (wrap16_bd n).1 (wrap16_bd n).2).mono ?_
    rintro e w' ⟨he, hd, hk⟩
    exact ⟨_, he, Or.inl ⟨rfl, rfl, rfl, rfl⟩, hd, hk⟩
  · have ht : At bs p (1 :: low (IntKind.u64.wrap (wrap32 n)) 4) := hat
    have hv := ht.tail.le (u64_lo _)
    refine (result_3 (wrap32 n) h (by have := ht.1; simp [low_length] at this; omega) hb ht.head (by rw [hv]; exact wraps_32 n) (wrap32_bd n).1 (wrap32_bd n).2).mono ?_
    rintro e w' ⟨he, hd, hk⟩
    exact ⟨_, he, Or.inl ⟨rfl, rfl, rfl, rfl⟩, hd, hk⟩
  · have ht : At bs p (1 :: low (IntKind.u64.wrap n) 8) := hat
    have hv := ht.tail.le (u64_lo _)
    refine (result_4 n h (by have := ht.1; simp [low_length] at this; omega) hb ht.head (by rw [hv]; exact wraps_64 n h0 h1)).mono ?_
    rintro e w' ⟨he, hd, hk⟩
    exact ⟨_, he, Or.inl ⟨rfl, rfl, rfl, rfl⟩, hd, hk⟩
  · have ht : At bs p (low (flOf n) 8) := hat
    have hv := ht.le (by omega)
    have hlt := flOf_lt n
    have e7 : (flOf n : Int) % 256 ^ 8 = flOf n := by
      have : (256 : Int) ^ 8 = 18446744073709551616 := by decide
      rw [this]; omega
    refine (result_7 (flOf n) h (by have := ht.1; simp [low_length] at this; omega) hb (by rw [hv]; exact e7) (flOf_ne n)).mono ?_
    rintro e w' ⟨he, hd, hk⟩
    exact ⟨_, he, Or.inr (Or.inl ⟨rfl, by simp [svOf], rfl, rfl⟩), by simpa [told, low_length] using hd, hk⟩
  · have ht : At bs p (((txtOf n).length : Int) :: txtOf n) := hat
    have e29 : (told 29 n).length = 1 + (txtOf n).length := by simp [told]; omega
    refine (result_29 (txtOf n).length h (by have := ht.1; simp at this; omega) ht.head (txtOf_length n)).mono ?_
    rintro e w' ⟨g, he, hg, hr, hd, hk⟩
    rw [ht.tail.take] at hr
    refine ⟨_, he, Or.inr (Or.inr ⟨rfl, rfl, rfl, g, rfl, hg, hr⟩), ?_, hk⟩
    rw [e29, ← Nat.add_assoc]
    exact hd
end Go.Proofs.YtgiojjlmohhmkaaGreatDoor
