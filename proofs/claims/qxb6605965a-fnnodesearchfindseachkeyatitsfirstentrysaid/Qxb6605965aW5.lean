import Derived.Test.Qxb6605965aW4
import Derived.Deep.RegionWith
namespace Go.Proofs.Qxb6605965a
open Go.RowKit Go.Maps

theorem from_more (i acc : Nat) (b : UInt8) (r : List UInt8) (hi : i ≠ 10) (hb : 128 ≤ b.toNat) : Lib.uvarintFrom i acc (b :: r) = Lib.uvarintFrom (i + 1) (acc + b.toNat % 128 * 2 ^ (7 * i)) r := by
  rw [Lib.uvarintFrom, if_neg hi, if_neg (by omega)]
theorem from_last (i acc : Nat) (b : UInt8) (r : List UInt8) (hi : i < 9) (hb : b.toNat < 128) : Lib.uvarintFrom i acc (b :: r) = (acc + b.toNat * 2 ^ (7 * i), (i : Int) + 1) := by
  rw [Lib.uvarintFrom, if_neg (by omega), if_pos hb, if_neg (by omega)]
theorem dec_enc (v : Nat) (hv : v ≤ 2097151) (r : List UInt8) : Lib.uvarintDec (Lib.uvarint v ++ r) = (v, ((Lib.uvarint v).length : Int)) := by
  unfold Lib.uvarintDec
  by_cases h1 : v < 128
  · rw [Lib.uvarint_small h1, List.cons_append, from_last 0 0 _ _ (by omega) (by rw [Lib.toUInt8_toNat (by omega)]; exact h1), Lib.toUInt8_toNat (by omega)]
    simp
  · rw [Lib.uvarint_big (by omega), List.cons_append, from_more 0 0 _ _ (by omega) (by rw [Lib.toUInt8_toNat (by omega)]; omega), Lib.toUInt8_toNat (by omega)]
    by_cases h2 : v / 128 < 128
    · rw [Lib.uvarint_small h2, List.cons_append, from_last 1 _ _ _ (by omega) (by rw [Lib.toUInt8_toNat (by omega)]; exact h2), Lib.toUInt8_toNat (by omega)]
      simp only [List.length_cons, List.length_nil, Prod.mk.injEq]
      constructor
      · omega
      · rfl
    · rw [Lib.uvarint_big (by omega), List.cons_append, from_more 1 _ _ _ (by omega) (by rw [Lib.toUInt8_toNat (by omega)]; omega), Lib.toUInt8_toNat (by omega)]
      rw [Lib.uvarint_small (show v / 128 / 128 < 128 by omega), List.cons_append, from_last 2 _ _ _ (by omega) (by rw [Lib.toUInt8_toNat (by omega)]; omega), Lib.toUInt8_toNat (by omega)]
      simp only [List.length_cons, List.length_nil, Prod.mk.injEq]
      constructor
      · omega
      · rfl

/-- The row's bytes from o on. -/
def from_ (f : Nat → UInt8) (o m : Nat) : List UInt8 := (List.range m).map fun j => f (o + j)
theorem from_len (f : Nat → UInt8) (o m : Nat) : (from_ f o m).length = m := by simp [from_]
theorem from_has {f : Nat → UInt8} {o m : Nat} {u : List UInt8} (h : Has f o u) (hm : u.length ≤ m) : from_ f o m = u ++ from_ f (o + u.length) (m - u.length) := by
  apply List.ext_getElem?
  intro i
  by_cases h1 : i < u.length
  · rw [List.getElem?_append_left h1]
    have h2 := h i h1
    simp only [from_, List.getElem?_map, List.getElem?_range (show i < m by omega), Option.map_some, h2]
    simp [List.getD, h1]
  · rw [List.getElem?_append_right (Nat.le_of_not_lt h1)]
    by_cases h2 : i < m
    · simp only [from_, List.getElem?_map, List.getElem?_range h2, List.getElem?_range (show i - u.length < m - u.length by omega), Option.map_some]
      congr 2
      omega
    · have e1 : (from_ f o m)[i]? = none := List.getElem?_eq_none (by rw [from_len]; omega)
      have e2 : (from_ f (o + u.length) (m - u.length))[i - u.length]? = none := List.getElem?_eq_none (by rw [from_len]; omega)
      rw [e1, e2]
theorem Row.from {w : World} {g M : Nat} {f : Nat → UInt8} (h : Row w g M f) (o m : Nat) (hm : o + m ≤ M) : ∀ j (hj : j < (from_ f o m).length), w.cell? ⟨g, o + j, none⟩ = some (.int .u8 ((from_ f o m)[j]).toNat) := fun j hj => by
  rw [from_len] at hj
  rw [h.cell (by omega)]
  simp [from_]

abbrev nodeV (g M : Nat) (x : Int) (n : Nat) : Value := .agg #[.slice (some ⟨g, 0, none⟩) M M, .int .u8 x, .int .i64 n]

set_option maxHeartbeats 1000000 in
set_option maxRecDepth 100000 in
theorem length30 (g M n o v : Nat) (x : Int) (f : Nat → UInt8) (w : World) (hr : Row w g M f) (hh : Has f o (Lib.uvarint v)) (ho : o + (Lib.uvarint v).length ≤ M) (hv : v ≤ M) (hM : M ≤ 2097151) :
    Calls Try.prog 30 #[nodeV g M x n, .int .i64 o] w (RetO w (.tuple #[.int .i64 v, .int .i64 (o + (Lib.uvarint v).length : Nat)])) := by
  have hO := (Only.refl nothing w).alloc (.cells #[.slice (some ⟨g, 0, none⟩) M M, .int .u8 x, .int .i64 n] 50)
  have hr1 := hr.only hO (fun h => h)
  have hcU := Try.binary_Uvarint g o (M - o) (M - o) (from_ f o (M - o)) _ (from_len _ _ _) (hr1.from o (M - o) (by omega))
  rw [from_has hh (by omega), dec_enc v (by omega)] at hcU
  have hp := Lib.uvarint_pos v
  have hp10 := Lib.uvarint_length64 (x := v) (by omega)
  generalize (Lib.uvarint v).length = L at *
  have hoi : (o : Int) ≤ M := by omega
  clear hr hr1 hh
  go_enter Try.func30, Try.ntmps30
  go_wp2_with fail
  refine hcU.mono ?_
  rintro e w' ⟨rfl, hw'⟩
  obtain rfl := hw'
  clear hcU
  have hle : decide ((L : Int) ≤ 0) = false := decide_eq_false (by omega)
  have hgt : decide ((M : Int) < v) = false := decide_eq_false (by omega)
  go_wp2_with fail
  go_ret2
  exact ⟨by simp, hO⟩

end Go.Proofs.Qxb6605965a
