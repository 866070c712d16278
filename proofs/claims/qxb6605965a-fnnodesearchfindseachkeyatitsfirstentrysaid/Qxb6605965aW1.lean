import Derived.Test.Qxb6605965aBase
import Derived.Lib.VarintMem
import Derived.Lib.VarintBits
namespace Go.Proofs.Qxb6605965a
open Go.RowKit Go.Maps

def Ret (w : World) (v : Value) (e : Ending) (w' : World) : Prop := e = .returned v ∧ w' = w

/-- The call has laid bytes in the row g, and no more. -/
def LaidPost (w : World) (g M : Nat) (f : Nat → UInt8) (v : Value) (e : Ending) (w' : World) : Prop :=
  e = .returned v ∧ Row w' g M f ∧ Only (fun i => i = g) w w'

set_option maxHeartbeats 400000 in
theorem uvLen23 (v : Nat) (w : World) (hv : v ≤ 4611686018427387904) : Calls Try.prog 23 #[.int .i64 v] w (Ret w (.int .i64 (Lib.uvarint v).length)) := by
  go_enter Try.func23, Try.ntmps23
  go_wp2
  go_loop [0, 3] (fun x s => ∃ y k : Nat, y ≤ v ∧ x = .int .i64 y ∧ s = .int .i64 (k + 1 : Nat) ∧ k + (Lib.uvarint y).length = (Lib.uvarint v).length ∧ k + y ≤ v) (fun x _ => (intOf x).toNat)
  case atStart => exact ⟨v, 0, Nat.le_refl _, rfl, rfl, by omega, by omega⟩
  case round =>
    obtain ⟨y, k, hy, rfl, rfl, hl, hk⟩ := hrel
    by_cases h : y < 128
    · have hd : decide ((128 : Int) ≤ y) = false := decide_eq_false (by omega)
      rw [Lib.uvarint_small h] at hl
      have Hl : Hid (k + 1 = (Lib.uvarint v).length) := hl
      clear hl
      go_wp2
      go_ret
      exact ⟨by rw [← Hl.out]; rfl, rfl⟩
    · have hd : (128 : Int) ≤ y := by omega
      rw [Lib.uvarint_big (by omega)] at hl
      have Hl : Hid (k + 1 + (Lib.uvarint (y / 128)).length = (Lib.uvarint v).length) := by
        show k + 1 + _ = _
        rw [List.length_cons] at hl
        omega
      clear hl
      go_wp2
      go_round
      case rel => exact ⟨y / 128, k + 1, by omega, by simp, by go_num, Hl.out, by omega⟩
      case measure => simp [intOf]; omega

theorem put32_24 (g M c o v : Nat) (f : Nat → UInt8) (w : World) (hr : Row w g M f) (ho : o + 4 ≤ M) (hM : M ≤ 4611686018427387904) (hv : v < 4294967296) :
    Calls Try.prog 24 #[.slice (some ⟨g, 0, none⟩) M c, .int .i64 o, .int .u32 v] w (LaidPost w g M (lay f o (Lib.leBytes 4 v)) (.tuple #[])) := by
  have f0 := hr.frozen o
  have f1 := hr.frozen (o + 1)
  have f2 := hr.frozen (o + 2)
  have f3 := hr.frozen (o + 3)
  have c0 := hr.cell (i := o) (by omega)
  have c1 := hr.cell (i := o + 1) (by omega)
  have c2 := hr.cell (i := o + 2) (by omega)
  have c3 := hr.cell (i := o + 3) (by omega)
  generalize f o = v0 at c0
  generalize f (o + 1) = v1 at c1
  generalize f (o + 2) = v2 at c2
  generalize f (o + 3) = v3 at c3
  go_enter Try.func24, Try.ntmps24
  go_wp2
  go_end0
  have e0 : (v : Int) % 256 = ((v % 256).toUInt8.toNat : Int) := by rw [Lib.toUInt8_mod]; omega
  have e1 : (v : Int) / 256 % 256 = ((v / 256 % 256).toUInt8.toNat : Int) := by rw [Lib.toUInt8_mod]; omega
  have e2 : (v : Int) / 65536 % 256 = ((v / 256 / 256 % 256).toUInt8.toNat : Int) := by rw [Lib.toUInt8_mod]; omega
  have e3 : (v : Int) / 16777216 = ((v / 256 / 256 / 256 % 256).toUInt8.toNat : Int) := by rw [Lib.toUInt8_mod]; omega
  rw [e0, e1, e2, e3]
  have hs := (((hr.set o (v % 256).toUInt8).set (o + 1) (v / 256 % 256).toUInt8).set (o + 2) (v / 256 / 256 % 256).toUInt8).set (o + 3) (v / 256 / 256 / 256 % 256).toUInt8
  have l1 := lay_snoc f o [(v % 256).toUInt8] (v / 256 % 256).toUInt8
  have l2 := lay_snoc f o [(v % 256).toUInt8, (v / 256 % 256).toUInt8] (v / 256 / 256 % 256).toUInt8
  have l3 := lay_snoc f o [(v % 256).toUInt8, (v / 256 % 256).toUInt8, (v / 256 / 256 % 256).toUInt8] (v / 256 / 256 / 256 % 256).toUInt8
  simp only [List.length_cons, List.length_nil, Nat.zero_add, List.cons_append, List.nil_append] at l1 l2 l3
  rw [l1, l2, l3] at hs
  exact ⟨rfl, hs, ((((Only.refl (fun i => i = g) w).setCell (p := ⟨g, o, none⟩) (fun _ => rfl) _).setCell (p := ⟨g, o + 1, none⟩) (fun _ => rfl) _).setCell (p := ⟨g, o + 2, none⟩) (fun _ => rfl) _).setCell (p := ⟨g, o + 3, none⟩) (fun _ => rfl) _⟩

theorem i64_and127 {x : Int} (h0 : 0 ≤ x) (h1 : x < 9223372036854775808) : bits .and .i64 x 127 = x % 128 :=
  bits_mask .i64 63 (by decide) (fun n h0 h1 => by rw [IntKind.wrap_i64]; omega) 7 (by decide) x h0 h1

set_option maxHeartbeats 1000000 in
theorem putUv25 (g M c o v : Nat) (f : Nat → UInt8) (w : World) (hr : Row w g M f) (hv : v ≤ 4611686018427387904) (ho : o + (Lib.uvarint v).length ≤ M) (hM : M ≤ 4611686018427387904) :
    Calls Try.prog 25 #[.slice (some ⟨g, 0, none⟩) M c, .int .i64 o, .int .i64 v] w (LaidPost w g M (lay f o (Lib.uvarint v)) (.int .i64 (o + (Lib.uvarint v).length : Nat))) := by
  go_enter Try.func25, Try.ntmps25
  go_wp2
  go_loopw [1, 2] (fun a x wr => ∃ (y : Nat) (l : List UInt8), y ≤ v ∧ a = .int .i64 (o + l.length : Nat) ∧ x = .int .i64 y ∧ Hid (l ++ Lib.uvarint y = Lib.uvarint v) ∧ Row wr g M (lay f o l) ∧ Only (fun i => i = g) w wr) (fun _ x _ => (intOf x).toNat)
  case atStart => exact ⟨v, [], Nat.le_refl _, rfl, rfl, rfl, hr.congr (fun i _ => by unfold lay; rw [if_neg (by simp)]), .refl _ _⟩
  case round =>
    obtain ⟨y, l, hy, rfl, rfl, Hl, hrow, hO⟩ := hrel
    have Hlen : Hid (l.length + (Lib.uvarint y).length = (Lib.uvarint v).length) := by
      show _ = _
      rw [← Hl.out, List.length_append]
    have hp := Lib.uvarint_pos y
    have hlen := Hlen.out
    have hfit : o + l.length < M := by omega
    clear hlen
    have hfz := hrow.frozen (o + l.length)
    have hcl := hrow.cell hfit
    generalize lay f o l (o + l.length) = b0 at hcl
    by_cases h : y < 128
    · have hd : decide ((128 : Int) ≤ y) = false := decide_eq_false (by omega)
      have hset := hrow.set (o + l.length) y.toUInt8
      rw [lay_snoc] at hset
      have hL := Hl.out
      rw [Lib.uvarint_small h] at hL
      rw [hL, Lib.toUInt8_toNat (by omega)] at hset
      have HN : Hid ((Lib.uvarint v).length = l.length + 1) := by show _ = _; rw [← hL, List.length_append]; rfl
      clear hL hrow
      have hO2 := hO.setCell (p := ⟨g, o + l.length, none⟩) (fun _ => rfl) (.int .u8 (y : Int))
      generalize l.length = k at *
      go_wp2
      go_ret
      exact ⟨by rw [HN.out]; go_num, hset, hO2⟩
    · have hd : (128 : Int) ≤ y := by omega
      have hset := hrow.set (o + l.length) (y % 128 + 128).toUInt8
      rw [lay_snoc] at hset
      have hL := Hl.out
      rw [Lib.uvarint_big (by omega)] at hL
      have HL2 : Hid ((l ++ [(y % 128 + 128).toUInt8]) ++ Lib.uvarint (y / 128) = Lib.uvarint v) := by show _ = _; rw [← hL]; simp
      clear hL hrow
      rw [Lib.toUInt8_toNat (by omega), show ((y % 128 + 128 : Nat) : Int) = (y : Int) % 128 + 128 by omega] at hset
      have hb : bits .or .u8 (bits .and .i64 (y : Int) 127 % 256) 128 = (y : Int) % 128 + 128 := by
        rw [i64_and127 (by omega) (by omega), Lib.u8_or128_any _ (by omega) (by omega)]
        omega
      have hO2 := hO.setCell (p := ⟨g, o + l.length, none⟩) (fun _ => rfl) (.int .u8 ((y : Int) % 128 + 128))
      go_wp2
      go_roundw
      case rel => exact ⟨y / 128, l ++ [(y % 128 + 128).toUInt8], by omega, by rw [List.length_append]; go_num, by simp, HL2, hset, hO2⟩
      case measure => simp [intOf]; omega

end Go.Proofs.Qxb6605965a
