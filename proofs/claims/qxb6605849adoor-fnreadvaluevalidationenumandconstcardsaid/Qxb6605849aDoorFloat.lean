import Derived.Test.Qxb6605849aDoorBase
import Derived.WalkLawsBesides
namespace Go.Proofs.Qxb6605849aDoor
open Go.RowKit Go.Maps

abbrev F64 : Ieee.Format := FloatKind.f64.format

theorem order_self (x : Nat) : F64.order x x = none ∨ F64.order x x = some .eq := by
  unfold Ieee.Format.order
  generalize F64.read x = d
  cases d <;> simp [Ieee.Datum.order]

theorem signed_zero {s : Bool} {m k : Nat} (h : Ieee.signed s m k = 0) : m = 0 := by
  unfold Ieee.signed at h
  have hp : 0 < 2 ^ k := Nat.two_pow_pos k
  rw [Nat.shiftLeft_eq] at h
  have h2 : m * 2 ^ k = 0 := by split at h <;> omega
  rcases Nat.mul_eq_zero.1 h2 with h | h
  · exact h
  · omega

theorem order_zero {x : Nat} (h : F64.order x 0 = some .eq) : ∃ s p, F64.read x = .number s 0 p := by
  unfold Ieee.Format.order at h
  have h0 : F64.read 0 = .number false 0 F64.leastPlace := by decide +kernel
  rw [h0] at h
  generalize F64.read x = d at h
  cases d with
  | number s m p =>
    simp only [Ieee.Datum.order, Option.some.injEq] at h
    rw [Int.compare_eq_eq] at h
    have hz : Ieee.signed false 0 (F64.leastPlace - min p F64.leastPlace).toNat = 0 := by simp [Ieee.signed]
    rw [hz] at h
    exact ⟨s, p, by rw [signed_zero h]⟩
  | infinity s => simp only [Ieee.Datum.order] at h; split at h <;> simp at h
  | nan s t => simp [Ieee.Datum.order] at h

theorem quo_zero {x : Nat} (h : F64.order x 0 = some .eq) : ∃ r, F64.div 4607182418800017408 x = some r ∧ F64.order r r = some .eq := by
  obtain ⟨s, p, hx⟩ := order_zero h
  have h1 : F64.read 4607182418800017408 = .number false 4503599627370496 (-52) := by decide +kernel
  unfold Ieee.Format.div
  rw [hx, h1]
  have hq : Ieee.Datum.quotient (F64.fractionBits + 2) (.number false 4503599627370496 (-52)) (.number s 0 p) = some (.infinity s) := by
    simp [Ieee.Datum.quotient]
  rw [hq]
  cases s
  · exact ⟨9218868437227405312, by decide +kernel, by decide +kernel⟩
  · exact ⟨18442240474082181120, by decide +kernel, by decide +kernel⟩

theorem run_quo (w : World) (t : TypeId) (a b r : Nat) (h : F64.div a b = some r) : (binOp .quo t (.float .f64 a) (.float .f64 b)).run Tryd.prog w = .ok (.float .f64 r) w := by
  simp [binOp, Op.floatArith, h]

/-- A float is the same as itself, a NaN and both zeros among them. -/
theorem same15 (x : Nat) (w : World) : Calls Tryd.prog 15 #[.float .f64 x, .float .f64 x] w fun e w' => e = .returned (.bool true) ∧ w' = w := by
  rcases order_self x with h | h
  · have hb : (FloatKind.f64.format.order x x != some .eq) = true := by rw [h]; rfl
    go_enter Tryd.func15, Tryd.ntmps15
    go_wp2
    go_ret
    exact ⟨rfl, rfl⟩
  · have hb : (FloatKind.f64.format.order x x != some .eq) = false := by rw [h]; rfl
    clear h
    by_cases h0 : F64.order x 0 = some .eq
    · obtain ⟨r, hr, hrr⟩ := quo_zero h0
      have hb0 : (FloatKind.f64.format.order x 0 != some .eq) = false := by rw [h0]; rfl
      have hq := fun w => run_quo w 24 _ _ _ hr
      have hbr : (FloatKind.f64.format.order r r == some .eq) = true := by rw [hrr]; rfl
      clear h0 hr hrr
      go_enter Tryd.func15, Tryd.ntmps15
      go_wp2
      go_ret
      exact ⟨rfl, rfl⟩
    · have hb0 : (FloatKind.f64.format.order x 0 != some .eq) = true := by simpa using h0
      clear h0
      go_enter Tryd.func15, Tryd.ntmps15
      go_wp2
      go_ret
      exact ⟨rfl, rfl⟩

end Go.Proofs.Qxb6605849aDoor
