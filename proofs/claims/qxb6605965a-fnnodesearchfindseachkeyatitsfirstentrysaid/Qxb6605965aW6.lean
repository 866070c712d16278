import Derived.Test.Qxb6605965aW5
import Derived.Deep.CutRange
namespace Go.Proofs.Qxb6605965a
open Go.RowKit Go.Maps

theorem leBytes4 (v : Nat) : Lib.leBytes 4 v = [(v % 256).toUInt8, (v / 256 % 256).toUInt8, (v / 256 / 256 % 256).toUInt8, (v / 256 / 256 / 256 % 256).toUInt8] := rfl

abbrev nodeO (g M : Nat) (x : Int) (n : Nat) : Obj := .cells #[.slice (some ⟨g, 0, none⟩) M M, .int .u8 x, .int .i64 n] 50

def KeyPost (w : World) (g o m : Nat) (e : Ending) (w' : World) : Prop :=
  ∃ a, e = .returned (.tuple #[.slice (some a) m m, .int .i64 (o + m : Nat)]) ∧ (0 < m → a = ⟨g, o, none⟩) ∧ Only nothing w w'


theorem only_drew {W w1 : World} (hb : Below W.drew.heap.size W.drew w1) : Only nothing W w1 :=
  (Only.refl nothing W).drew.trans (Only.of_below hb (fun k hk hk2 => absurd hk (by omega)))
theorem nodeCells {w w1 : World} {g M n : Nat} {x : Int} (ho : Only nothing (w.alloc (nodeO g M x n)) w1) :
    w1.cell? ⟨w.heap.size, 0, none⟩ = some (.slice (some ⟨g, 0, none⟩) M M) ∧ w1.cell? ⟨w.heap.size, 1, none⟩ = some (.int .u8 x) ∧ w1.cell? ⟨w.heap.size, 2, none⟩ = some (.int .i64 n) := by
  refine ⟨(ho.cell (p := ⟨w.heap.size, 0, none⟩) (by simp) (fun h => h)).trans ?_, (ho.cell (p := ⟨w.heap.size, 1, none⟩) (by simp) (fun h => h)).trans ?_, (ho.cell (p := ⟨w.heap.size, 2, none⟩) (by simp) (fun h => h)).trans ?_⟩ <;> simp

def U32Post (W : World) (o : Nat) (e : Ending) (w' : World) : Prop := e = .returned (.int .u32 o) ∧ Only nothing W w'

set_option maxHeartbeats 2000000 in
set_option maxRecDepth 100000 in
theorem keyAt29 (g M n i o v : Nat) (x : Int) (f : Nat → UInt8) (w : World) (hr : Row w g M f) (hi : 24 + 4 * i + 4 ≤ M) (ho4 : Has f (24 + 4 * i) (Lib.leBytes 4 o)) (hh : Has f o (Lib.uvarint v)) (ho : o + (Lib.uvarint v).length + v ≤ M) (hM : M ≤ 2097151) :
    Calls Try.prog 29 #[nodeV g M x n, .int .i64 i] w (KeyPost w g (o + (Lib.uvarint v).length) v) := by
  have hO := (Only.refl nothing w).alloc (nodeO g M x n)
  have hr1 := hr.only hO (fun h => h)
  have hl4 : Lib.leNat [f (24 + 4 * i), f (24 + 4 * i + 1), f (24 + 4 * i + 2), f (24 + 4 * i + 3)] = o := by
    have e0 := ho4 0 (by rw [Lib.leBytes_length]; omega)
    have e1 := ho4 1 (by rw [Lib.leBytes_length]; omega)
    have e2 := ho4 2 (by rw [Lib.leBytes_length]; omega)
    have e3 := ho4 3 (by rw [Lib.leBytes_length]; omega)
    rw [leBytes4] at e0 e1 e2 e3
    have h := Lib.leNat_leBytes 4 o (by omega)
    rw [leBytes4] at h
    rw [show f (24 + 4 * i) = _ from e0, e1, e2, e3]
    exact h
  have hc34 := Try.binary_LE_Uint32 g (24 + 4 * i) (M - (24 + 4 * i)) (M - (24 + 4 * i)) _ _ _ _ (w.alloc (nodeO g M x n)).drew (by omega) (hr1.cell (i := 24 + 4 * i) (by omega)) (hr1.cell (i := 24 + 4 * i + 1) (by omega)) (hr1.cell (i := 24 + 4 * i + 2) (by omega)) (hr1.cell (i := 24 + 4 * i + 3) (by omega))
  rw [hl4] at hc34
  have hc30 := fun (w1 : World) (hb : Only nothing (w.alloc (nodeO g M x n)) w1) => length30 g M n o v x f w1 (hr1.only hb (fun h => h)) hh (by omega) (by omega) hM
  have hp10 := Lib.uvarint_length64 (x := v) (by omega)
  generalize (Lib.uvarint v).length = L at *
  have hc34b : ∀ k, k = 24 + 4 * i → Calls Try.prog 34 #[.agg #[], .slice (some ⟨g, k, none⟩) (M - k) (M - k)] (w.alloc (.cells #[.slice (some ⟨g, 0, none⟩) M M, .int .u8 x, .int .i64 n] 50)).drew (U32Post (w.alloc (nodeO g M x n)) o) := fun k hk => by
    subst hk
    exact hc34.mono (fun e w' h => ⟨h.1, only_drew h.2⟩)
  clear hc34
  have hw1 : IntKind.i64.wrap (4 * (i : Int)) = 4 * (i : Int) := by rw [IntKind.wrap_i64]; omega
  obtain ⟨k, Hk⟩ : ∃ k, Hid (k = 24 + 4 * i) := ⟨_, rfl⟩
  have hc34 := hc34b k Hk.out
  clear hc34b
  have hkM : k + 4 ≤ M := by rw [Hk.out]; exact hi
  have hk1 : (24 : Int) + 4 * (i : Int) = (k : Int) := by rw [Hk.out]; omega
  have hw2 : IntKind.i64.wrap (k : Int) = (k : Int) := by rw [IntKind.wrap_i64]; omega
  have hii : (k : Int) ≤ (M : Int) := by omega
  have hMk : ¬ M = k := by omega
  have hwo : IntKind.i64.wrap (o : Int) = (o : Int) := by rw [IntKind.wrap_i64]; omega
  clear ho4 hh hl4 hr
  go_enter Try.func29, Try.ntmps29
  go_upto_region 1 with fail
  go_cut [6, 7] from 8 to 8 (fun s6 s7 wx => s6 = .int .i64 v ∧ s7 = .int .i64 (o + L : Nat) ∧ Only nothing (w.alloc (nodeO g M x n)) wx)
  case first =>
    go_region_with (first
      | (go_at_call 34; refine hc34.mono ?_; rintro e w1 ⟨rfl, hoB⟩; obtain ⟨cx0, cx1, cx2⟩ := nodeCells hoB)
      | (go_at_call 30; refine (hc30 _ hoB).mono ?_; rintro e w2 ⟨rfl, ho2⟩))
    all_goals go_wp2_with fail
    all_goals go_meet
    all_goals (case rel => exact ⟨rfl, rfl, hoB.andThen ho2 (fun i _ h => h)⟩)
  case rest =>
  obtain ⟨rfl, rfl, hoW⟩ := hcut
  obtain ⟨cx0, cx1, cx2⟩ := nodeCells hoW
  have hOW := hO.andThen hoW (fun i _ h => h)
  clear hc34 hc30 hr1 hoW hO
  by_cases hv0 : v = 0
  · subst hv0
    go_wp2_with fail
    all_goals go_ret2
    all_goals exact ⟨⟨g, 0, none⟩, by simp, fun h => absurd h (Nat.lt_irrefl _), hOW⟩
  · have hne : ¬ o + L + v = o + L := by omega
    go_wp2_with fail
    all_goals first
      | omega
      | (go_ret2; exact ⟨⟨g, o + L, none⟩, by simp, fun _ => rfl, hOW⟩)

end Go.Proofs.Qxb6605965a
