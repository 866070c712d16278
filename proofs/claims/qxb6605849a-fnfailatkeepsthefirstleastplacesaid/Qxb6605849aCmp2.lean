import Derived.Test.Qxb6605849aCmp
import Derived.Deep.QuietTactic
import Derived.BigQuiet
namespace Go.Proofs.Qxb6605849a
open Go.RowKit Go.Maps

/-- The slice's elements are the path ps. -/
abbrev PathAt (w : World) (a : Option Addr) (ps : List Elt) : Prop := PairsAt w a ps.length (fun j => .int .i64 (ps.getD j dE).1) (fun j => .string (ps.getD j dE).2)

theorem drop_at {ps : List Elt} {k : Nat} (h : k < ps.length) : ps.drop k = ps.getD k dE :: ps.drop (k + 1) := by
  rw [List.drop_eq_getElem_cons h]
  simp [List.getD, List.getElem?_eq_getElem h]
theorem cP_step {ps qs : List Elt} {k : Nat} (h1 : k < ps.length) (h2 : k < qs.length) : cP (ps.drop k) (qs.drop k) = if cE (ps.getD k dE) (qs.getD k dE) ≠ 0 then cE (ps.getD k dE) (qs.getD k dE) else cP (ps.drop (k + 1)) (qs.drop (k + 1)) := by
  rw [drop_at h1, drop_at h2]; rfl
theorem cP_left {ps qs : List Elt} {k : Nat} (h1 : k = ps.length) (h2 : k < qs.length) : cP (ps.drop k) (qs.drop k) = -1 := by
  rw [List.drop_of_length_le (by omega), drop_at h2]; rfl
theorem cP_right {ps qs : List Elt} {k : Nat} (h1 : k < ps.length) (h2 : k = qs.length) : cP (ps.drop k) (qs.drop k) = 1 := by
  rw [drop_at h1, List.drop_of_length_le (l := qs) (by omega)]; rfl
theorem cP_end {ps qs : List Elt} {k : Nat} (h1 : k = ps.length) (h2 : k = qs.length) : cP (ps.drop k) (qs.drop k) = 0 := by
  rw [List.drop_of_length_le (by omega), List.drop_of_length_le (by omega)]; rfl

set_option maxHeartbeats 1000000 in
set_option maxRecDepth 100000 in
theorem compare29 (a b : Option Addr) (n c m c2 : Nat) (ps qs : List Elt) (w : World) (hp : PathAt w a ps) (hq : PathAt w b qs) (hn : n = ps.length) (hm : m = qs.length) (hnb : n ≤ 1048576) :
    Calls Try.prog 29 #[.slice a n c, .slice b m c2, .func (.func 30) #[] #[]] w (RetPost w (.int .i64 (cP ps qs))) := by
  have Hn : Hid (n = ps.length) := hn
  have Hm : Hid (m = qs.length) := hm
  unfold PathAt at hp hq
  rw [← Hn.out] at hp
  rw [← Hm.out] at hq
  clear hn hm
  go_enter Try.func29, Try.ntmps29
  go_wp2_with fail
  go_loopw [13] (fun i wr => ∃ k : Nat, k ≤ n ∧ k ≤ m ∧ i = .int .i64 k ∧ cP ps qs = cP (ps.drop k) (qs.drop k) ∧ Only nothing w wr) (fun i _ => n - (intOf i).toNat)
  case atStart => exact ⟨0, Nat.zero_le _, Nat.zero_le _, rfl, rfl, .refl _ _⟩
  case round =>
    obtain ⟨k, hk, hkm, rfl, hcp, ho⟩ := hrel
    have HC : Hid (cP ps qs = cP (ps.drop k) (qs.drop k)) := hcp
    clear hcp
    by_cases hlt : k < n
    · obtain ⟨b1, o1, rfl, hb1, hc1⟩ := hp.at (k := k) hlt
      have hcell1 := (ho.cell (p := ⟨b1, o1 + k * 2, none⟩) hb1 (fun h => h)).trans (hc1 k hlt).1
      have hcell2 := (ho.cell (p := ⟨b1, o1 + k * 2 + 1, none⟩) hb1 (fun h => h)).trans (hc1 k hlt).2
      have hb1r : b1 < wr.heap.size := Nat.lt_of_lt_of_le hb1 ho.size
      have hlti : (k : Int) < (n : Int) := by omega
      by_cases hltm : k < m
      · obtain ⟨b2, o2, rfl, hb2, hc2⟩ := hq.at (k := k) hltm
        have hcell3 := (ho.cell (p := ⟨b2, o2 + k * 2, none⟩) hb2 (fun h => h)).trans (hc2 k hltm).1
        have hcell4 := (ho.cell (p := ⟨b2, o2 + k * 2 + 1, none⟩) hb2 (fun h => h)).trans (hc2 k hltm).2
        have hb2r : b2 < wr.heap.size := Nat.lt_of_lt_of_le hb2 ho.size
        have hltmi : (k : Int) < (m : Int) := by omega
        have HS : Hid (cP ps qs = if cE (ps.getD k dE) (qs.getD k dE) ≠ 0 then cE (ps.getD k dE) (qs.getD k dE) else cP (ps.drop (k + 1)) (qs.drop (k + 1))) := HC.out.trans (cP_step (by rw [← Hn.out]; exact hlt) (by rw [← Hm.out]; exact hltm))
        generalize ps.getD k dE = x at hcell1 hcell2 HS
        generalize qs.getD k dE = y at hcell3 hcell4 HS
        obtain ⟨x1, x2⟩ := x
        obtain ⟨y1, y2⟩ := y
        dsimp only at hcell1 hcell2 hcell3 hcell4
        clear hc1 hc2 hp hq
        go_wp2_with fail
        refine (places30 x1 y1 x2 y2 _).mono ?_
        rintro e w5 ⟨rfl, ho5⟩
        have ho6 := ((ho.alloc (.cells #[.int .i64 x1, .string x2] 79)).alloc (.cells #[.int .i64 y1, .string y2] 79)).andThen ho5 (fun i _ h => h)
        by_cases hz : cE (x1, x2) (y1, y2) = 0
        · have hzb : (cE (x1, x2) (y1, y2) != 0) = false := by simpa using hz
          have HZ : Hid (cP ps qs = cP (ps.drop (k + 1)) (qs.drop (k + 1))) := by
            have h := HS.out
            rw [if_neg (by simpa using hz)] at h
            exact h
          clear hz HS
          generalize cE (x1, x2) (y1, y2) = z at hzb
          go_wp2_with fail
          go_roundw
          case rel => exact ⟨k + 1, by omega, by omega, by go_num, HZ.out, ho6⟩
          case measure => simp [intOf]; omega
        · have hzb : (cE (x1, x2) (y1, y2) != 0) = true := by simpa using hz
          have HZ : Hid (cP ps qs = cE (x1, x2) (y1, y2)) := by
            have h := HS.out
            rw [if_pos hz] at h
            exact h
          clear hz HS
          generalize cE (x1, x2) (y1, y2) = z at hzb HZ
          go_wp2_with fail
          go_ret
          exact ⟨by rw [HZ.out]; rfl, ho6⟩
      · have hkm' : k = m := by omega
        have HS : Hid (cP ps qs = 1) := HC.out.trans (cP_right (by rw [← Hn.out]; exact hlt) (by rw [← Hm.out]; exact hkm'))
        have hge : (m : Int) ≤ (k : Int) := by omega
        generalize ps.getD k dE = x at hcell1 hcell2
        obtain ⟨x1, x2⟩ := x
        dsimp only at hcell1 hcell2
        have ho6 := ho.alloc (.cells #[.int .i64 x1, .string x2] 79)
        clear hc1 hp hq HC hkm'
        go_wp2_with fail
        go_ret
        exact ⟨by rw [HS.out]; rfl, ho6⟩
    · have hkn : k = n := by omega
      by_cases hltm : n < m
      · have HS : Hid (cP ps qs = -1) := HC.out.trans (cP_left (by rw [← Hn.out]; exact hkn) (by rw [← Hm.out]; omega))
        subst hkn
        have hltmi : (k : Int) < (m : Int) := by omega
        clear HC hp hq
        go_wp2_with fail
        go_ret
        exact ⟨by rw [HS.out]; rfl, ho⟩
      · have HS : Hid (cP ps qs = 0) := HC.out.trans (cP_end (by rw [← Hn.out]; exact hkn) (by rw [← Hm.out]; omega))
        subst hkn
        clear HC hp hq
        go_wp2_with fail
        go_ret
        exact ⟨by rw [HS.out]; rfl, ho⟩

end Go.Proofs.Qxb6605849a
