import Derived.Test.Qxb6605849aCmp2
import Derived.Lib.Strings
namespace Go.Proofs.Qxb6605849a
open Go.RowKit Go.Maps

theorem cb_self : ∀ l : List UInt8, Lib.compareBytes l l = 0
  | [] => rfl
  | a :: l => by
    unfold Lib.compareBytes
    rw [if_neg (UInt8.lt_irrefl a), if_neg (UInt8.lt_irrefl a)]
    exact cb_self l
theorem cb_less : ∀ a b : List UInt8, a ≠ b → Lib.compareBytes a b = if Op.bytesLess a b then -1 else 1
  | [], [], h => absurd rfl h
  | [], _ :: _, _ => rfl
  | _ :: _, [], _ => rfl
  | x :: a, y :: b, h => by
    unfold Lib.compareBytes Op.bytesLess
    by_cases h1 : x < y
    · simp [h1]
    · by_cases h2 : y < x
      · have hne : (x == y) = false := by
          rw [beq_eq_false_iff_ne]
          rintro rfl
          exact h1 h2
        simp [h1, h2, hne]
      · have he : x = y := UInt8.le_antisymm (UInt8.not_lt.1 h2) (UInt8.not_lt.1 h1)
        subst he
        rw [if_neg h1, if_neg h2, cb_less a b (fun e => h (by rw [e]))]
        simp [h1]

set_option maxHeartbeats 1000000 in
set_option maxRecDepth 100000 in
theorem path22 (a b : Option Addr) (n c m c2 : Nat) (ps qs : List Elt) (w : World) (hp : PathAt w a ps) (hq : PathAt w b qs) (hn : n = ps.length) (hm : m = qs.length) (hnb : n ≤ 1048576) :
    Calls Try.prog 22 #[.slice a n c, .slice b m c2] w (RetPost w (.int .i64 (cP ps qs))) := by
  have Hn : Hid (n = ps.length) := hn
  have Hm : Hid (m = qs.length) := hm
  unfold PathAt at hp hq
  rw [← Hn.out] at hp
  rw [← Hm.out] at hq
  clear hn hm
  go_enter Try.func22, Try.ntmps22
  go_wp2_with fail
  go_loopw [5] (fun i wr => ∃ k : Nat, k ≤ n ∧ k ≤ m ∧ i = .int .i64 k ∧ cP ps qs = cP (ps.drop k) (qs.drop k) ∧ Only nothing w wr) (fun i _ => n - (intOf i).toNat)
  case atStart => exact ⟨0, Nat.zero_le _, Nat.zero_le _, rfl, rfl, .refl _ _⟩
  case round =>
    obtain ⟨k, hk, hkm, rfl, hcp, ho⟩ := hrel
    have HC : Hid (cP ps qs = cP (ps.drop k) (qs.drop k)) := hcp
    clear hcp
    by_cases hlt : k < n
    · have hlti : (k : Int) < (n : Int) := by omega
      have hltd : decide ((k : Int) < (n : Int)) = true := decide_eq_true hlti
      by_cases hltm : k < m
      · obtain ⟨b1, o1, rfl, hb1, hc1⟩ := hp.at (k := k) hlt
        have hcell1 := (ho.cell (p := ⟨b1, o1 + k * 2, none⟩) hb1 (fun h => h)).trans (hc1 k hlt).1
        have hcell2 := (ho.cell (p := ⟨b1, o1 + k * 2 + 1, none⟩) hb1 (fun h => h)).trans (hc1 k hlt).2
        obtain ⟨b2, o2, rfl, hb2, hc2⟩ := hq.at (k := k) hltm
        have hcell3 := (ho.cell (p := ⟨b2, o2 + k * 2, none⟩) hb2 (fun h => h)).trans (hc2 k hltm).1
        have hcell4 := (ho.cell (p := ⟨b2, o2 + k * 2 + 1, none⟩) hb2 (fun h => h)).trans (hc2 k hltm).2
        have hltmi : (k : Int) < (m : Int) := by omega
        have HS : Hid (cP ps qs = if cE (ps.getD k dE) (qs.getD k dE) ≠ 0 then cE (ps.getD k dE) (qs.getD k dE) else cP (ps.drop (k + 1)) (qs.drop (k + 1))) := HC.out.trans (cP_step (by rw [← Hn.out]; exact hlt) (by rw [← Hm.out]; exact hltm))
        generalize ps.getD k dE = x at hcell1 hcell2 HS
        generalize qs.getD k dE = y at hcell3 hcell4 HS
        obtain ⟨x1, x2⟩ := x
        obtain ⟨y1, y2⟩ := y
        dsimp only at hcell1 hcell2 hcell3 hcell4
        clear hc1 hc2 hp hq
        by_cases hlt1 : x1 < y1
        · have HZ : Hid (cP ps qs = -1) := by
            have h := HS.out
            have e : cE (x1, x2) (y1, y2) = -1 := if_pos hlt1
            rw [e] at h
            show cP ps qs = -1
            simpa using h
          have hne : (x1 != y1) = true := by rw [bne_iff_ne]; omega
          clear HS HC
          go_wp2_with fail
          go_quiet (fail)
          go_wp2_with fail
          go_quiet (fail)
          go_wp2_with fail
          go_ret
          exact ⟨by rw [HZ.out]; rfl, (ho.drewN _).drewN _⟩
        · by_cases hlt2 : y1 < x1
          · have HZ : Hid (cP ps qs = 1) := by
              have h := HS.out
              have e : cE (x1, x2) (y1, y2) = 1 := by unfold cE; rw [if_neg hlt1, if_pos hlt2]
              rw [e] at h
              show cP ps qs = 1
              simpa using h
            have hne : (x1 != y1) = true := by rw [bne_iff_ne]; omega
            have hltd2 : decide (x1 < y1) = false := decide_eq_false hlt1
            clear HS HC
            go_wp2_with fail
            go_quiet (fail)
            go_wp2_with fail
            go_quiet (fail)
            go_wp2_with fail
            go_ret
            exact ⟨by rw [HZ.out]; rfl, (ho.drewN _).drewN _⟩
          · obtain rfl : x1 = y1 := by omega
            have hE : cE (x1, x2) (x1, y2) = Lib.compareBytes x2.data.toList y2.data.toList := by unfold cE; rw [if_neg hlt1, if_neg hlt1]
            by_cases hxy : x2 = y2
            · subst hxy
              have HZ : Hid (cP ps qs = cP (ps.drop (k + 1)) (qs.drop (k + 1))) := by
                have h := HS.out
                rw [hE, cb_self] at h
                show cP ps qs = _
                simpa using h
              clear HS HC hE hlt1 hlt2
              go_wp2_with fail
              go_quiet (fail)
              go_wp2_with fail
              go_quiet (fail)
              go_wp2_with fail
              go_roundw
              case rel => exact ⟨k + 1, by omega, by omega, by go_num, HZ.out, ho.drewN _⟩
              case measure => simp [intOf]; omega
            · have hl : x2.data.toList ≠ y2.data.toList := fun e => hxy (by obtain ⟨⟨l⟩⟩ := x2; obtain ⟨⟨l'⟩⟩ := y2; simp only at e; rw [e])
              have hl2 : (x2.toList == y2.toList) = false := by
                rw [beq_eq_false_iff_ne, Lib.toList_data, Lib.toList_data]; exact hl
              have hl3 : (x2.toList != y2.toList) = true := by rw [bne, hl2]; rfl
              cases hbl : Op.bytesLess x2.toList y2.toList with
              | true =>
                have HZ : Hid (cP ps qs = -1) := by
                  have h := HS.out
                  rw [hE, cb_less _ _ hl, ← Lib.toList_data, ← Lib.toList_data, hbl] at h
                  show cP ps qs = -1
                  simpa using h
                clear HS HC hE hlt1 hlt2 hl hxy
                go_wp2_with fail
                go_quiet (fail)
                go_wp2_with fail
                go_quiet (fail)
                go_wp2_with fail
                go_quiet (fail)
                go_wp2_with fail
                go_ret
                exact ⟨by rw [HZ.out]; rfl, ((ho.drewN _).drewN _).drewN _⟩
              | false =>
                have HZ : Hid (cP ps qs = 1) := by
                  have h := HS.out
                  rw [hE, cb_less _ _ hl, ← Lib.toList_data, ← Lib.toList_data, hbl] at h
                  show cP ps qs = 1
                  simpa using h
                clear HS HC hE hlt1 hlt2 hl hxy
                go_wp2_with fail
                go_quiet (fail)
                go_wp2_with fail
                go_quiet (fail)
                go_wp2_with fail
                go_quiet (fail)
                go_wp2_with fail
                go_ret
                exact ⟨by rw [HZ.out]; rfl, ((ho.drewN _).drewN _).drewN _⟩
      · have hkm' : k = m := by omega
        have HS : Hid (cP ps qs = 1) := HC.out.trans (cP_right (by rw [← Hn.out]; exact hlt) (by rw [← Hm.out]; exact hkm'))
        have hge : ¬ (k : Int) < (m : Int) := by omega
        have hged : decide ((k : Int) < (m : Int)) = false := decide_eq_false hge
        have hge2 : ¬ (n : Int) < (m : Int) := by omega
        have hge3 : (m : Int) < (n : Int) := by omega
        clear HC hp hq hkm'
        go_wp2_with fail
        go_ret
        exact ⟨by rw [HS.out]; rfl, ho⟩
    · have hkn : k = n := by omega
      have hltd : decide ((k : Int) < (n : Int)) = false := decide_eq_false (by omega)
      by_cases hltm : n < m
      · have HS : Hid (cP ps qs = -1) := HC.out.trans (cP_left (by rw [← Hn.out]; exact hkn) (by rw [← Hm.out]; omega))
        have hltmi : (n : Int) < (m : Int) := by omega
        clear HC hp hq hkn
        go_wp2_with fail
        go_ret
        exact ⟨by rw [HS.out]; rfl, ho⟩
      · have HS : Hid (cP ps qs = 0) := HC.out.trans (cP_end (by rw [← Hn.out]; exact hkn) (by rw [← Hm.out]; omega))
        have hnm : ¬ (m : Int) < (n : Int) := by omega
        have hnm2 : ¬ (n : Int) < (m : Int) := by omega
        clear HC hp hq hkn
        go_wp2_with fail
        go_ret
        exact ⟨by rw [HS.out]; rfl, ho⟩

end Go.Proofs.Qxb6605849a
