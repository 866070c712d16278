import Derived.Test.Qxb6605965aCopy
import Derived.Deep.CutRange
namespace Go.Proofs.Qxb6605965a
open Go.RowKit Go.Maps

def BuildPost (w : World) (es : List Ent) (e : Ending) (w' : World) : Prop :=
  ∃ g M f, e = .returned (.slice (some ⟨g, 0, none⟩) M M) ∧ w.heap.size ≤ g ∧ Row w' g M f ∧ NodeTo f es es.length ∧ offs es es.length ≤ M ∧ M ≤ 2097151 ∧ Only nothing w w'

set_option maxHeartbeats 2000000 in
set_option maxRecDepth 100000 in
theorem build13 (a : Option Addr) (n c : Nat) (es : List Ent) (w : World) (hs : EntsAt w a es) (hn : n = es.length) (hg : ∀ j, j < n → Small (es.getD j d0)) (ht : tot es ≤ 1048576) :
    Calls Try.prog 13 #[.slice a n c] w (BuildPost w es) := by
  have Hn : Hid (n = es.length) := hn
  have hofn := offs_le es (by rw [← hn]; exact hg) n (by omega)
  have htt := tot_take_le es n
  have hn1 : 38 * n ≤ 4 * n + 1048600 - 24 := by rw [← hn] at hofn; have := offs_base es n; omega
  have hoffn : offs es n ≤ 1048600 := by rw [← hn] at hofn; omega
  have hmono : Hid (∀ i, i ≤ n → offs es i ≤ offs es n) := fun i hi => offs_mono es i n hi (by omega)
  have hsuc : Hid (∀ i, i < n → offs es (i + 1) = offs es i + (encE (es.getD i d0)).length) := fun i hi => offs_succ es i (by omega)
  have h0f : Hid (offs es 0 = 24 + 4 * n) := by show _ = _; rw [offs_zero, hn]
  have hbase : Hid (∀ i, 24 + 4 * n ≤ offs es i) := fun i => by rw [hn]; exact offs_base es i
  clear hn hofn htt ht
  go_enter Try.func13, Try.ntmps13
  go_wp2_with fail
  go_loopw [4, 5] (fun t i wr => ∃ k : Nat, k ≤ n ∧ i = .int .i64 k ∧ t = .int .i64 (offs es k) ∧ Only nothing w wr) (fun _ i _ => n - (intOf i).toNat)
  case atStart => exact ⟨0, Nat.zero_le _, rfl, by rw [h0f.out]; simp, .refl _ _⟩
  case round =>
    obtain ⟨k, hk, rfl, rfl, ho⟩ := hrel
    by_cases hlt : k < n
    · obtain ⟨b, off, ka, kc, va, vc, hab, hbb, hc1, hc2, -, -, -, -⟩ := hs.at (k := k) (by rw [← Hn.out]; exact hlt)
      subst hab
      have hcell := (ho.cell (p := ⟨b, off + k * 2, none⟩) hbb (fun h => h)).trans hc1
      have hcell2 := (ho.cell (p := ⟨b, off + k * 2 + 1, none⟩) hbb (fun h => h)).trans hc2
      obtain ⟨hg1, hg2⟩ := hg k hlt
      have HS : Hid (offs es (k + 1) = offs es k + ((Lib.uvarint (es.getD k d0).1.length).length + (es.getD k d0).1.length + (Lib.uvarint (es.getD k d0).2.length).length + (es.getD k d0).2.length)) := by
        show _ = _
        rw [hsuc.out k hlt, enc_len]
      have hle := hmono.out (k + 1) hlt
      rw [HS.out] at hle
      obtain ⟨m, Hm⟩ : ∃ m, Hid (m = (es.getD k d0).1.length) := ⟨_, rfl⟩
      obtain ⟨p, Hp⟩ : ∃ p, Hid (p = (es.getD k d0).2.length) := ⟨_, rfl⟩
      rw [← Hm.out] at hcell HS hle hg1
      rw [← Hp.out] at hcell2 HS hle hg2
      have hcK : ∀ w, Calls Try.prog 23 #[.int .i64 m] w (fun e w' => e = .returned (.int .i64 (Lib.uvarint m).length) ∧ w' = w) := fun w => uvLen23 m w (by omega)
      have hcV : ∀ w, Calls Try.prog 23 #[.int .i64 p] w (fun e w' => e = .returned (.int .i64 (Lib.uvarint p).length) ∧ w' = w) := fun w => uvLen23 p w (by omega)
      generalize (Lib.uvarint m).length = mu at *
      generalize (Lib.uvarint p).length = pu at *
      generalize hT : offs es k = T at *
      have hki : (k : Int) < (n : Int) := by omega
      clear hc1 hc2 hs hg hmono hsuc hT hbase h0f
      go_wp2_with fail
      go_quiet (first
        | (go_at_call_of 23 (Value.int IntKind.i64 (m : Int)); exact Calls.quiet_of_same (hcK _))
        | (go_at_call_of 23 (Value.int IntKind.i64 (p : Int)); exact Calls.quiet_of_same (hcV _)))
      go_wp2_with fail
      go_roundw
      case rel => exact ⟨k + 1, by omega, by go_num, by rw [HS.out]; go_num, ho.drewN _⟩
      case measure => simp [intOf]; omega
    · have hkn : k = n := by omega
      subst hkn
      generalize hT : offs es k = T at hoffn ⊢
      obtain ⟨wA, hwA⟩ : ∃ wA, wA = wr := ⟨_, rfl⟩
      rw [← hwA] at ho ⊢
      clear hwA wr
      have hT0 : 24 + 4 * k ≤ T := by rw [← hT]; exact hbase.out k
      obtain ⟨pc, Hpc⟩ : ∃ pc, Hid (pc = (T + 4095) / 4096) := ⟨_, rfl⟩
      obtain ⟨M, HM⟩ : ∃ M, Hid (M = pc * 4096) := ⟨_, rfl⟩
      have hpc : ((T : Int) + 4096 - 1) / 4096 = (pc : Int) := by rw [Hpc.out]; omega
      have hMi : (pc : Int) * 4096 = (M : Int) := by rw [HM.out]; omega
      have hTM : T ≤ M := by rw [HM.out, Hpc.out]; omega
      have hM2 : M ≤ 1100000 := by rw [HM.out, Hpc.out]; omega
      have hMp : 4096 ≤ M := by rw [HM.out, Hpc.out]; omega
      have hmk := run_make_row' (P := Try.prog) 23 5 _ 1 Try.underlying23 info5 rfl .i64 .i64 M (by omega) (by omega)
      go_upto_region 9 with fail
      obtain ⟨wB, hwB⟩ : ∃ wB, wB = wA.alloc (.cells (madeCells #[.int .u8 0] M) 5) := ⟨_, rfl⟩
      have hrB : Row wB wA.heap.size M (fun _ => 0) := by rw [hwB]; exact World.rowIs_made wA (.int .u8 0) M 5
      have hoB : Only nothing wA wB := by rw [hwB]; exact (Only.refl _ _).alloc _
      rw [← hwB]
      clear hwB hmk
      have hsg := ho.size
      generalize hgg : wA.heap.size = g at hrB hsg ⊢
      have hoAB := ho.andThen hoB (fun i _ h => h)
      have hrC : Row (wB.setCell ⟨g, 4, none⟩ (.int .u8 3)) g M (lay (fun _ => 0) 4 [3]) := hrB.set 4 3
      have hoC : Only nothing w (wB.setCell ⟨g, 4, none⟩ (.int .u8 3)) := hoAB.setCell (p := ⟨g, 4, none⟩) (fun h => absurd h (by simp; omega)) _
      have hcell4 := hrB.cell (i := 4) (by omega)
      have hfz4 := hrB.frozen 4
      have hwp : IntKind.u32.wrap (pc : Int) = (pc : Int) := by rw [IntKind.wrap_u32]; omega
      have hwk : IntKind.u32.wrap (k : Int) = (k : Int) := by rw [IntKind.wrap_u32]; omega
      have hc1 := put32_24 g M M 8 pc _ _ hrC (by omega) (by omega) (by omega)
      generalize lay (fun _ => 0) 4 [3] = f1 at hrC hc1
      clear hrB hoB hoAB ho
      go_wp2_with fail
      refine hc1.mono ?_
      rintro e wD ⟨rfl, hrD, hoD⟩
      have hc2 := put32_24 g M M 12 k _ _ hrD (by omega) (by omega) (by omega)
      have hO1 := hoC.andThen hoD (fun i hi h => by omega)
      clear hc1 hoD hoC hrC
      go_wp2_with fail
      refine hc2.mono ?_
      rintro e wE ⟨rfl, hrE, hoE⟩
      have hO2 := hO1.andThen hoE (fun i hi h => by omega)
      clear hc2 hoE hO1 hrD
      obtain ⟨f2, hf2⟩ : ∃ f2, f2 = lay (lay f1 8 (Lib.leBytes 4 pc)) 12 (Lib.leBytes 4 k) := ⟨_, rfl⟩
      rw [← hf2] at hrE
      clear hf2
      go_wp2_with fail
      clear hwp hwk hpc hMi
      go_loopw [8, 9] (fun t i wr => ∃ (q : Nat) (f : Nat → UInt8), q ≤ k ∧ i = .int .i64 q ∧ t = .int .i64 (offs es q) ∧ Row wr g M f ∧ NodeTo f es q ∧ Only nothing w wr) (fun _ i _ => k - (intOf i).toNat)
      case atStart => exact ⟨0, f2, Nat.zero_le _, rfl, by rw [h0f.out]; simp, hrE, fun i hi => absurd hi (Nat.not_lt_zero _), hO2⟩
      case round =>
        obtain ⟨q, f, hq, rfl, rfl, hrow, hnt, hO⟩ := hrel
        by_cases hlt : q < k
        · have hql : q < es.length := by rw [← Hn.out]; exact hlt
          obtain ⟨b, off, ka, kc, va, vc, hab, hbb, hc1, hc2, hbk, hbv, -, -⟩ := hs.at hql
          subst hab
          obtain ⟨hg1, hg2⟩ := hg q hlt
          have HS : Hid (offs es (q + 1) = offs es q + ((Lib.uvarint (es.getD q d0).1.length).length + (es.getD q d0).1.length + (Lib.uvarint (es.getD q d0).2.length).length + (es.getD q d0).2.length)) := by
            show _ = _
            rw [hsuc.out q hlt, enc_len]
          have hle := hmono.out (q + 1) hlt
          rw [HS.out, hT] at hle
          have HNT : Hid (NodeTo (layE f q (offs es q) (es.getD q d0)) es (q + 1)) := hnt.step hql
          unfold layE at HNT
          have hob := hbase.out q
          generalize hZ : es.getD q d0 = Z at hc1 hc2 hbk hbv hg1 hg2 HS hle HNT
          obtain ⟨KK, VV⟩ := Z
          dsimp only at hc1 hc2 hbk hbv hg1 hg2 HS hle HNT
          generalize hTq : offs es q = t at HS hle HNT hob ⊢
          have hcA := put32_24 g M M (24 + 4 * q) t f wr hrow (by omega) (by omega) (by omega)
          have hwt : IntKind.u32.wrap (t : Int) = (t : Int) := by rw [IntKind.wrap_u32]; omega
          obtain ⟨o4, Ho4⟩ : ∃ o4, Hid (o4 = 24 + 4 * q) := ⟨_, rfl⟩
          have ho4 : (24 : Int) + 4 * (q : Int) = (o4 : Int) := by rw [Ho4.out]; omega
          rw [← Ho4.out] at hcA HNT
          clear hZ hTq hnt hmono hsuc
          go_wp2_with fail
          refine hcA.mono ?_
          rintro e wF ⟨rfl, hrF, hoF⟩
          have hOF := hO.andThen hoF (fun i hi h => by omega)
          clear hcA hrow hO hoF
          obtain ⟨m, Hm⟩ : ∃ m, Hid (m = KK.length) := ⟨_, rfl⟩
          obtain ⟨p, Hp⟩ : ∃ p, Hid (p = VV.length) := ⟨_, rfl⟩
          have hcellF := (hOF.cell (p := ⟨b, off + q * 2, none⟩) hbb (fun h => h)).trans hc1
          rw [← Hm.out] at hcellF HS HNT hle hg1
          rw [← Hp.out] at HS HNT hle hg2
          obtain ⟨mu, Hmu⟩ : ∃ mu, Hid (mu = (Lib.uvarint m).length) := ⟨_, rfl⟩
          obtain ⟨pu, Hpu⟩ : ∃ pu, Hid (pu = (Lib.uvarint p).length) := ⟨_, rfl⟩
          rw [← Hmu.out] at HS HNT hle
          rw [← Hpu.out] at HS HNT hle
          have hcB := putUv25 g M M t m _ wF hrF (by omega) (by rw [← Hmu.out]; omega) (by omega)
          obtain ⟨t1, Ht1⟩ : ∃ t1, Hid (t1 = t + mu) := ⟨_, rfl⟩
          rw [← Hmu.out, ← Ht1.out] at hcB
          rw [← Ht1.out] at HNT
          have hpu1 : 1 ≤ pu := by rw [Hpu.out]; exact Lib.uvarint_pos p
          clear hrF
          go_wp2_with fail
          refine hcB.mono ?_
          rintro e wG ⟨rfl, hrG, hoG⟩
          have hOG := hOF.andThen hoG (fun i hi h => by omega)
          have hcellG := (hOG.cell (p := ⟨b, off + q * 2, none⟩) hbb (fun h => h)).trans hc1
          rw [← Hm.out] at hcellG
          have hbkG := hbk.only hOG (fun _ _ _ _ h => h)
          clear hcB hOF hoG hcellF
          have hqk : (q : Int) < (k : Int) := by omega
          have ht1M : t1 + m + pu + p ≤ M := by rw [Ht1.out]; omega
          have ht1i : (t1 : Int) ≤ (M : Int) := by omega
          have ht1n : ¬ M = t1 := by omega
          have s1 : m ≤ M - t1 := by omega
          have hw5 : IntKind.i64.wrap ((t1 : Int) + (m : Int)) = (t1 : Int) + (m : Int) := by rw [IntKind.wrap_i64]; omega
          have s2 : t1 + m ≤ M := by omega
          have hrG' : Row wG.drew g M _ := hrG
          have hbkG' : BA wG.drew ka KK := hbkG
          go_upto_region 18 with fail
          go_cut [8] from 92 to 92 (fun s8 wx => s8 = .int .i64 (t1 + m : Nat) ∧ Row wx g M (lay (lay (lay f o4 (Lib.leBytes 4 t)) t (Lib.uvarint m)) t1 KK) ∧ Only nothing w wx)
          case first =>
            go_region_law (refine step_copy_lay rfl (.tmp 95) (.tmp 100) 23 rfl Try.underlying23 size5 (some ⟨g, t1, none⟩) ka (M - t1) (M - t1) m kc (by simp [Act.eval]) (by simp [Act.eval]) g M t1 _ KK hrG' Hm.out (fun _ => rfl) s1 s2 hbkG' ?_; intro w4 hr4 ho4')
            all_goals go_wp2_with fail
            all_goals go_meet
            all_goals (case rel => exact ⟨by go_num, hr4, hOG.drew.andThen ho4' (fun i hi h => by omega)⟩)
          case rest =>
          obtain ⟨rfl, hrH, hOH⟩ := hcut
          obtain ⟨wH, hwH⟩ : ∃ wH, wH = wc := ⟨_, rfl⟩
          rw [← hwH] at hrH hOH ⊢
          clear hwH wc hrG hrG' hbkG hbkG' hOG hcellG
          obtain ⟨t2, Ht2⟩ : ∃ t2, Hid (t2 = t1 + m) := ⟨_, rfl⟩
          rw [← Ht2.out] at HNT ⊢
          have ht2M : t2 + pu + p ≤ M := by rw [Ht2.out]; omega
          have hcellH := (hOH.cell (p := ⟨b, off + q * 2 + 1, none⟩) hbb (fun h => h)).trans hc2
          rw [← Hp.out] at hcellH
          have hcD := putUv25 g M M t2 p _ wH hrH (by omega) (by rw [← Hpu.out]; omega) (by omega)
          obtain ⟨t3, Ht3⟩ : ∃ t3, Hid (t3 = t2 + pu) := ⟨_, rfl⟩
          rw [← Hpu.out, ← Ht3.out] at hcD
          rw [← Ht3.out] at HNT
          clear hrH
          go_wp2_with fail
          refine hcD.mono ?_
          rintro e wI ⟨rfl, hrI, hoI⟩
          have hOI := hOH.andThen hoI (fun i hi h => by omega)
          have hcellI := (hOI.cell (p := ⟨b, off + q * 2 + 1, none⟩) hbb (fun h => h)).trans hc2
          rw [← Hp.out] at hcellI
          have hbvI0 := hbv.only hOI (fun _ _ _ _ h => h)
          have hbvI : BA wI.drew va VV := hbvI0
          have hrI' : Row wI.drew g M _ := hrI
          clear hcD hOH hoI hcellH
          have ht3M : t3 + p ≤ M := by rw [Ht3.out]; omega
          have ht3i : (t3 : Int) ≤ (M : Int) := by omega
          have s3 : p ≤ M - t3 := by omega
          have hw6 : IntKind.i64.wrap ((t3 : Int) + (p : Int)) = (t3 : Int) + (p : Int) := by rw [IntKind.wrap_i64]; omega
          have HE : Hid (offs es (q + 1) = t3 + p) := by show _ = _; rw [HS.out, Ht3.out, Ht2.out, Ht1.out]; omega
          go_upto_region 20 with fail
          by_cases hM3 : M = t3
          · obtain rfl : p = 0 := by omega
            subst hM3
            go_region_law (refine step_copy_lay rfl (.tmp 115) (.tmp 120) 23 rfl Try.underlying23 size5 (some ⟨g, 0, none⟩) va 0 0 0 vc (by simp [Act.eval]) (by simp [Act.eval]) g M M _ VV hrI' Hp.out (fun h => absurd h (Nat.lt_irrefl _)) (Nat.le_refl _) ht3M hbvI ?_; intro w4 hr4 ho4')
            all_goals go_wp2_with fail
            all_goals go_roundw
            case rel => exact ⟨q + 1, _, by omega, by go_num, by rw [HE.out]; go_num, hr4, HNT.out, hOI.drew.andThen ho4' (fun i hi h => by omega)⟩
            case measure => simp [intOf]; omega
          · go_region_law (refine step_copy_lay rfl (.tmp 115) (.tmp 120) 23 rfl Try.underlying23 size5 (some ⟨g, t3, none⟩) va (M - t3) (M - t3) p vc (by simp [Act.eval]) (by simp [Act.eval]) g M t3 _ VV hrI' Hp.out (fun _ => rfl) s3 ht3M hbvI ?_; intro w4 hr4 ho4')
            all_goals go_wp2_with fail
            all_goals go_roundw
            case rel => exact ⟨q + 1, _, by omega, by go_num, by rw [HE.out]; go_num, hr4, HNT.out, hOI.drew.andThen ho4' (fun i hi h => by omega)⟩
            case measure => simp [intOf]; omega
        · have hqk : q = k := by omega
          subst hqk
          go_wp2_with fail
          go_ret
          exact ⟨g, M, f, rfl, hsg, hrow, by rw [← Hn.out]; exact hnt, by rw [← Hn.out, hT]; exact hTM, by omega, hO⟩

end Go.Proofs.Qxb6605965a
