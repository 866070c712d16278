import Derived.Test.Qxb6605965aW7
import Derived.Test.Qxb6605965aCmp
import Derived.Test.Qxb6605965aShelfB
namespace Go.Proofs.Qxb6605965a
open Go.RowKit Go.Maps

def SortPost (w : World) (es : List Ent) (e : Ending) (w' : World) : Prop := ∃ b, e = .returned (.bool b) ∧ Only nothing w w' ∧ (b = true → Sorted es)

set_option maxHeartbeats 2000000 in
set_option maxRecDepth 100000 in
theorem nondec17 (a : Option Addr) (n c : Nat) (es : List Ent) (w : World) (hs : EntsAt w a es) (hn : n = es.length) (hb : n ≤ 1048576) (hg : ∀ j, j < n → Small (es.getD j d0)) :
    Calls Try.prog 17 #[.slice a n c] w (SortPost w es) := by
  have Hn : Hid (n = es.length) := hn
  clear hn
  go_enter Try.func17, Try.ntmps17
  go_wp2
  go_loopw [3] (fun i wr => ∃ k j : Nat, Hid (j = k + 1) ∧ k ≤ n ∧ i = .int .i64 j ∧ Hid (Steps es k) ∧ Only nothing w wr) (fun i _ => n + 1 - (intOf i).toNat)
  case atStart => exact ⟨0, 1, rfl, Nat.zero_le _, rfl, fun i hi => absurd hi (Nat.not_lt_zero _), .refl _ _⟩
  case round =>
    obtain ⟨k, j, Hj, hk, rfl, HS, ho⟩ := hrel
    have hj : j = k + 1 := Hj.out
    by_cases hlt : j < n
    · have hkl : k < es.length := by rw [← Hn.out]; omega
      have hjl : j < es.length := by rw [← Hn.out]; exact hlt
      obtain ⟨b, off, ka, kc, -, -, hab, hbb, hc1, -, hbk, -, -, -⟩ := hs.at hkl
      obtain ⟨b2, off2, ja, jc, -, -, hab2, -, hc2, -, hbj, -, -, -⟩ := hs.at hjl
      subst hab
      cases hab2
      have hgk := (hg k (by omega)).1
      have hgj := (hg j hlt).1
      have HS2 : Hid (Lib.compareBytes (es.getD k d0).1 (es.getD j d0).1 ≤ 0 → Steps es j) := fun h i hi => by
        by_cases e : i = k
        · subst e; rw [← hj]; exact h
        · exact HS.out i (by omega)
      have HN : Hid (¬ Lib.compareBytes (es.getD k d0).1 (es.getD j d0).1 ≤ 0 → ¬ Sorted es) := fun h hS => h (by have := hS k (by omega); rw [← hj] at this; exact this)
      have hjk : (j : Int) - 1 = (k : Int) := by omega
      have hwk : IntKind.i64.wrap (k : Int) = (k : Int) := by rw [IntKind.wrap_i64]; omega
      have hji : (j : Int) < (n : Int) := by omega
      have hki : (k : Int) < (n : Int) := by omega
      generalize (es.getD k d0).1 = K1 at hc1 hbk hgk HS2 HN
      generalize (es.getD j d0).1 = K2 at hc2 hbj hgj HS2 HN
      obtain ⟨p, Hp⟩ : ∃ p, Hid (p = K1.length) := ⟨_, rfl⟩
      obtain ⟨q, Hq⟩ : ∃ q, Hid (q = K2.length) := ⟨_, rfl⟩
      rw [← Hp.out] at hc1 hgk
      rw [← Hq.out] at hc2 hgj
      have hcell1 := (ho.cell (p := ⟨b, off + k * 2, none⟩) hbb (fun h => h)).trans hc1
      have hcell2 := (ho.cell (p := ⟨b, off + j * 2, none⟩) hbb (fun h => h)).trans hc2
      have hq : ∀ N, Calls Try.prog 20 #[.slice ka p kc, .slice ja q jc] (wr.drewN N) (Drawn (wr.drewN N) (.int .i64 (Lib.compareBytes K1 K2))) := fun N => compare20 ka ja p kc q jc K1 K2 (wr.drewN N) (hbk.only (ho.drewN N) (fun _ _ _ _ h => h)) (hbj.only (ho.drewN N) (fun _ _ _ _ h => h)) Hp.out Hq.out (by omega) (by omega)
      clear hs hg HS hj hc1 hc2
      by_cases hz : Lib.compareBytes K1 K2 ≤ 0
      · have HZ : Hid (Steps es j) := HS2.out hz
        have hd : decide ((0 : Int) < Lib.compareBytes K1 K2) = false := decide_eq_false (by omega)
        generalize Lib.compareBytes K1 K2 = z at hq hd
        clear hz HS2 HN
        go_wp2_with fail
        go_quiet ((go_at_call 20; exact Drawn.quiet (hq _)))
        go_wp2_with fail
        go_roundw
        case rel => exact ⟨j, j + 1, rfl, by omega, by go_num, HZ, ho.drewN _⟩
        case measure => simp [intOf]; omega
      · have hd : (0 : Int) < Lib.compareBytes K1 K2 := by omega
        generalize Lib.compareBytes K1 K2 = z at hq hd
        clear hz HS2 HN
        go_wp2_with fail
        go_quiet ((go_at_call 20; exact Drawn.quiet (hq _)))
        go_wp2_with fail
        go_ret
        exact ⟨false, rfl, ho.drewN _, fun h => by cases h⟩
    · have HR : Hid (Sorted es) := fun i hi => HS.out i (by rw [← Hn.out] at hi; omega)
      clear hj
      have hd : decide ((j : Int) < (n : Int)) = false := decide_eq_false (by omega)
      go_wp2_with fail
      go_ret
      exact ⟨true, rfl, ho, fun _ => HR.out⟩

/-- What the key of entry i of the node reads. -/
def KeyReadPost (w : World) (m : Nat) (K : List UInt8) (e : Ending) (w' : World) : Prop :=
  ∃ a, e = .returned (.slice (some a) m m) ∧ BA w' (some a) K ∧ Only nothing w w'

set_option maxHeartbeats 1000000 in
set_option maxRecDepth 100000 in
theorem key32 (g M n i m : Nat) (x : Int) (f : Nat → UInt8) (es : List Ent) (w : World) (h : NodeAt w g M f es) (hi : i < es.length) (hm : m = (keyOf es i).length) :
    Calls Try.prog 32 #[nodeV g M x n, .int .i64 i] w (KeyReadPost w m (keyOf es i)) := by
  have Hm : Hid (m = (keyOf es i).length) := hm
  clear hm
  have hO := (Only.refl nothing w).alloc (nodeO g M x n)
  have h1 := h.only hO
  obtain ⟨hr1, hr2⟩ := h.room hi
  obtain ⟨h4, hE⟩ := h.node i hi
  obtain ⟨p1, p2, p3, p4⟩ := enc_parts hE
  obtain ⟨cx0, cx1, cx2⟩ := nodeCells (w := w) (g := g) (M := M) (n := n) (x := x) (Only.refl nothing _)
  have hc := keyAt29 g M n i (offs es i) _ x f _ h1.row hr1 h4 p1 (by omega) h.small
  have HB : Hid (∀ w', Only nothing (w.alloc (nodeO g M x n)) w' → ∀ ad : Addr, (0 < m → ad = ⟨g, offs es i + (Lib.uvarint (es.getD i d0).1.length).length, none⟩) → BA w' (some ad) (keyOf es i)) := fun w' ho ad ha => (h1.only ho).row.ba p2 (by show _ + (es.getD i d0).1.length ≤ M; omega) (fun h => ha (by rw [Hm.out]; exact h))
  have e : (es.getD i d0).1.length = m := Hm.out.symm
  rw [e] at hc HB
  generalize keyOf es i = K at HB ⊢
  clear h h1 hr1 hr2 h4 hE p1 p2 p3 p4 e Hm
  generalize (Lib.uvarint m).length = L at hc HB
  generalize offs es i = o at hc HB
  go_enter Try.func32, Try.ntmps32
  go_wp2_with fail
  refine hc.mono ?_
  rintro e w1 ⟨a, rfl, ha, ho1⟩
  clear hc
  have hBA := HB.out w1 ho1 a ha
  have hOW := hO.andThen ho1 (fun i _ h => h)
  go_wp2_with fail
  go_ret
  exact ⟨a, rfl, hBA, hOW⟩

theorem BA.bytesIn {w : World} {a : Option Addr} {l : List UInt8} (h : BA w a l) : Lib.BytesIn w a l.length (numsB l) := fun hn => by
  obtain ⟨b, off, rfl, hb, hc⟩ := h.at hn
  refine ⟨b, off, rfl, fun i hi => ?_⟩
  rw [hc i hi]
  simp [numsB, List.getD, hi]

theorem equal33 (a a2 : Option Addr) (n c n2 c2 : Nat) (l l' : List UInt8) (w : World) (h1 : BA w a l) (h2 : BA w a2 l') (hn : n = l.length) (hn2 : n2 = l'.length) :
    Calls Try.prog 33 #[.slice a n c, .slice a2 n2 c2] w fun e w' => e = .returned (.bool (decide (l = l'))) ∧ w' = w := by
  subst hn
  subst hn2
  have h := Try.bytes_Equal_all a a2 l.length c l'.length c2 (numsB l) (numsB l') w (numsB_len l) (numsB_len l') h1.bytesIn h2.bytesIn
  rw [bytesOf_numsB, bytesOf_numsB] at h
  have e : (l == l') = decide (l = l') := by by_cases h : l = l' <;> simp [h]
  rw [e] at h
  exact h

def SearchPost (w : World) (es : List Ent) (K : List UInt8) (e : Ending) (w' : World) : Prop :=
  ∃ p : Nat, e = .returned (.tuple #[.int .i64 p, .bool (decide (p < es.length ∧ keyOf es p = K))]) ∧ Low es K p ∧ Only nothing w w'

set_option maxHeartbeats 2000000 in
set_option maxRecDepth 100000 in
theorem search27 (g M n : Nat) (x : Int) (f : Nat → UInt8) (es : List Ent) (ka : Option Addr) (kn kc : Nat) (K : List UInt8) (w : World) (h : NodeAt w g M f es) (hn : n = es.length) (hb : n ≤ 1048576) (hS : Sorted es)
    (hk : BA w ka K) (hkn : kn = K.length) (hnil : ka = none → K.length = 0) :
    Calls Try.prog 27 #[nodeV g M x n, .slice ka kn kc] w (SearchPost w es K) := by
  have Hn : Hid (n = es.length) := hn
  have HS : Hid (Sorted es) := hS
  have HK : Hid (kn = K.length) := hkn
  have hO := (Only.refl nothing w).alloc (nodeO g M x n)
  have h1 := h.only hO
  have hk1 := hk.only hO (fun _ _ _ _ h => h)
  obtain ⟨cx0, cx1, cx2⟩ := nodeCells (w := w) (g := g) (M := M) (n := n) (x := x) (Only.refl nothing _)
  clear hn hS hkn h hk
  go_enter Try.func27, Try.ntmps27
  go_wp2_with fail
  go_quiet (fail)
  go_wp2_with fail
  go_loopw [6, 7] (fun lo hi wr => ∃ p q : Nat, p ≤ q ∧ q ≤ n ∧ lo = .int .i64 p ∧ hi = .int .i64 q ∧ Hid (Lows es K p) ∧ Hid (Highs es K q) ∧ Only nothing (w.alloc (nodeO g M x n)) wr) (fun lo hi _ => (intOf hi).toNat - (intOf lo).toNat)
  case atStart => exact ⟨0, n, Nat.zero_le _, Nat.le_refl _, rfl, rfl, fun i hi => absurd hi (Nat.not_lt_zero _), fun i h1 h2 => absurd h1 (by have := Hn.out; omega), (Only.refl _ _).drewN _⟩
  case round =>
    clear cx0 cx1 cx2
    obtain ⟨p, q, hpq, hqn, rfl, rfl, HA, HB, ho⟩ := hrel
    obtain ⟨cx0, cx1, cx2⟩ := nodeCells ho
    by_cases hlt : p < q
    · obtain ⟨mid, Hmid⟩ : ∃ mid, Hid (mid = (p + q) / 2) := ⟨_, rfl⟩
      have hm1 : p ≤ mid := by rw [Hmid.out]; omega
      have hm2 : mid < q := by rw [Hmid.out]; omega
      have hmi : ((p : Int) + (q : Int)) / 2 = (mid : Int) := by rw [Hmid.out]; omega
      have hml : mid < es.length := by rw [← Hn.out]; omega
      obtain ⟨m, Hm⟩ : ∃ m, Hid (m = (keyOf es mid).length) := ⟨_, rfl⟩
      have hc32 := key32 g M n mid m x f es wr (h1.only ho) hml Hm.out
      have HA2 : Hid (Lib.compareBytes (keyOf es mid) K < 0 → Lows es K (mid + 1)) := fun h => HS.out.down hml h
      have HB2 : Hid (0 ≤ Lib.compareBytes (keyOf es mid) K → Highs es K mid) := fun h => HS.out.up (by omega)
      generalize keyOf es mid = KM at hc32 HA2 HB2 Hm
      have hlti : (p : Int) < (q : Int) := by omega
      go_wp2_with fail
      refine hc32.mono ?_
      rintro e w2 ⟨ad, rfl, hBA, ho2⟩
      have hO2 := ho.andThen ho2 (fun i _ h => h)
      have hc31 := compare31 (some ad) ka m m kn kc KM K w2 hBA (hk1.only hO2 (fun _ _ _ _ h => h)) Hm.out HK.out (fun h => by cases h) hnil
      clear hc32 ho2 cx0 cx1 cx2
      by_cases hz : Lib.compareBytes KM K < 0
      · have HA4 : Hid (Lows es K (mid + 1)) := HA2.out hz
        clear HA2 HB2
        generalize Lib.compareBytes KM K = z at hc31 hz
        go_wp2_with fail
        refine hc31.mono ?_
        rintro e w3 ⟨rfl, hw3⟩
        obtain rfl := hw3.symm
        clear hc31
        go_wp2_with fail
        go_roundw
        case rel => exact ⟨mid + 1, q, by omega, hqn, by go_num, rfl, HA4, HB, hO2⟩
        case measure => simp [intOf]; omega
      · have HB4 : Hid (Highs es K mid) := HB2.out (by omega)
        clear HA2 HB2
        have hd : decide (Lib.compareBytes KM K < 0) = false := decide_eq_false hz
        generalize Lib.compareBytes KM K = z at hc31 hz hd
        go_wp2_with fail
        refine hc31.mono ?_
        rintro e w3 ⟨rfl, hw3⟩
        obtain rfl := hw3.symm
        clear hc31
        go_wp2_with fail
        go_roundw
        case rel => exact ⟨p, mid, by omega, by omega, rfl, rfl, HA, HB4, hO2⟩
        case measure => simp [intOf]; omega
    · have hpq' : p = q := by omega
      subst hpq'
      have HL : Hid (Low es K p) := ⟨by rw [← Hn.out]; exact hqn, HA.out, HB.out⟩
      have hOW := hO.andThen ho (fun i _ h => h)
      by_cases hpn : p < n
      · have hpl : p < es.length := by rw [← Hn.out]; exact hpn
        obtain ⟨m, Hm⟩ : ∃ m, Hid (m = (keyOf es p).length) := ⟨_, rfl⟩
        have hc32 := key32 g M n p m x f es wr (h1.only ho) hpl Hm.out
        have hpi : (p : Int) < (n : Int) := by omega
        obtain ⟨KM, HKM⟩ : ∃ KM, Hid (KM = keyOf es p) := ⟨_, rfl⟩
        rw [← HKM.out] at hc32 Hm
        have HD : Hid (decide (p < es.length ∧ keyOf es p = K) = decide (KM = K)) := by
          show _ = _
          rw [HKM.out]
          by_cases h : keyOf es p = K
          · rw [decide_eq_true h, decide_eq_true ⟨hpl, h⟩]
          · rw [decide_eq_false h, decide_eq_false (fun x => h x.2)]
        go_wp2_with fail
        refine hc32.mono ?_
        rintro e w2 ⟨ad, rfl, hBA, ho2⟩
        have hO2 := ho.andThen ho2 (fun i _ h => h)
        have hc33 := equal33 (some ad) ka m m kn kc KM K w2 hBA (hk1.only hO2 (fun _ _ _ _ h => h)) Hm.out HK.out
        have hOW2 := hOW.andThen ho2 (fun i _ h => h)
        clear hc32 ho2 cx0 cx1 cx2 hO2 hOW
        generalize decide (KM = K) = bb at hc33 HD
        go_wp2_with fail
        refine hc33.mono ?_
        rintro e w3 ⟨rfl, hw3⟩
        obtain rfl := hw3.symm
        clear hc33
        go_wp2_with fail
        go_ret2
        exact ⟨p, by rw [HD.out]; simp, HL.out, hOW2⟩
      · have hd : decide ((p : Int) < (n : Int)) = false := decide_eq_false (by omega)
        have HD : Hid (decide (p < es.length ∧ keyOf es p = K) = false) := decide_eq_false (fun h => hpn (by rw [Hn.out]; exact h.1))
        go_wp2_with fail
        go_ret2
        exact ⟨p, by rw [HD.out]; simp, HL.out, hOW⟩

theorem search19 (g M n : Nat) (x : Int) (f : Nat → UInt8) (es : List Ent) (ka : Option Addr) (kn kc : Nat) (K : List UInt8) (w : World) (h : NodeAt w g M f es) (hn : n = es.length) (hb : n ≤ 1048576) (hS : Sorted es)
    (hk : BA w ka K) (hkn : kn = K.length) (hnil : ka = none → K.length = 0) :
    Calls Try.prog 19 #[.slice (some ⟨g, 0, none⟩) M M, .int .u8 x, .int .i64 n, .slice ka kn kc] w (SearchPost w es K) := by
  have hc := search27 g M n x f es ka kn kc K w h hn hb hS hk hkn hnil
  clear h hS hk hkn hnil hn hb
  go_enter Try.func19, Try.ntmps19
  go_wp2_with fail
  refine hc.mono ?_
  rintro e w1 ⟨p, rfl, hL, ho⟩
  have HL : Hid (Low es K p) := hL
  obtain ⟨bb, Hbb⟩ : ∃ bb, Hid (bb = decide (p < es.length ∧ keyOf es p = K)) := ⟨_, rfl⟩
  rw [← Hbb.out]
  clear hL hc
  go_wp2_with fail
  go_ret2
  exact ⟨p, by rw [← Hbb.out]; simp, HL.out, ho⟩

end Go.Proofs.Qxb6605965a
