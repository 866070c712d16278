import Derived.Test.Qxb6605965aW1
import Derived.OwnWalk
import Derived.Deep.Cut
import Derived.Deep.CutRange
import Derived.BigQuiet
import Derived.Deep.QuietTactic
namespace Go.Proofs.Qxb6605965a
open Go.RowKit Go.Maps

def RetO (w : World) (v : Value) (e : Ending) (w' : World) : Prop := e = .returned v ∧ Only nothing w w'

theorem take_eq_succ {l l' : List UInt8} {k : Nat} (h : l.take k = l'.take k) (h1 : k < l.length) (h2 : k < l'.length) (he : l.getD k 0 = l'.getD k 0) : l.take (k + 1) = l'.take (k + 1) := by
  rw [List.take_add_one, List.take_add_one, h]
  simp only [List.getD, List.getElem?_eq_getElem h1, List.getElem?_eq_getElem h2, Option.getD_some] at he
  rw [List.getElem?_eq_getElem h1, List.getElem?_eq_getElem h2, he]

set_option maxHeartbeats 1000000 in
theorem equal15 (a a2 : Option Addr) (n c n2 c2 : Nat) (l l' : List UInt8) (w : World) (h1 : BA w a l) (h2 : BA w a2 l') (hn : n = l.length) (hn2 : n2 = l'.length) (hb : n ≤ 4611686018427387904) :
    Calls Try.prog 15 #[.slice a n c, .slice a2 n2 c2] w (RetO w (.bool (decide (l = l')))) := by
  have Hn : Hid (n = l.length) := hn
  have Hn2 : Hid (n2 = l'.length) := hn2
  clear hn hn2
  by_cases hne : n = n2
  · subst hne
    go_enter Try.func15, Try.ntmps15
    go_wp2
    go_loopw [5] (fun i wr => ∃ k : Nat, k ≤ n ∧ i = .int .i64 k ∧ Hid (l.take k = l'.take k) ∧ Only nothing w wr) (fun i _ => n - (intOf i).toNat)
    case atStart => exact ⟨0, Nat.zero_le _, rfl, by show _ = _; simp, .refl _ _⟩
    case round =>
      obtain ⟨k, hk, rfl, HT, ho⟩ := hrel
      by_cases hlt : k < n
      · have hkl : k < l.length := by rw [← Hn.out]; exact hlt
        have hkl2 : k < l'.length := by rw [← Hn2.out]; exact hlt
        obtain ⟨b, off, hab, hbb, hc⟩ := h1.at hkl
        obtain ⟨b2, off2, hab2, hbb2, hc2⟩ := h2.at hkl2
        subst hab
        subst hab2
        have hcell := (ho.cell (p := ⟨b, off + k, none⟩) hbb (fun h => h)).trans (hc k hkl)
        have hcell2 := (ho.cell (p := ⟨b2, off2 + k, none⟩) hbb2 (fun h => h)).trans (hc2 k hkl2)
        have hki : (k : Int) < (n : Int) := by omega
        by_cases he : l.getD k 0 = l'.getD k 0
        · have HT2 : Hid (l.take (k + 1) = l'.take (k + 1)) := take_eq_succ HT.out hkl hkl2 he
          rw [← he] at hcell2
          clear hc hc2 h1 h2 HT he
          generalize l.getD k 0 = x at hcell hcell2
          go_wp2_with fail
          go_quiet (fail)
          go_wp2_with fail
          go_roundw
          case rel => exact ⟨k + 1, by omega, by go_num, HT2, ho.drewN _⟩
          case measure => simp [intOf]; omega
        · have HF : Hid (l ≠ l') := fun e => he (by rw [e])
          have hx : ((l.getD k 0).toNat : Int) ≠ ((l'.getD k 0).toNat : Int) := fun e => he (UInt8.toNat_inj.1 (by omega))
          clear hc hc2 h1 h2 HT he
          generalize ((l.getD k 0).toNat : Int) = x at hcell hx
          generalize ((l'.getD k 0).toNat : Int) = y at hcell2 hx
          have hxb : (x != y) = true := by rw [bne_iff_ne]; exact hx
          go_wp2_with fail
          go_quiet (fail)
          go_wp2_with fail
          go_ret
          exact ⟨by rw [decide_eq_false HF.out]; rfl, ho.drewN _⟩
      · have hkn : k = n := by omega
        subst hkn
        have HF : Hid (l = l') := by
          have h := HT.out
          have e1 : l.take k = l := by rw [Hn.out]; exact List.take_length
          have e2 : l'.take k = l' := by rw [Hn2.out]; exact List.take_length
          rw [e1, e2] at h
          exact h
        go_wp2_with fail
        go_ret
        exact ⟨by rw [decide_eq_true HF.out]; rfl, ho⟩
  · have HF : Hid (l ≠ l') := fun e => hne (by rw [Hn.out, Hn2.out, e])
    have hx : ((n : Int) != (n2 : Int)) = true := by rw [bne_iff_ne]; omega
    clear hne
    go_enter Try.func15, Try.ntmps15
    go_wp2
    go_ret
    exact ⟨by rw [decide_eq_false HF.out]; rfl, .refl _ _⟩

theorem info5 : (Try.prog.info? 5).map (fun i => (i.zero, i.size, i.bytes)) = some (some (.int .u8 0), 1, 1) := by kernel_rfl
theorem size5 : (Try.prog.info? 5).map (·.size) = some 1 := by kernel_rfl
def cellsB (l : List UInt8) : List Value := l.map fun b => .int .u8 b.toNat
theorem cellsB_len (l : List UInt8) : (cellsB l).length = l.length := by simp [cellsB]
theorem cellsB_get {l : List UInt8} {j : Nat} {v : Value} (h : (cellsB l)[j]? = some v) : j < l.length ∧ v = .int .u8 (l.getD j 0).toNat := by
  simp only [cellsB, List.getElem?_map, Option.map_eq_some_iff] at h
  obtain ⟨b, hb, rfl⟩ := h
  obtain ⟨hj, rfl⟩ := List.getElem?_eq_some_iff.1 hb
  exact ⟨hj, by simp [List.getD, hj]⟩

theorem addr_add (b off j : Nat) : (⟨b, off, none⟩ : Addr).add j = ⟨b, off + j, none⟩ := by
  unfold Addr.add
  split
  · rename_i h; subst h; rfl
  · rfl
theorem BA.src {w : World} {a : Option Addr} {l : List UInt8} (h : BA w a l) (hp : 0 < (cellsB l).length) : ∃ ad, a = some ad ∧ ∀ j v, (cellsB l)[j]? = some v → w.cell? (ad.add j) = some v := by
  rw [cellsB_len] at hp
  obtain ⟨b, off, rfl, hb, hc⟩ := h.at hp
  refine ⟨_, rfl, fun j v hj => ?_⟩
  obtain ⟨hj', rfl⟩ := cellsB_get hj
  rw [addr_add]
  exact hc j hj'
theorem cellsB_one {l : List UInt8} : ∀ v ∈ cellsB l, v.oneCell' = true := fun v hv => by
  obtain ⟨b, _, rfl⟩ := List.mem_map.1 hv
  rfl

def FreshB (w : World) (l : List UInt8) (e : Ending) (w' : World) : Prop :=
  ∃ a' c', e = .returned (.slice a' l.length c') ∧ Only nothing w w' ∧ BA w' a' l ∧ (∀ b o t, a' = some ⟨b, o, t⟩ → w.heap.size ≤ b ∧ b < w'.heap.size) ∧ (a' = none → l.length = 0)

set_option maxHeartbeats 1000000 in
theorem clone18 (a : Option Addr) (n c : Nat) (l : List UInt8) (w : World) (h1 : BA w a l) (hn : n = l.length) (hb : n ≤ 1048576) (hnil : a = none → n = 0) :
    Calls Try.prog 18 #[.slice a n c] w (FreshB w l) := by
  have Hn : Hid (n = l.length) := hn
  clear hn
  have hq := fun (w : World) (a : Option Addr) (n c : Nat) => Lib.run_eql_slice_nil (P := Try.prog) w 23 5 a n c 0 0 Try.underlying23
  cases a with
  | none =>
    obtain rfl := hnil rfl
    go_enter Try.func18, Try.ntmps18
    go_wp2
    go_ret
    exact ⟨none, 0, by rw [← Hn.out]; rfl, .refl _ _, .inl Hn.out.symm, (fun b o t e => by cases e), fun _ => Hn.out.symm⟩
  | some ad =>
    have hmk := run_make_row' (P := Try.prog) 23 5 _ 1 Try.underlying23 info5 rfl .i64 .i64 n (by omega) (by omega)
    go_enter Try.func18, Try.ntmps18
    go_upto_region 4 with fail
    go_upto_region 5 with (refine wpList_copy_splice rfl (.tmp 9) (.tmp 10) 23 23 rfl 5 Try.underlying23 size5 (some ⟨w.heap.size, 0, none⟩) (some ad) n n n c rfl rfl w.heap.size 0 (madeCells #[.int .u8 0] n).toList 5 ?c1 (cellsB l) ?c2 ?c3 ?c4 ?c5 w.heap.size w ?c6 (Nat.le_refl _) ?_)
    case c1 => rw [heap_alloc_new]
    case c2 => rw [cellsB_len, ← Hn.out]; simp
    case c3 =>
      intro hp
      obtain ⟨ad', e, h⟩ := (h1.only ((Only.refl nothing w).alloc _) (fun _ _ _ _ h => h)).src hp
      cases e
      exact h
    case c4 => simp [size_madeCells, cellsB_len, ← Hn.out]
    case c5 => exact cellsB_one
    case c6 => exact ((Only.refl nothing w).alloc _).below (Nat.le_refl _) (fun _ _ h => h)
    intro w1 HH hbl
    have hO : Only nothing w w1 := .of_below hbl (fun k hk hk2 => absurd hk (by omega))
    have HB : Hid (w1.heap[w.heap.size]? = some (.cells (cellsB l).toArray 5 (0, 0))) := by
      have h := HH.out
      have e : splice (madeCells #[.int .u8 0] n).toList 0 (cellsB l) = cellsB l := by
        unfold splice
        rw [List.take_zero, List.nil_append, List.drop_eq_nil_of_le (by simp [size_madeCells, cellsB_len, ← Hn.out]), List.append_nil]
      rw [e] at h
      exact h
    clear HH hmk hq h1
    go_wp2
    go_ret
    refine ⟨some ⟨w.heap.size, 0, none⟩, n, by rw [← Hn.out]; rfl, hO, .inr ⟨_, 0, rfl, (Array.getElem?_eq_some_iff.1 HB.out).1, fun j hj => ?_⟩, (fun b o t e => by cases e; exact ⟨Nat.le_refl _, (Array.getElem?_eq_some_iff.1 HB.out).1⟩), fun e => by cases e⟩
    have hB := HB.out
    simp [World.cell?, hB, cellsB, hj]

end Go.Proofs.Qxb6605965a
