import Derived.Test.Qxb6605965aW2
import Derived.Test.Qxb6605965aOrder
import Derived.Lib.BytesEntry
import Derived.WalkLawsBesides
namespace Go.Proofs.Qxb6605965a
open Go.RowKit Go.Maps

/-- The numbers of a list of bytes. -/
def numsB (l : List UInt8) : List Int := l.map fun x => (x.toNat : Int)
theorem numsB_len (l : List UInt8) : (numsB l).length = l.length := by simp [numsB]
theorem bytesOf_numsB (l : List UInt8) : Lib.bytesOf (numsB l) = l := by
  unfold Lib.bytesOf numsB
  rw [List.map_map]
  conv => rhs; rw [← List.map_id l]
  apply List.map_congr_left
  intro x _
  simp

/-- What the model's entries read off a slice of bytes. -/
theorem run_bytesOf {P : Program} {w : World} {a : Option Addr} {l : List UInt8} (h : BA w a l) (c : Nat) (hnil : a = none → l.length = 0) : (Extern.Bytes.bytesOf (.slice a l.length c)).run P w = .ok ⟨l.toArray⟩ w := by
  rcases h with h | ⟨b, off, rfl, hb, hc⟩
  · have e : l = [] := List.eq_nil_of_length_eq_zero h
    subst e
    cases a with
    | none => rfl
    | some ad => rfl
  · have hl := Lib.run_loadBytesX (P := P) w (numsB l) ⟨b, off, none⟩ .empty (fun j x hj => by
      have hjl : j < l.length := by have := (List.getElem?_eq_some_iff.1 hj).1; rw [numsB_len] at this; exact this
      rw [addr_add, hc j hjl]
      simp only [numsB, List.getElem?_map, List.getElem?_eq_getElem hjl, Option.map_some, Option.some.injEq] at hj
      subst hj
      simp [List.getD, hjl])
    rw [numsB_len, bytesOf_numsB] at hl
    have he : (⟨ByteArray.empty.data ++ l.toArray⟩ : ByteArray) = ⟨l.toArray⟩ := by
      apply ByteArray.ext
      show (#[] : Array UInt8) ++ l.toArray = l.toArray
      simp
    rw [he] at hl
    exact hl

/-- The entry internal/bytealg.Compare at two slices of bytes. -/
theorem run_compareB {P : Program} {w : World} {a a2 : Option Addr} {l l' : List UInt8} (h1 : BA w a l) (h2 : BA w a2 l') (c c2 : Nat) (hn1 : a = none → l.length = 0) (hn2 : a2 = none → l'.length = 0) :
    (Extern.BytealgCompare.compare #[.slice a l.length c, .slice a2 l'.length c2]).run P w = .ok (.int .i64 (Lib.compareBytes l l')) w := by
  change Sem.run P (do pure (goInt (Extern.BytealgCompare.cmp (← Extern.Bytes.bytesOf (.slice a l.length c)) (← Extern.Bytes.bytesOf (.slice a2 l'.length c2))))) w = _
  simp only [Sem.run_bind, run_bytesOf h1 c hn1, run_bytesOf h2 c2 hn2, Sem.run_pure, Result.andThen]
  rw [Lib.cmp_eq]
  rfl

set_option maxHeartbeats 1000000 in
set_option maxRecDepth 100000 in
theorem compare31 (a a2 : Option Addr) (n c n2 c2 : Nat) (l l' : List UInt8) (w : World) (h1 : BA w a l) (h2 : BA w a2 l') (hn : n = l.length) (hn2 : n2 = l'.length) (hnil : a = none → l.length = 0) (hnil2 : a2 = none → l'.length = 0) :
    Calls Try.prog 31 #[.slice a n c, .slice a2 n2 c2] w fun e w' => e = .returned (.int .i64 (Lib.compareBytes l l')) ∧ w' = w := by
  subst hn
  subst hn2
  go_enter Try.func31, Try.ntmps31
  go_wp2
  rw [run_callFunc_extern Try.func36 (by kernel_rfl) (by kernel_rfl) (by kernel_rfl) (e := Extern.BytealgCompare.compare) (by kernel_rfl), run_compareB h1 h2 c c2 hnil hnil2]
  simp only [Result.andThen]
  rw [Oper.upon_value]
  go_wp2
  go_ret
  exact ⟨rfl, rfl⟩

def Drawn (w : World) (v : Value) (e : Ending) (w' : World) : Prop := e = .returned v ∧ ∃ m, w' = w.drewN m
theorem Drawn.quiet {P : Program} {f : FuncId} {args : Array Value} {w : World} {n : Nat} {v : Value} (h : Calls P f args (w.drewN n) (Drawn (w.drewN n) v)) : Calls P f args (w.drewN n) fun e w'' => e = .returned v ∧ ∃ m, w'' = w.drewN m := Calls.quiet_of h
theorem Drawn.only {w : World} {v : Value} {e : Ending} {w' : World} (h : Drawn w v e w') : e = .returned v ∧ Only nothing w w' := by
  obtain ⟨h1, m, rfl⟩ := h
  exact ⟨h1, (Only.refl _ _).drewN m⟩

set_option maxHeartbeats 2000000 in
set_option maxRecDepth 100000 in
theorem compare20 (a a2 : Option Addr) (n c n2 c2 : Nat) (l l' : List UInt8) (w : World) (h1 : BA w a l) (h2 : BA w a2 l') (hn : n = l.length) (hn2 : n2 = l'.length) (hb : n ≤ 4611686018427387904) (hb2 : n2 ≤ 4611686018427387904) :
    Calls Try.prog 20 #[.slice a n c, .slice a2 n2 c2] w (Drawn w (.int .i64 (Lib.compareBytes l l'))) := by
  have Hn : Hid (n = l.length) := hn
  have Hn2 : Hid (n2 = l'.length) := hn2
  clear hn hn2
  by_cases hc : (n2 : Int) < n
  all_goals
    go_enter Try.func20, Try.ntmps20
    go_wp2
    go_loopw [6] (fun i wr => ∃ k m : Nat, k ≤ n ∧ k ≤ n2 ∧ i = .int .i64 k ∧ Hid (l.take k = l'.take k) ∧ wr = w.drewN m) (fun i _ => n - (intOf i).toNat)
    case atStart => exact ⟨0, 0, Nat.zero_le _, Nat.zero_le _, rfl, by show _ = _; simp, rfl⟩
    case round =>
      obtain ⟨k, m, hk, hk2, rfl, HT, rfl⟩ := hrel
      by_cases hlt : k < n ∧ k < n2
      · have hkl : k < l.length := by rw [← Hn.out]; exact hlt.1
        have hkl2 : k < l'.length := by rw [← Hn2.out]; exact hlt.2
        obtain ⟨b, off, hab, hbb, hce⟩ := h1.at hkl
        obtain ⟨b2, off2, hab2, hbb2, hce2⟩ := h2.at hkl2
        subst hab
        subst hab2
        have hcell := hce k hkl
        have hcell2 := hce2 k hkl2
        have hki : (k : Int) < (n : Int) := by omega
        have hki2 : (k : Int) < (n2 : Int) := by omega
        have HAt : Hid (l.getD k 0 ≠ l'.getD k 0 → Lib.compareBytes l l' = if l.getD k 0 < l'.getD k 0 then -1 else 1) := cb_at HT.out hkl hkl2
        have HT2 : Hid (l.getD k 0 = l'.getD k 0 → l.take (k + 1) = l'.take (k + 1)) := take_eq_succ HT.out hkl hkl2
        clear hce hce2 h1 h2 HT
        generalize l.getD k 0 = x at hcell HAt HT2
        generalize l'.getD k 0 = y at hcell2 HAt HT2
        by_cases hxy : x.toNat < y.toNat
        · have HR : Hid (Lib.compareBytes l l' = -1) := by
            show _ = _
            rw [HAt.out (fun e => by rw [e] at hxy; omega), if_pos (UInt8.lt_iff_toNat_lt.2 hxy)]
          have hd : (x.toNat : Int) < (y.toNat : Int) := by omega
          clear hxy
          generalize (x.toNat : Int) = X at hcell hd
          generalize (y.toNat : Int) = Y at hcell2 hd
          go_wp2_with fail
          go_quiet (fail)
          go_wp2_with fail
          go_ret
          exact ⟨by rw [HR.out]; rfl, _, World.drewN_drewN _ _ _⟩
        · have hd : decide ((x.toNat : Int) < (y.toNat : Int)) = false := decide_eq_false (by omega)
          by_cases hyx : y.toNat < x.toNat
          · have HR : Hid (Lib.compareBytes l l' = 1) := by
              show _ = _
              rw [HAt.out (fun e => by rw [e] at hyx; omega), if_neg (fun e => by rw [UInt8.lt_iff_toNat_lt] at e; omega)]
            have hd2 : (y.toNat : Int) < (x.toNat : Int) := by omega
            clear hxy hyx
            generalize (x.toNat : Int) = X at hcell hd hd2
            generalize (y.toNat : Int) = Y at hcell2 hd hd2
            go_wp2_with fail
            go_quiet (fail)
            go_wp2_with fail
            go_quiet (fail)
            go_wp2_with fail
            go_ret
            exact ⟨by rw [HR.out]; rfl, _, by rw [World.drewN_drewN, World.drewN_drewN]⟩
          · have hd2 : decide ((y.toNat : Int) < (x.toNat : Int)) = false := decide_eq_false (by omega)
            have HT3 : Hid (l.take (k + 1) = l'.take (k + 1)) := HT2.out (UInt8.toNat_inj.1 (by omega))
            clear hxy hyx
            generalize (x.toNat : Int) = X at hcell hd hd2
            generalize (y.toNat : Int) = Y at hcell2 hd hd2
            go_wp2_with fail
            go_quiet (fail)
            go_wp2_with fail
            go_quiet (fail)
            go_wp2_with fail
            go_roundw
            case rel => exact ⟨k + 1, _, by omega, by omega, by go_num, HT3, rfl⟩
            case measure => simp [intOf]; omega
      · have HE := cb_end HT.out (by rw [← Hn.out]; exact hk) (by rw [← Hn2.out]; exact hk2) (by rw [← Hn.out, ← Hn2.out]; omega)
        rw [← Hn.out, ← Hn2.out] at HE
        by_cases hnn : n < n2
        · have HR : Hid (Lib.compareBytes l l' = -1) := by show _ = _; rw [HE, if_pos hnn]
          clear HE
          have hkn : k = n := by omega
          subst hkn
          have hd : (k : Int) < (n2 : Int) := by omega
          first
            | (exfalso; omega)
            | (go_wp2_with fail
               go_ret
               exact ⟨by rw [HR.out]; rfl, _, rfl⟩)
        · by_cases hnn2 : n2 < n
          · have HR : Hid (Lib.compareBytes l l' = 1) := by show _ = _; rw [HE, if_neg hnn, if_pos hnn2]
            clear HE
            have hkn : k = n2 := by omega
            subst hkn
            have hd : (k : Int) < (n : Int) := by omega
            first
              | (exfalso; omega)
              | (go_wp2_with fail
                 go_ret
                 exact ⟨by rw [HR.out]; rfl, _, rfl⟩)
          · have HR : Hid (Lib.compareBytes l l' = 0) := by show _ = _; rw [HE, if_neg hnn, if_neg hnn2]
            clear HE
            have hkn : k = n2 := by omega
            have hkn' : k = n := by omega
            subst hkn
            subst hkn'
            first
              | (exfalso; omega)
              | (go_wp2_with fail
                 go_ret
                 exact ⟨by rw [HR.out]; rfl, _, rfl⟩)

end Go.Proofs.Qxb6605965a
