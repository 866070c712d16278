import Derived.Test.Qxb6605849aDoorBytes
import Derived.Test.Qxb6605849aDoorRead
import Derived.Deep.CutRange
namespace Go.Proofs.Qxb6605849aDoor
open Go.RowKit Go.Maps Go.WideMaps

def TruePost (w : World) (e : Ending) (w' : World) : Prop := e = .returned (.bool true) ∧ Only nothing w w'

theorem row_only {S0 : Nat → Prop} {w w' : World} {base k : Nat} {v : Value} {xs : List Value} (h : w.ownsRow base 20 1 v k xs) (ho : Only S0 w w') (hs : ∀ i, base ≤ i → ¬ S0 i) : w'.ownsRow base 20 1 v k xs := by
  obtain ⟨h1, h2⟩ := h
  refine ⟨h1, ?_⟩
  rcases h2 with h2 | ⟨g, cap, cur, hv, hg, hh, r⟩
  · exact .inl h2
  · exact .inr ⟨g, cap, cur, hv, hg, (ho.block g (Array.getElem?_eq_some_iff.1 hh).1 (hs g hg)).trans hh, r⟩

/-- The fields that hold an enum alone. -/
abbrev De (v : Value) : DataW Value := (DataW.map []).put (kLit enumB) (.held v)
theorem De_put (a b : Value) : (De a).put (kLit enumB) (.held b) = De b := by
  simp [DataW.put, DataW.insert, Lit.sameKey]
theorem De_at (v : Value) : (De v).atKey (kLit enumB) (.held .nilIface) = .held v := atKey_put_same isMap_empty (key_lit _) _ _
theorem hide {p : Prop} (h : p) : Hid p := h
theorem unhide {p : Prop} (h : Hid p) : p := h
theorem ne_te : kLit typeB ≠ kLit enumB := by intro h; simp at h
theorem ne_ce : kLit constB ≠ kLit enumB := by intro h; simp at h
theorem ne_tc : kLit typeB ≠ kLit constB := by intro h; simp at h
theorem De_type (v : Value) : has (De v) (kLit typeB) = false := by
  rw [has_put_other ne_te]; rfl
theorem De_const (v : Value) : has (De v) (kLit constB) = false := by
  rw [has_put_other ne_ce]; rfl
/-- The constant as an interface value. -/
def cval (ct : Bool) (cx : ByteArray) (cf : Nat) : Value := if ct then .iface 9 (.string cx) else .iface 24 (.float .f64 cf)

/-- What the reader of the enum hands back. -/
def Enum30 (w4 : World) (he : Bool) (k S : Nat) (tt : Nat → Bool) (xx : Nat → ByteArray) (ff : Nat → Nat) (en : Option Addr) (s18 s19 : Value) : Prop :=
  (he = false ∧ s18 = .int .i64 0 ∧ s19 = .map none) ∨ (he = true ∧ ∃ v E m, s18 = .int .i64 k ∧ s19 = .map m ∧ en = some ⟨E, 0, none⟩ ∧ EnIs w4 E v m ∧ MapIs w4 m k (DT tt xx k) ∧ (m = none ↔ ∀ i, i < k → tt i = false) ∧ w4.ownsRow (S + 3) 20 1 v k ((List.range k).map (ifv tt xx ff)))

set_option maxHeartbeats 2000000 in
set_option maxRecDepth 100000 in
theorem law3 (d : Int) (he hc : Bool) (a : Option Addr) (n c : Nat) (tt : Nat → Bool) (xx : Nat → ByteArray) (ff : Nat → Nat) (s : ByteArray) (ct : Bool) (cx : ByteArray) (cf : Nat) (w : World) (hp : ValsAt w a n tt xx ff)
    (hxx : ∀ i, i < n → (xx i).size ≤ 9223372036854775807) (hs : s.size ≤ 9223372036854775807) (hcx : cx.size ≤ 9223372036854775807) (hnil : a = none → n = 0) :
    Calls Tryd.prog 3 #[.int .i16 d, .bool he, .slice a n c, .string s, .bool hc, .agg #[.bool ct, .string cx, .float .f64 cf]] w (TruePost w) := by
  have ho0 := (Only.refl nothing w).alloc (.cells #[.bool ct, .string cx, .float .f64 cf] 26)
  have hbox : (w.alloc (.cells #[.bool ct, .string cx, .float .f64 cf] 26)).heap[w.heap.size]? = some (.cells #[.bool ct, .string cx, .float .f64 cf] 26) := heap_new _ _
  have hp0 := hp.only ho0 (fun _ _ _ _ h => h)
  go_enter Tryd.func3, Tryd.ntmps3
  go_wp2_with fail
  refine (bytes4 d he hc a n c tt xx ff s ct cx cf _ hp0 hxx hs hcx).mono ?_
  rintro e w1 ⟨b, rfl, ho1, hb⟩
  have hox := ho0.andThen ho1 (fun i _ h => h)
  cases b with
  | false =>
    go_wp2_with fail
    go_ret
    exact ⟨rfl, hox⟩
  | true =>
  obtain ⟨hn1, hl1, hs1, hcx1⟩ := hb rfl
  have hbox1 := (ho1.block _ (by simp) (fun h => h)).trans hbox
  have hp1 := hp0.only ho1 (fun _ _ _ _ h => h)
  obtain ⟨B0, hB0⟩ : ∃ B, B = w.heap.size := ⟨_, rfl⟩
  rw [← hB0] at hbox1 ⊢
  have b0 := (cell_of_heap hbox1 0).trans rfl
  have b1 := (cell_of_heap hbox1 1).trans rfl
  have b2 := (cell_of_heap hbox1 2).trans rfl
  clear hb hbox ho0 ho1 hp hp0 hB0
  by_cases hbig : (65536 : Int) < n
  · go_wp2_with fail
    go_ret
    exact ⟨rfl, hox⟩
  have hbd : decide ((65536 : Int) < n) = false := decide_eq_false hbig
  by_cases hbig2 : (65536 : Int) < s.size
  · go_wp2_with fail
    go_ret
    exact ⟨rfl, hox⟩
  have hbd2 : decide ((65536 : Int) < s.size) = false := decide_eq_false hbig2
  by_cases hbig3 : (65536 : Int) < cx.size
  · go_wp2_with fail
    go_ret
    exact ⟨rfl, hox⟩
  have hbd3 : decide ((65536 : Int) < cx.size) = false := decide_eq_false hbig3
  go_wp2_with fail
  clear hbd hbd2 hbd3
  go_loop [13, 14] (fun t i => ∃ k : Nat, k ≤ n ∧ i = .int .i64 k ∧ t = .int .i64 (32 * n + s.size + cx.size + sums xx k : Nat)) (fun _ i => n - (intOf i).toNat)
  case atStart => exact ⟨0, Nat.zero_le _, rfl, by simp [sums]⟩
  case round =>
    obtain ⟨k, hk, rfl, rfl⟩ := hrel
    have hle2 := sums_mono xx k n hk
    by_cases hlt : k < n
    · obtain ⟨b, off, rfl, hb, hcl⟩ := hp1.at (k := k) hlt
      have hcell := (hcl k hlt).2.1
      have hsn : Hid (sums xx (k + 1) = sums xx k + (xx k).size) := rfl
      have hle3 := sums_mono xx (k + 1) n hlt
      rw [hsn.out] at hle3
      generalize xx k = t at hcell hsn hle3
      generalize hL : sums xx k = L at hsn hle2 hle3 ⊢
      clear hcl hp1 hxx hL
      go_wp2_with fail
      · go_ret; exact ⟨rfl, hox⟩
      · go_round
        case rel => exact ⟨k + 1, by omega, by go_num, by rw [hsn.out]; go_num⟩
        case measure => simp [intOf]; omega
    · have hkn : k = n := by omega
      subst hkn
      generalize hL : sums xx k = L at hl1 ⊢
      clear hle2 hL
      by_cases htot : (1048576 : Int) < 32 * (k : Int) + (s.size : Int) + (cx.size : Int) + (L : Int)
      · go_wp2_with fail
        go_ret; exact ⟨rfl, hox⟩
      go_wp2_with fail
      refine (clone5 a k c tt xx ff w1 hp1 hn1 hnil).mono ?_
      rintro e w2 ⟨a', c', rfl, ho2, hv2⟩
      have hoy := hox.andThen ho2 (fun i _ h => h)
      have hbox2 := (ho2.block _ (Array.getElem?_eq_some_iff.1 hbox1).1 (fun h => h)).trans hbox1
      clear hp1 ho2 hox b0 b1 b2 hbox1 htot hnil
      go_wp2_with fail
      refine (new6 d w2).mono ?_
      rintro e w3 ⟨rfl, hsch, hmap, hkw, ho3, hsz3⟩
      have hf3 : FOwns w3 (w2.heap.size + 1) 0 (.map []) := fowns_made hmap
      clear hmap
      go_upto_if 85 with fail
      obtain ⟨S, hS⟩ : ∃ S, S = w2.heap.size := ⟨_, rfl⟩
      have HS : Hid (S = w2.heap.size) := hS
      have hS3 : S + 3 = w3.heap.size := by omega
      rw [← hS] at hsch hkw hf3 ⊢
      clear hS hsz3
      go_cut [] from 85 to 85 (fun wx => ∃ n1 ven, n1 ≤ k + 1 ∧ SchIs wx S none none d ∧ KwIs wx (S + 2) S (S + 1) ∧ FOwns wx (S + 1) n1 (De ven) ∧ EnumIn wx (S + 3) ven k tt xx ff ∧ Only nothing w2 wx ∧ S + 3 ≤ wx.heap.size ∧ (he = true → ∃ v, ven = .iface 71 v) ∧ (he = false → ven = .iface 9 (.string s)))
      case first =>
        cases he with
        | false =>
          go_wp2_with fail
          refine (set10 (S + 2) S (S + 1) 0 (.map []) enumB s w3 hkw hf3 (by decide) (by decide)).mono ?_
          rintro e w4 ⟨rfl, hf4, ho4⟩
          go_wp2_with fail
          go_meet
          case rel => exact ⟨1, _, by omega, hsch.only ho4 (by omega), hkw.only ho4 (by omega), hf4, .inl ⟨_, rfl⟩, ho3.andThen ho4 (fun i hi h => by have := HS.out; omega), by have := ho4.size; omega, fun h => (by cases h), fun _ => rfl⟩
        | true =>
          go_wp2_with fail
          refine (set7 (S + 2) S (S + 1) 0 (S + 3) (.map []) enumB w3 hkw hf3 (by decide) (by decide) (by omega)).mono ?_
          rintro e w4 ⟨rfl, v4, hf4, hr4, ho4⟩
          have hsch4 := hsch.only ho4 (by omega)
          have hkw4 := hkw.only ho4 (by omega)
          have ho4' := ho3.andThen ho4 (fun i hi h => by have := HS.out; omega)
          have hsz4 : S + 3 ≤ w4.heap.size := by have := ho4.size; omega
          clear ho4 hsch hkw hf3 ho3
          go_wp2_with fail
          go_loopw [16] (fun i wr => ∃ (j : Nat) (v : Value), j ≤ k ∧ i = .int .i64 j ∧ SchIs wr S none none d ∧ KwIs wr (S + 2) S (S + 1) ∧ FOwns wr (S + 1) (j + 1) (De (.iface 71 v)) ∧ wr.ownsRow (S + 3) 20 1 v j ((List.range j).map (ifv tt xx ff)) ∧ Only nothing w2 wr ∧ S + 3 ≤ wr.heap.size)
            (fun i _ => k - (intOf i).toNat)
          case atStart => exact ⟨0, v4, Nat.zero_le _, rfl, hsch4, hkw4, hf4, hr4, ho4', hsz4⟩
          case round =>
            obtain ⟨j, v, hj, rfl, hsch, hkw, hf, hr, ho, hsz⟩ := hrel
            by_cases hlt2 : j < k
            · obtain ⟨b, off, rfl, hb, hcl⟩ := hv2.at (k := j) hlt2
              have hcell0 := (ho.cell (p := ⟨b, off + j * 3, none⟩) hb (fun h => h)).trans (hcl j hlt2).1
              have hcell1 := (ho.cell (p := ⟨b, off + j * 3 + 1, none⟩) hb (fun h => h)).trans (hcl j hlt2).2.1
              have hcell2 := (ho.cell (p := ⟨b, off + j * 3 + 2, none⟩) hb (fun h => h)).trans (hcl j hlt2).2.2
              clear hcl
              cases htj : tt j with
              | true =>
                have hif : Hid ((List.range (j + 1)).map (ifv tt xx ff) = (List.range j).map (ifv tt xx ff) ++ [.iface 9 (.string (xx j))]) := by
                  unfold Hid; rw [List.range_succ, List.map_append]; simp [ifv, htj]
                rw [htj] at hcell0
                clear htj
                go_wp2_with fail
                refine (append8 (S + 2) S (S + 1) (j + 1) (S + 3) j (De (.iface 71 v)) enumB (xx j) v _ wr hkw hf (by unfold maxLen; omega) (by decide) (De_at _) hr hsz (by omega)).mono ?_
                rintro e w5 ⟨rfl, v5, hf5, hr5, ho5⟩
                go_wp2_with fail
                go_roundw
                case rel =>
                  rw [De_put] at hf5
                  exact ⟨j + 1, v5, by omega, by go_num, hsch.only ho5 (by omega), hkw.only ho5 (by omega), hf5, by rw [hif.out]; exact hr5, ho.andThen ho5 (fun i hi h => by have := HS.out; omega), by have := ho5.size; omega⟩
                case measure => simp [intOf]; omega
              | false =>
                have hif : Hid ((List.range (j + 1)).map (ifv tt xx ff) = (List.range j).map (ifv tt xx ff) ++ [.iface 24 (.float .f64 (ff j))]) := by
                  unfold Hid; rw [List.range_succ, List.map_append]; simp [ifv, htj]
                rw [htj] at hcell0
                clear htj
                go_wp2_with fail
                refine (append9 (S + 2) S (S + 1) (j + 1) (S + 3) j (De (.iface 71 v)) enumB (ff j) v _ wr hkw hf (by unfold maxLen; omega) (by decide) (De_at _) hr hsz (by omega)).mono ?_
                rintro e w5 ⟨rfl, v5, hf5, hr5, ho5⟩
                go_wp2_with fail
                go_roundw
                case rel =>
                  rw [De_put] at hf5
                  exact ⟨j + 1, v5, by omega, by go_num, hsch.only ho5 (by omega), hkw.only ho5 (by omega), hf5, by rw [hif.out]; exact hr5, ho.andThen ho5 (fun i hi h => by have := HS.out; omega), by have := ho5.size; omega⟩
                case measure => simp [intOf]; omega
            · have hjk : j = k := by omega
              subst hjk
              go_wp2_with fail
              go_meet
              case rel => exact ⟨j + 1, _, by omega, hsch, hkw, hf, .inr ⟨v, rfl, hr⟩, ho, hsz, fun _ => ⟨v, rfl⟩, fun h => by cases h⟩
      case rest =>
        obtain ⟨n1, ven, hn1', hschA, hkwA, hfA, hinA, hoA, hszA, hve, hvt⟩ := hcut
        obtain ⟨wA, rfl⟩ : ∃ wA, wA = wc := ⟨_, rfl⟩
        have hboxA := (hoA.block _ (Array.getElem?_eq_some_iff.1 hbox2).1 (fun h => h)).trans hbox2
        have b0 := (cell_of_heap hboxA 0).trans rfl
        have b1 := (cell_of_heap hboxA 1).trans rfl
        have b2 := (cell_of_heap hboxA 2).trans rfl
        clear hsch hkw hf3 ho3
        go_upto_if 116 with fail
        go_cut [] from 116 to 116 (fun wx => ∃ n2 D2 vc, n2 ≤ k + 2 ∧ SchIs wx S none none d ∧ KwIs wx (S + 2) S (S + 1) ∧ FOwns wx (S + 1) n2 D2 ∧ has D2 (kLit typeB) = false ∧ D2.atKey (kLit enumB) (.held .nilIface) = .held ven ∧ has D2 (kLit constB) = hc ∧ D2.atKey (kLit constB) (.held .nilIface) = .held vc ∧ (hc = true → vc = cval ct cx cf) ∧ EnumIn wx (S + 3) ven k tt xx ff ∧ Only nothing w2 wx)
        case first =>
          cases hc with
          | false =>
            go_wp2_with fail
            go_meet
            case rel => exact ⟨n1, De ven, .nilIface, by omega, hschA, hkwA, hfA, De_type _, De_at _, De_const _, atKey_of_not_has (De_const _) _, fun h => (by cases h), hinA, hoA⟩
          | true =>
            have fin : ∀ wx, SetPost wA (S + 1) n1 (De ven) constB (cval ct cx cf) (.returned (.tuple #[])) wx → ∃ n2 D2 vc, n2 ≤ k + 2 ∧ SchIs wx S none none d ∧ KwIs wx (S + 2) S (S + 1) ∧ FOwns wx (S + 1) n2 D2 ∧ has D2 (kLit typeB) = false ∧ D2.atKey (kLit enumB) (.held .nilIface) = .held ven ∧ has D2 (kLit constB) = true ∧ D2.atKey (kLit constB) (.held .nilIface) = .held vc ∧ (true = true → vc = cval ct cx cf) ∧ EnumIn wx (S + 3) ven k tt xx ff ∧ Only nothing w2 wx := by
              rintro wx ⟨-, hf5, ho5⟩
              refine ⟨n1 + 1, _, _, by omega, hschA.only ho5 (by omega), hkwA.only ho5 (by omega), hf5, ?_, ?_, has_put_same ((isMap_empty).put _ _) (key_lit _) _, atKey_put_same ((isMap_empty).put _ _) (key_lit _) _ _, fun _ => rfl, ?_, hoA.andThen ho5 (fun i hi h => by have := HS.out; omega)⟩
              · rw [has_put_other ne_tc]; exact De_type _
              · rw [atKey_put_other ne_ce.symm]; exact De_at _
              · rcases hinA with h | ⟨v, h, hr⟩
                · exact .inl h
                · exact .inr ⟨v, h, row_only hr ho5 (fun i hi h => by omega)⟩
            have HFin := hide fin
            clear fin
            cases ct with
            | true =>
              go_wp2_with fail
              refine (set10 (S + 2) S (S + 1) n1 (De ven) constB cx wA hkwA hfA (by unfold maxLen; omega) (by decide)).mono ?_
              rintro e w5 h5
              have he5 := h5.1
              subst he5
              go_wp2_with fail
              go_meet
              case rel => exact unhide HFin w5 h5
            | false =>
              go_wp2_with fail
              refine (set11 (S + 2) S (S + 1) n1 (De ven) constB cf wA hkwA hfA (by unfold maxLen; omega) (by decide)).mono ?_
              rintro e w5 h5
              have he5 := h5.1
              subst he5
              go_wp2_with fail
              go_meet
              case rel => exact unhide HFin w5 h5
        case rest =>
          obtain ⟨n2, D2, vc, hn2, hschB, hkwB, hfB, hty, hen, hhc, hvc, hcv, hinB, hoB⟩ := hcut
          obtain ⟨wB, rfl⟩ : ∃ wB, wB = wc := ⟨_, rfl⟩
          clear hschA hkwA hfA hinA hoA hszA hboxA b0 b1 b2
          go_wp2_with fail
          refine (read12 (S + 2) S (S + 1) n2 (S + 3) k D2 d ven tt xx ff hc vc wB hkwB hschB hfB hty hen hhc hvc hinB (by omega) (by omega) (by omega) hn1 hxx (fun h => by rw [hcv h]; unfold cval; cases ct <;> exact ⟨_, _, rfl⟩)).mono ?_
          rintro e w4 ⟨rfl, cc, en, hsch, hkw, hok, ho4, hcon⟩
          have hin4 : he = true → ∃ v E m, en = some ⟨E, 0, none⟩ ∧ EnIs w4 E v m ∧ MapIs w4 m k (DT tt xx k) ∧ (m = none ↔ ∀ i, i < k → tt i = false) ∧ w4.ownsRow (S + 3) 20 1 v k ((List.range k).map (ifv tt xx ff)) := by
            intro h
            obtain ⟨v, hv⟩ := hve h
            rcases hok with ⟨s, h1, -⟩ | ⟨v1, E, m, h1, h2, h3, h4, h5, -, -⟩
            · rw [hv] at h1; cases h1
            rw [hv] at h1
            cases h1
            rcases hinB with ⟨s, h6⟩ | ⟨v2, h6, h7⟩
            · rw [hv] at h6; cases h6
            rw [hv] at h6
            cases h6
            exact ⟨v, E, m, h2, h3, h4, h5, row_only h7 ho4 (fun i hi h => by omega)⟩
          have hin5 : he = false → en = none := by
            intro h
            rcases hok with ⟨s, -, h2⟩ | ⟨v1, E, m, h1, -⟩
            · exact h2
            · rw [hvt h] at h1; cases h1
          have hcon4 : ((hc && decide (6 ≤ d)) = false ∧ cc = none) ∨ ((hc && decide (6 ≤ d)) = true ∧ ∃ C, cc = some ⟨C, 0, none⟩ ∧ w4.cell? ⟨C, 0, none⟩ = some (cval ct cx cf) ∧ C < w4.heap.size) := by
            rcases hcon with h | ⟨h1, C, h2, h3, -, h5⟩
            · exact .inl h
            · refine .inr ⟨h1, C, h2, ?_, h5⟩
              rw [h3, hcv (by simpa using (Bool.and_eq_true _ _ ▸ h1).1)]
          have ho24 := hoB.andThen ho4 (fun i hi h => by have := HS.out; omega)
          have hbox4 := (ho24.block _ (Array.getElem?_eq_some_iff.1 hbox2).1 (fun h => h)).trans hbox2
          have hv4 := hv2.only ho24 (fun _ _ _ _ h => h)
          have hoz := hoy.andThen ho24 (fun i _ h => h)
          clear hcon hok hinB hoB hschB hkwB hfB hty hen hhc hvc hcv hve hvt ho4 ho24 hv2 hoy HS hbox2 hS3
          go_upto_region 30 with fail
          go_cut [17, 18, 19] from 129 to 129 (fun s17 s18 s19 wx => (∃ nq, wx = w4.drewN nq) ∧ s17 = .bool he ∧ Enum30 w4 he k S tt xx ff en s18 s19)
          case first =>
            cases he with
            | false =>
              obtain rfl := hin5 rfl
              go_wp2_with fail
              refine (enum13_no (S + 2) S (S + 1) cc d w4 hkw hsch).mono ?_
              rintro e w5 ⟨rfl, h5⟩
              obtain rfl := h5.symm
              go_wp2_with fail
              go_meet
              case rel => exact ⟨⟨0, rfl⟩, rfl, .inl ⟨rfl, rfl, rfl⟩⟩
            | true =>
              obtain ⟨v, E, m, rfl, h3, h4, h5, h6⟩ := hin4 rfl
              obtain ⟨va, vcap, rfl, -⟩ := row_form h6
              go_wp2_with fail
              refine (enum13_yes (S + 2) S (S + 1) E k vcap va cc m d w4 hkw hsch h3).mono ?_
              rintro e w5 ⟨rfl, nq, h9⟩
              obtain rfl := h9.symm
              go_wp2_with fail
              go_meet
              case rel => exact ⟨⟨nq, rfl⟩, rfl, .inr ⟨rfl, _, E, m, rfl, rfl, rfl, h3, h4, h5, h6⟩⟩
          case rest =>
            obtain ⟨⟨nq, hwx⟩, rfl, hcut⟩ := hcut
            obtain ⟨w5, rfl⟩ : ∃ w5, w5 = wc := ⟨_, rfl⟩
            have ho45 : Only nothing w4 w5 := by rw [hwx]; exact (Only.refl _ w4).drewN nq
            have hsz45 : w5.heap = w4.heap := by rw [hwx]; rfl
            clear hin4 hin5 hwx
            go_upto_if 138 with fail
            go_cut [] from 138 to 138 (fun wx => Only nothing w5 wx)
            case first =>
              rcases hcut with ⟨rfl, rfl, rfl⟩ | ⟨rfl, v, E, m, rfl, rfl, rfl, hene, hmap, hnone, hrow⟩
              · go_wp2_with fail
                go_meet
                case rel => exact .refl _ _
              · have hmm := @run_makeMap Tryd.prog
                obtain ⟨va, vcap, rfl, -⟩ := row_form hrow
                have hsch5 := hsch.only ho45 (fun h => h)
                have hkw5 := hkw.only ho45 (fun h => h)
                have hene5 := hene.only ho45 (fun h => h)
                have hmap5 := hmap.only ho45 (fun _ _ h => h)
                have hrow5 := row_only hrow ho45 (fun _ _ h => h)
                have hmlt : ∀ q, m = some q → q < w5.heap.size := fun q hq => by
                  rcases hmap5 with ⟨h, -⟩ | ⟨b', h, hown⟩
                  · rw [h] at hq; cases hq
                  · rw [h] at hq; cases hq; exact hown.lt
                have hv5 := hv4.only ho45 (fun _ _ _ _ h => h)
                clear hsch hkw hene hmap hrow hv4 ho45 hsz45 hcon4 hbox4
                have hkk0 : ((k : Int) != (k : Int)) = false := by simp
                go_wp2_with fail
                go_loopw [21] (fun i wr => ∃ t : Nat, t ≤ k ∧ i = .int .i64 t ∧ Owns wr w5.heap.size t (DT tt xx t) ∧ Only nothing w5 wr) (fun i _ => k - (intOf i).toNat)
                case atStart => exact ⟨0, Nat.zero_le _, rfl, World.ownsMap_made _ _ _ _, (Only.refl _ _).alloc _⟩
                case round =>
                  obtain ⟨t, ht, rfl, hd, hod⟩ := hrel
                  by_cases hlt3 : t < k
                  · obtain ⟨b, off, rfl, hb, hcl⟩ := hv5.at (k := t) hlt3
                    have hcell0 := (hod.cell (p := ⟨b, off + t * 3, none⟩) hb (fun h => h)).trans (hcl t hlt3).1
                    have hcell1 := (hod.cell (p := ⟨b, off + t * 3 + 1, none⟩) hb (fun h => h)).trans (hcl t hlt3).2.1
                    have hcell2 := (hod.cell (p := ⟨b, off + t * 3 + 2, none⟩) hb (fun h => h)).trans (hcl t hlt3).2.2
                    have hschr := hsch5.only hod (fun h => h)
                    have hkwr := hkw5.only hod (fun h => h)
                    have hener := hene5.only hod (fun h => h)
                    have hmapr := hmap5.only hod (fun _ _ h => h)
                    have hrowr := row_only hrow5 hod (fun _ _ h => h)
                    rcases hrowr.2 with ⟨h, hk0⟩ | ⟨g, cap, cur, hvv, hbg, hh, -⟩
                    · omega
                    simp only [Value.slice.injEq] at hvv
                    obtain ⟨rfl, -, rfl⟩ := hvv
                    have hcv0 := hrowr.cells (g := g) rfl t (ifv tt xx ff t) (by simp [hlt3])
                    rw [Addr.add_lit, Nat.zero_add] at hcv0
                    have htk : (t : Int) < (k : Int) := by omega
                    clear hcl hsch5 hkw5 hene5 hmap5 hrow5 hrowr hh
                    cases htt : tt t with
                    | true =>
                      have hif : ifv tt xx ff t = .iface 9 (.string (xx t)) := by simp [ifv, htt]
                      rw [hif] at hcv0
                      rw [htt] at hcell0
                      have hput : Hid (DT tt xx (t + 1) = (DT tt xx t).put (kLit (xx t)) T) := DT_text _ _ _ htt
                      have hat : Hid ((DT tt xx k).atKey (kLit (xx t)) (bLit false) = T) := DT_at tt xx htt k hlt3
                      have hsk := hxx t hlt3
                      obtain ⟨bm, rfl, hownm⟩ : ∃ bm, m = some bm ∧ Owns wr bm k (DT tt xx k) := by
                        rcases hmapr with ⟨h, -⟩ | h
                        · have := hnone.1 h t hlt3
                          rw [htt] at this; cases this
                        · exact h
                      have hbm : bm ≠ w5.heap.size := Nat.ne_of_lt (hmlt bm rfl)
                      clear hif htt hmapr hnone
                      generalize xx t = x at hcv0 hcell1 hput hat hsk
                      have hkey : Hid (keyOf Tryd.prog 9 (.string x) = some (kLit x)) := keyOf_string_mk Tryd.underlying9 hsk
                      have hnext : ∀ w7, wr.grownBy w7 (some w5.heap.size) → w7.cell? ⟨b, off + t * 3 + 1, none⟩ = some (.string x) ∧ (Instr.lookup 35 (.map (some bm)) (.string x) false).run Tryd.prog w7 = .ok (.bool true) w7 := fun w7 hg => by
                        refine ⟨((only_grown hg).cell (p := ⟨b, off + t * 3 + 1, none⟩) (Nat.lt_of_lt_of_le hb hod.size) (by dsimp only; omega)).trans hcell1, owns_look (hownm.kept hg (by simp; exact hbm)) hsk hat.out⟩
                      have HN := hide hnext
                      clear hnext
                      go_wp2_with fail
                      refine (value14_text (S + 2) S (S + 1) E g t k vcap cc (some bm) d x wr hkwr hschr hener htk hcv0).mono ?_
                      rintro e w6 ⟨rfl, h6⟩
                      obtain rfl := h6.symm
                      go_wp2_with (at_mapUpdate; refine wpList_mapUpdate_own _ rfl _ _ _ 35 rfl 9 4 law9 Tryd.underlying35 (plainElem (H := Unit) Tryd.prog 4) w5.heap.size t _ rfl hd (by unfold maxLen; omega) _ _ _ rfl rfl hkey.out _ [] (plainElem_bool Tryd.underlying4 true) ?_; intro w7 hd7 hg7; obtain ⟨c7, l7⟩ := unhide HN w7 hg7)
                      go_roundw
                      case rel => exact ⟨t + 1, by omega, by go_num, by rw [hput.out]; exact hd7, hod.andThen (only_grown hg7) (fun i hi h => by omega)⟩
                      case measure => simp [intOf]; omega
                    | false =>
                      have hif : ifv tt xx ff t = .iface 24 (.float .f64 (ff t)) := by simp [ifv, htt]
                      rw [hif] at hcv0
                      rw [htt] at hcell0
                      have hput : Hid (DT tt xx (t + 1) = DT tt xx t) := DT_num _ _ _ htt
                      clear hif htt hmapr hnone
                      generalize ff t = x at hcv0 hcell2
                      go_wp2_with fail
                      refine (value14_num (S + 2) S (S + 1) E g t k vcap cc m d x wr hkwr hschr hener htk hcv0).mono ?_
                      rintro e w6 ⟨rfl, h6⟩
                      obtain rfl := h6.symm
                      go_wp2_with fail
                      refine (same15 x wr).mono ?_
                      rintro e w7 ⟨rfl, h7⟩
                      obtain rfl := h7.symm
                      go_wp2_with fail
                      go_roundw
                      case rel => exact ⟨t + 1, by omega, by go_num, by rw [hput.out]; exact hd.mono (Nat.le_succ _), hod⟩
                      case measure => simp [intOf]; omega
                  · have htk : t = k := by omega
                    subst htk
                    have hmapr := hmap5.only hod (fun _ _ h => h)
                    rcases hmapr with ⟨rfl, hD⟩ | ⟨bm, rfl, hownm⟩
                    · have hz : Maps.size (DT tt xx t) = 0 := (DT_size tt xx t).2 (hnone.1 rfl)
                      have hzb : ((Maps.size (DT tt xx t) : Int) == 0) = true := by rw [hz]; rfl
                      have hq := fun (w : World) (r : Option Nat) => run_neq_map_nil (P := Tryd.prog) w 35 9 4 r Tryd.underlying35
                      clear hz hD hnone
                      generalize DT tt xx t = D at hd hzb
                      go_wp2_with (at_len; refine wpList_len_own _ rfl _ 35 rfl 9 4 Tryd.underlying35 _ w5.heap.size t _ rfl hd ?_)
                      go_meet
                      case rel => exact hod
                    · have hz : Maps.size (DT tt xx t) ≠ 0 := fun h => by
                        have := hnone.2 ((DT_size tt xx t).1 h)
                        cases this
                      have hzb : ((Maps.size (DT tt xx t) : Int) == 0) = false := by rw [beq_eq_false_iff_ne]; omega
                      clear hz hnone
                      generalize DT tt xx t = D at hd hzb hownm
                      go_wp2_with (first
                        | (at_len; refine wpList_len_own _ rfl (.tmp 206) 35 rfl 9 4 Tryd.underlying35 _ w5.heap.size t _ rfl hd ?_)
                        | (at_len; refine wpList_len_own _ rfl (.tmp 211) 35 rfl 9 4 Tryd.underlying35 _ bm t _ rfl hownm ?_)
                        | (at_len; refine wpList_len_own _ rfl (.tmp 213) 35 rfl 9 4 Tryd.underlying35 _ w5.heap.size t _ rfl hd ?_))
                      go_meet
                      case rel => exact hod
            case rest =>
              obtain ⟨w6, rfl⟩ : ∃ w6, w6 = wc := ⟨_, rfl⟩
              have ho46 := ho45.andThen hcut (fun i _ h => h)
              have hschC := hsch.only ho46 (fun h => h)
              have hkwC := hkw.only ho46 (fun h => h)
              have hbox6 := (ho46.block _ (Array.getElem?_eq_some_iff.1 hbox4).1 (fun h => h)).trans hbox4
              have b0 := (cell_of_heap hbox6 0).trans rfl
              have b1 := (cell_of_heap hbox6 1).trans rfl
              have b2 := (cell_of_heap hbox6 2).trans rfl
              have hend := hoz.andThen ho46 (fun i _ h => h)
              have hcon6 : ((hc && decide (6 ≤ d)) = false ∧ cc = none) ∨ ((hc && decide (6 ≤ d)) = true ∧ ∃ C, cc = some ⟨C, 0, none⟩ ∧ w6.cell? ⟨C, 0, none⟩ = some (cval ct cx cf)) := by
                rcases hcon4 with h | ⟨h1, C, h2, h3, h4⟩
                · exact .inl h
                · exact .inr ⟨h1, C, h2, (ho46.cell (p := ⟨C, 0, none⟩) h4 (fun h => h)).trans h3⟩
              clear hcon4 hsch hkw hbox4 hbox6 hoz ho45 hcut ho46 hv4 hsz45
              rcases hcon6 with ⟨hno, rfl⟩ | ⟨hyes, C, rfl, hC⟩
              · cases hc with
                | false =>
                  clear hno
                  go_wp2_with fail
                  refine (const16_no (S + 2) S (S + 1) en d w6 hkwC hschC).mono ?_
                  rintro e w7 ⟨rfl, h7⟩
                  obtain rfl := h7.symm
                  go_wp2_with fail
                  refine (types17 (S + 2) S (S + 1) none en d w6 hkwC hschC).mono ?_
                  rintro e w8 ⟨rfl, h8⟩
                  obtain rfl := h8.symm
                  go_wp2_with fail
                  go_ret
                  exact ⟨rfl, hend⟩
                | true =>
                  have hd6 : ¬ (6 : Int) ≤ d := by simpa using hno
                  have hd6b : decide ((6 : Int) ≤ d) = false := decide_eq_false hd6
                  clear hno
                  go_wp2_with fail
                  refine (const16_no (S + 2) S (S + 1) en d w6 hkwC hschC).mono ?_
                  rintro e w7 ⟨rfl, h7⟩
                  obtain rfl := h7.symm
                  go_wp2_with fail
                  refine (types17 (S + 2) S (S + 1) none en d w6 hkwC hschC).mono ?_
                  rintro e w8 ⟨rfl, h8⟩
                  obtain rfl := h8.symm
                  go_wp2_with fail
                  go_ret
                  exact ⟨rfl, hend⟩
              · cases hc with
                | false => cases hyes
                | true =>
                  have hd6 : (6 : Int) ≤ d := by simpa using hyes
                  have hd6b : decide ((6 : Int) ≤ d) = true := decide_eq_true hd6
                  clear hyes
                  cases ct with
                  | true =>
                    go_wp2_with fail
                    refine (const16_text (S + 2) S (S + 1) C en d cx w6 hkwC hschC hC).mono ?_
                    rintro e w7 ⟨rfl, h7⟩
                    obtain rfl := h7.symm
                    go_wp2_with fail
                    refine (types17 (S + 2) S (S + 1) _ en d w6 hkwC hschC).mono ?_
                    rintro e w8 ⟨rfl, h8⟩
                    obtain rfl := h8.symm
                    go_wp2_with fail
                    go_ret
                    exact ⟨rfl, hend⟩
                  | false =>
                    go_wp2_with fail
                    refine (const16_num (S + 2) S (S + 1) C en d cf w6 hkwC hschC hC).mono ?_
                    rintro e w7 ⟨rfl, h7⟩
                    obtain rfl := h7.symm
                    go_wp2_with fail
                    refine (same15 cf w6).mono ?_
                    rintro e w9 ⟨rfl, h9⟩
                    obtain rfl := h9.symm
                    go_wp2_with fail
                    refine (types17 (S + 2) S (S + 1) _ en d w6 hkwC hschC).mono ?_
                    rintro e w8 ⟨rfl, h8⟩
                    obtain rfl := h8.symm
                    go_wp2_with fail
                    go_ret
                    exact ⟨rfl, hend⟩

end Go.Proofs.Qxb6605849aDoor
