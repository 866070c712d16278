import Derived.Test.Qxb6605849aDoorPlain
import Derived.Deep.Cut
namespace Go.Proofs.Qxb6605849aDoor
open Go.RowKit Go.Maps Go.WideMaps

abbrev typeB : ByteArray := { data := #[116, 121, 112, 101] }
abbrev enumB : ByteArray := { data := #[101, 110, 117, 109] }
abbrev constB : ByteArray := { data := #[99, 111, 110, 115, 116] }

/-- The enum keyword before it is read: a text, or a list of the values. -/
def EnumIn (w : World) (base : Nat) (ven : Value) (k : Nat) (tt : Nat → Bool) (xx : Nat → ByteArray) (ff : Nat → Nat) : Prop :=
  (∃ s, ven = .iface 9 s) ∨ ∃ v, ven = .iface 71 v ∧ w.ownsRow base 20 1 v k ((List.range k).map (ifv tt xx ff))

def ReadPost (w : World) (Kb S M : Nat) (d : Int) (ven : Value) (k : Nat) (tt : Nat → Bool) (xx : Nat → ByteArray) (hc : Bool) (vc : Value) (e : Ending) (w' : World) : Prop :=
  e = .returned (.tuple #[]) ∧ ∃ c en, SchIs w' S c en d ∧ KwIs w' Kb S M ∧ EnumOk w w' ven k tt xx en ∧ Only (fun i => i = S) w w' ∧
    (((hc && decide (6 ≤ d)) = false ∧ c = none) ∨ ((hc && decide (6 ≤ d)) = true ∧ ∃ C, c = some ⟨C, 0, none⟩ ∧ w'.cell? ⟨C, 0, none⟩ = some vc ∧ w.heap.size ≤ C ∧ C < w'.heap.size))

set_option maxHeartbeats 1000000 in
set_option maxRecDepth 100000 in
theorem read18 (Kb S M n base k : Nat) (D : DataW Value) (d : Int) (ven : Value) (tt : Nat → Bool) (xx : Nat → ByteArray) (ff : Nat → Nat) (hc : Bool) (vc : Value) (w : World) (hk : KwIs w Kb S M) (hs : SchIs w S none none d) (hf : FOwns w M n D)
    (hty : has D (kLit typeB) = false) (hen : D.atKey (kLit enumB) (.held .nilIface) = .held ven) (hhc : has D (kLit constB) = hc) (hvc : D.atKey (kLit constB) (.held .nilIface) = .held vc) (hin : EnumIn w base ven k tt xx ff)
    (hSK : Kb ≠ S) (hSM : M ≠ S) (hSb : S < base) (hkk : k ≤ 1048576) (hxx : ∀ i, i < k → (xx i).size ≤ maxLen) (hvw : hc = true → ∃ t v, vc = .iface t v) :
    Calls Tryd.prog 18 #[.pointer (some ⟨Kb, 0, none⟩)] w (ReadPost w Kb S M d ven k tt xx hc vc) := by
  have hl1 := fowns_look_ok hf (s := typeB) (by decide) (v := .nilIface) (atKey_of_not_has hty _) hty
  have hl2 := fowns_look hf (s := enumB) (by decide) hen
  obtain ⟨k1, k2⟩ := hk.cells
  go_enter Tryd.func18, Tryd.ntmps18
  go_upto_region 4 with fail
  go_cut [5, 6] from 14 (fun s5 s6 wx => wx = w ∧ ((∃ s, ven = .iface 9 s ∧ s5 = .slice none 0 0 ∧ s6 = .bool false) ∨ (∃ v, ven = .iface 71 v ∧ s5 = v ∧ s6 = .bool true)))
  case first =>
    rcases hin with ⟨s, rfl⟩ | ⟨v, rfl, -⟩
    · have ha := assert71_no s
      go_wp2_with fail
      go_meet
      case rel => exact ⟨rfl, .inl ⟨s, rfl, rfl, rfl⟩⟩
    · have ha := assert71_ok v
      go_wp2_with fail
      go_meet
      case rel => exact ⟨rfl, .inr ⟨v, rfl, rfl, rfl⟩⟩
  case rest =>
    obtain ⟨hw, hcut⟩ := hcut
    obtain rfl := hw.symm
    have hSl := hs.lt
    go_upto_if 41 with fail
    go_cut [] from 14 (fun wx => ∃ en, SchIs wx S none en d ∧ EnumOk w wx ven k tt xx en ∧ Only (fun i => i = S) w wx)
    case first =>
      rcases hcut with ⟨s, rfl, rfl, rfl⟩ | ⟨v, rfl, rfl, rfl⟩
      · go_wp2_with fail
        go_meet
        case rel => exact ⟨none, hs, .inl ⟨s, rfl, rfl⟩, .refl _ _⟩
      · rcases hin with ⟨s, h⟩ | ⟨v', h, hrow⟩
        · cases h
        cases h
        obtain ⟨va, vcap, rfl, -⟩ := row_form hrow
        obtain ⟨-, s13, -, -, -, f13⟩ := hs.cells
        have hsz : (w.setCell ⟨S, 13, none⟩ (.pointer (some ⟨w.heap.size, 0, none⟩))).heap.size = w.heap.size := by simp [World.setCell]
        have hsch1 := (hs.setE (some ⟨w.heap.size, 0, none⟩)).only ((Only.refl nothing _).alloc (.cells #[.slice va k vcap, .map none, .int .i64 0, .int .i64 0, .int .i64 0, .int .i64 0, .int .i64 0, .int .i64 0, .int .i64 0, .int .i64 0, .int .i64 0] 76)) id
        have hen1 : EnIs ((w.setCell ⟨S, 13, none⟩ (.pointer (some ⟨w.heap.size, 0, none⟩))).alloc (.cells #[.slice va k vcap, .map none, .int .i64 0, .int .i64 0, .int .i64 0, .int .i64 0, .int .i64 0, .int .i64 0, .int .i64 0, .int .i64 0, .int .i64 0] 76)) w.heap.size (.slice va k vcap) none := heap_at hsz.symm
        have ho1 := ((Only.refl (fun i => i = S) w).setCell (p := ⟨S, 13, none⟩) (fun _ => rfl) (.pointer (some ⟨w.heap.size, 0, none⟩))).alloc (.cells #[.slice va k vcap, .map none, .int .i64 0, .int .i64 0, .int .i64 0, .int .i64 0, .int .i64 0, .int .i64 0, .int .i64 0, .int .i64 0, .int .i64 0] 76)
        clear hsz
        have hmm := @run_makeMap Tryd.prog
        have hq := fun (w : World) (r : Option Nat) => run_eql_map_nil (P := Tryd.prog) w 35 9 4 r Tryd.underlying35
        clear hen hhc hvc hl1 hl2 hty
        go_wp2_with fail
        go_loopw [50] (fun i wr => ∃ (j : Nat) (m : Option Nat), j ≤ k ∧ i = .int .i64 j ∧ SchIs wr S none (some ⟨w.heap.size, 0, none⟩) d ∧ EnIs wr w.heap.size (.slice va k vcap) m ∧ MapIs wr m j (DT tt xx j) ∧ (m = none ↔ ∀ i, i < j → tt i = false) ∧ Only (fun i => i = S) w wr ∧ ∀ b, m = some b → w.heap.size ≤ b)
          (fun i _ => k - (intOf i).toNat)
        case atStart => exact ⟨0, none, Nat.zero_le _, rfl, hsch1, hen1, .inl ⟨rfl, rfl⟩, by simp, ho1, fun b h => by cases h⟩
        case round =>
          obtain ⟨j, m, hj, rfl, hsch, hene, hmap, hnone, ho, hmb⟩ := hrel
          by_cases hlt : j < k
          · rcases hrow.2 with ⟨h, hk0⟩ | ⟨g, cap, cur, hv, hbg, hh, -⟩
            · omega
            simp only [Value.slice.injEq] at hv
            obtain ⟨rfl, -, rfl⟩ := hv
            have hglt : g < w.heap.size := (Array.getElem?_eq_some_iff.1 hh).1
            have hcell0 := hrow.cells (g := g) rfl j (ifv tt xx ff j) (by simp [hlt])
            rw [Addr.add_lit, Nat.zero_add] at hcell0
            have hcell := (ho.cell (p := ⟨g, j, none⟩) hglt (by dsimp only; omega)).trans hcell0
            obtain ⟨-, s13', -, -, -, f13'⟩ := hsch.cells
            obtain ⟨n0, n1, nf⟩ := hene.cells
            have hElt := hene.lt
            have hjk : (j : Int) < (k : Int) := by omega
            clear hcell0 s13 f13 hh
            cases htj : tt j with
            | false =>
              have hif : ifv tt xx ff j = .iface 24 (.float .f64 (ff j)) := by simp [ifv, htj]
              rw [hif] at hcell
              have ha := assert9_no (.float .f64 (ff j))
              have HT : Hid (tt j = false) := htj
              clear htj hif
              go_wp2_with fail
              go_roundw
              case rel =>
                refine ⟨j + 1, m, by omega, by go_num, hsch, hene, ?_, ?_, ho, hmb⟩
                · rw [DT_num _ _ _ HT.out]
                  rcases hmap with h | ⟨b, h, hown⟩
                  · exact .inl h
                  · exact .inr ⟨b, h, hown.mono (Nat.le_succ _)⟩
                · rw [hnone]
                  refine ⟨fun h i hi => ?_, fun h i hi => h i (by omega)⟩
                  rcases Nat.lt_succ_iff_lt_or_eq.1 hi with hi | rfl
                  · exact h i hi
                  · exact HT.out
              case measure => simp [intOf]; omega
            | true =>
              have hif : ifv tt xx ff j = .iface 9 (.string (xx j)) := by simp [ifv, htj]
              rw [hif] at hcell
              have hput : Hid (DT tt xx (j + 1) = (DT tt xx j).put (kLit (xx j)) T) := DT_text _ _ _ htj
              have HT : Hid (tt j = true) := htj
              have hsk := hxx j hlt
              generalize xx j = t at hcell hput hsk
              have ha := assert9_ok (.string t)
              have hkey : Hid (keyOf Tryd.prog 9 (.string t) = some (kLit t)) := keyOf_string_mk Tryd.underlying9 hsk
              clear htj hif
              have hfin : ¬ (∀ i, i < j + 1 → tt i = false) := fun h => by rw [h j (by omega)] at HT; cases HT.out
              have HF : Hid (¬ (∀ i, i < j + 1 → tt i = false)) := hfin
              clear hfin
              rcases hmap with ⟨rfl, hD⟩ | ⟨b, rfl, hown⟩
              · have hne : w.heap.size ≠ wr.heap.size := Nat.ne_of_lt hElt
                have hszr : (wr.setCell ⟨w.heap.size, 1, none⟩ (.map (some wr.heap.size))).heap.size = wr.heap.size := by simp [World.setCell]
                have hown1 : Owns ((wr.setCell ⟨w.heap.size, 1, none⟩ (.map (some wr.heap.size))).alloc (.map #[] 0)) wr.heap.size j (DT tt xx j) := by
                  have h := (World.ownsMap_made (wr.setCell ⟨w.heap.size, 1, none⟩ (.map (some wr.heap.size))) Tryd.prog 9 (plainElem (H := Unit) Tryd.prog 4)).mono (Nat.zero_le j)
                  rw [hszr] at h
                  rw [hD]
                  exact h
                have hSE : S ≠ w.heap.size := Nat.ne_of_lt hSl
                have hon : Only (fun i => i = w.heap.size) wr ((wr.setCell ⟨w.heap.size, 1, none⟩ (.map (some wr.heap.size))).alloc (.map #[] 0)) := ((Only.refl (fun i => i = w.heap.size) wr).setCell (p := ⟨w.heap.size, 1, none⟩) (fun _ => rfl) _).alloc _
                have hsch2 := hsch.only hon hSE
                have hen2 : EnIs ((wr.setCell ⟨w.heap.size, 1, none⟩ (.map (some wr.heap.size))).alloc (.map #[] 0)) w.heap.size (.slice (some ⟨g, 0, none⟩) k vcap) (some wr.heap.size) := (hene.set (some wr.heap.size)).only ((Only.refl nothing _).alloc _) id
                have s13'' := hsch2.cells.2.1
                have n1'' := hen2.cells.2.1
                clear hszr hD
                go_wp2_with (at_mapUpdate; refine wpList_mapUpdate_own _ rfl _ _ _ 35 rfl 9 4 law9 Tryd.underlying35 (plainElem (H := Unit) Tryd.prog 4) wr.heap.size j _ rfl hown1 (by unfold maxLen; omega) _ _ _ rfl rfl hkey.out _ [] (plainElem_bool Tryd.underlying4 true) ?_; intro w4 hown4 hg4)
                go_roundw
                case rel =>
                  have hw4 : Only (fun i => i = wr.heap.size) ((wr.setCell ⟨w.heap.size, 1, none⟩ (.map (some wr.heap.size))).alloc (.map #[] 0)) w4 := only_grown hg4
                  refine ⟨j + 1, some wr.heap.size, by omega, by go_num, hsch2.only hw4 ?_, hen2.only hw4 hne, .inr ⟨_, rfl, by rw [hput.out]; exact hown4⟩, ⟨fun h => (by cases h), fun h => absurd h HF.out⟩, ?_, fun b h => by cases h; omega⟩
                  · have := hsch.lt; omega
                  · refine (ho.andThen hon ?_).andThen hw4 ?_
                    · intro i hi h; omega
                    · intro i hi h; omega
                case measure => simp [intOf]; omega
              · have hne := en_ne hene hown
                go_wp2_with (at_mapUpdate; refine wpList_mapUpdate_own _ rfl _ _ _ 35 rfl 9 4 law9 Tryd.underlying35 (plainElem (H := Unit) Tryd.prog 4) b j _ rfl hown (by unfold maxLen; omega) _ _ _ rfl rfl hkey.out _ [] (plainElem_bool Tryd.underlying4 true) ?_; intro w4 hown4 hg4)
                go_roundw
                case rel =>
                  have hw4 := only_grown hg4
                  have hbb := hmb b rfl
                  refine ⟨j + 1, some b, by omega, by go_num, hsch.only hw4 (by omega), hene.only hw4 hne, .inr ⟨_, rfl, by rw [hput.out]; exact hown4⟩, ⟨fun h => (by cases h), fun h => absurd h HF.out⟩, ho.andThen hw4 (fun i hi h => by omega), hmb⟩
                case measure => simp [intOf]; omega
          · have hjk : j = k := by omega
            subst hjk
            go_wp2_with fail
            go_meet
            case rel => exact ⟨_, hsch, .inr ⟨_, _, m, rfl, rfl, hene, hmap, hnone, Nat.le_refl _, hmb⟩, ho⟩
    case rest =>
      obtain ⟨en, hsch, hok, ho⟩ := hcut
      have hk' := hk.only ho hSK
      have hf' := fowns_only hf ho hSM
      have hl3 := fowns_look_ok hf' (s := constB) (by decide) hvc hhc
      obtain ⟨k1', k2'⟩ := hk'.cells
      obtain ⟨s12, -, s20, -, f12, -⟩ := hsch.cells
      clear hcut hl1 hl2 k1 k2 hty hen hhc hvc
      cases hc with
      | false =>
        go_wp2_with fail
        go_end0
        exact ⟨rfl, none, en, hsch, hk', hok, ho, .inl ⟨rfl, rfl⟩⟩
      | true =>
        by_cases hd : (6 : Int) ≤ d
        · obtain ⟨t, v, rfl⟩ := hvw rfl
          have hSl' := hsch.lt
          go_wp2_with fail
          go_end0
          have ho2 := ((Only.refl (fun i => i = S) wc).setCell (p := ⟨S, 12, none⟩) (fun _ => rfl) (.pointer (some ⟨wc.heap.size, 0, none⟩))).alloc (.cells #[.iface t v] 20)
          have hsz : (wc.setCell ⟨S, 12, none⟩ (.pointer (some ⟨wc.heap.size, 0, none⟩))).heap.size = wc.heap.size := by simp [World.setCell]
          refine ⟨rfl, some ⟨wc.heap.size, 0, none⟩, en, (hsch.setC _).only ((Only.refl nothing _).alloc _) id, hk'.only ho2 hSK, hok.only ho2 (fun i h => by subst h; exact hSl), ho.andThen ho2 (fun i _ h => h), .inr ⟨by simp [hd], wc.heap.size, rfl, ?_, ho.size, by simp [World.setCell]⟩⟩
          have h := heap_at (w := wc.setCell ⟨S, 12, none⟩ (.pointer (some ⟨wc.heap.size, 0, none⟩))) (o := .cells #[.iface t v] 20) hsz.symm
          exact (cell_of_heap h 0).trans rfl
        · go_wp2_with fail
          go_end0
          exact ⟨rfl, none, en, hsch, hk', hok, ho, .inl ⟨by simp [hd], rfl⟩⟩

theorem read12 (Kb S M n base k : Nat) (D : DataW Value) (d : Int) (ven : Value) (tt : Nat → Bool) (xx : Nat → ByteArray) (ff : Nat → Nat) (hc : Bool) (vc : Value) (w : World) (hk : KwIs w Kb S M) (hs : SchIs w S none none d) (hf : FOwns w M n D)
    (hty : has D (kLit typeB) = false) (hen : D.atKey (kLit enumB) (.held .nilIface) = .held ven) (hhc : has D (kLit constB) = hc) (hvc : D.atKey (kLit constB) (.held .nilIface) = .held vc) (hin : EnumIn w base ven k tt xx ff)
    (hSK : Kb ≠ S) (hSM : M ≠ S) (hSb : S < base) (hkk : k ≤ 1048576) (hxx : ∀ i, i < k → (xx i).size ≤ maxLen) (hvw : hc = true → ∃ t v, vc = .iface t v) :
    Calls Tryd.prog 12 #[.pointer (some ⟨Kb, 0, none⟩)] w (ReadPost w Kb S M d ven k tt xx hc vc) := by
  go_enter Tryd.func12, Tryd.ntmps12
  go_wp2_with fail
  refine (read18 Kb S M n base k D d ven tt xx ff hc vc w hk hs hf hty hen hhc hvc hin hSK hSM hSb hkk hxx hvw).mono ?_
  rintro e w' ⟨rfl, h⟩
  go_wp2
  go_end0
  exact ⟨rfl, h⟩

end Go.Proofs.Qxb6605849aDoor
