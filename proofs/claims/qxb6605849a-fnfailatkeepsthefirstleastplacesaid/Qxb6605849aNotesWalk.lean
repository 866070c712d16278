import Derived.Test.Qxb6605849aWk4
import Derived.Test.Qxb6605849aPlain
namespace Go.Proofs.Qxb6605849a
open Go.RowKit Go.Maps Go.WideMaps

def TruePost (w : World) (e : Ending) (w' : World) : Prop := e = .returned (.bool true) ∧ Only nothing w w'
theorem zero4 (w : World) : (zeroValue 4).run Try.prog w = .ok (.bool false) w := by kernel_rfl

set_option maxHeartbeats 1000000 in
set_option maxRecDepth 100000 in
theorem notes3 (a : Option Addr) (n c : Nat) (ss : List ByteArray) (x : Bool) (u : Int) (w : World) (hs : StrsAt w a ss) (hn : n = ss.length) (hsz : ∀ s ∈ ss, s.size ≤ 9223372036854775807) (hnil : a = none → n = 0) :
    Calls Try.prog 3 #[.slice a n c, .bool x, .int .i64 u] w (TruePost w) := by
  have Hn : Hid (n = ss.length) := hn
  clear hn
  have hq := fun (w : World) (r : Option Nat) => run_eql_map_nil (P := Try.prog) w 28 9 4 r Try.underlying28
  have hmm := @run_makeMap Try.prog
  go_enter Try.func3, Try.ntmps3
  go_wp2_with fail
  refine (bytes7 a n c ss x u w hs Hn.out hsz).mono ?_
  rintro e w' ⟨b, rfl, rfl, hb⟩
  cases b with
  | false =>
    go_wp2
    go_ret
    exact ⟨rfl, .refl _ _⟩
  | true =>
  obtain ⟨hn1, hl1⟩ := hb rfl
  clear hb
  by_cases hbig : (65536 : Int) < n
  · go_wp2
    go_ret
    exact ⟨rfl, .refl _ _⟩
  go_wp2_with fail
  go_loop [7, 8] (fun t i => ∃ k : Nat, k ≤ n ∧ i = .int .i64 k ∧ 16 * n + lens (ss.take k) ≤ 4194304 ∧ t = .int .i64 (16 * n + lens (ss.take k) : Nat)) (fun _ i => n - (intOf i).toNat)
  case atStart => exact ⟨0, Nat.zero_le _, rfl, by simp [lens]; omega, by simp [lens]⟩
  case round =>
    obtain ⟨k, hk, rfl, hle, rfl⟩ := hrel
    have hle2 := lens_take_le ss k
    by_cases hlt : k < n
    · obtain ⟨b, off, rfl, hb, hc⟩ := hs.at (k := k) (by rw [← Hn.out]; exact hlt)
      have hcell := hc k (by rw [← Hn.out]; exact hlt)
      have hsk := hsz _ (mem_getD (ss := ss) (k := k) (by rw [← Hn.out]; exact hlt))
      have hsn : Hid (lens (ss.take (k + 1)) = lens (ss.take k) + (ss.getD k ByteArray.empty).size) := lens_take_succ ss k (by rw [← Hn.out]; exact hlt)
      generalize ss.getD k ByteArray.empty = s at hcell hsk hsn
      have hle3 := lens_take_le ss (k + 1)
      rw [hsn.out] at hle3
      generalize hL : lens (ss.take k) = L at hle hsn hle2 hle3 ⊢
      clear hc hs hsz hL
      go_wp2_with fail
      · go_ret; exact ⟨rfl, .refl _ _⟩
      · go_round
        case rel => exact ⟨k + 1, by omega, by go_num, by rw [hsn.out]; omega, by rw [hsn.out]; go_num⟩
        case measure => simp [intOf]; omega
    · have hkn : k = n := by omega
      subst hkn
      have hall : Hid (ss.take k = ss) := by unfold Hid; rw [Hn.out]; exact List.take_length
      rw [hall.out] at hle ⊢
      clear hall hle2
      generalize hL : lens ss = L at hle hl1 ⊢
      by_cases htot : (1048576 : Int) < 16 * (k : Int) + (L : Int)
      · go_wp2_with fail
        go_ret; exact ⟨rfl, .refl _ _⟩
      go_wp2_with fail
      refine (clone8 a k c ss w' hs Hn.out hn1 hnil).mono ?_
      rintro e w1 ⟨a', c', rfl, ho1, hs1, -⟩
      clear hs hnil htot hle hl1 hL
      go_wp2_with fail
      refine (new9 none x u w1).mono ?_
      rintro e w2 ⟨rfl, rfl⟩
      have hev0 := evIs_new none x u w1
      go_wp2_with fail
      go_loopw [10] (fun i wr => ∃ (j : Nat) (m : Option Nat), j ≤ k ∧ i = .int .i64 j ∧ EvIs wr w1.heap.size m x u ∧ MapIs wr m j (Dk (.map []) ss j) ∧ Only nothing w1 wr ∧ (∀ b, m = some b → w1.heap.size ≤ b) ∧ (m = none ↔ j = 0))
        (fun i _ => k - (intOf i).toNat)
      case atStart => exact ⟨0, none, Nat.zero_le _, rfl, hev0, .inl ⟨rfl, Dk_zero _ _⟩, (Only.refl _ _).alloc _, fun b h => (by cases h), by simp⟩
      case round =>
        obtain ⟨j, m, hj, rfl, hev, hm, ho, hmb, hm0⟩ := hrel
        by_cases hlt2 : j < k
        · obtain ⟨b, off, rfl, hb, hc⟩ := hs1.at (k := j) (by rw [← Hn.out]; exact hlt2)
          have hcell := (ho.cell (p := ⟨b, off + j, none⟩) hb (fun h => h)).trans (hc j (by rw [← Hn.out]; exact hlt2))
          have hsk := hsz _ (mem_getD (ss := ss) (k := j) (by rw [← Hn.out]; exact hlt2))
          have hput : Hid (Dk (.map []) ss (j + 1) = (Dk (.map []) ss j).put (kLit (ss.getD j ByteArray.empty)) T) := Dk_succ _ ss j (by rw [← Hn.out]; exact hlt2)
          generalize ss.getD j ByteArray.empty = s at hcell hsk hput
          clear hc hs1 hsz
          go_wp2_with fail
          refine (key10 w1.heap.size m x u j (Dk (.map []) ss j) s wr hev hm (by unfold maxLen; omega) (by unfold maxLen; omega)).mono ?_
          rintro e w3 ⟨rfl, b3, hev3, hown3, ho3, hb3⟩
          go_wp2_with fail
          go_roundw
          case rel =>
            refine ⟨j + 1, some b3, by omega, by go_num, hev3, .inr ⟨b3, rfl, by rw [hput.out]; exact hown3⟩, ho.andThen ho3 ?_, ?_, by simp⟩
            · rintro i hi (rfl | h)
              · exact Nat.lt_irrefl _ hi
              · exact absurd (hmb i h) (by omega)
            · intro b' hb'
              cases hb'
              rcases hb3 with h | ⟨-, h⟩
              · exact hmb _ h
              · exact Nat.le_trans ho.size h
          case measure => simp [intOf]; omega
        · have hjk : j = k := by omega
          subst hjk
          go_wp2_with fail
          refine (state11 w1.heap.size m x u wr hev).mono ?_
          rintro e w3 ⟨rfl, nq, rfl⟩
          have ho3 := (ho1.andThen ho (fun i _ h => h)).drewN nq
          by_cases hj0 : j = 0
          · subst hj0
            obtain rfl := hm0.2 rfl
            go_wp2_with fail
            go_ret
            exact ⟨rfl, ho3⟩
          have hjz : ((j : Int) == 0) = false := by rw [beq_eq_false_iff_ne]; omega
          rcases hm with ⟨rfl, -⟩ | ⟨b, rfl, hown⟩
          · exact absurd (hm0.1 rfl) hj0
          have hs3 : StrsAt (wr.drewN nq) a' ss := hs1.only (ho.drewN nq) (fun _ _ _ _ h => h)
          have hown3 : Owns (wr.drewN nq) b j (Dk (.map []) ss j) := hown
          clear hown hs1 ho ho1 hev hev0 hm0 hmb
          generalize wr.drewN nq = w3 at ho3 hs3 hown3 ⊢
          have hb3 := hown3.lt
          go_wp2_with fail
          go_loopw [16] (fun i wr => ∃ i' : Nat, i' ≤ j ∧ i = .int .i64 i' ∧ Owns wr b j (Dk (.map []) ss j) ∧ Owns wr w3.heap.size i' (Dk (.map []) ss i') ∧ Only nothing w3 wr)
            (fun i _ => j - (intOf i).toNat)
          case atStart => exact ⟨0, Nat.zero_le _, rfl, hown3.alloc _, World.ownsMap_made _ _ _ _, (Only.refl _ _).alloc _⟩
          case round =>
            obtain ⟨i', hi', rfl, hp, hd, hod⟩ := hrel
            by_cases hlt3 : i' < j
            · obtain ⟨b0, off, rfl, hb0, hc⟩ := hs3.at (k := i') (by rw [← Hn.out]; exact hlt3)
              have hcell := (hod.cell (p := ⟨b0, off + i', none⟩) hb0 (fun h => h)).trans (hc i' (by rw [← Hn.out]; exact hlt3))
              have hsk := hsz _ (mem_getD (ss := ss) (k := i') (by rw [← Hn.out]; exact hlt3))
              have hput : Hid (Dk (.map []) ss (i' + 1) = (Dk (.map []) ss i').put (kLit (ss.getD i' ByteArray.empty)) T) := Dk_succ _ ss i' (by rw [← Hn.out]; exact hlt3)
              have hat : Hid ((Dk (.map []) ss j).atKey (kLit (ss.getD i' ByteArray.empty)) (.lit (.bool false)) = T) := by
                have h := (Dk_at (D0 := .map []) isMap_empty ss i' (by rw [← Hn.out]; exact hlt3) (.lit (.bool false))).1
                rw [← Hn.out] at h
                exact h
              generalize ss.getD i' ByteArray.empty = s at hcell hsk hput hat
              have hkey : Hid (keyOf Try.prog 9 (.string s) = some (kLit s)) := keyOf_string_mk Try.underlying9 (by unfold maxLen; omega)
              have hcell1 : ∀ w1, wr.grownBy w1 (some w3.heap.size) → w1.cell? ⟨b0, off + i', none⟩ = some (.string s) := fun w1 hg => ((World.cell?_of_block (w := wr) (hg.block b0 (Nat.lt_of_lt_of_le hb0 hod.size) (fun e => by simp at e; omega)))).trans hcell
              clear hc
              go_wp2_with (first
                | (at_mapUpdate; refine wpList_mapUpdate_own _ rfl _ _ _ 28 rfl 9 4 law9 Try.underlying28 (plainElem (H := Unit) Try.prog 4) w3.heap.size i' _ rfl hd (by unfold maxLen; omega) _ _ _ rfl rfl hkey.out _ [] (plainElem_bool Try.underlying4 true) ?_; intro w4 hd4 hg4; have hcell4 := hcell1 w4 hg4; have hp4 := hp.kept hg4 (fun e => by simp at e; omega))
                | (at_lookup; refine wpList_lookup_own_bool _ rfl _ _ 28 rfl 9 4 law9 Try.underlying28 Try.underlying4 (zero4 _) b j _ rfl hp4 _ _ rfl hkey.out true hat.out ?_))
              go_roundw
              case rel => exact ⟨i' + 1, by omega, by go_num, hp4, by rw [hput.out]; exact hd4, hod.grown hg4 (fun k hk hlt => by cases hk; exact absurd hlt (Nat.lt_irrefl _))⟩
              case measure => simp [intOf]; omega
            · have hij : i' = j := by omega
              subst hij
              go_wp2_with (first
                | (at_len; refine wpList_len_own _ rfl (.tmp 107) 28 rfl 9 4 Try.underlying28 _ b i' _ rfl hp ?_)
                | (at_len; refine wpList_len_own _ rfl (.tmp 109) 28 rfl 9 4 Try.underlying28 _ w3.heap.size i' _ rfl hd ?_))
              go_ret
              exact ⟨by simp, ho3.andThen hod (fun i _ h => h)⟩

end Go.Proofs.Qxb6605849a
