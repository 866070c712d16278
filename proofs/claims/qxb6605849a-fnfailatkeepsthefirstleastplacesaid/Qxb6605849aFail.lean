import Derived.Test.Qxb6605849aSplit
import Derived.Deep.RegionWith
import Derived.Deep.CutRange
namespace Go.Proofs.Qxb6605849a
open Go.RowKit Go.Maps

def upd (st : Option (Int × List Elt)) (id : Int) (ps : List Elt) : Option (Int × List Elt) :=
  match st with
  | none => some (id, ps)
  | some (i0, qs) => if cP ps qs < 0 then some (id, ps) else some (i0, qs)
/-- Is the failure noted? -/
def takes (st : Option (Int × List Elt)) (ps : List Elt) : Bool :=
  match st with
  | none => true
  | some (_, qs) => decide (cP ps qs < 0)
theorem upd_yes {st : Option (Int × List Elt)} {id : Int} {ps : List Elt} (h : takes st ps = true) : upd st id ps = some (id, ps) := by
  cases st with
  | none => rfl
  | some q => unfold takes at h; unfold upd; exact if_pos (of_decide_eq_true h)
theorem upd_no {st : Option (Int × List Elt)} {id : Int} {ps : List Elt} (h : takes st ps = false) : upd st id ps = st := by
  cases st with
  | none => cases h
  | some q => unfold takes at h; unfold upd; exact if_neg (of_decide_eq_false h)

theorem PlIs.palt {w : World} {B : Nat} {pa : Option Addr} {ps : List Elt} (h : PlIs w B pa ps) {b o : Nat} {t : Option Nat} (e : pa = some ⟨b, o, t⟩) : b < w.heap.size := by
  rcases h with ⟨h, _⟩ | ⟨PB, h, _, hr⟩
  · rw [h] at e; cases e
  · rw [h] at e; cases e; exact World.rowIs.lt hr
theorem eqNil (w : World) : (binOp .eql 70 .nilIface .nilIface).run Try.prog w = .ok (.bool true) w := by kernel_rfl
theorem eqErr (v : Value) (w : World) : (binOp .eql 70 (.iface 81 v) .nilIface).run Try.prog w = .ok (.bool false) w := by kernel_rfl

set_option maxHeartbeats 4000000 in
set_option maxRecDepth 100000 in
theorem fail28 (B X : Nat) (id : Int) (ps : List Elt) (st : Option (Int × List Elt)) (w : World) (hw : WalkSt w B ps st) (hX : w.heap[X]? = some (.cells #[.string ByteArray.empty, .int .i64 id] 83 (0, 0))) (hBX : B < X) :
    Calls Try.prog 28 #[.pointer (some ⟨B, 0, none⟩), .iface 81 (.pointer (some ⟨X, 0, none⟩))] w (SetPost w B ps (upd st id ps)) := by
  have hw0 := hw
  obtain ⟨h0, pa, pc, er, ea, en, ec, hwk, hpl, herr⟩ := hw
  obtain ⟨g5, g9, g10, f5, f9, f10⟩ := hwk.cells
  have hq1 := eqNil
  go_enter Try.func28, Try.ntmps28
  go_upto_region 0 with fail
  go_cut [20] from 4 to 4 (fun s20 wx => s20 = .bool (takes st ps) ∧ Only nothing w wx)
  case first =>
    rcases herr with ⟨rfl, rfl, -, -⟩ | ⟨id0, qs, X0, rfl, rfl, -, -, rfl, -, hqa, -, -⟩
    · go_quiet (fail)
      go_wp2_with fail
      go_meet
      case rel => exact ⟨rfl, (Only.refl _ w).drewN _⟩
    · have hq2 := eqErr (.pointer (some ⟨X0, 0, none⟩))
      have hp1 : PathAt w.drew pa ps := hpl.path
      have hp2 : PathAt w.drew ea qs := hqa
      clear hw0 hX hpl hwk
      have hc29 : Calls Try.prog 29 #[.slice pa ps.length pc, .slice ea qs.length ec, .func (.func 30) #[] #[]] w.drew (RetPost w.drew (.int .i64 (cP ps qs))) := compare29 pa ea ps.length pc qs.length ec ps qs w.drew hp1 hp2 rfl rfl h0
      generalize hcp : cP ps qs = z at hc29
      have htk : takes (some (id0, qs)) ps = decide (z < 0) := by rw [← hcp]; rfl
      clear hp1 hp2 hqa hcp h0
      generalize qs.length = m at *
      generalize ps.length = n at *
      go_region_with (go_at_call 29; refine hc29.mono ?_; rintro e w' ⟨rfl, ho'⟩)
      all_goals go_wp2_with fail
      all_goals go_meet
      all_goals (case rel => exact ⟨by rw [htk], (Only.refl _ w).drew.trans ho'⟩)
  case rest =>
    obtain ⟨rfl, ho⟩ := hcut
    obtain ⟨wA, rfl⟩ : ∃ wA, wA = wc := ⟨_, rfl⟩
    have hwA := hw0.only ho (fun _ _ h => h)
    have hXA := (ho.block X (Array.getElem?_eq_some_iff.1 hX).1 (fun h => h)).trans hX
    clear hw0 hq1 g5 g9 g10 f5 f9 f10 hwk hpl herr hX
    clear pa pc er ea en ec
    cases ht : takes st ps with
    | false =>
      have hu := upd_no (id := id) ht
      clear hXA
      go_wp2_with fail
      go_end0
      rw [hu]
      exact ⟨rfl, hwA, ho.mono (fun i h => h.elim)⟩
    | true =>
      have hu := upd_yes (id := id) ht
      obtain ⟨h0, pa, pc, er, ea, en, ec, hwk, hpl, herr⟩ := hwA
      clear herr
      obtain ⟨g5, -, -, f5, -, -⟩ := hwk.cells
      have hcl := clone31 pa ps.length pc ps wA hpl.path rfl h0 hpl.nil
      go_wp2_with fail
      refine hcl.mono ?_
      rintro e w' ⟨a', c', rfl, ho1, hp', hfr, hnil'⟩
      have hwk1 := hwk.only ho1 (fun h => h)
      obtain ⟨-, g9, g10, -, f9, f10⟩ := hwk1.cells
      have hwk2 := hwk1.setE (.iface 81 (.pointer (some ⟨X, 0, none⟩))) (.slice a' ps.length c')
      have ho2 := ((Only.refl (fun i => i = B) w').setCell (p := ⟨B, 9, none⟩) (fun _ => rfl) (.iface 81 (.pointer (some ⟨X, 0, none⟩)))).setCell (p := ⟨B, 10, none⟩) (fun _ => rfl) (.slice a' ps.length c')
      have HO : Only (fun i => i = B) w _ := ((ho.mono (fun i h => h.elim)).trans (ho1.mono (fun i h => h.elim))).trans ho2
      have hX1 := (ho1.block X (Array.getElem?_eq_some_iff.1 hXA).1 (fun h => h)).trans hXA
      have hX2 := (ho2.block X (Array.getElem?_eq_some_iff.1 hX1).1 (by omega)).trans hX1
      have hpl2 := (hpl.only ho1 (fun _ _ h => h)).only ho2 (fun b hb => by omega)
      have hBl := hwk.lt
      have hp2 := PathAt.only hp' ho2 (fun b o t e => by have := hfr b o t e; omega)
      have hsz := ho2.size
      have HW : Hid (WalkSt _ B ps (some (id, ps))) := ⟨h0, pa, pc, _, a', ps.length, c', hwk2, hpl2, .inr ⟨id, ps, X, rfl, rfl, hX2, hBX, rfl, h0, hp2, hnil', fun b o t e => ⟨by have := hfr b o t e; omega, by have := hfr b o t e; omega, fun b' o' t' e' => by have := hfr b o t e; have := hpl.palt e'; omega⟩⟩⟩
      clear hX1 hX2 hpl2 hp2 hwk2 hwk1 hpl hp' hwk hXA
      go_wp2_with fail
      go_end0
      rw [hu]
      exact ⟨rfl, HW.out, HO⟩

end Go.Proofs.Qxb6605849a
