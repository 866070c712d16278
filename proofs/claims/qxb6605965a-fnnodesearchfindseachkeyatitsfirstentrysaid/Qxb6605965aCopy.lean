import Derived.Test.Qxb6605965aPlain
import Derived.Deep.RegionLaw
namespace Go.Proofs.Qxb6605965a
open Go.RowKit Go.Maps

theorem splice_get (cur cs : List Value) (off i : Nat) (h : off + cs.length ≤ cur.length) : (splice cur off cs)[i]? = if off ≤ i ∧ i < off + cs.length then cs[i - off]? else cur[i]? := by
  unfold splice
  have ht : (cur.take off).length = off := by rw [List.length_take]; omega
  by_cases h1 : i < off
  · rw [if_neg (by omega), List.getElem?_append_left (by omega), List.getElem?_take, if_pos h1]
  · rw [List.getElem?_append_right (by omega), ht]
    by_cases h2 : i < off + cs.length
    · rw [if_pos ⟨by omega, h2⟩, List.getElem?_append_left (by omega)]
    · rw [if_neg (by omega), List.getElem?_append_right (by omega), List.getElem?_drop]
      congr 1
      omega

theorem row_splice {w : World} {g M : Nat} {f : Nat → UInt8} {cur : Array Value} {off : Nat} {l : List UInt8} (hs : cur.size = M) (hc : ∀ i, i < M → cur[i]? = some (.int .u8 (f i).toNat)) (hfit : off + l.length ≤ M)
    (h : w.heap[g]? = some (.cells (splice cur.toList off (cellsB l)).toArray 5 (0, 0))) : Row w g M (lay f off l) := by
  have hl : (cellsB l).length = l.length := cellsB_len l
  have hlen : (splice cur.toList off (cellsB l)).length = M := by
    rw [length_splice _ _ _ (by rw [hl]; simp; omega)]
    simp [hs]
  refine ⟨_, h, by simpa using hlen, fun i hi => ?_⟩
  rw [List.getElem?_toArray, splice_get _ _ _ _ (by rw [hl]; simp; omega), hl]
  unfold lay
  dsimp only
  by_cases h1 : off ≤ i ∧ i < off + l.length
  · rw [if_pos h1, if_pos h1]
    have h2 : i - off < l.length := by omega
    simp [cellsB, h2]
  · rw [if_neg h1, if_neg h1]
    simpa using hc i hi

theorem step_copy_lay {P : Program} {ops : Array Oper} {o : Oper} {a : Act} {w : World} {K : Act → World → Prop} {Q : Exit → Act → World → Prop} {E : Prop} (hgd : o.guard = none) (d s : Operand) (dT : TypeId)
    (hop : o.op = .call { callee := .builtin .copy, args := #[d, s], argTypes := #[dT, dT] }) (hu : P.underlying dT = some (.slice 5)) (hsz : (P.info? 5).map (·.size) = some 1)
    (dp sp : Option Addr) (dLen dCap m c : Nat) (hd : a.eval d = .slice dp dLen dCap) (hs : a.eval s = .slice sp m c)
    (g M off : Nat) (f : Nat → UInt8) (l : List UInt8) (hr : Row w g M f) (hl : m = l.length) (hdp : 0 < m → dp = some ⟨g, off, none⟩) (hle : m ≤ dLen) (hfit : off + m ≤ M) (hsrc : BA w sp l)
    (h : ∀ w', Row w' g M (lay f off l) → Only (fun i => g ≤ i) w w' → K (a.put o.dst (goInt m)) w') :
    if Region.wanted o (yielded ops a.tmps) = true then Oper.wp P o a w K Q else E := by
  subst hl
  obtain ⟨cur, hg, hcs, hcc⟩ := hr
  refine step_copy_splice hgd d s dT dT hop 5 hu hsz dp sp dLen dCap l.length c hd hs g off cur.toList 5 (by simpa using hg) (cellsB l) ?_ ?_ ?_ cellsB_one g w (Below.refl _ _) (Nat.le_refl _) ?_
  · rw [cellsB_len]; exact (Nat.min_eq_left hle).symm
  · intro hp
    exact ⟨hdp (by rw [cellsB_len] at hp; exact hp), hsrc.src hp⟩
  · rw [cellsB_len]; simp; omega
  · intro w' HH hb
    have h1 := h w' (row_splice hcs hcc hfit HH.out) (Only.of_below hb (fun k _ hk => hk))
    rw [cellsB_len]
    exact h1

end Go.Proofs.Qxb6605965a
