import Derived.Test.Qxb6605849aDoorW3
namespace Go.Proofs.Qxb6605849aDoor
open Go.RowKit Go.Maps Go.WideMaps

abbrev e0 : Value := .string { data := #[] }
abbrev f0 : Value := .float .f64 0

set_option maxRecDepth 100000 in
theorem enum13_no (Kb S M : Nat) (c : Option Addr) (d : Int) (w : World) (hk : KwIs w Kb S M) (hs : SchIs w S c none d) :
    Calls Tryd.prog 13 #[.pointer (some ⟨Kb, 0, none⟩)] w fun e w' => e = .returned (.tuple #[.bool false, .int .i64 0, .map none]) ∧ w' = w := by
  obtain ⟨k1, k2⟩ := hk.cells
  obtain ⟨s12, s13, s20, s22, -, -⟩ := hs.cells
  go_enter Tryd.func13, Tryd.ntmps13
  go_wp2
  go_ret3
  exact ⟨rfl, rfl⟩

set_option maxRecDepth 100000 in
theorem enum13_yes (Kb S M E k vc : Nat) (va c : Option Addr) (m : Option Nat) (d : Int) (w : World) (hk : KwIs w Kb S M) (hs : SchIs w S c (some ⟨E, 0, none⟩) d) (he : EnIs w E (.slice va k vc) m) :
    Calls Tryd.prog 13 #[.pointer (some ⟨Kb, 0, none⟩)] w fun e w' => e = .returned (.tuple #[.bool true, .int .i64 k, .map m]) ∧ ∃ n, w' = w.drewN n := by
  obtain ⟨k1, k2⟩ := hk.cells
  obtain ⟨s12, s13, s20, s22, -, -⟩ := hs.cells
  obtain ⟨n0, n1, -⟩ := he.cells
  go_enter Tryd.func13, Tryd.ntmps13
  go_wp2
  go_quiet (fail)
  go_wp2
  go_ret3
  exact ⟨rfl, _, rfl⟩

set_option maxRecDepth 100000 in
theorem value14_text (Kb S M E g i k vc : Nat) (c : Option Addr) (m : Option Nat) (d : Int) (t : ByteArray) (w : World) (hk : KwIs w Kb S M) (hs : SchIs w S c (some ⟨E, 0, none⟩) d) (he : EnIs w E (.slice (some ⟨g, 0, none⟩) k vc) m) (hi : (i : Int) < (k : Int)) (hv : w.cell? ⟨g, i, none⟩ = some (.iface 9 (.string t))) :
    Calls Tryd.prog 14 #[.pointer (some ⟨Kb, 0, none⟩), .int .i64 i] w fun e w' => e = .returned (.tuple #[.string t, .bool true, f0, .bool false]) ∧ w' = w := by
  obtain ⟨k1, k2⟩ := hk.cells
  obtain ⟨s12, s13, s20, s22, -, -⟩ := hs.cells
  obtain ⟨n0, n1, -⟩ := he.cells
  have a1 := assert9_ok (.string t)
  go_enter Tryd.func14, Tryd.ntmps14
  go_wp2
  refine bodyPost_ret (v := .tuple #[.string t, .bool true, f0, .bool false]) (by simp [results, Tryd.results14, go_sem]) rfl ⟨rfl, rfl⟩

set_option maxRecDepth 100000 in
theorem value14_num (Kb S M E g i k vc : Nat) (c : Option Addr) (m : Option Nat) (d : Int) (x : Nat) (w : World) (hk : KwIs w Kb S M) (hs : SchIs w S c (some ⟨E, 0, none⟩) d) (he : EnIs w E (.slice (some ⟨g, 0, none⟩) k vc) m) (hi : (i : Int) < (k : Int)) (hv : w.cell? ⟨g, i, none⟩ = some (.iface 24 (.float .f64 x))) :
    Calls Tryd.prog 14 #[.pointer (some ⟨Kb, 0, none⟩), .int .i64 i] w fun e w' => e = .returned (.tuple #[e0, .bool false, .float .f64 x, .bool true]) ∧ w' = w := by
  obtain ⟨k1, k2⟩ := hk.cells
  obtain ⟨s12, s13, s20, s22, -, -⟩ := hs.cells
  obtain ⟨n0, n1, -⟩ := he.cells
  have a1 := assert9_no (.float .f64 x)
  have a2 := assert24_ok (.float .f64 x)
  go_enter Tryd.func14, Tryd.ntmps14
  go_wp2
  refine bodyPost_ret (v := .tuple #[e0, .bool false, .float .f64 x, .bool true]) (by simp [results, Tryd.results14, go_sem]) rfl ⟨rfl, rfl⟩

set_option maxRecDepth 100000 in
theorem const16_no (Kb S M : Nat) (e : Option Addr) (d : Int) (w : World) (hk : KwIs w Kb S M) (hs : SchIs w S none e d) :
    Calls Tryd.prog 16 #[.pointer (some ⟨Kb, 0, none⟩)] w fun e w' => e = .returned (.tuple #[.bool false, e0, .bool false, f0, .bool false]) ∧ w' = w := by
  obtain ⟨k1, k2⟩ := hk.cells
  obtain ⟨s12, s13, s20, s22, -, -⟩ := hs.cells
  go_enter Tryd.func16, Tryd.ntmps16
  go_wp2
  refine bodyPost_ret (v := .tuple #[.bool false, e0, .bool false, f0, .bool false]) (by simp [results, Tryd.results16, go_sem]) rfl ⟨rfl, rfl⟩

set_option maxRecDepth 100000 in
theorem const16_text (Kb S M C : Nat) (e : Option Addr) (d : Int) (t : ByteArray) (w : World) (hk : KwIs w Kb S M) (hs : SchIs w S (some ⟨C, 0, none⟩) e d) (hc : w.cell? ⟨C, 0, none⟩ = some (.iface 9 (.string t))) :
    Calls Tryd.prog 16 #[.pointer (some ⟨Kb, 0, none⟩)] w fun e w' => e = .returned (.tuple #[.bool true, .string t, .bool true, f0, .bool false]) ∧ w' = w := by
  obtain ⟨k1, k2⟩ := hk.cells
  obtain ⟨s12, s13, s20, s22, -, -⟩ := hs.cells
  have a1 := assert9_ok (.string t)
  go_enter Tryd.func16, Tryd.ntmps16
  go_wp2
  refine bodyPost_ret (v := .tuple #[.bool true, .string t, .bool true, f0, .bool false]) (by simp [results, Tryd.results16, go_sem]) rfl ⟨rfl, rfl⟩

set_option maxRecDepth 100000 in
theorem const16_num (Kb S M C : Nat) (e : Option Addr) (d : Int) (x : Nat) (w : World) (hk : KwIs w Kb S M) (hs : SchIs w S (some ⟨C, 0, none⟩) e d) (hc : w.cell? ⟨C, 0, none⟩ = some (.iface 24 (.float .f64 x))) :
    Calls Tryd.prog 16 #[.pointer (some ⟨Kb, 0, none⟩)] w fun e w' => e = .returned (.tuple #[.bool true, e0, .bool false, .float .f64 x, .bool true]) ∧ w' = w := by
  obtain ⟨k1, k2⟩ := hk.cells
  obtain ⟨s12, s13, s20, s22, -, -⟩ := hs.cells
  have a1 := assert9_no (.float .f64 x)
  have a2 := assert24_ok (.float .f64 x)
  go_enter Tryd.func16, Tryd.ntmps16
  go_wp2
  refine bodyPost_ret (v := .tuple #[.bool true, e0, .bool false, .float .f64 x, .bool true]) (by simp [results, Tryd.results16, go_sem]) rfl ⟨rfl, rfl⟩

end Go.Proofs.Qxb6605849aDoor
