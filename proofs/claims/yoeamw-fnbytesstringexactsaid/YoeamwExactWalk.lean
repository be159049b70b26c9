/-
  Seat oeam: the walk of 'FnBytesStringExact' (4), over the contracts of YoeamwBase.
-/
import Derived.Test.YoeamwBase
namespace Go.Proofs.Yoeamw
open Go.RowKit
set_option linter.unusedVariables false

set_option maxHeartbeats 1600000 in
/-- The bound on the length, laid by program: within it. -/
theorem zz12_short (a0 : Option Addr) (len0 cap0 : Nat) (w : World) (hl : len0 ≤ 1048576) :
    Calls Eamg.prog 12 #[.slice a0 len0 cap0] w fun e w' => e = .returned (.bool true) ∧ w = w' := by
  go_enter Eamg.func12, Eamg.ntmps12
  go_wp2
  go_ret
  exact ⟨rfl, rfl⟩

set_option maxHeartbeats 1600000 in
/-- The bound on the length: beyond it. -/
theorem zz12_long (a0 : Option Addr) (len0 cap0 : Nat) (w : World) (hl : 1048576 < len0) :
    Calls Eamg.prog 12 #[.slice a0 len0 cap0] w fun e w' => e = .returned (.bool false) ∧ w = w' := by
  go_enter Eamg.func12, Eamg.ntmps12
  go_wp2
  go_ret
  exact ⟨rfl, rfl⟩

set_option maxHeartbeats 1600000 in
theorem exact_long (a0 : Option Addr) (len0 cap0 : Nat) (w : World) (hl : 1048576 < len0) :
    Calls Eamg.prog 4 #[.slice a0 len0 cap0] w fun e w' => e = .returned (.bool true) ∧ Below w.heap.size w w' := by
  go_enter Eamg.func4, Eamg.ntmps4
  go_wp2_with (go_at_call 12; refine (zz12_long _ _ _ _ hl).mono ?_; rintro e w' ⟨rfl, rfl⟩)
  go_ret
  exact ⟨rfl, Below.refl _ _⟩

set_option maxHeartbeats 1600000 in
theorem exact_short (a0 : Option Addr) (len0 cap0 : Nat) (zs : List Int) (w : World) (hr : Row w a0 len0 zs) (hn : a0 = none → len0 = 0 ∧ cap0 = 0) (hl : len0 ≤ 1048576) :
    Calls Eamg.prog 4 #[.slice a0 len0 cap0] w fun e w' => e = .returned (.bool true) ∧ Below w.heap.size w w' := by
  have HN : Hid (a0 = none → len0 = 0 ∧ cap0 = 0) := hn
  have HR : Hid (Row w a0 len0 zs) := hr
  clear hn hr
  go_enter Eamg.func4, Eamg.ntmps4
  go_wp2_with (go_at_call 12; refine (zz12_short _ _ _ _ hl).mono ?_; rintro e w' ⟨rfl, rfl⟩)
  refine (clone_any a0 len0 cap0 zs w HN.out HR.out hl).mono ?_
  rintro e w1 ⟨ao, cp, rfl, hr1, hb1⟩
  have HR1 : Hid (Row w1 ao len0 zs) := hr1
  clear hr1
  go_wp2_with fail
  have hba : Below w1.heap.size w1 (w1.alloc (.cells #[.slice ao len0 cp] 29)) := (Below.refl _ _).alloc (Nat.le_refl _) _
  have hr2 := HR1.out.later hba
  refine (string_any w1.heap.size ao len0 cp zs _ (by simp) hr2).mono ?_
  rintro e w2 ⟨rfl, rfl⟩
  have HR2 : Hid (Row _ ao len0 zs) := hr2
  have HB2 : Hid (Below _ _ _) := hba
  clear hr2 hba
  go_wp2_with fail
  refine (sameText_any ao len0 cp zs _ HR2.out hl).mono ?_
  rintro e w3 ⟨rfl, hb3⟩
  have HB3 : Hid (Below _ _ _) := hb3
  clear hb3
  go_wp2_with fail
  go_ret
  refine ⟨rfl, (hb1.trans (HB2.out.mono hb1.size)).trans (HB3.out.mono ?_)⟩
  have := hb1.size
  simp
  omega
end Go.Proofs.Yoeamw
