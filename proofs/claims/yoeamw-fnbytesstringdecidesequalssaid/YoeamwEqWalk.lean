/-
  Seat oeam: the walk of 'FnBytesStringDecidesEquals' (5), over the contracts of YoeamwBase and YoeamwEqBase.
-/
import Derived.Test.YoeamwEqBase
namespace Go.Proofs.Yoeamw
open Go.RowKit
set_option linter.unusedVariables false

set_option maxHeartbeats 1600000 in
set_option maxRecDepth 100000 in
theorem decides_long (a0 a1 : Option Addr) (n c m d : Nat) (w : World) (hl : 1048576 < n + m) :
    Calls Eamg.prog 5 #[.slice a0 n c, .slice a1 m d] w fun e w' => e = .returned (.bool true) ∧ Below w.heap.size w w' := by
  go_enter Eamg.func5, Eamg.ntmps5
  go_wp2_with (go_at_call 14; refine (zz14_long _ _ _ _ _ _ _ hl).mono ?_; rintro e w' ⟨rfl, rfl⟩)
  go_ret
  exact ⟨rfl, Below.refl _ _⟩

/-- What holds from the boxing of x and y on: their fields, the clones, old memory. -/
structure Inv (w0 W : World) (bx : Nat) (ax : Option Addr) (n cx : Nat) (xs : List Int) (b : Nat) (ay : Option Addr) (m cy : Nat) (ys : List Int) : Prop where
  fieldx : W.cell? ⟨bx, 0, none⟩ = some (.slice ax n cx)
  fieldy : W.cell? ⟨b, 0, none⟩ = some (.slice ay m cy)
  ownx : Row W ax n xs
  owny : Row W ay m ys
  old : Below w0.heap.size w0 W

theorem Inv.later {w0 W W' : World} {bx : Nat} {ax : Option Addr} {n cx : Nat} {xs : List Int} {b : Nat} {ay : Option Addr} {m cy : Nat} {ys : List Int} (h : Inv w0 W bx ax n cx xs b ay m cy ys) (hb : Below W.heap.size W W') : Inv w0 W' bx ax n cx xs b ay m cy ys :=
  ⟨(hb.cell (lt_of_cell h.fieldx)).trans h.fieldx, (hb.cell (lt_of_cell h.fieldy)).trans h.fieldy, h.ownx.later hb, h.owny.later hb, h.old.trans (hb.mono h.old.size)⟩

set_option maxHeartbeats 1600000 in
set_option maxRecDepth 100000 in
theorem decides_short (a0 a1 : Option Addr) (n c m d : Nat) (xs ys : List Int) (w : World) (hx : Row w a0 n xs) (hy : Row w a1 m ys) (nx : a0 = none → n = 0 ∧ c = 0) (ny : a1 = none → m = 0 ∧ d = 0) (hl : n + m ≤ 1048576) :
    Calls Eamg.prog 5 #[.slice a0 n c, .slice a1 m d] w fun e w' => e = .returned (.bool true) ∧ Below w.heap.size w w' := by
  have HX : Hid (Row w a0 n xs) := hx
  have HY : Hid (Row w a1 m ys) := hy
  have NX : Hid (a0 = none → n = 0 ∧ c = 0) := nx
  have NY : Hid (a1 = none → m = 0 ∧ d = 0) := ny
  have hB := str_eq hx.2.2 hy.2.2
  have hB2 := str_eq hy.2.2 hx.2.2
  obtain ⟨B, hb⟩ : ∃ B, decide (xs = ys) = B := ⟨_, rfl⟩
  have hb2 : decide (ys = xs) = B := by rw [← hb]; exact decide_eq_decide.2 ⟨Eq.symm, Eq.symm⟩
  rw [hb] at hB
  rw [hb2] at hB2
  have HB : Hid (((strOfNums xs).toList == (strOfNums ys).toList) = B) := hB
  have HB2 : Hid (((strOfNums ys).toList == (strOfNums xs).toList) = B) := hB2
  have HD : Hid (decide (xs = ys) = B) := hb
  clear hx hy nx ny hB2 hb hb2
  go_enter Eamg.func5, Eamg.ntmps5
  go_wp2_with (go_at_call 14; refine (zz14_short _ _ _ _ _ _ _ hl).mono ?_; rintro e w' ⟨rfl, rfl⟩)
  refine (clone_any a0 n c xs w NX.out HX.out (by omega)).mono ?_
  rintro e w1 ⟨ax, cx, rfl, hr1, hb1⟩
  have HR1 : Hid (Row w1 ax n xs) := hr1
  have HB1 : Hid (Below w.heap.size w w1) := hb1
  clear hr1 hb1
  go_wp2_with fail
  refine (clone_any a1 m d ys w1 NY.out (HY.out.later HB1.out) (by omega)).mono ?_
  rintro e w2 ⟨ay, cy, rfl, hr2, hb2⟩
  have inv0 : Inv w ((w2.alloc (.cells #[.slice ax n cx] 29)).alloc (.cells #[.slice ay m cy] 29)) w2.heap.size ax n cx xs (w2.heap.size + 1) ay m cy ys := by
    have hba : Below w2.heap.size w2 ((w2.alloc (.cells #[.slice ax n cx] 29)).alloc (.cells #[.slice ay m cy] 29)) := ((Below.refl _ _).alloc (Nat.le_refl _) _).alloc (by simp) _
    have hb12 : Below w1.heap.size w1 ((w2.alloc (.cells #[.slice ax n cx] 29)).alloc (.cells #[.slice ay m cy] 29)) := hb2.trans (hba.mono hb2.size)
    exact ⟨by simp, by simp, HR1.out.later hb12, hr2.later hba, HB1.out.trans (hb12.mono HB1.out.size)⟩
  have I0 : Hid (Inv _ _ _ _ _ _ _ _ _ _ _ _) := inv0
  clear inv0 hr2 hb2
  go_wp2_with fail
  refine (string_any w2.heap.size ax n cx xs _ I0.out.fieldx I0.out.ownx).mono ?_
  rintro e w3 ⟨rfl, rfl⟩
  go_wp2_with fail
  refine (string_any (w2.heap.size + 1) ay m cy ys _ I0.out.fieldy I0.out.owny).mono ?_
  rintro e w3 ⟨rfl, rfl⟩
  go_wp2_with fail
  refine (equals_any w2.heap.size (w2.heap.size + 1) ax ay n cx m cy xs ys B _ I0.out.fieldx I0.out.fieldy I0.out.ownx I0.out.owny HB.out).mono ?_
  rintro e w3 ⟨rfl, hb3⟩
  have I3 : Hid (Inv _ _ _ _ _ _ _ _ _ _ _ _) := I0.out.later hb3
  clear hb3
  go_wp2_with fail
  refine (equals_any (w2.heap.size + 1) w2.heap.size ay ax m cy n cx ys xs B _ I3.out.fieldy I3.out.fieldx I3.out.owny I3.out.ownx HB2.out).mono ?_
  rintro e w4 ⟨rfl, hb4⟩
  have I4 : Hid (Inv _ _ _ _ _ _ _ _ _ _ _ _) := I3.out.later hb4
  clear hb4
  go_wp2_with fail
  refine (sameBytes_any ax ay n cx m cy xs ys B _ I4.out.ownx I4.out.owny (by omega) HD.out).mono ?_
  rintro e w5 ⟨rfl, hb5⟩
  have HB5 : Hid (Below w4.heap.size w4 w5) := hb5
  clear hb5
  go_wp2_with fail
  go_ret
  exact ⟨rfl, I4.out.old.trans (HB5.out.mono I4.out.old.size)⟩
end Go.Proofs.Yoeamw
