/-
  Seat oeamD: the walk of 'FnBytesAddRefusesOtherTypes' (5), over the contracts of YoeamwDoorBase.
-/
import Derived.Test.YoeamwDoorBase
import Derived.LaidEql
import Derived.WideLaws
namespace Go.Proofs.YoeamwDoor
open Go.RowKit
set_option linter.unusedVariables false

set_option maxHeartbeats 1600000 in
/-- The bound on the lengths, laid by program: within it. -/
theorem zz13_short (a0 : Option Addr) (len cap : Nat) (s : ByteArray) (n op : Int) (w : World) (hl : len + s.size ≤ 1048576) :
    Calls Eamg.prog 13 #[.slice a0 len cap, .string s, .int .i64 n, .int .i64 op] w fun e w' => e = .returned (.bool true) ∧ w = w' := by
  go_enter Eamg.func13, Eamg.ntmps13
  go_wp2
  go_ret
  exact ⟨rfl, rfl⟩

set_option maxHeartbeats 1600000 in
/-- The bound on the lengths: beyond it. -/
theorem zz13_long (a0 : Option Addr) (len cap : Nat) (s : ByteArray) (n op : Int) (w : World) (hl : 1048576 < len + s.size) :
    Calls Eamg.prog 13 #[.slice a0 len cap, .string s, .int .i64 n, .int .i64 op] w fun e w' => e = .returned (.bool false) ∧ w = w' := by
  by_cases h1 : len ≤ 1048576
  · by_cases h2 : s.size ≤ 1048576
    · go_enter Eamg.func13, Eamg.ntmps13
      go_wp2
      go_ret
      exact ⟨rfl, rfl⟩
    · go_enter Eamg.func13, Eamg.ntmps13
      go_wp2
      go_ret
      exact ⟨rfl, rfl⟩
  · go_enter Eamg.func13, Eamg.ntmps13
    go_wp2
    go_ret
    exact ⟨rfl, rfl⟩

set_option maxHeartbeats 1600000 in
set_option maxRecDepth 100000 in
theorem refuses_long (a0 : Option Addr) (len cap : Nat) (s : ByteArray) (n op : Int) (w : World) (hl : 1048576 < len + s.size) :
    Calls Eamg.prog 5 #[.slice a0 len cap, .string s, .int .i64 n, .int .i64 op] w fun e w' => e = .returned (.bool true) ∧ Below w.heap.size w w' := by
  go_enter Eamg.func5, Eamg.ntmps5
  go_wp2_with (go_at_call 13; refine (zz13_long _ _ _ _ _ _ _ hl).mono ?_; rintro e w' ⟨rfl, rfl⟩)
  go_ret
  exact ⟨rfl, Below.refl _ _⟩

theorem comp55 : (Eamg.prog.info? 55).map (·.comparable) = some true := by kernel_rfl
theorem size122 : (Eamg.prog.info? 122).map (·.size) = some 1 := by kernel_rfl

/-- 'err == err' at one and the same sentinel. -/
theorem eql_sentinel (a : Addr) (w : World) : (binOp .eql 34 (.iface 55 (.pointer (some a))) (.iface 55 (.pointer (some a)))).run Eamg.prog w = .ok (.bool true) w := by
  obtain ⟨i, hi, hc⟩ := Option.map_eq_some_iff.1 comp55
  obtain ⟨j, hj, _⟩ := Option.map_eq_some_iff.1 size122
  exact run_eql_iface_ptr_same w a Eamg.underlying34 Eamg.underlying55 hi hc hj

/-- What holds from the boxing of x on: x's field, both clones, the sentinel's variable, old memory. -/
structure Inv (w0 W : World) (bx : Nat) (ao : Option Addr) (cp : Nat) (am : Option Addr) (len : Nat) (zs : List Int) (a : Addr) : Prop where
  field : W.cell? ⟨bx, 0, none⟩ = some (.slice ao len cp)
  own : Row W ao len zs
  twin : Row W am len zs
  err : W.cell? ⟨0, 0, none⟩ = some (.iface 55 (.pointer (some a)))
  old : Below w0.heap.size w0 W

theorem Inv.later {w0 W W' : World} {bx : Nat} {ao : Option Addr} {cp : Nat} {am : Option Addr} {len : Nat} {zs : List Int} {a : Addr} (h : Inv w0 W bx ao cp am len zs a) (hb : Below W.heap.size W W') : Inv w0 W' bx ao cp am len zs a :=
  ⟨(hb.cell (lt_of_cell h.field)).trans h.field, h.own.later hb, h.twin.later hb, (hb.cell (lt_of_cell h.err)).trans h.err, h.old.trans (hb.mono h.old.size)⟩

theorem Inv.alloc {w0 W : World} {bx : Nat} {ao : Option Addr} {cp : Nat} {am : Option Addr} {len : Nat} {zs : List Int} {a : Addr} (h : Inv w0 W bx ao cp am len zs a) (o : Obj) : Inv w0 (W.alloc o) bx ao cp am len zs a :=
  h.later ((Below.refl _ _).alloc (Nat.le_refl _) o)

/-- 'BinaryOp' refuses, and what holds holds on. -/
theorem refuse_inv {w0 W : World} {bx : Nat} {ao : Option Addr} {cp : Nat} {am : Option Addr} {len : Nat} {zs : List Int} {a : Addr} (h : Inv w0 W bx ao cp am len zs a) (p : Option Addr) (op : Int) (T : TypeId) (v : Value)
    (hta : ∀ w, (Instr.typeAssert (.iface T v) 31 25 true).run Eamg.prog w = .ok (.tuple #[.pointer none, .bool false]) w) :
    Calls Eamg.prog 10 #[.pointer p, .int .i64 op, .iface T v] W fun e w' => e = .returned (.tuple #[.nilIface, .iface 55 (.pointer (some a))]) ∧ Inv w0 w' bx ao cp am len zs a := by
  refine (refuse_any p op T v _ W hta h.err).mono ?_
  rintro e w' ⟨rfl, k, rfl⟩
  exact ⟨rfl, h.later (below_drewN (Below.refl _ _) _)⟩

set_option maxHeartbeats 1600000 in
set_option maxRecDepth 100000 in
theorem refuses_short (a0 : Option Addr) (len cap : Nat) (zs : List Int) (s : ByteArray) (n op : Int) (a : Addr) (w : World) (hr : Row w a0 len zs) (hn : a0 = none → len = 0 ∧ cap = 0) (hl : len + s.size ≤ 1048576)
    (hE : w.cell? ⟨0, 0, none⟩ = some (.iface 55 (.pointer (some a)))) :
    Calls Eamg.prog 5 #[.slice a0 len cap, .string s, .int .i64 n, .int .i64 op] w fun e w' => e = .returned (.bool true) ∧ Below w.heap.size w w' := by
  have HN : Hid (a0 = none → len = 0 ∧ cap = 0) := hn
  have HR : Hid (Row w a0 len zs) := hr
  have HE : Hid (w.cell? ⟨0, 0, none⟩ = some (.iface 55 (.pointer (some a)))) := hE
  have hq := eql_sentinel a
  clear hn hr hE
  go_enter Eamg.func5, Eamg.ntmps5
  go_wp2_with (go_at_call 13; refine (zz13_short _ _ _ _ _ _ _ hl).mono ?_; rintro e w' ⟨rfl, rfl⟩)
  refine (clone_any a0 len cap zs w HN.out HR.out (by omega)).mono ?_
  rintro e w1 ⟨ao, cp, rfl, hr1, hb1, hn1⟩
  have HN1 : Hid (ao = none → len = 0 ∧ cp = 0) := hn1
  have HR1 : Hid (Row w1 ao len zs) := hr1
  have HB1 : Hid (Below w.heap.size w w1) := hb1
  clear hn1 hr1 hb1
  go_wp2_with fail
  refine (clone_any ao len cp zs w1 HN1.out HR1.out (by omega)).mono ?_
  rintro e w2 ⟨am, cm, rfl, hr2, hb2, _⟩
  have inv0 : Inv w (w2.alloc (.cells #[.slice ao len cp] 29)) w2.heap.size ao cp am len zs a := by
    have hba : Below w2.heap.size w2 (w2.alloc (.cells #[.slice ao len cp] 29)) := (Below.refl _ _).alloc (Nat.le_refl _) _
    have hb12 : Below w1.heap.size w1 (w2.alloc (.cells #[.slice ao len cp] 29)) := hb2.trans (hba.mono hb2.size)
    have hbw : Below w.heap.size w (w2.alloc (.cells #[.slice ao len cp] 29)) := HB1.out.trans (hb12.mono HB1.out.size)
    exact ⟨by simp, HR1.out.later hb12, hr2.later hba, (hbw.cell (lt_of_cell HE.out)).trans HE.out, hbw⟩
  have I0 : Hid (Inv _ _ _ _ _ _ _ _ _) := inv0
  clear inv0 hr2 hb2
  go_wp2_with fail
  refine (refuse_inv (I0.out.alloc _) _ op 42 _ (not42 _)).mono ?_
  rintro e w3 ⟨rfl, inv3⟩
  have he3 := inv3.err
  have hcv := inv3.twin.convert cm
  have I3 : Hid (Inv _ _ _ _ _ _ _ _ _) := inv3
  clear inv3
  go_wp2_with fail
  clear hcv he3
  refine (refuse_inv (I3.out.alloc _) _ op 42 _ (not42 _)).mono ?_
  rintro e w4 ⟨rfl, inv4⟩
  have he4 := inv4.err
  have I4 : Hid (Inv _ _ _ _ _ _ _ _ _) := inv4
  clear inv4
  go_wp2_with fail
  clear he4
  refine (refuse_inv (I4.out.alloc _) _ op 46 _ (not46 _)).mono ?_
  rintro e w5 ⟨rfl, inv5⟩
  have he5 := inv5.err
  have I5 : Hid (Inv _ _ _ _ _ _ _ _ _) := inv5
  clear inv5
  go_wp2_with fail
  clear he5
  refine (refuse_inv (I5.out.alloc _) _ op 49 _ (not49 _)).mono ?_
  rintro e w6 ⟨rfl, inv6⟩
  have he6 := inv6.err
  have I6 : Hid (Inv _ _ _ _ _ _ _ _ _) := inv6
  clear inv6
  go_wp2_with fail
  clear he6
  refine (refuse_inv (I6.out.alloc _) _ op 52 _ (not52 _)).mono ?_
  rintro e w7 ⟨rfl, inv7⟩
  have he7 := inv7.err
  have hf7 := inv7.field
  have I7 : Hid (Inv _ _ _ _ _ _ _ _ _) := inv7
  clear inv7
  go_wp2_with fail
  refine (sameBytes_true ao am len cp cm zs w7 I7.out.own I7.out.twin (by omega)).mono ?_
  rintro e w8 ⟨rfl, hb8⟩
  have HB8 : Hid (Below w7.heap.size w7 w8) := hb8
  clear hb8 he7 hf7
  go_wp2_with fail
  go_ret
  exact ⟨rfl, I7.out.old.trans (HB8.out.mono I7.out.old.size)⟩
end Go.Proofs.YoeamwDoor
