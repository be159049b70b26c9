/-
  Seat oeamD: contracts of the functions that the law goes through: cloneBytes (7), sameBytes (9), (*Bytes).BinaryOp (10), the length bound (13).
-/
import Derived.Test.YoeamwDoorRows
import Derived.WalkKit
import Derived.WalkLawsBesides
import Derived.WalkSpells
import Derived.BigQuiet
import Derived.Deep.QuietTactic
import Derived.Below
namespace Go.Proofs.YoeamwDoor
open Go.RowKit
set_option linter.unusedVariables false

/-- A slice value at 'ao', of 'len' bytes: the numbers 'zs'. Of no byte: whatever the address. -/
def Row (w : World) (ao : Option Addr) (len : Nat) (zs : List Int) : Prop :=
  zs.length = len ∧ (0 < len → ∃ b off, ao = some ⟨b, off, none⟩ ∧ ∀ i, i < len → w.cell? ⟨b, off + i, none⟩ = some (.int .u8 (zs.getD i 0))) ∧ ∀ n ∈ zs, 0 ≤ n ∧ n < 256

theorem lt_of_cell {w : World} {b o : Nat} {v : Value} (h : w.cell? ⟨b, o, none⟩ = some v) : b < w.heap.size := by
  rcases Nat.lt_or_ge b w.heap.size with hl | hl
  · exact hl
  · have : w.heap[b]? = none := by simp; omega
    simp [World.cell?, this] at h

theorem Row.later {w w' : World} {ao : Option Addr} {len : Nat} {zs : List Int} (h : Row w ao len zs) (hb : Below w.heap.size w w') : Row w' ao len zs := by
  refine ⟨h.1, fun hp => ?_, h.2.2⟩
  obtain ⟨b, off, e, hc⟩ := h.2.1 hp
  exact ⟨b, off, e, fun i hi => (hb.cell (lt_of_cell (hc i hi))).trans (hc i hi)⟩

theorem Eamg.info5 : (Eamg.prog.info? 5).map (fun i => (i.zero, i.size, i.bytes)) = some (some (.int .u8 0), 1, 1) := by kernel_rfl

theorem set_pre {xs : List Value} {zs : List Int} {k : Nat} (h : ∀ j, j < k → xs[j]? = some (.int .u8 (zs.getD j 0))) (hk : k < xs.length) :
    ∀ j, j < k + 1 → (xs.set k (.int .u8 (zs.getD k 0)))[j]? = some (.int .u8 (zs.getD j 0)) := by
  intro j hj
  rw [List.getElem?_set]
  by_cases e : k = j
  · subst e; simp [hk]
  · rw [if_neg e]; exact h j (by omega)

set_option maxHeartbeats 1600000 in
/-- 'cloneBytes': nil gives nil. -/
theorem clone_nil (w : World) :
    Calls Eamg.prog 7 #[.slice none 0 0] w fun e w' => e = .returned (.slice none 0 0) ∧ w = w' := by
  have q22 : ∀ (w : World) (a : Option Addr) (n c n' c' : Nat), (binOp .eql 22 (.slice a n c) (.slice none n' c')).run Eamg.prog w = .ok (.bool a.isNone) w := fun w a n c n' c' => Lib.run_eql_slice_nil w _ _ a n c n' c' Eamg.underlying22
  go_enter Eamg.func7, Eamg.ntmps7
  go_wp2
  go_ret
  exact ⟨rfl, rfl⟩

set_option maxHeartbeats 1600000 in
/-- 'cloneBytes' of a slice that is not nil: a new block of the same bytes. -/
theorem clone_some (x : Addr) (len cap : Nat) (zs : List Int) (w : World) (hr : Row w (some x) len zs) (hl : len ≤ 1048576) :
    Calls Eamg.prog 7 #[.slice (some x) len cap] w fun e w' => e = .returned (.slice (some ⟨w.heap.size, 0, none⟩) len len) ∧ Row w' (some ⟨w.heap.size, 0, none⟩) len zs ∧ Below w.heap.size w w' ∧ w.heap.size < w'.heap.size := by
  have q22 : ∀ (w : World) (a : Option Addr) (n c n' c' : Nat), (binOp .eql 22 (.slice a n c) (.slice none n' c')).run Eamg.prog w = .ok (.bool a.isNone) w := fun w a n c n' c' => Lib.run_eql_slice_nil w _ _ a n c n' c' Eamg.underlying22
  obtain ⟨i0, hi, hz0, hz1, hz2⟩ := info_parts Eamg.info5
  go_enter Eamg.func7, Eamg.ntmps7
  go_wp2_with (at_make; refine wpList_make_full _ rfl _ _ 22 rfl w.heap.size 5 i0 (.int .u8 0) 1 Eamg.underlying22 hi hz0 hz1 _ _ _ _ len rfl rfl rfl rfl ?b2 ?b3 (Nat.le_refl _) ?_)
  case b2 => rw [hz2]; omega
  case b3 => unfold maxLen; omega
  intro w0 hown0 hgrow0
  go_wp2
  go_loopw [4] (fun i wr => ∃ (k : Nat) (xs : List Value), k ≤ len ∧ i = .int .i64 k ∧ wr.ownsRow w.heap.size 5 1 (.slice (some ⟨w.heap.size, 0, none⟩) len len) len xs ∧ (∀ j, j < k → xs[j]? = some (.int .u8 (zs.getD j 0))) ∧ Below w.heap.size w wr)
    (fun i _ => len - (intOf i).toNat)
  case atStart => exact ⟨0, _, Nat.zero_le _, rfl, hown0, fun j hj => by omega, (Below.refl _ _).grown hgrow0 (Nat.le_refl _) (fun k h => by cases h)⟩
  case round =>
    obtain ⟨k, xs, hk, rfl, hown, hpre, hbel⟩ := hrel
    by_cases hlt : k < len
    · obtain ⟨b, off, ex, hc⟩ := hr.2.1 (by omega)
      cases ex
      have hcx : wr.cell? ⟨b, off + k, none⟩ = some (.int .u8 (zs.getD k 0)) := (hbel.cell (lt_of_cell (hc k hlt))).trans (hc k hlt)
      have hlen : xs.length = len := by simpa using hown.1
      have hcd := hown.cellAt k (by omega)
      rw [List.getElem?_eq_getElem (by omega)] at hcd
      have hfr := hown.frozenAt k
      have hst := hown.stored k (.int .u8 (zs.getD k 0))
      have hsp := set_pre hpre (by omega)
      have HS : Hid (_ ∧ _) := hst
      have HP : Hid (_) := hsp
      clear hst hsp hown hpre hc
      go_wp2
      go_roundw
      case rel => exact ⟨k + 1, _, by omega, by go_num, HS.out.1, HP.out, hbel.setCell (Nat.le_refl _) _⟩
      case measure => simp [intOf]; omega
    · have ek : k = len := by omega
      have HL : Hid (k = len) := ek
      clear ek
      go_wp2
      go_ret
      have e := HL.out
      refine ⟨rfl, ⟨hr.1, fun hp => ⟨_, _, rfl, fun i hi => ?_⟩, hr.2.2⟩, hbel, ?_⟩
      · rw [Nat.zero_add, hown.cellAt i (by omega)]
        exact hpre i (by omega)
      · rcases hown.2 with ⟨h, _⟩ | ⟨g, c, cur, h, _, hg, _⟩
        · simp at h
        · simp at h
          obtain ⟨rfl, rfl⟩ := h
          have := (Array.getElem?_eq_some_iff.1 hg).1
          exact this

/-- 'cloneBytes' of whatever slice, nil too. -/
theorem clone_any (ao : Option Addr) (len cap : Nat) (zs : List Int) (w : World) (hn : ao = none → len = 0 ∧ cap = 0) (hr : Row w ao len zs) (hl : len ≤ 1048576) :
    Calls Eamg.prog 7 #[.slice ao len cap] w fun e w' => ∃ ao' cap', e = .returned (.slice ao' len cap') ∧ Row w' ao' len zs ∧ Below w.heap.size w w' ∧ (ao' = none → len = 0 ∧ cap' = 0) := by
  cases ao with
  | none =>
    obtain ⟨rfl, rfl⟩ := hn rfl
    refine (clone_nil w).mono ?_
    rintro e w' ⟨rfl, rfl⟩
    exact ⟨_, _, rfl, hr, Below.refl _ _, fun _ => ⟨rfl, rfl⟩⟩
  | some x =>
    refine (clone_some x len cap zs w hr hl).mono ?_
    rintro e w' ⟨rfl, h1, h2, _⟩
    exact ⟨_, _, rfl, h1, h2, fun h => by cases h⟩

/-- 'string(b)' of whatever slice of bytes. -/
theorem Row.convert {w : World} {ao : Option Addr} {len : Nat} {zs : List Int} (hr : Row w ao len zs) (cap : Nat) : (convert 22 9 (.slice ao len cap)).run Eamg.prog w = .ok (.string (strOfNums zs)) w := by
  rcases Nat.eq_zero_or_pos len with h0 | hp
  · subst h0
    have hz : zs = [] := List.eq_nil_of_length_eq_zero hr.1
    subst hz
    rw [run_convert_bytes_string w 22 9 5 _ 0 cap Eamg.underlying22 Eamg.underlying5 Eamg.underlying9]
    cases ao <;> simp [Conv.bytesToString, loadCells]
    all_goals rfl
  · obtain ⟨b, off, rfl, hc⟩ := hr.2.1 hp
    exact run_convert_bytes_arg (P := Eamg.prog) w 22 5 Eamg.underlying22 Eamg.underlying5 b off len cap zs hr.1 hc 9 Eamg.underlying9


set_option maxHeartbeats 1600000 in
/-- 'sameBytes' of two slices of the same bytes: true. -/
theorem sameBytes_true (a1 : Option Addr) (a2 : Option Addr) (len c1 c2 : Nat) (zs : List Int) (w : World) (h1 : Row w a1 len zs) (h2 : Row w a2 len zs) (hl : len ≤ 1048576) :
    Calls Eamg.prog 9 #[.slice a1 len c1, .slice a2 len c2] w fun e w' => e = .returned (.bool true) ∧ Below w.heap.size w w' := by
  go_enter Eamg.func9, Eamg.ntmps9
  go_wp2
  go_loopw [5] (fun i wr => ∃ (k : Nat), k ≤ len ∧ i = .int .i64 k ∧ Below w.heap.size w wr)
    (fun i _ => len - (intOf i).toNat)
  case atStart => exact ⟨0, Nat.zero_le _, rfl, Below.refl _ _⟩
  case round =>
    obtain ⟨k, hk, rfl, hbel⟩ := hrel
    by_cases hlt : k < len
    · obtain ⟨b, off, ex, hc⟩ := h1.2.1 (by omega)
      cases ex
      obtain ⟨b2, off2, ex, hc2⟩ := h2.2.1 (by omega)
      cases ex
      have hcx : wr.cell? ⟨b, off + k, none⟩ = some (.int .u8 (zs.getD k 0)) := (hbel.cell (lt_of_cell (hc k hlt))).trans (hc k hlt)
      have hcy : wr.cell? ⟨b2, off2 + k, none⟩ = some (.int .u8 (zs.getD k 0)) := (hbel.cell (lt_of_cell (hc2 k hlt))).trans (hc2 k hlt)
      clear hc hc2
      go_wp2
      go_quiet (fail)
      go_wp2
      go_roundw
      case rel => exact ⟨k + 1, by omega, by go_num, below_drewN hbel _⟩
      case measure => simp [intOf]; omega
    · go_wp2
      go_ret
      exact ⟨rfl, hbel⟩

/-- 'x.(*Bytes)' at a value of one of the four other types: no. -/
theorem not42 (v : Value) (w : World) : (Instr.typeAssert (.iface 42 v) 31 25 true).run Eamg.prog w = .ok (.tuple #[.pointer none, .bool false]) w := by kernel_rfl
theorem not46 (v : Value) (w : World) : (Instr.typeAssert (.iface 46 v) 31 25 true).run Eamg.prog w = .ok (.tuple #[.pointer none, .bool false]) w := by kernel_rfl
theorem not49 (v : Value) (w : World) : (Instr.typeAssert (.iface 49 v) 31 25 true).run Eamg.prog w = .ok (.tuple #[.pointer none, .bool false]) w := by kernel_rfl
theorem not52 (v : Value) (w : World) : (Instr.typeAssert (.iface 52 v) 31 25 true).run Eamg.prog w = .ok (.tuple #[.pointer none, .bool false]) w := by kernel_rfl

set_option maxHeartbeats 1600000 in
/-- '(*Bytes).BinaryOp' at a right operand of another type: nil and what the sentinel's variable holds. -/
theorem refuse_any (p : Option Addr) (op : Int) (T : TypeId) (v E : Value) (w : World) (hta : ∀ w, (Instr.typeAssert (.iface T v) 31 25 true).run Eamg.prog w = .ok (.tuple #[.pointer none, .bool false]) w) (hE : w.cell? ⟨0, 0, none⟩ = some E) :
    Calls Eamg.prog 10 #[.pointer p, .int .i64 op, .iface T v] w fun e w' => e = .returned (.tuple #[.nilIface, E]) ∧ ∃ n, w' = w.drewN n := by
  by_cases hop : op = 11
  · subst hop
    go_enter Eamg.func10, Eamg.ntmps10
    go_wp2
    go_quiet (fail)
    go_wp2
    go_ret2
    exact ⟨rfl, _, rfl⟩
  · go_enter Eamg.func10, Eamg.ntmps10
    go_wp2
    go_quiet (fail)
    go_wp2
    go_ret2
    exact ⟨rfl, _, rfl⟩
end Go.Proofs.YoeamwDoor
