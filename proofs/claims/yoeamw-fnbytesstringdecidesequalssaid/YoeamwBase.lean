/-
  Seat oeam: contracts of the functions that both laws go through: cloneBytes (8), (*Bytes).String (13), sameText (10).
-/
import Derived.Test.YoeamwRows
import Derived.WalkKit
import Derived.WalkLawsBesides
import Derived.WalkSpells
import Derived.BigQuiet
import Derived.Deep.QuietTactic
import Derived.Below
namespace Go.Proofs.Yoeamw
open Go.RowKit
set_option linter.unusedVariables false

/-- A slice value at 'ao', of 'len' bytes: the numbers 'zs'. Of no byte: whatever the address. -/
def Row (w : World) (ao : Option Addr) (len : Nat) (zs : List Int) : Prop :=
  zs.length = len ∧ (0 < len → ∃ b off, ao = some ⟨b, off, none⟩ ∧ ∀ i, i < len → w.cell? ⟨b, off + i, none⟩ = some (.int .u8 (zs.getD i 0))) ∧ ∀ n ∈ zs, 0 ≤ n ∧ n < 256

theorem lt_of_cell {w : World} {b o : Nat} {v : Value} (h : w.cell? ⟨b, o, none⟩ = some v) : b < w.heap.size := by
  rcases Nat.lt_or_ge b w.heap.size with hl | hl
  · exact hl
  · have : w.heap[b]? = none := by simp; omega
    simp [World.cell?, this] at h

theorem Row.later {w w' : World} {ao : Option Addr} {len : Nat} {zs : List Int} (h : Row w ao len zs) (hb : Below w.heap.size w w') : Row w' ao len zs := by
  refine ⟨h.1, fun hp => ?_, h.2.2⟩
  obtain ⟨b, off, e, hc⟩ := h.2.1 hp
  exact ⟨b, off, e, fun i hi => (hb.cell (lt_of_cell (hc i hi))).trans (hc i hi)⟩

theorem Eamg.info5 : (Eamg.prog.info? 5).map (fun i => (i.zero, i.size, i.bytes)) = some (some (.int .u8 0), 1, 1) := by kernel_rfl

theorem set_pre {xs : List Value} {zs : List Int} {k : Nat} (h : ∀ j, j < k → xs[j]? = some (.int .u8 (zs.getD j 0))) (hk : k < xs.length) :
    ∀ j, j < k + 1 → (xs.set k (.int .u8 (zs.getD k 0)))[j]? = some (.int .u8 (zs.getD j 0)) := by
  intro j hj
  rw [List.getElem?_set]
  by_cases e : k = j
  · subst e; simp [hk]
  · rw [if_neg e]; exact h j (by omega)

set_option maxHeartbeats 1600000 in
/-- 'cloneBytes': nil gives nil. -/
theorem clone_nil (w : World) :
    Calls Eamg.prog 8 #[.slice none 0 0] w fun e w' => e = .returned (.slice none 0 0) ∧ w = w' := by
  have q22 : ∀ (w : World) (a : Option Addr) (n c n' c' : Nat), (binOp .eql 22 (.slice a n c) (.slice none n' c')).run Eamg.prog w = .ok (.bool a.isNone) w := fun w a n c n' c' => Lib.run_eql_slice_nil w _ _ a n c n' c' Eamg.underlying22
  go_enter Eamg.func8, Eamg.ntmps8
  go_wp2
  go_ret
  exact ⟨rfl, rfl⟩

set_option maxHeartbeats 1600000 in
/-- 'cloneBytes' of a slice that is not nil: a new block of the same bytes. -/
theorem clone_some (x : Addr) (len cap : Nat) (zs : List Int) (w : World) (hr : Row w (some x) len zs) (hl : len ≤ 1048576) :
    Calls Eamg.prog 8 #[.slice (some x) len cap] w fun e w' => e = .returned (.slice (some ⟨w.heap.size, 0, none⟩) len len) ∧ Row w' (some ⟨w.heap.size, 0, none⟩) len zs ∧ Below w.heap.size w w' ∧ w.heap.size < w'.heap.size := by
  have q22 : ∀ (w : World) (a : Option Addr) (n c n' c' : Nat), (binOp .eql 22 (.slice a n c) (.slice none n' c')).run Eamg.prog w = .ok (.bool a.isNone) w := fun w a n c n' c' => Lib.run_eql_slice_nil w _ _ a n c n' c' Eamg.underlying22
  obtain ⟨i0, hi, hz0, hz1, hz2⟩ := info_parts Eamg.info5
  go_enter Eamg.func8, Eamg.ntmps8
  go_wp2_with (at_make; refine wpList_make_full _ rfl _ _ 22 rfl w.heap.size 5 i0 (.int .u8 0) 1 Eamg.underlying22 hi hz0 hz1 _ _ _ _ len rfl rfl rfl rfl ?b2 ?b3 (Nat.le_refl _) ?_)
  case b2 => rw [hz2]; omega
  case b3 => unfold maxLen; omega
  intro w0 hown0 hgrow0
  go_wp2
  go_loopw [4] (fun i wr => ∃ (k : Nat) (xs : List Value), k ≤ len ∧ i = .int .i64 k ∧ wr.ownsRow w.heap.size 5 1 (.slice (some ⟨w.heap.size, 0, none⟩) len len) len xs ∧ (∀ j, j < k → xs[j]? = some (.int .u8 (zs.getD j 0))) ∧ Below w.heap.size w wr)
    (fun i _ => len - (intOf i).toNat)
  case atStart => exact ⟨0, _, Nat.zero_le _, rfl, hown0, fun j hj => by omega, (Below.refl _ _).grown hgrow0 (Nat.le_refl _) (fun k h => by cases h)⟩
  case round =>
    obtain ⟨k, xs, hk, rfl, hown, hpre, hbel⟩ := hrel
    by_cases hlt : k < len
    · obtain ⟨b, off, ex, hc⟩ := hr.2.1 (by omega)
      cases ex
      have hcx : wr.cell? ⟨b, off + k, none⟩ = some (.int .u8 (zs.getD k 0)) := (hbel.cell (lt_of_cell (hc k hlt))).trans (hc k hlt)
      have hlen : xs.length = len := by simpa using hown.1
      have hcd := hown.cellAt k (by omega)
      rw [List.getElem?_eq_getElem (by omega)] at hcd
      have hfr := hown.frozenAt k
      have hst := hown.stored k (.int .u8 (zs.getD k 0))
      have hsp := set_pre hpre (by omega)
      have HS : Hid (_ ∧ _) := hst
      have HP : Hid (_) := hsp
      clear hst hsp hown hpre hc
      go_wp2
      go_roundw
      case rel => exact ⟨k + 1, _, by omega, by go_num, HS.out.1, HP.out, hbel.setCell (Nat.le_refl _) _⟩
      case measure => simp [intOf]; omega
    · have ek : k = len := by omega
      have HL : Hid (k = len) := ek
      clear ek
      go_wp2
      go_ret
      have e := HL.out
      refine ⟨rfl, ⟨hr.1, fun hp => ⟨_, _, rfl, fun i hi => ?_⟩, hr.2.2⟩, hbel, ?_⟩
      · rw [Nat.zero_add, hown.cellAt i (by omega)]
        exact hpre i (by omega)
      · rcases hown.2 with ⟨h, _⟩ | ⟨g, c, cur, h, _, hg, _⟩
        · simp at h
        · simp at h
          obtain ⟨rfl, rfl⟩ := h
          have := (Array.getElem?_eq_some_iff.1 hg).1
          exact this

/-- 'cloneBytes' of whatever slice, nil too. -/
theorem clone_any (ao : Option Addr) (len cap : Nat) (zs : List Int) (w : World) (hn : ao = none → len = 0 ∧ cap = 0) (hr : Row w ao len zs) (hl : len ≤ 1048576) :
    Calls Eamg.prog 8 #[.slice ao len cap] w fun e w' => ∃ ao' cap', e = .returned (.slice ao' len cap') ∧ Row w' ao' len zs ∧ Below w.heap.size w w' := by
  cases ao with
  | none =>
    obtain ⟨rfl, rfl⟩ := hn rfl
    refine (clone_nil w).mono ?_
    rintro e w' ⟨rfl, rfl⟩
    exact ⟨_, _, rfl, hr, Below.refl _ _⟩
  | some x =>
    refine (clone_some x len cap zs w hr hl).mono ?_
    rintro e w' ⟨rfl, h1, h2, _⟩
    exact ⟨_, _, rfl, h1, h2⟩

/-- 'string(b)' of whatever slice of bytes. -/
theorem Row.convert {w : World} {ao : Option Addr} {len : Nat} {zs : List Int} (hr : Row w ao len zs) (cap : Nat) : (convert 22 9 (.slice ao len cap)).run Eamg.prog w = .ok (.string (strOfNums zs)) w := by
  rcases Nat.eq_zero_or_pos len with h0 | hp
  · subst h0
    have hz : zs = [] := List.eq_nil_of_length_eq_zero hr.1
    subst hz
    rw [run_convert_bytes_string w 22 9 5 _ 0 cap Eamg.underlying22 Eamg.underlying5 Eamg.underlying9]
    cases ao <;> simp [Conv.bytesToString, loadCells]
    all_goals rfl
  · obtain ⟨b, off, rfl, hc⟩ := hr.2.1 hp
    exact run_convert_bytes_arg (P := Eamg.prog) w 22 5 Eamg.underlying22 Eamg.underlying5 b off len cap zs hr.1 hc 9 Eamg.underlying9

set_option maxHeartbeats 1600000 in
/-- '(*Bytes).String': the bytes of the field, as they are. -/
theorem string_any (b : Nat) (ao : Option Addr) (len cap : Nat) (zs : List Int) (w : World) (hcell : w.cell? ⟨b, 0, none⟩ = some (.slice ao len cap)) (hr : Row w ao len zs) :
    Calls Eamg.prog 13 #[.pointer (some ⟨b, 0, none⟩)] w fun e w' => e = .returned (.string (strOfNums zs)) ∧ w = w' := by
  have hcv := hr.convert cap
  go_enter Eamg.func13, Eamg.ntmps13
  go_wp2
  go_ret
  exact ⟨rfl, rfl⟩

set_option maxHeartbeats 1600000 in
/-- 'sameText' of a string and a slice of the same bytes: true. -/
theorem sameText_core (s : ByteArray) (ao : Option Addr) (len cap : Nat) (zs : List Int) (w : World) (hr : Row w ao len zs) (hl : len ≤ 1048576) (hs : s.size = len) (hb : ∀ (k : Nat) (h : k < s.size), (s[k].toNat : Int) = zs.getD k 0) :
    Calls Eamg.prog 10 #[.string s, .slice ao len cap] w fun e w' => e = .returned (.bool true) ∧ Below w.heap.size w w' := by
  subst hs
  go_enter Eamg.func10, Eamg.ntmps10
  go_wp2
  go_loopw [5] (fun i wr => ∃ (k : Nat), k ≤ s.size ∧ i = .int .i64 k ∧ Below w.heap.size w wr)
    (fun i _ => s.size - (intOf i).toNat)
  case atStart => exact ⟨0, Nat.zero_le _, rfl, Below.refl _ _⟩
  case round =>
    obtain ⟨k, hk, rfl, hbel⟩ := hrel
    by_cases hlt : k < s.size
    · obtain ⟨b, off, ex, hc⟩ := hr.2.1 (by omega)
      cases ex
      have hcx : wr.cell? ⟨b, off + k, none⟩ = some (.int .u8 (zs.getD k 0)) := (hbel.cell (lt_of_cell (hc k hlt))).trans (hc k hlt)
      have hbk := hb k hlt
      clear hb hc
      go_wp2
      go_quiet (fail)
      go_wp2
      go_roundw
      case rel => exact ⟨k + 1, by omega, by go_num, below_drewN hbel _⟩
      case measure => simp [intOf]; omega
    · go_wp2
      go_ret
      exact ⟨rfl, hbel⟩

theorem str_byte {zs : List Int} (hz : ∀ n ∈ zs, 0 ≤ n ∧ n < 256) (k : Nat) (h : k < (strOfNums zs).size) : ((strOfNums zs)[k].toNat : Int) = zs.getD k 0 := by
  have hk : k < zs.length := by rw [← strOfNums_size]; exact h
  have e : (strOfNums zs)[k] = UInt8.ofNat (zs[k]).toNat := by
    have h2 : k < ((zs.map fun n => UInt8.ofNat n.toNat).toArray).size := by simpa using hk
    have h3 : ((zs.map fun n => UInt8.ofNat n.toNat).toArray)[k]'h2 = UInt8.ofNat (zs[k]).toNat := by simp
    exact h3
  have hb := hz zs[k] (List.getElem_mem hk)
  rw [e]
  simp [List.getD, hk]
  omega

/-- 'sameText(string(b), b)': true. -/
theorem sameText_any (ao : Option Addr) (len cap : Nat) (zs : List Int) (w : World) (hr : Row w ao len zs) (hl : len ≤ 1048576) :
    Calls Eamg.prog 10 #[.string (strOfNums zs), .slice ao len cap] w fun e w' => e = .returned (.bool true) ∧ Below w.heap.size w w' :=
  sameText_core (strOfNums zs) ao len cap zs w hr hl (by rw [strOfNums_size]; exact hr.1) (str_byte hr.2.2)
end Go.Proofs.Yoeamw
