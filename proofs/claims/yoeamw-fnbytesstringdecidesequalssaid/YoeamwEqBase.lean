/-
  Seat oeam: contracts for the second law: bytes.Equal (19), (*Bytes).Equals (11), sameBytes (15), the length bound (14).
-/
import Derived.Test.YoeamwBase
namespace Go.Proofs.Yoeamw
open Go.RowKit
set_option linter.unusedVariables false

set_option maxHeartbeats 1600000 in
/-- 'bytes.Equal'. -/
theorem bytesEqual_any (a1 a2 : Option Addr) (n c m d : Nat) (xs ys : List Int) (B : Bool) (w : World) (h1 : Row w a1 n xs) (h2 : Row w a2 m ys) (hB : ((strOfNums xs).toList == (strOfNums ys).toList) = B) :
    Calls Eamg.prog 19 #[.slice a1 n c, .slice a2 m d] w fun e w' => e = .returned (.bool B) ∧ w' = w := by
  have e1 := h1.convert c
  have e2 := h2.convert d
  clear h1 h2
  go_enter Eamg.func19, Eamg.ntmps19
  go_wp2
  go_ret
  exact ⟨rfl, rfl⟩

theorem Row.drewN {w : World} {ao : Option Addr} {len : Nat} {zs : List Int} (h : Row w ao len zs) (n : Nat) : Row (w.drewN n) ao len zs :=
  h.later (below_drewN (Below.refl _ _) n)

set_option maxHeartbeats 1600000 in
/-- '(*Bytes).Equals' at a *Bytes. -/
theorem equals_any (b1 b2 : Nat) (a1 a2 : Option Addr) (n c m d : Nat) (xs ys : List Int) (B : Bool) (w : World) (f1 : w.cell? ⟨b1, 0, none⟩ = some (.slice a1 n c)) (f2 : w.cell? ⟨b2, 0, none⟩ = some (.slice a2 m d))
    (h1 : Row w a1 n xs) (h2 : Row w a2 m ys) (hB : ((strOfNums xs).toList == (strOfNums ys).toList) = B) :
    Calls Eamg.prog 11 #[.pointer (some ⟨b1, 0, none⟩), .iface 25 (.pointer (some ⟨b2, 0, none⟩))] w fun e w' => e = .returned (.bool B) ∧ Below w.heap.size w w' := by
  have hta : ∀ (w : World), (Instr.typeAssert (.iface 25 (.pointer (some ⟨b2, 0, none⟩))) 31 25 true).run Eamg.prog w = .ok (.tuple #[.pointer (some ⟨b2, 0, none⟩), .bool true]) w := fun w => by kernel_rfl
  have H1 : Hid (Row w a1 n xs) := h1
  have H2 : Hid (Row w a2 m ys) := h2
  have HB : Hid (((strOfNums xs).toList == (strOfNums ys).toList) = B) := hB
  clear h1 h2 hB
  go_enter Eamg.func11, Eamg.ntmps11
  go_wp2
  go_quiet ((go_at_call 19; exact Calls.quiet_of_same (bytesEqual_any _ _ _ _ _ _ xs ys B _ (H1.out.drewN _) (H2.out.drewN _) HB.out)))
  go_wp2
  go_ret
  exact ⟨rfl, below_drewN (Below.refl _ _) _⟩

set_option maxHeartbeats 1600000 in
/-- 'sameBytes' of slices of two lengths: false. -/
theorem sameBytes_len (a1 a2 : Option Addr) (n c m d : Nat) (w : World) (hne : n ≠ m) :
    Calls Eamg.prog 15 #[.slice a1 n c, .slice a2 m d] w fun e w' => e = .returned (.bool false) ∧ Below w.heap.size w w' := by
  have h : ((n : Int) == (m : Int)) = false := by simp; omega
  have h' : ((n : Int) != (m : Int)) = true := by simp; omega
  clear hne
  go_enter Eamg.func15, Eamg.ntmps15
  go_wp2
  go_ret
  exact ⟨rfl, Below.refl _ _⟩

set_option maxHeartbeats 1600000 in
/-- 'sameBytes' of two slices of one length: are the bytes the same? -/
theorem sameBytes_core (a1 a2 : Option Addr) (len c1 c2 : Nat) (xs ys : List Int) (B : Bool) (w : World) (h1 : Row w a1 len xs) (h2 : Row w a2 len ys) (hl : len ≤ 1048576)
    (hno : ∀ k, k < len → xs.getD k 0 ≠ ys.getD k 0 → B = false) (hyes : (∀ k, k < len → xs.getD k 0 = ys.getD k 0) → B = true) :
    Calls Eamg.prog 15 #[.slice a1 len c1, .slice a2 len c2] w fun e w' => e = .returned (.bool B) ∧ Below w.heap.size w w' := by
  have HNO : Hid (∀ k, k < len → xs.getD k 0 ≠ ys.getD k 0 → B = false) := hno
  have HYES : Hid ((∀ k, k < len → xs.getD k 0 = ys.getD k 0) → B = true) := hyes
  clear hno hyes
  go_enter Eamg.func15, Eamg.ntmps15
  go_wp2
  go_loopw [5] (fun i wr => ∃ (k : Nat), k ≤ len ∧ i = .int .i64 k ∧ (∀ j, j < k → xs.getD j 0 = ys.getD j 0) ∧ Below w.heap.size w wr)
    (fun i _ => len - (intOf i).toNat)
  case atStart => exact ⟨0, Nat.zero_le _, rfl, fun j hj => by omega, Below.refl _ _⟩
  case round =>
    obtain ⟨k, hk, rfl, hpre0, hbel⟩ := hrel
    have hpre : Hid (∀ j, j < k → xs.getD j 0 = ys.getD j 0) := hpre0
    clear hpre0
    by_cases hlt : k < len
    · obtain ⟨b, off, ex, hc⟩ := h1.2.1 (by omega)
      cases ex
      obtain ⟨b2, off2, ex, hc2⟩ := h2.2.1 (by omega)
      cases ex
      obtain ⟨x, hx⟩ : ∃ x, x = xs.getD k 0 := ⟨_, rfl⟩
      obtain ⟨y, hy⟩ : ∃ y, y = ys.getD k 0 := ⟨_, rfl⟩
      have hcx : wr.cell? ⟨b, off + k, none⟩ = some (.int .u8 x) := by rw [hx]; exact (hbel.cell (lt_of_cell (hc k hlt))).trans (hc k hlt)
      have hcy : wr.cell? ⟨b2, off2 + k, none⟩ = some (.int .u8 y) := by rw [hy]; exact (hbel.cell (lt_of_cell (hc2 k hlt))).trans (hc2 k hlt)
      have HX : Hid (x = xs.getD k 0) := hx
      have HY : Hid (y = ys.getD k 0) := hy
      clear hc hc2 hx hy h1 h2
      by_cases hxy : x = y
      · have HE : Hid (x = y) := hxy
        have e1 : (x == y) = true := by simpa using hxy
        have e2 : (x != y) = false := by simpa using hxy
        clear hxy
        go_wp2
        go_quiet (fail)
        go_wp2
        go_roundw
        case rel =>
          refine ⟨k + 1, by omega, by go_num, fun j hj => ?_, below_drewN hbel _⟩
          by_cases hjk : j = k
          · subst hjk; rw [← HX.out, ← HY.out]; exact HE.out
          · exact hpre.out j (by omega)
        case measure => simp [intOf]; omega
      · have HE : Hid (x ≠ y) := hxy
        have e1 : (x == y) = false := by simpa using hxy
        have e2 : (x != y) = true := by simpa using hxy
        clear hxy
        go_wp2
        go_quiet (fail)
        go_wp2
        go_ret
        exact ⟨by rw [HNO.out k hlt (by rw [← HX.out, ← HY.out]; exact HE.out)]; rfl, below_drewN hbel _⟩
    · go_wp2
      go_ret
      exact ⟨by rw [HYES.out fun j hj => hpre.out j (by omega)]; rfl, hbel⟩

theorem getD_ext : ∀ {xs ys : List Int}, xs.length = ys.length → (∀ k, k < xs.length → xs.getD k 0 = ys.getD k 0) → xs = ys := by
  intro xs ys hl h
  refine List.ext_getElem hl fun k h1 h2 => ?_
  have := h k h1
  simpa [List.getD, h1, h2] using this

/-- 'sameBytes': the same bytes? -/
theorem sameBytes_any (a1 a2 : Option Addr) (n c m d : Nat) (xs ys : List Int) (B : Bool) (w : World) (h1 : Row w a1 n xs) (h2 : Row w a2 m ys) (hl : n ≤ 1048576) (hB : decide (xs = ys) = B) :
    Calls Eamg.prog 15 #[.slice a1 n c, .slice a2 m d] w fun e w' => e = .returned (.bool B) ∧ Below w.heap.size w w' := by
  by_cases hnm : n = m
  · subst hnm
    have hlen : xs.length = ys.length := by rw [h1.1, h2.1]
    refine sameBytes_core a1 a2 n c d xs ys B w h1 h2 hl (fun k hk hne => ?_) (fun hall => ?_)
    · rw [← hB]
      exact decide_eq_false fun e => hne (by rw [e])
    · rw [← hB]
      exact decide_eq_true (getD_ext hlen fun k hk => hall k (by rw [← h1.1]; exact hk))
  · have hf : B = false := by
      rw [← hB]
      exact decide_eq_false fun e => hnm (by rw [← h1.1, ← h2.1, e])
    subst hf
    exact sameBytes_len a1 a2 n c m d w hnm

/-- The strings of two slices of bytes are equal just where the bytes are. -/
theorem str_eq {xs ys : List Int} (hx : ∀ n ∈ xs, 0 ≤ n ∧ n < 256) (hy : ∀ n ∈ ys, 0 ≤ n ∧ n < 256) : ((strOfNums xs).toList == (strOfNums ys).toList) = decide (xs = ys) := by
  rw [Bool.eq_iff_iff]
  simp only [beq_iff_eq, decide_eq_true_eq]
  refine ⟨fun h => ?_, fun h => by rw [h]⟩
  rw [ByteArray.toList_eq, ByteArray.toList_eq, strOfNums_data, strOfNums_data] at h
  have hl : xs.length = ys.length := by simpa using congrArg List.length h
  refine List.ext_getElem hl fun k h1 h2 => ?_
  have hk := congrArg (fun l : List UInt8 => l[k]?) h
  simp only [List.getElem?_map, List.getElem?_eq_getElem h1, List.getElem?_eq_getElem h2, Option.map_some, Option.some.injEq] at hk
  have hn := congrArg UInt8.toNat hk
  have bx := hx _ (List.getElem_mem h1)
  have bz := hy _ (List.getElem_mem h2)
  simp only [UInt8.toNat_ofNat'] at hn
  omega

set_option maxHeartbeats 1600000 in
/-- The bound on the lengths, laid by program: within it. -/
theorem zz14_short (a0 a1 : Option Addr) (n c m d : Nat) (w : World) (hl : n + m ≤ 1048576) :
    Calls Eamg.prog 14 #[.slice a0 n c, .slice a1 m d] w fun e w' => e = .returned (.bool true) ∧ w = w' := by
  go_enter Eamg.func14, Eamg.ntmps14
  go_wp2
  go_ret
  exact ⟨rfl, rfl⟩

set_option maxHeartbeats 1600000 in
/-- The bound on the lengths: beyond it. -/
theorem zz14_long (a0 a1 : Option Addr) (n c m d : Nat) (w : World) (hl : 1048576 < n + m) :
    Calls Eamg.prog 14 #[.slice a0 n c, .slice a1 m d] w fun e w' => e = .returned (.bool false) ∧ w = w' := by
  by_cases h1 : n ≤ 1048576
  · by_cases h2 : m ≤ 1048576
    · go_enter Eamg.func14, Eamg.ntmps14
      go_wp2
      go_ret
      exact ⟨rfl, rfl⟩
    · go_enter Eamg.func14, Eamg.ntmps14
      go_wp2
      go_ret
      exact ⟨rfl, rfl⟩
  · go_enter Eamg.func14, Eamg.ntmps14
    go_wp2
    go_ret
    exact ⟨rfl, rfl⟩
end Go.Proofs.Yoeamw
