/-
  Seat oeamD: the row 'Rows.FnBytesAddRefusesOtherTypesSaid' proved.
-/
import Derived.Test.YoeamwDoorParts
import Derived.Lay
namespace Go.Proofs.YoeamwDoor.refuses
open Go.ChangeShapes Go.WideShapes Go.ChangeAt Go.RowKit
open Go.ChangeMaps (open_string shut_string)
set_option linter.unusedVariables false

theorem byte_of_wf {x : Int} (h : (Lit.int .u8 x).wf = true) : 0 ≤ x ∧ x < 256 := by
  have h1 : IntKind.u8.min = 0 := rfl
  have h2 : IntKind.u8.max = 255 := rfl
  simp only [Lit.wf, Bool.and_eq_true, decide_eq_true_eq] at h
  omega

/-- The law returns true and writes nothing that was there. -/
theorem walk (a0 : Option Addr) (len cap : Nat) (zs : List Int) (s : ByteArray) (n op : Int) (a : Addr) (w : World) (hr : Row w a0 len zs) (hn : a0 = none → len = 0 ∧ cap = 0)
    (hE : w.cell? ⟨0, 0, none⟩ = some (.iface 55 (.pointer (some a)))) :
    Calls Eamg.prog 5 #[.slice a0 len cap, .string s, .int .i64 n, .int .i64 op] w fun e w' => e = .returned (.bool true) ∧ Below w.heap.size w w' := by
  by_cases hl : len + s.size ≤ 1048576
  · exact refuses_short a0 len cap zs s n op a w hr hn hl hE
  · exact refuses_long a0 len cap s n op w (by omega)

theorem vars_three {H : Type} {enc : TypeId × Value → H} {P : Program} {w : World} {spare : Nat → Bool} {n0 n1 n2 : String} {gs : List (DataW H)} {ps : List MemPlace} (h : DataW.TrodVars enc P w spare [n0, n1, n2] gs ps) :
    ∃ g1 g2 g3, gs = [g1, g2, g3] := by
  match gs, h with
  | [], h => cases h
  | [_], h => obtain ⟨_, _, _, _, _, _, _, _, _, _, h, _⟩ := h; cases h
  | [_, _], h => obtain ⟨_, _, _, _, _, _, _, _, _, _, ⟨_, _, _, _, _, _, _, _, _, _, h, _⟩, _⟩ := h; cases h
  | [g1, g2, g3], _ => exact ⟨g1, g2, g3, rfl⟩
  | _ :: _ :: _ :: _ :: _, h => obtain ⟨_, _, _, _, _, _, _, _, _, _, ⟨_, _, _, _, _, _, _, _, _, _, ⟨_, _, _, _, _, _, _, _, _, _, h, _⟩, _⟩, _⟩ := h; cases h

theorem namedFine : ∀ n ∈ Rows.fnBytesAddRefusesOtherTypesSpec.vars, ∀ g t, Eamg.prog.globalNamed n = some g → (Eamg.prog.globals[g]?).map (·.type) = some t → Eamg.prog.readableRec t = true ∧ t < Eamg.prog.types.size := by
  have hall : (Rows.fnBytesAddRefusesOtherTypesSpec.vars.all fun n => match Eamg.prog.globalNamed n with | some g => (match (Eamg.prog.globals[g]?).map (·.type) with | some t => Eamg.prog.readableRec t && decide (t < Eamg.prog.types.size) | none => true) | none => true) = true := by kernel_rfl
  intro n hn g t hg ht
  have h1 := List.all_eq_true.1 hall n hn
  simp only [hg, ht, Bool.and_eq_true, decide_eq_true_eq] at h1
  exact h1

/-- The start that fits: the heap that the door's own run leaves; a nil slice, the empty string, 0, 0. -/
theorem door_vars (os : Os) : ((World.doorLaid Eamg.prog 127 os).forCall (fun _ _ => 0) ⟨#[], #[.slice none 0 0, .string ⟨#[]⟩, .int .i64 0, .int .i64 0], []⟩).variablesZipB Eamg.prog = true := by kernel_rfl
theorem door_rest (os : Os) : (((World.doorLaid Eamg.prog 127 os).forCall (fun _ _ => 0) ⟨#[], #[.slice none 0 0, .string ⟨#[]⟩, .int .i64 0, .int .i64 0], []⟩).heap.toList.drop Eamg.prog.globals.size).take ((begin Eamg.prog (fun _ _ => 0) default).world.heap.size - Eamg.prog.globals.size) =
      (begin Eamg.prog (fun _ _ => 0) default).world.heap.toList.drop Eamg.prog.globals.size := by kernel_rfl
theorem door_shaped (os : Os) : ((World.doorLaid Eamg.prog 127 os).forCall (fun _ _ => 0) ⟨#[], #[.slice none 0 0, .string ⟨#[]⟩, .int .i64 0, .int .i64 0], []⟩).Shaped Eamg.prog :=
  World.shaped_of_ZipB (door_vars os) (door_rest os)

set_option maxRecDepth 100000 in
theorem lifted (os : Os) (started : os.Started) (H : Type) (enc : TypeId × Value → H) :
    ReturnsInHanded {} Eamg.checked os 5 .any (fun w args => (Rows.fnBytesAddRefusesOtherTypesSpec.pre enc Eamg.prog Eamg.f5 [] false w args ∧ laidMetH Eamg.prog Rows.fnBytesAddRefusesOtherTypesRow.laid w) ∧ sizedMet enc Eamg.prog Eamg.f5 (OpenSpec.ofChange Rows.fnBytesAddRefusesOtherTypesSpec) false w args)
      (Rows.fnBytesAddRefusesOtherTypesSpec.post enc Eamg.prog Eamg.f5 false true false false) := by
  refine returnsInHanded_of_change_and (C := Eamg.checked) (X := fun w _ => laidMetH Eamg.prog Rows.fnBytesAddRefusesOtherTypesRow.laid w) (fun _ _ _ hh h => h.of_heap hh) own started (by kernel_rfl) Eamg.func5
    (ChangeSpec.witness_shaped (enc := enc) (C := Eamg.checked) (os := os) (X := fun w _ => laidMetH Eamg.prog Rows.fnBytesAddRefusesOtherTypesRow.laid w) false (World.doorLaid Eamg.prog 127 os) #[.slice none 0 0, .string ⟨#[]⟩, .int .i64 0, .int .i64 0] 8 rfl (door_shaped os) (by kernel_rfl) (by kernel_rfl) (by kernel_rfl) (door_met os _)) ?_
  intro W base args ds gs before hval0 hW _ _ hL _
  have hval : ∀ (j : Nat) t v, Eamg.f5.params[j]? = some t → args[j]? = some v → Value.okWide Eamg.prog W .any base t v := hval0
  have hW' := hW
  obtain ⟨p, q, hA0, hV, rfl, hfz, hnd⟩ := hW
  have hA : DataW.TrodAll enc Eamg.prog W 0 (fun _ => true) true Eamg.f5.params.toList args.toList ds p := hA0
  rw [Eamg.params5] at hA hval
  obtain ⟨v0, vs0, d0, ds0, p0, q0, hargs, rfl, rfl, h0, r0⟩ := trodAll_cons hA
  obtain ⟨v1, vs1, d1, ds1, p1, q1, rfl, rfl, rfl, h1, r1⟩ := trodAll_cons r0
  obtain ⟨v2, vs2, d2, ds2, p2, q2, rfl, rfl, rfl, h2, r2⟩ := trodAll_cons r1
  obtain ⟨v3, vs3, d3, ds3, p3, q3, rfl, rfl, rfl, h3, r3⟩ := trodAll_cons r2
  obtain ⟨rfl, rfl, rfl⟩ := trodAll_nil r3
  obtain rfl : args = #[v0, v1, v2, v3] := by cases args; simp_all
  have ltq : ∀ x ∈ q, x.block < W.heap.size := DataW.TrodVars.lt hV
  obtain ⟨g1, g2, g3, rfl⟩ := vars_three hV
  obtain ⟨a, hE⟩ := of_laid hL
  obtain ⟨s, rfl, rfl, rfl, hs⟩ := open_string Eamg.underlying9 (hval 1 9 v1 rfl rfl) h1
  obtain ⟨n, rfl, rfl, rfl, wn⟩ := open_int Eamg.underlying2 (hval 2 2 v2 rfl rfl) h2
  obtain ⟨op, rfl, rfl, rfl, wop⟩ := open_int Eamg.underlying3 (hval 3 3 v3 rfl rfl) h3
  obtain ⟨a0, len0, cap0, rfl⟩ := okWide_slice Eamg.underlying22 (hval 0 22 v0 rfl rfl)
  have k0 := h0
  have lt0 : ∀ x ∈ p0, x.block < W.heap.size := by obtain ⟨m, hm⟩ := k0; exact DataW.trod_lt m _ _ _ hm
  obtain ⟨zs, hr, hn⟩ : ∃ zs, Row W a0 len0 zs ∧ (a0 = none → len0 = 0 ∧ cap0 = 0) := by
    obtain ⟨fuel, hf⟩ := h0
    rcases open_ints Eamg.underlying22 Eamg.underlying5 (by kernel_rfl) hf with ⟨hcs, _⟩ | ⟨x, l, c, zs, hcs, _, hl, hm, hz, _, hcell, hwz⟩
    · simp [Value.cells] at hcs
      obtain ⟨rfl, rfl, rfl⟩ := hcs
      exact ⟨[], ⟨rfl, fun h => by omega, fun n h => by simp at h⟩, fun _ => ⟨rfl, rfl⟩⟩
    · simp [Value.cells] at hcs
      obtain ⟨rfl, rfl, rfl⟩ := hcs
      have hz' : zs.length = cap0 := by simpa using hz
      refine ⟨zs.take len0, ⟨by simp; omega, fun hp => ?_, fun n hn => byte_of_wf (hwz n (List.mem_of_mem_take hn))⟩, fun h => by cases h⟩
      obtain ⟨b, off, rfl, hc'⟩ := ints_at hcell (by omega)
      exact ⟨b, off, rfl, fun i hi => by rw [hc' i (by omega)]; simp [List.getD, hi]⟩
  clear hA0 hval0
  refine (walk a0 len0 cap0 zs s n op a W hr hn hE).mono fun e W' ⟨he, bel⟩ => ?_
  subst he
  exact ⟨_, rfl, _, _, _, [], _, _, hW', trodAll_mk1 (shut_bool Eamg.underlying4 _),
    (trodAll_cons_mk (Below.trod laidOut (by kernel_rfl) (of_decide_eq_true (by kernel_rfl)) k0 bel lt0)
      (trodAll_cons_mk (shut_string Eamg.underlying9 hs) (trodAll_cons_mk (shut_int Eamg.underlying2 wn) (trodAll_cons_mk (shut_int Eamg.underlying3 wop) trodAll_mk0)))),
    vars_stay laidOut bel namedFine ltq hV, bel.frame _, fun h => by cases h⟩

theorem over : Rows.FnBytesAddRefusesOtherTypesSaid :=
  OpenClaim.holds_of_wide 5 Eamg.f5 rfl rfl rfl rfl rfl rfl rfl ⟨rfl, rfl, rfl, rfl, rfl⟩ rfl rfl rfl rfl rfl (by kernel_rfl) Eamg.func5 (by kernel_rfl)
    (of_decide_eq_true (by kernel_rfl)) (by unfold Func.isWrapper; first | (rw [if_pos (by decide +kernel)]; kernel_rfl) | (rw [if_neg (by decide +kernel)]; exact ⟨rfl, rfl⟩))
    (fun os started H enc _ => lifted os started H enc)
end Go.Proofs.YoeamwDoor.refuses
