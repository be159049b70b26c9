/-
  Seat oeamD: what the row's condition gives the walk; a world that meets it; the named variables behind the call.
-/
import Derived.Test.YoeamwDoorWalk
import Derived.ProofKit
import Derived.OpenShut
import Derived.ShutString
import Derived.ChangeOld
import Derived.Below
import Derived.LaidMore
import Derived.Stop.Joined
import Derived.Stop.LaidErr
namespace Go.Proofs.YoeamwDoor.refuses
open Go.ChangeShapes Go.WideShapes Go.ChangeAt Go.RowKit
open Go.ChangeMaps (open_string shut_string)
set_option linter.unusedVariables false

theorem own : ownKnob Eamg.prog.godebug = none := by kernel_rfl
theorem laidOut : laidOutB Eamg.prog = true := by kernel_rfl
theorem gErr : Eamg.prog.globalNamed Rows.fnBytesAddRefusesOtherTypesSpec.vars[0] = some 0 := by kernel_rfl
theorem tErr : (Eamg.prog.globals[0]?).map (·.type) = some 34 := by kernel_rfl
theorem cells122 : Eamg.prog.cellsOf 122 = 1 := by kernel_rfl
theorem cells9 : Eamg.prog.cellsOf 9 = 1 := by kernel_rfl
/-- The dynamic type's name has one row. -/
theorem row55 (u : TypeId) {s : String} (h : Eamg.prog.typeName? 3 u = some s) (hs : Eamg.prog.typeName? 3 55 = some s) : u = 55 := by
  have key := typeName_ptr_named (P := Eamg.prog) (nm := "errors.errorString") (tp := 55) (by kernel_rfl) (by kernel_rfl) (by decide) u
  exact key (h.trans (hs.symm.trans (by kernel_rfl)))

/-- The door's own heap meets the condition: closed facts. -/
theorem door_met (os : Os) (args : Array Value) : laidMetH Eamg.prog Rows.fnBytesAddRefusesOtherTypesRow.laid ((World.doorLaid Eamg.prog 127 os).forCall (fun _ _ => 0) ⟨#[], args, []⟩).memory :=
  laidMetH_of_parts3 (fuel := 8) (laidMet_of_run' 8 (by kernel_rfl) (by kernel_rfl)) (by kernel_rfl) (by kernel_rfl)

/-- WHAT THE CONDITION GIVES THE WALK: the sentinel's variable holds a pointer to an errorString. -/
theorem of_laid {W : World} (h : laidMetH Eamg.prog Rows.fnBytesAddRefusesOtherTypesRow.laid W) : ∃ a, W.cell? ⟨0, 0, none⟩ = some (.iface 55 (.pointer (some a))) := by
  rw [MakeChecks.laidMetH_plain _ _ _ (by kernel_rfl)] at h
  obtain ⟨a, s, hv, _⟩ := laid_sentinel h gErr tErr Eamg.underlying34 (fun u hu => row55 u hu (by kernel_rfl)) Eamg.underlying55 Eamg.underlying122 rfl rfl Eamg.underlying9 cells122 cells9
  exact ⟨a, by simpa using World.var?_cell gErr hv 0⟩

/-- The named variables read behind the call as before it, through the same places. -/
theorem vars_stay {H : Type} {enc : TypeId × Value → H} {P : Program} (hl : laidOutB P = true) {W W' : World} (hb : Below W.heap.size W W') :
    ∀ {ns : List String} {gs : List (DataW H)} {ps : List MemPlace}, (∀ n ∈ ns, ∀ g t, P.globalNamed n = some g → (P.globals[g]?).map (·.type) = some t → P.readableRec t = true ∧ t < P.types.size) →
      (∀ p ∈ ps, p.block < W.heap.size) → DataW.TrodVars enc P W (fun _ => true) ns gs ps → DataW.TrodVars enc P W' (fun b => decide (b < W.heap.size)) ns gs ps
  | [], [], ps, _, _, h => h
  | [], _ :: _, ps, _, _, h => by cases h
  | _ :: _, [], ps, _, _, h => by cases h
  | n :: ns, d :: ds, ps, hty, hlt, h => by
    obtain ⟨g, t, cs, fuel, p, q, hg, ht, hv, hd, hr, rfl⟩ := h
    obtain ⟨hre, hsz⟩ := hty n (List.mem_cons_self ..) g t hg ht
    have hgl : g < W.heap.size := by
      rcases Nat.lt_or_ge g W.heap.size with h' | h'
      · exact h'
      · simp [World.var?, hg, Array.getElem?_eq_none h'] at hv
    refine ⟨g, t, cs, fuel, p, q, hg, ht, var?_below hb hg hgl hv, ?_, vars_stay hl hb (fun m hm => hty m (List.mem_cons_of_mem _ hm)) (fun x hx => hlt x (by simp [hx])) hr, rfl⟩
    exact DataW.trod_stays (kids_book hl hre) (book_sized hre) (fun h => by cases h) ⟨hsz, book_self t⟩ hd (fun x hx => hb.same (hlt x (by simp [hx]))) (fun x hx => by simpa using hlt x (by simp [hx]))

end Go.Proofs.YoeamwDoor.refuses
