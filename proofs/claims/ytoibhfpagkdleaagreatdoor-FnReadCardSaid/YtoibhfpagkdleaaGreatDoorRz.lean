/-
  FnRead, for every list of types and either order of bytes: the law answers true, and each argument and the named variable read behind the call as before. Condition: the two listed variables read as the program's text lays them (the card ties them to it).
-/
import Derived.Test.YtoibhfpagkdleaaGreatDoorCards
import Derived.Test.YtoibhfpagkdleaaGreatDoorTie
import Derived.Test.YtoibhfpagkdleaaGreatDoorGy
import Derived.Test.YtoibhfpagkdleaaGreatDoorGz
import Derived.ProofKit
import Derived.OpenShut
import Derived.OpenVars
import Derived.LaidLaws
import Derived.LaidMore
import Derived.Deep.DeepHandedRow
import Derived.Deep.DeepWitnessRowRef
namespace Go.Proofs.YtoibhfpagkdleaaGreatDoor
section
open Go Go.ChangeShapes Go.WideShapes Go.ChangeAt Go.RowKit

set_option maxRecDepth 100000
theorem ownK : ownKnob Tryz.prog.godebug = none := by kernel_rfl
theorem gB : Tryz.prog.globalNamed "loop.example/pub-g03147/pub/ebpfbtf.ErrNotFound" = some 0 := by kernel_rfl
theorem tB : (Tryz.prog.globals[0]?).map (·.type) = some 40 := by kernel_rfl
theorem star : "*" ++ "errors.errorString" = "*errors.errorString" := by decide
theorem row202 (u : TypeId) (h : Tryz.prog.typeName? 3 u = some "*errors.errorString") : u = 202 :=
  typeName_ptr_named (nm := "errors.errorString") (by rw [star]; kernel_rfl) (by kernel_rfl) (by decide) u (by rw [star]; exact h)
theorem c204 : Tryz.prog.cellsOf 204 = 1 := by kernel_rfl
theorem c9' : Tryz.prog.cellsOf 9 = 1 := by kernel_rfl
theorem door_met (os : Os) (args : Array Value) : laidMetH Tryz.prog Rows.fnReadRow.laid ((World.doorLaid Tryz.prog 47 os).forCall (fun _ _ => 0) ⟨#[], args, []⟩).memory :=
  laidMetH_of_parts3 (fuel := 8) (laidMet_of_run' 8 (by kernel_rfl) (by kernel_rfl)) (by kernel_rfl) (by kernel_rfl)

/-- what the listed variables give the walk -/
theorem of_laid {W : World} (h : laidMetH Tryz.prog Rows.fnReadRow.laid W) : ∃ (g0 : Obj) (ea : Addr), W.heap[0]? = some g0 ∧ cellOf g0 0 = some (.iface 202 (.pointer (some ea))) := by
  rw [MakeChecks.laidMetH_plain _ _ _ (by kernel_rfl)] at h
  obtain ⟨ps, ⟨ga, ta, csa, fa, pa, qa, hga, hta, hva, hda, ⟨g1, t1, cs1, f1, p1, q1, hg1, ht1, hv1, hd1, hq1, e1⟩, e0⟩, hnd, hrows⟩ := h
  obtain rfl := Option.some.inj (gB.symm.trans hg1)
  obtain rfl := Option.some.inj (tB.symm.trans ht1)
  subst e1
  subst e0
  obtain ⟨l1⟩ := cs1
  have ok1 : ∀ u v, l1 = [.iface u v] → Value.okWide Tryz.prog W .any 0 u v := fun u v e => by
    subst e
    exact (hrows 0 0 (by simp [MemPlace.row])).2 u v (by simpa using World.var?_cell hg1 hv1 0)
  obtain ⟨a1, s1, rfl, hc1, hs1, hz1, rfl⟩ := errorString_of_trod Tryz.underlying40 row202 Tryz.underlying202 Tryz.underlying204 rfl rfl Tryz.underlying9 c204 c9' hd1 ok1
  have hcell : W.cell? ⟨0, 0, none⟩ = some (.iface 202 (.pointer (some a1))) := by simpa using World.var?_cell hg1 hv1 0
  unfold World.cell? at hcell
  split at hcell
  · rename_i c t fr hb
    simp only [Option.isSome_none, Bool.false_eq_true, if_false] at hcell
    exact ⟨_, a1, hb, by simpa [cellOf] using hcell⟩
  · cases hcell

theorem Ext.toBelow {w w' : World} (h : Ext noS w w') : Below w.heap.size w w' := ⟨h.os, h.tape, h.output, h.size, fun k hk => h.block k hk id⟩

/-- what the walk gives, for every argument and every world that the row speaks of -/
theorem contract (H : Type) (enc : TypeId × Value → H) (W : World) (base : Nat) (args : Array Value) (ds gs : List (DataW H)) (before : List MemPlace)
    (hval : ∀ (j : Nat) t v, Tryz.f3.params[j]? = some t → args[j]? = some v → Value.okWide Tryz.prog W .any base t v)
    (hW : DataW.Whole enc Tryz.prog Tryz.f3.params.toList Rows.fnReadSpec.vars false W args.toList ds gs before) (hL : laidMetH Tryz.prog Rows.fnReadRow.laid W) :
    Calls Tryz.prog 3 args W fun e W' => ∃ v, e = .returned v ∧ Rows.fnReadSpec.post enc Tryz.prog Tryz.f3 false true false false W args v W' := by
  have hW' := hW
  obtain ⟨p, q, hA0, hV, rfl, hfz, hnd⟩ := hW
  have hA : DataW.TrodAll enc Tryz.prog W 0 (fun _ => true) true Tryz.f3.params.toList args.toList ds p := hA0
  rw [Tryz.params3] at hA hval
  obtain ⟨v0, vs0, d0, ds0, p0, q0, hargs, rfl, rfl, h0, r0⟩ := trodAll_cons hA
  obtain ⟨v1, vs1, d1, ds1, p1, q1, rfl, rfl, rfl, h1, r1⟩ := trodAll_cons r0
  obtain ⟨rfl, rfl, rfl⟩ := trodAll_nil r1
  obtain rfl : args = #[v0, v1] := by cases args; simp_all
  obtain ⟨big, rfl, rfl, rfl⟩ := open_bool Tryz.underlying4 (hval 1 4 v1 rfl rfl) h1
  obtain ⟨fuel, h0f⟩ := id h0
  obtain ⟨g0, ea, hb, hg⟩ := of_laid hL
  obtain ⟨sa, sl, sc, rfl⟩ := okWide_slice Tryz.underlying22 (hval 0 22 v0 rfl rfl)
  obtain ⟨ps, pc, ts, hcs, hts, hv⟩ := open_tys h0f
  obtain ⟨rfl, rfl, rfl⟩ : sa = ps ∧ sl = ts.length ∧ sc = pc := by simpa [Value.cells] using hcs
  have hlt : ∀ x ∈ p0, x.block < W.heap.size := DataW.TrodAll.lt (show DataW.TrodAll enc Tryz.prog W 0 (fun _ => true) true [22] [.slice sa ts.length sc] [d0] p0 from ⟨p0, [], h0, rfl, by simp⟩)
  refine (f3_ok sa sc ts big hv g0 ea hg W hts hb).mono fun e W' ⟨he, hx⟩ => ?_
  subst he
  have bel := Ext.toBelow hx
  match gs, hV with
  | [], hV => exact hV.elim
  | g :: r, hV =>
    have hr : r = [] := by
      obtain ⟨_, _, _, _, _, q', _, _, _, _, h, _⟩ := hV
      cases r with
      | nil => rfl
      | cons _ _ => exact h.elim
    subst hr
    exact ⟨_, rfl, _, _, _, [], _, _, hW', trodAll_cons_mk (shut_bool Tryz.underlying4 _) trodAll_mk0,
      trodAll_cons_mk (Below.trod (by kernel_rfl) (by kernel_rfl) (of_decide_eq_true (by kernel_rfl)) h0 bel hlt) (trodAll_cons_mk (shut_bool Tryz.underlying4 _) trodAll_mk0),
      Below.trodVars (by kernel_rfl) bel (by kernel_rfl) hV, bel.frame _, fun h => by cases h⟩

theorem lifted (os : Os) (started : os.Started) (H : Type) (enc : TypeId × Value → H) :
    ReturnsInHanded {} Tryz.checked os 3 .any (fun w args => (Rows.fnReadSpec.pre enc Tryz.prog Tryz.f3 [] false w args ∧ laidMetH Tryz.prog Rows.fnReadRow.laid w) ∧ sizedMet enc Tryz.prog Tryz.f3 (OpenSpec.ofChange Rows.fnReadSpec) false w args)
      (Rows.fnReadSpec.post enc Tryz.prog Tryz.f3 false true false false) := by
  refine returnsInHanded_of_change_and (C := Tryz.checked) (X := fun w _ => laidMetH Tryz.prog Rows.fnReadRow.laid w) (fun _ _ _ hh h => h.of_heap hh) ownK started (by kernel_rfl) Tryz.func3
    (ChangeSpec.witness_shaped (enc := enc) (C := Tryz.checked) (os := os) (X := fun w _ => laidMetH Tryz.prog Rows.fnReadRow.laid w) false (World.doorLaid Tryz.prog 47 os) #[.slice none 0 0, .bool false] 8 rfl (World.shaped_of_RefB (by kernel_rfl) (by kernel_rfl)) (by kernel_rfl) (by kernel_rfl) (by kernel_rfl) (door_met os _)) ?_
  intro W base args ds gs before hval0 hW _ _ hL _
  exact contract H enc W base args ds gs before hval0 hW hL

theorem fnRead_said : Rows.FnReadSaid :=
  OpenClaim.holds_of_wide 3 Tryz.f3 rfl rfl rfl rfl rfl rfl rfl ⟨rfl, rfl, rfl, rfl, rfl⟩ rfl rfl rfl rfl rfl (by kernel_rfl) Tryz.func3 (by kernel_rfl)
    (of_decide_eq_true (by kernel_rfl)) (by unfold Func.isWrapper; first | (rw [if_pos (by decide +kernel)]; kernel_rfl) | (rw [if_neg (by decide +kernel)]; exact ⟨rfl, rfl⟩))
    (fun os started H enc _ => lifted os started H enc)

/-- no parameter wants a stand-in -/
theorem plain (f : FuncId) (fn : Func) (hf : Tryz.pinned.checked.prog.funcNamed "loop.example/pub-g03147/laws.FnRead" = some f) (hfn : Tryz.pinned.checked.prog.funcs[f]? = some fn) :
    true = Tryz.pinned.checked.prog.looks [] ∧ ∀ (j : Nat) t, fn.params[j]? = some t → Tryz.pinned.checked.prog.wantsStandIn t = false := by
  obtain rfl : f = 3 := Option.some.inj ((show Tryz.prog.funcNamed "loop.example/pub-g03147/laws.FnRead" = some 3 by kernel_rfl).symm.trans hf) |>.symm
  obtain rfl : fn = Tryz.f3 := (Option.some.inj (Tryz.func3.symm.trans hfn)).symm
  refine ⟨by kernel_rfl, fun j t ht => ?_⟩
  rw [Tryz.params3] at ht
  have hm : t ∈ [22, 4] := by simpa using Array.mem_of_getElem? ht
  have hall : ([22, 4].all fun u => !Tryz.prog.wantsStandIn u) = true := by kernel_rfl
  exact (show Tryz.prog.wantsStandIn t = false by simpa using List.all_eq_true.1 hall t hm)

/-- the card -/
theorem fnRead_holds : Rows.FnReadCardSaid :=
  Claim7.holds_tied_plain_at .later [] _ _ _ _ fnRead_said (fun _ h => by cases h) (by kernel_rfl) (fun _ h => by cases h) fnRead_row_tie rfl ⟨rfl, rfl⟩ (by kernel_rfl) rfl plain (by kernel_rfl)
#print axioms fnRead_holds
end
end Go.Proofs.YtoibhfpagkdleaaGreatDoor
