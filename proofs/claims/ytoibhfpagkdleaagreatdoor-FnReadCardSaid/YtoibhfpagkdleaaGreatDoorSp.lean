/-
  CONTRACTS: more of what the specification says.
  CONTRACTS: kinds by number, sizes that fit.
  COMPARISONS OF TEXTS.
-/
import Derived.Test.YtoibhfpagkdleaaGreatDoorFl
import Derived.Test.YtoibhfpagkdleaaGreatDoorSk
namespace Go.Proofs.YtoibhfpagkdleaaGreatDoor
section
open Go
open Tryz
set_option maxRecDepth 100000

theorem f24_ok (k : Int) (w : World) : Calls Tryz.prog 24 #[.int .i64 k] w (fun r w' => r = .returned (.int .i64 (namedI k)) ∧ Ext noS w w') := by
 refine sw_calls (S := noS) func24 rfl ntmps24 (sees1 _ _ rfl) (Holds.start _ _) ?_
 refine SR fun _ k1 => ?_
 refine Ac ?_
 refine SN k1 ?_
 refine Sq fun _ k2 => ?_
 refine SR fun _ k3 => ?_
 refine Mo ?_
 refine SN k3 ?_
 refine Bl ?_
 refine Ek [3, 2] ?_
 refine Sq fun _ k4 => ?_
 refine SR fun _ k5 => ?_
 refine Sc Obe ?_
 refine Ah ?_
 refine Sb ?_ ?_
 ·
  refine Ci fun hs4 => ?_
  refine SN k5 ?_
  refine Th ?_
  refine SS k4 ?_
  refine Th ?_
  refine Ek [2] ?_
  refine SR fun _ k6 => ?_
  refine Ac ?_
  refine SN k6 ?_
  refine Rt ?_
  refine Pl0 ?_
  refine Pl3 ?_
  exact SK_ret1 rfl .hit (fun w hw => ⟨by first | rw [show namedI k = 1 from if_pos om] | rw [show namedI k = 0 from (if_neg om).trans (if_pos om)] | rw [show namedI k = -1 from (if_neg om).trans (if_neg om)], hw.ext⟩)
 refine Ci fun hs4 => ?_
 refine SN k5 ?_
 refine Fh ?_
 refine Ek [4, 3, 2] ?_
 refine SR fun _ k7 => ?_
 refine Sc Obe ?_
 refine Ah ?_
 refine Sb ?_ ?_
 ·
  refine Ci fun hs4 => ?_
  refine SN k7 ?_
  refine Th ?_
  refine SS k4 ?_
  refine Th ?_
  refine Ek [2] ?_
  refine SR fun _ k8 => ?_
  refine Ac ?_
  refine SN k8 ?_
  refine Rt ?_
  refine Pl0 ?_
  refine Pl3 ?_
  exact SK_ret1 rfl .hit (fun w hw => ⟨by first | rw [show namedI k = 1 from if_pos om] | rw [show namedI k = 0 from (if_neg om).trans (if_pos om)] | rw [show namedI k = -1 from (if_neg om).trans (if_neg om)], hw.ext⟩)
 refine Ci fun hs4 => ?_
 refine SN k7 ?_
 refine Fh ?_
 refine Ek [4, 3, 2] ?_
 refine SR fun _ k9 => ?_
 refine Sc Obe ?_
 refine Ah ?_
 refine Sb ?_ ?_
 ·
  refine Ci fun hs4 => ?_
  refine SN k9 ?_
  refine Th ?_
  refine SS k4 ?_
  refine Th ?_
  refine Ek [2] ?_
  refine SR fun _ k10 => ?_
  refine Ac ?_
  refine SN k10 ?_
  refine Rt ?_
  refine Pl0 ?_
  refine Pl3 ?_
  exact SK_ret1 rfl .hit (fun w hw => ⟨by first | rw [show namedI k = 1 from if_pos om] | rw [show namedI k = 0 from (if_neg om).trans (if_pos om)] | rw [show namedI k = -1 from (if_neg om).trans (if_neg om)], hw.ext⟩)
 refine Ci fun hs4 => ?_
 refine SN k9 ?_
 refine Fh ?_
 refine Ek [4, 3, 2] ?_
 refine SR fun _ k11 => ?_
 refine Sc Obe ?_
 refine Ah ?_
 refine Sb ?_ ?_
 ·
  refine Ci fun hs4 => ?_
  refine SN k11 ?_
  refine Th ?_
  refine SS k4 ?_
  refine Th ?_
  refine Ek [2] ?_
  refine SR fun _ k12 => ?_
  refine Ac ?_
  refine SN k12 ?_
  refine Rt ?_
  refine Pl0 ?_
  refine Pl3 ?_
  exact SK_ret1 rfl .hit (fun w hw => ⟨by first | rw [show namedI k = 1 from if_pos om] | rw [show namedI k = 0 from (if_neg om).trans (if_pos om)] | rw [show namedI k = -1 from (if_neg om).trans (if_neg om)], hw.ext⟩)
 refine Ci fun hs4 => ?_
 refine SN k11 ?_
 refine Fh ?_
 refine Ek [4, 3, 2] ?_
 refine SR fun _ k13 => ?_
 refine Sc Obe ?_
 refine Ah ?_
 refine Sb ?_ ?_
 ·
  refine Ci fun hs4 => ?_
  refine SN k13 ?_
  refine Th ?_
  refine SS k4 ?_
  refine Th ?_
  refine Ek [2] ?_
  refine SR fun _ k14 => ?_
  refine Ac ?_
  refine SN k14 ?_
  refine Rt ?_
  refine Pl0 ?_
  refine Pl3 ?_
  exact SK_ret1 rfl .hit (fun w hw => ⟨by first | rw [show namedI k = 1 from if_pos om] | rw [show namedI k = 0 from (if_neg om).trans (if_pos om)] | rw [show namedI k = -1 from (if_neg om).trans (if_neg om)], hw.ext⟩)
 refine Ci fun hs4 => ?_
 refine SN k13 ?_
 refine Fh ?_
 refine Ek [4, 3, 2] ?_
 refine SR fun _ k15 => ?_
 refine Sc Obe ?_
 refine Ah ?_
 refine Sb ?_ ?_
 ·
  refine Ci fun hs4 => ?_
  refine SN k15 ?_
  refine Th ?_
  refine SS k4 ?_
  refine Th ?_
  refine Ek [2] ?_
  refine SR fun _ k16 => ?_
  refine Ac ?_
  refine SN k16 ?_
  refine Rt ?_
  refine Pl0 ?_
  refine Pl3 ?_
  exact SK_ret1 rfl .hit (fun w hw => ⟨by first | rw [show namedI k = 1 from if_pos om] | rw [show namedI k = 0 from (if_neg om).trans (if_pos om)] | rw [show namedI k = -1 from (if_neg om).trans (if_neg om)], hw.ext⟩)
 refine Ci fun hs4 => ?_
 refine SN k15 ?_
 refine Fh ?_
 refine Ek [4, 3, 2] ?_
 refine SR fun _ k17 => ?_
 refine Sc Obe ?_
 refine Ah ?_
 refine Sb ?_ ?_
 ·
  refine Ci fun hs4 => ?_
  refine SN k17 ?_
  refine Th ?_
  refine SS k4 ?_
  refine Th ?_
  refine Ek [2] ?_
  refine SR fun _ k18 => ?_
  refine Ac ?_
  refine SN k18 ?_
  refine Rt ?_
  refine Pl0 ?_
  refine Pl3 ?_
  exact SK_ret1 rfl .hit (fun w hw => ⟨by first | rw [show namedI k = 1 from if_pos om] | rw [show namedI k = 0 from (if_neg om).trans (if_pos om)] | rw [show namedI k = -1 from (if_neg om).trans (if_neg om)], hw.ext⟩)
 refine Ci fun hs4 => ?_
 refine SN k17 ?_
 refine Fh ?_
 refine Sr ?_
 refine Sc Obe ?_
 refine Ah ?_
 refine Sb ?_ ?_
 ·
  refine Ci fun hs4 => ?_
  refine SN k4 ?_
  refine Th ?_
  refine Ek [2] ?_
  refine SR fun _ k19 => ?_
  refine Ac ?_
  refine SN k19 ?_
  refine Rt ?_
  refine Pl0 ?_
  refine Pl3 ?_
  exact SK_ret1 rfl .hit (fun w hw => ⟨by first | rw [show namedI k = 1 from if_pos om] | rw [show namedI k = 0 from (if_neg om).trans (if_pos om)] | rw [show namedI k = -1 from (if_neg om).trans (if_neg om)], hw.ext⟩)
 refine Ci fun hs4 => ?_
 refine SN k4 ?_
 refine Fh ?_
 refine Ek [3, 2] ?_
 refine Sq fun _ k20 => ?_
 refine SR fun _ k21 => ?_
 refine Sc Obe ?_
 refine Ah ?_
 refine Sb ?_ ?_
 ·
  refine Ci fun hs13 => ?_
  refine SN k21 ?_
  refine Th ?_
  refine SS k20 ?_
  refine Th ?_
  refine Ek [2] ?_
  refine SR fun _ k22 => ?_
  refine Ac ?_
  refine SN k22 ?_
  refine Rt ?_
  refine Pl0 ?_
  refine Pl3 ?_
  exact SK_ret1 rfl .hit (fun w hw => ⟨by first | rw [show namedI k = 1 from if_pos om] | rw [show namedI k = 0 from (if_neg om).trans (if_pos om)] | rw [show namedI k = -1 from (if_neg om).trans (if_neg om)], hw.ext⟩)
 refine Ci fun hs13 => ?_
 refine SN k21 ?_
 refine Fh ?_
 refine Ek [13, 3, 2] ?_
 refine SR fun _ k23 => ?_
 refine Sc Obe ?_
 refine Ah ?_
 refine Sb ?_ ?_
 ·
  refine Ci fun hs13 => ?_
  refine SN k23 ?_
  refine Th ?_
  refine SS k20 ?_
  refine Th ?_
  refine Ek [2] ?_
  refine SR fun _ k24 => ?_
  refine Ac ?_
  refine SN k24 ?_
  refine Rt ?_
  refine Pl0 ?_
  refine Pl3 ?_
  exact SK_ret1 rfl .hit (fun w hw => ⟨by first | rw [show namedI k = 1 from if_pos om] | rw [show namedI k = 0 from (if_neg om).trans (if_pos om)] | rw [show namedI k = -1 from (if_neg om).trans (if_neg om)], hw.ext⟩)
 refine Ci fun hs13 => ?_
 refine SN k23 ?_
 refine Fh ?_
 refine Ek [13, 3, 2] ?_
 refine SR fun _ k25 => ?_
 refine Sc Obe ?_
 refine Ah ?_
 refine Sb ?_ ?_
 ·
  refine Ci fun hs13 => ?_
  refine SN k25 ?_
  refine Th ?_
  refine SS k20 ?_
  refine Th ?_
  refine Ek [2] ?_
  refine SR fun _ k26 => ?_
  refine Ac ?_
  refine SN k26 ?_
  refine Rt ?_
  refine Pl0 ?_
  refine Pl3 ?_
  exact SK_ret1 rfl .hit (fun w hw => ⟨by first | rw [show namedI k = 1 from if_pos om] | rw [show namedI k = 0 from (if_neg om).trans (if_pos om)] | rw [show namedI k = -1 from (if_neg om).trans (if_neg om)], hw.ext⟩)
 refine Ci fun hs13 => ?_
 refine SN k25 ?_
 refine Fh ?_
 refine Sr ?_
 refine Sc Obe ?_
 refine Ah ?_
 refine Sb ?_ ?_
 ·
  refine Ci fun hs13 => ?_
  refine SN k20 ?_
  refine Th ?_
  refine Ek [2] ?_
  refine SR fun _ k27 => ?_
  refine Ac ?_
  refine SN k27 ?_
  refine Rt ?_
  refine Pl0 ?_
  refine Pl3 ?_
  exact SK_ret1 rfl .hit (fun w hw => ⟨by first | rw [show namedI k = 1 from if_pos om] | rw [show namedI k = 0 from (if_neg om).trans (if_pos om)] | rw [show namedI k = -1 from (if_neg om).trans (if_neg om)], hw.ext⟩)
 refine Ci fun hs13 => ?_
 refine SN k20 ?_
 refine Fh ?_
 refine SS k2 ?_
 refine Ek [2] ?_
 refine SR fun _ k28 => ?_
 refine Ac ?_
 refine SN k28 ?_
 refine Rt ?_
 refine Pl3 ?_
 exact SK_ret1 rfl .hit (fun w hw => ⟨by first | rw [show namedI k = 1 from if_pos om] | rw [show namedI k = 0 from (if_neg om).trans (if_pos om)] | rw [show namedI k = -1 from (if_neg om).trans (if_neg om)], hw.ext⟩)

theorem f54_ok (kind flag v : Int) (nm sz enc ow ix mem : Value) (w : World) : Calls Tryz.prog 54 #[.agg #[.int .i64 kind, nm, sz, enc, .int .i64 flag, ow, ix, mem], .int .i64 v] w (fun r w' => ∃ t : Bool, r = .returned (.bool t) ∧ (t = true → kind ≠ 19 → ((flag = 1 → -2147483648 ≤ v ∧ v < 2147483648) ∧ (flag ≠ 1 → 0 ≤ v ∧ v < 4294967296))) ∧ Ext noS w w') := by
 refine sw_calls (S := noS) func54 rfl ntmps54 (sees2 _ _ _ rfl) (Holds.start _ _) ?_
 refine SR fun _ k1 => ?_
 refine Sc (O_box rfl (.tmp .hit) rfl) ?_
 intro bk2 _
 refine Ac ?_
 refine SN k1 ?_
 refine Ek [4, 2, 1] ?_
 refine Sq fun _ k2 => ?_
 refine Bl ?_
 refine SR fun _ k3 => ?_
 refine Sc (Ofa underlying32 sz3) ?_
 refine Sc (Ola oc3) ?_
 refine Sc Obe ?_
 refine Mh ?_
 refine Sb ?_ ?_
 ·
  refine Ci fun hs9 => ?_
  refine Wo (Ofa underlying32 sz3) ?_
  refine Wo (Ola oc3) ?_
  refine Wo Obe ?_
  refine Sc Opt ?_
  refine Ah ?_
  refine SN k3 ?_
  refine Sd ?_ ?_
  ·
   refine Ci fun ht5 => ?_
   refine Ek [4, 1] ?_
   refine SR fun _ k4 => ?_
   refine Mo ?_
   refine Sc (O_binOp rfl (.tmp .hit) .const (fun _ => b_geq _ _ _ _ rfl)) ?_
   refine Ah ?_
   refine SN k4 ?_
   refine Rt ?_
   refine Pl0 ?_
   refine Pl3 ?_
   exact SK_ret1 rfl .hit (fun w hw => ⟨_, rfl, (fun h hk19 => by first | contradiction | omega | (have hq := of_decide_eq_true h; omega) | (cases h; done)), hw.ext⟩)
  refine Ci fun ht5 => ?_
  refine Ek [4, 2, 1] ?_
  refine SR fun _ k5 => ?_
  refine Sc (Ofa underlying32 sz3) ?_
  refine Sc (Ola oc3) ?_
  refine Sc Obe ?_
  refine Ah ?_
  refine SN k5 ?_
  refine Sd ?_ ?_
  ·
   refine Ci fun ht16 => ?_
   refine Ek [4, 1] ?_
   refine SR fun _ k6 => ?_
   refine Ac ?_
   refine SN k6 ?_
   refine Rt ?_
   refine Pl0 ?_
   refine Pl3 ?_
   exact SK_ret1 rfl .hit (fun w hw => ⟨_, rfl, (fun h hk19 => by first | contradiction | omega | (have hq := of_decide_eq_true h; omega) | (cases h; done)), hw.ext⟩)
  refine Ci fun ht16 => ?_
  refine Ek [4, 2, 1] ?_
  refine SR fun _ k7 => ?_
  refine Sc (Ofa underlying32 sz3) ?_
  refine Sc (Ola oc3) ?_
  refine Sc Obe ?_
  refine Ah ?_
  refine SN k7 ?_
  refine Sd ?_ ?_
  ·
   refine Ci fun ht20 => ?_
   refine Ek [4, 1] ?_
   refine SR fun _ k8 => ?_
   refine Mo ?_
   refine Sc (O_binOp rfl (.tmp .hit) .const (fun _ => b_geq _ _ _ _ rfl)) ?_
   refine Mh ?_
   refine Sb ?_ ?_
   ·
    refine Ci fun hs26 => ?_
    refine Wo Omo ?_
    refine Wo (O_binOp rfl (.tmp .hit) .const (fun _ => b_lss _ _ _ _ rfl)) ?_
    refine Sc Opt ?_
    refine Ah ?_
    refine SN k8 ?_
    refine Rt ?_
    refine Pl0 ?_
    refine Pl3 ?_
    exact SK_ret1 rfl .hit (fun w hw => ⟨_, rfl, (fun h hk19 => by first | contradiction | omega | (have hq := of_decide_eq_true h; omega) | (cases h; done)), hw.ext⟩)
   refine Ci fun hs26 => ?_
   refine Uo (Uo ?_)
   refine Sc Opg ?_
   refine Ah ?_
   refine SN k8 ?_
   refine Rt ?_
   refine Pl0 ?_
   refine Pl3 ?_
   exact SK_ret1 rfl .hit (fun w hw => ⟨_, rfl, (fun h hk19 => by first | contradiction | omega | (have hq := of_decide_eq_true h; omega) | (cases h; done)), hw.ext⟩)
  refine Ci fun ht20 => ?_
  refine SS k2 ?_
  refine Ek [4, 1] ?_
  refine SR fun _ k9 => ?_
  refine Mo ?_
  refine Sc (O_binOp rfl (.tmp .hit) .const (fun _ => b_geq _ _ _ _ rfl)) ?_
  refine Mh ?_
  refine Sb ?_ ?_
  ·
   refine Ci fun hs32 => ?_
   refine Wo Omo ?_
   refine Wo (O_binOp rfl (.tmp .hit) .const (fun _ => b_lss _ _ _ _ rfl)) ?_
   refine Sc Opt ?_
   refine Ah ?_
   refine SN k9 ?_
   refine Rt ?_
   refine Pl3 ?_
   exact SK_ret1 rfl .hit (fun w hw => ⟨_, rfl, (fun h hk19 => by first | contradiction | omega | (have hq := of_decide_eq_true h; omega) | (cases h; done)), hw.ext⟩)
  refine Ci fun hs32 => ?_
  refine Uo (Uo ?_)
  refine Sc Opg ?_
  refine Ah ?_
  refine SN k9 ?_
  refine Rt ?_
  refine Pl3 ?_
  exact SK_ret1 rfl .hit (fun w hw => ⟨_, rfl, (fun h hk19 => by first | contradiction | omega | (have hq := of_decide_eq_true h; omega) | (cases h; done)), hw.ext⟩)
 refine Ci fun hs9 => ?_
 refine Uo (Uo (Uo ?_))
 refine Sc Opg ?_
 refine Ah ?_
 refine SN k3 ?_
 refine Fh ?_
 refine Ek [4, 2, 1] ?_
 refine SR fun _ k10 => ?_
 refine Sc (Ofa underlying32 sz3) ?_
 refine Sc (Ola oc3) ?_
 refine Sc Obe ?_
 refine Ah ?_
 refine SN k10 ?_
 refine Sd ?_ ?_
 ·
  refine Ci fun ht16 => ?_
  refine Ek [4, 1] ?_
  refine SR fun _ k11 => ?_
  refine Ac ?_
  refine SN k11 ?_
  refine Rt ?_
  refine Pl0 ?_
  refine Pl3 ?_
  exact SK_ret1 rfl .hit (fun w hw => ⟨_, rfl, (fun h hk19 => by first | contradiction | omega | (have hq := of_decide_eq_true h; omega) | (cases h; done)), hw.ext⟩)
 refine Ci fun ht16 => ?_
 refine Ek [4, 2, 1] ?_
 refine SR fun _ k12 => ?_
 refine Sc (Ofa underlying32 sz3) ?_
 refine Sc (Ola oc3) ?_
 refine Sc Obe ?_
 refine Ah ?_
 refine SN k12 ?_
 refine Sd ?_ ?_
 ·
  refine Ci fun ht20 => ?_
  refine Ek [4, 1] ?_
  refine SR fun _ k13 => ?_
  refine Mo ?_
  refine Sc (O_binOp rfl (.tmp .hit) .const (fun _ => b_geq _ _ _ _ rfl)) ?_
  refine Mh ?_
  refine Sb ?_ ?_
  ·
   refine Ci fun hs26 => ?_
   refine Wo Omo ?_
   refine Wo (O_binOp rfl (.tmp .hit) .const (fun _ => b_lss _ _ _ _ rfl)) ?_
   refine Sc Opt ?_
   refine Ah ?_
   refine SN k13 ?_
   refine Rt ?_
   refine Pl0 ?_
   refine Pl3 ?_
   exact SK_ret1 rfl .hit (fun w hw => ⟨_, rfl, (fun h hk19 => by first | contradiction | omega | (have hq := of_decide_eq_true h; omega) | (cases h; done)), hw.ext⟩)
  refine Ci fun hs26 => ?_
  refine Uo (Uo ?_)
  refine Sc Opg ?_
  refine Ah ?_
  refine SN k13 ?_
  refine Rt ?_
  refine Pl0 ?_
  refine Pl3 ?_
  exact SK_ret1 rfl .hit (fun w hw => ⟨_, rfl, (fun h hk19 => by first | contradiction | omega | (have hq := of_decide_eq_true h; omega) | (cases h; done)), hw.ext⟩)
 refine Ci fun ht20 => ?_
 refine SS k2 ?_
 refine Ek [4, 1] ?_
 refine SR fun _ k14 => ?_
 refine Mo ?_
 refine Sc (O_binOp rfl (.tmp .hit) .const (fun _ => b_geq _ _ _ _ rfl)) ?_
 refine Mh ?_
 refine Sb ?_ ?_
 ·
  refine Ci fun hs32 => ?_
  refine Wo Omo ?_
  refine Wo (O_binOp rfl (.tmp .hit) .const (fun _ => b_lss _ _ _ _ rfl)) ?_
  refine Sc Opt ?_
  refine Ah ?_
  refine SN k14 ?_
  refine Rt ?_
  refine Pl3 ?_
  exact SK_ret1 rfl .hit (fun w hw => ⟨_, rfl, (fun h hk19 => by first | contradiction | omega | (have hq := of_decide_eq_true h; omega) | (cases h; done)), hw.ext⟩)
 refine Ci fun hs32 => ?_
 refine Uo (Uo ?_)
 refine Sc Opg ?_
 refine Ah ?_
 refine SN k14 ?_
 refine Rt ?_
 refine Pl3 ?_
 exact SK_ret1 rfl .hit (fun w hw => ⟨_, rfl, (fun h hk19 => by first | contradiction | omega | (have hq := of_decide_eq_true h; omega) | (cases h; done)), hw.ext⟩)
end

section
open Go
open Tryz
set_option maxRecDepth 100000

theorem f44_ok (p : Option Addr) (cap : Nat) (ts : List Tp) (n : Int) (hc : ts.length < 4611686018427387904) (w : World) (hT : TysAt w p ts) : Calls Tryz.prog 44 #[.slice p ts.length cap, .int .i64 n] w (fun r w' => r = .returned (.int .i64 (kindAt ts n)) ∧ Ext noS w w') := by
 refine sw_calls (S := noS) func44 rfl ntmps44 (sees2 _ _ _ rfl) (Holds.start _ _) ?_
 refine SR fun _ k1 => ?_
 refine Ac ?_
 refine SN k1 ?_
 refine Sq fun _ k2 => ?_
 refine SR fun _ k3 => ?_
 refine Mo ?_
 refine Sc (O_binOp rfl (.tmp .hit) .const (fun _ => b_lss _ _ _ _ rfl)) ?_
 refine Mh ?_
 refine Sb ?_ ?_
 ·
  refine Ci fun hs7 => ?_
  refine Uo (Uo (Uo (Uo ?_)))
  refine Sc Opu ?_
  refine SN k3 ?_
  refine Th ?_
  refine Ek [4, 0, 1] ?_
  refine SR fun _ k4 => ?_
  refine Ac ?_
  refine SN k4 ?_
  refine Rt ?_
  refine Pl0 ?_
  refine Pl3 ?_
  first
  | exact SK_ret1 rfl .hit (fun w hw => ⟨by rw [show kindAt ts n = 0 from if_pos om], hw.ext⟩)
  | exact SK_ret1 rfl .hit (fun w hw => ⟨by rw [show kindAt ts n = (ts[(n - 1).toNat]).kind from (if_neg om).trans (by rw [List.getElem?_eq_getElem hlt]; rfl)], hw.ext⟩)
 refine Ci fun hs7 => ?_
 refine Wo Omo ?_
 refine Wo Omo ?_
 refine Wo (O_lenSlice rfl (.tmp .hit) underlying22 rfl) ?_
 refine Wo (O_binOp rfl (.tmp (.o rfl)) (.tmp .hit) (fun _ => b_gtr _ _ _ _ rfl)) ?_
 refine Sc Opf ?_
 refine SN k3 ?_
 refine Sd ?_ ?_
 ·
  refine Ci fun ht12 => ?_
  refine Ek [4, 0, 1] ?_
  refine SR fun _ k5 => ?_
  refine Ac ?_
  refine SN k5 ?_
  refine Rt ?_
  refine Pl0 ?_
  refine Pl3 ?_
  first
  | exact SK_ret1 rfl .hit (fun w hw => ⟨by rw [show kindAt ts n = 0 from if_pos om], hw.ext⟩)
  | exact SK_ret1 rfl .hit (fun w hw => ⟨by rw [show kindAt ts n = (ts[(n - 1).toNat]).kind from (if_neg om).trans (by rw [List.getElem?_eq_getElem hlt]; rfl)], hw.ext⟩)
 refine Ci fun ht12 => ?_
 have hn : 1 ≤ n ∧ n ≤ ts.length := by omega
 have hlt : (n - 1).toNat < ts.length := by omega
 obtain ⟨b, off, rfl, mp, mc, hc1, -, -⟩ := hT _ _ (List.getElem?_eq_getElem hlt)
 have hc2 := hc1 0 _ rfl
 refine SS k2 ?_
 refine Ek [4, 0, 1] ?_
 refine SR fun _ k6 => ?_
 refine Mo ?_
 refine Mo ?_
 refine Sc (O_binOp rfl (.tmp .hit) .const (fun _ => b_sub _ _ _ rfl oz oz)) ?_
 refine Sc (O_indexAddr rfl (.tmp (.o rfl)) (.tmp .hit) underlying22 sz32 oz oz) ?_
 refine Sc (Ofa underlying32 sz3) ?_
 refine Sc (O_load0 (v := .int .i64 (ts[(n - 1).toNat]).kind) rfl (.tmp .hit) oc3 (fun h => h) hc2) ?_
 refine Ah ?_
 refine SN k6 ?_
 refine Rt ?_
 refine Pl3 ?_
 first
 | exact SK_ret1 rfl .hit (fun w hw => ⟨by rw [show kindAt ts n = 0 from if_pos om], hw.ext⟩)
 | exact SK_ret1 rfl .hit (fun w hw => ⟨by rw [show kindAt ts n = (ts[(n - 1).toNat]).kind from (if_neg om).trans (by rw [List.getElem?_eq_getElem hlt]; rfl)], hw.ext⟩)

theorem f42_ok (m : Mb) (w : World) : Calls Tryz.prog 42 #[.agg (cellsM m).toArray] w (fun r w' => ∃ t : Bool, r = .returned (.bool t) ∧ (t = true → m.name.size ≤ 2147483647) ∧ Ext noS w w') := by
 refine sw_calls (S := noS) func42 rfl ntmps42 (sees1 _ _ rfl) (Holds.start _ _) ?_
 refine SR fun _ k1 => ?_
 refine Sc (O_box (cs := (cellsM m).toArray) rfl (.tmp .hit) rfl) ?_
 intro bk1 _
 refine Ac ?_
 refine SN k1 ?_
 refine Ek [2, 1] ?_
 refine Sq fun _ k2 => ?_
 refine SR fun _ k3 => ?_
 refine Sc (Ofa underlying64 sz9) ?_
 refine Sc (Ola oc9) ?_
 refine Sc (O_lenStr rfl (.tmp .hit) underlying9 rfl) ?_
 refine Sc (O_binOp rfl (.tmp .hit) .const (fun _ => b_gtr _ _ _ _ rfl)) ?_
 refine SN k3 ?_
 refine Sd ?_ ?_
 ·
  refine Ci fun ht6 => ?_
  refine Ek [2] ?_
  refine SR fun _ k4 => ?_
  refine Ac ?_
  refine SN k4 ?_
  refine Rt ?_
  refine Pl0 ?_
  refine Pl3 ?_
  exact SK_ret1 rfl .hit (fun w hw => ⟨_, rfl, (fun h => by first | contradiction | omega), hw.ext⟩)
 refine Ci fun ht6 => ?_
 refine SS k2 ?_
 refine Ek [2] ?_
 refine SR fun _ k5 => ?_
 refine Ac ?_
 refine SN k5 ?_
 refine Rt ?_
 refine Pl3 ?_
 exact SK_ret1 rfl .hit (fun w hw => ⟨_, rfl, (fun h => by first | contradiction | omega), hw.ext⟩)

theorem f23_ok (p : Option Addr) (cap : Nat) (ms : List Mb) (w : World) (hM : MemsAt w p ms) : Calls Tryz.prog 23 #[.slice p ms.length cap] w (fun r w' => ∃ t : Bool, r = .returned (.bool t) ∧ (t = true → ms.length ≤ 2147483647 ∧ ∀ i q, i < ms.length → ms[i]? = some q → q.name.size ≤ 2147483647) ∧ Ext noS w w') := by
 refine sw_calls (S := noS) func23 rfl ntmps23 (sees1 _ _ rfl) (Holds.start _ _) ?_
 refine SR fun _ k1 => ?_
 refine Ac ?_
 refine SN k1 ?_
 refine Sq fun _ k2 => ?_
 refine SR fun _ k3 => ?_
 refine Mo ?_
 refine Sc (O_lenSlice rfl (.tmp .hit) underlying30 rfl) ?_
 refine Sc (O_binOp rfl (.tmp .hit) .const (fun _ => b_gtr _ _ _ _ rfl)) ?_
 refine SN k3 ?_
 refine Sd ?_ ?_
 ·
  refine Ci fun ht7 => ?_
  refine Ek [2, 0] ?_
  refine SR fun _ k4 => ?_
  refine Ac ?_
  refine SN k4 ?_
  refine Rt ?_
  refine Pl0 ?_
  refine Pl3 ?_
  first
  | exact SK_ret1 rfl .hit (fun w hw => ⟨false, rfl, (fun h => by cases h), hw.ext⟩)
  | exact SK_ret1 rfl .hit (fun w hw => ⟨true, rfl, (fun _ => hfin), hw.ext⟩)
 refine Ci fun ht7 => ?_
 refine SS k2 ?_
 refine Ek [2, 0] ?_
 refine Sq fun _ k5 => ?_
 refine SR fun _ k6 => ?_
 refine Mo ?_
 refine Sc (O_lenSlice rfl (.tmp .hit) underlying30 rfl) ?_
 refine Mc ?_
 refine SN k6 ?_
 refine Bl ?_
 refine SW_loop (α := Nat) (fun x => x ≤ ms.length ∧ ∀ i q, i < x → ms[i]? = some q → q.name.size ≤ 2147483647) (fun x => ms.length - x) (fun x => []) (fun x => [(10, .int .i64 (x : Nat)), (9, .int .i64 (ms.length : Nat)), (8, .slice p ms.length cap), (2, .bool false)]) 0 ⟨Nat.zero_le _, fun i q h _ => absurd h (Nat.not_lt_zero _)⟩ (Ek4 rfl rfl rfl rfl) (SW_range.HSub.all _) ?_
 rintro i ⟨hi, hz⟩
 refine SR fun _ k7 => ?_
 refine Sc (O_binOp rfl (.tmp .hit) (.tmp (.o rfl)) (fun _ => b_lss _ _ _ _ rfl)) ?_
 refine SN k7 ?_
 refine Sq fun _ k8 => ?_
 refine Sd ?_ ?_
 ·
  refine Ci fun ht11 => ?_
  have hlt : i < ms.length := by omega
  obtain ⟨b, off, rfl, hc1⟩ := hM _ _ (List.getElem?_eq_getElem hlt)
  refine SS k8 ?_
  refine Ek [10, 9, 8, 2] ?_
  refine Sq fun _ k9 => ?_
  refine Bl ?_
  refine SR fun _ k10 => ?_
  refine Sc (O_indexAddr rfl (.tmp (.o rfl)) (.tmp .hit) underlying30 sz64 oz oz) ?_
  refine Sc (O_loadA0 (vs := cellsM ms[i]) rfl (.tmp .hit) underlying64 sz64 rfl (fun h => h) (fun j u hj => by have := hc1 j u hj; simpa using this)) ?_
  refine Sc (O_alloc rfl zr64 rfl) ?_
  intro bk4 _
  refine Sc (O_storeA (vs := cellsM ms[i]) (.tmp .hit) (.tmp (.o rfl)) rfl sz64 rfl .a dc rfl) ?_
  refine SN k10 ?_
  refine Ek [4, 10, 9, 8, 2] ?_
  refine SR fun _ k11 => ?_
  refine Sc (O_loadA (vs := cellsM ms[i]) rfl (.tmp .hit) underlying64 sz64 .a rfl) ?_
  refine Sc (O_callN (val := fun t : Bool => .bool t) (N := fun _ => []) (good := fun t => t = true → ms[i].name.size ≤ 2147483647) (xs := [.tmp 14]) (cap := []) rfl .func (.cons (.tmp .hit) .nil) func42 rfl rfl (fun w hw => (f42_ok ms[i] w).mono Q36)) ?_
  intro z15 hz15
  refine Sc (O_unOp rfl (.tmp .hit) (fun _ => rfl)) ?_
  refine SN k11 ?_
  refine Sd ?_ ?_
  ·
   refine Ci fun ht16 => ?_
   refine Ek [10, 9, 8, 2] ?_
   refine SR fun _ k12 => ?_
   refine Ac ?_
   refine SN k12 ?_
   refine Rt ?_
   refine Pl0 ?_
   refine Pl3 ?_
   first
   | exact SK_ret1 rfl .hit (fun w hw => ⟨false, rfl, (fun h => by cases h), hw.ext⟩)
   | exact SK_ret1 rfl .hit (fun w hw => ⟨true, rfl, (fun _ => hfin), hw.ext⟩)
  refine Ci fun ht16 => ?_
  have hz2 : ∀ j q, j < i + 1 → ms[j]? = some q → q.name.size ≤ 2147483647 := fun j q hj hq => by
   rcases Nat.lt_or_ge j i with h | h
   · exact hz j q h hq
   have hji : j = i := by omega
   subst hji
   rw [List.getElem?_eq_getElem hlt] at hq
   injection hq with hq
   subst hq
   exact hz15 (by cases z15 <;> simp_all)
  refine SS k9 ?_
  refine Sr ?_
  refine Sc (O_binOp rfl (.tmp (.o rfl)) .const (fun _ => b_add _ _ _ rfl oz oz)) ?_
  refine Mh ?_
  refine Sn ?_
  refine Pl1 ?_
  exact fun _ _ ha hw => ⟨(i + 1), (by show ms.length - (i + 1) < ms.length - i; omega), ⟨hlt, hz2⟩, ha.weaken .a, hw.weaken Q24⟩
 refine Ci fun ht11 => ?_
 have hfin : ms.length ≤ 2147483647 ∧ ∀ i q, i < ms.length → ms[i]? = some q → q.name.size ≤ 2147483647 := ⟨by omega, fun j q h hq => hz j q om hq⟩
 refine Xt ?_
 refine So k5 ?_
 refine Ek [2] ?_
 refine SR fun _ k13 => ?_
 refine Ac ?_
 refine SN k13 ?_
 refine Rt ?_
 refine Pl3 ?_
 first
 | exact SK_ret1 rfl .hit (fun w hw => ⟨false, rfl, (fun h => by cases h), hw.ext⟩)
 | exact SK_ret1 rfl .hit (fun w hw => ⟨true, rfl, (fun _ => hfin), hw.ext⟩)

theorem f9_ok (t : Tp) (mp : Option Addr) (mc : Nat) (w : World) (hM : MemsAt w mp t.mems) : Calls Tryz.prog 9 #[.agg (cellsT t (.slice mp t.mems.length mc)).toArray] w (fun r w' => ∃ t1 : Bool, r = .returned (.bool t1) ∧ (t1 = true → FitT t) ∧ Ext noS w w') := by
 refine sw_calls (S := noS) func9 rfl ntmps9 (sees1 _ _ rfl) (Holds.start _ _) ?_
 refine SR fun _ k1 => ?_
 refine Sc (O_box (cs := (cellsT t (.slice mp t.mems.length mc)).toArray) rfl (.tmp .hit) rfl) ?_
 intro bk1 _
 refine Ac ?_
 refine SN k1 ?_
 refine Ek [2, 1] ?_
 refine Sq fun _ k2 => ?_
 refine SR fun _ k3 => ?_
 refine Sc (Ofa underlying32 sz9) ?_
 refine Sc (Ola oc9) ?_
 refine Sc (O_lenStr rfl (.tmp .hit) underlying9 rfl) ?_
 refine Sc (O_binOp rfl (.tmp .hit) .const (fun _ => b_gtr _ _ _ _ rfl)) ?_
 refine SN k3 ?_
 refine Sd ?_ ?_
 ·
  refine Ci fun ht6 => ?_
  refine Ek [2, 1] ?_
  refine SR fun _ k4 => ?_
  refine Ac ?_
  refine SN k4 ?_
  refine Rt ?_
  refine Pl0 ?_
  refine Pl3 ?_
  first
  | exact SK_ret1 rfl .hit (fun w hw => ⟨false, rfl, (fun h => by cases h), hw.ext⟩)
  | exact SK_ret1 rfl .hit (fun w hw => ⟨true, rfl, (fun _ => hfin), hw.ext⟩)
 refine Ci fun ht6 => ?_
 refine SS k2 ?_
 refine Ek [2, 1] ?_
 refine Sq fun _ k5 => ?_
 refine SR fun _ k6 => ?_
 refine Sc (Ofa underlying32 sz30) ?_
 refine Sc (Ola oc30) ?_
 refine Sc (O_callN (val := fun t : Bool => .bool t) (N := fun _ => []) (good := fun t1 => t1 = true → t.mems.length ≤ 2147483647 ∧ ∀ i q, i < t.mems.length → t.mems[i]? = some q → q.name.size ≤ 2147483647) (xs := [.tmp 8]) (cap := []) rfl .func (.cons (.tmp .hit) .nil) func23 rfl rfl (fun w1 hw => (f23_ok mp mc t.mems w1 (hM.ext hw.ext)).mono Q36)) ?_
 intro z9 hz9
 refine Sc (O_unOp rfl (.tmp .hit) (fun _ => rfl)) ?_
 refine SN k6 ?_
 refine Sd ?_ ?_
 ·
  refine Ci fun ht10 => ?_
  refine Ek [2] ?_
  refine SR fun _ k7 => ?_
  refine Ac ?_
  refine SN k7 ?_
  refine Rt ?_
  refine Pl0 ?_
  refine Pl3 ?_
  first
  | exact SK_ret1 rfl .hit (fun w hw => ⟨false, rfl, (fun h => by cases h), hw.ext⟩)
  | exact SK_ret1 rfl .hit (fun w hw => ⟨true, rfl, (fun _ => hfin), hw.ext⟩)
 refine Ci fun ht10 => ?_
 have hfin : FitT t := by
  have h9 := hz9 (by cases z9 <;> simp_all)
  exact ⟨by omega, h9⟩
 refine SS k5 ?_
 refine Ek [2] ?_
 refine SR fun _ k8 => ?_
 refine Ac ?_
 refine SN k8 ?_
 refine Rt ?_
 refine Pl3 ?_
 first
 | exact SK_ret1 rfl .hit (fun w hw => ⟨false, rfl, (fun h => by cases h), hw.ext⟩)
 | exact SK_ret1 rfl .hit (fun w hw => ⟨true, rfl, (fun _ => hfin), hw.ext⟩)

theorem f4_ok (p : Option Addr) (cap : Nat) (ts : List Tp) (w : World) (hM : TysAt w p ts) : Calls Tryz.prog 4 #[.slice p ts.length cap] w (fun r w' => ∃ t : Bool, r = .returned (.bool t) ∧ (t = true → ts.length ≤ 2147483647 ∧ ∀ i q, i < ts.length → ts[i]? = some q → FitT q) ∧ Ext noS w w') := by
 refine sw_calls (S := noS) func4 rfl ntmps4 (sees1 _ _ rfl) (Holds.start _ _) ?_
 refine SR fun _ k1 => ?_
 refine Ac ?_
 refine SN k1 ?_
 refine Sq fun _ k2 => ?_
 refine SR fun _ k3 => ?_
 refine Mo ?_
 refine Sc (O_lenSlice rfl (.tmp .hit) underlying22 rfl) ?_
 refine Sc (O_binOp rfl (.tmp .hit) .const (fun _ => b_gtr _ _ _ _ rfl)) ?_
 refine SN k3 ?_
 refine Sd ?_ ?_
 ·
  refine Ci fun ht7 => ?_
  refine Ek [2, 0] ?_
  refine SR fun _ k4 => ?_
  refine Ac ?_
  refine SN k4 ?_
  refine Rt ?_
  refine Pl0 ?_
  refine Pl3 ?_
  first
  | exact SK_ret1 rfl .hit (fun w hw => ⟨false, rfl, (fun h => by cases h), hw.ext⟩)
  | exact SK_ret1 rfl .hit (fun w hw => ⟨true, rfl, (fun _ => hfin), hw.ext⟩)
 refine Ci fun ht7 => ?_
 refine SS k2 ?_
 refine Ek [2, 0] ?_
 refine Sq fun _ k5 => ?_
 refine SR fun _ k6 => ?_
 refine Mo ?_
 refine Sc (O_lenSlice rfl (.tmp .hit) underlying22 rfl) ?_
 refine Mc ?_
 refine SN k6 ?_
 refine Bl ?_
 refine SW_loop (α := Nat) (fun x => x ≤ ts.length ∧ ∀ i q, i < x → ts[i]? = some q → FitT q) (fun x => ts.length - x) (fun x => []) (fun x => [(10, .int .i64 (x : Nat)), (9, .int .i64 (ts.length : Nat)), (8, .slice p ts.length cap), (2, .bool false)]) 0 ⟨Nat.zero_le _, fun i q h _ => absurd h (Nat.not_lt_zero _)⟩ (Ek4 rfl rfl rfl rfl) (SW_range.HSub.all _) ?_
 rintro i ⟨hi, hz⟩
 refine SR fun _ k7 => ?_
 refine Sc (O_binOp rfl (.tmp .hit) (.tmp (.o rfl)) (fun _ => b_lss _ _ _ _ rfl)) ?_
 refine SN k7 ?_
 refine Sq fun _ k8 => ?_
 refine Sd ?_ ?_
 ·
  refine Ci fun ht11 => ?_
  have hlt : i < ts.length := by omega
  obtain ⟨b, off, rfl, mp, mc, hc1, -, hm1⟩ := hM _ _ (List.getElem?_eq_getElem hlt)
  refine SS k8 ?_
  refine Ek [10, 9, 8, 2] ?_
  refine Sq fun _ k9 => ?_
  refine Bl ?_
  refine SR fun _ k10 => ?_
  refine Sc (O_indexAddr rfl (.tmp (.o rfl)) (.tmp .hit) underlying22 sz32 oz oz) ?_
  refine Sc (O_loadA0 (vs := cellsT ts[i] (.slice mp ts[i].mems.length mc)) rfl (.tmp .hit) underlying32 sz32 rfl (fun h => h) (fun j u hj => by have := hc1 j u hj; simpa using this)) ?_
  refine Sc (O_alloc rfl zr32 rfl) ?_
  intro bk4 _
  refine Sc (O_storeA (vs := cellsT ts[i] (.slice mp ts[i].mems.length mc)) (.tmp .hit) (.tmp (.o rfl)) rfl sz32 rfl .a dc rfl) ?_
  refine SN k10 ?_
  refine Ek [4, 10, 9, 8, 2] ?_
  refine SR fun _ k11 => ?_
  refine Sc (O_loadA (vs := cellsT ts[i] (.slice mp ts[i].mems.length mc)) rfl (.tmp .hit) underlying32 sz32 .a rfl) ?_
  refine Sc (O_callN (val := fun t : Bool => .bool t) (N := fun _ => []) (good := fun t => t = true → FitT ts[i]) (xs := [.tmp 14]) (cap := []) rfl .func (.cons (.tmp .hit) .nil) func9 rfl rfl (fun w1 hw => (f9_ok ts[i] mp mc w1 (hm1.ext hw.ext)).mono Q36)) ?_
  intro z15 hz15
  refine Sc (O_unOp rfl (.tmp .hit) (fun _ => rfl)) ?_
  refine SN k11 ?_
  refine Sd ?_ ?_
  ·
   refine Ci fun ht16 => ?_
   refine Ek [10, 9, 8, 2] ?_
   refine SR fun _ k12 => ?_
   refine Ac ?_
   refine SN k12 ?_
   refine Rt ?_
   refine Pl0 ?_
   refine Pl3 ?_
   first
   | exact SK_ret1 rfl .hit (fun w hw => ⟨false, rfl, (fun h => by cases h), hw.ext⟩)
   | exact SK_ret1 rfl .hit (fun w hw => ⟨true, rfl, (fun _ => hfin), hw.ext⟩)
  refine Ci fun ht16 => ?_
  have hz2 : ∀ j q, j < i + 1 → ts[j]? = some q → FitT q := fun j q hj hq => by
   rcases Nat.lt_or_ge j i with h | h
   · exact hz j q h hq
   have hji : j = i := by omega
   subst hji
   rw [List.getElem?_eq_getElem hlt] at hq
   injection hq with hq
   subst hq
   exact hz15 (by cases z15 <;> simp_all)
  refine SS k9 ?_
  refine Sr ?_
  refine Sc (O_binOp rfl (.tmp (.o rfl)) .const (fun _ => b_add _ _ _ rfl oz oz)) ?_
  refine Mh ?_
  refine Sn ?_
  refine Pl1 ?_
  exact fun _ _ ha hw => ⟨(i + 1), Q41, ⟨hlt, hz2⟩, ha.weaken .a, hw.weaken Q24⟩
 refine Ci fun ht11 => ?_
 have hfin : ts.length ≤ 2147483647 ∧ ∀ i q, i < ts.length → ts[i]? = some q → FitT q := ⟨by omega, fun j q h hq => hz j q om hq⟩
 refine Xt ?_
 refine So k5 ?_
 refine Ek [2] ?_
 refine SR fun _ k13 => ?_
 refine Ac ?_
 refine SN k13 ?_
 refine Rt ?_
 refine Pl3 ?_
 first
 | exact SK_ret1 rfl .hit (fun w hw => ⟨false, rfl, (fun h => by cases h), hw.ext⟩)
 | exact SK_ret1 rfl .hit (fun w hw => ⟨true, rfl, (fun _ => hfin), hw.ext⟩)
end

section
open Go
open Tryz
set_option maxRecDepth 100000

theorem str_beq (a b : ByteArray) : (a.toList == b.toList) = decide (a = b) := by
  rw [ByteArray.toList_eq, ByteArray.toList_eq, Bool.eq_iff_iff, beq_iff_eq, decide_eq_true_eq]
  constructor
  · intro h
    exact ByteArray.ext (Array.ext' h)
  rintro rfl; rfl

section
variable {P : Program} {w : World} {T : TypeId} {x y : Operand}
theorem b_eqlS (a b : ByteArray) (t : Bool) (h : decide (a = b) = t) :
    (do eqGuard .eql T x y (.string a) (.string b); binOp .eql T (.string a) (.string b) : Sem Value).run P w = .ok (.bool t) w := by
  subst h
  exact b_eqlStr a b _ (str_beq a b)
theorem b_neqS (a b : ByteArray) (t : Bool) (h : decide (a ≠ b) = t) :
    (do eqGuard .neq T x y (.string a) (.string b); binOp .neq T (.string a) (.string b) : Sem Value).run P w = .ok (.bool t) w := by
  subst h
  have h1 : (!(a.toList == b.toList)) = decide (a ≠ b) := by rw [str_beq]; simp
  rw [← h1]
  simp [eqGuard, binOp, Op.stringOp]
end

theorem NoZero.empty {s : ByteArray} (h : s.size = 0) : NoZero s s.size := fun i hi _ => by omega
end
end Go.Proofs.YtoibhfpagkdleaaGreatDoor
