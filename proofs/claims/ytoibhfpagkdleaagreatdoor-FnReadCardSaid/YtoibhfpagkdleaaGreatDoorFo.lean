/-
  CONTRACT: what a member is.
-/
import Derived.Test.YtoibhfpagkdleaaGreatDoorSp
namespace Go.Proofs.YtoibhfpagkdleaaGreatDoor
section
open Go
open Tryz
set_option maxRecDepth 100000

theorem kindAt_in {ts : List Tp} {n : Int} (h : kindAt ts n ≠ 0) : 1 ≤ n ∧ n ≤ ts.length := by
 unfold kindAt at h
 split at h
 · exact absurd rfl h
 omega

theorem f43_ok (p : Option Addr) (cap : Nat) (ts : List Tp) (t : Tp) (mp : Option Addr) (mc : Nat) (m : Mb) (hfit : m.name.size ≤ 2147483647) (hlen : ts.length ≤ 30) (w : World) (hT : TysAt w p ts) :
 Calls Tryz.prog 43 #[.slice p ts.length cap, .agg (cellsT t (.slice mp t.mems.length mc)).toArray, .agg (cellsM m).toArray] w (fun r w' => ∃ t1 : Bool, r = .returned (.bool t1) ∧ (t1 = true → MOk t.kind t.flag ts.length m) ∧ Ext noS w w') := by
 refine sw_calls (S := noS) func43 rfl ntmps43 (sees3 _ _ _ _ rfl) (Holds.start _ _) ?_
 refine SR fun _ k1 => ?_
 refine Sc (O_box (cs := (cellsT t (.slice mp t.mems.length mc)).toArray) rfl (.tmp (.o rfl)) rfl) ?_
 intro bk4 _
 refine Sc (O_box (cs := (cellsM m).toArray) rfl (.tmp (.o rfl)) rfl) ?_
 intro bk5 _
 refine Ac ?_
 refine SN k1 ?_
 refine Ek [6, 5, 4, 0] ?_
 refine Sq fun _ k2 => ?_
 refine SR fun _ k3 => ?_
 refine SL_join 36 42 (fun t : Bool => .bool t) (fun t => t = false → (0 ≤ m.of_ ∧ m.of_ ≤ ts.length ∧ 0 ≤ m.off ∧ m.off < 16777216 ∧ 0 ≤ m.bits) ∧ (NoZero m.name m.name.size ∧ m.name.size ≤ 12)) (fun tJ hJ => ?_) (fun J => ?_)
 ·
  refine SN k3 ?_
  refine Sd ?_ ?_
  ·
   refine Ci fun ht42 => ?_
   refine Ek [6, 5, 4, 0] ?_
   refine SR fun _ k4 => ?_
   refine Ac ?_
   refine SN k4 ?_
   refine Rt ?_
   refine Pl0 ?_
   refine Pl3 ?_
   exact SK_ret1 rfl .hit (fun w hw => ⟨_, rfl, Q2, hw.ext⟩)
  refine Ci fun ht42 => ?_
  have hbase := hJ ht42
  have hb1 := hbase.1
  refine SS k2 ?_
  refine Ek [6, 5, 4, 0] ?_
  refine Sq fun _ k5 => ?_
  refine SR fun _ k6 => ?_
  refine Sc (Ofa underlying32 sz3) ?_
  refine Sc (Ola oc3) ?_
  refine SN k6 ?_
  refine Bl ?_
  refine Ek [44, 6, 5, 4, 0] ?_
  refine Sq fun _ k7 => ?_
  refine SR fun _ k8 => ?_
  refine Sc Obe ?_
  refine Ah ?_
  refine Sb ?_ ?_
  ·
   refine Ci fun hs45 => ?_
   refine SN k8 ?_
   refine Th ?_
   refine SS k7 ?_
   refine Th ?_
   refine Ek [6, 5, 4] ?_
   refine SR fun _ k9 => ?_
   refine Sc (Ofa underlying64 sz2) ?_
   refine Sc (Ola oc2) ?_
   refine Sc Obe ?_
   refine Mh ?_
   refine Sb ?_ ?_
   ·
    refine Ci fun hs51 => ?_
    refine Wo (Ofa underlying64 sz3) ?_
    refine Wo (Ola oc3) ?_
    refine Wo (O_binOp rfl (.tmp .hit) .const (fun _ => b_lss _ _ _ _ rfl)) ?_
    refine Sc Opt ?_
    refine Mh ?_
    refine Sb ?_ ?_
    ·
     refine Ci fun hs56 => ?_
     refine Wo (Ofa underlying64 sz3) ?_
     refine Wo (Ola oc3) ?_
     refine Wo (O_binOp rfl (.tmp .hit) .const (fun _ => b_gtr _ _ _ _ rfl)) ?_
     refine Sc Opt ?_
     refine Ah ?_
     refine SN k9 ?_
     refine Rt ?_
     refine Pl0 ?_
     refine Pl3 ?_
     exact SK_ret1 rfl .hit (fun w hw => ⟨_, rfl, Q2, hw.ext⟩)
    refine Ci fun hs56 => ?_
    refine Uo (Uo (Uo ?_))
    refine Sc Opg ?_
    refine Ah ?_
    refine SN k9 ?_
    refine Rt ?_
    refine Pl0 ?_
    refine Pl3 ?_
    exact SK_ret1 rfl .hit (fun w hw => ⟨_, rfl, Q2, hw.ext⟩)
   refine Ci fun hs51 => ?_
   refine Uo (Uo (Uo ?_))
   refine Sc Opg ?_
   refine Mh ?_
   refine Uo (Uo (Uo ?_))
   refine Sc Opg ?_
   refine Ah ?_
   refine SN k9 ?_
   refine Rt ?_
   refine Pl0 ?_
   refine Pl3 ?_
   exact SK_ret1 rfl .hit (fun w hw => ⟨_, rfl, Q2, hw.ext⟩)
  refine Ci fun hs45 => ?_
  refine SN k8 ?_
  refine Fh ?_
  refine Sr ?_
  refine Sc Obe ?_
  refine Ah ?_
  refine Sb ?_ ?_
  ·
   refine Ci fun hs45 => ?_
   refine SN k7 ?_
   refine Th ?_
   refine Ek [6, 5, 4] ?_
   refine SR fun _ k10 => ?_
   refine Sc (Ofa underlying64 sz2) ?_
   refine Sc (Ola oc2) ?_
   refine Sc Obe ?_
   refine Mh ?_
   refine Sb ?_ ?_
   ·
    refine Ci fun hs51 => ?_
    refine Wo (Ofa underlying64 sz3) ?_
    refine Wo (Ola oc3) ?_
    refine Wo (O_binOp rfl (.tmp .hit) .const (fun _ => b_lss _ _ _ _ rfl)) ?_
    refine Sc Opt ?_
    refine Mh ?_
    refine Sb ?_ ?_
    ·
     refine Ci fun hs56 => ?_
     refine Wo (Ofa underlying64 sz3) ?_
     refine Wo (Ola oc3) ?_
     refine Wo (O_binOp rfl (.tmp .hit) .const (fun _ => b_gtr _ _ _ _ rfl)) ?_
     refine Sc Opt ?_
     refine Ah ?_
     refine SN k10 ?_
     refine Rt ?_
     refine Pl0 ?_
     refine Pl3 ?_
     exact SK_ret1 rfl .hit (fun w hw => ⟨_, rfl, Q2, hw.ext⟩)
    refine Ci fun hs56 => ?_
    refine Uo (Uo (Uo ?_))
    refine Sc Opg ?_
    refine Ah ?_
    refine SN k10 ?_
    refine Rt ?_
    refine Pl0 ?_
    refine Pl3 ?_
    exact SK_ret1 rfl .hit (fun w hw => ⟨_, rfl, Q2, hw.ext⟩)
   refine Ci fun hs51 => ?_
   refine Uo (Uo (Uo ?_))
   refine Sc Opg ?_
   refine Mh ?_
   refine Uo (Uo (Uo ?_))
   refine Sc Opg ?_
   refine Ah ?_
   refine SN k10 ?_
   refine Rt ?_
   refine Pl0 ?_
   refine Pl3 ?_
   exact SK_ret1 rfl .hit (fun w hw => ⟨_, rfl, Q2, hw.ext⟩)
  refine Ci fun hs45 => ?_
  refine SN k7 ?_
  refine Fh ?_
  refine Ek [44, 6, 5, 4, 0] ?_
  refine SR fun _ k11 => ?_
  refine Sc Obe ?_
  refine Ah ?_
  refine SN k11 ?_
  refine Sd ?_ ?_
  ·
   refine Ci fun ht61 => ?_
   refine Ek [6, 5, 4] ?_
   refine SR fun _ k12 => ?_
   refine Sc (Ofa underlying64 sz2) ?_
   refine Sc (Ola oc2) ?_
   refine Sc Obe ?_
   refine Mh ?_
   refine Sb ?_ ?_
   ·
    refine Ci fun hs66 => ?_
    refine Wo (Ofa underlying64 sz3) ?_
    refine Wo (Ola oc3) ?_
    refine Wo Obe ?_
    refine Sc Opt ?_
    refine Mh ?_
    refine Sb ?_ ?_
    ·
     refine Ci fun hs71 => ?_
     refine Wo (Ofa underlying64 sz3) ?_
     refine Wo (Ola oc3) ?_
     refine Wo Obe ?_
     refine Sc Opt ?_
     refine Ah ?_
     refine SN k12 ?_
     refine Rt ?_
     refine Pl0 ?_
     refine Pl3 ?_
     exact SK_ret1 rfl .hit (fun w hw => ⟨_, rfl, Q2, hw.ext⟩)
    refine Ci fun hs71 => ?_
    refine Uo (Uo (Uo ?_))
    refine Sc Opg ?_
    refine Ah ?_
    refine SN k12 ?_
    refine Rt ?_
    refine Pl0 ?_
    refine Pl3 ?_
    exact SK_ret1 rfl .hit (fun w hw => ⟨_, rfl, Q2, hw.ext⟩)
   refine Ci fun hs66 => ?_
   refine Uo (Uo (Uo ?_))
   refine Sc Opg ?_
   refine Mh ?_
   refine Uo (Uo (Uo ?_))
   refine Sc Opg ?_
   refine Ah ?_
   refine SN k12 ?_
   refine Rt ?_
   refine Pl0 ?_
   refine Pl3 ?_
   exact SK_ret1 rfl .hit (fun w hw => ⟨_, rfl, Q2, hw.ext⟩)
  refine Ci fun ht61 => ?_
  refine Ek [44, 6, 5, 4, 0] ?_
  refine SR fun _ k13 => ?_
  refine Sc Obe ?_
  refine Ah ?_
  refine SN k13 ?_
  refine Sd ?_ ?_
  ·
   refine Ci fun ht76 => ?_
   refine Ek [6, 5, 4, 0] ?_
   refine SR fun _ k14 => ?_
   refine Sc (Ofa underlying64 sz2) ?_
   refine Sc (Ola oc2) ?_
   refine Sc Obe ?_
   refine Mh ?_
   refine Sb ?_ ?_
   ·
    refine Ci fun hs81 => ?_
    refine Wo (Ofa underlying64 sz9) ?_
    refine Wo (Ola oc9) ?_
    refine Wo (O_binOp rfl (.tmp .hit) .const (fun _ => b_eqlS _ _ _ rfl)) ?_
    refine Sc Opt ?_
    refine Mh ?_
    refine Sb ?_ ?_
    ·
     refine Ci fun hs86 => ?_
     have hsz0 : m.name.size = 0 := by rw [hs86]; rfl
     refine Wo Omo ?_
     refine Wo (Ofa underlying64 sz3) ?_
     refine Wo (Ola oc3) ?_
     refine Wo (O_callE (xs := [.tmp 87, .tmp 89]) (cap := []) rfl .func (.cons (.tmp (.o rfl)) (.cons (.tmp .hit) .nil)) func44 rfl rfl (fun w1 hw => f44_ok _ cap ts _ om w1 (hT.ext hw.ext))) ?_
     refine Wo Obe ?_
     refine Sc Opt ?_
     refine Mh ?_
     refine Sb ?_ ?_
     ·
      refine Ci fun hs93 => ?_
      obtain ⟨hn1, hn2⟩ := kindAt_in (ts := ts) (n := m.of_) om
      have hlt : (m.of_ - 1).toNat < ts.length := by omega
      obtain ⟨b, off, rfl, mp2, mc2, hc1, -, -⟩ := hT _ _ (List.getElem?_eq_getElem hlt)
      have hc5 := hc1 5 _ rfl
      refine Wo Omo ?_
      refine Wo Omo ?_
      refine Wo (Ofa underlying64 sz3) ?_
      refine Wo (Ola oc3) ?_
      refine Wo (O_binOp rfl (.tmp .hit) .const (fun _ => b_sub _ _ _ rfl oz oz)) ?_
      refine Wo (O_indexAddr rfl (.tmp (.o rfl)) (.tmp .hit) underlying22 sz32 oz oz) ?_
      refine Wo (Ofa underlying32 sz3) ?_
      refine Wo (O_load0 (v := .int .i64 (ts[(m.of_ - 1).toNat]).of_) rfl (.tmp .hit) oc3 (fun h => h) hc5) ?_
      refine Wo (O_callE (xs := [.tmp 94, .tmp 101]) (cap := []) rfl .func (.cons (.tmp (.o rfl)) (.cons (.tmp .hit) .nil)) func44 rfl rfl (fun w1 hw => f44_ok _ cap ts _ om w1 (hT.ext hw.ext))) ?_
      refine Wo (O_callE (xs := [.tmp 102]) (cap := []) rfl .func (.cons (.tmp .hit) .nil) func53 rfl rfl (fun w1 hw => f53_ok _ w1)) ?_
      refine Wo (O_unOp rfl (.tmp .hit) (fun _ => rfl)) ?_
      refine Sc Opt ?_
      refine Mh ?_
      refine Sb ?_ ?_
      ·
       refine Ci fun hs106 => ?_
       refine Wo (Ofa underlying64 sz3) ?_
       refine Wo (Ola oc3) ?_
       refine Wo (O_binOp rfl (.tmp .hit) .const (fun _ => b_lss _ _ _ _ rfl)) ?_
       refine Sc Opt ?_
       refine Ah ?_
       refine SN k14 ?_
       refine Rt ?_
       refine Pl0 ?_
       refine Pl3 ?_
       exact SK_ret1 rfl .hit (fun w hw => ⟨_, rfl, Q2, hw.ext⟩)
      refine Ci fun hs106 => ?_
      refine Uo (Uo (Uo ?_))
      refine Sc Opg ?_
      refine Ah ?_
      refine SN k14 ?_
      refine Rt ?_
      refine Pl0 ?_
      refine Pl3 ?_
      exact SK_ret1 rfl .hit (fun w hw => ⟨_, rfl, Q2, hw.ext⟩)
     refine Ci fun hs93 => ?_
     refine Uo (Uo (Uo (Uo (Uo (Uo (Uo (Uo (Uo (Uo (Uo ?_))))))))))
     refine Sc Opg ?_
     refine Mh ?_
     refine Uo (Uo (Uo ?_))
     refine Sc Opg ?_
     refine Ah ?_
     refine SN k14 ?_
     refine Rt ?_
     refine Pl0 ?_
     refine Pl3 ?_
     exact SK_ret1 rfl .hit (fun w hw => ⟨_, rfl, Q2, hw.ext⟩)
    refine Ci fun hs86 => ?_
    refine Uo (Uo (Uo (Uo (Uo ?_))))
    refine Sc Opg ?_
    refine Mh ?_
    refine Uo (Uo (Uo (Uo (Uo (Uo (Uo (Uo (Uo (Uo (Uo ?_))))))))))
    refine Sc Opg ?_
    refine Mh ?_
    refine Uo (Uo (Uo ?_))
    refine Sc Opg ?_
    refine Ah ?_
    refine SN k14 ?_
    refine Rt ?_
    refine Pl0 ?_
    refine Pl3 ?_
    exact SK_ret1 rfl .hit (fun w hw => ⟨_, rfl, Q2, hw.ext⟩)
   refine Ci fun hs81 => ?_
   refine Uo (Uo (Uo ?_))
   refine Sc Opg ?_
   refine Mh ?_
   refine Uo (Uo (Uo (Uo (Uo ?_))))
   refine Sc Opg ?_
   refine Mh ?_
   refine Uo (Uo (Uo (Uo (Uo (Uo (Uo (Uo (Uo (Uo (Uo ?_))))))))))
   refine Sc Opg ?_
   refine Mh ?_
   refine Uo (Uo (Uo ?_))
   refine Sc Opg ?_
   refine Ah ?_
   refine SN k14 ?_
   refine Rt ?_
   refine Pl0 ?_
   refine Pl3 ?_
   exact SK_ret1 rfl .hit (fun w hw => ⟨_, rfl, Q2, hw.ext⟩)
  refine Ci fun ht76 => ?_
  refine SS k5 ?_
  refine Ek [6, 5, 4] ?_
  refine SR fun _ k15 => ?_
  refine Sc (Ofa underlying64 sz3) ?_
  refine Sc (Ola oc3) ?_
  refine Sc Obe ?_
  refine Mh ?_
  refine Sb ?_ ?_
  ·
   refine Ci fun hs114 => ?_
   refine Wo (Ofa underlying64 sz3) ?_
   refine Wo (Ola oc3) ?_
   refine Wo Obe ?_
   refine Sc Opt ?_
   refine Mh ?_
   refine Sb ?_ ?_
   ·
    refine Ci fun hs119 => ?_
    refine Wo (Ofa underlying64 sz3) ?_
    refine Wo (Ola oc3) ?_
    refine Wo Obe ?_
    refine Sc Opt ?_
    refine Mh ?_
    refine Sb ?_ ?_
    ·
     refine Ci fun hs124 => ?_
     refine Wo (Ofa underlying64 sz9) ?_
     refine Wo (Ola oc9) ?_
     refine Wo (O_binOp rfl (.tmp .hit) .const (fun _ => b_neqS _ _ _ rfl)) ?_
     refine Sc Opt ?_
     refine Mh ?_
     refine Sb ?_ ?_
     ·
      refine Ci fun hs129 => ?_
      refine Wo (O_loadA (vs := (cellsT t (.slice mp t.mems.length mc))) rfl (.tmp (.o rfl)) underlying32 sz32 .a rfl) ?_
      refine Wo (Ofa underlying64 sz2) ?_
      refine Wo (Ola oc2) ?_
      refine Wo (O_callN (val := fun t : Bool => .bool t) (N := fun _ => []) (good := fun t1 => t1 = true → t.kind ≠ 19 → ((t.flag = 1 → -2147483648 ≤ m.val ∧ m.val < 2147483648) ∧ (t.flag ≠ 1 → 0 ≤ m.val ∧ m.val < 4294967296))) (xs := [.tmp 130, .tmp 132]) (cap := []) rfl .func (.cons (.tmp (.o rfl)) (.cons (.tmp .hit) .nil)) func54 rfl rfl (fun w1 hw => (f54_ok t.kind t.flag m.val _ _ _ _ _ _ w1).mono Q19)) ?_
      intro z133 hz133
      refine Sc Opt ?_
      refine Ah ?_
      refine SN k15 ?_
      refine Rt ?_
      refine Pl3 ?_
      exact SK_ret1 rfl .hit (fun w hw => ⟨_, rfl, Q2, hw.ext⟩)
     refine Ci fun hs129 => ?_
     refine Uo (Uo (Uo (Uo ?_)))
     refine Sc Opg ?_
     refine Ah ?_
     refine SN k15 ?_
     refine Rt ?_
     refine Pl3 ?_
     exact SK_ret1 rfl .hit (fun w hw => ⟨_, rfl, Q2, hw.ext⟩)
    refine Ci fun hs124 => ?_
    refine Uo (Uo (Uo ?_))
    refine Sc Opg ?_
    refine Mh ?_
    refine Uo (Uo (Uo (Uo ?_)))
    refine Sc Opg ?_
    refine Ah ?_
    refine SN k15 ?_
    refine Rt ?_
    refine Pl3 ?_
    exact SK_ret1 rfl .hit (fun w hw => ⟨_, rfl, Q2, hw.ext⟩)
   refine Ci fun hs119 => ?_
   refine Uo (Uo (Uo ?_))
   refine Sc Opg ?_
   refine Mh ?_
   refine Uo (Uo (Uo ?_))
   refine Sc Opg ?_
   refine Mh ?_
   refine Uo (Uo (Uo (Uo ?_)))
   refine Sc Opg ?_
   refine Ah ?_
   refine SN k15 ?_
   refine Rt ?_
   refine Pl3 ?_
   exact SK_ret1 rfl .hit (fun w hw => ⟨_, rfl, Q2, hw.ext⟩)
  refine Ci fun hs114 => ?_
  refine Uo (Uo (Uo ?_))
  refine Sc Opg ?_
  refine Mh ?_
  refine Uo (Uo (Uo ?_))
  refine Sc Opg ?_
  refine Mh ?_
  refine Uo (Uo (Uo ?_))
  refine Sc Opg ?_
  refine Mh ?_
  refine Uo (Uo (Uo (Uo ?_)))
  refine Sc Opg ?_
  refine Ah ?_
  refine SN k15 ?_
  refine Rt ?_
  refine Pl3 ?_
  exact SK_ret1 rfl .hit (fun w hw => ⟨_, rfl, Q2, hw.ext⟩)
 refine Sc (Ofa underlying64 sz3) ?_
 refine Sc (Ola oc3) ?_
 refine Sc (O_binOp rfl (.tmp .hit) .const (fun _ => b_lss _ _ _ _ rfl)) ?_
 refine Mh ?_
 refine Sb ?_ ?_
 ·
  refine Ci fun hs10 => ?_
  refine Uo (Uo (Uo (Uo (Uo ?_))))
  refine Sc Opu ?_
  refine Mh ?_
  refine Uo (Uo (Uo ?_))
  refine Sc Opu ?_
  refine Mh ?_
  refine Uo (Uo (Uo ?_))
  refine Sc Opu ?_
  refine Mh ?_
  refine Uo (Uo (Uo ?_))
  refine Sc Opu ?_
  refine Mh ?_
  refine Uo (Uo (Uo (Uo (Vo (Vo (Vo (Vo (Uo ?_))))))))
  refine Sc Opu ?_
  exact (J _ Q12).env (Ek5 rfl rfl rfl rfl rfl)
 refine Ci fun hs10 => ?_
 refine Wo (Ofa underlying64 sz3) ?_
 refine Wo (Ola oc3) ?_
 refine Wo Omo ?_
 refine Wo (O_lenSlice rfl (.tmp .hit) underlying22 rfl) ?_
 refine Wo (O_binOp rfl (.tmp (.o rfl)) (.tmp .hit) (fun _ => b_gtr _ _ _ _ rfl)) ?_
 refine Sc Opf ?_
 refine Mh ?_
 refine Sb ?_ ?_
 ·
  refine Ci fun hs17 => ?_
  refine Uo (Uo (Uo ?_))
  refine Sc Opu ?_
  refine Mh ?_
  refine Uo (Uo (Uo ?_))
  refine Sc Opu ?_
  refine Mh ?_
  refine Uo (Uo (Uo ?_))
  refine Sc Opu ?_
  refine Mh ?_
  refine Uo (Uo (Uo (Uo (Vo (Vo (Vo (Vo (Uo ?_))))))))
  refine Sc Opu ?_
  exact (J _ Q12).env (Ek5 rfl rfl rfl rfl rfl)
 refine Ci fun hs17 => ?_
 refine Wo (Ofa underlying64 sz3) ?_
 refine Wo (Ola oc3) ?_
 refine Wo (O_binOp rfl (.tmp .hit) .const (fun _ => b_lss _ _ _ _ rfl)) ?_
 refine Sc Opf ?_
 refine Mh ?_
 refine Sb ?_ ?_
 ·
  refine Ci fun hs22 => ?_
  refine Uo (Uo (Uo ?_))
  refine Sc Opu ?_
  refine Mh ?_
  refine Uo (Uo (Uo ?_))
  refine Sc Opu ?_
  refine Mh ?_
  refine Uo (Uo (Uo (Uo (Vo (Vo (Vo (Vo (Uo ?_))))))))
  refine Sc Opu ?_
  exact (J _ Q12).env (Ek5 rfl rfl rfl rfl rfl)
 refine Ci fun hs22 => ?_
 refine Wo (Ofa underlying64 sz3) ?_
 refine Wo (Ola oc3) ?_
 refine Wo (O_binOp rfl (.tmp .hit) .const (fun _ => b_geq _ _ _ _ rfl)) ?_
 refine Sc Opf ?_
 refine Mh ?_
 refine Sb ?_ ?_
 ·
  refine Ci fun hs27 => ?_
  refine Uo (Uo (Uo ?_))
  refine Sc Opu ?_
  refine Mh ?_
  refine Uo (Uo (Uo (Uo (Vo (Vo (Vo (Vo (Uo ?_))))))))
  refine Sc Opu ?_
  exact (J _ Q12).env (Ek5 rfl rfl rfl rfl rfl)
 refine Ci fun hs27 => ?_
 refine Wo (Ofa underlying64 sz3) ?_
 refine Wo (Ola oc3) ?_
 refine Wo (O_binOp rfl (.tmp .hit) .const (fun _ => b_lss _ _ _ _ rfl)) ?_
 refine Sc Opf ?_
 refine Mh ?_
 refine Sb ?_ ?_
 ·
  refine Ci fun hs32 => ?_
  refine Uo (Uo (Uo (Uo (Vo (Vo (Vo (Vo (Uo ?_))))))))
  refine Sc Opu ?_
  exact (J _ Q12).env (Ek5 rfl rfl rfl rfl rfl)
 refine Ci fun hs32 => ?_
 refine Wo (Ofa underlying64 sz9) ?_
 refine Wo (Ola oc9) ?_
 refine Wo (O_binOp rfl (.tmp .hit) .const (fun _ => b_neqS _ _ _ rfl)) ?_
 refine Wo Omo ?_
 refine Sb ?_ ?_
 ·
  refine Ci fun hs36 => ?_
  refine Wo (Ofa underlying64 sz9) ?_
  refine Wo (Ola oc9) ?_
  refine Wo (O_callN (val := fun t : Bool => .bool t) (N := fun _ => []) (good := fun t => t = true → NoZero m.name m.name.size ∧ 0 < m.name.size ∧ m.name.size ≤ 12) (xs := [.tmp 38]) (cap := []) rfl .func (.cons (.tmp .hit) .nil) func25 rfl rfl (fun w1 hw => (f25_ok m.name om w1).mono Q19)) ?_
  intro z39 hz39
  refine Wo (O_unOp rfl (.tmp .hit) (fun _ => rfl)) ?_
  refine Wo Opt ?_
  refine Sc Opf ?_
  exact (J _ Q12).env (Ek5 rfl rfl rfl rfl rfl)
 refine Ci fun hs36 => ?_
 have hsz : m.name.size = 0 := by rw [Classical.not_not.1 hs36]; rfl
 have hnm0 : NoZero m.name m.name.size ∧ m.name.size ≤ 12 := ⟨NoZero.empty hsz, by omega⟩
 refine Uo (Uo (Uo (Uo ?_)))
 refine Wo Opg ?_
 refine Sc Opf ?_
 exact (J _ Q12).env (Ek5 rfl rfl rfl rfl rfl)
end
end Go.Proofs.YtoibhfpagkdleaaGreatDoor
