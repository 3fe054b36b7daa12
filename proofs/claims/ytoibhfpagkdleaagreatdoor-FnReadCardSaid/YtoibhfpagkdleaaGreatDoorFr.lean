/-
  CONTRACT: what a type is.
  CONTRACT: what types are.
-/
import Derived.Test.YtoibhfpagkdleaaGreatDoorFp
namespace Go.Proofs.YtoibhfpagkdleaaGreatDoor
section
open Go
open Tryz
set_option maxRecDepth 100000


set_option maxHeartbeats 4000000 in
theorem f10_ok (p : Option Addr) (cap : Nat) (ts : List Tp) (t : Tp) (mp : Option Addr) (mc : Nat) (hn : t.name.size ≤ 2147483647) (hfit : ∀ (i : Nat) (q : Mb), t.mems[i]? = some q → q.name.size ≤ 2147483647) (hlen : ts.length ≤ 30) (w : World) (hT : TysAt w p ts) (hM : MemsAt w mp t.mems) :
 Calls Tryz.prog 10 #[.slice p ts.length cap, .agg (cellsT t (.slice mp t.mems.length mc)).toArray] w (fun r w' => ∃ t1 : Bool, r = .returned (.bool t1) ∧ (t1 = true → TOk ts.length t) ∧ Ext noS w w') := by
 refine sw_calls (S := noS) func10 rfl ntmps10 (sees2 _ _ _ rfl) (Holds.start _ _) ?_
 refine SR fun _ k1 => ?_
 refine Sc (O_box (cs := (cellsT t (.slice mp t.mems.length mc)).toArray) rfl (.tmp (.o rfl)) rfl) ?_
 intro bk3 _
 refine Ac ?_
 refine SN k1 ?_
 refine Ek [4, 3, 0] ?_
 refine SR fun _ k2 => ?_
 refine Sc (Ofa underlying32 sz3) ?_
 refine Sc (Ola oc3) ?_
 refine Sc (O_callE (xs := [.tmp 7]) (cap := []) rfl .func (.cons (.tmp .hit) .nil) func24 rfl rfl (fun w1 hw => f24_ok _ w1)) ?_
 refine Ah ?_
 refine SN k2 ?_
 refine Ek [5, 4, 3, 0] ?_
 refine Sq fun _ k3 => ?_
 refine SR fun _ k4 => ?_
 refine SL_join 37 45 (fun t1 : Bool => .bool t1) (fun t1 => t1 = false → (1 ≤ t.kind ∧ t.kind ≤ 19 ∧ t.kind ≠ 17) ∧ NoZero t.name t.name.size ∧ t.name.size ≤ 12 ∧ (namedI t.kind < 0 → t.name.size = 0)) (fun tJ hJ => ?_) (fun J => ?_)
 ·
  refine SN k4 ?_
  refine Sd ?_ ?_
  ·
   refine Cj fun ht45 => ?_
   refine Ek [4, 3, 0] ?_
   refine SR fun _ k5 => ?_
   refine Ac ?_
   refine SN k5 ?_
   refine Rt ?_
   refine Pl0 ?_
   refine Pl3 ?_
   exact SK_ret1 rfl .hit (fun w hw => ⟨_, rfl, Q32, hw.ext⟩)
  refine Cj fun ht45 => ?_
  have q2 := hJ ht45
  refine SS k3 ?_
  refine Ek [4, 3, 0] ?_
  refine Sq fun _ k6 => ?_
  refine SR fun _ k7 => ?_
  refine SL_join 60 105 (fun t1 : Bool => .bool t1) (fun t1 => t1 = false → 0 ≤ t.of_ ∧ t.of_ ≤ ts.length ∧ 0 ≤ t.index ∧ t.index ≤ ts.length ∧ t.mems.length ≤ 8 ∧ (composedB t.kind = false → t.mems.length = 0) ∧ (t.kind ≠ 3 → t.index = 0) ∧ (t.kind ≠ 1 → t.enc = 0)) (fun tJ hJ => ?_) (fun J => ?_)
  ·
   refine SN k7 ?_
   refine Sd ?_ ?_
   ·
    refine Cj fun ht105 => ?_
    refine Ek [4, 3, 0] ?_
    refine SR fun _ k8 => ?_
    refine Ac ?_
    refine SN k8 ?_
    refine Rt ?_
    refine Pl0 ?_
    refine Pl3 ?_
    exact SK_ret1 rfl .hit (fun w hw => ⟨_, rfl, Q32, hw.ext⟩)
   refine Cj fun ht105 => ?_
   have q4 := hJ ht105
   refine SS k6 ?_
   refine Ek [4, 3, 0] ?_
   refine Sq fun _ k9 => ?_
   refine SR fun _ k10 => ?_
   refine SL_join 29 134 (fun t1 : Bool => .bool t1) (fun t1 => t1 = false → refersB t.kind = false → t.kind ≠ 3 → t.kind ≠ 12 → t.kind ≠ 13 → t.kind ≠ 14 → t.of_ = 0) (fun tJ hJ => ?_) (fun J => ?_)
   ·
    refine SN k10 ?_
    refine Sd ?_ ?_
    ·
     refine Cj fun ht134 => ?_
     refine Ek [4, 3, 0] ?_
     refine SR fun _ k11 => ?_
     refine Ac ?_
     refine SN k11 ?_
     refine Rt ?_
     refine Pl0 ?_
     refine Pl3 ?_
     exact SK_ret1 rfl .hit (fun w hw => ⟨_, rfl, Q32, hw.ext⟩)
    refine Cj fun ht134 => ?_
    have q6 := hJ ht134
    refine SS k9 ?_
    refine Ek [4, 3, 0] ?_
    refine Sq fun _ k12 => ?_
    refine SR fun _ k13 => ?_
    refine SL_join 24 158 (fun t1 : Bool => .bool t1) (fun t1 => t1 = false → (sizedB t.kind = false → t.kind ≠ 3 → t.size = 0) ∧ 0 ≤ t.size ∧ t.size ≤ 1048576) (fun tJ hJ => ?_) (fun J => ?_)
    ·
     refine SN k13 ?_
     refine Sd ?_ ?_
     ·
      refine Cj fun ht158 => ?_
      refine Ek [4, 3, 0] ?_
      refine SR fun _ k14 => ?_
      refine Ac ?_
      refine SN k14 ?_
      refine Rt ?_
      refine Pl0 ?_
      refine Pl3 ?_
      exact SK_ret1 rfl .hit (fun w hw => ⟨_, rfl, Q32, hw.ext⟩)
     refine Cj fun ht158 => ?_
     have q8 := hJ ht158
     refine SS k12 ?_
     refine Ek [4, 3, 0] ?_
     refine SR fun _ k15 => ?_
     refine Mo ?_
     refine Sc (O_loadA (vs := (cellsT t (.slice mp t.mems.length mc))) rfl (.tmp (.o rfl)) underlying32 sz32 .a rfl) ?_
     refine Sc (O_callN (val := fun t : Bool => .bool t) (N := fun _ => []) (good := fun t1 => t1 = true → (∀ (i : Nat) (q : Mb), t.mems[i]? = some q → MOk t.kind t.flag ts.length q) ∧ DOk t.kind t.size t.enc t.flag) (xs := [.tmp 159, .tmp 160]) (cap := []) rfl .func (.cons (.tmp (.o rfl)) (.cons (.tmp .hit) .nil)) func29 rfl rfl (fun w1 hw => (f29_ok p cap ts t mp mc hfit hlen om w1 (hT.ext hw.ext) (hM.ext hw.ext)).mono Q19)) ?_
     intro z161 hz161
     refine Ah ?_
     refine SN k15 ?_
     refine Rt ?_
     refine Pl3 ?_
     exact SK_ret1 rfl .hit (fun w hw => ⟨_, rfl, Q32, hw.ext⟩)
    refine Sc (Ofa underlying32 sz3) ?_
    refine Sc (Ola oc3) ?_
    refine Sc (O_callE (xs := [.tmp 136]) (cap := []) rfl .func (.cons (.tmp .hit) .nil) func28 rfl rfl (fun w1 hw => f28_ok _ w1)) ?_
    refine Sc (O_unOp rfl (.tmp .hit) (fun _ => rfl)) ?_
    refine Mh ?_
    refine Sb ?_ ?_
    ·
     refine Cj fun hs139 => ?_
     refine Wo (Ofa underlying32 sz3) ?_
     refine Wo (Ola oc3) ?_
     refine Wo (O_binOp rfl (.tmp .hit) .const (fun _ => b_neq _ _ _ _ rfl)) ?_
     refine Sc Opt ?_
     refine Mh ?_
     refine Sb ?_ ?_
     ·
      refine Cj fun hs144 => ?_
      refine Wo (Ofa underlying32 sz3) ?_
      refine Wo (Ola oc3) ?_
      refine Wo (O_binOp rfl (.tmp .hit) .const (fun _ => b_neq _ _ _ _ rfl)) ?_
      refine Sc Opt ?_
      refine Mh ?_
      refine Sb ?_ ?_
      ·
       refine Cj fun hs149 => ?_
       refine Uo (Uo (Uo ?_))
       refine Sc Opu ?_
       refine Mh ?_
       refine Uo (Uo (Uo ?_))
       refine Sc Opu ?_
       exact (J _ Q9).env (Ek4 rfl rfl rfl rfl)
      refine Cj fun hs149 => ?_
      refine Wo (Ofa underlying32 sz3) ?_
      refine Wo (Ola oc3) ?_
      refine Wo (O_binOp rfl (.tmp .hit) .const (fun _ => b_lss _ _ _ _ rfl)) ?_
      refine Sc Opf ?_
      refine Mh ?_
      refine Sb ?_ ?_
      ·
       refine Cj fun hs154 => ?_
       refine Uo (Uo (Uo ?_))
       refine Sc Opu ?_
       exact (J _ Q9).env (Ek4 rfl rfl rfl rfl)
      refine Cj fun hs154 => ?_
      refine Wo (Ofa underlying32 sz3) ?_
      refine Wo (Ola oc3) ?_
      refine Wo (O_binOp rfl (.tmp .hit) .const (fun _ => b_gtr _ _ _ _ rfl)) ?_
      refine Sc Opf ?_
      exact (J _ Q9).env (Ek4 rfl rfl rfl rfl)
     refine Cj fun hs144 => ?_
     refine Uo (Uo (Uo ?_))
     refine Sc Opg ?_
     refine Mh ?_
     refine Wo (Ofa underlying32 sz3) ?_
     refine Wo (Ola oc3) ?_
     refine Wo (O_binOp rfl (.tmp .hit) .const (fun _ => b_lss _ _ _ _ rfl)) ?_
     refine Sc Opf ?_
     refine Mh ?_
     refine Sb ?_ ?_
     ·
      refine Cj fun hs154 => ?_
      refine Uo (Uo (Uo ?_))
      refine Sc Opu ?_
      exact (J _ Q9).env (Ek4 rfl rfl rfl rfl)
     refine Cj fun hs154 => ?_
     refine Wo (Ofa underlying32 sz3) ?_
     refine Wo (Ola oc3) ?_
     refine Wo (O_binOp rfl (.tmp .hit) .const (fun _ => b_gtr _ _ _ _ rfl)) ?_
     refine Sc Opf ?_
     exact (J _ Q9).env (Ek4 rfl rfl rfl rfl)
    refine Cj fun hs139 => ?_
    refine Uo (Uo (Uo ?_))
    refine Sc Opg ?_
    refine Mh ?_
    refine Uo (Uo (Uo ?_))
    refine Sc Opg ?_
    refine Mh ?_
    refine Wo (Ofa underlying32 sz3) ?_
    refine Wo (Ola oc3) ?_
    refine Wo (O_binOp rfl (.tmp .hit) .const (fun _ => b_lss _ _ _ _ rfl)) ?_
    refine Sc Opf ?_
    refine Mh ?_
    refine Sb ?_ ?_
    ·
     refine Cj fun hs154 => ?_
     refine Uo (Uo (Uo ?_))
     refine Sc Opu ?_
     exact (J _ Q9).env (Ek4 rfl rfl rfl rfl)
    refine Cj fun hs154 => ?_
    refine Wo (Ofa underlying32 sz3) ?_
    refine Wo (Ola oc3) ?_
    refine Wo (O_binOp rfl (.tmp .hit) .const (fun _ => b_gtr _ _ _ _ rfl)) ?_
    refine Sc Opf ?_
    exact (J _ Q9).env (Ek4 rfl rfl rfl rfl)
   refine Sc (Ofa underlying32 sz3) ?_
   refine Sc (Ola oc3) ?_
   refine Sc (O_callE (xs := [.tmp 107]) (cap := []) rfl .func (.cons (.tmp .hit) .nil) func27 rfl rfl (fun w1 hw => f27_ok _ w1)) ?_
   refine Sc (O_unOp rfl (.tmp .hit) (fun _ => rfl)) ?_
   refine Mh ?_
   refine Sb ?_ ?_
   ·
    refine Cj fun hs110 => ?_
    refine Wo (Ofa underlying32 sz3) ?_
    refine Wo (Ola oc3) ?_
    refine Wo (O_binOp rfl (.tmp .hit) .const (fun _ => b_neq _ _ _ _ rfl)) ?_
    refine Sc Opt ?_
    refine Mh ?_
    refine Sb ?_ ?_
    ·
     refine Cj fun hs115 => ?_
     refine Wo (Ofa underlying32 sz3) ?_
     refine Wo (Ola oc3) ?_
     refine Wo (O_binOp rfl (.tmp .hit) .const (fun _ => b_neq _ _ _ _ rfl)) ?_
     refine Sc Opt ?_
     refine Mh ?_
     refine Sb ?_ ?_
     ·
      refine Cj fun hs120 => ?_
      refine Wo (Ofa underlying32 sz3) ?_
      refine Wo (Ola oc3) ?_
      refine Wo (O_binOp rfl (.tmp .hit) .const (fun _ => b_neq _ _ _ _ rfl)) ?_
      refine Sc Opt ?_
      refine Mh ?_
      refine Sb ?_ ?_
      ·
       refine Cj fun hs125 => ?_
       refine Wo (Ofa underlying32 sz3) ?_
       refine Wo (Ola oc3) ?_
       refine Wo (O_binOp rfl (.tmp .hit) .const (fun _ => b_neq _ _ _ _ rfl)) ?_
       refine Sc Opt ?_
       refine Mh ?_
       refine Sb ?_ ?_
       ·
        refine Cj fun hs130 => ?_
        refine Wo (Ofa underlying32 sz3) ?_
        refine Wo (Ola oc3) ?_
        refine Wo (O_binOp rfl (.tmp .hit) .const (fun _ => b_neq _ _ _ _ rfl)) ?_
        refine Sc Opt ?_
        exact (J _ Q11).env (Ek4 rfl rfl rfl rfl)
       refine Cj fun hs130 => ?_
       refine Uo (Uo (Uo ?_))
       refine Sc Opg ?_
       exact (J _ Q11).env (Ek4 rfl rfl rfl rfl)
      refine Cj fun hs125 => ?_
      refine Uo (Uo (Uo ?_))
      refine Sc Opg ?_
      refine Mh ?_
      refine Uo (Uo (Uo ?_))
      refine Sc Opg ?_
      exact (J _ Q11).env (Ek4 rfl rfl rfl rfl)
     refine Cj fun hs120 => ?_
     refine Uo (Uo (Uo ?_))
     refine Sc Opg ?_
     refine Mh ?_
     refine Uo (Uo (Uo ?_))
     refine Sc Opg ?_
     refine Mh ?_
     refine Uo (Uo (Uo ?_))
     refine Sc Opg ?_
     exact (J _ Q11).env (Ek4 rfl rfl rfl rfl)
    refine Cj fun hs115 => ?_
    refine Uo (Uo (Uo ?_))
    refine Sc Opg ?_
    refine Mh ?_
    refine Uo (Uo (Uo ?_))
    refine Sc Opg ?_
    refine Mh ?_
    refine Uo (Uo (Uo ?_))
    refine Sc Opg ?_
    refine Mh ?_
    refine Uo (Uo (Uo ?_))
    refine Sc Opg ?_
    exact (J _ Q11).env (Ek4 rfl rfl rfl rfl)
   refine Cj fun hs110 => ?_
   refine Uo (Uo (Uo ?_))
   refine Sc Opg ?_
   refine Mh ?_
   refine Uo (Uo (Uo ?_))
   refine Sc Opg ?_
   refine Mh ?_
   refine Uo (Uo (Uo ?_))
   refine Sc Opg ?_
   refine Mh ?_
   refine Uo (Uo (Uo ?_))
   refine Sc Opg ?_
   refine Mh ?_
   refine Uo (Uo (Uo ?_))
   refine Sc Opg ?_
   exact (J _ Q11).env (Ek4 rfl rfl rfl rfl)
  refine Sc (Ofa underlying32 sz3) ?_
  refine Sc (Ola oc3) ?_
  refine Sc (O_binOp rfl (.tmp .hit) .const (fun _ => b_lss _ _ _ _ rfl)) ?_
  refine Mh ?_
  refine Sb ?_ ?_
  ·
   refine Cj fun hs49 => ?_
   refine Uo (Uo (Uo (Uo (Uo ?_))))
   refine Sc Opu ?_
   refine Mh ?_
   refine Uo (Uo (Uo ?_))
   refine Sc Opu ?_
   refine Mh ?_
   refine Uo (Uo (Uo (Uo (Uo ?_))))
   refine Sc Opu ?_
   refine Mh ?_
   refine Uo (Uo (Uo (Uo ?_)))
   refine Sc Opu ?_
   refine Mh ?_
   refine Uo (Uo (Uo (Uo (Uo (Vo (Vo (Vo (Vo (Uo ?_)))))))))
   refine Sc Opu ?_
   refine Mh ?_
   refine Uo (Uo (Uo (Uo (Vo (Vo (Vo (Uo ?_)))))))
   refine Sc Opu ?_
   refine Mh ?_
   refine Uo (Uo (Uo (Uo (Vo (Vo (Vo (Uo ?_)))))))
   refine Sc Opu ?_
   exact (J _ Q3).env (Ek4 rfl rfl rfl rfl)
  refine Cj fun hs49 => ?_
  refine Wo (Ofa underlying32 sz3) ?_
  refine Wo (Ola oc3) ?_
  refine Wo Omo ?_
  refine Wo (O_lenSlice rfl (.tmp .hit) underlying22 rfl) ?_
  refine Wo (O_binOp rfl (.tmp (.o rfl)) (.tmp .hit) (fun _ => b_gtr _ _ _ _ rfl)) ?_
  refine Sc Opf ?_
  refine Mh ?_
  refine Sb ?_ ?_
  ·
   refine Cj fun hs56 => ?_
   refine Uo (Uo (Uo ?_))
   refine Sc Opu ?_
   refine Mh ?_
   refine Uo (Uo (Uo (Uo (Uo ?_))))
   refine Sc Opu ?_
   refine Mh ?_
   refine Uo (Uo (Uo (Uo ?_)))
   refine Sc Opu ?_
   refine Mh ?_
   refine Uo (Uo (Uo (Uo (Uo (Vo (Vo (Vo (Vo (Uo ?_)))))))))
   refine Sc Opu ?_
   refine Mh ?_
   refine Uo (Uo (Uo (Uo (Vo (Vo (Vo (Uo ?_)))))))
   refine Sc Opu ?_
   refine Mh ?_
   refine Uo (Uo (Uo (Uo (Vo (Vo (Vo (Uo ?_)))))))
   refine Sc Opu ?_
   exact (J _ Q3).env (Ek4 rfl rfl rfl rfl)
  refine Cj fun hs56 => ?_
  refine Wo (Ofa underlying32 sz3) ?_
  refine Wo (Ola oc3) ?_
  refine Wo (O_binOp rfl (.tmp .hit) .const (fun _ => b_lss _ _ _ _ rfl)) ?_
  refine Sc Opf ?_
  refine Mh ?_
  refine Sb ?_ ?_
  ·
   refine Cj fun hs61 => ?_
   refine Uo (Uo (Uo (Uo (Uo ?_))))
   refine Sc Opu ?_
   refine Mh ?_
   refine Uo (Uo (Uo (Uo ?_)))
   refine Sc Opu ?_
   refine Mh ?_
   refine Uo (Uo (Uo (Uo (Uo (Vo (Vo (Vo (Vo (Uo ?_)))))))))
   refine Sc Opu ?_
   refine Mh ?_
   refine Uo (Uo (Uo (Uo (Vo (Vo (Vo (Uo ?_)))))))
   refine Sc Opu ?_
   refine Mh ?_
   refine Uo (Uo (Uo (Uo (Vo (Vo (Vo (Uo ?_)))))))
   refine Sc Opu ?_
   exact (J _ Q3).env (Ek4 rfl rfl rfl rfl)
  refine Cj fun hs61 => ?_
  refine Wo (Ofa underlying32 sz3) ?_
  refine Wo (Ola oc3) ?_
  refine Wo Omo ?_
  refine Wo (O_lenSlice rfl (.tmp .hit) underlying22 rfl) ?_
  refine Wo (O_binOp rfl (.tmp (.o rfl)) (.tmp .hit) (fun _ => b_gtr _ _ _ _ rfl)) ?_
  refine Sc Opf ?_
  refine Mh ?_
  refine Sb ?_ ?_
  ·
   refine Cj fun hs68 => ?_
   refine Uo (Uo (Uo (Uo ?_)))
   refine Sc Opu ?_
   refine Mh ?_
   refine Uo (Uo (Uo (Uo (Uo (Vo (Vo (Vo (Vo (Uo ?_)))))))))
   refine Sc Opu ?_
   refine Mh ?_
   refine Uo (Uo (Uo (Uo (Vo (Vo (Vo (Uo ?_)))))))
   refine Sc Opu ?_
   refine Mh ?_
   refine Uo (Uo (Uo (Uo (Vo (Vo (Vo (Uo ?_)))))))
   refine Sc Opu ?_
   exact (J _ Q3).env (Ek4 rfl rfl rfl rfl)
  refine Cj fun hs68 => ?_
  refine Wo (Ofa underlying32 sz30) ?_
  refine Wo (Ola oc30) ?_
  refine Wo (O_lenSlice rfl (.tmp .hit) underlying30 rfl) ?_
  refine Wo (O_binOp rfl (.tmp .hit) .const (fun _ => b_gtr _ _ _ _ rfl)) ?_
  refine Sc Opf ?_
  refine Mh ?_
  refine Sb ?_ ?_
  ·
   refine Cj fun hs74 => ?_
   refine Uo (Uo (Uo (Uo (Uo (Vo (Vo (Vo (Vo (Uo ?_)))))))))
   refine Sc Opu ?_
   refine Mh ?_
   refine Uo (Uo (Uo (Uo (Vo (Vo (Vo (Uo ?_)))))))
   refine Sc Opu ?_
   refine Mh ?_
   refine Uo (Uo (Uo (Uo (Vo (Vo (Vo (Uo ?_)))))))
   refine Sc Opu ?_
   exact (J _ Q3).env (Ek4 rfl rfl rfl rfl)
  refine Cj fun hs74 => ?_
  refine Wo (Ofa underlying32 sz3) ?_
  refine Wo (Ola oc3) ?_
  refine Wo (O_callE (xs := [.tmp 76]) (cap := []) rfl .func (.cons (.tmp .hit) .nil) func26 rfl rfl (fun w1 hw => f26_ok _ w1)) ?_
  refine Wo (O_unOp rfl (.tmp .hit) (fun _ => rfl)) ?_
  refine Wo Omo ?_
  refine Sb ?_ ?_
  ·
   refine Cj fun hs79 => ?_
   refine Wo (Ofa underlying32 sz30) ?_
   refine Wo (Ola oc30) ?_
   refine Wo (O_lenSlice rfl (.tmp .hit) underlying30 rfl) ?_
   refine Wo (O_binOp rfl (.tmp .hit) .const (fun _ => b_gtr _ _ _ _ rfl)) ?_
   refine Wo Opt ?_
   refine Sc Opf ?_
   refine Mh ?_
   refine Sb ?_ ?_
   ·
    refine Cj fun hs86 => ?_
    refine Uo (Uo (Uo (Uo (Vo (Vo (Vo (Uo ?_)))))))
    refine Sc Opu ?_
    refine Mh ?_
    refine Uo (Uo (Uo (Uo (Vo (Vo (Vo (Uo ?_)))))))
    refine Sc Opu ?_
    exact (J _ Q3).env (Ek4 rfl rfl rfl rfl)
   refine Cj fun hs86 => ?_
   refine Wo (Ofa underlying32 sz3) ?_
   refine Wo (Ola oc3) ?_
   refine Wo (O_binOp rfl (.tmp .hit) .const (fun _ => b_neq _ _ _ _ rfl)) ?_
   refine Wo Omo ?_
   refine Sb ?_ ?_
   ·
    refine Cj fun hs90 => ?_
    refine Wo (Ofa underlying32 sz3) ?_
    refine Wo (Ola oc3) ?_
    refine Wo (O_binOp rfl (.tmp .hit) .const (fun _ => b_neq _ _ _ _ rfl)) ?_
    refine Wo Opt ?_
    refine Sc Opf ?_
    refine Mh ?_
    refine Sb ?_ ?_
    ·
     refine Cj fun hs96 => ?_
     refine Uo (Uo (Uo (Uo (Vo (Vo (Vo (Uo ?_)))))))
     refine Sc Opu ?_
     exact (J _ Q3).env (Ek4 rfl rfl rfl rfl)
    refine Cj fun hs96 => ?_
    refine Wo (Ofa underlying32 sz3) ?_
    refine Wo (Ola oc3) ?_
    refine Wo (O_binOp rfl (.tmp .hit) .const (fun _ => b_neq _ _ _ _ rfl)) ?_
    refine Wo Omo ?_
    refine Sb ?_ ?_
    ·
     refine Cj fun hs100 => ?_
     refine Wo (Ofa underlying32 sz3) ?_
     refine Wo (Ola oc3) ?_
     refine Wo (O_binOp rfl (.tmp .hit) .const (fun _ => b_neq _ _ _ _ rfl)) ?_
     refine Wo Opt ?_
     refine Sc Opf ?_
     exact (J _ Q3).env (Ek4 rfl rfl rfl rfl)
    refine Cj fun hs100 => ?_
    refine Uo (Uo (Uo ?_))
    refine Wo Opg ?_
    refine Sc Opf ?_
    exact (J _ Q3).env (Ek4 rfl rfl rfl rfl)
   refine Cj fun hs90 => ?_
   refine Uo (Uo (Uo ?_))
   refine Wo Opg ?_
   refine Sc Opf ?_
   refine Mh ?_
   refine Wo (Ofa underlying32 sz3) ?_
   refine Wo (Ola oc3) ?_
   refine Wo (O_binOp rfl (.tmp .hit) .const (fun _ => b_neq _ _ _ _ rfl)) ?_
   refine Wo Omo ?_
   refine Sb ?_ ?_
   ·
    refine Cj fun hs100 => ?_
    refine Wo (Ofa underlying32 sz3) ?_
    refine Wo (Ola oc3) ?_
    refine Wo (O_binOp rfl (.tmp .hit) .const (fun _ => b_neq _ _ _ _ rfl)) ?_
    refine Wo Opt ?_
    refine Sc Opf ?_
    exact (J _ Q3).env (Ek4 rfl rfl rfl rfl)
   refine Cj fun hs100 => ?_
   refine Uo (Uo (Uo ?_))
   refine Wo Opg ?_
   refine Sc Opf ?_
   exact (J _ Q3).env (Ek4 rfl rfl rfl rfl)
  refine Cj fun hs79 => ?_
  refine Uo (Uo (Uo (Uo ?_)))
  refine Wo Opg ?_
  refine Sc Opf ?_
  refine Mh ?_
  refine Wo (Ofa underlying32 sz3) ?_
  refine Wo (Ola oc3) ?_
  refine Wo (O_binOp rfl (.tmp .hit) .const (fun _ => b_neq _ _ _ _ rfl)) ?_
  refine Wo Omo ?_
  refine Sb ?_ ?_
  ·
   refine Cj fun hs90 => ?_
   refine Wo (Ofa underlying32 sz3) ?_
   refine Wo (Ola oc3) ?_
   refine Wo (O_binOp rfl (.tmp .hit) .const (fun _ => b_neq _ _ _ _ rfl)) ?_
   refine Wo Opt ?_
   refine Sc Opf ?_
   refine Mh ?_
   refine Sb ?_ ?_
   ·
    refine Cj fun hs96 => ?_
    refine Uo (Uo (Uo (Uo (Vo (Vo (Vo (Uo ?_)))))))
    refine Sc Opu ?_
    exact (J _ Q3).env (Ek4 rfl rfl rfl rfl)
   refine Cj fun hs96 => ?_
   refine Wo (Ofa underlying32 sz3) ?_
   refine Wo (Ola oc3) ?_
   refine Wo (O_binOp rfl (.tmp .hit) .const (fun _ => b_neq _ _ _ _ rfl)) ?_
   refine Wo Omo ?_
   refine Sb ?_ ?_
   ·
    refine Cj fun hs100 => ?_
    refine Wo (Ofa underlying32 sz3) ?_
    refine Wo (Ola oc3) ?_
    refine Wo (O_binOp rfl (.tmp .hit) .const (fun _ => b_neq _ _ _ _ rfl)) ?_
    refine Wo Opt ?_
    refine Sc Opf ?_
    exact (J _ Q3).env (Ek4 rfl rfl rfl rfl)
   refine Cj fun hs100 => ?_
   refine Uo (Uo (Uo ?_))
   refine Wo Opg ?_
   refine Sc Opf ?_
   exact (J _ Q3).env (Ek4 rfl rfl rfl rfl)
  refine Cj fun hs90 => ?_
  refine Uo (Uo (Uo ?_))
  refine Wo Opg ?_
  refine Sc Opf ?_
  refine Mh ?_
  refine Wo (Ofa underlying32 sz3) ?_
  refine Wo (Ola oc3) ?_
  refine Wo (O_binOp rfl (.tmp .hit) .const (fun _ => b_neq _ _ _ _ rfl)) ?_
  refine Wo Omo ?_
  refine Sb ?_ ?_
  ·
   refine Cj fun hs100 => ?_
   refine Wo (Ofa underlying32 sz3) ?_
   refine Wo (Ola oc3) ?_
   refine Wo (O_binOp rfl (.tmp .hit) .const (fun _ => b_neq _ _ _ _ rfl)) ?_
   refine Wo Opt ?_
   refine Sc Opf ?_
   exact (J _ Q3).env (Ek4 rfl rfl rfl rfl)
  refine Cj fun hs100 => ?_
  refine Uo (Uo (Uo ?_))
  refine Wo Opg ?_
  refine Sc Opf ?_
  exact (J _ Q3).env (Ek4 rfl rfl rfl rfl)
 refine Sc (Ofa underlying32 sz3) ?_
 refine Sc (Ola oc3) ?_
 refine Sc (O_binOp rfl (.tmp .hit) .const (fun _ => b_lss _ _ _ _ rfl)) ?_
 refine Mh ?_
 refine Sb ?_ ?_
 ·
  refine Cj fun hs12 => ?_
  refine Uo (Uo (Uo ?_))
  refine Sc Opu ?_
  refine Mh ?_
  refine Uo (Uo (Uo ?_))
  refine Sc Opu ?_
  refine Mh ?_
  refine Uo (Uo (Uo (Vo (Vo (Vo (Uo ?_))))))
  refine Sc Opu ?_
  refine Mh ?_
  refine Uo (Uo (Uo (Vo (Vo (Vo (Uo (Uo (Vo (Vo (Vo (Vo (Uo ?_))))))))))))
  refine Sc Opu ?_
  exact (J _ Q8).env (Ek5 rfl rfl rfl rfl rfl)
 refine Cj fun hs12 => ?_
 refine Wo (Ofa underlying32 sz3) ?_
 refine Wo (Ola oc3) ?_
 refine Wo (O_binOp rfl (.tmp .hit) .const (fun _ => b_gtr _ _ _ _ rfl)) ?_
 refine Sc Opf ?_
 refine Mh ?_
 refine Sb ?_ ?_
 ·
  refine Cj fun hs17 => ?_
  refine Uo (Uo (Uo ?_))
  refine Sc Opu ?_
  refine Mh ?_
  refine Uo (Uo (Uo (Vo (Vo (Vo (Uo ?_))))))
  refine Sc Opu ?_
  refine Mh ?_
  refine Uo (Uo (Uo (Vo (Vo (Vo (Uo (Uo (Vo (Vo (Vo (Vo (Uo ?_))))))))))))
  refine Sc Opu ?_
  exact (J _ Q8).env (Ek5 rfl rfl rfl rfl rfl)
 refine Cj fun hs17 => ?_
 refine Wo (Ofa underlying32 sz3) ?_
 refine Wo (Ola oc3) ?_
 refine Wo Obe ?_
 refine Sc Opf ?_
 refine Mh ?_
 refine Sb ?_ ?_
 ·
  refine Cj fun hs22 => ?_
  refine Uo (Uo (Uo (Vo (Vo (Vo (Uo ?_))))))
  refine Sc Opu ?_
  refine Mh ?_
  refine Uo (Uo (Uo (Vo (Vo (Vo (Uo (Uo (Vo (Vo (Vo (Vo (Uo ?_))))))))))))
  refine Sc Opu ?_
  exact (J _ Q8).env (Ek5 rfl rfl rfl rfl rfl)
 refine Cj fun hs22 => ?_
 refine Wo Omo ?_
 refine Wo (O_binOp rfl (.tmp .hit) .const (fun _ => b_lss _ _ _ _ rfl)) ?_
 refine Wo Omo ?_
 refine Sb ?_ ?_
 ·
  refine Cj fun hs25 => ?_
  refine Wo (Ofa underlying32 sz9) ?_
  refine Wo (Ola oc9) ?_
  refine Wo (O_binOp rfl (.tmp .hit) .const (fun _ => b_neqS _ _ _ rfl)) ?_
  refine Wo Opt ?_
  refine Sc Opf ?_
  refine Mh ?_
  refine Sb ?_ ?_
  ·
   refine Cj fun hs31 => ?_
   refine Uo (Uo (Uo (Vo (Vo (Vo (Uo (Uo (Vo (Vo (Vo (Vo (Uo ?_))))))))))))
   refine Sc Opu ?_
   exact (J _ Q8).env (Ek5 rfl rfl rfl rfl rfl)
  refine Cj fun hs31 => ?_
  refine Wo Omo ?_
  refine Wo Obe ?_
  refine Wo Omo ?_
  refine Sb ?_ ?_
  ·
   refine Cj fun hs34 => ?_
   refine Uo (Uo (Uo ?_))
   refine Wo Opu ?_
   refine Wo Omo ?_
   refine Wo (Ofa underlying32 sz9) ?_
   refine Wo (Ola oc9) ?_
   refine Wo (O_callN (val := fun t : Bool => .bool t) (N := fun _ => []) (good := fun t1 => t1 = true → NoZero t.name t.name.size ∧ 0 < t.name.size ∧ t.name.size ≤ 12) (xs := [.tmp 41]) (cap := []) rfl .func (.cons (.tmp .hit) .nil) func25 rfl rfl (fun w1 hw => (f25_ok t.name om w1).mono Q19)) ?_
   intro z42 hz42
   refine Wo (O_unOp rfl (.tmp .hit) (fun _ => rfl)) ?_
   refine Wo Opt ?_
   refine Sc Opf ?_
   exact (J _ Q8).env (Ek5 rfl rfl rfl rfl rfl)
  refine Cj fun hs34 => ?_
  refine Wo (Ofa underlying32 sz9) ?_
  refine Wo (Ola oc9) ?_
  refine Wo (O_binOp rfl (.tmp .hit) .const (fun _ => b_neqS _ _ _ rfl)) ?_
  refine Wo Opf ?_
  refine Wo Omo ?_
  refine Sb ?_ ?_
  ·
   refine Cj fun hs39 => ?_
   refine Wo (Ofa underlying32 sz9) ?_
   refine Wo (Ola oc9) ?_
   refine Wo (O_callN (val := fun t : Bool => .bool t) (N := fun _ => []) (good := fun t1 => t1 = true → NoZero t.name t.name.size ∧ 0 < t.name.size ∧ t.name.size ≤ 12) (xs := [.tmp 41]) (cap := []) rfl .func (.cons (.tmp .hit) .nil) func25 rfl rfl (fun w1 hw => (f25_ok t.name om w1).mono Q19)) ?_
   intro z42 hz42
   refine Wo (O_unOp rfl (.tmp .hit) (fun _ => rfl)) ?_
   refine Wo Opt ?_
   refine Sc Opf ?_
   exact (J _ Q8).env (Ek5 rfl rfl rfl rfl rfl)
  refine Cj fun hs39 => ?_
  refine Uo (Uo (Uo (Uo ?_)))
  refine Wo Opg ?_
  refine Sc Opf ?_
  exact (J _ Q8).env (Ek5 rfl rfl rfl rfl rfl)
 refine Cj fun hs25 => ?_
 refine Uo (Uo (Uo ?_))
 refine Wo Opg ?_
 refine Sc Opf ?_
 refine Mh ?_
 refine Wo Omo ?_
 refine Wo Obe ?_
 refine Wo Omo ?_
 refine Sb ?_ ?_
 ·
  refine Cj fun hs34 => ?_
  refine Uo (Uo (Uo ?_))
  refine Wo Opu ?_
  refine Wo Omo ?_
  refine Wo (Ofa underlying32 sz9) ?_
  refine Wo (Ola oc9) ?_
  refine Wo (O_callN (val := fun t : Bool => .bool t) (N := fun _ => []) (good := fun t1 => t1 = true → NoZero t.name t.name.size ∧ 0 < t.name.size ∧ t.name.size ≤ 12) (xs := [.tmp 41]) (cap := []) rfl .func (.cons (.tmp .hit) .nil) func25 rfl rfl (fun w1 hw => (f25_ok t.name om w1).mono Q19)) ?_
  intro z42 hz42
  refine Wo (O_unOp rfl (.tmp .hit) (fun _ => rfl)) ?_
  refine Wo Opt ?_
  refine Sc Opf ?_
  exact (J _ Q8).env (Ek5 rfl rfl rfl rfl rfl)
 refine Cj fun hs34 => ?_
 refine Wo (Ofa underlying32 sz9) ?_
 refine Wo (Ola oc9) ?_
 refine Wo (O_binOp rfl (.tmp .hit) .const (fun _ => b_neqS _ _ _ rfl)) ?_
 refine Wo Opf ?_
 refine Wo Omo ?_
 refine Sb ?_ ?_
 ·
  refine Cj fun hs39 => ?_
  refine Wo (Ofa underlying32 sz9) ?_
  refine Wo (Ola oc9) ?_
  refine Wo (O_callN (val := fun t : Bool => .bool t) (N := fun _ => []) (good := fun t1 => t1 = true → NoZero t.name t.name.size ∧ 0 < t.name.size ∧ t.name.size ≤ 12) (xs := [.tmp 41]) (cap := []) rfl .func (.cons (.tmp .hit) .nil) func25 rfl rfl (fun w1 hw => (f25_ok t.name om w1).mono Q19)) ?_
  intro z42 hz42
  refine Wo (O_unOp rfl (.tmp .hit) (fun _ => rfl)) ?_
  refine Wo Opt ?_
  refine Sc Opf ?_
  exact (J _ Q8).env (Ek5 rfl rfl rfl rfl rfl)
 refine Cj fun hs39 => ?_
 refine Uo (Uo (Uo (Uo ?_)))
 refine Wo Opg ?_
 refine Sc Opf ?_
 exact (J _ Q8).env (Ek5 rfl rfl rfl rfl rfl)
end

section
open Go
open Tryz
set_option maxRecDepth 100000

theorem f5_ok (p : Option Addr) (cap : Nat) (ts : List Tp) (hfit : ∀ (i : Nat) (q : Tp), ts[i]? = some q → FitT q) (w : World) (hM : TysAt w p ts) : Calls Tryz.prog 5 #[.slice p ts.length cap] w (fun r w' => ∃ t : Bool, r = .returned (.bool t) ∧ (t = true → ts.length ≤ 30 ∧ ∀ i q, i < ts.length → ts[i]? = some q → TOk ts.length q) ∧ Ext noS w w') := by
 refine sw_calls (S := noS) func5 rfl ntmps5 (sees1 _ _ rfl) (Holds.start _ _) ?_
 refine SR fun _ k1 => ?_
 refine Ac ?_
 refine SN k1 ?_
 refine Sq fun _ k2 => ?_
 refine SR fun _ k3 => ?_
 refine Mo ?_
 refine Sc (O_lenSlice rfl (.tmp .hit) underlying22 rfl) ?_
 refine Sc (O_binOp rfl (.tmp .hit) .const (fun _ => b_gtr _ _ _ _ rfl)) ?_
 refine SN k3 ?_
 refine Sd ?_ ?_
 ·
  refine Ci fun ht7 => ?_
  refine Ek [2, 0] ?_
  refine SR fun _ k4 => ?_
  refine Ac ?_
  refine SN k4 ?_
  refine Rt ?_
  refine Pl0 ?_
  refine Pl3 ?_
  first
  | exact SK_ret1 rfl .hit (fun w hw => ⟨false, rfl, (fun h => by cases h), hw.ext⟩)
  | exact SK_ret1 rfl .hit (fun w hw => ⟨true, rfl, (fun _ => hfin), hw.ext⟩)
 refine Ci fun ht7 => ?_
 refine SS k2 ?_
 refine Ek [2, 0] ?_
 refine Sq fun _ k5 => ?_
 refine SR fun _ k6 => ?_
 refine Mo ?_
 refine Sc (O_lenSlice rfl (.tmp .hit) underlying22 rfl) ?_
 refine Mc ?_
 refine SN k6 ?_
 refine Bl ?_
 refine SW_loop (α := Nat) (fun x => x ≤ ts.length ∧ ∀ i q, i < x → ts[i]? = some q → TOk ts.length q) (fun x => ts.length - x) (fun x => []) (fun x => [(10, .int .i64 (x : Nat)), (9, .int .i64 (ts.length : Nat)), (8, .slice p ts.length cap), (0, .slice p ts.length cap), (2, .bool false)]) 0 ⟨Nat.zero_le _, fun i q h _ => absurd h (Nat.not_lt_zero _)⟩ (Ek5 rfl rfl rfl rfl rfl) (SW_range.HSub.all _) ?_
 rintro i ⟨hi, hz⟩
 refine SR fun _ k7 => ?_
 refine Sc (O_binOp rfl (.tmp .hit) (.tmp (.o rfl)) (fun _ => b_lss _ _ _ _ rfl)) ?_
 refine SN k7 ?_
 refine Sq fun _ k8 => ?_
 refine Sd ?_ ?_
 ·
  refine Ci fun ht11 => ?_
  have hlt : i < ts.length := by omega
  obtain ⟨b, off, hpe, mp, mc, hc1, -, hm1⟩ := hM _ _ (List.getElem?_eq_getElem hlt)
  subst hpe
  have hf1 := hfit _ _ (List.getElem?_eq_getElem hlt)
  refine SS k8 ?_
  refine Ek [10, 9, 8, 0, 2] ?_
  refine Sq fun _ k9 => ?_
  refine Bl ?_
  refine SR fun _ k10 => ?_
  refine Sc (O_indexAddr rfl (.tmp (.o rfl)) (.tmp .hit) underlying22 sz32 oz oz) ?_
  refine Sc (O_loadA0 (vs := cellsT ts[i] (.slice mp ts[i].mems.length mc)) rfl (.tmp .hit) underlying32 sz32 rfl (fun h => h) (fun j u hj => by have := hc1 j u hj; simpa using this)) ?_
  refine Sc (O_alloc rfl zr32 rfl) ?_
  intro bk4 _
  refine Sc (O_storeA (vs := cellsT ts[i] (.slice mp ts[i].mems.length mc)) (.tmp .hit) (.tmp (.o rfl)) rfl sz32 rfl .a dc rfl) ?_
  refine SN k10 ?_
  refine Ek [4, 10, 9, 8, 0, 2] ?_
  refine SR fun _ k11 => ?_
  refine Mo ?_
  refine Sc (O_loadA (vs := cellsT ts[i] (.slice mp ts[i].mems.length mc)) rfl (.tmp (.o rfl)) underlying32 sz32 .a rfl) ?_
  refine Sc (O_callN (val := fun t : Bool => .bool t) (N := fun _ => []) (good := fun t => t = true → TOk ts.length ts[i]) (xs := [.tmp 14, .tmp 15]) (cap := []) rfl .func (.cons (.tmp (.o rfl)) (.cons (.tmp .hit) .nil)) func10 rfl rfl (fun w1 hw => (f10_ok _ cap ts ts[i] mp mc hf1.1 (fun j q hj => hf1.2.2 j q (List.getElem?_eq_some_iff.1 hj).1 hj) om w1 (hM.ext hw.ext) (hm1.ext hw.ext)).mono Q36)) ?_
  intro z15 hz15
  refine Sc (O_unOp rfl (.tmp .hit) (fun _ => rfl)) ?_
  refine SN k11 ?_
  refine Sd ?_ ?_
  ·
   refine Ci fun ht17 => ?_
   refine Ek [10, 9, 8, 0, 2] ?_
   refine SR fun _ k12 => ?_
   refine Ac ?_
   refine SN k12 ?_
   refine Rt ?_
   refine Pl0 ?_
   refine Pl3 ?_
   first
   | exact SK_ret1 rfl .hit (fun w hw => ⟨false, rfl, (fun h => by cases h), hw.ext⟩)
   | exact SK_ret1 rfl .hit (fun w hw => ⟨true, rfl, (fun _ => hfin), hw.ext⟩)
  refine Ci fun ht17 => ?_
  have hz2 : ∀ j q, j < i + 1 → ts[j]? = some q → TOk ts.length q := fun j q hj hq => by
   rcases Nat.lt_or_ge j i with h | h
   · exact hz j q h hq
   have hji : j = i := by omega
   subst hji
   rw [List.getElem?_eq_getElem hlt] at hq
   injection hq with hq
   subst hq
   exact hz15 (by cases z15 <;> simp_all)
  refine SS k9 ?_
  refine Sr ?_
  refine Sc (O_binOp rfl (.tmp (.o rfl)) .const (fun _ => b_add _ _ _ rfl oz oz)) ?_
  refine Mh ?_
  refine Sn ?_
  refine Pl1 ?_
  exact fun _ _ ha hw => ⟨(i + 1), Q41, ⟨hlt, hz2⟩, ha.weaken .a, hw.weaken Q24⟩
 refine Ci fun ht11 => ?_
 have hfin : ts.length ≤ 30 ∧ ∀ i q, i < ts.length → ts[i]? = some q → TOk ts.length q := ⟨by omega, fun j q h hq => hz j q om hq⟩
 refine Xt ?_
 refine So k5 ?_
 refine Ek [2] ?_
 refine SR fun _ k13 => ?_
 refine Ac ?_
 refine SN k13 ?_
 refine Rt ?_
 refine Pl3 ?_
 first
 | exact SK_ret1 rfl .hit (fun w hw => ⟨false, rfl, (fun h => by cases h), hw.ext⟩)
 | exact SK_ret1 rfl .hit (fun w hw => ⟨true, rfl, (fun _ => hfin), hw.ext⟩)
end
end Go.Proofs.YtoibhfpagkdleaaGreatDoor
