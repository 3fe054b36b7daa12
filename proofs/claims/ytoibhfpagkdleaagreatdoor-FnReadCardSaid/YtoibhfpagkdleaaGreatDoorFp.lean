/-
  CONTRACT: the details of a type.
-/
import Derived.Test.YtoibhfpagkdleaaGreatDoorFo
namespace Go.Proofs.YtoibhfpagkdleaaGreatDoor
section
open Go
open Tryz
set_option maxRecDepth 100000

set_option maxHeartbeats 4000000 in
theorem f29_ok (p : Option Addr) (cap : Nat) (ts : List Tp) (t : Tp) (mp : Option Addr) (mc : Nat) (hfit : ∀ (i : Nat) (q : Mb), t.mems[i]? = some q → q.name.size ≤ 2147483647) (hlen : ts.length ≤ 30) (hm8 : t.mems.length ≤ 8) (w : World) (hT : TysAt w p ts) (hM : MemsAt w mp t.mems) :
 Calls Tryz.prog 29 #[.slice p ts.length cap, .agg (cellsT t (.slice mp t.mems.length mc)).toArray] w (fun r w' => ∃ t1 : Bool, r = .returned (.bool t1) ∧ (t1 = true → (∀ (i : Nat) (q : Mb), t.mems[i]? = some q → MOk t.kind t.flag ts.length q) ∧ DOk t.kind t.size t.enc t.flag) ∧ Ext noS w w') := by
 refine sw_calls (S := noS) func29 rfl ntmps29 (sees2 _ _ _ rfl) (Holds.start _ _) ?_
 refine SR fun _ k1 => ?_
 refine Sc (O_box (cs := (cellsT t (.slice mp t.mems.length mc)).toArray) rfl (.tmp (.o rfl)) rfl) ?_
 intro bk3 _
 refine Ac ?_
 refine SN k1 ?_
 refine Ek [4, 3, 0] ?_
 refine Sq fun _ k2 => ?_
 refine SR fun _ k3 => ?_
 refine Sc (Ofa underlying32 sz30) ?_
 refine Sc (Ola oc30) ?_
 refine Sc (O_lenSlice rfl (.tmp .hit) underlying30 rfl) ?_
 refine Mc ?_
 refine SN k3 ?_
 refine Bl ?_
 refine SW_loop (α := Nat) (fun x => x ≤ t.mems.length ∧ ∀ i q, i < x → t.mems[i]? = some q → MOk t.kind t.flag ts.length q) (fun x => t.mems.length - x) (fun x => [(bk3, true, .cells (cellsT t (.slice mp t.mems.length mc)).toArray 32 (0, 0))]) (fun x => [(11, .int .i64 (x : Nat)), (10, .int .i64 (t.mems.length : Nat)), (9, .slice mp t.mems.length mc), (0, .slice p ts.length cap), (3, .pointer (some ⟨bk3, 0, none⟩)), (4, .bool false)]) 0 ⟨Nat.zero_le _, fun i q h _ => absurd h (Nat.not_lt_zero _)⟩ (Ek6 rfl rfl rfl rfl rfl rfl) (SW_range.HSub.all _) ?_
 rintro i ⟨hi, hz⟩
 refine SR fun _ k4 => ?_
 refine Sc (O_binOp rfl (.tmp .hit) (.tmp (.o rfl)) (fun _ => b_lss _ _ _ _ rfl)) ?_
 refine SN k4 ?_
 refine Sq fun _ k5 => ?_
 refine Sd ?_ ?_
 ·
  refine Ci fun ht12 => ?_
  have hlt : i < t.mems.length := by omega
  obtain ⟨b, off, rfl, hc1⟩ := hM _ _ (List.getElem?_eq_getElem hlt)
  refine SS k5 ?_
  refine Ek [11, 10, 9, 0, 3, 4] ?_
  refine Sq fun _ k6 => ?_
  refine Bl ?_
  refine SR fun _ k7 => ?_
  refine Sc (O_indexAddr rfl (.tmp (.o rfl)) (.tmp .hit) underlying30 sz64 oz oz) ?_
  refine Sc (O_loadA0 (vs := cellsM t.mems[i]) rfl (.tmp .hit) underlying64 sz64 rfl (fun h => h) (fun j u hj => by have := hc1 j u hj; simpa using this)) ?_
  refine Sc (O_alloc rfl zr64 rfl) ?_
  intro bk6 _
  refine Sc (O_storeA (vs := cellsM t.mems[i]) (.tmp .hit) (.tmp (.o rfl)) rfl sz64 rfl .a dc rfl) ?_
  refine SN k7 ?_
  refine Ek [6, 11, 10, 9, 0, 3, 4] ?_
  refine SR fun _ k8 => ?_
  refine Mo ?_
  refine Sc (O_loadA (vs := (cellsT t (.slice _ t.mems.length mc))) rfl (.tmp (.o rfl)) underlying32 sz32 .a rfl) ?_
  refine Sc (O_loadA (vs := cellsM t.mems[i]) rfl (.tmp (.o rfl)) underlying64 sz64 .a rfl) ?_
  refine Sc (O_callN (val := fun t : Bool => .bool t) (N := fun _ => []) (good := fun t1 => t1 = true → MOk t.kind t.flag ts.length t.mems[i]) (xs := [.tmp 15, .tmp 16, .tmp 17]) (cap := []) rfl .func (.cons (.tmp (.o rfl)) (.cons (.tmp (.o rfl)) (.cons (.tmp .hit) .nil))) func43 rfl rfl (fun w1 hw => (f43_ok p cap ts t _ mc t.mems[i] (hfit i _ (List.getElem?_eq_getElem hlt)) hlen w1 (hT.ext hw.ext)).mono Q19)) ?_
  intro z18 hz18
  refine Sc (O_unOp rfl (.tmp .hit) (fun _ => rfl)) ?_
  refine SN k8 ?_
  refine Sd ?_ ?_
  ·
   refine Ci fun ht19 => ?_
   refine Ek [11, 10, 9, 0, 3, 4] ?_
   refine SR fun _ k9 => ?_
   refine Ac ?_
   refine SN k9 ?_
   refine Rt ?_
   refine Pl0 ?_
   refine Pl3 ?_
   exact SK_ret1 rfl .hit (fun w hw => ⟨_, rfl, Q5, hw.ext⟩)
  refine Ci fun ht19 => ?_
  have hz2 : ∀ j q, j < i + 1 → t.mems[j]? = some q → MOk t.kind t.flag ts.length q := fun j q hj hq => by
   rcases Nat.lt_or_ge j i with h | h
   · exact hz j q h hq
   have hji : j = i := by omega
   subst hji
   rw [List.getElem?_eq_getElem hlt] at hq
   injection hq with hq
   subst hq
   exact hz18 (by cases z18 <;> simp_all)
  refine SS k6 ?_
  refine Sr ?_
  refine Sc (O_binOp rfl (.tmp (.o rfl)) .const (fun _ => b_add _ _ _ rfl oz oz)) ?_
  refine Mh ?_
  refine Sn ?_
  refine Pl1 ?_
  exact fun _ _ ha hw => ⟨(i + 1), (by show t.mems.length - (i + 1) < t.mems.length - i; omega), ⟨hlt, hz2⟩, ha.weaken .a, hw.weaken (.drop (.keep .nil))⟩
 refine Ci fun ht12 => ?_
 have hmem : ∀ i q, t.mems[i]? = some q → MOk t.kind t.flag ts.length q := fun j q hq => hz j q (by have := (List.getElem?_eq_some_iff.1 hq).1; omega) hq
 refine Xt ?_
 refine So k2 ?_
 refine Ek [0, 3, 4] ?_
 refine Sq fun _ k10 => ?_
 refine SR fun _ k11 => ?_
 refine Sc (Ofa underlying32 sz3) ?_
 refine Sc (Ola oc3) ?_
 refine SN k11 ?_
 refine Bl ?_
 refine Ek [22, 0, 3, 4] ?_
 refine SR fun _ k12 => ?_
 refine Sc Obe ?_
 refine Ah ?_
 refine Sb ?_ ?_
 ·
  refine Ci fun hs23 => ?_
  refine SN k12 ?_
  refine Th ?_
  refine Ek [3, 4] ?_
  refine SR fun _ k13 => ?_
  refine Sc (Ofa underlying32 sz3) ?_
  refine Sc (Ola oc3) ?_
  refine Ah ?_
  refine SN k13 ?_
  refine Ek [7, 3, 4] ?_
  refine SR fun _ k14 => ?_
  refine Sc (Ofa underlying32 sz3) ?_
  refine Sc (Ola oc3) ?_
  refine Sc Obe ?_
  refine Mh ?_
  refine Sb ?_ ?_
  ·
   refine Ci fun hs30 => ?_
   refine Uo (Uo (Uo ?_))
   refine Sc Opu ?_
   refine Mh ?_
   refine Uo (Uo (Uo ?_))
   refine Sc Opu ?_
   refine Mh ?_
   refine Uo (Uo (Uo ?_))
   refine Sc Opu ?_
   refine Mh ?_
   refine Uo (Uo (Uo ?_))
   refine Sc Opu ?_
   refine Mh ?_
   refine Wo Omo ?_
   refine Wo Obe ?_
   refine Wo Omo ?_
   refine Sb ?_ ?_
   ·
    refine Ci fun hs53 => ?_
    refine Uo (Uo ?_)
    refine Wo Opu ?_
    refine Wo Omo ?_
    refine Uo (Uo ?_)
    refine Wo Opu ?_
    refine Wo Omo ?_
    refine Uo (Uo ?_)
    refine Wo Opu ?_
    refine Sc Opt ?_
    refine Mh ?_
    refine Wo (Ofa underlying32 sz3) ?_
    refine Wo (Ola oc3) ?_
    refine Wo Obe ?_
    refine Sc Opt ?_
    refine Ah ?_
    refine SN k14 ?_
    refine Rt ?_
    refine Pl0 ?_
    refine Pl3 ?_
    exact SK_ret1 rfl .hit (fun w hw => ⟨_, rfl, Q5, hw.ext⟩)
   refine Ci fun hs53 => ?_
   refine Wo Omo ?_
   refine Wo Obe ?_
   refine Wo Opf ?_
   refine Wo Omo ?_
   refine Sb ?_ ?_
   ·
    refine Ci fun hs57 => ?_
    refine Uo (Uo ?_)
    refine Wo Opu ?_
    refine Wo Omo ?_
    refine Uo (Uo ?_)
    refine Wo Opu ?_
    refine Sc Opt ?_
    refine Mh ?_
    refine Wo (Ofa underlying32 sz3) ?_
    refine Wo (Ola oc3) ?_
    refine Wo Obe ?_
    refine Sc Opt ?_
    refine Ah ?_
    refine SN k14 ?_
    refine Rt ?_
    refine Pl0 ?_
    refine Pl3 ?_
    exact SK_ret1 rfl .hit (fun w hw => ⟨_, rfl, Q5, hw.ext⟩)
   refine Ci fun hs57 => ?_
   refine Wo Omo ?_
   refine Wo Obe ?_
   refine Wo Opf ?_
   refine Wo Omo ?_
   refine Sb ?_ ?_
   ·
    refine Ci fun hs61 => ?_
    refine Uo (Uo ?_)
    refine Wo Opu ?_
    refine Sc Opt ?_
    refine Mh ?_
    refine Wo (Ofa underlying32 sz3) ?_
    refine Wo (Ola oc3) ?_
    refine Wo Obe ?_
    refine Sc Opt ?_
    refine Ah ?_
    refine SN k14 ?_
    refine Rt ?_
    refine Pl0 ?_
    refine Pl3 ?_
    exact SK_ret1 rfl .hit (fun w hw => ⟨_, rfl, Q5, hw.ext⟩)
   refine Ci fun hs61 => ?_
   refine Wo Omo ?_
   refine Wo Obe ?_
   refine Wo Opf ?_
   refine Sc Opt ?_
   refine Mh ?_
   refine Sb ?_ ?_
   ·
    refine Ci fun hs66 => ?_
    refine Wo (Ofa underlying32 sz3) ?_
    refine Wo (Ola oc3) ?_
    refine Wo Obe ?_
    refine Sc Opt ?_
    refine Ah ?_
    refine SN k14 ?_
    refine Rt ?_
    refine Pl0 ?_
    refine Pl3 ?_
    exact SK_ret1 rfl .hit (fun w hw => ⟨_, rfl, Q5, hw.ext⟩)
   refine Ci fun hs66 => ?_
   refine Uo (Uo (Uo ?_))
   refine Sc Opg ?_
   refine Ah ?_
   refine SN k14 ?_
   refine Rt ?_
   refine Pl0 ?_
   refine Pl3 ?_
   exact SK_ret1 rfl .hit (fun w hw => ⟨_, rfl, Q5, hw.ext⟩)
  refine Ci fun hs30 => ?_
  refine Wo (Ofa underlying32 sz3) ?_
  refine Wo (Ola oc3) ?_
  refine Wo Obe ?_
  refine Sc Opf ?_
  refine Mh ?_
  refine Sb ?_ ?_
  ·
   refine Ci fun hs35 => ?_
   refine Uo (Uo (Uo ?_))
   refine Sc Opu ?_
   refine Mh ?_
   refine Uo (Uo (Uo ?_))
   refine Sc Opu ?_
   refine Mh ?_
   refine Uo (Uo (Uo ?_))
   refine Sc Opu ?_
   refine Mh ?_
   refine Wo Omo ?_
   refine Wo Obe ?_
   refine Wo Omo ?_
   refine Sb ?_ ?_
   ·
    refine Ci fun hs53 => ?_
    refine Uo (Uo ?_)
    refine Wo Opu ?_
    refine Wo Omo ?_
    refine Uo (Uo ?_)
    refine Wo Opu ?_
    refine Wo Omo ?_
    refine Uo (Uo ?_)
    refine Wo Opu ?_
    refine Sc Opt ?_
    refine Mh ?_
    refine Wo (Ofa underlying32 sz3) ?_
    refine Wo (Ola oc3) ?_
    refine Wo Obe ?_
    refine Sc Opt ?_
    refine Ah ?_
    refine SN k14 ?_
    refine Rt ?_
    refine Pl0 ?_
    refine Pl3 ?_
    exact SK_ret1 rfl .hit (fun w hw => ⟨_, rfl, Q5, hw.ext⟩)
   refine Ci fun hs53 => ?_
   refine Wo Omo ?_
   refine Wo Obe ?_
   refine Wo Opf ?_
   refine Wo Omo ?_
   refine Sb ?_ ?_
   ·
    refine Ci fun hs57 => ?_
    refine Uo (Uo ?_)
    refine Wo Opu ?_
    refine Wo Omo ?_
    refine Uo (Uo ?_)
    refine Wo Opu ?_
    refine Sc Opt ?_
    refine Mh ?_
    refine Wo (Ofa underlying32 sz3) ?_
    refine Wo (Ola oc3) ?_
    refine Wo Obe ?_
    refine Sc Opt ?_
    refine Ah ?_
    refine SN k14 ?_
    refine Rt ?_
    refine Pl0 ?_
    refine Pl3 ?_
    exact SK_ret1 rfl .hit (fun w hw => ⟨_, rfl, Q5, hw.ext⟩)
   refine Ci fun hs57 => ?_
   refine Wo Omo ?_
   refine Wo Obe ?_
   refine Wo Opf ?_
   refine Wo Omo ?_
   refine Sb ?_ ?_
   ·
    refine Ci fun hs61 => ?_
    refine Uo (Uo ?_)
    refine Wo Opu ?_
    refine Sc Opt ?_
    refine Mh ?_
    refine Wo (Ofa underlying32 sz3) ?_
    refine Wo (Ola oc3) ?_
    refine Wo Obe ?_
    refine Sc Opt ?_
    refine Ah ?_
    refine SN k14 ?_
    refine Rt ?_
    refine Pl0 ?_
    refine Pl3 ?_
    exact SK_ret1 rfl .hit (fun w hw => ⟨_, rfl, Q5, hw.ext⟩)
   refine Ci fun hs61 => ?_
   refine Wo Omo ?_
   refine Wo Obe ?_
   refine Wo Opf ?_
   refine Sc Opt ?_
   refine Mh ?_
   refine Sb ?_ ?_
   ·
    refine Ci fun hs66 => ?_
    refine Wo (Ofa underlying32 sz3) ?_
    refine Wo (Ola oc3) ?_
    refine Wo Obe ?_
    refine Sc Opt ?_
    refine Ah ?_
    refine SN k14 ?_
    refine Rt ?_
    refine Pl0 ?_
    refine Pl3 ?_
    exact SK_ret1 rfl .hit (fun w hw => ⟨_, rfl, Q5, hw.ext⟩)
   refine Ci fun hs66 => ?_
   refine Uo (Uo (Uo ?_))
   refine Sc Opg ?_
   refine Ah ?_
   refine SN k14 ?_
   refine Rt ?_
   refine Pl0 ?_
   refine Pl3 ?_
   exact SK_ret1 rfl .hit (fun w hw => ⟨_, rfl, Q5, hw.ext⟩)
  refine Ci fun hs35 => ?_
  refine Wo (Ofa underlying32 sz3) ?_
  refine Wo (Ola oc3) ?_
  refine Wo Obe ?_
  refine Sc Opf ?_
  refine Mh ?_
  refine Sb ?_ ?_
  ·
   refine Ci fun hs40 => ?_
   refine Uo (Uo (Uo ?_))
   refine Sc Opu ?_
   refine Mh ?_
   refine Uo (Uo (Uo ?_))
   refine Sc Opu ?_
   refine Mh ?_
   refine Wo Omo ?_
   refine Wo Obe ?_
   refine Wo Omo ?_
   refine Sb ?_ ?_
   ·
    refine Ci fun hs53 => ?_
    refine Uo (Uo ?_)
    refine Wo Opu ?_
    refine Wo Omo ?_
    refine Uo (Uo ?_)
    refine Wo Opu ?_
    refine Wo Omo ?_
    refine Uo (Uo ?_)
    refine Wo Opu ?_
    refine Sc Opt ?_
    refine Mh ?_
    refine Wo (Ofa underlying32 sz3) ?_
    refine Wo (Ola oc3) ?_
    refine Wo Obe ?_
    refine Sc Opt ?_
    refine Ah ?_
    refine SN k14 ?_
    refine Rt ?_
    refine Pl0 ?_
    refine Pl3 ?_
    exact SK_ret1 rfl .hit (fun w hw => ⟨_, rfl, Q5, hw.ext⟩)
   refine Ci fun hs53 => ?_
   refine Wo Omo ?_
   refine Wo Obe ?_
   refine Wo Opf ?_
   refine Wo Omo ?_
   refine Sb ?_ ?_
   ·
    refine Ci fun hs57 => ?_
    refine Uo (Uo ?_)
    refine Wo Opu ?_
    refine Wo Omo ?_
    refine Uo (Uo ?_)
    refine Wo Opu ?_
    refine Sc Opt ?_
    refine Mh ?_
    refine Wo (Ofa underlying32 sz3) ?_
    refine Wo (Ola oc3) ?_
    refine Wo Obe ?_
    refine Sc Opt ?_
    refine Ah ?_
    refine SN k14 ?_
    refine Rt ?_
    refine Pl0 ?_
    refine Pl3 ?_
    exact SK_ret1 rfl .hit (fun w hw => ⟨_, rfl, Q5, hw.ext⟩)
   refine Ci fun hs57 => ?_
   refine Wo Omo ?_
   refine Wo Obe ?_
   refine Wo Opf ?_
   refine Wo Omo ?_
   refine Sb ?_ ?_
   ·
    refine Ci fun hs61 => ?_
    refine Uo (Uo ?_)
    refine Wo Opu ?_
    refine Sc Opt ?_
    refine Mh ?_
    refine Wo (Ofa underlying32 sz3) ?_
    refine Wo (Ola oc3) ?_
    refine Wo Obe ?_
    refine Sc Opt ?_
    refine Ah ?_
    refine SN k14 ?_
    refine Rt ?_
    refine Pl0 ?_
    refine Pl3 ?_
    exact SK_ret1 rfl .hit (fun w hw => ⟨_, rfl, Q5, hw.ext⟩)
   refine Ci fun hs61 => ?_
   refine Wo Omo ?_
   refine Wo Obe ?_
   refine Wo Opf ?_
   refine Sc Opt ?_
   refine Mh ?_
   refine Sb ?_ ?_
   ·
    refine Ci fun hs66 => ?_
    refine Wo (Ofa underlying32 sz3) ?_
    refine Wo (Ola oc3) ?_
    refine Wo Obe ?_
    refine Sc Opt ?_
    refine Ah ?_
    refine SN k14 ?_
    refine Rt ?_
    refine Pl0 ?_
    refine Pl3 ?_
    exact SK_ret1 rfl .hit (fun w hw => ⟨_, rfl, Q5, hw.ext⟩)
   refine Ci fun hs66 => ?_
   refine Uo (Uo (Uo ?_))
   refine Sc Opg ?_
   refine Ah ?_
   refine SN k14 ?_
   refine Rt ?_
   refine Pl0 ?_
   refine Pl3 ?_
   exact SK_ret1 rfl .hit (fun w hw => ⟨_, rfl, Q5, hw.ext⟩)
  refine Ci fun hs40 => ?_
  refine Wo (Ofa underlying32 sz3) ?_
  refine Wo (Ola oc3) ?_
  refine Wo Obe ?_
  refine Sc Opf ?_
  refine Mh ?_
  refine Sb ?_ ?_
  ·
   refine Ci fun hs45 => ?_
   refine Uo (Uo (Uo ?_))
   refine Sc Opu ?_
   refine Mh ?_
   refine Wo Omo ?_
   refine Wo Obe ?_
   refine Wo Omo ?_
   refine Sb ?_ ?_
   ·
    refine Ci fun hs53 => ?_
    refine Uo (Uo ?_)
    refine Wo Opu ?_
    refine Wo Omo ?_
    refine Uo (Uo ?_)
    refine Wo Opu ?_
    refine Wo Omo ?_
    refine Uo (Uo ?_)
    refine Wo Opu ?_
    refine Sc Opt ?_
    refine Mh ?_
    refine Wo (Ofa underlying32 sz3) ?_
    refine Wo (Ola oc3) ?_
    refine Wo Obe ?_
    refine Sc Opt ?_
    refine Ah ?_
    refine SN k14 ?_
    refine Rt ?_
    refine Pl0 ?_
    refine Pl3 ?_
    exact SK_ret1 rfl .hit (fun w hw => ⟨_, rfl, Q5, hw.ext⟩)
   refine Ci fun hs53 => ?_
   refine Wo Omo ?_
   refine Wo Obe ?_
   refine Wo Opf ?_
   refine Wo Omo ?_
   refine Sb ?_ ?_
   ·
    refine Ci fun hs57 => ?_
    refine Uo (Uo ?_)
    refine Wo Opu ?_
    refine Wo Omo ?_
    refine Uo (Uo ?_)
    refine Wo Opu ?_
    refine Sc Opt ?_
    refine Mh ?_
    refine Wo (Ofa underlying32 sz3) ?_
    refine Wo (Ola oc3) ?_
    refine Wo Obe ?_
    refine Sc Opt ?_
    refine Ah ?_
    refine SN k14 ?_
    refine Rt ?_
    refine Pl0 ?_
    refine Pl3 ?_
    exact SK_ret1 rfl .hit (fun w hw => ⟨_, rfl, Q5, hw.ext⟩)
   refine Ci fun hs57 => ?_
   refine Wo Omo ?_
   refine Wo Obe ?_
   refine Wo Opf ?_
   refine Wo Omo ?_
   refine Sb ?_ ?_
   ·
    refine Ci fun hs61 => ?_
    refine Uo (Uo ?_)
    refine Wo Opu ?_
    refine Sc Opt ?_
    refine Mh ?_
    refine Wo (Ofa underlying32 sz3) ?_
    refine Wo (Ola oc3) ?_
    refine Wo Obe ?_
    refine Sc Opt ?_
    refine Ah ?_
    refine SN k14 ?_
    refine Rt ?_
    refine Pl0 ?_
    refine Pl3 ?_
    exact SK_ret1 rfl .hit (fun w hw => ⟨_, rfl, Q5, hw.ext⟩)
   refine Ci fun hs61 => ?_
   refine Wo Omo ?_
   refine Wo Obe ?_
   refine Wo Opf ?_
   refine Sc Opt ?_
   refine Mh ?_
   refine Sb ?_ ?_
   ·
    refine Ci fun hs66 => ?_
    refine Wo (Ofa underlying32 sz3) ?_
    refine Wo (Ola oc3) ?_
    refine Wo Obe ?_
    refine Sc Opt ?_
    refine Ah ?_
    refine SN k14 ?_
    refine Rt ?_
    refine Pl0 ?_
    refine Pl3 ?_
    exact SK_ret1 rfl .hit (fun w hw => ⟨_, rfl, Q5, hw.ext⟩)
   refine Ci fun hs66 => ?_
   refine Uo (Uo (Uo ?_))
   refine Sc Opg ?_
   refine Ah ?_
   refine SN k14 ?_
   refine Rt ?_
   refine Pl0 ?_
   refine Pl3 ?_
   exact SK_ret1 rfl .hit (fun w hw => ⟨_, rfl, Q5, hw.ext⟩)
  refine Ci fun hs45 => ?_
  refine Wo (Ofa underlying32 sz3) ?_
  refine Wo (Ola oc3) ?_
  refine Wo Obe ?_
  refine Sc Opf ?_
  refine Mh ?_
  refine Sb ?_ ?_
  ·
   refine Ci fun hs50 => ?_
   refine Wo Omo ?_
   refine Wo Obe ?_
   refine Wo Omo ?_
   refine Sb ?_ ?_
   ·
    refine Ci fun hs53 => ?_
    refine Uo (Uo ?_)
    refine Wo Opu ?_
    refine Wo Omo ?_
    refine Uo (Uo ?_)
    refine Wo Opu ?_
    refine Wo Omo ?_
    refine Uo (Uo ?_)
    refine Wo Opu ?_
    refine Sc Opt ?_
    refine Mh ?_
    refine Wo (Ofa underlying32 sz3) ?_
    refine Wo (Ola oc3) ?_
    refine Wo Obe ?_
    refine Sc Opt ?_
    refine Ah ?_
    refine SN k14 ?_
    refine Rt ?_
    refine Pl0 ?_
    refine Pl3 ?_
    exact SK_ret1 rfl .hit (fun w hw => ⟨_, rfl, Q5, hw.ext⟩)
   refine Ci fun hs53 => ?_
   refine Wo Omo ?_
   refine Wo Obe ?_
   refine Wo Opf ?_
   refine Wo Omo ?_
   refine Sb ?_ ?_
   ·
    refine Ci fun hs57 => ?_
    refine Uo (Uo ?_)
    refine Wo Opu ?_
    refine Wo Omo ?_
    refine Uo (Uo ?_)
    refine Wo Opu ?_
    refine Sc Opt ?_
    refine Mh ?_
    refine Wo (Ofa underlying32 sz3) ?_
    refine Wo (Ola oc3) ?_
    refine Wo Obe ?_
    refine Sc Opt ?_
    refine Ah ?_
    refine SN k14 ?_
    refine Rt ?_
    refine Pl0 ?_
    refine Pl3 ?_
    exact SK_ret1 rfl .hit (fun w hw => ⟨_, rfl, Q5, hw.ext⟩)
   refine Ci fun hs57 => ?_
   refine Wo Omo ?_
   refine Wo Obe ?_
   refine Wo Opf ?_
   refine Wo Omo ?_
   refine Sb ?_ ?_
   ·
    refine Ci fun hs61 => ?_
    refine Uo (Uo ?_)
    refine Wo Opu ?_
    refine Sc Opt ?_
    refine Mh ?_
    refine Wo (Ofa underlying32 sz3) ?_
    refine Wo (Ola oc3) ?_
    refine Wo Obe ?_
    refine Sc Opt ?_
    refine Ah ?_
    refine SN k14 ?_
    refine Rt ?_
    refine Pl0 ?_
    refine Pl3 ?_
    exact SK_ret1 rfl .hit (fun w hw => ⟨_, rfl, Q5, hw.ext⟩)
   refine Ci fun hs61 => ?_
   refine Wo Omo ?_
   refine Wo Obe ?_
   refine Wo Opf ?_
   refine Sc Opt ?_
   refine Mh ?_
   refine Sb ?_ ?_
   ·
    refine Ci fun hs66 => ?_
    refine Wo (Ofa underlying32 sz3) ?_
    refine Wo (Ola oc3) ?_
    refine Wo Obe ?_
    refine Sc Opt ?_
    refine Ah ?_
    refine SN k14 ?_
    refine Rt ?_
    refine Pl0 ?_
    refine Pl3 ?_
    exact SK_ret1 rfl .hit (fun w hw => ⟨_, rfl, Q5, hw.ext⟩)
   refine Ci fun hs66 => ?_
   refine Uo (Uo (Uo ?_))
   refine Sc Opg ?_
   refine Ah ?_
   refine SN k14 ?_
   refine Rt ?_
   refine Pl0 ?_
   refine Pl3 ?_
   exact SK_ret1 rfl .hit (fun w hw => ⟨_, rfl, Q5, hw.ext⟩)
  refine Ci fun hs50 => ?_
  refine Uo (Uo (Uo (Vo (Vo (Uo (Uo (Vo (Vo (Uo (Uo (Vo (Vo (Uo ?_)))))))))))))
  refine Sc Opg ?_
  refine Mh ?_
  refine Uo (Uo (Uo ?_))
  refine Sc Opg ?_
  refine Ah ?_
  refine SN k14 ?_
  refine Rt ?_
  refine Pl0 ?_
  refine Pl3 ?_
  exact SK_ret1 rfl .hit (fun w hw => ⟨_, rfl, Q5, hw.ext⟩)
 refine Ci fun hs23 => ?_
 refine SN k12 ?_
 refine Fh ?_
 refine Ek [22, 0, 3, 4] ?_
 refine SR fun _ k15 => ?_
 refine Sc Obe ?_
 refine Ah ?_
 refine Sb ?_ ?_
 ·
  refine Ci fun hs71 => ?_
  refine SN k15 ?_
  refine Th ?_
  refine Ek [3, 4] ?_
  refine SR fun _ k16 => ?_
  refine Sc (Ofa underlying32 sz3) ?_
  refine Sc (Ola oc3) ?_
  refine Sc Obe ?_
  refine Mh ?_
  refine Sb ?_ ?_
  ·
   refine Ci fun hs76 => ?_
   refine Uo (Uo (Uo ?_))
   refine Sc Opu ?_
   refine Mh ?_
   refine Uo (Uo (Uo ?_))
   refine Sc Opu ?_
   refine Mh ?_
   refine Uo (Uo (Uo ?_))
   refine Sc Opu ?_
   refine Mh ?_
   refine Wo (Ofa underlying32 sz3) ?_
   refine Wo (Ola oc3) ?_
   refine Wo Obe ?_
   refine Sc Opt ?_
   refine Ah ?_
   refine SN k16 ?_
   refine Rt ?_
   refine Pl0 ?_
   refine Pl3 ?_
   exact SK_ret1 rfl .hit (fun w hw => ⟨_, rfl, Q5, hw.ext⟩)
  refine Ci fun hs76 => ?_
  refine Wo (Ofa underlying32 sz3) ?_
  refine Wo (Ola oc3) ?_
  refine Wo Obe ?_
  refine Sc Opf ?_
  refine Mh ?_
  refine Sb ?_ ?_
  ·
   refine Ci fun hs81 => ?_
   refine Uo (Uo (Uo ?_))
   refine Sc Opu ?_
   refine Mh ?_
   refine Uo (Uo (Uo ?_))
   refine Sc Opu ?_
   refine Mh ?_
   refine Wo (Ofa underlying32 sz3) ?_
   refine Wo (Ola oc3) ?_
   refine Wo Obe ?_
   refine Sc Opt ?_
   refine Ah ?_
   refine SN k16 ?_
   refine Rt ?_
   refine Pl0 ?_
   refine Pl3 ?_
   exact SK_ret1 rfl .hit (fun w hw => ⟨_, rfl, Q5, hw.ext⟩)
  refine Ci fun hs81 => ?_
  refine Wo (Ofa underlying32 sz3) ?_
  refine Wo (Ola oc3) ?_
  refine Wo Obe ?_
  refine Sc Opf ?_
  refine Mh ?_
  refine Sb ?_ ?_
  ·
   refine Ci fun hs86 => ?_
   refine Uo (Uo (Uo ?_))
   refine Sc Opu ?_
   refine Mh ?_
   refine Wo (Ofa underlying32 sz3) ?_
   refine Wo (Ola oc3) ?_
   refine Wo Obe ?_
   refine Sc Opt ?_
   refine Ah ?_
   refine SN k16 ?_
   refine Rt ?_
   refine Pl0 ?_
   refine Pl3 ?_
   exact SK_ret1 rfl .hit (fun w hw => ⟨_, rfl, Q5, hw.ext⟩)
  refine Ci fun hs86 => ?_
  refine Wo (Ofa underlying32 sz3) ?_
  refine Wo (Ola oc3) ?_
  refine Wo Obe ?_
  refine Sc Opf ?_
  refine Mh ?_
  refine Sb ?_ ?_
  ·
   refine Ci fun hs91 => ?_
   refine Wo (Ofa underlying32 sz3) ?_
   refine Wo (Ola oc3) ?_
   refine Wo Obe ?_
   refine Sc Opt ?_
   refine Ah ?_
   refine SN k16 ?_
   refine Rt ?_
   refine Pl0 ?_
   refine Pl3 ?_
   exact SK_ret1 rfl .hit (fun w hw => ⟨_, rfl, Q5, hw.ext⟩)
  refine Ci fun hs91 => ?_
  refine Uo (Uo (Uo ?_))
  refine Sc Opg ?_
  refine Ah ?_
  refine SN k16 ?_
  refine Rt ?_
  refine Pl0 ?_
  refine Pl3 ?_
  exact SK_ret1 rfl .hit (fun w hw => ⟨_, rfl, Q5, hw.ext⟩)
 refine Ci fun hs71 => ?_
 refine SN k15 ?_
 refine Fh ?_
 refine Ek [22, 0, 3, 4] ?_
 refine Sq fun _ k17 => ?_
 refine SR fun _ k18 => ?_
 refine Sc Obe ?_
 refine Ah ?_
 refine Sb ?_ ?_
 ·
  refine Ci fun hs96 => ?_
  refine SN k18 ?_
  refine Th ?_
  refine SS k17 ?_
  refine Th ?_
  refine Ek [3, 4] ?_
  refine SR fun _ k19 => ?_
  refine Sc (Ofa underlying32 sz3) ?_
  refine Sc (Ola oc3) ?_
  refine Sc (O_binOp rfl (.tmp .hit) .const (fun _ => b_geq _ _ _ _ rfl)) ?_
  refine Mh ?_
  refine Sb ?_ ?_
  ·
   refine Ci fun hs102 => ?_
   refine Wo (Ofa underlying32 sz3) ?_
   refine Wo (Ola oc3) ?_
   refine Wo (O_binOp rfl (.tmp .hit) .const (fun _ => b_leq _ _ _ _ rfl)) ?_
   refine Sc Opt ?_
   refine Mh ?_
   refine Sb ?_ ?_
   ·
    refine Ci fun hs107 => ?_
    refine Wo (Ofa underlying32 sz3) ?_
    refine Wo (Ola oc3) ?_
    refine Wo Obe ?_
    refine Wo Omo ?_
    refine Sb ?_ ?_
    ·
     refine Ci fun hs111 => ?_
     refine Wo (Ofa underlying32 sz3) ?_
     refine Wo (Ola oc3) ?_
     refine Wo Obe ?_
     refine Wo Omo ?_
     refine Sb ?_ ?_
     ·
      refine Ci fun hs115 => ?_
      refine Uo (Uo (Uo ?_))
      refine Wo Opu ?_
      refine Wo Omo ?_
      refine Uo (Uo (Uo ?_))
      refine Wo Opu ?_
      refine Wo Opt ?_
      refine Wo Omo ?_
      refine Uo (Uo (Uo (Uo (Vo (Vo (Vo (Uo ?_)))))))
      refine Wo Opu ?_
      refine Sc Opt ?_
      refine Ah ?_
      refine SN k19 ?_
      refine Rt ?_
      refine Pl0 ?_
      refine Pl3 ?_
      exact SK_ret1 rfl .hit (fun w hw => ⟨_, rfl, Q5, hw.ext⟩)
     refine Ci fun hs115 => ?_
     refine Wo (Ofa underlying32 sz3) ?_
     refine Wo (Ola oc3) ?_
     refine Wo Obe ?_
     refine Wo Opf ?_
     refine Wo Omo ?_
     refine Sb ?_ ?_
     ·
      refine Ci fun hs120 => ?_
      refine Uo (Uo (Uo ?_))
      refine Wo Opu ?_
      refine Wo Opt ?_
      refine Wo Omo ?_
      refine Uo (Uo (Uo (Uo (Vo (Vo (Vo (Uo ?_)))))))
      refine Wo Opu ?_
      refine Sc Opt ?_
      refine Ah ?_
      refine SN k19 ?_
      refine Rt ?_
      refine Pl0 ?_
      refine Pl3 ?_
      exact SK_ret1 rfl .hit (fun w hw => ⟨_, rfl, Q5, hw.ext⟩)
     refine Ci fun hs120 => ?_
     refine Wo (Ofa underlying32 sz3) ?_
     refine Wo (Ola oc3) ?_
     refine Wo Obe ?_
     refine Wo Opf ?_
     refine Wo Opt ?_
     refine Wo Omo ?_
     refine Sb ?_ ?_
     ·
      refine Ci fun hs126 => ?_
      refine Uo (Uo (Uo (Uo (Vo (Vo (Vo (Uo ?_)))))))
      refine Wo Opu ?_
      refine Sc Opt ?_
      refine Ah ?_
      refine SN k19 ?_
      refine Rt ?_
      refine Pl0 ?_
      refine Pl3 ?_
      exact SK_ret1 rfl .hit (fun w hw => ⟨_, rfl, Q5, hw.ext⟩)
     refine Ci fun hs126 => ?_
     refine Wo (Ofa underlying32 sz3) ?_
     refine Wo (Ola oc3) ?_
     refine Wo Obe ?_
     refine Wo Omo ?_
     refine Sb ?_ ?_
     ·
      refine Ci fun hs130 => ?_
      refine Wo (Ofa underlying32 sz3) ?_
      refine Wo (Ola oc3) ?_
      refine Wo Obe ?_
      refine Wo Opt ?_
      refine Wo Opf ?_
      refine Sc Opt ?_
      refine Ah ?_
      refine SN k19 ?_
      refine Rt ?_
      refine Pl0 ?_
      refine Pl3 ?_
      exact SK_ret1 rfl .hit (fun w hw => ⟨_, rfl, Q5, hw.ext⟩)
     refine Ci fun hs130 => ?_
     refine Uo (Uo (Uo ?_))
     refine Wo Opg ?_
     refine Wo Opf ?_
     refine Sc Opt ?_
     refine Ah ?_
     refine SN k19 ?_
     refine Rt ?_
     refine Pl0 ?_
     refine Pl3 ?_
     exact SK_ret1 rfl .hit (fun w hw => ⟨_, rfl, Q5, hw.ext⟩)
    refine Ci fun hs111 => ?_
    refine Uo (Uo (Uo (Uo (Vo (Vo (Vo (Uo (Uo (Vo (Vo (Vo (Uo ?_))))))))))))
    refine Wo Opg ?_
    refine Wo Omo ?_
    refine Wo (Ofa underlying32 sz3) ?_
    refine Wo (Ola oc3) ?_
    refine Wo Obe ?_
    refine Wo Omo ?_
    refine Sb ?_ ?_
    ·
     refine Ci fun hs130 => ?_
     refine Wo (Ofa underlying32 sz3) ?_
     refine Wo (Ola oc3) ?_
     refine Wo Obe ?_
     refine Wo Opt ?_
     refine Wo Opf ?_
     refine Sc Opt ?_
     refine Ah ?_
     refine SN k19 ?_
     refine Rt ?_
     refine Pl0 ?_
     refine Pl3 ?_
     exact SK_ret1 rfl .hit (fun w hw => ⟨_, rfl, Q5, hw.ext⟩)
    refine Ci fun hs130 => ?_
    refine Uo (Uo (Uo ?_))
    refine Wo Opg ?_
    refine Wo Opf ?_
    refine Sc Opt ?_
    refine Ah ?_
    refine SN k19 ?_
    refine Rt ?_
    refine Pl0 ?_
    refine Pl3 ?_
    exact SK_ret1 rfl .hit (fun w hw => ⟨_, rfl, Q5, hw.ext⟩)
   refine Ci fun hs107 => ?_
   refine Uo (Uo (Uo (Uo (Vo (Vo (Vo (Vo (Vo (Vo (Vo (Vo (Vo (Vo (Vo (Vo (Vo (Uo (Uo (Vo (Vo (Vo (Vo (Vo (Vo (Vo (Vo (Uo ?_)))))))))))))))))))))))))))
   refine Sc Opg ?_
   refine Ah ?_
   refine SN k19 ?_
   refine Rt ?_
   refine Pl0 ?_
   refine Pl3 ?_
   exact SK_ret1 rfl .hit (fun w hw => ⟨_, rfl, Q5, hw.ext⟩)
  refine Ci fun hs102 => ?_
  refine Uo (Uo (Uo ?_))
  refine Sc Opg ?_
  refine Mh ?_
  refine Uo (Uo (Uo (Uo (Vo (Vo (Vo (Vo (Vo (Vo (Vo (Vo (Vo (Vo (Vo (Vo (Vo (Uo (Uo (Vo (Vo (Vo (Vo (Vo (Vo (Vo (Vo (Uo ?_)))))))))))))))))))))))))))
  refine Sc Opg ?_
  refine Ah ?_
  refine SN k19 ?_
  refine Rt ?_
  refine Pl0 ?_
  refine Pl3 ?_
  exact SK_ret1 rfl .hit (fun w hw => ⟨_, rfl, Q5, hw.ext⟩)
 refine Ci fun hs96 => ?_
 refine SN k18 ?_
 refine Fh ?_
 refine Sr ?_
 refine Sc Obe ?_
 refine Ah ?_
 refine Sb ?_ ?_
 ·
  refine Ci fun hs96 => ?_
  refine SN k17 ?_
  refine Th ?_
  refine Ek [3, 4] ?_
  refine SR fun _ k20 => ?_
  refine Sc (Ofa underlying32 sz3) ?_
  refine Sc (Ola oc3) ?_
  refine Sc (O_binOp rfl (.tmp .hit) .const (fun _ => b_geq _ _ _ _ rfl)) ?_
  refine Mh ?_
  refine Sb ?_ ?_
  ·
   refine Ci fun hs102 => ?_
   refine Wo (Ofa underlying32 sz3) ?_
   refine Wo (Ola oc3) ?_
   refine Wo (O_binOp rfl (.tmp .hit) .const (fun _ => b_leq _ _ _ _ rfl)) ?_
   refine Sc Opt ?_
   refine Mh ?_
   refine Sb ?_ ?_
   ·
    refine Ci fun hs107 => ?_
    refine Wo (Ofa underlying32 sz3) ?_
    refine Wo (Ola oc3) ?_
    refine Wo Obe ?_
    refine Wo Omo ?_
    refine Sb ?_ ?_
    ·
     refine Ci fun hs111 => ?_
     refine Wo (Ofa underlying32 sz3) ?_
     refine Wo (Ola oc3) ?_
     refine Wo Obe ?_
     refine Wo Omo ?_
     refine Sb ?_ ?_
     ·
      refine Ci fun hs115 => ?_
      refine Uo (Uo (Uo ?_))
      refine Wo Opu ?_
      refine Wo Omo ?_
      refine Uo (Uo (Uo ?_))
      refine Wo Opu ?_
      refine Wo Opt ?_
      refine Wo Omo ?_
      refine Uo (Uo (Uo (Uo (Vo (Vo (Vo (Uo ?_)))))))
      refine Wo Opu ?_
      refine Sc Opt ?_
      refine Ah ?_
      refine SN k20 ?_
      refine Rt ?_
      refine Pl0 ?_
      refine Pl3 ?_
      exact SK_ret1 rfl .hit (fun w hw => ⟨_, rfl, Q5, hw.ext⟩)
     refine Ci fun hs115 => ?_
     refine Wo (Ofa underlying32 sz3) ?_
     refine Wo (Ola oc3) ?_
     refine Wo Obe ?_
     refine Wo Opf ?_
     refine Wo Omo ?_
     refine Sb ?_ ?_
     ·
      refine Ci fun hs120 => ?_
      refine Uo (Uo (Uo ?_))
      refine Wo Opu ?_
      refine Wo Opt ?_
      refine Wo Omo ?_
      refine Uo (Uo (Uo (Uo (Vo (Vo (Vo (Uo ?_)))))))
      refine Wo Opu ?_
      refine Sc Opt ?_
      refine Ah ?_
      refine SN k20 ?_
      refine Rt ?_
      refine Pl0 ?_
      refine Pl3 ?_
      exact SK_ret1 rfl .hit (fun w hw => ⟨_, rfl, Q5, hw.ext⟩)
     refine Ci fun hs120 => ?_
     refine Wo (Ofa underlying32 sz3) ?_
     refine Wo (Ola oc3) ?_
     refine Wo Obe ?_
     refine Wo Opf ?_
     refine Wo Opt ?_
     refine Wo Omo ?_
     refine Sb ?_ ?_
     ·
      refine Ci fun hs126 => ?_
      refine Uo (Uo (Uo (Uo (Vo (Vo (Vo (Uo ?_)))))))
      refine Wo Opu ?_
      refine Sc Opt ?_
      refine Ah ?_
      refine SN k20 ?_
      refine Rt ?_
      refine Pl0 ?_
      refine Pl3 ?_
      exact SK_ret1 rfl .hit (fun w hw => ⟨_, rfl, Q5, hw.ext⟩)
     refine Ci fun hs126 => ?_
     refine Wo (Ofa underlying32 sz3) ?_
     refine Wo (Ola oc3) ?_
     refine Wo Obe ?_
     refine Wo Omo ?_
     refine Sb ?_ ?_
     ·
      refine Ci fun hs130 => ?_
      refine Wo (Ofa underlying32 sz3) ?_
      refine Wo (Ola oc3) ?_
      refine Wo Obe ?_
      refine Wo Opt ?_
      refine Wo Opf ?_
      refine Sc Opt ?_
      refine Ah ?_
      refine SN k20 ?_
      refine Rt ?_
      refine Pl0 ?_
      refine Pl3 ?_
      exact SK_ret1 rfl .hit (fun w hw => ⟨_, rfl, Q5, hw.ext⟩)
     refine Ci fun hs130 => ?_
     refine Uo (Uo (Uo ?_))
     refine Wo Opg ?_
     refine Wo Opf ?_
     refine Sc Opt ?_
     refine Ah ?_
     refine SN k20 ?_
     refine Rt ?_
     refine Pl0 ?_
     refine Pl3 ?_
     exact SK_ret1 rfl .hit (fun w hw => ⟨_, rfl, Q5, hw.ext⟩)
    refine Ci fun hs111 => ?_
    refine Uo (Uo (Uo (Uo (Vo (Vo (Vo (Uo (Uo (Vo (Vo (Vo (Uo ?_))))))))))))
    refine Wo Opg ?_
    refine Wo Omo ?_
    refine Wo (Ofa underlying32 sz3) ?_
    refine Wo (Ola oc3) ?_
    refine Wo Obe ?_
    refine Wo Omo ?_
    refine Sb ?_ ?_
    ·
     refine Ci fun hs130 => ?_
     refine Wo (Ofa underlying32 sz3) ?_
     refine Wo (Ola oc3) ?_
     refine Wo Obe ?_
     refine Wo Opt ?_
     refine Wo Opf ?_
     refine Sc Opt ?_
     refine Ah ?_
     refine SN k20 ?_
     refine Rt ?_
     refine Pl0 ?_
     refine Pl3 ?_
     exact SK_ret1 rfl .hit (fun w hw => ⟨_, rfl, Q5, hw.ext⟩)
    refine Ci fun hs130 => ?_
    refine Uo (Uo (Uo ?_))
    refine Wo Opg ?_
    refine Wo Opf ?_
    refine Sc Opt ?_
    refine Ah ?_
    refine SN k20 ?_
    refine Rt ?_
    refine Pl0 ?_
    refine Pl3 ?_
    exact SK_ret1 rfl .hit (fun w hw => ⟨_, rfl, Q5, hw.ext⟩)
   refine Ci fun hs107 => ?_
   refine Uo (Uo (Uo (Uo (Vo (Vo (Vo (Vo (Vo (Vo (Vo (Vo (Vo (Vo (Vo (Vo (Vo (Uo (Uo (Vo (Vo (Vo (Vo (Vo (Vo (Vo (Vo (Uo ?_)))))))))))))))))))))))))))
   refine Sc Opg ?_
   refine Ah ?_
   refine SN k20 ?_
   refine Rt ?_
   refine Pl0 ?_
   refine Pl3 ?_
   exact SK_ret1 rfl .hit (fun w hw => ⟨_, rfl, Q5, hw.ext⟩)
  refine Ci fun hs102 => ?_
  refine Uo (Uo (Uo ?_))
  refine Sc Opg ?_
  refine Mh ?_
  refine Uo (Uo (Uo (Uo (Vo (Vo (Vo (Vo (Vo (Vo (Vo (Vo (Vo (Vo (Vo (Vo (Vo (Uo (Uo (Vo (Vo (Vo (Vo (Vo (Vo (Vo (Vo (Uo ?_)))))))))))))))))))))))))))
  refine Sc Opg ?_
  refine Ah ?_
  refine SN k20 ?_
  refine Rt ?_
  refine Pl0 ?_
  refine Pl3 ?_
  exact SK_ret1 rfl .hit (fun w hw => ⟨_, rfl, Q5, hw.ext⟩)
 refine Ci fun hs96 => ?_
 refine SN k17 ?_
 refine Fh ?_
 refine Ek [22, 0, 3, 4] ?_
 refine SR fun _ k21 => ?_
 refine Sc Obe ?_
 refine Ah ?_
 refine Sb ?_ ?_
 ·
  refine Ci fun hs137 => ?_
  refine SN k21 ?_
  refine Th ?_
  refine Ek [3, 4] ?_
  refine SR fun _ k22 => ?_
  refine Sc (Ofa underlying32 sz3) ?_
  refine Sc (Ola oc3) ?_
  refine Sc (O_binOp rfl (.tmp .hit) .const (fun _ => b_geq _ _ _ _ rfl)) ?_
  refine Mh ?_
  refine Sb ?_ ?_
  ·
   refine Ci fun hs142 => ?_
   refine Wo (Ofa underlying32 sz3) ?_
   refine Wo (Ola oc3) ?_
   refine Wo (O_binOp rfl (.tmp .hit) .const (fun _ => b_leq _ _ _ _ rfl)) ?_
   refine Sc Opt ?_
   refine Ah ?_
   refine SN k22 ?_
   refine Rt ?_
   refine Pl0 ?_
   refine Pl3 ?_
   exact SK_ret1 rfl .hit (fun w hw => ⟨_, rfl, Q5, hw.ext⟩)
  refine Ci fun hs142 => ?_
  refine Uo (Uo (Uo ?_))
  refine Sc Opg ?_
  refine Ah ?_
  refine SN k22 ?_
  refine Rt ?_
  refine Pl0 ?_
  refine Pl3 ?_
  exact SK_ret1 rfl .hit (fun w hw => ⟨_, rfl, Q5, hw.ext⟩)
 refine Ci fun hs137 => ?_
 refine SN k21 ?_
 refine Fh ?_
 refine Ek [22, 0, 3, 4] ?_
 refine SR fun _ k23 => ?_
 refine Sc Obe ?_
 refine Ah ?_
 refine Sb ?_ ?_
 ·
  refine Ci fun hs147 => ?_
  refine SN k23 ?_
  refine Th ?_
  refine Ek [0, 3, 4] ?_
  refine SR fun _ k24 => ?_
  refine Sc (Ofa underlying32 sz3) ?_
  refine Sc (Ola oc3) ?_
  refine Sc (O_binOp rfl (.tmp .hit) .const (fun _ => b_geq _ _ _ _ rfl)) ?_
  refine Mh ?_
  refine Sb ?_ ?_
  ·
   refine Ci fun hs152 => ?_
   refine Wo (Ofa underlying32 sz3) ?_
   refine Wo (Ola oc3) ?_
   refine Wo (O_binOp rfl (.tmp .hit) .const (fun _ => b_leq _ _ _ _ rfl)) ?_
   refine Sc Opt ?_
   refine Mh ?_
   refine Sb ?_ ?_
   ·
    refine Ci fun hs157 => ?_
    refine Wo Omo ?_
    refine Wo (Ofa underlying32 sz3) ?_
    refine Wo (Ola oc3) ?_
    refine Wo (O_callE (xs := [.tmp 158, .tmp 160]) (cap := []) rfl .func (.cons (.tmp (.o rfl)) (.cons (.tmp .hit) .nil)) func44 rfl rfl (fun w1 hw => f44_ok p cap ts _ om w1 (hT.ext hw.ext))) ?_
    refine Wo Obe ?_
    refine Sc Opt ?_
    refine Ah ?_
    refine SN k24 ?_
    refine Rt ?_
    refine Pl0 ?_
    refine Pl3 ?_
    exact SK_ret1 rfl .hit (fun w hw => ⟨_, rfl, Q5, hw.ext⟩)
   refine Ci fun hs157 => ?_
   refine Uo (Uo (Uo (Uo (Uo ?_))))
   refine Sc Opg ?_
   refine Ah ?_
   refine SN k24 ?_
   refine Rt ?_
   refine Pl0 ?_
   refine Pl3 ?_
   exact SK_ret1 rfl .hit (fun w hw => ⟨_, rfl, Q5, hw.ext⟩)
  refine Ci fun hs152 => ?_
  refine Uo (Uo (Uo ?_))
  refine Sc Opg ?_
  refine Mh ?_
  refine Uo (Uo (Uo (Uo (Uo ?_))))
  refine Sc Opg ?_
  refine Ah ?_
  refine SN k24 ?_
  refine Rt ?_
  refine Pl0 ?_
  refine Pl3 ?_
  exact SK_ret1 rfl .hit (fun w hw => ⟨_, rfl, Q5, hw.ext⟩)
 refine Ci fun hs147 => ?_
 refine SN k23 ?_
 refine Fh ?_
 refine Ek [22, 0, 3, 4] ?_
 refine SR fun _ k25 => ?_
 refine Sc Obe ?_
 refine Ah ?_
 refine Sb ?_ ?_
 ·
  refine Ci fun hs164 => ?_
  refine SN k25 ?_
  refine Th ?_
  refine Ek [3, 4] ?_
  refine SR fun _ k26 => ?_
  refine Sc (Ofa underlying32 sz3) ?_
  refine Sc (Ola oc3) ?_
  refine Sc (O_binOp rfl (.tmp .hit) .const (fun _ => b_geq _ _ _ _ rfl)) ?_
  refine Mh ?_
  refine Sb ?_ ?_
  ·
   refine Ci fun hs169 => ?_
   refine Wo (Ofa underlying32 sz3) ?_
   refine Wo (Ola oc3) ?_
   refine Wo (O_binOp rfl (.tmp .hit) .const (fun _ => b_leq _ _ _ _ rfl)) ?_
   refine Sc Opt ?_
   refine Ah ?_
   refine SN k26 ?_
   refine Rt ?_
   refine Pl0 ?_
   refine Pl3 ?_
   exact SK_ret1 rfl .hit (fun w hw => ⟨_, rfl, Q5, hw.ext⟩)
  refine Ci fun hs169 => ?_
  refine Uo (Uo (Uo ?_))
  refine Sc Opg ?_
  refine Ah ?_
  refine SN k26 ?_
  refine Rt ?_
  refine Pl0 ?_
  refine Pl3 ?_
  exact SK_ret1 rfl .hit (fun w hw => ⟨_, rfl, Q5, hw.ext⟩)
 refine Ci fun hs164 => ?_
 refine SN k25 ?_
 refine Fh ?_
 refine Ek [22, 0, 3, 4] ?_
 refine SR fun _ k27 => ?_
 refine Sc Obe ?_
 refine Ah ?_
 refine Sb ?_ ?_
 ·
  refine Ci fun hs174 => ?_
  refine SN k27 ?_
  refine Th ?_
  refine Ek [0, 3, 4] ?_
  refine SR fun _ k28 => ?_
  refine Sc (Ofa underlying32 sz3) ?_
  refine Sc (Ola oc3) ?_
  refine Sc Obe ?_
  refine Mh ?_
  refine Sb ?_ ?_
  ·
   refine Ci fun hs179 => ?_
   refine Wo Omo ?_
   refine Wo (Ofa underlying32 sz3) ?_
   refine Wo (Ola oc3) ?_
   refine Wo (O_callE (xs := [.tmp 180, .tmp 182]) (cap := []) rfl .func (.cons (.tmp (.o rfl)) (.cons (.tmp .hit) .nil)) func44 rfl rfl (fun w1 hw => f44_ok p cap ts _ om w1 (hT.ext hw.ext))) ?_
   refine Wo Obe ?_
   refine Sc Opt ?_
   refine Ah ?_
   refine SN k28 ?_
   refine Rt ?_
   refine Pl0 ?_
   refine Pl3 ?_
   exact SK_ret1 rfl .hit (fun w hw => ⟨_, rfl, Q5, hw.ext⟩)
  refine Ci fun hs179 => ?_
  refine Uo (Uo (Uo (Uo (Uo ?_))))
  refine Sc Opg ?_
  refine Ah ?_
  refine SN k28 ?_
  refine Rt ?_
  refine Pl0 ?_
  refine Pl3 ?_
  exact SK_ret1 rfl .hit (fun w hw => ⟨_, rfl, Q5, hw.ext⟩)
 refine Ci fun hs174 => ?_
 refine SN k27 ?_
 refine Fh ?_
 refine SS k10 ?_
 refine Ek [3, 4] ?_
 refine SR fun _ k29 => ?_
 refine Sc (Ofa underlying32 sz3) ?_
 refine Sc (Ola oc3) ?_
 refine Sc Obe ?_
 refine Ah ?_
 refine SN k29 ?_
 refine Rt ?_
 refine Pl3 ?_
 exact SK_ret1 rfl .hit (fun w hw => ⟨_, rfl, Q5, hw.ext⟩)
end
end Go.Proofs.YtoibhfpagkdleaaGreatDoor
