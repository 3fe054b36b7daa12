/-
  CONTRACT: a type is told.
-/
import Derived.Test.YtoibhfpagkdleaaGreatDoorGu
namespace Go.Proofs.YtoibhfpagkdleaaGreatDoor
section
open Go
open Tryz
set_option maxRecDepth 100000

theorem td13_ok {C : Cx} {B : List Nat} {x : St} {sp sc : Nat} {w : World} (hN : C.Num B x sp sc w) (hb30 : C.N ≤ 30) {i b3 b4 b : Nat} {E : TypeId} {Q : Exit → Act → World → Prop} (hkd : C.kd i = 13) {v : Value} (hr : C.Ref x.M (C.sz i) v) {vs : List Value} {g cap : Nat} {cur : List Value} (hok : RowOk 2 (some ⟨g, cap, cur⟩) (C.vl i) (C.paramsD i (C.vl i) vs)) (hg : w.heap[g]? = some (.cells cur.toArray 146 (0, 0))) (hv8 : C.vl i ≤ 8) (hvs : vs.length = C.vl i) (rv : ∀ j v, vs[j]? = some v → C.Ref x.M (C.ex i (2 * j + 1)) v) (hcell : w.heap[b]? = some (.cells [v, .slice (some ⟨g, 0, none⟩) (C.vl i) cap].toArray E (0, 0)))
    (J : ∀ row : Option Row, RowOk 5 row (C.tp i).mems.length ((C.tp i).mems.flatMap cellsM) → SK noS w 378 [] ((b4, true, .cells (cellsT (C.tp i) (rowV row (C.tp i).mems.length)).toArray 32 (0, 0)) :: (rowH 64 row ++ [])) [(4, .pointer (some ⟨b4, 0, none⟩))] (Q .ret)) :
    SW none Tryz.prog noS w 378 [] [(b4, true, .cells #[.int .i64 0, .string ⟨#[]⟩, .int .i64 0, .int .i64 0, .int .i64 0, .int .i64 0, .int .i64 0, .slice none 0 0] 32 (0, 0)), (b3, true, .cells #[.func (.func 15) #[] #[.pointer (some ⟨sc, 0, none⟩)]] 52 (0, 0))] [(247, .pointer (some ⟨b, 0, none⟩)), (3, .pointer (some ⟨b3, 0, none⟩)), (4, .pointer (some ⟨b4, 0, none⟩))] (sub [1, 1, 0, 1, 0, 1, 1, 1, 1, 1, 1, 1, 1, 1, 1, 1, 1, 1, 1, 1, 1, 1, 1, 1, 1, 1, 1, 1, 1, 1, 0] (cd Tryz.f14)) Q := by
 have htp : C.tp i = ⟨13, ⟨#[]⟩, 0, 0, 0, ((C.sz i : Nat) : Int), 0, (List.range (C.vl i)).map (C.mem i)⟩ := by unfold Cx.tp; simp [hkd]
 rw [htp] at J
 refine SR fun _ k1 => ?_
 refine Ah ?_
 refine SN k1 ?_
 refine Ek [21, 3, 4] ?_
 refine Sq fun _ k2 => ?_
 refine SW_da mixed ?_
 refine Yl 0 oc52 ?_
 refine Ym 1 ?_
 refine Yn 2 ?_
 refine Yf 3 underlying144 sz47 ?_
 refine Y1 4 251 rfl rfl (fun e H he hH => O_load0 rfl (Eh he) oc47 (fun h => h) (cell_of_obj hcell rfl)) ?_
 refine DA_step2 5 7 kr kr ?_ ?_
 ·
  refine Cand.mk (j := 5) [(248, _), (252, _)] (β := Unit) (good := fun _ => True) (val := fun _ => _) (Hf := fun _ => _) rfl (.cons (t := 248) (.o rfl) (.cons (t := 252) .hit .nil)) (fun e he => O_callE (xs := [.tmp 252]) (cap := [.pointer (some ⟨sc, 0, none⟩)]) rfl (.tmp (he.get .hit)) (.cons (.tmp (he.get (.o rfl))) .nil) func15 rfl rfl (fun w1 hw => f15_ok (hN.ext hw.ext) hr hb30)) (fun _ _ h => h () trivial) kr (fun _ _ => ⟨⟨.inl kr, .inr .nil, .inr .nil, .inr .nil, .inl kr, trivial⟩, ?_⟩)
  refine Y1 6 253 rfl rfl (fun e H he hH => O_build (pv := [(0, _), (5, _)]) (r := .agg #[.int .i64 13, .string ⟨#[]⟩, .int .i64 (0), .int .i64 (0), .int .i64 (0), .int .i64 (((C.sz i : Nat) : Int)), .int .i64 (0), .slice none 0 0]) rfl (.cons .const (.cons (Eh he) .nil)) (fun w => run_build w _ _ _ Q13)) ?_
  refine Ys 7 ?_
  refine Cand.mk (j := 7) [] rfl .nil (fun e he => O_alloc rfl zr32 rfl) (fun _ _ h => h) kr ?_
  intro bk22 _
  refine ⟨⟨.inr .nil, .inr .nil, .inr .nil, .inr .nil, trivial⟩, ?_⟩
  refine Ys 8 ?_
  refine Cand.mk (j := 8) [(22, _), (254, _)] (β := Unit) (good := fun _ => True) (val := fun _ => undef) (Hf := fun _ => _) rfl (.cons (t := 22) .hit (.cons (t := 254) (.o rfl) .nil)) (fun e he => O_storeA (vs := [_, _, _, _, _, _, _, _]) (.tmp (he.get .hit)) (.tmp (he.get (.o rfl))) rfl sz32 rfl .a dc rfl) (fun _ _ h => h () trivial) kr (fun _ _ => ⟨⟨.inl kr, .inl kr, .inl kr, .inl kr, trivial⟩, ?_⟩)
  refine Ye ?_
  refine So k2 ?_
  refine Ek [22, 21, 3, 4] ?_
  refine Sq fun _ k3 => ?_
  refine SR fun _ k4 => ?_
  refine Mo ?_
  refine Sc (O_nilCheck rfl (.tmp .hit)) ?_
  refine Sc (Ofa underlying144 sz142) ?_
  refine Sc (O_load0 rfl (.tmp .hit) oc142 (fun h => h) (cell_of_obj hcell rfl)) ?_
  refine Sc (O_lenSlice rfl (.tmp .hit) underlying142 rfl) ?_
  refine Mc ?_
  refine SN k4 ?_
  refine Bl ?_
  refine SW_loop (α := Nat × Option Row) (fun x1 => x1.1 ≤ C.vl i ∧ RowOk 5 x1.2 x1.1 (C.memsM i x1.1)) (fun x1 => C.vl i - x1.1) (fun x1 => (b4, true, .cells #[.int .i64 0, .string ⟨#[]⟩, .int .i64 0, .int .i64 0, .int .i64 0, .int .i64 0, .int .i64 0, .slice none 0 0] 32 (0, 0)) :: (b3, true, .cells #[.func (.func 15) #[] #[.pointer (some ⟨sc, 0, none⟩)]] 52 (0, 0)) :: (bk22, true, .cells [.int .i64 13, .string ⟨#[]⟩, .int .i64 (0), .int .i64 (0), .int .i64 (0), .int .i64 (((C.sz i : Nat) : Int)), .int .i64 (0), rowV x1.2 x1.1].toArray 32 (0, 0)) :: (rowH 64 x1.2 ++ [])) (fun x1 => [(260, .int .i64 (x1.1 : Nat)), (259, .int .i64 (C.vl i : Nat)), (258, .slice (some ⟨g, 0, none⟩) (C.vl i) cap), (22, .pointer (some ⟨bk22, 0, none⟩)), (3, .pointer (some ⟨b3, 0, none⟩)), (4, .pointer (some ⟨b4, 0, none⟩))]) (0, none) ⟨Nat.zero_le _, rfl, rfl⟩ (.cons (t := 260) .hit (.cons (t := 259) (.o rfl) (.cons (t := 258) (.o rfl) (.cons (t := 22) (.o rfl) (.cons (t := 3) (.o rfl) (.cons (t := 4) (.o rfl) .nil)))))) .a ?_
  rintro ⟨k, r⟩ ⟨hk, hr⟩
  dsimp only at hk hr ⊢
  refine SR fun _ k5 => ?_
  refine Sc (O_binOp rfl (.tmp .hit) (.tmp (.o rfl)) (fun _ => b_lss _ _ _ _ rfl)) ?_
  refine SN k5 ?_
  refine Sq fun _ k6 => ?_
  refine Sd ?_ ?_
  ·
   refine Ci fun ht261 => ?_
   have hlt : k < C.vl i := by omega
   obtain ⟨v1, hv⟩ : ∃ v, vs[k]? = some v := ⟨_, List.getElem?_eq_getElem om⟩
   have hrv := rv k v1 hv
   have hgd : vs.getD k undef = v1 := by rw [List.getD_eq_getElem?_getD, hv]; rfl
   have hv1 := hrv.one
   refine SS k6 ?_
   refine Ek [260, 259, 258, 22, 3, 4] ?_
   refine Sq fun _ k7 => ?_
   refine Bl ?_
   refine SR fun _ k8 => ?_
   refine Sc (O_indexAddr rfl (.tmp (.o rfl)) (.tmp .hit) underlying142 sz146 oz oz) ?_
   refine Sc (O_loadA0 (vs := C.paramD i k v1) rfl (.tmp .hit) underlying146 sz146 rfl (fun h => h) (fun q u hu => row_at (f := fun j => C.paramD i j (vs.getD j undef)) hok (fun _ => rfl) hg hlt Q22 q u (by show (C.paramD i k (vs.getD k undef))[q]? = some u; rw [hgd]; exact hu))) ?_
   refine Sc (O_alloc rfl zr146 rfl) ?_
   intro bk24 _
   refine Sc (O_storeA (vs := C.paramD i k v1) (.tmp .hit) (.tmp (.o rfl)) (by simp only [Cx.paramD, List.all_cons, List.all_nil, hv1]; rfl) sz146 rfl .a dc rfl) ?_
   refine SN k8 ?_
   refine SW_da mixed ?_
   refine Yf 0 underlying32 sz30 ?_
   refine Yl 1 oc30 ?_
   refine Yf 2 underlying146 sz9 ?_
   refine Yl 3 oc9 ?_
   refine Yl 4 oc52 ?_
   refine Yf 5 underlying146 sz47 ?_
   refine Yl 6 oc47 ?_
   refine Y2 7 268 270 rfl rfl rfl (fun e H he hH => O_callE (xs := [.tmp 270]) (cap := [.pointer (some ⟨sc, 0, none⟩)]) rfl (Eh he) (.cons (Eo he) .nil) func15 rfl rfl (fun w1 hw => f15_ok (hN.ext hw.ext) hrv hb30)) ?_
   refine Y2 8 267 271 rfl rfl rfl (fun e H he hH => O_build (pv := [(0, _), (1, _)]) (r := .agg #[_, _, .int .i64 0, .int .i64 0, .int .i64 0]) rfl (.cons (Eh he) (.cons (Eo he) .nil)) (fun w => run_build w _ _ _ Q13)) ?_
   refine Ys 9 ?_
   refine Cand.mk (j := 9) [(272, _)] rfl (.cons (t := 272) .hit .nil) (fun e he => O_buildSlice1 rfl (.tmp (he.get .hit)) underlying30 sz64 zr64 rfl rfl dc dc) (fun _ _ h => h) kr ?_
   intro bk273 _
   refine ⟨⟨.inl kr, .inr .nil, .inr (.cons .a .nil), .inr .nil, .inr (.cons .a .nil), .inr (.cons .a .nil), .inr .nil, .inr (.cons .a .nil), .inr .nil, trivial⟩, ?_⟩
   refine Ys 10 ?_
   refine Cand.mk (j := 10) [(265, _), (273, _)] rfl (.cons (t := 265) (.o rfl) (.cons (t := 273) .hit .nil)) (fun e he => O_appendO (r := r) (k := k) rfl (.tmp (he.get .hit)) (.tmp (he.get (.o rfl))) rfl underlying30 inf64 rfl dc .a hr .a rfl rfl om Q16 om) (fun _ _ h => h) kr ?_
   intro r274 h274
   have hrn : RowOk 5 (some r274) (k + 1) (C.memsM i (k + 1)) := h274.eq rfl (by rw [Cx.memsM_snoc]; rw [Cx.mem, if_neg om, if_neg om, if_pos hkd]; rfl)
   refine ⟨⟨.inl kr, .inr (.cons .a .nil), .inr .nil, .inr (.cons .a .nil), .inr (.cons .a .nil), .inr .nil, .inl kr, .inr .nil, trivial⟩, ?_⟩
   refine Yf 11 underlying32 sz30 ?_
   refine Ys 12 ?_
   refine Cand.mk (j := 12) [(274, _), (275, _)] (β := Unit) (good := fun _ => True) (val := fun _ => undef) (Hf := fun _ => _) rfl (.cons (t := 274) (.o rfl) (.cons (t := 275) .hit .nil)) (fun e he => O_store (.tmp (he.get (.o rfl))) (.tmp (he.get .hit)) rfl sz30 .a .a) (fun _ _ h => h () trivial) kr (fun _ _ => ⟨⟨.inl kr, .inl kr, .inl kr, .inl kr, .inl kr, .inl kr, .inl kr, trivial⟩, ?_⟩)
   refine Ye ?_
   refine So k7 ?_
   refine Sr ?_
   refine Sc (O_binOp rfl (.tmp (.o rfl)) .const (fun _ => b_add _ _ _ rfl oz oz)) ?_
   refine Mh ?_
   refine Sn ?_
   refine Pl1 ?_
   exact fun _ _ ha hw => ⟨(k + 1, some r274), Q23, ⟨hlt, hrn⟩, ha.weaken .a, hw.weaken .a⟩
  refine Ci fun ht261 => ?_
  have hke : k = C.vl i := by omega
  subst hke
  refine Xt ?_
  refine So k3 ?_
  refine Ek [22, 4] ?_
  refine SR fun _ k9 => ?_
  refine Sc (O_loadA rfl (.tmp .hit) underlying32 sz32 .a rfl) ?_
  refine Sc (O_storeA (vs := [_, _, _, _, _, _, _, _]) (.tmp (.o rfl)) (.tmp .hit) Q20 sz32 rfl .a dc rfl) ?_
  refine SN k9 ?_
  refine Rt ?_
  refine Pl3 ?_
  exact (J r Q35).weaken (Ek1 rfl) Q28
 refine Cand.mk (j := 7) [] rfl .nil (fun e he => O_alloc rfl zr32 rfl) (fun _ _ h => h) kr ?_
 intro bk22 _
 refine ⟨⟨.inr .nil, .inr .nil, .inr .nil, .inr .nil, .inr (.cons .a .nil), trivial⟩, ?_⟩
 refine Ys 5 ?_
 refine Cand.mk (j := 5) [(248, _), (252, _)] (β := Unit) (good := fun _ => True) (val := fun _ => _) (Hf := fun _ => _) rfl (.cons (t := 248) (.o rfl) (.cons (t := 252) (.o rfl) .nil)) (fun e he => O_callE (xs := [.tmp 252]) (cap := [.pointer (some ⟨sc, 0, none⟩)]) rfl (.tmp (he.get .hit)) (.cons (.tmp (he.get (.o rfl))) .nil) func15 rfl rfl (fun w1 hw => f15_ok (hN.ext hw.ext) hr hb30)) (fun _ _ h => h () trivial) kr (fun _ _ => ⟨⟨.inl kr, .inr .nil, .inr .nil, .inr .nil, .inl kr, trivial⟩, ?_⟩)
 refine Y1 6 253 rfl rfl (fun e H he hH => O_build (pv := [(0, _), (5, _)]) (r := .agg #[.int .i64 13, .string ⟨#[]⟩, .int .i64 (0), .int .i64 (0), .int .i64 (0), .int .i64 (((C.sz i : Nat) : Int)), .int .i64 (0), .slice none 0 0]) rfl (.cons .const (.cons (Eh he) .nil)) (fun w => run_build w _ _ _ Q13)) ?_
 refine Ys 8 ?_
 refine Cand.mk (j := 8) [(22, _), (254, _)] (β := Unit) (good := fun _ => True) (val := fun _ => undef) (Hf := fun _ => _) rfl (.cons (t := 22) (.o rfl) (.cons (t := 254) .hit .nil)) (fun e he => O_storeA (vs := [_, _, _, _, _, _, _, _]) (.tmp (he.get .hit)) (.tmp (he.get (.o rfl))) rfl sz32 rfl .a dc rfl) (fun _ _ h => h () trivial) kr (fun _ _ => ⟨⟨.inl kr, .inl kr, .inl kr, .inl kr, trivial⟩, ?_⟩)
 refine Ye ?_
 refine So k2 ?_
 refine Ek [22, 21, 3, 4] ?_
 refine Sq fun _ k10 => ?_
 refine SR fun _ k11 => ?_
 refine Mo ?_
 refine Sc (O_nilCheck rfl (.tmp .hit)) ?_
 refine Sc (Ofa underlying144 sz142) ?_
 refine Sc (O_load0 rfl (.tmp .hit) oc142 (fun h => h) (cell_of_obj hcell rfl)) ?_
 refine Sc (O_lenSlice rfl (.tmp .hit) underlying142 rfl) ?_
 refine Mc ?_
 refine SN k11 ?_
 refine Bl ?_
 refine SW_loop (α := Nat × Option Row) (fun x1 => x1.1 ≤ C.vl i ∧ RowOk 5 x1.2 x1.1 (C.memsM i x1.1)) (fun x1 => C.vl i - x1.1) (fun x1 => (b4, true, .cells #[.int .i64 0, .string ⟨#[]⟩, .int .i64 0, .int .i64 0, .int .i64 0, .int .i64 0, .int .i64 0, .slice none 0 0] 32 (0, 0)) :: (b3, true, .cells #[.func (.func 15) #[] #[.pointer (some ⟨sc, 0, none⟩)]] 52 (0, 0)) :: (bk22, true, .cells [.int .i64 13, .string ⟨#[]⟩, .int .i64 (0), .int .i64 (0), .int .i64 (0), .int .i64 (((C.sz i : Nat) : Int)), .int .i64 (0), rowV x1.2 x1.1].toArray 32 (0, 0)) :: (rowH 64 x1.2 ++ [])) (fun x1 => [(260, .int .i64 (x1.1 : Nat)), (259, .int .i64 (C.vl i : Nat)), (258, .slice (some ⟨g, 0, none⟩) (C.vl i) cap), (22, .pointer (some ⟨bk22, 0, none⟩)), (3, .pointer (some ⟨b3, 0, none⟩)), (4, .pointer (some ⟨b4, 0, none⟩))]) (0, none) ⟨Nat.zero_le _, rfl, rfl⟩ (.cons (t := 260) .hit (.cons (t := 259) (.o rfl) (.cons (t := 258) (.o rfl) (.cons (t := 22) (.o rfl) (.cons (t := 3) (.o rfl) (.cons (t := 4) (.o rfl) .nil)))))) .a ?_
 rintro ⟨k, r⟩ ⟨hk, hr⟩
 dsimp only at hk hr ⊢
 refine SR fun _ k12 => ?_
 refine Sc (O_binOp rfl (.tmp .hit) (.tmp (.o rfl)) (fun _ => b_lss _ _ _ _ rfl)) ?_
 refine SN k12 ?_
 refine Sq fun _ k13 => ?_
 refine Sd ?_ ?_
 ·
  refine Ci fun ht261 => ?_
  have hlt : k < C.vl i := by omega
  obtain ⟨v1, hv⟩ : ∃ v, vs[k]? = some v := ⟨_, List.getElem?_eq_getElem om⟩
  have hrv := rv k v1 hv
  have hgd : vs.getD k undef = v1 := by rw [List.getD_eq_getElem?_getD, hv]; rfl
  have hv1 := hrv.one
  refine SS k13 ?_
  refine Ek [260, 259, 258, 22, 3, 4] ?_
  refine Sq fun _ k14 => ?_
  refine Bl ?_
  refine SR fun _ k15 => ?_
  refine Sc (O_indexAddr rfl (.tmp (.o rfl)) (.tmp .hit) underlying142 sz146 oz oz) ?_
  refine Sc (O_loadA0 (vs := C.paramD i k v1) rfl (.tmp .hit) underlying146 sz146 rfl (fun h => h) (fun q u hu => row_at (f := fun j => C.paramD i j (vs.getD j undef)) hok (fun _ => rfl) hg hlt Q22 q u (by show (C.paramD i k (vs.getD k undef))[q]? = some u; rw [hgd]; exact hu))) ?_
  refine Sc (O_alloc rfl zr146 rfl) ?_
  intro bk24 _
  refine Sc (O_storeA (vs := C.paramD i k v1) (.tmp .hit) (.tmp (.o rfl)) (by simp only [Cx.paramD, List.all_cons, List.all_nil, hv1]; rfl) sz146 rfl .a dc rfl) ?_
  refine SN k15 ?_
  refine SW_da mixed ?_
  refine Yf 0 underlying32 sz30 ?_
  refine Yl 1 oc30 ?_
  refine Yf 2 underlying146 sz9 ?_
  refine Yl 3 oc9 ?_
  refine Yl 4 oc52 ?_
  refine Yf 5 underlying146 sz47 ?_
  refine Yl 6 oc47 ?_
  refine Y2 7 268 270 rfl rfl rfl (fun e H he hH => O_callE (xs := [.tmp 270]) (cap := [.pointer (some ⟨sc, 0, none⟩)]) rfl (Eh he) (.cons (Eo he) .nil) func15 rfl rfl (fun w1 hw => f15_ok (hN.ext hw.ext) hrv hb30)) ?_
  refine Y2 8 267 271 rfl rfl rfl (fun e H he hH => O_build (pv := [(0, _), (1, _)]) (r := .agg #[_, _, .int .i64 0, .int .i64 0, .int .i64 0]) rfl (.cons (Eh he) (.cons (Eo he) .nil)) (fun w => run_build w _ _ _ Q13)) ?_
  refine Ys 9 ?_
  refine Cand.mk (j := 9) [(272, _)] rfl (.cons (t := 272) .hit .nil) (fun e he => O_buildSlice1 rfl (.tmp (he.get .hit)) underlying30 sz64 zr64 rfl rfl dc dc) (fun _ _ h => h) kr ?_
  intro bk273 _
  refine ⟨⟨.inl kr, .inr .nil, .inr (.cons .a .nil), .inr .nil, .inr (.cons .a .nil), .inr (.cons .a .nil), .inr .nil, .inr (.cons .a .nil), .inr .nil, trivial⟩, ?_⟩
  refine Ys 10 ?_
  refine Cand.mk (j := 10) [(265, _), (273, _)] rfl (.cons (t := 265) (.o rfl) (.cons (t := 273) .hit .nil)) (fun e he => O_appendO (r := r) (k := k) rfl (.tmp (he.get .hit)) (.tmp (he.get (.o rfl))) rfl underlying30 inf64 rfl dc .a hr .a rfl rfl om Q16 om) (fun _ _ h => h) kr ?_
  intro r274 h274
  have hrn : RowOk 5 (some r274) (k + 1) (C.memsM i (k + 1)) := h274.eq rfl (by rw [Cx.memsM_snoc]; rw [Cx.mem, if_neg om, if_neg om, if_pos hkd]; rfl)
  refine ⟨⟨.inl kr, .inr (.cons .a .nil), .inr .nil, .inr (.cons .a .nil), .inr (.cons .a .nil), .inr .nil, .inl kr, .inr .nil, trivial⟩, ?_⟩
  refine Yf 11 underlying32 sz30 ?_
  refine Ys 12 ?_
  refine Cand.mk (j := 12) [(274, _), (275, _)] (β := Unit) (good := fun _ => True) (val := fun _ => undef) (Hf := fun _ => _) rfl (.cons (t := 274) (.o rfl) (.cons (t := 275) .hit .nil)) (fun e he => O_store (.tmp (he.get (.o rfl))) (.tmp (he.get .hit)) rfl sz30 .a .a) (fun _ _ h => h () trivial) kr (fun _ _ => ⟨⟨.inl kr, .inl kr, .inl kr, .inl kr, .inl kr, .inl kr, .inl kr, trivial⟩, ?_⟩)
  refine Ye ?_
  refine So k14 ?_
  refine Sr ?_
  refine Sc (O_binOp rfl (.tmp (.o rfl)) .const (fun _ => b_add _ _ _ rfl oz oz)) ?_
  refine Mh ?_
  refine Sn ?_
  refine Pl1 ?_
  exact fun _ _ ha hw => ⟨(k + 1, some r274), Q23, ⟨hlt, hrn⟩, ha.weaken .a, hw.weaken .a⟩
 refine Ci fun ht261 => ?_
 have hke : k = C.vl i := by omega
 subst hke
 refine Xt ?_
 refine So k10 ?_
 refine Ek [22, 4] ?_
 refine SR fun _ k16 => ?_
 refine Sc (O_loadA rfl (.tmp .hit) underlying32 sz32 .a rfl) ?_
 refine Sc (O_storeA (vs := [_, _, _, _, _, _, _, _]) (.tmp (.o rfl)) (.tmp .hit) Q20 sz32 rfl .a dc rfl) ?_
 refine SN k16 ?_
 refine Rt ?_
 refine Pl3 ?_
 exact (J r Q35).weaken (Ek1 rfl) Q28

theorem td15_ok {C : Cx} {B : List Nat} {x : St} {sp sc : Nat} {w : World} (hN : C.Num B x sp sc w) (hb30 : C.N ≤ 30) {i b3 b4 b : Nat} {E : TypeId} {Q : Exit → Act → World → Prop} (hkd : C.kd i = 15) (hsz : C.sz i < 4294967296) (hx32 : ∀ j, j < C.vl i → C.ex i (3 * j + 1) < 4294967296 ∧ C.ex i (3 * j + 2) < 4294967296) {vs : List Value} {g cap : Nat} {cur : List Value} (hok : RowOk 3 (some ⟨g, cap, cur⟩) (C.vl i) (C.secsD i (C.vl i) vs)) (hg : w.heap[g]? = some (.cells cur.toArray 156 (0, 0))) (hv8 : C.vl i ≤ 8) (hvs : vs.length = C.vl i) (rv : ∀ j v, vs[j]? = some v → C.Ref x.M (C.ex i (3 * j)) v) (hcell : w.heap[b]? = some (.cells [C.sv (C.nm i), .int .u32 (C.sz i : Nat), .slice (some ⟨g, 0, none⟩) (C.vl i) cap].toArray E (0, 0)))
    (J : ∀ row : Option Row, RowOk 5 row (C.tp i).mems.length ((C.tp i).mems.flatMap cellsM) → SK noS w 378 [] ((b4, true, .cells (cellsT (C.tp i) (rowV row (C.tp i).mems.length)).toArray 32 (0, 0)) :: (rowH 64 row ++ [])) [(4, .pointer (some ⟨b4, 0, none⟩))] (Q .ret)) :
    SW none Tryz.prog noS w 378 [] [(b4, true, .cells #[.int .i64 0, .string ⟨#[]⟩, .int .i64 0, .int .i64 0, .int .i64 0, .int .i64 0, .int .i64 0, .slice none 0 0] 32 (0, 0)), (b3, true, .cells #[.func (.func 15) #[] #[.pointer (some ⟨sc, 0, none⟩)]] 52 (0, 0))] [(298, .pointer (some ⟨b, 0, none⟩)), (3, .pointer (some ⟨b3, 0, none⟩)), (4, .pointer (some ⟨b4, 0, none⟩))] (sub [1, 1, 0, 1, 0, 1, 1, 1, 1, 1, 1, 1, 1, 1, 1, 1, 1, 1, 1, 1, 1, 1, 1, 1, 1, 1, 1, 1, 1, 1, 1, 1, 1, 1, 0] (cd Tryz.f14)) Q := by
 have htp : C.tp i = ⟨15, (C.nam (C.nm i)), ((C.sz i : Nat) : Int), 0, 0, 0, 0, (List.range (C.vl i)).map (C.mem i)⟩ := by unfold Cx.tp; simp [hkd]
 rw [htp] at J
 refine SR fun _ k1 => ?_
 refine Ah ?_
 refine SN k1 ?_
 refine Ek [26, 3, 4] ?_
 refine Sq fun _ k2 => ?_
 refine SW_da mixed ?_
 refine Ym 0 ?_
 refine Yn 1 ?_
 refine Yf 2 underlying154 sz9 ?_
 refine Y1 3 301 rfl rfl (fun e H he hH => O_load0 rfl (Eh he) oc9 (fun h => h) (cell_of_obj hcell rfl)) ?_
 refine Ym 4 ?_
 refine Yn 5 ?_
 refine Yf 6 underlying154 sz73 ?_
 refine Y1 7 305 rfl rfl (fun e H he hH => O_load0 rfl (Eh he) oc73 (fun h => h) (cell_of_obj hcell rfl)) ?_
 refine Y1 8 306 rfl rfl (fun e H he hH => O_convert rfl (Eh he) (r := .int .i64 ((C.sz i : Nat) : Int)) (fun _ => c_int ⟨_, underlying73⟩ underlying3 (wrap_i64n _ om))) ?_
 refine Y2 9 302 307 rfl rfl rfl (fun e H he hH => O_build (pv := [(0, _), (1, _), (2, _)]) (r := .agg #[.int .i64 15, .string (C.nam (C.nm i)), .int .i64 (((C.sz i : Nat) : Int)), .int .i64 (0), .int .i64 (0), .int .i64 (0), .int .i64 (0), .slice none 0 0]) rfl (.cons .const (.cons (Eh he) (.cons (Eo he) .nil))) (fun w => run_build w _ _ _ Q13)) ?_
 refine Ys 10 ?_
 refine Cand.mk (j := 10) [] rfl .nil (fun e he => O_alloc rfl zr32 rfl) (fun _ _ h => h) kr ?_
 intro bk27 _
 refine ⟨⟨.inr .nil, .inr .nil, .inr .nil, .inr .nil, .inr .nil, .inr .nil, .inr .nil, .inr .nil, .inr .nil, .inr .nil, trivial⟩, ?_⟩
 refine Ys 11 ?_
 refine Cand.mk (j := 11) [(27, _), (308, _)] (β := Unit) (good := fun _ => True) (val := fun _ => undef) (Hf := fun _ => _) rfl (.cons (t := 27) .hit (.cons (t := 308) (.o rfl) .nil)) (fun e he => O_storeA (vs := [_, _, _, _, _, _, _, _]) (.tmp (he.get .hit)) (.tmp (he.get (.o rfl))) rfl sz32 rfl .a dc rfl) (fun _ _ h => h () trivial) kr (fun _ _ => ⟨⟨.inl kr, .inl kr, .inl kr, .inl kr, .inl kr, .inl kr, .inl kr, .inl kr, .inl kr, .inl kr, trivial⟩, ?_⟩)
 refine Ye ?_
 refine So k2 ?_
 refine Ek [27, 26, 3, 4] ?_
 refine Sq fun _ k3 => ?_
 refine SR fun _ k4 => ?_
 refine Mo ?_
 refine Sc (O_nilCheck rfl (.tmp .hit)) ?_
 refine Sc (Ofa underlying154 sz152) ?_
 refine Sc (O_load0 rfl (.tmp .hit) oc152 (fun h => h) (cell_of_obj hcell rfl)) ?_
 refine Sc (O_lenSlice rfl (.tmp .hit) underlying152 rfl) ?_
 refine Mc ?_
 refine SN k4 ?_
 refine Bl ?_
 refine SW_loop (α := Nat × Option Row) (fun x1 => x1.1 ≤ C.vl i ∧ RowOk 5 x1.2 x1.1 (C.memsM i x1.1)) (fun x1 => C.vl i - x1.1) (fun x1 => (b4, true, .cells #[.int .i64 0, .string ⟨#[]⟩, .int .i64 0, .int .i64 0, .int .i64 0, .int .i64 0, .int .i64 0, .slice none 0 0] 32 (0, 0)) :: (b3, true, .cells #[.func (.func 15) #[] #[.pointer (some ⟨sc, 0, none⟩)]] 52 (0, 0)) :: (bk27, true, .cells [.int .i64 15, .string (C.nam (C.nm i)), .int .i64 (((C.sz i : Nat) : Int)), .int .i64 (0), .int .i64 (0), .int .i64 (0), .int .i64 (0), rowV x1.2 x1.1].toArray 32 (0, 0)) :: (rowH 64 x1.2 ++ [])) (fun x1 => [(314, .int .i64 (x1.1 : Nat)), (313, .int .i64 (C.vl i : Nat)), (312, .slice (some ⟨g, 0, none⟩) (C.vl i) cap), (27, .pointer (some ⟨bk27, 0, none⟩)), (3, .pointer (some ⟨b3, 0, none⟩)), (4, .pointer (some ⟨b4, 0, none⟩))]) (0, none) ⟨Nat.zero_le _, rfl, rfl⟩ (.cons (t := 314) .hit (.cons (t := 313) (.o rfl) (.cons (t := 312) (.o rfl) (.cons (t := 27) (.o rfl) (.cons (t := 3) (.o rfl) (.cons (t := 4) (.o rfl) .nil)))))) .a ?_
 rintro ⟨k, r⟩ ⟨hk, hr⟩
 dsimp only at hk hr ⊢
 refine SR fun _ k5 => ?_
 refine Sc (O_binOp rfl (.tmp .hit) (.tmp (.o rfl)) (fun _ => b_lss _ _ _ _ rfl)) ?_
 refine SN k5 ?_
 refine Sq fun _ k6 => ?_
 refine Sd ?_ ?_
 ·
  refine Ci fun ht315 => ?_
  have hlt : k < C.vl i := by omega
  obtain ⟨v1, hv⟩ : ∃ v, vs[k]? = some v := ⟨_, List.getElem?_eq_getElem om⟩
  have hrv := rv k v1 hv
  have hgd : vs.getD k undef = v1 := by rw [List.getD_eq_getElem?_getD, hv]; rfl
  have hv1 := hrv.one
  obtain ⟨hx1, hx2⟩ := hx32 k hlt
  refine SS k6 ?_
  refine Ek [314, 313, 312, 27, 3, 4] ?_
  refine Sq fun _ k7 => ?_
  refine Bl ?_
  refine SR fun _ k8 => ?_
  refine Sc (O_indexAddr rfl (.tmp (.o rfl)) (.tmp .hit) underlying152 sz156 oz oz) ?_
  refine Sc (O_loadA0 (vs := C.secD i k v1) rfl (.tmp .hit) underlying156 sz156 rfl (fun h => h) (fun q u hu => row_at (f := fun j => C.secD i j (vs.getD j undef)) hok (fun _ => rfl) hg hlt Q22 q u (by show (C.secD i k (vs.getD k undef))[q]? = some u; rw [hgd]; exact hu))) ?_
  refine Sc (O_alloc rfl zr156 rfl) ?_
  intro bk29 _
  refine Sc (O_storeA (vs := C.secD i k v1) (.tmp .hit) (.tmp (.o rfl)) (by simp only [Cx.secD, List.all_cons, List.all_nil, hv1]; rfl) sz156 rfl .a dc rfl) ?_
  refine SN k8 ?_
  refine SW_da mixed ?_
  refine Yf 0 underlying32 sz30 ?_
  refine Yl 1 oc30 ?_
  refine Yl 2 oc52 ?_
  refine Yf 3 underlying156 sz47 ?_
  refine Yl 4 oc47 ?_
  refine Y2 5 320 322 rfl rfl rfl (fun e H he hH => O_callE (xs := [.tmp 322]) (cap := [.pointer (some ⟨sc, 0, none⟩)]) rfl (Eh he) (.cons (Eo he) .nil) func15 rfl rfl (fun w1 hw => f15_ok (hN.ext hw.ext) hrv hb30)) ?_
  refine Yf 6 underlying156 sz73 ?_
  refine Yl 7 oc73 ?_
  refine Y1 8 325 rfl rfl (fun e H he hH => O_convert rfl (Eh he) (r := .int .i64 ((C.ex i (3 * k + 1) : Nat) : Int)) (fun _ => c_int ⟨_, underlying73⟩ underlying3 (wrap_i64n _ om))) ?_
  refine Yf 9 underlying156 sz73 ?_
  refine Yl 10 oc73 ?_
  refine Y1 11 328 rfl rfl (fun e H he hH => O_convert rfl (Eh he) (r := .int .i64 ((C.ex i (3 * k + 2) : Nat) : Int)) (fun _ => c_int ⟨_, underlying73⟩ underlying3 (wrap_i64n _ om))) ?_
  refine Y3 12 323 326 329 rfl rfl rfl rfl (fun e H he hH => O_build (pv := [(1, _), (2, _), (3, _)]) (r := .agg #[.string ⟨#[]⟩, _, _, _, .int .i64 0]) rfl (.cons (Eh he) (.cons (Eo he) (.cons (Eo he) .nil))) (fun w => run_build w _ _ _ Q13)) ?_
  refine Ys 13 ?_
  refine Cand.mk (j := 13) [(330, _)] rfl (.cons (t := 330) .hit .nil) (fun e he => O_buildSlice1 rfl (.tmp (he.get .hit)) underlying30 sz64 zr64 rfl rfl dc dc) (fun _ _ h => h) kr ?_
  intro bk331 _
  refine ⟨⟨.inl kr, .inr .nil, .inr (.cons .a .nil), .inr .nil, .inr .nil, .inr (.cons .a .nil), .inr .nil, .inr .nil, .inr (.cons .a .nil), .inr .nil, .inr (.cons .a .nil), .inr (.cons .a .nil), .inr .nil, trivial⟩, ?_⟩
  refine Ys 14 ?_
  refine Cand.mk (j := 14) [(319, _), (331, _)] rfl (.cons (t := 319) (.o rfl) (.cons (t := 331) .hit .nil)) (fun e he => O_appendO (r := r) (k := k) rfl (.tmp (he.get .hit)) (.tmp (he.get (.o rfl))) rfl underlying30 inf64 rfl dc .a hr .a rfl rfl om Q16 om) (fun _ _ h => h) kr ?_
  intro r332 h332
  have hrn : RowOk 5 (some r332) (k + 1) (C.memsM i (k + 1)) := h332.eq rfl (by rw [Cx.memsM_snoc]; rw [Cx.mem, if_neg om, if_neg om, if_neg om]; rfl)
  refine ⟨⟨.inr .nil, .inr (.cons .a .nil), .inr .nil, .inr .nil, .inr (.cons .a .nil), .inr .nil, .inl kr, .inr (.cons .a .nil), .inr .nil, .inr (.cons .a .nil), .inl kr, .inr .nil, trivial⟩, ?_⟩
  refine Yf 15 underlying32 sz30 ?_
  refine Ys 16 ?_
  refine Cand.mk (j := 16) [(332, _), (333, _)] (β := Unit) (good := fun _ => True) (val := fun _ => undef) (Hf := fun _ => _) rfl (.cons (t := 332) (.o rfl) (.cons (t := 333) .hit .nil)) (fun e he => O_store (.tmp (he.get (.o rfl))) (.tmp (he.get .hit)) rfl sz30 .a .a) (fun _ _ h => h () trivial) kr (fun _ _ => ⟨⟨.inl kr, .inl kr, .inl kr, .inl kr, .inl kr, .inl kr, .inl kr, .inl kr, .inl kr, .inl kr, .inl kr, trivial⟩, ?_⟩)
  refine Ye ?_
  refine So k7 ?_
  refine Sr ?_
  refine Sc (O_binOp rfl (.tmp (.o rfl)) .const (fun _ => b_add _ _ _ rfl oz oz)) ?_
  refine Mh ?_
  refine Sn ?_
  refine Pl1 ?_
  exact fun _ _ ha hw => ⟨(k + 1, some r332), Q23, ⟨hlt, hrn⟩, ha.weaken .a, hw.weaken .a⟩
 refine Ci fun ht315 => ?_
 have hke : k = C.vl i := by omega
 subst hke
 refine Xt ?_
 refine So k3 ?_
 refine Ek [27, 4] ?_
 refine SR fun _ k9 => ?_
 refine Sc (O_loadA rfl (.tmp .hit) underlying32 sz32 .a rfl) ?_
 refine Sc (O_storeA (vs := [_, _, _, _, _, _, _, _]) (.tmp (.o rfl)) (.tmp .hit) Q20 sz32 rfl .a dc rfl) ?_
 refine SN k9 ?_
 refine Rt ?_
 refine Pl3 ?_
 exact (J r Q35).weaken (Ek1 rfl) Q28

theorem td6_ok {C : Cx} {sc : Nat} {w : World} {i b3 b4 b : Nat} {E : TypeId} {Q : Exit → Act → World → Prop} (hkd : C.kd i = 6 ∨ C.kd i = 19) (hsz : C.sz i < 4294967296) {g cap : Nat} {cur : List Value} (hok : RowOk 2 (some ⟨g, cap, cur⟩) (C.vl i) (C.enumsD i (C.vl i))) (hg : w.heap[g]? = some (.cells cur.toArray 121 (0, 0))) (hv8 : C.vl i ≤ 8) (hcell : w.heap[b]? = some (.cells [C.sv (C.nm i), .int .u32 (C.sz i : Nat), .bool (((C.fl i : Nat) : Int) == 1), .slice (some ⟨g, 0, none⟩) (C.vl i) cap].toArray E (0, 0)))
    (J : ∀ row : Option Row, RowOk 5 row (C.tp i).mems.length ((C.tp i).mems.flatMap cellsM) → SK noS w 378 [] ((b4, true, .cells (cellsT (C.tp i) (rowV row (C.tp i).mems.length)).toArray 32 (0, 0)) :: (rowH 64 row ++ [])) [(4, .pointer (some ⟨b4, 0, none⟩))] (Q .ret)) :
    SW none Tryz.prog noS w 378 [] [(b4, true, .cells #[.int .i64 0, .string ⟨#[]⟩, .int .i64 0, .int .i64 0, .int .i64 0, .int .i64 0, .int .i64 0, .slice none 0 0] 32 (0, 0)), (b3, true, .cells #[.func (.func 15) #[] #[.pointer (some ⟨sc, 0, none⟩)]] 52 (0, 0))] [(127, .pointer (some ⟨b, 0, none⟩)), (4, .pointer (some ⟨b4, 0, none⟩))] (sub [1, 1, 0, 1, 0, 1, 1, 1, 1, 1, 1, 1, 1, 1, 1, 1, 0] (cd Tryz.f14)) Q := by
 have htp : C.tp i = ⟨(if C.sz i = 8 then 19 else 6), (C.nam (C.nm i)), ((C.sz i : Nat) : Int), 0, ((C.fl i : Nat) : Int), 0, 0, (List.range (C.vl i)).map (C.mem i)⟩ := by unfold Cx.tp; rcases hkd with h | h <;> simp [h]
 rw [htp] at J
 refine SR fun _ k1 => ?_
 refine Ah ?_
 refine SN k1 ?_
 refine Ek [11, 4] ?_
 refine Sq fun _ k2 => ?_
 refine SW_da mixed ?_
 refine Ym 0 ?_
 refine Yn 1 ?_
 refine Yf 2 underlying119 sz9 ?_
 refine Y1 3 130 rfl rfl (fun e H he hH => O_load0 rfl (Eh he) oc9 (fun h => h) (cell_of_obj hcell rfl)) ?_
 refine Ym 4 ?_
 refine Yn 5 ?_
 refine Yf 6 underlying119 sz73 ?_
 refine Y1 7 134 rfl rfl (fun e H he hH => O_load0 rfl (Eh he) oc73 (fun h => h) (cell_of_obj hcell rfl)) ?_
 refine Y1 8 135 rfl rfl (fun e H he hH => O_convert rfl (Eh he) (r := .int .i64 ((C.sz i : Nat) : Int)) (fun _ => c_int ⟨_, underlying73⟩ underlying3 (wrap_i64n _ om))) ?_
 refine Y2 9 131 136 rfl rfl rfl (fun e H he hH => O_build (pv := [(0, _), (1, _), (2, _)]) (r := .agg #[.int .i64 6, .string (C.nam (C.nm i)), .int .i64 (((C.sz i : Nat) : Int)), .int .i64 (0), .int .i64 (0), .int .i64 (0), .int .i64 (0), .slice none 0 0]) rfl (.cons .const (.cons (Eh he) (.cons (Eo he) .nil))) (fun w => run_build w _ _ _ Q13)) ?_
 refine Ys 10 ?_
 refine Cand.mk (j := 10) [] rfl .nil (fun e he => O_alloc rfl zr32 rfl) (fun _ _ h => h) kr ?_
 intro bk12 _
 refine ⟨⟨.inr .nil, .inr .nil, .inr .nil, .inr .nil, .inr .nil, .inr .nil, .inr .nil, .inr .nil, .inr .nil, .inr .nil, trivial⟩, ?_⟩
 refine Ys 11 ?_
 refine Cand.mk (j := 11) [(12, _), (137, _)] (β := Unit) (good := fun _ => True) (val := fun _ => undef) (Hf := fun _ => _) rfl (.cons (t := 12) .hit (.cons (t := 137) (.o rfl) .nil)) (fun e he => O_storeA (vs := [_, _, _, _, _, _, _, _]) (.tmp (he.get .hit)) (.tmp (he.get (.o rfl))) rfl sz32 rfl .a dc rfl) (fun _ _ h => h () trivial) kr (fun _ _ => ⟨⟨.inl kr, .inl kr, .inl kr, .inl kr, .inl kr, .inl kr, .inl kr, .inl kr, .inl kr, .inl kr, trivial⟩, ?_⟩)
 refine Ye ?_
 refine So k2 ?_
 refine Ek [12, 11, 4] ?_
 refine Sq fun _ k3 => ?_
 refine SR fun _ k4 => ?_
 refine Mo ?_
 refine Sc (O_nilCheck rfl (.tmp .hit)) ?_
 refine Sc (Ofa underlying119 sz73) ?_
 refine Sc (O_load0 rfl (.tmp .hit) oc73 (fun h => h) (cell_of_obj hcell rfl)) ?_
 refine Sc Obe ?_
 refine SN k4 ?_
 refine SW_join (α := Int) (fun x => x = (if C.sz i = 8 then 19 else 6)) (fun x => [(b4, true, .cells #[.int .i64 0, .string ⟨#[]⟩, .int .i64 0, .int .i64 0, .int .i64 0, .int .i64 0, .int .i64 0, .slice none 0 0] 32 (0, 0)), (b3, true, .cells #[.func (.func 15) #[] #[.pointer (some ⟨sc, 0, none⟩)]] 52 (0, 0)), (bk12, true, .cells [.int .i64 x, .string (C.nam (C.nm i)), .int .i64 ((C.sz i : Nat) : Int), .int .i64 0, .int .i64 0, .int .i64 0, .int .i64 0, .slice none 0 0].toArray 32 (0, 0))]) (fun x => [(11, .pointer (some ⟨b, 0, none⟩)), (12, .pointer (some ⟨bk12, 0, none⟩)), (4, .pointer (some ⟨b4, 0, none⟩))]) (fun x hx => ?_) (fun J142 => ?_)
 ·
  subst hx
  refine So k3 ?_
  refine Sq fun _ k5 => ?_
  refine SR fun _ k6 => ?_
  refine Mh ?_
  refine Sc (O_nilCheck rfl (.tmp .hit)) ?_
  refine Sc (Ofa underlying119 sz4) ?_
  refine Sc (O_load0 rfl (.tmp .hit) oc4 (fun h => h) (cell_of_obj hcell rfl)) ?_
  refine SN k6 ?_
  refine SW_join (α := Int) (fun x => x = ((C.fl i : Nat) : Int)) (fun x => [(b4, true, .cells #[.int .i64 0, .string ⟨#[]⟩, .int .i64 0, .int .i64 0, .int .i64 0, .int .i64 0, .int .i64 0, .slice none 0 0] 32 (0, 0)), (b3, true, .cells #[.func (.func 15) #[] #[.pointer (some ⟨sc, 0, none⟩)]] 52 (0, 0)), (bk12, true, .cells [.int .i64 (if C.sz i = 8 then 19 else 6), .string (C.nam (C.nm i)), .int .i64 ((C.sz i : Nat) : Int), .int .i64 0, .int .i64 x, .int .i64 0, .int .i64 0, .slice none 0 0].toArray 32 (0, 0))]) (fun x => [(11, .pointer (some ⟨b, 0, none⟩)), (12, .pointer (some ⟨bk12, 0, none⟩)), (4, .pointer (some ⟨b4, 0, none⟩))]) (fun x hx => ?_) (fun J147 => ?_)
  ·
   subst hx
   refine So k5 ?_
   refine Sq fun _ k7 => ?_
   refine SR fun _ k8 => ?_
   refine Mh ?_
   refine Sc (O_nilCheck rfl (.tmp .hit)) ?_
   refine Sc (Ofa underlying119 sz117) ?_
   refine Sc (O_load0 rfl (.tmp .hit) oc117 (fun h => h) (cell_of_obj hcell rfl)) ?_
   refine Sc (O_lenSlice rfl (.tmp .hit) underlying117 rfl) ?_
   refine Mc ?_
   refine SN k8 ?_
   refine Bl ?_
   refine SW_loop (α := Nat × Option Row) (fun x1 => x1.1 ≤ C.vl i ∧ RowOk 5 x1.2 x1.1 (C.memsM i x1.1)) (fun x1 => C.vl i - x1.1) (fun x1 => (b4, true, .cells #[.int .i64 0, .string ⟨#[]⟩, .int .i64 0, .int .i64 0, .int .i64 0, .int .i64 0, .int .i64 0, .slice none 0 0] 32 (0, 0)) :: (b3, true, .cells #[.func (.func 15) #[] #[.pointer (some ⟨sc, 0, none⟩)]] 52 (0, 0)) :: (bk12, true, .cells [.int .i64 ((if C.sz i = 8 then 19 else 6)), .string (C.nam (C.nm i)), .int .i64 (((C.sz i : Nat) : Int)), .int .i64 (0), .int .i64 (((C.fl i : Nat) : Int)), .int .i64 (0), .int .i64 (0), rowV x1.2 x1.1].toArray 32 (0, 0)) :: (rowH 64 x1.2 ++ [])) (fun x1 => [(154, .int .i64 (x1.1 : Nat)), (153, .int .i64 (C.vl i : Nat)), (152, .slice (some ⟨g, 0, none⟩) (C.vl i) cap), (12, .pointer (some ⟨bk12, 0, none⟩)), (4, .pointer (some ⟨b4, 0, none⟩))]) (0, none) ⟨Nat.zero_le _, rfl, rfl⟩ (.cons (t := 154) .hit (.cons (t := 153) (.o rfl) (.cons (t := 152) (.o rfl) (.cons (t := 12) (.o rfl) (.cons (t := 4) (.o rfl) .nil))))) .a ?_
   rintro ⟨k, r⟩ ⟨hk, hr⟩
   dsimp only at hk hr ⊢
   refine SR fun _ k9 => ?_
   refine Sc (O_binOp rfl (.tmp .hit) (.tmp (.o rfl)) (fun _ => b_lss _ _ _ _ rfl)) ?_
   refine SN k9 ?_
   refine Sq fun _ k10 => ?_
   refine Sd ?_ ?_
   ·
    refine Ci fun ht155 => ?_
    have hlt : k < C.vl i := by omega
    refine SS k10 ?_
    refine Ek [154, 153, 152, 12, 4] ?_
    refine Sq fun _ k11 => ?_
    refine Bl ?_
    refine SR fun _ k12 => ?_
    refine Sc (O_indexAddr rfl (.tmp (.o rfl)) (.tmp .hit) underlying117 sz121 oz oz) ?_
    refine Sc (O_loadA0 (vs := C.enumD i k) rfl (.tmp .hit) underlying121 sz121 rfl (fun h => h) (fun q u hu => row_at (f := C.enumD i) hok (fun _ => rfl) hg hlt Q22 q u (by exact hu))) ?_
    refine Sc (O_alloc rfl zr121 rfl) ?_
    intro bk14 _
    refine Sc (O_storeA (vs := C.enumD i k) (.tmp .hit) (.tmp (.o rfl)) rfl sz121 rfl .a dc rfl) ?_
    refine SN k12 ?_
    refine Sr ?_
    refine Sc (Ofa underlying32 sz30) ?_
    refine Sc (Ola oc30) ?_
    refine Sc (Ofa underlying121 sz9) ?_
    refine Sc (Ola oc9) ?_
    refine Sc (Ofa underlying121 sz57) ?_
    refine Sc (Ola oc57) ?_
    refine Sc (O_convert rfl (.tmp .hit) (r := .int .i64 (IntKind.i64.wrap ((C.enumV i k : Nat) : Int))) (fun _ => c_int ⟨_, underlying57⟩ underlying2 rfl)) ?_
    refine Sc (O_build (pv := [(0, _), (4, _)]) (r := .agg #[_, .int .i64 0, .int .i64 0, .int .i64 0, _]) rfl (.cons (.tmp (.o rfl)) (.cons (.tmp .hit) .nil)) (fun w => run_build w _ _ _ Q13)) ?_
    refine Sc (O_buildSlice1 rfl (.tmp .hit) underlying30 sz64 zr64 rfl rfl dc dc) ?_
    intro bk166 _
    refine Sc (O_appendO (r := r) (k := k) rfl (.tmp (.o rfl)) (.tmp .hit) rfl underlying30 inf64 rfl dc .a hr .a rfl rfl om Q16 om) ?_
    intro r167 h167
    have hrn : RowOk 5 (some r167) (k + 1) (C.memsM i (k + 1)) := h167.eq rfl (by rw [Cx.memsM_snoc]; rw [Cx.mem, if_neg om, if_pos hkd]; rfl)
    refine Sc (Ofa underlying32 sz30) ?_
    refine Sc (O_store (.tmp .hit) (.tmp (.o rfl)) rfl sz30 .a .a) ?_
    refine SN k11 ?_
    refine Sr ?_
    refine Sc (O_binOp rfl (.tmp (.o rfl)) .const (fun _ => b_add _ _ _ rfl oz oz)) ?_
    refine Mh ?_
    refine Sn ?_
    refine Pl1 ?_
    exact fun _ _ ha hw => ⟨(k + 1, some r167), Q23, ⟨hlt, hrn⟩, ha.weaken .a, hw.weaken .a⟩
   refine Ci fun ht155 => ?_
   have hke : k = C.vl i := by omega
   subst hke
   refine Xt ?_
   refine So k7 ?_
   refine Ek [12, 4] ?_
   refine SR fun _ k13 => ?_
   refine Sc (O_loadA rfl (.tmp .hit) underlying32 sz32 .a rfl) ?_
   refine Sc (O_storeA (vs := [_, _, _, _, _, _, _, _]) (.tmp (.o rfl)) (.tmp .hit) Q20 sz32 rfl .a dc rfl) ?_
   refine SN k13 ?_
   refine Rt ?_
   refine Pl3 ?_
   exact (J r Q35).weaken (Ek1 rfl) Q28
  refine Sd ?_ ?_
  ·
   refine Ci fun ht147 => ?_
   refine Sr ?_
   refine Sc (Ofa underlying32 sz3) ?_
   refine Sc (O_store (.tmp .hit) .const rfl sz3 .a .a) ?_
   refine Sn ?_
   refine Pl5 ?_
   exact fun _ _ ha hw => J147 1 om _ _ (ha.weaken .a) (hw.weaken .a)
  refine Ci fun ht147 => ?_
  refine Ss ?_
  refine Pl5 ?_
  exact fun _ _ ha hw => J147 0 (by have : C.fl i < 2 := Nat.mod_lt _ dc; omega) _ _ (ha.weaken (Ek3 rfl rfl rfl)) (hw.weaken .a)
 refine Sd ?_ ?_
 ·
  refine Ci fun ht142 => ?_
  refine Sr ?_
  refine Sc (Ofa underlying32 sz3) ?_
  refine Sc (O_store (.tmp .hit) .const rfl sz3 .a .a) ?_
  refine Sn ?_
  refine Pl5 ?_
  exact fun _ _ ha hw => J142 19 (by rw [if_pos om]) _ _ (ha.weaken .a) (hw.weaken .a)
 refine Ci fun ht142 => ?_
 refine Ss ?_
 refine Pl5 ?_
 exact fun _ _ ha hw => J142 6 (by rw [if_neg om]) _ _ (ha.weaken .a) (hw.weaken .a)

theorem Cx.DoneC.inv1 {C : Cx} {M : List (Nat × Nat)} {U : List (Nat × List Value × Nat)} {i : Nat} {cs : List Value} (hk : C.kd i = 1) (h : C.DoneC M U i cs) : cs = [C.sv (C.nm i), .int .u32 (C.sz i : Nat), .int .u8 (C.ex i 0 / 2 ^ 24 % 2 ^ 4 : Nat)] := by
  cases h with
  | int _ e => exact e
  | _ => exfalso; omega
theorem Cx.DoneC.inv2 {C : Cx} {M : List (Nat × Nat)} {U : List (Nat × List Value × Nat)} {i : Nat} {cs : List Value} (hk : C.kd i = 2 ∨ C.kd i = 9 ∨ C.kd i = 10 ∨ C.kd i = 11) (h : C.DoneC M U i cs) : ∃ v, C.Ref M (C.sz i) v ∧ cs = [v] := by
  cases h with
  | ptr _ r e => exact ⟨_, r, e⟩
  | _ => exfalso; omega
theorem Cx.DoneC.inv3 {C : Cx} {M : List (Nat × Nat)} {U : List (Nat × List Value × Nat)} {i : Nat} {cs : List Value} (hk : C.kd i = 3) (h : C.DoneC M U i cs) : ∃ u v, C.Ref M (C.ex i 1) u ∧ C.Ref M (C.ex i 0) v ∧ cs = [u, v, .int .u32 (C.ex i 2 : Nat)] := by
  cases h with
  | arr _ ru rv e => exact ⟨_, _, ru, rv, e⟩
  | _ => exfalso; omega
theorem Cx.DoneC.inv4 {C : Cx} {M : List (Nat × Nat)} {U : List (Nat × List Value × Nat)} {i : Nat} {cs : List Value} (hk : C.kd i = 4 ∨ C.kd i = 5) (h : C.DoneC M U i cs) : ∃ (g cap : Nat) (cur vs : List Value), RowOk 5 (some ⟨g, cap, cur⟩) (C.vl i) (C.memsD i (C.vl i) vs) ∧ vs.length = C.vl i ∧ (∀ j v, vs[j]? = some v → C.Ref M (C.ex i (3 * j + 1)) v) ∧ (g, cur, 99) ∈ U ∧ cs = [C.sv (C.nm i), .int .u32 (C.sz i : Nat), .slice (some ⟨g, 0, none⟩) (C.vl i) cap, .slice none 0 0] := by
  cases h with
  | comp _ hr rs rv hu e => exact ⟨_, _, _, _, hr, rs, rv, hu, e⟩
  | _ => exfalso; omega
theorem Cx.DoneC.inv6 {C : Cx} {M : List (Nat × Nat)} {U : List (Nat × List Value × Nat)} {i : Nat} {cs : List Value} (hk : C.kd i = 6 ∨ C.kd i = 19) (h : C.DoneC M U i cs) : ∃ (g cap : Nat) (cur : List Value), RowOk 2 (some ⟨g, cap, cur⟩) (C.vl i) (C.enumsD i (C.vl i)) ∧ (g, cur, 121) ∈ U ∧ cs = [C.sv (C.nm i), .int .u32 (C.sz i : Nat), .bool (((C.fl i : Nat) : Int) == 1), .slice (some ⟨g, 0, none⟩) (C.vl i) cap] := by
  cases h with
  | enum _ hr hu e => exact ⟨_, _, _, hr, hu, e⟩
  | _ => exfalso; omega
theorem Cx.DoneC.inv7 {C : Cx} {M : List (Nat × Nat)} {U : List (Nat × List Value × Nat)} {i : Nat} {cs : List Value} (hk : C.kd i = 7) (h : C.DoneC M U i cs) : cs = [C.sv (C.nm i), .int .i64 (C.fl i : Nat)] := by
  cases h with
  | fwd _ e => exact e
  | _ => exfalso; omega
theorem Cx.DoneC.inv8 {C : Cx} {M : List (Nat × Nat)} {U : List (Nat × List Value × Nat)} {i : Nat} {cs : List Value} (hk : C.kd i = 8) (h : C.DoneC M U i cs) : ∃ v, C.Ref M (C.sz i) v ∧ cs = [C.sv (C.nm i), v, .slice none 0 0] := by
  cases h with
  | tdef _ r e => exact ⟨_, r, e⟩
  | _ => exfalso; omega
theorem Cx.DoneC.inv12 {C : Cx} {M : List (Nat × Nat)} {U : List (Nat × List Value × Nat)} {i : Nat} {cs : List Value} (hk : C.kd i = 12) (h : C.DoneC M U i cs) : ∃ v, C.Ref M (C.sz i) v ∧ cs = [C.sv (C.nm i), v, .int .i64 (C.vl i : Nat), .slice none 0 0, .slice none 0 0] := by
  cases h with
  | func _ r e => exact ⟨_, r, e⟩
  | _ => exfalso; omega
theorem Cx.DoneC.inv13 {C : Cx} {M : List (Nat × Nat)} {U : List (Nat × List Value × Nat)} {i : Nat} {cs : List Value} (hk : C.kd i = 13) (h : C.DoneC M U i cs) : ∃ (u : Value) (g cap : Nat) (cur vs : List Value), C.Ref M (C.sz i) u ∧ RowOk 2 (some ⟨g, cap, cur⟩) (C.vl i) (C.paramsD i (C.vl i) vs) ∧ vs.length = C.vl i ∧ (∀ j v, vs[j]? = some v → C.Ref M (C.ex i (2 * j + 1)) v) ∧ (g, cur, 146) ∈ U ∧ cs = [u, .slice (some ⟨g, 0, none⟩) (C.vl i) cap] := by
  cases h with
  | proto _ ru hr rs rv hu e => exact ⟨_, _, _, _, _, ru, hr, rs, rv, hu, e⟩
  | _ => exfalso; omega
theorem Cx.DoneC.inv14 {C : Cx} {M : List (Nat × Nat)} {U : List (Nat × List Value × Nat)} {i : Nat} {cs : List Value} (hk : C.kd i = 14) (h : C.DoneC M U i cs) : ∃ v, C.Ref M (C.sz i) v ∧ cs = [C.sv (C.nm i), v, .int .i64 (C.ex i 0 : Nat), .slice none 0 0] := by
  cases h with
  | var _ r e => exact ⟨_, r, e⟩
  | _ => exfalso; omega
theorem Cx.DoneC.inv15 {C : Cx} {M : List (Nat × Nat)} {U : List (Nat × List Value × Nat)} {i : Nat} {cs : List Value} (hk : C.kd i = 15) (h : C.DoneC M U i cs) : ∃ (g cap : Nat) (cur vs : List Value), RowOk 3 (some ⟨g, cap, cur⟩) (C.vl i) (C.secsD i (C.vl i) vs) ∧ vs.length = C.vl i ∧ (∀ j v, vs[j]? = some v → C.Ref M (C.ex i (3 * j)) v) ∧ (g, cur, 156) ∈ U ∧ cs = [C.sv (C.nm i), .int .u32 (C.sz i : Nat), .slice (some ⟨g, 0, none⟩) (C.vl i) cap] := by
  cases h with
  | sec _ hr rs rv hu e => exact ⟨_, _, _, _, hr, rs, rv, hu, e⟩
  | _ => exfalso; omega
theorem Cx.DoneC.inv16 {C : Cx} {M : List (Nat × Nat)} {U : List (Nat × List Value × Nat)} {i : Nat} {cs : List Value} (hk : C.kd i = 16) (h : C.DoneC M U i cs) : cs = [C.sv (C.nm i), .int .u32 (C.sz i : Nat)] := by
  cases h with
  | float _ e => exact e
  | _ => exfalso; omega
theorem Cx.DoneC.inv18 {C : Cx} {M : List (Nat × Nat)} {U : List (Nat × List Value × Nat)} {i : Nat} {cs : List Value} (hk : C.kd i = 18) (h : C.DoneC M U i cs) : ∃ v, C.Ref M (C.sz i) v ∧ cs = [v, C.sv (C.nm i)] := by
  cases h with
  | tag _ r e => exact ⟨_, r, e⟩
  | _ => exfalso; omega
theorem goT_101 : ∀ k, k < 20 → k ≠ 0 → k ≠ 17 → goT k = 101 → k = 1 := by decide
theorem goT_105 : ∀ k, k < 20 → k ≠ 0 → k ≠ 17 → goT k = 105 → k = 2 := by decide
theorem goT_108 : ∀ k, k < 20 → k ≠ 0 → k ≠ 17 → goT k = 108 → k = 3 := by decide
theorem goT_111 : ∀ k, k < 20 → k ≠ 0 → k ≠ 17 → goT k = 111 → k = 4 := by decide
theorem goT_114 : ∀ k, k < 20 → k ≠ 0 → k ≠ 17 → goT k = 114 → k = 5 := by decide
theorem goT_116 : ∀ k, k < 20 → k ≠ 0 → k ≠ 17 → goT k = 116 → k = 6 ∨ k = 19 := by decide
theorem goT_122 : ∀ k, k < 20 → k ≠ 0 → k ≠ 17 → goT k = 122 → k = 7 := by decide
theorem goT_126 : ∀ k, k < 20 → k ≠ 0 → k ≠ 17 → goT k = 126 → k = 8 := by decide
theorem goT_129 : ∀ k, k < 20 → k ≠ 0 → k ≠ 17 → goT k = 129 → k = 9 := by decide
theorem goT_132 : ∀ k, k < 20 → k ≠ 0 → k ≠ 17 → goT k = 132 → k = 10 := by decide
theorem goT_134 : ∀ k, k < 20 → k ≠ 0 → k ≠ 17 → goT k = 134 → k = 11 := by decide
theorem goT_136 : ∀ k, k < 20 → k ≠ 0 → k ≠ 17 → goT k = 136 → k = 12 := by decide
theorem goT_141 : ∀ k, k < 20 → k ≠ 0 → k ≠ 17 → goT k = 141 → k = 13 := by decide
theorem goT_147 : ∀ k, k < 20 → k ≠ 0 → k ≠ 17 → goT k = 147 → k = 14 := by decide
theorem goT_151 : ∀ k, k < 20 → k ≠ 0 → k ≠ 17 → goT k = 151 → k = 15 := by decide
theorem goT_157 : ∀ k, k < 20 → k ≠ 0 → k ≠ 17 → goT k = 157 → k = 16 := by decide
theorem goT_160 : ∀ k, k < 20 → k ≠ 0 → k ≠ 17 → goT k = 160 → k = 18 := by decide
theorem goT_in : ∀ k, k < 20 → k ≠ 0 → k ≠ 17 → goT k ∈ [101, 105, 108, 111, 114, 116, 122, 126, 129, 132, 134, 136, 141, 147, 151, 157, 160] := by decide
theorem O_isYes {ro : Option Nat} {P : Program} {S : Nat → Prop} {w0 : World} {n : Nat} {ds : List Deferred} {H : Hp} {e : Env} {d : Nat} {ty tx t T : TypeId} {D : TypeDesc} {zv v : Value} {pos : String} {aft : Array Edge} {x : Operand} (hd : Nat.blt d n = true) (hx : Ev e x (.iface t v)) (hT : P.underlying T = some D) (hD : (match D with | .interface _ => false | _ => true) = true) (hz : Zr P T zv) (h : t = T) :
    OT ro P S w0 n ds H e ⟨some d, .typeAssert x tx T true, ty, pos, aft, none⟩ (fun X => X ((d, .tuple #[v, .bool true]) :: e) H) := by
  have q := O_isT (ro := ro) (S := S) (w0 := w0) (n := n) (ds := ds) (H := H) (e := e) (d := d) (ty := ty) (pos := pos) (aft := aft) (tx := tx) hd hx hT hD hz
  rw [if_pos h] at q
  exact q
theorem O_isNo {ro : Option Nat} {P : Program} {S : Nat → Prop} {w0 : World} {n : Nat} {ds : List Deferred} {H : Hp} {e : Env} {d : Nat} {ty tx t T : TypeId} {D : TypeDesc} {zv v : Value} {pos : String} {aft : Array Edge} {x : Operand} (hd : Nat.blt d n = true) (hx : Ev e x (.iface t v)) (hT : P.underlying T = some D) (hD : (match D with | .interface _ => false | _ => true) = true) (hz : Zr P T zv) (h : ¬ t = T) :
    OT ro P S w0 n ds H e ⟨some d, .typeAssert x tx T true, ty, pos, aft, none⟩ (fun X => X ((d, .tuple #[zv, .bool false]) :: e) H) := by
  have q := O_isT (ro := ro) (S := S) (w0 := w0) (n := n) (ds := ds) (H := H) (e := e) (d := d) (ty := ty) (pos := pos) (aft := aft) (tx := tx) hd hx hT hD hz
  rw [if_neg h] at q
  exact q
theorem tdJ {C : Cx} {i b4 : Nat} {w : World} (row : Option Row) (hr : RowOk 5 row (C.tp i).mems.length ((C.tp i).mems.flatMap cellsM)) : SK noS w 378 [] ((b4, true, .cells (cellsT (C.tp i) (rowV row (C.tp i).mems.length)).toArray 32 (0, 0)) :: (rowH 64 row ++ [])) [(4, .pointer (some ⟨b4, 0, none⟩))]
    (bodyPost Tryz.prog Tryz.f14 (fun q w' => ∃ row : Option Row, q = .returned (.agg (cellsT (C.tp i) (rowV row (C.tp i).mems.length)).toArray) ∧ RowOk 5 row (C.tp i).mems.length ((C.tp i).mems.flatMap cellsM) ∧ Fresh w (rowH 64 row) w') .ret) :=
  SK_retC rfl .hit underlying32 sz32 .hit rfl (fun w hw => ⟨row, rfl, hr, hw.made (by cases row <;> exact HSub.a) (by cases row <;> rfl)⟩)

theorem f14_ok {C : Cx} {B : List Nat} {x : St} {sp sc : Nat} {w : World} (hN : C.Num B x sp sc w) (hb30 : C.N ≤ 30) (hO : CxOk C) {i b : Nat} {cs : List Value} {E : TypeId} (hi : i < C.N) (hu : (b, cs, E) ∈ x.U) (hd : C.DoneC x.M x.U i cs) :
    Calls Tryz.prog 14 #[C.iv (i + 1) b, .func (.func 15) #[] #[.pointer (some ⟨sc, 0, none⟩)]] w (fun q w' => ∃ row : Option Row, q = .returned (.agg (cellsT (C.tp i) (rowV row (C.tp i).mems.length)).toArray) ∧ RowOk 5 row (C.tp i).mems.length ((C.tp i).mems.flatMap cellsM) ∧ Fresh w (rowH 64 row) w') := by
 obtain ⟨r1, r2, r3, r4, r5, r6, r7⟩ := hO.rec_ i hi
 have h17 := hO.k17 i hi
 refine sw_calls (S := noS) func14 rfl ntmps14 (sees2 (.iface (goT (C.kd i)) (.pointer (some ⟨b, 0, none⟩))) _ _ rfl) (Holds.start _ _) ?_
 refine SR fun _ k1 => ?_
 refine Sc (O_box (cs := [.func (.func 15) #[] #[.pointer (some ⟨sc, 0, none⟩)]].toArray) rfl (.tmp (.o rfl)) rfl) ?_
 intro bk3 _
 refine Sc (O_alloc rfl zr32 rfl) ?_
 intro bk4 _
 refine SN k1 ?_
 refine Ek [4, 3, 0] ?_
 refine SR fun _ k2 => ?_
 refine Sc (O_makeFunc (fs := []) (cs := [.tmp 3]) rfl .nil (.cons (.tmp (.o rfl)) .nil)) ?_
 refine Ah ?_
 refine SN k2 ?_
 refine Ek [5, 4, 3, 0] ?_
 refine Sq fun _ k3 => ?_
 refine SR fun _ k4 => ?_
 refine Mo ?_
 refine SN k4 ?_
 refine Bl ?_
 refine Sq fun _ k5 => ?_
 by_cases hT : goT (C.kd i) = 101
 ·
  refine Sr ?_
  refine Sc (O_isYes rfl (.tmp .hit) underlying101 rfl zr101 hT) ?_
  refine Sc Oex ?_
  refine Sc Oex ?_
  refine SN k5 ?_
  refine To ?_
  have hkd := goT_101 _ om r6 h17 hT
  obtain rfl := hd.inv1 hkd
  have hcell := hN.u _ hu
  exact (td1_ok hkd r5.lt  hcell (fun row hrow => by
    refine Pl3 ?_
    exact tdJ row hrow)).weaken (Ek2 rfl rfl) .a
 refine Sr ?_
 refine Sc (O_isNo rfl (.tmp .hit) underlying101 rfl zr101 hT) ?_
 refine Sc Oex ?_
 refine Sc Oex ?_
 refine SN k5 ?_
 refine Fo ?_
 have hT101 := hT
 clear hT
 refine Ek [37, 5, 4, 3, 0] ?_
 refine Sq fun _ k6 => ?_
 by_cases hT : goT (C.kd i) = 105
 ·
  refine Sr ?_
  refine Sc (O_isYes rfl (.tmp .hit) underlying105 rfl zr105 hT) ?_
  refine Sc Oex ?_
  refine Sc Oex ?_
  refine SN k6 ?_
  refine To ?_
  have hkd := goT_105 _ om r6 h17 hT
  obtain ⟨v, hr, rfl⟩ := hd.inv2 om
  have hcell := hN.u _ hu
  exact (td2_ok hN hb30 hkd hr hcell (fun row hrow => by
    refine Pl3 ?_
    exact tdJ row hrow)).weaken (Ek3 rfl rfl rfl) .a
 refine Sr ?_
 refine Sc (O_isNo rfl (.tmp .hit) underlying105 rfl zr105 hT) ?_
 refine Sc Oex ?_
 refine Sc Oex ?_
 refine SN k6 ?_
 refine Fo ?_
 have hT105 := hT
 clear hT
 refine Ek [37, 5, 4, 3, 0] ?_
 refine Sq fun _ k7 => ?_
 by_cases hT : goT (C.kd i) = 108
 ·
  refine Sr ?_
  refine Sc (O_isYes rfl (.tmp .hit) underlying108 rfl zr108 hT) ?_
  refine Sc Oex ?_
  refine Sc Oex ?_
  refine SN k7 ?_
  refine To ?_
  have hkd := goT_108 _ om r6 h17 hT
  obtain ⟨u, v, ru, rv, rfl⟩ := hd.inv3 hkd
  have hcell := hN.u _ hu
  exact (td3_ok hN hb30 hkd (hO.ex i hi 2 (by rw [hkd]; show 4 * 2 + 4 ≤ 12; omega)).lt ru rv hcell (fun row hrow => by
    refine Pl3 ?_
    exact tdJ row hrow)).weaken (Ek3 rfl rfl rfl) .a
 refine Sr ?_
 refine Sc (O_isNo rfl (.tmp .hit) underlying108 rfl zr108 hT) ?_
 refine Sc Oex ?_
 refine Sc Oex ?_
 refine SN k7 ?_
 refine Fo ?_
 have hT108 := hT
 clear hT
 refine Ek [37, 5, 4, 3, 0] ?_
 refine Sq fun _ k8 => ?_
 by_cases hT : goT (C.kd i) = 111
 ·
  refine Sr ?_
  refine Sc (O_isYes rfl (.tmp .hit) underlying111 rfl zr111 hT) ?_
  refine Sc Oex ?_
  refine Sc Oex ?_
  refine SN k8 ?_
  refine To ?_
  have hkd := goT_111 _ om r6 h17 hT
  obtain ⟨g, cap, cur, vs, hr, rs, rv, hu2, rfl⟩ := hd.inv4 (.inl hkd)
  have hcell := hN.u _ hu
  exact (td4_ok hN hb30 hkd r5.lt (fun j hj => (hO.ex i hi (3 * j + 2) Q45).lt) hr (hN.u _ hu2) (hO.v8 i hi) rs rv hcell (fun row hrow => by
    refine Pl3 ?_
    exact tdJ row hrow)).weaken (Ek3 rfl rfl rfl) .a
 refine Sr ?_
 refine Sc (O_isNo rfl (.tmp .hit) underlying111 rfl zr111 hT) ?_
 refine Sc Oex ?_
 refine Sc Oex ?_
 refine SN k8 ?_
 refine Fo ?_
 have hT111 := hT
 clear hT
 refine Ek [37, 5, 4, 3, 0] ?_
 refine Sq fun _ k9 => ?_
 by_cases hT : goT (C.kd i) = 114
 ·
  refine Sr ?_
  refine Sc (O_isYes rfl (.tmp .hit) underlying114 rfl zr114 hT) ?_
  refine Sc Oex ?_
  refine Sc Oex ?_
  refine SN k9 ?_
  refine To ?_
  have hkd := goT_114 _ om r6 h17 hT
  obtain ⟨g, cap, cur, vs, hr, rs, rv, hu2, rfl⟩ := hd.inv4 (.inr hkd)
  have hcell := hN.u _ hu
  exact (td5_ok hN hb30 hkd r5.lt (fun j hj => (hO.ex i hi (3 * j + 2) Q45).lt) hr (hN.u _ hu2) (hO.v8 i hi) rs rv hcell (fun row hrow => by
    refine Pl3 ?_
    exact tdJ row hrow)).weaken (Ek3 rfl rfl rfl) .a
 refine Sr ?_
 refine Sc (O_isNo rfl (.tmp .hit) underlying114 rfl zr114 hT) ?_
 refine Sc Oex ?_
 refine Sc Oex ?_
 refine SN k9 ?_
 refine Fo ?_
 have hT114 := hT
 clear hT
 refine Ek [37, 4, 3, 0] ?_
 refine Sq fun _ k10 => ?_
 by_cases hT : goT (C.kd i) = 116
 ·
  refine Sr ?_
  refine Sc (O_isYes rfl (.tmp .hit) underlying116 rfl zr116 hT) ?_
  refine Sc Oex ?_
  refine Sc Oex ?_
  refine SN k10 ?_
  refine To ?_
  have hkd := goT_116 _ om r6 h17 hT
  obtain ⟨g, cap, cur, hr, hu2, rfl⟩ := hd.inv6 hkd
  have hcell := hN.u _ hu
  exact (td6_ok hkd r5.lt hr (hN.u _ hu2) (hO.v8 i hi) hcell (fun row hrow => by
    refine Pl3 ?_
    exact tdJ row hrow)).weaken (Ek2 rfl rfl) .a
 refine Sr ?_
 refine Sc (O_isNo rfl (.tmp .hit) underlying116 rfl zr116 hT) ?_
 refine Sc Oex ?_
 refine Sc Oex ?_
 refine SN k10 ?_
 refine Fo ?_
 have hT116 := hT
 clear hT
 refine Ek [37, 4, 3, 0] ?_
 refine Sq fun _ k11 => ?_
 by_cases hT : goT (C.kd i) = 122
 ·
  refine Sr ?_
  refine Sc (O_isYes rfl (.tmp .hit) underlying122 rfl zr122 hT) ?_
  refine Sc Oex ?_
  refine Sc Oex ?_
  refine SN k11 ?_
  refine To ?_
  have hkd := goT_122 _ om r6 h17 hT
  obtain rfl := hd.inv7 hkd
  have hcell := hN.u _ hu
  exact (td7_ok hkd  hcell (fun row hrow => by
    refine Pl3 ?_
    exact tdJ row hrow)).weaken (Ek2 rfl rfl) .a
 refine Sr ?_
 refine Sc (O_isNo rfl (.tmp .hit) underlying122 rfl zr122 hT) ?_
 refine Sc Oex ?_
 refine Sc Oex ?_
 refine SN k11 ?_
 refine Fo ?_
 have hT122 := hT
 clear hT
 refine Ek [37, 4, 3, 0] ?_
 refine Sq fun _ k12 => ?_
 by_cases hT : goT (C.kd i) = 126
 ·
  refine Sr ?_
  refine Sc (O_isYes rfl (.tmp .hit) underlying126 rfl zr126 hT) ?_
  refine Sc Oex ?_
  refine Sc Oex ?_
  refine SN k12 ?_
  refine To ?_
  have hkd := goT_126 _ om r6 h17 hT
  obtain ⟨v, hr, rfl⟩ := hd.inv8 hkd
  have hcell := hN.u _ hu
  exact (td8_ok hN hb30 hkd hr hcell (fun row hrow => by
    refine Pl3 ?_
    exact tdJ row hrow)).weaken (Ek3 rfl rfl rfl) .a
 refine Sr ?_
 refine Sc (O_isNo rfl (.tmp .hit) underlying126 rfl zr126 hT) ?_
 refine Sc Oex ?_
 refine Sc Oex ?_
 refine SN k12 ?_
 refine Fo ?_
 have hT126 := hT
 clear hT
 refine Ek [37, 4, 3, 0] ?_
 refine Sq fun _ k13 => ?_
 by_cases hT : goT (C.kd i) = 129
 ·
  refine Sr ?_
  refine Sc (O_isYes rfl (.tmp .hit) underlying129 rfl zr129 hT) ?_
  refine Sc Oex ?_
  refine Sc Oex ?_
  refine SN k13 ?_
  refine To ?_
  have hkd := goT_129 _ om r6 h17 hT
  obtain ⟨v, hr, rfl⟩ := hd.inv2 om
  have hcell := hN.u _ hu
  exact (td9_ok hN hb30 hkd hr hcell (fun row hrow => by
    refine Pl3 ?_
    exact tdJ row hrow)).weaken (Ek3 rfl rfl rfl) .a
 refine Sr ?_
 refine Sc (O_isNo rfl (.tmp .hit) underlying129 rfl zr129 hT) ?_
 refine Sc Oex ?_
 refine Sc Oex ?_
 refine SN k13 ?_
 refine Fo ?_
 have hT129 := hT
 clear hT
 refine Ek [37, 4, 3, 0] ?_
 refine Sq fun _ k14 => ?_
 by_cases hT : goT (C.kd i) = 132
 ·
  refine Sr ?_
  refine Sc (O_isYes rfl (.tmp .hit) underlying132 rfl zr132 hT) ?_
  refine Sc Oex ?_
  refine Sc Oex ?_
  refine SN k14 ?_
  refine To ?_
  have hkd := goT_132 _ om r6 h17 hT
  obtain ⟨v, hr, rfl⟩ := hd.inv2 om
  have hcell := hN.u _ hu
  exact (td10_ok hN hb30 hkd hr hcell (fun row hrow => by
    refine Pl3 ?_
    exact tdJ row hrow)).weaken (Ek3 rfl rfl rfl) .a
 refine Sr ?_
 refine Sc (O_isNo rfl (.tmp .hit) underlying132 rfl zr132 hT) ?_
 refine Sc Oex ?_
 refine Sc Oex ?_
 refine SN k14 ?_
 refine Fo ?_
 have hT132 := hT
 clear hT
 refine Ek [37, 4, 3, 0] ?_
 refine Sq fun _ k15 => ?_
 by_cases hT : goT (C.kd i) = 134
 ·
  refine Sr ?_
  refine Sc (O_isYes rfl (.tmp .hit) underlying134 rfl zr134 hT) ?_
  refine Sc Oex ?_
  refine Sc Oex ?_
  refine SN k15 ?_
  refine To ?_
  have hkd := goT_134 _ om r6 h17 hT
  obtain ⟨v, hr, rfl⟩ := hd.inv2 om
  have hcell := hN.u _ hu
  exact (td11_ok hN hb30 hkd hr hcell (fun row hrow => by
    refine Pl3 ?_
    exact tdJ row hrow)).weaken (Ek3 rfl rfl rfl) .a
 refine Sr ?_
 refine Sc (O_isNo rfl (.tmp .hit) underlying134 rfl zr134 hT) ?_
 refine Sc Oex ?_
 refine Sc Oex ?_
 refine SN k15 ?_
 refine Fo ?_
 have hT134 := hT
 clear hT
 refine Ek [37, 4, 3, 0] ?_
 refine Sq fun _ k16 => ?_
 by_cases hT : goT (C.kd i) = 136
 ·
  refine Sr ?_
  refine Sc (O_isYes rfl (.tmp .hit) underlying136 rfl zr136 hT) ?_
  refine Sc Oex ?_
  refine Sc Oex ?_
  refine SN k16 ?_
  refine To ?_
  have hkd := goT_136 _ om r6 h17 hT
  obtain ⟨v, hr, rfl⟩ := hd.inv12 hkd
  have hcell := hN.u _ hu
  exact (td12_ok hN hb30 hkd hr hcell (fun row hrow => by
    refine Pl3 ?_
    exact tdJ row hrow)).weaken (Ek3 rfl rfl rfl) .a
 refine Sr ?_
 refine Sc (O_isNo rfl (.tmp .hit) underlying136 rfl zr136 hT) ?_
 refine Sc Oex ?_
 refine Sc Oex ?_
 refine SN k16 ?_
 refine Fo ?_
 have hT136 := hT
 clear hT
 refine Ek [37, 4, 3, 0] ?_
 refine Sq fun _ k17 => ?_
 by_cases hT : goT (C.kd i) = 141
 ·
  refine Sr ?_
  refine Sc (O_isYes rfl (.tmp .hit) underlying141 rfl zr141 hT) ?_
  refine Sc Oex ?_
  refine Sc Oex ?_
  refine SN k17 ?_
  refine To ?_
  have hkd := goT_141 _ om r6 h17 hT
  obtain ⟨u, g, cap, cur, vs, ru, hr, rs, rv, hu2, rfl⟩ := hd.inv13 hkd
  have hcell := hN.u _ hu
  exact (td13_ok hN hb30 hkd ru hr (hN.u _ hu2) (hO.v8 i hi) rs rv hcell (fun row hrow => by
    refine Pl3 ?_
    exact tdJ row hrow)).weaken (Ek3 rfl rfl rfl) .a
 refine Sr ?_
 refine Sc (O_isNo rfl (.tmp .hit) underlying141 rfl zr141 hT) ?_
 refine Sc Oex ?_
 refine Sc Oex ?_
 refine SN k17 ?_
 refine Fo ?_
 have hT141 := hT
 clear hT
 refine Ek [37, 4, 3, 0] ?_
 refine Sq fun _ k18 => ?_
 by_cases hT : goT (C.kd i) = 147
 ·
  refine Sr ?_
  refine Sc (O_isYes rfl (.tmp .hit) underlying147 rfl zr147 hT) ?_
  refine Sc Oex ?_
  refine Sc Oex ?_
  refine SN k18 ?_
  refine To ?_
  have hkd := goT_147 _ om r6 h17 hT
  obtain ⟨v, hr, rfl⟩ := hd.inv14 hkd
  have hcell := hN.u _ hu
  exact (td14_ok hN hb30 hkd hr hcell (fun row hrow => by
    refine Pl3 ?_
    exact tdJ row hrow)).weaken (Ek3 rfl rfl rfl) .a
 refine Sr ?_
 refine Sc (O_isNo rfl (.tmp .hit) underlying147 rfl zr147 hT) ?_
 refine Sc Oex ?_
 refine Sc Oex ?_
 refine SN k18 ?_
 refine Fo ?_
 have hT147 := hT
 clear hT
 refine Ek [37, 4, 3, 0] ?_
 refine Sq fun _ k19 => ?_
 by_cases hT : goT (C.kd i) = 151
 ·
  refine Sr ?_
  refine Sc (O_isYes rfl (.tmp .hit) underlying151 rfl zr151 hT) ?_
  refine Sc Oex ?_
  refine Sc Oex ?_
  refine SN k19 ?_
  refine To ?_
  have hkd := goT_151 _ om r6 h17 hT
  obtain ⟨g, cap, cur, vs, hr, rs, rv, hu2, rfl⟩ := hd.inv15 hkd
  have hcell := hN.u _ hu
  exact (td15_ok hN hb30 hkd r5.lt (fun j hj => ⟨(hO.ex i hi (3 * j + 1) Q45).lt, (hO.ex i hi (3 * j + 2) Q45).lt⟩) hr (hN.u _ hu2) (hO.v8 i hi) rs rv hcell (fun row hrow => by
    refine Pl3 ?_
    exact tdJ row hrow)).weaken (Ek3 rfl rfl rfl) .a
 refine Sr ?_
 refine Sc (O_isNo rfl (.tmp .hit) underlying151 rfl zr151 hT) ?_
 refine Sc Oex ?_
 refine Sc Oex ?_
 refine SN k19 ?_
 refine Fo ?_
 have hT151 := hT
 clear hT
 refine Ek [37, 4, 3, 0] ?_
 refine Sq fun _ k20 => ?_
 by_cases hT : goT (C.kd i) = 157
 ·
  refine Sr ?_
  refine Sc (O_isYes rfl (.tmp .hit) underlying157 rfl zr157 hT) ?_
  refine Sc Oex ?_
  refine Sc Oex ?_
  refine SN k20 ?_
  refine To ?_
  have hkd := goT_157 _ om r6 h17 hT
  obtain rfl := hd.inv16 hkd
  have hcell := hN.u _ hu
  exact (td16_ok hkd r5.lt  hcell (fun row hrow => by
    refine Pl3 ?_
    exact tdJ row hrow)).weaken (Ek2 rfl rfl) .a
 refine Sr ?_
 refine Sc (O_isNo rfl (.tmp .hit) underlying157 rfl zr157 hT) ?_
 refine Sc Oex ?_
 refine Sc Oex ?_
 refine SN k20 ?_
 refine Fo ?_
 have hT157 := hT
 clear hT
 refine Ek [37, 4, 3, 0] ?_
 refine Sq fun _ k21 => ?_
 by_cases hT : goT (C.kd i) = 160
 ·
  refine Sr ?_
  refine Sc (O_isYes rfl (.tmp .hit) underlying160 rfl zr160 hT) ?_
  refine Sc Oex ?_
  refine Sc Oex ?_
  refine SN k21 ?_
  refine To ?_
  have hkd := goT_160 _ om r6 h17 hT
  obtain ⟨v, hr, rfl⟩ := hd.inv18 hkd
  have hcell := hN.u _ hu
  exact (td18_ok hN hb30 hkd hr hcell (fun row hrow => by
    refine Pl3 ?_
    exact tdJ row hrow)).weaken (Ek3 rfl rfl rfl) .a
 refine Sr ?_
 refine Sc (O_isNo rfl (.tmp .hit) underlying160 rfl zr160 hT) ?_
 refine Sc Oex ?_
 refine Sc Oex ?_
 refine SN k21 ?_
 refine Fo ?_
 exfalso
 have q := goT_in (C.kd i) om r6 h17
 simp only [List.mem_cons, List.not_mem_nil, or_false] at q
 omega
end
end Go.Proofs.YtoibhfpagkdleaaGreatDoor
