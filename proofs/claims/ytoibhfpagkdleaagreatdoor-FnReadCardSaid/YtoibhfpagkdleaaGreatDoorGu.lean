/-
  CONTRACTS: the kinds of types are told.
-/
import Derived.Test.YtoibhfpagkdleaaGreatDoorGt
namespace Go.Proofs.YtoibhfpagkdleaaGreatDoor
section
open Go
open Tryz
set_option maxRecDepth 100000

theorem SK_retC {P : Program} {S : Nat → Prop} {w0 : World} {n : Nat} {H : Hp} {e : Env} {fn : Func} {R : Ending → World → Prop} {t b k : Nat} {T : TypeId} {fs : Array Field} {vs : List Value} {f : Bool} {o : Obj} (hr : fn.results = #[.cell t T]) (g : Get e t (.pointer (some ⟨b, 0, none⟩))) (hT : P.underlying T = some (.struct fs)) (hk : Sz P T k) (hm : HMem H b f o) (hc : cellsOf o 0 k = some vs)
    (h : ∀ w, Holds S w0 H w → R (.returned (.agg vs.toArray)) w) : SK S w0 n [] H e (bodyPost P fn R .ret) := by
  intro a w ha hw
  refine ⟨ha.defers, .agg vs.toArray, ?_, h w hw⟩
  have e1 := ha.slot _ _ g
  rw [Array.getD_eq_getD_getElem?] at e1
  have l1 := run_loadVarA (P := P) (w := w) hT hk (hw.at_ hm) hc
  simp only [results, hr]
  simp [e1, asAddr, l1]

theorem td1_ok {C : Cx} {sc : Nat} {w : World} {i b3 b4 b : Nat} {E : TypeId} {Q : Exit → Act → World → Prop} (hkd : C.kd i = 1) (hsz : C.sz i < 4294967296) (hcell : w.heap[b]? = some (.cells [C.sv (C.nm i), .int .u32 (C.sz i : Nat), .int .u8 (C.ex i 0 / 2 ^ 24 % 2 ^ 4 : Nat)].toArray E (0, 0)))
    (J : ∀ row : Option Row, RowOk 5 row (C.tp i).mems.length ((C.tp i).mems.flatMap cellsM) → SK noS w 378 [] ((b4, true, .cells (cellsT (C.tp i) (rowV row (C.tp i).mems.length)).toArray 32 (0, 0)) :: (rowH 64 row ++ [])) [(4, .pointer (some ⟨b4, 0, none⟩))] (Q .ret)) :
    SW none Tryz.prog noS w 378 [] [(b4, true, .cells #[.int .i64 0, .string ⟨#[]⟩, .int .i64 0, .int .i64 0, .int .i64 0, .int .i64 0, .int .i64 0, .slice none 0 0] 32 (0, 0)), (b3, true, .cells #[.func (.func 15) #[] #[.pointer (some ⟨sc, 0, none⟩)]] 52 (0, 0))] [(40, .pointer (some ⟨b, 0, none⟩)), (4, .pointer (some ⟨b4, 0, none⟩))] (sub [1, 1, 0, 1, 0, 1, 0] (cd Tryz.f14)) Q := by
 have htp : C.tp i = ⟨1, (C.nam (C.nm i)), ((C.sz i : Nat) : Int), ((C.ex i 0 / 2 ^ 24 % 2 ^ 4 : Nat) : Int), 0, 0, 0, []⟩ := by unfold Cx.tp; simp [hkd]
 rw [htp] at J
 refine SR fun _ k1 => ?_
 refine Ah ?_
 refine SN k1 ?_
 refine Ek [6, 4] ?_
 refine Sq fun _ k2 => ?_
 refine Zw (Zm rfl (Zn rfl (Zf rfl underlying104 rfl sz9 (Z1 43 rfl (fun e he => O_load0 rfl (Eh he) oc9 (fun h => h) (cell_of_obj hcell rfl)) (Zm rfl (Zn rfl (Zf rfl underlying104 rfl sz73 (Z1 47 rfl (fun e he => O_load0 rfl (Eh he) oc73 (fun h => h) (cell_of_obj hcell rfl)) (Z1 48 rfl (fun e he => O_convert rfl (Eh he) (r := .int .i64 ((C.sz i : Nat) : Int)) (fun _ => c_int ⟨_, underlying73⟩ underlying3 (wrap_i64n _ om))) (Zm rfl (Zn rfl (Zf rfl underlying104 rfl sz102 (Z1 52 rfl (fun e he => O_load0 rfl (Eh he) oc102 (fun h => h) (cell_of_obj hcell rfl)) (Z1 53 rfl (fun e he => O_convert rfl (Eh he) (r := .int .i64 ((C.ex i 0 / 2 ^ 24 % 2 ^ 4 : Nat) : Int)) (fun _ => c_int ⟨_, underlying102⟩ underlying3 (wrap_i64n _ om))) .done)))))))))))))) ?_
 refine Sc (O_build (pv := [(0, _), (1, _), (2, _), (3, _)]) (r := .agg #[.int .i64 1, .string (C.nam (C.nm i)), .int .i64 (((C.sz i : Nat) : Int)), .int .i64 (((C.ex i 0 / 2 ^ 24 % 2 ^ 4 : Nat) : Int)), .int .i64 (0), .int .i64 (0), .int .i64 (0), .slice none 0 0]) rfl (.cons .const (.cons (.tmp (.o rfl)) (.cons (.tmp (.o rfl)) (.cons (.tmp .hit) .nil)))) (fun w => run_build w _ _ _ Q13)) ?_
 refine Sc (O_storeA (vs := [_, _, _, _, _, _, _, _]) (.tmp (.o rfl)) (.tmp .hit) Q20 sz32 rfl .a dc rfl) ?_
 refine SN k2 ?_
 refine Rt ?_
 refine Pl3 ?_
 exact (J none ⟨rfl, rfl⟩).weaken (Ek1 rfl) .a

theorem td2_ok {C : Cx} {B : List Nat} {x : St} {sp sc : Nat} {w : World} (hN : C.Num B x sp sc w) (hb30 : C.N ≤ 30) {i b3 b4 b : Nat} {E : TypeId} {Q : Exit → Act → World → Prop} (hkd : C.kd i = 2) {v : Value} (hr : C.Ref x.M (C.sz i) v) (hcell : w.heap[b]? = some (.cells [v].toArray E (0, 0)))
    (J : ∀ row : Option Row, RowOk 5 row (C.tp i).mems.length ((C.tp i).mems.flatMap cellsM) → SK noS w 378 [] ((b4, true, .cells (cellsT (C.tp i) (rowV row (C.tp i).mems.length)).toArray 32 (0, 0)) :: (rowH 64 row ++ [])) [(4, .pointer (some ⟨b4, 0, none⟩))] (Q .ret)) :
    SW none Tryz.prog noS w 378 [] [(b4, true, .cells #[.int .i64 0, .string ⟨#[]⟩, .int .i64 0, .int .i64 0, .int .i64 0, .int .i64 0, .int .i64 0, .slice none 0 0] 32 (0, 0)), (b3, true, .cells #[.func (.func 15) #[] #[.pointer (some ⟨sc, 0, none⟩)]] 52 (0, 0))] [(58, .pointer (some ⟨b, 0, none⟩)), (3, .pointer (some ⟨b3, 0, none⟩)), (4, .pointer (some ⟨b4, 0, none⟩))] (sub [1, 1, 0, 1, 0, 1, 1, 1, 0] (cd Tryz.f14)) Q := by
 have htp : C.tp i = ⟨2, ⟨#[]⟩, 0, 0, 0, ((C.sz i : Nat) : Int), 0, []⟩ := by unfold Cx.tp; simp [hkd]
 rw [htp] at J
 refine SR fun _ k1 => ?_
 refine Ah ?_
 refine SN k1 ?_
 refine Ek [7, 3, 4] ?_
 refine Sq fun _ k2 => ?_
 refine Zw (Zl rfl oc52 .a rfl (Zm rfl (Zn rfl (Zf rfl underlying107 rfl sz47 (Z1 62 rfl (fun e he => O_load0 rfl (Eh he) oc47 (fun h => h) (cell_of_obj hcell rfl)) .done))))) ?_
 refine Sc (O_callE (xs := [.tmp 63]) (cap := [.pointer (some ⟨sc, 0, none⟩)]) rfl (.tmp (.o rfl)) (.cons (.tmp .hit) .nil) func15 rfl rfl (fun w1 hw => f15_ok (hN.ext hw.ext) hr hb30)) ?_
 refine Sc (O_build (pv := [(0, _), (5, _)]) (r := .agg #[.int .i64 2, .string ⟨#[]⟩, .int .i64 (0), .int .i64 (0), .int .i64 (0), .int .i64 (((C.sz i : Nat) : Int)), .int .i64 (0), .slice none 0 0]) rfl (.cons .const (.cons (.tmp .hit) .nil)) (fun w => run_build w _ _ _ Q13)) ?_
 refine Sc (O_storeA (vs := [_, _, _, _, _, _, _, _]) (.tmp (.o rfl)) (.tmp .hit) Q20 sz32 rfl .a dc rfl) ?_
 refine SN k2 ?_
 refine Rt ?_
 refine Pl3 ?_
 exact (J none ⟨rfl, rfl⟩).weaken (Ek1 rfl) .a

theorem td9_ok {C : Cx} {B : List Nat} {x : St} {sp sc : Nat} {w : World} (hN : C.Num B x sp sc w) (hb30 : C.N ≤ 30) {i b3 b4 b : Nat} {E : TypeId} {Q : Exit → Act → World → Prop} (hkd : C.kd i = 9) {v : Value} (hr : C.Ref x.M (C.sz i) v) (hcell : w.heap[b]? = some (.cells [v].toArray E (0, 0)))
    (J : ∀ row : Option Row, RowOk 5 row (C.tp i).mems.length ((C.tp i).mems.flatMap cellsM) → SK noS w 378 [] ((b4, true, .cells (cellsT (C.tp i) (rowV row (C.tp i).mems.length)).toArray 32 (0, 0)) :: (rowH 64 row ++ [])) [(4, .pointer (some ⟨b4, 0, none⟩))] (Q .ret)) :
    SW none Tryz.prog noS w 378 [] [(b4, true, .cells #[.int .i64 0, .string ⟨#[]⟩, .int .i64 0, .int .i64 0, .int .i64 0, .int .i64 0, .int .i64 0, .slice none 0 0] 32 (0, 0)), (b3, true, .cells #[.func (.func 15) #[] #[.pointer (some ⟨sc, 0, none⟩)]] 52 (0, 0))] [(199, .pointer (some ⟨b, 0, none⟩)), (3, .pointer (some ⟨b3, 0, none⟩)), (4, .pointer (some ⟨b4, 0, none⟩))] (sub [1, 1, 0, 1, 0, 1, 1, 1, 1, 1, 1, 1, 1, 1, 1, 1, 1, 1, 1, 1, 1, 1, 0] (cd Tryz.f14)) Q := by
 have htp : C.tp i = ⟨9, ⟨#[]⟩, 0, 0, 0, ((C.sz i : Nat) : Int), 0, []⟩ := by unfold Cx.tp; simp [hkd]
 rw [htp] at J
 refine SR fun _ k1 => ?_
 refine Ah ?_
 refine SN k1 ?_
 refine Ek [17, 3, 4] ?_
 refine Sq fun _ k2 => ?_
 refine Zw (Zl rfl oc52 .a rfl (Zm rfl (Zn rfl (Zf rfl underlying131 rfl sz47 (Z1 203 rfl (fun e he => O_load0 rfl (Eh he) oc47 (fun h => h) (cell_of_obj hcell rfl)) .done))))) ?_
 refine Sc (O_callE (xs := [.tmp 204]) (cap := [.pointer (some ⟨sc, 0, none⟩)]) rfl (.tmp (.o rfl)) (.cons (.tmp .hit) .nil) func15 rfl rfl (fun w1 hw => f15_ok (hN.ext hw.ext) hr hb30)) ?_
 refine Sc (O_build (pv := [(0, _), (5, _)]) (r := .agg #[.int .i64 9, .string ⟨#[]⟩, .int .i64 (0), .int .i64 (0), .int .i64 (0), .int .i64 (((C.sz i : Nat) : Int)), .int .i64 (0), .slice none 0 0]) rfl (.cons .const (.cons (.tmp .hit) .nil)) (fun w => run_build w _ _ _ Q13)) ?_
 refine Sc (O_storeA (vs := [_, _, _, _, _, _, _, _]) (.tmp (.o rfl)) (.tmp .hit) Q20 sz32 rfl .a dc rfl) ?_
 refine SN k2 ?_
 refine Rt ?_
 refine Pl3 ?_
 exact (J none ⟨rfl, rfl⟩).weaken (Ek1 rfl) .a

theorem td10_ok {C : Cx} {B : List Nat} {x : St} {sp sc : Nat} {w : World} (hN : C.Num B x sp sc w) (hb30 : C.N ≤ 30) {i b3 b4 b : Nat} {E : TypeId} {Q : Exit → Act → World → Prop} (hkd : C.kd i = 10) {v : Value} (hr : C.Ref x.M (C.sz i) v) (hcell : w.heap[b]? = some (.cells [v].toArray E (0, 0)))
    (J : ∀ row : Option Row, RowOk 5 row (C.tp i).mems.length ((C.tp i).mems.flatMap cellsM) → SK noS w 378 [] ((b4, true, .cells (cellsT (C.tp i) (rowV row (C.tp i).mems.length)).toArray 32 (0, 0)) :: (rowH 64 row ++ [])) [(4, .pointer (some ⟨b4, 0, none⟩))] (Q .ret)) :
    SW none Tryz.prog noS w 378 [] [(b4, true, .cells #[.int .i64 0, .string ⟨#[]⟩, .int .i64 0, .int .i64 0, .int .i64 0, .int .i64 0, .int .i64 0, .slice none 0 0] 32 (0, 0)), (b3, true, .cells #[.func (.func 15) #[] #[.pointer (some ⟨sc, 0, none⟩)]] 52 (0, 0))] [(209, .pointer (some ⟨b, 0, none⟩)), (3, .pointer (some ⟨b3, 0, none⟩)), (4, .pointer (some ⟨b4, 0, none⟩))] (sub [1, 1, 0, 1, 0, 1, 1, 1, 1, 1, 1, 1, 1, 1, 1, 1, 1, 1, 1, 1, 1, 1, 1, 1, 0] (cd Tryz.f14)) Q := by
 have htp : C.tp i = ⟨10, ⟨#[]⟩, 0, 0, 0, ((C.sz i : Nat) : Int), 0, []⟩ := by unfold Cx.tp; simp [hkd]
 rw [htp] at J
 refine SR fun _ k1 => ?_
 refine Ah ?_
 refine SN k1 ?_
 refine Ek [18, 3, 4] ?_
 refine Sq fun _ k2 => ?_
 refine Zw (Zl rfl oc52 .a rfl (Zm rfl (Zn rfl (Zf rfl underlying133 rfl sz47 (Z1 213 rfl (fun e he => O_load0 rfl (Eh he) oc47 (fun h => h) (cell_of_obj hcell rfl)) .done))))) ?_
 refine Sc (O_callE (xs := [.tmp 214]) (cap := [.pointer (some ⟨sc, 0, none⟩)]) rfl (.tmp (.o rfl)) (.cons (.tmp .hit) .nil) func15 rfl rfl (fun w1 hw => f15_ok (hN.ext hw.ext) hr hb30)) ?_
 refine Sc (O_build (pv := [(0, _), (5, _)]) (r := .agg #[.int .i64 10, .string ⟨#[]⟩, .int .i64 (0), .int .i64 (0), .int .i64 (0), .int .i64 (((C.sz i : Nat) : Int)), .int .i64 (0), .slice none 0 0]) rfl (.cons .const (.cons (.tmp .hit) .nil)) (fun w => run_build w _ _ _ Q13)) ?_
 refine Sc (O_storeA (vs := [_, _, _, _, _, _, _, _]) (.tmp (.o rfl)) (.tmp .hit) Q20 sz32 rfl .a dc rfl) ?_
 refine SN k2 ?_
 refine Rt ?_
 refine Pl3 ?_
 exact (J none ⟨rfl, rfl⟩).weaken (Ek1 rfl) .a

theorem td11_ok {C : Cx} {B : List Nat} {x : St} {sp sc : Nat} {w : World} (hN : C.Num B x sp sc w) (hb30 : C.N ≤ 30) {i b3 b4 b : Nat} {E : TypeId} {Q : Exit → Act → World → Prop} (hkd : C.kd i = 11) {v : Value} (hr : C.Ref x.M (C.sz i) v) (hcell : w.heap[b]? = some (.cells [v].toArray E (0, 0)))
    (J : ∀ row : Option Row, RowOk 5 row (C.tp i).mems.length ((C.tp i).mems.flatMap cellsM) → SK noS w 378 [] ((b4, true, .cells (cellsT (C.tp i) (rowV row (C.tp i).mems.length)).toArray 32 (0, 0)) :: (rowH 64 row ++ [])) [(4, .pointer (some ⟨b4, 0, none⟩))] (Q .ret)) :
    SW none Tryz.prog noS w 378 [] [(b4, true, .cells #[.int .i64 0, .string ⟨#[]⟩, .int .i64 0, .int .i64 0, .int .i64 0, .int .i64 0, .int .i64 0, .slice none 0 0] 32 (0, 0)), (b3, true, .cells #[.func (.func 15) #[] #[.pointer (some ⟨sc, 0, none⟩)]] 52 (0, 0))] [(219, .pointer (some ⟨b, 0, none⟩)), (3, .pointer (some ⟨b3, 0, none⟩)), (4, .pointer (some ⟨b4, 0, none⟩))] (sub [1, 1, 0, 1, 0, 1, 1, 1, 1, 1, 1, 1, 1, 1, 1, 1, 1, 1, 1, 1, 1, 1, 1, 1, 1, 1, 0] (cd Tryz.f14)) Q := by
 have htp : C.tp i = ⟨11, ⟨#[]⟩, 0, 0, 0, ((C.sz i : Nat) : Int), 0, []⟩ := by unfold Cx.tp; simp [hkd]
 rw [htp] at J
 refine SR fun _ k1 => ?_
 refine Ah ?_
 refine SN k1 ?_
 refine Ek [19, 3, 4] ?_
 refine Sq fun _ k2 => ?_
 refine Zw (Zl rfl oc52 .a rfl (Zm rfl (Zn rfl (Zf rfl underlying135 rfl sz47 (Z1 223 rfl (fun e he => O_load0 rfl (Eh he) oc47 (fun h => h) (cell_of_obj hcell rfl)) .done))))) ?_
 refine Sc (O_callE (xs := [.tmp 224]) (cap := [.pointer (some ⟨sc, 0, none⟩)]) rfl (.tmp (.o rfl)) (.cons (.tmp .hit) .nil) func15 rfl rfl (fun w1 hw => f15_ok (hN.ext hw.ext) hr hb30)) ?_
 refine Sc (O_build (pv := [(0, _), (5, _)]) (r := .agg #[.int .i64 11, .string ⟨#[]⟩, .int .i64 (0), .int .i64 (0), .int .i64 (0), .int .i64 (((C.sz i : Nat) : Int)), .int .i64 (0), .slice none 0 0]) rfl (.cons .const (.cons (.tmp .hit) .nil)) (fun w => run_build w _ _ _ Q13)) ?_
 refine Sc (O_storeA (vs := [_, _, _, _, _, _, _, _]) (.tmp (.o rfl)) (.tmp .hit) Q20 sz32 rfl .a dc rfl) ?_
 refine SN k2 ?_
 refine Rt ?_
 refine Pl3 ?_
 exact (J none ⟨rfl, rfl⟩).weaken (Ek1 rfl) .a

theorem td3_ok {C : Cx} {B : List Nat} {x : St} {sp sc : Nat} {w : World} (hN : C.Num B x sp sc w) (hb30 : C.N ≤ 30) {i b3 b4 b : Nat} {E : TypeId} {Q : Exit → Act → World → Prop} (hkd : C.kd i = 3) (he : C.ex i 2 < 4294967296) {u v : Value} (hru : C.Ref x.M (C.ex i 1) u) (hrv : C.Ref x.M (C.ex i 0) v) (hcell : w.heap[b]? = some (.cells [u, v, .int .u32 (C.ex i 2 : Nat)].toArray E (0, 0)))
    (J : ∀ row : Option Row, RowOk 5 row (C.tp i).mems.length ((C.tp i).mems.flatMap cellsM) → SK noS w 378 [] ((b4, true, .cells (cellsT (C.tp i) (rowV row (C.tp i).mems.length)).toArray 32 (0, 0)) :: (rowH 64 row ++ [])) [(4, .pointer (some ⟨b4, 0, none⟩))] (Q .ret)) :
    SW none Tryz.prog noS w 378 [] [(b4, true, .cells #[.int .i64 0, .string ⟨#[]⟩, .int .i64 0, .int .i64 0, .int .i64 0, .int .i64 0, .int .i64 0, .slice none 0 0] 32 (0, 0)), (b3, true, .cells #[.func (.func 15) #[] #[.pointer (some ⟨sc, 0, none⟩)]] 52 (0, 0))] [(68, .pointer (some ⟨b, 0, none⟩)), (3, .pointer (some ⟨b3, 0, none⟩)), (4, .pointer (some ⟨b4, 0, none⟩))] (sub [1, 1, 0, 1, 0, 1, 1, 1, 1, 1, 0] (cd Tryz.f14)) Q := by
 have htp : C.tp i = ⟨3, ⟨#[]⟩, ((C.ex i 2 : Nat) : Int), 0, 0, ((C.ex i 0 : Nat) : Int), ((C.ex i 1 : Nat) : Int), []⟩ := by unfold Cx.tp; simp [hkd]
 rw [htp] at J
 refine SR fun _ k1 => ?_
 refine Ah ?_
 refine SN k1 ?_
 refine Ek [8, 3, 4] ?_
 refine Sq fun _ k2 => ?_
 refine Zw (Zm rfl (Zn rfl (Zf rfl underlying110 rfl sz73 (Z1 71 rfl (fun e he => O_load0 rfl (Eh he) oc73 (fun h => h) (cell_of_obj hcell rfl)) (Z1 72 rfl (fun e he => O_convert rfl (Eh he) (r := .int .i64 ((C.ex i 2 : Nat) : Int)) (fun _ => c_int ⟨_, underlying73⟩ underlying3 (wrap_i64n _ om))) (Zl rfl oc52 .a rfl (Zm rfl (Zn rfl (Zf rfl underlying110 rfl sz47 (Z1 77 rfl (fun e he => O_load0 rfl (Eh he) oc47 (fun h => h) (cell_of_obj hcell rfl)) (Z2 74 78 rfl rfl (fun e he => O_callE (xs := [.tmp 78]) (cap := [.pointer (some ⟨sc, 0, none⟩)]) rfl (Eh he) (.cons (Eo he) .nil) func15 rfl rfl (fun w1 hw => f15_ok (hN.ext hw.ext) hrv hb30)) (Zl rfl oc52 .a rfl (Zm rfl (Zn rfl (Zf rfl underlying110 rfl sz47 (Z1 83 rfl (fun e he => O_load0 rfl (Eh he) oc47 (fun h => h) (cell_of_obj hcell rfl)) (Z2 80 84 rfl rfl (fun e he => O_callE (xs := [.tmp 84]) (cap := [.pointer (some ⟨sc, 0, none⟩)]) rfl (Eh he) (.cons (Eo he) .nil) func15 rfl rfl (fun w1 hw => f15_ok (hN.ext hw.ext) hru hb30)) .done))))))))))))))))) ?_
 refine Sc (O_build (pv := [(0, _), (2, _), (5, _), (6, _)]) (r := .agg #[.int .i64 3, .string ⟨#[]⟩, .int .i64 (((C.ex i 2 : Nat) : Int)), .int .i64 (0), .int .i64 (0), .int .i64 (((C.ex i 0 : Nat) : Int)), .int .i64 (((C.ex i 1 : Nat) : Int)), .slice none 0 0]) rfl (.cons .const (.cons (.tmp (.o rfl)) (.cons (.tmp (.o rfl)) (.cons (.tmp .hit) .nil)))) (fun w => run_build w _ _ _ Q13)) ?_
 refine Sc (O_storeA (vs := [_, _, _, _, _, _, _, _]) (.tmp (.o rfl)) (.tmp .hit) Q20 sz32 rfl .a dc rfl) ?_
 refine SN k2 ?_
 refine Rt ?_
 refine Pl3 ?_
 exact (J none ⟨rfl, rfl⟩).weaken (Ek1 rfl) .a

theorem td7_ok {C : Cx} {sc : Nat} {w : World} {i b3 b4 b : Nat} {E : TypeId} {Q : Exit → Act → World → Prop} (hkd : C.kd i = 7) (hcell : w.heap[b]? = some (.cells [C.sv (C.nm i), .int .i64 (C.fl i : Nat)].toArray E (0, 0)))
    (J : ∀ row : Option Row, RowOk 5 row (C.tp i).mems.length ((C.tp i).mems.flatMap cellsM) → SK noS w 378 [] ((b4, true, .cells (cellsT (C.tp i) (rowV row (C.tp i).mems.length)).toArray 32 (0, 0)) :: (rowH 64 row ++ [])) [(4, .pointer (some ⟨b4, 0, none⟩))] (Q .ret)) :
    SW none Tryz.prog noS w 378 [] [(b4, true, .cells #[.int .i64 0, .string ⟨#[]⟩, .int .i64 0, .int .i64 0, .int .i64 0, .int .i64 0, .int .i64 0, .slice none 0 0] 32 (0, 0)), (b3, true, .cells #[.func (.func 15) #[] #[.pointer (some ⟨sc, 0, none⟩)]] 52 (0, 0))] [(173, .pointer (some ⟨b, 0, none⟩)), (4, .pointer (some ⟨b4, 0, none⟩))] (sub [1, 1, 0, 1, 0, 1, 1, 1, 1, 1, 1, 1, 1, 1, 1, 1, 1, 1, 0] (cd Tryz.f14)) Q := by
 have htp : C.tp i = ⟨7, (C.nam (C.nm i)), 0, 0, ((C.fl i : Nat) : Int), 0, 0, []⟩ := by unfold Cx.tp; simp [hkd]
 rw [htp] at J
 refine SR fun _ k1 => ?_
 refine Ah ?_
 refine SN k1 ?_
 refine Ek [15, 4] ?_
 refine Sq fun _ k2 => ?_
 refine Zw (Zm rfl (Zn rfl (Zf rfl underlying125 rfl sz9 (Z1 176 rfl (fun e he => O_load0 rfl (Eh he) oc9 (fun h => h) (cell_of_obj hcell rfl)) (Zm rfl (Zn rfl (Zf rfl underlying125 rfl sz123 (Z1 180 rfl (fun e he => O_load0 rfl (Eh he) oc123 (fun h => h) (cell_of_obj hcell rfl)) .done)))))))) ?_
 refine Sc (O_build (pv := [(0, _), (1, _), (4, _)]) (r := .agg #[.int .i64 7, .string (C.nam (C.nm i)), .int .i64 (0), .int .i64 (0), .int .i64 (((C.fl i : Nat) : Int)), .int .i64 (0), .int .i64 (0), .slice none 0 0]) rfl (.cons .const (.cons (.tmp (.o rfl)) (.cons (.tmp .hit) .nil))) (fun w => run_build w _ _ _ Q13)) ?_
 refine Sc (O_storeA (vs := [_, _, _, _, _, _, _, _]) (.tmp (.o rfl)) (.tmp .hit) Q20 sz32 rfl .a dc rfl) ?_
 refine SN k2 ?_
 refine Rt ?_
 refine Pl3 ?_
 exact (J none ⟨rfl, rfl⟩).weaken (Ek1 rfl) .a

theorem td8_ok {C : Cx} {B : List Nat} {x : St} {sp sc : Nat} {w : World} (hN : C.Num B x sp sc w) (hb30 : C.N ≤ 30) {i b3 b4 b : Nat} {E : TypeId} {Q : Exit → Act → World → Prop} (hkd : C.kd i = 8) {v : Value} (hr : C.Ref x.M (C.sz i) v) (hcell : w.heap[b]? = some (.cells [C.sv (C.nm i), v, .slice none 0 0].toArray E (0, 0)))
    (J : ∀ row : Option Row, RowOk 5 row (C.tp i).mems.length ((C.tp i).mems.flatMap cellsM) → SK noS w 378 [] ((b4, true, .cells (cellsT (C.tp i) (rowV row (C.tp i).mems.length)).toArray 32 (0, 0)) :: (rowH 64 row ++ [])) [(4, .pointer (some ⟨b4, 0, none⟩))] (Q .ret)) :
    SW none Tryz.prog noS w 378 [] [(b4, true, .cells #[.int .i64 0, .string ⟨#[]⟩, .int .i64 0, .int .i64 0, .int .i64 0, .int .i64 0, .int .i64 0, .slice none 0 0] 32 (0, 0)), (b3, true, .cells #[.func (.func 15) #[] #[.pointer (some ⟨sc, 0, none⟩)]] 52 (0, 0))] [(185, .pointer (some ⟨b, 0, none⟩)), (3, .pointer (some ⟨b3, 0, none⟩)), (4, .pointer (some ⟨b4, 0, none⟩))] (sub [1, 1, 0, 1, 0, 1, 1, 1, 1, 1, 1, 1, 1, 1, 1, 1, 1, 1, 1, 1, 0] (cd Tryz.f14)) Q := by
 have htp : C.tp i = ⟨8, (C.nam (C.nm i)), 0, 0, 0, ((C.sz i : Nat) : Int), 0, []⟩ := by unfold Cx.tp; simp [hkd]
 rw [htp] at J
 refine SR fun _ k1 => ?_
 refine Ah ?_
 refine SN k1 ?_
 refine Ek [16, 3, 4] ?_
 refine Sq fun _ k2 => ?_
 refine Zw (Zm rfl (Zn rfl (Zf rfl underlying128 rfl sz9 (Z1 188 rfl (fun e he => O_load0 rfl (Eh he) oc9 (fun h => h) (cell_of_obj hcell rfl)) (Zl rfl oc52 .a rfl (Zm rfl (Zn rfl (Zf rfl underlying128 rfl sz47 (Z1 193 rfl (fun e he => O_load0 rfl (Eh he) oc47 (fun h => h) (cell_of_obj hcell rfl)) (Z2 190 194 rfl rfl (fun e he => O_callE (xs := [.tmp 194]) (cap := [.pointer (some ⟨sc, 0, none⟩)]) rfl (Eh he) (.cons (Eo he) .nil) func15 rfl rfl (fun w1 hw => f15_ok (hN.ext hw.ext) hr hb30)) .done)))))))))) ?_
 refine Sc (O_build (pv := [(0, _), (1, _), (5, _)]) (r := .agg #[.int .i64 8, .string (C.nam (C.nm i)), .int .i64 (0), .int .i64 (0), .int .i64 (0), .int .i64 (((C.sz i : Nat) : Int)), .int .i64 (0), .slice none 0 0]) rfl (.cons .const (.cons (.tmp (.o rfl)) (.cons (.tmp .hit) .nil))) (fun w => run_build w _ _ _ Q13)) ?_
 refine Sc (O_storeA (vs := [_, _, _, _, _, _, _, _]) (.tmp (.o rfl)) (.tmp .hit) Q20 sz32 rfl .a dc rfl) ?_
 refine SN k2 ?_
 refine Rt ?_
 refine Pl3 ?_
 exact (J none ⟨rfl, rfl⟩).weaken (Ek1 rfl) .a

theorem td12_ok {C : Cx} {B : List Nat} {x : St} {sp sc : Nat} {w : World} (hN : C.Num B x sp sc w) (hb30 : C.N ≤ 30) {i b3 b4 b : Nat} {E : TypeId} {Q : Exit → Act → World → Prop} (hkd : C.kd i = 12) {v : Value} (hr : C.Ref x.M (C.sz i) v) (hcell : w.heap[b]? = some (.cells [C.sv (C.nm i), v, .int .i64 (C.vl i : Nat), .slice none 0 0, .slice none 0 0].toArray E (0, 0)))
    (J : ∀ row : Option Row, RowOk 5 row (C.tp i).mems.length ((C.tp i).mems.flatMap cellsM) → SK noS w 378 [] ((b4, true, .cells (cellsT (C.tp i) (rowV row (C.tp i).mems.length)).toArray 32 (0, 0)) :: (rowH 64 row ++ [])) [(4, .pointer (some ⟨b4, 0, none⟩))] (Q .ret)) :
    SW none Tryz.prog noS w 378 [] [(b4, true, .cells #[.int .i64 0, .string ⟨#[]⟩, .int .i64 0, .int .i64 0, .int .i64 0, .int .i64 0, .int .i64 0, .slice none 0 0] 32 (0, 0)), (b3, true, .cells #[.func (.func 15) #[] #[.pointer (some ⟨sc, 0, none⟩)]] 52 (0, 0))] [(229, .pointer (some ⟨b, 0, none⟩)), (3, .pointer (some ⟨b3, 0, none⟩)), (4, .pointer (some ⟨b4, 0, none⟩))] (sub [1, 1, 0, 1, 0, 1, 1, 1, 1, 1, 1, 1, 1, 1, 1, 1, 1, 1, 1, 1, 1, 1, 1, 1, 1, 1, 1, 1, 0] (cd Tryz.f14)) Q := by
 have htp : C.tp i = ⟨12, (C.nam (C.nm i)), 0, 0, ((C.vl i : Nat) : Int), ((C.sz i : Nat) : Int), 0, []⟩ := by unfold Cx.tp; simp [hkd]
 rw [htp] at J
 refine SR fun _ k1 => ?_
 refine Ah ?_
 refine SN k1 ?_
 refine Ek [20, 3, 4] ?_
 refine Sq fun _ k2 => ?_
 refine Zw (Zm rfl (Zn rfl (Zf rfl underlying140 rfl sz9 (Z1 232 rfl (fun e he => O_load0 rfl (Eh he) oc9 (fun h => h) (cell_of_obj hcell rfl)) (Zm rfl (Zn rfl (Zf rfl underlying140 rfl sz137 (Z1 236 rfl (fun e he => O_load0 rfl (Eh he) oc137 (fun h => h) (cell_of_obj hcell rfl)) (Zl rfl oc52 .a rfl (Zm rfl (Zn rfl (Zf rfl underlying140 rfl sz47 (Z1 241 rfl (fun e he => O_load0 rfl (Eh he) oc47 (fun h => h) (cell_of_obj hcell rfl)) (Z2 238 242 rfl rfl (fun e he => O_callE (xs := [.tmp 242]) (cap := [.pointer (some ⟨sc, 0, none⟩)]) rfl (Eh he) (.cons (Eo he) .nil) func15 rfl rfl (fun w1 hw => f15_ok (hN.ext hw.ext) hr hb30)) .done)))))))))))))) ?_
 refine Sc (O_build (pv := [(0, _), (1, _), (4, _), (5, _)]) (r := .agg #[.int .i64 12, .string (C.nam (C.nm i)), .int .i64 (0), .int .i64 (0), .int .i64 (((C.vl i : Nat) : Int)), .int .i64 (((C.sz i : Nat) : Int)), .int .i64 (0), .slice none 0 0]) rfl (.cons .const (.cons (.tmp (.o rfl)) (.cons (.tmp (.o rfl)) (.cons (.tmp .hit) .nil)))) (fun w => run_build w _ _ _ Q13)) ?_
 refine Sc (O_storeA (vs := [_, _, _, _, _, _, _, _]) (.tmp (.o rfl)) (.tmp .hit) Q20 sz32 rfl .a dc rfl) ?_
 refine SN k2 ?_
 refine Rt ?_
 refine Pl3 ?_
 exact (J none ⟨rfl, rfl⟩).weaken (Ek1 rfl) .a

theorem td14_ok {C : Cx} {B : List Nat} {x : St} {sp sc : Nat} {w : World} (hN : C.Num B x sp sc w) (hb30 : C.N ≤ 30) {i b3 b4 b : Nat} {E : TypeId} {Q : Exit → Act → World → Prop} (hkd : C.kd i = 14) {v : Value} (hr : C.Ref x.M (C.sz i) v) (hcell : w.heap[b]? = some (.cells [C.sv (C.nm i), v, .int .i64 (C.ex i 0 : Nat), .slice none 0 0].toArray E (0, 0)))
    (J : ∀ row : Option Row, RowOk 5 row (C.tp i).mems.length ((C.tp i).mems.flatMap cellsM) → SK noS w 378 [] ((b4, true, .cells (cellsT (C.tp i) (rowV row (C.tp i).mems.length)).toArray 32 (0, 0)) :: (rowH 64 row ++ [])) [(4, .pointer (some ⟨b4, 0, none⟩))] (Q .ret)) :
    SW none Tryz.prog noS w 378 [] [(b4, true, .cells #[.int .i64 0, .string ⟨#[]⟩, .int .i64 0, .int .i64 0, .int .i64 0, .int .i64 0, .int .i64 0, .slice none 0 0] 32 (0, 0)), (b3, true, .cells #[.func (.func 15) #[] #[.pointer (some ⟨sc, 0, none⟩)]] 52 (0, 0))] [(280, .pointer (some ⟨b, 0, none⟩)), (3, .pointer (some ⟨b3, 0, none⟩)), (4, .pointer (some ⟨b4, 0, none⟩))] (sub [1, 1, 0, 1, 0, 1, 1, 1, 1, 1, 1, 1, 1, 1, 1, 1, 1, 1, 1, 1, 1, 1, 1, 1, 1, 1, 1, 1, 1, 1, 1, 1, 0] (cd Tryz.f14)) Q := by
 have htp : C.tp i = ⟨14, (C.nam (C.nm i)), 0, 0, ((C.ex i 0 : Nat) : Int), ((C.sz i : Nat) : Int), 0, []⟩ := by unfold Cx.tp; simp [hkd]
 rw [htp] at J
 refine SR fun _ k1 => ?_
 refine Ah ?_
 refine SN k1 ?_
 refine Ek [25, 3, 4] ?_
 refine Sq fun _ k2 => ?_
 refine Zw (Zm rfl (Zn rfl (Zf rfl underlying150 rfl sz9 (Z1 283 rfl (fun e he => O_load0 rfl (Eh he) oc9 (fun h => h) (cell_of_obj hcell rfl)) (Zm rfl (Zn rfl (Zf rfl underlying150 rfl sz148 (Z1 287 rfl (fun e he => O_load0 rfl (Eh he) oc148 (fun h => h) (cell_of_obj hcell rfl)) (Zl rfl oc52 .a rfl (Zm rfl (Zn rfl (Zf rfl underlying150 rfl sz47 (Z1 292 rfl (fun e he => O_load0 rfl (Eh he) oc47 (fun h => h) (cell_of_obj hcell rfl)) (Z2 289 293 rfl rfl (fun e he => O_callE (xs := [.tmp 293]) (cap := [.pointer (some ⟨sc, 0, none⟩)]) rfl (Eh he) (.cons (Eo he) .nil) func15 rfl rfl (fun w1 hw => f15_ok (hN.ext hw.ext) hr hb30)) .done)))))))))))))) ?_
 refine Sc (O_build (pv := [(0, _), (1, _), (4, _), (5, _)]) (r := .agg #[.int .i64 14, .string (C.nam (C.nm i)), .int .i64 (0), .int .i64 (0), .int .i64 (((C.ex i 0 : Nat) : Int)), .int .i64 (((C.sz i : Nat) : Int)), .int .i64 (0), .slice none 0 0]) rfl (.cons .const (.cons (.tmp (.o rfl)) (.cons (.tmp (.o rfl)) (.cons (.tmp .hit) .nil)))) (fun w => run_build w _ _ _ Q13)) ?_
 refine Sc (O_storeA (vs := [_, _, _, _, _, _, _, _]) (.tmp (.o rfl)) (.tmp .hit) Q20 sz32 rfl .a dc rfl) ?_
 refine SN k2 ?_
 refine Rt ?_
 refine Pl3 ?_
 exact (J none ⟨rfl, rfl⟩).weaken (Ek1 rfl) .a

theorem td16_ok {C : Cx} {sc : Nat} {w : World} {i b3 b4 b : Nat} {E : TypeId} {Q : Exit → Act → World → Prop} (hkd : C.kd i = 16) (hsz : C.sz i < 4294967296) (hcell : w.heap[b]? = some (.cells [C.sv (C.nm i), .int .u32 (C.sz i : Nat)].toArray E (0, 0)))
    (J : ∀ row : Option Row, RowOk 5 row (C.tp i).mems.length ((C.tp i).mems.flatMap cellsM) → SK noS w 378 [] ((b4, true, .cells (cellsT (C.tp i) (rowV row (C.tp i).mems.length)).toArray 32 (0, 0)) :: (rowH 64 row ++ [])) [(4, .pointer (some ⟨b4, 0, none⟩))] (Q .ret)) :
    SW none Tryz.prog noS w 378 [] [(b4, true, .cells #[.int .i64 0, .string ⟨#[]⟩, .int .i64 0, .int .i64 0, .int .i64 0, .int .i64 0, .int .i64 0, .slice none 0 0] 32 (0, 0)), (b3, true, .cells #[.func (.func 15) #[] #[.pointer (some ⟨sc, 0, none⟩)]] 52 (0, 0))] [(338, .pointer (some ⟨b, 0, none⟩)), (4, .pointer (some ⟨b4, 0, none⟩))] (sub [1, 1, 0, 1, 0, 1, 1, 1, 1, 1, 1, 1, 1, 1, 1, 1, 1, 1, 1, 1, 1, 1, 1, 1, 1, 1, 1, 1, 1, 1, 1, 1, 1, 1, 1, 1, 0] (cd Tryz.f14)) Q := by
 have htp : C.tp i = ⟨16, (C.nam (C.nm i)), ((C.sz i : Nat) : Int), 0, 0, 0, 0, []⟩ := by unfold Cx.tp; simp [hkd]
 rw [htp] at J
 refine SR fun _ k1 => ?_
 refine Ah ?_
 refine SN k1 ?_
 refine Ek [30, 4] ?_
 refine Sq fun _ k2 => ?_
 refine Zw (Zm rfl (Zn rfl (Zf rfl underlying159 rfl sz9 (Z1 341 rfl (fun e he => O_load0 rfl (Eh he) oc9 (fun h => h) (cell_of_obj hcell rfl)) (Zm rfl (Zn rfl (Zf rfl underlying159 rfl sz73 (Z1 345 rfl (fun e he => O_load0 rfl (Eh he) oc73 (fun h => h) (cell_of_obj hcell rfl)) (Z1 346 rfl (fun e he => O_convert rfl (Eh he) (r := .int .i64 ((C.sz i : Nat) : Int)) (fun _ => c_int ⟨_, underlying73⟩ underlying3 (wrap_i64n _ om))) .done))))))))) ?_
 refine Sc (O_build (pv := [(0, _), (1, _), (2, _)]) (r := .agg #[.int .i64 16, .string (C.nam (C.nm i)), .int .i64 (((C.sz i : Nat) : Int)), .int .i64 (0), .int .i64 (0), .int .i64 (0), .int .i64 (0), .slice none 0 0]) rfl (.cons .const (.cons (.tmp (.o rfl)) (.cons (.tmp .hit) .nil))) (fun w => run_build w _ _ _ Q13)) ?_
 refine Sc (O_storeA (vs := [_, _, _, _, _, _, _, _]) (.tmp (.o rfl)) (.tmp .hit) Q20 sz32 rfl .a dc rfl) ?_
 refine SN k2 ?_
 refine Rt ?_
 refine Pl3 ?_
 exact (J none ⟨rfl, rfl⟩).weaken (Ek1 rfl) .a

theorem td18_ok {C : Cx} {B : List Nat} {x : St} {sp sc : Nat} {w : World} (hN : C.Num B x sp sc w) (hb30 : C.N ≤ 30) {i b3 b4 b : Nat} {E : TypeId} {Q : Exit → Act → World → Prop} (hkd : C.kd i = 18) {v : Value} (hr : C.Ref x.M (C.sz i) v) (hcell : w.heap[b]? = some (.cells [v, C.sv (C.nm i)].toArray E (0, 0)))
    (J : ∀ row : Option Row, RowOk 5 row (C.tp i).mems.length ((C.tp i).mems.flatMap cellsM) → SK noS w 378 [] ((b4, true, .cells (cellsT (C.tp i) (rowV row (C.tp i).mems.length)).toArray 32 (0, 0)) :: (rowH 64 row ++ [])) [(4, .pointer (some ⟨b4, 0, none⟩))] (Q .ret)) :
    SW none Tryz.prog noS w 378 [] [(b4, true, .cells #[.int .i64 0, .string ⟨#[]⟩, .int .i64 0, .int .i64 0, .int .i64 0, .int .i64 0, .int .i64 0, .slice none 0 0] 32 (0, 0)), (b3, true, .cells #[.func (.func 15) #[] #[.pointer (some ⟨sc, 0, none⟩)]] 52 (0, 0))] [(351, .pointer (some ⟨b, 0, none⟩)), (3, .pointer (some ⟨b3, 0, none⟩)), (4, .pointer (some ⟨b4, 0, none⟩))] (sub [1, 1, 0, 1, 0, 1, 1, 1, 1, 1, 1, 1, 1, 1, 1, 1, 1, 1, 1, 1, 1, 1, 1, 1, 1, 1, 1, 1, 1, 1, 1, 1, 1, 1, 1, 1, 1, 1, 0] (cd Tryz.f14)) Q := by
 have htp : C.tp i = ⟨18, (C.nam (C.nm i)), 0, 0, 0, ((C.sz i : Nat) : Int), 0, []⟩ := by unfold Cx.tp; simp [hkd]
 rw [htp] at J
 refine SR fun _ k1 => ?_
 refine Ah ?_
 refine SN k1 ?_
 refine Ek [31, 3, 4] ?_
 refine Sq fun _ k2 => ?_
 refine Zw (Zm rfl (Zn rfl (Zf rfl underlying162 rfl sz9 (Z1 354 rfl (fun e he => O_load0 rfl (Eh he) oc9 (fun h => h) (cell_of_obj hcell rfl)) (Zl rfl oc52 .a rfl (Zm rfl (Zn rfl (Zf rfl underlying162 rfl sz47 (Z1 359 rfl (fun e he => O_load0 rfl (Eh he) oc47 (fun h => h) (cell_of_obj hcell rfl)) (Z2 356 360 rfl rfl (fun e he => O_callE (xs := [.tmp 360]) (cap := [.pointer (some ⟨sc, 0, none⟩)]) rfl (Eh he) (.cons (Eo he) .nil) func15 rfl rfl (fun w1 hw => f15_ok (hN.ext hw.ext) hr hb30)) .done)))))))))) ?_
 refine Sc (O_build (pv := [(0, _), (1, _), (5, _)]) (r := .agg #[.int .i64 18, .string (C.nam (C.nm i)), .int .i64 (0), .int .i64 (0), .int .i64 (0), .int .i64 (((C.sz i : Nat) : Int)), .int .i64 (0), .slice none 0 0]) rfl (.cons .const (.cons (.tmp (.o rfl)) (.cons (.tmp .hit) .nil))) (fun w => run_build w _ _ _ Q13)) ?_
 refine Sc (O_storeA (vs := [_, _, _, _, _, _, _, _]) (.tmp (.o rfl)) (.tmp .hit) Q20 sz32 rfl .a dc rfl) ?_
 refine SN k2 ?_
 refine Rt ?_
 refine Pl3 ?_
 exact (J none ⟨rfl, rfl⟩).weaken (Ek1 rfl) .a

theorem td4_ok {C : Cx} {B : List Nat} {x : St} {sp sc : Nat} {w : World} (hN : C.Num B x sp sc w) (hb30 : C.N ≤ 30) {i b3 b4 b : Nat} {E : TypeId} {Q : Exit → Act → World → Prop} (hkd : C.kd i = 4) (hsz : C.sz i < 4294967296) {vs : List Value} (hx32 : ∀ j, j < C.vl i → C.ex i (3 * j + 2) < 4294967296) {g cap : Nat} {cur : List Value} (hok : RowOk 5 (some ⟨g, cap, cur⟩) (C.vl i) (C.memsD i (C.vl i) vs)) (hg : w.heap[g]? = some (.cells cur.toArray 99 (0, 0))) (hv8 : C.vl i ≤ 8) (hvs : vs.length = C.vl i) (rv : ∀ j v, vs[j]? = some v → C.Ref x.M (C.ex i (3 * j + 1)) v) (hcell : w.heap[b]? = some (.cells [C.sv (C.nm i), .int .u32 (C.sz i : Nat), .slice (some ⟨g, 0, none⟩) (C.vl i) cap, .slice none 0 0].toArray E (0, 0)))
    (J : ∀ row : Option Row, RowOk 5 row (C.tp i).mems.length ((C.tp i).mems.flatMap cellsM) → SK noS w 378 [] ((b4, true, .cells (cellsT (C.tp i) (rowV row (C.tp i).mems.length)).toArray 32 (0, 0)) :: (rowH 64 row ++ [])) [(4, .pointer (some ⟨b4, 0, none⟩))] (Q .ret)) :
    SW none Tryz.prog noS w 378 [] [(b4, true, .cells #[.int .i64 0, .string ⟨#[]⟩, .int .i64 0, .int .i64 0, .int .i64 0, .int .i64 0, .int .i64 0, .slice none 0 0] 32 (0, 0)), (b3, true, .cells #[.func (.func 15) #[] #[.pointer (some ⟨sc, 0, none⟩)]] 52 (0, 0))] [(89, .pointer (some ⟨b, 0, none⟩)), (4, .pointer (some ⟨b4, 0, none⟩)), (5, .func (.func 35) #[] #[.pointer (some ⟨b3, 0, none⟩)])] (sub [1, 1, 0, 1, 0, 1, 1, 1, 1, 1, 1, 1, 0] (cd Tryz.f14)) Q := by
 have htp : C.tp i = ⟨4, (C.nam (C.nm i)), ((C.sz i : Nat) : Int), 0, 0, 0, 0, (List.range (C.vl i)).map (C.mem i)⟩ := by unfold Cx.tp; simp [hkd]
 rw [htp] at J
 refine SR fun _ k1 => ?_
 refine Ah ?_
 refine SN k1 ?_
 refine Ek [9, 4, 5] ?_
 refine Sq fun _ k2 => ?_
 refine SW_da mixed ?_
 refine Ym 0 ?_
 refine Yn 1 ?_
 refine Yf 2 underlying113 sz9 ?_
 refine Y1 3 92 rfl rfl (fun e H he hH => O_load0 rfl (Eh he) oc9 (fun h => h) (cell_of_obj hcell rfl)) ?_
 refine Ym 4 ?_
 refine Yn 5 ?_
 refine Yf 6 underlying113 sz73 ?_
 refine Y1 7 96 rfl rfl (fun e H he hH => O_load0 rfl (Eh he) oc73 (fun h => h) (cell_of_obj hcell rfl)) ?_
 refine Y1 8 97 rfl rfl (fun e H he hH => O_convert rfl (Eh he) (r := .int .i64 ((C.sz i : Nat) : Int)) (fun _ => c_int ⟨_, underlying73⟩ underlying3 (wrap_i64n _ om))) ?_
 refine Ym 9 ?_
 refine Ym 10 ?_
 refine Yn 11 ?_
 refine Yf 12 underlying113 sz96 ?_
 refine Y1 13 102 rfl rfl (fun e H he hH => O_load0 rfl (Eh he) oc96 (fun h => h) (cell_of_obj hcell rfl)) ?_
 refine Ys 14 ?_
 refine Cand.mk (j := 14) [(99, _), (103, _)] rfl (.cons (t := 99) (.o rfl) (.cons (t := 103) .hit .nil)) (fun e he => O_call (xs := [.tmp 103]) (cap := [.pointer (some ⟨b3, 0, none⟩)]) (val := fun r : Option Row => rowV r (C.vl i)) (Hf := fun r => (b4, true, .cells #[.int .i64 0, .string ⟨#[]⟩, .int .i64 0, .int .i64 0, .int .i64 0, .int .i64 0, .int .i64 0, .slice none 0 0] 32 (0, 0)) :: (b3, true, .cells #[.func (.func 15) #[] #[.pointer (some ⟨sc, 0, none⟩)]] 52 (0, 0)) :: (rowH 64 r ++ [])) (good := fun r => RowOk 5 r (C.vl i) (C.memsM i (C.vl i))) rfl (.tmp (he.get .hit)) (.cons (.tmp (he.get (.o rfl))) .nil) func35 rfl rfl (fun w1 hw => (f35_ok (hN.ext hw.ext) hb30 om hv8 hx32 hok hvs rv (heap_ext hw.ext hg) (hw.at_ .a)).mono (fun {q w2} h => by obtain ⟨r, h1, h2, h3⟩ := h; exact ⟨r, h1, h2, (hw.fresh h3).weaken (by cases r <;> exact HSub.a)⟩))) (fun _ _ h => h) kr ?_
 intro r hr
 refine ⟨⟨.inl kr, .inr .nil, .inr .nil, .inr .nil, .inl kr, .inr .nil, .inr .nil, .inr .nil, .inr .nil, .inr .nil, .inr .nil, .inr .nil, .inr .nil, .inr .nil, trivial⟩, ?_⟩
 refine Y3 15 93 98 104 rfl rfl rfl rfl (fun e H he hH => O_build (pv := [(0, _), (1, _), (2, _), (7, _)]) (r := .agg #[.int .i64 4, .string (C.nam (C.nm i)), .int .i64 (((C.sz i : Nat) : Int)), .int .i64 (0), .int .i64 (0), .int .i64 (0), .int .i64 (0), rowV r (C.vl i)]) rfl (.cons .const (.cons (Eh he) (.cons (Eo he) (.cons (Eo he) .nil)))) (fun w => run_build w _ _ _ (by cases r <;> kernel_rfl))) ?_
 refine Ys 16 ?_
 refine Cand.mk (j := 16) [(4, _), (105, _)] (β := Unit) (good := fun _ => True) (val := fun _ => undef) (Hf := fun _ => _) rfl (.cons (t := 4) (.o rfl) (.cons (t := 105) .hit .nil)) (fun e he => O_storeA (vs := [_, _, _, _, _, _, _, _]) (.tmp (he.get .hit)) (.tmp (he.get (.o rfl))) Q20 sz32 rfl .a dc rfl) (fun _ _ h => h () trivial) kr (fun _ _ => ⟨⟨.inl kr, .inl kr, .inl kr, .inl kr, .inl kr, .inl kr, .inl kr, .inl kr, .inl kr, .inl kr, .inl kr, .inl kr, .inl kr, trivial⟩, ?_⟩)
 refine Ye ?_
 refine So k2 ?_
 refine Rt ?_
 refine Pl3 ?_
 exact (J r Q35).weaken (Ek1 rfl) Q28

theorem td5_ok {C : Cx} {B : List Nat} {x : St} {sp sc : Nat} {w : World} (hN : C.Num B x sp sc w) (hb30 : C.N ≤ 30) {i b3 b4 b : Nat} {E : TypeId} {Q : Exit → Act → World → Prop} (hkd : C.kd i = 5) (hsz : C.sz i < 4294967296) {vs : List Value} (hx32 : ∀ j, j < C.vl i → C.ex i (3 * j + 2) < 4294967296) {g cap : Nat} {cur : List Value} (hok : RowOk 5 (some ⟨g, cap, cur⟩) (C.vl i) (C.memsD i (C.vl i) vs)) (hg : w.heap[g]? = some (.cells cur.toArray 99 (0, 0))) (hv8 : C.vl i ≤ 8) (hvs : vs.length = C.vl i) (rv : ∀ j v, vs[j]? = some v → C.Ref x.M (C.ex i (3 * j + 1)) v) (hcell : w.heap[b]? = some (.cells [C.sv (C.nm i), .int .u32 (C.sz i : Nat), .slice (some ⟨g, 0, none⟩) (C.vl i) cap, .slice none 0 0].toArray E (0, 0)))
    (J : ∀ row : Option Row, RowOk 5 row (C.tp i).mems.length ((C.tp i).mems.flatMap cellsM) → SK noS w 378 [] ((b4, true, .cells (cellsT (C.tp i) (rowV row (C.tp i).mems.length)).toArray 32 (0, 0)) :: (rowH 64 row ++ [])) [(4, .pointer (some ⟨b4, 0, none⟩))] (Q .ret)) :
    SW none Tryz.prog noS w 378 [] [(b4, true, .cells #[.int .i64 0, .string ⟨#[]⟩, .int .i64 0, .int .i64 0, .int .i64 0, .int .i64 0, .int .i64 0, .slice none 0 0] 32 (0, 0)), (b3, true, .cells #[.func (.func 15) #[] #[.pointer (some ⟨sc, 0, none⟩)]] 52 (0, 0))] [(108, .pointer (some ⟨b, 0, none⟩)), (4, .pointer (some ⟨b4, 0, none⟩)), (5, .func (.func 35) #[] #[.pointer (some ⟨b3, 0, none⟩)])] (sub [1, 1, 0, 1, 0, 1, 1, 1, 1, 1, 1, 1, 1, 1, 0] (cd Tryz.f14)) Q := by
 have htp : C.tp i = ⟨5, (C.nam (C.nm i)), ((C.sz i : Nat) : Int), 0, 0, 0, 0, (List.range (C.vl i)).map (C.mem i)⟩ := by unfold Cx.tp; simp [hkd]
 rw [htp] at J
 refine SR fun _ k1 => ?_
 refine Ah ?_
 refine SN k1 ?_
 refine Ek [10, 4, 5] ?_
 refine Sq fun _ k2 => ?_
 refine SW_da mixed ?_
 refine Ym 0 ?_
 refine Yn 1 ?_
 refine Yf 2 underlying115 sz9 ?_
 refine Y1 3 111 rfl rfl (fun e H he hH => O_load0 rfl (Eh he) oc9 (fun h => h) (cell_of_obj hcell rfl)) ?_
 refine Ym 4 ?_
 refine Yn 5 ?_
 refine Yf 6 underlying115 sz73 ?_
 refine Y1 7 115 rfl rfl (fun e H he hH => O_load0 rfl (Eh he) oc73 (fun h => h) (cell_of_obj hcell rfl)) ?_
 refine Y1 8 116 rfl rfl (fun e H he hH => O_convert rfl (Eh he) (r := .int .i64 ((C.sz i : Nat) : Int)) (fun _ => c_int ⟨_, underlying73⟩ underlying3 (wrap_i64n _ om))) ?_
 refine Ym 9 ?_
 refine Ym 10 ?_
 refine Yn 11 ?_
 refine Yf 12 underlying115 sz96 ?_
 refine Y1 13 121 rfl rfl (fun e H he hH => O_load0 rfl (Eh he) oc96 (fun h => h) (cell_of_obj hcell rfl)) ?_
 refine Ys 14 ?_
 refine Cand.mk (j := 14) [(118, _), (122, _)] rfl (.cons (t := 118) (.o rfl) (.cons (t := 122) .hit .nil)) (fun e he => O_call (xs := [.tmp 122]) (cap := [.pointer (some ⟨b3, 0, none⟩)]) (val := fun r : Option Row => rowV r (C.vl i)) (Hf := fun r => (b4, true, .cells #[.int .i64 0, .string ⟨#[]⟩, .int .i64 0, .int .i64 0, .int .i64 0, .int .i64 0, .int .i64 0, .slice none 0 0] 32 (0, 0)) :: (b3, true, .cells #[.func (.func 15) #[] #[.pointer (some ⟨sc, 0, none⟩)]] 52 (0, 0)) :: (rowH 64 r ++ [])) (good := fun r => RowOk 5 r (C.vl i) (C.memsM i (C.vl i))) rfl (.tmp (he.get .hit)) (.cons (.tmp (he.get (.o rfl))) .nil) func35 rfl rfl (fun w1 hw => (f35_ok (hN.ext hw.ext) hb30 om hv8 hx32 hok hvs rv (heap_ext hw.ext hg) (hw.at_ .a)).mono (fun {q w2} h => by obtain ⟨r, h1, h2, h3⟩ := h; exact ⟨r, h1, h2, (hw.fresh h3).weaken (by cases r <;> exact HSub.a)⟩))) (fun _ _ h => h) kr ?_
 intro r hr
 refine ⟨⟨.inl kr, .inr .nil, .inr .nil, .inr .nil, .inl kr, .inr .nil, .inr .nil, .inr .nil, .inr .nil, .inr .nil, .inr .nil, .inr .nil, .inr .nil, .inr .nil, trivial⟩, ?_⟩
 refine Y3 15 112 117 123 rfl rfl rfl rfl (fun e H he hH => O_build (pv := [(0, _), (1, _), (2, _), (7, _)]) (r := .agg #[.int .i64 5, .string (C.nam (C.nm i)), .int .i64 (((C.sz i : Nat) : Int)), .int .i64 (0), .int .i64 (0), .int .i64 (0), .int .i64 (0), rowV r (C.vl i)]) rfl (.cons .const (.cons (Eh he) (.cons (Eo he) (.cons (Eo he) .nil)))) (fun w => run_build w _ _ _ (by cases r <;> kernel_rfl))) ?_
 refine Ys 16 ?_
 refine Cand.mk (j := 16) [(4, _), (124, _)] (β := Unit) (good := fun _ => True) (val := fun _ => undef) (Hf := fun _ => _) rfl (.cons (t := 4) (.o rfl) (.cons (t := 124) .hit .nil)) (fun e he => O_storeA (vs := [_, _, _, _, _, _, _, _]) (.tmp (he.get .hit)) (.tmp (he.get (.o rfl))) Q20 sz32 rfl .a dc rfl) (fun _ _ h => h () trivial) kr (fun _ _ => ⟨⟨.inl kr, .inl kr, .inl kr, .inl kr, .inl kr, .inl kr, .inl kr, .inl kr, .inl kr, .inl kr, .inl kr, .inl kr, .inl kr, trivial⟩, ?_⟩)
 refine Ye ?_
 refine So k2 ?_
 refine Rt ?_
 refine Pl3 ?_
 exact (J r Q35).weaken (Ek1 rfl) Q28
end
end Go.Proofs.YtoibhfpagkdleaaGreatDoor
