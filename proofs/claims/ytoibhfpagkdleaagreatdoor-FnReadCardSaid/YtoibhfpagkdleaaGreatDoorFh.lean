/-
  CONTRACTS: the sort of numbers, bounds alone.
-/
import Derived.Test.YtoibhfpagkdleaaGreatDoorFg
namespace Go.Proofs.YtoibhfpagkdleaaGreatDoor
section
open Go
open Tryz
set_option maxRecDepth 100000

theorem f118_ok (x : Int) (w : World) : Calls Tryz.prog 118 #[.int .u64 x] w (fun r w' => r = .returned (.bool false) ∧ Ext noS w w') := by
 refine sw_calls (S := noS) func118 rfl ntmps118 (sees1 _ _ rfl) (Holds.start _ _) ?_
 refine SR fun _ k1 => ?_
 refine Ac ?_
 refine SN k1 ?_
 refine SR fun _ k2 => ?_
 refine Mo ?_
 refine Mo ?_
 refine Sc (O_binOp rfl (.tmp (.o rfl)) (.tmp .hit) (fun _ => b_neq _ _ _ false Q22)) ?_
 refine Ah ?_
 refine SN k2 ?_
 refine Rt ?_
 exact SK_ret1 rfl .hit (fun w hw => ⟨rfl, hw.ext⟩)

theorem f108_ok (x y : Int) (w : World) : Calls Tryz.prog 108 #[.int .u64 x, .int .u64 y] w (fun r w' => r = .returned (.bool (decide (x < y))) ∧ Ext noS w w') := by
 refine sw_calls (S := noS) func108 rfl ntmps108 (sees2 _ _ _ rfl) (Holds.start _ _) ?_
 refine SR fun _ k1 => ?_
 refine Ac ?_
 refine SN k1 ?_
 refine SR fun _ k2 => ?_
 refine Mo ?_
 refine Sc (O_callE (xs := [.tmp 5]) (cap := []) rfl .func (.cons (.tmp .hit) .nil) func118 rfl rfl (fun w hw => f118_ok _ w)) ?_
 refine Mh ?_
 refine Uo (Uo (Uo ?_))
 refine Sc Opg ?_
 refine Mh ?_
 refine Wo Omo ?_
 refine Wo Omo ?_
 refine Wo (O_binOp rfl (.tmp (.o rfl)) (.tmp .hit) (fun _ => b_lss _ _ _ _ rfl)) ?_
 refine Sc Opf ?_
 refine Ah ?_
 refine SN k2 ?_
 refine Rt ?_
 exact SK_ret1 rfl .hit (fun w hw => ⟨rfl, hw.ext⟩)

theorem f102_ok (b len cap : Nat) (rest : List Value) (l : List Int) (w : World) (hb : w.heap[b]? = some (u64o l rest)) (hl : l.length = len) (h40 : len ≤ 40) (a c : Int) (ha : 0 ≤ a) (hac : a ≤ c) (hc : c ≤ len)  : Calls Tryz.prog 102 #[.slice (some ⟨b, 0, none⟩) len cap, .int .i64 a, .int .i64 c] w (fun r w' => ∃ z : List Int, r = .returned (.tuple #[]) ∧ (z.length = len) ∧ Ext (· = b) w w' ∧ w'.heap[b]? = some (u64o z rest)) := by
 refine sw_calls (S := (· = b)) func102 rfl ntmps102 (sees3 _ _ _ _ rfl) (Holds.start1w _ hb) ?_
 refine SR fun _ k1 => ?_
 refine Mo ?_
 refine Sc (O_binOp rfl (.tmp .hit) .const (fun _ => b_add _ _ _ rfl oz oz)) ?_
 refine Ah ?_
 refine SN k1 ?_
 refine Bl ?_
 refine SW_loop (α := Int × List Int) (fun x => a + 1 ≤ x.1 ∧ x.1 ≤ c + 1 ∧ x.2.length = len) (fun x => (c - x.1).toNat) (fun x => [(b, true, u64o x.2 rest)]) (fun x => [(6, .int .i64 x.1), (0, .slice (some ⟨b, 0, none⟩) len cap), (1, .int .i64 a), (2, .int .i64 c)]) (a + 1, l) ⟨by dsimp only; omega, by dsimp only; omega, hl⟩ .a (SW_range.HSub.all _) ?_
 rintro ⟨i, l⟩ ⟨hi1, hi2, hl⟩
 dsimp only at hi1 hi2 hl
 dsimp only
 refine Sq fun _ k2 => ?_
 refine SR fun _ k3 => ?_
 refine Mh ?_
 refine Mo ?_
 refine Sc (O_binOp rfl (.tmp (.o rfl)) (.tmp .hit) (fun _ => b_lss _ _ _ _ rfl)) ?_
 refine SN k3 ?_
 refine Sd ?_ ?_
 ·
  refine Ci fun ht12 => ?_
  refine SS k2 ?_
  refine Ek [6, 0, 1, 2] ?_
  refine Sq fun _ k4 => ?_
  refine Bl ?_
  refine SR fun _ k5 => ?_
  refine Mh ?_
  refine Ah ?_
  refine SN k5 ?_
  refine Bl ?_
  refine SW_loop (α := Int × List Int) (fun x => a ≤ x.1 ∧ x.1 ≤ i ∧ x.2.length = len) (fun x => x.1.toNat) (fun x => [(b, true, u64o x.2 rest)]) (fun x => [(7, .int .i64 x.1), (0, .slice (some ⟨b, 0, none⟩) len cap), (1, .int .i64 a), (2, .int .i64 c), (6, .int .i64 i)]) (i, l) ⟨by dsimp only; omega, by dsimp only; omega, hl⟩ .a (SW_range.HSub.all _) ?_
  rintro ⟨j, l⟩ ⟨hj1, hj2, hl⟩
  dsimp only at hj1 hj2 hl
  dsimp only
  refine Sq fun _ k6 => ?_
  refine Sq fun _ k7 => ?_
  refine SW_da mixed ?_
  refine Ym 0 ?_
  refine Ym 1 ?_
  refine Y2 2 16 17 rfl rfl rfl (fun e H he hH => O_binOp rfl (Eh he) (Eo he) (fun _ => b_gtr _ _ _ _ rfl)) ?_
  refine Ym 3 ?_
  refine Yb ?_ ?_
  ·
   refine Ci fun hs19 => ?_
   refine Yt2 4 0 19 rfl rfl rfl (fun e H he hH => O_move rfl (Eh he)) rfl (.o rfl) ?_
   refine Yt2 5 7 19 rfl rfl rfl (fun e H he hH => O_move rfl (Eh he)) rfl (.o rfl) ?_
   refine Yt3 6 19 20 21 rfl rfl rfl rfl (fun e H he hH => O_indexAddr rfl (Eo he) (Eo he) underlying242 sz246 oz oz) rfl .hit ?_
   refine Yt2f 7 19 22 rfl rfl rfl .a (fun e H he hH => O_load rfl (Eo he) oc246 (hH.get .hit) (rd _ oz)) rfl .hit ?_
   refine Yt2 8 0 19 rfl rfl rfl (fun e H he hH => O_move rfl (Eh he)) rfl (.o rfl) ?_
   refine Yt2 9 7 19 rfl rfl rfl (fun e H he hH => O_move rfl (Eh he)) rfl (.o rfl) ?_
   refine Yt2 10 19 25 rfl rfl rfl (fun e H he hH => O_binOp rfl (Eo he) .const (fun _ => b_sub _ _ _ rfl oz oz)) rfl .hit ?_
   refine Yt3 11 19 24 26 rfl rfl rfl rfl (fun e H he hH => O_indexAddr rfl (Eo he) (Eo he) underlying242 sz246 oz oz) rfl .hit ?_
   refine Yt2f 12 19 27 rfl rfl rfl .a (fun e H he hH => O_load rfl (Eo he) oc246 (hH.get .hit) (rd _ oz)) rfl .hit ?_
   refine Yt3 13 19 23 28 rfl rfl rfl rfl (fun e H he hH => O_callE (xs := [.tmp 23, .tmp 28]) (cap := []) rfl .func (.cons (Eo he) (.cons (Eo he) .nil)) func108 rfl rfl (fun w hw => f108_ok _ _ w)) rfl .hit ?_
   refine Y2 14 19 29 rfl rfl rfl (fun e H he hH => O_pickT rfl (Eh he) (Eo he)) ?_
   refine Ye ?_
   refine So k7 ?_
   refine Sd ?_ ?_
   ·
    refine Ci fun ht30 => ?_
    refine SS k6 ?_
    refine Ek [7, 0, 1, 2, 6] ?_
    refine Sq fun _ k8 => ?_
    refine Bl ?_
    refine SW_da mixed ?_
    refine Ym 0 ?_
    refine Ym 1 ?_
    refine Ym 2 ?_
    refine Ym 3 ?_
    refine Y1 4 36 rfl rfl (fun e H he hH => O_binOp rfl (Eh he) .const (fun _ => b_sub _ _ _ rfl oz oz)) ?_
    refine Ym 5 ?_
    refine Ym 6 ?_
    refine Y1 7 39 rfl rfl (fun e H he hH => O_binOp rfl (Eh he) .const (fun _ => b_sub _ _ _ rfl oz oz)) ?_
    refine Yi 8 38 40 rfl rfl rfl underlying242 sz246 ?_
    refine Y1f 9 41 rfl rfl .a (fun e H he hH => O_load rfl (Eh he) oc246 (hH.get .hit) (rd _ oz)) ?_
    refine Ym 10 ?_
    refine Ym 11 ?_
    refine Yi 12 43 44 rfl rfl rfl underlying242 sz246 ?_
    refine Y1f 13 45 rfl rfl .a (fun e H he hH => O_load rfl (Eh he) oc246 (hH.get .hit) (rd _ oz)) ?_
    refine Yi 14 33 34 rfl rfl rfl underlying242 sz246 ?_
    refine Ys 15 ?_
    refine Cand.mk (j := 15) [(42, _), (47, _)] (β := Unit) (good := fun _ => True) (val := fun _ => undef) (Hf := fun _ => _) rfl (.cons (t := 42) (.o rfl) (.cons (t := 47) .hit .nil)) (fun e he => O_store (.tmp (he.get (.o rfl))) (.tmp (he.get .hit)) rfl sz246 .a (ls _ oz)) (fun _ _ h => h () trivial) kr (fun _ _ => ⟨⟨.inl kr, .inl kr, .inr .nil, .inr .nil, .inr .nil, .inl kr, .inl kr, .inl kr, .inl kr, .inl kr, .inr .nil, .inr .nil, .inr .nil, .inl kr, .inl kr, trivial⟩, ?_⟩)
    refine Yi 16 35 37 rfl rfl rfl underlying242 sz246 ?_
    refine Ys 17 ?_
    refine Cand.mk (j := 17) [(46, _), (48, _)] (β := Unit) (good := fun _ => True) (val := fun _ => undef) (Hf := fun _ => _) rfl (.cons (t := 46) (.o rfl) (.cons (t := 48) .hit .nil)) (fun e he => O_store (.tmp (he.get (.o rfl))) (.tmp (he.get .hit)) rfl sz246 .a (ls _ oz)) (fun _ _ h => h () trivial) kr (fun _ _ => ⟨⟨.inl kr, .inl kr, .inl kr, .inl kr, .inl kr, .inl kr, .inl kr, trivial⟩, ?_⟩)
    refine Ye ?_
    refine So k8 ?_
    refine Sr ?_
    refine Mo ?_
    refine Sc (O_binOp rfl (.tmp .hit) .const (fun _ => b_sub _ _ _ rfl oz oz)) ?_
    refine Ah ?_
    refine Sn ?_
    refine Pl1 ?_
    exact fun _ _ ha hw => ⟨(j - 1, _), (by show (j - 1).toNat < j.toNat; omega), ⟨by omega, by omega, Q7⟩, ha.weaken (Ek5 rfl rfl rfl rfl rfl), hw.weaken (SW_range.HSub.all _)⟩
   refine Ci fun ht30 => ?_
   refine Xt ?_
   refine So k4 ?_
   refine Sr ?_
   refine Mo ?_
   refine Sc (O_binOp rfl (.tmp .hit) .const (fun _ => b_add _ _ _ rfl oz oz)) ?_
   refine Ah ?_
   refine Sn ?_
   refine Pl1 ?_
   exact fun _ _ ha hw => ⟨(i + 1, _), (by show (c - (i + 1)).toNat < (c - i).toNat; omega), ⟨by omega, by omega, Q7⟩, ha.weaken (Ek4 rfl rfl rfl rfl), hw.weaken (SW_range.HSub.all _)⟩
  refine Ci fun hs19 => ?_
  refine YF 4 3 ?_
  refine YF 5 3 ?_
  refine YF 6 3 ?_
  refine YF 7 3 ?_
  refine YF 8 3 ?_
  refine YF 9 3 ?_
  refine YF 10 3 ?_
  refine YF 11 3 ?_
  refine YF 12 3 ?_
  refine YF 13 3 ?_
  refine Y2 14 19 29 rfl rfl rfl (fun e H he hH => O_pickF rfl (Eh he) .const) ?_
  refine Ye ?_
  refine So k7 ?_
  refine Fh ?_
  refine Xt ?_
  refine So k4 ?_
  refine Sr ?_
  refine Mo ?_
  refine Sc (O_binOp rfl (.tmp .hit) .const (fun _ => b_add _ _ _ rfl oz oz)) ?_
  refine Ah ?_
  refine Sn ?_
  refine Pl1 ?_
  exact fun _ _ ha hw => ⟨(i + 1, _), (by show (c - (i + 1)).toNat < (c - i).toNat; omega), ⟨by omega, by omega, Q7⟩, ha.weaken (Ek4 rfl rfl rfl rfl), hw.weaken (SW_range.HSub.all _)⟩
 refine Ci fun ht12 => ?_
 refine Xt ?_
 refine Pl3 ?_
 exact SK_end0 (fn := Tryz.f102) rfl (fun w hw => ⟨_, rfl, Q7, hw.ext, hw.at_ .a⟩)

theorem f113_ok (b len cap : Nat) (rest : List Value) (l : List Int) (w : World) (hb : w.heap[b]? = some (u64o l rest)) (hl : l.length = len) (h40 : len ≤ 40) (lo hi fst : Int) (h0 : 0 ≤ lo) (h1 : lo ≤ 40) (h2 : 0 ≤ fst) (h3 : 0 ≤ hi) (h4 : fst + hi ≤ len)  : Calls Tryz.prog 113 #[.slice (some ⟨b, 0, none⟩) len cap, .int .i64 lo, .int .i64 hi, .int .i64 fst] w (fun r w' => ∃ z : List Int, r = .returned (.tuple #[]) ∧ (z.length = len) ∧ Ext (· = b) w w' ∧ w'.heap[b]? = some (u64o z rest)) := by
 refine sw_calls (S := (· = b)) func113 rfl ntmps113 (sees4 _ _ _ _ _ rfl) (Holds.start1w _ hb) ?_
 refine SR fun _ k1 => ?_
 refine Mo ?_
 refine Ah ?_
 refine SN k1 ?_
 refine Bl ?_
 refine SW_loop (α := Int × List Int) (fun x => 0 ≤ x.1 ∧ x.1 ≤ 40 ∧ x.2.length = len) (fun x => (hi - x.1).toNat) (fun x => [(b, true, u64o x.2 rest)]) (fun x => [(8, .int .i64 x.1), (0, .slice (some ⟨b, 0, none⟩) len cap), (2, .int .i64 hi), (3, .int .i64 fst)]) (lo, l) ⟨by dsimp only; omega, by dsimp only; omega, hl⟩ .a (SW_range.HSub.all _) ?_
 rintro ⟨i, l⟩ ⟨hi1, hi2, hl⟩
 dsimp only at hi1 hi2 hl
 dsimp only
 refine Bl ?_
 refine SR fun _ k2 => ?_
 refine Mh ?_
 refine Sc (O_binOp rfl .const (.tmp .hit) (fun _ => b_mul _ _ _ rfl oz oz)) ?_
 refine Sc (O_binOp rfl (.tmp .hit) .const (fun _ => b_add _ _ _ rfl oz oz)) ?_
 refine Ah ?_
 refine SN k2 ?_
 refine Ek [9, 8, 0, 2, 3] ?_
 refine Sq fun _ k3 => ?_
 refine SR fun _ k4 => ?_
 refine Mh ?_
 refine Mo ?_
 refine Sc (O_binOp rfl (.tmp (.o rfl)) (.tmp .hit) (fun _ => b_geq _ _ _ _ rfl)) ?_
 refine SN k4 ?_
 refine Sd ?_ ?_
 ·
  refine Ci fun ht16 => ?_
  refine Xt ?_
  refine Pl3 ?_
  exact SK_end0 (fn := Tryz.f113) rfl (fun w hw => ⟨_, rfl, Q7, hw.ext, hw.at_ .a⟩)
 refine Ci fun ht16 => ?_
 refine SS k3 ?_
 refine Ek [9, 8, 0, 2, 3] ?_
 refine Sq fun _ k5 => ?_
 refine Sq fun _ k6 => ?_
 refine SW_da mixed ?_
 refine Ym 0 ?_
 refine Y1 1 17 rfl rfl (fun e H he hH => O_binOp rfl (Eh he) .const (fun _ => b_add _ _ _ rfl oz oz)) ?_
 refine Ym 2 ?_
 refine Y2 3 18 19 rfl rfl rfl (fun e H he hH => O_binOp rfl (Eh he) (Eo he) (fun _ => b_lss _ _ _ _ rfl)) ?_
 refine Ym 4 ?_
 refine Yb ?_ ?_
 ·
  refine Ci fun hs21 => ?_
  refine Yt2 5 0 21 rfl rfl rfl (fun e H he hH => O_move rfl (Eh he)) rfl (.o rfl) ?_
  refine Yt2 6 3 21 rfl rfl rfl (fun e H he hH => O_move rfl (Eh he)) rfl (.o rfl) ?_
  refine Yt2 7 9 21 rfl rfl rfl (fun e H he hH => O_move rfl (Eh he)) rfl (.o rfl) ?_
  refine Yt3 8 21 23 24 rfl rfl rfl rfl (fun e H he hH => O_binOp rfl (Eo he) (Eo he) (fun _ => b_add _ _ _ rfl oz oz)) rfl .hit ?_
  refine Yt3 9 21 22 25 rfl rfl rfl rfl (fun e H he hH => O_indexAddr rfl (Eo he) (Eo he) underlying242 sz246 oz oz) rfl .hit ?_
  refine Yt2f 10 21 26 rfl rfl rfl .a (fun e H he hH => O_load rfl (Eo he) oc246 (hH.get .hit) (rd _ oz)) rfl .hit ?_
  refine Yt2 11 0 21 rfl rfl rfl (fun e H he hH => O_move rfl (Eh he)) rfl (.o rfl) ?_
  refine Yt2 12 3 21 rfl rfl rfl (fun e H he hH => O_move rfl (Eh he)) rfl (.o rfl) ?_
  refine Yt2 13 9 21 rfl rfl rfl (fun e H he hH => O_move rfl (Eh he)) rfl (.o rfl) ?_
  refine Yt3 14 21 29 30 rfl rfl rfl rfl (fun e H he hH => O_binOp rfl (Eo he) (Eo he) (fun _ => b_add _ _ _ rfl oz oz)) rfl .hit ?_
  refine Yt2 15 21 31 rfl rfl rfl (fun e H he hH => O_binOp rfl (Eo he) .const (fun _ => b_add _ _ _ rfl oz oz)) rfl .hit ?_
  refine Yt3 16 21 28 32 rfl rfl rfl rfl (fun e H he hH => O_indexAddr rfl (Eo he) (Eo he) underlying242 sz246 oz oz) rfl .hit ?_
  refine Yt2f 17 21 33 rfl rfl rfl .a (fun e H he hH => O_load rfl (Eo he) oc246 (hH.get .hit) (rd _ oz)) rfl .hit ?_
  refine Yt3 18 21 27 34 rfl rfl rfl rfl (fun e H he hH => O_callE (xs := [.tmp 27, .tmp 34]) (cap := []) rfl .func (.cons (Eo he) (.cons (Eo he) .nil)) func108 rfl rfl (fun w hw => f108_ok _ _ w)) rfl .hit ?_
  refine Y2 19 21 35 rfl rfl rfl (fun e H he hH => O_pickT rfl (Eh he) (Eo he)) ?_
  refine Ye ?_
  refine So k6 ?_
  refine Sd ?_ ?_
  ·
   refine Ci fun ht36 => ?_
   refine Sr ?_
   refine Mo ?_
   refine Sc (O_binOp rfl (.tmp .hit) .const (fun _ => b_add _ _ _ rfl oz oz)) ?_
   refine Ah ?_
   refine SN k5 ?_
   refine Ek [9, 8, 0, 2, 3] ?_
   refine Sq fun _ k7 => ?_
   refine Sq fun _ k8 => ?_
   refine SW_da mixed ?_
   refine Ym 0 ?_
   refine Ym 1 ?_
   refine Ym 2 ?_
   refine Y2 3 40 41 rfl rfl rfl (fun e H he hH => O_binOp rfl (Eh he) (Eo he) (fun _ => b_add _ _ _ rfl oz oz)) ?_
   refine Yi 4 39 42 rfl rfl rfl underlying242 sz246 ?_
   refine Y1f 5 43 rfl rfl .a (fun e H he hH => O_load rfl (Eh he) oc246 (hH.get .hit) (rd _ oz)) ?_
   refine Ym 6 ?_
   refine Ym 7 ?_
   refine Ym 8 ?_
   refine Y2 9 46 47 rfl rfl rfl (fun e H he hH => O_binOp rfl (Eh he) (Eo he) (fun _ => b_add _ _ _ rfl oz oz)) ?_
   refine Yi 10 45 48 rfl rfl rfl underlying242 sz246 ?_
   refine Y1f 11 49 rfl rfl .a (fun e H he hH => O_load rfl (Eh he) oc246 (hH.get .hit) (rd _ oz)) ?_
   refine Y2 12 44 50 rfl rfl rfl (fun e H he hH => O_callE (xs := [.tmp 44, .tmp 50]) (cap := []) rfl .func (.cons (Eh he) (.cons (Eo he) .nil)) func108 rfl rfl (fun w hw => f108_ok _ _ w)) ?_
   refine Y1 13 51 rfl rfl (fun e H he hH => O_unOp rfl (Eh he) (fun _ => rfl)) ?_
   refine Ye ?_
   refine So k8 ?_
   refine Sd ?_ ?_
   ·
    refine Ci fun ht52 => ?_
    refine Rt ?_
    refine Pl0 ?_
    refine Pl3 ?_
    exact SK_ret0 (fn := Tryz.f113) rfl (fun w hw => ⟨_, rfl, Q7, hw.ext, hw.at_ .a⟩)
   refine Ci fun ht52 => ?_
   refine SS k7 ?_
   refine Ek [9, 8, 0, 2, 3] ?_
   refine Sq fun _ k9 => ?_
   refine SW_da mixed ?_
   refine Ym 0 ?_
   refine Ym 1 ?_
   refine Ym 2 ?_
   refine Y2 3 54 55 rfl rfl rfl (fun e H he hH => O_binOp rfl (Eh he) (Eo he) (fun _ => b_add _ _ _ rfl oz oz)) ?_
   refine Ym 4 ?_
   refine Ym 5 ?_
   refine Ym 6 ?_
   refine Y2 7 58 59 rfl rfl rfl (fun e H he hH => O_binOp rfl (Eh he) (Eo he) (fun _ => b_add _ _ _ rfl oz oz)) ?_
   refine Ym 8 ?_
   refine Ym 9 ?_
   refine Ym 10 ?_
   refine Y2 11 62 63 rfl rfl rfl (fun e H he hH => O_binOp rfl (Eh he) (Eo he) (fun _ => b_add _ _ _ rfl oz oz)) ?_
   refine Yi 12 61 64 rfl rfl rfl underlying242 sz246 ?_
   refine Y1f 13 65 rfl rfl .a (fun e H he hH => O_load rfl (Eh he) oc246 (hH.get .hit) (rd _ oz)) ?_
   refine Ym 14 ?_
   refine Ym 15 ?_
   refine Ym 16 ?_
   refine Y2 17 68 69 rfl rfl rfl (fun e H he hH => O_binOp rfl (Eh he) (Eo he) (fun _ => b_add _ _ _ rfl oz oz)) ?_
   refine Yi 18 67 70 rfl rfl rfl underlying242 sz246 ?_
   refine Y1f 19 71 rfl rfl .a (fun e H he hH => O_load rfl (Eh he) oc246 (hH.get .hit) (rd _ oz)) ?_
   refine Yi 20 53 56 rfl rfl rfl underlying242 sz246 ?_
   refine Ys 21 ?_
   refine Cand.mk (j := 21) [(66, _), (73, _)] (β := Unit) (good := fun _ => True) (val := fun _ => undef) (Hf := fun _ => _) rfl (.cons (t := 66) (.o rfl) (.cons (t := 73) .hit .nil)) (fun e he => O_store (.tmp (he.get (.o rfl))) (.tmp (he.get .hit)) rfl sz246 .a (ls _ oz)) (fun _ _ h => h () trivial) kr (fun _ _ => ⟨⟨.inl kr, .inl kr, .inr .nil, .inr .nil, .inr .nil, .inr .nil, .inr .nil, .inl kr, .inl kr, .inl kr, .inl kr, .inl kr, .inl kr, .inr .nil, .inr .nil, .inr .nil, .inr .nil, .inl kr, .inl kr, .inl kr, .inl kr, trivial⟩, ?_⟩)
   refine Yi 22 57 60 rfl rfl rfl underlying242 sz246 ?_
   refine Ys 23 ?_
   refine Cand.mk (j := 23) [(72, _), (74, _)] (β := Unit) (good := fun _ => True) (val := fun _ => undef) (Hf := fun _ => _) rfl (.cons (t := 72) (.o rfl) (.cons (t := 74) .hit .nil)) (fun e he => O_store (.tmp (he.get (.o rfl))) (.tmp (he.get .hit)) rfl sz246 .a (ls _ oz)) (fun _ _ h => h () trivial) kr (fun _ _ => ⟨⟨.inl kr, .inl kr, .inl kr, .inl kr, .inl kr, .inl kr, .inl kr, .inl kr, .inl kr, .inl kr, trivial⟩, ?_⟩)
   refine Ye ?_
   refine So k9 ?_
   refine Sr ?_
   refine Mo ?_
   refine Ah ?_
   refine Sn ?_
   refine Pl1 ?_
   exact fun _ _ ha hw => ⟨(_, _), Q26, ⟨by first | (show 0 ≤ 2 * i + 1; omega) | (show 0 ≤ 2 * i + 1 + 1; omega), by first | (show 2 * i + 1 ≤ 40; omega) | (show 2 * i + 1 + 1 ≤ 40; omega), Q7⟩, ha.weaken (Ek4 rfl rfl rfl rfl), hw.weaken (SW_range.HSub.all _)⟩
  refine Ci fun ht36 => ?_
  refine SS k5 ?_
  refine Ek [9, 8, 0, 2, 3] ?_
  refine Sq fun _ k10 => ?_
  refine Sq fun _ k11 => ?_
  refine SW_da mixed ?_
  refine Ym 0 ?_
  refine Ym 1 ?_
  refine Ym 2 ?_
  refine Y2 3 40 41 rfl rfl rfl (fun e H he hH => O_binOp rfl (Eh he) (Eo he) (fun _ => b_add _ _ _ rfl oz oz)) ?_
  refine Yi 4 39 42 rfl rfl rfl underlying242 sz246 ?_
  refine Y1f 5 43 rfl rfl .a (fun e H he hH => O_load rfl (Eh he) oc246 (hH.get .hit) (rd _ oz)) ?_
  refine Ym 6 ?_
  refine Ym 7 ?_
  refine Ym 8 ?_
  refine Y2 9 46 47 rfl rfl rfl (fun e H he hH => O_binOp rfl (Eh he) (Eo he) (fun _ => b_add _ _ _ rfl oz oz)) ?_
  refine Yi 10 45 48 rfl rfl rfl underlying242 sz246 ?_
  refine Y1f 11 49 rfl rfl .a (fun e H he hH => O_load rfl (Eh he) oc246 (hH.get .hit) (rd _ oz)) ?_
  refine Y2 12 44 50 rfl rfl rfl (fun e H he hH => O_callE (xs := [.tmp 44, .tmp 50]) (cap := []) rfl .func (.cons (Eh he) (.cons (Eo he) .nil)) func108 rfl rfl (fun w hw => f108_ok _ _ w)) ?_
  refine Y1 13 51 rfl rfl (fun e H he hH => O_unOp rfl (Eh he) (fun _ => rfl)) ?_
  refine Ye ?_
  refine So k11 ?_
  refine Sd ?_ ?_
  ·
   refine Ci fun ht52 => ?_
   refine Rt ?_
   refine Pl0 ?_
   refine Pl3 ?_
   exact SK_ret0 (fn := Tryz.f113) rfl (fun w hw => ⟨_, rfl, Q7, hw.ext, hw.at_ .a⟩)
  refine Ci fun ht52 => ?_
  refine SS k10 ?_
  refine Ek [9, 8, 0, 2, 3] ?_
  refine Sq fun _ k12 => ?_
  refine SW_da mixed ?_
  refine Ym 0 ?_
  refine Ym 1 ?_
  refine Ym 2 ?_
  refine Y2 3 54 55 rfl rfl rfl (fun e H he hH => O_binOp rfl (Eh he) (Eo he) (fun _ => b_add _ _ _ rfl oz oz)) ?_
  refine Ym 4 ?_
  refine Ym 5 ?_
  refine Ym 6 ?_
  refine Y2 7 58 59 rfl rfl rfl (fun e H he hH => O_binOp rfl (Eh he) (Eo he) (fun _ => b_add _ _ _ rfl oz oz)) ?_
  refine Ym 8 ?_
  refine Ym 9 ?_
  refine Ym 10 ?_
  refine Y2 11 62 63 rfl rfl rfl (fun e H he hH => O_binOp rfl (Eh he) (Eo he) (fun _ => b_add _ _ _ rfl oz oz)) ?_
  refine Yi 12 61 64 rfl rfl rfl underlying242 sz246 ?_
  refine Y1f 13 65 rfl rfl .a (fun e H he hH => O_load rfl (Eh he) oc246 (hH.get .hit) (rd _ oz)) ?_
  refine Ym 14 ?_
  refine Ym 15 ?_
  refine Ym 16 ?_
  refine Y2 17 68 69 rfl rfl rfl (fun e H he hH => O_binOp rfl (Eh he) (Eo he) (fun _ => b_add _ _ _ rfl oz oz)) ?_
  refine Yi 18 67 70 rfl rfl rfl underlying242 sz246 ?_
  refine Y1f 19 71 rfl rfl .a (fun e H he hH => O_load rfl (Eh he) oc246 (hH.get .hit) (rd _ oz)) ?_
  refine Yi 20 53 56 rfl rfl rfl underlying242 sz246 ?_
  refine Ys 21 ?_
  refine Cand.mk (j := 21) [(66, _), (73, _)] (β := Unit) (good := fun _ => True) (val := fun _ => undef) (Hf := fun _ => _) rfl (.cons (t := 66) (.o rfl) (.cons (t := 73) .hit .nil)) (fun e he => O_store (.tmp (he.get (.o rfl))) (.tmp (he.get .hit)) rfl sz246 .a (ls _ oz)) (fun _ _ h => h () trivial) kr (fun _ _ => ⟨⟨.inl kr, .inl kr, .inr .nil, .inr .nil, .inr .nil, .inr .nil, .inr .nil, .inl kr, .inl kr, .inl kr, .inl kr, .inl kr, .inl kr, .inr .nil, .inr .nil, .inr .nil, .inr .nil, .inl kr, .inl kr, .inl kr, .inl kr, trivial⟩, ?_⟩)
  refine Yi 22 57 60 rfl rfl rfl underlying242 sz246 ?_
  refine Ys 23 ?_
  refine Cand.mk (j := 23) [(72, _), (74, _)] (β := Unit) (good := fun _ => True) (val := fun _ => undef) (Hf := fun _ => _) rfl (.cons (t := 72) (.o rfl) (.cons (t := 74) .hit .nil)) (fun e he => O_store (.tmp (he.get (.o rfl))) (.tmp (he.get .hit)) rfl sz246 .a (ls _ oz)) (fun _ _ h => h () trivial) kr (fun _ _ => ⟨⟨.inl kr, .inl kr, .inl kr, .inl kr, .inl kr, .inl kr, .inl kr, .inl kr, .inl kr, .inl kr, trivial⟩, ?_⟩)
  refine Ye ?_
  refine So k12 ?_
  refine Sr ?_
  refine Mo ?_
  refine Ah ?_
  refine Sn ?_
  refine Pl1 ?_
  exact fun _ _ ha hw => ⟨(_, _), Q26, ⟨by first | (show 0 ≤ 2 * i + 1; omega) | (show 0 ≤ 2 * i + 1 + 1; omega), by first | (show 2 * i + 1 ≤ 40; omega) | (show 2 * i + 1 + 1 ≤ 40; omega), Q7⟩, ha.weaken (Ek4 rfl rfl rfl rfl), hw.weaken (SW_range.HSub.all _)⟩
 refine Ci fun hs21 => ?_
 refine YF 5 4 ?_
 refine YF 6 4 ?_
 refine YF 7 4 ?_
 refine YF 8 4 ?_
 refine YF 9 4 ?_
 refine YF 10 4 ?_
 refine YF 11 4 ?_
 refine YF 12 4 ?_
 refine YF 13 4 ?_
 refine YF 14 4 ?_
 refine YF 15 4 ?_
 refine YF 16 4 ?_
 refine YF 17 4 ?_
 refine YF 18 4 ?_
 refine Y2 19 21 35 rfl rfl rfl (fun e H he hH => O_pickF rfl (Eh he) .const) ?_
 refine Ye ?_
 refine So k6 ?_
 refine Fh ?_
 refine SS k5 ?_
 refine Ek [9, 8, 0, 2, 3] ?_
 refine Sq fun _ k13 => ?_
 refine Sq fun _ k14 => ?_
 refine SW_da mixed ?_
 refine Ym 0 ?_
 refine Ym 1 ?_
 refine Ym 2 ?_
 refine Y2 3 40 41 rfl rfl rfl (fun e H he hH => O_binOp rfl (Eh he) (Eo he) (fun _ => b_add _ _ _ rfl oz oz)) ?_
 refine Yi 4 39 42 rfl rfl rfl underlying242 sz246 ?_
 refine Y1f 5 43 rfl rfl .a (fun e H he hH => O_load rfl (Eh he) oc246 (hH.get .hit) (rd _ oz)) ?_
 refine Ym 6 ?_
 refine Ym 7 ?_
 refine Ym 8 ?_
 refine Y2 9 46 47 rfl rfl rfl (fun e H he hH => O_binOp rfl (Eh he) (Eo he) (fun _ => b_add _ _ _ rfl oz oz)) ?_
 refine Yi 10 45 48 rfl rfl rfl underlying242 sz246 ?_
 refine Y1f 11 49 rfl rfl .a (fun e H he hH => O_load rfl (Eh he) oc246 (hH.get .hit) (rd _ oz)) ?_
 refine Y2 12 44 50 rfl rfl rfl (fun e H he hH => O_callE (xs := [.tmp 44, .tmp 50]) (cap := []) rfl .func (.cons (Eh he) (.cons (Eo he) .nil)) func108 rfl rfl (fun w hw => f108_ok _ _ w)) ?_
 refine Y1 13 51 rfl rfl (fun e H he hH => O_unOp rfl (Eh he) (fun _ => rfl)) ?_
 refine Ye ?_
 refine So k14 ?_
 refine Sd ?_ ?_
 ·
  refine Ci fun ht52 => ?_
  refine Rt ?_
  refine Pl0 ?_
  refine Pl3 ?_
  exact SK_ret0 (fn := Tryz.f113) rfl (fun w hw => ⟨_, rfl, Q7, hw.ext, hw.at_ .a⟩)
 refine Ci fun ht52 => ?_
 refine SS k13 ?_
 refine Ek [9, 8, 0, 2, 3] ?_
 refine Sq fun _ k15 => ?_
 refine SW_da mixed ?_
 refine Ym 0 ?_
 refine Ym 1 ?_
 refine Ym 2 ?_
 refine Y2 3 54 55 rfl rfl rfl (fun e H he hH => O_binOp rfl (Eh he) (Eo he) (fun _ => b_add _ _ _ rfl oz oz)) ?_
 refine Ym 4 ?_
 refine Ym 5 ?_
 refine Ym 6 ?_
 refine Y2 7 58 59 rfl rfl rfl (fun e H he hH => O_binOp rfl (Eh he) (Eo he) (fun _ => b_add _ _ _ rfl oz oz)) ?_
 refine Ym 8 ?_
 refine Ym 9 ?_
 refine Ym 10 ?_
 refine Y2 11 62 63 rfl rfl rfl (fun e H he hH => O_binOp rfl (Eh he) (Eo he) (fun _ => b_add _ _ _ rfl oz oz)) ?_
 refine Yi 12 61 64 rfl rfl rfl underlying242 sz246 ?_
 refine Y1f 13 65 rfl rfl .a (fun e H he hH => O_load rfl (Eh he) oc246 (hH.get .hit) (rd _ oz)) ?_
 refine Ym 14 ?_
 refine Ym 15 ?_
 refine Ym 16 ?_
 refine Y2 17 68 69 rfl rfl rfl (fun e H he hH => O_binOp rfl (Eh he) (Eo he) (fun _ => b_add _ _ _ rfl oz oz)) ?_
 refine Yi 18 67 70 rfl rfl rfl underlying242 sz246 ?_
 refine Y1f 19 71 rfl rfl .a (fun e H he hH => O_load rfl (Eh he) oc246 (hH.get .hit) (rd _ oz)) ?_
 refine Yi 20 53 56 rfl rfl rfl underlying242 sz246 ?_
 refine Ys 21 ?_
 refine Cand.mk (j := 21) [(66, _), (73, _)] (β := Unit) (good := fun _ => True) (val := fun _ => undef) (Hf := fun _ => _) rfl (.cons (t := 66) (.o rfl) (.cons (t := 73) .hit .nil)) (fun e he => O_store (.tmp (he.get (.o rfl))) (.tmp (he.get .hit)) rfl sz246 .a (ls _ oz)) (fun _ _ h => h () trivial) kr (fun _ _ => ⟨⟨.inl kr, .inl kr, .inr .nil, .inr .nil, .inr .nil, .inr .nil, .inr .nil, .inl kr, .inl kr, .inl kr, .inl kr, .inl kr, .inl kr, .inr .nil, .inr .nil, .inr .nil, .inr .nil, .inl kr, .inl kr, .inl kr, .inl kr, trivial⟩, ?_⟩)
 refine Yi 22 57 60 rfl rfl rfl underlying242 sz246 ?_
 refine Ys 23 ?_
 refine Cand.mk (j := 23) [(72, _), (74, _)] (β := Unit) (good := fun _ => True) (val := fun _ => undef) (Hf := fun _ => _) rfl (.cons (t := 72) (.o rfl) (.cons (t := 74) .hit .nil)) (fun e he => O_store (.tmp (he.get (.o rfl))) (.tmp (he.get .hit)) rfl sz246 .a (ls _ oz)) (fun _ _ h => h () trivial) kr (fun _ _ => ⟨⟨.inl kr, .inl kr, .inl kr, .inl kr, .inl kr, .inl kr, .inl kr, .inl kr, .inl kr, .inl kr, trivial⟩, ?_⟩)
 refine Ye ?_
 refine So k15 ?_
 refine Sr ?_
 refine Mo ?_
 refine Ah ?_
 refine Sn ?_
 refine Pl1 ?_
 exact fun _ _ ha hw => ⟨(_, _), Q26, ⟨by first | (show 0 ≤ 2 * i + 1; omega) | (show 0 ≤ 2 * i + 1 + 1; omega), by first | (show 2 * i + 1 ≤ 40; omega) | (show 2 * i + 1 + 1 ≤ 40; omega), Q7⟩, ha.weaken (Ek4 rfl rfl rfl rfl), hw.weaken (SW_range.HSub.all _)⟩

theorem f103_ok (b len cap : Nat) (rest : List Value) (l : List Int) (w : World) (hb : w.heap[b]? = some (u64o l rest)) (hl : l.length = len) (h40 : len ≤ 40) (a c : Int) (ha : 0 ≤ a) (hac : a < c) (hc : c ≤ len)  : Calls Tryz.prog 103 #[.slice (some ⟨b, 0, none⟩) len cap, .int .i64 a, .int .i64 c] w (fun r w' => ∃ z : List Int, r = .returned (.tuple #[]) ∧ (z.length = len) ∧ Ext (· = b) w w' ∧ w'.heap[b]? = some (u64o z rest)) := by
 refine sw_calls (S := (· = b)) func103 rfl ntmps103 (sees3 _ _ _ _ rfl) (Holds.start1w _ hb) ?_
 refine SR fun _ k1 => ?_
 refine Mo ?_
 refine Ah ?_
 refine SN k1 ?_
 refine Ek [6, 0, 1, 2] ?_
 refine SR fun _ k2 => ?_
 refine Ac ?_
 refine SN k2 ?_
 refine SR fun _ k3 => ?_
 refine Mo ?_
 refine Mo ?_
 refine Sc (O_binOp rfl (.tmp (.o rfl)) (.tmp .hit) (fun _ => b_sub _ _ _ rfl oz oz)) ?_
 refine Ah ?_
 refine SN k3 ?_
 refine Ek [8, 7, 6, 0] ?_
 refine Sq fun _ k4 => ?_
 refine SR fun _ k5 => ?_
 refine Mh ?_
 refine Sc (O_binOp rfl (.tmp .hit) .const (fun _ => b_sub _ _ _ rfl oz oz)) ?_
 refine Sc (O_binOp rfl (.tmp .hit) .const (fun _ => b_quoN _ _ oz oz oz)) ?_
 refine Ah ?_
 refine SN k5 ?_
 refine Bl ?_
 refine SW_loop (α := Int × List Int) (fun x => -1 ≤ x.1 ∧ x.1 ≤ 40 ∧ x.2.length = len) (fun x => (x.1 + 1).toNat) (fun x => [(b, true, u64o x.2 rest)]) (fun x => [(9, .int .i64 x.1), (0, .slice (some ⟨b, 0, none⟩) len cap), (6, .int .i64 a), (7, .int .i64 0), (8, .int .i64 (c - a))]) ((c - a - 1) / 2, l) ⟨by dsimp only; omega, by dsimp only; omega, hl⟩ .a (SW_range.HSub.all _) ?_
 rintro ⟨i, l⟩ ⟨hi1, hi2, hl⟩
 dsimp only at hi1 hi2 hl
 dsimp only
 refine Sq fun _ k6 => ?_
 refine SR fun _ k7 => ?_
 refine Mh ?_
 refine Sc (O_binOp rfl (.tmp .hit) .const (fun _ => b_geq _ _ _ _ rfl)) ?_
 refine SN k7 ?_
 refine Sd ?_ ?_
 ·
  refine Ci fun ht19 => ?_
  refine SS k6 ?_
  refine Ek [9, 0, 6, 7, 8] ?_
  refine Sq fun _ k8 => ?_
  refine Bl ?_
  refine Sr ?_
  refine Mo ?_
  refine Mo ?_
  refine Mo ?_
  refine Mo ?_
  refine Sc (O_callG (β := List Int) (val := fun l => .tuple #[]) (obj := fun l => u64o l rest) (good := fun l => l.length = len) (xs := [.tmp 22, .tmp 23, .tmp 24, .tmp 25]) (cap := []) rfl .func (.cons (.tmp (.o rfl)) (.cons (.tmp (.o rfl)) (.cons (.tmp (.o rfl)) (.cons (.tmp .hit) .nil)))) func113 rfl rfl (HAt.set .a) (fun w hw => f113_ok b len cap rest _ w (hw.at_ .a) Q7 h40 _ _ _ om om om om om)) ?_
  intro l hl
  refine SN k8 ?_
  refine Sr ?_
  refine Mo ?_
  refine Sc (O_binOp rfl (.tmp .hit) .const (fun _ => b_sub _ _ _ rfl oz oz)) ?_
  refine Ah ?_
  refine Sn ?_
  refine Pl1 ?_
  exact fun _ _ ha hw => ⟨(i - 1, _), (by show (i - 1 + 1).toNat < (i + 1).toNat; omega), ⟨by show -1 ≤ i - 1; omega, by show i - 1 ≤ 40; omega, Q7⟩, ha.weaken (Ek5 rfl rfl rfl rfl rfl), hw.weaken (SW_range.HSub.all _)⟩
 refine Ci fun ht19 => ?_
 refine Xt ?_
 refine So k4 ?_
 refine Ek [0, 6, 7, 8] ?_
 refine SR fun _ k9 => ?_
 refine Mo ?_
 refine Sc (O_binOp rfl (.tmp .hit) .const (fun _ => b_sub _ _ _ rfl oz oz)) ?_
 refine Ah ?_
 refine SN k9 ?_
 refine Bl ?_
 refine SW_loop (α := Int × List Int) (fun x => -1 ≤ x.1 ∧ x.1 ≤ c - a - 1 ∧ x.2.length = len) (fun x => (x.1 + 1).toNat) (fun x => [(b, true, u64o x.2 rest)]) (fun x => [(10, .int .i64 x.1), (0, .slice (some ⟨b, 0, none⟩) len cap), (6, .int .i64 a), (7, .int .i64 0)]) (c - a - 1, l) ⟨by dsimp only; omega, by dsimp only; omega, hl⟩ .a (SW_range.HSub.all _) ?_
 rintro ⟨i, l⟩ ⟨hi1, hi2, hl⟩
 dsimp only at hi1 hi2 hl
 dsimp only
 refine Sq fun _ k10 => ?_
 refine SR fun _ k11 => ?_
 refine Mh ?_
 refine Sc (O_binOp rfl (.tmp .hit) .const (fun _ => b_geq _ _ _ _ rfl)) ?_
 refine SN k11 ?_
 refine Sd ?_ ?_
 ·
  refine Ci fun ht30 => ?_
  refine SS k10 ?_
  refine Ek [10, 0, 6, 7] ?_
  refine Sq fun _ k12 => ?_
  refine Bl ?_
  refine Sq fun _ k13 => ?_
  refine SW_da mixed ?_
  refine Ym 0 ?_
  refine Ym 1 ?_
  refine Ym 2 ?_
  refine Ym 3 ?_
  refine Ym 4 ?_
  refine Y2 5 36 37 rfl rfl rfl (fun e H he hH => O_binOp rfl (Eh he) (Eo he) (fun _ => b_add _ _ _ rfl oz oz)) ?_
  refine Ym 6 ?_
  refine Ym 7 ?_
  refine Ym 8 ?_
  refine Y2 9 40 41 rfl rfl rfl (fun e H he hH => O_binOp rfl (Eh he) (Eo he) (fun _ => b_add _ _ _ rfl oz oz)) ?_
  refine Yi 10 39 42 rfl rfl rfl underlying242 sz246 ?_
  refine Y1f 11 43 rfl rfl .a (fun e H he hH => O_load rfl (Eh he) oc246 (hH.get .hit) (rd _ oz)) ?_
  refine Ym 12 ?_
  refine Ym 13 ?_
  refine Yi 14 45 46 rfl rfl rfl underlying242 sz246 ?_
  refine Y1f 15 47 rfl rfl .a (fun e H he hH => O_load rfl (Eh he) oc246 (hH.get .hit) (rd _ oz)) ?_
  refine Yi 16 33 34 rfl rfl rfl underlying242 sz246 ?_
  refine Ys 17 ?_
  refine Cand.mk (j := 17) [(44, _), (49, _)] (β := Unit) (good := fun _ => True) (val := fun _ => undef) (Hf := fun _ => _) rfl (.cons (t := 44) (.o rfl) (.cons (t := 49) .hit .nil)) (fun e he => O_store (.tmp (he.get (.o rfl))) (.tmp (he.get .hit)) rfl sz246 .a (ls _ oz)) (fun _ _ h => h () trivial) kr (fun _ _ => ⟨⟨.inl kr, .inl kr, .inr .nil, .inr .nil, .inr .nil, .inl kr, .inl kr, .inl kr, .inl kr, .inl kr, .inl kr, .inr .nil, .inr .nil, .inr .nil, .inr .nil, .inl kr, .inl kr, trivial⟩, ?_⟩)
  refine Yi 18 35 38 rfl rfl rfl underlying242 sz246 ?_
  refine Ys 19 ?_
  refine Cand.mk (j := 19) [(48, _), (50, _)] (β := Unit) (good := fun _ => True) (val := fun _ => undef) (Hf := fun _ => _) rfl (.cons (t := 48) (.o rfl) (.cons (t := 50) .hit .nil)) (fun e he => O_store (.tmp (he.get (.o rfl))) (.tmp (he.get .hit)) rfl sz246 .a (ls _ oz)) (fun _ _ h => h () trivial) kr (fun _ _ => ⟨⟨.inl kr, .inl kr, .inl kr, .inl kr, .inl kr, .inl kr, .inl kr, .inl kr, trivial⟩, ?_⟩)
  refine Ye ?_
  refine So k13 ?_
  refine Sr ?_
  refine Mo ?_
  refine Mo ?_
  refine Mo ?_
  refine Mo ?_
  refine Sc (O_callG (β := List Int) (val := fun l => .tuple #[]) (obj := fun l => u64o l rest) (good := fun l => l.length = len) (xs := [.tmp 51, .tmp 52, .tmp 53, .tmp 54]) (cap := []) rfl .func (.cons (.tmp (.o rfl)) (.cons (.tmp (.o rfl)) (.cons (.tmp (.o rfl)) (.cons (.tmp .hit) .nil)))) func113 rfl rfl (HAt.set .a) (fun w hw => f113_ok b len cap rest _ w (hw.at_ .a) Q7 h40 _ _ _ om om om om om)) ?_
  intro l hl
  refine SN k12 ?_
  refine Sr ?_
  refine Mo ?_
  refine Sc (O_binOp rfl (.tmp .hit) .const (fun _ => b_sub _ _ _ rfl oz oz)) ?_
  refine Ah ?_
  refine Sn ?_
  refine Pl1 ?_
  exact fun _ _ ha hw => ⟨(i - 1, _), (by show (i - 1 + 1).toNat < (i + 1).toNat; omega), ⟨by show -1 ≤ i - 1; omega, by show i - 1 ≤ c - a - 1; omega, Q7⟩, ha.weaken (Ek4 rfl rfl rfl rfl), hw.weaken (SW_range.HSub.all _)⟩
 refine Ci fun ht30 => ?_
 refine Xt ?_
 refine Pl3 ?_
 exact SK_end0 (fn := Tryz.f103) rfl (fun w hw => ⟨_, rfl, Q7, hw.ext, hw.at_ .a⟩)

theorem f106_ok (b len cap : Nat) (rest : List Value) (l : List Int) (w : World) (hb : w.heap[b]? = some (u64o l rest)) (hl : l.length = len) (h40 : len ≤ 40) (a c : Int) (ha : 0 ≤ a) (hac : a < c) (hc : c ≤ len)  : Calls Tryz.prog 106 #[.slice (some ⟨b, 0, none⟩) len cap, .int .i64 a, .int .i64 c] w (fun r w' => ∃ z : List Int, r = .returned (.tuple #[]) ∧ (z.length = len) ∧ Ext (· = b) w w' ∧ w'.heap[b]? = some (u64o z rest)) := by
 refine sw_calls (S := (· = b)) func106 rfl ntmps106 (sees3 _ _ _ _ rfl) (Holds.start1w _ hb) ?_
 refine SR fun _ k1 => ?_
 refine Mo ?_
 refine Ah ?_
 refine SN k1 ?_
 refine Ek [6, 0, 2] ?_
 refine SR fun _ k2 => ?_
 refine Mo ?_
 refine Sc (O_binOp rfl (.tmp .hit) .const (fun _ => b_sub _ _ _ rfl oz oz)) ?_
 refine Ah ?_
 refine SN k2 ?_
 refine Bl ?_
 refine SW_loop (α := Int × Int × List Int) (fun x => a ≤ x.1 ∧ x.1 ≤ 41 ∧ -1 ≤ x.2.1 ∧ x.2.1 ≤ c - 1 ∧ x.2.2.length = len) (fun x => (x.2.1 + 1 - x.1).toNat) (fun x => [(b, true, u64o x.2.2 rest)]) (fun x => [(6, .int .i64 x.1), (7, .int .i64 x.2.1), (0, .slice (some ⟨b, 0, none⟩) len cap)]) (a, c - 1, l) ⟨by dsimp only; omega, by dsimp only; omega, by dsimp only; omega, by dsimp only; omega, hl⟩ .a (SW_range.HSub.all _) ?_
 rintro ⟨i, j, l⟩ ⟨hi1, hi2, hj1, hj2, hl⟩
 dsimp only at hi1 hi2 hj1 hj2 hl
 dsimp only
 refine Sq fun _ k3 => ?_
 refine SR fun _ k4 => ?_
 refine Mh ?_
 refine Mo ?_
 refine Sc (O_binOp rfl (.tmp (.o rfl)) (.tmp .hit) (fun _ => b_lss _ _ _ _ rfl)) ?_
 refine SN k4 ?_
 refine Sd ?_ ?_
 ·
  refine Ci fun ht13 => ?_
  refine SS k3 ?_
  refine Bl ?_
  refine Ek [6, 7, 0] ?_
  refine Sq fun _ k5 => ?_
  refine SW_da mixed ?_
  refine Ym 0 ?_
  refine Ym 1 ?_
  refine Ym 2 ?_
  refine Ym 3 ?_
  refine Ym 4 ?_
  refine Ym 5 ?_
  refine Yi 6 18 19 rfl rfl rfl underlying242 sz246 ?_
  refine Y1f 7 20 rfl rfl .a (fun e H he hH => O_load rfl (Eh he) oc246 (hH.get .hit) (rd _ oz)) ?_
  refine Ym 8 ?_
  refine Ym 9 ?_
  refine Yi 10 22 23 rfl rfl rfl underlying242 sz246 ?_
  refine Y1f 11 24 rfl rfl .a (fun e H he hH => O_load rfl (Eh he) oc246 (hH.get .hit) (rd _ oz)) ?_
  refine Yi 12 14 15 rfl rfl rfl underlying242 sz246 ?_
  refine Ys 13 ?_
  refine Cand.mk (j := 13) [(21, _), (26, _)] (β := Unit) (good := fun _ => True) (val := fun _ => undef) (Hf := fun _ => _) rfl (.cons (t := 21) (.o rfl) (.cons (t := 26) .hit .nil)) (fun e he => O_store (.tmp (he.get (.o rfl))) (.tmp (he.get .hit)) rfl sz246 .a (ls _ oz)) (fun _ _ h => h () trivial) kr (fun _ _ => ⟨⟨.inl kr, .inl kr, .inr .nil, .inr .nil, .inr .nil, .inl kr, .inl kr, .inl kr, .inl kr, .inr .nil, .inr .nil, .inl kr, .inl kr, trivial⟩, ?_⟩)
  refine Yi 14 16 17 rfl rfl rfl underlying242 sz246 ?_
  refine Ys 15 ?_
  refine Cand.mk (j := 15) [(25, _), (27, _)] (β := Unit) (good := fun _ => True) (val := fun _ => undef) (Hf := fun _ => _) rfl (.cons (t := 25) (.o rfl) (.cons (t := 27) .hit .nil)) (fun e he => O_store (.tmp (he.get (.o rfl))) (.tmp (he.get .hit)) rfl sz246 .a (ls _ oz)) (fun _ _ h => h () trivial) kr (fun _ _ => ⟨⟨.inl kr, .inl kr, .inl kr, .inl kr, .inl kr, .inl kr, trivial⟩, ?_⟩)
  refine Ye ?_
  refine So k5 ?_
  refine Ek [6, 7, 0] ?_
  refine SR fun _ k6 => ?_
  refine Mh ?_
  refine Sc (O_binOp rfl (.tmp .hit) .const (fun _ => b_add _ _ _ rfl oz oz)) ?_
  refine Ah ?_
  refine SN k6 ?_
  refine Sr ?_
  refine Mo ?_
  refine Sc (O_binOp rfl (.tmp .hit) .const (fun _ => b_sub _ _ _ rfl oz oz)) ?_
  refine Ah ?_
  refine Sn ?_
  refine Pl1 ?_
  exact fun _ _ ha hw => ⟨(i + 1, j - 1, _), (by show (j - 1 + 1 - (i + 1)).toNat < (j + 1 - i).toNat; omega), ⟨by show a ≤ i + 1; omega, by show i + 1 ≤ 41; omega, by show -1 ≤ j - 1; omega, by show j - 1 ≤ c - 1; omega, Q7⟩, ha.weaken (Ek3 rfl rfl rfl), hw.weaken (SW_range.HSub.all _)⟩
 refine Ci fun ht13 => ?_
 refine Xt ?_
 refine Pl3 ?_
 exact SK_end0 (fn := Tryz.f106) rfl (fun w hw => ⟨_, rfl, Q7, hw.ext, hw.at_ .a⟩)

theorem f119_ok (b len cap : Nat) (rest : List Value) (l : List Int) (w : World) (hb : w.heap[b]? = some (u64o l rest)) (hl : l.length = len) (a c : Int) (ha : 0 ≤ a) (ha2 : a < len) (hc : 0 ≤ c) (hc2 : c < len) (sw : Nat) (s : Int) (hs : -1000 ≤ s) (hs2 : s ≤ 1000) (hne : sw ≠ b) (hsw : w.heap[sw]? = some (.cells [.int .i64 s].toArray 3 (0, 0))) : Calls Tryz.prog 119 #[.slice (some ⟨b, 0, none⟩) len cap, .int .i64 a, .int .i64 c, .pointer (some ⟨sw, 0, none⟩)] w (fun r w' => ∃ z : Int × Int × Int, r = .returned (.tuple #[.int .i64 z.1, .int .i64 z.2.1]) ∧ (((z.1 = a ∧ z.2.1 = c) ∨ (z.1 = c ∧ z.2.1 = a)) ∧ s ≤ z.2.2 ∧ z.2.2 ≤ s + 1) ∧ Ext (· = sw) w w' ∧ w'.heap[sw]? = some (.cells [.int .i64 z.2.2].toArray 3 (0, 0))) := by
 refine sw_calls (S := (· = sw)) func119 rfl ntmps119 (sees4 _ _ _ _ _ rfl) ((Holds.start1w _ hsw).old hb Q39) ?_
 refine SR fun _ k1 => ?_
 refine Ac ?_
 refine Ac ?_
 refine SN k1 ?_
 refine Sq fun _ k2 => ?_
 refine Sq fun _ k3 => ?_
 refine SW_da mixed ?_
 refine Ym 0 ?_
 refine Ym 1 ?_
 refine Yi 2 10 11 rfl rfl rfl underlying242 sz246 ?_
 refine Y1f 3 12 rfl rfl .a (fun e H he hH => O_load rfl (Eh he) oc246 (hH.get .hit) (rd _ oz)) ?_
 refine Ym 4 ?_
 refine Ym 5 ?_
 refine Yi 6 14 15 rfl rfl rfl underlying242 sz246 ?_
 refine Y1f 7 16 rfl rfl .a (fun e H he hH => O_load rfl (Eh he) oc246 (hH.get .hit) (rd _ oz)) ?_
 refine Y2 8 13 17 rfl rfl rfl (fun e H he hH => O_callE (xs := [.tmp 13, .tmp 17]) (cap := []) rfl .func (.cons (Eh he) (.cons (Eo he) .nil)) func108 rfl rfl (fun w hw => f108_ok _ _ w)) ?_
 refine Ye ?_
 refine So k3 ?_
 refine Sd ?_ ?_
 ·
  refine Ci fun ht18 => ?_
  refine Ek [9, 8, 1, 2, 3] ?_
  refine SR fun _ k4 => ?_
  refine Mo ?_
  refine Sc (O_nilCheck rfl (.tmp .hit)) ?_
  refine Sc (Ola oc3) ?_
  refine Sc (O_binOp rfl (.tmp .hit) .const (fun _ => b_add _ _ _ rfl oz oz)) ?_
  refine Sc (O_nilCheck rfl (.tmp (.o rfl))) ?_
  refine Sc (O_store (.tmp .hit) (.tmp (.o rfl)) rfl sz3 .a .a) ?_
  refine SN k4 ?_
  refine Ek [9, 8, 1, 2] ?_
  refine SR fun _ k5 => ?_
  refine Mo ?_
  refine Mo ?_
  refine Ao ?_
  refine Ao ?_
  refine SN k5 ?_
  refine Rt ?_
  refine Pl0 ?_
  refine Pl3 ?_
  first
  | exact SK_ret2 rfl (.o rfl) .hit (fun w hw => ⟨(_, _, s), rfl, ⟨by first | exact .inl ⟨rfl, rfl⟩ | exact .inr ⟨rfl, rfl⟩, by dsimp only; omega, by dsimp only; omega⟩, hw.ext, hw.at_ .a⟩)
  | exact SK_ret2 rfl (.o rfl) .hit (fun w hw => ⟨(_, _, (s + 1)), rfl, ⟨by first | exact .inl ⟨rfl, rfl⟩ | exact .inr ⟨rfl, rfl⟩, by dsimp only; omega, by dsimp only; omega⟩, hw.ext, hw.at_ .a⟩)
 refine Ci fun ht18 => ?_
 refine SS k2 ?_
 refine Ek [9, 8, 1, 2] ?_
 refine SR fun _ k6 => ?_
 refine Mo ?_
 refine Mo ?_
 refine Ao ?_
 refine Ao ?_
 refine SN k6 ?_
 refine Rt ?_
 refine Pl3 ?_
 first
 | exact SK_ret2 rfl (.o rfl) .hit (fun w hw => ⟨(_, _, s), rfl, ⟨by first | exact .inl ⟨rfl, rfl⟩ | exact .inr ⟨rfl, rfl⟩, by dsimp only; omega, by dsimp only; omega⟩, hw.ext, hw.at_ .a⟩)
 | exact SK_ret2 rfl (.o rfl) .hit (fun w hw => ⟨(_, _, (s + 1)), rfl, ⟨by first | exact .inl ⟨rfl, rfl⟩ | exact .inr ⟨rfl, rfl⟩, by dsimp only; omega, by dsimp only; omega⟩, hw.ext, hw.at_ .a⟩)

theorem f117_ok (b len cap : Nat) (rest : List Value) (l : List Int) (w : World) (hb : w.heap[b]? = some (u64o l rest)) (hl : l.length = len) (L R : Int) (hL : 0 ≤ L) (hR : R ≤ len) (a c e : Int) (ha : L ≤ a) (ha2 : a < R) (hc : L ≤ c) (hc2 : c < R) (he : L ≤ e) (he2 : e < R) (sw : Nat) (s : Int) (hs : -1000 ≤ s) (hs2 : s ≤ 1000) (hne : sw ≠ b) (hs3 : s ≤ 900) (hsw : w.heap[sw]? = some (.cells [.int .i64 s].toArray 3 (0, 0))) : Calls Tryz.prog 117 #[.slice (some ⟨b, 0, none⟩) len cap, .int .i64 a, .int .i64 c, .int .i64 e, .pointer (some ⟨sw, 0, none⟩)] w (fun r w' => ∃ z : Int × Int, r = .returned (.int .i64 z.1) ∧ (L ≤ z.1 ∧ z.1 < R ∧ s ≤ z.2 ∧ z.2 ≤ s + 3) ∧ Ext (· = sw) w w' ∧ w'.heap[sw]? = some (.cells [.int .i64 z.2].toArray 3 (0, 0))) := by
 refine sw_calls (S := (· = sw)) func117 rfl ntmps117 (sees5 _ _ _ _ _ _ rfl) ((Holds.start1w _ hsw).old hb Q39) ?_
 refine SR fun _ k1 => ?_
 refine Ac ?_
 refine SN k1 ?_
 refine SR fun _ k2 => ?_
 refine Mo ?_
 refine Mo ?_
 refine Mo ?_
 refine Mo ?_
 refine Sc (O_callG (β := Int × Int × Int) (val := fun l => .tuple #[.int .i64 l.1, .int .i64 l.2.1]) (obj := fun l => .cells #[Value.int .i64 l.2.2] 3 (0, 0)) (good := fun l => ((l.1 = _ ∧ l.2.1 = _) ∨ (l.1 = _ ∧ l.2.1 = _)) ∧ _ ≤ l.2.2 ∧ l.2.2 ≤ _) (xs := [.tmp 12, .tmp 13, .tmp 14, .tmp 15]) (cap := []) rfl .func (.cons (.tmp (.o rfl)) (.cons (.tmp (.o rfl)) (.cons (.tmp (.o rfl)) (.cons (.tmp .hit) .nil)))) func119 rfl rfl (HAt.set .a) (fun w hw => f119_ok b len cap rest l w (hw.at_ .a) hl _ _ om om om om sw s om om hne (hw.at_ .a))) ?_
 rintro ⟨x16, y16, s16⟩ hz16
 dsimp only at hz16
 dsimp only
 refine Mh ?_
 refine Sc Oex ?_
 refine Sc Oex ?_
 refine Ao ?_
 refine Ao ?_
 refine SN k2 ?_
 refine Ek [2, 1, 10, 0, 3, 4] ?_
 refine SR fun _ k3 => ?_
 refine Mo ?_
 refine Mo ?_
 refine Mo ?_
 refine Mo ?_
 refine Sc (O_callG (β := Int × Int × Int) (val := fun l => .tuple #[.int .i64 l.1, .int .i64 l.2.1]) (obj := fun l => .cells #[Value.int .i64 l.2.2] 3 (0, 0)) (good := fun l => ((l.1 = _ ∧ l.2.1 = _) ∨ (l.1 = _ ∧ l.2.1 = _)) ∧ _ ≤ l.2.2 ∧ l.2.2 ≤ _) (xs := [.tmp 20, .tmp 21, .tmp 22, .tmp 23]) (cap := []) rfl .func (.cons (.tmp (.o rfl)) (.cons (.tmp (.o rfl)) (.cons (.tmp (.o rfl)) (.cons (.tmp .hit) .nil)))) func119 rfl rfl (HAt.set .a) (fun w hw => f119_ok b len cap rest l w (hw.at_ .a) hl _ _ om om om om sw s16 om om hne (hw.at_ .a))) ?_
 rintro ⟨x24, y24, s24⟩ hz24
 dsimp only at hz24
 dsimp only
 refine Mh ?_
 refine Sc Oex ?_
 refine Sc Oex ?_
 refine Ao ?_
 refine Ao ?_
 refine SN k3 ?_
 refine Ek [2, 1, 10, 0, 4] ?_
 refine SR fun _ k4 => ?_
 refine Mo ?_
 refine Mo ?_
 refine Mo ?_
 refine Mo ?_
 refine Sc (O_callG (β := Int × Int × Int) (val := fun l => .tuple #[.int .i64 l.1, .int .i64 l.2.1]) (obj := fun l => .cells #[Value.int .i64 l.2.2] 3 (0, 0)) (good := fun l => ((l.1 = _ ∧ l.2.1 = _) ∨ (l.1 = _ ∧ l.2.1 = _)) ∧ _ ≤ l.2.2 ∧ l.2.2 ≤ _) (xs := [.tmp 28, .tmp 29, .tmp 30, .tmp 31]) (cap := []) rfl .func (.cons (.tmp (.o rfl)) (.cons (.tmp (.o rfl)) (.cons (.tmp (.o rfl)) (.cons (.tmp .hit) .nil)))) func119 rfl rfl (HAt.set .a) (fun w hw => f119_ok b len cap rest l w (hw.at_ .a) hl _ _ om om om om sw s24 om om hne (hw.at_ .a))) ?_
 rintro ⟨x32, y32, s32⟩ hz32
 dsimp only at hz32
 dsimp only
 refine Mh ?_
 refine Sc Oex ?_
 refine Sc Oex ?_
 refine Ao ?_
 refine Ao ?_
 refine SN k4 ?_
 refine Ek [2, 10] ?_
 refine SR fun _ k5 => ?_
 refine Mh ?_
 refine Ah ?_
 refine SN k5 ?_
 refine Rt ?_
 exact SK_ret1 rfl .hit (fun w hw => ⟨(_, s32), rfl, ⟨by dsimp only; omega, by dsimp only; omega, by dsimp only; omega, by dsimp only; omega⟩, hw.ext, hw.at_ .a⟩)

theorem f105_ok (b len cap : Nat) (rest : List Value) (l : List Int) (w : World) (hb : w.heap[b]? = some (u64o l rest)) (hl : l.length = len) (h40 : len ≤ 40) (a c : Int) (ha : 0 ≤ a) (hac : a + 8 ≤ c) (hc : c ≤ len)  : Calls Tryz.prog 105 #[.slice (some ⟨b, 0, none⟩) len cap, .int .i64 a, .int .i64 c] w (fun r w' => ∃ z : Int × Int, r = .returned (.tuple #[.int .i64 z.1, .int .i64 z.2]) ∧ (a ≤ z.1 ∧ z.1 < c) ∧ Fresh w [] w') := by
 refine sw_calls (S := noS) func105 rfl ntmps105 (sees3 _ _ _ _ rfl) (Holds.start1 _ _ hb) ?_
 refine SR fun _ k1 => ?_
 refine Ac ?_
 refine Ac ?_
 refine SN k1 ?_
 refine SR fun _ k2 => ?_
 refine Mo ?_
 refine Mo ?_
 refine Sc (O_binOp rfl (.tmp (.o rfl)) (.tmp .hit) (fun _ => b_sub _ _ _ rfl oz oz)) ?_
 refine Ah ?_
 refine SN k2 ?_
 refine Ek [8, 7, 6, 0, 1] ?_
 refine SR fun _ k3 => ?_
 refine Sc (O_alloc rfl zr3 rfl) ?_
 intro bk9 _
 refine SN k3 ?_
 refine SR fun _ k4 => ?_
 refine Mo ?_
 refine Mo ?_
 refine Sc (O_binOp rfl (.tmp .hit) .const (fun _ => b_quoN _ _ oz oz oz)) ?_
 refine Sc (O_binOp rfl (.tmp .hit) .const (fun _ => b_mul _ _ _ rfl oz oz)) ?_
 refine Sc (O_binOp rfl (.tmp (.o rfl)) (.tmp .hit) (fun _ => b_add _ _ _ rfl oz oz)) ?_
 refine Ah ?_
 refine SN k4 ?_
 refine Ek [10, 9, 8, 7, 6, 0, 1] ?_
 refine SR fun _ k5 => ?_
 refine Mo ?_
 refine Mo ?_
 refine Sc (O_binOp rfl (.tmp .hit) .const (fun _ => b_quoN _ _ oz oz oz)) ?_
 refine Sc (O_binOp rfl (.tmp .hit) .const (fun _ => b_mul _ _ _ rfl oz oz)) ?_
 refine Sc (O_binOp rfl (.tmp (.o rfl)) (.tmp .hit) (fun _ => b_add _ _ _ rfl oz oz)) ?_
 refine Ah ?_
 refine SN k5 ?_
 refine Ek [11, 10, 9, 8, 7, 6, 0, 1] ?_
 refine SR fun _ k6 => ?_
 refine Mo ?_
 refine Mo ?_
 refine Sc (O_binOp rfl (.tmp .hit) .const (fun _ => b_quoN _ _ oz oz oz)) ?_
 refine Sc (O_binOp rfl (.tmp .hit) .const (fun _ => b_mul _ _ _ rfl oz oz)) ?_
 refine Sc (O_binOp rfl (.tmp (.o rfl)) (.tmp .hit) (fun _ => b_add _ _ _ rfl oz oz)) ?_
 refine Ah ?_
 refine SN k6 ?_
 refine Ek [12, 11, 10, 9, 8, 7, 6, 0] ?_
 refine Sq fun _ k7 => ?_
 refine SR fun _ k8 => ?_
 refine Mo ?_
 refine Sc (O_binOp rfl (.tmp .hit) .const (fun _ => b_geq _ _ _ true (decide_eq_true om))) ?_
 refine SN k8 ?_
 refine Th ?_
 refine Ek [12, 11, 10, 9, 8, 7, 6, 0] ?_
 refine Sq fun _ k9 => ?_
 refine SR fun _ k10 => ?_
 refine Mo ?_
 refine Sc (O_binOp rfl (.tmp .hit) .const (fun _ => b_geq _ _ _ false (decide_eq_false om))) ?_
 refine SN k10 ?_
 refine Fh ?_
 refine SS k9 ?_
 refine Sr ?_
 refine Mo ?_
 refine Mo ?_
 refine Mo ?_
 refine Mo ?_
 refine Sc (O_callG (β := Int × Int) (val := fun l => .int .i64 l.1) (obj := fun l => .cells #[Value.int .i64 l.2] 3 (0, 0)) (good := fun l => a ≤ l.1 ∧ l.1 < c ∧ 0 ≤ l.2 ∧ l.2 ≤ 0 + 3) (xs := [.tmp 44, .tmp 45, .tmp 46, .tmp 47, .tmp 9]) (cap := []) rfl .func (.cons (.tmp (.o rfl)) (.cons (.tmp (.o rfl)) (.cons (.tmp (.o rfl)) (.cons (.tmp .hit) (.cons (.tmp (.o rfl)) .nil))))) func117 rfl rfl (HAt.set .a) (fun w hw => f117_ok b len cap rest l w (hw.at_ .a) hl a c om om _ _ _ om om om om om om bk9 0 om om (hw.ne_of .hit .hit) om (hw.at_ .a))) ?_
 rintro ⟨x48, s48⟩ hz48
 dsimp only at hz48
 dsimp only
 refine Ah ?_
 refine SN k7 ?_
 refine Ek [11, 9, 7, 6] ?_
 refine SR fun _ k11 => ?_
 refine Sc (Ola oc3) ?_
 refine SN k11 ?_
 refine Bl ?_
 refine Ek [49, 11, 7, 6] ?_
 refine SR fun _ k12 => ?_
 refine Sc Obe ?_
 refine Ah ?_
 refine SN k12 ?_
 refine Sd ?_ ?_
 ·
  refine Ci fun ht51 => ?_
  refine Ek [11, 7, 6] ?_
  refine SR fun _ k13 => ?_
  refine Mh ?_
  refine Ah ?_
  refine Ac ?_
  refine SN k13 ?_
  refine Rt ?_
  refine Pl0 ?_
  refine Pl3 ?_
  exact SK_ret2 rfl (.o rfl) .hit (fun w hw => ⟨(_, _), rfl, ⟨by dsimp only; omega, by dsimp only; omega⟩, Fresh.of_ext hw.ext⟩)
 refine Ci fun ht51 => ?_
 refine Ek [49, 11, 7, 6] ?_
 refine SR fun _ k14 => ?_
 refine Sc Obe ?_
 refine Ah ?_
 refine SN k14 ?_
 refine Sd ?_ ?_
 ·
  refine Ci fun ht54 => ?_
  refine Ek [11, 7, 6] ?_
  refine SR fun _ k15 => ?_
  refine Mh ?_
  refine Ah ?_
  refine Ac ?_
  refine SN k15 ?_
  refine Rt ?_
  refine Pl0 ?_
  refine Pl3 ?_
  exact SK_ret2 rfl (.o rfl) .hit (fun w hw => ⟨(_, _), rfl, ⟨by dsimp only; omega, by dsimp only; omega⟩, Fresh.of_ext hw.ext⟩)
 refine Ci fun ht54 => ?_
 refine Ek [11, 7, 6] ?_
 refine SR fun _ k16 => ?_
 refine Mh ?_
 refine Ah ?_
 refine Ac ?_
 refine SN k16 ?_
 refine Rt ?_
 refine Pl0 ?_
 refine Pl3 ?_
 exact SK_ret2 rfl (.o rfl) .hit (fun w hw => ⟨(_, _), rfl, ⟨by dsimp only; omega, by dsimp only; omega⟩, Fresh.of_ext hw.ext⟩)

theorem f112_ok (x : Nat) (hx : x < 41) (w : World) : Calls Tryz.prog 112 #[.int .u64 x] w (fun r w' => r = .returned (.int .i64 (blen x : Nat)) ∧ Ext noS w w') := by
 refine sw_calls (S := noS) func112 rfl ntmps112 (sees1 _ _ rfl) (Holds.start _ _) ?_
 refine SR fun _ k1 => ?_
 refine Ac ?_
 refine SN k1 ?_
 refine Sq fun _ k2 => ?_
 refine SR fun _ k3 => ?_
 refine Mo ?_
 refine Sc (O_binOp rfl (.tmp .hit) .const (fun _ => b_geq _ _ _ false (decide_eq_false om))) ?_
 refine SN k3 ?_
 refine Fh ?_
 refine SS k2 ?_
 refine Ek [2, 0] ?_
 refine Sq fun _ k4 => ?_
 refine SR fun _ k5 => ?_
 refine Mo ?_
 refine Sc (O_binOp rfl (.tmp .hit) .const (fun _ => b_geq _ _ _ false (decide_eq_false om))) ?_
 refine SN k5 ?_
 refine Fh ?_
 refine SS k4 ?_
 refine Ek [2, 0] ?_
 refine Sq fun _ k6 => ?_
 refine SR fun _ k7 => ?_
 refine Mo ?_
 refine Sc (O_binOp rfl (.tmp .hit) .const (fun _ => b_geq _ _ _ false (decide_eq_false om))) ?_
 refine SN k7 ?_
 refine Fh ?_
 refine SS k6 ?_
 refine Ek [2, 0] ?_
 refine SR fun _ k8 => ?_
 refine Mh ?_
 refine Mo ?_
 refine Sc (O_convert rfl (.tmp .hit) (r := .int .u8 x) (fun _ => c_int ⟨_, underlying57⟩ underlying5 (wrap_u8 _ om))) ?_
 refine Sc (O_indexStr (c := UInt8.ofNat (blen x)) rfl .const (.tmp .hit) underlying9 om (by rw [Int.toNat_natCast]; refine len8_at _ ?_ x hx; decide)) ?_
 refine Sc (O_convert rfl (.tmp .hit) (r := .int .i64 (blen x : Nat)) (fun _ => c_int ⟨_, underlying5⟩ underlying3 (by have h := (blen_le ⟨x, hx⟩).1; dsimp only at h; rw [UInt8.toNat_ofNat_of_lt' (by show blen x < 256; omega)]; exact wrap_i64n _ om))) ?_
 have hb6 := (blen_le ⟨x, hx⟩).1
 dsimp only at hb6
 refine Sc (O_binOp rfl (.tmp (.o rfl)) (.tmp .hit) (fun _ => b_add _ _ _ rfl oz oz)) ?_
 refine Ah ?_
 refine SN k8 ?_
 refine Rt ?_
 exact SK_ret1 rfl .hit (fun w hw => ⟨congrArg (fun z => Ending.returned (.int .i64 z)) (Int.zero_add _), hw.ext⟩)

theorem f98_ok (x : Nat) (hx : x < 41) (w : World) : Calls Tryz.prog 98 #[.int .u64 x] w (fun r w' => r = .returned (.int .i64 (blen x : Nat)) ∧ Ext noS w w') := by
 refine sw_calls (S := noS) func98 rfl ntmps98 (sees1 _ _ rfl) (Holds.start _ _) ?_
 refine SR fun _ k1 => ?_
 refine Ac ?_
 refine SN k1 ?_
 refine Sq fun _ k2 => ?_
 refine SW_false .const ?_
 refine SS k2 ?_
 refine SR fun _ k3 => ?_
 refine Mo ?_
 refine Sc (O_callE (xs := [.tmp 6]) (cap := []) rfl .func (.cons (.tmp .hit) .nil) func112 rfl rfl (fun w hw => f112_ok x hx w)) ?_
 refine Ah ?_
 refine SN k3 ?_
 refine Rt ?_
 exact SK_ret1 rfl .hit (fun w hw => ⟨rfl, hw.ext⟩)

theorem f114_ok (x : Nat) (hx : x < 41) (w : World) : Calls Tryz.prog 114 #[.int .i64 x] w (fun r w' => r = .returned (.int .u64 ((2 ^ blen x : Nat) : Int)) ∧ Ext noS w w') := by
 refine sw_calls (S := noS) func114 rfl ntmps114 (sees1 _ _ rfl) (Holds.start _ _) ?_
 refine SR fun _ k1 => ?_
 refine Ac ?_
 refine SN k1 ?_
 refine SR fun _ k2 => ?_
 refine Mo ?_
 refine Sc (O_convert rfl (.tmp .hit) (r := .int .u64 x) (fun _ => c_int ⟨_, underlying3⟩ underlying169 (wrap_u64 _ om))) ?_
 refine Sc (O_callE (xs := [.tmp 4]) (cap := []) rfl .func (.cons (.tmp .hit) .nil) func98 rfl rfl (fun w hw => f98_ok x hx w)) ?_
 refine Sc (O_binOp rfl .const (.tmp .hit) (r := .int .u64 ((2 ^ blen x : Nat) : Int)) (fun _ => by have h := (blen_le ⟨x, hx⟩).1; dsimp only at h; have h6 : 2 ^ blen x ≤ 2 ^ 6 := Nat.pow_le_pow_right dc h; rw [show 2 ^ blen x = 1 * 2 ^ blen x from (Nat.one_mul _).symm]; exact b_shl .u64 1 (blen x) (by show blen x ≤ 64; omega) (wrap_u64 _ om) _)) ?_
 refine Ah ?_
 refine SN k2 ?_
 refine Rt ?_
 exact SK_ret1 rfl .hit (fun w hw => ⟨rfl, hw.ext⟩)

theorem f115_ok (rb : Nat) (x : Int) (w : World) (hb : w.heap[rb]? = some (.cells [.int .u64 x].toArray 321 (0, 0))) : Calls Tryz.prog 115 #[.pointer (some ⟨rb, 0, none⟩)] w (fun r w' => ∃ z : Int, r = .returned (.int .u64 z) ∧ True ∧ Ext (· = rb) w w' ∧ w'.heap[rb]? = some (.cells [.int .u64 z].toArray 321 (0, 0))) := by
 refine sw_calls (S := (· = rb)) func115 rfl ntmps115 (sees1 _ _ rfl) (Holds.start1w _ hb) ?_
 refine SR fun _ k1 => ?_
 refine Ac ?_
 refine SN k1 ?_
 refine Sq fun _ k2 => ?_
 refine SW_da mixed ?_
 refine Ym 0 ?_
 refine Yn 1 ?_
 refine Yl 2 oc321 ?_
 refine Ym 3 ?_
 refine Yn 4 ?_
 refine Yl 5 oc321 ?_
 refine Y1 6 8 rfl rfl (fun e H he hH => O_binOp rfl (Eh he) .const (fun _ => rfl)) ?_
 refine Y2 7 5 9 rfl rfl rfl (fun e H he hH => O_binOp rfl (Eh he) (Eo he) (fun _ => rfl)) ?_
 refine Yn 8 ?_
 refine Ys 9 ?_
 refine Cand.mk (j := 9) [(10, _), (11, _)] (β := Unit) (good := fun _ => True) (val := fun _ => undef) (Hf := fun _ => _) rfl (.cons (t := 10) (.o rfl) (.cons (t := 11) .hit .nil)) (fun e he => O_store (.tmp (he.get (.o rfl))) (.tmp (he.get .hit)) rfl sz321 .a .a) (fun _ _ h => h () trivial) kr (fun _ _ => ⟨⟨.inl kr, .inl kr, .inl kr, .inl kr, .inl kr, .inl kr, .inl kr, .inl kr, .inl kr, trivial⟩, ?_⟩)
 refine Ye ?_
 refine So k2 ?_
 refine Ek [2, 0] ?_
 refine Sq fun _ k3 => ?_
 refine SW_da mixed ?_
 refine Ym 0 ?_
 refine Yn 1 ?_
 refine Yl 2 oc321 ?_
 refine Ym 3 ?_
 refine Yn 4 ?_
 refine Yl 5 oc321 ?_
 refine Y1 6 17 rfl rfl (fun e H he hH => O_binOp rfl (Eh he) .const (fun _ => rfl)) ?_
 refine Y2 7 14 18 rfl rfl rfl (fun e H he hH => O_binOp rfl (Eh he) (Eo he) (fun _ => rfl)) ?_
 refine Yn 8 ?_
 refine Ys 9 ?_
 refine Cand.mk (j := 9) [(19, _), (20, _)] (β := Unit) (good := fun _ => True) (val := fun _ => undef) (Hf := fun _ => _) rfl (.cons (t := 19) (.o rfl) (.cons (t := 20) .hit .nil)) (fun e he => O_store (.tmp (he.get (.o rfl))) (.tmp (he.get .hit)) rfl sz321 .a .a) (fun _ _ h => h () trivial) kr (fun _ _ => ⟨⟨.inl kr, .inl kr, .inl kr, .inl kr, .inl kr, .inl kr, .inl kr, .inl kr, .inl kr, trivial⟩, ?_⟩)
 refine Ye ?_
 refine So k3 ?_
 refine Ek [2, 0] ?_
 refine Sq fun _ k4 => ?_
 refine SW_da mixed ?_
 refine Ym 0 ?_
 refine Yn 1 ?_
 refine Yl 2 oc321 ?_
 refine Ym 3 ?_
 refine Yn 4 ?_
 refine Yl 5 oc321 ?_
 refine Y1 6 26 rfl rfl (fun e H he hH => O_binOp rfl (Eh he) .const (fun _ => rfl)) ?_
 refine Y2 7 23 27 rfl rfl rfl (fun e H he hH => O_binOp rfl (Eh he) (Eo he) (fun _ => rfl)) ?_
 refine Yn 8 ?_
 refine Ys 9 ?_
 refine Cand.mk (j := 9) [(28, _), (29, _)] (β := Unit) (good := fun _ => True) (val := fun _ => undef) (Hf := fun _ => _) rfl (.cons (t := 28) (.o rfl) (.cons (t := 29) .hit .nil)) (fun e he => O_store (.tmp (he.get (.o rfl))) (.tmp (he.get .hit)) rfl sz321 .a .a) (fun _ _ h => h () trivial) kr (fun _ _ => ⟨⟨.inl kr, .inl kr, .inl kr, .inl kr, .inl kr, .inl kr, .inl kr, .inl kr, .inl kr, trivial⟩, ?_⟩)
 refine Ye ?_
 refine So k4 ?_
 refine Ek [2, 0] ?_
 refine SR fun _ k5 => ?_
 refine Mo ?_
 refine Sc (O_nilCheck rfl (.tmp .hit)) ?_
 refine Sc (Ola oc321) ?_
 refine Ah ?_
 refine SN k5 ?_
 refine Rt ?_
 exact SK_ret1 rfl .hit (fun w hw => ⟨_, rfl, trivial, hw.ext, hw.at_ .hit⟩)

theorem f104_ok (b len cap : Nat) (rest : List Value) (l : List Int) (w : World) (hb : w.heap[b]? = some (u64o l rest)) (hl : l.length = len) (h40 : len ≤ 40) (a c : Int) (ha : 0 ≤ a) (hac : a + 8 ≤ c) (hc : c ≤ len) : Calls Tryz.prog 104 #[.slice (some ⟨b, 0, none⟩) len cap, .int .i64 a, .int .i64 c] w (fun r w' => ∃ z : List Int, r = .returned (.tuple #[]) ∧ (z.length = len) ∧ Ext (· = b) w w' ∧ w'.heap[b]? = some (u64o z rest)) := by
 refine sw_calls (S := (· = b)) func104 rfl ntmps104 (sees3 _ _ _ _ rfl) (Holds.start1w _ hb) ?_
 refine SR fun _ k1 => ?_
 refine Mo ?_
 refine Mo ?_
 refine Sc (O_binOp rfl (.tmp (.o rfl)) (.tmp .hit) (fun _ => b_sub _ _ _ rfl oz oz)) ?_
 refine Ah ?_
 refine SN k1 ?_
 refine Ek [6, 0, 1] ?_
 refine SR fun _ k2 => ?_
 refine Mh ?_
 refine Sc (O_binOp rfl (.tmp .hit) .const (fun _ => b_geq _ _ _ true (decide_eq_true om))) ?_
 refine SN k2 ?_
 refine Th ?_
 refine Ek [6, 0, 1] ?_
 refine SR fun _ k3 => ?_
 refine Mh ?_
 refine Sc (O_convert rfl (.tmp .hit) (r := .int .u64 (c - a)) (fun _ => c_int ⟨_, underlying3⟩ underlying321 (IntWalk.u64_in _ om))) ?_
 refine Sc (O_alloc rfl zr321 rfl) ?_
 intro bk7 _
 refine Sc (O_store (.tmp .hit) (.tmp (.o rfl)) rfl sz321 .a .a) ?_
 refine SN k3 ?_
 refine Ek [7, 6, 0, 1] ?_
 refine SR fun _ k4 => ?_
 refine Mo ?_
 refine Sc (O_callE (xs := [.tmp 18]) (cap := []) rfl .func (.cons (.tmp .hit) .nil) func114 rfl rfl (v := .int .u64 ((2 ^ blen (c - a).toNat : Nat) : Int)) (fun w hw => by have h := f114_ok (c - a).toNat om w; rw [Int.toNat_of_nonneg om] at h; exact h)) ?_
 refine Ah ?_
 refine SN k4 ?_
 refine Ek [8, 7, 6, 0, 1] ?_
 refine SR fun _ k5 => ?_
 refine Mo ?_
 refine Mo ?_
 refine Sc (O_binOp rfl (.tmp .hit) .const (fun _ => b_quoN _ _ oz oz oz)) ?_
 refine Sc (O_binOp rfl (.tmp .hit) .const (fun _ => b_mul _ _ _ rfl oz oz)) ?_
 refine Sc (O_binOp rfl (.tmp (.o rfl)) (.tmp .hit) (fun _ => b_add _ _ _ rfl oz oz)) ?_
 refine Sc (O_binOp rfl (.tmp .hit) .const (fun _ => b_sub _ _ _ rfl oz oz)) ?_
 refine Ah ?_
 refine SN k5 ?_
 refine Bl ?_
 refine SW_loop (α := Int × Int × List Int) (fun x => a + (c - a) / 4 * 2 - 1 ≤ x.1 ∧ x.1 ≤ a + (c - a) / 4 * 2 + 2 ∧ x.2.2.length = len) (fun x => (a + (c - a) / 4 * 2 + 2 - x.1).toNat) (fun x => [(bk7, true, .cells #[Value.int .u64 x.2.1] 321 (0, 0)), (b, true, u64o x.2.2 rest)]) (fun x => [(9, .int .i64 x.1), (0, .slice (some ⟨b, 0, none⟩) len cap), (1, .int .i64 a), (6, .int .i64 (c - a)), (7, .pointer (some ⟨bk7, 0, none⟩)), (8, .int .u64 ((2 ^ blen (c - a).toNat : Nat) : Int))]) (_, _, l) ⟨by dsimp only; omega, by dsimp only; omega, hl⟩ (Ek6 rfl rfl rfl rfl rfl rfl) (SW_range.HSub.all _) ?_
 rintro ⟨i, x, l⟩ ⟨hi1, hi2, hl⟩
 dsimp only at hi1 hi2 hl
 dsimp only
 refine Sq fun _ k6 => ?_
 refine SR fun _ k7 => ?_
 refine Mh ?_
 refine Mo ?_
 refine Mo ?_
 refine Sc (O_binOp rfl (.tmp .hit) .const (fun _ => b_quoN _ _ oz oz oz)) ?_
 refine Sc (O_binOp rfl (.tmp .hit) .const (fun _ => b_mul _ _ _ rfl oz oz)) ?_
 refine Sc (O_binOp rfl (.tmp (.o rfl)) (.tmp .hit) (fun _ => b_add _ _ _ rfl oz oz)) ?_
 refine Sc (O_binOp rfl (.tmp .hit) .const (fun _ => b_add _ _ _ rfl oz oz)) ?_
 refine Sc (O_binOp rfl (.tmp (.o rfl)) (.tmp .hit) (fun _ => b_leq _ _ _ _ rfl)) ?_
 refine SN k7 ?_
 refine Sd ?_ ?_
 ·
  refine Ci fun ht33 => ?_
  refine SS k6 ?_
  refine Ek [9, 0, 1, 6, 7, 8] ?_
  refine Sq fun _ k8 => ?_
  refine Bl ?_
  refine SR fun _ k9 => ?_
  refine Sc (O_callG (β := Int) (val := fun l => .int .u64 l) (obj := fun l => .cells #[Value.int .u64 l] 321 (0, 0)) (good := fun l => True) (xs := [.tmp 7]) (cap := []) rfl .func (.cons (.tmp (.o rfl)) .nil) func115 rfl rfl (HAt.set .a) (fun w hw => f115_ok bk7 _ w (hw.at_ .a))) ?_
  intro x36 _
  refine Mo ?_
  refine Sc (O_binOp rfl (.tmp .hit) .const (fun _ => b_sub_u64 _ 1 (Nat.one_le_two_pow) (by have h := (blen_le ⟨(c - a).toNat, by omega⟩).1; dsimp only at h; have : 2 ^ blen (c - a).toNat ≤ 2 ^ 6 := Nat.pow_le_pow_right dc h; omega))) ?_
  refine Sc (O_binOp rfl (.tmp (.o rfl)) (.tmp .hit) (fun _ => b_and_u64 x36 (2 ^ blen (c - a).toNat - 1))) ?_
  obtain ⟨q, hq⟩ : ∃ q, andv x36 (2 ^ blen (c - a).toNat - 1) = q := ⟨_, rfl⟩
  rw [hq]
  have hq2 : (q : Int) < 2 * (c - a) := by
   have h := blen_le ⟨(c - a).toNat, by omega⟩
   dsimp only at h
   have h2 := h.2 om
   have h4 : 2 ^ blen (c - a).toNat ≤ 2 ^ 6 := Nat.pow_le_pow_right dc h.1
   have h5 : 0 < 2 ^ blen (c - a).toNat := Nat.pow_pos dc
   have h3 := andv_le x36 (2 ^ blen (c - a).toNat - 1) om
   omega
  refine Sc (O_convert rfl (.tmp .hit) (r := .int .i64 (q : Nat)) (fun _ => c_int ⟨_, underlying169⟩ underlying3 (wrap_i64n _ om))) ?_
  refine Ah ?_
  refine SN k9 ?_
  refine Ek [10, 9, 0, 1, 6, 7, 8] ?_
  refine Sq fun _ k10 => ?_
  refine SR fun _ k11 => ?_
  refine Mh ?_
  refine Mo ?_
  refine Sc (O_binOp rfl (.tmp (.o rfl)) (.tmp .hit) (fun _ => b_geq _ _ _ _ rfl)) ?_
  refine SN k11 ?_
  refine Sd ?_ ?_
  ·
   refine Ci fun ht43 => ?_
   refine Sr ?_
   refine Mo ?_
   refine Mo ?_
   refine Sc (O_binOp rfl (.tmp (.o rfl)) (.tmp .hit) (fun _ => b_sub _ _ _ rfl oz oz)) ?_
   refine Ah ?_
   refine SN k10 ?_
   refine SW_da mixed ?_
   refine Ym 0 ?_
   refine Ym 1 ?_
   refine Ym 2 ?_
   refine Ym 3 ?_
   refine Ym 4 ?_
   refine Y2 5 50 51 rfl rfl rfl (fun e H he hH => O_binOp rfl (Eh he) (Eo he) (fun _ => b_add _ _ _ rfl oz oz)) ?_
   refine Ym 6 ?_
   refine Ym 7 ?_
   refine Ym 8 ?_
   refine Y2 9 54 55 rfl rfl rfl (fun e H he hH => O_binOp rfl (Eh he) (Eo he) (fun _ => b_add _ _ _ rfl oz oz)) ?_
   refine Yi 10 53 56 rfl rfl rfl underlying242 sz246 ?_
   refine Y1f 11 57 rfl rfl .a (fun e H he hH => O_load rfl (Eh he) oc246 (hH.get .hit) (rd _ oz)) ?_
   refine Ym 12 ?_
   refine Ym 13 ?_
   refine Yi 14 59 60 rfl rfl rfl underlying242 sz246 ?_
   refine Y1f 15 61 rfl rfl .a (fun e H he hH => O_load rfl (Eh he) oc246 (hH.get .hit) (rd _ oz)) ?_
   refine Yi 16 47 48 rfl rfl rfl underlying242 sz246 ?_
   refine Ys 17 ?_
   refine Cand.mk (j := 17) [(58, _), (63, _)] (β := Unit) (good := fun _ => True) (val := fun _ => undef) (Hf := fun _ => _) rfl (.cons (t := 58) (.o rfl) (.cons (t := 63) .hit .nil)) (fun e he => O_store (.tmp (he.get (.o rfl))) (.tmp (he.get .hit)) rfl sz246 .a (ls _ oz)) (fun _ _ h => h () trivial) kr (fun _ _ => ⟨⟨.inl kr, .inl kr, .inr .nil, .inr .nil, .inr .nil, .inl kr, .inl kr, .inl kr, .inl kr, .inl kr, .inl kr, .inr .nil, .inr .nil, .inr .nil, .inr .nil, .inl kr, .inl kr, trivial⟩, ?_⟩)
   refine Yi 18 49 52 rfl rfl rfl underlying242 sz246 ?_
   refine Ys 19 ?_
   refine Cand.mk (j := 19) [(62, _), (64, _)] (β := Unit) (good := fun _ => True) (val := fun _ => undef) (Hf := fun _ => _) rfl (.cons (t := 62) (.o rfl) (.cons (t := 64) .hit .nil)) (fun e he => O_store (.tmp (he.get (.o rfl))) (.tmp (he.get .hit)) rfl sz246 .a (ls _ oz)) (fun _ _ h => h () trivial) kr (fun _ _ => ⟨⟨.inl kr, .inl kr, .inl kr, .inl kr, .inl kr, .inl kr, .inl kr, .inl kr, trivial⟩, ?_⟩)
   refine Ye ?_
   refine So k8 ?_
   refine Sr ?_
   refine Mo ?_
   refine Sc (O_binOp rfl (.tmp .hit) .const (fun _ => b_add _ _ _ rfl oz oz)) ?_
   refine Ah ?_
   refine Sn ?_
   refine Pl1 ?_
   exact fun _ _ ha hw => ⟨(i + 1, _, _), (by show (a + (c - a) / 4 * 2 + 2 - (i + 1)).toNat < (a + (c - a) / 4 * 2 + 2 - i).toNat; omega), ⟨by dsimp only; omega, by dsimp only; omega, Q7⟩, ha.weaken (Ek6 rfl rfl rfl rfl rfl rfl), hw.weaken (SW_range.HSub.all _)⟩
  refine Ci fun ht43 => ?_
  refine SS k10 ?_
  refine SW_da mixed ?_
  refine Ym 0 ?_
  refine Ym 1 ?_
  refine Ym 2 ?_
  refine Ym 3 ?_
  refine Ym 4 ?_
  refine Y2 5 50 51 rfl rfl rfl (fun e H he hH => O_binOp rfl (Eh he) (Eo he) (fun _ => b_add _ _ _ rfl oz oz)) ?_
  refine Ym 6 ?_
  refine Ym 7 ?_
  refine Ym 8 ?_
  refine Y2 9 54 55 rfl rfl rfl (fun e H he hH => O_binOp rfl (Eh he) (Eo he) (fun _ => b_add _ _ _ rfl oz oz)) ?_
  refine Yi 10 53 56 rfl rfl rfl underlying242 sz246 ?_
  refine Y1f 11 57 rfl rfl .a (fun e H he hH => O_load rfl (Eh he) oc246 (hH.get .hit) (rd _ oz)) ?_
  refine Ym 12 ?_
  refine Ym 13 ?_
  refine Yi 14 59 60 rfl rfl rfl underlying242 sz246 ?_
  refine Y1f 15 61 rfl rfl .a (fun e H he hH => O_load rfl (Eh he) oc246 (hH.get .hit) (rd _ oz)) ?_
  refine Yi 16 47 48 rfl rfl rfl underlying242 sz246 ?_
  refine Ys 17 ?_
  refine Cand.mk (j := 17) [(58, _), (63, _)] (β := Unit) (good := fun _ => True) (val := fun _ => undef) (Hf := fun _ => _) rfl (.cons (t := 58) (.o rfl) (.cons (t := 63) .hit .nil)) (fun e he => O_store (.tmp (he.get (.o rfl))) (.tmp (he.get .hit)) rfl sz246 .a (ls _ oz)) (fun _ _ h => h () trivial) kr (fun _ _ => ⟨⟨.inl kr, .inl kr, .inr .nil, .inr .nil, .inr .nil, .inl kr, .inl kr, .inl kr, .inl kr, .inl kr, .inl kr, .inr .nil, .inr .nil, .inr .nil, .inr .nil, .inl kr, .inl kr, trivial⟩, ?_⟩)
  refine Yi 18 49 52 rfl rfl rfl underlying242 sz246 ?_
  refine Ys 19 ?_
  refine Cand.mk (j := 19) [(62, _), (64, _)] (β := Unit) (good := fun _ => True) (val := fun _ => undef) (Hf := fun _ => _) rfl (.cons (t := 62) (.o rfl) (.cons (t := 64) .hit .nil)) (fun e he => O_store (.tmp (he.get (.o rfl))) (.tmp (he.get .hit)) rfl sz246 .a (ls _ oz)) (fun _ _ h => h () trivial) kr (fun _ _ => ⟨⟨.inl kr, .inl kr, .inl kr, .inl kr, .inl kr, .inl kr, .inl kr, .inl kr, trivial⟩, ?_⟩)
  refine Ye ?_
  refine So k8 ?_
  refine Sr ?_
  refine Mo ?_
  refine Sc (O_binOp rfl (.tmp .hit) .const (fun _ => b_add _ _ _ rfl oz oz)) ?_
  refine Ah ?_
  refine Sn ?_
  refine Pl1 ?_
  exact fun _ _ ha hw => ⟨(i + 1, _, _), (by show (a + (c - a) / 4 * 2 + 2 - (i + 1)).toNat < (a + (c - a) / 4 * 2 + 2 - i).toNat; omega), ⟨by dsimp only; omega, by dsimp only; omega, Q7⟩, ha.weaken (Ek6 rfl rfl rfl rfl rfl rfl), hw.weaken (SW_range.HSub.all _)⟩
 refine Ci fun ht33 => ?_
 refine Xt ?_
 refine Pl3 ?_
 exact SK_end0 (fn := Tryz.f104) rfl (fun w hw => ⟨_, rfl, Q7, hw.ext, hw.at_ .a⟩)

theorem f107_ok (b len cap : Nat) (rest : List Value) (l : List Int) (w : World) (hb : w.heap[b]? = some (u64o l rest)) (hl : l.length = len) (h40 : len ≤ 40) (a c : Int) (ha : 0 ≤ a) (hac : a < c) (hc : c ≤ len) : Calls Tryz.prog 107 #[.slice (some ⟨b, 0, none⟩) len cap, .int .i64 a, .int .i64 c] w (fun r w' => ∃ t : Bool, r = .returned (.bool t) ∧ True ∧ Fresh w [] w') := by
 refine sw_calls (S := noS) func107 rfl ntmps107 (sees3 _ _ _ _ rfl) (Holds.start1 _ _ hb) ?_
 refine SR fun _ k1 => ?_
 refine Ac ?_
 refine SN k1 ?_
 refine SR fun _ k2 => ?_
 refine Mo ?_
 refine Sc (O_binOp rfl (.tmp .hit) .const (fun _ => b_add _ _ _ rfl oz oz)) ?_
 refine Ah ?_
 refine SN k2 ?_
 refine Ek [7, 6, 0, 1, 2] ?_
 refine Sq fun _ k3 => ?_
 refine SR fun _ k4 => ?_
 refine Ac ?_
 refine SN k4 ?_
 refine Bl ?_
 refine SW_loop (α := Unit) (fun x => True) (fun x => 0) (fun x => [(b, false, u64o l rest)]) (fun x => [(8, .int .i64 0), (7, .int .i64 (a + 1)), (0, .slice (some ⟨b, 0, none⟩) len cap), (1, .int .i64 a), (2, .int .i64 c), (6, .bool false)]) () trivial .a (SW_range.HSub.all _) ?_
 rintro _ _
 refine Sq fun _ k5 => ?_
 refine SR fun _ k6 => ?_
 refine Mh ?_
 refine Sc (O_binOp rfl (.tmp .hit) .const (fun _ => b_lss _ _ _ true (decide_eq_true om))) ?_
 refine SN k6 ?_
 refine Th ?_
 refine SS k5 ?_
 refine Ek [8, 7, 0, 1, 2, 6] ?_
 refine Sq fun _ k7 => ?_
 refine Bl ?_
 refine Sq fun _ k8 => ?_
 refine Bl ?_
 refine SW_loop (α := Int) (fun x => a + 1 ≤ x ∧ x ≤ c) (fun x => (c - x).toNat) (fun x => [(b, false, u64o l rest)]) (fun x => [(7, .int .i64 x), (8, .int .i64 0), (0, .slice (some ⟨b, 0, none⟩) len cap), (1, .int .i64 a), (2, .int .i64 c), (6, .bool false)]) (a + 1) ⟨by omega, by omega⟩ .a (SW_range.HSub.all _) ?_
 rintro i ⟨hi1, hi2⟩
 refine Sq fun _ k9 => ?_
 refine Sq fun _ k10 => ?_
 refine SW_da mixed ?_
 refine Ym 0 ?_
 refine Ym 1 ?_
 refine Y2 2 17 18 rfl rfl rfl (fun e H he hH => O_binOp rfl (Eh he) (Eo he) (fun _ => b_lss _ _ _ _ rfl)) ?_
 refine Ym 3 ?_
 refine Yb ?_ ?_
 ·
  refine Ci fun hs20 => ?_
  refine Yt2 4 0 20 rfl rfl rfl (fun e H he hH => O_move rfl (Eh he)) rfl (.o rfl) ?_
  refine Yt2 5 7 20 rfl rfl rfl (fun e H he hH => O_move rfl (Eh he)) rfl (.o rfl) ?_
  refine Yt3 6 20 21 22 rfl rfl rfl rfl (fun e H he hH => O_indexAddr rfl (Eo he) (Eo he) underlying242 sz246 oz oz) rfl .hit ?_
  refine Yt2f 7 20 23 rfl rfl rfl .a (fun e H he hH => O_load rfl (Eo he) oc246 (hH.get .hit) (rd _ oz)) rfl .hit ?_
  refine Yt2 8 0 20 rfl rfl rfl (fun e H he hH => O_move rfl (Eh he)) rfl (.o rfl) ?_
  refine Yt2 9 7 20 rfl rfl rfl (fun e H he hH => O_move rfl (Eh he)) rfl (.o rfl) ?_
  refine Yt2 10 20 26 rfl rfl rfl (fun e H he hH => O_binOp rfl (Eo he) .const (fun _ => b_sub _ _ _ rfl oz oz)) rfl .hit ?_
  refine Yt3 11 20 25 27 rfl rfl rfl rfl (fun e H he hH => O_indexAddr rfl (Eo he) (Eo he) underlying242 sz246 oz oz) rfl .hit ?_
  refine Yt2f 12 20 28 rfl rfl rfl .a (fun e H he hH => O_load rfl (Eo he) oc246 (hH.get .hit) (rd _ oz)) rfl .hit ?_
  refine Yt3 13 20 24 29 rfl rfl rfl rfl (fun e H he hH => O_callE (xs := [.tmp 24, .tmp 29]) (cap := []) rfl .func (.cons (Eo he) (.cons (Eo he) .nil)) func108 rfl rfl (fun w hw => f108_ok _ _ w)) rfl .hit ?_
  refine Yt2 14 20 30 rfl rfl rfl (fun e H he hH => O_unOp rfl (Eo he) (fun _ => rfl)) rfl .hit ?_
  refine Y2 15 20 31 rfl rfl rfl (fun e H he hH => O_pickT rfl (Eh he) (Eo he)) ?_
  refine Ye ?_
  refine So k10 ?_
  refine Sd ?_ ?_
  ·
   refine Ci fun ht32 => ?_
   refine SS k9 ?_
   refine Bl ?_
   refine Sr ?_
   refine Mo ?_
   refine Sc (O_binOp rfl (.tmp .hit) .const (fun _ => b_add _ _ _ rfl oz oz)) ?_
   refine Ah ?_
   refine Sn ?_
   refine Pl1 ?_
   exact fun _ _ ha hw => ⟨(i + 1), (by show (c - (i + 1)).toNat < (c - i).toNat; omega), ⟨by omega, by omega⟩, ha.weaken .a, hw.weaken (SW_range.HSub.all _)⟩
  refine Ci fun ht32 => ?_
  refine Xt ?_
  refine So k8 ?_
  refine Ek [7, 8, 0, 1, 2, 6] ?_
  refine Sq fun _ k11 => ?_
  refine SR fun _ k12 => ?_
  refine Mh ?_
  refine Mo ?_
  refine Sc (O_binOp rfl (.tmp (.o rfl)) (.tmp .hit) (fun _ => b_eql _ _ _ _ rfl)) ?_
  refine SN k12 ?_
  refine Sd ?_ ?_
  ·
   refine Ci fun ht37 => ?_
   refine Ek [7, 8, 0, 1, 2, 6] ?_
   refine SR fun _ k13 => ?_
   refine Ac ?_
   refine SN k13 ?_
   refine Rt ?_
   refine Pl0 ?_
   refine Pl3 ?_
   exact SK_ret1 rfl .hit (fun w hw => ⟨_, rfl, trivial, Fresh.of_ext hw.ext⟩)
  refine Ci fun ht37 => ?_
  refine SS k11 ?_
  refine Ek [7, 8, 0, 1, 2, 6] ?_
  refine Sq fun _ k14 => ?_
  refine SR fun _ k15 => ?_
  refine Mo ?_
  refine Mo ?_
  refine Sc (O_binOp rfl (.tmp (.o rfl)) (.tmp .hit) (fun _ => b_sub _ _ _ rfl oz oz)) ?_
  refine Sc (O_binOp rfl (.tmp .hit) .const (fun _ => b_lss _ _ _ true (decide_eq_true om))) ?_
  refine SN k15 ?_
  refine Th ?_
  refine Ek [7, 8, 0, 1, 2, 6] ?_
  refine SR fun _ k16 => ?_
  refine Ac ?_
  refine SN k16 ?_
  refine Rt ?_
  refine Pl0 ?_
  refine Pl3 ?_
  exact SK_ret1 rfl .hit (fun w hw => ⟨_, rfl, trivial, Fresh.of_ext hw.ext⟩)
 refine Ci fun hs20 => ?_
 refine YF 4 3 ?_
 refine YF 5 3 ?_
 refine YF 6 3 ?_
 refine YF 7 3 ?_
 refine YF 8 3 ?_
 refine YF 9 3 ?_
 refine YF 10 3 ?_
 refine YF 11 3 ?_
 refine YF 12 3 ?_
 refine YF 13 3 ?_
 refine YF 14 3 ?_
 refine Y2 15 20 31 rfl rfl rfl (fun e H he hH => O_pickF rfl (Eh he) .const) ?_
 refine Ye ?_
 refine So k10 ?_
 refine Fh ?_
 refine Xt ?_
 refine So k8 ?_
 refine Ek [7, 8, 0, 1, 2, 6] ?_
 refine Sq fun _ k17 => ?_
 refine SR fun _ k18 => ?_
 refine Mh ?_
 refine Mo ?_
 refine Sc (O_binOp rfl (.tmp (.o rfl)) (.tmp .hit) (fun _ => b_eql _ _ _ _ rfl)) ?_
 refine SN k18 ?_
 refine Sd ?_ ?_
 ·
  refine Ci fun ht37 => ?_
  refine Ek [7, 8, 0, 1, 2, 6] ?_
  refine SR fun _ k19 => ?_
  refine Ac ?_
  refine SN k19 ?_
  refine Rt ?_
  refine Pl0 ?_
  refine Pl3 ?_
  exact SK_ret1 rfl .hit (fun w hw => ⟨_, rfl, trivial, Fresh.of_ext hw.ext⟩)
 refine Ci fun ht37 => ?_
 refine SS k17 ?_
 refine Ek [7, 8, 0, 1, 2, 6] ?_
 refine Sq fun _ k20 => ?_
 refine SR fun _ k21 => ?_
 refine Mo ?_
 refine Mo ?_
 refine Sc (O_binOp rfl (.tmp (.o rfl)) (.tmp .hit) (fun _ => b_sub _ _ _ rfl oz oz)) ?_
 refine Sc (O_binOp rfl (.tmp .hit) .const (fun _ => b_lss _ _ _ true (decide_eq_true om))) ?_
 refine SN k21 ?_
 refine Th ?_
 refine Ek [7, 8, 0, 1, 2, 6] ?_
 refine SR fun _ k22 => ?_
 refine Ac ?_
 refine SN k22 ?_
 refine Rt ?_
 refine Pl0 ?_
 refine Pl3 ?_
 exact SK_ret1 rfl .hit (fun w hw => ⟨_, rfl, trivial, Fresh.of_ext hw.ext⟩)
end
end Go.Proofs.YtoibhfpagkdleaaGreatDoor
