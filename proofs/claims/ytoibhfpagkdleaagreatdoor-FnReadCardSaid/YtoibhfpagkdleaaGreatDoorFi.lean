/-
  CONTRACTS: the sort of numbers, bounds alone.
-/
import Derived.Test.YtoibhfpagkdleaaGreatDoorFh
namespace Go.Proofs.YtoibhfpagkdleaaGreatDoor
section
open Go
open Tryz
set_option maxRecDepth 100000

theorem f109_ok (b len cap : Nat) (rest : List Value) (l : List Int) (w : World) (hb : w.heap[b]? = some (u64o l rest)) (hl : l.length = len) (h40 : len ≤ 40) (a c p : Int) (ha : 0 ≤ a) (hac : a + 2 ≤ c) (hc : c ≤ len) (hp : a ≤ p) (hp2 : p < c) : Calls Tryz.prog 109 #[.slice (some ⟨b, 0, none⟩) len cap, .int .i64 a, .int .i64 c, .int .i64 p] w (fun r w' => ∃ z : Int × List Int, r = .returned (.int .i64 z.1) ∧ (a + 1 ≤ z.1 ∧ z.1 ≤ c ∧ z.2.length = len) ∧ Ext (· = b) w w' ∧ w'.heap[b]? = some (u64o z.2 rest)) := by
 refine sw_calls (S := (· = b)) func109 rfl ntmps109 (sees4 _ _ _ _ _ rfl) (Holds.start1w _ hb) ?_
 refine SR fun _ k1 => ?_
 refine Ac ?_
 refine SN k1 ?_
 refine Sq fun _ k2 => ?_
 refine SW_da mixed ?_
 refine Ym 0 ?_
 refine Ym 1 ?_
 refine Ym 2 ?_
 refine Ym 3 ?_
 refine Ym 4 ?_
 refine Ym 5 ?_
 refine Yi 6 15 16 rfl rfl rfl underlying242 sz246 ?_
 refine Y1f 7 17 rfl rfl .a (fun e H he hH => O_load rfl (Eh he) oc246 (hH.get .hit) (rd _ oz)) ?_
 refine Ym 8 ?_
 refine Ym 9 ?_
 refine Yi 10 19 20 rfl rfl rfl underlying242 sz246 ?_
 refine Y1f 11 21 rfl rfl .a (fun e H he hH => O_load rfl (Eh he) oc246 (hH.get .hit) (rd _ oz)) ?_
 refine Yi 12 11 12 rfl rfl rfl underlying242 sz246 ?_
 refine Ys 13 ?_
 refine Cand.mk (j := 13) [(18, _), (23, _)] (β := Unit) (good := fun _ => True) (val := fun _ => undef) (Hf := fun _ => _) rfl (.cons (t := 18) (.o rfl) (.cons (t := 23) .hit .nil)) (fun e he => O_store (.tmp (he.get (.o rfl))) (.tmp (he.get .hit)) rfl sz246 .a (ls _ oz)) (fun _ _ h => h () trivial) kr (fun _ _ => ⟨⟨.inl kr, .inl kr, .inr .nil, .inr .nil, .inr .nil, .inl kr, .inl kr, .inl kr, .inl kr, .inr .nil, .inr .nil, .inl kr, .inl kr, trivial⟩, ?_⟩)
 refine Yi 14 13 14 rfl rfl rfl underlying242 sz246 ?_
 refine Ys 15 ?_
 refine Cand.mk (j := 15) [(22, _), (24, _)] (β := Unit) (good := fun _ => True) (val := fun _ => undef) (Hf := fun _ => _) rfl (.cons (t := 22) (.o rfl) (.cons (t := 24) .hit .nil)) (fun e he => O_store (.tmp (he.get (.o rfl))) (.tmp (he.get .hit)) rfl sz246 .a (ls _ oz)) (fun _ _ h => h () trivial) kr (fun _ _ => ⟨⟨.inl kr, .inl kr, .inl kr, .inl kr, .inl kr, .inl kr, trivial⟩, ?_⟩)
 refine Ye ?_
 refine So k2 ?_
 refine Ek [8, 0, 1, 2] ?_
 refine SR fun _ k3 => ?_
 refine Mo ?_
 refine Sc (O_binOp rfl (.tmp .hit) .const (fun _ => b_add _ _ _ rfl oz oz)) ?_
 refine Mo ?_
 refine Sc (O_binOp rfl (.tmp .hit) .const (fun _ => b_sub _ _ _ rfl oz oz)) ?_
 refine Ao ?_
 refine Ao ?_
 refine SN k3 ?_
 refine Ek [10, 9, 8, 0, 1] ?_
 refine Sq fun _ k4 => ?_
 refine Bl ?_
 refine SW_loop (α := Int × Int × List Int) (fun x => a + 1 ≤ x.1 ∧ x.1 ≤ c ∧ a ≤ x.2.1 ∧ x.2.1 ≤ c - 1 ∧ x.2.2.length = len) (fun x => (x.2.1 + 1 - x.1).toNat) (fun x => [(b, true, u64o x.2.2 rest)]) (fun x => [(9, .int .i64 x.1), (10, .int .i64 x.2.1), (0, .slice (some ⟨b, 0, none⟩) len cap), (1, .int .i64 a), (8, .int .i64 0)]) (_, _, _) ⟨by dsimp only; omega, by dsimp only; omega, by dsimp only; omega, by dsimp only; omega, Q7⟩ (Ek5 rfl rfl rfl rfl rfl) (SW_range.HSub.all _) ?_
 rintro ⟨i0, j0, l0⟩ ⟨hi01, hi02, hj01, hj02, hl0⟩
 dsimp only at hi01 hi02 hj01 hj02 hl0
 dsimp only
 refine Bl ?_
 refine Sq fun _ k5 => ?_
 refine SW_join (α := Int × Int × List Int) (fun x => a + 1 ≤ x.1 ∧ x.1 ≤ c ∧ a ≤ x.2.1 ∧ x.2.1 ≤ c - 1 ∧ x.2.2.length = len ∧ i0 ≤ x.1 ∧ x.2.1 ≤ j0) (fun x => [(b, true, u64o x.2.2 rest)]) (fun x => [(9, .int .i64 x.1), (10, .int .i64 x.2.1), (0, .slice (some ⟨b, 0, none⟩) len cap), (1, .int .i64 a), (8, .int .i64 0)]) (fun x hx => ?_) (fun J2 => ?_)
 ·
  obtain ⟨ib2, jb2, lb2⟩ := x
  obtain ⟨hb20, hb21, hb22, hb23, hb24, hxb20, hxb21⟩ := hx
  dsimp only at hb20 hb21 hb22 hb23 hb24 hxb20 hxb21
  dsimp only
  refine So k5 ?_
  refine Sq fun _ k6 => ?_
  refine SW_join (α := Int × Int × List Int) (fun x => a + 1 ≤ x.1 ∧ x.1 ≤ c ∧ a ≤ x.2.1 ∧ x.2.1 ≤ c - 1 ∧ x.2.2.length = len ∧ i0 ≤ x.1 ∧ x.2.1 ≤ j0) (fun x => [(b, true, u64o x.2.2 rest)]) (fun x => [(9, .int .i64 x.1), (10, .int .i64 x.2.1), (0, .slice (some ⟨b, 0, none⟩) len cap), (1, .int .i64 a), (8, .int .i64 0)]) (fun x hx => ?_) (fun J4 => ?_)
  ·
   obtain ⟨ib4, jb4, lb4⟩ := x
   obtain ⟨hb40, hb41, hb42, hb43, hb44, hxb40, hxb41⟩ := hx
   dsimp only at hb40 hb41 hb42 hb43 hb44 hxb40 hxb41
   dsimp only
   refine So k6 ?_
   refine Sq fun _ k7 => ?_
   refine SR fun _ k8 => ?_
   refine Mh ?_
   refine Mo ?_
   refine Sc (O_binOp rfl (.tmp (.o rfl)) (.tmp .hit) (fun _ => b_gtr _ _ _ _ rfl)) ?_
   refine SN k8 ?_
   refine Sd ?_ ?_
   ·
    refine Ci fun ht64 => ?_
    refine Xt ?_
    refine So k4 ?_
    refine Ek [9, 8] ?_
    refine SR fun _ k9 => ?_
    refine Mh ?_
    refine Ah ?_
    refine SN k9 ?_
    refine Rt ?_
    refine Pl3 ?_
    exact SK_ret1 rfl .hit (fun w hw => by refine ⟨(_, _), rfl, ?_, hw.ext, hw.at_ .a⟩; exact ⟨by dsimp only; omega, by dsimp only; omega, Q7⟩)
   refine Ci fun ht64 => ?_
   refine SS k7 ?_
   refine Ek [9, 10, 0, 1, 8] ?_
   refine Sq fun _ k10 => ?_
   refine SW_da mixed ?_
   refine Ym 0 ?_
   refine Ym 1 ?_
   refine Ym 2 ?_
   refine Ym 3 ?_
   refine Ym 4 ?_
   refine Ym 5 ?_
   refine Yi 6 69 70 rfl rfl rfl underlying242 sz246 ?_
   refine Y1f 7 71 rfl rfl .a (fun e H he hH => O_load rfl (Eh he) oc246 (hH.get .hit) (rd _ oz)) ?_
   refine Ym 8 ?_
   refine Ym 9 ?_
   refine Yi 10 73 74 rfl rfl rfl underlying242 sz246 ?_
   refine Y1f 11 75 rfl rfl .a (fun e H he hH => O_load rfl (Eh he) oc246 (hH.get .hit) (rd _ oz)) ?_
   refine Yi 12 65 66 rfl rfl rfl underlying242 sz246 ?_
   refine Ys 13 ?_
   refine Cand.mk (j := 13) [(72, _), (77, _)] (β := Unit) (good := fun _ => True) (val := fun _ => undef) (Hf := fun _ => _) rfl (.cons (t := 72) (.o rfl) (.cons (t := 77) .hit .nil)) (fun e he => O_store (.tmp (he.get (.o rfl))) (.tmp (he.get .hit)) rfl sz246 .a (ls _ oz)) (fun _ _ h => h () trivial) kr (fun _ _ => ⟨⟨.inl kr, .inl kr, .inr .nil, .inr .nil, .inr .nil, .inl kr, .inl kr, .inl kr, .inl kr, .inr .nil, .inr .nil, .inl kr, .inl kr, trivial⟩, ?_⟩)
   refine Yi 14 67 68 rfl rfl rfl underlying242 sz246 ?_
   refine Ys 15 ?_
   refine Cand.mk (j := 15) [(76, _), (78, _)] (β := Unit) (good := fun _ => True) (val := fun _ => undef) (Hf := fun _ => _) rfl (.cons (t := 76) (.o rfl) (.cons (t := 78) .hit .nil)) (fun e he => O_store (.tmp (he.get (.o rfl))) (.tmp (he.get .hit)) rfl sz246 .a (ls _ oz)) (fun _ _ h => h () trivial) kr (fun _ _ => ⟨⟨.inl kr, .inl kr, .inl kr, .inl kr, .inl kr, .inl kr, trivial⟩, ?_⟩)
   refine Ye ?_
   refine So k10 ?_
   refine Ek [9, 10, 0, 1, 8] ?_
   refine SR fun _ k11 => ?_
   refine Mh ?_
   refine Sc (O_binOp rfl (.tmp .hit) .const (fun _ => b_add _ _ _ rfl oz oz)) ?_
   refine Ah ?_
   refine SN k11 ?_
   refine Sr ?_
   refine Mo ?_
   refine Sc (O_binOp rfl (.tmp .hit) .const (fun _ => b_sub _ _ _ rfl oz oz)) ?_
   refine Ah ?_
   refine Sn ?_
   refine Pl1 ?_
   exact fun _ _ ha hw => ⟨(_, _, _), Q33, ⟨by dsimp only; omega, by dsimp only; omega, by dsimp only; omega, by dsimp only; omega, Q7⟩, ha.weaken (Ek5 rfl rfl rfl rfl rfl), hw.weaken (SW_range.HSub.all _)⟩
  refine Bl ?_
  refine SW_loop (α := Int × Int × List Int) (fun x => a + 1 ≤ x.1 ∧ x.1 ≤ c ∧ a ≤ x.2.1 ∧ x.2.1 ≤ c - 1 ∧ x.2.2.length = len ∧ i0 ≤ x.1 ∧ x.2.1 ≤ j0) (fun x => (x.2.1 + 1 - x.1).toNat) (fun x => [(b, true, u64o x.2.2 rest)]) (fun x => [(9, .int .i64 x.1), (10, .int .i64 x.2.1), (0, .slice (some ⟨b, 0, none⟩) len cap), (1, .int .i64 a), (8, .int .i64 0)]) (_, _, _) ⟨by dsimp only; omega, by dsimp only; omega, by dsimp only; omega, by dsimp only; omega, Q7, by dsimp only; omega, by dsimp only; omega⟩ (Ek5 rfl rfl rfl rfl rfl) (SW_range.HSub.all _) ?_
  rintro ⟨i2, j2, l2⟩ ⟨hi21, hi22, hj21, hj22, hl2, hx1i2, hx2i2⟩
  dsimp only at hi21 hi22 hj21 hj22 hl2 hx1i2 hx2i2
  dsimp only
  refine Sq fun _ k12 => ?_
  refine Sq fun _ k13 => ?_
  refine SW_da mixed ?_
  refine Ym 0 ?_
  refine Ym 1 ?_
  refine Y2 2 46 47 rfl rfl rfl (fun e H he hH => O_binOp rfl (Eh he) (Eo he) (fun _ => b_leq _ _ _ _ rfl)) ?_
  refine Ym 3 ?_
  refine Yb ?_ ?_
  ·
   refine Ci fun hs49 => ?_
   refine Yt2 4 0 49 rfl rfl rfl (fun e H he hH => O_move rfl (Eh he)) rfl (.o rfl) ?_
   refine Yt2 5 1 49 rfl rfl rfl (fun e H he hH => O_move rfl (Eh he)) rfl (.o rfl) ?_
   refine Yt3 6 49 50 51 rfl rfl rfl rfl (fun e H he hH => O_indexAddr rfl (Eo he) (Eo he) underlying242 sz246 oz oz) rfl .hit ?_
   refine Yt2f 7 49 52 rfl rfl rfl .a (fun e H he hH => O_load rfl (Eo he) oc246 (hH.get .hit) (rd _ oz)) rfl .hit ?_
   refine Yt2 8 0 49 rfl rfl rfl (fun e H he hH => O_move rfl (Eh he)) rfl (.o rfl) ?_
   refine Yt2 9 10 49 rfl rfl rfl (fun e H he hH => O_move rfl (Eh he)) rfl (.o rfl) ?_
   refine Yt3 10 49 54 55 rfl rfl rfl rfl (fun e H he hH => O_indexAddr rfl (Eo he) (Eo he) underlying242 sz246 oz oz) rfl .hit ?_
   refine Yt2f 11 49 56 rfl rfl rfl .a (fun e H he hH => O_load rfl (Eo he) oc246 (hH.get .hit) (rd _ oz)) rfl .hit ?_
   refine Yt3 12 49 53 57 rfl rfl rfl rfl (fun e H he hH => O_callE (xs := [.tmp 53, .tmp 57]) (cap := []) rfl .func (.cons (Eo he) (.cons (Eo he) .nil)) func108 rfl rfl (fun w hw => f108_ok _ _ w)) rfl .hit ?_
   refine Y2 13 49 58 rfl rfl rfl (fun e H he hH => O_pickT rfl (Eh he) (Eo he)) ?_
   refine Ye ?_
   refine So k13 ?_
   refine Sd ?_ ?_
   ·
    refine Ci fun ht59 => ?_
    refine SS k12 ?_
    refine Bl ?_
    refine Sr ?_
    refine Mo ?_
    refine Sc (O_binOp rfl (.tmp .hit) .const (fun _ => b_sub _ _ _ rfl oz oz)) ?_
    refine Ah ?_
    refine Sn ?_
    refine Pl1 ?_
    exact fun _ _ ha hw => ⟨(_, j2 - 1, _), Q33, ⟨by dsimp only; omega, by dsimp only; omega, by dsimp only; omega, by dsimp only; omega, Q7, by dsimp only; omega, by dsimp only; omega⟩, ha.weaken (Ek5 rfl rfl rfl rfl rfl), hw.weaken (SW_range.HSub.all _)⟩
   refine Ci fun ht59 => ?_
   refine Xt ?_
   refine Pl4 ?_
   exact fun _ _ ha hw => J4 (_, _, _) ⟨by dsimp only; omega, by dsimp only; omega, by dsimp only; omega, by dsimp only; omega, Q7, by dsimp only; omega, by dsimp only; omega⟩ _ _ (ha.weaken (Ek5 rfl rfl rfl rfl rfl)) (hw.weaken (SW_range.HSub.all _))
  refine Ci fun hs49 => ?_
  refine YF 4 3 ?_
  refine YF 5 3 ?_
  refine YF 6 3 ?_
  refine YF 7 3 ?_
  refine YF 8 3 ?_
  refine YF 9 3 ?_
  refine YF 10 3 ?_
  refine YF 11 3 ?_
  refine YF 12 3 ?_
  refine Y2 13 49 58 rfl rfl rfl (fun e H he hH => O_pickF rfl (Eh he) .const) ?_
  refine Ye ?_
  refine So k13 ?_
  refine Fh ?_
  refine Xt ?_
  refine Pl4 ?_
  exact fun _ _ ha hw => J4 (_, _, _) ⟨by dsimp only; omega, by dsimp only; omega, by dsimp only; omega, by dsimp only; omega, Q7, by dsimp only; omega, by dsimp only; omega⟩ _ _ (ha.weaken (Ek5 rfl rfl rfl rfl rfl)) (hw.weaken (SW_range.HSub.all _))
 refine Bl ?_
 refine SW_loop (α := Int × Int × List Int) (fun x => a + 1 ≤ x.1 ∧ x.1 ≤ c ∧ a ≤ x.2.1 ∧ x.2.1 ≤ c - 1 ∧ x.2.2.length = len ∧ i0 ≤ x.1 ∧ x.2.1 ≤ j0) (fun x => (x.2.1 + 1 - x.1).toNat) (fun x => [(b, true, u64o x.2.2 rest)]) (fun x => [(9, .int .i64 x.1), (10, .int .i64 x.2.1), (0, .slice (some ⟨b, 0, none⟩) len cap), (1, .int .i64 a), (8, .int .i64 0)]) (_, _, _) ⟨by dsimp only; omega, by dsimp only; omega, by dsimp only; omega, by dsimp only; omega, Q7, by dsimp only; omega, by dsimp only; omega⟩ (Ek5 rfl rfl rfl rfl rfl) (SW_range.HSub.all _) ?_
 rintro ⟨i1, j1, l1⟩ ⟨hi11, hi12, hj11, hj12, hl1, hx1i1, hx2i1⟩
 dsimp only at hi11 hi12 hj11 hj12 hl1 hx1i1 hx2i1
 dsimp only
 refine Sq fun _ k14 => ?_
 refine Sq fun _ k15 => ?_
 refine SW_da mixed ?_
 refine Ym 0 ?_
 refine Ym 1 ?_
 refine Y2 2 29 30 rfl rfl rfl (fun e H he hH => O_binOp rfl (Eh he) (Eo he) (fun _ => b_leq _ _ _ _ rfl)) ?_
 refine Ym 3 ?_
 refine Yb ?_ ?_
 ·
  refine Ci fun hs32 => ?_
  refine Yt2 4 0 32 rfl rfl rfl (fun e H he hH => O_move rfl (Eh he)) rfl (.o rfl) ?_
  refine Yt2 5 1 32 rfl rfl rfl (fun e H he hH => O_move rfl (Eh he)) rfl (.o rfl) ?_
  refine Yt3 6 32 33 34 rfl rfl rfl rfl (fun e H he hH => O_indexAddr rfl (Eo he) (Eo he) underlying242 sz246 oz oz) rfl .hit ?_
  refine Yt2f 7 32 35 rfl rfl rfl .a (fun e H he hH => O_load rfl (Eo he) oc246 (hH.get .hit) (rd _ oz)) rfl .hit ?_
  refine Yt2 8 0 32 rfl rfl rfl (fun e H he hH => O_move rfl (Eh he)) rfl (.o rfl) ?_
  refine Yt2 9 9 32 rfl rfl rfl (fun e H he hH => O_move rfl (Eh he)) rfl (.o rfl) ?_
  refine Yt3 10 32 37 38 rfl rfl rfl rfl (fun e H he hH => O_indexAddr rfl (Eo he) (Eo he) underlying242 sz246 oz oz) rfl .hit ?_
  refine Yt2f 11 32 39 rfl rfl rfl .a (fun e H he hH => O_load rfl (Eo he) oc246 (hH.get .hit) (rd _ oz)) rfl .hit ?_
  refine Yt3 12 32 36 40 rfl rfl rfl rfl (fun e H he hH => O_callE (xs := [.tmp 36, .tmp 40]) (cap := []) rfl .func (.cons (Eo he) (.cons (Eo he) .nil)) func108 rfl rfl (fun w hw => f108_ok _ _ w)) rfl .hit ?_
  refine Yt2 13 32 41 rfl rfl rfl (fun e H he hH => O_unOp rfl (Eo he) (fun _ => rfl)) rfl .hit ?_
  refine Y2 14 32 42 rfl rfl rfl (fun e H he hH => O_pickT rfl (Eh he) (Eo he)) ?_
  refine Ye ?_
  refine So k15 ?_
  refine Sd ?_ ?_
  ·
   refine Ci fun ht43 => ?_
   refine SS k14 ?_
   refine Bl ?_
   refine Sr ?_
   refine Mo ?_
   refine Sc (O_binOp rfl (.tmp .hit) .const (fun _ => b_add _ _ _ rfl oz oz)) ?_
   refine Ah ?_
   refine Sn ?_
   refine Pl1 ?_
   exact fun _ _ ha hw => ⟨(i1 + 1, _, _), Q33, ⟨by dsimp only; omega, by dsimp only; omega, by dsimp only; omega, by dsimp only; omega, Q7, by dsimp only; omega, by dsimp only; omega⟩, ha.weaken (Ek5 rfl rfl rfl rfl rfl), hw.weaken (SW_range.HSub.all _)⟩
  refine Ci fun ht43 => ?_
  refine Xt ?_
  refine Pl4 ?_
  exact fun _ _ ha hw => J2 (_, _, _) ⟨by dsimp only; omega, by dsimp only; omega, by dsimp only; omega, by dsimp only; omega, Q7, by dsimp only; omega, by dsimp only; omega⟩ _ _ (ha.weaken (Ek5 rfl rfl rfl rfl rfl)) (hw.weaken (SW_range.HSub.all _))
 refine Ci fun hs32 => ?_
 refine YF 4 3 ?_
 refine YF 5 3 ?_
 refine YF 6 3 ?_
 refine YF 7 3 ?_
 refine YF 8 3 ?_
 refine YF 9 3 ?_
 refine YF 10 3 ?_
 refine YF 11 3 ?_
 refine YF 12 3 ?_
 refine YF 13 3 ?_
 refine Y2 14 32 42 rfl rfl rfl (fun e H he hH => O_pickF rfl (Eh he) .const) ?_
 refine Ye ?_
 refine So k15 ?_
 refine Fh ?_
 refine Xt ?_
 refine Pl4 ?_
 exact fun _ _ ha hw => J2 (_, _, _) ⟨by dsimp only; omega, by dsimp only; omega, by dsimp only; omega, by dsimp only; omega, Q7, by dsimp only; omega, by dsimp only; omega⟩ _ _ (ha.weaken (Ek5 rfl rfl rfl rfl rfl)) (hw.weaken (SW_range.HSub.all _))

theorem f110_ok (b len cap : Nat) (rest : List Value) (l : List Int) (w : World) (hb : w.heap[b]? = some (u64o l rest)) (hl : l.length = len) (h40 : len ≤ 40) (a c p : Int) (ha : 0 ≤ a) (hac : a + 2 ≤ c) (hc : c ≤ len) (hp : a ≤ p) (hp2 : p < c) : Calls Tryz.prog 110 #[.slice (some ⟨b, 0, none⟩) len cap, .int .i64 a, .int .i64 c, .int .i64 p] w (fun r w' => ∃ z : Int × Bool × List Int, r = .returned (.tuple #[.int .i64 z.1, .bool z.2.1]) ∧ (a ≤ z.1 ∧ z.1 < c ∧ z.2.2.length = len) ∧ Ext (· = b) w w' ∧ w'.heap[b]? = some (u64o z.2.2 rest)) := by
 refine sw_calls (S := (· = b)) func110 rfl ntmps110 (sees4 _ _ _ _ _ rfl) (Holds.start1w _ hb) ?_
 refine SR fun _ k1 => ?_
 refine Ac ?_
 refine Ac ?_
 refine SN k1 ?_
 refine Sq fun _ k2 => ?_
 refine SW_da mixed ?_
 refine Ym 0 ?_
 refine Ym 1 ?_
 refine Ym 2 ?_
 refine Ym 3 ?_
 refine Ym 4 ?_
 refine Ym 5 ?_
 refine Yi 6 16 17 rfl rfl rfl underlying242 sz246 ?_
 refine Y1f 7 18 rfl rfl .a (fun e H he hH => O_load rfl (Eh he) oc246 (hH.get .hit) (rd _ oz)) ?_
 refine Ym 8 ?_
 refine Ym 9 ?_
 refine Yi 10 20 21 rfl rfl rfl underlying242 sz246 ?_
 refine Y1f 11 22 rfl rfl .a (fun e H he hH => O_load rfl (Eh he) oc246 (hH.get .hit) (rd _ oz)) ?_
 refine Yi 12 12 13 rfl rfl rfl underlying242 sz246 ?_
 refine Ys 13 ?_
 refine Cand.mk (j := 13) [(19, _), (24, _)] (β := Unit) (good := fun _ => True) (val := fun _ => undef) (Hf := fun _ => _) rfl (.cons (t := 19) (.o rfl) (.cons (t := 24) .hit .nil)) (fun e he => O_store (.tmp (he.get (.o rfl))) (.tmp (he.get .hit)) rfl sz246 .a (ls _ oz)) (fun _ _ h => h () trivial) kr (fun _ _ => ⟨⟨.inl kr, .inl kr, .inr .nil, .inr .nil, .inr .nil, .inl kr, .inl kr, .inl kr, .inl kr, .inr .nil, .inr .nil, .inl kr, .inl kr, trivial⟩, ?_⟩)
 refine Yi 14 14 15 rfl rfl rfl underlying242 sz246 ?_
 refine Ys 15 ?_
 refine Cand.mk (j := 15) [(23, _), (25, _)] (β := Unit) (good := fun _ => True) (val := fun _ => undef) (Hf := fun _ => _) rfl (.cons (t := 23) (.o rfl) (.cons (t := 25) .hit .nil)) (fun e he => O_store (.tmp (he.get (.o rfl))) (.tmp (he.get .hit)) rfl sz246 .a (ls _ oz)) (fun _ _ h => h () trivial) kr (fun _ _ => ⟨⟨.inl kr, .inl kr, .inl kr, .inl kr, .inl kr, .inl kr, trivial⟩, ?_⟩)
 refine Ye ?_
 refine So k2 ?_
 refine Ek [9, 8, 0, 1, 2] ?_
 refine SR fun _ k3 => ?_
 refine Mo ?_
 refine Sc (O_binOp rfl (.tmp .hit) .const (fun _ => b_add _ _ _ rfl oz oz)) ?_
 refine Mo ?_
 refine Sc (O_binOp rfl (.tmp .hit) .const (fun _ => b_sub _ _ _ rfl oz oz)) ?_
 refine Ao ?_
 refine Ao ?_
 refine SN k3 ?_
 refine Ek [11, 10, 9, 8, 0, 1] ?_
 refine Sq fun _ k4 => ?_
 refine SW_join (α := Int × Int × List Int) (fun x => a + 1 ≤ x.1 ∧ x.1 ≤ c ∧ a ≤ x.2.1 ∧ x.2.1 ≤ c - 1 ∧ x.2.2.length = len) (fun x => [(b, true, u64o x.2.2 rest)]) (fun x => [(10, .int .i64 x.1), (11, .int .i64 x.2.1), (0, .slice (some ⟨b, 0, none⟩) len cap), (1, .int .i64 a), (8, .int .i64 0), (9, .bool false)]) (fun x hx => ?_) (fun J0 => ?_)
 ·
  obtain ⟨ib0, jb0, lb0⟩ := x
  obtain ⟨hb00, hb01, hb02, hb03, hb04⟩ := hx
  dsimp only at hb00 hb01 hb02 hb03 hb04
  dsimp only
  refine So k4 ?_
  refine Sq fun _ k5 => ?_
  refine SW_join (α := Int × Int × List Int) (fun x => a + 1 ≤ x.1 ∧ x.1 ≤ c ∧ a ≤ x.2.1 ∧ x.2.1 ≤ c - 1 ∧ x.2.2.length = len) (fun x => [(b, true, u64o x.2.2 rest)]) (fun x => [(10, .int .i64 x.1), (11, .int .i64 x.2.1), (0, .slice (some ⟨b, 0, none⟩) len cap), (1, .int .i64 a), (8, .int .i64 0), (9, .bool false)]) (fun x hx => ?_) (fun J2 => ?_)
  ·
   obtain ⟨ib2, jb2, lb2⟩ := x
   obtain ⟨hb20, hb21, hb22, hb23, hb24⟩ := hx
   dsimp only at hb20 hb21 hb22 hb23 hb24
   dsimp only
   refine So k5 ?_
   refine Sq fun _ k6 => ?_
   refine SR fun _ k7 => ?_
   refine Mh ?_
   refine Mo ?_
   refine Sc (O_binOp rfl (.tmp (.o rfl)) (.tmp .hit) (fun _ => b_gtr _ _ _ _ rfl)) ?_
   refine SN k7 ?_
   refine Sd ?_ ?_
   ·
    refine Ci fun ht65 => ?_
    refine Ek [10, 11, 0, 1, 8, 9] ?_
    refine Sq fun _ k8 => ?_
    refine SW_da mixed ?_
    refine Ym 0 ?_
    refine Ym 1 ?_
    refine Ym 2 ?_
    refine Ym 3 ?_
    refine Ym 4 ?_
    refine Ym 5 ?_
    refine Yi 6 70 71 rfl rfl rfl underlying242 sz246 ?_
    refine Y1f 7 72 rfl rfl .a (fun e H he hH => O_load rfl (Eh he) oc246 (hH.get .hit) (rd _ oz)) ?_
    refine Ym 8 ?_
    refine Ym 9 ?_
    refine Yi 10 74 75 rfl rfl rfl underlying242 sz246 ?_
    refine Y1f 11 76 rfl rfl .a (fun e H he hH => O_load rfl (Eh he) oc246 (hH.get .hit) (rd _ oz)) ?_
    refine Yi 12 66 67 rfl rfl rfl underlying242 sz246 ?_
    refine Ys 13 ?_
    refine Cand.mk (j := 13) [(73, _), (78, _)] (β := Unit) (good := fun _ => True) (val := fun _ => undef) (Hf := fun _ => _) rfl (.cons (t := 73) (.o rfl) (.cons (t := 78) .hit .nil)) (fun e he => O_store (.tmp (he.get (.o rfl))) (.tmp (he.get .hit)) rfl sz246 .a (ls _ oz)) (fun _ _ h => h () trivial) kr (fun _ _ => ⟨⟨.inl kr, .inl kr, .inr .nil, .inr .nil, .inr .nil, .inl kr, .inl kr, .inl kr, .inl kr, .inr .nil, .inr .nil, .inl kr, .inl kr, trivial⟩, ?_⟩)
    refine Yi 14 68 69 rfl rfl rfl underlying242 sz246 ?_
    refine Ys 15 ?_
    refine Cand.mk (j := 15) [(77, _), (79, _)] (β := Unit) (good := fun _ => True) (val := fun _ => undef) (Hf := fun _ => _) rfl (.cons (t := 77) (.o rfl) (.cons (t := 79) .hit .nil)) (fun e he => O_store (.tmp (he.get (.o rfl))) (.tmp (he.get .hit)) rfl sz246 .a (ls _ oz)) (fun _ _ h => h () trivial) kr (fun _ _ => ⟨⟨.inl kr, .inl kr, .inl kr, .inl kr, .inl kr, .inl kr, trivial⟩, ?_⟩)
    refine Ye ?_
    refine So k8 ?_
    refine Ek [10, 11, 0, 1, 8, 9] ?_
    refine SR fun _ k9 => ?_
    refine Mo ?_
    refine Ah ?_
    refine Ac ?_
    refine SN k9 ?_
    refine Rt ?_
    refine Pl0 ?_
    refine Pl3 ?_
    exact SK_ret2 rfl (.o rfl) .hit (fun w hw => by refine ⟨(_, _, _), rfl, ?_, hw.ext, hw.at_ .a⟩; exact ⟨by dsimp only; omega, by dsimp only; omega, Q7⟩)
   refine Ci fun ht65 => ?_
   refine SS k6 ?_
   refine Ek [10, 11, 0, 1, 8, 9] ?_
   refine Sq fun _ k10 => ?_
   refine SW_da mixed ?_
   refine Ym 0 ?_
   refine Ym 1 ?_
   refine Ym 2 ?_
   refine Ym 3 ?_
   refine Ym 4 ?_
   refine Ym 5 ?_
   refine Yi 6 85 86 rfl rfl rfl underlying242 sz246 ?_
   refine Y1f 7 87 rfl rfl .a (fun e H he hH => O_load rfl (Eh he) oc246 (hH.get .hit) (rd _ oz)) ?_
   refine Ym 8 ?_
   refine Ym 9 ?_
   refine Yi 10 89 90 rfl rfl rfl underlying242 sz246 ?_
   refine Y1f 11 91 rfl rfl .a (fun e H he hH => O_load rfl (Eh he) oc246 (hH.get .hit) (rd _ oz)) ?_
   refine Yi 12 81 82 rfl rfl rfl underlying242 sz246 ?_
   refine Ys 13 ?_
   refine Cand.mk (j := 13) [(88, _), (93, _)] (β := Unit) (good := fun _ => True) (val := fun _ => undef) (Hf := fun _ => _) rfl (.cons (t := 88) (.o rfl) (.cons (t := 93) .hit .nil)) (fun e he => O_store (.tmp (he.get (.o rfl))) (.tmp (he.get .hit)) rfl sz246 .a (ls _ oz)) (fun _ _ h => h () trivial) kr (fun _ _ => ⟨⟨.inl kr, .inl kr, .inr .nil, .inr .nil, .inr .nil, .inl kr, .inl kr, .inl kr, .inl kr, .inr .nil, .inr .nil, .inl kr, .inl kr, trivial⟩, ?_⟩)
   refine Yi 14 83 84 rfl rfl rfl underlying242 sz246 ?_
   refine Ys 15 ?_
   refine Cand.mk (j := 15) [(92, _), (94, _)] (β := Unit) (good := fun _ => True) (val := fun _ => undef) (Hf := fun _ => _) rfl (.cons (t := 92) (.o rfl) (.cons (t := 94) .hit .nil)) (fun e he => O_store (.tmp (he.get (.o rfl))) (.tmp (he.get .hit)) rfl sz246 .a (ls _ oz)) (fun _ _ h => h () trivial) kr (fun _ _ => ⟨⟨.inl kr, .inl kr, .inl kr, .inl kr, .inl kr, .inl kr, trivial⟩, ?_⟩)
   refine Ye ?_
   refine So k10 ?_
   refine Ek [10, 11, 0, 1, 8, 9] ?_
   refine SR fun _ k11 => ?_
   refine Mh ?_
   refine Sc (O_binOp rfl (.tmp .hit) .const (fun _ => b_add _ _ _ rfl oz oz)) ?_
   refine Ah ?_
   refine SN k11 ?_
   refine Ek [10, 11, 0, 1, 8, 9] ?_
   refine SR fun _ k12 => ?_
   refine Mo ?_
   refine Sc (O_binOp rfl (.tmp .hit) .const (fun _ => b_sub _ _ _ rfl oz oz)) ?_
   refine Ah ?_
   refine SN k12 ?_
   refine Ek [11, 10, 0, 1, 8, 9] ?_
   refine Sq fun _ k13 => ?_
   refine Bl ?_
   refine SW_loop (α := Int × Int × List Int) (fun x => a + 1 ≤ x.1 ∧ x.1 ≤ c ∧ a ≤ x.2.1 ∧ x.2.1 ≤ c - 1 ∧ x.2.2.length = len) (fun x => (x.2.1 + 1 - x.1).toNat) (fun x => [(b, true, u64o x.2.2 rest)]) (fun x => [(10, .int .i64 x.1), (11, .int .i64 x.2.1), (0, .slice (some ⟨b, 0, none⟩) len cap), (1, .int .i64 a), (8, .int .i64 0), (9, .bool false)]) (_, _, _) ⟨by dsimp only; omega, by dsimp only; omega, by dsimp only; omega, by dsimp only; omega, Q7⟩ (Ek6 rfl rfl rfl rfl rfl rfl) (SW_range.HSub.all _) ?_
   rintro ⟨i0, j0, l0⟩ ⟨hi01, hi02, hj01, hj02, hl0⟩
   dsimp only at hi01 hi02 hj01 hj02 hl0
   dsimp only
   refine Bl ?_
   refine Sq fun _ k14 => ?_
   refine SW_join (α := Int × Int × List Int) (fun x => a + 1 ≤ x.1 ∧ x.1 ≤ c ∧ a ≤ x.2.1 ∧ x.2.1 ≤ c - 1 ∧ x.2.2.length = len ∧ i0 ≤ x.1 ∧ x.2.1 ≤ j0) (fun x => [(b, true, u64o x.2.2 rest)]) (fun x => [(10, .int .i64 x.1), (11, .int .i64 x.2.1), (0, .slice (some ⟨b, 0, none⟩) len cap), (1, .int .i64 a), (8, .int .i64 0), (9, .bool false)]) (fun x hx => ?_) (fun J6 => ?_)
   ·
    obtain ⟨ib6, jb6, lb6⟩ := x
    obtain ⟨hb60, hb61, hb62, hb63, hb64, hxb60, hxb61⟩ := hx
    dsimp only at hb60 hb61 hb62 hb63 hb64 hxb60 hxb61
    dsimp only
    refine So k14 ?_
    refine Sq fun _ k15 => ?_
    refine SW_join (α := Int × Int × List Int) (fun x => a + 1 ≤ x.1 ∧ x.1 ≤ c ∧ a ≤ x.2.1 ∧ x.2.1 ≤ c - 1 ∧ x.2.2.length = len ∧ i0 ≤ x.1 ∧ x.2.1 ≤ j0) (fun x => [(b, true, u64o x.2.2 rest)]) (fun x => [(10, .int .i64 x.1), (11, .int .i64 x.2.1), (0, .slice (some ⟨b, 0, none⟩) len cap), (1, .int .i64 a), (8, .int .i64 0), (9, .bool false)]) (fun x hx => ?_) (fun J8 => ?_)
    ·
     obtain ⟨ib8, jb8, lb8⟩ := x
     obtain ⟨hb80, hb81, hb82, hb83, hb84, hxb80, hxb81⟩ := hx
     dsimp only at hb80 hb81 hb82 hb83 hb84 hxb80 hxb81
     dsimp only
     refine So k15 ?_
     refine Sq fun _ k16 => ?_
     refine SR fun _ k17 => ?_
     refine Mh ?_
     refine Mo ?_
     refine Sc (O_binOp rfl (.tmp (.o rfl)) (.tmp .hit) (fun _ => b_gtr _ _ _ _ rfl)) ?_
     refine SN k17 ?_
     refine Sd ?_ ?_
     ·
      refine Ci fun ht134 => ?_
      refine Xt ?_
      refine So k13 ?_
      refine Ek [11, 0, 1, 8, 9] ?_
      refine Sq fun _ k18 => ?_
      refine SW_da mixed ?_
      refine Ym 0 ?_
      refine Ym 1 ?_
      refine Ym 2 ?_
      refine Ym 3 ?_
      refine Ym 4 ?_
      refine Ym 5 ?_
      refine Yi 6 157 158 rfl rfl rfl underlying242 sz246 ?_
      refine Y1f 7 159 rfl rfl .a (fun e H he hH => O_load rfl (Eh he) oc246 (hH.get .hit) (rd _ oz)) ?_
      refine Ym 8 ?_
      refine Ym 9 ?_
      refine Yi 10 161 162 rfl rfl rfl underlying242 sz246 ?_
      refine Y1f 11 163 rfl rfl .a (fun e H he hH => O_load rfl (Eh he) oc246 (hH.get .hit) (rd _ oz)) ?_
      refine Yi 12 153 154 rfl rfl rfl underlying242 sz246 ?_
      refine Ys 13 ?_
      refine Cand.mk (j := 13) [(160, _), (165, _)] (β := Unit) (good := fun _ => True) (val := fun _ => undef) (Hf := fun _ => _) rfl (.cons (t := 160) (.o rfl) (.cons (t := 165) .hit .nil)) (fun e he => O_store (.tmp (he.get (.o rfl))) (.tmp (he.get .hit)) rfl sz246 .a (ls _ oz)) (fun _ _ h => h () trivial) kr (fun _ _ => ⟨⟨.inl kr, .inl kr, .inr .nil, .inr .nil, .inr .nil, .inl kr, .inl kr, .inl kr, .inl kr, .inr .nil, .inr .nil, .inl kr, .inl kr, trivial⟩, ?_⟩)
      refine Yi 14 155 156 rfl rfl rfl underlying242 sz246 ?_
      refine Ys 15 ?_
      refine Cand.mk (j := 15) [(164, _), (166, _)] (β := Unit) (good := fun _ => True) (val := fun _ => undef) (Hf := fun _ => _) rfl (.cons (t := 164) (.o rfl) (.cons (t := 166) .hit .nil)) (fun e he => O_store (.tmp (he.get (.o rfl))) (.tmp (he.get .hit)) rfl sz246 .a (ls _ oz)) (fun _ _ h => h () trivial) kr (fun _ _ => ⟨⟨.inl kr, .inl kr, .inl kr, .inl kr, .inl kr, .inl kr, trivial⟩, ?_⟩)
      refine Ye ?_
      refine So k18 ?_
      refine Ek [11, 8, 9] ?_
      refine SR fun _ k19 => ?_
      refine Mh ?_
      refine Ah ?_
      refine Ac ?_
      refine SN k19 ?_
      refine Rt ?_
      refine Pl3 ?_
      exact SK_ret2 rfl (.o rfl) .hit (fun w hw => by refine ⟨(_, _, _), rfl, ?_, hw.ext, hw.at_ .a⟩; exact ⟨by dsimp only; omega, by dsimp only; omega, Q7⟩)
     refine Ci fun ht134 => ?_
     refine SS k16 ?_
     refine Ek [10, 11, 0, 1, 8, 9] ?_
     refine Sq fun _ k20 => ?_
     refine SW_da mixed ?_
     refine Ym 0 ?_
     refine Ym 1 ?_
     refine Ym 2 ?_
     refine Ym 3 ?_
     refine Ym 4 ?_
     refine Ym 5 ?_
     refine Yi 6 139 140 rfl rfl rfl underlying242 sz246 ?_
     refine Y1f 7 141 rfl rfl .a (fun e H he hH => O_load rfl (Eh he) oc246 (hH.get .hit) (rd _ oz)) ?_
     refine Ym 8 ?_
     refine Ym 9 ?_
     refine Yi 10 143 144 rfl rfl rfl underlying242 sz246 ?_
     refine Y1f 11 145 rfl rfl .a (fun e H he hH => O_load rfl (Eh he) oc246 (hH.get .hit) (rd _ oz)) ?_
     refine Yi 12 135 136 rfl rfl rfl underlying242 sz246 ?_
     refine Ys 13 ?_
     refine Cand.mk (j := 13) [(142, _), (147, _)] (β := Unit) (good := fun _ => True) (val := fun _ => undef) (Hf := fun _ => _) rfl (.cons (t := 142) (.o rfl) (.cons (t := 147) .hit .nil)) (fun e he => O_store (.tmp (he.get (.o rfl))) (.tmp (he.get .hit)) rfl sz246 .a (ls _ oz)) (fun _ _ h => h () trivial) kr (fun _ _ => ⟨⟨.inl kr, .inl kr, .inr .nil, .inr .nil, .inr .nil, .inl kr, .inl kr, .inl kr, .inl kr, .inr .nil, .inr .nil, .inl kr, .inl kr, trivial⟩, ?_⟩)
     refine Yi 14 137 138 rfl rfl rfl underlying242 sz246 ?_
     refine Ys 15 ?_
     refine Cand.mk (j := 15) [(146, _), (148, _)] (β := Unit) (good := fun _ => True) (val := fun _ => undef) (Hf := fun _ => _) rfl (.cons (t := 146) (.o rfl) (.cons (t := 148) .hit .nil)) (fun e he => O_store (.tmp (he.get (.o rfl))) (.tmp (he.get .hit)) rfl sz246 .a (ls _ oz)) (fun _ _ h => h () trivial) kr (fun _ _ => ⟨⟨.inl kr, .inl kr, .inl kr, .inl kr, .inl kr, .inl kr, trivial⟩, ?_⟩)
     refine Ye ?_
     refine So k20 ?_
     refine Ek [10, 11, 0, 1, 8, 9] ?_
     refine SR fun _ k21 => ?_
     refine Mh ?_
     refine Sc (O_binOp rfl (.tmp .hit) .const (fun _ => b_add _ _ _ rfl oz oz)) ?_
     refine Ah ?_
     refine SN k21 ?_
     refine Sr ?_
     refine Mo ?_
     refine Sc (O_binOp rfl (.tmp .hit) .const (fun _ => b_sub _ _ _ rfl oz oz)) ?_
     refine Ah ?_
     refine Sn ?_
     refine Pl1 ?_
     exact fun _ _ ha hw => ⟨(_, _, _), Q33, ⟨by dsimp only; omega, by dsimp only; omega, by dsimp only; omega, by dsimp only; omega, Q7⟩, ha.weaken (Ek6 rfl rfl rfl rfl rfl rfl), hw.weaken (SW_range.HSub.all _)⟩
    refine Bl ?_
    refine SW_loop (α := Int × Int × List Int) (fun x => a + 1 ≤ x.1 ∧ x.1 ≤ c ∧ a ≤ x.2.1 ∧ x.2.1 ≤ c - 1 ∧ x.2.2.length = len ∧ i0 ≤ x.1 ∧ x.2.1 ≤ j0) (fun x => (x.2.1 + 1 - x.1).toNat) (fun x => [(b, true, u64o x.2.2 rest)]) (fun x => [(10, .int .i64 x.1), (11, .int .i64 x.2.1), (0, .slice (some ⟨b, 0, none⟩) len cap), (1, .int .i64 a), (8, .int .i64 0), (9, .bool false)]) (_, _, _) ⟨by dsimp only; omega, by dsimp only; omega, by dsimp only; omega, by dsimp only; omega, Q7, by dsimp only; omega, by dsimp only; omega⟩ (Ek6 rfl rfl rfl rfl rfl rfl) (SW_range.HSub.all _) ?_
    rintro ⟨i2, j2, l2⟩ ⟨hi21, hi22, hj21, hj22, hl2, hx1i2, hx2i2⟩
    dsimp only at hi21 hi22 hj21 hj22 hl2 hx1i2 hx2i2
    dsimp only
    refine Sq fun _ k22 => ?_
    refine Sq fun _ k23 => ?_
    refine SW_da mixed ?_
    refine Ym 0 ?_
    refine Ym 1 ?_
    refine Y2 2 115 116 rfl rfl rfl (fun e H he hH => O_binOp rfl (Eh he) (Eo he) (fun _ => b_leq _ _ _ _ rfl)) ?_
    refine Ym 3 ?_
    refine Yb ?_ ?_
    ·
     refine Ci fun hs118 => ?_
     refine Yt2 4 0 118 rfl rfl rfl (fun e H he hH => O_move rfl (Eh he)) rfl (.o rfl) ?_
     refine Yt2 5 11 118 rfl rfl rfl (fun e H he hH => O_move rfl (Eh he)) rfl (.o rfl) ?_
     refine Yt3 6 118 119 120 rfl rfl rfl rfl (fun e H he hH => O_indexAddr rfl (Eo he) (Eo he) underlying242 sz246 oz oz) rfl .hit ?_
     refine Yt2f 7 118 121 rfl rfl rfl .a (fun e H he hH => O_load rfl (Eo he) oc246 (hH.get .hit) (rd _ oz)) rfl .hit ?_
     refine Yt2 8 0 118 rfl rfl rfl (fun e H he hH => O_move rfl (Eh he)) rfl (.o rfl) ?_
     refine Yt2 9 1 118 rfl rfl rfl (fun e H he hH => O_move rfl (Eh he)) rfl (.o rfl) ?_
     refine Yt3 10 118 123 124 rfl rfl rfl rfl (fun e H he hH => O_indexAddr rfl (Eo he) (Eo he) underlying242 sz246 oz oz) rfl .hit ?_
     refine Yt2f 11 118 125 rfl rfl rfl .a (fun e H he hH => O_load rfl (Eo he) oc246 (hH.get .hit) (rd _ oz)) rfl .hit ?_
     refine Yt3 12 118 122 126 rfl rfl rfl rfl (fun e H he hH => O_callE (xs := [.tmp 122, .tmp 126]) (cap := []) rfl .func (.cons (Eo he) (.cons (Eo he) .nil)) func108 rfl rfl (fun w hw => f108_ok _ _ w)) rfl .hit ?_
     refine Yt2 13 118 127 rfl rfl rfl (fun e H he hH => O_unOp rfl (Eo he) (fun _ => rfl)) rfl .hit ?_
     refine Y2 14 118 128 rfl rfl rfl (fun e H he hH => O_pickT rfl (Eh he) (Eo he)) ?_
     refine Ye ?_
     refine So k23 ?_
     refine Sd ?_ ?_
     ·
      refine Ci fun ht129 => ?_
      refine SS k22 ?_
      refine Bl ?_
      refine Sr ?_
      refine Mo ?_
      refine Sc (O_binOp rfl (.tmp .hit) .const (fun _ => b_sub _ _ _ rfl oz oz)) ?_
      refine Ah ?_
      refine Sn ?_
      refine Pl1 ?_
      exact fun _ _ ha hw => ⟨(_, j2 - 1, _), Q33, ⟨by dsimp only; omega, by dsimp only; omega, by dsimp only; omega, by dsimp only; omega, Q7, by dsimp only; omega, by dsimp only; omega⟩, ha.weaken (Ek6 rfl rfl rfl rfl rfl rfl), hw.weaken (SW_range.HSub.all _)⟩
     refine Ci fun ht129 => ?_
     refine Xt ?_
     refine Pl4 ?_
     exact fun _ _ ha hw => J8 (_, _, _) ⟨by dsimp only; omega, by dsimp only; omega, by dsimp only; omega, by dsimp only; omega, Q7, by dsimp only; omega, by dsimp only; omega⟩ _ _ (ha.weaken (Ek6 rfl rfl rfl rfl rfl rfl)) (hw.weaken (SW_range.HSub.all _))
    refine Ci fun hs118 => ?_
    refine YF 4 3 ?_
    refine YF 5 3 ?_
    refine YF 6 3 ?_
    refine YF 7 3 ?_
    refine YF 8 3 ?_
    refine YF 9 3 ?_
    refine YF 10 3 ?_
    refine YF 11 3 ?_
    refine YF 12 3 ?_
    refine YF 13 3 ?_
    refine Y2 14 118 128 rfl rfl rfl (fun e H he hH => O_pickF rfl (Eh he) .const) ?_
    refine Ye ?_
    refine So k23 ?_
    refine Fh ?_
    refine Xt ?_
    refine Pl4 ?_
    exact fun _ _ ha hw => J8 (_, _, _) ⟨by dsimp only; omega, by dsimp only; omega, by dsimp only; omega, by dsimp only; omega, Q7, by dsimp only; omega, by dsimp only; omega⟩ _ _ (ha.weaken (Ek6 rfl rfl rfl rfl rfl rfl)) (hw.weaken (SW_range.HSub.all _))
   refine Bl ?_
   refine SW_loop (α := Int × Int × List Int) (fun x => a + 1 ≤ x.1 ∧ x.1 ≤ c ∧ a ≤ x.2.1 ∧ x.2.1 ≤ c - 1 ∧ x.2.2.length = len ∧ i0 ≤ x.1 ∧ x.2.1 ≤ j0) (fun x => (x.2.1 + 1 - x.1).toNat) (fun x => [(b, true, u64o x.2.2 rest)]) (fun x => [(10, .int .i64 x.1), (11, .int .i64 x.2.1), (0, .slice (some ⟨b, 0, none⟩) len cap), (1, .int .i64 a), (8, .int .i64 0), (9, .bool false)]) (_, _, _) ⟨by dsimp only; omega, by dsimp only; omega, by dsimp only; omega, by dsimp only; omega, Q7, by dsimp only; omega, by dsimp only; omega⟩ (Ek6 rfl rfl rfl rfl rfl rfl) (SW_range.HSub.all _) ?_
   rintro ⟨i1, j1, l1⟩ ⟨hi11, hi12, hj11, hj12, hl1, hx1i1, hx2i1⟩
   dsimp only at hi11 hi12 hj11 hj12 hl1 hx1i1 hx2i1
   dsimp only
   refine Sq fun _ k24 => ?_
   refine Sq fun _ k25 => ?_
   refine SW_da mixed ?_
   refine Ym 0 ?_
   refine Ym 1 ?_
   refine Y2 2 99 100 rfl rfl rfl (fun e H he hH => O_binOp rfl (Eh he) (Eo he) (fun _ => b_leq _ _ _ _ rfl)) ?_
   refine Ym 3 ?_
   refine Yb ?_ ?_
   ·
    refine Ci fun hs102 => ?_
    refine Yt2 4 0 102 rfl rfl rfl (fun e H he hH => O_move rfl (Eh he)) rfl (.o rfl) ?_
    refine Yt2 5 10 102 rfl rfl rfl (fun e H he hH => O_move rfl (Eh he)) rfl (.o rfl) ?_
    refine Yt3 6 102 103 104 rfl rfl rfl rfl (fun e H he hH => O_indexAddr rfl (Eo he) (Eo he) underlying242 sz246 oz oz) rfl .hit ?_
    refine Yt2f 7 102 105 rfl rfl rfl .a (fun e H he hH => O_load rfl (Eo he) oc246 (hH.get .hit) (rd _ oz)) rfl .hit ?_
    refine Yt2 8 0 102 rfl rfl rfl (fun e H he hH => O_move rfl (Eh he)) rfl (.o rfl) ?_
    refine Yt2 9 1 102 rfl rfl rfl (fun e H he hH => O_move rfl (Eh he)) rfl (.o rfl) ?_
    refine Yt3 10 102 107 108 rfl rfl rfl rfl (fun e H he hH => O_indexAddr rfl (Eo he) (Eo he) underlying242 sz246 oz oz) rfl .hit ?_
    refine Yt2f 11 102 109 rfl rfl rfl .a (fun e H he hH => O_load rfl (Eo he) oc246 (hH.get .hit) (rd _ oz)) rfl .hit ?_
    refine Yt3 12 102 106 110 rfl rfl rfl rfl (fun e H he hH => O_callE (xs := [.tmp 106, .tmp 110]) (cap := []) rfl .func (.cons (Eo he) (.cons (Eo he) .nil)) func108 rfl rfl (fun w hw => f108_ok _ _ w)) rfl .hit ?_
    refine Y2 13 102 111 rfl rfl rfl (fun e H he hH => O_pickT rfl (Eh he) (Eo he)) ?_
    refine Ye ?_
    refine So k25 ?_
    refine Sd ?_ ?_
    ·
     refine Ci fun ht112 => ?_
     refine SS k24 ?_
     refine Bl ?_
     refine Sr ?_
     refine Mo ?_
     refine Sc (O_binOp rfl (.tmp .hit) .const (fun _ => b_add _ _ _ rfl oz oz)) ?_
     refine Ah ?_
     refine Sn ?_
     refine Pl1 ?_
     exact fun _ _ ha hw => ⟨(i1 + 1, _, _), Q33, ⟨by dsimp only; omega, by dsimp only; omega, by dsimp only; omega, by dsimp only; omega, Q7, by dsimp only; omega, by dsimp only; omega⟩, ha.weaken (Ek6 rfl rfl rfl rfl rfl rfl), hw.weaken (SW_range.HSub.all _)⟩
    refine Ci fun ht112 => ?_
    refine Xt ?_
    refine Pl4 ?_
    exact fun _ _ ha hw => J6 (_, _, _) ⟨by dsimp only; omega, by dsimp only; omega, by dsimp only; omega, by dsimp only; omega, Q7, by dsimp only; omega, by dsimp only; omega⟩ _ _ (ha.weaken (Ek6 rfl rfl rfl rfl rfl rfl)) (hw.weaken (SW_range.HSub.all _))
   refine Ci fun hs102 => ?_
   refine YF 4 3 ?_
   refine YF 5 3 ?_
   refine YF 6 3 ?_
   refine YF 7 3 ?_
   refine YF 8 3 ?_
   refine YF 9 3 ?_
   refine YF 10 3 ?_
   refine YF 11 3 ?_
   refine YF 12 3 ?_
   refine Y2 13 102 111 rfl rfl rfl (fun e H he hH => O_pickF rfl (Eh he) .const) ?_
   refine Ye ?_
   refine So k25 ?_
   refine Fh ?_
   refine Xt ?_
   refine Pl4 ?_
   exact fun _ _ ha hw => J6 (_, _, _) ⟨by dsimp only; omega, by dsimp only; omega, by dsimp only; omega, by dsimp only; omega, Q7, by dsimp only; omega, by dsimp only; omega⟩ _ _ (ha.weaken (Ek6 rfl rfl rfl rfl rfl rfl)) (hw.weaken (SW_range.HSub.all _))
  refine Bl ?_
  refine SW_loop (α := Int × Int × List Int) (fun x => a + 1 ≤ x.1 ∧ x.1 ≤ c ∧ a ≤ x.2.1 ∧ x.2.1 ≤ c - 1 ∧ x.2.2.length = len) (fun x => (x.2.1 + 1 - x.1).toNat) (fun x => [(b, true, u64o x.2.2 rest)]) (fun x => [(10, .int .i64 x.1), (11, .int .i64 x.2.1), (0, .slice (some ⟨b, 0, none⟩) len cap), (1, .int .i64 a), (8, .int .i64 0), (9, .bool false)]) (_, _, _) ⟨by dsimp only; omega, by dsimp only; omega, by dsimp only; omega, by dsimp only; omega, Q7⟩ (Ek6 rfl rfl rfl rfl rfl rfl) (SW_range.HSub.all _) ?_
  rintro ⟨i2, j2, l2⟩ ⟨hi21, hi22, hj21, hj22, hl2⟩
  dsimp only at hi21 hi22 hj21 hj22 hl2
  dsimp only
  refine Sq fun _ k26 => ?_
  refine Sq fun _ k27 => ?_
  refine SW_da mixed ?_
  refine Ym 0 ?_
  refine Ym 1 ?_
  refine Y2 2 46 47 rfl rfl rfl (fun e H he hH => O_binOp rfl (Eh he) (Eo he) (fun _ => b_leq _ _ _ _ rfl)) ?_
  refine Ym 3 ?_
  refine Yb ?_ ?_
  ·
   refine Ci fun hs49 => ?_
   refine Yt2 4 0 49 rfl rfl rfl (fun e H he hH => O_move rfl (Eh he)) rfl (.o rfl) ?_
   refine Yt2 5 11 49 rfl rfl rfl (fun e H he hH => O_move rfl (Eh he)) rfl (.o rfl) ?_
   refine Yt3 6 49 50 51 rfl rfl rfl rfl (fun e H he hH => O_indexAddr rfl (Eo he) (Eo he) underlying242 sz246 oz oz) rfl .hit ?_
   refine Yt2f 7 49 52 rfl rfl rfl .a (fun e H he hH => O_load rfl (Eo he) oc246 (hH.get .hit) (rd _ oz)) rfl .hit ?_
   refine Yt2 8 0 49 rfl rfl rfl (fun e H he hH => O_move rfl (Eh he)) rfl (.o rfl) ?_
   refine Yt2 9 1 49 rfl rfl rfl (fun e H he hH => O_move rfl (Eh he)) rfl (.o rfl) ?_
   refine Yt3 10 49 54 55 rfl rfl rfl rfl (fun e H he hH => O_indexAddr rfl (Eo he) (Eo he) underlying242 sz246 oz oz) rfl .hit ?_
   refine Yt2f 11 49 56 rfl rfl rfl .a (fun e H he hH => O_load rfl (Eo he) oc246 (hH.get .hit) (rd _ oz)) rfl .hit ?_
   refine Yt3 12 49 53 57 rfl rfl rfl rfl (fun e H he hH => O_callE (xs := [.tmp 53, .tmp 57]) (cap := []) rfl .func (.cons (Eo he) (.cons (Eo he) .nil)) func108 rfl rfl (fun w hw => f108_ok _ _ w)) rfl .hit ?_
   refine Yt2 13 49 58 rfl rfl rfl (fun e H he hH => O_unOp rfl (Eo he) (fun _ => rfl)) rfl .hit ?_
   refine Y2 14 49 59 rfl rfl rfl (fun e H he hH => O_pickT rfl (Eh he) (Eo he)) ?_
   refine Ye ?_
   refine So k27 ?_
   refine Sd ?_ ?_
   ·
    refine Ci fun ht60 => ?_
    refine SS k26 ?_
    refine Bl ?_
    refine Sr ?_
    refine Mo ?_
    refine Sc (O_binOp rfl (.tmp .hit) .const (fun _ => b_sub _ _ _ rfl oz oz)) ?_
    refine Ah ?_
    refine Sn ?_
    refine Pl1 ?_
    exact fun _ _ ha hw => ⟨(_, j2 - 1, _), Q33, ⟨by dsimp only; omega, by dsimp only; omega, by dsimp only; omega, by dsimp only; omega, Q7⟩, ha.weaken (Ek6 rfl rfl rfl rfl rfl rfl), hw.weaken (SW_range.HSub.all _)⟩
   refine Ci fun ht60 => ?_
   refine Xt ?_
   refine Pl4 ?_
   exact fun _ _ ha hw => J2 (_, _, _) ⟨by dsimp only; omega, by dsimp only; omega, by dsimp only; omega, by dsimp only; omega, Q7⟩ _ _ (ha.weaken (Ek6 rfl rfl rfl rfl rfl rfl)) (hw.weaken (SW_range.HSub.all _))
  refine Ci fun hs49 => ?_
  refine YF 4 3 ?_
  refine YF 5 3 ?_
  refine YF 6 3 ?_
  refine YF 7 3 ?_
  refine YF 8 3 ?_
  refine YF 9 3 ?_
  refine YF 10 3 ?_
  refine YF 11 3 ?_
  refine YF 12 3 ?_
  refine YF 13 3 ?_
  refine Y2 14 49 59 rfl rfl rfl (fun e H he hH => O_pickF rfl (Eh he) .const) ?_
  refine Ye ?_
  refine So k27 ?_
  refine Fh ?_
  refine Xt ?_
  refine Pl4 ?_
  exact fun _ _ ha hw => J2 (_, _, _) ⟨by dsimp only; omega, by dsimp only; omega, by dsimp only; omega, by dsimp only; omega, Q7⟩ _ _ (ha.weaken (Ek6 rfl rfl rfl rfl rfl rfl)) (hw.weaken (SW_range.HSub.all _))
 refine Bl ?_
 refine SW_loop (α := Int × Int × List Int) (fun x => a + 1 ≤ x.1 ∧ x.1 ≤ c ∧ a ≤ x.2.1 ∧ x.2.1 ≤ c - 1 ∧ x.2.2.length = len) (fun x => (x.2.1 + 1 - x.1).toNat) (fun x => [(b, true, u64o x.2.2 rest)]) (fun x => [(10, .int .i64 x.1), (11, .int .i64 x.2.1), (0, .slice (some ⟨b, 0, none⟩) len cap), (1, .int .i64 a), (8, .int .i64 0), (9, .bool false)]) (_, _, _) ⟨by dsimp only; omega, by dsimp only; omega, by dsimp only; omega, by dsimp only; omega, Q7⟩ (Ek6 rfl rfl rfl rfl rfl rfl) (SW_range.HSub.all _) ?_
 rintro ⟨i1, j1, l1⟩ ⟨hi11, hi12, hj11, hj12, hl1⟩
 dsimp only at hi11 hi12 hj11 hj12 hl1
 dsimp only
 refine Sq fun _ k28 => ?_
 refine Sq fun _ k29 => ?_
 refine SW_da mixed ?_
 refine Ym 0 ?_
 refine Ym 1 ?_
 refine Y2 2 30 31 rfl rfl rfl (fun e H he hH => O_binOp rfl (Eh he) (Eo he) (fun _ => b_leq _ _ _ _ rfl)) ?_
 refine Ym 3 ?_
 refine Yb ?_ ?_
 ·
  refine Ci fun hs33 => ?_
  refine Yt2 4 0 33 rfl rfl rfl (fun e H he hH => O_move rfl (Eh he)) rfl (.o rfl) ?_
  refine Yt2 5 10 33 rfl rfl rfl (fun e H he hH => O_move rfl (Eh he)) rfl (.o rfl) ?_
  refine Yt3 6 33 34 35 rfl rfl rfl rfl (fun e H he hH => O_indexAddr rfl (Eo he) (Eo he) underlying242 sz246 oz oz) rfl .hit ?_
  refine Yt2f 7 33 36 rfl rfl rfl .a (fun e H he hH => O_load rfl (Eo he) oc246 (hH.get .hit) (rd _ oz)) rfl .hit ?_
  refine Yt2 8 0 33 rfl rfl rfl (fun e H he hH => O_move rfl (Eh he)) rfl (.o rfl) ?_
  refine Yt2 9 1 33 rfl rfl rfl (fun e H he hH => O_move rfl (Eh he)) rfl (.o rfl) ?_
  refine Yt3 10 33 38 39 rfl rfl rfl rfl (fun e H he hH => O_indexAddr rfl (Eo he) (Eo he) underlying242 sz246 oz oz) rfl .hit ?_
  refine Yt2f 11 33 40 rfl rfl rfl .a (fun e H he hH => O_load rfl (Eo he) oc246 (hH.get .hit) (rd _ oz)) rfl .hit ?_
  refine Yt3 12 33 37 41 rfl rfl rfl rfl (fun e H he hH => O_callE (xs := [.tmp 37, .tmp 41]) (cap := []) rfl .func (.cons (Eo he) (.cons (Eo he) .nil)) func108 rfl rfl (fun w hw => f108_ok _ _ w)) rfl .hit ?_
  refine Y2 13 33 42 rfl rfl rfl (fun e H he hH => O_pickT rfl (Eh he) (Eo he)) ?_
  refine Ye ?_
  refine So k29 ?_
  refine Sd ?_ ?_
  ·
   refine Ci fun ht43 => ?_
   refine SS k28 ?_
   refine Bl ?_
   refine Sr ?_
   refine Mo ?_
   refine Sc (O_binOp rfl (.tmp .hit) .const (fun _ => b_add _ _ _ rfl oz oz)) ?_
   refine Ah ?_
   refine Sn ?_
   refine Pl1 ?_
   exact fun _ _ ha hw => ⟨(i1 + 1, _, _), Q33, ⟨by dsimp only; omega, by dsimp only; omega, by dsimp only; omega, by dsimp only; omega, Q7⟩, ha.weaken (Ek6 rfl rfl rfl rfl rfl rfl), hw.weaken (SW_range.HSub.all _)⟩
  refine Ci fun ht43 => ?_
  refine Xt ?_
  refine Pl4 ?_
  exact fun _ _ ha hw => J0 (_, _, _) ⟨by dsimp only; omega, by dsimp only; omega, by dsimp only; omega, by dsimp only; omega, Q7⟩ _ _ (ha.weaken (Ek6 rfl rfl rfl rfl rfl rfl)) (hw.weaken (SW_range.HSub.all _))
 refine Ci fun hs33 => ?_
 refine YF 4 3 ?_
 refine YF 5 3 ?_
 refine YF 6 3 ?_
 refine YF 7 3 ?_
 refine YF 8 3 ?_
 refine YF 9 3 ?_
 refine YF 10 3 ?_
 refine YF 11 3 ?_
 refine YF 12 3 ?_
 refine Y2 13 33 42 rfl rfl rfl (fun e H he hH => O_pickF rfl (Eh he) .const) ?_
 refine Ye ?_
 refine So k29 ?_
 refine Fh ?_
 refine Xt ?_
 refine Pl4 ?_
 exact fun _ _ ha hw => J0 (_, _, _) ⟨by dsimp only; omega, by dsimp only; omega, by dsimp only; omega, by dsimp only; omega, Q7⟩ _ _ (ha.weaken (Ek6 rfl rfl rfl rfl rfl rfl)) (hw.weaken (SW_range.HSub.all _))
end
end Go.Proofs.YtoibhfpagkdleaaGreatDoor
