/-
  CONTRACTS: the sort of numbers, bounds alone.
-/
import Derived.Test.YtoibhfpagkdleaaGreatDoorFi
namespace Go.Proofs.YtoibhfpagkdleaaGreatDoor
section
open Go
open Tryz
set_option maxRecDepth 100000

theorem f97_ok (b len cap : Nat) (rest : List Value) (h40 : len ≤ 40) : ∀ (m : Nat) (l : List Int) (w : World), w.heap[b]? = some (u64o l rest) → l.length = len → ∀ (a c t : Int), 0 ≤ a → a ≤ c → c ≤ len → 0 ≤ t → t ≤ 100 → (c - a).toNat < m →
 Calls Tryz.prog 97 #[.slice (some ⟨b, 0, none⟩) len cap, .int .i64 a, .int .i64 c, .int .i64 t] w (fun r w' => ∃ z : List Int, r = .returned (.tuple #[]) ∧ (z.length = len) ∧ Ext (· = b) w w' ∧ w'.heap[b]? = some (u64o z rest)) := by
 intro m
 induction m with
 | zero => intro l w _ _ a c t _ _ _ _ _ hm; omega
 | succ m ih =>
  intro l w hb hl a c t ha hac hc ht ht2 hm
  refine sw_calls (S := (· = b)) func97 rfl ntmps97 (sees4 _ _ _ _ _ rfl) (Holds.start1w _ hb) ?_
  refine SR fun _ k1 => ?_
  refine Ac ?_
  refine SN k1 ?_
  refine SR fun _ k2 => ?_
  refine Ac ?_
  refine SN k2 ?_
  refine Bl ?_
  refine SW_loop (α := Int × Int × Int × Bool × Bool × List Int) (fun x => a ≤ x.1 ∧ x.1 ≤ x.2.1 ∧ x.2.1 ≤ c ∧ 0 ≤ x.2.2.1 ∧ x.2.2.1 ≤ 100 ∧ x.2.2.2.2.2.length = len) (fun x => (x.2.1 - x.1).toNat) (fun x => [(b, true, u64o x.2.2.2.2.2 rest)]) (fun x => [(1, .int .i64 x.1), (2, .int .i64 x.2.1), (3, .int .i64 x.2.2.1), (8, .bool x.2.2.2.1), (9, .bool x.2.2.2.2.1), (0, .slice (some ⟨b, 0, none⟩) len cap)]) (_, _, _, _, _, l) ⟨by dsimp only; omega, by dsimp only; omega, by dsimp only; omega, by dsimp only; omega, by dsimp only; omega, hl⟩ (Ek6 rfl rfl rfl rfl rfl rfl) (SW_range.HSub.all _) ?_
  rintro ⟨a1, c1, t1, wb, wp, l⟩ ⟨h1, h2, h3, h4, h5, hl⟩
  dsimp only at h1 h2 h3 h4 h5 hl
  dsimp only
  refine Bl ?_
  refine SR fun _ k3 => ?_
  refine Mo ?_
  refine Mo ?_
  refine Sc (O_binOp rfl (.tmp (.o rfl)) (.tmp .hit) (fun _ => b_sub _ _ _ rfl oz oz)) ?_
  refine Ah ?_
  refine SN k3 ?_
  refine Ek [10, 1, 2, 3, 8, 9, 0] ?_
  refine Sq fun _ k4 => ?_
  refine SR fun _ k5 => ?_
  refine Mh ?_
  refine Sc (O_binOp rfl (.tmp .hit) .const (fun _ => b_leq _ _ _ _ rfl)) ?_
  refine SN k5 ?_
  refine Sd ?_ ?_
  ·
   refine Ci fun ht23 => ?_
   refine Ek [10, 1, 2, 3, 8, 9, 0] ?_
   refine SR fun _ k6 => ?_
   refine Mo ?_
   refine Mo ?_
   refine Mo ?_
   refine Sc (O_callG (β := List Int) (val := fun l => .tuple #[]) (obj := fun l => u64o l rest) (good := fun l => l.length = len) (xs := [.tmp 24, .tmp 25, .tmp 26]) (cap := []) rfl .func (.cons (.tmp (.o rfl)) (.cons (.tmp (.o rfl)) (.cons (.tmp .hit) .nil))) func102 rfl rfl (HAt.set .a) (fun w hw => f102_ok b len cap rest _ w (hw.at_ .a) Q7 h40 _ _ om om om)) ?_
   intro l4 hl4
   refine SN k6 ?_
   refine Rt ?_
   refine Pl0 ?_
   refine Pl3 ?_
   exact SK_ret0 (fn := Tryz.f97) rfl (fun w hw => by refine ⟨_, rfl, ?_, hw.ext, hw.at_ .a⟩; exact Q7)
  refine Ci fun ht23 => ?_
  refine SS k4 ?_
  refine Ek [10, 1, 2, 3, 8, 9, 0] ?_
  refine Sq fun _ k7 => ?_
  refine SR fun _ k8 => ?_
  refine Mo ?_
  refine Sc Obe ?_
  refine SN k8 ?_
  refine Sd ?_ ?_
  ·
   refine Ci fun ht29 => ?_
   refine Ek [10, 1, 2, 3, 8, 9, 0] ?_
   refine SR fun _ k9 => ?_
   refine Mo ?_
   refine Mo ?_
   refine Mo ?_
   refine Sc (O_callG (β := List Int) (val := fun l => .tuple #[]) (obj := fun l => u64o l rest) (good := fun l => l.length = len) (xs := [.tmp 30, .tmp 31, .tmp 32]) (cap := []) rfl .func (.cons (.tmp (.o rfl)) (.cons (.tmp (.o rfl)) (.cons (.tmp .hit) .nil))) func103 rfl rfl (HAt.set .a) (fun w hw => f103_ok b len cap rest _ w (hw.at_ .a) Q7 h40 _ _ om om om)) ?_
   intro l4 hl4
   refine SN k9 ?_
   refine Rt ?_
   refine Pl0 ?_
   refine Pl3 ?_
   exact SK_ret0 (fn := Tryz.f97) rfl (fun w hw => by refine ⟨_, rfl, ?_, hw.ext, hw.at_ .a⟩; exact Q7)
  refine Ci fun ht29 => ?_
  refine SS k7 ?_
  refine Ek [10, 1, 2, 3, 8, 9, 0] ?_
  refine Sq fun _ k10 => ?_
  refine SR fun _ k11 => ?_
  refine Mo ?_
  refine Sc (O_unOp rfl (.tmp .hit) (fun _ => rfl)) ?_
  refine SN k11 ?_
  refine SW_join (α := Int × List Int) (fun x => 0 ≤ x.1 ∧ x.1 ≤ 100 ∧ x.2.length = len) (fun x => [(b, true, u64o x.2 rest)]) (fun x => [(3, .int .i64 x.1), (0, .slice (some ⟨b, 0, none⟩) len cap), (1, .int .i64 a1), (2, .int .i64 c1), (8, .bool wb), (9, .bool wp), (10, .int .i64 (c1 - a1))]) (fun x hx => ?_) (fun J35 => ?_)
  ·
   obtain ⟨t2, l2⟩ := x
   obtain ⟨g1, g2, hl2⟩ := hx
   dsimp only at g1 g2 hl2
   dsimp only
   refine So k10 ?_
   refine SR fun _ k12 => ?_
   refine Mo ?_
   refine Mo ?_
   refine Mo ?_
   refine Sc (O_callN (val := fun z : Int × Int => .tuple #[.int .i64 z.1, .int .i64 z.2]) (N := fun _ => []) (good := fun z => a1 ≤ z.1 ∧ z.1 < c1) (xs := [.tmp 43, .tmp 44, .tmp 45]) (cap := []) rfl .func (.cons (.tmp (.o rfl)) (.cons (.tmp (.o rfl)) (.cons (.tmp .hit) .nil))) func105 rfl rfl (fun w hw => f105_ok b len cap rest _ w (hw.at_ .a) Q7 h40 _ _ om om om)) ?_
   rintro ⟨pv0, hn0⟩ ⟨k1, k2⟩
   dsimp only at k1 k2
   dsimp only
   refine Mh ?_
   refine Sc Oex ?_
   refine Sc Oex ?_
   refine Ao ?_
   refine Ao ?_
   refine SN k12 ?_
   refine Ek [12, 11, 3, 0, 1, 2, 8, 9, 10] ?_
   refine Sq fun _ k13 => ?_
   refine SR fun _ k14 => ?_
   refine Mh ?_
   refine Sc Obe ?_
   refine SN k14 ?_
   refine SW_join (α := Int × Int × List Int) (fun x => a1 ≤ x.1 ∧ x.1 < c1 ∧ x.2.2.length = len) (fun x => [(b, true, u64o x.2.2 rest)]) (fun x => [(11, .int .i64 x.1), (12, .int .i64 x.2.1), (3, .int .i64 t2), (0, .slice (some ⟨b, 0, none⟩) len cap), (1, .int .i64 a1), (2, .int .i64 c1), (8, .bool wb), (9, .bool wp), (10, .int .i64 (c1 - a1))]) (fun x hx => ?_) (fun J50 => ?_)
   ·
    obtain ⟨pv, hn, l3⟩ := x
    obtain ⟨g3, g4, hl3⟩ := hx
    dsimp only at g3 g4 hl3
    dsimp only
    refine So k13 ?_
    refine Sq fun _ k15 => ?_
    refine SR fun _ k16 => ?_
    refine SL_join 8 68 (fun t : Bool => .bool t) (fun _ => True) (fun tJ hJ => ?_) (fun J => ?_)
    ·
     refine SN k16 ?_
     refine SW_join (α := Unit) (fun x => True) (fun x => [(b, true, u64o l3 rest)]) (fun x => [(11, .int .i64 pv), (12, .int .i64 hn), (3, .int .i64 t2), (0, .slice (some ⟨b, 0, none⟩) len cap), (1, .int .i64 a1), (2, .int .i64 c1), (8, .bool wb), (9, .bool wp), (10, .int .i64 (c1 - a1))]) (fun x hx => ?_) (fun J68 => ?_)
     ·
      clear hx x
      refine So k15 ?_
      refine Ek [11, 3, 0, 1, 2, 8, 9, 10] ?_
      refine Sq fun _ k17 => ?_
      refine Sq fun _ k18 => ?_
      refine SW_da mixed ?_
      refine Ym 0 ?_
      refine Y1 1 73 rfl rfl (fun e H he hH => O_binOp rfl (Eh he) .const (fun _ => b_gtr _ _ _ _ rfl)) ?_
      refine Ym 2 ?_
      refine Yb ?_ ?_
      ·
       refine Ci fun hs75 => ?_
       refine Yt2 3 0 75 rfl rfl rfl (fun e H he hH => O_move rfl (Eh he)) rfl (.o rfl) ?_
       refine Yt2 4 1 75 rfl rfl rfl (fun e H he hH => O_move rfl (Eh he)) rfl (.o rfl) ?_
       refine Yt2 5 75 77 rfl rfl rfl (fun e H he hH => O_binOp rfl (Eo he) .const (fun _ => b_sub _ _ _ rfl oz oz)) rfl .hit ?_
       refine Yt3 6 75 76 78 rfl rfl rfl rfl (fun e H he hH => O_indexAddr rfl (Eo he) (Eo he) underlying242 sz246 oz oz) rfl .hit ?_
       refine Yt2f 7 75 79 rfl rfl rfl .a (fun e H he hH => O_load rfl (Eo he) oc246 (hH.get .hit) (rd _ oz)) rfl .hit ?_
       refine Yt2 8 0 75 rfl rfl rfl (fun e H he hH => O_move rfl (Eh he)) rfl (.o rfl) ?_
       refine Yt2 9 11 75 rfl rfl rfl (fun e H he hH => O_move rfl (Eh he)) rfl (.o rfl) ?_
       refine Yt3 10 75 81 82 rfl rfl rfl rfl (fun e H he hH => O_indexAddr rfl (Eo he) (Eo he) underlying242 sz246 oz oz) rfl .hit ?_
       refine Yt2f 11 75 83 rfl rfl rfl .a (fun e H he hH => O_load rfl (Eo he) oc246 (hH.get .hit) (rd _ oz)) rfl .hit ?_
       refine Yt3 12 75 80 84 rfl rfl rfl rfl (fun e H he hH => O_callE (xs := [.tmp 80, .tmp 84]) (cap := []) rfl .func (.cons (Eo he) (.cons (Eo he) .nil)) func108 rfl rfl (fun w hw => f108_ok _ _ w)) rfl .hit ?_
       refine Yt2 13 75 85 rfl rfl rfl (fun e H he hH => O_unOp rfl (Eo he) (fun _ => rfl)) rfl .hit ?_
       refine Y2 14 75 86 rfl rfl rfl (fun e H he hH => O_pickT rfl (Eh he) (Eo he)) ?_
       refine Ye ?_
       refine So k18 ?_
       refine Sd ?_ ?_
       ·
        refine Ci fun ht87 => ?_
        refine Ek [11, 3, 0, 1, 2, 8, 9, 10] ?_
        refine SR fun _ k19 => ?_
        refine Mo ?_
        refine Mo ?_
        refine Mo ?_
        refine Mo ?_
        refine Sc (O_callG (β := Int × List Int) (val := fun l => .int .i64 l.1) (obj := fun l => u64o l.2 rest) (good := fun l => a1 + 1 ≤ l.1 ∧ l.1 ≤ c1 ∧ l.2.length = len) (xs := [.tmp 88, .tmp 89, .tmp 90, .tmp 91]) (cap := []) rfl .func (.cons (.tmp (.o rfl)) (.cons (.tmp (.o rfl)) (.cons (.tmp (.o rfl)) (.cons (.tmp .hit) .nil)))) func109 rfl rfl (HAt.set .a) (fun w hw => f109_ok b len cap rest _ w (hw.at_ .a) Q7 h40 _ _ _ om om om om om)) ?_
        rintro ⟨m9, l5⟩ ⟨k3, k4, hl5⟩
        dsimp only at k3 k4 hl5
        dsimp only
        refine Ah ?_
        refine SN k19 ?_
        refine Ek [13, 11, 3, 0, 1, 2, 8, 9, 10] ?_
        refine SR fun _ k20 => ?_
        refine Mh ?_
        refine Ah ?_
        refine SN k20 ?_
        refine Xt ?_
        refine Pl1 ?_
        exact fun _ _ ha hw => ⟨(_, _, _, _, _, _), Q33, ⟨by dsimp only; omega, by dsimp only; omega, by dsimp only; omega, by dsimp only; omega, by dsimp only; omega, Q7⟩, ha.weaken (Ek6 rfl rfl rfl rfl rfl rfl), hw.weaken (SW_range.HSub.all _)⟩
       refine Ci fun ht87 => ?_
       refine SS k17 ?_
       refine Ek [11, 3, 0, 1, 2, 8, 9, 10] ?_
       refine SR fun _ k21 => ?_
       refine Mo ?_
       refine Mo ?_
       refine Mo ?_
       refine Mo ?_
       refine Sc (O_callG (β := Int × Bool × List Int) (val := fun l => .tuple #[.int .i64 l.1, .bool l.2.1]) (obj := fun l => u64o l.2.2 rest) (good := fun l => a1 ≤ l.1 ∧ l.1 < c1 ∧ l.2.2.length = len) (xs := [.tmp 95, .tmp 96, .tmp 97, .tmp 98]) (cap := []) rfl .func (.cons (.tmp (.o rfl)) (.cons (.tmp (.o rfl)) (.cons (.tmp (.o rfl)) (.cons (.tmp .hit) .nil)))) func110 rfl rfl (HAt.set .a) (fun w hw => f110_ok b len cap rest _ w (hw.at_ .a) Q7 h40 _ _ _ om om om om om)) ?_
       rintro ⟨m9, b9, l5⟩ ⟨k3, k4, hl5⟩
       dsimp only at k3 k4 hl5
       dsimp only
       refine Mh ?_
       refine Sc Oex ?_
       refine Sc Oex ?_
       refine Ao ?_
       refine Ao ?_
       refine SN k21 ?_
       refine Ek [15, 14, 3, 0, 1, 2, 8, 9, 10] ?_
       refine SR fun _ k22 => ?_
       refine Mh ?_
       refine Ah ?_
       refine SN k22 ?_
       refine Ek [9, 14, 3, 0, 1, 2, 8, 10] ?_
       refine SR fun _ k23 => ?_
       refine Mo ?_
       refine Mo ?_
       refine Sc (O_binOp rfl (.tmp (.o rfl)) (.tmp .hit) (fun _ => b_sub _ _ _ rfl oz oz)) ?_
       refine Mo ?_
       refine Mo ?_
       refine Sc (O_binOp rfl (.tmp (.o rfl)) (.tmp .hit) (fun _ => b_sub _ _ _ rfl oz oz)) ?_
       refine Ao ?_
       refine Ao ?_
       refine SN k23 ?_
       refine Ek [17, 16, 9, 14, 3, 0, 1, 2, 8, 10] ?_
       refine SR fun _ k24 => ?_
       refine Mo ?_
       refine Sc (O_binOp rfl (.tmp .hit) .const (fun _ => b_quoN _ _ oz oz oz)) ?_
       refine Ah ?_
       refine SN k24 ?_
       refine Ek [18, 17, 16, 9, 14, 3, 0, 1, 2, 8] ?_
       refine SR fun _ k25 => ?_
       refine Mo ?_
       refine Mo ?_
       refine Sc (O_binOp rfl (.tmp (.o rfl)) (.tmp .hit) (fun _ => b_lss _ _ _ _ rfl)) ?_
       refine SN k25 ?_
       refine Sd ?_ ?_
       ·
        refine Ci fun ht113 => ?_
        refine Ek [18, 16, 9, 14, 3, 0, 1, 2, 8] ?_
        refine SR fun _ k26 => ?_
        refine Mo ?_
        refine Mo ?_
        refine Sc (O_binOp rfl (.tmp (.o rfl)) (.tmp .hit) (fun _ => b_geq _ _ _ _ rfl)) ?_
        refine Ah ?_
        refine SN k26 ?_
        refine Ek [8, 9, 14, 3, 0, 1, 2] ?_
        refine SR fun _ k27 => ?_
        refine Mo ?_
        refine Mo ?_
        refine Mo ?_
        refine Mo ?_
        refine Sc (O_callG (β := List Int) (val := fun l => .tuple #[]) (obj := fun l => u64o l rest) (good := fun l => l.length = len) (xs := [.tmp 117, .tmp 118, .tmp 119, .tmp 120]) (cap := []) rfl .func (.cons (.tmp (.o rfl)) (.cons (.tmp (.o rfl)) (.cons (.tmp (.o rfl)) (.cons (.tmp .hit) .nil)))) func97 rfl rfl (HAt.set .a) (fun w hw => ih _ w (hw.at_ .a) Q7 _ _ _ om om om om om om)) ?_
        intro l6 hl6
        refine SN k27 ?_
        refine Sr ?_
        refine Mo ?_
        refine Sc (O_binOp rfl (.tmp .hit) .const (fun _ => b_add _ _ _ rfl oz oz)) ?_
        refine Ah ?_
        refine Sn ?_
        refine Pl1 ?_
        exact fun _ _ ha hw => ⟨(_, _, _, _, _, _), Q33, ⟨by dsimp only; omega, by dsimp only; omega, by dsimp only; omega, by dsimp only; omega, by dsimp only; omega, Q7⟩, ha.weaken (Ek6 rfl rfl rfl rfl rfl rfl), hw.weaken (SW_range.HSub.all _)⟩
       refine Ci fun ht113 => ?_
       refine Ek [18, 17, 9, 14, 3, 0, 1, 2, 8] ?_
       refine SR fun _ k28 => ?_
       refine Mo ?_
       refine Mo ?_
       refine Sc (O_binOp rfl (.tmp (.o rfl)) (.tmp .hit) (fun _ => b_geq _ _ _ _ rfl)) ?_
       refine Ah ?_
       refine SN k28 ?_
       refine Ek [8, 9, 14, 3, 0, 1, 2] ?_
       refine SR fun _ k29 => ?_
       refine Mo ?_
       refine Mo ?_
       refine Sc (O_binOp rfl (.tmp .hit) .const (fun _ => b_add _ _ _ rfl oz oz)) ?_
       refine Mo ?_
       refine Mo ?_
       refine Sc (O_callG (β := List Int) (val := fun l => .tuple #[]) (obj := fun l => u64o l rest) (good := fun l => l.length = len) (xs := [.tmp 127, .tmp 129, .tmp 130, .tmp 131]) (cap := []) rfl .func (.cons (.tmp (.o rfl)) (.cons (.tmp (.o rfl)) (.cons (.tmp (.o rfl)) (.cons (.tmp .hit) .nil)))) func97 rfl rfl (HAt.set .a) (fun w hw => ih _ w (hw.at_ .a) Q7 _ _ _ om om om om om om)) ?_
       intro l6 hl6
       refine SN k29 ?_
       refine Sr ?_
       refine Mo ?_
       refine Ah ?_
       refine Sn ?_
       refine Pl1 ?_
       exact fun _ _ ha hw => ⟨(_, _, _, _, _, _), Q33, ⟨by dsimp only; omega, by dsimp only; omega, by dsimp only; omega, by dsimp only; omega, by dsimp only; omega, Q7⟩, ha.weaken (Ek6 rfl rfl rfl rfl rfl rfl), hw.weaken (SW_range.HSub.all _)⟩
      refine Ci fun hs75 => ?_
      refine YF 3 2 ?_
      refine YF 4 2 ?_
      refine YF 5 2 ?_
      refine YF 6 2 ?_
      refine YF 7 2 ?_
      refine YF 8 2 ?_
      refine YF 9 2 ?_
      refine YF 10 2 ?_
      refine YF 11 2 ?_
      refine YF 12 2 ?_
      refine YF 13 2 ?_
      refine Y2 14 75 86 rfl rfl rfl (fun e H he hH => O_pickF rfl (Eh he) .const) ?_
      refine Ye ?_
      refine So k18 ?_
      refine Sd ?_ ?_
      ·
       refine Ci fun ht87 => ?_
       refine Ek [11, 3, 0, 1, 2, 8, 9, 10] ?_
       refine SR fun _ k30 => ?_
       refine Mo ?_
       refine Mo ?_
       refine Mo ?_
       refine Mo ?_
       refine Sc (O_callG (β := Int × List Int) (val := fun l => .int .i64 l.1) (obj := fun l => u64o l.2 rest) (good := fun l => a1 + 1 ≤ l.1 ∧ l.1 ≤ c1 ∧ l.2.length = len) (xs := [.tmp 88, .tmp 89, .tmp 90, .tmp 91]) (cap := []) rfl .func (.cons (.tmp (.o rfl)) (.cons (.tmp (.o rfl)) (.cons (.tmp (.o rfl)) (.cons (.tmp .hit) .nil)))) func109 rfl rfl (HAt.set .a) (fun w hw => f109_ok b len cap rest _ w (hw.at_ .a) Q7 h40 _ _ _ om om om om om)) ?_
       rintro ⟨m9, l5⟩ ⟨k3, k4, hl5⟩
       dsimp only at k3 k4 hl5
       dsimp only
       refine Ah ?_
       refine SN k30 ?_
       refine Ek [13, 11, 3, 0, 1, 2, 8, 9, 10] ?_
       refine SR fun _ k31 => ?_
       refine Mh ?_
       refine Ah ?_
       refine SN k31 ?_
       refine Xt ?_
       refine Pl1 ?_
       exact fun _ _ ha hw => ⟨(_, _, _, _, _, _), Q33, ⟨by dsimp only; omega, by dsimp only; omega, by dsimp only; omega, by dsimp only; omega, by dsimp only; omega, Q7⟩, ha.weaken (Ek6 rfl rfl rfl rfl rfl rfl), hw.weaken (SW_range.HSub.all _)⟩
      refine Ci fun ht87 => ?_
      refine SS k17 ?_
      refine Ek [11, 3, 0, 1, 2, 8, 9, 10] ?_
      refine SR fun _ k32 => ?_
      refine Mo ?_
      refine Mo ?_
      refine Mo ?_
      refine Mo ?_
      refine Sc (O_callG (β := Int × Bool × List Int) (val := fun l => .tuple #[.int .i64 l.1, .bool l.2.1]) (obj := fun l => u64o l.2.2 rest) (good := fun l => a1 ≤ l.1 ∧ l.1 < c1 ∧ l.2.2.length = len) (xs := [.tmp 95, .tmp 96, .tmp 97, .tmp 98]) (cap := []) rfl .func (.cons (.tmp (.o rfl)) (.cons (.tmp (.o rfl)) (.cons (.tmp (.o rfl)) (.cons (.tmp .hit) .nil)))) func110 rfl rfl (HAt.set .a) (fun w hw => f110_ok b len cap rest _ w (hw.at_ .a) Q7 h40 _ _ _ om om om om om)) ?_
      rintro ⟨m9, b9, l5⟩ ⟨k3, k4, hl5⟩
      dsimp only at k3 k4 hl5
      dsimp only
      refine Mh ?_
      refine Sc Oex ?_
      refine Sc Oex ?_
      refine Ao ?_
      refine Ao ?_
      refine SN k32 ?_
      refine Ek [15, 14, 3, 0, 1, 2, 8, 9, 10] ?_
      refine SR fun _ k33 => ?_
      refine Mh ?_
      refine Ah ?_
      refine SN k33 ?_
      refine Ek [9, 14, 3, 0, 1, 2, 8, 10] ?_
      refine SR fun _ k34 => ?_
      refine Mo ?_
      refine Mo ?_
      refine Sc (O_binOp rfl (.tmp (.o rfl)) (.tmp .hit) (fun _ => b_sub _ _ _ rfl oz oz)) ?_
      refine Mo ?_
      refine Mo ?_
      refine Sc (O_binOp rfl (.tmp (.o rfl)) (.tmp .hit) (fun _ => b_sub _ _ _ rfl oz oz)) ?_
      refine Ao ?_
      refine Ao ?_
      refine SN k34 ?_
      refine Ek [17, 16, 9, 14, 3, 0, 1, 2, 8, 10] ?_
      refine SR fun _ k35 => ?_
      refine Mo ?_
      refine Sc (O_binOp rfl (.tmp .hit) .const (fun _ => b_quoN _ _ oz oz oz)) ?_
      refine Ah ?_
      refine SN k35 ?_
      refine Ek [18, 17, 16, 9, 14, 3, 0, 1, 2, 8] ?_
      refine SR fun _ k36 => ?_
      refine Mo ?_
      refine Mo ?_
      refine Sc (O_binOp rfl (.tmp (.o rfl)) (.tmp .hit) (fun _ => b_lss _ _ _ _ rfl)) ?_
      refine SN k36 ?_
      refine Sd ?_ ?_
      ·
       refine Ci fun ht113 => ?_
       refine Ek [18, 16, 9, 14, 3, 0, 1, 2, 8] ?_
       refine SR fun _ k37 => ?_
       refine Mo ?_
       refine Mo ?_
       refine Sc (O_binOp rfl (.tmp (.o rfl)) (.tmp .hit) (fun _ => b_geq _ _ _ _ rfl)) ?_
       refine Ah ?_
       refine SN k37 ?_
       refine Ek [8, 9, 14, 3, 0, 1, 2] ?_
       refine SR fun _ k38 => ?_
       refine Mo ?_
       refine Mo ?_
       refine Mo ?_
       refine Mo ?_
       refine Sc (O_callG (β := List Int) (val := fun l => .tuple #[]) (obj := fun l => u64o l rest) (good := fun l => l.length = len) (xs := [.tmp 117, .tmp 118, .tmp 119, .tmp 120]) (cap := []) rfl .func (.cons (.tmp (.o rfl)) (.cons (.tmp (.o rfl)) (.cons (.tmp (.o rfl)) (.cons (.tmp .hit) .nil)))) func97 rfl rfl (HAt.set .a) (fun w hw => ih _ w (hw.at_ .a) Q7 _ _ _ om om om om om om)) ?_
       intro l6 hl6
       refine SN k38 ?_
       refine Sr ?_
       refine Mo ?_
       refine Sc (O_binOp rfl (.tmp .hit) .const (fun _ => b_add _ _ _ rfl oz oz)) ?_
       refine Ah ?_
       refine Sn ?_
       refine Pl1 ?_
       exact fun _ _ ha hw => ⟨(_, _, _, _, _, _), Q33, ⟨by dsimp only; omega, by dsimp only; omega, by dsimp only; omega, by dsimp only; omega, by dsimp only; omega, Q7⟩, ha.weaken (Ek6 rfl rfl rfl rfl rfl rfl), hw.weaken (SW_range.HSub.all _)⟩
      refine Ci fun ht113 => ?_
      refine Ek [18, 17, 9, 14, 3, 0, 1, 2, 8] ?_
      refine SR fun _ k39 => ?_
      refine Mo ?_
      refine Mo ?_
      refine Sc (O_binOp rfl (.tmp (.o rfl)) (.tmp .hit) (fun _ => b_geq _ _ _ _ rfl)) ?_
      refine Ah ?_
      refine SN k39 ?_
      refine Ek [8, 9, 14, 3, 0, 1, 2] ?_
      refine SR fun _ k40 => ?_
      refine Mo ?_
      refine Mo ?_
      refine Sc (O_binOp rfl (.tmp .hit) .const (fun _ => b_add _ _ _ rfl oz oz)) ?_
      refine Mo ?_
      refine Mo ?_
      refine Sc (O_callG (β := List Int) (val := fun l => .tuple #[]) (obj := fun l => u64o l rest) (good := fun l => l.length = len) (xs := [.tmp 127, .tmp 129, .tmp 130, .tmp 131]) (cap := []) rfl .func (.cons (.tmp (.o rfl)) (.cons (.tmp (.o rfl)) (.cons (.tmp (.o rfl)) (.cons (.tmp .hit) .nil)))) func97 rfl rfl (HAt.set .a) (fun w hw => ih _ w (hw.at_ .a) Q7 _ _ _ om om om om om om)) ?_
      intro l6 hl6
      refine SN k40 ?_
      refine Sr ?_
      refine Mo ?_
      refine Ah ?_
      refine Sn ?_
      refine Pl1 ?_
      exact fun _ _ ha hw => ⟨(_, _, _, _, _, _), Q33, ⟨by dsimp only; omega, by dsimp only; omega, by dsimp only; omega, by dsimp only; omega, by dsimp only; omega, Q7⟩, ha.weaken (Ek6 rfl rfl rfl rfl rfl rfl), hw.weaken (SW_range.HSub.all _)⟩
     refine Sd ?_ ?_
     ·
      refine Ci fun ht68 => ?_
      refine Ek [11, 12, 3, 0, 1, 2, 8, 9, 10] ?_
      refine SR fun _ k41 => ?_
      refine Mo ?_
      refine Mo ?_
      refine Mo ?_
      refine Sc (O_callN (val := fun t : Bool => .bool t) (N := fun _ => []) (good := fun _ => True) (xs := [.tmp 69, .tmp 70, .tmp 71]) (cap := []) rfl .func (.cons (.tmp (.o rfl)) (.cons (.tmp (.o rfl)) (.cons (.tmp .hit) .nil))) func107 rfl rfl (fun w hw => f107_ok b len cap rest _ w (hw.at_ .a) Q7 h40 _ _ om om om)) ?_
      intro t72 _
      refine SN k41 ?_
      refine Sd ?_ ?_
      ·
       refine Ci fun ht72 => ?_
       refine Rt ?_
       refine Pl0 ?_
       refine Pl3 ?_
       exact SK_ret0 (fn := Tryz.f97) rfl (fun w hw => by refine ⟨_, rfl, ?_, hw.ext, hw.at_ .a⟩; exact Q7)
      refine Ci fun ht72 => ?_
      refine Ss ?_
      exact fun _ _ ha hw => J68 () trivial _ _ (ha.weaken .a) (hw.weaken (SW_range.HSub.all _))
     refine Ci fun ht68 => ?_
     refine Ss ?_
     exact fun _ _ ha hw => J68 () trivial _ _ (ha.weaken .a) (hw.weaken (SW_range.HSub.all _))
    refine Mo ?_
    refine Mh ?_
    refine Sb ?_ ?_
    ·
     refine Ci fun hs62 => ?_
     refine Wo Omo ?_
     refine Sc Opt ?_
     refine Mh ?_
     refine Sb ?_ ?_
     ·
      refine Ci fun hs65 => ?_
      refine Wo Omo ?_
      refine Wo Obe ?_
      refine Sc Opt ?_
      exact (J _ trivial).env (Ek10 rfl rfl rfl rfl rfl rfl rfl rfl rfl rfl)
     refine Ci fun hs65 => ?_
     refine Uo (Uo ?_)
     refine Sc Opg ?_
     exact (J _ trivial).env (Ek10 rfl rfl rfl rfl rfl rfl rfl rfl rfl rfl)
    refine Ci fun hs62 => ?_
    refine Uo ?_
    refine Sc Opg ?_
    refine Mh ?_
    refine Sb ?_ ?_
    ·
     refine Ci fun hs65 => ?_
     refine Wo Omo ?_
     refine Wo Obe ?_
     refine Sc Opt ?_
     exact (J _ trivial).env (Ek10 rfl rfl rfl rfl rfl rfl rfl rfl rfl rfl)
    refine Ci fun hs65 => ?_
    refine Uo (Uo ?_)
    refine Sc Opg ?_
    exact (J _ trivial).env (Ek10 rfl rfl rfl rfl rfl rfl rfl rfl rfl rfl)
   refine Sd ?_ ?_
   ·
    refine Ci fun ht50 => ?_
    refine Ek [12, 11, 3, 0, 1, 2, 8, 9, 10] ?_
    refine SR fun _ k42 => ?_
    refine Mo ?_
    refine Mo ?_
    refine Mo ?_
    refine Sc (O_callG (β := List Int) (val := fun l => .tuple #[]) (obj := fun l => u64o l rest) (good := fun l => l.length = len) (xs := [.tmp 51, .tmp 52, .tmp 53]) (cap := []) rfl .func (.cons (.tmp (.o rfl)) (.cons (.tmp (.o rfl)) (.cons (.tmp .hit) .nil))) func106 rfl rfl (HAt.set .a) (fun w hw => f106_ok b len cap rest _ w (hw.at_ .a) Q7 h40 _ _ om om om)) ?_
    intro l4 hl4
    refine SN k42 ?_
    refine Ek [12, 11, 3, 0, 1, 2, 8, 9, 10] ?_
    refine SR fun _ k43 => ?_
    refine Mo ?_
    refine Sc (O_binOp rfl (.tmp .hit) .const (fun _ => b_sub _ _ _ rfl oz oz)) ?_
    refine Mo ?_
    refine Mo ?_
    refine Sc (O_binOp rfl (.tmp (.o rfl)) (.tmp .hit) (fun _ => b_sub _ _ _ rfl oz oz)) ?_
    refine Sc (O_binOp rfl (.tmp (.o rfl)) (.tmp .hit) (fun _ => b_sub _ _ _ rfl oz oz)) ?_
    refine Ah ?_
    refine SN k43 ?_
    refine Sr ?_
    refine Ac ?_
    refine Sn ?_
    exact fun _ _ ha hw => J50 (_, _, _) ⟨by dsimp only; omega, by dsimp only; omega, Q7⟩ _ _ (ha.weaken (Ek9 rfl rfl rfl rfl rfl rfl rfl rfl rfl)) (hw.weaken (SW_range.HSub.all _))
   refine Ci fun ht50 => ?_
   refine Ss ?_
   exact fun _ _ ha hw => J50 (_, _, _) ⟨by dsimp only; omega, by dsimp only; omega, Q7⟩ _ _ (ha.weaken (Ek9 rfl rfl rfl rfl rfl rfl rfl rfl rfl)) (hw.weaken (SW_range.HSub.all _))
  refine Sd ?_ ?_
  ·
   refine Ci fun ht35 => ?_
   refine Ek [10, 1, 2, 3, 8, 9, 0] ?_
   refine SR fun _ k44 => ?_
   refine Mo ?_
   refine Mo ?_
   refine Mo ?_
   refine Sc (O_callG (β := List Int) (val := fun l => .tuple #[]) (obj := fun l => u64o l rest) (good := fun l => l.length = len) (xs := [.tmp 36, .tmp 37, .tmp 38]) (cap := []) rfl .func (.cons (.tmp (.o rfl)) (.cons (.tmp (.o rfl)) (.cons (.tmp .hit) .nil))) func104 rfl rfl (HAt.set .a) (fun w hw => f104_ok b len cap rest _ w (hw.at_ .a) Q7 h40 _ _ om om om)) ?_
   intro l4 hl4
   refine SN k44 ?_
   refine Sr ?_
   refine Mo ?_
   refine Sc (O_binOp rfl (.tmp .hit) .const (fun _ => b_sub _ _ _ rfl oz oz)) ?_
   refine Ah ?_
   refine Sn ?_
   exact fun _ _ ha hw => J35 (_, _) ⟨by dsimp only; omega, by dsimp only; omega, Q7⟩ _ _ (ha.weaken (Ek7 rfl rfl rfl rfl rfl rfl rfl)) (hw.weaken (SW_range.HSub.all _))
  refine Ci fun ht35 => ?_
  refine Ss ?_
  exact fun _ _ ha hw => J35 (_, _) ⟨by dsimp only; omega, by dsimp only; omega, Q7⟩ _ _ (ha.weaken (Ek7 rfl rfl rfl rfl rfl rfl rfl)) (hw.weaken (SW_range.HSub.all _))

theorem f71_ok (b len cap : Nat) (rest : List Value) (l : List Int) (w : World) (hb : w.heap[b]? = some (u64o l rest)) (hl : l.length = len) (h40 : len ≤ 40) : Calls Tryz.prog 71 #[.slice (some ⟨b, 0, none⟩) len cap] w (fun r w' => ∃ z : List Int, r = .returned (.tuple #[]) ∧ (z.length = len) ∧ Ext (· = b) w w' ∧ w'.heap[b]? = some (u64o z rest)) := by
 refine sw_calls (S := (· = b)) func71 rfl ntmps71 (sees1 _ _ rfl) (Holds.start1w _ hb) ?_
 refine SR fun _ k1 => ?_
 refine Mh ?_
 refine Sc (O_lenSlice rfl (.tmp .hit) underlying242 rfl) ?_
 refine Ah ?_
 refine SN k1 ?_
 refine Sr ?_
 refine Mo ?_
 refine Mo ?_
 refine Mo ?_
 refine Sc (O_convert rfl (.tmp .hit) (r := .int .u64 len) (fun _ => c_int ⟨_, underlying3⟩ underlying169 (wrap_u64 _ om))) ?_
 refine Sc (O_callE (xs := [.tmp 8]) (cap := []) rfl .func (.cons (.tmp .hit) .nil) func98 rfl rfl (fun w hw => f98_ok len om w)) ?_
 have hb6 := (blen_le ⟨len, by omega⟩).1
 dsimp only at hb6
 refine Sc (O_callG (β := List Int) (val := fun l => .tuple #[]) (obj := fun l => u64o l rest) (good := fun l => l.length = len) (xs := [.tmp 5, .const _, .tmp 6, .tmp 9]) (cap := []) rfl .func (.cons (.tmp (.o rfl)) (.cons .const (.cons (.tmp (.o rfl)) (.cons (.tmp .hit) .nil)))) func97 rfl rfl (HAt.set .a) (fun w hw => f97_ok b len cap rest h40 ((len : Int) - 0).toNat.succ _ w (hw.at_ .a) Q7 _ _ _ om om om om om om)) ?_
 intro l4 hl4
 refine Sn ?_
 refine Pl3 ?_
 exact SK_end0 (fn := Tryz.f71) rfl (fun w hw => ⟨_, rfl, Q7, hw.ext, hw.at_ .a⟩)

theorem f62_ok (ix : Nat) (b len cap : Nat) (rest : List Value) (l : List Int) (w : World) (hb : w.heap[b]? = some (u64o l rest)) (hl : l.length = len) (h40 : len ≤ 40) (hix : w.heap[ix]? = some (.cells #[.slice (some ⟨b, 0, none⟩) len cap] 244 (0, 0))) (hne : b ≠ ix) : Calls Tryz.prog 62 #[.pointer (some ⟨ix, 0, none⟩)] w (fun r w' => ∃ z : List Int, r = .returned (.tuple #[]) ∧ (z.length = len) ∧ Ext (· = b) w w' ∧ w'.heap[b]? = some (u64o z rest)) := by
 refine sw_calls (S := (· = b)) func62 rfl ntmps62 (sees1 _ _ rfl) ((Holds.start1w _ hb).old hix Q39) ?_
 refine Sr ?_
 refine Mh ?_
 refine Sc (O_nilCheck rfl (.tmp .hit)) ?_
 refine Sc (Ofa underlying244 sz242) ?_
 refine Sc (Ola oc242) ?_
 refine Sc (O_callG (β := List Int) (val := fun l => .tuple #[]) (obj := fun l => u64o l rest) (good := fun l => l.length = len) (xs := [.tmp 5]) (cap := []) rfl .func (.cons (.tmp .hit) .nil) func71 rfl rfl (HAt.set .a) (fun w hw => f71_ok b len cap rest _ w (hw.at_ .a) Q7 h40)) ?_
 intro l4 hl4
 refine Sn ?_
 refine Pl3 ?_
 exact SK_end0 (fn := Tryz.f62) rfl (fun w hw => ⟨_, rfl, Q7, hw.ext, hw.at_ .a⟩)

theorem f55_ok (b off len cap hd : Nat) (big : Bool) (w : World) : Calls Tryz.prog 55 #[.slice (some ⟨b, off, none⟩) len cap, boV big, .pointer (some ⟨hd, 0, none⟩)] w (fun r w' => ∃ z : Nat × Nat × Nat, r = .returned (.func (.func 64) #[] #[.pointer (some ⟨z.1, 0, none⟩), .pointer (some ⟨z.2.1, 0, none⟩), .pointer (some ⟨z.2.2, 0, none⟩)]) ∧ True ∧
 Fresh w [(z.2.1, true, .cells #[.pointer (some ⟨hd, 0, none⟩)] 213 (0, 0)), (z.2.2, true, .cells #[boV big] 80 (0, 0)), (z.1, true, .cells #[.slice (some ⟨b, off, none⟩) len cap] 26 (0, 0))] w') := by
 refine sw_calls (S := noS) func55 rfl ntmps55 (sees3 _ _ _ _ rfl) (Holds.start _ _) ?_
 refine SR fun _ k1 => ?_
 refine Sc (O_box rfl (.tmp .hit) rfl) ?_
 intro bk3 _
 refine Sc (O_box (cs := #[boV big]) rfl (.tmp (.o rfl)) (by cases big <;> rfl)) ?_
 intro bk4 _
 refine Sc (O_box rfl (.tmp (.o rfl)) rfl) ?_
 intro bk5 _
 refine Ac ?_
 refine SN k1 ?_
 refine Ek [6, 5, 4, 3] ?_
 refine SR fun _ k2 => ?_
 refine Sc (O_makeFunc (fs := []) (cs := [.tmp 3, .tmp 5, .tmp 4]) rfl .nil (.cons (.tmp (.o rfl)) (.cons (.tmp (.o rfl)) (.cons (.tmp (.o rfl)) .nil)))) ?_
 refine Ah ?_
 refine SN k2 ?_
 refine Rt ?_
 exact SK_ret1 rfl .hit (fun w hw => ⟨(_, _, _), rfl, trivial, hw.made (SW_range.HSub.all _) rfl⟩)
end
end Go.Proofs.YtoibhfpagkdleaaGreatDoor
