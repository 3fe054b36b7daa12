/-
  CONTRACT: a member is written.
  THE CALCULUS, PART 11: a member put to a row; what a type's words need.
-/
import Derived.Test.YtoibhfpagkdleaaGreatDoorSd
namespace Go.Proofs.YtoibhfpagkdleaaGreatDoor
section
open Go
open Tryz
set_option maxRecDepth 100000

theorem f41_ok {w0 : World} (T : Hp) (tb : Nat) (F : List ByteArray) (t : Tp) (mv : Value) (m : Mb) (fields big : Bool) (ro rb rt ra : Row) (k len : Nat) (xs : List Value) (hok : RowOk 1 (some ro) k xs) (hk : k < 1000000000) (hm1 : MOk t.kind t.flag len m) (hlen : len ≤ 30) (hT : TabOk F (rb, rt, ra)) (hF : F.length < 1000000) (hB : (tabB F).length < 1000000000) (w : World) (hw : Holds noS w0 ((ro.g, true, .cells ro.cur.toArray 5 (0, 0)) :: (tabH tb (tabB F).length F.length (rb, rt, ra) ++ T)) w) :
    Calls Tryz.prog 41 #[.slice (some ⟨ro.g, 0, none⟩) k ro.cap, .agg (cellsT t mv).toArray, .agg (cellsM m).toArray, .pointer (some ⟨tb, 0, none⟩), .bool fields, .bool big] w (fun r w' => ∃ z : Row × Row × Row × Row, r = .returned (.slice (some ⟨z.1.g, 0, none⟩) (k + 4 * (memW F t.kind fields m).length) z.1.cap) ∧ RowOk 1 (some z.1) (k + 4 * (memW F t.kind fields m).length) (xs ++ u8s (wsB (memW F t.kind fields m) big)) ∧ TabOk (addM t.kind F m) z.2 ∧ Holds noS w0 ((z.1.g, true, .cells z.1.cur.toArray 5 (0, 0)) :: (tabH tb (tabB (addM t.kind F m)).length (addM t.kind F m).length z.2 ++ T)) w') := by
 obtain ⟨⟨m1, m2, m3, m4, m5⟩, ⟨m6, m7⟩, m8, m9, m10, m11⟩ := hm1
 have m12 : m.bits < 4294967296 := by
   rcases Classical.em (t.kind = 4 ∨ t.kind = 5) with q | q
   · have := m8 q; omega
   by_cases q3 : t.kind = 13
   · have := m9 q3; omega
   by_cases q4 : t.kind = 15
   · have := m10 q4; omega
   have := m11 om om q3 q4; omega
 refine sw_calls0 func41 rfl ntmps41 (sees6 _ _ _ _ _ _ _ rfl) hw ?_
 refine SR fun _ k1 => ?_
 refine Sc (O_box (cs := (cellsT t mv).toArray) rfl (.tmp (.o rfl)) rfl) ?_
 intro bk7 _
 refine Sc (O_box (cs := (cellsM m).toArray) rfl (.tmp (.o rfl)) rfl) ?_
 intro bk8 _
 refine Ac ?_
 refine SN k1 ?_
 refine Ek [12, 8, 7, 0, 3, 4, 5] ?_
 refine Sq fun _ k2 => ?_
 refine SR fun _ k3 => ?_
 refine Sc (Ofa underlying32 sz3) ?_
 refine Sc (Ola oc3) ?_
 refine Sc Obe ?_
 refine SN k3 ?_
 refine Sd ?_ ?_
 ·
  refine Ci fun ht16 => ?_
  refine Ek [12, 8, 7, 0, 3, 4, 5] ?_
  refine Sq fun _ k4 => ?_
  refine SW_da mixed ?_
  refine Ym 0 ?_
  refine Yf 1 underlying64 sz3 ?_
  refine Yl 2 oc3 ?_
  refine Y1 3 19 rfl rfl (fun e H he hH => O_convert rfl (Eh he) (r := .int .u64 (nat m.of_ : Nat)) (fun _ => c_int ⟨_, underlying3⟩ underlying57 (cvN om om))) ?_
  refine Ym 4 ?_
  refine Yf 6 underlying64 sz3 ?_
  refine Yl 7 oc3 ?_
  refine Y1 8 24 rfl rfl (fun e H he hH => O_convert rfl (Eh he) (r := .int .u64 (nat m.off : Nat)) (fun _ => c_int ⟨_, underlying3⟩ underlying57 (cvN om om))) ?_
  refine Ym 9 ?_
  refine Yf 11 underlying64 sz3 ?_
  refine Yl 12 oc3 ?_
  refine Y1 13 29 rfl rfl (fun e H he hH => O_convert rfl (Eh he) (r := .int .u64 (nat m.bits : Nat)) (fun _ => c_int ⟨_, underlying3⟩ underlying57 (cvN om om))) ?_
  refine Ym 14 ?_
  refine Ys 5 ?_
  refine Cand.mk (j := 5) [(17, _), (20, _), (21, _)] rfl (.cons (t := 17) (.o rfl) (.cons (t := 20) (.o rfl) (.cons (t := 21) (.o rfl) .nil))) (fun e he => O_put (q := nat m.of_) rfl (.tmp (he.get .hit)) (.tmp (he.get (.o rfl))) (.tmp (he.get (.o rfl))) .a1 hok om) (fun _ _ h => h) kr ?_
  intro r22 r22h
  refine ⟨⟨.inr .nil, .inr .nil, .inr (.cons .a .nil), .inr .nil, .inr .nil, .inr .nil, .inr (.cons .a .nil), .inr .nil, .inl kr, .inl kr, .inr (.cons .a .nil), .inr .nil, .inl kr, trivial⟩, ?_⟩
  refine Ys 10 ?_
  refine Cand.mk (j := 10) [(22, _), (25, _), (26, _)] rfl (.cons (t := 22) .hit (.cons (t := 25) (.o rfl) (.cons (t := 26) (.o rfl) .nil))) (fun e he => O_put (q := nat m.off) rfl (.tmp (he.get .hit)) (.tmp (he.get (.o rfl))) (.tmp (he.get (.o rfl))) .a1 r22h om) (fun _ _ h => h) kr ?_
  intro r27 r27h
  refine ⟨⟨.inr .nil, .inr .nil, .inr (.cons .a .nil), .inr .nil, .inl kr, .inl kr, .inr (.cons .a .nil), .inr .nil, .inr (.cons .a .nil), .inr .nil, trivial⟩, ?_⟩
  refine Ys 15 ?_
  refine Cand.mk (j := 15) [(27, _), (30, _), (31, _)] rfl (.cons (t := 27) .hit (.cons (t := 30) (.o rfl) (.cons (t := 31) (.o rfl) .nil))) (fun e he => O_put (q := nat m.bits) rfl (.tmp (he.get .hit)) (.tmp (he.get (.o rfl))) (.tmp (he.get (.o rfl))) .a1 r27h om) (fun _ _ h => h) kr ?_
  intro r32 r32h
  refine ⟨⟨.inl kr, .inl kr, .inr (.cons .a .nil), .inr .nil, .inr (.cons .a .nil), .inr .nil, .inr (.cons .a .nil), .inr .nil, trivial⟩, ?_⟩
  refine Y1 16 32 rfl rfl (fun e H he hH => O_assign rfl (Eh he)) ?_
  refine Ye ?_
  refine So k4 ?_
  refine Rt ?_
  refine Pl0 ?_
  have hm : memW F t.kind fields m = [nat m.of_, nat m.off, nat m.bits] := by rw [memW, if_pos (show t.kind = 15 by omega)]
  have ha : addM t.kind F m = F := by rw [addM, if_pos om]
  refine Pl3 ?_
  exact SK_ret1 rfl .hit (fun w hw => ⟨(r32, (rb, rt, ra)), by rw [hm]; rfl, (r32h).eq Q43 Q37, by rw [ha]; exact hT, by rw [ha]; exact hw.weaken Q14⟩)
 refine Ci fun ht16 => ?_
 refine SS k2 ?_
 refine Ek [12, 8, 7, 0, 3, 4, 5] ?_
 refine SR fun _ k5 => ?_
 refine Mo ?_
 refine Mo ?_
 refine Sc (Ofa underlying64 sz9) ?_
 refine Sc (Ola oc9) ?_
 refine Sc (O_add rfl (.tmp (.o rfl)) (.tmp .hit) hT .a hF hB om) ?_
 rintro ⟨rb2, rt2, ra2⟩ hT2
 refine Mo ?_
 refine Sc (O_put (q := offs F m.name) rfl (.tmp (.o rfl)) (.tmp (.o rfl)) (.tmp .hit) .a1 hok om) ?_
 intro r39 r39h
 refine Ah ?_
 refine SN k5 ?_
 refine Ek [0, 12, 8, 7, 4, 5] ?_
 refine Sq fun _ k6 => ?_
 refine SR fun _ k7 => ?_
 refine Sc (Ofa underlying32 sz3) ?_
 refine Sc (Ola oc3) ?_
 refine SN k7 ?_
 refine Bl ?_
 refine Ek [41, 0, 12, 8, 4, 5] ?_
 refine Sq fun _ k8 => ?_
 refine SR fun _ k9 => ?_
 refine Sc Obe ?_
 refine Ah ?_
 refine SN k9 ?_
 refine Sd ?_ ?_
 ·
  refine Ci fun ht42 => ?_
  refine SS k8 ?_
  refine Sd ?_ ?_
  ·
   refine Ci fun ht42 => ?_
   refine Ek [0, 12, 8, 4, 5] ?_
   refine SR fun _ k10 => ?_
   refine Sc (Ofa underlying64 sz3) ?_
   refine Sc (Ola oc3) ?_
   refine Sc (O_convert rfl (.tmp .hit) (r := .int .u64 (nat m.off : Nat)) (fun _ => c_int ⟨_, underlying3⟩ underlying57 (cvN om om))) ?_
   refine Ah ?_
   refine SN k10 ?_
   refine Ek [13, 0, 12, 8, 4, 5] ?_
   refine Sq fun _ k11 => ?_
   refine SR fun _ k12 => ?_
   refine Mo ?_
   refine SN k12 ?_
   refine SW_cond (.tmp .hit) (fun ht48 => ?_) (fun ht48 => ?_)
   ·
    refine Sr ?_
    refine Mo ?_
    refine Sc (Ofa underlying64 sz3) ?_
    refine Sc (Ola oc3) ?_
    refine Sc (O_convert rfl (.tmp .hit) (r := .int .u64 (nat m.bits : Nat)) (fun _ => c_int ⟨_, underlying3⟩ underlying57 (cvN om om))) ?_
    refine Sc (O_binOp rfl (.tmp .hit) .const (fun _ => b_shl .u64 (nat m.bits) 24 dc (wrap_u64 _ Q25) _)) ?_
    refine Sc (O_binOp rfl (.tmp (.o rfl)) (.tmp .hit) (fun _ => b_or_u64 (nat m.off) (nat m.bits * 2 ^ 24) (nat m.off + nat m.bits * 2 ^ 24) rfl rfl (or_add _ _ 24 Q25) Q25 Q25 Q25)) ?_
    refine Ah ?_
    refine SN k11 ?_
    refine Ek [13, 0, 12, 8, 5] ?_
    refine SR fun _ k13 => ?_
    refine Mo ?_
    refine Sc (Ofa underlying64 sz3) ?_
    refine Sc (Ola oc3) ?_
    refine Sc (O_convert rfl (.tmp .hit) (r := .int .u64 (nat m.of_ : Nat)) (fun _ => c_int ⟨_, underlying3⟩ underlying57 (cvN om om))) ?_
    refine Mo ?_
    refine Sc (O_put (q := nat m.of_) rfl (.tmp (.o rfl)) (.tmp (.o rfl)) (.tmp .hit) .a1 r39h om) ?_
    intro r60 r60h
    refine Mo ?_
    refine Mo ?_
    refine Sc (O_put rfl (.tmp (.o rfl)) (.tmp (.o rfl)) (.tmp .hit) .a1 r60h om) ?_
    intro r63 r63h
    refine Ah ?_
    refine SN k13 ?_
    refine Rt ?_
    refine Pl0 ?_
    have hm : memW F t.kind fields m = [offs F m.name, nat m.of_, nat m.off + nat m.bits * 2 ^ 24] := by rw [memW, if_neg (show ¬ t.kind = 15 by omega), if_pos (show t.kind = 4 ∨ t.kind = 5 by omega), if_pos ht48]
    have ha : addM t.kind F m = addT F m.name := by rw [addM, if_neg om]
    refine Pl3 ?_
    exact SK_ret1 rfl .hit (fun w hw => ⟨(r63, (rb2, rt2, ra2)), by rw [hm]; rfl, (r63h).eq Q43 Q37, by rw [ha]; exact hT2, by rw [ha]; exact hw.weaken Q14⟩)
   refine SS k11 ?_
   refine Ek [13, 0, 12, 8, 5] ?_
   refine SR fun _ k14 => ?_
   refine Mo ?_
   refine Sc (Ofa underlying64 sz3) ?_
   refine Sc (Ola oc3) ?_
   refine Sc (O_convert rfl (.tmp .hit) (r := .int .u64 (nat m.of_ : Nat)) (fun _ => c_int ⟨_, underlying3⟩ underlying57 (cvN om om))) ?_
   refine Mo ?_
   refine Sc (O_put (q := nat m.of_) rfl (.tmp (.o rfl)) (.tmp (.o rfl)) (.tmp .hit) .a1 r39h om) ?_
   intro r60 r60h
   refine Mo ?_
   refine Mo ?_
   refine Sc (O_put rfl (.tmp (.o rfl)) (.tmp (.o rfl)) (.tmp .hit) .a1 r60h om) ?_
   intro r63 r63h
   refine Ah ?_
   refine SN k14 ?_
   refine Rt ?_
   refine Pl0 ?_
   have hm : memW F t.kind fields m = [offs F m.name, nat m.of_, nat m.off + 0] := by rw [memW, if_neg (show ¬ t.kind = 15 by omega), if_pos (show t.kind = 4 ∨ t.kind = 5 by omega), if_neg (by rw [ht48]; decide)]
   have ha : addM t.kind F m = addT F m.name := by rw [addM, if_neg om]
   refine Pl3 ?_
   exact SK_ret1 rfl .hit (fun w hw => ⟨(r63, (rb2, rt2, ra2)), by rw [hm]; rfl, (r63h).eq Q43 (by rw [hm]; simp [u8s_append, Nat.add_zero]), by rw [ha]; exact hT2, by rw [ha]; exact hw.weaken Q14⟩)
  refine Ci fun ht42 => ?_
  refine Ek [41, 0, 12, 8, 5] ?_
  refine SR fun _ k15 => ?_
  refine Sc Obe ?_
  refine Ah ?_
  refine SN k15 ?_
  refine Sd ?_ ?_
  ·
   refine Ci fun ht64 => ?_
   refine Ek [0, 12, 8, 5] ?_
   refine SR fun _ k16 => ?_
   refine Mh ?_
   refine Sc (Ofa underlying64 sz3) ?_
   refine Sc (Ola oc3) ?_
   refine Sc (O_convert rfl (.tmp .hit) (r := .int .u64 (nat m.of_ : Nat)) (fun _ => c_int ⟨_, underlying3⟩ underlying57 (cvN om om))) ?_
   refine Mo ?_
   refine Sc (O_put (q := nat m.of_) rfl (.tmp (.o rfl)) (.tmp (.o rfl)) (.tmp .hit) .a1 r39h om) ?_
   intro r71 r71h
   refine Ah ?_
   refine SN k16 ?_
   refine Rt ?_
   refine Pl0 ?_
   have hm : memW F t.kind fields m = [offs F m.name, nat m.of_] := by rw [memW, if_neg (show ¬ t.kind = 15 by omega), if_neg (show ¬ (t.kind = 4 ∨ t.kind = 5) by omega), if_pos (show t.kind = 13 by omega)]
   have ha : addM t.kind F m = addT F m.name := by rw [addM, if_neg om]
   refine Pl3 ?_
   exact SK_ret1 rfl .hit (fun w hw => ⟨(r71, (rb2, rt2, ra2)), by rw [hm]; rfl, (r71h).eq Q43 Q37, by rw [ha]; exact hT2, by rw [ha]; exact hw.weaken Q14⟩)
  refine Ci fun ht64 => ?_
  refine Ek [41, 0, 12, 8, 5] ?_
  refine SR fun _ k17 => ?_
  refine Sc Obe ?_
  refine Ah ?_
  refine SN k17 ?_
  refine Sd ?_ ?_
  ·
   refine Ci fun ht72 => ?_
   refine Ek [0, 12, 8, 5] ?_
   refine Sq fun _ k18 => ?_
   refine SW_da mixed ?_
   refine Ym 0 ?_
   refine Yf 1 underlying64 sz2 ?_
   refine Yl 2 oc2 ?_
   refine Y1 3 76 rfl rfl (fun e H he hH => O_convert rfl (Eh he) (r := .int .u64 (u64N m.val : Nat)) (fun _ => c_int ⟨_, underlying2⟩ underlying57 (cvS _))) ?_
   refine Y1 4 77 rfl rfl (fun e H he hH => O_binOp rfl (Eh he) .const (fun _ => b_and_lo m.val)) ?_
   refine Ym 5 ?_
   refine Yf 7 underlying64 sz2 ?_
   refine Yl 8 oc2 ?_
   refine Y1 9 82 rfl rfl (fun e H he hH => O_convert rfl (Eh he) (r := .int .u64 (u64N m.val : Nat)) (fun _ => c_int ⟨_, underlying2⟩ underlying57 (cvS _))) ?_
   refine Y1 10 83 rfl rfl (fun e H he hH => O_binOp rfl (Eh he) .const (fun _ => b_shr_hi m.val)) ?_
   refine Ym 11 ?_
   refine Ys 6 ?_
   refine Cand.mk (j := 6) [(74, _), (78, _), (79, _)] rfl (.cons (t := 74) (.o rfl) (.cons (t := 78) (.o rfl) (.cons (t := 79) (.o rfl) .nil))) (fun e he => O_put (q := lo32 m.val) rfl (.tmp (he.get .hit)) (.tmp (he.get (.o rfl))) (.tmp (he.get (.o rfl))) .a1 r39h om) (fun _ _ h => h) kr ?_
   intro r80 r80h
   refine ⟨⟨.inr .nil, .inr .nil, .inr .nil, .inr (.cons .a .nil), .inr .nil, .inl kr, .inl kr, .inr .nil, .inr (.cons .a .nil), .inr .nil, .inl kr, trivial⟩, ?_⟩
   refine Ys 12 ?_
   refine Cand.mk (j := 12) [(80, _), (84, _), (85, _)] rfl (.cons (t := 80) .hit (.cons (t := 84) (.o rfl) (.cons (t := 85) (.o rfl) .nil))) (fun e he => O_put (q := hi32 m.val) rfl (.tmp (he.get .hit)) (.tmp (he.get (.o rfl))) (.tmp (he.get (.o rfl))) .a1 r80h om) (fun _ _ h => h) kr ?_
   intro r86 r86h
   refine ⟨⟨.inl kr, .inl kr, .inr .nil, .inr (.cons .a .nil), .inr .nil, .inr .nil, .inr (.cons .a .nil), .inr .nil, trivial⟩, ?_⟩
   refine Y1 13 86 rfl rfl (fun e H he hH => O_assign rfl (Eh he)) ?_
   refine Ye ?_
   refine So k18 ?_
   refine Rt ?_
   refine Pl0 ?_
   have hm : memW F t.kind fields m = [offs F m.name, lo32 m.val, hi32 m.val] := by rw [memW, if_neg (show ¬ t.kind = 15 by omega), if_neg (show ¬ (t.kind = 4 ∨ t.kind = 5) by omega), if_neg (show ¬ t.kind = 13 by omega), if_pos (show t.kind = 19 by omega)]
   have ha : addM t.kind F m = addT F m.name := by rw [addM, if_neg om]
   refine Pl3 ?_
   exact SK_ret1 rfl .hit (fun w hw => ⟨(r86, (rb2, rt2, ra2)), by rw [hm]; rfl, (r86h).eq Q43 Q37, by rw [ha]; exact hT2, by rw [ha]; exact hw.weaken Q14⟩)
  refine Ci fun ht72 => ?_
  refine SS k6 ?_
  refine Ek [0, 12, 8, 5] ?_
  refine SR fun _ k19 => ?_
  refine Mh ?_
  refine Sc (Ofa underlying64 sz2) ?_
  refine Sc (Ola oc2) ?_
  refine Sc (O_convert rfl (.tmp .hit) (r := .int .u64 (u64N m.val : Nat)) (fun _ => c_int ⟨_, underlying2⟩ underlying57 (cvS _))) ?_
  refine Sc (O_binOp rfl (.tmp .hit) .const (fun _ => b_and_lo m.val)) ?_
  refine Mo ?_
  refine Sc (O_put (q := lo32 m.val) rfl (.tmp (.o rfl)) (.tmp (.o rfl)) (.tmp .hit) .a1 r39h om) ?_
  intro r93 r93h
  refine Ah ?_
  refine SN k19 ?_
  refine Rt ?_
  have hm : memW F t.kind fields m = [offs F m.name, lo32 m.val] := by rw [memW, if_neg (show ¬ t.kind = 15 by omega), if_neg (show ¬ (t.kind = 4 ∨ t.kind = 5) by omega), if_neg (show ¬ t.kind = 13 by omega), if_neg (show ¬ t.kind = 19 by omega)]
  have ha : addM t.kind F m = addT F m.name := by rw [addM, if_neg om]
  refine Pl3 ?_
  exact SK_ret1 rfl .hit (fun w hw => ⟨(r93, (rb2, rt2, ra2)), by rw [hm]; rfl, (r93h).eq Q43 Q37, by rw [ha]; exact hT2, by rw [ha]; exact hw.weaken Q14⟩)
 refine Ci fun ht42 => ?_
 refine Sr ?_
 refine Sc Obe ?_
 refine Ah ?_
 refine SN k8 ?_
 refine Sd ?_ ?_
 ·
  refine Ci fun ht42 => ?_
  refine Ek [0, 12, 8, 4, 5] ?_
  refine SR fun _ k20 => ?_
  refine Sc (Ofa underlying64 sz3) ?_
  refine Sc (Ola oc3) ?_
  refine Sc (O_convert rfl (.tmp .hit) (r := .int .u64 (nat m.off : Nat)) (fun _ => c_int ⟨_, underlying3⟩ underlying57 (cvN om om))) ?_
  refine Ah ?_
  refine SN k20 ?_
  refine Ek [13, 0, 12, 8, 4, 5] ?_
  refine Sq fun _ k21 => ?_
  refine SR fun _ k22 => ?_
  refine Mo ?_
  refine SN k22 ?_
  refine SW_cond (.tmp .hit) (fun ht48 => ?_) (fun ht48 => ?_)
  ·
   refine Sr ?_
   refine Mo ?_
   refine Sc (Ofa underlying64 sz3) ?_
   refine Sc (Ola oc3) ?_
   refine Sc (O_convert rfl (.tmp .hit) (r := .int .u64 (nat m.bits : Nat)) (fun _ => c_int ⟨_, underlying3⟩ underlying57 (cvN om om))) ?_
   refine Sc (O_binOp rfl (.tmp .hit) .const (fun _ => b_shl .u64 (nat m.bits) 24 dc (wrap_u64 _ Q25) _)) ?_
   refine Sc (O_binOp rfl (.tmp (.o rfl)) (.tmp .hit) (fun _ => b_or_u64 (nat m.off) (nat m.bits * 2 ^ 24) (nat m.off + nat m.bits * 2 ^ 24) rfl rfl (or_add _ _ 24 Q25) Q25 Q25 Q25)) ?_
   refine Ah ?_
   refine SN k21 ?_
   refine Ek [13, 0, 12, 8, 5] ?_
   refine SR fun _ k23 => ?_
   refine Mo ?_
   refine Sc (Ofa underlying64 sz3) ?_
   refine Sc (Ola oc3) ?_
   refine Sc (O_convert rfl (.tmp .hit) (r := .int .u64 (nat m.of_ : Nat)) (fun _ => c_int ⟨_, underlying3⟩ underlying57 (cvN om om))) ?_
   refine Mo ?_
   refine Sc (O_put (q := nat m.of_) rfl (.tmp (.o rfl)) (.tmp (.o rfl)) (.tmp .hit) .a1 r39h om) ?_
   intro r60 r60h
   refine Mo ?_
   refine Mo ?_
   refine Sc (O_put rfl (.tmp (.o rfl)) (.tmp (.o rfl)) (.tmp .hit) .a1 r60h om) ?_
   intro r63 r63h
   refine Ah ?_
   refine SN k23 ?_
   refine Rt ?_
   refine Pl0 ?_
   have hm : memW F t.kind fields m = [offs F m.name, nat m.of_, nat m.off + nat m.bits * 2 ^ 24] := by rw [memW, if_neg (show ¬ t.kind = 15 by omega), if_pos (show t.kind = 4 ∨ t.kind = 5 by omega), if_pos ht48]
   have ha : addM t.kind F m = addT F m.name := by rw [addM, if_neg om]
   refine Pl3 ?_
   exact SK_ret1 rfl .hit (fun w hw => ⟨(r63, (rb2, rt2, ra2)), by rw [hm]; rfl, (r63h).eq Q43 Q37, by rw [ha]; exact hT2, by rw [ha]; exact hw.weaken Q14⟩)
  refine SS k21 ?_
  refine Ek [13, 0, 12, 8, 5] ?_
  refine SR fun _ k24 => ?_
  refine Mo ?_
  refine Sc (Ofa underlying64 sz3) ?_
  refine Sc (Ola oc3) ?_
  refine Sc (O_convert rfl (.tmp .hit) (r := .int .u64 (nat m.of_ : Nat)) (fun _ => c_int ⟨_, underlying3⟩ underlying57 (cvN om om))) ?_
  refine Mo ?_
  refine Sc (O_put (q := nat m.of_) rfl (.tmp (.o rfl)) (.tmp (.o rfl)) (.tmp .hit) .a1 r39h om) ?_
  intro r60 r60h
  refine Mo ?_
  refine Mo ?_
  refine Sc (O_put rfl (.tmp (.o rfl)) (.tmp (.o rfl)) (.tmp .hit) .a1 r60h om) ?_
  intro r63 r63h
  refine Ah ?_
  refine SN k24 ?_
  refine Rt ?_
  refine Pl0 ?_
  have hm : memW F t.kind fields m = [offs F m.name, nat m.of_, nat m.off + 0] := by rw [memW, if_neg (show ¬ t.kind = 15 by omega), if_pos (show t.kind = 4 ∨ t.kind = 5 by omega), if_neg (by rw [ht48]; decide)]
  have ha : addM t.kind F m = addT F m.name := by rw [addM, if_neg om]
  refine Pl3 ?_
  exact SK_ret1 rfl .hit (fun w hw => ⟨(r63, (rb2, rt2, ra2)), by rw [hm]; rfl, (r63h).eq Q43 (by rw [hm]; simp [u8s_append, Nat.add_zero]), by rw [ha]; exact hT2, by rw [ha]; exact hw.weaken Q14⟩)
 refine Ci fun ht42 => ?_
 refine Ek [41, 0, 12, 8, 5] ?_
 refine SR fun _ k25 => ?_
 refine Sc Obe ?_
 refine Ah ?_
 refine SN k25 ?_
 refine Sd ?_ ?_
 ·
  refine Ci fun ht64 => ?_
  refine Ek [0, 12, 8, 5] ?_
  refine SR fun _ k26 => ?_
  refine Mh ?_
  refine Sc (Ofa underlying64 sz3) ?_
  refine Sc (Ola oc3) ?_
  refine Sc (O_convert rfl (.tmp .hit) (r := .int .u64 (nat m.of_ : Nat)) (fun _ => c_int ⟨_, underlying3⟩ underlying57 (cvN om om))) ?_
  refine Mo ?_
  refine Sc (O_put (q := nat m.of_) rfl (.tmp (.o rfl)) (.tmp (.o rfl)) (.tmp .hit) .a1 r39h om) ?_
  intro r71 r71h
  refine Ah ?_
  refine SN k26 ?_
  refine Rt ?_
  refine Pl0 ?_
  have hm : memW F t.kind fields m = [offs F m.name, nat m.of_] := by rw [memW, if_neg (show ¬ t.kind = 15 by omega), if_neg (show ¬ (t.kind = 4 ∨ t.kind = 5) by omega), if_pos (show t.kind = 13 by omega)]
  have ha : addM t.kind F m = addT F m.name := by rw [addM, if_neg om]
  refine Pl3 ?_
  exact SK_ret1 rfl .hit (fun w hw => ⟨(r71, (rb2, rt2, ra2)), by rw [hm]; rfl, (r71h).eq Q43 Q37, by rw [ha]; exact hT2, by rw [ha]; exact hw.weaken Q14⟩)
 refine Ci fun ht64 => ?_
 refine Ek [41, 0, 12, 8, 5] ?_
 refine SR fun _ k27 => ?_
 refine Sc Obe ?_
 refine Ah ?_
 refine SN k27 ?_
 refine Sd ?_ ?_
 ·
  refine Ci fun ht72 => ?_
  refine Ek [0, 12, 8, 5] ?_
  refine Sq fun _ k28 => ?_
  refine SW_da mixed ?_
  refine Ym 0 ?_
  refine Yf 1 underlying64 sz2 ?_
  refine Yl 2 oc2 ?_
  refine Y1 3 76 rfl rfl (fun e H he hH => O_convert rfl (Eh he) (r := .int .u64 (u64N m.val : Nat)) (fun _ => c_int ⟨_, underlying2⟩ underlying57 (cvS _))) ?_
  refine Y1 4 77 rfl rfl (fun e H he hH => O_binOp rfl (Eh he) .const (fun _ => b_and_lo m.val)) ?_
  refine Ym 5 ?_
  refine Yf 7 underlying64 sz2 ?_
  refine Yl 8 oc2 ?_
  refine Y1 9 82 rfl rfl (fun e H he hH => O_convert rfl (Eh he) (r := .int .u64 (u64N m.val : Nat)) (fun _ => c_int ⟨_, underlying2⟩ underlying57 (cvS _))) ?_
  refine Y1 10 83 rfl rfl (fun e H he hH => O_binOp rfl (Eh he) .const (fun _ => b_shr_hi m.val)) ?_
  refine Ym 11 ?_
  refine Ys 6 ?_
  refine Cand.mk (j := 6) [(74, _), (78, _), (79, _)] rfl (.cons (t := 74) (.o rfl) (.cons (t := 78) (.o rfl) (.cons (t := 79) (.o rfl) .nil))) (fun e he => O_put (q := lo32 m.val) rfl (.tmp (he.get .hit)) (.tmp (he.get (.o rfl))) (.tmp (he.get (.o rfl))) .a1 r39h om) (fun _ _ h => h) kr ?_
  intro r80 r80h
  refine ⟨⟨.inr .nil, .inr .nil, .inr .nil, .inr (.cons .a .nil), .inr .nil, .inl kr, .inl kr, .inr .nil, .inr (.cons .a .nil), .inr .nil, .inl kr, trivial⟩, ?_⟩
  refine Ys 12 ?_
  refine Cand.mk (j := 12) [(80, _), (84, _), (85, _)] rfl (.cons (t := 80) .hit (.cons (t := 84) (.o rfl) (.cons (t := 85) (.o rfl) .nil))) (fun e he => O_put (q := hi32 m.val) rfl (.tmp (he.get .hit)) (.tmp (he.get (.o rfl))) (.tmp (he.get (.o rfl))) .a1 r80h om) (fun _ _ h => h) kr ?_
  intro r86 r86h
  refine ⟨⟨.inl kr, .inl kr, .inr .nil, .inr (.cons .a .nil), .inr .nil, .inr .nil, .inr (.cons .a .nil), .inr .nil, trivial⟩, ?_⟩
  refine Y1 13 86 rfl rfl (fun e H he hH => O_assign rfl (Eh he)) ?_
  refine Ye ?_
  refine So k28 ?_
  refine Rt ?_
  refine Pl0 ?_
  have hm : memW F t.kind fields m = [offs F m.name, lo32 m.val, hi32 m.val] := by rw [memW, if_neg (show ¬ t.kind = 15 by omega), if_neg (show ¬ (t.kind = 4 ∨ t.kind = 5) by omega), if_neg (show ¬ t.kind = 13 by omega), if_pos (show t.kind = 19 by omega)]
  have ha : addM t.kind F m = addT F m.name := by rw [addM, if_neg om]
  refine Pl3 ?_
  exact SK_ret1 rfl .hit (fun w hw => ⟨(r86, (rb2, rt2, ra2)), by rw [hm]; rfl, (r86h).eq Q43 Q37, by rw [ha]; exact hT2, by rw [ha]; exact hw.weaken Q14⟩)
 refine Ci fun ht72 => ?_
 refine SS k6 ?_
 refine Ek [0, 12, 8, 5] ?_
 refine SR fun _ k29 => ?_
 refine Mh ?_
 refine Sc (Ofa underlying64 sz2) ?_
 refine Sc (Ola oc2) ?_
 refine Sc (O_convert rfl (.tmp .hit) (r := .int .u64 (u64N m.val : Nat)) (fun _ => c_int ⟨_, underlying2⟩ underlying57 (cvS _))) ?_
 refine Sc (O_binOp rfl (.tmp .hit) .const (fun _ => b_and_lo m.val)) ?_
 refine Mo ?_
 refine Sc (O_put (q := lo32 m.val) rfl (.tmp (.o rfl)) (.tmp (.o rfl)) (.tmp .hit) .a1 r39h om) ?_
 intro r93 r93h
 refine Ah ?_
 refine SN k29 ?_
 refine Rt ?_
 have hm : memW F t.kind fields m = [offs F m.name, lo32 m.val] := by rw [memW, if_neg (show ¬ t.kind = 15 by omega), if_neg (show ¬ (t.kind = 4 ∨ t.kind = 5) by omega), if_neg (show ¬ t.kind = 13 by omega), if_neg (show ¬ t.kind = 19 by omega)]
 have ha : addM t.kind F m = addT F m.name := by rw [addM, if_neg om]
 refine Pl3 ?_
 exact SK_ret1 rfl .hit (fun w hw => ⟨(r93, (rb2, rt2, ra2)), by rw [hm]; rfl, (r93h).eq Q43 Q37, by rw [ha]; exact hT2, by rw [ha]; exact hw.weaken Q14⟩)
end

section
open Go
open Tryz
set_option maxRecDepth 100000

theorem fieldsB_t {t : Tp} (h : t.kind = 4 ∨ t.kind = 5) : fieldsB t = bitsB t.mems := by
  rcases h with h | h <;> simp [fieldsB, h]
theorem fieldsB_f {t : Tp} (h : ¬ (t.kind = 4 ∨ t.kind = 5)) : fieldsB t = false := by
  simp only [not_or] at h
  simp [fieldsB, h.1, h.2]
theorem flagB_t {t : Tp} (h : fieldsB t = true) : flagB t = true := by simp [flagB, h]
theorem flagB_k {t : Tp} (h : fieldsB t = false) (hk : t.kind = 6 ∨ t.kind = 19 ∨ t.kind = 7) : flagB t = (t.flag == 1) := by
  rcases hk with hk | hk | hk <;> simp [flagB, h, hk]
theorem flagB_f {t : Tp} (h : fieldsB t = false) (hk : ¬ (t.kind = 6 ∨ t.kind = 19 ∨ t.kind = 7)) : flagB t = false := by
  simp only [not_or] at hk
  simp [flagB, h, hk.1, hk.2.1, hk.2.2]

theorem length_addT (F : List ByteArray) (s : ByteArray) : (addT F s).length ≤ F.length + 1 := by
  unfold addT; split
  · omega
  simp
theorem length_tabB_addT (F : List ByteArray) (s : ByteArray) : (tabB (addT F s)).length ≤ (tabB F).length + s.size + 1 := by
  unfold addT; split
  · omega
  rw [tabB_append]; simp; omega
theorem length_addM (k : Int) (F : List ByteArray) (m : Mb) : (addM k F m).length ≤ F.length + 1 := by
  unfold addM; split
  · omega
  exact length_addT F _
theorem length_tabB_addM (k : Int) (F : List ByteArray) (m : Mb) (h : m.name.size ≤ 12) : (tabB (addM k F m)).length ≤ (tabB F).length + 13 := by
  unfold addM; split
  · omega
  have := length_tabB_addT F m.name; omega
theorem length_addMs (k : Int) (ms : List Mb) : ∀ F, (addMs k F ms).length ≤ F.length + ms.length := by
  induction ms with
  | nil => intro F; exact Nat.le_refl _
  | cons m ms ih =>
    intro F
    have h1 := ih (addM k F m)
    have h2 := length_addM k F m
    simp only [addMs, List.foldl_cons, List.length_cons] at h1 ⊢
    omega
theorem length_tabB_addMs (k : Int) (ms : List Mb) : ∀ F, (∀ m ∈ ms, m.name.size ≤ 12) → (tabB (addMs k F ms)).length ≤ (tabB F).length + 13 * ms.length := by
  induction ms with
  | nil => intro F _; exact Nat.le_refl _
  | cons m ms ih =>
    intro F hm
    have h1 := ih (addM k F m) fun x hx => hm x (List.mem_cons_of_mem _ hx)
    have h2 := length_tabB_addM k F m (hm m List.mem_cons_self)
    simp only [addMs, List.foldl_cons, List.length_cons] at h1 ⊢
    omega
theorem memW_addM (F : List ByteArray) (kind : Int) (f : Bool) (m : Mb) : memW (addM kind F m) kind f m = memW F kind f m := by
  unfold memW addM
  by_cases h : kind = 15
  · rw [if_pos h, if_pos h]
  rw [if_neg h, if_neg h, if_neg h, offs_addT]
theorem addMs_snoc (k : Int) (F : List ByteArray) (ms : List Mb) (m : Mb) : addMs k F (ms ++ [m]) = addM k (addMs k F ms) m := by simp [addMs]
theorem memsW_snoc (k : Int) (F : List ByteArray) (t : Tp) (hk : t.kind = k) (ms : List Mb) (m : Mb) :
    memsW (addMs k F (ms ++ [m])) t (ms ++ [m]) = memsW (addMs k F ms) t ms ++ memW (addMs k F ms) t.kind (fieldsB t) m := by
  subst hk
  rw [addMs_snoc]
  have h1 : memsW (addM t.kind (addMs t.kind F ms) m) t ms = memsW (addMs t.kind F ms) t ms := memsW_mono (grows_addM _ _ _) t ms (mnamed_addMs _ _ _)
  simp only [memsW, List.flatMap_append, List.flatMap_cons, List.flatMap_nil, List.append_nil] at h1 ⊢
  rw [h1, memW_addM]
theorem headW_addTp (F : List ByteArray) (t : Tp) : headW (addTp F t) t = headW F t := by
  have h : offs (addTp F t) t.name = offs F t.name := by
    rw [addTp, (grows_addMs _ _ _).offs (mem_addT F t.name), offs_addT]
  rw [headW, headW, h]
theorem length_memW (F : List ByteArray) (k : Int) (f : Bool) (m : Mb) : (memW F k f m).length ≤ 3 := by
  unfold memW; split
  · simp
  split
  · simp
  split
  · simp
  split <;> simp
theorem length_memsW (F : List ByteArray) (t : Tp) (ms : List Mb) : (memsW F t ms).length ≤ 3 * ms.length := by
  induction ms with
  | nil => simp [memsW]
  | cons m ms ih =>
    have := length_memW F t.kind (fieldsB t) m
    simp only [memsW, List.flatMap_cons, List.length_append, List.length_cons] at ih ⊢
    omega
theorem length_detW (t : Tp) : (detW t).length ≤ 3 := by
  unfold detW; split
  · simp
  split
  · simp
  split <;> simp
theorem length_headW (F : List ByteArray) (t : Tp) : (headW F t).length ≤ 6 := by
  have := length_detW t
  simp [headW]; omega
theorem TOk.mem {len : Nat} {t : Tp} (h : TOk len t) {m : Mb} (hm : m ∈ t.mems) : MOk t.kind t.flag len m := by
  obtain ⟨i, hi, rfl⟩ := List.getElem_of_mem hm
  exact h.2.2.2.2.1 i _ (List.getElem?_eq_getElem hi)
theorem vlen_eq {len : Nat} {t : Tp} (h : TOk len t) (hk : t.kind = 12) : t.flag = ((vlenN t : Nat) : Int) := by
  have := h.2.2.2.2.2.2.2.2.2.2.1 (Or.inl hk)
  rw [vlenN, if_pos hk, nat_cast this.1]
theorem vlen_mems {t : Tp} (hk : ¬ t.kind = 12) : ((t.mems.length : Nat) : Int) = ((vlenN t : Nat) : Int) := by rw [vlenN, if_neg hk]
theorem vlen_lt {len : Nat} {t : Tp} (h : TOk len t) : vlenN t < 65536 := by
  unfold vlenN
  split
  · rename_i hk
    have := h.2.2.2.2.2.2.2.2.2.2.1 (Or.inl hk)
    unfold nat; omega
  have := h.2.1.2.2.2.2.1; omega

section
variable {ro : Option Nat} {w0 : World} {n : Nat} {ds : List Deferred} {H H' : Hp} {e e' : Env} {Q : Exit → Act → World → Prop}
variable {d : Nat} {ty : TypeId} {pos : String} {aft : Array Edge} {x y z : Operand} {v u : Value}
/-- a member is put -/
theorem O_mem {o1 o2 o3 o4 o5 o6 : Operand} {tb : Nat} {F : List ByteArray} {t : Tp} {mv : Value} {m : Mb} {fields big : Bool} {g cap k len : Nat} {cur xs : List Value} {rb rt ra : Row} {A T A' T' : Hp} {ats : Array TypeId} (hd : Nat.blt d n = true)
    (h1 : Ev e o1 (.slice (some ⟨g, 0, none⟩) k cap)) (h2 : Ev e o2 (.agg (cellsT t mv).toArray)) (h3 : Ev e o3 (.agg (cellsM m).toArray)) (h4 : Ev e o4 (.pointer (some ⟨tb, 0, none⟩))) (h5 : Ev e o5 (.bool fields)) (h6 : Ev e o6 (.bool big))
    (hr : HRowAt H 5 (some ⟨g, cap, cur⟩) A T) (ht : HTabAt T tb (tabB F).length F.length (rb, rt, ra) A' T')
    (hok : RowOk 1 (some ⟨g, cap, cur⟩) k xs) (hk : k < 1000000000) (hm : MOk t.kind t.flag len m) (hlen : len ≤ 30) (hT : TabOk F (rb, rt, ra)) (hF : F.length < 1000000) (hB : (tabB F).length < 1000000000) :
    OT ro Tryz.prog noS w0 n ds H e ⟨some d, .call ⟨.value (.func 41), #[o1, o2, o3, o4, o5, o6], ats⟩, ty, pos, aft, none⟩
      (fun X => ∀ z : Row × Row × Row × Row, (RowOk 1 (some z.1) (k + 4 * (memW F t.kind fields m).length) (xs ++ u8s (wsB (memW F t.kind fields m) big)) ∧ TabOk (addM t.kind F m) z.2) →
        X ((d, .slice (some ⟨z.1.g, 0, none⟩) (k + 4 * (memW F t.kind fields m).length) z.1.cap) :: e) (A ++ ((z.1.g, true, .cells z.1.cur.toArray 5 (0, 0)) :: (A' ++ (tabH tb (tabB (addM t.kind F m)).length (addM t.kind F m).length z.2 ++ T'))))) := by
  refine O_call (xs := [o1, o2, o3, o4, o5, o6]) (cap := []) (val := fun z : Row × Row × Row × Row => .slice (some ⟨z.1.g, 0, none⟩) (k + 4 * (memW F t.kind fields m).length) z.1.cap)
    (Hf := fun z => A ++ ((z.1.g, true, .cells z.1.cur.toArray 5 (0, 0)) :: (A' ++ (tabH tb (tabB (addM t.kind F m)).length (addM t.kind F m).length z.2 ++ T'))))
    (good := fun z => RowOk 1 (some z.1) (k + 4 * (memW F t.kind fields m).length) (xs ++ u8s (wsB (memW F t.kind fields m) big)) ∧ TabOk (addM t.kind F m) z.2) hd .func (.cons h1 (.cons h2 (.cons h3 (.cons h4 (.cons h5 (.cons h6 .nil)))))) func41 rfl rfl fun w hw => ?_
  have hp : ∀ (x : Nat × Bool × Obj) (B : Hp), (A ++ (x :: (A' ++ (B ++ T')))).Perm (x :: (B ++ (A ++ A' ++ T'))) := fun x B =>
    List.perm_middle.trans ((by rw [← List.append_assoc]; exact perm_mid : (A ++ (A' ++ (B ++ T'))).Perm (B ++ (A ++ A' ++ T'))).cons x)
  have he : H = A ++ ((g, true, .cells cur.toArray 5 (0, 0)) :: (A' ++ (tabH tb (tabB F).length F.length (rb, rt, ra) ++ T'))) := by rw [hr.eq, ht.eq]; rfl
  rw [he] at hw
  refine (f41_ok (A ++ A' ++ T') tb F t mv m fields big ⟨g, cap, cur⟩ rb rt ra k len xs hok hk hm hlen hT hF hB w (hw.perm (hp _ _))).mono ?_
  rintro r w' ⟨z, rfl, h1, h2, h3⟩
  exact ⟨z, rfl, ⟨h1, h2⟩, h3.perm (hp _ _).symm⟩
end
end
end Go.Proofs.YtoibhfpagkdleaaGreatDoor
