/-
  CONTRACT: the blob of types.
  CONTRACTS: the same types.
-/
import Derived.Test.YtoibhfpagkdleaaGreatDoorSf
import Derived.Test.YtoibhfpagkdleaaGreatDoorFr
import Derived.Test.YtoibhfpagkdleaaGreatDoorSd
import Derived.Laws.StructEq
namespace Go.Proofs.YtoibhfpagkdleaaGreatDoor
section
open Go
open Tryz
set_option maxRecDepth 100000

section
variable {ro : Option Nat} {w0 : World} {n : Nat} {ds : List Deferred} {H H' : Hp} {e e' : Env} {Q : Exit → Act → World → Prop}
variable {d : Nat} {ty : TypeId} {pos : String} {aft : Array Edge}
/-- a type is put -/
theorem O_xenc {o1 o2 o3 o4 : Operand} {tb : Nat} {F : List ByteArray} {t : Tp} {mp : Option Addr} {mc : Nat} {big : Bool} {g cap k len : Nat} {cur xs : List Value} {rb rt ra : Row} {A T A' T' : Hp} {ats : Array TypeId} (hd : Nat.blt d n = true)
    (h1 : Ev e o1 (.slice (some ⟨g, 0, none⟩) k cap)) (h2 : Ev e o2 (.agg (cellsT t (.slice mp t.mems.length mc)).toArray)) (h4 : Ev e o3 (.pointer (some ⟨tb, 0, none⟩))) (h6 : Ev e o4 (.bool big))
    (hr : HRowAt H 5 (some ⟨g, cap, cur⟩) A T) (ht : HTabAt T tb (tabB F).length F.length (rb, rt, ra) A' T')
    (hok : RowOk 1 (some ⟨g, cap, cur⟩) k xs) (hk : k < 900000000) (hm : TOk len t) (hlen : len ≤ 30) (hM : MemsAt w0 mp t.mems) (hT : TabOk F (rb, rt, ra)) (hF : F.length < 900000) (hB : (tabB F).length < 900000000) :
    OT ro Tryz.prog noS w0 n ds H e ⟨some d, .call ⟨.value (.func 18), #[o1, o2, o3, o4], ats⟩, ty, pos, aft, none⟩
      (fun X => ∀ z : Row × Row × Row × Row, (RowOk 1 (some z.1) (k + 4 * (typeW (addTp F t) t).length) (xs ++ u8s (wsB (typeW (addTp F t) t) big)) ∧ TabOk (addTp F t) z.2) →
        X ((d, .slice (some ⟨z.1.g, 0, none⟩) (k + 4 * (typeW (addTp F t) t).length) z.1.cap) :: e) (A ++ ((z.1.g, true, .cells z.1.cur.toArray 5 (0, 0)) :: (A' ++ (tabH tb (tabB (addTp F t)).length (addTp F t).length z.2 ++ T'))))) := by
  refine O_call (xs := [o1, o2, o3, o4]) (cap := []) (val := fun z : Row × Row × Row × Row => .slice (some ⟨z.1.g, 0, none⟩) (k + 4 * (typeW (addTp F t) t).length) z.1.cap)
    (Hf := fun z => A ++ ((z.1.g, true, .cells z.1.cur.toArray 5 (0, 0)) :: (A' ++ (tabH tb (tabB (addTp F t)).length (addTp F t).length z.2 ++ T'))))
    (good := fun z => RowOk 1 (some z.1) (k + 4 * (typeW (addTp F t) t).length) (xs ++ u8s (wsB (typeW (addTp F t) t) big)) ∧ TabOk (addTp F t) z.2) hd .func (.cons h1 (.cons h2 (.cons h4 (.cons h6 .nil)))) func18 rfl rfl fun w hw => ?_
  have hp : ∀ (x : Nat × Bool × Obj) (B : Hp), (A ++ (x :: (A' ++ (B ++ T')))).Perm (x :: (B ++ (A ++ A' ++ T'))) := fun x B =>
    List.perm_middle.trans ((by rw [← List.append_assoc]; exact perm_mid : (A ++ (A' ++ (B ++ T'))).Perm (B ++ (A ++ A' ++ T'))).cons x)
  have he : H = A ++ ((g, true, .cells cur.toArray 5 (0, 0)) :: (A' ++ (tabH tb (tabB F).length F.length (rb, rt, ra) ++ T'))) := by rw [hr.eq, ht.eq]; rfl
  rw [he] at hw
  refine (f18_ok (A ++ A' ++ T') tb F t mp mc big ⟨g, cap, cur⟩ rb rt ra k len xs hok hk hm hlen hM hT hF hB w (hw.perm (hp _ _))).mono ?_
  rintro r w' ⟨z, rfl, h1, h2, h3⟩
  exact ⟨z, rfl, ⟨h1, h2⟩, h3.perm (hp _ _).symm⟩
end

theorem f7_ok (p : Option Addr) (cap : Nat) (ts : List Tp) (big : Bool) (hok : ∀ t ∈ ts, TOk ts.length t) (hlen : ts.length ≤ 30) (hne : 0 < ts.length) (w : World) (hT : TysAt w p ts) : Calls Tryz.prog 7 #[.slice p ts.length cap, .bool big] w (fun r w' => ∃ z : Row, r = .returned (.slice (some ⟨z.g, 0, none⟩) (blobN ts big).length z.cap) ∧ RowOk 1 (some z) (blobN ts big).length (u8s (blobN ts big)) ∧ Fresh w [(z.g, true, .cells z.cur.toArray 5 (0, 0))] w') := by
 refine sw_calls (S := noS) func7 rfl ntmps7 (sees2 _ _ _ rfl) (Holds.start _ _) ?_
 refine SR fun _ k1 => ?_
 refine Ac ?_
 refine SN k1 ?_
 refine SR fun _ k2 => ?_
 refine Sc (O_callN (val := fun z : Nat × Row × Row × Row => .pointer (some ⟨z.1, 0, none⟩)) (N := fun z => tabH z.1 (tabB [⟨#[]⟩]).length ([⟨#[]⟩] : List ByteArray).length z.2) (good := fun z => TabOk [⟨#[]⟩] z.2) (xs := []) (cap := []) rfl .func .nil func17 rfl rfl (fun w1 hw => f17_tab w1)) ?_
 rintro ⟨tb, rb, rt, ra⟩ hT0
 dsimp only at hT0 ⊢
 refine Ah ?_
 refine SN k2 ?_
 refine Ek [5, 4, 0, 1] ?_
 refine SR fun _ k3 => ?_
 refine Sc (O_xslice0 rfl underlying26 sz5) ?_
 intro bk13 hk13
 refine Ah ?_
 refine SN k3 ?_
 refine Ek [6, 5, 4, 0, 1] ?_
 refine Sq fun _ k4 => ?_
 refine SR fun _ k5 => ?_
 refine Mo ?_
 refine Sc (O_lenSlice rfl (.tmp .hit) underlying22 rfl) ?_
 refine Mc ?_
 refine SN k5 ?_
 refine Bl ?_
 refine SW_loop (α := Nat × Row × Row × Row × Row) (fun x => x.1 ≤ ts.length ∧ RowOk 1 (some x.2.1) (4 * (typesW (addTs [⟨#[]⟩] (ts.take x.1)) (ts.take x.1)).length) (u8s (wsB (typesW (addTs [⟨#[]⟩] (ts.take x.1)) (ts.take x.1)) big)) ∧ TabOk (addTs [⟨#[]⟩] (ts.take x.1)) x.2.2) (fun x => ts.length - x.1) (fun x => (x.2.1.g, true, .cells x.2.1.cur.toArray 5 (0, 0)) :: (tabH tb (tabB (addTs [⟨#[]⟩] (ts.take x.1))).length (addTs [⟨#[]⟩] (ts.take x.1)).length x.2.2 ++ [])) (fun x => [(16, .int .i64 (x.1 : Nat)), (15, .int .i64 (ts.length : Nat)), (14, .slice p ts.length cap), (6, .slice (some ⟨x.2.1.g, 0, none⟩) (4 * (typesW (addTs [⟨#[]⟩] (ts.take x.1)) (ts.take x.1)).length) x.2.1.cap), (1, .bool big), (5, .pointer (some ⟨tb, 0, none⟩))]) (0, ⟨bk13, 0, []⟩, rb, rt, ra) ⟨Nat.zero_le _, hk13, hT0⟩ (Ek6 rfl rfl rfl rfl rfl rfl) (SW_range.HSub.all _) ?_
 rintro ⟨i, r, rb3, rt3, ra3⟩ ⟨hi, hr, hT3⟩
 dsimp only at hi hr hT3 ⊢
 refine SR fun _ k6 => ?_
 refine Sc (O_binOp rfl (.tmp .hit) (.tmp (.o rfl)) (fun _ => b_lss _ _ _ _ rfl)) ?_
 refine SN k6 ?_
 refine Sq fun _ k7 => ?_
 refine Sd ?_ ?_
 ·
  refine Ci fun ht17 => ?_
  have hlt : i < ts.length := by omega
  obtain ⟨b, off, rfl, mp, mc, hc1, -, hm1⟩ := hT _ _ (List.getElem?_eq_getElem hlt)
  have hto := hok _ (List.getElem_mem hlt)
  have htl := take_len (i := i) hok hlen
  refine SS k7 ?_
  refine Ek [16, 15, 14, 6, 1, 5] ?_
  refine Sq fun _ k8 => ?_
  refine Bl ?_
  refine SR fun _ k9 => ?_
  refine Sc (O_indexAddr rfl (.tmp (.o rfl)) (.tmp .hit) underlying22 sz32 oz oz) ?_
  refine Sc (O_loadA0 (vs := cellsT ts[i] (.slice mp ts[i].mems.length mc)) rfl (.tmp .hit) underlying32 sz32 rfl (fun h => h) (fun j u hj => by have := hc1 j u hj; simpa using this)) ?_
  refine Sc (O_alloc rfl zr32 rfl) ?_
  intro bk8 _
  refine Sc (O_storeA (vs := cellsT ts[i] (.slice mp ts[i].mems.length mc)) (.tmp .hit) (.tmp (.o rfl)) rfl sz32 rfl .a dc rfl) ?_
  refine SN k9 ?_
  refine Sr ?_
  refine Mo ?_
  refine Sc (O_loadA (vs := cellsT ts[i] (.slice mp ts[i].mems.length mc)) rfl (.tmp (.o rfl)) underlying32 sz32 .a rfl) ?_
  refine Mo ?_
  refine Mo ?_
  refine Sc (O_xenc rfl (.tmp (.o rfl)) (.tmp (.o rfl)) (.tmp (.o rfl)) (.tmp .hit) .a1 .a hr om hto hlen hm1 hT3 om om) ?_
  rintro z24 ⟨hz1, hz2⟩
  have hsn := typesW_snoc [⟨#[]⟩] (ts.take i) ts[i]
  rw [← List.take_succ_eq_append_getElem hlt] at hsn
  have hGs : addTs [⟨#[]⟩] (ts.take (i + 1)) = addTp (addTs [⟨#[]⟩] (ts.take i)) ts[i] := by rw [List.take_succ_eq_append_getElem hlt, addTs_snoc]
  have hT4 : TabOk (addTs [⟨#[]⟩] (ts.take (i + 1))) z24.2 := by rw [hGs]; exact hz2
  have hln : 4 * (typesW (addTs [⟨#[]⟩] (ts.take i)) (ts.take i)).length + 4 * (typeW (addTp (addTs [⟨#[]⟩] (ts.take i)) ts[i]) ts[i]).length = 4 * (typesW (addTs [⟨#[]⟩] (ts.take (i + 1))) (ts.take (i + 1))).length := by
    rw [hsn, List.length_append]; omega
  have hr4 : RowOk 1 (some z24.1) (4 * (typesW (addTs [⟨#[]⟩] (ts.take (i + 1))) (ts.take (i + 1))).length) (u8s (wsB (typesW (addTs [⟨#[]⟩] (ts.take (i + 1))) (ts.take (i + 1))) big)) :=
    hz1.eq hln (by rw [hsn, wsB_append, u8s_append])
  rw [hln, ← hGs]
  refine Ah ?_
  refine SN k8 ?_
  refine Sr ?_
  refine Sc (O_binOp rfl (.tmp (.o rfl)) .const (fun _ => b_add _ _ _ rfl oz oz)) ?_
  refine Mh ?_
  refine Sn ?_
  refine Pl1 ?_
  exact fun _ _ ha hw => ⟨(i + 1, z24.1, z24.2.1, z24.2.2.1, z24.2.2.2), Q41, ⟨hlt, hr4, hT4⟩, ha.weaken .a, hw.weaken Q34⟩
 refine Ci fun ht17 => ?_
 have hfin : i = ts.length := by omega
 subst hfin
 have htl := take_len (i := ts.length) hok hlen
 rw [List.take_length] at hr hT3 htl ⊢
 have htp := typN_pos hne
 obtain ⟨tl, htl0⟩ : ∃ tl, tl = 4 * (typN ts).length := ⟨_, rfl⟩
 obtain ⟨sl, hsl0⟩ : ∃ sl, sl = (tabB (finT ts)).length := ⟨_, rfl⟩
 replace hr : RowOk 1 (some r) tl (u8s (wsB (typN ts) big)) := by rw [htl0]; exact hr
 replace hT3 : TabOk (finT ts) (rb3, rt3, ra3) := hT3
 have htl1 : tl ≤ 3600 := by rw [htl0]; unfold typN finT; omega
 have hsl1 : sl < 4000 := by rw [hsl0]; unfold finT; omega
 have htl2 : 0 < tl := by omega
 rw [show 4 * (typesW (addTs [⟨#[]⟩] ts) ts).length = tl from htl0.symm, show addTs [⟨#[]⟩] ts = finT ts from rfl, ← hsl0]
 refine Xt ?_
 refine So k4 ?_
 refine Ek [6, 1, 5] ?_
 refine SR fun _ k10 => ?_
 refine Sc (O_xslice0 rfl underlying26 sz5) ?_
 intro bk26 hk26
 refine Mo ?_
 refine Sc (O_put2 (q := 60319) rfl (.tmp (.o rfl)) .const (.tmp .hit) .a1 hk26 om) ?_
 intro r28 h28
 refine Ah ?_
 refine SN k10 ?_
 refine Ek [9, 6, 1, 5] ?_
 refine SR fun _ k11 => ?_
 refine Mh ?_
 refine Sc (O_buildSlice (cs := #[.int .u8 1, .int .u8 0]) (pv := [(0, .int .u8 1), (1, .int .u8 0)]) rfl (.cons .const (.cons .const .nil)) underlying26 sz5 zr5 dc dc kr) ?_
 intro bk30 _
 refine Sc (O_append  rfl (.tmp (.o rfl)) (.tmp .hit) rfl underlying26 inf5 rfl dc .a1 h28 .a rfl rfl om Q16 om) ?_
 intro r31 h31
 refine Ah ?_
 refine SN k11 ?_
 refine Ek [9, 6, 1, 5] ?_
 refine Sq fun _ k12 => ?_
 refine SR fun _ k13 => ?_
 refine Mo ?_
 refine Sc (O_lenSlice rfl (.tmp .hit) underlying26 rfl) ?_
 refine Mo ?_
 refine Sc (O_lenSlice rfl (.tmp .hit) underlying26 rfl) ?_
 refine Mo ?_
 refine Sc (O_nilCheck rfl (.tmp .hit)) ?_
 refine Sc (Ofa underlying60 sz26) ?_
 refine Sc (Ola oc26) ?_
 refine Sc (O_lenSlice rfl (.tmp .hit) underlying26 rfl) ?_
 refine Sc (O_buildSlice (cs := (([24, 0, tl, tl, sl] : List Nat).map fun n : Nat => Value.int .i64 (n : Nat)).toArray) (pv := [(0, .int .i64 24), (1, .int .i64 0), (2, .int .i64 (tl : Nat)), (3, .int .i64 (tl : Nat)), (4, .int .i64 (sl : Nat))]) rfl (.cons .const (.cons .const (.cons (.tmp (.o rfl)) (.cons (.tmp (.o rfl)) (.cons (.tmp .hit) .nil))))) underlying35 sz3 zr3 dc dc kr) ?_
 intro bk41 _
 refine Sc (O_lenSlice rfl (.tmp .hit) underlying35 rfl) ?_
 refine Mc ?_
 refine SN k13 ?_
 refine Bl ?_
 refine SW_loop (α := Nat × Row) (fun x => x.1 ≤ 5 ∧ RowOk 1 (some x.2) (4 + 4 * x.1) (u8s (wB 0xeb9f 2 big ++ [1, 0] ++ wsB ([24, 0, tl, tl, sl].take x.1) big))) (fun x => 5 - x.1) (fun x => (bk41, true, .cells (([24, 0, tl, tl, sl] : List Nat).map fun n : Nat => Value.int .i64 (n : Nat)).toArray 3 (0, 0)) :: (x.2.g, true, .cells x.2.cur.toArray 5 (0, 0)) :: (r.g, true, .cells r.cur.toArray 5 (0, 0)) :: (tabH tb sl (finT ts).length (rb3, rt3, ra3) ++ [])) (fun x => [(43, .int .i64 (x.1 : Nat)), (42, .int .i64 ((5 : Nat) : Int)), (41, .slice (some ⟨bk41, 0, none⟩) 5 5), (9, .slice (some ⟨x.2.g, 0, none⟩) (4 + 4 * x.1) x.2.cap), (6, .slice (some ⟨r.g, 0, none⟩) tl r.cap), (1, .bool big), (5, .pointer (some ⟨tb, 0, none⟩))]) (0, r31) ⟨Nat.zero_le _, h31.eq rfl (by simp [u8s])⟩ (Ek7 rfl rfl rfl rfl rfl rfl rfl) (by repeat (first | exact HSub.nil | apply HSub.keep | apply HSub.drop)) ?_
 rintro ⟨i, rh⟩ ⟨hi, hrh⟩
 dsimp only at hi hrh ⊢
 refine SR fun _ k14 => ?_
 refine Sc (O_binOp rfl (.tmp .hit) (.tmp (.o rfl)) (fun _ => b_lss _ _ _ _ rfl)) ?_
 refine SN k14 ?_
 refine Sq fun _ k15 => ?_
 refine Sd ?_ ?_
 ·
  refine Ci fun ht44 => ?_
  have hlt : i < 5 := by omega
  have hlN : i < ([24, 0, tl, tl, sl] : List Nat).length := hlt
  obtain ⟨q, hq⟩ : ∃ q, ([24, 0, tl, tl, sl] : List Nat)[i]? = some q := ⟨_, List.getElem?_eq_getElem hlN⟩
  have hq2 : q < 100000 := by
    have := List.mem_of_getElem? hq
    simp only [List.mem_cons, List.not_mem_nil, or_false] at this
    omega
  refine SS k15 ?_
  refine Ek [43, 42, 41, 9, 6, 1, 5] ?_
  refine Sq fun _ k16 => ?_
  refine Bl ?_
  refine SR fun _ k17 => ?_
  refine Sc (O_indexAddr rfl (.tmp (.o rfl)) (.tmp .hit) underlying35 sz3 oz oz) ?_
  refine Sc (O_load rfl (.tmp .hit) oc3 .a (v := .int .i64 (q : Nat)) (by simp only [cellOf]; rw [show 0 + (((i : Nat) : Int)).toNat * 1 = i by omega, List.getElem?_map, hq]; rfl)) ?_
  refine Ah ?_
  refine SN k17 ?_
  refine Sr ?_
  refine Mo ?_
  refine Mo ?_
  refine Sc (O_convert rfl (.tmp .hit) (r := .int .u64 (q : Nat)) (fun _ => c_int ⟨_, underlying3⟩ underlying57 (wrap_u64 _ om))) ?_
  refine Mo ?_
  refine Sc (O_put (q := q) rfl (.tmp (.o rfl)) (.tmp (.o rfl)) (.tmp .hit) .a1 hrh om) ?_
  intro r51 h51
  have hr5 : RowOk 1 (some r51) (4 + 4 * (i + 1)) (u8s (wB 60319 2 big ++ [1, 0] ++ wsB (([24, 0, tl, tl, sl] : List Nat).take (i + 1)) big)) :=
    h51.eq rfl (by rw [List.take_succ_eq_append_getElem hlN, wsB_append, show ([24, 0, tl, tl, sl] : List Nat)[i] = q by rw [List.getElem?_eq_getElem hlN] at hq; injection hq, show wsB [q] big = wB q 4 big by simp, ← u8s_append, List.append_assoc])
  refine Ah ?_
  refine SN k16 ?_
  refine Sr ?_
  refine Sc (O_binOp rfl (.tmp (.o rfl)) .const (fun _ => b_add _ _ _ rfl oz oz)) ?_
  refine Mh ?_
  refine Sn ?_
  refine Pl1 ?_
  exact fun _ _ ha hw => ⟨(i + 1, r51), (by show 5 - (i + 1) < 5 - i; omega), ⟨hlt, hr5⟩, ha.weaken .a, hw.weaken Q34⟩
 refine Ci fun ht44 => ?_
 have hfin : i = 5 := by omega
 subst hfin
 have hrh : RowOk 1 (some rh) 24 (u8s (headB tl sl big)) := hrh
 have hsl2 : 0 < sl := by
   rw [hsl0, finT]
   obtain ⟨E, hE⟩ := grows_addTs ts [⟨#[]⟩]
   rw [hE, tabB_append]; simp
   omega
 have hT3b : RowOk 1 (some rb3) sl (u8s (tabB (finT ts))) := by rw [hsl0]; exact hT3.b
 have hbl : (blobN ts big).length = 24 + tl + sl := by rw [blobN, List.length_append, List.length_append, length_headB, length_wsB, ← htl0, ← hsl0]
 refine Xt ?_
 refine So k12 ?_
 refine Ek [9, 6, 5] ?_
 refine Sq fun _ k18 => ?_
 refine SW_da mixed ?_
 refine Ym 0 ?_
 refine Ym 1 ?_
 refine Ym 3 ?_
 refine Yn 4 ?_
 refine Yf 5 underlying60 sz26 ?_
 refine Yl 6 oc26 ?_
 refine Ys 2 ?_
 refine Cand.mk (j := 2) [(53, _), (54, _)] rfl (.cons (t := 53) (.o rfl) (.cons (t := 54) (.o rfl) .nil)) (fun e he => O_append  rfl (.tmp (he.get .hit)) (.tmp (he.get (.o rfl))) rfl underlying26 inf5 rfl dc .a1 hrh .a hr.cells (u8s_one _) om Q16 om) (fun _ _ h => h) kr ?_
 intro r55 h55
 refine ⟨⟨.inr (.cons .a .nil), .inr .nil, .inr .nil, .inr .nil, .inl kr, .inl kr, trivial⟩, ?_⟩
 refine Ys 7 ?_
 refine Cand.mk (j := 7) [(55, _), (59, _)] rfl (.cons (t := 55) .hit (.cons (t := 59) (.o rfl) .nil)) (fun e he => O_append  rfl (.tmp (he.get .hit)) (.tmp (he.get (.o rfl))) rfl underlying26 inf5 rfl dc .a1 h55 .a hT3b.cells (u8s_one _) om Q16 om) (fun _ _ h => h) kr ?_
 intro r60 h60
 refine ⟨⟨.inl kr, .inr .nil, .inr .nil, .inr .nil, trivial⟩, ?_⟩
 refine Y1 8 60 rfl rfl (fun e H he hH => O_assign rfl (Eh he)) ?_
 refine Ye ?_
 refine So k18 ?_
 refine Rt ?_
 refine Pl3 ?_
 exact SK_ret1 rfl .hit (fun w hw => ⟨r60, by rw [hbl], h60.eq hbl.symm (by rw [blobN, ← htl0, ← hsl0, u8s_append, u8s_append]), hw.made (by repeat (first | exact HSub.nil | exact .keep Q24 | apply HSub.drop)) rfl⟩)
end

section
open Go
open Tryz
set_option maxRecDepth 100000

theorem b_neqM {x y : Operand} {w : World} (m : Mb) : (do eqGuard .neq 64 x y (.agg (cellsM m).toArray) (.agg (cellsM m).toArray); binOp .neq 64 (.agg (cellsM m).toArray) (.agg (cellsM m).toArray) : Sem Value).run Tryz.prog w = .ok (.bool false) w := by
 rw [Sem.run_bind, run_eqGuard_agg w .neq 64 x y _ _ Tryz.eqGuardType64, Result.andThen_ok, run_neq_struct, run_equalIn_agg w 9999 64 _ _ kr Tryz.stoodInHeld64]
 rw [show Tryz.prog.fieldsOf 64 = (match (some (TypeDesc.struct _) : Option TypeDesc) with | some (.struct fs) => fs | _ => #[]) by unfold Program.fieldsOf; rw [underlying64]]
 simp [Op.eqFields, cellsM, part, run_isAgg_no oc9, run_isAgg_no oc3, run_equalIn_int _ 9998 3 _ _ _ _ underlying3, run_equalIn_int _ 9998 2 _ _ _ _ underlying2, run_equalIn_string _ 9998 9 _ _ underlying9]

theorem f22_ok (p q : Option Addr) (c1 c2 : Nat) (ms : List Mb) (hl : ms.length ≤ 8) (w : World) (hp : MemsAt w p ms) (hq : MemsAt w q ms) : Calls Tryz.prog 22 #[.slice p ms.length c1, .slice q ms.length c2] w (fun r w' => r = .returned (.bool true) ∧ Ext noS w w') := by
 refine sw_calls (S := noS) func22 rfl ntmps22 (sees2 _ _ _ rfl) (Holds.start _ _) ?_
 refine SR fun _ k1 => ?_
 refine Ac ?_
 refine SN k1 ?_
 refine Sq fun _ k2 => ?_
 refine SR fun _ k3 => ?_
 refine Mo ?_
 refine Sc (O_lenSlice rfl (.tmp .hit) underlying30 rfl) ?_
 refine Mo ?_
 refine Sc (O_lenSlice rfl (.tmp .hit) underlying30 rfl) ?_
 refine Sc (O_binOp rfl (.tmp (.o rfl)) (.tmp .hit) (r := .bool false) (fun _ => b_neq _ _ _ false Q22)) ?_
 refine SN k3 ?_
 refine Fh ?_
 refine SS k2 ?_
 refine Ek [4, 0, 1] ?_
 refine Sq fun _ k4 => ?_
 refine SR fun _ k5 => ?_
 refine Mo ?_
 refine Sc (O_lenSlice rfl (.tmp .hit) underlying30 rfl) ?_
 refine Mc ?_
 refine SN k5 ?_
 refine Bl ?_
 refine SW_loop (α := Nat) (fun x => x ≤ ms.length) (fun x => ms.length - x) (fun x => []) (fun x => [(13, .int .i64 (x : Nat)), (12, .int .i64 (ms.length : Nat)), (11, .slice p ms.length c1), (0, .slice p ms.length c1), (1, .slice q ms.length c2)]) 0 (Nat.zero_le _) (Ek5 rfl rfl rfl rfl rfl) Q24 ?_
 rintro i hi
 refine SR fun _ k6 => ?_
 refine Sc (O_binOp rfl (.tmp .hit) (.tmp (.o rfl)) (fun _ => b_lss _ _ _ _ rfl)) ?_
 refine SN k6 ?_
 refine Sq fun _ k7 => ?_
 refine Sd ?_ ?_
 ·
  refine Ci fun ht14 => ?_
  have hlt : i < ms.length := by omega
  obtain ⟨b1, off1, rfl, hc1⟩ := hp _ _ (List.getElem?_eq_getElem hlt)
  obtain ⟨b2, off2, rfl, hc2⟩ := hq _ _ (List.getElem?_eq_getElem hlt)
  refine SS k7 ?_
  refine Ek [13, 12, 11, 0, 1] ?_
  refine Sq fun _ k8 => ?_
  refine Bl ?_
  refine SR fun _ k9 => ?_
  refine Mh ?_
  refine Ah ?_
  refine SN k9 ?_
  refine Ek [5, 13, 12, 11, 0, 1] ?_
  refine Sq fun _ k10 => ?_
  refine Zw (Zm rfl (Zm rfl (Z2 16 17 rfl rfl (fun e he => O_indexAddr rfl (Eh he) (Eo he) underlying30 sz64 oz oz) (Z1 18 rfl (fun e he => O_loadA0 (vs := cellsM ms[i]) rfl (Eh he) underlying64 sz64 rfl (fun h => h) (fun j u hj => by have := hc1 j u hj; simpa using this)) (Zm rfl (Zm rfl (Z2 20 21 rfl rfl (fun e he => O_indexAddr rfl (Eh he) (Eo he) underlying30 sz64 oz oz) (Z1 22 rfl (fun e he => O_loadA0 (vs := cellsM ms[i]) rfl (Eh he) underlying64 sz64 rfl (fun h => h) (fun j u hj => by have := hc2 j u hj; simpa using this)) .done)))))))) ?_
  refine Sc (O_binOp rfl (.tmp (.o rfl)) (.tmp .hit) (r := .bool false) (fun _ => b_neqM _)) ?_
  refine SN k10 ?_
  refine Fh ?_
  refine SS k8 ?_
  refine Sr ?_
  refine Sc (O_binOp rfl (.tmp (.o rfl)) .const (fun _ => b_add _ _ _ rfl oz oz)) ?_
  refine Mh ?_
  refine Sn ?_
  refine Pl1 ?_
  exact fun _ _ ha hw => ⟨(i + 1), (by show ms.length - (i + 1) < ms.length - i; omega), hlt, ha.weaken .a, hw.weaken Q24⟩
 refine Ci fun ht14 => ?_
 refine Xt ?_
 refine So k4 ?_
 refine Ek [] ?_
 refine SR fun _ k11 => ?_
 refine Ac ?_
 refine SN k11 ?_
 refine Rt ?_
 refine Pl3 ?_
 exact SK_ret1 rfl .hit (fun w hw => ⟨rfl, hw.ext⟩)

theorem f21_ok (t : Tp) (p q : Option Addr) (c1 c2 : Nat) (hl : t.mems.length ≤ 8) (w : World) (hp : MemsAt w p t.mems) (hq : MemsAt w q t.mems) : Calls Tryz.prog 21 #[.agg (cellsT t (.slice p t.mems.length c1)).toArray, .agg (cellsT t (.slice q t.mems.length c2)).toArray] w (fun r w' => r = .returned (.bool true) ∧ Ext noS w w') := by
 refine sw_calls (S := noS) func21 rfl ntmps21 (sees2 _ _ _ rfl) (Holds.start _ _) ?_
 refine SR fun _ k1 => ?_
 refine Sc (O_box (cs := (cellsT t (.slice p t.mems.length c1)).toArray) rfl (.tmp .hit) rfl) ?_
 intro bk2 _
 refine Sc (O_box (cs := (cellsT t (.slice q t.mems.length c2)).toArray) rfl (.tmp (.o rfl)) rfl) ?_
 intro bk3 _
 refine Ac ?_
 refine SN k1 ?_
 refine Ek [4, 3, 2] ?_
 refine SR fun _ k2 => ?_
 refine Sc (Ofa underlying32 sz3) ?_
 refine Sc (Ola oc3) ?_
 refine Sc (Ofa underlying32 sz3) ?_
 refine Sc (Ola oc3) ?_
 refine Sc (O_binOp rfl (.tmp (.o rfl)) (.tmp .hit) (r := .bool true) (fun _ => b_eql _ _ _ true (beq_self_eq_true _))) ?_
 refine Mh ?_
 refine Wo (Ofa underlying32 sz9) ?_
 refine Wo (Ola oc9) ?_
 refine Wo (Ofa underlying32 sz9) ?_
 refine Wo (Ola oc9) ?_
 refine Wo (O_binOp rfl (.tmp (.o rfl)) (.tmp .hit) (r := .bool true) (fun _ => b_eqlT _ _ true (decide_eq_true rfl))) ?_
 refine Sc Opt ?_
 refine Mh ?_
 refine Wo (Ofa underlying32 sz3) ?_
 refine Wo (Ola oc3) ?_
 refine Wo (Ofa underlying32 sz3) ?_
 refine Wo (Ola oc3) ?_
 refine Wo (O_binOp rfl (.tmp (.o rfl)) (.tmp .hit) (r := .bool true) (fun _ => b_eql _ _ _ true (beq_self_eq_true _))) ?_
 refine Sc Opt ?_
 refine Mh ?_
 refine Wo (Ofa underlying32 sz3) ?_
 refine Wo (Ola oc3) ?_
 refine Wo (Ofa underlying32 sz3) ?_
 refine Wo (Ola oc3) ?_
 refine Wo (O_binOp rfl (.tmp (.o rfl)) (.tmp .hit) (r := .bool true) (fun _ => b_eql _ _ _ true (beq_self_eq_true _))) ?_
 refine Sc Opt ?_
 refine Mh ?_
 refine Wo (Ofa underlying32 sz3) ?_
 refine Wo (Ola oc3) ?_
 refine Wo (Ofa underlying32 sz3) ?_
 refine Wo (Ola oc3) ?_
 refine Wo (O_binOp rfl (.tmp (.o rfl)) (.tmp .hit) (r := .bool true) (fun _ => b_eql _ _ _ true (beq_self_eq_true _))) ?_
 refine Sc Opt ?_
 refine Mh ?_
 refine Wo (Ofa underlying32 sz3) ?_
 refine Wo (Ola oc3) ?_
 refine Wo (Ofa underlying32 sz3) ?_
 refine Wo (Ola oc3) ?_
 refine Wo (O_binOp rfl (.tmp (.o rfl)) (.tmp .hit) (r := .bool true) (fun _ => b_eql _ _ _ true (beq_self_eq_true _))) ?_
 refine Sc Opt ?_
 refine Mh ?_
 refine Wo (Ofa underlying32 sz3) ?_
 refine Wo (Ola oc3) ?_
 refine Wo (Ofa underlying32 sz3) ?_
 refine Wo (Ola oc3) ?_
 refine Wo (O_binOp rfl (.tmp (.o rfl)) (.tmp .hit) (r := .bool true) (fun _ => b_eql _ _ _ true (beq_self_eq_true _))) ?_
 refine Sc Opt ?_
 refine Mh ?_
 refine Wo (Ofa underlying32 sz30) ?_
 refine Wo (Ola oc30) ?_
 refine Wo (Ofa underlying32 sz30) ?_
 refine Wo (Ola oc30) ?_
 refine Wo (O_callE (xs := [.tmp 54, .tmp 56]) (cap := []) rfl .func (.cons (.tmp (.o rfl)) (.cons (.tmp .hit) .nil)) func22 rfl rfl (fun w1 hw => f22_ok p q c1 c2 t.mems hl w1 (hp.ext hw.ext) (hq.ext hw.ext))) ?_
 refine Sc Opt ?_
 refine Ah ?_
 refine SN k2 ?_
 refine Rt ?_
 refine Pl3 ?_
 exact SK_ret1 rfl .hit (fun w hw => ⟨rfl, hw.ext⟩)

theorem f20_ok (p q : Option Addr) (c1 c2 : Nat) (ts : List Tp) (hl : ts.length ≤ 30) (hl8 : ∀ t ∈ ts, t.mems.length ≤ 8) (w : World) (hp : TysAt w p ts) (hq : TysAt w q ts) : Calls Tryz.prog 20 #[.slice p ts.length c1, .slice q ts.length c2, .func (.func 21) #[] #[]] w (fun r w' => r = .returned (.bool true) ∧ Ext noS w w') := by
 refine sw_calls (S := noS) func20 rfl ntmps20 (sees3 _ _ _ _ rfl) (Holds.start _ _) ?_
 refine SR fun _ k1 => ?_
 refine Ac ?_
 refine SN k1 ?_
 refine Sq fun _ k2 => ?_
 refine SR fun _ k3 => ?_
 refine Mo ?_
 refine Sc (O_lenSlice rfl (.tmp .hit) underlying22 rfl) ?_
 refine Mo ?_
 refine Sc (O_lenSlice rfl (.tmp .hit) underlying22 rfl) ?_
 refine Sc (O_binOp rfl (.tmp (.o rfl)) (.tmp .hit) (r := .bool false) (fun _ => b_neq _ _ _ false Q22)) ?_
 refine SN k3 ?_
 refine Fh ?_
 refine SS k2 ?_
 refine Ek [6, 0, 1, 2] ?_
 refine Sq fun _ k4 => ?_
 refine SR fun _ k5 => ?_
 refine Mo ?_
 refine Sc (O_lenSlice rfl (.tmp .hit) underlying22 rfl) ?_
 refine Mc ?_
 refine SN k5 ?_
 refine Bl ?_
 refine SW_loop (α := Nat) (fun x => x ≤ ts.length) (fun x => ts.length - x) (fun x => []) (fun x => [(17, .int .i64 (x : Nat)), (16, .int .i64 (ts.length : Nat)), (15, .slice p ts.length c1), (1, .slice q ts.length c2), (2, .func (.func 21) #[] #[])]) 0 (Nat.zero_le _) (Ek5 rfl rfl rfl rfl rfl) Q24 ?_
 rintro i hi
 refine SR fun _ k6 => ?_
 refine Sc (O_binOp rfl (.tmp .hit) (.tmp (.o rfl)) (fun _ => b_lss _ _ _ _ rfl)) ?_
 refine SN k6 ?_
 refine Sq fun _ k7 => ?_
 refine Sd ?_ ?_
 ·
  refine Ci fun ht18 => ?_
  have hlt : i < ts.length := by omega
  obtain ⟨b1, off1, rfl, mp1, mc1, hc1, -, hm1⟩ := hp _ _ (List.getElem?_eq_getElem hlt)
  obtain ⟨b2, off2, rfl, mp2, mc2, hc2, -, hm2⟩ := hq _ _ (List.getElem?_eq_getElem hlt)
  refine SS k7 ?_
  refine Ek [17, 16, 15, 1, 2] ?_
  refine Sq fun _ k8 => ?_
  refine Bl ?_
  refine SR fun _ k9 => ?_
  refine Mh ?_
  refine Sc (O_indexAddr rfl (.tmp (.o rfl)) (.tmp (.o rfl)) underlying22 sz32 oz oz) ?_
  refine Sc (O_loadA0 (vs := cellsT ts[i] (.slice mp1 ts[i].mems.length mc1)) rfl (.tmp .hit) underlying32 sz32 rfl (fun h => h) (fun j u hj => by have := hc1 j u hj; simpa using this)) ?_
  refine Sc (O_alloc rfl zr32 rfl) ?_
  intro bk8 _
  refine Ao ?_
  refine Sc (O_storeA (vs := cellsT ts[i] (.slice mp1 ts[i].mems.length mc1)) (.tmp (.o rfl)) (.tmp (.o rfl)) rfl sz32 rfl .a dc rfl) ?_
  refine SN k9 ?_
  refine Ek [7, 8, 17, 16, 15, 1, 2] ?_
  refine SR fun _ k10 => ?_
  refine Mo ?_
  refine Mo ?_
  refine Sc (O_indexAddr rfl (.tmp (.o rfl)) (.tmp .hit) underlying22 sz32 oz oz) ?_
  refine Sc (O_loadA0 (vs := cellsT ts[i] (.slice mp2 ts[i].mems.length mc2)) rfl (.tmp .hit) underlying32 sz32 rfl (fun h => h) (fun j u hj => by have := hc2 j u hj; simpa using this)) ?_
  refine Sc (O_alloc rfl zr32 rfl) ?_
  intro bk9 _
  refine Sc (O_storeA (vs := cellsT ts[i] (.slice mp2 ts[i].mems.length mc2)) (.tmp .hit) (.tmp (.o rfl)) rfl sz32 rfl .a dc rfl) ?_
  refine SN k10 ?_
  refine Ek [9, 8, 17, 16, 15, 1, 2] ?_
  refine SR fun _ k11 => ?_
  refine Mo ?_
  refine Sc (O_loadA (vs := cellsT ts[i] (.slice mp1 ts[i].mems.length mc1)) rfl (.tmp (.o rfl)) underlying32 sz32 .a rfl) ?_
  refine Sc (O_loadA (vs := cellsT ts[i] (.slice mp2 ts[i].mems.length mc2)) rfl (.tmp (.o rfl)) underlying32 sz32 .a rfl) ?_
  refine Sc (O_callE (xs := [.tmp 27, .tmp 28]) (cap := []) rfl (.tmp (.o rfl)) (.cons (.tmp (.o rfl)) (.cons (.tmp .hit) .nil)) func21 rfl rfl (fun w1 hw => f21_ok ts[i] mp1 mp2 mc1 mc2 (hl8 _ (List.getElem_mem hlt)) w1 (hm1.ext hw.ext) (hm2.ext hw.ext))) ?_
  refine Sc (O_unOp rfl (.tmp .hit) (r := .bool false) (fun _ => rfl)) ?_
  refine SN k11 ?_
  refine Fh ?_
  refine SS k8 ?_
  refine Sr ?_
  refine Sc (O_binOp rfl (.tmp (.o rfl)) .const (fun _ => b_add _ _ _ rfl oz oz)) ?_
  refine Mh ?_
  refine Sn ?_
  refine Pl1 ?_
  exact fun _ _ ha hw => ⟨(i + 1), Q41, hlt, ha.weaken .a, hw.weaken Q24⟩
 refine Ci fun ht18 => ?_
 refine Xt ?_
 refine So k4 ?_
 refine Ek [] ?_
 refine SR fun _ k12 => ?_
 refine Ac ?_
 refine SN k12 ?_
 refine Rt ?_
 refine Pl3 ?_
 exact SK_ret1 rfl .hit (fun w hw => ⟨rfl, hw.ext⟩)

theorem f8_ok (p q : Option Addr) (c1 c2 : Nat) (ts : List Tp) (hl : ts.length ≤ 30) (hl8 : ∀ t ∈ ts, t.mems.length ≤ 8) (w : World) (hp : TysAt w p ts) (hq : TysAt w q ts) : Calls Tryz.prog 8 #[.slice p ts.length c1, .slice q ts.length c2] w (fun r w' => r = .returned (.bool true) ∧ Ext noS w w') := by
 refine sw_calls (S := noS) func8 rfl ntmps8 (sees2 _ _ _ rfl) (Holds.start _ _) ?_
 refine SR fun _ k1 => ?_
 refine Ac ?_
 refine SN k1 ?_
 refine SR fun _ k2 => ?_
 refine Mo ?_
 refine Mo ?_
 refine Sc (O_callE (xs := [.tmp 5, .tmp 6, .func 21]) (cap := []) rfl .func (.cons (.tmp (.o rfl)) (.cons (.tmp .hit) (.cons .func .nil))) func20 rfl rfl (fun w1 hw => f20_ok p q c1 c2 ts hl hl8 w1 (hp.ext hw.ext) (hq.ext hw.ext))) ?_
 refine Ah ?_
 refine SN k2 ?_
 refine Rt ?_
 refine Pl3 ?_
 exact SK_ret1 rfl .hit (fun w hw => ⟨rfl, hw.ext⟩)
end
end Go.Proofs.YtoibhfpagkdleaaGreatDoor
