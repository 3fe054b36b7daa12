/-
  CONTRACT: a type is written.
  THE CALCULUS, PART 12: empty rows; what a blob needs.
-/
import Derived.Test.YtoibhfpagkdleaaGreatDoorSe
import Derived.Test.YtoibhfpagkdleaaGreatDoorSk
namespace Go.Proofs.YtoibhfpagkdleaaGreatDoor
section
open Go
open Tryz
set_option maxRecDepth 100000

/-- the table behind a type's name and some of its members -/
noncomputable def G (t : Tp) (F : List ByteArray) (i : Nat) : List ByteArray := addMs t.kind (addT F t.name) (t.mems.take i)
theorem G_len (t : Tp) (F : List ByteArray) (i : Nat) {len : Nat} (h : TOk len t) (hF : F.length < 900000 := by assumption) (hB : (tabB F).length < 900000000 := by assumption) : (G t F i).length < 1000000 ∧ (tabB (G t F i)).length < 1000000000 := by
  have h1 := length_addMs t.kind (t.mems.take i) (addT F t.name)
  have h2 := length_addT F t.name
  have h3 := length_tabB_addMs t.kind (t.mems.take i) (addT F t.name) fun m hm => (h.mem (List.mem_of_mem_take hm)).2.1.2
  have h4 := length_tabB_addT F t.name
  have h5 : t.name.size ≤ 12 := h.1.2.2.1
  have h6 : t.mems.length ≤ 8 := h.2.1.2.2.2.2.1
  rw [List.length_take] at h1 h3
  unfold G
  omega
theorem infoW_eq (t : Tp) : infoN (nat t.kind) (vlenN t) (flagB t) = infoW t := rfl

theorem f18_ok {w0 : World} (T : Hp) (tb : Nat) (F : List ByteArray) (t : Tp) (mp : Option Addr) (mc : Nat) (big : Bool) (ro rb rt ra : Row) (k len : Nat) (xs : List Value) (hrow : RowOk 1 (some ro) k xs) (hk : k < 900000000) (hok : TOk len t) (hlen : len ≤ 30) (hM : MemsAt w0 mp t.mems) (hT : TabOk F (rb, rt, ra)) (hF : F.length < 900000) (hB : (tabB F).length < 900000000) (w : World) (hw : Holds noS w0 ((ro.g, true, .cells ro.cur.toArray 5 (0, 0)) :: (tabH tb (tabB F).length F.length (rb, rt, ra) ++ T)) w) :
    Calls Tryz.prog 18 #[.slice (some ⟨ro.g, 0, none⟩) k ro.cap, .agg (cellsT t (.slice mp t.mems.length mc)).toArray, .pointer (some ⟨tb, 0, none⟩), .bool big] w (fun r w' => ∃ z : Row × Row × Row × Row, r = .returned (.slice (some ⟨z.1.g, 0, none⟩) (k + 4 * (typeW (addTp F t) t).length) z.1.cap) ∧ RowOk 1 (some z.1) (k + 4 * (typeW (addTp F t) t).length) (xs ++ u8s (wsB (typeW (addTp F t) t) big)) ∧ TabOk (addTp F t) z.2 ∧ Holds noS w0 ((z.1.g, true, .cells z.1.cur.toArray 5 (0, 0)) :: (tabH tb (tabB (addTp F t)).length (addTp F t).length z.2 ++ T)) w') := by
 have hvl := vlen_lt hok
 obtain ⟨⟨q1, q2, q3, q4⟩, ⟨q5, q6, q7, q8, q9, q10, q11, q12⟩, q13, ⟨q14, q15, q16⟩, q17, q18, q19, q20, q21, q22, q23, q24⟩ := id hok
 have hfl : 0 ≤ t.flag ∧ t.flag ≤ 2 := by omega
 have hen : 0 ≤ t.enc ∧ t.enc ≤ 4 := by omega
 have hth : thirdW t < 18446744073709551616 := by
   unfold thirdW nat
   split
   · decide
   split <;> omega
 refine sw_calls0 func18 rfl ntmps18 (sees4 _ _ _ _ _ rfl) hw ?_
 refine SR fun _ k1 => ?_
 refine Sc (O_box (cs := (cellsT t (.slice mp t.mems.length mc)).toArray) rfl (.tmp (.o rfl)) rfl) ?_
 intro bk5 _
 refine Ac ?_
 refine SN k1 ?_
 refine Ek [8, 5, 0, 2, 3] ?_
 refine SR fun _ k2 => ?_
 refine SL_join 12 26 (fun t1 : Bool => .bool t1) (fun t1 => t1 = fieldsB t) (fun tJ hJ => ?_) (fun J => ?_)
 ·
  refine Ah ?_
  subst hJ
  refine SN k2 ?_
  refine Ek [9, 8, 5, 0, 2, 3] ?_
  refine SR fun _ k3 => ?_
  refine SL_join 21 47 (fun t1 : Bool => .bool t1) (fun t1 => t1 = flagB t) (fun tJ hJ => ?_) (fun J => ?_)
  ·
   refine Ah ?_
   subst hJ
   refine SN k3 ?_
   refine Ek [10, 9, 8, 5, 0, 2, 3] ?_
   refine SR fun _ k4 => ?_
   refine Sc (Ofa underlying32 sz30) ?_
   refine Sc (Ola oc30) ?_
   refine Sc (O_lenSlice rfl (.tmp .hit) underlying30 rfl) ?_
   refine Ah ?_
   refine SN k4 ?_
   refine Ek [11, 10, 9, 8, 5, 0, 2, 3] ?_
   refine Sq fun _ k5 => ?_
   refine SR fun _ k6 => ?_
   refine Sc (Ofa underlying32 sz3) ?_
   refine Sc (Ola oc3) ?_
   refine Sc Obe ?_
   refine SN k6 ?_
   refine SW_join (α := Int) (fun x => x = ((vlenN t : Nat) : Int)) (fun x => (bk5, true, .cells (cellsT t (.slice mp t.mems.length mc)).toArray 32 (0, 0)) :: (ro.g, true, .cells ro.cur.toArray 5 (0, 0)) :: (tabH tb (tabB F).length F.length (rb, rt, ra) ++ T)) (fun x => [(11, .int .i64 x), (0, .slice (some ⟨ro.g, 0, none⟩) k ro.cap), (9, .bool (fieldsB t)), (10, .bool (flagB t)), (2, .pointer (some ⟨tb, 0, none⟩)), (3, .bool big), (5, .pointer (some ⟨bk5, 0, none⟩))]) (fun x hx => ?_) (fun J53 => ?_)
   ·
    subst hx
    refine So k5 ?_
    refine SR fun _ k7 => ?_
    refine Sc (Ofa underlying32 sz3) ?_
    refine Sc (Ola oc3) ?_
    refine Ah ?_
    refine SN k7 ?_
    refine Ek [12, 11, 0, 9, 10, 2, 3, 5] ?_
    refine Sq fun _ k8 => ?_
    refine SR fun _ k9 => ?_
    refine Sc (Ofa underlying32 sz3) ?_
    refine Sc (Ola oc3) ?_
    refine Sc (O_callE (xs := [.tmp 59]) (cap := []) rfl .func (.cons (.tmp .hit) .nil) func28 rfl rfl (fun w1 hw => f28_ok t.kind w1)) ?_
    refine SN k9 ?_
    refine SW_join (α := Int) (fun x => x = (if sizedB t.kind then t.size else t.of_)) (fun x => (bk5, true, .cells (cellsT t (.slice mp t.mems.length mc)).toArray 32 (0, 0)) :: (ro.g, true, .cells ro.cur.toArray 5 (0, 0)) :: (tabH tb (tabB F).length F.length (rb, rt, ra) ++ T)) (fun x => [(12, .int .i64 x), (11, .int .i64 ((vlenN t : Nat) : Int)), (0, .slice (some ⟨ro.g, 0, none⟩) k ro.cap), (9, .bool (fieldsB t)), (10, .bool (flagB t)), (2, .pointer (some ⟨tb, 0, none⟩)), (3, .bool big), (5, .pointer (some ⟨bk5, 0, none⟩))]) (fun x hx => ?_) (fun J60 => ?_)
    ·
     subst hx
     refine So k8 ?_
     refine Sq fun _ k10 => ?_
     refine SR fun _ k11 => ?_
     refine Sc (Ofa underlying32 sz3) ?_
     refine Sc (Ola oc3) ?_
     refine Sc Obe ?_
     refine SN k11 ?_
     refine SW_join (α := Int) (fun x => x = ((thirdW t : Nat) : Int)) (fun x => (bk5, true, .cells (cellsT t (.slice mp t.mems.length mc)).toArray 32 (0, 0)) :: (ro.g, true, .cells ro.cur.toArray 5 (0, 0)) :: (tabH tb (tabB F).length F.length (rb, rt, ra) ++ T)) (fun x => [(12, .int .i64 x), (11, .int .i64 ((vlenN t : Nat) : Int)), (0, .slice (some ⟨ro.g, 0, none⟩) k ro.cap), (9, .bool (fieldsB t)), (10, .bool (flagB t)), (2, .pointer (some ⟨tb, 0, none⟩)), (3, .bool big), (5, .pointer (some ⟨bk5, 0, none⟩))]) (fun x hx => ?_) (fun J65 => ?_)
     ·
      subst hx
      refine So k10 ?_
      refine Sq fun _ k12 => ?_
      refine SW_da mixed ?_
      refine Ym 0 ?_
      refine Ym 1 ?_
      refine Yf 2 underlying32 sz9 ?_
      refine Yl 3 oc9 ?_
      refine Ym 5 ?_
      refine Yf 7 underlying32 sz3 ?_
      refine Yl 8 oc3 ?_
      refine Ym 9 ?_
      refine Ym 10 ?_
      refine Ym 12 ?_
      refine Ym 14 ?_
      refine Y1 15 80 rfl rfl (fun e H he hH => O_convert rfl (Eh he) (r := .int .u64 (thirdW t : Nat)) (fun _ => c_int ⟨_, underlying3⟩ underlying57 (wrap_u64 _ hth))) ?_
      refine Ym 16 ?_
      refine Ys 4 ?_
      refine Cand.mk (j := 4) [(67, _), (69, _)] rfl (.cons (t := 67) (.o rfl) (.cons (t := 69) (.o rfl) .nil)) (fun e he => O_add rfl (.tmp (he.get .hit)) (.tmp (he.get (.o rfl))) hT .a om om om) (fun _ _ h => h) kr ?_
      rintro ⟨rb2, rt2, ra2⟩ hT2
      refine ⟨⟨.inr .nil, .inr .nil, .inr .nil, .inr .nil, .inr .nil, .inr .nil, .inr (.cons .a .nil), .inr .nil, .inr .nil, .inl kr, .inr .nil, .inl kr, .inr .nil, trivial⟩, ?_⟩
      refine Ys 6 ?_
      refine Cand.mk (j := 6) [(66, _), (70, _), (71, _)] rfl (.cons (t := 66) (.o rfl) (.cons (t := 70) .hit (.cons (t := 71) (.o rfl) .nil))) (fun e he => O_put (q := offs F t.name) rfl (.tmp (he.get .hit)) (.tmp (he.get (.o rfl))) (.tmp (he.get (.o rfl))) .a1 hrow om) (fun _ _ h => h) kr ?_
      intro r72 h72
      refine ⟨⟨.inr .nil, .inr .nil, .inr .nil, .inr .nil, .inr .nil, .inr .nil, .inr (.cons .a .nil), .inr .nil, .inl kr, .inr .nil, .inl kr, trivial⟩, ?_⟩
      refine Ys 11 ?_
      refine Cand.mk (j := 11) [(74, _), (75, _), (76, _)] (β := Unit) (good := fun _ => True) (val := fun _ => _) (Hf := fun _ => _) rfl (.cons (t := 74) (.o rfl) (.cons (t := 75) (.o rfl) (.cons (t := 76) (.o rfl) .nil))) (fun e he => O_callE (xs := [.tmp 74, .tmp 75, .tmp 76]) (cap := []) rfl .func (.cons (.tmp (he.get .hit)) (.cons (.tmp (he.get (.o rfl))) (.cons (.tmp (he.get (.o rfl))) .nil))) func40 rfl rfl (v := .int .u64 (infoW t : Nat)) (fun w1 hw => by have h := f40_ok (nat t.kind) (vlenN t) (flagB t) Q25 hvl w1; rw [nat_cast om] at h; exact h)) (fun _ _ h => h () trivial) kr (fun _ _ => ⟨⟨.inr .nil, .inr .nil, .inr .nil, .inr .nil, .inl kr, .inl kr, .inl kr, .inr .nil, .inr .nil, trivial⟩, ?_⟩)
      refine Ys 13 ?_
      refine Cand.mk (j := 13) [(72, _), (77, _), (78, _)] rfl (.cons (t := 72) (.o rfl) (.cons (t := 77) .hit (.cons (t := 78) (.o rfl) .nil))) (fun e he => O_put (q := infoW t) rfl (.tmp (he.get .hit)) (.tmp (he.get (.o rfl))) (.tmp (he.get (.o rfl))) .a1 h72 om) (fun _ _ h => h) kr ?_
      intro r79 h79
      refine ⟨⟨.inr .nil, .inr .nil, .inr .nil, .inl kr, .inr .nil, .inr .nil, trivial⟩, ?_⟩
      refine Ys 17 ?_
      refine Cand.mk (j := 17) [(79, _), (81, _), (82, _)] rfl (.cons (t := 79) .hit (.cons (t := 81) (.o rfl) (.cons (t := 82) (.o rfl) .nil))) (fun e he => O_put (q := thirdW t) rfl (.tmp (he.get .hit)) (.tmp (he.get (.o rfl))) (.tmp (he.get (.o rfl))) .a1 h79 om) (fun _ _ h => h) kr ?_
      intro r83 h83
      refine ⟨⟨.inl kr, .inl kr, .inr .nil, .inr .nil, .inr .nil, trivial⟩, ?_⟩
      have hh : RowOk 1 (some r83) (k + 4 * [offs F t.name, infoW t, thirdW t].length) (xs ++ u8s (wsB [offs F t.name, infoW t, thirdW t] big)) := h83.eq rfl (by simp [u8s_append])
      refine Y1 18 83 rfl rfl (fun e H he hH => O_assign rfl (Eh he)) ?_
      refine Ye ?_
      refine So k12 ?_
      refine Ek [0, 9, 2, 3, 5] ?_
      refine Sq fun _ k13 => ?_
      refine SR fun _ k14 => ?_
      refine Sc (Ofa underlying32 sz3) ?_
      refine Sc (Ola oc3) ?_
      refine SN k14 ?_
      refine SW_join (α := Row × Nat) (fun x => x.2 = k + 4 * (headW F t).length ∧ RowOk 1 (some x.1) (k + 4 * (headW F t).length) (xs ++ u8s (wsB (headW F t) big))) (fun x => (bk5, true, .cells (cellsT t (.slice mp t.mems.length mc)).toArray 32 (0, 0)) :: (x.1.g, true, .cells x.1.cur.toArray 5 (0, 0)) :: (tabH tb (tabB (addT F t.name)).length (addT F t.name).length (rb2, rt2, ra2) ++ T)) (fun x => [(0, .slice (some ⟨x.1.g, 0, none⟩) x.2 x.1.cap), (9, .bool (fieldsB t)), (2, .pointer (some ⟨tb, 0, none⟩)), (3, .bool big), (5, .pointer (some ⟨bk5, 0, none⟩))]) (fun x hx => ?_) (fun J0 => ?_)
      ·
       obtain ⟨r0, n0⟩ := x
       obtain ⟨hn0, hr0⟩ := hx
       dsimp only at hn0 hr0 ⊢
       subst hn0
       refine So k13 ?_
       refine Sq fun _ k15 => ?_
       refine SR fun _ k16 => ?_
       refine Sc (Ofa underlying32 sz30) ?_
       refine Sc (Ola oc30) ?_
       refine Sc (O_lenSlice rfl (.tmp .hit) underlying30 rfl) ?_
       refine Mc ?_
       refine SN k16 ?_
       refine Bl ?_
       refine SW_loop (α := Nat × Row × Row × Row × Row) (fun x => x.1 ≤ t.mems.length ∧ RowOk 1 (some x.2.1) (k + 4 * (headW F t).length + 4 * (memsW (G t F x.1) t (t.mems.take x.1)).length) (xs ++ u8s (wsB (headW F t) big) ++ u8s (wsB (memsW (G t F x.1) t (t.mems.take x.1)) big)) ∧ TabOk (G t F x.1) x.2.2) (fun x => t.mems.length - x.1) (fun x => (bk5, true, .cells (cellsT t (.slice mp t.mems.length mc)).toArray 32 (0, 0)) :: (x.2.1.g, true, .cells x.2.1.cur.toArray 5 (0, 0)) :: (tabH tb (tabB (G t F x.1)).length (G t F x.1).length x.2.2 ++ T)) (fun x => [(129, .int .i64 (x.1 : Nat)), (128, .int .i64 (t.mems.length : Nat)), (127, .slice mp t.mems.length mc), (0, .slice (some ⟨x.2.1.g, 0, none⟩) (k + 4 * (headW F t).length + 4 * (memsW (G t F x.1) t (t.mems.take x.1)).length) x.2.1.cap), (9, .bool (fieldsB t)), (2, .pointer (some ⟨tb, 0, none⟩)), (3, .bool big), (5, .pointer (some ⟨bk5, 0, none⟩))]) (0, r0, rb2, rt2, ra2) ⟨Nat.zero_le _, hr0.eq rfl (by rw [List.take_zero]; exact (List.append_nil _).symm), hT2⟩ (Ek8 rfl rfl rfl rfl rfl rfl rfl rfl) (SW_range.HSub.all _) ?_
       rintro ⟨i, r, rb3, rt3, ra3⟩ ⟨hi, hr, hT3⟩
       dsimp only at hi hr hT3 ⊢
       refine SR fun _ k17 => ?_
       refine Sc (O_binOp rfl (.tmp .hit) (.tmp (.o rfl)) (fun _ => b_lss _ _ _ _ rfl)) ?_
       refine SN k17 ?_
       refine Sq fun _ k18 => ?_
       refine SW_cond (.tmp .hit) (fun ht130 => ?_) (fun ht130 => ?_)
       ·
        replace ht130 := Cv ht130
        have hlt : i < t.mems.length := by omega
        obtain ⟨b, off, rfl, hc1⟩ := hM _ _ (List.getElem?_eq_getElem hlt)
        have hmo := hok.mem (List.getElem_mem hlt)
        have hG1 := G_len t F i hok
        have hG2 := length_memsW (G t F i) t (t.mems.take i)
        have hG3 := length_headW F t
        rw [List.length_take] at hG2
        have hG4 : (k + 4 * (headW F t).length + 4 * (memsW (G t F i) t (t.mems.take i)).length) < 1000000000 := by omega
        refine SS k18 ?_
        refine Ek [129, 128, 127, 0, 9, 2, 3, 5] ?_
        refine Sq fun _ k19 => ?_
        refine Bl ?_
        refine SR fun _ k20 => ?_
        refine Sc (O_indexAddr rfl (.tmp (.o rfl)) (.tmp .hit) underlying30 sz64 oz oz) ?_
        refine Sc (O_loadA0 (vs := cellsM t.mems[i]) rfl (.tmp .hit) underlying64 sz64 rfl (fun h => h) (fun j u hj => by have := hc1 j u hj; simpa using this)) ?_
        refine Sc (O_alloc rfl zr64 rfl) ?_
        intro bk14 _
        refine Sc (O_storeA (vs := cellsM t.mems[i]) (.tmp .hit) (.tmp (.o rfl)) rfl sz64 rfl .a dc rfl) ?_
        refine SN k20 ?_
        refine Sr ?_
        refine Mo ?_
        refine Sc (O_loadA (vs := cellsT t _) rfl (.tmp (.o rfl)) underlying32 sz32 .a rfl) ?_
        refine Sc (O_loadA (vs := cellsM t.mems[i]) rfl (.tmp (.o rfl)) underlying64 sz64 .a rfl) ?_
        refine Mo ?_
        refine Mo ?_
        refine Mo ?_
        refine Sc (O_mem rfl (.tmp (.o rfl)) (.tmp (.o rfl)) (.tmp (.o rfl)) (.tmp (.o rfl)) (.tmp (.o rfl)) (.tmp .hit) .a1 .a hr hG4 hmo hlen hT3 hG1.1 hG1.2) ?_
        rintro z139 ⟨hz1, hz2⟩
        have hsn := memsW_snoc t.kind (addT F t.name) t rfl (t.mems.take i) t.mems[i]
        rw [← List.take_succ_eq_append_getElem hlt] at hsn
        have hGs : G t F (i + 1) = addM t.kind (G t F i) t.mems[i] := by rw [G, List.take_succ_eq_append_getElem hlt, addMs_snoc]; rfl
        have hT4 : TabOk (G t F (i + 1)) z139.2 := by rw [hGs]; exact hz2
        have hsn2 : memsW (G t F (i + 1)) t (t.mems.take (i + 1)) = memsW (G t F i) t (t.mems.take i) ++ memW (G t F i) t.kind (fieldsB t) t.mems[i] := hsn
        have hln : k + 4 * (headW F t).length + 4 * (memsW (G t F i) t (t.mems.take i)).length + 4 * (memW (G t F i) t.kind (fieldsB t) t.mems[i]).length = k + 4 * (headW F t).length + 4 * (memsW (G t F (i + 1)) t (t.mems.take (i + 1))).length := by
          rw [hsn2, List.length_append]; omega
        have hr4 : RowOk 1 (some z139.1) (k + 4 * (headW F t).length + 4 * (memsW (G t F (i + 1)) t (t.mems.take (i + 1))).length) (xs ++ u8s (wsB (headW F t) big) ++ u8s (wsB (memsW (G t F (i + 1)) t (t.mems.take (i + 1))) big)) :=
          hz1.eq hln (by rw [hsn2, wsB_append, u8s_append]; simp)
        rw [hln, ← hGs]
        
        refine Ah ?_
        refine SN k19 ?_
        refine Sr ?_
        refine Sc (O_binOp rfl (.tmp (.o rfl)) .const (fun _ => b_add _ _ _ rfl oz oz)) ?_
        refine Mh ?_
        refine Sn ?_
        refine Pl1 ?_
        exact fun _ _ ha hw => ⟨(i + 1, z139.1, z139.2.1, z139.2.2.1, z139.2.2.2), (by show t.mems.length - (i + 1) < t.mems.length - i; omega), ⟨hlt, hr4, hT4⟩, ha.weaken .a, hw.weaken Q34⟩
       ·
        replace ht130 := Cv ht130
        have hfin : i = t.mems.length := by omega
        subst hfin
        have hGn : G t F t.mems.length = addTp F t := by rw [G, List.take_length]; rfl
        rw [hGn, List.take_length] at hr
        rw [hGn] at hT3
        have hln : k + 4 * (headW F t).length + 4 * (memsW (addTp F t) t t.mems).length = k + 4 * (typeW (addTp F t) t).length := by
          rw [typeW, headW_addTp, List.length_append]; omega
        refine Xt ?_
        refine So k15 ?_
        refine Ek [0] ?_
        refine SR fun _ k21 => ?_
        refine Mh ?_
        refine Ah ?_
        refine SN k21 ?_
        refine Rt ?_
        refine Pl3 ?_
        exact SK_ret1 rfl .hit (fun w hw => ⟨(r, rb3, rt3, ra3), by rw [hGn, List.take_length, hln], hr.eq hln (by rw [typeW, headW_addTp, wsB_append, u8s_append, List.append_assoc]), hT3, by rw [hGn] at hw; exact hw.weaken Q14⟩)
      ·
       refine Bl ?_
       refine Ek [85, 0, 9, 2, 3, 5] ?_
       refine SR fun _ k22 => ?_
       refine Sc Obe ?_
       refine Ah ?_
       refine SN k22 ?_
       refine Sd ?_ ?_
       ·
        refine Ci fun ht86 => ?_
        refine Sr ?_
        refine Mo ?_
        refine Sc (Ofa underlying32 sz3) ?_
        refine Sc (Ola oc3) ?_
        refine Sc (O_convert rfl (.tmp .hit) (r := .int .u64 (nat t.enc : Nat)) (fun _ => c_int ⟨_, underlying3⟩ underlying57 (cvN om om))) ?_
        refine Sc (O_binOp rfl (.tmp .hit) .const (fun _ => b_shl .u64 (nat t.enc) 24 dc (wrap_u64 _ Q25) _)) ?_
        refine Sc (Ofa underlying32 sz3) ?_
        refine Sc (Ola oc3) ?_
        refine Sc (O_binOp rfl .const (.tmp .hit) (fun _ => b_mul _ _ _ rfl oz oz)) ?_
        refine Sc (O_convert rfl (.tmp .hit) (r := .int .u64 (8 * nat t.size : Nat)) (fun _ => c_int ⟨_, underlying3⟩ underlying57 (by rw [show 8 * t.size = ((8 * nat t.size : Nat) : Int) by unfold nat; omega]; exact wrap_u64 _ Q25))) ?_
        refine Sc (O_binOp rfl (.tmp (.o rfl)) (.tmp .hit) (fun _ => b_or_u64 (nat t.enc * 2 ^ 24) (8 * nat t.size) (8 * nat t.size + nat t.enc * 2 ^ 24) rfl rfl (by rw [Nat.or_comm]; exact or_add _ _ 24 Q25) Q25 Q25 Q25)) ?_
        refine Mo ?_
        refine Sc (O_put (q := 8 * nat t.size + nat t.enc * 2 ^ 24) rfl (.tmp (.o rfl)) (.tmp (.o rfl)) (.tmp .hit) .a1 h83 om) ?_
        intro r99 h99
        refine Ah ?_
        refine Sn ?_
        have hd : detW t = [8 * nat t.size + nat t.enc * 2 ^ 24] := by rw [detW, if_pos ht86]
        have hl : 4 * (headW F t).length = 12 + 4 * [8 * nat t.size + nat t.enc * 2 ^ 24].length := by rw [headW, hd]; rfl
        refine Pl5 ?_
        exact fun _ _ ha hw => J0 (r99, _) ⟨by rw [hl]; rfl, h99.eq (by rw [hl]; rfl) Q46⟩ _ _ (ha.weaken (Ek5 rfl rfl rfl rfl rfl)) (hw.weaken Q14)
       refine Ci fun ht86 => ?_
       refine Ek [85, 0, 9, 2, 3, 5] ?_
       refine SR fun _ k23 => ?_
       refine Sc Obe ?_
       refine Ah ?_
       refine SN k23 ?_
       refine Sd ?_ ?_
       ·
        refine Ci fun ht100 => ?_
        refine SW_da mixed ?_
        refine Ym 0 ?_
        refine Yf 1 underlying32 sz3 ?_
        refine Yl 2 oc3 ?_
        refine Y1 3 104 rfl rfl (fun e H he hH => O_convert rfl (Eh he) (r := .int .u64 (nat t.of_ : Nat)) (fun _ => c_int ⟨_, underlying3⟩ underlying57 (cvN om om))) ?_
        refine Ym 4 ?_
        refine Yf 6 underlying32 sz3 ?_
        refine Yl 7 oc3 ?_
        refine Y1 8 109 rfl rfl (fun e H he hH => O_convert rfl (Eh he) (r := .int .u64 (nat t.index : Nat)) (fun _ => c_int ⟨_, underlying3⟩ underlying57 (cvN om om))) ?_
        refine Ym 9 ?_
        refine Yf 11 underlying32 sz3 ?_
        refine Yl 12 oc3 ?_
        refine Y1 13 114 rfl rfl (fun e H he hH => O_convert rfl (Eh he) (r := .int .u64 (nat t.size : Nat)) (fun _ => c_int ⟨_, underlying3⟩ underlying57 (cvN om om))) ?_
        refine Ym 14 ?_
        refine Ys 5 ?_
        refine Cand.mk (j := 5) [(102, _), (105, _), (106, _)] rfl (.cons (t := 102) (.o rfl) (.cons (t := 105) (.o rfl) (.cons (t := 106) (.o rfl) .nil))) (fun e he => O_put (q := nat t.of_) rfl (.tmp (he.get .hit)) (.tmp (he.get (.o rfl))) (.tmp (he.get (.o rfl))) .a1 h83 om) (fun _ _ h => h) kr ?_
        intro r107 h107
        refine ⟨⟨.inr .nil, .inr .nil, .inr (.cons .a .nil), .inr .nil, .inr .nil, .inr .nil, .inr (.cons .a .nil), .inr .nil, .inl kr, .inl kr, .inr (.cons .a .nil), .inr .nil, .inl kr, trivial⟩, ?_⟩
        refine Ys 10 ?_
        refine Cand.mk (j := 10) [(107, _), (110, _), (111, _)] rfl (.cons (t := 107) .hit (.cons (t := 110) (.o rfl) (.cons (t := 111) (.o rfl) .nil))) (fun e he => O_put (q := nat t.index) rfl (.tmp (he.get .hit)) (.tmp (he.get (.o rfl))) (.tmp (he.get (.o rfl))) .a1 h107 om) (fun _ _ h => h) kr ?_
        intro r112 h112
        refine ⟨⟨.inr .nil, .inr .nil, .inr (.cons .a .nil), .inr .nil, .inl kr, .inl kr, .inr (.cons .a .nil), .inr .nil, .inr (.cons .a .nil), .inr .nil, trivial⟩, ?_⟩
        refine Ys 15 ?_
        refine Cand.mk (j := 15) [(112, _), (115, _), (116, _)] rfl (.cons (t := 112) .hit (.cons (t := 115) (.o rfl) (.cons (t := 116) (.o rfl) .nil))) (fun e he => O_put (q := nat t.size) rfl (.tmp (he.get .hit)) (.tmp (he.get (.o rfl))) (.tmp (he.get (.o rfl))) .a1 h112 om) (fun _ _ h => h) kr ?_
        intro r117 h117
        refine ⟨⟨.inl kr, .inl kr, .inr (.cons .a .nil), .inr .nil, .inr (.cons .a .nil), .inr .nil, .inr (.cons .a .nil), .inr .nil, trivial⟩, ?_⟩
        refine Y1 16 117 rfl rfl (fun e H he hH => O_assign rfl (Eh he)) ?_
        refine Ye ?_
        have hd : detW t = [nat t.of_, nat t.index, nat t.size] := by rw [detW, if_neg ht86, if_pos ht100]
        have hl : 4 * (headW F t).length = 12 + 4 * [nat t.of_, nat t.index, nat t.size].length := by rw [headW, hd]; rfl
        refine Pl5 ?_
        exact fun _ _ ha hw => J0 (r117, _) ⟨by rw [hl]; rfl, h117.eq (by rw [hl]; rfl) Q46⟩ _ _ (ha.weaken (Ek5 rfl rfl rfl rfl rfl)) (hw.weaken Q14)
       refine Ci fun ht100 => ?_
       refine Ek [85, 0, 9, 2, 3, 5] ?_
       refine SR fun _ k24 => ?_
       refine Sc Obe ?_
       refine Ah ?_
       refine SN k24 ?_
       refine Sd ?_ ?_
       ·
        refine Ci fun ht118 => ?_
        refine Sr ?_
        refine Mo ?_
        refine Sc (Ofa underlying32 sz3) ?_
        refine Sc (Ola oc3) ?_
        refine Sc (O_convert rfl (.tmp .hit) (r := .int .u64 (nat t.flag : Nat)) (fun _ => c_int ⟨_, underlying3⟩ underlying57 (cvN om om))) ?_
        refine Mo ?_
        refine Sc (O_put (q := nat t.flag) rfl (.tmp (.o rfl)) (.tmp (.o rfl)) (.tmp .hit) .a1 h83 om) ?_
        intro r125 h125
        refine Ah ?_
        refine Sn ?_
        have hd : detW t = [nat t.flag] := by rw [detW, if_neg ht86, if_neg ht100, if_pos ht118]
        have hl : 4 * (headW F t).length = 12 + 4 * [nat t.flag].length := by rw [headW, hd]; rfl
        refine Pl5 ?_
        exact fun _ _ ha hw => J0 (r125, _) ⟨by rw [hl]; rfl, h125.eq (by rw [hl]; rfl) Q46⟩ _ _ (ha.weaken (Ek5 rfl rfl rfl rfl rfl)) (hw.weaken Q14)
       refine Ci fun ht118 => ?_
       refine Ss ?_
       have hd : detW t = ([] : List Nat) := by rw [detW, if_neg ht86, if_neg ht100, if_neg ht118]
       have hl : 4 * (headW F t).length = 12 + 4 * ([] : List Nat).length := by rw [headW, hd]; rfl
       refine Pl5 ?_
       exact fun _ _ ha hw => J0 (r83, _) ⟨by rw [hl]; rfl, h83.eq (by rw [hl]; rfl) Q46⟩ _ _ (ha.weaken (Ek5 rfl rfl rfl rfl rfl)) (hw.weaken Q14)
     ·
      refine Sd ?_ ?_
      ·
       refine Ci fun ht65 => ?_
       refine Sr ?_
       refine Ac ?_
       refine Sn ?_
       exact fun _ _ ha hw => J65 _ (by first | (rw [thirdW, if_pos ht65]; rfl) | (rw [thirdW, if_neg ht65]; split <;> exact (nat_cast om).symm)) _ _ (ha.weaken (Ek8 rfl rfl rfl rfl rfl rfl rfl rfl)) (hw.weaken (SW_range.HSub.all _))
      refine Ci fun ht65 => ?_
      refine Ss ?_
      exact fun _ _ ha hw => J65 _ (by first | (rw [thirdW, if_pos ht65]; rfl) | (rw [thirdW, if_neg ht65]; split <;> exact (nat_cast om).symm)) _ _ (ha.weaken (Ek8 rfl rfl rfl rfl rfl rfl rfl rfl)) (hw.weaken (SW_range.HSub.all _))
    ·
     refine Sd ?_ ?_
     ·
      refine Ci fun ht60 => ?_
      refine Sr ?_
      refine Sc (Ofa underlying32 sz3) ?_
      refine Sc (Ola oc3) ?_
      refine Ah ?_
      refine Sn ?_
      exact fun _ _ ha hw => J60 _ (by first | exact (if_pos (decide_eq_true ht60)).symm | exact (if_neg (by rw [show sizedB t.kind = false from decide_eq_false ht60]; decide)).symm) _ _ (ha.weaken (Ek8 rfl rfl rfl rfl rfl rfl rfl rfl)) (hw.weaken (SW_range.HSub.all _))
     refine Ci fun ht60 => ?_
     refine Ss ?_
     exact fun _ _ ha hw => J60 _ (by first | exact (if_pos (decide_eq_true ht60)).symm | exact (if_neg (by rw [show sizedB t.kind = false from decide_eq_false ht60]; decide)).symm) _ _ (ha.weaken (Ek8 rfl rfl rfl rfl rfl rfl rfl rfl)) (hw.weaken (SW_range.HSub.all _))
   ·
    refine Sd ?_ ?_
    ·
     refine Ci fun ht53 => ?_
     refine Sr ?_
     refine Sc (Ofa underlying32 sz3) ?_
     refine Sc (Ola oc3) ?_
     refine Ah ?_
     refine Sn ?_
     exact fun _ _ ha hw => J53 _ (by first | exact vlen_eq hok ht53 | exact vlen_mems ht53) _ _ (ha.weaken (Ek7 rfl rfl rfl rfl rfl rfl rfl)) (hw.weaken (SW_range.HSub.all _))
    refine Ci fun ht53 => ?_
    refine Ss ?_
    exact fun _ _ ha hw => J53 _ (by first | exact vlen_eq hok ht53 | exact vlen_mems ht53) _ _ (ha.weaken (Ek7 rfl rfl rfl rfl rfl rfl rfl)) (hw.weaken (SW_range.HSub.all _))
  ·
   refine Mh ?_
   refine Mh ?_
   refine Sb ?_ ?_
   ·
    refine Ci fun hs28 => ?_
    refine Uo (Uo (Uo (Uo (Vo (Vo (Vo (Uo (Uo (Vo (Vo (Vo (Uo (Uo (Vo (Vo (Vo (Uo ?_)))))))))))))))))
    refine Sc Opu ?_
    exact (J _ Q21).env (Ek7 rfl rfl rfl rfl rfl rfl rfl)
   refine Ci fun hs28 => ?_
   refine Wo (Ofa underlying32 sz3) ?_
   refine Wo (Ola oc3) ?_
   refine Wo Obe ?_
   refine Wo Omo ?_
   refine Sb ?_ ?_
   ·
    refine Ci fun hs32 => ?_
    refine Uo (Uo (Uo ?_))
    refine Wo Opu ?_
    refine Wo Omo ?_
    refine Uo (Uo (Uo ?_))
    refine Wo Opu ?_
    refine Wo Omo ?_
    refine Wo (Ofa underlying32 sz3) ?_
    refine Wo (Ola oc3) ?_
    refine Wo Obe ?_
    refine Wo Opt ?_
    refine Sc Opf ?_
    exact (J _ Q21).env (Ek7 rfl rfl rfl rfl rfl rfl rfl)
   refine Ci fun hs32 => ?_
   refine Wo (Ofa underlying32 sz3) ?_
   refine Wo (Ola oc3) ?_
   refine Wo Obe ?_
   refine Wo Opf ?_
   refine Wo Omo ?_
   refine Sb ?_ ?_
   ·
    refine Ci fun hs37 => ?_
    refine Uo (Uo (Uo ?_))
    refine Wo Opu ?_
    refine Wo Omo ?_
    refine Wo (Ofa underlying32 sz3) ?_
    refine Wo (Ola oc3) ?_
    refine Wo Obe ?_
    refine Wo Opt ?_
    refine Sc Opf ?_
    exact (J _ Q21).env (Ek7 rfl rfl rfl rfl rfl rfl rfl)
   refine Ci fun hs37 => ?_
   refine Wo (Ofa underlying32 sz3) ?_
   refine Wo (Ola oc3) ?_
   refine Wo Obe ?_
   refine Wo Opf ?_
   refine Wo Omo ?_
   refine Sb ?_ ?_
   ·
    refine Ci fun hs42 => ?_
    refine Wo (Ofa underlying32 sz3) ?_
    refine Wo (Ola oc3) ?_
    refine Wo Obe ?_
    refine Wo Opt ?_
    refine Sc Opf ?_
    exact (J _ Q21).env (Ek7 rfl rfl rfl rfl rfl rfl rfl)
   refine Ci fun hs42 => ?_
   refine Uo (Uo (Uo ?_))
   refine Wo Opg ?_
   refine Sc Opf ?_
   exact (J _ Q21).env (Ek7 rfl rfl rfl rfl rfl rfl rfl)
 ·
  refine Sc (Ofa underlying32 sz3) ?_
  refine Sc (Ola oc3) ?_
  refine Sc Obe ?_
  refine Mh ?_
  refine Sb ?_ ?_
  ·
   refine Ci fun hs18 => ?_
   refine Uo (Uo (Uo ?_))
   refine Sc Opu ?_
   refine Mh ?_
   refine Wo (O_loadA (vs := (cellsT t (.slice mp t.mems.length mc))) rfl (.tmp (.o rfl)) underlying32 sz32 .a rfl) ?_
   refine Wo (O_callE (xs := [.tmp 24]) (cap := []) rfl .func (.cons (.tmp .hit) .nil) func38 rfl rfl (fun w1 hw => f38_ok t mp mc om w1 (hM.ext hw.ext))) ?_
   refine Sc Opt ?_
   exact (J _ Q38).env (Ek6 rfl rfl rfl rfl rfl rfl)
  refine Ci fun hs18 => ?_
  refine Wo (Ofa underlying32 sz3) ?_
  refine Wo (Ola oc3) ?_
  refine Wo Obe ?_
  refine Sc Opf ?_
  refine Mh ?_
  refine Sb ?_ ?_
  ·
   refine Ci fun hs23 => ?_
   refine Wo (O_loadA (vs := (cellsT t (.slice mp t.mems.length mc))) rfl (.tmp (.o rfl)) underlying32 sz32 .a rfl) ?_
   refine Wo (O_callE (xs := [.tmp 24]) (cap := []) rfl .func (.cons (.tmp .hit) .nil) func38 rfl rfl (fun w1 hw => f38_ok t mp mc om w1 (hM.ext hw.ext))) ?_
   refine Sc Opt ?_
   exact (J _ Q38).env (Ek6 rfl rfl rfl rfl rfl rfl)
  refine Ci fun hs23 => ?_
  refine Uo (Uo ?_)
  refine Sc Opg ?_
  exact (J _ Q38).env (Ek6 rfl rfl rfl rfl rfl rfl)
end

section
open Go
open Tryz
set_option maxRecDepth 100000

theorem RowOk.cells {r : Row} {n : Nat} {xs : List Value} (h : RowOk 1 (some r) n xs) {E : TypeId} : cellsOf (.cells r.cur.toArray E (0, 0)) 0 (n * 1) = some xs := by
  have hl : xs.length = n * 1 := h.1
  have hg : ∀ i v, xs[i]? = some v → cellOf (.cells r.cur.toArray E (0, 0)) i = some v := fun i v hv => h.get hv
  rw [← hl]
  clear hl h
  have key : ∀ (xs : List Value) (k : Nat), (∀ i v, xs[i]? = some v → cellOf (.cells r.cur.toArray E (0, 0)) (k + i) = some v) → cellsOf (.cells r.cur.toArray E (0, 0)) k xs.length = some xs := by
    intro xs
    induction xs with
    | nil => intro k _; rfl
    | cons x xs ih =>
      intro k hk
      have h0 := hk 0 x rfl
      have h1 := ih (k + 1) fun i v hv => by have := hk (i + 1) v (by simpa using hv); rw [show k + 1 + i = k + (i + 1) by omega]; exact this
      simp only [Nat.add_zero] at h0
      simp only [List.length_cons, cellsOf, h0, h1]
  exact key xs 0 fun i v hv => by rw [Nat.zero_add]; exact hg i v hv
theorem u8s_one (l : List Nat) : (u8s l).all (·.oneCell') = true := by
  rw [List.all_eq_true]
  intro v hv
  simp only [u8s, List.mem_map] at hv
  obtain ⟨x, _, rfl⟩ := hv
  rfl

section
variable {ro : Option Nat} {P : Program} {S : Nat → Prop} {w0 : World} {n : Nat} {ds : List Deferred} {H H' : Hp} {e e' : Env} {Q : Exit → Act → World → Prop}
variable {d : Nat} {ty : TypeId} {pos : String} {aft : Array Edge} {x y z : Operand} {v u : Value}
/-- a slice without an element -/
theorem O_xslice0 {T E : TypeId} {s : Nat} (hd : Nat.blt d n = true) (hT : P.underlying T = some (.slice E)) (hs : Sz P E s) :
    OT ro P S w0 n ds H e ⟨some d, .buildSlice T 0 #[], ty, pos, aft, none⟩ (fun X => ∀ b : Nat, RowOk 1 (some ⟨b, 0, []⟩) 0 [] → X ((d, .slice (some ⟨b, 0, none⟩) 0 0) :: e) ((b, true, .cells ([] : List Value).toArray E (0, 0)) :: H)) :=
  OT_run (val := fun b : Nat => .slice (some ⟨b, 0, none⟩) 0 0) (Hf := fun b => (b, true, .cells ([] : List Value).toArray E (0, 0)) :: H) (good := fun b => RowOk 1 (some ⟨b, 0, []⟩) 0 []) hd (fun _ h => by cases h) fun a w _ hw => by
    refine ⟨w.heap.size, _, ?_, ⟨rfl, Nat.le_refl _, Nat.zero_le _, rfl, rfl⟩, hw.new _⟩
    simp only [execOp, Instr.buildSlice, Sem.run_bind, run_underlying hT, Result.andThen_ok, run_size hs]
    simp [newRow, Instr.fill]
    congr 2
    apply Array.ext'
    simp
end
section
variable {ro : Option Nat} {S : Nat → Prop} {w0 : World} {n : Nat} {ds : List Deferred} {H H' : Hp} {e e' : Env} {Q : Exit → Act → World → Prop}
variable {d : Nat} {ty : TypeId} {pos : String} {aft : Array Edge} {x y z : Operand} {v u : Value}
/-- two bytes are put -/
theorem O_put2 {g cap k q : Nat} {big : Bool} {cur : List Value} {A T : Hp} {xs : List Value} {ats : Array TypeId} (hd : Nat.blt d n = true) (hx : Ev e x (.slice (some ⟨g, 0, none⟩) k cap)) (hy : Ev e y (.int .u64 (q : Nat))) (hz : Ev e z (.bool big))
    (hr : HRowAt H 5 (some ⟨g, cap, cur⟩) A T) (hok : RowOk 1 (some ⟨g, cap, cur⟩) k xs) (hk : k < 1099511627776) :
    OT ro Tryz.prog S w0 n ds H e ⟨some d, .call ⟨.value (.func 19), #[x, y, .const (.int .i64 2), z], ats⟩, ty, pos, aft, none⟩
      (fun X => ∀ r' : Row, RowOk 1 (some r') (k + 2) (xs ++ u8s (wB q 2 big)) → X ((d, .slice (some ⟨r'.g, 0, none⟩) (k + 2) r'.cap) :: e) (A ++ ((r'.g, true, .cells r'.cur.toArray 5 (0, 0)) :: T))) := by
  refine O_call (xs := [x, y, .const (.int .i64 2), z]) (cap := []) (val := fun r' : Row => .slice (some ⟨r'.g, 0, none⟩) (k + 2) r'.cap) (Hf := fun r' => A ++ ((r'.g, true, .cells r'.cur.toArray 5 (0, 0)) :: T)) (good := fun r' => RowOk 1 (some r') (k + 2) (xs ++ u8s (wB q 2 big))) hd .func (.cons hx (.cons hy (.cons .const (.cons hz .nil)))) func19 rfl rfl fun w hw => ?_
  rw [hr.eq] at hw
  have h := f19_ok (A ++ T) g cap k cur xs hok q 2 big dc hk w (hw.perm List.perm_middle)
  refine h.mono ?_
  rintro r w' ⟨r', rfl, h1, h2⟩
  exact ⟨r', rfl, by rw [← putB_eq]; exact h1, h2.perm List.perm_middle.symm⟩
end

theorem Fresh.perm {w w' : World} {N M : Hp} (h : Fresh w N w') (hp : N.Perm M) : Fresh w M w' :=
  ⟨h.ext, (hp.map _).nodup_iff.1 h.nodup, fun x hx => h.has x (hp.mem_iff.2 hx)⟩

/-- a new table -/
theorem f17_tab (w : World) : Calls Tryz.prog 17 #[] w (fun r w' => ∃ z : Nat × Row × Row × Row, r = .returned (.pointer (some ⟨z.1, 0, none⟩)) ∧ TabOk [⟨#[]⟩] z.2 ∧
    Fresh w (tabH z.1 (tabB [⟨#[]⟩]).length ([⟨#[]⟩] : List ByteArray).length z.2) w') := by
  refine (f17_ok w).mono ?_
  rintro r w' ⟨z, rfl, _, h⟩
  refine ⟨(z.1, ⟨z.2.1, 1, [.int .u8 0]⟩, ⟨z.2.2.1, 1, [.string ⟨#[]⟩]⟩, ⟨z.2.2.2, 1, [.int .i64 0]⟩), rfl, ⟨⟨rfl, Nat.le_refl _, by simp only [maxLen]; omega, rfl, rfl⟩, ⟨rfl, Nat.le_refl _, by simp only [maxLen]; omega, rfl, rfl⟩, ⟨rfl, Nat.le_refl _, by simp only [maxLen]; omega, rfl, rfl⟩⟩, h.perm ?_⟩
  refine List.Perm.cons _ ?_
  refine (List.Perm.swap _ _ _).trans ?_
  refine ((List.Perm.swap _ _ _).cons _).trans ?_
  exact List.Perm.swap _ _ _

/-- the texts of types -/
noncomputable def finT (ts : List Tp) : List ByteArray := addTs [⟨#[]⟩] ts
noncomputable def typN (ts : List Tp) : List Nat := typesW (finT ts) ts
def headB (tl sl : Nat) (big : Bool) : List Nat := wB 0xeb9f 2 big ++ [1, 0] ++ wsB [24, 0, tl, tl, sl] big
noncomputable def blobN (ts : List Tp) (big : Bool) : List Nat := headB (4 * (typN ts).length) (tabB (finT ts)).length big ++ wsB (typN ts) big ++ tabB (finT ts)

theorem addTs_snoc (F : List ByteArray) (ts : List Tp) (t : Tp) : addTs F (ts ++ [t]) = addTp (addTs F ts) t := by simp [addTs]
theorem typesW_snoc (F : List ByteArray) (ts : List Tp) (t : Tp) : typesW (addTs F (ts ++ [t])) (ts ++ [t]) = typesW (addTs F ts) ts ++ typeW (addTp (addTs F ts) t) t := by
  rw [addTs_snoc]
  have h1 : typesW (addTp (addTs F ts) t) ts = typesW (addTs F ts) ts := typesW_mono (grows_addTp _ _) ts (named_addTs ts F)
  simp only [typesW, List.flatMap_append, List.flatMap_cons, List.flatMap_nil, List.append_nil] at h1 ⊢
  rw [h1]
theorem length_addTp (F : List ByteArray) (t : Tp) : (addTp F t).length ≤ F.length + 1 + t.mems.length := by
  have h1 := length_addMs t.kind t.mems (addT F t.name)
  have h2 := length_addT F t.name
  unfold addTp; omega
theorem length_tabB_addTp (F : List ByteArray) (t : Tp) {len : Nat} (h : TOk len t) : (tabB (addTp F t)).length ≤ (tabB F).length + 117 := by
  have h3 := length_tabB_addMs t.kind t.mems (addT F t.name) fun m hm => (h.mem hm).2.1.2
  have h4 := length_tabB_addT F t.name
  have h5 : t.name.size ≤ 12 := h.1.2.2.1
  have h6 : t.mems.length ≤ 8 := h.2.1.2.2.2.2.1
  unfold addTp; omega
theorem length_typeW (F : List ByteArray) (t : Tp) {len : Nat} (h : TOk len t) : (typeW F t).length ≤ 30 := by
  have h1 := length_headW F t
  have h2 := length_memsW F t t.mems
  have h6 : t.mems.length ≤ 8 := h.2.1.2.2.2.2.1
  rw [typeW, List.length_append]; omega
theorem typeW_pos (F : List ByteArray) (t : Tp) : 3 ≤ (typeW F t).length := by simp [typeW, headW]
theorem types_len {len : Nat} : ∀ (ts : List Tp) (F : List ByteArray), (∀ t ∈ ts, TOk len t) → (addTs F ts).length ≤ F.length + 9 * ts.length ∧ (tabB (addTs F ts)).length ≤ (tabB F).length + 117 * ts.length := by
  intro ts
  induction ts with
  | nil => intro F _; simp [addTs]
  | cons t ts ih =>
    intro F h
    have h1 := ih (addTp F t) fun x hx => h x (List.mem_cons_of_mem _ hx)
    have h2 := length_addTp F t
    have h3 := length_tabB_addTp F t (h t List.mem_cons_self)
    have h6 : t.mems.length ≤ 8 := (h t List.mem_cons_self).2.1.2.2.2.2.1
    simp only [addTs, List.foldl_cons, List.length_cons] at h1 ⊢
    omega
theorem typesW_len {len : Nat} (F : List ByteArray) : ∀ (ts : List Tp), (∀ t ∈ ts, TOk len t) → (typesW F ts).length ≤ 30 * ts.length := by
  intro ts
  induction ts with
  | nil => intro _; simp [typesW]
  | cons t ts ih =>
    intro h
    have h1 := ih fun x hx => h x (List.mem_cons_of_mem _ hx)
    have h2 := length_typeW F t (h t List.mem_cons_self)
    simp only [typesW, List.flatMap_cons, List.length_append, List.length_cons] at h1 ⊢
    omega
/-- behind some of the types -/
theorem take_len {len i : Nat} {ts : List Tp} (h : ∀ t ∈ ts, TOk len t) (h30 : ts.length ≤ 30) : (addTs [⟨#[]⟩] (ts.take i)).length < 300 ∧ (tabB (addTs [⟨#[]⟩] (ts.take i))).length < 4000 ∧ (typesW (addTs [⟨#[]⟩] (ts.take i)) (ts.take i)).length ≤ 900 := by
  have hm : ∀ t ∈ ts.take i, TOk len t := fun t ht => h t (List.mem_of_mem_take ht)
  have h1 := types_len (ts.take i) [⟨#[]⟩] hm
  have h2 := typesW_len (addTs [⟨#[]⟩] (ts.take i)) (ts.take i) hm
  have h3 : (ts.take i).length ≤ 30 := by rw [List.length_take]; omega
  have h4 : (tabB [⟨#[]⟩]).length = 1 := rfl
  rw [h4] at h1
  simp only [List.length_singleton] at h1
  omega
theorem typN_pos {ts : List Tp} (h : 0 < ts.length) : 0 < (typN ts).length := by
  cases ts with
  | nil => cases h
  | cons t ts =>
    have := typeW_pos (finT (t :: ts)) t
    simp only [typN, typesW, List.flatMap_cons, List.length_append]
    omega
theorem length_headB (tl sl : Nat) (big : Bool) : (headB tl sl big).length = 24 := by simp [headB]
end
end Go.Proofs.YtoibhfpagkdleaaGreatDoor
