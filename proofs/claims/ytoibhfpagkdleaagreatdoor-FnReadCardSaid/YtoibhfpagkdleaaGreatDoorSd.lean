/-
  CONTRACT: a text is put to a table.
  THE CALCULUS, PART 10: numbers put to a row; texts put to a table.
-/
import Derived.Test.YtoibhfpagkdleaaGreatDoorGd
import Derived.Laws.BitsAllLaws
namespace Go.Proofs.YtoibhfpagkdleaaGreatDoor
section
open Go
open Tryz
set_option maxRecDepth 100000

theorem str_beqT (a b : ByteArray) : (a.toList == b.toList) = decide (a = b) := by
  rw [ByteArray.toList_eq, ByteArray.toList_eq, Bool.eq_iff_iff, beq_iff_eq, decide_eq_true_eq]
  constructor
  · intro h
    exact ByteArray.ext (Array.ext' h)
  rintro rfl; rfl
section
variable {P : Program} {w : World} {T : TypeId} {x y : Operand}
theorem b_eqlT (a b : ByteArray) (t : Bool) (h : decide (a = b) = t) :
    (do eqGuard .eql T x y (.string a) (.string b); binOp .eql T (.string a) (.string b) : Sem Value).run P w = .ok (.bool t) w := by
  subst h
  exact b_eqlStr a b _ (str_beqT a b)
end
/-- where the texts of a table stand -/
def atsV (F : List ByteArray) : List Value := (List.range F.length).map fun i => Value.int .i64 ((tabB (F.take i)).length : Nat)
structure TabOk (F : List ByteArray) (x : Row × Row × Row) : Prop where
  b : RowOk 1 (some x.1) (tabB F).length (u8s (tabB F))
  t : RowOk 1 (some x.2.1) F.length (F.map Value.string)
  a : RowOk 1 (some x.2.2) F.length (atsV F)
/-- a table's blocks -/
abbrev tabH (tb nb nt : Nat) (x : Row × Row × Row) : Hp := [(tb, true, .cells [.slice (some ⟨x.1.g, 0, none⟩) nb x.1.cap, .slice (some ⟨x.2.1.g, 0, none⟩) nt x.2.1.cap, .slice (some ⟨x.2.2.g, 0, none⟩) nt x.2.2.cap].toArray 60 (0, 0)),
  (x.1.g, true, .cells x.1.cur.toArray 5 (0, 0)), (x.2.1.g, true, .cells x.2.1.cur.toArray 9 (0, 0)), (x.2.2.g, true, .cells x.2.2.cur.toArray 3 (0, 0))]
theorem atsV_get {F : List ByteArray} {i : Nat} (h : i < F.length) : (atsV F)[i]? = some (.int .i64 ((tabB (F.take i)).length : Nat)) := by simp [atsV, h]
theorem atsV_snoc (F : List ByteArray) (s : ByteArray) : atsV (F ++ [s]) = atsV F ++ [.int .i64 ((tabB F).length : Nat)] := by
  simp only [atsV, List.length_append, List.length_singleton, List.range_succ, List.map_append, List.map_cons, List.map_nil, List.take_left]
  congr 1
  apply List.map_congr_left
  intro i hi
  rw [List.take_append_of_le_length (Nat.le_of_lt (List.mem_range.1 hi))]
theorem offs_found : ∀ {F : List ByteArray} {s : ByteArray} {i : Nat}, (∀ j, j < i → F[j]? ≠ some s) → F[i]? = some s → offs F s = (tabB (F.take i)).length
  | [], _, _, _, h => by simp at h
  | x :: F, s, 0, _, h => by
    simp only [List.getElem?_cons_zero, Option.some.injEq] at h
    simp [offs, h]
  | x :: F, s, i + 1, hn, h => by
    have h0 : ¬ x = s := fun e => hn 0 (Nat.succ_pos _) (by simp [e])
    have := offs_found (F := F) (s := s) (i := i) (fun j hj e => hn (j + 1) om (by simpa using e)) Q48
    rw [offs, if_neg h0, this]
    simp; omega

theorem f39_ok {w0 : World} (T : Hp) (tb : Nat) (F : List ByteArray) (s : ByteArray) (rb rt ra : Row) (hT : TabOk F (rb, rt, ra)) (hF : F.length < 1000000) (hB : (tabB F).length < 1000000000) (hs : s.size < 1000000) (w : World) (hw : Holds noS w0 (tabH tb (tabB F).length F.length (rb, rt, ra) ++ T) w) :
    Calls Tryz.prog 39 #[.pointer (some ⟨tb, 0, none⟩), .string s] w (fun r w' => ∃ z : Row × Row × Row, r = .returned (.int .u64 (offs F s : Nat)) ∧ TabOk (addT F s) z ∧ Holds noS w0 (tabH tb (tabB (addT F s)).length (addT F s).length z ++ T) w') := by
 refine sw_calls0 func39 rfl ntmps39 (sees2 _ _ _ rfl) hw ?_
 refine SR fun _ k1 => ?_
 refine Ac ?_
 refine SN k1 ?_
 refine Sq fun _ k2 => ?_
 refine SR fun _ k3 => ?_
 refine Mo ?_
 refine Sc (O_nilCheck rfl (.tmp .hit)) ?_
 refine Sc (Ofa underlying60 sz58) ?_
 refine Sc (Ola oc58) ?_
 refine Sc (O_lenSlice rfl (.tmp .hit) underlying58 rfl) ?_
 refine Mc ?_
 refine SN k3 ?_
 refine Bl ?_
 refine SW_loop (α := Nat) (fun x => x ≤ F.length ∧ ∀ j, j < x → F[j]? ≠ some s) (fun x => F.length - x) (fun x => tabH tb (tabB F).length F.length (rb, rt, ra) ++ T) (fun x => [(12, .int .i64 (x : Nat)), (11, .int .i64 (F.length : Nat)), (10, .slice (some ⟨rt.g, 0, none⟩) F.length rt.cap), (0, .pointer (some ⟨tb, 0, none⟩)), (1, .string s)]) 0 ⟨Nat.zero_le _, fun j h => absurd h (Nat.not_lt_zero _)⟩ (Ek5 rfl rfl rfl rfl rfl) (SW_range.HSub.all _) ?_
 rintro i ⟨hi, hz⟩
 refine SR fun _ k4 => ?_
 refine Sc (O_binOp rfl (.tmp .hit) (.tmp (.o rfl)) (fun _ => b_lss _ _ _ _ rfl)) ?_
 refine SN k4 ?_
 refine Sq fun _ k5 => ?_
 refine Sd ?_ ?_
 ·
  refine Ci fun ht13 => ?_
  have hlt : i < F.length := by omega
  have hg : (F.map Value.string)[i]? = some (.string F[i]) := by simp [hlt]
  refine SS k5 ?_
  refine Ek [12, 11, 10, 0, 1] ?_
  refine Sq fun _ k6 => ?_
  refine Bl ?_
  refine SR fun _ k7 => ?_
  refine Mh ?_
  refine Sc (O_indexAddr rfl (.tmp (.o rfl)) (.tmp (.o rfl)) underlying58 sz9 oz oz) ?_
  refine Sc (O_load rfl (.tmp .hit) oc9 .a (by simpa using hT.t.get hg)) ?_
  refine Ao ?_
  refine Ao ?_
  refine SN k7 ?_
  refine Ek [6, 5, 12, 11, 10, 0, 1] ?_
  refine SR fun _ k8 => ?_
  refine Mh ?_
  refine Mo ?_
  refine Sc (O_binOp rfl (.tmp (.o rfl)) (.tmp .hit) (fun _ => b_eqlT _ _ _ rfl)) ?_
  refine SN k8 ?_
  refine Sd ?_ ?_
  ·
   refine Ci fun ht19 => ?_
   have hfs : F[i]? = some s := by rw [List.getElem?_eq_getElem hlt, ht19]
   have hofs : (tabB (F.take i)).length = offs F s := (offs_found hz hfs).symm
   have ha : addT F s = F := by rw [addT, if_pos (List.mem_of_getElem? hfs)]
   have hat := atsV_get hlt
   refine Ek [5, 12, 11, 10, 0, 1] ?_
   refine SR fun _ k9 => ?_
   refine Mo ?_
   refine Sc (O_nilCheck rfl (.tmp .hit)) ?_
   refine Sc (Ofa underlying60 sz35) ?_
   refine Sc (Ola oc35) ?_
   refine Mo ?_
   refine Sc (O_indexAddr rfl (.tmp (.o rfl)) (.tmp .hit) underlying35 sz3 oz oz) ?_
   refine Sc (O_load rfl (.tmp .hit) oc3 .a (by simpa using hT.a.get hat)) ?_
   refine Sc (O_convert rfl (.tmp .hit) (r := .int .u64 (offs F s : Nat)) (fun _ => c_int ⟨_, underlying3⟩ underlying57 (by rw [hofs]; exact wrap_u64 _ (by have := offs_le F s; omega)))) ?_
   refine Ah ?_
   refine SN k9 ?_
   refine Rt ?_
   refine Pl0 ?_
   refine Pl3 ?_
   first
   | exact SK_ret1 rfl .hit (fun w hw => ⟨(rb, rt, ra), rfl, by rw [ha]; exact hT, by rw [ha]; exact hw⟩)
   | exact SK_ret1 rfl .hit (fun w hw => ⟨(r61, r37, r48), rfl, by rw [ha]; exact ⟨h61.eq (by rw [e2]) Q44, h37.eq Q22 Q22, h48.eq Q22 (by rw [atsV_snoc])⟩, by rw [ha, e2, e3]; exact hw.weaken Q14⟩)
  refine Ci fun ht19 => ?_
  have hz2 : ∀ j, j < i + 1 → F[j]? ≠ some s := fun j hj e => by
    rcases Nat.lt_or_ge j i with h | h
    · exact hz j h e
    have hji : j = i := by omega
    subst hji
    rw [List.getElem?_eq_getElem hlt] at e
    injection e with e
    exact ht19 e
  refine SS k6 ?_
  refine Sr ?_
  refine Sc (O_binOp rfl (.tmp (.o rfl)) .const (fun _ => b_add _ _ _ rfl oz oz)) ?_
  refine Mh ?_
  refine Sn ?_
  refine Pl1 ?_
  exact fun _ _ ha hw => ⟨(i + 1), (by show F.length - (i + 1) < F.length - i; omega), ⟨hlt, hz2⟩, ha.weaken .a, hw.weaken (SW_range.HSub.all _)⟩
 refine Ci fun ht13 => ?_
 have hni : s ∉ F := fun hs => by
   obtain ⟨j, hj, rfl⟩ := List.getElem_of_mem hs
   exact hz j om (List.getElem?_eq_getElem hj)
 have ha : addT F s = F ++ [s] := by rw [addT, if_neg hni]
 have e2 : (tabB (F ++ [s])).length = (tabB F).length + s.size + 1 := by rw [tabB_append]; simp [Nat.add_assoc]
 have e3 : (F ++ [s]).length = F.length + 1 := by simp
 refine Xt ?_
 refine So k2 ?_
 refine Ek [0, 1] ?_
 refine Sq fun _ k10 => ?_
 refine SW_da mixed ?_
 refine Ym 0 ?_
 refine Ym 1 ?_
 refine Ym 2 ?_
 refine Yn 3 ?_
 refine Yf 4 underlying60 sz58 ?_
 refine Yl 5 oc58 ?_
 refine Ym 6 ?_
 refine Ym 9 ?_
 refine Yn 10 ?_
 refine Yf 11 underlying60 sz35 ?_
 refine Yl 12 oc35 ?_
 refine Ym 13 ?_
 refine Yn 14 ?_
 refine Yf 15 underlying60 sz26 ?_
 refine Yl 16 oc26 ?_
 refine Y1 17 45 rfl rfl (fun e H he hH => O_lenSlice rfl (Eh he) underlying26 rfl) ?_
 refine DA_step2 7 18 kr kr ?_ ?_
 ·
  refine Cand.mk (j := 7) [(35, _)] rfl (.cons (t := 35) (.o rfl) .nil) (fun e he => O_buildSlice1 rfl (.tmp (he.get .hit)) underlying58 sz9 zr9 rfl rfl dc dc) (fun _ _ h => h) kr ?_
  intro bk36 _
  refine ⟨⟨.inr .nil, .inr (.cons .a .nil), .inr .nil, .inr .nil, .inr .nil, .inr (.cons .a .nil), .inr .nil, .inr .nil, .inr .nil, .inl kr, .inr (.cons .a .nil), .inr .nil, .inr .nil, .inr .nil, .inr .nil, .inr .nil, trivial⟩, ?_⟩
  refine DA_step2 8 18 kr kr ?_ ?_
  ·
   refine Cand.mk (j := 8) [(34, _), (36, _)] rfl (.cons (t := 34) (.o rfl) (.cons (t := 36) .hit .nil)) (fun e he => O_append  rfl (.tmp (he.get .hit)) (.tmp (he.get (.o rfl))) rfl underlying58 inf9 rfl dc .a1 hT.t .a rfl rfl om Q16 om) (fun _ _ h => h) kr ?_
   intro r37 h37
   refine ⟨⟨.inr .nil, .inr (.cons .a .nil), .inr .nil, .inr .nil, .inr .nil, .inr (.cons .a .nil), .inr .nil, .inr .nil, .inr .nil, .inl kr, .inr .nil, .inr .nil, .inr .nil, .inr .nil, .inr .nil, trivial⟩, ?_⟩
   refine Ys 18 ?_
   refine Cand.mk (j := 18) [(46, _)] rfl (.cons (t := 46) (.o rfl) .nil) (fun e he => O_buildSlice1 rfl (.tmp (he.get .hit)) underlying35 sz3 zr3 rfl rfl dc dc) (fun _ _ h => h) kr ?_
   intro bk47 _
   refine ⟨⟨.inl kr, .inr (.cons .a .nil), .inr .nil, .inr .nil, .inr .nil, .inr (.cons .a .nil), .inr .nil, .inr .nil, .inr .nil, .inr .nil, .inr .nil, .inr .nil, .inr .nil, .inr .nil, trivial⟩, ?_⟩
   refine Ys 19 ?_
   refine Cand.mk (j := 19) [(41, _), (47, _)] rfl (.cons (t := 41) (.o rfl) (.cons (t := 47) .hit .nil)) (fun e he => O_append  rfl (.tmp (he.get .hit)) (.tmp (he.get (.o rfl))) rfl underlying35 inf3 rfl dc .a1 hT.a .a rfl rfl om Q16 om) (fun _ _ h => h) kr ?_
   intro r48 h48
   refine ⟨⟨.inr (.cons .a .nil), .inr .nil, .inr .nil, .inr .nil, .inl kr, .inr .nil, .inr .nil, .inr .nil, .inr .nil, .inr .nil, .inr .nil, .inr .nil, .inr .nil, trivial⟩, ?_⟩
   refine Yn 20 ?_
   refine Yf 21 underlying60 sz58 ?_
   refine Ys 22 ?_
   refine Cand.mk (j := 22) [(37, _), (50, _)] (β := Unit) (good := fun _ => True) (val := fun _ => undef) (Hf := fun _ => _) rfl (.cons (t := 37) (.o rfl) (.cons (t := 50) .hit .nil)) (fun e he => O_store (.tmp (he.get (.o rfl))) (.tmp (he.get .hit)) rfl sz58 .a .a) (fun _ _ h => h () trivial) kr (fun _ _ => ⟨⟨.inl kr, .inr .nil, .inl kr, .inr .nil, .inr .nil, .inr .nil, .inr .nil, .inr .nil, .inr .nil, .inl kr, .inl kr, .inl kr, .inr .nil, .inl kr, trivial⟩, ?_⟩)
   refine Yn 23 ?_
   refine Yf 24 underlying60 sz35 ?_
   refine Ys 25 ?_
   refine Cand.mk (j := 25) [(48, _), (52, _)] (β := Unit) (good := fun _ => True) (val := fun _ => undef) (Hf := fun _ => _) rfl (.cons (t := 48) (.o rfl) (.cons (t := 52) .hit .nil)) (fun e he => O_store (.tmp (he.get (.o rfl))) (.tmp (he.get .hit)) rfl sz35 .a .a) (fun _ _ h => h () trivial) kr (fun _ _ => ⟨⟨.inl kr, .inr .nil, .inl kr, .inl kr, .inl kr, .inl kr, .inl kr, .inl kr, .inl kr, .inl kr, trivial⟩, ?_⟩)
   refine Ye ?_
   refine So k10 ?_
   refine Ek [0, 1] ?_
   refine SR fun _ k11 => ?_
   refine Mh ?_
   refine Mo ?_
   refine Sc (O_nilCheck rfl (.tmp .hit)) ?_
   refine Sc (Ofa underlying60 sz26) ?_
   refine Sc (Ola oc26) ?_
   refine Mo ?_
   refine Sc (O_appendStr rfl (.tmp (.o rfl)) (.tmp .hit) rfl underlying26 underlying9 inf5 rfl .a1 hT.b Q16 om) ?_
   intro r59 h59
   refine Sc (O_buildSlice1 rfl .const underlying26 sz5 zr5 rfl rfl dc dc) ?_
   intro bk60 _
   refine Sc (O_append  rfl (.tmp (.o rfl)) (.tmp .hit) rfl underlying26 inf5 rfl dc .a1 h59 .a rfl rfl om Q16 om) ?_
   intro r61 h61
   refine Sc (O_nilCheck rfl (.tmp (.o rfl))) ?_
   refine Sc (Ofa underlying60 sz26) ?_
   refine Sc (O_store (.tmp .hit) (.tmp (.o rfl)) rfl sz26 .a .a) ?_
   refine SN k11 ?_
   refine Ek [0] ?_
   refine Sq fun _ k12 => ?_
   refine SW_da mixed ?_
   refine Ym 0 ?_
   refine Yn 1 ?_
   refine Yf 2 underlying60 sz35 ?_
   refine Yl 3 oc35 ?_
   refine Ym 4 ?_
   refine Yn 5 ?_
   refine Yf 6 underlying60 sz35 ?_
   refine Yl 7 oc35 ?_
   refine Y1 8 71 rfl rfl (fun e H he hH => O_lenSlice rfl (Eh he) underlying35 rfl) ?_
   refine Y1 9 72 rfl rfl (fun e H he hH => O_binOp rfl (Eh he) .const (fun _ => b_sub _ _ _ rfl oz oz)) ?_
   refine Yi 10 67 73 rfl rfl rfl underlying35 sz3 ?_
   refine Y1f 11 74 rfl rfl .a (fun e H he hH => O_load rfl (Eh he) oc3 (hH.get .hit) Q18) ?_
   refine Y1 12 75 rfl rfl (fun e H he hH => O_convert rfl (Eh he) (r := .int .u64 (offs F s : Nat)) (fun _ => c_int ⟨_, underlying3⟩ underlying57 Q40)) ?_
   refine Y1 13 76 rfl rfl (fun e H he hH => O_assign rfl (Eh he)) ?_
   refine Ye ?_
   refine So k12 ?_
   refine Rt ?_
   refine Pl3 ?_
   first
   | exact SK_ret1 rfl .hit (fun w hw => ⟨(rb, rt, ra), rfl, by rw [ha]; exact hT, by rw [ha]; exact hw⟩)
   | exact SK_ret1 rfl .hit (fun w hw => ⟨(r61, r37, r48), rfl, by rw [ha]; exact ⟨h61.eq (by rw [e2]) Q44, h37.eq Q22 Q22, h48.eq Q22 (by rw [atsV_snoc])⟩, by rw [ha, e2, e3]; exact hw.weaken Q14⟩)
  refine Cand.mk (j := 18) [(46, _)] rfl (.cons (t := 46) (.o rfl) .nil) (fun e he => O_buildSlice1 rfl (.tmp (he.get .hit)) underlying35 sz3 zr3 rfl rfl dc dc) (fun _ _ h => h) kr ?_
  intro bk47 _
  refine ⟨⟨.inl kr, .inr (.cons .a .nil), .inr .nil, .inr .nil, .inr .nil, .inr (.cons .a .nil), .inr .nil, .inr .nil, .inr .nil, .inr (.cons .a .nil), .inr .nil, .inr .nil, .inr .nil, .inr .nil, .inr .nil, trivial⟩, ?_⟩
  refine Ys 8 ?_
  refine Cand.mk (j := 8) [(34, _), (36, _)] rfl (.cons (t := 34) (.o rfl) (.cons (t := 36) (.o rfl) .nil)) (fun e he => O_append  rfl (.tmp (he.get .hit)) (.tmp (he.get (.o rfl))) rfl underlying58 inf9 rfl dc .a1 hT.t .a rfl rfl om Q16 om) (fun _ _ h => h) kr ?_
  intro r37 h37
  refine ⟨⟨.inr (.cons .a .nil), .inr .nil, .inr .nil, .inr .nil, .inr (.cons .a .nil), .inr .nil, .inr .nil, .inr .nil, .inl kr, .inr .nil, .inr .nil, .inr .nil, .inr .nil, .inr .nil, trivial⟩, ?_⟩
  refine Ys 19 ?_
  refine Cand.mk (j := 19) [(41, _), (47, _)] rfl (.cons (t := 41) (.o rfl) (.cons (t := 47) (.o rfl) .nil)) (fun e he => O_append  rfl (.tmp (he.get .hit)) (.tmp (he.get (.o rfl))) rfl underlying35 inf3 rfl dc .a1 hT.a .a rfl rfl om Q16 om) (fun _ _ h => h) kr ?_
  intro r48 h48
  refine ⟨⟨.inr (.cons .a .nil), .inr .nil, .inr .nil, .inr .nil, .inl kr, .inr .nil, .inr .nil, .inr .nil, .inr .nil, .inr .nil, .inr .nil, .inr .nil, .inr .nil, trivial⟩, ?_⟩
  refine Yn 20 ?_
  refine Yf 21 underlying60 sz58 ?_
  refine Ys 22 ?_
  refine Cand.mk (j := 22) [(37, _), (50, _)] (β := Unit) (good := fun _ => True) (val := fun _ => undef) (Hf := fun _ => _) rfl (.cons (t := 37) (.o rfl) (.cons (t := 50) .hit .nil)) (fun e he => O_store (.tmp (he.get (.o rfl))) (.tmp (he.get .hit)) rfl sz58 .a .a) (fun _ _ h => h () trivial) kr (fun _ _ => ⟨⟨.inl kr, .inr .nil, .inl kr, .inr .nil, .inr .nil, .inr .nil, .inr .nil, .inr .nil, .inr .nil, .inl kr, .inl kr, .inl kr, .inr .nil, .inl kr, trivial⟩, ?_⟩)
  refine Yn 23 ?_
  refine Yf 24 underlying60 sz35 ?_
  refine Ys 25 ?_
  refine Cand.mk (j := 25) [(48, _), (52, _)] (β := Unit) (good := fun _ => True) (val := fun _ => undef) (Hf := fun _ => _) rfl (.cons (t := 48) (.o rfl) (.cons (t := 52) .hit .nil)) (fun e he => O_store (.tmp (he.get (.o rfl))) (.tmp (he.get .hit)) rfl sz35 .a .a) (fun _ _ h => h () trivial) kr (fun _ _ => ⟨⟨.inl kr, .inr .nil, .inl kr, .inl kr, .inl kr, .inl kr, .inl kr, .inl kr, .inl kr, .inl kr, trivial⟩, ?_⟩)
  refine Ye ?_
  refine So k10 ?_
  refine Ek [0, 1] ?_
  refine SR fun _ k13 => ?_
  refine Mh ?_
  refine Mo ?_
  refine Sc (O_nilCheck rfl (.tmp .hit)) ?_
  refine Sc (Ofa underlying60 sz26) ?_
  refine Sc (Ola oc26) ?_
  refine Mo ?_
  refine Sc (O_appendStr rfl (.tmp (.o rfl)) (.tmp .hit) rfl underlying26 underlying9 inf5 rfl .a1 hT.b Q16 om) ?_
  intro r59 h59
  refine Sc (O_buildSlice1 rfl .const underlying26 sz5 zr5 rfl rfl dc dc) ?_
  intro bk60 _
  refine Sc (O_append  rfl (.tmp (.o rfl)) (.tmp .hit) rfl underlying26 inf5 rfl dc .a1 h59 .a rfl rfl om Q16 om) ?_
  intro r61 h61
  refine Sc (O_nilCheck rfl (.tmp (.o rfl))) ?_
  refine Sc (Ofa underlying60 sz26) ?_
  refine Sc (O_store (.tmp .hit) (.tmp (.o rfl)) rfl sz26 .a .a) ?_
  refine SN k13 ?_
  refine Ek [0] ?_
  refine Sq fun _ k14 => ?_
  refine SW_da mixed ?_
  refine Ym 0 ?_
  refine Yn 1 ?_
  refine Yf 2 underlying60 sz35 ?_
  refine Yl 3 oc35 ?_
  refine Ym 4 ?_
  refine Yn 5 ?_
  refine Yf 6 underlying60 sz35 ?_
  refine Yl 7 oc35 ?_
  refine Y1 8 71 rfl rfl (fun e H he hH => O_lenSlice rfl (Eh he) underlying35 rfl) ?_
  refine Y1 9 72 rfl rfl (fun e H he hH => O_binOp rfl (Eh he) .const (fun _ => b_sub _ _ _ rfl oz oz)) ?_
  refine Yi 10 67 73 rfl rfl rfl underlying35 sz3 ?_
  refine Y1f 11 74 rfl rfl .a (fun e H he hH => O_load rfl (Eh he) oc3 (hH.get .hit) Q18) ?_
  refine Y1 12 75 rfl rfl (fun e H he hH => O_convert rfl (Eh he) (r := .int .u64 (offs F s : Nat)) (fun _ => c_int ⟨_, underlying3⟩ underlying57 Q40)) ?_
  refine Y1 13 76 rfl rfl (fun e H he hH => O_assign rfl (Eh he)) ?_
  refine Ye ?_
  refine So k14 ?_
  refine Rt ?_
  refine Pl3 ?_
  first
  | exact SK_ret1 rfl .hit (fun w hw => ⟨(rb, rt, ra), rfl, by rw [ha]; exact hT, by rw [ha]; exact hw⟩)
  | exact SK_ret1 rfl .hit (fun w hw => ⟨(r61, r37, r48), rfl, by rw [ha]; exact ⟨h61.eq (by rw [e2]) Q44, h37.eq Q22 Q22, h48.eq Q22 (by rw [atsV_snoc])⟩, by rw [ha, e2, e3]; exact hw.weaken Q14⟩)
 refine Cand.mk (j := 18) [(46, _)] rfl (.cons (t := 46) .hit .nil) (fun e he => O_buildSlice1 rfl (.tmp (he.get .hit)) underlying35 sz3 zr3 rfl rfl dc dc) (fun _ _ h => h) kr ?_
 intro bk47 _
 refine ⟨⟨.inl kr, .inr (.cons .a .nil), .inr .nil, .inr .nil, .inr .nil, .inr (.cons .a .nil), .inr .nil, .inr .nil, .inr .nil, .inr .nil, .inr (.cons .a .nil), .inr .nil, .inr .nil, .inr .nil, .inr .nil, .inr .nil, trivial⟩, ?_⟩
 refine Ys 7 ?_
 refine Cand.mk (j := 7) [(35, _)] rfl (.cons (t := 35) (.o rfl) .nil) (fun e he => O_buildSlice1 rfl (.tmp (he.get .hit)) underlying58 sz9 zr9 rfl rfl dc dc) (fun _ _ h => h) kr ?_
 intro bk36 _
 refine ⟨⟨.inr (.cons .a .nil), .inr .nil, .inr .nil, .inr .nil, .inr (.cons .a .nil), .inr .nil, .inr .nil, .inr .nil, .inl kr, .inr (.cons .a .nil), .inr .nil, .inr .nil, .inr .nil, .inr .nil, .inr .nil, trivial⟩, ?_⟩
 refine Ys 8 ?_
 refine Cand.mk (j := 8) [(34, _), (36, _)] rfl (.cons (t := 34) (.o rfl) (.cons (t := 36) .hit .nil)) (fun e he => O_append  rfl (.tmp (he.get .hit)) (.tmp (he.get (.o rfl))) rfl underlying58 inf9 rfl dc .a1 hT.t .a rfl rfl om Q16 om) (fun _ _ h => h) kr ?_
 intro r37 h37
 refine ⟨⟨.inr (.cons .a .nil), .inr .nil, .inr .nil, .inr .nil, .inr (.cons .a .nil), .inr .nil, .inr .nil, .inr .nil, .inl kr, .inr .nil, .inr .nil, .inr .nil, .inr .nil, .inr .nil, trivial⟩, ?_⟩
 refine Ys 19 ?_
 refine Cand.mk (j := 19) [(41, _), (47, _)] rfl (.cons (t := 41) (.o rfl) (.cons (t := 47) (.o rfl) .nil)) (fun e he => O_append  rfl (.tmp (he.get .hit)) (.tmp (he.get (.o rfl))) rfl underlying35 inf3 rfl dc .a1 hT.a .a rfl rfl om Q16 om) (fun _ _ h => h) kr ?_
 intro r48 h48
 refine ⟨⟨.inr (.cons .a .nil), .inr .nil, .inr .nil, .inr .nil, .inl kr, .inr .nil, .inr .nil, .inr .nil, .inr .nil, .inr .nil, .inr .nil, .inr .nil, .inr .nil, trivial⟩, ?_⟩
 refine Yn 20 ?_
 refine Yf 21 underlying60 sz58 ?_
 refine Ys 22 ?_
 refine Cand.mk (j := 22) [(37, _), (50, _)] (β := Unit) (good := fun _ => True) (val := fun _ => undef) (Hf := fun _ => _) rfl (.cons (t := 37) (.o rfl) (.cons (t := 50) .hit .nil)) (fun e he => O_store (.tmp (he.get (.o rfl))) (.tmp (he.get .hit)) rfl sz58 .a .a) (fun _ _ h => h () trivial) kr (fun _ _ => ⟨⟨.inl kr, .inr .nil, .inl kr, .inr .nil, .inr .nil, .inr .nil, .inr .nil, .inr .nil, .inr .nil, .inl kr, .inl kr, .inl kr, .inr .nil, .inl kr, trivial⟩, ?_⟩)
 refine Yn 23 ?_
 refine Yf 24 underlying60 sz35 ?_
 refine Ys 25 ?_
 refine Cand.mk (j := 25) [(48, _), (52, _)] (β := Unit) (good := fun _ => True) (val := fun _ => undef) (Hf := fun _ => _) rfl (.cons (t := 48) (.o rfl) (.cons (t := 52) .hit .nil)) (fun e he => O_store (.tmp (he.get (.o rfl))) (.tmp (he.get .hit)) rfl sz35 .a .a) (fun _ _ h => h () trivial) kr (fun _ _ => ⟨⟨.inl kr, .inr .nil, .inl kr, .inl kr, .inl kr, .inl kr, .inl kr, .inl kr, .inl kr, .inl kr, trivial⟩, ?_⟩)
 refine Ye ?_
 refine So k10 ?_
 refine Ek [0, 1] ?_
 refine SR fun _ k15 => ?_
 refine Mh ?_
 refine Mo ?_
 refine Sc (O_nilCheck rfl (.tmp .hit)) ?_
 refine Sc (Ofa underlying60 sz26) ?_
 refine Sc (Ola oc26) ?_
 refine Mo ?_
 refine Sc (O_appendStr rfl (.tmp (.o rfl)) (.tmp .hit) rfl underlying26 underlying9 inf5 rfl .a1 hT.b Q16 om) ?_
 intro r59 h59
 refine Sc (O_buildSlice1 rfl .const underlying26 sz5 zr5 rfl rfl dc dc) ?_
 intro bk60 _
 refine Sc (O_append  rfl (.tmp (.o rfl)) (.tmp .hit) rfl underlying26 inf5 rfl dc .a1 h59 .a rfl rfl om Q16 om) ?_
 intro r61 h61
 refine Sc (O_nilCheck rfl (.tmp (.o rfl))) ?_
 refine Sc (Ofa underlying60 sz26) ?_
 refine Sc (O_store (.tmp .hit) (.tmp (.o rfl)) rfl sz26 .a .a) ?_
 refine SN k15 ?_
 refine Ek [0] ?_
 refine Sq fun _ k16 => ?_
 refine SW_da mixed ?_
 refine Ym 0 ?_
 refine Yn 1 ?_
 refine Yf 2 underlying60 sz35 ?_
 refine Yl 3 oc35 ?_
 refine Ym 4 ?_
 refine Yn 5 ?_
 refine Yf 6 underlying60 sz35 ?_
 refine Yl 7 oc35 ?_
 refine Y1 8 71 rfl rfl (fun e H he hH => O_lenSlice rfl (Eh he) underlying35 rfl) ?_
 refine Y1 9 72 rfl rfl (fun e H he hH => O_binOp rfl (Eh he) .const (fun _ => b_sub _ _ _ rfl oz oz)) ?_
 refine Yi 10 67 73 rfl rfl rfl underlying35 sz3 ?_
 refine Y1f 11 74 rfl rfl .a (fun e H he hH => O_load rfl (Eh he) oc3 (hH.get .hit) Q18) ?_
 refine Y1 12 75 rfl rfl (fun e H he hH => O_convert rfl (Eh he) (r := .int .u64 (offs F s : Nat)) (fun _ => c_int ⟨_, underlying3⟩ underlying57 Q40)) ?_
 refine Y1 13 76 rfl rfl (fun e H he hH => O_assign rfl (Eh he)) ?_
 refine Ye ?_
 refine So k16 ?_
 refine Rt ?_
 refine Pl3 ?_
 first
 | exact SK_ret1 rfl .hit (fun w hw => ⟨(rb, rt, ra), rfl, by rw [ha]; exact hT, by rw [ha]; exact hw⟩)
 | exact SK_ret1 rfl .hit (fun w hw => ⟨(r61, r37, r48), rfl, by rw [ha]; exact ⟨h61.eq (by rw [e2]) Q44, h37.eq Q22 Q22, h48.eq Q22 (by rw [atsV_snoc])⟩, by rw [ha, e2, e3]; exact hw.weaken Q14⟩)
end

section
open Go
open Tryz
set_option maxRecDepth 100000

theorem putB_eq (x n : Nat) (big : Bool) : putB x n big = u8s (wB x n big) := by simp [putB, u8s, wB]

/-- a table's place in the list -/
inductive HTabAt : Hp → Nat → Nat → Nat → Row × Row × Row → Hp → Hp → Prop
  | one {tb nb nt : Nat} {x : Row × Row × Row} {T : Hp} : HTabAt (tabH tb nb nt x ++ T) tb nb nt x [] T
  | skip {H : Hp} {tb nb nt : Nat} {x : Row × Row × Row} {y : Nat × Bool × Obj} {A T : Hp} (h : HTabAt H tb nb nt x A T) : HTabAt (y :: H) tb nb nt x (y :: A) T
theorem HTabAt.a {H : Hp} {tb nb nt : Nat} {x : Row × Row × Row} {A T : Hp} (h : HTabAt H tb nb nt x A T := by repeat (first | apply HTabAt.one | apply HTabAt.skip)) : HTabAt H tb nb nt x A T := h
theorem HTabAt.eq {H : Hp} {tb nb nt : Nat} {x : Row × Row × Row} {A T : Hp} (h : HTabAt H tb nb nt x A T) : H = A ++ (tabH tb nb nt x ++ T) := by
  induction h with
  | one => rfl
  | skip _ ih => rw [ih]; rfl

theorem perm_mid {A B T : Hp} : (A ++ (B ++ T)).Perm (B ++ (A ++ T)) := by
  rw [← List.append_assoc, ← List.append_assoc]
  exact List.perm_append_comm.append_right T

section
variable {ro : Option Nat} {S : Nat → Prop} {w0 : World} {n : Nat} {ds : List Deferred} {H H' : Hp} {e e' : Env} {Q : Exit → Act → World → Prop}
variable {d : Nat} {ty : TypeId} {pos : String} {aft : Array Edge} {x y z : Operand} {v u : Value}
/-- a word is put -/
theorem O_put {g cap k q : Nat} {big : Bool} {cur : List Value} {A T : Hp} {xs : List Value} {ats : Array TypeId} (hd : Nat.blt d n = true) (hx : Ev e x (.slice (some ⟨g, 0, none⟩) k cap)) (hy : Ev e y (.int .u64 (q : Nat))) (hz : Ev e z (.bool big))
    (hr : HRowAt H 5 (some ⟨g, cap, cur⟩) A T) (hok : RowOk 1 (some ⟨g, cap, cur⟩) k xs) (hk : k < 1099511627776) :
    OT ro Tryz.prog S w0 n ds H e ⟨some d, .call ⟨.value (.func 19), #[x, y, .const (.int .i64 4), z], ats⟩, ty, pos, aft, none⟩
      (fun X => ∀ r' : Row, RowOk 1 (some r') (k + 4) (xs ++ u8s (wB q 4 big)) → X ((d, .slice (some ⟨r'.g, 0, none⟩) (k + 4) r'.cap) :: e) (A ++ ((r'.g, true, .cells r'.cur.toArray 5 (0, 0)) :: T))) := by
  refine O_call (xs := [x, y, .const (.int .i64 4), z]) (cap := []) (val := fun r' : Row => .slice (some ⟨r'.g, 0, none⟩) (k + 4) r'.cap) (Hf := fun r' => A ++ ((r'.g, true, .cells r'.cur.toArray 5 (0, 0)) :: T)) (good := fun r' => RowOk 1 (some r') (k + 4) (xs ++ u8s (wB q 4 big))) hd .func (.cons hx (.cons hy (.cons .const (.cons hz .nil)))) func19 rfl rfl fun w hw => ?_
  rw [hr.eq] at hw
  have h := f19_ok (A ++ T) g cap k cur xs hok q 4 big dc hk w (hw.perm List.perm_middle)
  refine h.mono ?_
  rintro r w' ⟨r', rfl, h1, h2⟩
  exact ⟨r', rfl, by rw [← putB_eq]; exact h1, h2.perm List.perm_middle.symm⟩
end

section
variable {ro : Option Nat} {w0 : World} {n : Nat} {ds : List Deferred} {H H' : Hp} {e e' : Env} {Q : Exit → Act → World → Prop}
variable {d : Nat} {ty : TypeId} {pos : String} {aft : Array Edge} {x y z : Operand} {v u : Value}
/-- a text is put to a table -/
theorem O_add {tb : Nat} {F : List ByteArray} {s : ByteArray} {rb rt ra : Row} {A T : Hp} {ats : Array TypeId} (hd : Nat.blt d n = true) (hx : Ev e x (.pointer (some ⟨tb, 0, none⟩))) (hy : Ev e y (.string s))
    (hT : TabOk F (rb, rt, ra)) (hr : HTabAt H tb (tabB F).length F.length (rb, rt, ra) A T) (hF : F.length < 1000000) (hB : (tabB F).length < 1000000000) (hs : s.size < 1000000) :
    OT ro Tryz.prog noS w0 n ds H e ⟨some d, .call ⟨.value (.func 39), #[x, y], ats⟩, ty, pos, aft, none⟩
      (fun X => ∀ p : Row × Row × Row, TabOk (addT F s) p → X ((d, .int .u64 (offs F s : Nat)) :: e) (A ++ (tabH tb (tabB (addT F s)).length (addT F s).length p ++ T))) := by
  refine O_call (xs := [x, y]) (cap := []) (val := fun _ => .int .u64 (offs F s : Nat)) (Hf := fun p => A ++ (tabH tb (tabB (addT F s)).length (addT F s).length p ++ T)) (good := fun p => TabOk (addT F s) p) hd .func (.cons hx (.cons hy .nil)) func39 rfl rfl fun w hw => ?_
  rw [hr.eq] at hw
  refine (f39_ok (A ++ T) tb F s rb rt ra hT hF hB hs w (hw.perm perm_mid)).mono ?_
  rintro r w' ⟨p, rfl, h1, h2⟩
  exact ⟨p, rfl, h1, h2.perm perm_mid.symm⟩
end

/-! ### numbers -/
theorem cvN {x : Int} (h0 : 0 ≤ x) (h1 : x < 18446744073709551616) : IntKind.u64.wrap x = ((nat x : Nat) : Int) := by
  have : x = ((nat x : Nat) : Int) := by unfold nat; omega
  conv => lhs; rw [this]
  exact wrap_u64 _ Q25
/-- a number with a sign, as one of 64 bits without -/
def u64N (x : Int) : Nat := (x % 18446744073709551616).toNat
theorem cvS (x : Int) : IntKind.u64.wrap x = ((u64N x : Nat) : Int) := by
  rw [show IntKind.u64.wrap x = x % 18446744073709551616 by simp [IntKind.wrap, IntKind.bits, IntKind.signed]]; unfold u64N; omega
theorem u64N_lt (x : Int) : u64N x < 18446744073709551616 := by unfold u64N; omega
theorem lo32_eq (x : Int) : u64N x % 2 ^ 32 = lo32 x := by unfold u64N lo32; omega
theorem hi32_eq (x : Int) : u64N x / 2 ^ 32 = hi32 x := by unfold u64N hi32; omega
theorem lo32_lt (x : Int) : lo32 x < 4294967296 := by unfold lo32; omega
theorem hi32_lt (x : Int) : hi32 x < 4294967296 := by unfold hi32; omega
theorem nat_cast {x : Int} (h : 0 ≤ x) : ((nat x : Nat) : Int) = x := by unfold nat; omega
section
variable {P : Program} {x y : Operand} {T : TypeId} {w : World}
theorem b_and_lo (v : Int) : (do eqGuard .and T x y (.int .u64 (u64N v : Nat)) (.int .u64 4294967295); binOp .and T (.int .u64 (u64N v : Nat)) (.int .u64 4294967295) : Sem Value).run P w = .ok (.int .u64 (lo32 v : Nat)) w := by
  have h := b_and_u64 (P := P) (T := T) (x := x) (y := y) (w := w) ((u64N v : Nat) : Int) 4294967295
  have e : andv ((u64N v : Nat) : Int) 4294967295 = lo32 v := by
    rw [← lo32_eq]
    unfold andv
    rw [BitVec.toNat_and, BitVec.toNat_ofInt, BitVec.toNat_ofInt]
    have h1 : (((u64N v : Nat) : Int) % ((2 ^ 64 : Nat) : Int)).toNat = u64N v := by have := u64N_lt v; omega
    have h2 : (((4294967295 : Nat) : Int) % ((2 ^ 64 : Nat) : Int)).toNat = 2 ^ 32 - 1 := by omega
    rw [h1, h2, Nat.and_two_pow_sub_one_eq_mod]
  rw [e] at h
  exact h
theorem b_shr_hi (v : Int) : (do eqGuard .shr T x y (.int .u64 (u64N v : Nat)) (.int .u64 32); binOp .shr T (.int .u64 (u64N v : Nat)) (.int .u64 32) : Sem Value).run P w = .ok (.int .u64 (hi32 v : Nat)) w := by
  have h := b_shr (P := P) (T := T) (x := x) (y := y) (w := w) .u64 (u64N v) 32 dc .u64
  rw [hi32_eq] at h
  exact h
end
end
end Go.Proofs.YtoibhfpagkdleaaGreatDoor
