/-
  CONTRACTS: the kinds of types that refer to one.
-/
import Derived.Test.YtoibhfpagkdleaaGreatDoorGn
namespace Go.Proofs.YtoibhfpagkdleaaGreatDoor
section
open Go
open Tryz
set_option maxRecDepth 100000

theorem SL_fact {ro : Option Nat} {P : Program} {S : Nat → Prop} {w0 : World} {n : Nat} {ds : List Deferred} {H : Hp} {e : Env} {Q : Exit → Act → World → Prop} {ops : Array Oper} {l : List Oper} {φ : Prop} (h : ∀ w, Holds S w0 H w → φ) (k : φ → SL ro P S w0 n ds ops H e l Q) : SL ro P S w0 n ds ops H e l Q :=
  fun a w ha hw => k (h w hw) a w ha hw
theorem push_sub {B : List Nat} {T : Hp} (hB : ∀ b ∈ B, b ∈ cbs T) (k : Nat) : ∀ b ∈ k :: B, b ∈ cbs ((k, true, .cells #[] 0 (0, 0)) :: T) := fun b h => by
  rcases List.mem_cons.1 h with rfl | h
  · exact cbs_hit
  exact cbs_skip (hB b h)
namespace Cx
/-- what a kind's code leaves behind: all but the entry by value -/
structure KPost (C : Cx) (B : List Nat) (x : St) (id : Nat) (z : St × Nat) : Prop where
  m : ∃ A, z.1.M = x.M ++ A
  k : ∃ A, z.1.K = x.K ++ A
  u : ∃ A, z.1.U = x.U ++ A
  inv : C.Inv B z.1
  mem : (id, z.2) ∈ z.1.M
  done : ∃ cs E, (z.2, cs, E) ∈ z.1.U ∧ C.DoneC z.1.M z.1.U (id - 1) cs
  fin : ∀ p ∈ z.1.M, p ∈ x.M ∨ p = (id, z.2) ∨ C.Fin z.1 p
def newH (A : List (Nat × List Value × Nat)) : Hp := A.map fun u => (u.1, true, .cells u.2.1.toArray u.2.2 (0, 0))
variable {C : Cx}
theorem KPost.mk' {B : List Nat} {x y : St} {i bk : Nat} {A : List (Nat × List Value × Nat)} (g : C.Grew { x with M := x.M ++ [(i + 1, bk)] } y) (hI : C.Inv (bk :: B) y) (hA : bk ∈ A.map (·.1)) (hd : ∃ cs E, (bk, cs, E) ∈ A ∧ C.DoneC y.M (y.U ++ A) i cs) : C.KPost B x (i + 1) ({ y with U := y.U ++ A }, bk) := by
  refine ⟨app_trans ⟨_, rfl⟩ g.m, g.k, app_trans g.u ⟨_, rfl⟩, ⟨hI.m1, hI.m2, hI.m3, hI.k, fun p hp => ?_⟩, mem_app g.m Q22, ?_, fun p hp => ?_⟩
  · simp only [List.map_append, List.mem_append]
    rcases hI.has p hp with h | h
    · rcases List.mem_cons.1 h with h | h
      · rw [h]; exact .inr (.inr hA)
      exact .inl h
    exact .inr (.inl h)
  · obtain ⟨cs, E, h1, h2⟩ := hd
    exact ⟨cs, E, List.mem_append_right _ h1, h2⟩
  rcases g.fin p hp with h | ⟨⟨cs, E, h1, h2⟩, v, h3⟩
  · rcases List.mem_append.1 h with h | h
    · exact .inl h
    exact .inr (.inl (List.mem_singleton.1 h))
  exact .inr (.inr ⟨⟨cs, E, List.mem_append_left _ h1, h2.mono (app_refl _) ⟨_, rfl⟩⟩, v, h3⟩)
theorem H_done {S : Nat → Prop} {w0 w : World} {x : St} {T : Hp} {A : List (Nat × List Value × Nat)} (hw : Holds S w0 (newH A ++ C.H x T) w) : Holds S w0 (C.H { x with U := x.U ++ A } T) w := by
  have e1 : (C.H { x with U := x.U ++ A } T) = (C.H x T) ++ oldH A := by simp [H, oldH]
  have e2 : (oldH A).map (·.1) = (newH A).map (·.1) := by simp [oldH, newH]
  rw [e1]
  have hp : (newH A ++ C.H x T).Perm (C.H x T ++ newH A) := List.perm_append_comm
  have hw' := hw.perm hp
  refine ⟨hw'.ext, ?_, fun y hy => ?_⟩
  · have := hw'.nodup
    rw [List.map_append] at this ⊢
    rw [e2]; exact this
  rcases List.mem_append.1 hy with h | h
  · exact hw'.has y (List.mem_append_left _ h)
  obtain ⟨u, hu, rfl⟩ := List.mem_map.1 h
  exact ⟨(hw'.has (u.1, true, .cells u.2.1.toArray u.2.2 (0, 0)) (List.mem_append_right _ (List.mem_map.2 ⟨u, hu, rfl⟩))).1, fun h => by cases h⟩
end Cx

theorem kd2_ok {C : Cx} (hO : CxOk C) {m : Nat} (hC : InflOk C m) {S : Nat → Prop} {w0 : World} (T : Hp) (B : List Nat) (x : St) (i b2 b3 b4 b5 b8 b12 : Nat) (v4 : Value) {ds : List Deferred} {Q : Exit → Act → World → Prop} (hi : i < C.N) (hkd : C.kd i = 2) (hM : ∀ p ∈ x.M, p.1 ≠ i + 1) (hm : C.miss x.M < m + 1) (hB : ∀ b ∈ B, b ∈ cbs T) (hI : C.Inv B x)
    (J : ∀ z : St × Nat, C.KPost B x (i + 1) z → SK S w0 1086 ds (C.H z.1 ((b5, true, .cells #[.nilIface] 40 (0, 0)) :: (b2, true, .cells #[.pointer (some ⟨C.z.d, 0, none⟩)] 76 (0, 0)) :: (b3, true, .cells #[.int .u32 ((i + 1 : Nat) : Int)] 83 (0, 0)) :: (b4, true, .cells #[C.iv (i + 1) z.2] 47 (0, 0)) :: T)) [(2, .pointer (some ⟨b2, 0, none⟩)), (3, .pointer (some ⟨b3, 0, none⟩)), (4, .pointer (some ⟨b4, 0, none⟩)), (5, .pointer (some ⟨b5, 0, none⟩))] (Q .normal)) :
    SW none Tryz.prog S w0 1086 ds (C.H x ((b5, true, .cells #[.nilIface] 40 (0, 0)) :: (b2, true, .cells #[.pointer (some ⟨C.z.d, 0, none⟩)] 76 (0, 0)) :: (b3, true, .cells #[.int .u32 ((i + 1 : Nat) : Int)] 83 (0, 0)) :: (b4, true, .cells #[v4] 47 (0, 0)) :: (b8, true, .cells #[.func (.func 73) #[] #[.pointer (some ⟨b2, 0, none⟩)]] 251 (0, 0)) :: (b12, true, .cells #[.int .u32 (C.nm i : Nat), .int .u32 (C.inf i : Nat), .int .u32 (C.sz i : Nat)] 209 (0, 0)) :: T)) [(2, .pointer (some ⟨b2, 0, none⟩)), (3, .pointer (some ⟨b3, 0, none⟩)), (4, .pointer (some ⟨b4, 0, none⟩)), (5, .pointer (some ⟨b5, 0, none⟩)), (8, .pointer (some ⟨b8, 0, none⟩)), (12, .pointer (some ⟨b12, 0, none⟩))] (sub [1, 1, 1, 1, 1, 1, 1, 1, 1, 1, 1, 1, 1, 1, 1, 1, 1, 0, 1, 1, 1, 1, 0, 1, 1, 1, 0] (cd Tryz.f63)) Q := by
 obtain ⟨r1, r2, r3, r4, r5, r6, r7⟩ := hO.rec_ i hi
 have hinf := r4.lt
 have hv8 := hO.v8 i hi
 have h31 := hO.h31
 have hlc := hO.hlc
 have hiv : ∀ b, Value.iface 105 (.pointer (some ⟨b, 0, none⟩)) = C.iv (i + 1) b := fun b => by unfold Cx.iv; rw [show C.kd (i + 1 - 1) = 2 from hkd]; rfl
 have hm2 : ∀ bk, C.miss (x.M ++ [(i + 1, bk)]) < m := fun bk => by
   have := Cx.miss_lt (C := C) (M := x.M) (id := i + 1) (b := bk) om om hM
   omega
 unfold Cx.H
 refine SR fun _ k1 => ?_
 refine Sc (O_build (pv := [(0, _)]) (r := .agg #[.nilIface]) rfl (.cons .const .nil) (fun w => run_build w _ _ _ Q13)) ?_
 refine Sc (O_box (cs := [.nilIface].toArray) rfl (.tmp .hit) rfl) ?_
 intro bk240 _
 refine SL_fact (fun w hw => hI.fresh hB hw HPick.hit Q15) (fun hfr => ?_)
 have hI1 : C.Inv (bk240 :: B) { x with M := x.M ++ [(i + 1, bk240)] } := (hI.sub (fun b h => List.mem_cons_of_mem _ h)).push om om hM hfr List.mem_cons_self
 have hB1 := push_sub hB bk240
 have hm1 := hm2 bk240
 refine Ah ?_
 refine SN k1 ?_
 refine Ek [25, 2, 3, 4, 5, 8, 12] ?_
 refine Sq fun _ k2 => ?_
 refine Zw (Zl rfl oc76 .a rfl (Zn rfl (Zf rfl underlying90 rfl sz86 (Zl rfl oc86 .a rfl (Zl rfl oc83 .a rfl (Zm rfl (Z1 246 rfl (fun e he => O_makeInterface rfl (Eh he) ⟨_, underlying105, rfl⟩) .done))))))) ?_
 rw [hiv]
 refine Sc ((O_putI (.tmp (.o rfl)) (.tmp (.o rfl)) (.tmp .hit) underlying86 underlying83 Cx.tys_int (Cx.tys_out hM) .a)) ?_
 rw [C.tys_push]
 refine SN k2 ?_
 refine Ek [25, 2, 3, 4, 5, 8, 12] ?_
 refine Sq fun _ k3 => ?_
 refine Zw (Zl rfl oc251 .a rfl (Z1 12 rfl (fun e he => O_callE (xs := [.tmp 12]) (cap := []) rfl .func (.cons (Eh he) .nil) func58 rfl rfl (fun w1 hw => f58_ok _ _ _ _ w1 (hw.at_ .a))) (Zm rfl (Zn rfl (Zf rfl underlying107 rfl sz47 .done))))) ?_
 refine Sc (O_fix hC (xs := [.tmp 249, .tmp 252]) rfl (.tmp (.o rfl)) (.cons (.tmp (.o rfl)) (.cons (.tmp .hit) .nil)) HPicks.a .a hm1 (hO.ref i hi om) (Nat.le_of_ble_eq_true rfl) hI1 hB1) ?_
 rintro ⟨y1, v1⟩ hz1
 dsimp only [Cx.H, List.cons_append]
 refine SN k3 ?_
 refine Sr ?_
 refine Mo ?_
 refine Sc (O_makeInterface rfl (.tmp .hit) ⟨_, underlying105, rfl⟩) ?_
 rw [hiv]
 refine Sc (O_store (.tmp (.o rfl)) (.tmp .hit) rfl sz47 .a .a) ?_
 refine Sn ?_
 exact fun a w ha hw => J (_, bk240) (.mk' (A := [(bk240, _, 107)]) hz1.grew hz1.inv Q22 ⟨_, _, List.mem_cons_self, .ptr om (hz1.ref.mono (app_refl _)) rfl⟩) a w (ha.weaken (Ek4 rfl rfl rfl rfl)) (Cx.H_done (A := [(bk240, _, 107)]) (hw.weaken .a))

theorem kd9_ok {C : Cx} (hO : CxOk C) {m : Nat} (hC : InflOk C m) {S : Nat → Prop} {w0 : World} (T : Hp) (B : List Nat) (x : St) (i b2 b3 b4 b5 b8 b12 : Nat) (v4 : Value) {ds : List Deferred} {Q : Exit → Act → World → Prop} (hi : i < C.N) (hkd : C.kd i = 9) (hM : ∀ p ∈ x.M, p.1 ≠ i + 1) (hm : C.miss x.M < m + 1) (hB : ∀ b ∈ B, b ∈ cbs T) (hI : C.Inv B x)
    (J : ∀ z : St × Nat, C.KPost B x (i + 1) z → SK S w0 1086 ds (C.H z.1 ((b5, true, .cells #[.nilIface] 40 (0, 0)) :: (b2, true, .cells #[.pointer (some ⟨C.z.d, 0, none⟩)] 76 (0, 0)) :: (b3, true, .cells #[.int .u32 ((i + 1 : Nat) : Int)] 83 (0, 0)) :: (b4, true, .cells #[C.iv (i + 1) z.2] 47 (0, 0)) :: T)) [(2, .pointer (some ⟨b2, 0, none⟩)), (3, .pointer (some ⟨b3, 0, none⟩)), (4, .pointer (some ⟨b4, 0, none⟩)), (5, .pointer (some ⟨b5, 0, none⟩))] (Q .normal)) :
    SW none Tryz.prog S w0 1086 ds (C.H x ((b5, true, .cells #[.nilIface] 40 (0, 0)) :: (b2, true, .cells #[.pointer (some ⟨C.z.d, 0, none⟩)] 76 (0, 0)) :: (b3, true, .cells #[.int .u32 ((i + 1 : Nat) : Int)] 83 (0, 0)) :: (b4, true, .cells #[v4] 47 (0, 0)) :: (b8, true, .cells #[.func (.func 73) #[] #[.pointer (some ⟨b2, 0, none⟩)]] 251 (0, 0)) :: (b12, true, .cells #[.int .u32 (C.nm i : Nat), .int .u32 (C.inf i : Nat), .int .u32 (C.sz i : Nat)] 209 (0, 0)) :: T)) [(2, .pointer (some ⟨b2, 0, none⟩)), (3, .pointer (some ⟨b3, 0, none⟩)), (4, .pointer (some ⟨b4, 0, none⟩)), (5, .pointer (some ⟨b5, 0, none⟩)), (8, .pointer (some ⟨b8, 0, none⟩)), (12, .pointer (some ⟨b12, 0, none⟩))] (sub [1, 1, 1, 1, 1, 1, 1, 1, 1, 1, 1, 1, 1, 1, 1, 1, 1, 0, 1, 1, 1, 1, 0, 1, 1, 1, 1, 1, 1, 1, 1, 1, 1, 1, 1, 1, 1, 1, 1, 1, 0] (cd Tryz.f63)) Q := by
 obtain ⟨r1, r2, r3, r4, r5, r6, r7⟩ := hO.rec_ i hi
 have hinf := r4.lt
 have hv8 := hO.v8 i hi
 have h31 := hO.h31
 have hlc := hO.hlc
 have hiv : ∀ b, Value.iface 129 (.pointer (some ⟨b, 0, none⟩)) = C.iv (i + 1) b := fun b => by unfold Cx.iv; rw [show C.kd (i + 1 - 1) = 9 from hkd]; rfl
 have hm2 : ∀ bk, C.miss (x.M ++ [(i + 1, bk)]) < m := fun bk => by
   have := Cx.miss_lt (C := C) (M := x.M) (id := i + 1) (b := bk) om om hM
   omega
 unfold Cx.H
 refine SR fun _ k1 => ?_
 refine Sc (O_build (pv := [(0, _)]) (r := .agg #[.nilIface]) rfl (.cons .const .nil) (fun w => run_build w _ _ _ Q13)) ?_
 refine Sc (O_box (cs := [.nilIface].toArray) rfl (.tmp .hit) rfl) ?_
 intro bk463 _
 refine SL_fact (fun w hw => hI.fresh hB hw HPick.hit Q15) (fun hfr => ?_)
 have hI1 : C.Inv (bk463 :: B) { x with M := x.M ++ [(i + 1, bk463)] } := (hI.sub (fun b h => List.mem_cons_of_mem _ h)).push om om hM hfr List.mem_cons_self
 have hB1 := push_sub hB bk463
 have hm1 := hm2 bk463
 refine Ah ?_
 refine SN k1 ?_
 refine Ek [38, 2, 3, 4, 5, 8, 12] ?_
 refine Sq fun _ k2 => ?_
 refine Zw (Zl rfl oc76 .a rfl (Zn rfl (Zf rfl underlying90 rfl sz86 (Zl rfl oc86 .a rfl (Zl rfl oc83 .a rfl (Zm rfl (Z1 469 rfl (fun e he => O_makeInterface rfl (Eh he) ⟨_, underlying129, rfl⟩) .done))))))) ?_
 rw [hiv]
 refine Sc ((O_putI (.tmp (.o rfl)) (.tmp (.o rfl)) (.tmp .hit) underlying86 underlying83 Cx.tys_int (Cx.tys_out hM) .a)) ?_
 rw [C.tys_push]
 refine SN k2 ?_
 refine Ek [38, 2, 3, 4, 5, 8, 12] ?_
 refine Sq fun _ k3 => ?_
 refine Zw (Zl rfl oc251 .a rfl (Z1 12 rfl (fun e he => O_callE (xs := [.tmp 12]) (cap := []) rfl .func (.cons (Eh he) .nil) func58 rfl rfl (fun w1 hw => f58_ok _ _ _ _ w1 (hw.at_ .a))) (Zm rfl (Zn rfl (Zf rfl underlying131 rfl sz47 .done))))) ?_
 refine Sc (O_fix hC (xs := [.tmp 472, .tmp 475]) rfl (.tmp (.o rfl)) (.cons (.tmp (.o rfl)) (.cons (.tmp .hit) .nil)) HPicks.a .a hm1 (hO.ref i hi om) (Nat.le_of_ble_eq_true rfl) hI1 hB1) ?_
 rintro ⟨y1, v1⟩ hz1
 dsimp only [Cx.H, List.cons_append]
 refine SN k3 ?_
 refine Sr ?_
 refine Mo ?_
 refine Sc (O_makeInterface rfl (.tmp .hit) ⟨_, underlying129, rfl⟩) ?_
 rw [hiv]
 refine Sc (O_store (.tmp (.o rfl)) (.tmp .hit) rfl sz47 .a .a) ?_
 refine Sn ?_
 exact fun a w ha hw => J (_, bk463) (.mk' (A := [(bk463, _, 131)]) hz1.grew hz1.inv Q22 ⟨_, _, List.mem_cons_self, .ptr om (hz1.ref.mono (app_refl _)) rfl⟩) a w (ha.weaken (Ek4 rfl rfl rfl rfl)) (Cx.H_done (A := [(bk463, _, 131)]) (hw.weaken .a))

theorem kd10_ok {C : Cx} (hO : CxOk C) {m : Nat} (hC : InflOk C m) {S : Nat → Prop} {w0 : World} (T : Hp) (B : List Nat) (x : St) (i b2 b3 b4 b5 b8 b12 : Nat) (v4 : Value) {ds : List Deferred} {Q : Exit → Act → World → Prop} (hi : i < C.N) (hkd : C.kd i = 10) (hM : ∀ p ∈ x.M, p.1 ≠ i + 1) (hm : C.miss x.M < m + 1) (hB : ∀ b ∈ B, b ∈ cbs T) (hI : C.Inv B x)
    (J : ∀ z : St × Nat, C.KPost B x (i + 1) z → SK S w0 1086 ds (C.H z.1 ((b5, true, .cells #[.nilIface] 40 (0, 0)) :: (b2, true, .cells #[.pointer (some ⟨C.z.d, 0, none⟩)] 76 (0, 0)) :: (b3, true, .cells #[.int .u32 ((i + 1 : Nat) : Int)] 83 (0, 0)) :: (b4, true, .cells #[C.iv (i + 1) z.2] 47 (0, 0)) :: T)) [(2, .pointer (some ⟨b2, 0, none⟩)), (3, .pointer (some ⟨b3, 0, none⟩)), (4, .pointer (some ⟨b4, 0, none⟩)), (5, .pointer (some ⟨b5, 0, none⟩))] (Q .normal)) :
    SW none Tryz.prog S w0 1086 ds (C.H x ((b5, true, .cells #[.nilIface] 40 (0, 0)) :: (b2, true, .cells #[.pointer (some ⟨C.z.d, 0, none⟩)] 76 (0, 0)) :: (b3, true, .cells #[.int .u32 ((i + 1 : Nat) : Int)] 83 (0, 0)) :: (b4, true, .cells #[v4] 47 (0, 0)) :: (b8, true, .cells #[.func (.func 73) #[] #[.pointer (some ⟨b2, 0, none⟩)]] 251 (0, 0)) :: (b12, true, .cells #[.int .u32 (C.nm i : Nat), .int .u32 (C.inf i : Nat), .int .u32 (C.sz i : Nat)] 209 (0, 0)) :: T)) [(2, .pointer (some ⟨b2, 0, none⟩)), (3, .pointer (some ⟨b3, 0, none⟩)), (4, .pointer (some ⟨b4, 0, none⟩)), (5, .pointer (some ⟨b5, 0, none⟩)), (8, .pointer (some ⟨b8, 0, none⟩)), (12, .pointer (some ⟨b12, 0, none⟩))] (sub [1, 1, 1, 1, 1, 1, 1, 1, 1, 1, 1, 1, 1, 1, 1, 1, 1, 0, 1, 1, 1, 1, 0, 1, 1, 1, 1, 1, 1, 1, 1, 1, 1, 1, 1, 1, 1, 1, 1, 1, 1, 1, 0] (cd Tryz.f63)) Q := by
 obtain ⟨r1, r2, r3, r4, r5, r6, r7⟩ := hO.rec_ i hi
 have hinf := r4.lt
 have hv8 := hO.v8 i hi
 have h31 := hO.h31
 have hlc := hO.hlc
 have hiv : ∀ b, Value.iface 132 (.pointer (some ⟨b, 0, none⟩)) = C.iv (i + 1) b := fun b => by unfold Cx.iv; rw [show C.kd (i + 1 - 1) = 10 from hkd]; rfl
 have hm2 : ∀ bk, C.miss (x.M ++ [(i + 1, bk)]) < m := fun bk => by
   have := Cx.miss_lt (C := C) (M := x.M) (id := i + 1) (b := bk) om om hM
   omega
 unfold Cx.H
 refine SR fun _ k1 => ?_
 refine Sc (O_build (pv := [(0, _)]) (r := .agg #[.nilIface]) rfl (.cons .const .nil) (fun w => run_build w _ _ _ Q13)) ?_
 refine Sc (O_box (cs := [.nilIface].toArray) rfl (.tmp .hit) rfl) ?_
 intro bk482 _
 refine SL_fact (fun w hw => hI.fresh hB hw HPick.hit Q15) (fun hfr => ?_)
 have hI1 : C.Inv (bk482 :: B) { x with M := x.M ++ [(i + 1, bk482)] } := (hI.sub (fun b h => List.mem_cons_of_mem _ h)).push om om hM hfr List.mem_cons_self
 have hB1 := push_sub hB bk482
 have hm1 := hm2 bk482
 refine Ah ?_
 refine SN k1 ?_
 refine Ek [39, 2, 3, 4, 5, 8, 12] ?_
 refine Sq fun _ k2 => ?_
 refine Zw (Zl rfl oc76 .a rfl (Zn rfl (Zf rfl underlying90 rfl sz86 (Zl rfl oc86 .a rfl (Zl rfl oc83 .a rfl (Zm rfl (Z1 488 rfl (fun e he => O_makeInterface rfl (Eh he) ⟨_, underlying132, rfl⟩) .done))))))) ?_
 rw [hiv]
 refine Sc ((O_putI (.tmp (.o rfl)) (.tmp (.o rfl)) (.tmp .hit) underlying86 underlying83 Cx.tys_int (Cx.tys_out hM) .a)) ?_
 rw [C.tys_push]
 refine SN k2 ?_
 refine Ek [39, 2, 3, 4, 5, 8, 12] ?_
 refine Sq fun _ k3 => ?_
 refine Zw (Zl rfl oc251 .a rfl (Z1 12 rfl (fun e he => O_callE (xs := [.tmp 12]) (cap := []) rfl .func (.cons (Eh he) .nil) func58 rfl rfl (fun w1 hw => f58_ok _ _ _ _ w1 (hw.at_ .a))) (Zm rfl (Zn rfl (Zf rfl underlying133 rfl sz47 .done))))) ?_
 refine Sc (O_fix hC (xs := [.tmp 491, .tmp 494]) rfl (.tmp (.o rfl)) (.cons (.tmp (.o rfl)) (.cons (.tmp .hit) .nil)) HPicks.a .a hm1 (hO.ref i hi om) (Nat.le_of_ble_eq_true rfl) hI1 hB1) ?_
 rintro ⟨y1, v1⟩ hz1
 dsimp only [Cx.H, List.cons_append]
 refine SN k3 ?_
 refine Sr ?_
 refine Mo ?_
 refine Sc (O_makeInterface rfl (.tmp .hit) ⟨_, underlying132, rfl⟩) ?_
 rw [hiv]
 refine Sc (O_store (.tmp (.o rfl)) (.tmp .hit) rfl sz47 .a .a) ?_
 refine Sn ?_
 exact fun a w ha hw => J (_, bk482) (.mk' (A := [(bk482, _, 133)]) hz1.grew hz1.inv Q22 ⟨_, _, List.mem_cons_self, .ptr om (hz1.ref.mono (app_refl _)) rfl⟩) a w (ha.weaken (Ek4 rfl rfl rfl rfl)) (Cx.H_done (A := [(bk482, _, 133)]) (hw.weaken .a))

theorem kd11_ok {C : Cx} (hO : CxOk C) {m : Nat} (hC : InflOk C m) {S : Nat → Prop} {w0 : World} (T : Hp) (B : List Nat) (x : St) (i b2 b3 b4 b5 b8 b12 : Nat) (v4 : Value) {ds : List Deferred} {Q : Exit → Act → World → Prop} (hi : i < C.N) (hkd : C.kd i = 11) (hM : ∀ p ∈ x.M, p.1 ≠ i + 1) (hm : C.miss x.M < m + 1) (hB : ∀ b ∈ B, b ∈ cbs T) (hI : C.Inv B x)
    (J : ∀ z : St × Nat, C.KPost B x (i + 1) z → SK S w0 1086 ds (C.H z.1 ((b5, true, .cells #[.nilIface] 40 (0, 0)) :: (b2, true, .cells #[.pointer (some ⟨C.z.d, 0, none⟩)] 76 (0, 0)) :: (b3, true, .cells #[.int .u32 ((i + 1 : Nat) : Int)] 83 (0, 0)) :: (b4, true, .cells #[C.iv (i + 1) z.2] 47 (0, 0)) :: T)) [(2, .pointer (some ⟨b2, 0, none⟩)), (3, .pointer (some ⟨b3, 0, none⟩)), (4, .pointer (some ⟨b4, 0, none⟩)), (5, .pointer (some ⟨b5, 0, none⟩))] (Q .normal)) :
    SW none Tryz.prog S w0 1086 ds (C.H x ((b5, true, .cells #[.nilIface] 40 (0, 0)) :: (b2, true, .cells #[.pointer (some ⟨C.z.d, 0, none⟩)] 76 (0, 0)) :: (b3, true, .cells #[.int .u32 ((i + 1 : Nat) : Int)] 83 (0, 0)) :: (b4, true, .cells #[v4] 47 (0, 0)) :: (b8, true, .cells #[.func (.func 73) #[] #[.pointer (some ⟨b2, 0, none⟩)]] 251 (0, 0)) :: (b12, true, .cells #[.int .u32 (C.nm i : Nat), .int .u32 (C.inf i : Nat), .int .u32 (C.sz i : Nat)] 209 (0, 0)) :: T)) [(2, .pointer (some ⟨b2, 0, none⟩)), (3, .pointer (some ⟨b3, 0, none⟩)), (4, .pointer (some ⟨b4, 0, none⟩)), (5, .pointer (some ⟨b5, 0, none⟩)), (8, .pointer (some ⟨b8, 0, none⟩)), (12, .pointer (some ⟨b12, 0, none⟩))] (sub [1, 1, 1, 1, 1, 1, 1, 1, 1, 1, 1, 1, 1, 1, 1, 1, 1, 0, 1, 1, 1, 1, 0, 1, 1, 1, 1, 1, 1, 1, 1, 1, 1, 1, 1, 1, 1, 1, 1, 1, 1, 1, 1, 1, 0] (cd Tryz.f63)) Q := by
 obtain ⟨r1, r2, r3, r4, r5, r6, r7⟩ := hO.rec_ i hi
 have hinf := r4.lt
 have hv8 := hO.v8 i hi
 have h31 := hO.h31
 have hlc := hO.hlc
 have hiv : ∀ b, Value.iface 134 (.pointer (some ⟨b, 0, none⟩)) = C.iv (i + 1) b := fun b => by unfold Cx.iv; rw [show C.kd (i + 1 - 1) = 11 from hkd]; rfl
 have hm2 : ∀ bk, C.miss (x.M ++ [(i + 1, bk)]) < m := fun bk => by
   have := Cx.miss_lt (C := C) (M := x.M) (id := i + 1) (b := bk) om om hM
   omega
 unfold Cx.H
 refine SR fun _ k1 => ?_
 refine Sc (O_build (pv := [(0, _)]) (r := .agg #[.nilIface]) rfl (.cons .const .nil) (fun w => run_build w _ _ _ Q13)) ?_
 refine Sc (O_box (cs := [.nilIface].toArray) rfl (.tmp .hit) rfl) ?_
 intro bk501 _
 refine SL_fact (fun w hw => hI.fresh hB hw HPick.hit Q15) (fun hfr => ?_)
 have hI1 : C.Inv (bk501 :: B) { x with M := x.M ++ [(i + 1, bk501)] } := (hI.sub (fun b h => List.mem_cons_of_mem _ h)).push om om hM hfr List.mem_cons_self
 have hB1 := push_sub hB bk501
 have hm1 := hm2 bk501
 refine Ah ?_
 refine SN k1 ?_
 refine Ek [40, 2, 3, 4, 5, 8, 12] ?_
 refine Sq fun _ k2 => ?_
 refine Zw (Zl rfl oc76 .a rfl (Zn rfl (Zf rfl underlying90 rfl sz86 (Zl rfl oc86 .a rfl (Zl rfl oc83 .a rfl (Zm rfl (Z1 507 rfl (fun e he => O_makeInterface rfl (Eh he) ⟨_, underlying134, rfl⟩) .done))))))) ?_
 rw [hiv]
 refine Sc ((O_putI (.tmp (.o rfl)) (.tmp (.o rfl)) (.tmp .hit) underlying86 underlying83 Cx.tys_int (Cx.tys_out hM) .a)) ?_
 rw [C.tys_push]
 refine SN k2 ?_
 refine Ek [40, 2, 3, 4, 5, 8, 12] ?_
 refine Sq fun _ k3 => ?_
 refine Zw (Zl rfl oc251 .a rfl (Z1 12 rfl (fun e he => O_callE (xs := [.tmp 12]) (cap := []) rfl .func (.cons (Eh he) .nil) func58 rfl rfl (fun w1 hw => f58_ok _ _ _ _ w1 (hw.at_ .a))) (Zm rfl (Zn rfl (Zf rfl underlying135 rfl sz47 .done))))) ?_
 refine Sc (O_fix hC (xs := [.tmp 510, .tmp 513]) rfl (.tmp (.o rfl)) (.cons (.tmp (.o rfl)) (.cons (.tmp .hit) .nil)) HPicks.a .a hm1 (hO.ref i hi om) (Nat.le_of_ble_eq_true rfl) hI1 hB1) ?_
 rintro ⟨y1, v1⟩ hz1
 dsimp only [Cx.H, List.cons_append]
 refine SN k3 ?_
 refine Sr ?_
 refine Mo ?_
 refine Sc (O_makeInterface rfl (.tmp .hit) ⟨_, underlying134, rfl⟩) ?_
 rw [hiv]
 refine Sc (O_store (.tmp (.o rfl)) (.tmp .hit) rfl sz47 .a .a) ?_
 refine Sn ?_
 exact fun a w ha hw => J (_, bk501) (.mk' (A := [(bk501, _, 135)]) hz1.grew hz1.inv Q22 ⟨_, _, List.mem_cons_self, .ptr om (hz1.ref.mono (app_refl _)) rfl⟩) a w (ha.weaken (Ek4 rfl rfl rfl rfl)) (Cx.H_done (A := [(bk501, _, 135)]) (hw.weaken .a))

theorem kd8_ok {C : Cx} (hO : CxOk C) {m : Nat} (hC : InflOk C m) {S : Nat → Prop} {w0 : World} (T : Hp) (B : List Nat) (x : St) (i b2 b3 b4 b5 b8 b12 : Nat) (v4 : Value) {ds : List Deferred} {Q : Exit → Act → World → Prop} (hi : i < C.N) (hkd : C.kd i = 8) (hM : ∀ p ∈ x.M, p.1 ≠ i + 1) (hm : C.miss x.M < m + 1) (hB : ∀ b ∈ B, b ∈ cbs T) (hI : C.Inv B x)
    (J : ∀ z : St × Nat, C.KPost B x (i + 1) z → SK S w0 1086 ds (C.H z.1 ((b5, true, .cells #[.nilIface] 40 (0, 0)) :: (b2, true, .cells #[.pointer (some ⟨C.z.d, 0, none⟩)] 76 (0, 0)) :: (b3, true, .cells #[.int .u32 ((i + 1 : Nat) : Int)] 83 (0, 0)) :: (b4, true, .cells #[C.iv (i + 1) z.2] 47 (0, 0)) :: T)) [(2, .pointer (some ⟨b2, 0, none⟩)), (3, .pointer (some ⟨b3, 0, none⟩)), (4, .pointer (some ⟨b4, 0, none⟩)), (5, .pointer (some ⟨b5, 0, none⟩))] (Q .normal)) :
    SW none Tryz.prog S w0 1086 ds (C.H x ((b5, true, .cells #[.nilIface] 40 (0, 0)) :: (b2, true, .cells #[.pointer (some ⟨C.z.d, 0, none⟩)] 76 (0, 0)) :: (b3, true, .cells #[.int .u32 ((i + 1 : Nat) : Int)] 83 (0, 0)) :: (b4, true, .cells #[v4] 47 (0, 0)) :: (b8, true, .cells #[.func (.func 73) #[] #[.pointer (some ⟨b2, 0, none⟩)]] 251 (0, 0)) :: (b12, true, .cells #[.int .u32 (C.nm i : Nat), .int .u32 (C.inf i : Nat), .int .u32 (C.sz i : Nat)] 209 (0, 0)) :: T)) [(2, .pointer (some ⟨b2, 0, none⟩)), (3, .pointer (some ⟨b3, 0, none⟩)), (4, .pointer (some ⟨b4, 0, none⟩)), (5, .pointer (some ⟨b5, 0, none⟩)), (8, .pointer (some ⟨b8, 0, none⟩)), (12, .pointer (some ⟨b12, 0, none⟩)), (20, C.sv (C.nm i))] (sub [1, 1, 1, 1, 1, 1, 1, 1, 1, 1, 1, 1, 1, 1, 1, 1, 1, 0, 1, 1, 1, 1, 0, 1, 1, 1, 1, 1, 1, 1, 1, 1, 1, 1, 1, 1, 1, 1, 0] (cd Tryz.f63)) Q := by
 obtain ⟨r1, r2, r3, r4, r5, r6, r7⟩ := hO.rec_ i hi
 have hinf := r4.lt
 have hv8 := hO.v8 i hi
 have h31 := hO.h31
 have hlc := hO.hlc
 have hiv : ∀ b, Value.iface 126 (.pointer (some ⟨b, 0, none⟩)) = C.iv (i + 1) b := fun b => by unfold Cx.iv; rw [show C.kd (i + 1 - 1) = 8 from hkd]; rfl
 have hm2 : ∀ bk, C.miss (x.M ++ [(i + 1, bk)]) < m := fun bk => by
   have := Cx.miss_lt (C := C) (M := x.M) (id := i + 1) (b := bk) om om hM
   omega
 unfold Cx.H
 refine SR fun _ k1 => ?_
 refine Mo ?_
 refine Sc (O_build (pv := [(0, _), (1, _), (2, _)]) (r := .agg #[C.sv (C.nm i), .nilIface, .slice none 0 0]) rfl (.cons (.tmp .hit) (.cons .const (.cons .const .nil))) (fun w => run_build w _ _ _ Q13)) ?_
 refine Sc (O_box (cs := [C.sv (C.nm i), .nilIface, .slice none 0 0].toArray) rfl (.tmp .hit) rfl) ?_
 intro bk444 _
 refine SL_fact (fun w hw => hI.fresh hB hw HPick.hit Q15) (fun hfr => ?_)
 have hI1 : C.Inv (bk444 :: B) { x with M := x.M ++ [(i + 1, bk444)] } := (hI.sub (fun b h => List.mem_cons_of_mem _ h)).push om om hM hfr List.mem_cons_self
 have hB1 := push_sub hB bk444
 have hm1 := hm2 bk444
 refine Ah ?_
 refine SN k1 ?_
 refine Ek [37, 2, 3, 4, 5, 8, 12] ?_
 refine Sq fun _ k2 => ?_
 refine Zw (Zl rfl oc76 .a rfl (Zn rfl (Zf rfl underlying90 rfl sz86 (Zl rfl oc86 .a rfl (Zl rfl oc83 .a rfl (Zm rfl (Z1 450 rfl (fun e he => O_makeInterface rfl (Eh he) ⟨_, underlying126, rfl⟩) .done))))))) ?_
 rw [hiv]
 refine Sc ((O_putI (.tmp (.o rfl)) (.tmp (.o rfl)) (.tmp .hit) underlying86 underlying83 Cx.tys_int (Cx.tys_out hM) .a)) ?_
 rw [C.tys_push]
 refine SN k2 ?_
 refine Ek [37, 2, 3, 4, 5, 8, 12] ?_
 refine Sq fun _ k3 => ?_
 refine Zw (Zl rfl oc251 .a rfl (Z1 12 rfl (fun e he => O_callE (xs := [.tmp 12]) (cap := []) rfl .func (.cons (Eh he) .nil) func58 rfl rfl (fun w1 hw => f58_ok _ _ _ _ w1 (hw.at_ .a))) (Zm rfl (Zn rfl (Zf rfl underlying128 rfl sz47 .done))))) ?_
 refine Sc (O_fix hC (xs := [.tmp 453, .tmp 456]) rfl (.tmp (.o rfl)) (.cons (.tmp (.o rfl)) (.cons (.tmp .hit) .nil)) HPicks.a .a hm1 (hO.ref i hi om) (Nat.le_of_ble_eq_true rfl) hI1 hB1) ?_
 rintro ⟨y1, v1⟩ hz1
 dsimp only [Cx.H, List.cons_append]
 refine SN k3 ?_
 refine Sr ?_
 refine Mo ?_
 refine Sc (O_makeInterface rfl (.tmp .hit) ⟨_, underlying126, rfl⟩) ?_
 rw [hiv]
 refine Sc (O_store (.tmp (.o rfl)) (.tmp .hit) rfl sz47 .a .a) ?_
 refine Sn ?_
 exact fun a w ha hw => J (_, bk444) (.mk' (A := [(bk444, _, 128)]) hz1.grew hz1.inv Q22 ⟨_, _, List.mem_cons_self, .tdef hkd (hz1.ref.mono (app_refl _)) rfl⟩) a w (ha.weaken (Ek4 rfl rfl rfl rfl)) (Cx.H_done (A := [(bk444, _, 128)]) (hw.weaken .a))

theorem kd12_ok {C : Cx} (hO : CxOk C) {m : Nat} (hC : InflOk C m) {S : Nat → Prop} {w0 : World} (T : Hp) (B : List Nat) (x : St) (i b2 b3 b4 b5 b8 b12 : Nat) (v4 : Value) {ds : List Deferred} {Q : Exit → Act → World → Prop} (hi : i < C.N) (hkd : C.kd i = 12) (hM : ∀ p ∈ x.M, p.1 ≠ i + 1) (hm : C.miss x.M < m + 1) (hB : ∀ b ∈ B, b ∈ cbs T) (hI : C.Inv B x)
    (J : ∀ z : St × Nat, C.KPost B x (i + 1) z → SK S w0 1086 ds (C.H z.1 ((b5, true, .cells #[.nilIface] 40 (0, 0)) :: (b2, true, .cells #[.pointer (some ⟨C.z.d, 0, none⟩)] 76 (0, 0)) :: (b3, true, .cells #[.int .u32 ((i + 1 : Nat) : Int)] 83 (0, 0)) :: (b4, true, .cells #[C.iv (i + 1) z.2] 47 (0, 0)) :: T)) [(2, .pointer (some ⟨b2, 0, none⟩)), (3, .pointer (some ⟨b3, 0, none⟩)), (4, .pointer (some ⟨b4, 0, none⟩)), (5, .pointer (some ⟨b5, 0, none⟩))] (Q .normal)) :
    SW none Tryz.prog S w0 1086 ds (C.H x ((b5, true, .cells #[.nilIface] 40 (0, 0)) :: (b2, true, .cells #[.pointer (some ⟨C.z.d, 0, none⟩)] 76 (0, 0)) :: (b3, true, .cells #[.int .u32 ((i + 1 : Nat) : Int)] 83 (0, 0)) :: (b4, true, .cells #[v4] 47 (0, 0)) :: (b8, true, .cells #[.func (.func 73) #[] #[.pointer (some ⟨b2, 0, none⟩)]] 251 (0, 0)) :: (b12, true, .cells #[.int .u32 (C.nm i : Nat), .int .u32 (C.inf i : Nat), .int .u32 (C.sz i : Nat)] 209 (0, 0)) :: T)) [(2, .pointer (some ⟨b2, 0, none⟩)), (3, .pointer (some ⟨b3, 0, none⟩)), (4, .pointer (some ⟨b4, 0, none⟩)), (5, .pointer (some ⟨b5, 0, none⟩)), (8, .pointer (some ⟨b8, 0, none⟩)), (12, .pointer (some ⟨b12, 0, none⟩)), (20, C.sv (C.nm i))] (sub [1, 1, 1, 1, 1, 1, 1, 1, 1, 1, 1, 1, 1, 1, 1, 1, 1, 0, 1, 1, 1, 1, 0, 1, 1, 1, 1, 1, 1, 1, 1, 1, 1, 1, 1, 1, 1, 1, 1, 1, 1, 1, 1, 1, 1, 1, 0] (cd Tryz.f63)) Q := by
 obtain ⟨r1, r2, r3, r4, r5, r6, r7⟩ := hO.rec_ i hi
 have hinf := r4.lt
 have hv8 := hO.v8 i hi
 have h31 := hO.h31
 have hlc := hO.hlc
 have hiv : ∀ b, Value.iface 136 (.pointer (some ⟨b, 0, none⟩)) = C.iv (i + 1) b := fun b => by unfold Cx.iv; rw [show C.kd (i + 1 - 1) = 12 from hkd]; rfl
 have hm2 : ∀ bk, C.miss (x.M ++ [(i + 1, bk)]) < m := fun bk => by
   have := Cx.miss_lt (C := C) (M := x.M) (id := i + 1) (b := bk) om om hM
   omega
 unfold Cx.H
 refine SR fun _ k1 => ?_
 refine Mo ?_
 refine Sc (O_callE (xs := [.tmp 12]) (cap := []) rfl .func (.cons (.tmp (.o rfl)) .nil) func89 rfl rfl (fun w1 hw => f89_ok _ _ _ _ hinf w1 (hw.at_ .a))) ?_
 refine Sc (O_build (pv := [(0, _), (1, _), (2, _), (3, _), (4, _)]) (r := .agg #[C.sv (C.nm i), .nilIface, .int .i64 (C.vl i : Nat), .slice none 0 0, .slice none 0 0]) rfl (.cons (.tmp (.o rfl)) (.cons .const (.cons (.tmp .hit) (.cons .const (.cons .const .nil))))) (fun w => run_build w _ _ _ Q13)) ?_
 refine Sc (O_box (cs := [C.sv (C.nm i), .nilIface, .int .i64 (C.vl i : Nat), .slice none 0 0, .slice none 0 0].toArray) rfl (.tmp .hit) rfl) ?_
 intro bk522 _
 refine SL_fact (fun w hw => hI.fresh hB hw HPick.hit Q15) (fun hfr => ?_)
 have hI1 : C.Inv (bk522 :: B) { x with M := x.M ++ [(i + 1, bk522)] } := (hI.sub (fun b h => List.mem_cons_of_mem _ h)).push om om hM hfr List.mem_cons_self
 have hB1 := push_sub hB bk522
 have hm1 := hm2 bk522
 refine Ah ?_
 refine SN k1 ?_
 refine Ek [41, 2, 3, 4, 5, 8, 12] ?_
 refine Sq fun _ k2 => ?_
 refine Zw (Zl rfl oc76 .a rfl (Zn rfl (Zf rfl underlying90 rfl sz86 (Zl rfl oc86 .a rfl (Zl rfl oc83 .a rfl (Zm rfl (Z1 528 rfl (fun e he => O_makeInterface rfl (Eh he) ⟨_, underlying136, rfl⟩) .done))))))) ?_
 rw [hiv]
 refine Sc ((O_putI (.tmp (.o rfl)) (.tmp (.o rfl)) (.tmp .hit) underlying86 underlying83 Cx.tys_int (Cx.tys_out hM) .a)) ?_
 rw [C.tys_push]
 refine SN k2 ?_
 refine Ek [41, 2, 3, 4, 5, 8, 12] ?_
 refine Sq fun _ k3 => ?_
 refine Zw (Zl rfl oc251 .a rfl (Z1 12 rfl (fun e he => O_callE (xs := [.tmp 12]) (cap := []) rfl .func (.cons (Eh he) .nil) func58 rfl rfl (fun w1 hw => f58_ok _ _ _ _ w1 (hw.at_ .a))) (Zm rfl (Zn rfl (Zf rfl underlying140 rfl sz47 .done))))) ?_
 refine Sc (O_fix hC (xs := [.tmp 531, .tmp 534]) rfl (.tmp (.o rfl)) (.cons (.tmp (.o rfl)) (.cons (.tmp .hit) .nil)) HPicks.a .a hm1 (hO.ref i hi om) (Nat.le_of_ble_eq_true rfl) hI1 hB1) ?_
 rintro ⟨y1, v1⟩ hz1
 dsimp only [Cx.H, List.cons_append]
 refine SN k3 ?_
 refine Sr ?_
 refine Mo ?_
 refine Sc (O_makeInterface rfl (.tmp .hit) ⟨_, underlying136, rfl⟩) ?_
 rw [hiv]
 refine Sc (O_store (.tmp (.o rfl)) (.tmp .hit) rfl sz47 .a .a) ?_
 refine Sn ?_
 exact fun a w ha hw => J (_, bk522) (.mk' (A := [(bk522, _, 140)]) hz1.grew hz1.inv Q22 ⟨_, _, List.mem_cons_self, .func hkd (hz1.ref.mono (app_refl _)) rfl⟩) a w (ha.weaken (Ek4 rfl rfl rfl rfl)) (Cx.H_done (A := [(bk522, _, 140)]) (hw.weaken .a))

theorem kd18_ok {C : Cx} (hO : CxOk C) {m : Nat} (hC : InflOk C m) {S : Nat → Prop} {w0 : World} (T : Hp) (B : List Nat) (x : St) (i b2 b3 b4 b5 b8 b12 : Nat) (v4 : Value) {ds : List Deferred} {Q : Exit → Act → World → Prop} (hi : i < C.N) (hkd : C.kd i = 18) (hM : ∀ p ∈ x.M, p.1 ≠ i + 1) (hm : C.miss x.M < m + 1) (hB : ∀ b ∈ B, b ∈ cbs T) (hI : C.Inv B x)
    (J : ∀ z : St × Nat, C.KPost B x (i + 1) z → SK S w0 1086 ds (C.H z.1 ((b5, true, .cells #[.nilIface] 40 (0, 0)) :: (b2, true, .cells #[.pointer (some ⟨C.z.d, 0, none⟩)] 76 (0, 0)) :: (b3, true, .cells #[.int .u32 ((i + 1 : Nat) : Int)] 83 (0, 0)) :: (b4, true, .cells #[C.iv (i + 1) z.2] 47 (0, 0)) :: T)) [(2, .pointer (some ⟨b2, 0, none⟩)), (3, .pointer (some ⟨b3, 0, none⟩)), (4, .pointer (some ⟨b4, 0, none⟩)), (5, .pointer (some ⟨b5, 0, none⟩))] (Q .normal)) :
    SW none Tryz.prog S w0 1086 ds (C.H x ((b5, true, .cells #[.nilIface] 40 (0, 0)) :: (b2, true, .cells #[.pointer (some ⟨C.z.d, 0, none⟩)] 76 (0, 0)) :: (b3, true, .cells #[.int .u32 ((i + 1 : Nat) : Int)] 83 (0, 0)) :: (b4, true, .cells #[v4] 47 (0, 0)) :: (b8, true, .cells #[.func (.func 73) #[] #[.pointer (some ⟨b2, 0, none⟩)]] 251 (0, 0)) :: (b12, true, .cells #[.int .u32 (C.nm i : Nat), .int .u32 (C.inf i : Nat), .int .u32 (C.sz i : Nat)] 209 (0, 0)) :: T)) [(2, .pointer (some ⟨b2, 0, none⟩)), (3, .pointer (some ⟨b3, 0, none⟩)), (4, .pointer (some ⟨b4, 0, none⟩)), (5, .pointer (some ⟨b5, 0, none⟩)), (8, .pointer (some ⟨b8, 0, none⟩)), (12, .pointer (some ⟨b12, 0, none⟩)), (20, C.sv (C.nm i))] (sub [1, 1, 1, 1, 1, 1, 1, 1, 1, 1, 1, 1, 1, 1, 1, 1, 1, 0, 1, 1, 1, 1, 0, 1, 1, 1, 1, 1, 1, 1, 1, 1, 1, 1, 1, 1, 1, 1, 1, 1, 1, 1, 1, 1, 1, 1, 1, 1, 1, 1, 1, 1, 1, 1, 1, 1, 1, 1, 0] (cd Tryz.f63)) Q := by
 obtain ⟨r1, r2, r3, r4, r5, r6, r7⟩ := hO.rec_ i hi
 have hinf := r4.lt
 have hv8 := hO.v8 i hi
 have h31 := hO.h31
 have hlc := hO.hlc
 have hiv : ∀ b, Value.iface 160 (.pointer (some ⟨b, 0, none⟩)) = C.iv (i + 1) b := fun b => by unfold Cx.iv; rw [show C.kd (i + 1 - 1) = 18 from hkd]; rfl
 have hm2 : ∀ bk, C.miss (x.M ++ [(i + 1, bk)]) < m := fun bk => by
   have := Cx.miss_lt (C := C) (M := x.M) (id := i + 1) (b := bk) om om hM
   omega
 unfold Cx.H
 refine SR fun _ k1 => ?_
 refine Mo ?_
 refine Sc (O_build (pv := [(0, _), (1, _)]) (r := .agg #[.nilIface, C.sv (C.nm i)]) rfl (.cons .const (.cons (.tmp .hit) .nil)) (fun w => run_build w _ _ _ Q13)) ?_
 refine Sc (O_box (cs := [.nilIface, C.sv (C.nm i)].toArray) rfl (.tmp .hit) rfl) ?_
 intro bk754 _
 refine SL_fact (fun w hw => hI.fresh hB hw HPick.hit Q15) (fun hfr => ?_)
 have hI1 : C.Inv (bk754 :: B) { x with M := x.M ++ [(i + 1, bk754)] } := (hI.sub (fun b h => List.mem_cons_of_mem _ h)).push om om hM hfr List.mem_cons_self
 have hB1 := push_sub hB bk754
 have hm1 := hm2 bk754
 refine Ah ?_
 refine SN k1 ?_
 refine Ek [63, 2, 3, 4, 5, 8, 12] ?_
 refine Sq fun _ k2 => ?_
 refine Zw (Zl rfl oc76 .a rfl (Zn rfl (Zf rfl underlying90 rfl sz86 (Zl rfl oc86 .a rfl (Zl rfl oc83 .a rfl (Zm rfl (Z1 760 rfl (fun e he => O_makeInterface rfl (Eh he) ⟨_, underlying160, rfl⟩) .done))))))) ?_
 rw [hiv]
 refine Sc ((O_putI (.tmp (.o rfl)) (.tmp (.o rfl)) (.tmp .hit) underlying86 underlying83 Cx.tys_int (Cx.tys_out hM) .a)) ?_
 rw [C.tys_push]
 refine SN k2 ?_
 refine Ek [63, 2, 3, 4, 5, 8, 12] ?_
 refine Sq fun _ k3 => ?_
 refine Zw (Zl rfl oc251 .a rfl (Z1 12 rfl (fun e he => O_callE (xs := [.tmp 12]) (cap := []) rfl .func (.cons (Eh he) .nil) func58 rfl rfl (fun w1 hw => f58_ok _ _ _ _ w1 (hw.at_ .a))) (Zm rfl (Zn rfl (Zf rfl underlying162 rfl sz47 .done))))) ?_
 refine Sc (O_fix hC (xs := [.tmp 763, .tmp 766]) rfl (.tmp (.o rfl)) (.cons (.tmp (.o rfl)) (.cons (.tmp .hit) .nil)) HPicks.a .a hm1 (hO.ref i hi om) (Nat.le_of_ble_eq_true rfl) hI1 hB1) ?_
 rintro ⟨y1, v1⟩ hz1
 dsimp only [Cx.H, List.cons_append]
 refine SN k3 ?_
 refine Sr ?_
 refine Mo ?_
 refine Sc (O_makeInterface rfl (.tmp .hit) ⟨_, underlying160, rfl⟩) ?_
 rw [hiv]
 refine Sc (O_store (.tmp (.o rfl)) (.tmp .hit) rfl sz47 .a .a) ?_
 refine Sn ?_
 exact fun a w ha hw => J (_, bk754) (.mk' (A := [(bk754, _, 162)]) hz1.grew hz1.inv Q22 ⟨_, _, List.mem_cons_self, .tag hkd (hz1.ref.mono (app_refl _)) rfl⟩) a w (ha.weaken (Ek4 rfl rfl rfl rfl)) (Cx.H_done (A := [(bk754, _, 162)]) (hw.weaken .a))

theorem kd14_ok {C : Cx} (hO : CxOk C) {m : Nat} (hC : InflOk C m) {S : Nat → Prop} {w0 : World} (T : Hp) (B : List Nat) (x : St) (i b2 b3 b4 b5 b8 b12 b15 o l c : Nat) (v4 : Value) {ds : List Deferred} {Q : Exit → Act → World → Prop} (hi : i < C.N) (hkd : C.kd i = 14) (hM : ∀ p ∈ x.M, p.1 ≠ i + 1) (hm : C.miss x.M < m + 1) (hB : ∀ b ∈ B, b ∈ cbs T) (hI : C.Inv B x) (ho : o = C.off + C.pos i + 12) (hl : l = C.len - C.pos i - 12) (hc : c = C.cap - C.pos i - 12)
    (J : ∀ z : St × Nat, C.KPost B x (i + 1) z → SK S w0 1086 ds (C.H z.1 ((b5, true, .cells #[.nilIface] 40 (0, 0)) :: (b2, true, .cells #[.pointer (some ⟨C.z.d, 0, none⟩)] 76 (0, 0)) :: (b3, true, .cells #[.int .u32 ((i + 1 : Nat) : Int)] 83 (0, 0)) :: (b4, true, .cells #[C.iv (i + 1) z.2] 47 (0, 0)) :: T)) [(2, .pointer (some ⟨b2, 0, none⟩)), (3, .pointer (some ⟨b3, 0, none⟩)), (4, .pointer (some ⟨b4, 0, none⟩)), (5, .pointer (some ⟨b5, 0, none⟩))] (Q .normal)) :
    SW none Tryz.prog S w0 1086 ds (C.H x ((b5, true, .cells #[.nilIface] 40 (0, 0)) :: (b2, true, .cells #[.pointer (some ⟨C.z.d, 0, none⟩)] 76 (0, 0)) :: (b3, true, .cells #[.int .u32 ((i + 1 : Nat) : Int)] 83 (0, 0)) :: (b4, true, .cells #[v4] 47 (0, 0)) :: (b8, true, .cells #[.func (.func 73) #[] #[.pointer (some ⟨b2, 0, none⟩)]] 251 (0, 0)) :: (b12, true, .cells #[.int .u32 (C.nm i : Nat), .int .u32 (C.inf i : Nat), .int .u32 (C.sz i : Nat)] 209 (0, 0)) :: (b15, true, .cells #[.int .u32 0] 268 (0, 0)) :: T)) [(2, .pointer (some ⟨b2, 0, none⟩)), (3, .pointer (some ⟨b3, 0, none⟩)), (4, .pointer (some ⟨b4, 0, none⟩)), (5, .pointer (some ⟨b5, 0, none⟩)), (8, .pointer (some ⟨b8, 0, none⟩)), (12, .pointer (some ⟨b12, 0, none⟩)), (15, .pointer (some ⟨b15, 0, none⟩)), (17, .slice (some ⟨C.b, o, none⟩) l c), (20, C.sv (C.nm i))] (sub [1, 1, 1, 1, 1, 1, 1, 1, 1, 1, 1, 1, 1, 1, 1, 1, 1, 0, 1, 1, 1, 1, 0, 1, 1, 1, 1, 1, 1, 1, 1, 1, 1, 1, 1, 1, 1, 1, 1, 1, 1, 1, 1, 1, 1, 1, 1, 1, 1, 1, 0] (cd Tryz.f63)) Q := by
 obtain ⟨r1, r2, r3, r4, r5, r6, r7⟩ := hO.rec_ i hi
 have hinf := r4.lt
 have hv8 := hO.v8 i hi
 have h31 := hO.h31
 have hlc := hO.hlc
 have hiv : ∀ b, Value.iface 147 (.pointer (some ⟨b, 0, none⟩)) = C.iv (i + 1) b := fun b => by unfold Cx.iv; rw [show C.kd (i + 1 - 1) = 14 from hkd]; rfl
 have hm2 : ∀ bk, C.miss (x.M ++ [(i + 1, bk)]) < m := fun bk => by
   have := Cx.miss_lt (C := C) (M := x.M) (id := i + 1) (b := bk) om om hM
   omega
 have hdl : dlen (C.kd i) (C.vl i) = 4 := by rw [hkd]; rfl
 have hw0 : W4 C.o (o + 0) C.big (C.ex i (0)) := by
   have q := hO.ex i hi (0) Q31
   rw [show o + 0 = C.off + C.pos i + 12 + 4 * (0) by omega]
   exact q
 unfold Cx.H
 refine Sq fun _ k1 => ?_
 refine SR fun _ k2 => ?_
 refine Mo ?_
 refine Sc (Ola oc76) ?_
 refine Sc (O_nilCheck rfl (.tmp .hit)) ?_
 refine Sc (Ofa underlying90 sz80) ?_
 refine Sc (Ola oc80) ?_
 refine Sc (O_callM (xs := [.tmp 15, .tmp 609, .tmp 613]) (cap := []) rfl .func (.cons (.tmp (.o rfl)) (.cons (.tmp (.o rfl)) (.cons (.tmp .hit) .nil))) func91 rfl rfl .a (fun w1 hw => f91_ok C.big b15 C.b o l c C.o 268 _ (C.ex i 0) (hw.ne_pick HPick.a .a) om om hw0 w1 (hw.at_ .a) (hw.at_ .a))) ?_
 refine Mh ?_
 refine Sc Oex ?_
 refine Sc Oex ?_
 refine Ao ?_
 refine Ao ?_
 refine SN k2 ?_
 refine Ek [50, 2, 3, 4, 5, 8, 12, 15, 20] ?_
 refine SR fun _ k3 => ?_
 refine Mh ?_
 refine Sc (O_binOp rfl (.tmp .hit) .const (r := .bool false) (fun _ => rfl)) ?_
 refine SN k3 ?_
 refine Fh ?_
 refine SS k1 ?_
 refine Ek [2, 3, 4, 5, 8, 12, 15, 20] ?_
 refine SR fun _ k4 => ?_
 refine Mo ?_
 refine Sc (Ofa underlying268 sz73) ?_
 refine Sc (Ola oc73) ?_
 refine Sc (O_convert rfl (.tmp .hit) (r := .int .i64 (C.ex i 0 : Nat)) (fun _ => c_int ⟨_, underlying73⟩ underlying148 (wrap_i64n _ (by have := hw0.lt; omega)))) ?_
 refine Sc (O_build (pv := [(0, _), (1, _), (2, _), (3, _)]) (r := .agg #[C.sv (C.nm i), .nilIface, .int .i64 (C.ex i 0 : Nat), .slice none 0 0]) rfl (.cons (.tmp (.o rfl)) (.cons .const (.cons (.tmp .hit) (.cons .const .nil)))) (fun w => run_build w _ _ _ Q13)) ?_
 refine Sc (O_box (cs := [C.sv (C.nm i), .nilIface, .int .i64 (C.ex i 0 : Nat), .slice none 0 0].toArray) rfl (.tmp .hit) rfl) ?_
 intro bk625 _
 refine SL_fact (fun w hw => hI.fresh hB hw HPick.hit Q15) (fun hfr => ?_)
 have hI1 : C.Inv (bk625 :: B) { x with M := x.M ++ [(i + 1, bk625)] } := (hI.sub (fun b h => List.mem_cons_of_mem _ h)).push om om hM hfr List.mem_cons_self
 have hB1 := push_sub hB bk625
 have hm1 := hm2 bk625
 refine Ah ?_
 refine SN k4 ?_
 refine Ek [51, 2, 3, 4, 5, 8, 12] ?_
 refine Sq fun _ k5 => ?_
 refine Zw (Zl rfl oc76 .a rfl (Zn rfl (Zf rfl underlying90 rfl sz86 (Zl rfl oc86 .a rfl (Zl rfl oc83 .a rfl (Zm rfl (Z1 631 rfl (fun e he => O_makeInterface rfl (Eh he) ⟨_, underlying147, rfl⟩) .done))))))) ?_
 rw [hiv]
 refine Sc ((O_putI (.tmp (.o rfl)) (.tmp (.o rfl)) (.tmp .hit) underlying86 underlying83 Cx.tys_int (Cx.tys_out hM) .a)) ?_
 rw [C.tys_push]
 refine SN k5 ?_
 refine Ek [51, 2, 3, 4, 5, 8, 12] ?_
 refine Sq fun _ k6 => ?_
 refine Zw (Zl rfl oc251 .a rfl (Z1 12 rfl (fun e he => O_callE (xs := [.tmp 12]) (cap := []) rfl .func (.cons (Eh he) .nil) func58 rfl rfl (fun w1 hw => f58_ok _ _ _ _ w1 (hw.at_ .a))) (Zm rfl (Zn rfl (Zf rfl underlying150 rfl sz47 .done))))) ?_
 refine Sc (O_fix hC (xs := [.tmp 634, .tmp 637]) rfl (.tmp (.o rfl)) (.cons (.tmp (.o rfl)) (.cons (.tmp .hit) .nil)) HPicks.a .a hm1 (hO.ref i hi om) (Nat.le_of_ble_eq_true rfl) hI1 hB1) ?_
 rintro ⟨y1, v1⟩ hz1
 dsimp only [Cx.H, List.cons_append]
 refine SN k6 ?_
 refine Sr ?_
 refine Mo ?_
 refine Sc (O_makeInterface rfl (.tmp .hit) ⟨_, underlying147, rfl⟩) ?_
 rw [hiv]
 refine Sc (O_store (.tmp (.o rfl)) (.tmp .hit) rfl sz47 .a .a) ?_
 refine Sn ?_
 exact fun a w ha hw => J (_, bk625) (.mk' (A := [(bk625, _, 150)]) hz1.grew hz1.inv Q22 ⟨_, _, List.mem_cons_self, .var hkd (hz1.ref.mono (app_refl _)) rfl⟩) a w (ha.weaken (Ek4 rfl rfl rfl rfl)) (Cx.H_done (A := [(bk625, _, 150)]) (hw.weaken .a))

theorem kd3_ok {C : Cx} (hO : CxOk C) {m : Nat} (hC : InflOk C m) {S : Nat → Prop} {w0 : World} (T : Hp) (B : List Nat) (x : St) (i b2 b3 b4 b5 b8 b12 b14 o l c : Nat) (v4 : Value) {ds : List Deferred} {Q : Exit → Act → World → Prop} (hi : i < C.N) (hkd : C.kd i = 3) (hM : ∀ p ∈ x.M, p.1 ≠ i + 1) (hm : C.miss x.M < m + 1) (hB : ∀ b ∈ B, b ∈ cbs T) (hI : C.Inv B x) (ho : o = C.off + C.pos i + 12) (hl : l = C.len - C.pos i - 12) (hc : c = C.cap - C.pos i - 12)
    (J : ∀ z : St × Nat, C.KPost B x (i + 1) z → SK S w0 1086 ds (C.H z.1 ((b5, true, .cells #[.nilIface] 40 (0, 0)) :: (b2, true, .cells #[.pointer (some ⟨C.z.d, 0, none⟩)] 76 (0, 0)) :: (b3, true, .cells #[.int .u32 ((i + 1 : Nat) : Int)] 83 (0, 0)) :: (b4, true, .cells #[C.iv (i + 1) z.2] 47 (0, 0)) :: T)) [(2, .pointer (some ⟨b2, 0, none⟩)), (3, .pointer (some ⟨b3, 0, none⟩)), (4, .pointer (some ⟨b4, 0, none⟩)), (5, .pointer (some ⟨b5, 0, none⟩))] (Q .normal)) :
    SW none Tryz.prog S w0 1086 ds (C.H x ((b5, true, .cells #[.nilIface] 40 (0, 0)) :: (b2, true, .cells #[.pointer (some ⟨C.z.d, 0, none⟩)] 76 (0, 0)) :: (b3, true, .cells #[.int .u32 ((i + 1 : Nat) : Int)] 83 (0, 0)) :: (b4, true, .cells #[v4] 47 (0, 0)) :: (b8, true, .cells #[.func (.func 73) #[] #[.pointer (some ⟨b2, 0, none⟩)]] 251 (0, 0)) :: (b12, true, .cells #[.int .u32 (C.nm i : Nat), .int .u32 (C.inf i : Nat), .int .u32 (C.sz i : Nat)] 209 (0, 0)) :: (b14, true, .cells #[.int .u32 0, .int .u32 0, .int .u32 0] 266 (0, 0)) :: T)) [(2, .pointer (some ⟨b2, 0, none⟩)), (3, .pointer (some ⟨b3, 0, none⟩)), (4, .pointer (some ⟨b4, 0, none⟩)), (5, .pointer (some ⟨b5, 0, none⟩)), (8, .pointer (some ⟨b8, 0, none⟩)), (14, .pointer (some ⟨b14, 0, none⟩)), (17, .slice (some ⟨C.b, o, none⟩) l c)] (sub [1, 1, 1, 1, 1, 1, 1, 1, 1, 1, 1, 1, 1, 1, 1, 1, 1, 0, 1, 1, 1, 1, 0, 1, 1, 1, 1, 1, 0] (cd Tryz.f63)) Q := by
 obtain ⟨r1, r2, r3, r4, r5, r6, r7⟩ := hO.rec_ i hi
 have hinf := r4.lt
 have hv8 := hO.v8 i hi
 have h31 := hO.h31
 have hlc := hO.hlc
 have hiv : ∀ b, Value.iface 108 (.pointer (some ⟨b, 0, none⟩)) = C.iv (i + 1) b := fun b => by unfold Cx.iv; rw [show C.kd (i + 1 - 1) = 3 from hkd]; rfl
 have hm2 : ∀ bk, C.miss (x.M ++ [(i + 1, bk)]) < m := fun bk => by
   have := Cx.miss_lt (C := C) (M := x.M) (id := i + 1) (b := bk) om om hM
   omega
 have hdl : dlen (C.kd i) (C.vl i) = 12 := by rw [hkd]; rfl
 have hw0 : W4 C.o (o + 0) C.big (C.ex i (0)) := by
   have q := hO.ex i hi (0) Q31
   rw [show o + 0 = C.off + C.pos i + 12 + 4 * (0) by omega]
   exact q
 have hw1 : W4 C.o (o + 4) C.big (C.ex i (1)) := by
   have q := hO.ex i hi (1) Q31
   rw [show o + 4 = C.off + C.pos i + 12 + 4 * (1) by omega]
   exact q
 have hw2 : W4 C.o (o + 8) C.big (C.ex i (2)) := by
   have q := hO.ex i hi (2) Q31
   rw [show o + 8 = C.off + C.pos i + 12 + 4 * (2) by omega]
   exact q
 unfold Cx.H
 refine Sq fun _ k1 => ?_
 refine SR fun _ k2 => ?_
 refine Mo ?_
 refine Sc (Ola oc76) ?_
 refine Sc (O_nilCheck rfl (.tmp .hit)) ?_
 refine Sc (Ofa underlying90 sz80) ?_
 refine Sc (Ola oc80) ?_
 refine Sc (O_callM (xs := [.tmp 14, .tmp 259, .tmp 263]) (cap := []) rfl .func (.cons (.tmp (.o rfl)) (.cons (.tmp (.o rfl)) (.cons (.tmp .hit) .nil))) func85 rfl rfl .a (fun w1 hw => f85_ok C.big b14 C.b o l c C.o 266 _ _ _ (C.ex i 0) (C.ex i 1) (C.ex i 2) (hw.ne_pick HPick.a .a) om om hw0 hw1 hw2 w1 (hw.at_ .a) (hw.at_ .a))) ?_
 refine Mh ?_
 refine Sc Oex ?_
 refine Sc Oex ?_
 refine Ao ?_
 refine Ao ?_
 refine SN k2 ?_
 refine Ek [27, 2, 3, 4, 5, 8, 14] ?_
 refine SR fun _ k3 => ?_
 refine Mh ?_
 refine Sc (O_binOp rfl (.tmp .hit) .const (r := .bool false) (fun _ => rfl)) ?_
 refine SN k3 ?_
 refine Fh ?_
 refine SS k1 ?_
 refine Ek [2, 3, 4, 5, 8, 14] ?_
 refine SR fun _ k4 => ?_
 refine Sc (Ofa underlying266 sz73) ?_
 refine Sc (Ola oc73) ?_
 refine Sc (O_build (pv := [(0, _), (1, _), (2, _)]) (r := .agg #[.nilIface, .nilIface, .int .u32 (C.ex i 2 : Nat)]) rfl (.cons .const (.cons .const (.cons (.tmp .hit) .nil))) (fun w => run_build w _ _ _ Q13)) ?_
 refine Sc (O_box (cs := [.nilIface, .nilIface, .int .u32 (C.ex i 2 : Nat)].toArray) rfl (.tmp .hit) rfl) ?_
 intro bk273 _
 refine SL_fact (fun w hw => hI.fresh hB hw HPick.hit Q15) (fun hfr => ?_)
 have hI1 : C.Inv (bk273 :: B) { x with M := x.M ++ [(i + 1, bk273)] } := (hI.sub (fun b h => List.mem_cons_of_mem _ h)).push om om hM hfr List.mem_cons_self
 have hB1 := push_sub hB bk273
 have hm1 := hm2 bk273
 refine Ah ?_
 refine SN k4 ?_
 refine Ek [28, 2, 3, 4, 5, 8, 14] ?_
 refine Sq fun _ k5 => ?_
 refine Zw (Zl rfl oc76 .a rfl (Zn rfl (Zf rfl underlying90 rfl sz86 (Zl rfl oc86 .a rfl (Zl rfl oc83 .a rfl (Zm rfl (Z1 279 rfl (fun e he => O_makeInterface rfl (Eh he) ⟨_, underlying108, rfl⟩) .done))))))) ?_
 rw [hiv]
 refine Sc ((O_putI (.tmp (.o rfl)) (.tmp (.o rfl)) (.tmp .hit) underlying86 underlying83 Cx.tys_int (Cx.tys_out hM) .a)) ?_
 rw [C.tys_push]
 refine SN k5 ?_
 refine Ek [28, 2, 3, 4, 5, 8, 14] ?_
 refine Sq fun _ k6 => ?_
 refine Zw (Zl rfl oc251 .a rfl (Zf rfl underlying266 rfl sz83 (Zl rfl oc83 .a rfl (Zm rfl (Zn rfl (Zf rfl underlying110 rfl sz47 .done)))))) ?_
 refine Sc (O_fix hC (xs := [.tmp 283, .tmp 286]) rfl (.tmp (.o rfl)) (.cons (.tmp (.o rfl)) (.cons (.tmp .hit) .nil)) HPicks.a .a hm1 (hO.ref3 i hi hkd).2 (Nat.le_of_ble_eq_true rfl) hI1 hB1) ?_
 rintro ⟨y1, v1⟩ hz1
 dsimp only [Cx.H, List.cons_append]
 have hm3 := Nat.lt_of_le_of_lt (Cx.miss_le hz1.grew.m) hm1
 refine SN k6 ?_
 refine Ek [28, 2, 3, 4, 5, 8, 14] ?_
 refine Sq fun _ k7 => ?_
 refine Zw (Zl rfl oc251 .a rfl (Zf rfl underlying266 rfl sz83 (Zl rfl oc83 .a rfl (Zm rfl (Zn rfl (Zf rfl underlying110 rfl sz47 .done)))))) ?_
 refine Sc (O_fix hC (xs := [.tmp 290, .tmp 293]) rfl (.tmp (.o rfl)) (.cons (.tmp (.o rfl)) (.cons (.tmp .hit) .nil)) HPicks.a .a hm3 (hO.ref3 i hi hkd).1 (Nat.le_of_ble_eq_true rfl) hz1.inv hB1) ?_
 rintro ⟨y2, v2⟩ hz2
 dsimp only [Cx.H, List.cons_append]
 refine SN k7 ?_
 refine Sr ?_
 refine Mo ?_
 refine Sc (O_makeInterface rfl (.tmp .hit) ⟨_, underlying108, rfl⟩) ?_
 rw [hiv]
 refine Sc (O_store (.tmp (.o rfl)) (.tmp .hit) rfl sz47 .a .a) ?_
 refine Sn ?_
 exact fun a w ha hw => J (_, bk273) (.mk' (A := [(bk273, _, 110)]) (hz1.grew.trans hz2.grew) hz2.inv Q22 ⟨_, _, List.mem_cons_self, .arr hkd ((hz1.ref.mono hz2.grew.m).mono (app_refl _)) (hz2.ref.mono (app_refl _)) rfl⟩) a w (ha.weaken (Ek4 rfl rfl rfl rfl)) (Cx.H_done (A := [(bk273, _, 110)]) (hw.weaken .a))

theorem kd7_ok {C : Cx} (hO : CxOk C) {m : Nat} {S : Nat → Prop} {w0 : World} (T : Hp) (B : List Nat) (x : St) (i b2 b3 b4 b5 b12 : Nat) (v4 : Value) {ds : List Deferred} {Q : Exit → Act → World → Prop} (hi : i < C.N) (hkd : C.kd i = 7) (hM : ∀ p ∈ x.M, p.1 ≠ i + 1) (hm : C.miss x.M < m + 1) (hB : ∀ b ∈ B, b ∈ cbs T) (hI : C.Inv B x)
    (J : ∀ z : St × Nat, C.KPost B x (i + 1) z → SK S w0 1086 ds (C.H z.1 ((b5, true, .cells #[.nilIface] 40 (0, 0)) :: (b2, true, .cells #[.pointer (some ⟨C.z.d, 0, none⟩)] 76 (0, 0)) :: (b3, true, .cells #[.int .u32 ((i + 1 : Nat) : Int)] 83 (0, 0)) :: (b4, true, .cells #[C.iv (i + 1) z.2] 47 (0, 0)) :: T)) [(2, .pointer (some ⟨b2, 0, none⟩)), (3, .pointer (some ⟨b3, 0, none⟩)), (4, .pointer (some ⟨b4, 0, none⟩)), (5, .pointer (some ⟨b5, 0, none⟩))] (Q .normal)) :
    SW none Tryz.prog S w0 1086 ds (C.H x ((b5, true, .cells #[.nilIface] 40 (0, 0)) :: (b2, true, .cells #[.pointer (some ⟨C.z.d, 0, none⟩)] 76 (0, 0)) :: (b3, true, .cells #[.int .u32 ((i + 1 : Nat) : Int)] 83 (0, 0)) :: (b4, true, .cells #[v4] 47 (0, 0)) :: (b12, true, .cells #[.int .u32 (C.nm i : Nat), .int .u32 (C.inf i : Nat), .int .u32 (C.sz i : Nat)] 209 (0, 0)) :: T)) [(2, .pointer (some ⟨b2, 0, none⟩)), (3, .pointer (some ⟨b3, 0, none⟩)), (4, .pointer (some ⟨b4, 0, none⟩)), (5, .pointer (some ⟨b5, 0, none⟩)), (12, .pointer (some ⟨b12, 0, none⟩)), (20, C.sv (C.nm i))] (sub [1, 1, 1, 1, 1, 1, 1, 1, 1, 1, 1, 1, 1, 1, 1, 1, 1, 0, 1, 1, 1, 1, 0, 1, 1, 1, 1, 1, 1, 1, 1, 1, 1, 1, 1, 1, 0] (cd Tryz.f63)) Q := by
 obtain ⟨r1, r2, r3, r4, r5, r6, r7⟩ := hO.rec_ i hi
 have hinf := r4.lt
 have hv8 := hO.v8 i hi
 have h31 := hO.h31
 have hlc := hO.hlc
 have hiv : ∀ b, Value.iface 122 (.pointer (some ⟨b, 0, none⟩)) = C.iv (i + 1) b := fun b => by unfold Cx.iv; rw [show C.kd (i + 1 - 1) = 7 from hkd]; rfl
 have hm2 : ∀ bk, C.miss (x.M ++ [(i + 1, bk)]) < m := fun bk => by
   have := Cx.miss_lt (C := C) (M := x.M) (id := i + 1) (b := bk) om om hM
   omega
 unfold Cx.H
 refine SR fun _ k1 => ?_
 refine Mo ?_
 refine Sc (O_callE (xs := [.tmp 12]) (cap := []) rfl .func (.cons (.tmp (.o rfl)) .nil) func88 rfl rfl (fun w1 hw => f88_ok _ _ _ _ hinf w1 (hw.at_ .a))) ?_
 refine Sc (O_build (pv := [(0, _), (1, _)]) (r := .agg #[C.sv (C.nm i), .int .i64 (C.fl i : Nat)]) rfl (.cons (.tmp (.o rfl)) (.cons (.tmp .hit) .nil)) (fun w => run_build w _ _ _ Q13)) ?_
 refine Sc (O_box (cs := [C.sv (C.nm i), .int .i64 (C.fl i : Nat)].toArray) rfl (.tmp .hit) rfl) ?_
 intro bk432 _
 refine SL_fact (fun w hw => hI.fresh hB hw HPick.hit Q15) (fun hfr => ?_)
 have hI1 : C.Inv (bk432 :: B) { x with M := x.M ++ [(i + 1, bk432)] } := (hI.sub (fun b h => List.mem_cons_of_mem _ h)).push om om hM hfr List.mem_cons_self
 have hB1 := push_sub hB bk432
 have hm1 := hm2 bk432
 refine Sc (O_makeInterface rfl (.tmp .hit) ⟨_, underlying122, rfl⟩) ?_
 rw [hiv]
 refine Sc (O_store (.tmp (.o rfl)) (.tmp .hit) rfl sz47 .a .a) ?_
 refine SN k1 ?_
 refine Zw (Zl rfl oc76 .a rfl (Zn rfl (Zf rfl underlying90 rfl sz86 (Zl rfl oc86 .a rfl (Zl rfl oc83 .a rfl (Zl rfl oc47 .a rfl .done)))))) ?_
 refine Sc ((O_putI (.tmp (.o rfl)) (.tmp (.o rfl)) (.tmp .hit) underlying86 underlying83 Cx.tys_int (Cx.tys_out hM) .a)) ?_
 rw [C.tys_push]
 refine Sn ?_
 exact fun a w ha hw => J (_, bk432) (.mk' (A := [(bk432, _, 125)]) (.refl _) hI1 Q22 ⟨_, _, List.mem_cons_self, .fwd hkd rfl⟩) a w (ha.weaken (Ek4 rfl rfl rfl rfl)) (Cx.H_done (A := [(bk432, _, 125)]) (hw.weaken .a))

theorem kd16_ok {C : Cx} (hO : CxOk C) {m : Nat} {S : Nat → Prop} {w0 : World} (T : Hp) (B : List Nat) (x : St) (i b2 b3 b4 b5 b12 : Nat) (v4 : Value) {ds : List Deferred} {Q : Exit → Act → World → Prop} (hi : i < C.N) (hkd : C.kd i = 16) (hM : ∀ p ∈ x.M, p.1 ≠ i + 1) (hm : C.miss x.M < m + 1) (hB : ∀ b ∈ B, b ∈ cbs T) (hI : C.Inv B x)
    (J : ∀ z : St × Nat, C.KPost B x (i + 1) z → SK S w0 1086 ds (C.H z.1 ((b5, true, .cells #[.nilIface] 40 (0, 0)) :: (b2, true, .cells #[.pointer (some ⟨C.z.d, 0, none⟩)] 76 (0, 0)) :: (b3, true, .cells #[.int .u32 ((i + 1 : Nat) : Int)] 83 (0, 0)) :: (b4, true, .cells #[C.iv (i + 1) z.2] 47 (0, 0)) :: T)) [(2, .pointer (some ⟨b2, 0, none⟩)), (3, .pointer (some ⟨b3, 0, none⟩)), (4, .pointer (some ⟨b4, 0, none⟩)), (5, .pointer (some ⟨b5, 0, none⟩))] (Q .normal)) :
    SW none Tryz.prog S w0 1086 ds (C.H x ((b5, true, .cells #[.nilIface] 40 (0, 0)) :: (b2, true, .cells #[.pointer (some ⟨C.z.d, 0, none⟩)] 76 (0, 0)) :: (b3, true, .cells #[.int .u32 ((i + 1 : Nat) : Int)] 83 (0, 0)) :: (b4, true, .cells #[v4] 47 (0, 0)) :: (b12, true, .cells #[.int .u32 (C.nm i : Nat), .int .u32 (C.inf i : Nat), .int .u32 (C.sz i : Nat)] 209 (0, 0)) :: T)) [(2, .pointer (some ⟨b2, 0, none⟩)), (3, .pointer (some ⟨b3, 0, none⟩)), (4, .pointer (some ⟨b4, 0, none⟩)), (5, .pointer (some ⟨b5, 0, none⟩)), (12, .pointer (some ⟨b12, 0, none⟩)), (20, C.sv (C.nm i))] (sub [1, 1, 1, 1, 1, 1, 1, 1, 1, 1, 1, 1, 1, 1, 1, 1, 1, 0, 1, 1, 1, 1, 0, 1, 1, 1, 1, 1, 1, 1, 1, 1, 1, 1, 1, 1, 1, 1, 1, 1, 1, 1, 1, 1, 1, 1, 1, 1, 1, 1, 1, 1, 1, 1, 0] (cd Tryz.f63)) Q := by
 obtain ⟨r1, r2, r3, r4, r5, r6, r7⟩ := hO.rec_ i hi
 have hinf := r4.lt
 have hv8 := hO.v8 i hi
 have h31 := hO.h31
 have hlc := hO.hlc
 have hiv : ∀ b, Value.iface 157 (.pointer (some ⟨b, 0, none⟩)) = C.iv (i + 1) b := fun b => by unfold Cx.iv; rw [show C.kd (i + 1 - 1) = 16 from hkd]; rfl
 have hm2 : ∀ bk, C.miss (x.M ++ [(i + 1, bk)]) < m := fun bk => by
   have := Cx.miss_lt (C := C) (M := x.M) (id := i + 1) (b := bk) om om hM
   omega
 unfold Cx.H
 refine SR fun _ k1 => ?_
 refine Mo ?_
 refine Sc (O_callE (xs := [.tmp 12]) (cap := []) rfl .func (.cons (.tmp (.o rfl)) .nil) func79 rfl rfl (fun w1 hw => f79_ok _ _ _ _ w1 (hw.at_ .a))) ?_
 refine Sc (O_build (pv := [(0, _), (1, _)]) (r := .agg #[C.sv (C.nm i), .int .u32 (C.sz i : Nat)]) rfl (.cons (.tmp (.o rfl)) (.cons (.tmp .hit) .nil)) (fun w => run_build w _ _ _ Q13)) ?_
 refine Sc (O_box (cs := [C.sv (C.nm i), .int .u32 (C.sz i : Nat)].toArray) rfl (.tmp .hit) rfl) ?_
 intro bk701 _
 refine SL_fact (fun w hw => hI.fresh hB hw HPick.hit Q15) (fun hfr => ?_)
 have hI1 : C.Inv (bk701 :: B) { x with M := x.M ++ [(i + 1, bk701)] } := (hI.sub (fun b h => List.mem_cons_of_mem _ h)).push om om hM hfr List.mem_cons_self
 have hB1 := push_sub hB bk701
 have hm1 := hm2 bk701
 refine Sc (O_makeInterface rfl (.tmp .hit) ⟨_, underlying157, rfl⟩) ?_
 rw [hiv]
 refine Sc (O_store (.tmp (.o rfl)) (.tmp .hit) rfl sz47 .a .a) ?_
 refine SN k1 ?_
 refine Zw (Zl rfl oc76 .a rfl (Zn rfl (Zf rfl underlying90 rfl sz86 (Zl rfl oc86 .a rfl (Zl rfl oc83 .a rfl (Zl rfl oc47 .a rfl .done)))))) ?_
 refine Sc ((O_putI (.tmp (.o rfl)) (.tmp (.o rfl)) (.tmp .hit) underlying86 underlying83 Cx.tys_int (Cx.tys_out hM) .a)) ?_
 rw [C.tys_push]
 refine Sn ?_
 exact fun a w ha hw => J (_, bk701) (.mk' (A := [(bk701, _, 159)]) (.refl _) hI1 Q22 ⟨_, _, List.mem_cons_self, .float hkd rfl⟩) a w (ha.weaken (Ek4 rfl rfl rfl rfl)) (Cx.H_done (A := [(bk701, _, 159)]) (hw.weaken .a))

theorem b_quo_u32 {P : Program} {w : World} {T : TypeId} {x y : Operand} (a : Nat) (h : a < 4294967296) :
    (do eqGuard .quo T x y (.int .u32 a) (.int .u32 8); binOp .quo T (.int .u32 a) (.int .u32 8) : Sem Value).run P w = .ok (.int .u32 ((a / 8 : Nat) : Int)) w := by
  have h3 : (eqGuard .quo T x y (.int .u32 a) (.int .u32 8)).run P w = .ok () w := rfl
  have h6 : IntKind.u32.wrap ((a : Int) / 8) = (a : Int) / 8 := by simpa using wrap_u32 (a / 8) om
  rw [Sem.run_bind, h3]
  simp [binOp, Op.intDiv, h6]

theorem f83_ok (v : Nat) (hv : v < 4294967296) (w : World) : Calls Tryz.prog 83 #[.int .u32 v] w (fun r w' => r = .returned (.int .u32 ((v / 8 : Nat) : Int)) ∧ Ext noS w w') := by
 refine sw_calls (S := noS) func83 rfl ntmps83 (sees1 _ _ rfl) (Holds.start w _) ?_
 refine SR fun _ k1 => ?_
 refine Ac ?_
 refine SN k1 ?_
 refine SR fun _ k2 => ?_
 refine Mo ?_
 refine Sc (O_binOp rfl (.tmp .hit) .const (r := .int .u32 ((v / 8 : Nat) : Int)) (fun _ => b_quo_u32 v hv)) ?_
 refine Ah ?_
 refine SN k2 ?_
 refine Rt ?_
 refine Pl3 ?_
 exact SK_ret1 rfl .hit (fun w hw => ⟨rfl, hw.ext⟩)

theorem kd1_ok {C : Cx} (hO : CxOk C) {m : Nat} {S : Nat → Prop} {w0 : World} (T : Hp) (B : List Nat) (x : St) (i b2 b3 b4 b5 b12 b13 o l c : Nat) (v4 : Value) {ds : List Deferred} {Q : Exit → Act → World → Prop} (hi : i < C.N) (hkd : C.kd i = 1) (hM : ∀ p ∈ x.M, p.1 ≠ i + 1) (hm : C.miss x.M < m + 1) (hB : ∀ b ∈ B, b ∈ cbs T) (hI : C.Inv B x) (ho : o = C.off + C.pos i + 12) (hl : l = C.len - C.pos i - 12) (hc : c = C.cap - C.pos i - 12)
    (J : ∀ z : St × Nat, C.KPost B x (i + 1) z → SK S w0 1086 ds (C.H z.1 ((b5, true, .cells #[.nilIface] 40 (0, 0)) :: (b2, true, .cells #[.pointer (some ⟨C.z.d, 0, none⟩)] 76 (0, 0)) :: (b3, true, .cells #[.int .u32 ((i + 1 : Nat) : Int)] 83 (0, 0)) :: (b4, true, .cells #[C.iv (i + 1) z.2] 47 (0, 0)) :: T)) [(2, .pointer (some ⟨b2, 0, none⟩)), (3, .pointer (some ⟨b3, 0, none⟩)), (4, .pointer (some ⟨b4, 0, none⟩)), (5, .pointer (some ⟨b5, 0, none⟩))] (Q .normal)) :
    SW none Tryz.prog S w0 1086 ds (C.H x ((b5, true, .cells #[.nilIface] 40 (0, 0)) :: (b2, true, .cells #[.pointer (some ⟨C.z.d, 0, none⟩)] 76 (0, 0)) :: (b3, true, .cells #[.int .u32 ((i + 1 : Nat) : Int)] 83 (0, 0)) :: (b4, true, .cells #[v4] 47 (0, 0)) :: (b12, true, .cells #[.int .u32 (C.nm i : Nat), .int .u32 (C.inf i : Nat), .int .u32 (C.sz i : Nat)] 209 (0, 0)) :: (b13, true, .cells #[.int .u32 0] 264 (0, 0)) :: T)) [(2, .pointer (some ⟨b2, 0, none⟩)), (3, .pointer (some ⟨b3, 0, none⟩)), (4, .pointer (some ⟨b4, 0, none⟩)), (5, .pointer (some ⟨b5, 0, none⟩)), (12, .pointer (some ⟨b12, 0, none⟩)), (13, .pointer (some ⟨b13, 0, none⟩)), (17, .slice (some ⟨C.b, o, none⟩) l c), (20, C.sv (C.nm i))] (sub [1, 1, 1, 1, 1, 1, 1, 1, 1, 1, 1, 1, 1, 1, 1, 1, 1, 0, 1, 1, 1, 1, 0, 1, 0] (cd Tryz.f63)) Q := by
 obtain ⟨r1, r2, r3, r4, r5, r6, r7⟩ := hO.rec_ i hi
 have hinf := r4.lt
 have hv8 := hO.v8 i hi
 have h31 := hO.h31
 have hlc := hO.hlc
 have hiv : ∀ b, Value.iface 101 (.pointer (some ⟨b, 0, none⟩)) = C.iv (i + 1) b := fun b => by unfold Cx.iv; rw [show C.kd (i + 1 - 1) = 1 from hkd]; rfl
 have hm2 : ∀ bk, C.miss (x.M ++ [(i + 1, bk)]) < m := fun bk => by
   have := Cx.miss_lt (C := C) (M := x.M) (id := i + 1) (b := bk) om om hM
   omega
 have hdl : dlen (C.kd i) (C.vl i) = 4 := by rw [hkd]; rfl
 have hw0 : W4 C.o (o + 0) C.big (C.ex i (0)) := by
   have q := hO.ex i hi (0) Q31
   rw [show o + 0 = C.off + C.pos i + 12 + 4 * (0) by omega]
   exact q
 obtain ⟨hi1, hi2⟩ := hO.int i hi hkd
 unfold Cx.H
 refine SR fun _ k1 => ?_
 refine Sc (O_callE (xs := [.tmp 12]) (cap := []) rfl .func (.cons (.tmp (.o rfl)) .nil) func79 rfl rfl (fun w1 hw => f79_ok _ _ _ _ w1 (hw.at_ .a))) ?_
 refine Ah ?_
 refine SN k1 ?_
 refine Ek [22, 2, 3, 4, 5, 12, 13, 17, 20] ?_
 refine Sq fun _ k2 => ?_
 refine SR fun _ k3 => ?_
 refine Mo ?_
 refine Sc (Ola oc76) ?_
 refine Sc (O_nilCheck rfl (.tmp .hit)) ?_
 refine Sc (Ofa underlying90 sz80) ?_
 refine Sc (Ola oc80) ?_
 refine Sc (O_callM (xs := [.tmp 13, .tmp 193, .tmp 197]) (cap := []) rfl .func (.cons (.tmp (.o rfl)) (.cons (.tmp (.o rfl)) (.cons (.tmp .hit) .nil))) func80 rfl rfl .a (fun w1 hw => f80_ok C.big b13 C.b o l c C.o 264 _ (C.ex i 0) (hw.ne_pick HPick.a .a) om om hw0 w1 (hw.at_ .a) (hw.at_ .a))) ?_
 refine Mh ?_
 refine Sc Oex ?_
 refine Sc Oex ?_
 refine Ao ?_
 refine Ao ?_
 refine SN k3 ?_
 refine Ek [24, 22, 2, 3, 4, 5, 12, 13, 20] ?_
 refine SR fun _ k4 => ?_
 refine Mh ?_
 refine Sc (O_binOp rfl (.tmp .hit) .const (r := .bool false) (fun _ => rfl)) ?_
 refine SN k4 ?_
 refine Fh ?_
 refine SS k2 ?_
 refine Ek [22, 2, 3, 4, 5, 12, 13, 20] ?_
 refine Sq fun _ k5 => ?_
 refine SR fun _ k6 => ?_
 refine Sc (O_loadA rfl (.tmp (.o rfl)) underlying264 sz264 .a rfl) ?_
 refine Sc (O_callE (xs := [.tmp 204]) (cap := []) rfl .func (.cons (.tmp .hit) .nil) func81 rfl rfl (fun w1 hw => f81_ok _ hw0.lt w1)) ?_
 refine Sc (O_binOp rfl (.tmp .hit) .const (r := .bool false) (fun _ => b_gtr _ _ _ false (decide_eq_false (by rw [hi1]; decide)))) ?_
 refine Mh ?_
 refine Wo (O_loadA rfl (.tmp (.o rfl)) underlying264 sz264 .a rfl) ?_
 refine Wo (O_callE (xs := [.tmp 208]) (cap := []) rfl .func (.cons (.tmp .hit) .nil) func82 rfl rfl (fun w1 hw => f82_ok _ hw0.lt w1)) ?_
 refine Wo (O_callE (xs := [.tmp 209]) (cap := []) rfl .func (.cons (.tmp .hit) .nil) func83 rfl rfl (fun w1 hw => f83_ok _ om w1)) ?_
 refine Wo Omo ?_
 refine Wo (O_binOp rfl (.tmp (.o rfl)) (.tmp .hit) (r := .bool false) (fun _ => b_neq _ _ _ false (by rw [hi2]; simp))) ?_
 refine Sc Opf ?_
 refine SN k6 ?_
 refine Fh ?_
 refine SS k5 ?_
 refine Ek [2, 3, 4, 5, 12, 13, 20] ?_
 refine Sq fun _ k7 => ?_
 refine Zw (Zm rfl (Z1 12 rfl (fun e he => O_callE (xs := [.tmp 12]) (cap := []) rfl .func (.cons (Eh he) .nil) func79 rfl rfl (fun w1 hw => f79_ok _ _ _ _ w1 (hw.at_ .a))) (Z1 13 rfl (fun e he => O_loadA rfl (Eh he) underlying264 sz264 .a rfl) (Z1 226 rfl (fun e he => O_callE (xs := [.tmp 226]) (cap := []) rfl .func (.cons (Eh he) .nil) func84 rfl rfl (fun w1 hw => f84_ok _ hw0.lt w1)) .done)))) ?_
 refine Sc (O_build (pv := [(0, _), (1, _), (2, _)]) (r := .agg #[C.sv (C.nm i), .int .u32 (C.sz i : Nat), .int .u8 (C.ex i 0 / 2 ^ 24 % 2 ^ 4 : Nat)]) rfl (.cons (.tmp (.o rfl)) (.cons (.tmp (.o rfl)) (.cons (.tmp .hit) .nil))) (fun w => run_build w _ _ _ Q13)) ?_
 refine Sc (O_box (cs := [C.sv (C.nm i), .int .u32 (C.sz i : Nat), .int .u8 (C.ex i 0 / 2 ^ 24 % 2 ^ 4 : Nat)].toArray) rfl (.tmp .hit) rfl) ?_
 intro bk229 _
 refine SL_fact (fun w hw => hI.fresh hB hw HPick.hit Q15) (fun hfr => ?_)
 have hI1 : C.Inv (bk229 :: B) { x with M := x.M ++ [(i + 1, bk229)] } := (hI.sub (fun b h => List.mem_cons_of_mem _ h)).push om om hM hfr List.mem_cons_self
 have hB1 := push_sub hB bk229
 have hm1 := hm2 bk229
 refine Sc (O_makeInterface rfl (.tmp .hit) ⟨_, underlying101, rfl⟩) ?_
 rw [hiv]
 refine Sc (O_store (.tmp (.o rfl)) (.tmp .hit) rfl sz47 .a .a) ?_
 refine SN k7 ?_
 refine Zw (Zl rfl oc76 .a rfl (Zn rfl (Zf rfl underlying90 rfl sz86 (Zl rfl oc86 .a rfl (Zl rfl oc83 .a rfl (Zl rfl oc47 .a rfl .done)))))) ?_
 refine Sc ((O_putI (.tmp (.o rfl)) (.tmp (.o rfl)) (.tmp .hit) underlying86 underlying83 Cx.tys_int (Cx.tys_out hM) .a)) ?_
 rw [C.tys_push]
 refine Sn ?_
 exact fun a w ha hw => J (_, bk229) (.mk' (A := [(bk229, _, 104)]) (.refl _) hI1 Q22 ⟨_, _, List.mem_cons_self, .int hkd rfl⟩) a w (ha.weaken (Ek4 rfl rfl rfl rfl)) (Cx.H_done (A := [(bk229, _, 104)]) (hw.weaken .a))
end
end Go.Proofs.YtoibhfpagkdleaaGreatDoor
