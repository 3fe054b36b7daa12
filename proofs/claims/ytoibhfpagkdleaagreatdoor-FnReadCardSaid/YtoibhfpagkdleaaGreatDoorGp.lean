/-
  CONTRACTS: the kinds of types that have members.
-/
import Derived.Test.YtoibhfpagkdleaaGreatDoorGo
import Derived.Test.YtoibhfpagkdleaaGreatDoorGd
namespace Go.Proofs.YtoibhfpagkdleaaGreatDoor
section
open Go
open Tryz
set_option maxRecDepth 100000

section
variable {ro : Option Nat} {S : Nat → Prop} {w0 : World} {n : Nat} {ds : List Deferred} {H : Hp} {e : Env}
variable {d : Nat} {ty : TypeId} {pos : String} {aft : Array Edge}
/-- the members are read -/
theorem O_xmems {C : Cx} (hO : CxOk C) {m : Nat} (hC : InflOk C m) {T0 T R : Hp} {B : List Nat} {x : St} {i b12 b2 b8 p L cap : Nat} {g : Operand} {xs : List Operand} {ats : Array TypeId} (hd : Nat.blt d n = true) (hg : Ev e g (.func (.func 74) #[] [.pointer (some ⟨b2, 0, none⟩), .pointer (some ⟨b8, 0, none⟩)].toArray))
    (hx : Evs e xs [.pointer (some ⟨b12, 0, none⟩), .slice (some ⟨C.b, p, none⟩) L cap]) (hp : HPicks H [(C.z.tm, true, mapO (C.tysO x.M)), (C.z.im, true, mapO (Cx.idsO x.K)), (C.z.d, false, .cells (decC C.big C.st (C.N + 1) C.z).toArray 90 (0, 0)), (C.z.sb, false, .cells [.slice (some ⟨C.b, C.off, none⟩) C.len C.cap].toArray 224 (0, 0)), (C.st, false, .cells #[.pointer none, .slice (some ⟨C.b, C.toff, none⟩) C.sl C.tcap, .map none] 207 (0, 0)), (C.z.ro.g, false, .cells C.z.ro.cur.toArray 3 (0, 0)), (C.z.dt, false, .map #[] 0), (C.z.lm, false, .map #[] 0), (C.b, false, C.o), (b12, true, .cells #[.int .u32 (C.nm i : Nat), .int .u32 (C.inf i : Nat), .int .u32 (C.sz i : Nat)] 209 (0, 0)), (b2, true, .cells #[.pointer (some ⟨C.z.d, 0, none⟩)] 76 (0, 0)), (b8, true, .cells #[.func (.func 73) #[] #[.pointer (some ⟨b2, 0, none⟩)]] 251 (0, 0))] R)
    (ht : HTail R x.U T) (hi : i < C.N) (hkd : C.kd i = 4 ∨ C.kd i = 5) (hpe : p = C.off + C.pos i + 12) (hL : 12 * C.vl i ≤ L) (hLc : L ≤ cap) (hLk : 12 * C.vl i < cap) (hm : C.miss x.M < m) (hI : C.Inv B x) (hB : ∀ b ∈ B, b ∈ cbs T0) (hc : ∀ b, b ∈ cbs T0 → b ∈ cbs T := by
      intro b h
      repeat' (first | (exact h) | (rcases cbs_or h with rfl | h) | (exact cbs_hit) | (apply cbs_skip))) :
    OT ro Tryz.prog S w0 n ds H e ⟨some d, .call ⟨.value g, xs.toArray, ats⟩, ty, pos, aft, none⟩ (fun X => ∀ z : St × Row × List Value, (C.Grew x z.1 ∧ C.Inv B z.1 ∧ RowOk 5 (some z.2.1) (C.vl i) (C.memsD i (C.vl i) z.2.2) ∧ z.2.2.length = C.vl i ∧ (∀ j v, z.2.2[j]? = some v → C.Ref z.1.M (C.ex i (3 * j + 1)) v)) →
      X ((d, .tuple #[.slice (some ⟨z.2.1.g, 0, none⟩) (C.vl i) z.2.1.cap, .nilIface]) :: e) ((z.2.1.g, true, .cells z.2.1.cur.toArray 99 (0, 0)) :: C.H z.1 ((b12, true, .cells #[.int .u32 (C.nm i : Nat), .int .u32 (C.inf i : Nat), .int .u32 (C.sz i : Nat)] 209 (0, 0)) :: (b2, true, .cells #[.pointer (some ⟨C.z.d, 0, none⟩)] 76 (0, 0)) :: (b8, true, .cells #[.func (.func 73) #[] #[.pointer (some ⟨b2, 0, none⟩)]] 251 (0, 0)) :: T))) := by
  refine O_call (val := fun z : St × Row × List Value => .tuple #[.slice (some ⟨z.2.1.g, 0, none⟩) (C.vl i) z.2.1.cap, .nilIface]) hd hg hx func74 rfl rfl (fun w hw => (f74_ok (S := S) (w0 := w0) hO hC T B x i b12 b2 b8 p L cap hi hkd hpe hL hLc hLk w hm (fun b h => hc b (hB b h)) hI ?_).mono ?_)
  · have h1 := ht.eq
    subst h1
    exact hw.perm hp.perm
  rintro r w' ⟨z, rfl, h1, h2, h3, h4, h5, h6⟩
  exact ⟨z, rfl, ⟨h1, h2, h3, h4, h5⟩, h6⟩
end

theorem kd4_ok {C : Cx} (hO : CxOk C) {m : Nat} (hC : InflOk C m) {S : Nat → Prop} {w0 : World} (T : Hp) (B : List Nat) (x : St) (i b2 b3 b4 b5 b8 b12 o l c : Nat) (v4 : Value) {ds : List Deferred} {Q : Exit → Act → World → Prop} (hi : i < C.N) (hkd : C.kd i = 4) (hM : ∀ p ∈ x.M, p.1 ≠ i + 1) (hm : C.miss x.M < m + 1) (hB : ∀ b ∈ B, b ∈ cbs T) (hI : C.Inv B x) (ho : o = C.off + C.pos i + 12) (hl : l = C.len - C.pos i - 12) (hc : c = C.cap - C.pos i - 12)
    (J : ∀ z : St × Nat, C.KPost B x (i + 1) z → SK S w0 1086 ds (C.H z.1 ((b5, true, .cells #[.nilIface] 40 (0, 0)) :: (b2, true, .cells #[.pointer (some ⟨C.z.d, 0, none⟩)] 76 (0, 0)) :: (b3, true, .cells #[.int .u32 ((i + 1 : Nat) : Int)] 83 (0, 0)) :: (b4, true, .cells #[C.iv (i + 1) z.2] 47 (0, 0)) :: T)) [(2, .pointer (some ⟨b2, 0, none⟩)), (3, .pointer (some ⟨b3, 0, none⟩)), (4, .pointer (some ⟨b4, 0, none⟩)), (5, .pointer (some ⟨b5, 0, none⟩))] (Q .normal)) :
    SW none Tryz.prog S w0 1086 ds (C.H x ((b5, true, .cells #[.nilIface] 40 (0, 0)) :: (b2, true, .cells #[.pointer (some ⟨C.z.d, 0, none⟩)] 76 (0, 0)) :: (b3, true, .cells #[.int .u32 ((i + 1 : Nat) : Int)] 83 (0, 0)) :: (b4, true, .cells #[v4] 47 (0, 0)) :: (b8, true, .cells #[.func (.func 73) #[] #[.pointer (some ⟨b2, 0, none⟩)]] 251 (0, 0)) :: (b12, true, .cells #[.int .u32 (C.nm i : Nat), .int .u32 (C.inf i : Nat), .int .u32 (C.sz i : Nat)] 209 (0, 0)) :: T)) [(2, .pointer (some ⟨b2, 0, none⟩)), (3, .pointer (some ⟨b3, 0, none⟩)), (4, .pointer (some ⟨b4, 0, none⟩)), (5, .pointer (some ⟨b5, 0, none⟩)), (9, .func (.func 74) #[] #[.pointer (some ⟨b2, 0, none⟩), .pointer (some ⟨b8, 0, none⟩)]), (12, .pointer (some ⟨b12, 0, none⟩)), (17, .slice (some ⟨C.b, o, none⟩) l c), (20, C.sv (C.nm i))] (sub [1, 1, 1, 1, 1, 1, 1, 1, 1, 1, 1, 1, 1, 1, 1, 1, 1, 0, 1, 1, 1, 1, 0, 1, 1, 1, 1, 1, 1, 1, 0] (cd Tryz.f63)) Q := by
 obtain ⟨r1, r2, r3, r4, r5, r6, r7⟩ := hO.rec_ i hi
 have hinf := r4.lt
 have hv8 := hO.v8 i hi
 have h31 := hO.h31
 have hlc := hO.hlc
 have hiv : ∀ b, Value.iface 111 (.pointer (some ⟨b, 0, none⟩)) = C.iv (i + 1) b := fun b => by unfold Cx.iv; rw [show C.kd (i + 1 - 1) = 4 from hkd]; rfl
 have hm2 : ∀ bk, C.miss (x.M ++ [(i + 1, bk)]) < m := fun bk => by
   have := Cx.miss_lt (C := C) (M := x.M) (id := i + 1) (b := bk) om om hM
   omega
 have hdl : dlen (C.kd i) (C.vl i) = 12 * C.vl i := by rw [hkd]; rfl
 have rr1 := r1
 unfold Cx.H
 refine SR fun _ k1 => ?_
 refine Mo ?_
 refine Sc (O_callE (xs := [.tmp 12]) (cap := []) rfl .func (.cons (.tmp (.o rfl)) .nil) func79 rfl rfl (fun w1 hw => f79_ok _ _ _ _ w1 (hw.at_ .a))) ?_
 refine Sc (O_build (pv := [(0, _), (1, _), (2, _), (3, _)]) (r := .agg #[C.sv (C.nm i), .int .u32 (C.sz i : Nat), .slice none 0 0, .slice none 0 0]) rfl (.cons (.tmp (.o rfl)) (.cons (.tmp .hit) (.cons .const (.cons .const .nil)))) (fun w => run_build w _ _ _ Q13)) ?_
 refine Sc (O_box (cs := [C.sv (C.nm i), .int .u32 (C.sz i : Nat), .slice none 0 0, .slice none 0 0].toArray) rfl (.tmp .hit) rfl) ?_
 intro bk302 _
 refine SL_fact (fun w hw => hI.fresh hB hw HPick.hit Q15) (fun hfr => ?_)
 have hI1 : C.Inv (bk302 :: B) { x with M := x.M ++ [(i + 1, bk302)] } := (hI.sub (fun b h => List.mem_cons_of_mem _ h)).push om om hM hfr List.mem_cons_self
 have hB1 := push_sub hB bk302
 have hm1 := hm2 bk302
 refine Ah ?_
 refine SN k1 ?_
 refine Ek [29, 2, 3, 4, 5, 9, 12, 17] ?_
 refine Sq fun _ k2 => ?_
 refine Zw (Zl rfl oc76 .a rfl (Zn rfl (Zf rfl underlying90 rfl sz86 (Zl rfl oc86 .a rfl (Zl rfl oc83 .a rfl (Zm rfl (Z1 308 rfl (fun e he => O_makeInterface rfl (Eh he) ⟨_, underlying111, rfl⟩) .done))))))) ?_
 rw [hiv]
 refine Sc ((O_putI (.tmp (.o rfl)) (.tmp (.o rfl)) (.tmp .hit) underlying86 underlying83 Cx.tys_int (Cx.tys_out hM) .a)) ?_
 rw [C.tys_push]
 refine SN k2 ?_
 refine Ek [29, 2, 3, 4, 5, 9, 12, 17] ?_
 refine SR fun _ k3 => ?_
 refine Mh ?_
 refine Sc (O_makeInterface rfl (.tmp .hit) ⟨_, underlying111, rfl⟩) ?_
 rw [hiv]
 refine Sc (O_store (.tmp (.o rfl)) (.tmp .hit) rfl sz47 .a .a) ?_
 refine SN k3 ?_
 refine Ek [29, 2, 3, 4, 5, 9, 12, 17] ?_
 refine SR fun _ k4 => ?_
 refine Mh ?_
 refine Mo ?_
 refine Mo ?_
 refine Sc (O_xmems hO hC (i := i) (xs := [.tmp 12, .tmp 315]) rfl (.tmp (.o rfl)) (.cons (.tmp (.o rfl)) (.cons (.tmp .hit) .nil)) HPicks.a .a hi om ho om om om hm1 hI1 hB1) ?_
 rintro ⟨y1, r1, vs⟩ ⟨g1, g2, g3, g4, g5⟩
 dsimp only [Cx.H, List.cons_append] at g1 g2 g3 g4 g5 ⊢
 refine Mh ?_
 refine Sc Oex ?_
 refine Sc Oex ?_
 refine Sc (O_nilCheck rfl (.tmp (.o rfl))) ?_
 refine Sc (Ofa underlying113 sz96) ?_
 refine Sc (O_store (.tmp .hit) (.tmp (.o rfl)) rfl sz96 .a .a) ?_
 refine Ao ?_
 refine SN k4 ?_
 refine Ek [21, 2, 3, 4, 5] ?_
 refine SR fun _ k5 => ?_
 refine Mh ?_
 refine Sc (O_binOp rfl (.tmp .hit) .const (r := .bool false) (fun _ => rfl)) ?_
 refine SN k5 ?_
 refine Fh ?_
 refine Ss ?_
 exact fun a w ha hw => J (_, bk302) (.mk' (A := [(bk302, _, 113), (r1.g, r1.cur, 99)]) g1 g2 Q22 ⟨_, _, List.mem_cons_self, .comp om g3 g4 (fun j v hv => (g5 j v hv).mono (app_refl _)) Q22 rfl⟩) a w (ha.weaken (Ek4 rfl rfl rfl rfl)) (Cx.H_done (A := [(bk302, _, 113), (r1.g, r1.cur, 99)]) (hw.weaken .a))

theorem kd5_ok {C : Cx} (hO : CxOk C) {m : Nat} (hC : InflOk C m) {S : Nat → Prop} {w0 : World} (T : Hp) (B : List Nat) (x : St) (i b2 b3 b4 b5 b8 b12 o l c : Nat) (v4 : Value) {ds : List Deferred} {Q : Exit → Act → World → Prop} (hi : i < C.N) (hkd : C.kd i = 5) (hM : ∀ p ∈ x.M, p.1 ≠ i + 1) (hm : C.miss x.M < m + 1) (hB : ∀ b ∈ B, b ∈ cbs T) (hI : C.Inv B x) (ho : o = C.off + C.pos i + 12) (hl : l = C.len - C.pos i - 12) (hc : c = C.cap - C.pos i - 12)
    (J : ∀ z : St × Nat, C.KPost B x (i + 1) z → SK S w0 1086 ds (C.H z.1 ((b5, true, .cells #[.nilIface] 40 (0, 0)) :: (b2, true, .cells #[.pointer (some ⟨C.z.d, 0, none⟩)] 76 (0, 0)) :: (b3, true, .cells #[.int .u32 ((i + 1 : Nat) : Int)] 83 (0, 0)) :: (b4, true, .cells #[C.iv (i + 1) z.2] 47 (0, 0)) :: T)) [(2, .pointer (some ⟨b2, 0, none⟩)), (3, .pointer (some ⟨b3, 0, none⟩)), (4, .pointer (some ⟨b4, 0, none⟩)), (5, .pointer (some ⟨b5, 0, none⟩))] (Q .normal)) :
    SW none Tryz.prog S w0 1086 ds (C.H x ((b5, true, .cells #[.nilIface] 40 (0, 0)) :: (b2, true, .cells #[.pointer (some ⟨C.z.d, 0, none⟩)] 76 (0, 0)) :: (b3, true, .cells #[.int .u32 ((i + 1 : Nat) : Int)] 83 (0, 0)) :: (b4, true, .cells #[v4] 47 (0, 0)) :: (b8, true, .cells #[.func (.func 73) #[] #[.pointer (some ⟨b2, 0, none⟩)]] 251 (0, 0)) :: (b12, true, .cells #[.int .u32 (C.nm i : Nat), .int .u32 (C.inf i : Nat), .int .u32 (C.sz i : Nat)] 209 (0, 0)) :: T)) [(2, .pointer (some ⟨b2, 0, none⟩)), (3, .pointer (some ⟨b3, 0, none⟩)), (4, .pointer (some ⟨b4, 0, none⟩)), (5, .pointer (some ⟨b5, 0, none⟩)), (9, .func (.func 74) #[] #[.pointer (some ⟨b2, 0, none⟩), .pointer (some ⟨b8, 0, none⟩)]), (12, .pointer (some ⟨b12, 0, none⟩)), (17, .slice (some ⟨C.b, o, none⟩) l c), (20, C.sv (C.nm i))] (sub [1, 1, 1, 1, 1, 1, 1, 1, 1, 1, 1, 1, 1, 1, 1, 1, 1, 0, 1, 1, 1, 1, 0, 1, 1, 1, 1, 1, 1, 1, 1, 1, 0] (cd Tryz.f63)) Q := by
 obtain ⟨r1, r2, r3, r4, r5, r6, r7⟩ := hO.rec_ i hi
 have hinf := r4.lt
 have hv8 := hO.v8 i hi
 have h31 := hO.h31
 have hlc := hO.hlc
 have hiv : ∀ b, Value.iface 114 (.pointer (some ⟨b, 0, none⟩)) = C.iv (i + 1) b := fun b => by unfold Cx.iv; rw [show C.kd (i + 1 - 1) = 5 from hkd]; rfl
 have hm2 : ∀ bk, C.miss (x.M ++ [(i + 1, bk)]) < m := fun bk => by
   have := Cx.miss_lt (C := C) (M := x.M) (id := i + 1) (b := bk) om om hM
   omega
 have hdl : dlen (C.kd i) (C.vl i) = 12 * C.vl i := by rw [hkd]; rfl
 have rr1 := r1
 unfold Cx.H
 refine SR fun _ k1 => ?_
 refine Mo ?_
 refine Sc (O_callE (xs := [.tmp 12]) (cap := []) rfl .func (.cons (.tmp (.o rfl)) .nil) func79 rfl rfl (fun w1 hw => f79_ok _ _ _ _ w1 (hw.at_ .a))) ?_
 refine Sc (O_build (pv := [(0, _), (1, _), (2, _), (3, _)]) (r := .agg #[C.sv (C.nm i), .int .u32 (C.sz i : Nat), .slice none 0 0, .slice none 0 0]) rfl (.cons (.tmp (.o rfl)) (.cons (.tmp .hit) (.cons .const (.cons .const .nil)))) (fun w => run_build w _ _ _ Q13)) ?_
 refine Sc (O_box (cs := [C.sv (C.nm i), .int .u32 (C.sz i : Nat), .slice none 0 0, .slice none 0 0].toArray) rfl (.tmp .hit) rfl) ?_
 intro bk329 _
 refine SL_fact (fun w hw => hI.fresh hB hw HPick.hit Q15) (fun hfr => ?_)
 have hI1 : C.Inv (bk329 :: B) { x with M := x.M ++ [(i + 1, bk329)] } := (hI.sub (fun b h => List.mem_cons_of_mem _ h)).push om om hM hfr List.mem_cons_self
 have hB1 := push_sub hB bk329
 have hm1 := hm2 bk329
 refine Ah ?_
 refine SN k1 ?_
 refine Ek [30, 2, 3, 4, 5, 9, 12, 17] ?_
 refine Sq fun _ k2 => ?_
 refine Zw (Zl rfl oc76 .a rfl (Zn rfl (Zf rfl underlying90 rfl sz86 (Zl rfl oc86 .a rfl (Zl rfl oc83 .a rfl (Zm rfl (Z1 335 rfl (fun e he => O_makeInterface rfl (Eh he) ⟨_, underlying114, rfl⟩) .done))))))) ?_
 rw [hiv]
 refine Sc ((O_putI (.tmp (.o rfl)) (.tmp (.o rfl)) (.tmp .hit) underlying86 underlying83 Cx.tys_int (Cx.tys_out hM) .a)) ?_
 rw [C.tys_push]
 refine SN k2 ?_
 refine Ek [30, 2, 3, 4, 5, 9, 12, 17] ?_
 refine SR fun _ k3 => ?_
 refine Mh ?_
 refine Sc (O_makeInterface rfl (.tmp .hit) ⟨_, underlying114, rfl⟩) ?_
 rw [hiv]
 refine Sc (O_store (.tmp (.o rfl)) (.tmp .hit) rfl sz47 .a .a) ?_
 refine SN k3 ?_
 refine Ek [30, 2, 3, 4, 5, 9, 12, 17] ?_
 refine SR fun _ k4 => ?_
 refine Mh ?_
 refine Mo ?_
 refine Mo ?_
 refine Sc (O_xmems hO hC (i := i) (xs := [.tmp 12, .tmp 342]) rfl (.tmp (.o rfl)) (.cons (.tmp (.o rfl)) (.cons (.tmp .hit) .nil)) HPicks.a .a hi om ho om om om hm1 hI1 hB1) ?_
 rintro ⟨y1, r1, vs⟩ ⟨g1, g2, g3, g4, g5⟩
 dsimp only [Cx.H, List.cons_append] at g1 g2 g3 g4 g5 ⊢
 refine Mh ?_
 refine Sc Oex ?_
 refine Sc Oex ?_
 refine Sc (O_nilCheck rfl (.tmp (.o rfl))) ?_
 refine Sc (Ofa underlying115 sz96) ?_
 refine Sc (O_store (.tmp .hit) (.tmp (.o rfl)) rfl sz96 .a .a) ?_
 refine Ao ?_
 refine SN k4 ?_
 refine Ek [21, 2, 3, 4, 5] ?_
 refine SR fun _ k5 => ?_
 refine Mh ?_
 refine Sc (O_binOp rfl (.tmp .hit) .const (r := .bool false) (fun _ => rfl)) ?_
 refine SN k5 ?_
 refine Fh ?_
 refine Ss ?_
 exact fun a w ha hw => J (_, bk329) (.mk' (A := [(bk329, _, 115), (r1.g, r1.cur, 99)]) g1 g2 Q22 ⟨_, _, List.mem_cons_self, .comp om g3 g4 (fun j v hv => (g5 j v hv).mono (app_refl _)) Q22 rfl⟩) a w (ha.weaken (Ek4 rfl rfl rfl rfl)) (Cx.H_done (A := [(bk329, _, 115), (r1.g, r1.cur, 99)]) (hw.weaken .a))

namespace Cx
variable (C : Cx)
def enumD (i j : Nat) : List Value := [C.sv (C.ex i (stride (C.kd i) * j)), .int .u64 ((if C.kd i = 19 then C.ex i (3 * j + 2) * 4294967296 + C.ex i (3 * j + 1) else if C.fl i = 1 ∧ 2147483648 ≤ C.ex i (2 * j + 1) then C.ex i (2 * j + 1) + 18446744069414584320 else C.ex i (2 * j + 1) : Nat) : Int)]
def enumsD (i n : Nat) : List Value := (List.range n).flatMap (C.enumD i)
theorem enumsD_snoc (i n : Nat) : C.enumsD i (n + 1) = C.enumsD i n ++ C.enumD i n := by simp [enumsD, List.range_succ]
variable {C}
theorem enumD_t {i j : Nat} (h : C.kd i = 6) (hf : C.fl i = 1) : C.enumD i j = [C.sv (C.ex i (2 * j)), .int .u64 ((if 2147483648 ≤ C.ex i (2 * j + 1) then C.ex i (2 * j + 1) + 18446744069414584320 else C.ex i (2 * j + 1) : Nat) : Int)] := by
  unfold enumD
  rw [h, hf]
  simp [stride]
theorem enumD_f {i j : Nat} (h : C.kd i = 6) (hf : ¬ C.fl i = 1) : C.enumD i j = [C.sv (C.ex i (2 * j)), .int .u64 (C.ex i (2 * j + 1) : Nat)] := by
  unfold enumD
  rw [h, if_neg dc, if_neg (fun h => hf h.1)]
  rfl
theorem enumD_64 {i j : Nat} (h : C.kd i = 19) : C.enumD i j = [C.sv (C.ex i (3 * j)), .int .u64 ((C.ex i (3 * j + 2) * 4294967296 + C.ex i (3 * j + 1) : Nat) : Int)] := by
  unfold enumD
  rw [h, if_pos rfl]
  rfl
end Cx
theorem c_i32 (x : Nat) (h : x < 4294967296) : IntKind.i32.wrap (x : Int) = if 2147483648 ≤ x then (x : Int) - 4294967296 else x := by
  rw [IntKind.wrap_i32]
  split <;> omega
theorem c_u64s (x : Nat) (h : x < 4294967296) : IntKind.u64.wrap (if 2147483648 ≤ x then (x : Int) - 4294967296 else x) = ((if 2147483648 ≤ x then x + 18446744069414584320 else x : Nat) : Int) := by
  rw [show ∀ z : Int, IntKind.u64.wrap z = z % 18446744073709551616 from fun z => by simp [IntKind.wrap, IntKind.bits, IntKind.signed]]
  split <;> omega

theorem kd6_ok {C : Cx} (hO : CxOk C) {m : Nat} {S : Nat → Prop} {w0 : World} (T : Hp) (B : List Nat) (x : St) (i b2 b3 b4 b5 b12 o l c : Nat) (v4 : Value) {ds : List Deferred} {Q : Exit → Act → World → Prop} (hi : i < C.N) (hkd : C.kd i = 6) (hM : ∀ p ∈ x.M, p.1 ≠ i + 1) (hm : C.miss x.M < m + 1) (hB : ∀ b ∈ B, b ∈ cbs T) (hI : C.Inv B x) (ho : o = C.off + C.pos i + 12) (hl : l = C.len - C.pos i - 12) (hc : c = C.cap - C.pos i - 12)
    (J : ∀ z : St × Nat, C.KPost B x (i + 1) z → SK S w0 1086 ds (C.H z.1 ((b5, true, .cells #[.nilIface] 40 (0, 0)) :: (b2, true, .cells #[.pointer (some ⟨C.z.d, 0, none⟩)] 76 (0, 0)) :: (b3, true, .cells #[.int .u32 ((i + 1 : Nat) : Int)] 83 (0, 0)) :: (b4, true, .cells #[C.iv (i + 1) z.2] 47 (0, 0)) :: T)) [(2, .pointer (some ⟨b2, 0, none⟩)), (3, .pointer (some ⟨b3, 0, none⟩)), (4, .pointer (some ⟨b4, 0, none⟩)), (5, .pointer (some ⟨b5, 0, none⟩))] (Q .normal)) :
    SW none Tryz.prog S w0 1086 ds (C.H x ((b5, true, .cells #[.nilIface] 40 (0, 0)) :: (b2, true, .cells #[.pointer (some ⟨C.z.d, 0, none⟩)] 76 (0, 0)) :: (b3, true, .cells #[.int .u32 ((i + 1 : Nat) : Int)] 83 (0, 0)) :: (b4, true, .cells #[v4] 47 (0, 0)) :: (b12, true, .cells #[.int .u32 (C.nm i : Nat), .int .u32 (C.inf i : Nat), .int .u32 (C.sz i : Nat)] 209 (0, 0)) :: T)) [(2, .pointer (some ⟨b2, 0, none⟩)), (3, .pointer (some ⟨b3, 0, none⟩)), (4, .pointer (some ⟨b4, 0, none⟩)), (5, .pointer (some ⟨b5, 0, none⟩)), (12, .pointer (some ⟨b12, 0, none⟩)), (17, .slice (some ⟨C.b, o, none⟩) l c), (20, C.sv (C.nm i))] (sub [1, 1, 1, 1, 1, 1, 1, 1, 1, 1, 1, 1, 1, 1, 1, 1, 1, 0, 1, 1, 1, 1, 0, 1, 1, 1, 1, 1, 1, 1, 1, 1, 1, 1, 0] (cd Tryz.f63)) Q := by
 obtain ⟨r1, r2, r3, r4, r5, r6, r7⟩ := hO.rec_ i hi
 have hinf := r4.lt
 have hv8 := hO.v8 i hi
 have h31 := hO.h31
 have hlc := hO.hlc
 have hiv : ∀ b, Value.iface 116 (.pointer (some ⟨b, 0, none⟩)) = C.iv (i + 1) b := fun b => by unfold Cx.iv; rw [show C.kd (i + 1 - 1) = 6 from hkd]; rfl
 have hm2 : ∀ bk, C.miss (x.M ++ [(i + 1, bk)]) < m := fun bk => by
   have := Cx.miss_lt (C := C) (M := x.M) (id := i + 1) (b := bk) om om hM
   omega
 have hdl : dlen (C.kd i) (C.vl i) = 8 * C.vl i := by rw [hkd]; rfl
 have hmt : ∀ j, j < C.vl i → TextAt C.o C.toff C.sl (C.ex i (2 * j)) (C.str (C.ex i (2 * j))) := fun j hj => by
   have q := hO.mtxt i hi om j hj
   rw [hkd] at q
   exact q
 unfold Cx.H
 refine SR fun _ k1 => ?_
 refine Mo ?_
 refine Sc (O_callE (xs := [.tmp 12]) (cap := []) rfl .func (.cons (.tmp (.o rfl)) .nil) func79 rfl rfl (fun w1 hw => f79_ok _ _ _ _ w1 (hw.at_ .a))) ?_
 refine Sc (O_callE (xs := [.tmp 12]) (cap := []) rfl .func (.cons (.tmp (.o rfl)) .nil) func86 rfl rfl (fun w1 hw => f86_ok _ _ _ _ hinf w1 (hw.at_ .a))) ?_
 refine Sc (O_build (pv := [(0, _), (1, _), (2, _), (3, _)]) (r := .agg #[C.sv (C.nm i), .int .u32 (C.sz i : Nat), .bool (((C.fl i : Nat) : Int) == 1), .slice none 0 0]) rfl (.cons (.tmp (.o rfl)) (.cons (.tmp (.o rfl)) (.cons (.tmp .hit) (.cons .const .nil)))) (fun w => run_build w _ _ _ Q13)) ?_
 refine Sc (O_box (cs := [C.sv (C.nm i), .int .u32 (C.sz i : Nat), .bool (((C.fl i : Nat) : Int) == 1), .slice none 0 0].toArray) rfl (.tmp .hit) rfl) ?_
 intro bk357 _
 refine SL_fact (fun w hw => hI.fresh hB hw HPick.hit Q15) (fun hfr => ?_)
 have hI1 : C.Inv (bk357 :: B) { x with M := x.M ++ [(i + 1, bk357)] } := (hI.sub (fun b h => List.mem_cons_of_mem _ h)).push om om hM hfr List.mem_cons_self
 have hB1 := push_sub hB bk357
 have hm1 := hm2 bk357
 refine Ah ?_
 refine SN k1 ?_
 refine Ek [31, 2, 3, 4, 5, 12, 17] ?_
 refine Sq fun _ k2 => ?_
 refine Zw (Zl rfl oc76 .a rfl (Zn rfl (Zf rfl underlying90 rfl sz86 (Zl rfl oc86 .a rfl (Zl rfl oc83 .a rfl (Zm rfl (Z1 363 rfl (fun e he => O_makeInterface rfl (Eh he) ⟨_, underlying116, rfl⟩) .done))))))) ?_
 rw [hiv]
 refine Sc ((O_putI (.tmp (.o rfl)) (.tmp (.o rfl)) (.tmp .hit) underlying86 underlying83 Cx.tys_int (Cx.tys_out hM) .a)) ?_
 rw [C.tys_push]
 refine SN k2 ?_
 refine Ek [31, 2, 3, 4, 5, 12, 17] ?_
 refine SR fun _ k3 => ?_
 refine Mh ?_
 refine Sc (O_makeInterface rfl (.tmp .hit) ⟨_, underlying116, rfl⟩) ?_
 rw [hiv]
 refine Sc (O_store (.tmp (.o rfl)) (.tmp .hit) rfl sz47 .a .a) ?_
 refine SN k3 ?_
 refine Ek [31, 2, 3, 4, 5, 12, 17] ?_
 refine SR fun _ k4 => ?_
 refine Sc (O_alloc rfl zr280 rfl) ?_
 intro bk32 _
 refine SN k4 ?_
 refine SR fun _ k5 => ?_
 refine Mo ?_
 refine Sc (O_callE (xs := [.tmp 12]) (cap := []) rfl .func (.cons (.tmp (.o rfl)) .nil) func75 rfl rfl (fun w1 hw => f75_ok _ _ _ _ hinf w1 (hw.at_ .a))) ?_
 refine Sc (O_makeSlice0 (c := C.vl i) rfl .const (.tmp .hit) rfl underlying117 inf121 om om) ?_
 intro bk369 hk369
 refine Sc (O_nilCheck rfl (.tmp (.o rfl))) ?_
 refine Sc (Ofa underlying119 sz117) ?_
 refine Sc (O_store (.tmp .hit) (.tmp (.o rfl)) rfl sz117 .a .a) ?_
 refine SN k5 ?_
 refine Ek [32, 31, 2, 3, 4, 5, 12, 17] ?_
 refine SR fun _ k6 => ?_
 refine Sc (O_callE (xs := [.tmp 12]) (cap := []) rfl .func (.cons (.tmp (.o rfl)) .nil) func75 rfl rfl (fun w1 hw => f75_ok _ _ _ _ hinf w1 (hw.at_ .a))) ?_
 refine Mc ?_
 refine SN k6 ?_
 refine Bl ?_
 refine SW_loop (α := Rd) (fun x1 => x1.k ≤ C.vl i ∧ RowOk 2 (some x1.r) x1.k (C.enumsD i x1.k) ∧ x1.o = o + 8 * x1.k ∧ x1.l = l - 8 * x1.k ∧ x1.c = c - 8 * x1.k) (fun x1 => C.vl i - x1.k) (fun x1 => (bk32, true, .cells [x1.u0, x1.u1].toArray 280 (0, 0)) :: (x1.r.g, true, .cells x1.r.cur.toArray 121 (0, 0)) :: (C.z.tm, true, mapO (C.tysO (x.M ++ [(i + 1, bk357)]))) :: (C.z.im, true, mapO (Cx.idsO x.K)) :: (C.z.d, false, .cells (decC C.big C.st (C.N + 1) C.z).toArray 90 (0, 0)) :: (C.z.sb, false, .cells [.slice (some ⟨C.b, C.off, none⟩) C.len C.cap].toArray 224 (0, 0)) :: (C.st, false, .cells #[.pointer none, .slice (some ⟨C.b, C.toff, none⟩) C.sl C.tcap, .map none] 207 (0, 0)) :: (C.z.ro.g, false, .cells C.z.ro.cur.toArray 3 (0, 0)) :: (C.z.dt, false, .map #[] 0) :: (C.z.lm, false, .map #[] 0) :: (C.b, false, C.o) :: ((b5, true, .cells #[.nilIface] 40 (0, 0)) :: (b2, true, .cells #[.pointer (some ⟨C.z.d, 0, none⟩)] 76 (0, 0)) :: (b3, true, .cells #[.int .u32 ((i + 1 : Nat) : Int)] 83 (0, 0)) :: (b4, true, .cells #[C.iv (i + 1) bk357] 47 (0, 0)) :: (b12, true, .cells #[.int .u32 (C.nm i : Nat), .int .u32 (C.inf i : Nat), .int .u32 (C.sz i : Nat)] 209 (0, 0)) :: (bk357, true, .cells [C.sv (C.nm i), .int .u32 (C.sz i : Nat), .bool (((C.fl i : Nat) : Int) == 1), .slice (some ⟨x1.r.g, 0, none⟩) x1.k x1.r.cap].toArray 119 (0, 0)) :: T ++ oldH x.U)) (fun x1 => [(373, .int .i64 (x1.k : Nat)), (372, .int .i64 (C.vl i : Nat)), (17, .slice (some ⟨C.b, x1.o, none⟩) x1.l x1.c), (12, .pointer (some ⟨b12, 0, none⟩)), (2, .pointer (some ⟨b2, 0, none⟩)), (3, .pointer (some ⟨b3, 0, none⟩)), (4, .pointer (some ⟨b4, 0, none⟩)), (5, .pointer (some ⟨b5, 0, none⟩)), (31, .pointer (some ⟨bk357, 0, none⟩)), (32, .pointer (some ⟨bk32, 0, none⟩))]) ⟨0, x, ⟨_, _, _⟩, [], _, _, undef, o, l, c⟩ ⟨Nat.zero_le _, hk369, by simp, by simp, by simp⟩ (.cons (t := 373) .hit (.cons (t := 372) (.o rfl) (.cons (t := 17) (.o rfl) (.cons (t := 12) (.o rfl) (.cons (t := 2) (.o rfl) (.cons (t := 3) (.o rfl) (.cons (t := 4) (.o rfl) (.cons (t := 5) (.o rfl) (.cons (t := 31) (.o rfl) (.cons (t := 32) (.o rfl) .nil)))))))))) .a ?_
 rintro ⟨k, y, r, vs, u0, u1, u2, o1, l1, c1⟩ ⟨h1, hr, h7, h8, h9⟩
 dsimp only at h1 hr h7 h8 h9 ⊢
 refine SR fun _ k7 => ?_
 refine Sc (O_binOp rfl (.tmp .hit) (.tmp (.o rfl)) (fun _ => b_lss _ _ _ _ rfl)) ?_
 refine SN k7 ?_
 refine Sq fun _ k8 => ?_
 refine Sd ?_ ?_
 ·
  refine Ci fun ht374 => ?_
  have hlt : k < C.vl i := by omega
  have hw0 : W4 C.o (o1 + 0) C.big (C.ex i (2 * k)) := by
    have q := hO.ex i hi (2 * k) Q31
    rw [show o1 + 0 = C.off + C.pos i + 12 + 4 * (2 * k) by omega]
    exact q
  have hw1 : W4 C.o (o1 + 4) C.big (C.ex i (2 * k + 1)) := by
    have q := hO.ex i hi (2 * k + 1) Q31
    rw [show o1 + 4 = C.off + C.pos i + 12 + 4 * (2 * k + 1) by omega]
    exact q
  refine SS k8 ?_
  refine Ek [373, 372, 17, 12, 2, 3, 4, 5, 31, 32] ?_
  refine Sq fun _ k9 => ?_
  refine Bl ?_
  refine SR fun _ k10 => ?_
  refine Mo ?_
  refine Sc (Ola oc76) ?_
  refine Sc (O_nilCheck rfl (.tmp .hit)) ?_
  refine Sc (Ofa underlying90 sz80) ?_
  refine Sc (Ola oc80) ?_
  refine Sc (O_callM (xs := [.tmp 32, .tmp 376, .tmp 380]) (cap := []) rfl .func (.cons (.tmp (.o rfl)) (.cons (.tmp (.o rfl)) (.cons (.tmp .hit) .nil))) func87 rfl rfl .a (fun w1 hw => f87_ok C.big bk32 C.b o1 l1 c1 C.o 280 _ _ (C.ex i (2 * k)) (C.ex i (2 * k + 1)) (hw.ne_pick HPick.a .a) om om hw0 hw1 w1 (hw.at_ .a) (hw.at_ .a))) ?_
  refine Mh ?_
  refine Sc Oex ?_
  refine Sc Oex ?_
  refine Ao ?_
  refine Ao ?_
  refine SN k10 ?_
  refine Ek [34, 33, 373, 372, 17, 12, 2, 3, 4, 5, 31, 32] ?_
  refine Sq fun _ k11 => ?_
  refine SR fun _ k12 => ?_
  refine Mh ?_
  refine Sc (O_binOp rfl (.tmp .hit) .const (r := .bool false) (fun _ => rfl)) ?_
  refine SN k12 ?_
  refine Fh ?_
  refine SS k11 ?_
  refine Ek [34, 33, 373, 372, 17, 12, 2, 3, 4, 5, 31, 32] ?_
  refine SR fun _ k13 => ?_
  refine Mo ?_
  refine Mo ?_
  refine Sc (O_sliceLo 8 rfl (.tmp (.o rfl)) (.tmp .hit) rfl underlying26 sz5 om om om) ?_
  refine Ah ?_
  refine SN k13 ?_
  refine Ek [17, 34, 373, 372, 12, 2, 3, 4, 5, 31, 32] ?_
  refine Sq fun _ k14 => ?_
  refine Zw (Zl rfl oc76 .a rfl (Zn rfl (Zf rfl underlying90 rfl sz82 (Zl rfl oc82 .a rfl (Zf rfl underlying280 rfl sz73 (Zl rfl oc73 .a rfl (Z2 394 396 rfl rfl (fun e he => O_callE (xs := [.tmp 394, .tmp 396]) (cap := []) rfl .func (.cons (Eh he) (.cons (Eo he) .nil)) func77 rfl rfl (fun w1 hw => f77_w (hmt k hlt) hO.hne hO.hst hO.h32 w1 (hw.at_ .a) (hw.at_ .a))) (Zm rfl (Z1 390 rfl (fun e he => O_extract rfl (Eh he) rfl) (Z1 390 rfl (fun e he => O_extract rfl (Eh he) rfl) (Z1 398 rfl (fun e he => O_assign rfl (Eh he)) .done))))))))))) ?_
  refine Ao ?_
  refine SN k14 ?_
  refine Ek [34, 35, 17, 373, 372, 12, 2, 3, 4, 5, 31, 32] ?_
  refine Sq fun _ k15 => ?_
  refine SR fun _ k16 => ?_
  refine Mh ?_
  refine Sc (O_binOp rfl (.tmp .hit) .const (r := .bool false) (fun _ => rfl)) ?_
  refine SN k16 ?_
  refine Fh ?_
  refine SS k15 ?_
  refine Ek [35, 17, 373, 372, 12, 2, 3, 4, 5, 31, 32] ?_
  refine SR fun _ k17 => ?_
  refine Sc (Ofa underlying280 sz73) ?_
  refine Sc (Ola oc73) ?_
  refine Sc (O_convert rfl (.tmp .hit) (r := .int .u64 (C.ex i (2 * k + 1) : Nat)) (fun _ => c_int ⟨_, underlying73⟩ underlying57 (wrap_u64 _ (by have := hw1.lt; omega)))) ?_
  refine Ah ?_
  refine SN k17 ?_
  refine Ek [36, 35, 17, 373, 372, 12, 2, 3, 4, 5, 31, 32] ?_
  refine Sq fun _ k18 => ?_
  refine SR fun _ k19 => ?_
  refine Mo ?_
  refine Sc (O_nilCheck rfl (.tmp .hit)) ?_
  refine Sc (Ofa underlying119 sz4) ?_
  refine Sc (Ola oc4) ?_
  refine SN k19 ?_
  refine Sd ?_ ?_
  ·
   refine Ci fun ht409 => ?_
   have hfl : C.fl i = 1 := by omega
   refine Sr ?_
   refine Sc (Ofa underlying280 sz73) ?_
   refine Sc (Ola oc73) ?_
   refine Sc (O_convert rfl (.tmp .hit) (r := .int .i32 (if 2147483648 ≤ C.ex i (2 * k + 1) then (C.ex i (2 * k + 1) : Int) - 4294967296 else C.ex i (2 * k + 1))) (fun _ => c_int ⟨_, underlying73⟩ underlying21 (c_i32 _ hw1.lt))) ?_
   refine Sc (O_convert rfl (.tmp .hit) (r := .int .u64 ((if 2147483648 ≤ C.ex i (2 * k + 1) then C.ex i (2 * k + 1) + 18446744069414584320 else C.ex i (2 * k + 1) : Nat) : Int)) (fun _ => c_int ⟨_, underlying21⟩ underlying57 (c_u64s _ hw1.lt))) ?_
   refine Ah ?_
   refine SN k18 ?_
   refine Sr ?_
   refine Mo ?_
   refine Mo ?_
   refine Sc (O_nilCheck rfl (.tmp .hit)) ?_
   refine Sc (Ofa underlying119 sz117) ?_
   refine Sc (Ola oc117) ?_
   refine Mo ?_
   refine Mo ?_
   refine Sc (O_build (pv := [(0, _), (1, _)]) (r := .agg #[_, _]) rfl (.cons (.tmp (.o rfl)) (.cons (.tmp .hit) .nil)) (fun w => run_build w _ _ _ Q13)) ?_
   refine Sc (O_buildSlice1 rfl (.tmp .hit) underlying117 sz121 zr121 rfl rfl dc dc) ?_
   intro bk422 _
   refine Sc (O_append  rfl (.tmp (.o rfl)) (.tmp .hit) rfl underlying117 inf121 rfl dc .a1 hr .a rfl rfl om Q16 om) ?_
   intro r423 h423
   have hrn : RowOk 2 (some r423) (k + 1) (C.enumsD i (k + 1)) := h423.eq rfl (by rw [Cx.enumsD_snoc]; first | (rw [Cx.enumD_t hkd hfl]; rfl) | (rw [Cx.enumD_f hkd hfl]; rfl))
   refine Sc (O_nilCheck rfl (.tmp (.o rfl))) ?_
   refine Sc (Ofa underlying119 sz117) ?_
   refine Sc (O_store (.tmp .hit) (.tmp (.o rfl)) rfl sz117 .a .a) ?_
   refine SN k9 ?_
   refine Sr ?_
   refine Sc (O_binOp rfl (.tmp (.o rfl)) .const (fun _ => b_add _ _ _ rfl oz oz)) ?_
   refine Mh ?_
   refine Sn ?_
   refine Pl1 ?_
   exact fun _ _ ha hw => ⟨⟨k + 1, y, r423, vs, _, _, u2, o1 + 8 * 1, l1 - 8, c1 - 8⟩, Q23, ⟨by show k + 1 ≤ _; omega, hrn, by show o1 + 8 * 1 = o + 8 * (k + 1); omega, by show l1 - 8 = l - 8 * (k + 1); omega, by show c1 - 8 = c - 8 * (k + 1); omega⟩, ha.weaken (Ek10 rfl rfl rfl rfl rfl rfl rfl rfl rfl rfl), hw.weaken .a⟩
  refine Ci fun ht409 => ?_
  have hfl : ¬ C.fl i = 1 := by omega
  refine SS k18 ?_
  refine Sr ?_
  refine Mo ?_
  refine Mo ?_
  refine Sc (O_nilCheck rfl (.tmp .hit)) ?_
  refine Sc (Ofa underlying119 sz117) ?_
  refine Sc (Ola oc117) ?_
  refine Mo ?_
  refine Mo ?_
  refine Sc (O_build (pv := [(0, _), (1, _)]) (r := .agg #[_, _]) rfl (.cons (.tmp (.o rfl)) (.cons (.tmp .hit) .nil)) (fun w => run_build w _ _ _ Q13)) ?_
  refine Sc (O_buildSlice1 rfl (.tmp .hit) underlying117 sz121 zr121 rfl rfl dc dc) ?_
  intro bk422 _
  refine Sc (O_append  rfl (.tmp (.o rfl)) (.tmp .hit) rfl underlying117 inf121 rfl dc .a1 hr .a rfl rfl om Q16 om) ?_
  intro r423 h423
  have hrn : RowOk 2 (some r423) (k + 1) (C.enumsD i (k + 1)) := h423.eq rfl (by rw [Cx.enumsD_snoc]; first | (rw [Cx.enumD_t hkd hfl]; rfl) | (rw [Cx.enumD_f hkd hfl]; rfl))
  refine Sc (O_nilCheck rfl (.tmp (.o rfl))) ?_
  refine Sc (Ofa underlying119 sz117) ?_
  refine Sc (O_store (.tmp .hit) (.tmp (.o rfl)) rfl sz117 .a .a) ?_
  refine SN k9 ?_
  refine Sr ?_
  refine Sc (O_binOp rfl (.tmp (.o rfl)) .const (fun _ => b_add _ _ _ rfl oz oz)) ?_
  refine Mh ?_
  refine Sn ?_
  refine Pl1 ?_
  exact fun _ _ ha hw => ⟨⟨k + 1, y, r423, vs, _, _, u2, o1 + 8 * 1, l1 - 8, c1 - 8⟩, Q23, ⟨by show k + 1 ≤ _; omega, hrn, by show o1 + 8 * 1 = o + 8 * (k + 1); omega, by show l1 - 8 = l - 8 * (k + 1); omega, by show c1 - 8 = c - 8 * (k + 1); omega⟩, ha.weaken (Ek10 rfl rfl rfl rfl rfl rfl rfl rfl rfl rfl), hw.weaken .a⟩
 refine Ci fun ht374 => ?_
 have hke : k = C.vl i := by omega
 subst hke
 refine Xt ?_
 exact fun a w ha hw => J (_, bk357) (.mk' (A := [(bk357, _, 119), (r.g, r.cur, 121)]) (.refl _) hI1 Q22 ⟨_, _, List.mem_cons_self, .enum om hr Q22 rfl⟩) a w (ha.weaken (Ek4 rfl rfl rfl rfl)) (Cx.H_done (A := [(bk357, _, 119), (r.g, r.cur, 121)]) (hw.weaken .a))

theorem kd19_ok {C : Cx} (hO : CxOk C) {m : Nat} {S : Nat → Prop} {w0 : World} (T : Hp) (B : List Nat) (x : St) (i b2 b3 b4 b5 b12 o l c : Nat) (v4 : Value) {ds : List Deferred} {Q : Exit → Act → World → Prop} (hi : i < C.N) (hkd : C.kd i = 19) (hM : ∀ p ∈ x.M, p.1 ≠ i + 1) (hm : C.miss x.M < m + 1) (hB : ∀ b ∈ B, b ∈ cbs T) (hI : C.Inv B x) (ho : o = C.off + C.pos i + 12) (hl : l = C.len - C.pos i - 12) (hc : c = C.cap - C.pos i - 12)
    (J : ∀ z : St × Nat, C.KPost B x (i + 1) z → SK S w0 1086 ds (C.H z.1 ((b5, true, .cells #[.nilIface] 40 (0, 0)) :: (b2, true, .cells #[.pointer (some ⟨C.z.d, 0, none⟩)] 76 (0, 0)) :: (b3, true, .cells #[.int .u32 ((i + 1 : Nat) : Int)] 83 (0, 0)) :: (b4, true, .cells #[C.iv (i + 1) z.2] 47 (0, 0)) :: T)) [(2, .pointer (some ⟨b2, 0, none⟩)), (3, .pointer (some ⟨b3, 0, none⟩)), (4, .pointer (some ⟨b4, 0, none⟩)), (5, .pointer (some ⟨b5, 0, none⟩))] (Q .normal)) :
    SW none Tryz.prog S w0 1086 ds (C.H x ((b5, true, .cells #[.nilIface] 40 (0, 0)) :: (b2, true, .cells #[.pointer (some ⟨C.z.d, 0, none⟩)] 76 (0, 0)) :: (b3, true, .cells #[.int .u32 ((i + 1 : Nat) : Int)] 83 (0, 0)) :: (b4, true, .cells #[v4] 47 (0, 0)) :: (b12, true, .cells #[.int .u32 (C.nm i : Nat), .int .u32 (C.inf i : Nat), .int .u32 (C.sz i : Nat)] 209 (0, 0)) :: T)) [(2, .pointer (some ⟨b2, 0, none⟩)), (3, .pointer (some ⟨b3, 0, none⟩)), (4, .pointer (some ⟨b4, 0, none⟩)), (5, .pointer (some ⟨b5, 0, none⟩)), (12, .pointer (some ⟨b12, 0, none⟩)), (17, .slice (some ⟨C.b, o, none⟩) l c), (20, C.sv (C.nm i))] (sub [1, 1, 1, 1, 1, 1, 1, 1, 1, 1, 1, 1, 1, 1, 1, 1, 1, 0, 1, 1, 1, 1, 0, 1, 1, 1, 1, 1, 1, 1, 1, 1, 1, 1, 1, 1, 1, 1, 1, 1, 1, 1, 1, 1, 1, 1, 1, 1, 1, 1, 1, 1, 1, 1, 1, 1, 1, 1, 1, 1, 0] (cd Tryz.f63)) Q := by
 obtain ⟨r1, r2, r3, r4, r5, r6, r7⟩ := hO.rec_ i hi
 have hinf := r4.lt
 have hv8 := hO.v8 i hi
 have h31 := hO.h31
 have hlc := hO.hlc
 have hiv : ∀ b, Value.iface 116 (.pointer (some ⟨b, 0, none⟩)) = C.iv (i + 1) b := fun b => by unfold Cx.iv; rw [show C.kd (i + 1 - 1) = 19 from hkd]; rfl
 have hm2 : ∀ bk, C.miss (x.M ++ [(i + 1, bk)]) < m := fun bk => by
   have := Cx.miss_lt (C := C) (M := x.M) (id := i + 1) (b := bk) om om hM
   omega
 have hdl : dlen (C.kd i) (C.vl i) = 12 * C.vl i := by rw [hkd]; rfl
 have hmt : ∀ j, j < C.vl i → TextAt C.o C.toff C.sl (C.ex i (3 * j)) (C.str (C.ex i (3 * j))) := fun j hj => by
   have q := hO.mtxt i hi om j hj
   rw [hkd] at q
   exact q
 unfold Cx.H
 refine SR fun _ k1 => ?_
 refine Mo ?_
 refine Sc (O_callE (xs := [.tmp 12]) (cap := []) rfl .func (.cons (.tmp (.o rfl)) .nil) func79 rfl rfl (fun w1 hw => f79_ok _ _ _ _ w1 (hw.at_ .a))) ?_
 refine Sc (O_callE (xs := [.tmp 12]) (cap := []) rfl .func (.cons (.tmp (.o rfl)) .nil) func86 rfl rfl (fun w1 hw => f86_ok _ _ _ _ hinf w1 (hw.at_ .a))) ?_
 refine Sc (O_build (pv := [(0, _), (1, _), (2, _), (3, _)]) (r := .agg #[C.sv (C.nm i), .int .u32 (C.sz i : Nat), .bool (((C.fl i : Nat) : Int) == 1), .slice none 0 0]) rfl (.cons (.tmp (.o rfl)) (.cons (.tmp (.o rfl)) (.cons (.tmp .hit) (.cons .const .nil)))) (fun w => run_build w _ _ _ Q13)) ?_
 refine Sc (O_box (cs := [C.sv (C.nm i), .int .u32 (C.sz i : Nat), .bool (((C.fl i : Nat) : Int) == 1), .slice none 0 0].toArray) rfl (.tmp .hit) rfl) ?_
 intro bk776 _
 refine SL_fact (fun w hw => hI.fresh hB hw HPick.hit Q15) (fun hfr => ?_)
 have hI1 : C.Inv (bk776 :: B) { x with M := x.M ++ [(i + 1, bk776)] } := (hI.sub (fun b h => List.mem_cons_of_mem _ h)).push om om hM hfr List.mem_cons_self
 have hB1 := push_sub hB bk776
 have hm1 := hm2 bk776
 refine Ah ?_
 refine SN k1 ?_
 refine Ek [64, 2, 3, 4, 5, 12, 17] ?_
 refine Sq fun _ k2 => ?_
 refine Zw (Zl rfl oc76 .a rfl (Zn rfl (Zf rfl underlying90 rfl sz86 (Zl rfl oc86 .a rfl (Zl rfl oc83 .a rfl (Zm rfl (Z1 782 rfl (fun e he => O_makeInterface rfl (Eh he) ⟨_, underlying116, rfl⟩) .done))))))) ?_
 rw [hiv]
 refine Sc ((O_putI (.tmp (.o rfl)) (.tmp (.o rfl)) (.tmp .hit) underlying86 underlying83 Cx.tys_int (Cx.tys_out hM) .a)) ?_
 rw [C.tys_push]
 refine SN k2 ?_
 refine Ek [64, 2, 3, 4, 5, 12, 17] ?_
 refine SR fun _ k3 => ?_
 refine Mh ?_
 refine Sc (O_makeInterface rfl (.tmp .hit) ⟨_, underlying116, rfl⟩) ?_
 rw [hiv]
 refine Sc (O_store (.tmp (.o rfl)) (.tmp .hit) rfl sz47 .a .a) ?_
 refine SN k3 ?_
 refine Ek [64, 2, 3, 4, 5, 12, 17] ?_
 refine SR fun _ k4 => ?_
 refine Mh ?_
 refine Sc (O_callE (xs := [.tmp 12]) (cap := []) rfl .func (.cons (.tmp (.o rfl)) .nil) func75 rfl rfl (fun w1 hw => f75_ok _ _ _ _ hinf w1 (hw.at_ .a))) ?_
 refine Sc (O_makeSlice0 (c := C.vl i) rfl .const (.tmp .hit) rfl underlying117 inf121 om om) ?_
 intro bk788 hk788
 refine Sc (O_nilCheck rfl (.tmp (.o rfl))) ?_
 refine Sc (Ofa underlying119 sz117) ?_
 refine Sc (O_store (.tmp .hit) (.tmp (.o rfl)) rfl sz117 .a .a) ?_
 refine SN k4 ?_
 refine Ek [64, 2, 3, 4, 5, 12, 17] ?_
 refine SR fun _ k5 => ?_
 refine Sc (O_alloc rfl zr298 rfl) ?_
 intro bk65 _
 refine SN k5 ?_
 refine SR fun _ k6 => ?_
 refine Sc (O_callE (xs := [.tmp 12]) (cap := []) rfl .func (.cons (.tmp (.o rfl)) .nil) func75 rfl rfl (fun w1 hw => f75_ok _ _ _ _ hinf w1 (hw.at_ .a))) ?_
 refine Mc ?_
 refine SN k6 ?_
 refine Bl ?_
 refine SW_loop (α := Rd) (fun x1 => x1.k ≤ C.vl i ∧ RowOk 2 (some x1.r) x1.k (C.enumsD i x1.k) ∧ x1.o = o + 12 * x1.k ∧ x1.l = l - 12 * x1.k ∧ x1.c = c - 12 * x1.k) (fun x1 => C.vl i - x1.k) (fun x1 => (bk65, true, .cells [x1.u0, x1.u1, x1.u2].toArray 298 (0, 0)) :: (x1.r.g, true, .cells x1.r.cur.toArray 121 (0, 0)) :: (C.z.tm, true, mapO (C.tysO (x.M ++ [(i + 1, bk776)]))) :: (C.z.im, true, mapO (Cx.idsO x.K)) :: (C.z.d, false, .cells (decC C.big C.st (C.N + 1) C.z).toArray 90 (0, 0)) :: (C.z.sb, false, .cells [.slice (some ⟨C.b, C.off, none⟩) C.len C.cap].toArray 224 (0, 0)) :: (C.st, false, .cells #[.pointer none, .slice (some ⟨C.b, C.toff, none⟩) C.sl C.tcap, .map none] 207 (0, 0)) :: (C.z.ro.g, false, .cells C.z.ro.cur.toArray 3 (0, 0)) :: (C.z.dt, false, .map #[] 0) :: (C.z.lm, false, .map #[] 0) :: (C.b, false, C.o) :: ((b5, true, .cells #[.nilIface] 40 (0, 0)) :: (b2, true, .cells #[.pointer (some ⟨C.z.d, 0, none⟩)] 76 (0, 0)) :: (b3, true, .cells #[.int .u32 ((i + 1 : Nat) : Int)] 83 (0, 0)) :: (b4, true, .cells #[C.iv (i + 1) bk776] 47 (0, 0)) :: (b12, true, .cells #[.int .u32 (C.nm i : Nat), .int .u32 (C.inf i : Nat), .int .u32 (C.sz i : Nat)] 209 (0, 0)) :: (bk776, true, .cells [C.sv (C.nm i), .int .u32 (C.sz i : Nat), .bool (((C.fl i : Nat) : Int) == 1), .slice (some ⟨x1.r.g, 0, none⟩) x1.k x1.r.cap].toArray 119 (0, 0)) :: T ++ oldH x.U)) (fun x1 => [(792, .int .i64 (x1.k : Nat)), (791, .int .i64 (C.vl i : Nat)), (17, .slice (some ⟨C.b, x1.o, none⟩) x1.l x1.c), (12, .pointer (some ⟨b12, 0, none⟩)), (2, .pointer (some ⟨b2, 0, none⟩)), (3, .pointer (some ⟨b3, 0, none⟩)), (4, .pointer (some ⟨b4, 0, none⟩)), (5, .pointer (some ⟨b5, 0, none⟩)), (64, .pointer (some ⟨bk776, 0, none⟩)), (65, .pointer (some ⟨bk65, 0, none⟩))]) ⟨0, x, ⟨_, _, _⟩, [], _, _, _, o, l, c⟩ ⟨Nat.zero_le _, hk788, by simp, by simp, by simp⟩ (.cons (t := 792) .hit (.cons (t := 791) (.o rfl) (.cons (t := 17) (.o rfl) (.cons (t := 12) (.o rfl) (.cons (t := 2) (.o rfl) (.cons (t := 3) (.o rfl) (.cons (t := 4) (.o rfl) (.cons (t := 5) (.o rfl) (.cons (t := 64) (.o rfl) (.cons (t := 65) (.o rfl) .nil)))))))))) .a ?_
 rintro ⟨k, y, r, vs, u0, u1, u2, o1, l1, c1⟩ ⟨h1, hr, h7, h8, h9⟩
 dsimp only at h1 hr h7 h8 h9 ⊢
 refine SR fun _ k7 => ?_
 refine Sc (O_binOp rfl (.tmp .hit) (.tmp (.o rfl)) (fun _ => b_lss _ _ _ _ rfl)) ?_
 refine SN k7 ?_
 refine Sq fun _ k8 => ?_
 refine Sd ?_ ?_
 ·
  refine Ci fun ht793 => ?_
  have hlt : k < C.vl i := by omega
  have hw0 : W4 C.o (o1 + 0) C.big (C.ex i (3 * k)) := by
    have q := hO.ex i hi (3 * k) Q31
    rw [show o1 + 0 = C.off + C.pos i + 12 + 4 * (3 * k) by omega]
    exact q
  have hw1 : W4 C.o (o1 + 4) C.big (C.ex i (3 * k + 1)) := by
    have q := hO.ex i hi (3 * k + 1) Q31
    rw [show o1 + 4 = C.off + C.pos i + 12 + 4 * (3 * k + 1) by omega]
    exact q
  have hw2 : W4 C.o (o1 + 8) C.big (C.ex i (3 * k + 2)) := by
    have q := hO.ex i hi (3 * k + 2) Q31
    rw [show o1 + 8 = C.off + C.pos i + 12 + 4 * (3 * k + 2) by omega]
    exact q
  refine SS k8 ?_
  refine Ek [792, 791, 17, 12, 2, 3, 4, 5, 64, 65] ?_
  refine Sq fun _ k9 => ?_
  refine Bl ?_
  refine SR fun _ k10 => ?_
  refine Mo ?_
  refine Sc (Ola oc76) ?_
  refine Sc (O_nilCheck rfl (.tmp .hit)) ?_
  refine Sc (Ofa underlying90 sz80) ?_
  refine Sc (Ola oc80) ?_
  refine Sc (O_callM (xs := [.tmp 65, .tmp 795, .tmp 799]) (cap := []) rfl .func (.cons (.tmp (.o rfl)) (.cons (.tmp (.o rfl)) (.cons (.tmp .hit) .nil))) func94 rfl rfl .a (fun w1 hw => f94_ok C.big bk65 C.b o1 l1 c1 C.o 298 _ _ _ (C.ex i (3 * k)) (C.ex i (3 * k + 1)) (C.ex i (3 * k + 2)) (hw.ne_pick HPick.a .a) om om hw0 hw1 hw2 w1 (hw.at_ .a) (hw.at_ .a))) ?_
  refine Mh ?_
  refine Sc Oex ?_
  refine Sc Oex ?_
  refine Ao ?_
  refine Ao ?_
  refine SN k10 ?_
  refine Ek [67, 66, 792, 791, 17, 12, 2, 3, 4, 5, 64, 65] ?_
  refine Sq fun _ k11 => ?_
  refine SR fun _ k12 => ?_
  refine Mh ?_
  refine Sc (O_binOp rfl (.tmp .hit) .const (r := .bool false) (fun _ => rfl)) ?_
  refine SN k12 ?_
  refine Fh ?_
  refine SS k11 ?_
  refine Ek [67, 66, 792, 791, 17, 12, 2, 3, 4, 5, 64, 65] ?_
  refine SR fun _ k13 => ?_
  refine Mo ?_
  refine Mo ?_
  refine Sc (O_sliceLo 12 rfl (.tmp (.o rfl)) (.tmp .hit) rfl underlying26 sz5 om om om) ?_
  refine Ah ?_
  refine SN k13 ?_
  refine Ek [17, 67, 792, 791, 12, 2, 3, 4, 5, 64, 65] ?_
  refine Sq fun _ k14 => ?_
  refine Zw (Zl rfl oc76 .a rfl (Zn rfl (Zf rfl underlying90 rfl sz82 (Zl rfl oc82 .a rfl (Zf rfl underlying298 rfl sz73 (Zl rfl oc73 .a rfl (Z2 813 815 rfl rfl (fun e he => O_callE (xs := [.tmp 813, .tmp 815]) (cap := []) rfl .func (.cons (Eh he) (.cons (Eo he) .nil)) func77 rfl rfl (fun w1 hw => f77_w (hmt k hlt) hO.hne hO.hst hO.h32 w1 (hw.at_ .a) (hw.at_ .a))) (Zm rfl (Z1 809 rfl (fun e he => O_extract rfl (Eh he) rfl) (Z1 809 rfl (fun e he => O_extract rfl (Eh he) rfl) (Z1 817 rfl (fun e he => O_assign rfl (Eh he)) .done))))))))))) ?_
  refine Ao ?_
  refine SN k14 ?_
  refine Ek [67, 68, 17, 792, 791, 12, 2, 3, 4, 5, 64, 65] ?_
  refine Sq fun _ k15 => ?_
  refine SR fun _ k16 => ?_
  refine Mh ?_
  refine Sc (O_binOp rfl (.tmp .hit) .const (r := .bool false) (fun _ => rfl)) ?_
  refine SN k16 ?_
  refine Fh ?_
  refine SS k15 ?_
  refine Ek [68, 17, 792, 791, 12, 2, 3, 4, 5, 64, 65] ?_
  refine SR fun _ k17 => ?_
  refine Sc (Ofa underlying298 sz73) ?_
  refine Sc (Ola oc73) ?_
  refine Sc (O_convert rfl (.tmp .hit) (r := .int .u64 (C.ex i (3 * k + 2) : Nat)) (fun _ => c_int ⟨_, underlying73⟩ underlying57 (wrap_u64 _ (by have := hw2.lt; omega)))) ?_
  refine Sc (O_binOp rfl (.tmp .hit) .const (r := .int .u64 ((C.ex i (3 * k + 2) * 4294967296 : Nat) : Int)) (fun _ => b_shl .u64 (C.ex i (3 * k + 2)) 32 dc (wrap_u64 _ (by have := hw2.lt; omega)) _)) ?_
  refine Sc (Ofa underlying298 sz73) ?_
  refine Sc (Ola oc73) ?_
  refine Sc (O_convert rfl (.tmp .hit) (r := .int .u64 (C.ex i (3 * k + 1) : Nat)) (fun _ => c_int ⟨_, underlying73⟩ underlying57 (wrap_u64 _ (by have := hw1.lt; omega)))) ?_
  refine Sc (O_binOp rfl (.tmp (.o rfl)) (.tmp .hit) (fun _ => b_or_u64 (C.ex i (3 * k + 2) * 4294967296) (C.ex i (3 * k + 1)) (C.ex i (3 * k + 2) * 4294967296 + C.ex i (3 * k + 1)) rfl rfl (by rw [Nat.or_comm, Nat.add_comm (C.ex i (3 * k + 2) * 4294967296)]; exact or_add _ _ 32 hw1.lt) (by have := hw2.lt; omega) (by have := hw1.lt; omega) (by have := hw2.lt; have := hw1.lt; omega))) ?_
  refine Ah ?_
  refine SN k17 ?_
  refine Sr ?_
  refine Mo ?_
  refine Mo ?_
  refine Sc (O_nilCheck rfl (.tmp .hit)) ?_
  refine Sc (Ofa underlying119 sz117) ?_
  refine Sc (Ola oc117) ?_
  refine Mo ?_
  refine Mo ?_
  refine Sc (O_build (pv := [(0, _), (1, _)]) (r := .agg #[_, _]) rfl (.cons (.tmp (.o rfl)) (.cons (.tmp .hit) .nil)) (fun w => run_build w _ _ _ Q13)) ?_
  refine Sc (O_buildSlice1 rfl (.tmp .hit) underlying117 sz121 zr121 rfl rfl dc dc) ?_
  intro bk838 _
  refine Sc (O_append  rfl (.tmp (.o rfl)) (.tmp .hit) rfl underlying117 inf121 rfl dc .a1 hr .a rfl rfl om Q16 om) ?_
  intro r839 h839
  have hrn : RowOk 2 (some r839) (k + 1) (C.enumsD i (k + 1)) := h839.eq rfl (by rw [Cx.enumsD_snoc, Cx.enumD_64 hkd]; rfl)
  refine Sc (O_nilCheck rfl (.tmp (.o rfl))) ?_
  refine Sc (Ofa underlying119 sz117) ?_
  refine Sc (O_store (.tmp .hit) (.tmp (.o rfl)) rfl sz117 .a .a) ?_
  refine SN k9 ?_
  refine Sr ?_
  refine Sc (O_binOp rfl (.tmp (.o rfl)) .const (fun _ => b_add _ _ _ rfl oz oz)) ?_
  refine Mh ?_
  refine Sn ?_
  refine Pl1 ?_
  exact fun _ _ ha hw => ⟨⟨k + 1, y, r839, vs, _, _, _, o1 + 12 * 1, l1 - 12, c1 - 12⟩, Q23, ⟨by show k + 1 ≤ _; omega, hrn, by show o1 + 12 * 1 = o + 12 * (k + 1); omega, by show l1 - 12 = l - 12 * (k + 1); omega, by show c1 - 12 = c - 12 * (k + 1); omega⟩, ha.weaken (Ek10 rfl rfl rfl rfl rfl rfl rfl rfl rfl rfl), hw.weaken .a⟩
 refine Ci fun ht793 => ?_
 have hke : k = C.vl i := by omega
 subst hke
 refine Xt ?_
 exact fun a w ha hw => J (_, bk776) (.mk' (A := [(bk776, _, 119), (r.g, r.cur, 121)]) (.refl _) hI1 Q22 ⟨_, _, List.mem_cons_self, .enum om hr Q22 rfl⟩) a w (ha.weaken (Ek4 rfl rfl rfl rfl)) (Cx.H_done (A := [(bk776, _, 119), (r.g, r.cur, 121)]) (hw.weaken .a))

namespace Cx
variable (C : Cx)
def paramD (i j : Nat) (v : Value) : List Value := [C.sv (C.ex i (2 * j)), v]
def paramsD (i n : Nat) (vs : List Value) : List Value := (List.range n).flatMap fun j => C.paramD i j (vs.getD j undef)
theorem paramsD_snoc (i : Nat) {n : Nat} {vs : List Value} (h : vs.length = n) (v : Value) : C.paramsD i (n + 1) (vs ++ [v]) = C.paramsD i n vs ++ C.paramD i n v := flatMap_snoc (C.paramD i) h v
def secD (i j : Nat) (v : Value) : List Value := [v, .int .u32 (C.ex i (3 * j + 1) : Nat), .int .u32 (C.ex i (3 * j + 2) : Nat)]
def secsD (i n : Nat) (vs : List Value) : List Value := (List.range n).flatMap fun j => C.secD i j (vs.getD j undef)
theorem secsD_snoc (i : Nat) {n : Nat} {vs : List Value} (h : vs.length = n) (v : Value) : C.secsD i (n + 1) (vs ++ [v]) = C.secsD i n vs ++ C.secD i n v := flatMap_snoc (C.secD i) h v
end Cx

theorem kd13_ok {C : Cx} (hO : CxOk C) {m : Nat} (hC : InflOk C m) {S : Nat → Prop} {w0 : World} (T : Hp) (B : List Nat) (x : St) (i b2 b3 b4 b5 b8 b12 o l c : Nat) (v4 : Value) {ds : List Deferred} {Q : Exit → Act → World → Prop} (hi : i < C.N) (hkd : C.kd i = 13) (hM : ∀ p ∈ x.M, p.1 ≠ i + 1) (hm : C.miss x.M < m + 1) (hB : ∀ b ∈ B, b ∈ cbs T) (hI : C.Inv B x) (ho : o = C.off + C.pos i + 12) (hl : l = C.len - C.pos i - 12) (hc : c = C.cap - C.pos i - 12)
    (J : ∀ z : St × Nat, C.KPost B x (i + 1) z → SK S w0 1086 ds (C.H z.1 ((b5, true, .cells #[.nilIface] 40 (0, 0)) :: (b2, true, .cells #[.pointer (some ⟨C.z.d, 0, none⟩)] 76 (0, 0)) :: (b3, true, .cells #[.int .u32 ((i + 1 : Nat) : Int)] 83 (0, 0)) :: (b4, true, .cells #[C.iv (i + 1) z.2] 47 (0, 0)) :: T)) [(2, .pointer (some ⟨b2, 0, none⟩)), (3, .pointer (some ⟨b3, 0, none⟩)), (4, .pointer (some ⟨b4, 0, none⟩)), (5, .pointer (some ⟨b5, 0, none⟩))] (Q .normal)) :
    SW none Tryz.prog S w0 1086 ds (C.H x ((b5, true, .cells #[.nilIface] 40 (0, 0)) :: (b2, true, .cells #[.pointer (some ⟨C.z.d, 0, none⟩)] 76 (0, 0)) :: (b3, true, .cells #[.int .u32 ((i + 1 : Nat) : Int)] 83 (0, 0)) :: (b4, true, .cells #[v4] 47 (0, 0)) :: (b8, true, .cells #[.func (.func 73) #[] #[.pointer (some ⟨b2, 0, none⟩)]] 251 (0, 0)) :: (b12, true, .cells #[.int .u32 (C.nm i : Nat), .int .u32 (C.inf i : Nat), .int .u32 (C.sz i : Nat)] 209 (0, 0)) :: T)) [(2, .pointer (some ⟨b2, 0, none⟩)), (3, .pointer (some ⟨b3, 0, none⟩)), (4, .pointer (some ⟨b4, 0, none⟩)), (5, .pointer (some ⟨b5, 0, none⟩)), (8, .pointer (some ⟨b8, 0, none⟩)), (12, .pointer (some ⟨b12, 0, none⟩)), (17, .slice (some ⟨C.b, o, none⟩) l c)] (sub [1, 1, 1, 1, 1, 1, 1, 1, 1, 1, 1, 1, 1, 1, 1, 1, 1, 0, 1, 1, 1, 1, 0, 1, 1, 1, 1, 1, 1, 1, 1, 1, 1, 1, 1, 1, 1, 1, 1, 1, 1, 1, 1, 1, 1, 1, 1, 1, 0] (cd Tryz.f63)) Q := by
 obtain ⟨r1, r2, r3, r4, r5, r6, r7⟩ := hO.rec_ i hi
 have hinf := r4.lt
 have hv8 := hO.v8 i hi
 have h31 := hO.h31
 have hlc := hO.hlc
 have hiv : ∀ b, Value.iface 141 (.pointer (some ⟨b, 0, none⟩)) = C.iv (i + 1) b := fun b => by unfold Cx.iv; rw [show C.kd (i + 1 - 1) = 13 from hkd]; rfl
 have hm2 : ∀ bk, C.miss (x.M ++ [(i + 1, bk)]) < m := fun bk => by
   have := Cx.miss_lt (C := C) (M := x.M) (id := i + 1) (b := bk) om om hM
   omega
 have hdl : dlen (C.kd i) (C.vl i) = 8 * C.vl i := by rw [hkd]; rfl
 have hmt : ∀ j, j < C.vl i → TextAt C.o C.toff C.sl (C.ex i (2 * j)) (C.str (C.ex i (2 * j))) := fun j hj => by
   have q := hO.mtxt i hi om j hj
   rw [hkd] at q
   exact q
 unfold Cx.H
 refine SR fun _ k1 => ?_
 refine Sc (O_build (pv := []) (r := .agg #[.nilIface, .slice none 0 0]) rfl .nil (fun w => run_build w _ _ _ Q13)) ?_
 refine Sc (O_box (cs := [.nilIface, .slice none 0 0].toArray) rfl (.tmp .hit) rfl) ?_
 intro bk541 _
 refine SL_fact (fun w hw => hI.fresh hB hw HPick.hit Q15) (fun hfr => ?_)
 have hI1 : C.Inv (bk541 :: B) { x with M := x.M ++ [(i + 1, bk541)] } := (hI.sub (fun b h => List.mem_cons_of_mem _ h)).push om om hM hfr List.mem_cons_self
 have hB1 := push_sub hB bk541
 have hm1 := hm2 bk541
 refine Ah ?_
 refine SN k1 ?_
 refine Ek [42, 2, 3, 4, 5, 8, 12, 17] ?_
 refine Sq fun _ k2 => ?_
 refine Zw (Zl rfl oc76 .a rfl (Zn rfl (Zf rfl underlying90 rfl sz86 (Zl rfl oc86 .a rfl (Zl rfl oc83 .a rfl (Zm rfl (Z1 547 rfl (fun e he => O_makeInterface rfl (Eh he) ⟨_, underlying141, rfl⟩) .done))))))) ?_
 rw [hiv]
 refine Sc ((O_putI (.tmp (.o rfl)) (.tmp (.o rfl)) (.tmp .hit) underlying86 underlying83 Cx.tys_int (Cx.tys_out hM) .a)) ?_
 rw [C.tys_push]
 refine SN k2 ?_
 refine Ek [42, 2, 3, 4, 5, 8, 12, 17] ?_
 refine SR fun _ k3 => ?_
 refine Sc (O_callE (xs := [.tmp 12]) (cap := []) rfl .func (.cons (.tmp (.o rfl)) .nil) func75 rfl rfl (fun w1 hw => f75_ok _ _ _ _ hinf w1 (hw.at_ .a))) ?_
 refine Sc (O_makeSlice0 (c := C.vl i) rfl .const (.tmp .hit) rfl underlying142 inf146 om om) ?_
 intro bk550 hk550
 refine Ah ?_
 refine SN k3 ?_
 refine Ek [43, 42, 2, 3, 4, 5, 8, 12, 17] ?_
 refine SR fun _ k4 => ?_
 refine Sc (O_alloc rfl zr286 rfl) ?_
 intro bk44 _
 refine SN k4 ?_
 refine Sq fun _ k5 => ?_
 refine SR fun _ k6 => ?_
 refine Sc (O_callE (xs := [.tmp 12]) (cap := []) rfl .func (.cons (.tmp (.o rfl)) .nil) func75 rfl rfl (fun w1 hw => f75_ok _ _ _ _ hinf w1 (hw.at_ .a))) ?_
 refine Mc ?_
 refine SN k6 ?_
 refine Bl ?_
 refine SW_loop (α := Rd) (fun x1 => C.RdOk (bk541 :: B) { x with M := x.M ++ [(i + 1, bk541)] } m (C.vl i) o l c (fun j => C.ex i (2 * j + 1)) 8 x1 ∧ RowOk 2 (some x1.r) x1.k (C.paramsD i x1.k x1.vs)) (fun x1 => C.vl i - x1.k) (fun x1 => (bk44, true, .cells [x1.u0, x1.u1].toArray 286 (0, 0)) :: (x1.r.g, true, .cells x1.r.cur.toArray 146 (0, 0)) :: (C.z.tm, true, mapO (C.tysO x1.y.M)) :: (C.z.im, true, mapO (Cx.idsO x1.y.K)) :: (C.z.d, false, .cells (decC C.big C.st (C.N + 1) C.z).toArray 90 (0, 0)) :: (C.z.sb, false, .cells [.slice (some ⟨C.b, C.off, none⟩) C.len C.cap].toArray 224 (0, 0)) :: (C.st, false, .cells #[.pointer none, .slice (some ⟨C.b, C.toff, none⟩) C.sl C.tcap, .map none] 207 (0, 0)) :: (C.z.ro.g, false, .cells C.z.ro.cur.toArray 3 (0, 0)) :: (C.z.dt, false, .map #[] 0) :: (C.z.lm, false, .map #[] 0) :: (C.b, false, C.o) :: ((b5, true, .cells #[.nilIface] 40 (0, 0)) :: (b2, true, .cells #[.pointer (some ⟨C.z.d, 0, none⟩)] 76 (0, 0)) :: (b3, true, .cells #[.int .u32 ((i + 1 : Nat) : Int)] 83 (0, 0)) :: (b4, true, .cells #[v4] 47 (0, 0)) :: (b8, true, .cells #[.func (.func 73) #[] #[.pointer (some ⟨b2, 0, none⟩)]] 251 (0, 0)) :: (b12, true, .cells #[.int .u32 (C.nm i : Nat), .int .u32 (C.inf i : Nat), .int .u32 (C.sz i : Nat)] 209 (0, 0)) :: (bk541, true, .cells [.nilIface, .slice none 0 0].toArray 144 (0, 0)) :: T ++ oldH x1.y.U)) (fun x1 => [(552, .int .i64 (x1.k : Nat)), (551, .int .i64 (C.vl i : Nat)), (43, .slice (some ⟨x1.r.g, 0, none⟩) x1.k x1.r.cap), (17, .slice (some ⟨C.b, x1.o, none⟩) x1.l x1.c), (12, .pointer (some ⟨b12, 0, none⟩)), (8, .pointer (some ⟨b8, 0, none⟩)), (2, .pointer (some ⟨b2, 0, none⟩)), (3, .pointer (some ⟨b3, 0, none⟩)), (4, .pointer (some ⟨b4, 0, none⟩)), (5, .pointer (some ⟨b5, 0, none⟩)), (42, .pointer (some ⟨bk541, 0, none⟩)), (44, .pointer (some ⟨bk44, 0, none⟩))]) ⟨0, { x with M := x.M ++ [(i + 1, bk541)] }, ⟨_, _, _⟩, [], _, _, undef, o, l, c⟩ ⟨⟨Nat.zero_le _, .refl _, hI1, hm1, rfl, fun j v h => by simp at h, by simp, by simp, by simp⟩, hk550⟩ (.cons (t := 552) .hit (.cons (t := 551) (.o rfl) (.cons (t := 43) (.o rfl) (.cons (t := 17) (.o rfl) (.cons (t := 12) (.o rfl) (.cons (t := 8) (.o rfl) (.cons (t := 2) (.o rfl) (.cons (t := 3) (.o rfl) (.cons (t := 4) (.o rfl) (.cons (t := 5) (.o rfl) (.cons (t := 42) (.o rfl) (.cons (t := 44) (.o rfl) .nil)))))))))))) .a ?_
 rintro ⟨k, y, r, vs, u0, u1, u2, o1, l1, c1⟩ ⟨⟨h1, h2, h3, h4, h5, h6, h7, h8, h9⟩, hr⟩
 dsimp only at h1 h2 h3 h4 h5 h6 h7 h8 h9 hr ⊢
 refine SR fun _ k7 => ?_
 refine Sc (O_binOp rfl (.tmp .hit) (.tmp (.o rfl)) (fun _ => b_lss _ _ _ _ rfl)) ?_
 refine SN k7 ?_
 refine Sq fun _ k8 => ?_
 refine Sd ?_ ?_
 ·
  refine Ci fun ht553 => ?_
  have hlt : k < C.vl i := by omega
  have hw0 : W4 C.o (o1 + 0) C.big (C.ex i (2 * k)) := by
    have q := hO.ex i hi (2 * k) Q31
    rw [show o1 + 0 = C.off + C.pos i + 12 + 4 * (2 * k) by omega]
    exact q
  have hw1 : W4 C.o (o1 + 4) C.big (C.ex i (2 * k + 1)) := by
    have q := hO.ex i hi (2 * k + 1) Q31
    rw [show o1 + 4 = C.off + C.pos i + 12 + 4 * (2 * k + 1) by omega]
    exact q
  refine SS k8 ?_
  refine Ek [552, 551, 43, 17, 12, 8, 2, 3, 4, 5, 42, 44] ?_
  refine Sq fun _ k9 => ?_
  refine Bl ?_
  refine SR fun _ k10 => ?_
  refine Mo ?_
  refine Sc (Ola oc76) ?_
  refine Sc (O_nilCheck rfl (.tmp .hit)) ?_
  refine Sc (Ofa underlying90 sz80) ?_
  refine Sc (Ola oc80) ?_
  refine Sc (O_callM (xs := [.tmp 44, .tmp 555, .tmp 559]) (cap := []) rfl .func (.cons (.tmp (.o rfl)) (.cons (.tmp (.o rfl)) (.cons (.tmp .hit) .nil))) func90 rfl rfl .a (fun w1 hw => f90_ok C.big bk44 C.b o1 l1 c1 C.o 286 _ _ (C.ex i (2 * k)) (C.ex i (2 * k + 1)) (hw.ne_pick HPick.a .a) om om hw0 hw1 w1 (hw.at_ .a) (hw.at_ .a))) ?_
  refine Mh ?_
  refine Sc Oex ?_
  refine Sc Oex ?_
  refine Ao ?_
  refine Ao ?_
  refine SN k10 ?_
  refine Ek [46, 45, 552, 551, 43, 17, 12, 8, 2, 3, 4, 5, 42, 44] ?_
  refine Sq fun _ k11 => ?_
  refine SR fun _ k12 => ?_
  refine Mh ?_
  refine Sc (O_binOp rfl (.tmp .hit) .const (r := .bool false) (fun _ => rfl)) ?_
  refine SN k12 ?_
  refine Fh ?_
  refine SS k11 ?_
  refine Ek [46, 45, 552, 551, 43, 17, 12, 8, 2, 3, 4, 5, 42, 44] ?_
  refine SR fun _ k13 => ?_
  refine Mo ?_
  refine Mo ?_
  refine Sc (O_sliceLo 8 rfl (.tmp (.o rfl)) (.tmp .hit) rfl underlying26 sz5 om om om) ?_
  refine Ah ?_
  refine SN k13 ?_
  refine Ek [17, 46, 552, 551, 43, 12, 8, 2, 3, 4, 5, 42, 44] ?_
  refine Sq fun _ k14 => ?_
  refine Zw (Zl rfl oc76 .a rfl (Zn rfl (Zf rfl underlying90 rfl sz82 (Zl rfl oc82 .a rfl (Zf rfl underlying286 rfl sz73 (Zl rfl oc73 .a rfl (Z2 573 575 rfl rfl (fun e he => O_callE (xs := [.tmp 573, .tmp 575]) (cap := []) rfl .func (.cons (Eh he) (.cons (Eo he) .nil)) func77 rfl rfl (fun w1 hw => f77_w (hmt k hlt) hO.hne hO.hst hO.h32 w1 (hw.at_ .a) (hw.at_ .a))) (Zm rfl (Z1 569 rfl (fun e he => O_extract rfl (Eh he) rfl) (Z1 569 rfl (fun e he => O_extract rfl (Eh he) rfl) (Z1 577 rfl (fun e he => O_assign rfl (Eh he)) .done))))))))))) ?_
  refine Ao ?_
  refine SN k14 ?_
  refine Ek [46, 47, 17, 552, 551, 43, 12, 8, 2, 3, 4, 5, 42, 44] ?_
  refine Sq fun _ k15 => ?_
  refine SR fun _ k16 => ?_
  refine Mh ?_
  refine Sc (O_binOp rfl (.tmp .hit) .const (r := .bool false) (fun _ => rfl)) ?_
  refine SN k16 ?_
  refine Fh ?_
  refine SS k15 ?_
  refine Ek [47, 17, 552, 551, 43, 12, 8, 2, 3, 4, 5, 42, 44] ?_
  refine SR fun _ k17 => ?_
  refine Mh ?_
  refine Sc (O_build (pv := [(0, _)]) (r := .agg #[_, .nilIface]) rfl (.cons (.tmp .hit) .nil) (fun w => run_build w _ _ _ Q13)) ?_
  refine Sc (O_alloc rfl zr146 rfl) ?_
  intro bk48 _
  refine Sc (O_storeA (vs := [_, _]) (.tmp .hit) (.tmp (.o rfl)) rfl sz146 rfl .a dc rfl) ?_
  refine SN k17 ?_
  refine Ek [48, 17, 552, 551, 43, 12, 8, 2, 3, 4, 5, 42, 44] ?_
  refine SR fun _ k18 => ?_
  refine Sc (Ola oc251) ?_
  refine Sc (Ofa underlying286 sz83) ?_
  refine Sc (Ola oc83) ?_
  refine Sc (Ofa underlying146 sz47) ?_
  refine Sc (O_fix hC (xs := [.tmp 586, .tmp 587]) rfl (.tmp (.o rfl)) (.cons (.tmp (.o rfl)) (.cons (.tmp .hit) .nil)) HPicks.a .a h4 (hO.refp i hi hkd k hlt) (Nat.le_of_ble_eq_true rfl) h3 hB1) ?_
  rintro ⟨y1, v1⟩ hz1
  dsimp only [Cx.H, List.cons_append]
  have hv1 : v1.oneCell' = true := hz1.ref.one
  refine SN k18 ?_
  refine Sr ?_
  refine Mo ?_
  refine Sc (O_loadA rfl (.tmp (.o rfl)) underlying146 sz146 .a rfl) ?_
  refine Sc (O_buildSlice1 rfl (.tmp .hit) underlying142 sz146 zr146 rfl rfl dc dc) ?_
  intro bk591 _
  refine Sc (O_append  rfl (.tmp (.o rfl)) (.tmp .hit) rfl underlying142 inf146 rfl dc .a1 hr .a rfl (by simp only [List.all_cons, List.all_nil, hv1]; rfl) om Q16 om) ?_
  intro r592 h592
  have hrn : RowOk 2 (some r592) (k + 1) (C.paramsD i (k + 1) (vs ++ [v1])) := h592.eq rfl (by rw [Cx.paramsD_snoc C i h5 v1]; rfl)
  refine Ah ?_
  refine SN k9 ?_
  refine Sr ?_
  refine Sc (O_binOp rfl (.tmp (.o rfl)) .const (fun _ => b_add _ _ _ rfl oz oz)) ?_
  refine Mh ?_
  refine Sn ?_
  refine Pl1 ?_
  exact fun _ _ ha hw => ⟨⟨k + 1, y1, r592, vs ++ [v1], _, _, u2, o1 + 8 * 1, l1 - 8, c1 - 8⟩, Q23, ⟨⟨by show k + 1 ≤ _; omega, h2.trans hz1.grew, hz1.inv, Nat.lt_of_le_of_lt (Cx.miss_le hz1.grew.m) h4, by simp [h5], Cx.refs_snoc h5 h6 hz1.grew.m hz1.ref, by show o1 + 8 * 1 = o + 8 * (k + 1); omega, by show l1 - 8 = l - 8 * (k + 1); omega, by show c1 - 8 = c - 8 * (k + 1); omega⟩, hrn⟩, ha.weaken (Ek12 rfl rfl rfl rfl rfl rfl rfl rfl rfl rfl rfl rfl), hw.weaken .a⟩
 refine Ci fun ht553 => ?_
 have hke : k = C.vl i := by omega
 subst hke
 refine Xt ?_
 refine So k5 ?_
 refine Ek [43, 12, 8, 2, 3, 4, 5, 42] ?_
 refine Sq fun _ k19 => ?_
 refine Zw (Zl rfl oc251 .a rfl (Z1 12 rfl (fun e he => O_callE (xs := [.tmp 12]) (cap := []) rfl .func (.cons (Eh he) .nil) func58 rfl rfl (fun w1 hw => f58_ok _ _ _ _ w1 (hw.at_ .a))) (Zm rfl (Zn rfl (Zf rfl underlying144 rfl sz47 .done))))) ?_
 refine Sc (O_fix hC (xs := [.tmp 595, .tmp 598]) rfl (.tmp (.o rfl)) (.cons (.tmp (.o rfl)) (.cons (.tmp .hit) .nil)) HPicks.a .a h4 (hO.ref i hi om) (Nat.le_of_ble_eq_true rfl) h3 hB1) ?_
 rintro ⟨y2, v2⟩ hz2
 dsimp only [Cx.H, List.cons_append]
 refine SN k19 ?_
 refine Ek [43, 2, 3, 4, 5, 42] ?_
 refine SR fun _ k20 => ?_
 refine Mo ?_
 refine Mo ?_
 refine Sc (O_nilCheck rfl (.tmp (.o rfl))) ?_
 refine Sc (Ofa underlying144 sz142) ?_
 refine Sc (O_store (.tmp .hit) (.tmp (.o rfl)) rfl sz142 .a .a) ?_
 refine SN k20 ?_
 refine Sr ?_
 refine Mo ?_
 refine Sc (O_makeInterface rfl (.tmp .hit) ⟨_, underlying141, rfl⟩) ?_
 rw [hiv]
 refine Sc (O_store (.tmp (.o rfl)) (.tmp .hit) rfl sz47 .a .a) ?_
 refine Sn ?_
 exact fun a w ha hw => J (_, bk541) (.mk' (A := [(bk541, _, 144), (r.g, r.cur, 146)]) (h2.trans hz2.grew) hz2.inv Q22 ⟨_, _, List.mem_cons_self, .proto hkd (hz2.ref.mono (app_refl _)) hr h5 (fun j v hv => ((h6 j v hv).mono hz2.grew.m).mono (app_refl _)) Q22 rfl⟩) a w (ha.weaken (Ek4 rfl rfl rfl rfl)) (Cx.H_done (A := [(bk541, _, 144), (r.g, r.cur, 146)]) (hw.weaken .a))

theorem kd15_ok {C : Cx} (hO : CxOk C) {m : Nat} (hC : InflOk C m) {S : Nat → Prop} {w0 : World} (T : Hp) (B : List Nat) (x : St) (i b2 b3 b4 b5 b8 b12 o l c : Nat) (v4 : Value) {ds : List Deferred} {Q : Exit → Act → World → Prop} (hi : i < C.N) (hkd : C.kd i = 15) (hM : ∀ p ∈ x.M, p.1 ≠ i + 1) (hm : C.miss x.M < m + 1) (hB : ∀ b ∈ B, b ∈ cbs T) (hI : C.Inv B x) (ho : o = C.off + C.pos i + 12) (hl : l = C.len - C.pos i - 12) (hc : c = C.cap - C.pos i - 12)
    (J : ∀ z : St × Nat, C.KPost B x (i + 1) z → SK S w0 1086 ds (C.H z.1 ((b5, true, .cells #[.nilIface] 40 (0, 0)) :: (b2, true, .cells #[.pointer (some ⟨C.z.d, 0, none⟩)] 76 (0, 0)) :: (b3, true, .cells #[.int .u32 ((i + 1 : Nat) : Int)] 83 (0, 0)) :: (b4, true, .cells #[C.iv (i + 1) z.2] 47 (0, 0)) :: T)) [(2, .pointer (some ⟨b2, 0, none⟩)), (3, .pointer (some ⟨b3, 0, none⟩)), (4, .pointer (some ⟨b4, 0, none⟩)), (5, .pointer (some ⟨b5, 0, none⟩))] (Q .normal)) :
    SW none Tryz.prog S w0 1086 ds (C.H x ((b5, true, .cells #[.nilIface] 40 (0, 0)) :: (b2, true, .cells #[.pointer (some ⟨C.z.d, 0, none⟩)] 76 (0, 0)) :: (b3, true, .cells #[.int .u32 ((i + 1 : Nat) : Int)] 83 (0, 0)) :: (b4, true, .cells #[v4] 47 (0, 0)) :: (b8, true, .cells #[.func (.func 73) #[] #[.pointer (some ⟨b2, 0, none⟩)]] 251 (0, 0)) :: (b12, true, .cells #[.int .u32 (C.nm i : Nat), .int .u32 (C.inf i : Nat), .int .u32 (C.sz i : Nat)] 209 (0, 0)) :: T)) [(2, .pointer (some ⟨b2, 0, none⟩)), (3, .pointer (some ⟨b3, 0, none⟩)), (4, .pointer (some ⟨b4, 0, none⟩)), (5, .pointer (some ⟨b5, 0, none⟩)), (8, .pointer (some ⟨b8, 0, none⟩)), (12, .pointer (some ⟨b12, 0, none⟩)), (17, .slice (some ⟨C.b, o, none⟩) l c), (20, C.sv (C.nm i))] (sub [1, 1, 1, 1, 1, 1, 1, 1, 1, 1, 1, 1, 1, 1, 1, 1, 1, 0, 1, 1, 1, 1, 0, 1, 1, 1, 1, 1, 1, 1, 1, 1, 1, 1, 1, 1, 1, 1, 1, 1, 1, 1, 1, 1, 1, 1, 1, 1, 1, 1, 1, 1, 0] (cd Tryz.f63)) Q := by
 obtain ⟨r1, r2, r3, r4, r5, r6, r7⟩ := hO.rec_ i hi
 have hinf := r4.lt
 have hv8 := hO.v8 i hi
 have h31 := hO.h31
 have hlc := hO.hlc
 have hiv : ∀ b, Value.iface 151 (.pointer (some ⟨b, 0, none⟩)) = C.iv (i + 1) b := fun b => by unfold Cx.iv; rw [show C.kd (i + 1 - 1) = 15 from hkd]; rfl
 have hm2 : ∀ bk, C.miss (x.M ++ [(i + 1, bk)]) < m := fun bk => by
   have := Cx.miss_lt (C := C) (M := x.M) (id := i + 1) (b := bk) om om hM
   omega
 have hdl : dlen (C.kd i) (C.vl i) = 12 * C.vl i := by rw [hkd]; rfl
 unfold Cx.H
 refine SR fun _ k1 => ?_
 refine Mo ?_
 refine Sc (O_callE (xs := [.tmp 12]) (cap := []) rfl .func (.cons (.tmp (.o rfl)) .nil) func79 rfl rfl (fun w1 hw => f79_ok _ _ _ _ w1 (hw.at_ .a))) ?_
 refine Sc (O_build (pv := [(0, _), (1, _), (2, _)]) (r := .agg #[C.sv (C.nm i), .int .u32 (C.sz i : Nat), .slice none 0 0]) rfl (.cons (.tmp (.o rfl)) (.cons (.tmp .hit) (.cons .const .nil))) (fun w => run_build w _ _ _ Q13)) ?_
 refine Sc (O_box (cs := [C.sv (C.nm i), .int .u32 (C.sz i : Nat), .slice none 0 0].toArray) rfl (.tmp .hit) rfl) ?_
 intro bk646 _
 refine SL_fact (fun w hw => hI.fresh hB hw HPick.hit Q15) (fun hfr => ?_)
 have hI1 : C.Inv (bk646 :: B) { x with M := x.M ++ [(i + 1, bk646)] } := (hI.sub (fun b h => List.mem_cons_of_mem _ h)).push om om hM hfr List.mem_cons_self
 have hB1 := push_sub hB bk646
 have hm1 := hm2 bk646
 refine Ah ?_
 refine SN k1 ?_
 refine Ek [52, 2, 3, 4, 5, 8, 12, 17] ?_
 refine Sq fun _ k2 => ?_
 refine Zw (Zl rfl oc76 .a rfl (Zn rfl (Zf rfl underlying90 rfl sz86 (Zl rfl oc86 .a rfl (Zl rfl oc83 .a rfl (Zm rfl (Z1 652 rfl (fun e he => O_makeInterface rfl (Eh he) ⟨_, underlying151, rfl⟩) .done))))))) ?_
 rw [hiv]
 refine Sc ((O_putI (.tmp (.o rfl)) (.tmp (.o rfl)) (.tmp .hit) underlying86 underlying83 Cx.tys_int (Cx.tys_out hM) .a)) ?_
 rw [C.tys_push]
 refine SN k2 ?_
 refine Ek [52, 2, 3, 4, 5, 8, 12, 17] ?_
 refine SR fun _ k3 => ?_
 refine Sc (O_callE (xs := [.tmp 12]) (cap := []) rfl .func (.cons (.tmp (.o rfl)) .nil) func75 rfl rfl (fun w1 hw => f75_ok _ _ _ _ hinf w1 (hw.at_ .a))) ?_
 refine Ah ?_
 refine SN k3 ?_
 refine Ek [53, 52, 2, 3, 4, 5, 8, 17] ?_
 refine SR fun _ k4 => ?_
 refine Mh ?_
 refine Sc (O_makeSlice0 (c := C.vl i) rfl .const (.tmp .hit) rfl underlying152 inf156 om om) ?_
 intro bk656 hk656
 refine Ah ?_
 refine SN k4 ?_
 refine Ek [54, 53, 52, 2, 3, 4, 5, 8, 17] ?_
 refine SR fun _ k5 => ?_
 refine Sc (O_alloc rfl zr292 rfl) ?_
 intro bk55 _
 refine SN k5 ?_
 refine Sq fun _ k6 => ?_
 refine SR fun _ k7 => ?_
 refine Mo ?_
 refine Mc ?_
 refine SN k7 ?_
 refine Bl ?_
 refine SW_loop (α := Rd) (fun x1 => C.RdOk (bk646 :: B) { x with M := x.M ++ [(i + 1, bk646)] } m (C.vl i) o l c (fun j => C.ex i (3 * j)) 12 x1 ∧ RowOk 3 (some x1.r) x1.k (C.secsD i x1.k x1.vs)) (fun x1 => C.vl i - x1.k) (fun x1 => (bk55, true, .cells [x1.u0, x1.u1, x1.u2].toArray 292 (0, 0)) :: (x1.r.g, true, .cells x1.r.cur.toArray 156 (0, 0)) :: (C.z.tm, true, mapO (C.tysO x1.y.M)) :: (C.z.im, true, mapO (Cx.idsO x1.y.K)) :: (C.z.d, false, .cells (decC C.big C.st (C.N + 1) C.z).toArray 90 (0, 0)) :: (C.z.sb, false, .cells [.slice (some ⟨C.b, C.off, none⟩) C.len C.cap].toArray 224 (0, 0)) :: (C.st, false, .cells #[.pointer none, .slice (some ⟨C.b, C.toff, none⟩) C.sl C.tcap, .map none] 207 (0, 0)) :: (C.z.ro.g, false, .cells C.z.ro.cur.toArray 3 (0, 0)) :: (C.z.dt, false, .map #[] 0) :: (C.z.lm, false, .map #[] 0) :: (C.b, false, C.o) :: ((b5, true, .cells #[.nilIface] 40 (0, 0)) :: (b2, true, .cells #[.pointer (some ⟨C.z.d, 0, none⟩)] 76 (0, 0)) :: (b3, true, .cells #[.int .u32 ((i + 1 : Nat) : Int)] 83 (0, 0)) :: (b4, true, .cells #[v4] 47 (0, 0)) :: (b8, true, .cells #[.func (.func 73) #[] #[.pointer (some ⟨b2, 0, none⟩)]] 251 (0, 0)) :: (b12, true, .cells #[.int .u32 (C.nm i : Nat), .int .u32 (C.inf i : Nat), .int .u32 (C.sz i : Nat)] 209 (0, 0)) :: (bk646, true, .cells [C.sv (C.nm i), .int .u32 (C.sz i : Nat), .slice none 0 0].toArray 154 (0, 0)) :: T ++ oldH x1.y.U)) (fun x1 => [(658, .int .i64 (x1.k : Nat)), (657, .int .i64 (C.vl i : Nat)), (54, .slice (some ⟨x1.r.g, 0, none⟩) x1.k x1.r.cap), (17, .slice (some ⟨C.b, x1.o, none⟩) x1.l x1.c), (8, .pointer (some ⟨b8, 0, none⟩)), (2, .pointer (some ⟨b2, 0, none⟩)), (3, .pointer (some ⟨b3, 0, none⟩)), (4, .pointer (some ⟨b4, 0, none⟩)), (5, .pointer (some ⟨b5, 0, none⟩)), (52, .pointer (some ⟨bk646, 0, none⟩)), (55, .pointer (some ⟨bk55, 0, none⟩))]) ⟨0, { x with M := x.M ++ [(i + 1, bk646)] }, ⟨_, _, _⟩, [], _, _, _, o, l, c⟩ ⟨⟨Nat.zero_le _, .refl _, hI1, hm1, rfl, fun j v h => by simp at h, by simp, by simp, by simp⟩, hk656⟩ (.cons (t := 658) .hit (.cons (t := 657) (.o rfl) (.cons (t := 54) (.o rfl) (.cons (t := 17) (.o rfl) (.cons (t := 8) (.o rfl) (.cons (t := 2) (.o rfl) (.cons (t := 3) (.o rfl) (.cons (t := 4) (.o rfl) (.cons (t := 5) (.o rfl) (.cons (t := 52) (.o rfl) (.cons (t := 55) (.o rfl) .nil))))))))))) .a ?_
 rintro ⟨k, y, r, vs, u0, u1, u2, o1, l1, c1⟩ ⟨⟨h1, h2, h3, h4, h5, h6, h7, h8, h9⟩, hr⟩
 dsimp only at h1 h2 h3 h4 h5 h6 h7 h8 h9 hr ⊢
 refine SR fun _ k8 => ?_
 refine Sc (O_binOp rfl (.tmp .hit) (.tmp (.o rfl)) (fun _ => b_lss _ _ _ _ rfl)) ?_
 refine SN k8 ?_
 refine Sq fun _ k9 => ?_
 refine Sd ?_ ?_
 ·
  refine Ci fun ht659 => ?_
  have hlt : k < C.vl i := by omega
  have hw0 : W4 C.o (o1 + 0) C.big (C.ex i (3 * k)) := by
    have q := hO.ex i hi (3 * k) Q31
    rw [show o1 + 0 = C.off + C.pos i + 12 + 4 * (3 * k) by omega]
    exact q
  have hw1 : W4 C.o (o1 + 4) C.big (C.ex i (3 * k + 1)) := by
    have q := hO.ex i hi (3 * k + 1) Q31
    rw [show o1 + 4 = C.off + C.pos i + 12 + 4 * (3 * k + 1) by omega]
    exact q
  have hw2 : W4 C.o (o1 + 8) C.big (C.ex i (3 * k + 2)) := by
    have q := hO.ex i hi (3 * k + 2) Q31
    rw [show o1 + 8 = C.off + C.pos i + 12 + 4 * (3 * k + 2) by omega]
    exact q
  refine SS k9 ?_
  refine Ek [658, 657, 54, 17, 8, 2, 3, 4, 5, 52, 55] ?_
  refine Sq fun _ k10 => ?_
  refine Bl ?_
  refine SR fun _ k11 => ?_
  refine Mo ?_
  refine Sc (Ola oc76) ?_
  refine Sc (O_nilCheck rfl (.tmp .hit)) ?_
  refine Sc (Ofa underlying90 sz80) ?_
  refine Sc (Ola oc80) ?_
  refine Sc (O_callM (xs := [.tmp 55, .tmp 661, .tmp 665]) (cap := []) rfl .func (.cons (.tmp (.o rfl)) (.cons (.tmp (.o rfl)) (.cons (.tmp .hit) .nil))) func92 rfl rfl .a (fun w1 hw => f92_ok C.big bk55 C.b o1 l1 c1 C.o 292 _ _ _ (C.ex i (3 * k)) (C.ex i (3 * k + 1)) (C.ex i (3 * k + 2)) (hw.ne_pick HPick.a .a) om om hw0 hw1 hw2 w1 (hw.at_ .a) (hw.at_ .a))) ?_
  refine Mh ?_
  refine Sc Oex ?_
  refine Sc Oex ?_
  refine Ao ?_
  refine Ao ?_
  refine SN k11 ?_
  refine Ek [57, 56, 658, 657, 54, 17, 8, 2, 3, 4, 5, 52, 55] ?_
  refine Sq fun _ k12 => ?_
  refine SR fun _ k13 => ?_
  refine Mh ?_
  refine Sc (O_binOp rfl (.tmp .hit) .const (r := .bool false) (fun _ => rfl)) ?_
  refine SN k13 ?_
  refine Fh ?_
  refine SS k12 ?_
  refine Ek [56, 658, 657, 54, 17, 8, 2, 3, 4, 5, 52, 55] ?_
  refine SR fun _ k14 => ?_
  refine Mo ?_
  refine Mo ?_
  refine Sc (O_sliceLo 12 rfl (.tmp (.o rfl)) (.tmp .hit) rfl underlying26 sz5 om om om) ?_
  refine Ah ?_
  refine SN k14 ?_
  refine Ek [17, 658, 657, 54, 8, 2, 3, 4, 5, 52, 55] ?_
  refine SR fun _ k15 => ?_
  refine Sc (Ofa underlying292 sz73) ?_
  refine Sc (Ola oc73) ?_
  refine Sc (Ofa underlying292 sz73) ?_
  refine Sc (Ola oc73) ?_
  refine Sc (O_build (pv := [(1, _), (2, _)]) (r := .agg #[.nilIface, _, _]) rfl (.cons (.tmp (.o rfl)) (.cons (.tmp .hit) .nil)) (fun w => run_build w _ _ _ Q13)) ?_
  refine Sc (O_alloc rfl zr156 rfl) ?_
  intro bk58 _
  refine Sc (O_storeA (vs := [_, _, _]) (.tmp .hit) (.tmp (.o rfl)) rfl sz156 rfl .a dc rfl) ?_
  refine SN k15 ?_
  refine Ek [58, 17, 658, 657, 54, 8, 2, 3, 4, 5, 52, 55] ?_
  refine SR fun _ k16 => ?_
  refine Sc (Ola oc251) ?_
  refine Sc (Ofa underlying292 sz83) ?_
  refine Sc (Ola oc83) ?_
  refine Sc (Ofa underlying156 sz47) ?_
  refine Sc (O_fix hC (xs := [.tmp 682, .tmp 683]) rfl (.tmp (.o rfl)) (.cons (.tmp (.o rfl)) (.cons (.tmp .hit) .nil)) HPicks.a .a h4 (hO.refv i hi hkd k hlt) (Nat.le_of_ble_eq_true rfl) h3 hB1) ?_
  rintro ⟨y1, v1⟩ hz1
  dsimp only [Cx.H, List.cons_append]
  have hv1 : v1.oneCell' = true := hz1.ref.one
  refine SN k16 ?_
  refine Sr ?_
  refine Mo ?_
  refine Sc (O_loadA rfl (.tmp (.o rfl)) underlying156 sz156 .a rfl) ?_
  refine Sc (O_buildSlice1 rfl (.tmp .hit) underlying152 sz156 zr156 rfl rfl dc dc) ?_
  intro bk687 _
  refine Sc (O_append  rfl (.tmp (.o rfl)) (.tmp .hit) rfl underlying152 inf156 rfl dc .a1 hr .a rfl (by simp only [List.all_cons, List.all_nil, hv1]; rfl) om Q16 om) ?_
  intro r688 h688
  have hrn : RowOk 3 (some r688) (k + 1) (C.secsD i (k + 1) (vs ++ [v1])) := h688.eq rfl (by rw [Cx.secsD_snoc C i h5 v1]; rfl)
  refine Ah ?_
  refine SN k10 ?_
  refine Sr ?_
  refine Sc (O_binOp rfl (.tmp (.o rfl)) .const (fun _ => b_add _ _ _ rfl oz oz)) ?_
  refine Mh ?_
  refine Sn ?_
  refine Pl1 ?_
  exact fun _ _ ha hw => ⟨⟨k + 1, y1, r688, vs ++ [v1], _, _, _, o1 + 12 * 1, l1 - 12, c1 - 12⟩, Q23, ⟨⟨by show k + 1 ≤ _; omega, h2.trans hz1.grew, hz1.inv, Nat.lt_of_le_of_lt (Cx.miss_le hz1.grew.m) h4, by simp [h5], Cx.refs_snoc h5 h6 hz1.grew.m hz1.ref, by show o1 + 12 * 1 = o + 12 * (k + 1); omega, by show l1 - 12 = l - 12 * (k + 1); omega, by show c1 - 12 = c - 12 * (k + 1); omega⟩, hrn⟩, ha.weaken (Ek11 rfl rfl rfl rfl rfl rfl rfl rfl rfl rfl rfl), hw.weaken .a⟩
 refine Ci fun ht659 => ?_
 have hke : k = C.vl i := by omega
 subst hke
 refine Xt ?_
 refine So k6 ?_
 refine Ek [54, 2, 3, 4, 5, 52] ?_
 refine SR fun _ k17 => ?_
 refine Mo ?_
 refine Mo ?_
 refine Sc (O_nilCheck rfl (.tmp (.o rfl))) ?_
 refine Sc (Ofa underlying154 sz152) ?_
 refine Sc (O_store (.tmp .hit) (.tmp (.o rfl)) rfl sz152 .a .a) ?_
 refine SN k17 ?_
 refine Sr ?_
 refine Mo ?_
 refine Sc (O_makeInterface rfl (.tmp .hit) ⟨_, underlying151, rfl⟩) ?_
 rw [hiv]
 refine Sc (O_store (.tmp (.o rfl)) (.tmp .hit) rfl sz47 .a .a) ?_
 refine Sn ?_
 exact fun a w ha hw => J (_, bk646) (.mk' (A := [(bk646, _, 154), (r.g, r.cur, 156)]) h2 h3 Q22 ⟨_, _, List.mem_cons_self, .sec hkd hr h5 (fun j v hv => (h6 j v hv).mono (app_refl _)) Q22 rfl⟩) a w (ha.weaken (Ek4 rfl rfl rfl rfl)) (Cx.H_done (A := [(bk646, _, 154), (r.g, r.cur, 156)]) (hw.weaken .a))
end
end Go.Proofs.YtoibhfpagkdleaaGreatDoor
