/-
  CONTRACT: how many bytes stand behind a record's head.
  THE CALCULUS, PART 6: ranges over a function.
-/
import Derived.Test.YtoibhfpagkdleaaGreatDoorFd
import Derived.RangeFuncNested
import Derived.RangeFuncRecord
namespace Go.Proofs.YtoibhfpagkdleaaGreatDoor
section
open Go
open Tryz
set_option maxRecDepth 100000

/-- how many bytes stand behind a record's head -/
def dlen (k v : Nat) : Nat :=
 if k = 1 ∨ k = 14 ∨ k = 17 then 4 else if k = 3 then 12 else if k = 4 ∨ k = 5 ∨ k = 15 ∨ k = 19 then 12 * v else if k = 6 ∨ k = 13 then 8 * v else 0

theorem f66_ok (b nm info sz : Nat) (hv : info < 4294967296) (hk0 : info / 2 ^ 24 % 2 ^ 5 ≠ 0) (hk19 : info / 2 ^ 24 % 2 ^ 5 ≤ 19) (w : World) (hb : w.heap[b]? = some (.cells #[.int .u32 nm, .int .u32 info, .int .u32 sz] 209 (0, 0))) : Calls Tryz.prog 66 #[.pointer (some ⟨b, 0, none⟩)] w (fun r w' => r = .returned (.tuple #[.int .i64 (dlen (info / 2 ^ 24 % 2 ^ 5) (info / 2 ^ 0 % 2 ^ 16) : Nat), .nilIface]) ∧ Ext noS w w') := by
 refine sw_calls (S := noS) func66 rfl ntmps66 (sees1 _ _ rfl) (Holds.start1 _ _ hb) ?_
 refine SR fun _ k1 => ?_
 refine Ac ?_
 refine Ac ?_
 refine SN k1 ?_
 refine Sq fun _ k2 => ?_
 refine SR fun _ k3 => ?_
 refine Mo ?_
 refine Sc (O_callE (xs := [.tmp 4]) (cap := []) rfl .func (.cons (.tmp .hit) .nil) func56 rfl rfl (fun w hw => f56_ok b nm info sz hv w (hw.at_ .hit))) ?_
 refine SN k3 ?_
 refine Bl ?_
 refine Ek [5, 3, 2, 0] ?_
 refine Sq fun _ k4 => ?_
 refine Bl ?_
 refine Sq fun _ k5 => ?_
 refine Bl ?_
 refine Sq fun _ k6 => ?_
 refine Bl ?_
 refine Sq fun _ k7 => ?_
 refine Bl ?_
 refine Sq fun _ k8 => ?_
 refine Bl ?_
 refine Sq fun _ k9 => ?_
 refine Bl ?_
 refine Sq fun _ k10 => ?_
 refine Bl ?_
 refine Sq fun _ k11 => ?_
 refine Bl ?_
 refine Sq fun _ k12 => ?_
 refine Bl ?_
 refine Sq fun _ k13 => ?_
 refine Bl ?_
 refine Sq fun _ k14 => ?_
 refine Bl ?_
 refine Sq fun _ k15 => ?_
 refine Bl ?_
 refine Sq fun _ k16 => ?_
 refine Bl ?_
 refine Sq fun _ k17 => ?_
 refine Bl ?_
 refine Sq fun _ k18 => ?_
 refine Bl ?_
 refine Sq fun _ k19 => ?_
 refine Bl ?_
 refine Bl ?_
 refine Sq fun _ k20 => ?_
 refine Bl ?_
 refine Sq fun _ k21 => ?_
 refine Bl ?_
 refine Sq fun _ k22 => ?_
 refine Bl ?_
 refine Sq fun _ k23 => ?_
 refine Sq fun _ k24 => ?_
 refine SR fun _ k25 => ?_
 refine Sc Obe ?_
 refine Ah ?_
 refine SN k25 ?_
 refine SW_cond (.tmp .hit) (fun ht6 => ?_) (fun ht6 => ?_)
 ·
  have hk : info / 2 ^ 24 % 2 ^ 5 = 1 := by have := eq_of_beq ht6; omega
  refine Xt ?_
  refine So k22 ?_
  refine Ek [3, 2, 0] ?_
  refine Sq fun _ k26 => ?_
  refine SR fun _ k27 => ?_
  refine Ac ?_
  refine Ac ?_
  refine SN k27 ?_
  refine Rt ?_
  refine Pl0 ?_
  exact SK_ret2 rfl (.o rfl) .hit (fun w hw => ⟨by rw [hk]; simp [dlen], hw.ext⟩)
 have hk1 : info / 2 ^ 24 % 2 ^ 5 ≠ 1 := by intro h; rw [h] at ht6; exact absurd ht6 dc
 refine SS k24 ?_
 refine Ek [5, 3, 2, 0] ?_
 refine Sq fun _ k28 => ?_
 refine SR fun _ k29 => ?_
 refine Sc Obe ?_
 refine Ah ?_
 refine SN k29 ?_
 refine SW_cond (.tmp .hit) (fun ht8 => ?_) (fun ht8 => ?_)
 ·
  have hk : info / 2 ^ 24 % 2 ^ 5 = 2 := by have := eq_of_beq ht8; omega
  refine Xt ?_
  refine So k21 ?_
  refine Xt ?_
  refine So k2 ?_
  refine Ek [3, 2] ?_
  refine SR fun _ k30 => ?_
  refine Ac ?_
  refine Ac ?_
  refine SN k30 ?_
  refine Rt ?_
  exact SK_ret2 rfl (.o rfl) .hit (fun w hw => ⟨by rw [hk]; simp [dlen], hw.ext⟩)
 have hk2 : info / 2 ^ 24 % 2 ^ 5 ≠ 2 := by intro h; rw [h] at ht8; exact absurd ht8 dc
 refine SS k28 ?_
 refine Ek [5, 3, 2, 0] ?_
 refine Sq fun _ k31 => ?_
 refine SR fun _ k32 => ?_
 refine Sc Obe ?_
 refine Ah ?_
 refine SN k32 ?_
 refine SW_cond (.tmp .hit) (fun ht10 => ?_) (fun ht10 => ?_)
 ·
  have hk : info / 2 ^ 24 % 2 ^ 5 = 3 := by have := eq_of_beq ht10; omega
  refine Xt ?_
  refine So k20 ?_
  refine Ek [3, 2, 0] ?_
  refine Sq fun _ k33 => ?_
  refine SR fun _ k34 => ?_
  refine Ac ?_
  refine Ac ?_
  refine SN k34 ?_
  refine Rt ?_
  refine Pl0 ?_
  exact SK_ret2 rfl (.o rfl) .hit (fun w hw => ⟨by rw [hk]; simp [dlen], hw.ext⟩)
 have hk3 : info / 2 ^ 24 % 2 ^ 5 ≠ 3 := by intro h; rw [h] at ht10; exact absurd ht10 dc
 refine SS k31 ?_
 refine Ek [5, 3, 2, 0] ?_
 refine Sq fun _ k35 => ?_
 refine SR fun _ k36 => ?_
 refine Sc Obe ?_
 refine Ah ?_
 refine SN k36 ?_
 refine SW_cond (.tmp .hit) (fun ht12 => ?_) (fun ht12 => ?_)
 ·
  have hk : info / 2 ^ 24 % 2 ^ 5 = 4 := by have := eq_of_beq ht12; omega
  refine Xt ?_
  refine So k19 ?_
  refine Ek [3, 2, 0] ?_
  refine Sq fun _ k37 => ?_
  refine SR fun _ k38 => ?_
  refine Mo ?_
  refine Sc (O_callE (xs := [.tmp 44]) (cap := []) rfl .func (.cons (.tmp .hit) .nil) func75 rfl rfl (fun w hw => f75_ok b nm info sz hv w (hw.at_ .hit))) ?_
  refine Sc (O_binOp rfl .const (.tmp .hit) (fun _ => b_mul 12 _ _ rfl om om)) ?_
  refine Ah ?_
  refine Ac ?_
  refine SN k38 ?_
  refine Rt ?_
  refine Pl0 ?_
  exact SK_ret2 rfl (.o rfl) .hit (fun w hw => ⟨by rw [hk]; simp [dlen], hw.ext⟩)
 have hk4 : info / 2 ^ 24 % 2 ^ 5 ≠ 4 := by intro h; rw [h] at ht12; exact absurd ht12 dc
 refine SS k35 ?_
 refine Ek [5, 3, 2, 0] ?_
 refine Sq fun _ k39 => ?_
 refine SR fun _ k40 => ?_
 refine Sc Obe ?_
 refine Ah ?_
 refine SN k40 ?_
 refine SW_cond (.tmp .hit) (fun ht14 => ?_) (fun ht14 => ?_)
 ·
  have hk : info / 2 ^ 24 % 2 ^ 5 = 5 := by have := eq_of_beq ht14; omega
  refine Xt ?_
  refine So k19 ?_
  refine Ek [3, 2, 0] ?_
  refine Sq fun _ k41 => ?_
  refine SR fun _ k42 => ?_
  refine Mo ?_
  refine Sc (O_callE (xs := [.tmp 44]) (cap := []) rfl .func (.cons (.tmp .hit) .nil) func75 rfl rfl (fun w hw => f75_ok b nm info sz hv w (hw.at_ .hit))) ?_
  refine Sc (O_binOp rfl .const (.tmp .hit) (fun _ => b_mul 12 _ _ rfl om om)) ?_
  refine Ah ?_
  refine Ac ?_
  refine SN k42 ?_
  refine Rt ?_
  refine Pl0 ?_
  exact SK_ret2 rfl (.o rfl) .hit (fun w hw => ⟨by rw [hk]; simp [dlen], hw.ext⟩)
 have hk5 : info / 2 ^ 24 % 2 ^ 5 ≠ 5 := by intro h; rw [h] at ht14; exact absurd ht14 dc
 refine SS k39 ?_
 refine Ek [5, 3, 2, 0] ?_
 refine Sq fun _ k43 => ?_
 refine SR fun _ k44 => ?_
 refine Sc Obe ?_
 refine Ah ?_
 refine SN k44 ?_
 refine SW_cond (.tmp .hit) (fun ht16 => ?_) (fun ht16 => ?_)
 ·
  have hk : info / 2 ^ 24 % 2 ^ 5 = 6 := by have := eq_of_beq ht16; omega
  refine Xt ?_
  refine So k18 ?_
  refine Ek [3, 2, 0] ?_
  refine Sq fun _ k45 => ?_
  refine SR fun _ k46 => ?_
  refine Mo ?_
  refine Sc (O_callE (xs := [.tmp 47]) (cap := []) rfl .func (.cons (.tmp .hit) .nil) func75 rfl rfl (fun w hw => f75_ok b nm info sz hv w (hw.at_ .hit))) ?_
  refine Sc (O_binOp rfl .const (.tmp .hit) (fun _ => b_mul 8 _ _ rfl om om)) ?_
  refine Ah ?_
  refine Ac ?_
  refine SN k46 ?_
  refine Rt ?_
  refine Pl0 ?_
  exact SK_ret2 rfl (.o rfl) .hit (fun w hw => ⟨by rw [hk]; simp [dlen], hw.ext⟩)
 have hk6 : info / 2 ^ 24 % 2 ^ 5 ≠ 6 := by intro h; rw [h] at ht16; exact absurd ht16 dc
 refine SS k43 ?_
 refine Ek [5, 3, 2, 0] ?_
 refine Sq fun _ k47 => ?_
 refine SR fun _ k48 => ?_
 refine Sc Obe ?_
 refine Ah ?_
 refine SN k48 ?_
 refine SW_cond (.tmp .hit) (fun ht18 => ?_) (fun ht18 => ?_)
 ·
  have hk : info / 2 ^ 24 % 2 ^ 5 = 7 := by have := eq_of_beq ht18; omega
  refine Xt ?_
  refine So k17 ?_
  refine Xt ?_
  refine So k2 ?_
  refine Ek [3, 2] ?_
  refine SR fun _ k49 => ?_
  refine Ac ?_
  refine Ac ?_
  refine SN k49 ?_
  refine Rt ?_
  exact SK_ret2 rfl (.o rfl) .hit (fun w hw => ⟨by rw [hk]; simp [dlen], hw.ext⟩)
 have hk7 : info / 2 ^ 24 % 2 ^ 5 ≠ 7 := by intro h; rw [h] at ht18; exact absurd ht18 dc
 refine SS k47 ?_
 refine Ek [5, 3, 2, 0] ?_
 refine Sq fun _ k50 => ?_
 refine SR fun _ k51 => ?_
 refine Sc Obe ?_
 refine Ah ?_
 refine SN k51 ?_
 refine SW_cond (.tmp .hit) (fun ht20 => ?_) (fun ht20 => ?_)
 ·
  have hk : info / 2 ^ 24 % 2 ^ 5 = 8 := by have := eq_of_beq ht20; omega
  refine Xt ?_
  refine So k16 ?_
  refine Xt ?_
  refine So k2 ?_
  refine Ek [3, 2] ?_
  refine SR fun _ k52 => ?_
  refine Ac ?_
  refine Ac ?_
  refine SN k52 ?_
  refine Rt ?_
  exact SK_ret2 rfl (.o rfl) .hit (fun w hw => ⟨by rw [hk]; simp [dlen], hw.ext⟩)
 have hk8 : info / 2 ^ 24 % 2 ^ 5 ≠ 8 := by intro h; rw [h] at ht20; exact absurd ht20 dc
 refine SS k50 ?_
 refine Ek [5, 3, 2, 0] ?_
 refine Sq fun _ k53 => ?_
 refine SR fun _ k54 => ?_
 refine Sc Obe ?_
 refine Ah ?_
 refine SN k54 ?_
 refine SW_cond (.tmp .hit) (fun ht22 => ?_) (fun ht22 => ?_)
 ·
  have hk : info / 2 ^ 24 % 2 ^ 5 = 9 := by have := eq_of_beq ht22; omega
  refine Xt ?_
  refine So k15 ?_
  refine Xt ?_
  refine So k2 ?_
  refine Ek [3, 2] ?_
  refine SR fun _ k55 => ?_
  refine Ac ?_
  refine Ac ?_
  refine SN k55 ?_
  refine Rt ?_
  exact SK_ret2 rfl (.o rfl) .hit (fun w hw => ⟨by rw [hk]; simp [dlen], hw.ext⟩)
 have hk9 : info / 2 ^ 24 % 2 ^ 5 ≠ 9 := by intro h; rw [h] at ht22; exact absurd ht22 dc
 refine SS k53 ?_
 refine Ek [5, 3, 2, 0] ?_
 refine Sq fun _ k56 => ?_
 refine SR fun _ k57 => ?_
 refine Sc Obe ?_
 refine Ah ?_
 refine SN k57 ?_
 refine SW_cond (.tmp .hit) (fun ht24 => ?_) (fun ht24 => ?_)
 ·
  have hk : info / 2 ^ 24 % 2 ^ 5 = 10 := by have := eq_of_beq ht24; omega
  refine Xt ?_
  refine So k14 ?_
  refine Xt ?_
  refine So k2 ?_
  refine Ek [3, 2] ?_
  refine SR fun _ k58 => ?_
  refine Ac ?_
  refine Ac ?_
  refine SN k58 ?_
  refine Rt ?_
  exact SK_ret2 rfl (.o rfl) .hit (fun w hw => ⟨by rw [hk]; simp [dlen], hw.ext⟩)
 have hk10 : info / 2 ^ 24 % 2 ^ 5 ≠ 10 := by intro h; rw [h] at ht24; exact absurd ht24 dc
 refine SS k56 ?_
 refine Ek [5, 3, 2, 0] ?_
 refine Sq fun _ k59 => ?_
 refine SR fun _ k60 => ?_
 refine Sc Obe ?_
 refine Ah ?_
 refine SN k60 ?_
 refine SW_cond (.tmp .hit) (fun ht26 => ?_) (fun ht26 => ?_)
 ·
  have hk : info / 2 ^ 24 % 2 ^ 5 = 11 := by have := eq_of_beq ht26; omega
  refine Xt ?_
  refine So k13 ?_
  refine Xt ?_
  refine So k2 ?_
  refine Ek [3, 2] ?_
  refine SR fun _ k61 => ?_
  refine Ac ?_
  refine Ac ?_
  refine SN k61 ?_
  refine Rt ?_
  exact SK_ret2 rfl (.o rfl) .hit (fun w hw => ⟨by rw [hk]; simp [dlen], hw.ext⟩)
 have hk11 : info / 2 ^ 24 % 2 ^ 5 ≠ 11 := by intro h; rw [h] at ht26; exact absurd ht26 dc
 refine SS k59 ?_
 refine Ek [5, 3, 2, 0] ?_
 refine Sq fun _ k62 => ?_
 refine SR fun _ k63 => ?_
 refine Sc Obe ?_
 refine Ah ?_
 refine SN k63 ?_
 refine SW_cond (.tmp .hit) (fun ht28 => ?_) (fun ht28 => ?_)
 ·
  have hk : info / 2 ^ 24 % 2 ^ 5 = 12 := by have := eq_of_beq ht28; omega
  refine Xt ?_
  refine So k12 ?_
  refine Xt ?_
  refine So k2 ?_
  refine Ek [3, 2] ?_
  refine SR fun _ k64 => ?_
  refine Ac ?_
  refine Ac ?_
  refine SN k64 ?_
  refine Rt ?_
  exact SK_ret2 rfl (.o rfl) .hit (fun w hw => ⟨by rw [hk]; simp [dlen], hw.ext⟩)
 have hk12 : info / 2 ^ 24 % 2 ^ 5 ≠ 12 := by intro h; rw [h] at ht28; exact absurd ht28 dc
 refine SS k62 ?_
 refine Ek [5, 3, 2, 0] ?_
 refine Sq fun _ k65 => ?_
 refine SR fun _ k66 => ?_
 refine Sc Obe ?_
 refine Ah ?_
 refine SN k66 ?_
 refine SW_cond (.tmp .hit) (fun ht30 => ?_) (fun ht30 => ?_)
 ·
  have hk : info / 2 ^ 24 % 2 ^ 5 = 13 := by have := eq_of_beq ht30; omega
  refine Xt ?_
  refine So k11 ?_
  refine Ek [3, 2, 0] ?_
  refine Sq fun _ k67 => ?_
  refine SR fun _ k68 => ?_
  refine Mo ?_
  refine Sc (O_callE (xs := [.tmp 50]) (cap := []) rfl .func (.cons (.tmp .hit) .nil) func75 rfl rfl (fun w hw => f75_ok b nm info sz hv w (hw.at_ .hit))) ?_
  refine Sc (O_binOp rfl .const (.tmp .hit) (fun _ => b_mul 8 _ _ rfl om om)) ?_
  refine Ah ?_
  refine Ac ?_
  refine SN k68 ?_
  refine Rt ?_
  refine Pl0 ?_
  exact SK_ret2 rfl (.o rfl) .hit (fun w hw => ⟨by rw [hk]; simp [dlen], hw.ext⟩)
 have hk13 : info / 2 ^ 24 % 2 ^ 5 ≠ 13 := by intro h; rw [h] at ht30; exact absurd ht30 dc
 refine SS k65 ?_
 refine Ek [5, 3, 2, 0] ?_
 refine Sq fun _ k69 => ?_
 refine SR fun _ k70 => ?_
 refine Sc Obe ?_
 refine Ah ?_
 refine SN k70 ?_
 refine SW_cond (.tmp .hit) (fun ht32 => ?_) (fun ht32 => ?_)
 ·
  have hk : info / 2 ^ 24 % 2 ^ 5 = 14 := by have := eq_of_beq ht32; omega
  refine Xt ?_
  refine So k10 ?_
  refine Ek [3, 2, 0] ?_
  refine Sq fun _ k71 => ?_
  refine SR fun _ k72 => ?_
  refine Ac ?_
  refine Ac ?_
  refine SN k72 ?_
  refine Rt ?_
  refine Pl0 ?_
  exact SK_ret2 rfl (.o rfl) .hit (fun w hw => ⟨by rw [hk]; simp [dlen], hw.ext⟩)
 have hk14 : info / 2 ^ 24 % 2 ^ 5 ≠ 14 := by intro h; rw [h] at ht32; exact absurd ht32 dc
 refine SS k69 ?_
 refine Ek [5, 3, 2, 0] ?_
 refine Sq fun _ k73 => ?_
 refine SR fun _ k74 => ?_
 refine Sc Obe ?_
 refine Ah ?_
 refine SN k74 ?_
 refine SW_cond (.tmp .hit) (fun ht34 => ?_) (fun ht34 => ?_)
 ·
  have hk : info / 2 ^ 24 % 2 ^ 5 = 15 := by have := eq_of_beq ht34; omega
  refine Xt ?_
  refine So k9 ?_
  refine Ek [3, 2, 0] ?_
  refine Sq fun _ k75 => ?_
  refine SR fun _ k76 => ?_
  refine Mo ?_
  refine Sc (O_callE (xs := [.tmp 53]) (cap := []) rfl .func (.cons (.tmp .hit) .nil) func75 rfl rfl (fun w hw => f75_ok b nm info sz hv w (hw.at_ .hit))) ?_
  refine Sc (O_binOp rfl .const (.tmp .hit) (fun _ => b_mul 12 _ _ rfl om om)) ?_
  refine Ah ?_
  refine Ac ?_
  refine SN k76 ?_
  refine Rt ?_
  refine Pl0 ?_
  exact SK_ret2 rfl (.o rfl) .hit (fun w hw => ⟨by rw [hk]; simp [dlen], hw.ext⟩)
 have hk15 : info / 2 ^ 24 % 2 ^ 5 ≠ 15 := by intro h; rw [h] at ht34; exact absurd ht34 dc
 refine SS k73 ?_
 refine Ek [5, 3, 2, 0] ?_
 refine Sq fun _ k77 => ?_
 refine SR fun _ k78 => ?_
 refine Sc Obe ?_
 refine Ah ?_
 refine SN k78 ?_
 refine SW_cond (.tmp .hit) (fun ht36 => ?_) (fun ht36 => ?_)
 ·
  have hk : info / 2 ^ 24 % 2 ^ 5 = 16 := by have := eq_of_beq ht36; omega
  refine Xt ?_
  refine So k8 ?_
  refine Xt ?_
  refine So k2 ?_
  refine Ek [3, 2] ?_
  refine SR fun _ k79 => ?_
  refine Ac ?_
  refine Ac ?_
  refine SN k79 ?_
  refine Rt ?_
  exact SK_ret2 rfl (.o rfl) .hit (fun w hw => ⟨by rw [hk]; simp [dlen], hw.ext⟩)
 have hk16 : info / 2 ^ 24 % 2 ^ 5 ≠ 16 := by intro h; rw [h] at ht36; exact absurd ht36 dc
 refine SS k77 ?_
 refine Ek [5, 3, 2, 0] ?_
 refine Sq fun _ k80 => ?_
 refine SR fun _ k81 => ?_
 refine Sc Obe ?_
 refine Ah ?_
 refine SN k81 ?_
 refine SW_cond (.tmp .hit) (fun ht38 => ?_) (fun ht38 => ?_)
 ·
  have hk : info / 2 ^ 24 % 2 ^ 5 = 17 := by have := eq_of_beq ht38; omega
  refine Xt ?_
  refine So k7 ?_
  refine Ek [3, 2, 0] ?_
  refine Sq fun _ k82 => ?_
  refine SR fun _ k83 => ?_
  refine Ac ?_
  refine Ac ?_
  refine SN k83 ?_
  refine Rt ?_
  refine Pl0 ?_
  exact SK_ret2 rfl (.o rfl) .hit (fun w hw => ⟨by rw [hk]; simp [dlen], hw.ext⟩)
 have hk17 : info / 2 ^ 24 % 2 ^ 5 ≠ 17 := by intro h; rw [h] at ht38; exact absurd ht38 dc
 refine SS k80 ?_
 refine Ek [5, 3, 2, 0] ?_
 refine Sq fun _ k84 => ?_
 refine SR fun _ k85 => ?_
 refine Sc Obe ?_
 refine Ah ?_
 refine SN k85 ?_
 refine SW_cond (.tmp .hit) (fun ht40 => ?_) (fun ht40 => ?_)
 ·
  have hk : info / 2 ^ 24 % 2 ^ 5 = 18 := by have := eq_of_beq ht40; omega
  refine Xt ?_
  refine So k6 ?_
  refine Xt ?_
  refine So k2 ?_
  refine Ek [3, 2] ?_
  refine SR fun _ k86 => ?_
  refine Ac ?_
  refine Ac ?_
  refine SN k86 ?_
  refine Rt ?_
  exact SK_ret2 rfl (.o rfl) .hit (fun w hw => ⟨by rw [hk]; simp [dlen], hw.ext⟩)
 have hk18 : info / 2 ^ 24 % 2 ^ 5 ≠ 18 := by intro h; rw [h] at ht40; exact absurd ht40 dc
 refine SS k84 ?_
 refine Ek [5, 3, 2, 0] ?_
 refine SR fun _ k87 => ?_
 refine Sc Obe ?_
 refine Ah ?_
 refine SN k87 ?_
 refine SW_cond (.tmp .hit) (fun ht42 => ?_) (fun ht42 => ?_)
 ·
  have hk : info / 2 ^ 24 % 2 ^ 5 = 19 := by have := eq_of_beq ht42; omega
  refine Xt ?_
  refine So k5 ?_
  refine Ek [3, 2, 0] ?_
  refine Sq fun _ k88 => ?_
  refine SR fun _ k89 => ?_
  refine Mo ?_
  refine Sc (O_callE (xs := [.tmp 56]) (cap := []) rfl .func (.cons (.tmp .hit) .nil) func75 rfl rfl (fun w hw => f75_ok b nm info sz hv w (hw.at_ .hit))) ?_
  refine Sc (O_binOp rfl .const (.tmp .hit) (fun _ => b_mul 12 _ _ rfl om om)) ?_
  refine Ah ?_
  refine Ac ?_
  refine SN k89 ?_
  refine Rt ?_
  refine Pl0 ?_
  exact SK_ret2 rfl (.o rfl) .hit (fun w hw => ⟨by rw [hk]; simp [dlen], hw.ext⟩)
 have hk19 : info / 2 ^ 24 % 2 ^ 5 ≠ 19 := by intro h; rw [h] at ht42; exact absurd ht42 dc
 refine SS k23 ?_
 refine Xt ?_
 refine So k4 ?_
 refine Ek [3, 2] ?_
 refine Sq fun _ k90 => ?_
 refine Sq fun _ k91 => ?_
 exfalso; omega
end

section
open Go
open Tryz
set_option maxRecDepth 100000

theorem putObj_ext (w : World) (b : Nat) (o : Obj) : Ext (· = b) w (w.putObj b o) :=
  ⟨rfl, rfl, rfl, by simp, fun _ _ hn => World.putObj_heap_other hn⟩

section
variable {S : Nat → Prop} {w0 w : World} {H H' : Hp}
theorem Holds.put (h : Holds S w0 H w) {b : Nat} {o o' : Obj} (hs : HSet H b o o' H') : Holds S w0 H' (w.putObj b o') :=
  h.turn hs (putObj_ext _ _ _) (World.putObj_heap_same (h.lt hs.mem))
theorem Holds.perm (h : Holds S w0 H w) (hp : H.Perm H') : Holds S w0 H' w :=
  ⟨h.ext, (hp.map _).nodup_iff.1 h.nodup, fun x hx => h.has x (hp.mem_iff.2 hx)⟩
theorem perm_two {A T : Hp} {a b : Nat × Bool × Obj} : (a :: b :: (A ++ T)).Perm (A ++ (a :: b :: T)) := by
  have h1 : (A ++ (b :: T)).Perm (b :: (A ++ T)) := List.perm_middle
  have h2 : (A ++ (a :: b :: T)).Perm (a :: (A ++ (b :: T))) := List.perm_middle
  exact (h2.trans (h1.cons a)).symm
end

/-- the blocks of the rounds' deferred calls, shut one behind the other -/
inductive MarksShut : Hp → List Nat → Hp → Prop
  | nil {H : Hp} : MarksShut H [] H
  | cons {H H1 H2 : Hp} {D : Nat} {Ds : List Nat} (hs : HSet H D (.deferred (some [])) (.deferred none) H1) (hm : MarksShut H1 Ds H2) : MarksShut H (D :: Ds) H2

def mkRec (fn : FuncId) (tm : Array Value) (ps : Array Tmp) (assign body : Code) (D : Nat) (st : LoopState) : Loop :=
  { state := st, pending := none, fn, tmps := tm, params := ps, assign, body, defers := D }

section
variable {ro : Option Nat} {P : Program} {S : Nat → Prop} {w0 : World} {n : Nat} {ds : List Deferred} {H H' : Hp} {e e' : Env} {Q : Exit → Act → World → Prop}

/-- the statement 'for .. := range g', every round of which goes on -/
theorem SW_range {α : Type} {g : Operand} {ps : Array Tmp} {assign body : Code} {gf : FuncId} {lb : List Value} {fng : Func} {Iend : α → Prop} {Hend : α → Hp}
    (hg : Ev e g (.func (.func gf) #[] lb.toArray)) (hfg : P.funcs[gf]? = some fng) (hbg : fng.body.isNone = false) (hnm : (fng.name == "runtime.NumGoroutine") = false)
    (it : ∀ (l D fn : Nat) (tm : Array Value), Sees n ds e { tmps := tm, defers := ds } → ∀ w,
      Holds S w0 ((l, true, .loop (mkRec fn tm ps assign body D .ready)) :: (D, true, .deferred (some [])) :: H) w →
      Calls P gf (.func (.yield l) #[] #[] :: lb).toArray w fun r w' => ∃ v, r = .returned v ∧ ∃ y, Iend y ∧
        Holds S w0 ((l, true, .loop (mkRec fn tm ps assign body D .ready)) :: (D, true, .deferred (some [])) :: Hend y) w')
    (k : ∀ D y, Iend y → SK S w0 n ({ target := .collected D, args := #[] } :: ds) ((D, true, .deferred (some [])) :: Hend y) e (Q .normal)) :
    SW none P S w0 n ds H e (.rangeFunc g ps assign body) Q := by
  intro a w ha hw
  refine wpIn_rangeFunc fun fn _ => ?_
  have he := run_enterLoop_outer (P := P) (w := w) fn a.tmps ps assign body
  have ha' : Sees n ds e { tmps := a.tmps, defers := ds } := ⟨ha.size, rfl, ha.slot⟩
  have hw1 : Holds S w0 ((w.heap.size + 1, true, .loop (mkRec fn a.tmps ps assign body w.heap.size .ready)) :: (w.heap.size, true, .deferred (some [])) :: H)
      ((w.alloc (.deferred (some []))).alloc (.loop (mkRec fn a.tmps ps assign body w.heap.size .ready))) := by
    have h1 := hw.new (.deferred (some []))
    have h2 := h1.new (.loop (mkRec fn a.tmps ps assign body w.heap.size .ready))
    have e1 : ({ w with heap := w.heap.push (.deferred (some [])) } : World).heap.size = w.heap.size + 1 := Array.size_push _
    rw [e1] at h2
    exact h2
  have hb' : fng.body ≠ none := fun e => by simp [e] at hbg
  have hnm' : fng.name ≠ "runtime.NumGoroutine" := fun e => by simp [e] at hnm
  have heg := ha.ev hg
  obtain ⟨W1, hW1⟩ : ∃ W1, (w.alloc (.deferred (some []))).alloc (.loop (mkRec fn a.tmps ps assign body w.heap.size .ready)) = W1 := ⟨_, rfl⟩
  have he' : (Instr.enterLoop fn a.tmps ps assign body none).run P w = .ok (w.heap.size + 1, [{ target := .collected w.heap.size, args := #[] }]) W1 := by rw [← hW1]; exact he
  rw [hW1] at hw1
  refine ⟨w.heap.size + 1, [{ target := .collected w.heap.size, args := #[] }], W1, { target := .fn (.func gf) lb.toArray, args := #[.func (.yield (w.heap.size + 1)) #[] #[]] }, W1, gf,
    (.func (.yield (w.heap.size + 1)) #[] #[] :: lb).toArray, W1, he', ?_, fun _ _ => trivial, ?_, fun h => by simp at h, ?_⟩
  · simp only [resolve, heg]
    simp [go_sem]
  · have hc : (callFunc gf (.func (.yield (w.heap.size + 1)) #[] #[] :: lb).toArray).run P W1 =
        .ok (.enter gf (.func (.yield (w.heap.size + 1)) #[] #[] :: lb).toArray) W1 := by
      simp [callFunc, hfg, hb', hnm']
    have hl : (#[Value.func (.yield (w.heap.size + 1)) #[] #[]] ++ lb.toArray) = (.func (.yield (w.heap.size + 1)) #[] #[] :: lb).toArray := by simp
    simp only [invoke, hl]
    exact hc
  refine callsIn_FW ((it _ _ fn a.tmps ha' _ hw1).mono ?_)
  rintro r w' ⟨v, rfl, y, hy, hw'⟩
  have hl := hw'.at_ .hit
  refine ⟨none, _, run_endLoop hl (by simp [mkRec]), ?_⟩
  have h2 := (hw'.put (o' := .loop { mkRec fn a.tmps ps assign body w.heap.size .ready with state := .exhausted }) .hit).weaken (.drop (HSub.all _))
  refine k _ y hy _ _ ?_ h2
  exact ⟨ha.size, by simp [ha.defers], ha.slot⟩
  where
  HSub.all : ∀ (H : Hp), HSub H H
  | [] => .nil
  | _ :: H => .keep (HSub.all H)

/-- a call of yield -/
theorem O_yield {β : Type} {d l : Nat} {ty : TypeId} {pos : String} {aft : Array Edge} {ats : Array TypeId} {g : Operand} {xs : List Operand} {vs : List Value} {good : β → Prop} {Hf : β → Hp} (hd : Nat.blt d n = true)
    (hg : Ev e g (.func (.yield l) #[] #[])) (hx : Evs e xs vs)
    (h : ∀ w, Holds S w0 H w → YieldAt (FW ro) 0 P l vs.toArray w fun r w' => r = .returned (.bool true) ∧ ∃ z, good z ∧ Holds S w0 (Hf z) w') :
    OT ro P S w0 n ds H e ⟨some d, .call ⟨.value g, xs.toArray, ats⟩, ty, pos, aft, none⟩ (fun X => ∀ z, good z → X ((d, .bool true) :: e) (Hf z)) := by
  intro K Q hC a w ha hw
  refine ⟨fun f _ => trivial, ?_⟩
  rw [Oper.semAt_eq _ _ _ (fun _ h => by cases h)]
  have h2 : (xs.toArray.map a.eval) = vs.toArray := by rw [List.map_toArray, ha.evs hx]
  obtain ⟨fn, tmps, assign, body, hy, hr⟩ := h w hw
  have hrun : (execOp a.eval ⟨some d, .call ⟨.value g, xs.toArray, ats⟩, ty, pos, aft, none⟩).run P w = .ok (.round l fn tmps assign body) w := by
    simp [execOp, resolve, h2, ha.ev hg, Deferred.ofValue, invoke, hy]
  rw [hrun, Oper.uponIn_round]
  refine ⟨fun h => by simp at h, hr.mono ?_⟩
  rintro r w' ⟨rfl, z, hz, hw'⟩
  exact hC z hz _ _ (ha.put hd _) hw'

/-- one round -/
theorem yield_ok {l D : Nat} {fn : FuncId} {tm : Array Value} {ps : Array Tmp} {assign body : Code} {vs : List Value} {e1 : Env} {H1 : Hp} {R : Ending → World → Prop}
    (hps : vs.length = ps.size) (hm : HMem H1 l true (.loop (mkRec fn tm ps assign body D .ready)))
    (hs : Sees n [] e1 { tmps := (ps.zip vs.toArray).foldl (fun tmps (t, a) => tmps.setIfInBounds t a) tm, defers := [] })
    (h : ∀ K : Act → World → Prop, (∀ a w, (∃ w2, (Instr.beginRound l).run P w = .ok () w2 ∧ body.wpIn (FW (some l)) 0 P (roundPost P l R) a w2) → K a w) →
      SW (some l) P S w0 n [] H1 e1 assign (Exit.then K (fun _ _ _ => False))) :
    ∀ w, Holds S w0 H1 w → YieldAt (FW none) 0 P l vs.toArray w R := by
  intro w hw
  have hl := hw.at_ hm
  refine ⟨fn, _, assign, body, run_yield hl (by simpa [mkRec] using hps), ?_⟩
  refine roundIn_of_wpIn (F := FW none) (n := 0) (hF := trivial) ?_
  exact h _ (fun a w h => h) _ _ hs hw

theorem SK_begin {l : Nat} {r : Loop} {body : Code} {R : Ending → World → Prop} {K : Act → World → Prop} (hK : ∀ a w, (∃ w2, (Instr.beginRound l).run P w = .ok () w2 ∧ body.wpIn (FW (some l)) 0 P (roundPost P l R) a w2) → K a w)
    (hr : r.state = .ready) (hset : HSet H l (.loop r) (.loop { r with state := .busy }) H') (h : SW (some l) P S w0 n ds H' e body (roundPost P l R)) : SK S w0 n ds H e K := by
  intro a w ha hw
  exact hK a w ⟨_, run_beginRound (hw.has _ hset.mem).1 hr, h _ _ ha (hw.put hset)⟩

theorem SK_roundEnd {l : Nat} {r : Loop} {R : Ending → World → Prop} (hset : HSet H l (.loop r) (.loop { r with state := .ready, pending := none }) H') (h : ∀ w, Holds S w0 H' w → R (.returned (.bool true)) w) :
    SK S w0 n ds H e (roundPost P l R .normal) := by
  intro a w _ hw
  exact ⟨_, _, run_endRound none (hw.has _ hset.mem).1, h _ (hw.put hset)⟩

/-! ### a function's end, with marks -/
theorem sw_callsM {f : FuncId} {fn : Func} {c : Code} {args : Array Value} {w : World} {R : Ending → World → Prop}
    (hf : P.funcs[f]? = some fn) (hb : fn.body = some c) (hn : fn.ntmps = n)
    (ha : Sees n [] e { tmps := args ++ Array.replicate (n - args.size) undef, defers := [] }) (hw : Holds S w0 H w)
    (h : SW none P S w0 n [] H e c (bodyPostM (FW none) 0 P fn R)) : Calls P f args w R :=
  calls_FW (ro := none) (m := 0) (callsIn_of_wp_marks hf hb trivial (by rw [hn]; exact h _ _ ha hw) rfl)
/-- as 'sw_calls', seen from an elder world -/
theorem sw_calls0 {f : FuncId} {fn : Func} {c : Code} {args : Array Value} {w : World} {R : Ending → World → Prop}
    (hf : P.funcs[f]? = some fn) (hb : fn.body = some c) (hn : fn.ntmps = n)
    (ha : Sees n [] e { tmps := args ++ Array.replicate (n - args.size) undef, defers := [] }) (hw : Holds S w0 H w)
    (h : SW none P S w0 n [] H e c (bodyPost P fn R)) : Calls P f args w R :=
  calls_FW (ro := none) (m := 0) (callsIn_of_wp hf hb trivial (by rw [hn]; exact h _ _ ha hw) rfl)

theorem leaves_marks {fn : Func} {R : Ending → World → Prop} {tm : Array Value} {v : Value} : ∀ (Ds : List Nat) (H H' : Hp) (w : World), Holds S w0 H w → MarksShut H Ds H' → (∀ w, Holds S w0 H' w → (results fn tm).run P w = .ok v w ∧ R (.returned v) w) →
    LeavesInM (FW none) 0 P fn tm R (Ds.map fun D => { target := .collected D, args := #[] }) .returning w
  | [], H, H', w, hw, hm, h => by
    cases hm
    exact ⟨v, (h w hw).1, (h w hw).2⟩
  | D :: Ds, H, H', w, hw, hm, h => by
    cases hm with
    | cons hs hm =>
      refine ⟨by simp, .inl ⟨D, _, rfl, run_takeDeferred (hw.has _ hs.mem).1, ?_⟩⟩
      exact leaves_marks Ds _ _ _ (hw.put hs) hm h
end
end
end Go.Proofs.YtoibhfpagkdleaaGreatDoor
