/-
  THE ARGUMENT: what a reading of the row says of the law's types in memory.
-/
import Derived.Test.YtoibhfpagkdleaaGreatDoorGy
import Derived.ChangeArms
namespace Go.Proofs.YtoibhfpagkdleaaGreatDoor
section
open Go
open Tryz
set_option maxRecDepth 100000

theorem exists_list {α : Type} (R : Nat → α → Prop) : ∀ n, (∀ i, i < n → ∃ a, R i a) → ∃ l : List α, l.length = n ∧ ∀ i a, l[i]? = some a → R i a
  | 0, _ => ⟨[], rfl, fun i a h => by simp at h⟩
  | n + 1, h => by
    obtain ⟨l, hl, hr⟩ := exists_list R n fun i hi => h i om
    obtain ⟨a, ha⟩ := h n om
    refine ⟨l ++ [a], by simp [hl], fun i b hb => ?_⟩
    rcases Nat.lt_or_ge i n with hi | hi
    · rw [List.getElem?_append_left om] at hb
      exact hr i b hb
    rw [List.getElem?_append_right om] at hb
    have h0 : i - l.length = 0 := by
      rcases Nat.eq_zero_or_pos (i - l.length) with h | h
      · exact h
      rw [List.getElem?_eq_none Q47] at hb; cases hb
    rw [h0] at hb
    have hin : i = n := by omega
    subst hin
    simp only [List.getElem?_cons_zero, Option.some.injEq] at hb
    subst hb
    exact ha
theorem cells_get {w : World} {base n : Nat} {a : Addr} {cs : List Value} (h : w.cells? base a n = some cs) : ∀ i u, cs[i]? = some u → w.cell? (a.add i) = some u := by
  unfold World.cells? at h
  split at h
  · intro i u hu
    have hl := mapM_some_length h
    have hi : i < n := by
      rcases Nat.lt_or_ge i n with hi | hi
      · exact hi
      rw [List.getElem?_eq_none (by rw [hl]; simpa using hi)] at hu; cases hu
    have := mapM_some_get h i i (by simp [hi])
    rw [this, hu]
  cases h
theorem spot_none {w : World} {a : Addr} {u : Value} (h : w.cell? (a.add 0) = some u) : a.spot = none := by
  unfold Addr.add at h
  rw [if_pos rfl] at h
  unfold World.cell? at h
  split at h
  · split at h
    · cases h
    rename_i hs
    cases hsp : a.spot with
    | none => rfl
    | some x => rw [hsp] at hs; simp at hs
  cases h
theorem add_add (b off i j : Nat) : (Addr.add ⟨b, off, none⟩ i).add j = ⟨b, off + i + j, none⟩ := by rw [add_none, add_none]

section
variable {H : Type} {enc : TypeId × Value → H} {w : World} {fuel : Nat} {cs : List Value} {x : DataW H × List MemPlace}
theorem i64_wf {n : Int} (h : (Lit.int .i64 n).wf = true) : -9223372036854775808 ≤ n ∧ n < 9223372036854775808 := by
  have h1 : IntKind.i64.min = -9223372036854775808 := by decide
  have h2 : IntKind.i64.max = 9223372036854775807 := by decide
  simp only [Lit.wf, Bool.and_eq_true, decide_eq_true_eq, h1, h2] at h
  omega
theorem drop1 {cs : List Value} {k : Nat} {v : Value} (h : (cs.drop k).take 1 = [v]) : cs[k]? = some v := by
  have : ((cs.drop k).take 1)[0]? = some v := by rw [h]; rfl
  rw [List.getElem?_take_of_lt dc, List.getElem?_drop] at this
  exact this
theorem list5 {cs : List Value} (h : cs.length = 5) {a b c d e : Value} (h0 : cs[0]? = some a) (h1 : cs[1]? = some b) (h2 : cs[2]? = some c) (h3 : cs[3]? = some d) (h4 : cs[4]? = some e) : cs = [a, b, c, d, e] := by
  match cs, h with
  | [p, q, r, s, t], _ => simp_all
theorem list8 {cs : List Value} (h : cs.length = 8) {a b c d e f g k : Value} (h0 : cs[0]? = some a) (h1 : cs[1]? = some b) (h2 : cs[2]? = some c) (h3 : cs[3]? = some d) (h4 : cs[4]? = some e) (h5 : cs[5]? = some f) (h6 : cs[6]? = some g) (h7 : cs[7]? = some k) : cs = [a, b, c, d, e, f, g, k] := by
  match cs, h with
  | [p, q, r, s, t, u, v, z], _ => simp_all
theorem get_lt {α : Type} {l : List α} {i : Nat} {n : Nat} (h : l.length = n) (hi : i < n) : ∃ a, l[i]? = some a := ⟨_, List.getElem?_eq_getElem om⟩

/-- a member is read -/
theorem open_mem (h : DataW.trod enc Tryz.prog w 0 (fun _ => true) true fuel 64 cs = some x) : ∃ m : Mb, cs = cellsM m ∧ -9223372036854775808 ≤ m.val ∧ m.val < 9223372036854775808 := by
  obtain ⟨xs, n, _, _, hl, hx, hf⟩ := DataW.trod_struct underlying64 h
  rw [show Tryz.prog.cellsOf 64 = 5 by kernel_rfl] at hl
  have c9 : Tryz.prog.cellsOf 9 = 1 := by kernel_rfl
  have c3 : Tryz.prog.cellsOf 3 = 1 := by kernel_rfl
  have c2 : Tryz.prog.cellsOf 2 = 1 := by kernel_rfl
  have f0 : DataW.trod enc Tryz.prog w 0 (fun _ => true) true n 9 ((cs.drop 0).take (Tryz.prog.cellsOf 9)) = xs[0]? := hf 0 _ rfl
  have f1 : DataW.trod enc Tryz.prog w 0 (fun _ => true) true n 3 ((cs.drop 1).take (Tryz.prog.cellsOf 3)) = xs[1]? := hf 1 _ rfl
  have f2 : DataW.trod enc Tryz.prog w 0 (fun _ => true) true n 3 ((cs.drop 2).take (Tryz.prog.cellsOf 3)) = xs[2]? := hf 2 _ rfl
  have f3 : DataW.trod enc Tryz.prog w 0 (fun _ => true) true n 3 ((cs.drop 3).take (Tryz.prog.cellsOf 3)) = xs[3]? := hf 3 _ rfl
  have f4 : DataW.trod enc Tryz.prog w 0 (fun _ => true) true n 2 ((cs.drop 4).take (Tryz.prog.cellsOf 2)) = xs[4]? := hf 4 _ rfl
  obtain ⟨y0, e0⟩ := get_lt (i := 0) hx dc
  obtain ⟨y1, e1⟩ := get_lt (i := 1) hx dc
  obtain ⟨y2, e2⟩ := get_lt (i := 2) hx dc
  obtain ⟨y3, e3⟩ := get_lt (i := 3) hx dc
  obtain ⟨y4, e4⟩ := get_lt (i := 4) hx dc
  rw [c9, e0] at f0
  rw [c3, e1] at f1
  rw [c3, e2] at f2
  rw [c3, e3] at f3
  rw [c2, e4] at f4
  obtain ⟨s, g0, _⟩ := DataW.trod_string underlying9 f0
  obtain ⟨a1, g1, _⟩ := DataW.trod_int underlying3 f1
  obtain ⟨a2, g2, _⟩ := DataW.trod_int underlying3 f2
  obtain ⟨a3, g3, _⟩ := DataW.trod_int underlying3 f3
  obtain ⟨a4, g4, _, hw⟩ := DataW.trod_int underlying2 f4
  exact ⟨⟨s, a1, a2, a3, a4⟩, list5 hl (drop1 g0) (drop1 g1) (drop1 g2) (drop1 g3) (drop1 g4), i64_wf hw⟩
/-- members are read -/
theorem open_mems (h : DataW.trod enc Tryz.prog w 0 (fun _ => true) true fuel 30 cs = some x) : ∃ (p : Option Addr) (c : Nat) (ms : List Mb), cs = [.slice p ms.length c] ∧ ms.length ≤ c ∧ MemsAt w p ms ∧ ∀ m ∈ ms, -9223372036854775808 ≤ m.val ∧ m.val < 9223372036854775808 := by
  rcases DataW.trod_slice underlying30 h with ⟨rfl, _⟩ | ⟨a, len, cap, elems, rest, n, _, rfl, _, _, hlc, _, hlen, he, _⟩
  · exact ⟨none, 0, [], rfl, Nat.le_refl _, fun i m hm => by simp at hm, fun m hm => by cases hm⟩
  rw [show Tryz.prog.cellsOf 64 = 5 by kernel_rfl] at he
  obtain ⟨ms, hms, hR⟩ := exists_list (fun i (m : Mb) => (w.cells? 0 (a.add (i * 5)) 5 = some (cellsM m)) ∧ -9223372036854775808 ≤ m.val ∧ m.val < 9223372036854775808) len (fun i hi => by
    have h1 := he i hi
    obtain ⟨y, hy⟩ := get_lt hlen hi
    rw [hy, Option.bind_eq_some_iff] at h1
    obtain ⟨cs, h2, h3⟩ := h1
    obtain ⟨m, rfl, hm⟩ := open_mem h3
    exact ⟨m, h2, hm⟩)
  refine ⟨some a, cap, ms, by rw [hms], by omega, fun i m hm => ?_, fun m hm => ?_⟩
  · have hi : i < ms.length := (List.getElem?_eq_some_iff.1 hm).1
    have hs : a.spot = none := by
      have h0 := (hR 0 _ (List.getElem?_eq_getElem om)).1
      rw [Nat.zero_mul, show a.add 0 = a from if_pos rfl] at h0
      exact spot_none (cells_get h0 0 _ rfl)
    obtain ⟨b, off, sp⟩ := a
    dsimp only at hs
    subst hs
    refine ⟨b, off, rfl, fun j u hu => ?_⟩
    have := cells_get (hR i m hm).1 j u hu
    rwa [add_add] at this
  obtain ⟨i, hi, rfl⟩ := List.getElem_of_mem hm
  exact (hR i _ (List.getElem?_eq_getElem hi)).2
/-- a type is read -/
theorem open_ty (h : DataW.trod enc Tryz.prog w 0 (fun _ => true) true fuel 32 cs = some x) : ∃ (t : Tp) (p : Option Addr) (c : Nat), cs = cellsT t (.slice p t.mems.length c) ∧ t.mems.length ≤ c ∧ MemsAt w p t.mems ∧ ∀ m ∈ t.mems, -9223372036854775808 ≤ m.val ∧ m.val < 9223372036854775808 := by
  obtain ⟨xs, n, _, _, hl, hx, hf⟩ := DataW.trod_struct underlying32 h
  rw [show Tryz.prog.cellsOf 32 = 8 by kernel_rfl] at hl
  have c9 : Tryz.prog.cellsOf 9 = 1 := by kernel_rfl
  have c3 : Tryz.prog.cellsOf 3 = 1 := by kernel_rfl
  have c30 : Tryz.prog.cellsOf 30 = 1 := by kernel_rfl
  have f0 : DataW.trod enc Tryz.prog w 0 (fun _ => true) true n 3 ((cs.drop 0).take (Tryz.prog.cellsOf 3)) = xs[0]? := hf 0 _ rfl
  have f1 : DataW.trod enc Tryz.prog w 0 (fun _ => true) true n 9 ((cs.drop 1).take (Tryz.prog.cellsOf 9)) = xs[1]? := hf 1 _ rfl
  have f2 : DataW.trod enc Tryz.prog w 0 (fun _ => true) true n 3 ((cs.drop 2).take (Tryz.prog.cellsOf 3)) = xs[2]? := hf 2 _ rfl
  have f3 : DataW.trod enc Tryz.prog w 0 (fun _ => true) true n 3 ((cs.drop 3).take (Tryz.prog.cellsOf 3)) = xs[3]? := hf 3 _ rfl
  have f4 : DataW.trod enc Tryz.prog w 0 (fun _ => true) true n 3 ((cs.drop 4).take (Tryz.prog.cellsOf 3)) = xs[4]? := hf 4 _ rfl
  have f5 : DataW.trod enc Tryz.prog w 0 (fun _ => true) true n 3 ((cs.drop 5).take (Tryz.prog.cellsOf 3)) = xs[5]? := hf 5 _ rfl
  have f6 : DataW.trod enc Tryz.prog w 0 (fun _ => true) true n 3 ((cs.drop 6).take (Tryz.prog.cellsOf 3)) = xs[6]? := hf 6 _ rfl
  have f7 : DataW.trod enc Tryz.prog w 0 (fun _ => true) true n 30 ((cs.drop 7).take (Tryz.prog.cellsOf 30)) = xs[7]? := hf 7 _ rfl
  obtain ⟨y0, e0⟩ := get_lt (i := 0) hx dc
  obtain ⟨y1, e1⟩ := get_lt (i := 1) hx dc
  obtain ⟨y2, e2⟩ := get_lt (i := 2) hx dc
  obtain ⟨y3, e3⟩ := get_lt (i := 3) hx dc
  obtain ⟨y4, e4⟩ := get_lt (i := 4) hx dc
  obtain ⟨y5, e5⟩ := get_lt (i := 5) hx dc
  obtain ⟨y6, e6⟩ := get_lt (i := 6) hx dc
  obtain ⟨y7, e7⟩ := get_lt (i := 7) hx dc
  rw [c3, e0] at f0
  rw [c9, e1] at f1
  rw [c3, e2] at f2
  rw [c3, e3] at f3
  rw [c3, e4] at f4
  rw [c3, e5] at f5
  rw [c3, e6] at f6
  rw [c30, e7] at f7
  obtain ⟨a0, g0, _⟩ := DataW.trod_int underlying3 f0
  obtain ⟨s, g1, _⟩ := DataW.trod_string underlying9 f1
  obtain ⟨a2, g2, _⟩ := DataW.trod_int underlying3 f2
  obtain ⟨a3, g3, _⟩ := DataW.trod_int underlying3 f3
  obtain ⟨a4, g4, _⟩ := DataW.trod_int underlying3 f4
  obtain ⟨a5, g5, _⟩ := DataW.trod_int underlying3 f5
  obtain ⟨a6, g6, _⟩ := DataW.trod_int underlying3 f6
  obtain ⟨p, c, ms, g7, h1, h2, h3⟩ := open_mems f7
  exact ⟨⟨a0, s, a2, a3, a4, a5, a6, ms⟩, p, c, list8 hl (drop1 g0) (drop1 g1) (drop1 g2) (drop1 g3) (drop1 g4) (drop1 g5) (drop1 g6) (drop1 g7), h1, h2, h3⟩
/-- the law's types are read -/
theorem open_tys (h : DataW.trod enc Tryz.prog w 0 (fun _ => true) true fuel 22 cs = some x) : ∃ (p : Option Addr) (c : Nat) (ts : List Tp), cs = [.slice p ts.length c] ∧ TysAt w p ts ∧ VOk ts := by
  rcases DataW.trod_slice underlying22 h with ⟨rfl, _⟩ | ⟨a, len, cap, elems, rest, n, _, rfl, _, _, hlc, _, hlen, he, _⟩
  · exact ⟨none, 0, [], rfl, fun i t ht => by simp at ht, fun t ht => by cases ht⟩
  rw [show Tryz.prog.cellsOf 32 = 8 by kernel_rfl] at he
  obtain ⟨ts, hts, hR⟩ := exists_list (fun i (t : Tp) => ∃ p c, (w.cells? 0 (a.add (i * 8)) 8 = some (cellsT t (.slice p t.mems.length c))) ∧ t.mems.length ≤ c ∧ MemsAt w p t.mems ∧ ∀ m ∈ t.mems, -9223372036854775808 ≤ m.val ∧ m.val < 9223372036854775808) len (fun i hi => by
    have h1 := he i hi
    obtain ⟨y, hy⟩ := get_lt hlen hi
    rw [hy, Option.bind_eq_some_iff] at h1
    obtain ⟨cs, h2, h3⟩ := h1
    obtain ⟨t, p, c, rfl, hm⟩ := open_ty h3
    exact ⟨t, p, c, h2, hm⟩)
  refine ⟨some a, cap, ts, by rw [hts], fun i t ht => ?_, fun t ht => ?_⟩
  · have hi : i < ts.length := (List.getElem?_eq_some_iff.1 ht).1
    have hs : a.spot = none := by
      obtain ⟨p, c, h0, _⟩ := hR 0 _ (List.getElem?_eq_getElem om)
      rw [Nat.zero_mul, show a.add 0 = a from if_pos rfl] at h0
      exact spot_none (cells_get h0 0 _ rfl)
    obtain ⟨b, off, sp⟩ := a
    dsimp only at hs
    subst hs
    obtain ⟨mp, mc, h1, h2, h3, _⟩ := hR i t ht
    refine ⟨b, off, rfl, mp, mc, fun j u hu => ?_, h2, h3⟩
    have := cells_get h1 j u hu
    rwa [add_add] at this
  obtain ⟨i, hi, rfl⟩ := List.getElem_of_mem ht
  obtain ⟨p, c, _, _, _, h4⟩ := hR i _ (List.getElem?_eq_getElem hi)
  exact h4
end
end
end Go.Proofs.YtoibhfpagkdleaaGreatDoor
