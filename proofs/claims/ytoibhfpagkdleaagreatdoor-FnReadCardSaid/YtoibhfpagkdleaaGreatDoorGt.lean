/-
  THE CALCULUS, PART 16: what a blob's bytes say; a range over all types.
  THE PLAIN LAW, PART 2: the words of a blob, at their places.
  CONTRACT: the members of a composed type are told.
-/
import Derived.Test.YtoibhfpagkdleaaGreatDoorGs
import Derived.Test.YtoibhfpagkdleaaGreatDoorSi
import Derived.Test.YtoibhfpagkdleaaGreatDoorSf
namespace Go.Proofs.YtoibhfpagkdleaaGreatDoor
section
open Go
open Tryz
set_option maxRecDepth 100000
/-- what a blob's bytes say (nothing of where they lie) -/
structure DataOk (C : Cx) (txs : List Nat) : Prop where
  head : HeadAt C.o C.big C.len C.sl
  off : C.off = 24
  toff : C.toff = 24 + C.len
  p0 : C.pos 0 = 0
  pN : C.pos C.N = C.len
  tab : Bytes C.o (24 + C.len) (0 :: txs)
  tabl : (0 :: txs).length = C.sl
  tabz : (0 :: txs).getLast? = some 0
  lp : 0 < C.len
  rec_ : ∀ k, k < C.N → C.pos k + 12 + dlen (C.kd k) (C.vl k) = C.pos (k + 1) ∧ C.pos (k + 1) ≤ C.len ∧ W4 C.o (C.off + C.pos k + 0) C.big (C.nm k) ∧ W4 C.o (C.off + C.pos k + 4) C.big (C.inf k) ∧ W4 C.o (C.off + C.pos k + 8) C.big (C.sz k) ∧ C.kd k ≠ 0 ∧ C.kd k ≤ 19
  k17 : ∀ k, k < C.N → C.kd k ≠ 17
  h31 : C.len < 2147483648
  h32 : C.sl < 4294967296
  hN : C.N ≤ 30
  v8 : ∀ k, k < C.N → C.vl k ≤ 8
  ex : ∀ k, k < C.N → ∀ j, 4 * j + 4 ≤ dlen (C.kd k) (C.vl k) → W4 C.o (C.off + C.pos k + 12 + 4 * j) C.big (C.ex k j)
  txt : ∀ k, k < C.N → TextAt C.o C.toff C.sl (C.nm k) (C.str (C.nm k))
  mtxt : ∀ k, k < C.N → C.kd k ≠ 15 → ∀ j, j < C.vl k → TextAt C.o C.toff C.sl (C.ex k (stride (C.kd k) * j)) (C.str (C.ex k (stride (C.kd k) * j)))
  ref : ∀ k, k < C.N → (C.kd k = 2 ∨ C.kd k = 8 ∨ C.kd k = 9 ∨ C.kd k = 10 ∨ C.kd k = 11 ∨ C.kd k = 12 ∨ C.kd k = 13 ∨ C.kd k = 14 ∨ C.kd k = 18) → C.sz k ≤ C.N
  ref3 : ∀ k, k < C.N → C.kd k = 3 → C.ex k 0 ≤ C.N ∧ C.ex k 1 ≤ C.N
  refm : ∀ k, k < C.N → C.kd k = 4 ∨ C.kd k = 5 → ∀ j, j < C.vl k → C.ex k (3 * j + 1) ≤ C.N
  refp : ∀ k, k < C.N → C.kd k = 13 → ∀ j, j < C.vl k → C.ex k (2 * j + 1) ≤ C.N
  refv : ∀ k, k < C.N → C.kd k = 15 → ∀ j, j < C.vl k → C.ex k (3 * j) ≤ C.N
  int : ∀ k, k < C.N → C.kd k = 1 → C.ex k 0 / 2 ^ 16 % 2 ^ 8 = 0 ∧ C.ex k 0 / 2 ^ 0 % 2 ^ 8 = 8 * C.sz k
theorem DataOk.cx {C : Cx} {txs : List Nat} (h : DataOk C txs) (hlc : C.len < C.cap) (hne : C.st ≠ C.b) (hst : C.sl ≤ C.tcap) (ro : RowOk 1 (some C.z.ro) (C.N + 1) (offV C.pos C.N)) : CxOk C := ⟨h.rec_, h.k17, hlc, h.h31, hne, hst, h.h32, h.hN, ro, h.v8, h.ex, h.txt, h.mtxt, h.ref, h.ref3, h.refm, h.refp, h.refv, h.int⟩
theorem DataOk.recs {C : Cx} {txs : List Nat} (h : DataOk C txs) : RecAt C.o C.big 24 C.len (24 + C.len) C.sl C.N C.pos C.nm C.inf C.sz :=
  ⟨fun k hk => by
    obtain ⟨a, b, c, d, e, f, g⟩ := h.rec_ k hk
    rw [h.off] at c d e
    exact ⟨a, b, c, d, e, f, g⟩, h.k17, h.p0, h.pN, fun k hk => ⟨C.str (C.nm k), by
    have q := h.txt k hk
    rw [h.toff] at q
    exact q⟩⟩
section
variable {S : Nat → Prop} {w0 : World} {n : Nat} {ds : List Deferred} {H : Hp} {e : Env} {Q : Exit → Act → World → Prop}
/-- for typ, err := range s.All() -/
theorem SW_range32 {α : Type} (rest : α → Hp) (I : Nat → α → Prop) {C : Cx} (hO : CxOk C) {sp b1 : Nat} {fb1 : Bool} {g0 : Obj} {ea : Addr} (hg : cellOf g0 0 = some (.iface 202 (.pointer (some ea)))) (x0 : St) (a0 : α) (hF : C.Full x0) (hI : I 0 a0) {g : Operand} {p1 p2 : Nat} {assign body : Code}
    (hgv : Ev e g (.func (.func 32) #[] [.pointer (some ⟨b1, 0, none⟩)].toArray)) (h1 : Nat.blt p1 n = true) (h2 : Nat.blt p2 n = true) (hp : HSub (C.H x0 ((sp, false, .cells #[.pointer (some ⟨C.z.d, 0, none⟩)] 78 (0, 0)) :: (0, false, g0) :: (b1, fb1, .cells #[.pointer (some ⟨sp, 0, none⟩)] 38 (0, 0)) :: rest a0)) H)
    (round : ∀ (l D fn : Nat) (tm : Array Value) (k : Nat) (x y : St) (a : α) (v : Value), k ≤ C.N → I k a → C.Full x → C.Post [] x k (y, v) → ∀ (K : Act → World → Prop), (∀ a w, (∃ w2, (Instr.beginRound l).run Tryz.prog w = .ok () w2 ∧ body.wpIn (FW (some l)) 0 Tryz.prog (roundPost Tryz.prog l fun r w' => r = .returned (.bool true) ∧ ∃ a', I (k + 1) a' ∧
        Holds S w0 (C.H y ((sp, false, .cells #[.pointer (some ⟨C.z.d, 0, none⟩)] 78 (0, 0)) :: (0, false, g0) :: (b1, fb1, .cells #[.pointer (some ⟨sp, 0, none⟩)] 38 (0, 0)) :: (l, true, .loop (mkRec fn tm #[p1, p2] assign body D .ready)) :: (D, true, .deferred (some [])) :: rest a')) w') a w2) → K a w) →
      SW (some l) Tryz.prog S w0 n [] (C.H y ((sp, false, .cells #[.pointer (some ⟨C.z.d, 0, none⟩)] 78 (0, 0)) :: (0, false, g0) :: (b1, fb1, .cells #[.pointer (some ⟨sp, 0, none⟩)] 38 (0, 0)) :: (l, true, .loop (mkRec fn tm #[p1, p2] assign body D .ready)) :: (D, true, .deferred (some [])) :: rest a)) ((p2, .nilIface) :: (p1, v) :: e) assign (Exit.then K (fun _ _ _ => False)))
    (k : ∀ (D : Nat) (y : St) (a : α), C.Full y → I (C.N + 1) a → SK S w0 n ({ target := .collected D, args := #[] } :: ds) ((D, true, .deferred (some [])) :: C.H y ((sp, false, .cells #[.pointer (some ⟨C.z.d, 0, none⟩)] 78 (0, 0)) :: (0, false, g0) :: (b1, fb1, .cells #[.pointer (some ⟨sp, 0, none⟩)] 38 (0, 0)) :: rest a)) e (Q .normal)) :
    SW none Tryz.prog S w0 n ds H e (.rangeFunc g #[p1, p2] assign body) Q := by
  refine SW_range (α := St × α) (Iend := fun y => C.Full y.1 ∧ I (C.N + 1) y.2) (Hend := fun y => C.H y.1 ((sp, false, .cells #[.pointer (some ⟨C.z.d, 0, none⟩)] 78 (0, 0)) :: (0, false, g0) :: (b1, fb1, .cells #[.pointer (some ⟨sp, 0, none⟩)] 38 (0, 0)) :: rest y.2)) hgv func32 rfl rfl (fun l D fn tm hs w hw => ?_) (fun D y hy => k D y.1 y.2 hy.1 hy.2)
  refine (f32_ok (fun a => (l, true, .loop (mkRec fn tm #[p1, p2] assign body D .ready)) :: (D, true, .deferred (some [])) :: rest a) I hO sp b1 fb1 g0 ea hg l (fun k x y a v hk ha hx hz w hw => ?_) x0 a0 hF hI w ((hw.weaken (.keep (.keep hp))).weaken .a)).mono ?_
  · exact yield_ok (vs := [v, .nilIface]) rfl .a (sees_yield2 hs h1 h2) (fun K hK => round l D fn tm k x y a v hk ha hx hz K hK) w hw
  rintro r w' ⟨rfl, y, a, hy, ha, hw'⟩
  exact ⟨_, rfl, (y, a), ⟨hy, ha⟩, hw'.weaken .a⟩
end
end

section
open Go
open Tryz
set_option maxRecDepth 100000

theorem Bytes.of_row {r : Row} {n : Nat} {bs : List Nat} (h : RowOk 1 (some r) n (u8s bs)) (hl : ∀ b ∈ bs, b < 256) {E : TypeId} : Bytes (.cells r.cur.toArray E (0, 0)) 0 bs := fun i x hx => by
  refine ⟨hl x (List.mem_of_getElem? hx), ?_⟩
  rw [Nat.zero_add]
  exact h.get (by simp [u8s, hx])
theorem W4.of {o : Obj} {off x : Nat} {big : Bool} {rest : List Nat} (h : Bytes o off (wB x 4 big ++ rest)) (hx : x < 4294967296) : W4 o off big x := by
  have h4 := (Bytes.app h).1
  cases big with
  | true =>
    have g : ∀ i y, (wB x 4 true)[i]? = some y → cellOf o (off + i) = some (.int .u8 (y : Nat)) := fun i y hy => (h4 i y hy).2
    refine ⟨x / 2 ^ 24 % 256, x / 2 ^ 16 % 256, x / 2 ^ 8 % 256, x / 2 ^ 0 % 256, by omega, by omega, by omega, by omega, g 0 _ rfl, g 1 _ rfl, g 2 _ rfl, g 3 _ rfl, ?_⟩
    simp only [if_true]
    omega
  | false =>
    have g : ∀ i y, (wB x 4 false)[i]? = some y → cellOf o (off + i) = some (.int .u8 (y : Nat)) := fun i y hy => (h4 i y hy).2
    refine ⟨x / 2 ^ 0 % 256, x / 2 ^ 8 % 256, x / 2 ^ 16 % 256, x / 2 ^ 24 % 256, by omega, by omega, by omega, by omega, g 0 _ rfl, g 1 _ rfl, g 2 _ rfl, g 3 _ rfl, ?_⟩
    simp only [Bool.false_eq_true, if_false]
    omega
theorem W4.ofAny {o : Obj} {off : Nat} {bs : List Nat} (h : Bytes o off bs) (hl : 4 ≤ bs.length) (ob : Bool) : ∃ x, W4 o off ob x := by
  have g : ∀ i, i < 4 → ∃ y, y < 256 ∧ cellOf o (off + i) = some (.int .u8 (y : Nat)) := fun i hi => ⟨bs[i], (h i bs[i] (List.getElem?_eq_getElem om)).1, (h i bs[i] (List.getElem?_eq_getElem om)).2⟩
  obtain ⟨a, a1, a2⟩ := g 0 om
  obtain ⟨b, b1, b2⟩ := g 1 om
  obtain ⟨c, c1, c2⟩ := g 2 om
  obtain ⟨d, d1, d2⟩ := g 3 om
  exact ⟨_, a, b, c, d, a1, b1, c1, d1, a2, b2, c2, d2, rfl⟩
theorem words_at {o : Obj} {big : Bool} {rest : List Nat} : ∀ {ws : List Nat} {off : Nat}, Bytes o off (wsB ws big ++ rest) → (∀ x ∈ ws, x < 4294967296) → ∀ {i x : Nat}, ws[i]? = some x → W4 o (off + 4 * i) big x
  | w :: ws, off, h, hb, 0, x, hx => by
    simp only [List.getElem?_cons_zero, Option.some.injEq] at hx
    subst hx
    rw [wsB_cons, List.append_assoc] at h
    exact W4.of h (hb _ List.mem_cons_self)
  | w :: ws, off, h, hb, i + 1, x, hx => by
    rw [wsB_cons, List.append_assoc] at h
    have h2 := (Bytes.app h).2
    rw [length_wB] at h2
    have := words_at h2 (fun x hx => hb x (List.mem_cons_of_mem _ hx)) (by simpa using hx)
    rw [show off + 4 * (i + 1) = off + 4 + 4 * i by omega]
    exact this

/-! ### the words of one type -/
theorem nat_lt {x : Int} {n : Nat} (h : x < n) : nat x < n ∨ x < 0 := by unfold nat; omega
theorem infoW_parts {len : Nat} {t : Tp} (h : TOk len t) : infoW t < 4294967296 ∧ infoW t / 2 ^ 24 % 2 ^ 5 = nat t.kind ∧ infoW t / 2 ^ 0 % 2 ^ 16 = vlenN t ∧ infoW t / 2 ^ 31 % 2 ^ 1 = (if flagB t then 1 else 0) := by
  obtain ⟨⟨⟨k1, k2, k3⟩, _⟩, ⟨_, _, _, _, h5, _⟩, _, _, _, hd⟩ := h
  have hv : vlenN t < 65536 := by
    unfold vlenN
    split
    · rename_i hk
      have := hd.2.2.2.2.2.1 (.inl hk)
      unfold nat; omega
    omega
  have hk : nat t.kind < 32 := by unfold nat; omega
  unfold infoW
  split <;> refine ⟨by omega, by omega, by omega, by omega⟩
theorem flatG {α β : Type} {f : α → List β} {s : Nat} (hs : ∀ a, (f a).length = s) : ∀ {l : List α} {k : Nat} {a : α} {q : Nat}, l[k]? = some a → q < s → (l.flatMap f)[s * k + q]? = (f a)[q]?
  | x :: l, 0, a, q, h, hq => by
    simp only [List.getElem?_cons_zero, Option.some.injEq] at h
    subst h
    rw [List.flatMap_cons, List.getElem?_append_left (by rw [hs]; omega)]
    simp
  | x :: l, k + 1, a, q, h, hq => by
    rw [List.flatMap_cons, List.getElem?_append_right (by rw [hs, Nat.mul_succ]; omega), hs, show s * (k + 1) + q - s = s * k + q by rw [Nat.mul_succ]; omega]
    exact flatG hs Q48 hq
theorem flatG_len {α β : Type} {f : α → List β} {s : Nat} (hs : ∀ a, (f a).length = s) (l : List α) : (l.flatMap f).length = s * l.length := by
  induction l with
  | nil => simp
  | cons x l ih => rw [List.flatMap_cons, List.length_append, hs, ih, List.length_cons, Nat.mul_succ]; omega
/-- how many words a member has -/
def mlen (k : Nat) : Nat := if k = 4 ∨ k = 5 ∨ k = 15 ∨ k = 19 then 3 else 2
theorem memW_len (F : List ByteArray) {kind : Int} {k : Nat} (h : kind = k) (fields : Bool) (m : Mb) : (memW F kind fields m).length = mlen k := by
  subst h
  unfold memW mlen
  by_cases h15 : k = 15
  · subst h15; simp
  by_cases h45 : k = 4 ∨ k = 5
  · rcases h45 with rfl | rfl <;> simp
  by_cases h13 : k = 13
  · subst h13; simp
  by_cases h19 : k = 19
  · subst h19; simp
  rw [if_neg om, if_neg om, if_neg om, if_neg om, if_neg om]
  rfl
theorem kinds {len : Nat} {t : Tp} (h : TOk len t) : ∃ k : Nat, t.kind = k ∧ nat t.kind = k ∧ 1 ≤ k ∧ k ≤ 19 ∧ k ≠ 17 := by
  obtain ⟨⟨⟨k1, k2, k3⟩, _⟩, _⟩ := h
  exact ⟨nat t.kind, by unfold nat; omega, rfl, by unfold nat; omega, by unfold nat; omega, by unfold nat; omega⟩
/-- the length of a type's words -/
theorem typeW_len {len : Nat} {t : Tp} (F : List ByteArray) (h : TOk len t) : 4 * (typeW F t).length = 12 + dlen (nat t.kind) (vlenN t) := by
  obtain ⟨k, hk, hn, h1, h2, h3⟩ := kinds h
  have hm : (memsW F t t.mems).length = mlen k * t.mems.length := flatG_len (fun m => memW_len F hk _ m) _
  have hc : composedB t.kind = false → t.mems.length = 0 := h.2.1.2.2.2.2.2.1
  rw [typeW, headW, List.length_append, List.length_append, hm, hn]
  have hkk : k = 1 ∨ k = 2 ∨ k = 3 ∨ k = 4 ∨ k = 5 ∨ k = 6 ∨ k = 7 ∨ k = 8 ∨ k = 9 ∨ k = 10 ∨ k = 11 ∨ k = 12 ∨ k = 13 ∨ k = 14 ∨ k = 15 ∨ k = 16 ∨ k = 18 ∨ k = 19 := by omega
  have hv : k ≠ 12 → vlenN t = t.mems.length := fun h12 => by unfold vlenN; rw [if_neg om]
  rcases hkk with e | e | e | e | e | e | e | e | e | e | e | e | e | e | e | e | e | e <;> subst e <;> first
    | (have h0 : t.mems.length = 0 := hc (by rw [hk]; rfl)
       simp [detW, hk, mlen, dlen, h0]
       done)
    | (rw [hv dc]
       simp [detW, hk, mlen, dlen]
       omega)
theorem lo32_lt' (x : Int) : lo32 x < 4294967296 := by unfold lo32; omega
theorem hi32_lt' (x : Int) : hi32 x < 4294967296 := by unfold hi32; omega
theorem memW_lt {len : Nat} {F : List ByteArray} {t : Tp} {m : Mb} (h : TOk len t) (hm : m ∈ t.mems) (hF : (tabB F).length < 4000000000) (hl : len ≤ 30) (fields : Bool) : ∀ x ∈ memW F t.kind fields m, x < 4294967296 := by
  obtain ⟨⟨m1, m2, m3, m4, m5⟩, _, m8, m9, m10, m11⟩ := h.mem hm
  have ho := offs_le F m.name
  have hof : nat m.of_ < 4294967296 := by unfold nat; omega
  have hoff : nat m.off < 16777216 := by unfold nat; omega
  unfold memW
  by_cases h15 : t.kind = 15
  · have := m10 h15
    rw [if_pos h15]
    have hb : nat m.bits < 16777216 := by unfold nat; omega
    intro x hx
    simp only [List.mem_cons, List.not_mem_nil, or_false] at hx
    rcases hx with rfl | rfl | rfl <;> omega
  rw [if_neg h15]
  by_cases h45 : t.kind = 4 ∨ t.kind = 5
  · have := m8 h45
    have hb : nat m.bits < 256 := by unfold nat; omega
    rw [if_pos h45]
    intro x hx
    simp only [List.mem_cons, List.not_mem_nil, or_false] at hx
    rcases hx with rfl | rfl | rfl
    · omega
    · omega
    split <;> omega
  rw [if_neg h45]
  by_cases h13 : t.kind = 13
  · rw [if_pos h13]
    intro x hx
    simp only [List.mem_cons, List.not_mem_nil, or_false] at hx
    rcases hx with rfl | rfl <;> omega
  rw [if_neg h13]
  intro x hx
  have h1 := lo32_lt' m.val
  have h2 := hi32_lt' m.val
  split at hx <;> simp only [List.mem_cons, List.not_mem_nil, or_false] at hx
  · rcases hx with rfl | rfl | rfl <;> omega
  rcases hx with rfl | rfl <;> omega
theorem typeW_lt {len : Nat} {F : List ByteArray} {t : Tp} (h : TOk len t) (hF : (tabB F).length < 4000000000) (hl : len ≤ 30) : ∀ x ∈ typeW F t, x < 4294967296 := by
  intro x hx
  have hi := (infoW_parts h).1
  obtain ⟨⟨⟨k1, k2, k3⟩, _⟩, ⟨o1, o2, i1, i2, _⟩, _, ⟨_, s1, s2⟩, _, hd⟩ := h
  have ho := offs_le F t.name
  have h1 : nat t.of_ < 4294967296 := by unfold nat; omega
  have h2 : nat t.index < 4294967296 := by unfold nat; omega
  have h3 : nat t.size ≤ 1048576 := by unfold nat; omega
  rw [typeW, headW] at hx
  simp only [List.mem_append, List.mem_cons, List.not_mem_nil, or_false] at hx
  rcases hx with ((rfl | rfl | rfl) | hx) | hx
  · omega
  · exact hi
  · unfold thirdW
    split
    · omega
    split <;> omega
  · unfold detW at hx
    by_cases q1 : t.kind = 1
    · have e := hd.1 q1
      have he : nat t.enc ≤ 4 := by unfold nat; omega
      rw [if_pos q1] at hx
      simp only [List.mem_cons, List.not_mem_nil, or_false] at hx
      subst hx
      omega
    rw [if_neg q1] at hx
    by_cases q3 : t.kind = 3
    · rw [if_pos q3] at hx
      simp only [List.mem_cons, List.not_mem_nil, or_false] at hx
      rcases hx with rfl | rfl | rfl <;> omega
    rw [if_neg q3] at hx
    by_cases q14 : t.kind = 14
    · have e := hd.2.2.2.2.2.1 (.inr q14)
      have he : nat t.flag ≤ 2 := by unfold nat; omega
      rw [if_pos q14] at hx
      simp only [List.mem_cons, List.not_mem_nil, or_false] at hx
      subst hx; omega
    rw [if_neg q14] at hx; cases hx
  obtain ⟨m, hm, hx⟩ := List.mem_flatMap.1 hx
  exact memW_lt ⟨⟨⟨k1, k2, k3⟩, by assumption⟩, ⟨o1, o2, i1, i2, by assumption⟩, by assumption, ⟨by assumption, s1, s2⟩, by assumption, hd⟩ hm hF hl _ x hx

/-! ### the types, one behind the other -/
def tk (ts : List Tp) (k : Nat) : Tp := ts.getD k ⟨1, ⟨#[]⟩, 0, 0, 0, 0, 0, []⟩
theorem tk_get {ts : List Tp} {k : Nat} (h : k < ts.length) : ts[k]? = some (tk ts k) := by
  unfold tk
  rw [List.getD_eq_getElem?_getD, List.getElem?_eq_getElem h]
  rfl
theorem tk_mem {ts : List Tp} {k : Nat} (h : k < ts.length) : tk ts k ∈ ts := List.mem_of_getElem? (tk_get h)
theorem take_tk {ts : List Tp} {k : Nat} (h : k < ts.length) : ts.take (k + 1) = ts.take k ++ [tk ts k] := by
  rw [List.take_add_one, tk_get h]
  rfl
theorem typesW_take (F : List ByteArray) {ts : List Tp} {k : Nat} (h : k < ts.length) : (typesW F (ts.take (k + 1))).length = (typesW F (ts.take k)).length + (typeW F (tk ts k)).length := by
  rw [take_tk h]
  simp [typesW]
theorem typesW_get (F : List ByteArray) {ts : List Tp} {k j x : Nat} (h : k < ts.length) (hx : (typeW F (tk ts k))[j]? = some x) : (typesW F ts)[(typesW F (ts.take k)).length + j]? = some x := by
  have e : ts = ts.take k ++ (tk ts k :: ts.drop (k + 1)) := by
    have := (List.take_append_drop (k + 1) ts).symm
    rw [take_tk h, List.append_assoc] at this
    exact this
  have e2 : typesW F ts = typesW F (ts.take k) ++ (typeW F (tk ts k) ++ typesW F (ts.drop (k + 1))) := by
    conv => lhs; rw [e]
    simp [typesW]
  rw [e2, List.getElem?_append_right om, Nat.add_sub_cancel_left, List.getElem?_append_left]
  · exact hx
  rcases Nat.lt_or_ge j (typeW F (tk ts k)).length with h | h
  · exact h
  rw [List.getElem?_eq_none h] at hx; cases hx
theorem typesW_take_le (F : List ByteArray) (ts : List Tp) (k : Nat) : (typesW F (ts.take k)).length ≤ (typesW F ts).length := by
  have e : typesW F ts = typesW F (ts.take k) ++ typesW F (ts.drop k) := by
    unfold typesW
    rw [← List.flatMap_append, List.take_append_drop]
  rw [e, List.length_append]
  omega
theorem typesW_lt {len : Nat} {F : List ByteArray} {ts : List Tp} (h : ∀ t ∈ ts, TOk len t) (hF : (tabB F).length < 4000000000) (hl : len ≤ 30) : ∀ x ∈ typesW F ts, x < 4294967296 := fun x hx => by
  obtain ⟨t, ht, hx⟩ := List.mem_flatMap.1 hx
  exact typeW_lt (h t ht) hF hl x hx

/-! ### texts -/
/-- the text that stands at a place of a table -/
def strAt (F : List ByteArray) (x : Nat) : List Nat := txt ((F.find? fun s => offs F s == x).getD ⟨#[]⟩)
theorem txt_cut : ∀ {a b r q : List Nat}, (∀ y ∈ a, 0 < y) → (∀ y ∈ b, 0 < y) → a ++ 0 :: r = b ++ 0 :: q → a = b
  | [], [], _, _, _, _, _ => rfl
  | [], y :: b, _, _, _, hb, h => by
    injection h with h1 h2
    exact absurd h1 (by have := hb y List.mem_cons_self; omega)
  | x :: a, [], _, _, ha, _, h => by
    injection h with h1 h2
    exact absurd h1 (by have := ha x List.mem_cons_self; omega)
  | x :: a, y :: b, r, q, ha, hb, h => by
    injection h with h1 h2
    rw [h1, txt_cut (fun z hz => ha z (List.mem_cons_of_mem _ hz)) (fun z hz => hb z (List.mem_cons_of_mem _ hz)) h2]
theorem strAt_offs {F : List ByteArray} (hz : ∀ s ∈ F, NoZero s s.size) {s : ByteArray} (hs : s ∈ F) : strAt F (offs F s) = txt s := by
  unfold strAt
  obtain ⟨q, hq⟩ : ∃ q, F.find? (fun q => offs F q == offs F s) = some q := by
    cases h : F.find? (fun q => offs F q == offs F s) with
    | some q => exact ⟨q, rfl⟩
    | none =>
      have := List.find?_eq_none.1 h s hs
      simp at this
  rw [hq]
  have h1 := List.find?_some hq
  have h2 := List.mem_of_find?_eq_some hq
  simp only [beq_iff_eq] at h1
  obtain ⟨p1, r1, e1, l1, _⟩ := tabB_at h2
  obtain ⟨p2, r2, e2, l2, _⟩ := tabB_at hs
  have e := e1.symm.trans e2
  have hp : p1.length = p2.length := by omega
  have := (List.append_inj e hp).2
  exact txt_cut (txt_pos (hz _ h2)) (txt_pos (hz _ hs)) this
theorem mem_addT_or {F : List ByteArray} {s q : ByteArray} (h : q ∈ addT F s) : q ∈ F ∨ q = s := by
  unfold addT at h
  split at h
  · exact .inl h
  rcases List.mem_append.1 h with h | h
  · exact .inl h
  exact .inr (List.mem_singleton.1 h)
theorem mem_addMs_or {kind : Int} {q : ByteArray} : ∀ {ms : List Mb} {F : List ByteArray}, q ∈ addMs kind F ms → q ∈ F ∨ ∃ m ∈ ms, q = m.name
  | [], _, h => .inl h
  | m :: ms, F, h => by
    rcases mem_addMs_or (ms := ms) (F := addM kind F m) h with h | ⟨x, hx, e⟩
    · unfold addM at h
      split at h
      · exact .inl h
      rcases mem_addT_or h with h | h
      · exact .inl h
      exact .inr ⟨m, List.mem_cons_self, h⟩
    exact .inr ⟨x, List.mem_cons_of_mem _ hx, e⟩
theorem mem_addTs_or {q : ByteArray} : ∀ {ts : List Tp} {F : List ByteArray}, q ∈ addTs F ts → q ∈ F ∨ ∃ t ∈ ts, q = t.name ∨ ∃ m ∈ t.mems, q = m.name
  | [], _, h => .inl h
  | t :: ts, F, h => by
    rcases mem_addTs_or (ts := ts) (F := addTp F t) h with h | ⟨x, hx, e⟩
    · rcases mem_addMs_or h with h | ⟨m, hm, e⟩
      · rcases mem_addT_or h with h | h
        · exact .inl h
        exact .inr ⟨t, List.mem_cons_self, .inl h⟩
      exact .inr ⟨t, List.mem_cons_self, .inr ⟨m, hm, e⟩⟩
    exact .inr ⟨x, List.mem_cons_of_mem _ hx, e⟩
theorem fin_nozero {len : Nat} {ts : List Tp} (h : ∀ t ∈ ts, TOk len t) : ∀ s ∈ finT ts, NoZero s s.size := fun s hs => by
  rcases mem_addTs_or hs with h1 | ⟨t, ht, e | ⟨m, hm, e⟩⟩
  · rw [List.mem_singleton.1 h1]
    intro i hi; exact absurd hi (Nat.not_lt_zero _)
  · subst e; exact (h t ht).1.2.1
  subst e; exact ((h t ht).mem hm).2.1.1
theorem finT_head (ts : List Tp) : ∃ G, finT ts = ⟨#[]⟩ :: G := by
  obtain ⟨E, h⟩ := grows_addTs ts [⟨#[]⟩]
  exact ⟨E, h⟩
theorem textAt {o : Obj} {toff : Nat} {F G : List ByteArray} (hF : F = ⟨#[]⟩ :: G) (hb : Bytes o toff (tabB F)) (hz : ∀ s ∈ F, NoZero s s.size) {s : ByteArray} (hs : s ∈ F) : TextAt o toff (tabB F).length (offs F s) (strAt F (offs F s)) := by
  rw [strAt_offs hz hs]
  obtain ⟨pre, rest, e1, e2, e3⟩ := tabB_at hs
  refine ⟨pre, rest, e1 ▸ hb, by rw [← e1], e2, e3, txt_pos (hz s hs), fun h0 => ?_⟩
  subst hF
  exact offs_zero hs h0
/-- the words of types, as the reader of a blob sees them -/
noncomputable def cxOf (ts : List Tp) (big : Bool) : Cx where
  big := big
  b := 0
  off := 24
  len := 4 * (typN ts).length
  cap := 0
  o := .cells #[] 0 (0, 0)
  st := 0
  toff := 24 + 4 * (typN ts).length
  sl := (tabB (finT ts)).length
  tcap := 0
  N := ts.length
  z := ⟨0, 0, ⟨0, 0, []⟩, 0, 0, 0, 0, 0⟩
  pos := fun k => 4 * (typesW (finT ts) (ts.take k)).length
  nm := fun k => offs (finT ts) (tk ts k).name
  inf := fun k => infoW (tk ts k)
  sz := fun k => thirdW (tk ts k)
  ex := fun k j => (typeW (finT ts) (tk ts k)).getD (3 + j) 0
  str := strAt (finT ts)
theorem W2.of {o : Obj} {off x : Nat} {big : Bool} {rest : List Nat} (h : Bytes o off (wB x 2 big ++ rest)) (hx : x < 65536) : W2 o off big x := by
  have h4 := (Bytes.app h).1
  cases big with
  | true =>
    have g : ∀ i y, (wB x 2 true)[i]? = some y → cellOf o (off + i) = some (.int .u8 (y : Nat)) := fun i y hy => (h4 i y hy).2
    refine ⟨x / 2 ^ 8 % 256, x / 2 ^ 0 % 256, by omega, by omega, g 0 _ rfl, g 1 _ rfl, ?_⟩
    simp only [if_true]
    omega
  | false =>
    have g : ∀ i y, (wB x 2 false)[i]? = some y → cellOf o (off + i) = some (.int .u8 (y : Nat)) := fun i y hy => (h4 i y hy).2
    refine ⟨x / 2 ^ 0 % 256, x / 2 ^ 8 % 256, by omega, by omega, g 0 _ rfl, g 1 _ rfl, ?_⟩
    simp only [Bool.false_eq_true, if_false]
    omega
/-- the head of a blob, read in either order -/
theorem headAt {o : Obj} {tl sl : Nat} {big : Bool} {rest : List Nat} (h : Bytes o 0 (headB tl sl big ++ rest)) (htl : tl < 4294967296) (hsl : sl < 4294967296) : HeadAt o big tl sl := by
  rw [headB, List.append_assoc, List.append_assoc] at h
  have hm := W2.of h dc
  have h2 := (Bytes.app h).2
  rw [length_wB] at h2
  have c2 := (h2 0 1 rfl).2
  have c3 := (h2 1 0 rfl).2
  have h4 := (Bytes.app h2).2
  have hws : ∀ {i x : Nat}, [24, 0, tl, tl, sl][i]? = some x → W4 o (4 + 4 * i) big x := fun hx => words_at h4 (fun x hx => by
    simp only [List.mem_cons, List.not_mem_nil, or_false] at hx
    rcases hx with rfl | rfl | rfl | rfl | rfl <;> omega) hx
  have w0 : W4 o 4 big 24 := hws (i := 0) rfl
  have w1 : W4 o 8 big 0 := hws (i := 1) rfl
  have w2 : W4 o 12 big tl := hws (i := 2) rfl
  have w3 : W4 o 16 big tl := hws (i := 3) rfl
  have w4 : W4 o 20 big sl := hws (i := 4) rfl
  intro ob
  by_cases hob : ob = big
  · subst hob
    exact ⟨60319, 24, 0, tl, tl, sl, hm, c2, c3, w0, w1, w2, w3, w4, fun _ => ⟨rfl, rfl, rfl, rfl, rfl, rfl⟩, fun h => absurd rfl h⟩
  have flip : ∀ {off x : Nat}, W4 o off big x → ∃ y, W4 o off ob y := fun ⟨a, b, c, d, a1, b1, c1, d1, a2, b2, c2, d2, _⟩ => ⟨_, a, b, c, d, a1, b1, c1, d1, a2, b2, c2, d2, rfl⟩
  obtain ⟨y0, v0⟩ := flip w0
  obtain ⟨y1, v1⟩ := flip w1
  obtain ⟨y2, v2⟩ := flip w2
  obtain ⟨y3, v3⟩ := flip w3
  obtain ⟨y4, v4⟩ := flip w4
  obtain ⟨a, b, a1, b1, a2, b2, e⟩ := hm
  refine ⟨_, y0, y1, y2, y3, y4, ⟨a, b, a1, b1, a2, b2, rfl⟩, c2, c3, v0, v1, v2, v3, v4, fun h => absurd h hob, fun _ => ?_⟩
  cases big <;> cases ob <;> simp at hob e ⊢ <;> omega
/-- the extra words of a type -/
theorem ex_get {F : List ByteArray} {t : Tp} {j : Nat} (h : 3 + j < (typeW F t).length) : (typeW F t)[3 + j]? = some ((typeW F t).getD (3 + j) 0) := by
  rw [List.getD_eq_getElem?_getD, List.getElem?_eq_getElem h]
  rfl
theorem detW_ex (F : List ByteArray) (t : Tp) (j : Nat) : (typeW F t).getD (3 + j) 0 = (detW t ++ memsW F t t.mems).getD j 0 := by
  rw [List.getD_eq_getElem?_getD, List.getD_eq_getElem?_getD, typeW, headW, List.append_assoc, List.getElem?_append_right Q22]
  congr 2
  simp
/-- the words of member j -/
theorem mem_ex {len : Nat} {F : List ByteArray} {t : Tp} (h : TOk len t) (hd : detW t = []) {j q x : Nat} {m : Mb} (hm : t.mems[j]? = some m) (hq : q < mlen (nat t.kind)) (hx : (memW F t.kind (fieldsB t) m)[q]? = some x) : (typeW F t).getD (3 + (mlen (nat t.kind) * j + q)) 0 = x := by
  obtain ⟨k, hk, hn, _⟩ := kinds h
  rw [detW_ex, hd, List.nil_append, List.getD_eq_getElem?_getD]
  rw [hn] at hq ⊢
  unfold memsW
  rw [flatG (fun m => memW_len F hk _ m) hm hq, hx]
  rfl
theorem tabB_last : ∀ {F : List ByteArray}, F ≠ [] → (tabB F).getLast? = some 0
  | [x], _ => by simp [tabB]
  | x :: y :: F, _ => by
    have := tabB_last (F := y :: F) Q22
    rw [tabB_cons]
    rw [show txt x ++ 0 :: tabB (y :: F) = (txt x ++ [0]) ++ tabB (y :: F) by simp, List.getLast?_append, this]
    rfl
theorem vlenN_le {len : Nat} {t : Tp} (h : TOk len t) : vlenN t ≤ 8 := by
  have h5 := h.2.1.2.2.2.2.1
  have hd := h.2.2.2.2.2
  unfold vlenN
  split
  · rename_i hk
    have := hd.2.2.2.2.2.1 (.inl hk)
    unfold nat; omega
  exact h5
end

section
open Go
open Tryz
set_option maxRecDepth 100000

namespace Cx
variable (C : Cx)
def enumV (i j : Nat) : Nat := if C.kd i = 19 then C.ex i (3 * j + 2) * 4294967296 + C.ex i (3 * j + 1) else if C.fl i = 1 ∧ 2147483648 ≤ C.ex i (2 * j + 1) then C.ex i (2 * j + 1) + 18446744069414584320 else C.ex i (2 * j + 1)
/-- a name, as text -/
def nam (x : Nat) : ByteArray := strOf (C.str x)
/-- member j, as the law has it -/
def mem (i j : Nat) : Mb :=
  if C.kd i = 4 ∨ C.kd i = 5 then ⟨C.nam (C.ex i (3 * j)), (C.ex i (3 * j + 1) : Nat), ((if C.fl i = 1 then C.ex i (3 * j + 2) % 2 ^ 24 else C.ex i (3 * j + 2) : Nat) : Int), ((if C.fl i = 1 then C.ex i (3 * j + 2) / 2 ^ 24 else 0 : Nat) : Int), 0⟩
  else if C.kd i = 6 ∨ C.kd i = 19 then ⟨C.nam (C.ex i (stride (C.kd i) * j)), 0, 0, 0, IntKind.i64.wrap ((C.enumV i j : Nat) : Int)⟩
  else if C.kd i = 13 then ⟨C.nam (C.ex i (2 * j)), (C.ex i (2 * j + 1) : Nat), 0, 0, 0⟩
  else ⟨⟨#[]⟩, (C.ex i (3 * j) : Nat), (C.ex i (3 * j + 1) : Nat), (C.ex i (3 * j + 2) : Nat), 0⟩
def memsM (i n : Nat) : List Value := (List.range n).flatMap fun j => cellsM (C.mem i j)
theorem memsM_snoc (i n : Nat) : C.memsM i (n + 1) = C.memsM i n ++ cellsM (C.mem i n) := by simp [memsM, List.range_succ]
/-- type i, as the law has it -/
def tp (i : Nat) : Tp where
  kind := if C.kd i = 6 ∨ C.kd i = 19 then (if C.sz i = 8 then 19 else 6) else (C.kd i : Nat)
  name := if C.kd i = 2 ∨ C.kd i = 3 ∨ C.kd i = 9 ∨ C.kd i = 10 ∨ C.kd i = 11 ∨ C.kd i = 13 then ⟨#[]⟩ else C.nam (C.nm i)
  size := if C.kd i = 1 ∨ C.kd i = 4 ∨ C.kd i = 5 ∨ C.kd i = 6 ∨ C.kd i = 15 ∨ C.kd i = 16 ∨ C.kd i = 19 then (C.sz i : Nat) else if C.kd i = 3 then (C.ex i 2 : Nat) else 0
  enc := if C.kd i = 1 then (C.ex i 0 / 2 ^ 24 % 2 ^ 4 : Nat) else 0
  flag := if C.kd i = 6 ∨ C.kd i = 19 ∨ C.kd i = 7 then (C.fl i : Nat) else if C.kd i = 12 then (C.vl i : Nat) else if C.kd i = 14 then (C.ex i 0 : Nat) else 0
  of_ := if C.kd i = 2 ∨ C.kd i = 8 ∨ C.kd i = 9 ∨ C.kd i = 10 ∨ C.kd i = 11 ∨ C.kd i = 12 ∨ C.kd i = 13 ∨ C.kd i = 14 ∨ C.kd i = 18 then (C.sz i : Nat) else if C.kd i = 3 then (C.ex i 0 : Nat) else 0
  index := if C.kd i = 3 then (C.ex i 1 : Nat) else 0
  mems := if C.kd i = 4 ∨ C.kd i = 5 ∨ C.kd i = 6 ∨ C.kd i = 13 ∨ C.kd i = 15 ∨ C.kd i = 19 then (List.range (C.vl i)).map (C.mem i) else []
end Cx
theorem flat_get {f : Nat → List Value} {s : Nat} (hs : ∀ j, (f j).length = s) : ∀ {n j q : Nat}, j < n → q < s → ((List.range n).flatMap f)[j * s + q]? = (f j)[q]?
  | n + 1, j, q, hj, hq => by
    have hl : ∀ n, ((List.range n).flatMap f).length = n * s := fun n => by
      induction n with
      | zero => simp
      | succ n ih => rw [List.range_succ, List.flatMap_append, List.length_append, ih, Nat.succ_mul]; simp [hs]
    rw [List.range_succ, List.flatMap_append, List.flatMap_cons, List.flatMap_nil, List.append_nil]
    rcases Nat.lt_or_ge j n with h | h
    · have h1 : j * s + q < n * s := by
        have : (j + 1) * s ≤ n * s := Nat.mul_le_mul_right _ h
        rw [Nat.succ_mul] at this
        omega
      rw [List.getElem?_append_left (by rw [hl]; exact h1)]
      exact flat_get hs h hq
    have : j = n := by omega
    subst this
    rw [List.getElem?_append_right (by rw [hl]; omega), hl, Nat.add_sub_cancel_left]
/-- a cell of a row, in the heap -/
theorem RowOk.cell {w : World} {r : Row} {n size : Nat} {xs : List Value} (h : RowOk size (some r) n xs) {E : TypeId} (hb : w.heap[r.g]? = some (.cells r.cur.toArray E (0, 0))) {i : Nat} {v : Value} (hv : xs[i]? = some v) : w.cell? ⟨r.g, i, none⟩ = some v :=
  cell_of_obj hb (h.get hv)
theorem row_at {w : World} {r : Row} {n size : Nat} {f : Nat → List Value} (h : RowOk size (some r) n ((List.range n).flatMap f)) (hs : ∀ j, (f j).length = size) {E : TypeId} (hb : w.heap[r.g]? = some (.cells r.cur.toArray E (0, 0))) {j : Nat} (hj : j < n) {o : Nat} (ho : o = j * size) : ∀ q u, (f j)[q]? = some u → w.cell? ⟨r.g, o + q, none⟩ = some u := fun q u hu => by
  subst ho
  have hq : q < size := by
    rcases Nat.lt_or_ge q (f j).length with h | h
    · rw [hs] at h; exact h
    rw [List.getElem?_eq_none h] at hu; cases hu
  exact h.cell hb (by rw [flat_get hs hj hq]; exact hu)

theorem f35_ok {C : Cx} {B : List Nat} {x : St} {sp sc : Nat} {w : World} (hN : C.Num B x sp sc w) (hb30 : C.N ≤ 30) {i b3 g cap : Nat} {cur vs : List Value} (hkd : C.kd i = 4 ∨ C.kd i = 5) (hv8 : C.vl i ≤ 8) (hx32 : ∀ j, j < C.vl i → C.ex i (3 * j + 2) < 4294967296) (hok : RowOk 5 (some ⟨g, cap, cur⟩) (C.vl i) (C.memsD i (C.vl i) vs)) (hvs : vs.length = C.vl i) (rv : ∀ j v, vs[j]? = some v → C.Ref x.M (C.ex i (3 * j + 1)) v) (hg : w.heap[g]? = some (.cells cur.toArray 99 (0, 0)))
    (hb3 : w.heap[b3]? = some (.cells #[.func (.func 15) #[] #[.pointer (some ⟨sc, 0, none⟩)]] 52 (0, 0))) :
    Calls Tryz.prog 35 #[.slice (some ⟨g, 0, none⟩) (C.vl i) cap, .pointer (some ⟨b3, 0, none⟩)] w (fun q w' => ∃ r : Option Row, q = .returned (rowV r (C.vl i)) ∧ RowOk 5 r (C.vl i) (C.memsM i (C.vl i)) ∧ Fresh w (rowH 64 r) w') := by
 refine sw_calls (S := noS) func35 rfl ntmps35 (sees2 _ _ _ rfl) (Holds.start1 _ _ hb3) ?_
 refine SR fun _ k1 => ?_
 refine Ac ?_
 refine SN k1 ?_
 refine SR fun _ k2 => ?_
 refine Ac ?_
 refine SN k2 ?_
 refine Sq fun _ k3 => ?_
 refine SR fun _ k4 => ?_
 refine Mo ?_
 refine Sc (O_lenSlice rfl (.tmp .hit) underlying96 rfl) ?_
 refine Mc ?_
 refine SN k4 ?_
 refine Bl ?_
 refine SW_loop (α := Nat × Option Row) (fun x => x.1 ≤ C.vl i ∧ RowOk 5 x.2 x.1 (C.memsM i x.1)) (fun x => C.vl i - x.1) (fun x => (b3, false, .cells #[.func (.func 15) #[] #[.pointer (some ⟨sc, 0, none⟩)]] 52 (0, 0)) :: (rowH 64 x.2 ++ [])) (fun x => [(9, .int .i64 (x.1 : Nat)), (8, .int .i64 (C.vl i : Nat)), (7, .slice (some ⟨g, 0, none⟩) (C.vl i) cap), (4, rowV x.2 x.1), (1, .pointer (some ⟨b3, 0, none⟩))]) (0, none) ⟨Nat.zero_le _, rfl, rfl⟩ (Ek5 rfl rfl rfl rfl rfl) .a ?_
 rintro ⟨k, r⟩ ⟨hk, hr⟩
 dsimp only at hk hr ⊢
 refine SR fun _ k5 => ?_
 refine Sc (O_binOp rfl (.tmp .hit) (.tmp (.o rfl)) (fun _ => b_lss _ _ _ _ rfl)) ?_
 refine SN k5 ?_
 refine Sq fun _ k6 => ?_
 refine Sd ?_ ?_
 ·
  refine Ci fun ht10 => ?_
  have hlt : k < C.vl i := by omega
  obtain ⟨v, hv⟩ : ∃ v, vs[k]? = some v := ⟨_, List.getElem?_eq_getElem om⟩
  have hrv := rv k v hv
  have hgd : vs.getD k undef = v := by rw [List.getD_eq_getElem?_getD, hv]; rfl
  have hv1 := hrv.one
  have hx := hx32 k hlt
  refine SS k6 ?_
  refine Ek [9, 8, 7, 4, 1] ?_
  refine Sq fun _ k7 => ?_
  refine Bl ?_
  refine SR fun _ k8 => ?_
  refine Sc (O_indexAddr rfl (.tmp (.o rfl)) (.tmp .hit) underlying96 sz99 oz oz) ?_
  refine Sc (O_loadA0 (vs := C.memD i k v) rfl (.tmp .hit) underlying99 sz99 rfl (fun h => h) (fun q u hu => row_at (f := fun j => C.memD i j (vs.getD j undef)) hok (fun _ => rfl) hg hlt Q22 q u (by show (C.memD i k (vs.getD k undef))[q]? = some u; rw [hgd]; exact hu))) ?_
  refine Sc (O_alloc rfl zr99 rfl) ?_
  intro bk6 _
  refine Sc (O_storeA (vs := C.memD i k v) (.tmp .hit) (.tmp (.o rfl)) (by simp only [Cx.memD, List.all_cons, List.all_nil, hv1]; rfl) sz99 rfl .a dc rfl) ?_
  refine SN k8 ?_
  refine SW_da mixed ?_
  refine Ym 0 ?_
  refine Yf 1 underlying99 sz9 ?_
  refine Yl 2 oc9 ?_
  refine Yl 3 oc52 ?_
  refine Yf 4 underlying99 sz47 ?_
  refine Yl 5 oc47 ?_
  refine Y2 6 16 18 rfl rfl rfl (fun e H he hH => O_callE (xs := [.tmp 18]) (cap := [.pointer (some ⟨sc, 0, none⟩)]) rfl (Eh he) (.cons (Eo he) .nil) func15 rfl rfl (fun w1 hw => f15_ok (hN.ext hw.ext) hrv hb30)) ?_
  refine Yf 7 underlying99 sz97 ?_
  refine Yl 8 oc97 ?_
  refine Y1 9 21 rfl rfl (fun e H he hH => O_convert rfl (Eh he) (r := .int .i64 ((if C.fl i = 1 then C.ex i (3 * k + 2) % 2 ^ 24 else C.ex i (3 * k + 2)) : Nat)) (fun _ => c_int ⟨_, underlying97⟩ underlying3 (wrap_i64n _ (by split <;> omega)))) ?_
  refine Yf 10 underlying99 sz97 ?_
  refine Yl 11 oc97 ?_
  refine Y1 12 24 rfl rfl (fun e H he hH => O_convert rfl (Eh he) (r := .int .i64 ((if C.fl i = 1 then C.ex i (3 * k + 2) / 2 ^ 24 else 0) : Nat)) (fun _ => c_int ⟨_, underlying97⟩ underlying3 (wrap_i64n _ (by split <;> omega)))) ?_
  refine Y4 13 15 19 22 25 rfl rfl rfl rfl rfl (fun e H he hH => O_build (pv := [(0, _), (1, _), (2, _), (3, _)]) (r := .agg #[_, _, _, _, .int .i64 0]) rfl (.cons (Eh he) (.cons (Eo he) (.cons (Eo he) (.cons (Eo he) .nil)))) (fun w => run_build w _ _ _ Q13)) ?_
  refine Ys 14 ?_
  refine Cand.mk (j := 14) [(26, _)] rfl (.cons (t := 26) .hit .nil) (fun e he => O_buildSlice1 rfl (.tmp (he.get .hit)) underlying30 sz64 zr64 rfl rfl dc dc) (fun _ _ h => h) kr ?_
  intro bk27 _
  refine ⟨⟨.inl kr, .inr .nil, .inr (.cons .a .nil), .inr .nil, .inr .nil, .inr (.cons .a .nil), .inr .nil, .inr .nil, .inr (.cons .a .nil), .inr .nil, .inr (.cons .a .nil), .inr (.cons .a .nil), .inr .nil, .inr .nil, trivial⟩, ?_⟩
  refine Ys 15 ?_
  refine Cand.mk (j := 15) [(13, _), (27, _)] rfl (.cons (t := 13) (.o rfl) (.cons (t := 27) .hit .nil)) (fun e he => O_appendO (r := r) (k := k) rfl (.tmp (he.get .hit)) (.tmp (he.get (.o rfl))) rfl underlying30 inf64 rfl dc .a hr .a rfl rfl om Q16 om) (fun _ _ h => h) kr ?_
  intro r28 h28
  have hrn : RowOk 5 (some r28) (k + 1) (C.memsM i (k + 1)) := h28.eq rfl (by rw [Cx.memsM_snoc, Cx.mem, if_pos hkd]; rfl)
  refine ⟨⟨.inr .nil, .inr (.cons .a .nil), .inr .nil, .inr .nil, .inr (.cons .a .nil), .inr .nil, .inl kr, .inr (.cons .a .nil), .inr .nil, .inr (.cons .a .nil), .inr (.cons .a .nil), .inr .nil, .inl kr, trivial⟩, ?_⟩
  refine Y1 16 28 rfl rfl (fun e H he hH => O_assign rfl (Eh he)) ?_
  refine Ye ?_
  refine So k7 ?_
  refine Sr ?_
  refine Sc (O_binOp rfl (.tmp (.o rfl)) .const (fun _ => b_add _ _ _ rfl oz oz)) ?_
  refine Mh ?_
  refine Sn ?_
  refine Pl1 ?_
  exact fun _ _ ha hw => ⟨(k + 1, some r28), Q23, ⟨hlt, hrn⟩, ha.weaken .a, hw.weaken .a⟩
 refine Ci fun ht10 => ?_
 have hke : k = C.vl i := by omega
 subst hke
 refine Xt ?_
 refine So k3 ?_
 refine Ek [4] ?_
 refine SR fun _ k9 => ?_
 refine Mh ?_
 refine Ah ?_
 refine SN k9 ?_
 refine Rt ?_
 refine Pl3 ?_
 exact SK_ret1 rfl .hit (fun w hw => ⟨r, rfl, hr, hw.made (by cases r <;> exact HSub.a) (by cases r <;> rfl)⟩)
end
end Go.Proofs.YtoibhfpagkdleaaGreatDoor
