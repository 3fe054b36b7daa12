/-
  THE PLAIN LAW, PART 3: a blob's bytes say what the reader of types asks.
  THE PLAIN LAW, PART 4: what the reader of a blob tells is what the law's types are.
  CONTRACT: the law.
-/
import Derived.Test.YtoibhfpagkdleaaGreatDoorGt
import Derived.Test.YtoibhfpagkdleaaGreatDoorGw
import Derived.Test.YtoibhfpagkdleaaGreatDoorFr
import Derived.Test.YtoibhfpagkdleaaGreatDoorGx
namespace Go.Proofs.YtoibhfpagkdleaaGreatDoor
section
open Go
open Tryz
set_option maxRecDepth 100000
theorem dataOk {ts : List Tp} {big : Bool} (h : ∀ t ∈ ts, TOk ts.length t) (h30 : ts.length ≤ 30) (hne : 0 < ts.length) {G : List ByteArray} (hG : finT ts = ⟨#[]⟩ :: G) {r : Row} (hr : RowOk 1 (some r) (blobN ts big).length (u8s (blobN ts big))) : DataOk (dataC (cxOf ts big) r) (tabB G) := by
  have htl := take_len (i := ts.length) h h30
  rw [List.take_length] at htl
  have hF : (tabB (finT ts)).length < 4000 := htl.2.1
  have hW : (typesW (finT ts) ts).length ≤ 900 := by
    have := typesW_len (finT ts) ts h
    omega
  have hz := fin_nozero h
  have hn := named_addTs ts [⟨#[]⟩]
  have hlt := typesW_lt (F := finT ts) h om h30
  have hb0 : Bytes (.cells r.cur.toArray 5 (0, 0)) 0 (headB (4 * (typN ts).length) (tabB (finT ts)).length big ++ (wsB (typN ts) big ++ tabB (finT ts))) := by
    have := Bytes.of_row hr (fun b hb => by
      simp only [blobN, headB, List.mem_append, List.mem_cons, List.not_mem_nil, or_false] at hb
      rcases hb with (((hb | rfl | rfl) | hb) | hb) | hb
      · exact wB_lt _ _ _ _ hb
      · decide
      · decide
      · exact wsB_lt _ _ _ hb
      · exact wsB_lt _ _ _ hb
      exact tabB_lt _ _ hb) (E := 5)
    rw [blobN, List.append_assoc] at this
    exact this
  have hb1 := (Bytes.app hb0).2
  rw [length_headB] at hb1
  have hb2 := (Bytes.app hb1).2
  rw [length_wsB] at hb2
  have word : ∀ k j x, k < ts.length → (typeW (finT ts) (tk ts k))[j]? = some x → W4 (.cells r.cur.toArray 5 (0, 0)) (24 + 4 * (typesW (finT ts) (ts.take k)).length + 4 * j) big x := fun k j x hk hx => by
    have := words_at hb1 hlt (typesW_get (finT ts) hk hx)
    rw [show 24 + 4 * (typesW (finT ts) (ts.take k)).length + 4 * j = 0 + 24 + 4 * ((typesW (finT ts) (ts.take k)).length + j) by omega]
    exact this
  have hkd : ∀ k, k < ts.length → (cxOf ts big).kd k = nat (tk ts k).kind := fun k hk => (infoW_parts (h _ (tk_mem hk))).2.1
  have hvl : ∀ k, k < ts.length → (cxOf ts big).vl k = vlenN (tk ts k) := fun k hk => (infoW_parts (h _ (tk_mem hk))).2.2.1
  have htab : tabB (finT ts) = 0 :: tabB G := by rw [hG]; rfl
  have hsl : (tabB (finT ts)).length < 4294967296 := by omega
  have htn : (typN ts).length ≤ 900 := hW
  have hpre : ∀ {k : Nat}, (typesW (finT ts) (ts.take k)).length ≤ 900 := fun {k} => Nat.le_trans (typesW_take_le _ _ _) hW
  have hmem : ∀ {k : Nat}, k < ts.length → ∀ {j : Nat}, j < (tk ts k).mems.length → ∃ m, (tk ts k).mems[j]? = some m ∧ m ∈ (tk ts k).mems := fun {k} hk {j} hj => ⟨_, List.getElem?_eq_getElem hj, List.getElem_mem hj⟩
  have refs : ∀ k, k < ts.length → ∀ q j st, q < st → (∀ m : Mb, mlen (nat (tk ts k).kind) = st ∧ (memW (finT ts) (tk ts k).kind (fieldsB (tk ts k)) m)[q]? = some (nat m.of_) ∧ (tk ts k).kind ≠ 1 ∧ (tk ts k).kind ≠ 3 ∧ (tk ts k).kind ≠ 14 ∧ (tk ts k).kind ≠ 12) → j < (dataC (cxOf ts big) r).vl k → (typeW (finT ts) (tk ts k)).getD (3 + (st * j + q)) 0 ≤ ts.length := fun k hk q j st hq hw hj => by
    have ht := h _ (tk_mem hk)
    obtain ⟨w1, w2, w3, w4, w5, w6⟩ := hw ⟨⟨#[]⟩, 0, 0, 0, 0⟩
    have hj' : j < (cxOf ts big).vl k := hj
    rw [hvl k hk, vlenN, if_neg w6] at hj'
    obtain ⟨m, hm, hmm⟩ := hmem hk hj'
    have hd : detW (tk ts k) = [] := by unfold detW; rw [if_neg w3, if_neg w4, if_neg w5]
    have := mem_ex ht hd hm (q := q) (by rw [w1]; exact hq) (hw m).2.1
    rw [w1] at this
    rw [this]
    have := (ht.mem hmm).1
    unfold nat; omega
  have hbt : Bytes (.cells r.cur.toArray 5 (0, 0)) (24 + 4 * (typN ts).length) (tabB (finT ts)) := by
    have := hb2; rw [show 0 + 24 + 4 * (typN ts).length = 24 + 4 * (typN ts).length by omega] at this; exact this
  have mtx : ∀ k, k < ts.length → (cxOf ts big).kd k ≠ 15 → ∀ j, j < (cxOf ts big).vl k → TextAt (.cells r.cur.toArray 5 (0, 0)) (24 + 4 * (typN ts).length) (tabB (finT ts)).length ((typeW (finT ts) (tk ts k)).getD (3 + stride ((cxOf ts big).kd k) * j) 0) (strAt (finT ts) ((typeW (finT ts) (tk ts k)).getD (3 + stride ((cxOf ts big).kd k) * j) 0)) := fun k hk h15 j hj => by
    have ht := h _ (tk_mem hk)
    obtain ⟨q, hq1, hq2, hq3, hq4, hq5⟩ := kinds ht
    rw [hkd k hk, hq2] at h15
    rw [hkd k hk, hq2]
    rw [hvl k hk] at hj
    by_cases h12 : q = 12
    · have e0 : (typeW (finT ts) (tk ts k)).getD (3 + stride q * j) 0 = 0 := by
        have hm0 : (tk ts k).mems = [] := List.length_eq_zero_iff.1 (ht.2.1.2.2.2.2.2.1 (by rw [hq1, h12]; rfl))
        have hd : detW (tk ts k) = [] := by unfold detW; rw [if_neg om, if_neg om, if_neg om]
        rw [h12, show stride 12 * j = 0 from Nat.zero_mul j, detW_ex, hd, memsW, hm0]
        rfl
      rw [e0]
      have := textAt hG hbt hz (s := ⟨#[]⟩) (by rw [hG]; exact List.mem_cons_self)
      rwa [show offs (finT ts) ⟨#[]⟩ = 0 by rw [hG, offs, if_pos rfl]] at this
    rw [vlenN, if_neg om] at hj
    obtain ⟨m, hm, hmm⟩ := hmem hk hj
    have hc : composedB (tk ts k).kind = true := by
      cases hcc : composedB (tk ts k).kind with
      | true => rfl
      | false => have := ht.2.1.2.2.2.2.2.1 hcc; omega
    unfold composedB at hc
    have hc := of_decide_eq_true hc
    have hst : stride q = mlen q := by
      have : q = 4 ∨ q = 5 ∨ q = 6 ∨ q = 13 ∨ q = 19 := by omega
      rcases this with e | e | e | e | e <;> subst e <;> rfl
    have hd : detW (tk ts k) = [] := by unfold detW; rw [if_neg om, if_neg om, if_neg om]
    have e := mem_ex (F := finT ts) ht hd hm (q := 0) (by rw [hq2]; unfold mlen; split <;> omega) (x := offs (finT ts) m.name) (by unfold memW; rw [if_neg om]; rfl)
    rw [hq2, Nat.add_zero] at e
    rw [hst, e]
    exact textAt hG hbt hz ((hn _ (tk_mem hk)).2 m hmm om)
  exact {
    head := headAt hb0 (by show 4 * (typN ts).length < _; omega) hsl
    off := rfl
    toff := rfl
    p0 := by show 4 * (typesW (finT ts) (ts.take 0)).length = 0; simp [typesW]
    pN := by show 4 * (typesW (finT ts) (ts.take ts.length)).length = 4 * (typN ts).length; rw [List.take_length]; rfl
    tab := by
      rw [← htab]
      have := hb2
      rw [show 0 + 24 + 4 * (typN ts).length = 24 + 4 * (typN ts).length by omega] at this
      exact this
    tabl := by rw [← htab]; rfl
    tabz := by rw [← htab]; exact tabB_last (by rw [hG]; simp)
    lp := by show 0 < 4 * (typN ts).length; have := typN_pos hne; omega
    rec_ := fun k hk => by
      have ht := h _ (tk_mem hk)
      obtain ⟨q, hq1, hq2, hq3, hq4, hq5⟩ := kinds ht
      have hl := typeW_len (finT ts) ht
      have hs := typesW_take (finT ts) hk
      have e1 := hkd k hk
      have e2 := hvl k hk
      refine ⟨?_, ?_, ?_, ?_, ?_, ?_, ?_⟩
      · show 4 * (typesW (finT ts) (ts.take k)).length + 12 + dlen ((cxOf ts big).kd k) ((cxOf ts big).vl k) = 4 * (typesW (finT ts) (ts.take (k + 1))).length
        rw [e1, e2, hs]; omega
      · show 4 * (typesW (finT ts) (ts.take (k + 1))).length ≤ 4 * (typN ts).length
        have := typesW_take_le (finT ts) ts (k + 1)
        unfold typN; omega
      · exact word k 0 _ hk rfl
      · exact word k 1 _ hk rfl
      · exact word k 2 _ hk rfl
      · show (cxOf ts big).kd k ≠ 0; rw [e1]; omega
      show (cxOf ts big).kd k ≤ 19; rw [e1]; omega
    k17 := fun k hk => by
      obtain ⟨q, hq1, hq2, hq3, hq4, hq5⟩ := kinds (h _ (tk_mem hk))
      show (cxOf ts big).kd k ≠ 17; rw [hkd k hk]; omega
    h31 := by show 4 * (typN ts).length < 2147483648; omega
    h32 := hsl
    hN := h30
    v8 := fun k hk => by show (cxOf ts big).vl k ≤ 8; rw [hvl k hk]; exact vlenN_le (h _ (tk_mem hk))
    ex := fun k hk j hj => by
      have hl := typeW_len (finT ts) (h _ (tk_mem hk))
      have hj' : 4 * j + 4 ≤ dlen ((cxOf ts big).kd k) ((cxOf ts big).vl k) := hj
      rw [hkd k hk, hvl k hk] at hj'
      have := word k (3 + j) _ hk (ex_get om)
      rw [show 24 + 4 * (typesW (finT ts) (ts.take k)).length + 4 * (3 + j) = 24 + 4 * (typesW (finT ts) (ts.take k)).length + 12 + 4 * j by omega] at this
      exact this
    txt := fun k hk => textAt hG (by have := hb2; rw [show 0 + 24 + 4 * (typN ts).length = 24 + 4 * (typN ts).length by omega] at this; exact this) hz (hn _ (tk_mem hk)).1
    mtxt := mtx
    ref := fun k hk hkk => by
      have ht := h _ (tk_mem hk)
      show thirdW (tk ts k) ≤ ts.length
      have e1 := hkd k hk
      obtain ⟨q, hq1, hq2, _⟩ := kinds ht
      have hkk' : (cxOf ts big).kd k = 2 ∨ (cxOf ts big).kd k = 8 ∨ (cxOf ts big).kd k = 9 ∨ (cxOf ts big).kd k = 10 ∨ (cxOf ts big).kd k = 11 ∨ (cxOf ts big).kd k = 12 ∨ (cxOf ts big).kd k = 13 ∨ (cxOf ts big).kd k = 14 ∨ (cxOf ts big).kd k = 18 := hkk
      rw [e1, hq2] at hkk'
      unfold thirdW
      have hs : sizedB (tk ts k).kind = false := by unfold sizedB; rw [decide_eq_false_iff_not]; omega
      rw [if_neg om, hs]
      have := ht.2.1
      simp only [Bool.false_eq_true, if_false]
      unfold nat; omega
    ref3 := fun k hk hkk => by
      have ht := h _ (tk_mem hk)
      have e1 := hkd k hk
      obtain ⟨q, hq1, hq2, _⟩ := kinds ht
      have hkk' : (cxOf ts big).kd k = 3 := hkk
      rw [e1, hq2] at hkk'
      have hd : detW (tk ts k) = [nat (tk ts k).of_, nat (tk ts k).index, nat (tk ts k).size] := by unfold detW; rw [if_neg om, if_pos om]
      have := ht.2.1
      refine ⟨?_, ?_⟩
      · show (typeW (finT ts) (tk ts k)).getD (3 + 0) 0 ≤ ts.length
        rw [detW_ex, hd]
        show nat (tk ts k).of_ ≤ _
        unfold nat; omega
      show (typeW (finT ts) (tk ts k)).getD (3 + 1) 0 ≤ ts.length
      rw [detW_ex, hd]
      show nat (tk ts k).index ≤ _
      unfold nat; omega
    refm := fun k hk hkk j hj => refs k hk 1 j 3 om (fun m => by
      have hkk' : (cxOf ts big).kd k = 4 ∨ (cxOf ts big).kd k = 5 := hkk
      rw [hkd k hk] at hkk'
      obtain ⟨q, hq1, hq2, _⟩ := kinds (h _ (tk_mem hk))
      rw [hq2] at hkk'
      rw [hq2]
      exact ⟨by unfold mlen; rw [if_pos om], by unfold memW; rw [if_neg om, if_pos om]; rfl, by omega⟩) hj
    refp := fun k hk hkk j hj => refs k hk 1 j 2 om (fun m => by
      have hkk' : (cxOf ts big).kd k = 13 := hkk
      rw [hkd k hk] at hkk'
      obtain ⟨q, hq1, hq2, _⟩ := kinds (h _ (tk_mem hk))
      rw [hq2] at hkk'
      rw [hq2]
      exact ⟨by unfold mlen; rw [if_neg om], by unfold memW; rw [if_neg om, if_neg om, if_pos om]; rfl, by omega⟩) hj
    refv := fun k hk hkk j hj => refs k hk 0 j 3 om (fun m => by
      have hkk' : (cxOf ts big).kd k = 15 := hkk
      rw [hkd k hk] at hkk'
      obtain ⟨q, hq1, hq2, _⟩ := kinds (h _ (tk_mem hk))
      rw [hq2] at hkk'
      rw [hq2]
      exact ⟨by unfold mlen; rw [if_pos om], by unfold memW; rw [if_pos om]; rfl, by omega⟩) hj
    int := fun k hk hkk => by
      have ht := h _ (tk_mem hk)
      have hkk' : (cxOf ts big).kd k = 1 := hkk
      rw [hkd k hk] at hkk'
      obtain ⟨q, hq1, hq2, _⟩ := kinds ht
      rw [hq2] at hkk'
      have hd : detW (tk ts k) = [8 * nat (tk ts k).size + nat (tk ts k).enc * 2 ^ 24] := by unfold detW; rw [if_pos om]
      have e := ht.2.2.2.2.2.1 om
      have hs : thirdW (tk ts k) = nat (tk ts k).size := by
        unfold thirdW
        have : sizedB (tk ts k).kind = true := by unfold sizedB; rw [decide_eq_true_eq]; omega
        rw [if_neg om, this]
        rfl
      have hx : (typeW (finT ts) (tk ts k)).getD (3 + 0) 0 = 8 * nat (tk ts k).size + nat (tk ts k).enc * 2 ^ 24 := by rw [detW_ex, hd, List.cons_append, List.getD_cons_zero]
      have hsz : nat (tk ts k).size ≤ 16 := by unfold nat; omega
      refine ⟨?_, ?_⟩
      · show (typeW (finT ts) (tk ts k)).getD (3 + 0) 0 / 2 ^ 16 % 2 ^ 8 = 0
        rw [hx]; omega
      show (typeW (finT ts) (tk ts k)).getD (3 + 0) 0 / 2 ^ 0 % 2 ^ 8 = 8 * thirdW (tk ts k)
      rw [hx, hs]; omega }
end

section
open Go
open Tryz
set_option maxRecDepth 100000
theorem natI {x : Int} (h : 0 ≤ x) : ((nat x : Nat) : Int) = x := by unfold nat; omega
theorem wrap_up {n v : Int} (h0 : -9223372036854775808 ≤ v) (h1 : v < 9223372036854775808) (e : n = v ∨ n = v + 18446744073709551616) : IntKind.i64.wrap n = v := by
  have h2 : (2 ^ IntKind.i64.bits : Int) = 18446744073709551616 := by decide
  have h3 : (2 ^ (IntKind.i64.bits - 1) : Int) = 9223372036854775808 := by decide
  have h4 : IntKind.i64.signed = true := rfl
  unfold IntKind.wrap
  simp only [h2, h3, h4, Bool.true_and, decide_eq_true_eq]
  split <;> omega
theorem wrap_hl (v : Int) (h0 : -9223372036854775808 ≤ v) (h1 : v < 9223372036854775808) : IntKind.i64.wrap ((hi32 v * 4294967296 + lo32 v : Nat) : Int) = v :=
  wrap_up h0 h1 (by unfold hi32 lo32; omega)
theorem wrap_lo (v : Int) (f : Bool) (h0 : f = true → -2147483648 ≤ v ∧ v < 2147483648) (h1 : f = false → 0 ≤ v ∧ v < 4294967296) : IntKind.i64.wrap (((if f = true ∧ 2147483648 ≤ lo32 v then lo32 v + 18446744069414584320 else lo32 v : Nat)) : Int) = v := by
  cases f with
  | false =>
    have := h1 rfl
    rw [if_neg Q22]
    exact wrap_up om om (.inl (by unfold lo32; omega))
  | true =>
    have := h0 rfl
    split
    · rename_i h
      exact wrap_up om om (.inr (by have h2 := h.2; unfold lo32 at h2 ⊢; omega))
    rename_i h
    have h2 : ¬ 2147483648 ≤ lo32 v := fun h2 => h ⟨rfl, h2⟩
    exact wrap_up om om (.inl (by unfold lo32 at h2 ⊢; omega))
/-- members whose numbers are numbers of 64 bits -/
def VOk (ts : List Tp) : Prop := ∀ t ∈ ts, ∀ m ∈ t.mems, -9223372036854775808 ≤ m.val ∧ m.val < 9223372036854775808
theorem nam_cx {ts : List Tp} {big : Bool} (hz : ∀ s ∈ finT ts, NoZero s s.size) {s : ByteArray} (hs : s ∈ finT ts) : (cxOf ts big).nam (offs (finT ts) s) = s := by
  show strOf (strAt (finT ts) _) = s
  rw [strAt_offs hz hs, strOf_txt]
theorem fields_no {t : Tp} (h4 : t.kind = 4 ∨ t.kind = 5) (h : fieldsB t = false) {len : Nat} (ht : TOk len t) {m : Mb} (hm : m ∈ t.mems) : m.bits = 0 := by
  have hb : bitsB t.mems = false := by
    unfold fieldsB at h
    rcases h4 with e | e <;> simpa [e] using h
  have h1 := List.any_eq_false.1 hb m hm
  have := (ht.mem hm).1
  simp only [decide_eq_true_eq] at h1
  omega
set_option maxHeartbeats 4000000 in
theorem tp_tk {ts : List Tp} {big : Bool} (h : ∀ t ∈ ts, TOk ts.length t) (hv : VOk ts) {k : Nat} (hk : k < ts.length) : (cxOf ts big).tp k = tk ts k := by
  have hz := fin_nozero h
  have hn := named_addTs ts [⟨#[]⟩] _ (tk_mem hk)
  have ht := h _ (tk_mem hk)
  have hvm := hv _ (tk_mem hk)
  have e1 : (cxOf ts big).kd k = nat (tk ts k).kind := (infoW_parts ht).2.1
  have e2 : (cxOf ts big).vl k = vlenN (tk ts k) := (infoW_parts ht).2.2.1
  have e3 : (cxOf ts big).fl k = (if flagB (tk ts k) then 1 else 0) := (infoW_parts ht).2.2.2
  have e4 : (cxOf ts big).sz k = thirdW (tk ts k) := rfl
  have e5 : (cxOf ts big).nm k = offs (finT ts) (tk ts k).name := rfl
  have e6 : ∀ j, (cxOf ts big).ex k j = (detW (tk ts k) ++ memsW (finT ts) (tk ts k) (tk ts k).mems).getD j 0 := fun j => detW_ex _ _ _
  have e7 : ∀ {j q x m}, detW (tk ts k) = [] → (tk ts k).mems[j]? = some m → q < mlen (nat (tk ts k).kind) → (memW (finT ts) (tk ts k).kind (fieldsB (tk ts k)) m)[q]? = some x → (cxOf ts big).ex k (mlen (nat (tk ts k).kind) * j + q) = x := fun hd hm hq hx => mem_ex ht hd hm hq hx
  have e8 : (cxOf ts big).nam (offs (finT ts) (tk ts k).name) = (tk ts k).name := nam_cx hz hn.1
  have e9 : ∀ m ∈ (tk ts k).mems, (tk ts k).kind ≠ 15 → (cxOf ts big).nam (offs (finT ts) m.name) = m.name := fun m hm h15 => nam_cx hz (hn.2 m hm h15)
  generalize cxOf ts big = C at *
  generalize tk ts k = t at *
  clear h hz hv
  obtain ⟨q, hq1, hq2, hq3, hq4, hq5⟩ := kinds ht
  have hm : ∀ j m, t.mems[j]? = some m → C.kd k = 4 ∨ C.kd k = 5 ∨ C.kd k = 6 ∨ C.kd k = 13 ∨ C.kd k = 15 ∨ C.kd k = 19 → C.mem k j = m := fun j m hj hkk => by
    have hmm := List.mem_of_getElem? hj
    have hM := ht.mem hmm
    have hV := hvm m hmm
    rw [e1, hq2] at hkk
    have hd : detW t = [] := by unfold detW; rw [if_neg om, if_neg om, if_neg om]
    have e7' : ∀ {q' x : Nat}, q' < mlen q → (memW (finT ts) t.kind (fieldsB t) m)[q']? = some x → C.ex k (mlen q * j + q') = x := fun hq hx => by
      have := e7 hd hj (by rw [hq2]; exact hq) hx
      rwa [hq2] at this
    obtain ⟨nm, of_, off, bits, val⟩ := m
    obtain ⟨⟨m1, m2, m3, m4, m5⟩, ⟨m6, m7⟩, m8, m9, m10, m11⟩ := hM
    dsimp only at *
    unfold Cx.mem
    by_cases h45 : q = 4 ∨ q = 5
    · have h3 : mlen q = 3 := by unfold mlen; rw [if_pos om]
      have hw : memW (finT ts) t.kind (fieldsB t) ⟨nm, of_, off, bits, val⟩ = [offs (finT ts) nm, nat of_, nat off + (if fieldsB t then nat bits * 2 ^ 24 else 0)] := by
        unfold memW; rw [if_neg om, if_pos om]
      rw [hw, h3] at e7'
      have w0 := e7' (q' := 0) om rfl
      have w1 := e7' (q' := 1) om rfl
      have w2 := e7' (q' := 2) om rfl
      rw [Nat.add_zero] at w0
      have m8' := m8 om
      have hfl : C.fl k = if fieldsB t then 1 else 0 := by
        rw [e3]
        unfold flagB
        have : (t.kind == 6 || t.kind == 19 || t.kind == 7) = false := by
          rw [hq1]; rcases h45 with e | e <;> subst e <;> rfl
        rw [this]; simp
      rw [if_pos (by rw [e1, hq2]; exact h45), w0, w1, w2, e9 _ hmm om, hfl]
      cases hf : fieldsB t with
      | true =>
        simp only [if_true]
        have hb : nat bits < 256 := by unfold nat; omega
        have ho : nat off < 16777216 := by unfold nat; omega
        rw [show (nat off + nat bits * 2 ^ 24) % 2 ^ 24 = nat off by omega, show (nat off + nat bits * 2 ^ 24) / 2 ^ 24 = nat bits by omega, natI m1, natI m3, natI m5, m8'.1]
      | false =>
        have hb0 : bits = 0 := fields_no (m := ⟨nm, of_, off, bits, val⟩) om hf ht hmm
        simp
        rw [natI m1, natI m3, hb0, m8'.1]
        exact ⟨rfl, rfl, rfl, rfl⟩
    rw [if_neg (by rw [e1, hq2]; exact h45)]
    by_cases h69 : q = 6 ∨ q = 19
    · rw [if_pos (by rw [e1, hq2]; exact h69)]
      have m11' := m11 om om om om
      have hst : stride (C.kd k) = mlen q := by
        rw [e1, hq2]; rcases h69 with e | e <;> subst e <;> rfl
      rw [hst]
      have w0 := e7' (q' := 0) (x := offs (finT ts) nm) (by unfold mlen; split <;> omega) (by unfold memW; rw [if_neg om]; rfl)
      rw [Nat.add_zero] at w0
      rw [w0, e9 _ hmm om]
      have hval : IntKind.i64.wrap ((C.enumV k j : Nat) : Int) = val := by
        unfold Cx.enumV
        rw [e1, hq2]
        by_cases h19 : q = 19
        · rw [if_pos h19]
          have h3 : mlen q = 3 := by unfold mlen; rw [if_pos om]
          have hw : memW (finT ts) t.kind (fieldsB t) ⟨nm, of_, off, bits, val⟩ = [offs (finT ts) nm, lo32 val, hi32 val] := by
            unfold memW; rw [if_neg om, if_neg om, if_neg om, if_pos om]
          rw [hw, h3] at e7'
          rw [e7' (q' := 2) om rfl, e7' (q' := 1) om rfl]
          exact wrap_hl val hV.1 hV.2
        rw [if_neg h19]
        have h2 : mlen q = 2 := by unfold mlen; rw [if_neg om]
        have hw : memW (finT ts) t.kind (fieldsB t) ⟨nm, of_, off, bits, val⟩ = [offs (finT ts) nm, lo32 val] := by
          unfold memW; rw [if_neg om, if_neg om, if_neg om, if_neg om]
        rw [hw, h2] at e7'
        rw [e7' (q' := 1) om rfl, e3]
        have hfb : flagB t = (t.flag == 1) := by
          unfold flagB fieldsB
          rw [hq1, show q = 6 by omega]
          simp
        have h19' : t.kind ≠ 19 := by omega
        have := wrap_lo val (flagB t) (fun hf => (m11'.2.2.2 h19').1 (by rw [hfb] at hf; exact eq_of_beq hf)) (fun hf => (m11'.2.2.2 h19').2 (by rw [hfb] at hf; exact ne_of_beq_false hf))
        cases hf : flagB t with
        | true => rw [hf] at this; simpa using this
        | false => rw [hf] at this; simpa using this
      rw [hval, m11'.1, m11'.2.1, m11'.2.2.1]
    rw [if_neg (by rw [e1, hq2]; exact h69)]
    by_cases h13 : q = 13
    · rw [if_pos (by rw [e1, hq2]; exact h13)]
      have h2 : mlen q = 2 := by unfold mlen; rw [if_neg om]
      have hw : memW (finT ts) t.kind (fieldsB t) ⟨nm, of_, off, bits, val⟩ = [offs (finT ts) nm, nat of_] := by
        unfold memW; rw [if_neg om, if_neg om, if_pos om]
      rw [hw, h2] at e7'
      have w0 := e7' (q' := 0) om rfl
      have w1 := e7' (q' := 1) om rfl
      rw [Nat.add_zero] at w0
      have m9' := m9 om
      rw [w0, w1, e9 _ hmm om, natI m1, m9'.1, m9'.2.1, m9'.2.2]
    rw [if_neg (by rw [e1, hq2]; exact h13)]
    have h15 : q = 15 := by omega
    have h3 : mlen q = 3 := by unfold mlen; rw [if_pos om]
    have hw : memW (finT ts) t.kind (fieldsB t) ⟨nm, of_, off, bits, val⟩ = [nat of_, nat off, nat bits] := by
      unfold memW; rw [if_pos om]
    rw [hw, h3] at e7'
    have w0 := e7' (q' := 0) om rfl
    have w1 := e7' (q' := 1) om rfl
    have w2 := e7' (q' := 2) om rfl
    rw [Nat.add_zero] at w0
    have m10' := m10 om
    rw [w0, w1, w2, natI m1, natI m3, natI m5, m10'.1, size0 m10'.2.1]
  have hms : C.kd k = 4 ∨ C.kd k = 5 ∨ C.kd k = 6 ∨ C.kd k = 13 ∨ C.kd k = 15 ∨ C.kd k = 19 → (List.range (C.vl k)).map (C.mem k) = t.mems := fun hkk => by
    have hl : C.vl k = t.mems.length := by rw [e2, vlenN, if_neg (by rw [e1, hq2] at hkk; omega)]
    apply List.ext_getElem?
    intro j
    rw [List.getElem?_map, hl]
    rcases Nat.lt_or_ge j t.mems.length with hj | hj
    · rw [List.getElem?_range hj, List.getElem?_eq_getElem hj]
      simp only [Option.map_some]
      rw [hm j _ (List.getElem?_eq_getElem hj) hkk]
    rw [List.getElem?_eq_none (by simpa using hj), List.getElem?_eq_none hj]; rfl
  rw [e1, hq2] at hms
  unfold Cx.tp
  rw [e1, e2, e3, e4, e5, e8, hq2]
  obtain ⟨⟨k1, n1, n2, n3⟩, ⟨o1, o2, i1, i2, l8, c0, i3, en⟩, o3, ⟨s1, s2, s3⟩, _, hd⟩ := ht
  obtain ⟨kind, name, size, enc, flag, of_, index, mems⟩ := t
  dsimp only at *
  subst hq1
  have hdt : detW ⟨(q : Int), name, size, enc, flag, of_, index, mems⟩ = if q = 1 then [8 * nat size + nat enc * 2 ^ 24] else if q = 3 then [nat of_, nat index, nat size] else if q = 14 then [nat flag] else [] := by
    unfold detW
    dsimp only
    by_cases h1 : q = 1
    · rw [if_pos om, if_pos h1]
    rw [if_neg om, if_neg h1]
    by_cases h3 : q = 3
    · rw [if_pos om, if_pos h3]
    rw [if_neg om, if_neg h3]
    by_cases h14 : q = 14
    · rw [if_pos om, if_pos h14]
    rw [if_neg om, if_neg h14]
  rw [hdt] at e6
  have x0 := e6 0
  have x1 := e6 1
  have x2 := e6 2
  unfold DOk at hd
  generalize hT : (⟨(q : Int), name, size, enc, flag, of_, index, mems⟩ : Tp) = T at *
  have hs : q = 1 ∨ q = 4 ∨ q = 5 ∨ q = 6 ∨ q = 15 ∨ q = 16 ∨ q = 19 → thirdW T = nat size := fun h => by
    subst hT
    unfold thirdW
    dsimp only
    rw [if_neg om, show sizedB (q : Int) = true by unfold sizedB; rw [decide_eq_true_eq]; omega]
    rfl
  have ho : q = 2 ∨ q = 8 ∨ q = 9 ∨ q = 10 ∨ q = 11 ∨ q = 12 ∨ q = 13 ∨ q = 14 ∨ q = 18 → thirdW T = nat of_ := fun h => by
    subst hT
    unfold thirdW
    dsimp only
    rw [if_neg om, show sizedB (q : Int) = false by unfold sizedB; rw [decide_eq_false_iff_not]; omega]
    rfl
  have hf : q = 6 ∨ q = 19 ∨ q = 7 → (((if flagB T then 1 else 0 : Nat)) : Int) = flag := fun h => by
    have h01 : 0 ≤ flag ∧ flag ≤ 1 := by omega
    have hfb : flagB T = (flag == 1) := by
      subst hT
      unfold flagB fieldsB
      rcases h with e | e | e <;> subst e <;> simp
    rw [hfb]
    rcases (show flag = 0 ∨ flag = 1 by omega) with e | e <;> subst e <;> rfl
  have hv : q = 12 → vlenN T = nat flag := fun h => by
    subst hT
    unfold vlenN
    dsimp only
    rw [if_pos om]
  clear e1 e3 e4 e5 e6 e7 e8 e9 hm hvm hn
  refine Eq.trans ?_ hT
  rw [Tp.mk.injEq]
  refine ⟨?_, ?_, ?_, ?_, ?_, ?_, ?_, ?_⟩
  · split
    · rw [hs om]; unfold nat; split <;> omega
    rfl
  · split
    · exact (size0 (n3 (by unfold namedI; rw [if_neg om, if_neg om]; decide))).symm
    rfl
  · split
    · rw [hs om, natI s2]
    split
    · rename_i h3
      rw [x2, if_neg om, if_pos h3]
      exact natI s2
    rw [s1 (by unfold sizedB; rw [decide_eq_false_iff_not]; omega) om]
  · split
    · rename_i h1
      rw [x0, if_pos h1, List.cons_append, List.getD_cons_zero]
      have h16 : nat size ≤ 16 := by unfold nat; omega
      have h4 : nat enc ≤ 4 := by unfold nat; omega
      rw [show (8 * nat size + nat enc * 2 ^ 24) / 2 ^ 24 % 2 ^ 4 = nat enc by omega, natI om]
    rw [en om]
  · split
    · exact hf om
    split
    · rename_i h12
      rw [hv h12, natI om]
    split
    · rename_i h14
      rw [x0, if_neg om, if_neg om, if_pos h14]
      exact natI om
    omega
  · split
    · rw [ho om, natI o1]
    split
    · rename_i h3
      rw [x0, if_neg om, if_pos h3]
      exact natI o1
    rw [o3 (by unfold refersB; rw [decide_eq_false_iff_not]; omega) om om om om]
  · split
    · rename_i h3
      rw [x1, if_neg om, if_pos h3]
      exact natI i1
    rw [i3 om]
  split
  · rename_i hk
    rw [← e2]
    exact hms hk
  exact (List.length_eq_zero_iff.1 (c0 (by unfold composedB; rw [decide_eq_false_iff_not]; omega))).symm
end

section
open Go
open Tryz
set_option maxRecDepth 100000

/-- a call behind which the world is looked at anew -/
theorem SL_callW {ro : Option Nat} {P : Program} {w0 : World} {n : Nat} {ds : List Deferred} {H : Hp} {e : Env} {Q : Exit → Act → World → Prop} {ops : Array Oper} {l : List Oper} {d : Nat} {ty : TypeId} {pos : String} {aft : Array Edge} {α : Type} {f : FuncId} {xs : List Operand} {vs : List Value} {ats : Array TypeId} {val : α → Value} {good : α → World → Prop} (hd : Nat.blt d n = true)
 (hx : Evs e xs vs) {fn : Func} (hf : P.funcs[f]? = some fn) (hb : fn.body.isNone = false) (hnm : (fn.name == "runtime.NumGoroutine") = false)
 (h : ∀ w, Holds noS w0 H w → Calls P f vs.toArray w fun r w' => ∃ z, r = .returned (val z) ∧ good z w' ∧ Ext noS w w')
 (k : ∀ z w', good z w' → Ext noS w0 w' → SL ro P noS w' n ds ops [] ((d, val z) :: e) l Q) :
 SL ro P noS w0 n ds ops H e (⟨some d, .call ⟨.value (.func f), xs.toArray, ats⟩, ty, pos, aft, none⟩ :: l) Q := by
 intro a w ha hw
 simp only [wpListIn, Region.wanted, if_true]
 refine ⟨fun f _ => trivial, ?_⟩
 rw [Oper.semAt_eq _ _ _ (fun _ h => by cases h)]
 have h2 : (xs.toArray.map a.eval) = vs.toArray := by rw [List.map_toArray, ha.evs hx]
 have hrun : (execOp a.eval ⟨some d, .call ⟨.value (.func f), xs.toArray, ats⟩, ty, pos, aft, none⟩).run P w = .ok (.enter f vs.toArray) w := by
  have hb' : fn.body ≠ none := fun e => by simp [e] at hb
  have hnm' : fn.name ≠ "runtime.NumGoroutine" := fun e => by simp [e] at hnm
  have hev : a.eval (.func f) = .func (.func f) #[] #[] := rfl
  simp [execOp, resolve, h2, hev, Deferred.ofValue, invoke, callFunc, hf, hb', hnm']
 rw [hrun, Oper.uponIn_enter]
 refine ⟨fun h => by simp at h, callsIn_FW ((h w hw).mono ?_)⟩
 rintro r w' ⟨z, rfl, hz, he⟩
 exact k z w' hz (hw.ext.trans0 he) _ _ (ha.put hd _) (Holds.start w' noS)
theorem RowOk.cellsOf {size n : Nat} {r : Row} {xs : List Value} (h : RowOk size (some r) n xs) {E : TypeId} : ∀ {k i : Nat}, i + k = xs.length → Go.Proofs.YtoibhfpagkdleaaGreatDoor.cellsOf (.cells r.cur.toArray E (0, 0)) i k = some (xs.drop i)
 | 0, i, hk => by rw [List.drop_eq_nil_of_le om]; rfl
 | k + 1, i, hk => by
  have hi : i < xs.length := by omega
  have h1 : cellOf (.cells r.cur.toArray E (0, 0)) i = some xs[i] := h.get (List.getElem?_eq_getElem hi)
  rw [Go.Proofs.YtoibhfpagkdleaaGreatDoor.cellsOf, h1, RowOk.cellsOf h (E := E) (k := k) (i := i + 1) om]
  rw [List.drop_eq_getElem_cons hi]
theorem tps_eq {ts : List Tp} {big : Bool} (h : ∀ t ∈ ts, TOk ts.length t) (hv : VOk ts) : (List.range ts.length).map (cxOf ts big).tp = ts := by
 apply List.ext_getElem?
 intro j
 rw [List.getElem?_map]
 rcases Nat.lt_or_ge j ts.length with hj | hj
 · rw [List.getElem?_range hj, Option.map_some, tp_tk h hv hj, tk_get hj]
 rw [List.getElem?_eq_none (by simpa using hj), List.getElem?_eq_none hj]; rfl
/-- what is written is read -/
theorem read_ok {ts : List Tp} {big : Bool} (h : ∀ t ∈ ts, TOk ts.length t) (h30 : ts.length ≤ 30) (hne : 0 < ts.length) (hv : VOk ts) {r : Row} (hr : RowOk 1 (some r) (blobN ts big).length (u8s (blobN ts big))) {g0 : Obj} {ea : Addr} (hg : cellOf g0 0 = some (.iface 202 (.pointer (some ea)))) (hb0 : 0 ≠ r.g) {w : World} (hb : w.heap[r.g]? = some (.cells r.cur.toArray 5 (0, 0))) (hg0 : w.heap[0]? = some g0) :
 Calls Tryz.prog 6 #[.slice (some ⟨r.g, 0, none⟩) (blobN ts big).length r.cap, .bool big] w (fun q w' => ∃ z : Option Addr × Nat, q = .returned (.tuple #[.slice z.1 ts.length z.2, .bool true]) ∧ TysAt w' z.1 ts ∧ Ext noS w w') := by
 obtain ⟨G, hG⟩ := finT_head ts
 have htl := take_len (i := ts.length) h h30
 rw [List.take_length] at htl
 have hF : (tabB (finT ts)).length < 4000 := htl.2.1
 have hW : (typesW (finT ts) ts).length ≤ 900 := by
  have := typesW_len (finT ts) ts h
  omega
 have hl : (blobN ts big).length = 24 + 4 * (typN ts).length + (tabB (finT ts)).length := by
  rw [blobN, List.length_append, List.length_append, length_headB, length_wsB]
 have hp := typN_pos hne
 have hx : (u8s (blobN ts big)).length = (blobN ts big).length := length_u8s _
 refine (f6_ok (cxOf ts big) (tabB G) r.g (blobN ts big).length r.cap _ (u8s (blobN ts big)) (hr.cellsOf (i := 0) (by rw [hx]; omega)) (by simp [u8s, Value.oneCell']) (fun r' hr' => dataOk h h30 hne hG (by rw [Nat.zero_add, List.nil_append] at hr'; exact hr')) hl (by have : (typN ts).length ≤ 900 := hW; omega) om g0 ea hg hb0 w hb hg0).mono ?_
 rintro q w' ⟨p, c, h1, h2, h3⟩
 exact ⟨(p, c), h1, by rw [← tps_eq (big := big) h hv]; exact h2, h3⟩

theorem f3_ok (p : Option Addr) (cap : Nat) (ts : List Tp) (big : Bool) (hV : VOk ts) (g0 : Obj) (ea : Addr) (hg : cellOf g0 0 = some (.iface 202 (.pointer (some ea)))) (w : World) (hT : TysAt w p ts) (hg0 : w.heap[0]? = some g0) : Calls Tryz.prog 3 #[.slice p ts.length cap, .bool big] w (fun r w' => r = .returned (.bool true) ∧ Ext noS w w') := by
 refine sw_calls (S := noS) func3 rfl ntmps3 (sees2 _ _ _ rfl) (Holds.start1 _ _ hg0) ?_
 refine SR fun _ k1 => ?_
 refine Ac ?_
 refine SN k1 ?_
 refine Sq fun _ k2 => ?_
 refine SR fun _ k3 => ?_
 refine Mo ?_
 refine Sc (O_callN (val := fun t : Bool => .bool t) (N := fun _ => []) (good := fun t => t = true → ts.length ≤ 2147483647 ∧ ∀ i q, i < ts.length → ts[i]? = some q → FitT q) (xs := [.tmp 7]) (cap := []) rfl .func (.cons (.tmp .hit) .nil) func4 rfl rfl (fun w1 hw => (f4_ok p cap ts w1 (hT.ext hw.ext)).mono Q19)) ?_
 intro z8 hz8
 refine Sc (O_unOp rfl (.tmp .hit) (fun _ => rfl)) ?_
 refine SN k3 ?_
 refine Sd ?_ ?_
 ·
  refine Cj fun ht9 => ?_
  refine Ek [4, 0, 1] ?_
  refine SR fun _ k4 => ?_
  refine Ac ?_
  refine SN k4 ?_
  refine Rt ?_
  refine Pl0 ?_
  refine Pl3 ?_
  first
  | exact SK_ret1 rfl .hit (fun w hw => ⟨rfl, hw.ext⟩)
  | exact SK_ret1 rfl .hit (fun w hw => ⟨rfl, he6.trans0 hw.ext⟩)
 refine Cj fun ht9 => ?_
 have hfit : ∀ (i : Nat) (q : Tp), ts[i]? = some q → FitT q := fun i q hq => (hz8 (by cases z8 <;> simp_all)).2 i q (List.getElem?_eq_some_iff.1 hq).1 hq
 refine SS k2 ?_
 refine Ek [4, 0, 1] ?_
 refine Sq fun _ k5 => ?_
 refine SR fun _ k6 => ?_
 refine Mo ?_
 refine Sc (O_callN (val := fun t : Bool => .bool t) (N := fun _ => []) (good := fun t => t = true → ts.length ≤ 30 ∧ ∀ i q, i < ts.length → ts[i]? = some q → TOk ts.length q) (xs := [.tmp 10]) (cap := []) rfl .func (.cons (.tmp .hit) .nil) func5 rfl rfl (fun w1 hw => (f5_ok p cap ts hfit w1 (hT.ext hw.ext)).mono Q19)) ?_
 intro z11 hz11
 refine Sc (O_unOp rfl (.tmp .hit) (fun _ => rfl)) ?_
 refine Mh ?_
 refine Sb ?_ ?_
 ·
  refine Cj fun hs13 => ?_
  refine Uo (Uo (Uo ?_))
  refine Sc Opu ?_
  refine SN k6 ?_
  refine Th ?_
  refine Ek [4, 0, 1] ?_
  refine SR fun _ k7 => ?_
  refine Ac ?_
  refine SN k7 ?_
  refine Rt ?_
  refine Pl0 ?_
  refine Pl3 ?_
  first
  | exact SK_ret1 rfl .hit (fun w hw => ⟨rfl, hw.ext⟩)
  | exact SK_ret1 rfl .hit (fun w hw => ⟨rfl, he6.trans0 hw.ext⟩)
 refine Cj fun hs13 => ?_
 have h11 := hz11 (by cases z11 <;> simp_all)
 have h30 := h11.1
 have hok : ∀ t ∈ ts, TOk ts.length t := fun t ht => by
  obtain ⟨i, hi, rfl⟩ := List.getElem_of_mem ht
  exact h11.2 i _ hi (List.getElem?_eq_getElem hi)
 refine Wo Omo ?_
 refine Wo (O_lenSlice rfl (.tmp .hit) underlying22 rfl) ?_
 refine Wo Obe ?_
 refine Sc Opf ?_
 refine SN k6 ?_
 refine Sd ?_ ?_
 ·
  refine Cj fun ht17 => ?_
  refine Ek [4, 0, 1] ?_
  refine SR fun _ k8 => ?_
  refine Ac ?_
  refine SN k8 ?_
  refine Rt ?_
  refine Pl0 ?_
  refine Pl3 ?_
  first
  | exact SK_ret1 rfl .hit (fun w hw => ⟨rfl, hw.ext⟩)
  | exact SK_ret1 rfl .hit (fun w hw => ⟨rfl, he6.trans0 hw.ext⟩)
 refine Cj fun ht17 => ?_
 have hne : 0 < ts.length := by omega
 refine SS k5 ?_
 refine Ek [4, 0, 1] ?_
 refine SR fun _ k9 => ?_
 refine Mo ?_
 refine Mo ?_
 refine Sc (O_callN (val := fun z : Row => .slice (some ⟨z.g, 0, none⟩) (blobN ts big).length z.cap) (N := fun z => [(z.g, true, .cells z.cur.toArray 5 (0, 0))]) (good := fun z => RowOk 1 (some z) (blobN ts big).length (u8s (blobN ts big))) (xs := [.tmp 19, .tmp 20]) (cap := []) rfl .func (.cons (.tmp (.o rfl)) (.cons (.tmp .hit) .nil)) func7 rfl rfl (fun w1 hw => f7_ok p cap ts big hok h30 hne w1 (hT.ext hw.ext))) ?_
 intro z21 h21
 dsimp only [List.cons_append, List.nil_append]
 refine Mo ?_
 refine SL_callW (xs := [.tmp 21, .tmp 22]) (val := fun z : Option Addr × Nat => .tuple #[.slice z.1 ts.length z.2, .bool true]) (good := fun z w' => TysAt w' z.1 ts) rfl (.cons (.tmp (.o rfl)) (.cons (.tmp .hit) .nil)) func6 rfl rfl (fun w1 hw => read_ok hok h30 hne hV h21 hg (hw.ne_pick HPick.a .a) (hw.at_ .a) (hw.at_ .a)) ?_
 rintro ⟨p6, c6⟩ w6 h6 he6
 have hT6 := hT.ext he6
 refine Mh ?_
 refine Sc Oex ?_
 refine Sc Oex ?_
 refine Ao ?_
 refine Ao ?_
 refine SN k9 ?_
 refine Ek [6, 5, 4, 0] ?_
 refine SR fun _ k10 => ?_
 refine Mh ?_
 refine Mh ?_
 refine Wo Omo ?_
 refine Wo Omo ?_
 refine Wo (O_callE (xs := [.tmp 28, .tmp 29]) (cap := []) rfl .func (.cons (.tmp (.o rfl)) (.cons (.tmp .hit) .nil)) func8 rfl rfl (fun w1 hw => f8_ok p6 p c6 cap ts h30 (fun t ht => (hok t ht).2.1.2.2.2.2.1) w1 (h6.ext hw.ext) (hT6.ext hw.ext))) ?_
 refine Sc Opt ?_
 refine Ah ?_
 refine SN k10 ?_
 refine Rt ?_
 refine Pl3 ?_
 first
 | exact SK_ret1 rfl .hit (fun w hw => ⟨rfl, hw.ext⟩)
 | exact SK_ret1 rfl .hit (fun w hw => ⟨rfl, he6.trans0 hw.ext⟩)
end
end Go.Proofs.YtoibhfpagkdleaaGreatDoor
