/-
  THE PLAIN LAW, PART 1: texts, tables of texts, the words of types, as lists of numbers.
  THE CALCULUS, PART 9: cells of rows; append of a text.
  CONTRACT: numbers are put.
  CONTRACT: a new table of texts.
  CONTRACT: the word of kind, length and flag.
  CONTRACT: has a member of a type bits of its own?
-/
import Derived.Test.YtoibhfpagkdleaaGreatDoorSk
import Derived.Test.YtoibhfpagkdleaaGreatDoorSo
import Derived.Laws.BitsAllLaws
namespace Go.Proofs.YtoibhfpagkdleaaGreatDoor
section
open Go
open Tryz
set_option maxRecDepth 100000

/-! ### bytes -/
/-- the bytes of a number -/
def wB (x n : Nat) (big : Bool) : List Nat := (List.range n).map fun i => x / 2 ^ (8 * (if big then n - 1 - i else i)) % 256
def u8s (l : List Nat) : List Value := l.map fun n : Nat => Value.int .u8 (n : Nat)
@[simp] theorem length_wB (x n : Nat) (big : Bool) : (wB x n big).length = n := by simp [wB]
@[simp] theorem length_u8s (l : List Nat) : (u8s l).length = l.length := by simp [u8s]
theorem u8s_append (a b : List Nat) : u8s (a ++ b) = u8s a ++ u8s b := by simp [u8s]
theorem wB_lt (x n : Nat) (big : Bool) : ∀ b ∈ wB x n big, b < 256 := by
  intro b hb
  simp only [wB, List.mem_map] at hb
  obtain ⟨i, _, rfl⟩ := hb
  exact Nat.mod_lt _ dc
/-- the bytes of words -/
def wsB (ws : List Nat) (big : Bool) : List Nat := ws.flatMap fun x => wB x 4 big
@[simp] theorem wsB_nil (big : Bool) : wsB [] big = [] := rfl
@[simp] theorem wsB_cons (x : Nat) (ws : List Nat) (big : Bool) : wsB (x :: ws) big = wB x 4 big ++ wsB ws big := rfl
theorem wsB_append (a b : List Nat) (big : Bool) : wsB (a ++ b) big = wsB a big ++ wsB b big := by simp [wsB]
@[simp] theorem length_wsB (ws : List Nat) (big : Bool) : (wsB ws big).length = 4 * ws.length := by
  induction ws with
  | nil => rfl
  | cons x ws ih => simp [ih]; omega
theorem wsB_lt (ws : List Nat) (big : Bool) : ∀ b ∈ wsB ws big, b < 256 := by
  intro b hb
  simp only [wsB, List.mem_flatMap] at hb
  obtain ⟨x, _, h⟩ := hb
  exact wB_lt _ _ _ _ h

/-! ### texts -/
def txt (s : ByteArray) : List Nat := s.data.toList.map UInt8.toNat
@[simp] theorem length_txt (s : ByteArray) : (txt s).length = s.size := by
  show (s.data.toList.map UInt8.toNat).length = s.data.size
  rw [List.length_map, Array.length_toList]
theorem txt_lt (s : ByteArray) : ∀ b ∈ txt s, b < 256 := by
  intro b hb
  simp only [txt, List.mem_map] at hb
  obtain ⟨c, _, rfl⟩ := hb
  exact c.toNat_lt
theorem txt_pos {s : ByteArray} (h : NoZero s s.size) : ∀ b ∈ txt s, 0 < b := by
  intro b hb
  obtain ⟨i, hi, rfl⟩ := List.getElem_of_mem hb
  have hi' : i < s.size := by simpa using hi
  have := h i hi' hi'
  simpa [txt, ByteArray.getElem_eq_getElem_data] using this
theorem strOf_txt (s : ByteArray) : strOf (txt s) = s := by
  cases s with
  | mk d =>
    have h : ((fun n => UInt8.ofNat n) ∘ UInt8.toNat) = id := by funext x; exact UInt8.ofNat_toNat
    show ByteArray.mk (((d.toList.map UInt8.toNat).map fun n => UInt8.ofNat n).toArray) = ByteArray.mk d
    rw [List.map_map, h, List.map_id, Array.toArray_toList]
theorem txt_nil {s : ByteArray} : txt s = [] ↔ s.size = 0 := by
  rw [← List.length_eq_zero_iff, length_txt]
theorem size0 {s : ByteArray} (h : s.size = 0) : s = ⟨#[]⟩ := by
  cases s with
  | mk d =>
    have : d.size = 0 := h
    simp [Array.size_eq_zero_iff.1 this]

/-! ### a table of texts -/
/-- where a text stands: at the table's end, if it is not there -/
def offs : List ByteArray → ByteArray → Nat
  | [], _ => 0
  | x :: F, s => if x = s then 0 else x.size + 1 + offs F s
def tabB (F : List ByteArray) : List Nat := F.flatMap fun s => txt s ++ [0]
open Classical in
/-- a text is put to a table -/
noncomputable def addT (F : List ByteArray) (s : ByteArray) : List ByteArray := if s ∈ F then F else F ++ [s]

@[simp] theorem tabB_nil : tabB [] = [] := rfl
@[simp] theorem tabB_cons (x : ByteArray) (F : List ByteArray) : tabB (x :: F) = txt x ++ 0 :: tabB F := by simp [tabB]
theorem tabB_append (A B : List ByteArray) : tabB (A ++ B) = tabB A ++ tabB B := by simp [tabB]
theorem tabB_lt (F : List ByteArray) : ∀ b ∈ tabB F, b < 256 := by
  intro b hb
  simp only [tabB, List.mem_flatMap, List.mem_append, List.mem_singleton] at hb
  obtain ⟨x, _, h | rfl⟩ := hb
  · exact txt_lt _ _ h
  decide
theorem offs_notin {F : List ByteArray} {s : ByteArray} (h : s ∉ F) : offs F s = (tabB F).length := by
  induction F with
  | nil => rfl
  | cons x F ih =>
    simp only [List.mem_cons, not_or] at h
    rw [offs, if_neg (fun e => h.1 e.symm), ih h.2]
    simp; omega
theorem offs_append {F G : List ByteArray} {s : ByteArray} (h : s ∈ F) : offs (F ++ G) s = offs F s := by
  induction F with
  | nil => cases h
  | cons x F ih =>
    simp only [List.cons_append, offs]
    by_cases hx : x = s
    · rw [if_pos hx, if_pos hx]
    rw [if_neg hx, if_neg hx, ih (by rcases List.mem_cons.1 h with h | h; exact absurd h.symm hx; exact h)]
theorem offs_self {F : List ByteArray} {s : ByteArray} (h : s ∉ F) : offs (F ++ [s]) s = offs F s := by
  induction F with
  | nil => simp [offs]
  | cons x F ih =>
    simp only [List.mem_cons, not_or] at h
    simp only [List.cons_append, offs, if_neg (fun e : x = s => h.1 e.symm), ih h.2]
theorem offs_le (F : List ByteArray) (s : ByteArray) : offs F s ≤ (tabB F).length := by
  induction F with
  | nil => simp [offs]
  | cons x F ih =>
    simp only [offs, tabB_cons, List.length_append, length_txt, List.length_cons]
    split <;> omega
/-- the bytes at a text's place -/
theorem tabB_at {F : List ByteArray} {s : ByteArray} (h : s ∈ F) : ∃ pre rest, tabB F = pre ++ (txt s ++ 0 :: rest) ∧ pre.length = offs F s ∧ (pre = [] ∨ ∃ p, pre = p ++ [0]) := by
  induction F with
  | nil => cases h
  | cons x F ih =>
    by_cases hx : x = s
    · subst hx
      exact ⟨[], tabB F, by simp, by simp [offs], Or.inl rfl⟩
    obtain ⟨pre, rest, h1, h2, h3⟩ := ih (by rcases List.mem_cons.1 h with h | h; exact absurd h.symm hx; exact h)
    refine ⟨txt x ++ 0 :: pre, rest, by simp [h1], by simp [offs, if_neg hx, h2]; omega, Or.inr ?_⟩
    rcases h3 with rfl | ⟨p, rfl⟩
    · exact ⟨txt x, by simp⟩
    exact ⟨txt x ++ 0 :: p, by simp⟩
/-- what stands first -/
theorem offs_zero {F : List ByteArray} {s : ByteArray} (h : s ∈ ⟨#[]⟩ :: F) (h0 : offs (⟨#[]⟩ :: F) s = 0) : txt s = [] := by
  rw [offs] at h0
  split at h0
  · rename_i e; subst e; rfl
  omega

/-- tables that grow -/
def Grows (F G : List ByteArray) : Prop := ∃ E, G = F ++ E
theorem Grows.refl (F : List ByteArray) : Grows F F := ⟨[], by simp⟩
theorem Grows.trans {F G K : List ByteArray} (h : Grows F G) (k : Grows G K) : Grows F K := by
  obtain ⟨E, rfl⟩ := h; obtain ⟨E', rfl⟩ := k; exact ⟨E ++ E', by simp⟩
theorem Grows.offs {F G : List ByteArray} (h : Grows F G) {s : ByteArray} (hs : s ∈ F) : offs G s = offs F s := by
  obtain ⟨E, rfl⟩ := h; exact offs_append hs
theorem Grows.mem {F G : List ByteArray} (h : Grows F G) {s : ByteArray} (hs : s ∈ F) : s ∈ G := by
  obtain ⟨E, rfl⟩ := h; exact List.mem_append_left _ hs
theorem grows_addT (F : List ByteArray) (s : ByteArray) : Grows F (addT F s) := by
  unfold addT; split
  · exact Grows.refl F
  exact ⟨[s], rfl⟩
theorem mem_addT (F : List ByteArray) (s : ByteArray) : s ∈ addT F s := by
  unfold addT; split
  · assumption
  simp
theorem offs_addT (F : List ByteArray) (s : ByteArray) : offs (addT F s) s = offs F s := by
  unfold addT; split
  · rfl
  rename_i h; exact offs_self h

/-! ### the words of types -/
/-- a number without a sign -/
def nat (x : Int) : Nat := x.toNat
/-- the low word of a number with a sign -/
def lo32 (x : Int) : Nat := (x % 4294967296).toNat
def hi32 (x : Int) : Nat := (x / 4294967296 % 4294967296).toNat
/-- has a member bits of its own? -/
def bitsB (ms : List Mb) : Bool := ms.any fun m => decide (0 < m.bits)
def fieldsB (t : Tp) : Bool := (t.kind == 4 || t.kind == 5) && bitsB t.mems
def flagB (t : Tp) : Bool := fieldsB t || (t.kind == 6 || t.kind == 19 || t.kind == 7) && t.flag == 1
def vlenN (t : Tp) : Nat := if t.kind = 12 then nat t.flag else t.mems.length
def infoW (t : Tp) : Nat := vlenN t + nat t.kind * 2 ^ 24 + (if flagB t then 1 * 2 ^ 31 else 0)
def thirdW (t : Tp) : Nat := if t.kind = 3 then 0 else if sizedB t.kind then nat t.size else nat t.of_
def detW (t : Tp) : List Nat :=
  if t.kind = 1 then [8 * nat t.size + nat t.enc * 2 ^ 24] else if t.kind = 3 then [nat t.of_, nat t.index, nat t.size] else if t.kind = 14 then [nat t.flag] else []
def memW (F : List ByteArray) (kind : Int) (fields : Bool) (m : Mb) : List Nat :=
  if kind = 15 then [nat m.of_, nat m.off, nat m.bits]
  else offs F m.name :: (if kind = 4 ∨ kind = 5 then [nat m.of_, nat m.off + (if fields then nat m.bits * 2 ^ 24 else 0)] else if kind = 13 then [nat m.of_] else if kind = 19 then [lo32 m.val, hi32 m.val] else [lo32 m.val])
def memsW (F : List ByteArray) (t : Tp) (ms : List Mb) : List Nat := ms.flatMap (memW F t.kind (fieldsB t))
def headW (F : List ByteArray) (t : Tp) : List Nat := [offs F t.name, infoW t, thirdW t] ++ detW t
def typeW (F : List ByteArray) (t : Tp) : List Nat := headW F t ++ memsW F t t.mems
def typesW (F : List ByteArray) (ts : List Tp) : List Nat := ts.flatMap (typeW F)

/-- the table behind a member, members, a type, types -/
noncomputable def addM (kind : Int) (F : List ByteArray) (m : Mb) : List ByteArray := if kind = 15 then F else addT F m.name
noncomputable def addMs (kind : Int) (F : List ByteArray) (ms : List Mb) : List ByteArray := ms.foldl (addM kind) F
noncomputable def addTp (F : List ByteArray) (t : Tp) : List ByteArray := addMs t.kind (addT F t.name) t.mems
noncomputable def addTs (F : List ByteArray) (ts : List Tp) : List ByteArray := ts.foldl addTp F

theorem grows_addM (kind : Int) (F : List ByteArray) (m : Mb) : Grows F (addM kind F m) := by
  unfold addM; split
  · exact Grows.refl F
  exact grows_addT F _
theorem grows_addMs (kind : Int) (ms : List Mb) : ∀ F, Grows F (addMs kind F ms) := by
  induction ms with
  | nil => exact Grows.refl
  | cons m ms ih => exact fun F => (grows_addM kind F m).trans (ih _)
theorem grows_addTp (F : List ByteArray) (t : Tp) : Grows F (addTp F t) := (grows_addT F t.name).trans (grows_addMs _ _ _)
theorem grows_addTs (ts : List Tp) : ∀ F, Grows F (addTs F ts) := by
  induction ts with
  | nil => exact Grows.refl
  | cons t ts ih => exact fun F => (grows_addTp F t).trans (ih _)

/-- the names of a type, of which the table is asked -/
def MNamed (kind : Int) (F : List ByteArray) (m : Mb) : Prop := kind ≠ 15 → m.name ∈ F
def Named (F : List ByteArray) (t : Tp) : Prop := t.name ∈ F ∧ ∀ m ∈ t.mems, MNamed t.kind F m
theorem MNamed.mono {kind : Int} {F G : List ByteArray} {m : Mb} (h : MNamed kind F m) (g : Grows F G) : MNamed kind G m := fun hk => g.mem (h hk)
theorem Named.mono {F G : List ByteArray} {t : Tp} (h : Named F t) (g : Grows F G) : Named G t := ⟨g.mem h.1, fun m hm => (h.2 m hm).mono g⟩
theorem mnamed_addM (kind : Int) (F : List ByteArray) (m : Mb) : MNamed kind (addM kind F m) m := fun hk => by
  rw [addM, if_neg hk]; exact mem_addT F _
theorem mnamed_addMs (kind : Int) (ms : List Mb) : ∀ F, ∀ m ∈ ms, MNamed kind (addMs kind F ms) m := by
  induction ms with
  | nil => intro F m hm; cases hm
  | cons x ms ih =>
    intro F m hm
    rcases List.mem_cons.1 hm with rfl | hm
    · exact (mnamed_addM kind F m).mono (grows_addMs kind ms _)
    exact ih _ m hm
theorem named_addTp (F : List ByteArray) (t : Tp) : Named (addTp F t) t :=
  ⟨(grows_addMs _ _ _).mem (mem_addT F _), mnamed_addMs _ _ _⟩
theorem named_addTs (ts : List Tp) : ∀ F, ∀ t ∈ ts, Named (addTs F ts) t := by
  induction ts with
  | nil => intro F m hm; cases hm
  | cons x ts ih =>
    intro F t ht
    rcases List.mem_cons.1 ht with rfl | ht
    · exact (named_addTp F t).mono (grows_addTs ts _)
    exact ih _ t ht

theorem memW_mono {F G : List ByteArray} (g : Grows F G) {kind : Int} {fields : Bool} {m : Mb} (h : MNamed kind F m) : memW G kind fields m = memW F kind fields m := by
  unfold memW
  by_cases hk : kind = 15
  · rw [if_pos hk, if_pos hk]
  rw [if_neg hk, if_neg hk, g.offs (h hk)]
theorem memsW_mono {F G : List ByteArray} (g : Grows F G) (t : Tp) (ms : List Mb) (h : ∀ m ∈ ms, MNamed t.kind F m) : memsW G t ms = memsW F t ms := by
  unfold memsW
  induction ms with
  | nil => rfl
  | cons m ms ih => rw [List.flatMap_cons, List.flatMap_cons, memW_mono g (h m List.mem_cons_self), ih fun x hx => h x (List.mem_cons_of_mem _ hx)]
theorem typeW_mono {F G : List ByteArray} (g : Grows F G) {t : Tp} (h : Named F t) : typeW G t = typeW F t := by
  rw [typeW, typeW, headW, headW, g.offs h.1, memsW_mono g t t.mems h.2]
theorem typesW_mono {F G : List ByteArray} (g : Grows F G) (ts : List Tp) (h : ∀ t ∈ ts, Named F t) : typesW G ts = typesW F ts := by
  unfold typesW
  induction ts with
  | nil => rfl
  | cons t ts ih => rw [List.flatMap_cons, List.flatMap_cons, typeW_mono g (h t List.mem_cons_self), ih fun x hx => h x (List.mem_cons_of_mem _ hx)]
end

section
open Go
open Tryz
set_option maxRecDepth 100000

theorem RowOk.get {r : Row} {n size : Nat} {xs : List Value} (h : RowOk size (some r) n xs) {E : TypeId} {i : Nat} {v : Value} (hv : xs[i]? = some v) : cellOf (.cells r.cur.toArray E (0, 0)) i = some v := by
  obtain ⟨h0, h1, h2, h3, h4⟩ := h
  subst h4
  simp only [cellOf]
  rw [List.getElem?_take] at hv
  split at hv
  · exact hv
  cases hv
theorem RowOk.eq {size n m : Nat} {r : Option Row} {xs ys : List Value} (h : RowOk size r n xs) (hn : n = m) (hx : xs = ys) : RowOk size r m ys := by subst hn hx; exact h

section
variable {P : Program} (w : World)
theorem run_firstCells_str (size : Nat) (s : ByteArray) : (Builtin.firstCells size s.size (.string s)).run P w = .ok (u8s (txt s)).toArray w := by
  have h : (s.extract 0 s.size) = s := by
    apply ByteArray.ext
    simp
  simp only [Builtin.firstCells, h, Sem.run_pure]
  congr 1
  apply Array.ext'
  simp only [u8s, txt, Array.toList_map, List.map_map]
  rfl

theorem run_append_str (t u ty e : TypeId) (i : TypeInfo) (z : Value) (bytes : Nat) (ht : P.underlying t = some (.slice e)) (hu : P.underlying u = some .string) (hi : P.info? e = some i) (hz : i.zero = some z)
    (hsize : i.size = 1) (hby : i.bytes = bytes) (hzs : z.cells.size = 1) (g n cap : Nat) (cur : List Value) (s : ByteArray)
    (hg : w.heap[g]? = some (.cells cur.toArray e (0, 0))) (hnc : n ≤ cap) (hcs : cur.length = cap)
    (h63 : n + s.size ≤ maxLen) (hbytes : (n + s.size) * bytes ≤ 140737488355328) :
    ∃ (r' : Row) (w' : World), (Builtin.append_ #[t, u] ty #[.slice (some ⟨g, 0, none⟩) n cap, .string s]).run P w = .ok (.slice (some ⟨r'.g, 0, none⟩) (n + s.size) r'.cap) w' ∧
      w'.heap[r'.g]? = some (.cells r'.cur.toArray e (0, 0)) ∧ n + s.size ≤ r'.cap ∧ (r'.cap = cap ∨ r'.cap ≤ maxLen) ∧ r'.cur.length = r'.cap ∧ r'.cur.take (n + s.size) = cur.take n ++ u8s (txt s) ∧ w.grownBy w' (some g) ∧ (r'.g = w.heap.size ∨ r'.g = g) := by
  subst hby
  have hl : (u8s (txt s)).length = s.size := by simp
  by_cases hroom : n + s.size ≤ cap
  · have hst := run_storeCells_at P g (n * i.size) e (u8s (txt s)) 0 cur.toArray w hg (by simp [hsize]; omega) (by intro u hu; simp only [u8s, List.mem_map] at hu; obtain ⟨x, _, rfl⟩ := hu; rfl)
    simp only [Nat.add_zero, hsize, Nat.mul_one] at hst
    refine ⟨⟨g, cap, (cur.take n ++ u8s (txt s) ++ cur.drop (n + s.size))⟩, w.setRow g ((cur.take n ++ u8s (txt s) ++ cur.drop (n + s.size)).toArray), ?_, setRow_heap w g cur.toArray _ e _ hg, hroom, Or.inl rfl, ?_, ?_, ⟨rfl, rfl, rfl, by simp, fun k _ hk => setRow_other w g k _ (fun e => hk (by simp [e]))⟩, Or.inr rfl⟩
    · simp [Builtin.append_, run_underlying ht, run_underlying hu, sizeOf, typeInfo, hi, Builtin.lenOf, hroom, run_firstCells_str, Addr.add_lit, hst, hsize]
    · simp; omega
    rw [List.take_left' Q47]
  have hold := run_firstCells_some (P := P) w.drew 1 n ⟨g, 0, none⟩ n cap (cur.take n) Q47 (fun j v hv => by
    rw [add_none]
    refine cell_of_obj (w := w.drew) hg ?_
    simp only [cellOf]
    rw [List.getElem?_take] at hv
    split at hv
    · simpa using hv
    cases hv)
  have hge := grownCap_ge w (n + s.size) cap e
  have hcm : grownCap w (n + s.size) cap e ≤ maxLen := grownCap_le_maxLen w (n + s.size) cap e h63
  have hfit : Builtin.nextslicecap (n + s.size) cap * i.bytes ≤ 281474976710656 := growslice_fits om hbytes
  have hn : ¬ (n + s.size ≤ cap) := hroom
  have h63' : ¬ (9223372036854775807 < ((n : Int) + (s.size : Int))) := by simp only [maxLen] at h63; omega
  have h48' : ¬ (281474976710656 < Builtin.nextslicecap (n + s.size) cap * i.bytes) := by omega
  have hf := run_firstCells_str (P := P) w.drew 1 s
  have hzl : (Builtin.zeroCells z.cells (grownCap w (n + s.size) cap e - (n + s.size))).size = grownCap w (n + s.size) cap e - (n + s.size) := by rw [size_zeroCells, hzs, Nat.mul_one]
  refine ⟨⟨w.heap.size, grownCap w (n + s.size) cap e, cur.take n ++ u8s (txt s) ++ (Builtin.zeroCells z.cells (grownCap w (n + s.size) cap e - (n + s.size))).toList⟩,
    w.drew.alloc (.cells ((cur.take n).toArray ++ (u8s (txt s)).toArray ++ Builtin.zeroCells z.cells (grownCap w (n + s.size) cap e - (n + s.size))) e), ?_, ?_, hge, Or.inr hcm, ?_, ?_, ⟨rfl, rfl, rfl, by simp, fun _ hk _ => heap_alloc_old w.drew _ hk⟩, Or.inl rfl⟩
  · simp [Builtin.append_, run_underlying ht, run_underlying hu, sizeOf, typeInfo, zeroValue, hi, hz, hsize, Builtin.lenOf, hn, h63', h48', Question.forced, newRow, grownCap]
    rw [hold, Result.andThen_ok, hf, Result.andThen_ok]
    simp
    congr 2
    apply Array.ext'
    simp
  · have := heap_alloc_new w.drew (.cells ((cur.take n).toArray ++ (u8s (txt s)).toArray ++ Builtin.zeroCells z.cells (grownCap w (n + s.size) cap e - (n + s.size))) e)
    refine this.trans ?_
    congr 2
    apply Array.ext'
    simp
  · simp only [List.length_append, List.length_take, hl, Array.length_toList, hzl]
    omega
  rw [List.take_left' Q47]
end

section
variable {ro : Option Nat} {P : Program} {S : Nat → Prop} {w0 : World} {n : Nat} {ds : List Deferred} {H H' : Hp} {e e' : Env} {Q : Exit → Act → World → Prop}
variable {d : Nat} {ty : TypeId} {pos : String} {aft : Array Edge} {x y : Operand} {v u : Value}
/-- append of a text to a row of bytes -/
theorem O_appendStr {t tu E : TypeId} {z : Value} {bytes k g cap : Nat} {cur : List Value} {A T : Hp} {xs : List Value} {s : ByteArray} {ats : Array TypeId} (hd : Nat.blt d n = true) (hx : Ev e x (.slice (some ⟨g, 0, none⟩) k cap)) (hy : Ev e y (.string s))
    (hat : ats = #[t, tu]) (ht : P.underlying t = some (.slice E)) (htu : P.underlying tu = some .string) (hi : (P.info? E).map (fun i => (i.zero, i.size, i.bytes)) = some (some z, 1, bytes)) (hzs : z.cells.size = 1)
    (hr : HRowAt H E (some ⟨g, cap, cur⟩) A T) (hok : RowOk 1 (some ⟨g, cap, cur⟩) k xs) (hmax : k + s.size ≤ maxLen) (hby : (k + s.size) * bytes ≤ 140737488355328) :
    OT ro P S w0 n ds H e ⟨some d, .call ⟨.builtin .append, #[x, y], ats⟩, ty, pos, aft, none⟩
      (fun X => ∀ r' : Row, RowOk 1 (some r') (k + s.size) (xs ++ u8s (txt s)) → X ((d, .slice (some ⟨r'.g, 0, none⟩) (k + s.size) r'.cap) :: e) (A ++ ((r'.g, true, .cells r'.cur.toArray E (0, 0)) :: T))) := by
  subst hat
  refine OT_run (α := Row) (val := fun r' => .slice (some ⟨r'.g, 0, none⟩) (k + s.size) r'.cap) (Hf := fun r' => A ++ ((r'.g, true, .cells r'.cur.toArray E (0, 0)) :: T)) (good := fun r' => RowOk 1 (some r') (k + s.size) (xs ++ u8s (txt s))) hd (fun _ h => by cases h) fun a w ha hw => ?_
  obtain ⟨i, hi1, hi2, hi3, hi4⟩ := info_parts hi
  obtain ⟨h0, h1, h2, h3, h4⟩ := hok
  simp only [Nat.mul_one] at h0 h3 h4
  have h2' : cap ≤ maxLen := h2
  have he := hr.eq
  have hb : w.heap[g]? = some (.cells cur.toArray E (0, 0)) := by
    subst he
    exact (hw.has (g, true, .cells cur.toArray E (0, 0)) (by simp [rowH])).1
  obtain ⟨r', w', hrun, q1, q2, q3, q4, q5, q6, q7⟩ := run_append_str (P := P) w t tu ty E i z bytes ht htu hi1 hi2 hi3 hi4 hzs g k cap cur s hb h1 h3 hmax hby
  refine ⟨r', w', ?_, ⟨by simp [h0], q2, by rcases q3 with h | h <;> omega, by simpa using q4, by rw [Nat.mul_one, q5, h4]⟩, hw.grow hr q6 q1 (by rcases q7 with h | h; exact Or.inl h; exact Or.inr (by simp [h]))⟩
  simp only [execOp, resolve, invoke, builtin, Sem.run_bind, Sem.run_pure, Result.andThen_ok, List.map_toArray, List.map_cons, List.map_nil, ha.ev hx, ha.ev hy, hrun]
end
end

section
open Go
open Tryz
set_option maxRecDepth 100000

/-- the bytes of a number -/
def putB (x n : Nat) (big : Bool) : List Value := (List.range n).map fun i => Value.int .u8 ((x / 2 ^ (8 * (if big then n - 1 - i else i)) % 256 : Nat) : Int)
theorem putB_take (x n i : Nat) (big : Bool) (h : i < n) : (putB x n big).take (i + 1) = (putB x n big).take i ++ [Value.int .u8 ((x / 2 ^ (8 * (if big then n - 1 - i else i)) % 256 : Nat) : Int)] := by
 rw [List.take_succ_eq_append_getElem (by simpa [putB] using h)]
 simp [putB]
theorem putB_all (x n : Nat) (big : Bool) : (putB x n big).take n = putB x n big := List.take_of_length_le (by simp [putB])

theorem f19_ok {S : Nat → Prop} {w0 : World} (T : Hp) (g cap k : Nat) (cur xs : List Value) (hok : RowOk 1 (some ⟨g, cap, cur⟩) k xs) (x n : Nat) (big : Bool) (hn : n ≤ 8) (hk : k < 1099511627776) (w : World) (hw : Holds S w0 ((g, true, .cells cur.toArray 5 (0, 0)) :: T) w) :
 Calls Tryz.prog 19 #[.slice (some ⟨g, 0, none⟩) k cap, .int .u64 (x : Nat), .int .i64 (n : Nat), .bool big] w (fun r w' => ∃ z : Row, r = .returned (.slice (some ⟨z.g, 0, none⟩) (k + n) z.cap) ∧ RowOk 1 (some z) (k + n) (xs ++ putB x n big) ∧ Holds S w0 ((z.g, true, .cells z.cur.toArray 5 (0, 0)) :: T) w') := by
 refine sw_calls0 func19 rfl ntmps19 (sees4 _ _ _ _ _ rfl) hw ?_
 refine SR fun _ k1 => ?_
 refine Ac ?_
 refine SN k1 ?_
 refine Sq fun _ k2 => ?_
 refine SR fun _ k3 => ?_
 refine Mo ?_
 refine Mc ?_
 refine SN k3 ?_
 refine Bl ?_
 refine SW_loop (α := Nat × Row) (fun q => q.1 ≤ n ∧ RowOk 1 (some q.2) (k + q.1) (xs ++ (putB x n big).take q.1)) (fun q => n - q.1) (fun q => (q.2.g, true, .cells q.2.cur.toArray 5 (0, 0)) :: T) (fun q => [(12, .int .i64 (q.1 : Nat)), (11, .int .i64 (n : Nat)), (0, .slice (some ⟨q.2.g, 0, none⟩) (k + q.1) q.2.cap), (1, .int .u64 (x : Nat)), (2, .int .i64 (n : Nat)), (3, .bool big)]) (0, ⟨g, cap, cur⟩) ⟨Nat.zero_le _, by simpa using hok⟩ (.cons (t := 12) .hit (.cons (t := 11) (.o rfl) (.cons (t := 0) (.o rfl) (.cons (t := 1) (.o rfl) (.cons (t := 2) (.o rfl) (.cons (t := 3) (.o rfl) .nil)))))) (SW_range.HSub.all _) ?_
 rintro ⟨i, r⟩ ⟨hi, hr⟩
 dsimp only at hi hr
 dsimp only
 refine SR fun _ k4 => ?_
 refine Sc (O_binOp rfl (.tmp .hit) (.tmp (.o rfl)) (fun _ => b_lss _ _ _ _ rfl)) ?_
 refine SN k4 ?_
 refine Sq fun _ k5 => ?_
 refine Sd ?_ ?_
 ·
  refine Ci fun ht13 => ?_
  have hlt : i < n := by omega
  refine SS k5 ?_
  refine Ek [12, 11, 0, 1, 2, 3] ?_
  refine Sq fun _ k6 => ?_
  refine Bl ?_
  refine SR fun _ k7 => ?_
  refine Mh ?_
  refine Ah ?_
  refine SN k7 ?_
  refine Ek [9, 12, 11, 0, 1, 2, 3] ?_
  refine SR fun _ k8 => ?_
  refine Mh ?_
  refine Sc (O_binOp rfl .const (.tmp .hit) (r := .int .i64 ((8 * i : Nat) : Int)) (fun _ => b_mul _ _ _ om om om)) ?_
  refine Ah ?_
  refine SN k8 ?_
  refine Ek [10, 9, 12, 11, 0, 1, 2, 3] ?_
  refine Sq fun _ k9 => ?_
  refine SR fun _ k10 => ?_
  refine Mo ?_
  refine SN k10 ?_
  refine Sd ?_ ?_
  ·
   refine Ci fun ht17 => ?_
   refine Sr ?_
   refine Mo ?_
   refine Sc (O_binOp rfl (.tmp .hit) .const (fun _ => b_sub _ _ _ rfl oz oz)) ?_
   refine Mo ?_
   refine Sc (O_binOp rfl (.tmp (.o rfl)) (.tmp .hit) (fun _ => b_sub _ _ _ rfl oz oz)) ?_
   refine Sc (O_binOp rfl .const (.tmp .hit) (r := .int .i64 ((8 * (n - 1 - i) : Nat) : Int)) (fun _ => b_mul _ _ _ om om om)) ?_
   refine Ah ?_
   refine SN k9 ?_
   refine Sr ?_
   refine Mo ?_
   refine Mo ?_
   refine Mo ?_
   refine Sc (O_binOp (r := .int .u64 ((x / 2 ^ (8 * (if big then n - 1 - i else i)) : Nat) : Int)) rfl (.tmp (.o rfl)) (.tmp .hit) (fun _ => by first | (rw [if_pos ht17]; exact b_shr .u64 x (8 * (n - 1 - i)) (by show 8 * (n - 1 - i) ≤ 64; omega) _) | (rw [if_neg (by rw [ht17]; decide)]; exact b_shr .u64 x (8 * i) (by show 8 * i ≤ 64; omega) _))) ?_
   refine Sc (O_convert rfl (.tmp .hit) (r := .int .u8 ((x / 2 ^ (8 * (if big then n - 1 - i else i)) % 256 : Nat) : Int)) (fun _ => c_int ⟨_, underlying57⟩ underlying5 (by rw [IntKind.wrap_u8']; omega))) ?_
   refine Sc (O_buildSlice1 rfl (.tmp .hit) underlying26 sz5 zr5 rfl rfl dc dc) ?_
   intro bk28 _
   refine Sc (O_append  rfl (.tmp (.o rfl)) (.tmp .hit) rfl underlying26 inf5 rfl dc .a1 hr .a rfl rfl om Q16 om) ?_
   intro r29 hr2
   have hr3 : RowOk 1 (some r29) (k + (i + 1)) (xs ++ (putB x n big).take (i + 1)) := by
    rw [putB_take x n i big hlt, ← List.append_assoc]
    exact hr2
   refine Ah ?_
   refine SN k6 ?_
   refine Sr ?_
   refine Sc (O_binOp rfl (.tmp (.o rfl)) .const (fun _ => b_add _ _ _ rfl oz oz)) ?_
   refine Mh ?_
   refine Sn ?_
   refine Pl1 ?_
   exact fun _ _ ha hw => ⟨(i + 1, r29), (by show n - (i + 1) < n - i; omega), ⟨hlt, hr3⟩, ha.weaken .a, hw.weaken (by first | exact SW_range.HSub.all _ | exact .drop (SW_range.HSub.all _) | exact .keep (.drop (SW_range.HSub.all _)))⟩
  refine Ci fun ht17 => ?_
  refine SS k9 ?_
  refine Sr ?_
  refine Mo ?_
  refine Mo ?_
  refine Mo ?_
  refine Sc (O_binOp (r := .int .u64 ((x / 2 ^ (8 * (if big then n - 1 - i else i)) : Nat) : Int)) rfl (.tmp (.o rfl)) (.tmp .hit) (fun _ => by first | (rw [if_pos ht17]; exact b_shr .u64 x (8 * (n - 1 - i)) (by show 8 * (n - 1 - i) ≤ 64; omega) _) | (rw [if_neg (by rw [ht17]; decide)]; exact b_shr .u64 x (8 * i) (by show 8 * i ≤ 64; omega) _))) ?_
  refine Sc (O_convert rfl (.tmp .hit) (r := .int .u8 ((x / 2 ^ (8 * (if big then n - 1 - i else i)) % 256 : Nat) : Int)) (fun _ => c_int ⟨_, underlying57⟩ underlying5 (by rw [IntKind.wrap_u8']; omega))) ?_
  refine Sc (O_buildSlice1 rfl (.tmp .hit) underlying26 sz5 zr5 rfl rfl dc dc) ?_
  intro bk28 _
  refine Sc (O_append  rfl (.tmp (.o rfl)) (.tmp .hit) rfl underlying26 inf5 rfl dc .a1 hr .a rfl rfl om Q16 om) ?_
  intro r29 hr2
  have hr3 : RowOk 1 (some r29) (k + (i + 1)) (xs ++ (putB x n big).take (i + 1)) := by
   rw [putB_take x n i big hlt, ← List.append_assoc]
   exact hr2
  refine Ah ?_
  refine SN k6 ?_
  refine Sr ?_
  refine Sc (O_binOp rfl (.tmp (.o rfl)) .const (fun _ => b_add _ _ _ rfl oz oz)) ?_
  refine Mh ?_
  refine Sn ?_
  refine Pl1 ?_
  exact fun _ _ ha hw => ⟨(i + 1, r29), (by show n - (i + 1) < n - i; omega), ⟨hlt, hr3⟩, ha.weaken .a, hw.weaken (by first | exact SW_range.HSub.all _ | exact .drop (SW_range.HSub.all _) | exact .keep (.drop (SW_range.HSub.all _)))⟩
 refine Ci fun ht13 => ?_
 refine Xt ?_
 refine So k2 ?_
 refine Ek [0] ?_
 refine SR fun _ k11 => ?_
 refine Mh ?_
 refine Ah ?_
 refine SN k11 ?_
 refine Rt ?_
 refine Pl3 ?_
 exact SK_ret1 rfl .hit (fun w hw => ⟨r, by rw [show i = n by omega], by have h := hr; rw [show i = n by omega, putB_all] at h; exact h, hw⟩)
end

section
open Go
open Tryz
set_option maxRecDepth 100000

theorem sees0 (n : Nat) : Sees n [] [] { tmps := #[] ++ Array.replicate (n - (#[] : Array Value).size) undef, defers := [] } :=
 sees_args [] n (Nat.zero_le _) [] fun t v g => by cases g

theorem f17_ok (w : World) : Calls Tryz.prog 17 #[] w (fun r w' => ∃ z : Nat × Nat × Nat × Nat, r = .returned (.pointer (some ⟨z.1, 0, none⟩)) ∧ True ∧
 Fresh w [(z.1, true, .cells #[.slice (some ⟨z.2.1, 0, none⟩) 1 1, .slice (some ⟨z.2.2.1, 0, none⟩) 1 1, .slice (some ⟨z.2.2.2, 0, none⟩) 1 1] 60 (0, 0)), (z.2.2.2, true, .cells #[.int .i64 0] 3 (0, 0)), (z.2.2.1, true, .cells #[.string ⟨#[]⟩] 9 (0, 0)), (z.2.1, true, .cells #[.int .u8 0] 5 (0, 0))] w') := by
 refine sw_calls (S := noS) func17 rfl ntmps17 (sees0 _) (Holds.start _ _) ?_
 refine SR fun _ k1 => ?_
 refine Ac ?_
 refine SN k1 ?_
 refine SR fun _ k2 => ?_
 refine Sc (O_buildSlice1 rfl .const underlying26 sz5 zr5 rfl rfl dc dc) ?_
 intro bk1 _
 refine Sc (O_buildSlice1 rfl .const underlying58 sz9 zr9 rfl rfl dc dc) ?_
 intro bk2 _
 refine Sc (O_buildSlice1 rfl .const underlying35 sz3 zr3 rfl rfl dc dc) ?_
 intro bk3 _
 refine Sc (O_build (pv := [(0, _), (1, _), (2, _)]) (r := .agg #[.slice (some ⟨bk1, 0, none⟩) 1 1, .slice (some ⟨bk2, 0, none⟩) 1 1, .slice (some ⟨bk3, 0, none⟩) 1 1]) rfl (.cons (.tmp (.o rfl)) (.cons (.tmp (.o rfl)) (.cons (.tmp .hit) .nil))) (fun w => run_build w _ _ _ Q13)) ?_
 refine Sc (O_box rfl (.tmp .hit) rfl) ?_
 intro bk5 _
 refine Ah ?_
 refine SN k2 ?_
 refine Rt ?_
 exact SK_ret1 rfl .hit (fun w hw => ⟨(_, _, _, _), rfl, trivial, hw.made (SW_range.HSub.all _) rfl⟩)
end

section
open Go
open Tryz
set_option maxRecDepth 100000

section
variable {P : Program} {x y : Operand} {T : TypeId} {w : World}
theorem b_or_u64 (a b c : Nat) {ia ib : Int} (hia : ia = (a : Int)) (hib : ib = (b : Int)) (hc : a ||| b = c) (ha : a < 18446744073709551616) (hb : b < 18446744073709551616) (h : c < 18446744073709551616) :
    (do eqGuard .or T x y (.int .u64 ia) (.int .u64 ib); binOp .or T (.int .u64 ia) (.int .u64 ib) : Sem Value).run P w = .ok (.int .u64 (c : Nat)) w := by
  subst hia hib
  rw [eqGuard_or, binOp_or, intBits_or]
  have e : bits .or .u64 (a : Int) (b : Int) = ((c : Nat) : Int) := by
    show IntKind.u64.wrap ((BitVec.ofInt 64 (a : Int) ||| BitVec.ofInt 64 (b : Int)).toNat : Int) = _
    rw [BitVec.toNat_or, BitVec.toNat_ofInt, BitVec.toNat_ofInt]
    have h1 : ((a : Int) % ((2 ^ 64 : Nat) : Int)).toNat = a := by omega
    have h2 : ((b : Int) % ((2 ^ 64 : Nat) : Int)).toNat = b := by omega
    rw [h1, h2, hc]
    exact wrap_u64 _ h
  rw [e]
  rfl
end
/-- the word of kind, length and flag -/
def infoN (kd n : Nat) (flag : Bool) : Nat := n + kd * 2 ^ 24 + (if flag then 1 * 2 ^ 31 else 0)

theorem f40_ok (kd n : Nat) (flag : Bool) (hk : kd < 32) (hn : n < 65536) (w : World) : Calls Tryz.prog 40 #[.int .i64 (kd : Nat), .int .i64 (n : Nat), .bool flag] w (fun r w' => r = .returned (.int .u64 (infoN kd n flag : Nat)) ∧ Ext noS w w') := by
 refine sw_calls (S := noS) func40 rfl ntmps40 (sees3 _ _ _ _ rfl) (Holds.start _ _) ?_
 refine SR fun _ k1 => ?_
 refine Ac ?_
 refine SN k1 ?_
 refine SR fun _ k2 => ?_
 refine Mo ?_
 refine Sc (O_convert rfl (.tmp .hit) (r := .int .u64 (kd : Nat)) (fun _ => c_int ⟨_, underlying3⟩ underlying57 (wrap_u64 _ om))) ?_
 refine Sc (O_binOp rfl (.tmp .hit) .const (fun _ => b_shl .u64 kd 24 dc (wrap_u64 _ om) _)) ?_
 refine Mo ?_
 refine Sc (O_convert rfl (.tmp .hit) (r := .int .u64 (n : Nat)) (fun _ => c_int ⟨_, underlying3⟩ underlying57 (wrap_u64 _ om))) ?_
 refine Sc (O_binOp rfl (.tmp (.o rfl)) (.tmp .hit) (fun _ => b_or_u64 (kd * 2 ^ 24) n (n + kd * 2 ^ 24) rfl rfl (by rw [Nat.or_comm]; exact or_add n kd 24 om) om om om)) ?_
 refine Ah ?_
 refine SN k2 ?_
 refine Ek [7, 6, 2] ?_
 refine Sq fun _ k3 => ?_
 refine SR fun _ k4 => ?_
 refine Mo ?_
 refine SN k4 ?_
 refine Sd ?_ ?_
 ·
  refine Ci fun ht14 => ?_
  refine Sr ?_
  refine Mo ?_
  refine Sc (O_binOp rfl (.tmp .hit) .const (fun _ => b_or_u64 (n + kd * 2 ^ 24) (1 * 2 ^ 31) (n + kd * 2 ^ 24 + 1 * 2 ^ 31) rfl om (or_add (n + kd * 2 ^ 24) 1 31 om) om om om)) ?_
  refine Ah ?_
  refine SN k3 ?_
  refine Ek [7, 6] ?_
  refine SR fun _ k5 => ?_
  refine Mh ?_
  refine Ah ?_
  refine SN k5 ?_
  refine Rt ?_
  refine Pl3 ?_
  exact SK_ret1 rfl .hit (fun w hw => ⟨by unfold infoN; first | (rw [if_pos ht14]) | (rw [if_neg (by rw [ht14]; decide), Nat.add_zero]), hw.ext⟩)
 refine Ci fun ht14 => ?_
 refine SS k3 ?_
 refine Ek [7, 6] ?_
 refine SR fun _ k6 => ?_
 refine Mh ?_
 refine Ah ?_
 refine SN k6 ?_
 refine Rt ?_
 refine Pl3 ?_
 exact SK_ret1 rfl .hit (fun w hw => ⟨by unfold infoN; first | (rw [if_pos ht14]) | (rw [if_neg (by rw [ht14]; decide), Nat.add_zero]), hw.ext⟩)
end

section
open Go
open Tryz
set_option maxRecDepth 100000

theorem f38_ok (t : Tp) (mp : Option Addr) (mc : Nat) (hl : t.mems.length < 4611686018427387904) (w : World) (hM : MemsAt w mp t.mems) : Calls Tryz.prog 38 #[.agg (cellsT t (.slice mp t.mems.length mc)).toArray] w (fun r w' => r = .returned (.bool (bitsB t.mems)) ∧ Ext noS w w') := by
 refine sw_calls (S := noS) func38 rfl ntmps38 (sees1 _ _ rfl) (Holds.start _ _) ?_
 refine SR fun _ k1 => ?_
 refine Sc (O_box (cs := (cellsT t (.slice mp t.mems.length mc)).toArray) rfl (.tmp .hit) rfl) ?_
 intro bk1 _
 refine Ac ?_
 refine SN k1 ?_
 refine Ek [2, 1] ?_
 refine Sq fun _ k2 => ?_
 refine SR fun _ k3 => ?_
 refine Sc (Ofa underlying32 sz30) ?_
 refine Sc (Ola oc30) ?_
 refine Sc (O_lenSlice rfl (.tmp .hit) underlying30 rfl) ?_
 refine Mc ?_
 refine SN k3 ?_
 refine Bl ?_
 refine SW_loop (α := Nat) (fun x => x ≤ t.mems.length ∧ ∀ i q, i < x → t.mems[i]? = some q → ¬ 0 < q.bits) (fun x => t.mems.length - x) (fun x => []) (fun x => [(8, .int .i64 (x : Nat)), (7, .int .i64 (t.mems.length : Nat)), (6, .slice mp t.mems.length mc), (2, .bool false)]) 0 ⟨Nat.zero_le _, fun i q h _ => absurd h (Nat.not_lt_zero _)⟩ (Ek4 rfl rfl rfl rfl) Q24 ?_
 rintro i ⟨hi, hz⟩
 refine SR fun _ k4 => ?_
 refine Sc (O_binOp rfl (.tmp .hit) (.tmp (.o rfl)) (fun _ => b_lss _ _ _ _ rfl)) ?_
 refine SN k4 ?_
 refine Sq fun _ k5 => ?_
 refine Sd ?_ ?_
 ·
  refine Ci fun ht9 => ?_
  have hlt : i < t.mems.length := by omega
  obtain ⟨b, off, rfl, hc1⟩ := hM _ _ (List.getElem?_eq_getElem hlt)
  refine SS k5 ?_
  refine Ek [8, 7, 6, 2] ?_
  refine Sq fun _ k6 => ?_
  refine Bl ?_
  refine SR fun _ k7 => ?_
  refine Sc (O_indexAddr rfl (.tmp (.o rfl)) (.tmp .hit) underlying30 sz64 oz oz) ?_
  refine Sc (O_loadA0 (vs := cellsM t.mems[i]) rfl (.tmp .hit) underlying64 sz64 rfl (fun h => h) (fun j u hj => by have := hc1 j u hj; simpa using this)) ?_
  refine Sc (O_alloc rfl zr64 rfl) ?_
  intro bk4 _
  refine Sc (O_storeA (vs := cellsM t.mems[i]) (.tmp .hit) (.tmp (.o rfl)) rfl sz64 rfl .a dc rfl) ?_
  refine SN k7 ?_
  refine Ek [4, 8, 7, 6, 2] ?_
  refine SR fun _ k8 => ?_
  refine Sc (Ofa underlying64 sz3) ?_
  refine Sc (Ola oc3) ?_
  refine Sc (O_binOp rfl (.tmp .hit) .const (fun _ => b_gtr _ _ _ _ rfl)) ?_
  refine SN k8 ?_
  refine Sd ?_ ?_
  ·
   refine Ci fun ht14 => ?_
   have hfin : bitsB t.mems = true := by
     rw [bitsB, List.any_eq_true]
     exact ⟨t.mems[i], List.getElem_mem hlt, by simpa using ht14⟩
   refine Ek [8, 7, 6, 2] ?_
   refine SR fun _ k9 => ?_
   refine Ac ?_
   refine SN k9 ?_
   refine Rt ?_
   refine Pl0 ?_
   refine Pl3 ?_
   exact SK_ret1 rfl .hit (fun w hw => ⟨by rw [hfin], hw.ext⟩)
  refine Ci fun ht14 => ?_
  have hz2 : ∀ j q, j < i + 1 → t.mems[j]? = some q → ¬ 0 < q.bits := fun j q hj hq => by
    rcases Nat.lt_or_ge j i with h | h
    · exact hz j q h hq
    have hji : j = i := by omega
    subst hji
    rw [List.getElem?_eq_getElem hlt] at hq
    injection hq with hq
    subst hq
    omega
  refine SS k6 ?_
  refine Sr ?_
  refine Sc (O_binOp rfl (.tmp (.o rfl)) .const (fun _ => b_add _ _ _ rfl oz oz)) ?_
  refine Mh ?_
  refine Sn ?_
  refine Pl1 ?_
  exact fun _ _ ha hw => ⟨(i + 1), (by show t.mems.length - (i + 1) < t.mems.length - i; omega), ⟨hlt, hz2⟩, ha.weaken .a, hw.weaken Q24⟩
 refine Ci fun ht9 => ?_
 have hfin : bitsB t.mems = false := by
   rw [bitsB, List.any_eq_false]
   intro q hq
   obtain ⟨j, hj, rfl⟩ := List.getElem_of_mem hq
   simpa using hz j _ om (List.getElem?_eq_getElem hj)
 refine Xt ?_
 refine So k2 ?_
 refine Ek [2] ?_
 refine SR fun _ k10 => ?_
 refine Ac ?_
 refine SN k10 ?_
 refine Rt ?_
 refine Pl3 ?_
 exact SK_ret1 rfl .hit (fun w hw => ⟨by rw [hfin], hw.ext⟩)
end
end Go.Proofs.YtoibhfpagkdleaaGreatDoor
