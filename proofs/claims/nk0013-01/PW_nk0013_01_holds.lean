import PyProof.Rows.All
import Wide.All
import OpenK.AllK
import Wide.FinOn
import Lean
import PySem.Challenge.RW_nk0013_01
open PySem PySem.W PyProof.Rows
set_option Elab.async false
set_option maxRecDepth 100000 in
set_option maxHeartbeats 8000000 in
open_top Mine.hd for PySem.Challenge.rw_nk0013_01
namespace Mine
section
open PySem.Builtin.Str
def ofL (l : List Nat) : Str := ⟨l.toArray⟩
def toL (x : Str) : List Nat := x.cps.toList
theorem ofL_toL (x : Str) : ofL (toL x) = x := by cases x; simp [ofL, toL]
theorem toL_ofL (l : List Nat) : toL (ofL l) = l := by simp [ofL, toL]
theorem toL_len (x : Str) : (toL x).length = x.length := by simp [toL, Str.length]
theorem toL_inj {x y : Str} (h : toL x = toL y) : x = y := by rw [← ofL_toL x, ← ofL_toL y, h]
theorem toL_app (x y : Str) : toL (x ++ y) = toL x ++ toL y := by
  show (x.cps ++ y.cps).toList = _
  simp [toL]
theorem nil_of {x : Str} (h : x.length = 0) : x = ⟨#[]⟩ := by
  obtain ⟨a⟩ := x
  simp only [Str.length, Array.size_eq_zero_iff] at h
  rw [h]
theorem beq_toL {x y : Str} : (x == y) = (toL x == toL y) := by
  rw [Bool.eq_iff_iff, beq_iff_eq, beq_iff_eq]
  exact ⟨fun h => by rw [h], toL_inj⟩

theorem sl_to {x : Str} {k : Nat} (h : k ≤ x.length) : toL (Txt.slice x none (some (k : Int))) = (toL x).take k := by
  have := beq_iff_eq.mp (slice_closes_toL (x := x) (j := (k : Int)) (by omega) (by omega))
  rw [this]
  simp [toL]
theorem sl_from {x : Str} {k : Nat} (h : k ≤ x.length) : toL (Txt.slice x (some (k : Int)) none) = (toL x).drop k := by
  have := slice_from_eq (x := x) (i := (k : Int)) (b := (x.length : Int)) (by omega) (by omega) rfl
  rw [this]
  simp only [toL, Int.toNat_natCast]
  rw [List.take_of_length_le]
  simp only [List.length_drop, Array.length_toList, Str.length]
  omega
theorem sl_head (x : Str) : toL (Txt.slice x none (some 1)) = (toL x).take 1 := by
  by_cases h : x.length = 0
  · rw [nil_of h]; decide +kernel
  · exact sl_to (k := 1) (by omega)
theorem sl_tail {x : Str} (h : 1 ≤ x.length) : toL (Txt.slice x (some 1) none) = (toL x).drop 1 := sl_from (k := 1) h
theorem neg_from {n : Nat} (h : 1 ≤ n) : strSliceIndices (some (-1)) none 1 n = strSliceIndices (some ((n - 1 : Nat) : Int)) none 1 n := by
  have h0 : ¬ (((n - 1 : Nat) : Int) < 0) := by omega
  have h1 : ((-1 : Int) < 0) := by omega
  have h2 : (1 : Int) > 0 := by decide
  have e : (-1 : Int) + n = ((n - 1 : Nat) : Int) := by omega
  simp only [strSliceIndices, h0, h1, h2, if_false, if_true, e]
theorem neg_to {n : Nat} (h : 1 ≤ n) : strSliceIndices none (some (-1)) 1 n = strSliceIndices none (some ((n - 1 : Nat) : Int)) 1 n := by
  have h0 : ¬ (((n - 1 : Nat) : Int) < 0) := by omega
  have h1 : ((-1 : Int) < 0) := by omega
  have h2 : (1 : Int) > 0 := by decide
  have e : (-1 : Int) + n = ((n - 1 : Nat) : Int) := by omega
  simp only [strSliceIndices, h0, h1, h2, if_false, if_true, e]
theorem sl_last (x : Str) : toL (Txt.slice x (some (-1)) none) = (toL x).drop (x.length - 1) := by
  by_cases h : x.length = 0
  · rw [nil_of h]; decide +kernel
  · have e : Txt.slice x (some (-1)) none = Txt.slice x (some ((x.length - 1 : Nat) : Int)) none := by
      unfold Txt.slice
      rw [neg_from (by omega)]
    rw [e, sl_from (by omega)]
theorem sl_init {x : Str} (h : 1 ≤ x.length) : toL (Txt.slice x none (some (-1))) = (toL x).take (x.length - 1) := by
  have e : Txt.slice x none (some (-1)) = Txt.slice x none (some ((x.length - 1 : Nat) : Int)) := by
    unfold Txt.slice
    rw [neg_to (by omega)]
  rw [e, sl_to (by omega)]

/-- a blank -/
abbrev sp (c : Nat) : Bool := c == 32
def lst (l : List Nat) : List Nat := l.dropWhile sp
def rst (l : List Nat) : List Nat := (l.reverse.dropWhile sp).reverse
def strp (x : Str) : Str := ofL (rst (lst (toL x)))
def rstrp (x : Str) : Str := ofL (rst (toL x))
theorem blank : toL (Str.ofString " ") = [32] := by decide +kernel

theorem lst_step {x : Str} (h : (Txt.slice x none (some 1) == Str.ofString " ") = true) : 1 ≤ x.length ∧ lst (toL (Txt.slice x (some 1) none)) = lst (toL x) ∧ (Txt.slice x (some 1) none).length < x.length := by
  rw [beq_toL, blank, sl_head] at h
  have hl := toL_len x
  cases hx : toL x with
  | nil => rw [hx] at h; simp at h
  | cons a r =>
    rw [hx] at h hl
    simp only [List.length_cons] at hl
    have h1 : 1 ≤ x.length := by omega
    have ha : a = 32 := by simpa using h
    have e := sl_tail h1
    rw [hx] at e
    refine ⟨h1, ?_, ?_⟩
    · rw [e, ha]; rfl
    · rw [← toL_len, e]; simp; omega
theorem lst_done {x : Str} (h : (Txt.slice x none (some 1) == Str.ofString " ") = false) : lst (toL x) = toL x := by
  rw [beq_toL, blank, sl_head] at h
  cases hx : toL x with
  | nil => rfl
  | cons a r =>
    rw [hx] at h
    have ha : a ≠ 32 := by intro e; rw [e] at h; simp at h
    simp [lst, sp, ha]
theorem rst_app (l : List Nat) (a : Nat) : rst (l ++ [a]) = if a = 32 then rst l else l ++ [a] := by
  unfold rst
  rw [List.reverse_append]
  simp only [List.reverse_cons, List.reverse_nil, List.nil_append, List.singleton_append, List.dropWhile_cons, sp, beq_iff_eq]
  split <;> simp
theorem last_split {l : List Nat} (h : l ≠ []) : ∃ r a, l = r ++ [a] := ⟨l.dropLast, l.getLast h, (List.dropLast_concat_getLast h).symm⟩
theorem rst_step {x : Str} (h : (Txt.slice x (some (-1)) none == Str.ofString " ") = true) : 1 ≤ x.length ∧ rst (toL (Txt.slice x none (some (-1)))) = rst (toL x) ∧ (Txt.slice x none (some (-1))).length < x.length := by
  rw [beq_toL, blank, sl_last] at h
  have hl := toL_len x
  by_cases hx : toL x = []
  · rw [hx] at h; simp at h
  · obtain ⟨r, a, e⟩ := last_split hx
    rw [e] at hl h
    simp only [List.length_append, List.length_cons, List.length_nil] at hl
    have h1 : 1 ≤ x.length := by omega
    have hr : x.length - 1 = r.length := by omega
    rw [hr] at h
    have ha : a = 32 := by simpa using h
    have e2 := sl_init h1
    rw [e, hr] at e2
    refine ⟨h1, ?_, ?_⟩
    · rw [e2, e, rst_app, ha]; simp
    · rw [← toL_len, e2]; simp; omega
theorem rst_done {x : Str} (h : (Txt.slice x (some (-1)) none == Str.ofString " ") = false) : rst (toL x) = toL x := by
  rw [beq_toL, blank, sl_last] at h
  have hl := toL_len x
  by_cases hx : toL x = []
  · rw [hx]; rfl
  · obtain ⟨r, a, e⟩ := last_split hx
    rw [e] at hl h
    simp only [List.length_append, List.length_cons, List.length_nil] at hl
    have hr : x.length - 1 = r.length := by omega
    rw [hr] at h
    have ha : a ≠ 32 := by intro e; rw [e] at h; simp at h
    rw [e, rst_app, if_neg ha]
end
section
open PySem.Builtin.Str
def Tame (x : Str) : Prop := ∀ c ∈ toL x, 32 ≤ c ∧ c < 128
theorem space_tame : ∀ c : Nat, c < 128 → 32 ≤ c → Unicode.isSpace c = (c == 32) := by decide +kernel
theorem Tame.app {x y : Str} (h : Tame x) (k : Tame y) : Tame (x ++ y) := by
  intro c hc
  rw [toL_app] at hc
  exact (List.mem_append.mp hc).elim (h c) (k c)
theorem Tame.sub {x : Str} {l : List Nat} (h : Tame x) (k : ∀ c ∈ l, c ∈ toL x) : Tame (ofL l) := by
  intro c hc
  rw [toL_ofL] at hc
  exact h c (k c hc)
theorem takeWhile_cong {p q : Nat → Bool} : ∀ {l : List Nat}, (∀ c ∈ l, p c = q c) → l.takeWhile p = l.takeWhile q
  | [], _ => rfl
  | a :: r, h => by
    rw [List.takeWhile_cons, List.takeWhile_cons, h a (.head _), takeWhile_cong fun c hc => h c (.tail _ hc)]
theorem drop_takeWhile (p : Nat → Bool) : ∀ l : List Nat, l.drop (l.takeWhile p).length = l.dropWhile p
  | [] => rfl
  | a :: r => by
    rw [List.takeWhile_cons, List.dropWhile_cons]
    cases h : p a with
    | true => simp only [if_true, List.length_cons, List.drop_succ_cons]; exact drop_takeWhile p r
    | false => rfl
theorem take_takeWhile (p : Nat → Bool) : ∀ l : List Nat, l.take (l.takeWhile p).length = l.takeWhile p
  | [] => rfl
  | a :: r => by
    rw [List.takeWhile_cons]
    cases h : p a with
    | true => simp only [if_true, List.length_cons, List.take_succ_cons]; rw [take_takeWhile p r]
    | false => rfl
theorem rst_take (m : List Nat) : rst m = m.take (m.length - (m.reverse.takeWhile sp).length) := by
  unfold rst
  rw [← drop_takeWhile sp m.reverse]
  rw [List.drop_reverse, List.reverse_reverse]
theorem toL_sub (y : Str) (i j : Nat) : toL (strSub y i j) = ((toL y).drop i).take (j - i) := by
  unfold toL strSub
  simp [Array.toList_extract, List.extract_eq_take_drop]
theorem stripped_eq (l r : Bool) (x : Str) : Txt.stripBy Unicode.isSpace l r x = PySem.W.stripped Unicode.isSpace l r x := PySem.W.stripBy_eq x Unicode.isSpace l r
theorem strip_tame {y : Str} (h : Tame y) : Txt.strip y = strp y := by
  have e1 : (toL y).takeWhile Unicode.isSpace = (toL y).takeWhile sp := takeWhile_cong fun c hc => space_tame c (h c hc).2 (h c hc).1
  have e2 : ((toL y).drop ((toL y).takeWhile sp).length).reverse.takeWhile Unicode.isSpace = ((toL y).drop ((toL y).takeWhile sp).length).reverse.takeWhile sp :=
    takeWhile_cong fun c hc => by
      have hc' := List.mem_of_mem_drop (List.mem_reverse.mp hc)
      exact space_tame c (h c hc').2 (h c hc').1
  unfold Txt.strip
  rw [stripped_eq]
  apply toL_inj
  unfold PySem.W.stripped
  rw [toL_sub]
  unfold strp
  rw [toL_ofL]
  have ht : y.cps.toList = toL y := rfl
  simp only [stripLo, stripHi, if_true, ht, e1, e2]
  rw [drop_takeWhile]
  show _ = rst (lst (toL y))
  rw [rst_take]
  unfold lst
  congr 1
  have hl := congrArg List.length (drop_takeWhile sp (toL y))
  rw [List.length_drop, toL_len] at hl
  omega
theorem rstrip_tame {y : Str} (h : Tame y) : Txt.rstrip y = rstrp y := by
  have e2 : (toL y).reverse.takeWhile Unicode.isSpace = (toL y).reverse.takeWhile sp :=
    takeWhile_cong fun c hc => by
      have hc' := List.mem_reverse.mp hc
      exact space_tame c (h c hc').2 (h c hc').1
  unfold Txt.rstrip
  rw [stripped_eq]
  apply toL_inj
  unfold PySem.W.stripped
  rw [toL_sub]
  unfold rstrp
  rw [toL_ofL]
  have ht : y.cps.toList = toL y := rfl
  simp only [stripLo, stripHi, if_true, Bool.false_eq_true, if_false, ht, List.drop_zero, e2]
  rw [rst_take, toL_len]
  rfl

/-- the first sign of a remark -/
def cutf (l : List Nat) : List Nat := l.takeWhile (· != 35)
def cuta (l : List Nat) : List Nat := l.drop ((cutf l).length + 1)
def hasN (x : Str) : Prop := 35 ∈ toL x
def front (x : Str) : Str := ofL (cutf (toL x))
def note (x : Str) : Str := strp (ofL (cuta (toL x)))
theorem hash_is : Str.ofString "#" = ⟨#[35]⟩ := by decide +kernel
theorem cutf_first : ∀ {l : List Nat}, 35 ∈ l → l[(cutf l).length]? = some 35
  | [], h => nomatch h
  | a :: r, h => by
    unfold cutf
    rw [List.takeWhile_cons]
    by_cases e : a = 35
    · subst e; rfl
    · have e' : (a != 35) = true := by simpa using e
      rw [if_pos e', List.length_cons, List.getElem?_cons_succ]
      exact cutf_first ((List.mem_cons.mp h).resolve_left fun q => e q.symm)
theorem cutf_before : ∀ {l : List Nat} {k : Nat}, k < (cutf l).length → l[k]? ≠ some 35
  | [], _, h => nomatch h
  | a :: r, k, h => by
    unfold cutf at h
    rw [List.takeWhile_cons] at h
    by_cases e : a = 35
    · subst e; simp at h
    · have e' : (a != 35) = true := by simpa using e
      rw [if_pos e', List.length_cons] at h
      cases k with
      | zero => simpa using e
      | succ k => rw [List.getElem?_cons_succ]; exact cutf_before (Nat.lt_of_succ_lt_succ h)
theorem cutf_le (l : List Nat) : (cutf l).length ≤ l.length := (List.takeWhile_sublist _).length_le
theorem cutf_lt {l : List Nat} (h : 35 ∈ l) : (cutf l).length < l.length := (List.getElem?_eq_some_iff.mp (cutf_first h)).1
theorem find_some {x : Str} (h : hasN x) : Txt.find x (Str.ofString "#") = ((cutf (toL x)).length : Int) := by
  rw [hash_is]
  unfold Txt.find
  rcases StrLaws.occ_head x ⟨#[35]⟩ 1 (Nat.le_refl _) with ⟨_, hn⟩ | ⟨i, r, e, hi, hk⟩
  · exact absurd ((StrLaws.subAt_one x 35 _).mpr (cutf_first h)) (hn _)
  · rw [e]
    have hi' := (StrLaws.subAt_one x 35 i).mp hi
    have : i = (cutf (toL x)).length := by
      rcases Nat.lt_trichotomy i (cutf (toL x)).length with q | q | q
      · exact absurd hi' (cutf_before q)
      · exact q
      · exact absurd ((StrLaws.subAt_one x 35 _).mpr (cutf_first h)) (hk _ q)
    rw [this]
theorem find_none {x : Str} (h : ¬ hasN x) : Txt.find x (Str.ofString "#") = -1 := by
  rw [hash_is]
  unfold Txt.find
  rcases StrLaws.occ_head x ⟨#[35]⟩ 1 (Nat.le_refl _) with ⟨e, _⟩ | ⟨i, r, e, hi, _⟩
  · rw [e]
  · exact absurd (List.mem_of_getElem? ((StrLaws.subAt_one x 35 i).mp hi)) h
theorem front_slice {x : Str} : Txt.slice x none (some ((cutf (toL x)).length : Int)) = front x := by
  apply toL_inj
  rw [sl_to (by rw [← toL_len]; exact cutf_le _)]
  unfold front
  rw [toL_ofL]
  exact take_takeWhile _ _
theorem after_slice {x : Str} (h : hasN x) : Txt.slice x (some (((cutf (toL x)).length : Int) + 1)) none = ofL (cuta (toL x)) := by
  apply toL_inj
  have := cutf_lt h
  rw [toL_len] at this
  have e : ((cutf (toL x)).length : Int) + 1 = (((cutf (toL x)).length + 1 : Nat) : Int) := by omega
  rw [e, sl_from (by omega), toL_ofL]
  rfl
theorem parse_front {x : Str} (h : hasN x) : Txt.slice x none (some (Txt.find x (Str.ofString "#"))) = front x := by
  rw [find_some h]; exact front_slice
theorem parse_note {x : Str} (h : hasN x) (hT : Tame x) : Txt.strip (Txt.slice x (some (Txt.find x (Str.ofString "#") + 1)) none) = note x := by
  rw [find_some h, after_slice h]
  exact strip_tame (hT.sub fun c hc => List.mem_of_mem_drop hc)
theorem find_ne {x : Str} (h : hasN x) : Txt.find x (Str.ofString "#") ≠ -1 := by
  rw [find_some h]; omega
def Before (x : Str) (pre : List Int) : Prop := ∀ i, i < pre.length → (toL x)[i]? ≠ some 35
theorem item_hash {x : Str} {k : Nat} (hk : k < x.length) : (Txt.item x (k : Int) == Str.ofString "#") = decide ((toL x)[k]? = some 35) := by
  have hl : k < (toL x).length := by rw [toL_len]; exact hk
  have hx : x.cps[((k : Int)).toNat]? = some (toL x)[k] := by
    rw [Int.toNat_natCast, ← Array.getElem?_toList]
    exact List.getElem?_eq_getElem hl
  rw [PyProof.Rows.item_meets (by omega) hx, hash_is, List.getElem?_eq_getElem hl, Bool.eq_iff_iff, beq_iff_eq, decide_eq_true_eq]
  constructor
  · intro h; injection h with h; injection h with h; injection h with h; rw [h]
  · intro h; rw [Option.some.inj h]
theorem before_step {x : Str} {pre : List Int} {k : Int} (hb : Before x pre) (hk : k = 0 + (pre.length : Int)) (hl : pre.length < (↑x.length - 0 : Int).toNat) (h : (Txt.item x k == Str.ofString "#") = false) : Before x (pre ++ [k]) := by
  intro i hi
  rw [List.length_append, List.length_singleton] at hi
  by_cases e : i < pre.length
  · exact hb i e
  · have e' : i = pre.length := by omega
    have hk' : k = (pre.length : Int) := by omega
    rw [hk', item_hash (by omega)] at h
    rw [e']
    exact of_decide_eq_false h
theorem before_hit {x : Str} {pre : List Int} {k : Int} (hb : Before x pre) (hk : k = 0 + (pre.length : Int)) (hl : pre.length < (↑x.length - 0 : Int).toNat) (h : (Txt.item x k == Str.ofString "#") = true) : k = ((cutf (toL x)).length : Int) ∧ hasN x := by
  have hk' : k = (pre.length : Int) := by omega
  rw [hk', item_hash (by omega)] at h
  have h' := of_decide_eq_true h
  have hN : hasN x := List.mem_of_getElem? h'
  refine ⟨?_, hN⟩
  rcases Nat.lt_trichotomy pre.length (cutf (toL x)).length with q | q | q
  · exact absurd h' (cutf_before q)
  · omega
  · exact absurd (cutf_first hN) (hb _ q)
theorem cut_front {x : Str} {pre : List Int} {k : Int} (hb : Before x pre) (hk : k = 0 + (pre.length : Int)) (hl : pre.length < (↑x.length - 0 : Int).toNat) (h : (Txt.item x k == Str.ofString "#") = true) : Txt.slice x none (some k) = front x ∧ strp (Txt.slice x (some (k + 1)) none) = note x := by
  obtain ⟨e, hN⟩ := before_hit hb hk hl h
  rw [e, front_slice, after_slice hN]
  exact ⟨rfl, rfl⟩
theorem before_all {x : Str} (hb : Before x (rangeKs 0 (↑x.length - 0 : Int).toNat)) : ¬ hasN x := by
  intro hN
  refine hb _ ?_ (cutf_first hN)
  have := cutf_lt hN
  rw [toL_len] at this
  rw [rangeKs_length]
  omega
end
section
open PySem.Builtin.Str
theorem join_is (sep : Str) (ys : List Str) : Txt.join sep ys = Str.join sep ys := beq_iff_eq.mp (join_closes rfl)
theorem join_mem {sep : Str} : ∀ {ys : List Str} {c : Nat}, c ∈ toL (Str.join sep ys) → c ∈ toL sep ∨ ∃ y ∈ ys, c ∈ toL y
  | [], _, h => by simp [Str.join, toL, Str.empty] at h
  | [y], c, h => .inr ⟨y, .head _, h⟩
  | y :: z :: r, c, h => by
    unfold Str.join at h
    rw [toL_app, toL_app] at h
    rcases List.mem_append.mp h with h | h
    · rcases List.mem_append.mp h with h | h
      · exact .inr ⟨y, .head _, h⟩
      · exact .inl h
    · rcases join_mem h with h | ⟨q, hq, h⟩
      · exact .inl h
      · exact .inr ⟨q, .tail _ hq, h⟩
theorem len_app (x y : Str) : (x ++ y).length = x.length + y.length := by
  rw [← toL_len, toL_app, List.length_append, toL_len, toL_len]
theorem join_len {sep : Str} {b : Nat} : ∀ {ys : List Str}, (∀ y ∈ ys, y.length ≤ b) → (Str.join sep ys).length ≤ ys.length * (b + sep.length)
  | [], _ => by simp [Str.join, Str.empty, Str.length]
  | [y], h => by
    have := h y (.head _)
    simp only [Str.join, List.length_cons, List.length_nil, Nat.zero_add, Nat.one_mul]
    omega
  | y :: z :: r, h => by
    have h1 := h y (.head _)
    have h2 := join_len (sep := sep) (b := b) (ys := z :: r) fun q hq => h q (.tail _ hq)
    unfold Str.join
    rw [len_app, len_app]
    rw [List.length_cons, Nat.succ_mul]
    omega
theorem sum_len {b : Nat} : ∀ {ys : List Str}, (∀ y ∈ ys, y.length ≤ b) → (ys.map (·.length)).sum ≤ ys.length * b
  | [], _ => by simp
  | y :: r, h => by
    have h1 := h y (.head _)
    have h2 := sum_len (b := b) (ys := r) fun q hq => h q (.tail _ hq)
    rw [List.map_cons, List.sum_cons, List.length_cons, Nat.succ_mul]
    omega
/-- the six signs -/
def SG : List Str := [Str.ofString "a", Str.ofString " ", Str.ofString "b.c", Str.ofString ",", Str.ofString " x", Str.ofString "("]
theorem sg_all : ∀ y ∈ SG, y.length ≤ 3 ∧ ∀ c ∈ toL y, (32 ≤ c ∧ c < 128) ∧ c ≠ 35 := by decide +kernel
theorem code_facts {ws : List Str} (h : ∀ y ∈ ws, y ∈ SG) (hl : ws.length ≤ 4) : Tame (Txt.join (Str.ofString "") ws) ∧ ¬ hasN (Txt.join (Str.ofString "") ws) ∧ (Txt.join (Str.ofString "") ws).length ≤ 12 := by
  rw [join_is]
  have hm : ∀ c ∈ toL (Str.join (Str.ofString "") ws), (32 ≤ c ∧ c < 128) ∧ c ≠ 35 := fun c hc => by
    rcases join_mem hc with q | ⟨y, hy, q⟩
    · exact absurd q (by rw [show toL (Str.ofString "") = [] from by decide +kernel]; simp)
    · exact (sg_all y (h y hy)).2 c q
  refine ⟨fun c hc => (hm c hc).1, fun hc => (hm 35 hc).2 rfl, ?_⟩
  have := join_len (sep := Str.ofString "") (b := 3) (ys := ws) fun y hy => (sg_all y (h y hy)).1
  rw [show (Str.ofString "").length = 0 from by decide +kernel] at this
  omega
theorem code_sum {ws : List Str} (h : ∀ y ∈ ws, y ∈ SG) (hl : ws.length ≤ 4) : (ws.map (·.length)).sum + ws.length * (Str.ofString "").length ≤ 16777216 := by
  have := sum_len (b := 3) (ys := ws) fun y hy => (sg_all y (h y hy)).1
  rw [show (Str.ofString "").length = 0 from by decide +kernel]
  omega
end
section
noncomputable abbrev PR : Program := PySem.Challenge.rw_nk0013_01.row.prog
noncomputable abbrev LO : List Str := looseW hd.view_39 [Str.ofString "add_to_line"]

theorem UpdF.upd {d : Addr} {o : Obj} {l : List (Addr × Obj)} {g : Obj → List (Addr × Obj)} (U : UpdF d o l g) (o' : Obj) : Upd d o o' l (g o') := by
  induction U with
  | head h => exact .head h
  | tail h _ ih => exact .tail h ih
theorem UpdF.mem {d : Addr} {o : Obj} {l : List (Addr × Obj)} {g : Obj → List (Addr × Obj)} (U : UpdF d o l g) : (d, o) ∈ l := by
  induction U with
  | head h => exact .head _
  | tail h _ ih => exact .tail _ ih
theorem UpdF.other {d b : Addr} {o x : Obj} {l : List (Addr × Obj)} {g : Obj → List (Addr × Obj)} (U : UpdF d o l g) (hm : (b, x) ∈ l) (hne : b ≠ d) (o' : Obj) : (b, x) ∈ g o' := by
  induction U with
  | head h =>
    rcases List.mem_cons.mp hm with e | e
    · cases e; exact absurd rfl hne
    · exact .tail _ e
  | tail h _ ih =>
    rcases List.mem_cons.mp hm with rfl | e
    · exact .head _
    · exact .tail _ (ih e)
theorem news_tail {h₀ h : Heap} {L : Addr} {q : Addr × Obj} {l : List (Addr × Obj)} (N : News h₀ L h (q :: l)) : News h₀ L h l := fun p hp => N p (.tail _ hp)
theorem ne_all {d a : Addr} {o : Obj} {l : List (Addr × Obj)} (hm : (d, o) ∈ l) (h : ∀ p ∈ l, p.1 < a) : a ≠ d := (Nat.ne_of_lt (h _ hm)).symm

section
variable {prog : Program} {w : World} {A : Around} {E : Value → Shared → Prop} {s : Shared} {h₀ : Heap} {L : Addr} {news : List (Addr × Obj)}
theorem item_at {value slice : PySem.Expr} {l : Addr} {its : List Value} {c : Nat} {k : Int} {u : Tok} {v : Value} {Q : Value → Shared → Prop} (N : News h₀ L s.heap news) (hm : (l, listOf its.toArray c) ∈ news) (h0 : 0 ≤ k) (hhi : k < 2 ^ 63) (hx : its[k.toNat]? = some v) (h : Q v s)
    (hs : subscripted slice false (.ref l) (.int k u) = operate [.ref l, .int k u] (getItem (.ref l) (.int k u)) := by with_unfolding_all rfl) :
    wpAny (model prog w) A (subscriptTail value slice (.ref l) (.int k u)) Q E s :=
  have hl : s.heap.IsList l its.toArray := ⟨_, (N _ hm).1, rfl, c, rfl⟩
  tail_any hl.typeIs slot_list_getitem.lookup (wpAny_getItem_list hl h0 hhi (by simpa using hx) h) hs
theorem fdiv_some {a b : Int} {t u : Tok} {Q : Value → Shared → Prop} (ha : 0 ≤ a) (hb : 0 < b) (hb' : b < 1000) (h : ∀ q, 0 ≤ q → q ≤ a → Q (.int q s.toks) { s with toks := s.toks + 1 }) :
    wpAny (model prog w) A (binaryOp .FloorDiv (.int a t) (.int b u)) Q E s := by
  refine floordiv_int (by omega) (h _ ?_ ?_) (.inl (PyProof.noPylong_small (by omega)))
  · exact Int.fdiv_nonneg ha (Int.le_of_lt hb)
  · rw [Int.fdiv_eq_ediv_of_nonneg _ (Int.le_of_lt hb)]
    exact Int.ediv_le_self _ ha
theorem fmod_some {a b : Int} {t u : Tok} {Q : Value → Shared → Prop} (hb : 0 < b) (h : ∀ r, 0 ≤ r → r < b → Q (.int r s.toks) { s with toks := s.toks + 1 }) :
    wpAny (model prog w) A (binaryOp .Mod (.int a t) (.int b u)) Q E s :=
  mod_int' (by omega) (h _ (Int.fmod_nonneg_of_pos _ hb) (Int.fmod_lt_of_pos _ hb))
theorem item_int {value slice : PySem.Expr} {l : Addr} {vs : List Value} {ns : List Int} {c : Nat} {k lo hi : Int} {u : Tok} {Q : Value → Shared → Prop} (N : News h₀ L s.heap news) (hm : (l, listOf vs.toArray c) ∈ news) (hi' : IntsAre vs ns) (hb : ∀ n ∈ ns, lo ≤ n ∧ n < hi) (h0 : 0 ≤ k) (hk : k < ns.length) (hhi : k < 2 ^ 63)
    (h : ∀ n t, lo ≤ n → n < hi → Q (.int n t) s)
    (hs : subscripted slice false (.ref l) (.int k u) = operate [.ref l, .int k u] (getItem (.ref l) (.int k u)) := by with_unfolding_all rfl) :
    wpAny (model prog w) A (subscriptTail value slice (.ref l) (.int k u)) Q E s := by
  have hlt : k.toNat < ns.length := by omega
  obtain ⟨t, hx⟩ := hi'.get k.toNat ns[k.toNat] (by simp [hlt])
  have hm' := hb ns[k.toNat] (List.getElem_mem hlt)
  exact item_at N hm h0 hhi (by simpa using hx) (h _ t hm'.1 hm'.2) hs
end
local macro_rules | `(tactic| walk_at "subscriptTail") => `(tactic| (k_here; (with_reducible show wpAny _ _ (subscriptTail _ _ (Value.ref _) (Value.int _ _)) _ _ _); k_dflt (first
  | (refine' item_at ?N ?m ?a ?b ?x ?_ ?s; (case N => k_asm); (case m => k_mem); (case a => decide); (case b => decide); (case x => rfl); (case s => with_unfolding_all rfl); k_whole)
  | (refine' item_int ?N ?m ?i ?p ?a ?k ?b ?_ ?s; (case N => k_asm); (case m => k_mem); (case i => assumption); (case p => assumption); (case a => omega); (case k => omega); (case b => omega); (case s => with_unfolding_all rfl); k_whole; intro _ _ _ _))))
local macro_rules | `(tactic| k_mem) => `(tactic| exact UpdF.other (by assumption) (by assumption) (by assumption) _)
local macro_rules | `(tactic| walk_at "binaryOp FloorDiv int int") => `(tactic| (k_here; (with_reducible show wpAny _ _ (binaryOp _ (Value.int _ _) (Value.int _ _)) _ _ _); (refine' fdiv_some ?k1 ?k2 ?k3 ?_; (case k1 => omega); (case k2 => omega); (case k3 => omega)); k_whole; intro _ _ _))
local macro_rules | `(tactic| walk_at "binaryOp Mod int int") => `(tactic| (k_here; (with_reducible show wpAny _ _ (binaryOp _ (Value.int _ _) (Value.int _ _)) _ _ _); (refine' fmod_some ?k1 ?_; (case k1 => omega)); k_whole; intro _ _ _))
local macro_rules | `(tactic| walk_at "call builtin:len") => `(tactic| (k_here; (with_reducible show wpAny _ _ (call (Value.builtin "len") [Value.ref _]) _ _ _); k_dflt (refine' kst_len ?k1 ?k2 ?k3 ?k4 ?_; (case k1 => k_asm); (case k2 => k_mem); (case k3 => exact IntsAre.length (by assumption)); (case k4 => omega)); k_whole))
local macro_rules | `(tactic| k_upd) => `(tactic| (refine' Upd.tail ?a ?b; (case a => exact ne_all (by assumption) (by assumption)); (case b => exact UpdF.upd (by assumption) _)))
set_option maxRecDepth 100000 in
set_option maxHeartbeats 8000000 in
theorem next_call {w : World} {mean : ExcName → Option Value} {mg mb : Str → Option Value} {dp un : Nat} {gd : Option (List Code)} {cn : Str} {cs : Scope} {a : Addr} {ccd : Value} {cl : List (Str × Addr)} {outer : List Env} {A₀ : Around} {base h₀ : Heap} {L : Addr}
    {m : Str → Option Value} {news : List (Addr × Obj)} {g : Obj → List (Addr × Obj)} {s : Shared} {Q E : Value → Shared → Prop} {st nl : Addr} {ns : List Int} {vs : List Value} {nn c : Nat} {k many : Int} {t tm : Tok}
    (B : Below A₀ base outer h₀) (F : Fr h₀ L s.heap m) (X : (hd.heap_39 w.params).In h₀) (N : News h₀ L s.heap news) (T : Top hd.view_39 LO mean mg mb h₀) (hk : cs.kind = .function)
    (hdp : dp + 1 < recursionLimit) (hun : un + 8 < cLine)
    (hn : (nl, listOf vs.toArray nn) ∈ news) (hi : IntsAre vs ns) (U : UpdF st (listOf #[.ref nl, .int k t] c) news g) (hS : (st, listOf #[.ref nl, .int k t] c) ∈ news)
    (hne : nl ≠ st) (n0 : 0 < ns.length) (n1 : ns.length ≤ 30) (hns : ∀ n ∈ ns, 0 ≤ n ∧ n < 1000003) (k0 : 0 ≤ k) (k1 : k ≤ 100) (m0 : 0 < many) (m1 : many ≤ 10)
    (ret : ∀ (r : Int) tr t' h' tk', 0 ≤ r → r < many → Fr h₀ L h' m → News h₀ L h' (g (listOf #[.ref nl, .int (k + 1) t'] c)) → Q (.int r tr) { s with heap := h', toks := tk' }) :
    wpAny (model PR w) (ktrTop dp un gd cn cs L a ccd cl outer) (call (.ref 36) [.ref st, .int many tm]) Q E s := by
  k_with_none
  w_on
  have hfill : hd.heap_39 = hd.heap_39 ∧ PySem.Challenge.rw_nk0013_01 = PySem.Challenge.rw_nk0013_01 := by (k_fill; exact ⟨rfl, rfl⟩)
  clear hfill
  refine wpAny_call ?_
  k_dflt cell_enter
  k_steps
  exact ret _ _ _ _ _ (by assumption) (by assumption) (by assumption) (news_tail (by assumption))
end
section
theorem st1 {x t0 : Str} (h : (Txt.slice x none (some 1) == Str.ofString " ") = true) (i1 : lst (toL x) = lst (toL t0)) (i2 : x.length ≤ t0.length) : lst (toL (Txt.slice x (some 1) none)) = lst (toL t0) ∧ (Txt.slice x (some 1) none).length ≤ t0.length := by
  have := lst_step h
  exact ⟨this.2.1.trans i1, by omega⟩
theorem st2 {x t0 : Str} (h : (Txt.slice x (some (-1)) none == Str.ofString " ") = true) (i1 : rst (toL x) = rst (toL t0)) (i2 : x.length ≤ t0.length) : rst (toL (Txt.slice x none (some (-1)))) = rst (toL t0) ∧ (Txt.slice x none (some (-1))).length ≤ t0.length := by
  have := rst_step h
  exact ⟨this.2.1.trans i1, by omega⟩
theorem st_end {x y z : Str} (h1 : (Txt.slice y none (some 1) == Str.ofString " ") = false) (i1 : lst (toL y) = lst (toL x)) (h2 : (Txt.slice z (some (-1)) none == Str.ofString " ") = false) (i2 : rst (toL z) = rst (toL y)) : z = strp x := by
  apply toL_inj
  unfold strp
  rw [toL_ofL, ← i1, lst_done h1, ← i2, rst_done h2]
local macro_rules | `(tactic| walk_at "exec While Compare cons nil") => `(tactic| ((with_reducible show wpAny _ _ (exec (Stmt.While (Expr.Compare (Expr.Subscript _ (Expr.Slice none _ _ _) _) _ _ _) _ _ _) _) _ _ _); k_while_given ["text!"] (fun t0 _ text => lst (toL text) = lst (toL t0) ∧ text.length ≤ t0.length) (fun _ _ text => text.length) "text"))
local macro_rules | `(tactic| walk_at "exec While Compare cons nil") => `(tactic| ((with_reducible show wpAny _ _ (exec (Stmt.While (Expr.Compare (Expr.Subscript _ (Expr.Slice (some _) none _ _) _) _ _ _) _ _ _) _) _ _ _); k_while_given ["text!"] (fun t0 _ text => rst (toL text) = rst (toL t0) ∧ text.length ≤ t0.length) (fun _ _ text => text.length) "text"))
set_option maxRecDepth 100000 in
set_option maxHeartbeats 8000000 in
theorem stripped_call {w : World} {mean : ExcName → Option Value} {mg mb : Str → Option Value} {dp un : Nat} {gd : Option (List Code)} {cn : Str} {cs : Scope} {a : Addr} {ccd : Value} {cl : List (Str × Addr)} {outer : List Env} {A₀ : Around} {base h₀ : Heap} {L : Addr}
    {m : Str → Option Value} {news : List (Addr × Obj)} {s : Shared} {Q E : Value → Shared → Prop} {x : Str} {t : Tok}
    (B : Below A₀ base outer h₀) (F : Fr h₀ L s.heap m) (X : (hd.heap_39 w.params).In h₀) (N : News h₀ L s.heap news) (T : Top hd.view_39 LO mean mg mb h₀) (hk : cs.kind = .function)
    (hdp : dp + 1 < recursionLimit) (hun : un + 8 < cLine)
    (hx : x.length ≤ 1000)
    (ret : ∀ tr h' tk', Fr h₀ L h' m → News h₀ L h' news → Q (.str (strp x) tr) { s with heap := h', toks := tk' }) :
    wpAny (model PR w) (ktrTop dp un gd cn cs L a ccd cl outer) (call (.ref 53) [.str x t]) Q E s := by
  k_with_none
  w_on
  have hfill : hd.heap_39 = hd.heap_39 ∧ PySem.Challenge.rw_nk0013_01 = PySem.Challenge.rw_nk0013_01 := by (k_fill; exact ⟨rfl, rfl⟩)
  clear hfill
  refine wpAny_call ?_
  k_dflt cell_enter
  k_with "state" => first | exact ⟨rfl, Nat.le_refl _⟩ | exact st1 (by assumption) (by assumption) (by assumption) | exact st2 (by assumption) (by assumption) (by assumption)
  k_with "measure" => first | exact (lst_step (by assumption)).2.2 | exact (rst_step (by assumption)).2.2
  k_steps
  have hz := st_end (by assumption) (by assumption) (by assumption) (by assumption)
  subst hz
  exact ret _ _ _ (by assumption) (by assumption)
end
section
set_option maxRecDepth 100000 in
set_option maxHeartbeats 8000000 in
theorem parse_some {w : World} {mean : ExcName → Option Value} {mg mb : Str → Option Value} {dp un : Nat} {gd : Option (List Code)} {cn : Str} {cs : Scope} {a : Addr} {ccd : Value} {cl : List (Str × Addr)} {outer : List Env} {A₀ : Around} {base h₀ : Heap} {L : Addr}
    {m : Str → Option Value} {news : List (Addr × Obj)} {s : Shared} {Q E : Value → Shared → Prop} {x : Str} {t : Tok}
    (B : Below A₀ base outer h₀) (F : Fr h₀ L s.heap m) (X : (hd.heap_39 w.params).In h₀) (N : News h₀ L s.heap news) (T : Top hd.view_39 LO mean mg mb h₀) (hk : cs.kind = .function)
    (hdp : dp + 1 < recursionLimit) (hun : un + 8 < cLine)
    (hx : x.length ≤ 1000) (hT : Tame x) (hN : hasN x)
    (ret : ∀ D t1 t2 h' tk', Fr h₀ L h' m → News h₀ L h' ((D, ({ cls := .type "tuple", data := .seq #[.str (front x) t1, .str (note x) t2] } : Obj)) :: news) → (∀ p ∈ news, p.1 < D) → Q (.ref D) { s with heap := h', toks := tk' }) :
    wpAny (model PR w) (ktrTop dp un gd cn cs L a ccd cl outer) (call (.ref 21) [.str x t]) Q E s := by
  rw [← parse_front hN, ← parse_note hN hT] at ret
  k_with_none
  w_on
  have hfill : hd.heap_39 = hd.heap_39 ∧ PySem.Challenge.rw_nk0013_01 = PySem.Challenge.rw_nk0013_01 := by (k_fill; exact ⟨rfl, rfl⟩)
  clear hfill
  refine wpAny_call ?_
  k_dflt cell_enter
  k_steps
  · exact ret _ _ _ _ _ (by assumption) (by assumption) (by assumption)
  · exact absurd (by assumption) (find_ne hN)
set_option maxRecDepth 100000 in
set_option maxHeartbeats 8000000 in
theorem parse_none {w : World} {mean : ExcName → Option Value} {mg mb : Str → Option Value} {dp un : Nat} {gd : Option (List Code)} {cn : Str} {cs : Scope} {a : Addr} {ccd : Value} {cl : List (Str × Addr)} {outer : List Env} {A₀ : Around} {base h₀ : Heap} {L : Addr}
    {m : Str → Option Value} {news : List (Addr × Obj)} {s : Shared} {Q E : Value → Shared → Prop} {x : Str} {t : Tok}
    (B : Below A₀ base outer h₀) (F : Fr h₀ L s.heap m) (X : (hd.heap_39 w.params).In h₀) (N : News h₀ L s.heap news) (T : Top hd.view_39 LO mean mg mb h₀) (hk : cs.kind = .function)
    (hdp : dp + 1 < recursionLimit) (hun : un + 8 < cLine)
    (hx : x.length ≤ 1000) (hT : Tame x) (hN : ¬ hasN x)
    (ret : ∀ D h' tk', Fr h₀ L h' m → News h₀ L h' ((D, ({ cls := .type "tuple", data := .seq #[.str x t, .none] } : Obj)) :: news) → (∀ p ∈ news, p.1 < D) → Q (.ref D) { s with heap := h', toks := tk' }) :
    wpAny (model PR w) (ktrTop dp un gd cn cs L a ccd cl outer) (call (.ref 21) [.str x t]) Q E s := by
  k_with_none
  w_on
  have hfill : hd.heap_39 = hd.heap_39 ∧ PySem.Challenge.rw_nk0013_01 = PySem.Challenge.rw_nk0013_01 := by (k_fill; exact ⟨rfl, rfl⟩)
  clear hfill
  refine wpAny_call ?_
  k_dflt cell_enter
  k_steps
  · exact absurd (find_none hN) (by assumption)
  · exact ret _ _ _ (by assumption) (by assumption) (by assumption)
end
section
local macro_rules | `(tactic| walk_at "call ref") => `(tactic| (k_here; k_dflt (refine' stripped_call ?k1 ?k2 ?k3 ?k4 ?k5 ?k6 ?k7 ?k8 ?k9 ?_; (case k1 => k_asm); (case k2 => k_asm); (case k3 => k_asm); (case k4 => k_asm); (case k5 => k_asm); (case k6 => first | exact rfl | assumption); (case k7 => ktr_room); (case k8 => ktr_units); (case k9 => omega); k_whole); intro _ _ _ _ _; (try dsimp only); (try k_fold)))
local macro_rules | `(tactic| walk_at "exec For Name Call cons nil") => `(tactic| (k_here; (rename Fr _ _ _ _ => lF'); (with_unfolding_all refine' For_invVF lF' ?k1 ?k2 ?_; (case k1 => exact rfl); (case k2 => exact rfl); k_whole)))
local macro_rules | `(tactic| walk_at "pyIter ref") => `(tactic| k_extra "pyIter ref")
theorem news_app {h₀ h : Heap} {L : Addr} {q : Addr × Obj} {l r : List (Addr × Obj)} (N : News h₀ L h (q :: (l ++ r))) : News h₀ L h (q :: l) := fun p hp => N p (by
  rcases List.mem_cons.mp hp with rfl | hp
  · exact .head _
  · exact .tail _ (List.mem_append_left _ hp))
theorem lt_app {d : Addr} {l r : List (Addr × Obj)} (h : ∀ p ∈ l ++ r, p.1 < d) : ∀ p ∈ l, p.1 < d := fun p hp => h p (List.mem_append_left _ hp)
set_option maxRecDepth 100000 in
set_option maxHeartbeats 8000000 in
theorem cut_some {w : World} {mean : ExcName → Option Value} {mg mb : Str → Option Value} {dp un : Nat} {gd : Option (List Code)} {cn : Str} {cs : Scope} {a : Addr} {ccd : Value} {cl : List (Str × Addr)} {outer : List Env} {A₀ : Around} {base h₀ : Heap} {L : Addr}
    {m : Str → Option Value} {news : List (Addr × Obj)} {s : Shared} {Q E : Value → Shared → Prop} {x : Str} {t : Tok}
    (B : Below A₀ base outer h₀) (F : Fr h₀ L s.heap m) (X : (hd.heap_39 w.params).In h₀) (N : News h₀ L s.heap news) (T : Top hd.view_39 LO mean mg mb h₀) (hk : cs.kind = .function)
    (hdp : dp + 2 < recursionLimit) (hun : un + 16 < cLine)
    (hx : x.length ≤ 1000) (hN : hasN x)
    (ret : ∀ D t1 t2 h' tk', Fr h₀ L h' m → News h₀ L h' ((D, ({ cls := .type "tuple", data := .seq #[.str (front x) t1, .str (note x) t2] } : Obj)) :: news) → (∀ p ∈ news, p.1 < D) → Q (.ref D) { s with heap := h', toks := tk' }) :
    wpAny (model PR w) (ktrTop dp un gd cn cs L a ccd cl outer) (call (.ref 60) [.str x t]) Q E s := by
  k_with_none
  w_on
  have hfill : hd.heap_39 = hd.heap_39 ∧ PySem.Challenge.rw_nk0013_01 = PySem.Challenge.rw_nk0013_01 := by (k_fill; exact ⟨rfl, rfl⟩)
  clear hfill
  refine wpAny_call ?_
  k_dflt cell_enter
  k_with "pyIter ref" => ((with_reducible show wpAny _ _ (pyIter (Value.ref _)) (fun it s₂ => LoopAtV _ _ _ _ _ _ _ _ _ it s₂) _ _); k_here; (rename Fr _ _ _ _ => lF'); (rename News _ _ _ _ => lN'); (rename IsRange _ _ _ _ _ _ _ _ => rgX); k_dflt ((with_unfolding_all refine' kst_range (σ := Unit) (fun _ => _) (fun _ => []) (fun _ => True) [] (fun pre _ => Before x pre) () (by rfl) rgX (by exact small_one (by omega) (by omega) (by omega) (by omega)) (by exact rangeSize_nat _ _) lF' lN' True.intro ?k0 ?kp ?_ ?_); (case k0 => (intro _ h9; exact (nomatch h9))); (case kp => (intro _ h9; exact (nomatch h9))); (first | intro _ kPre kN kT kU kH kTk kOwn kEq kLt kOff kFacts kInv kFr kNews | skip); (all_goals (try intro _ kU kH kTk kFacts kInv kFr kNews)); (all_goals (try k_fold))))
  k_with "state" => first | (intro _ h9; exact absurd h9 (Nat.not_lt_zero _)) | exact before_step (by assumption) (by assumption) (by assumption) (by assumption)
  k_steps
  · obtain ⟨e1, e2⟩ := cut_front (by assumption) (by assumption) (by assumption) (by assumption)
    rw [← e1, ← e2] at ret
    exact ret _ _ _ _ _ (by assumption) (news_app (by assumption)) (lt_app (by assumption))
  · (rename News _ _ _ _ => nE1); (refine kst_end () (by assumption) nE1 (by first | kst_in | kst_inAny) (by first | (intro p hp; kst_mem) | kst_anyIn) (by rfl) (by kst_facts) (by kst_all) (by intro z hz _ _; simp [hz]; rfl) (by kst_p))
  · exact absurd hN (before_all (by assumption))
set_option maxRecDepth 100000 in
set_option maxHeartbeats 8000000 in
theorem cut_none {w : World} {mean : ExcName → Option Value} {mg mb : Str → Option Value} {dp un : Nat} {gd : Option (List Code)} {cn : Str} {cs : Scope} {a : Addr} {ccd : Value} {cl : List (Str × Addr)} {outer : List Env} {A₀ : Around} {base h₀ : Heap} {L : Addr}
    {m : Str → Option Value} {news : List (Addr × Obj)} {s : Shared} {Q E : Value → Shared → Prop} {x : Str} {t : Tok}
    (B : Below A₀ base outer h₀) (F : Fr h₀ L s.heap m) (X : (hd.heap_39 w.params).In h₀) (N : News h₀ L s.heap news) (T : Top hd.view_39 LO mean mg mb h₀) (hk : cs.kind = .function)
    (hdp : dp + 2 < recursionLimit) (hun : un + 16 < cLine)
    (hx : x.length ≤ 1000) (hN : ¬ hasN x)
    (ret : ∀ D h' tk', Fr h₀ L h' m → News h₀ L h' ((D, ({ cls := .type "tuple", data := .seq #[.str x t, .none] } : Obj)) :: news) → (∀ p ∈ news, p.1 < D) → Q (.ref D) { s with heap := h', toks := tk' }) :
    wpAny (model PR w) (ktrTop dp un gd cn cs L a ccd cl outer) (call (.ref 60) [.str x t]) Q E s := by
  k_with_none
  w_on
  have hfill : hd.heap_39 = hd.heap_39 ∧ PySem.Challenge.rw_nk0013_01 = PySem.Challenge.rw_nk0013_01 := by (k_fill; exact ⟨rfl, rfl⟩)
  clear hfill
  refine wpAny_call ?_
  k_dflt cell_enter
  k_with "pyIter ref" => ((with_reducible show wpAny _ _ (pyIter (Value.ref _)) (fun it s₂ => LoopAtV _ _ _ _ _ _ _ _ _ it s₂) _ _); k_here; (rename Fr _ _ _ _ => lF'); (rename News _ _ _ _ => lN'); (rename IsRange _ _ _ _ _ _ _ _ => rgX); k_dflt ((with_unfolding_all refine' kst_range (σ := Unit) (fun _ => _) (fun _ => []) (fun _ => True) [] (fun pre _ => Before x pre) () (by rfl) rgX (by exact small_one (by omega) (by omega) (by omega) (by omega)) (by exact rangeSize_nat _ _) lF' lN' True.intro ?k0 ?kp ?_ ?_); (case k0 => (intro _ h9; exact (nomatch h9))); (case kp => (intro _ h9; exact (nomatch h9))); (first | intro _ kPre kN kT kU kH kTk kOwn kEq kLt kOff kFacts kInv kFr kNews | skip); (all_goals (try intro _ kU kH kTk kFacts kInv kFr kNews)); (all_goals (try k_fold))))
  k_with "state" => first | (intro _ h9; exact absurd h9 (Nat.not_lt_zero _)) | exact before_step (by assumption) (by assumption) (by assumption) (by assumption)
  k_steps
  · exact absurd (before_hit (by assumption) (by assumption) (by assumption) (by assumption)).2 hN
  · (rename News _ _ _ _ => nE1); (refine kst_end () (by assumption) nE1 (by first | kst_in | kst_inAny) (by first | (intro p hp; kst_mem) | kst_anyIn) (by rfl) (by kst_facts) (by kst_all) (by intro z hz _ _; simp [hz]; rfl) (by kst_p))
  · exact ret _ _ _ (by assumption) (by assumption) (by assumption)
end
section
def Halt (P : Prop) : Prop := P
theorem halt {P : Prop} (h : Halt P) : P := h
theorem UpdF.again {d : Addr} {o : Obj} {l : List (Addr × Obj)} {g : Obj → List (Addr × Obj)} (U : UpdF d o l g) (o' : Obj) : UpdF d o' (g o') g := by
  induction U with
  | head h => exact .head h
  | tail h _ ih => exact .tail h ih
section
variable {prog : Program} {w : World} {A : Around} {h₀ : Heap} {L : Addr} {m : Str → Option Value} {env : Env} {elt : PySem.Expr} {x : Str} {scope : Scope} {cl : List (Str × Addr)} {s : Shared} {S : List (Addr × Obj) → Prop} {P : Nat → Value → Prop} {Fin : List Value → List (Addr × Obj) → Prop} {news : List (Addr × Obj)}
theorem comp_rest {n : Nat} (J : Nat → List Value → List (Addr × Obj) → Prop) (hj : J 0 [] news)
    (turn : ∀ i ys nx v I oI C oC D m₂ h tk (E' : Value → Shared → Prop), i < n → J i ys nx → P i v → LCg.NsObj oC m₂ → m₂ x = some v → Fr h₀ L h m → News h₀ L h ((I, oI) :: (C, oC) :: (D, LCg.lst ys) :: nx) → LCg.Off3 I C D nx → ((@Ne Nat I C) ∧ (@Ne Nat I D) ∧ (@Ne Nat C D)) →
      wpAny (model prog w) A (eval elt (compEnvC scope cl C env)) (LCg.CompEnd h₀ L m { s with heap := h, toks := tk } I oI C oC D (LCg.lst ys) S (fun y nx' => J (i + 1) (ys ++ [y]) nx')) E' { s with heap := h, toks := tk })
    (fin : ∀ ys nx, J n ys nx → Fin ys nx) : LCg.CompRest prog w A h₀ L m env elt x scope cl s S P Fin n 0 [] news := by
  have key : ∀ (j i : Nat) (ys : List Value) (nx : List (Addr × Obj)), i + j = n → J i ys nx → LCg.CompRest prog w A h₀ L m env elt x scope cl s S P Fin j i ys nx := by
    intro j
    induction j with
    | zero =>
      intro i ys nx hi hJ
      have e : i = n := by omega
      subst e
      exact LCg.CompRest.zero (fin ys nx hJ)
    | succ j ih =>
      intro i ys nx hi hJ
      refine LCg.CompRest.succ ?_
      intro v I oI C oC D m₂ h tk E' hv hC hx F N off ne
      refine wpAny_mono (turn i ys nx v I oI C oC D m₂ h tk E' (by omega) hJ hv hC hx F N off ne) (fun y s₂ hq => ?_) fun _ _ e => e
      obtain ⟨h', tk', nw, e, F', N', off', hS, hJ'⟩ := hq
      exact ⟨h', tk', nw, e, F', N', off', hS, ih (i + 1) _ _ (by omega) hJ'⟩
  exact key n 0 [] news (by omega) hj
end
theorem all_ne {b d : Addr} {l : List (Addr × Obj)} (h : ∀ p ∈ l, p.1 < b) (hb : @LE.le Nat _ b d) : ∀ p ∈ l, p.1 ≠ d := fun p hp => Nat.ne_of_lt (Nat.lt_of_lt_of_le (h p hp) hb)
local macro_rules | `(tactic| k_all) => `(tactic| exact all_ne (by assumption) (by omega))
local macro_rules | `(tactic| k_mem) => `(tactic| exact UpdF.other (by assumption) (by assumption) (by assumption) _)
local macro_rules | `(tactic| k_mem) => `(tactic| exact UpdF.mem (UpdF.again (by assumption) _))
local macro_rules | `(tactic| k_mem) => `(tactic| assumption)
theorem off_upd {d I C D : Addr} {o o1 o2 : Obj} {l : List (Addr × Obj)} {g : Obj → List (Addr × Obj)} (U : UpdF d o l g) (h : LCg.Off3 I C D (g o1)) : LCg.Off3 I C D (g o2) := by
  induction U with
  | head _ => exact h
  | tail _ _ ih => exact ⟨h.1, ih h.2⟩
local macro_rules | `(tactic| k_updF) => `(tactic| assumption)
local macro_rules | `(tactic| k_updF) => `(tactic| exact UpdF.again (by assumption) _)
local macro_rules | `(tactic| walk_at "call ref") => `(tactic| (k_here; k_dflt (refine' next_call ?k1 ?k2 ?k3 ?k4 ?k5 ?k6 ?k7 ?k8 ?hn ?hi ?U ?hS ?hne ?n0 ?n1 ?hns ?k0 ?kk1 ?m0 ?m1 ?_; (case k1 => k_asm); (case k2 => k_asm); (case k3 => k_asm); (case k4 => k_asm); (case k5 => k_asm); (case k6 => first | exact rfl | assumption); (case k7 => ktr_room); (case k8 => ktr_units); (case U => k_updF); (case hi => assumption); (case hn => k_mem); (case hS => k_mem); (case hne => assumption); (case n0 => assumption); (case n1 => assumption); (case hns => assumption); (case k0 => omega); (case kk1 => omega); (case m0 => omega); (case m1 => omega); k_whole); intro _ _ _ _ _ _ _ _ _; (try dsimp only); (try k_fold)))
section
variable {prog : Program} {w : World} {A : Around} {E : Value → Shared → Prop} {s : Shared} {h₀ : Heap} {L : Addr} {news : List (Addr × Obj)}
theorem item_str {value slice : PySem.Expr} {l : Addr} {vs : List Value} {ws : List Str} {c : Nat} {k : Int} {u : Tok} {Q : Value → Shared → Prop} (N : News h₀ L s.heap news) (hm : (l, listOf vs.toArray c) ∈ news) (hw : StrsAre vs ws) (h0 : 0 ≤ k) (hk : k < ws.length) (hhi : k < 2 ^ 63)
    (h : ∀ y t, y ∈ ws → Q (.str y t) s)
    (hs : subscripted slice false (.ref l) (.int k u) = operate [.ref l, .int k u] (getItem (.ref l) (.int k u)) := by with_unfolding_all rfl) :
    wpAny (model prog w) A (subscriptTail value slice (.ref l) (.int k u)) Q E s := by
  refine KTb.item_list (PySem.IsL.isList (n := c) (N _ hm).1) hw h0 hk hhi (fun t' hlt => h _ t' ?_) hs
  rw [List.getD_eq_getElem?_getD, List.getElem?_eq_getElem hlt]
  exact List.getElem_mem hlt
theorem join_led {x : Str} {t : Tok} {D : Addr} {vs : List Value} {ws : List Str} {c : Nat} {Q : Value → Shared → Prop} (N : News h₀ L s.heap news) (hm : (D, listOf vs.toArray c) ∈ news) (hw : StrsAre vs ws) (hok : (ws.map (·.length)).sum + ws.length * x.length ≤ 16777216)
    (h : ∀ t' k, Q (.str (Txt.join x ws) t') { s with toks := k }) : wpAny (model prog w) A (call (.builtin "str.join") [.str x t, .ref D]) Q E s :=
  join_list (PySem.IsL.isList (n := c) (N _ hm).1) hw hok h
end
local macro_rules | `(tactic| walk_at "subscriptTail") => `(tactic| (k_here; (with_reducible show wpAny _ _ (subscriptTail _ _ (Value.ref _) (Value.int _ _)) _ _ _); k_dflt (refine' item_str ?N ?m ?i ?a ?k ?b ?_ ?s; (case N => k_asm); (case m => k_mem); (case i => assumption); (case a => omega); (case k => (first | omega | (show _ < ((6 : Nat) : Int); omega))); (case b => omega); (case s => with_unfolding_all rfl); k_whole; intro _ _ _)))
local macro_rules | `(tactic| walk_at "call builtin:str.join") => `(tactic| (k_here; (with_reducible show wpAny _ _ (call (Value.builtin "str.join") [Value.str _ _, Value.ref _]) _ _ _); k_dflt (refine' join_led ?N ?m ?i ?k ?_; (case N => k_asm); (case m => k_mem); (case i => assumption); (case k => exact code_sum (by assumption) (by omega)); k_whole; intro _ _)))
local macro_rules | `(tactic| walk_at "CompSrc") => `(tactic| refine halt ?_)
set_option maxRecDepth 100000 in
set_option maxHeartbeats 8000000 in
theorem text_call {w : World} {mean : ExcName → Option Value} {mg mb : Str → Option Value} {dp un : Nat} {gd : Option (List Code)} {cn : Str} {cs : Scope} {a : Addr} {ccd : Value} {cl : List (Str × Addr)} {outer : List Env} {A₀ : Around} {base h₀ : Heap} {L : Addr}
    {m : Str → Option Value} {news : List (Addr × Obj)} {g : Obj → List (Addr × Obj)} {s : Shared} {Q E : Value → Shared → Prop} {st nl : Addr} {ns : List Int} {vs : List Value} {nn c : Nat} {k : Int} {t tm : Tok}
    (B : Below A₀ base outer h₀) (F : Fr h₀ L s.heap m) (X : (hd.heap_39 w.params).In h₀) (N : News h₀ L s.heap news) (T : Top hd.view_39 LO mean mg mb h₀) (hk : cs.kind = .function)
    (hdp : dp + 2 < recursionLimit) (hun : un + 16 < cLine)
    (hn : (nl, listOf vs.toArray nn) ∈ news) (hi : IntsAre vs ns) (U : UpdF st (listOf #[.ref nl, .int k t] c) news g) (hS : (st, listOf #[.ref nl, .int k t] c) ∈ news)
    (hne : nl ≠ st) (n0 : 0 < ns.length) (n1 : ns.length ≤ 30) (hns : ∀ n ∈ ns, 0 ≤ n ∧ n < 1000003) (k0 : 0 ≤ k) (k1 : k ≤ 50)
    (ret : ∀ (x : Str) tr t' k' h' tk', Tame x → ¬ hasN x → x.length ≤ 12 → 0 ≤ k' → k' ≤ 56 → Fr h₀ L h' m → News h₀ L h' (g (listOf #[.ref nl, .int k' t'] c)) → Q (.str x tr) { s with heap := h', toks := tk' }) :
    wpAny (model PR w) (ktrTop dp un gd cn cs L a ccd cl outer) (call (.ref 46) [.ref st, .int 5 tm]) Q E s := by
  k_with_none
  w_on
  have hfill : hd.heap_39 = hd.heap_39 ∧ PySem.Challenge.rw_nk0013_01 = PySem.Challenge.rw_nk0013_01 := by (k_fill; exact ⟨rfl, rfl⟩)
  clear hfill
  refine wpAny_call ?_
  k_dflt (refine' code_defC ?k1 ?k2 ?k3 ?k4 ?k5 ?kA ?kF ?kK ?k6 ?k7 ?k8 ?k9 ?kB ?kD ?_ ?c2 ?c3 ?c4; (case kA => exact rfl); (case kF => exact rfl); (case kK => assumption); (case k1 => k_asm); (case k2 => k_asm); (case k3 => k_asm); (case k4 => k_asm); (case k5 => k_asm); (case k6 => k_is); (case k7 => k_is); (case k8 => ktr_room); (case k9 => exact BindsTo.of_eq rfl); (case kB => exact rfl); (case kD => decide +kernel); (case c2 => exact rfl); (case c3 => exact rfl); (case c4 => exact rfl); k_whole; intro g' L' h' tk' cells' FG' F' N' Y' B' X' T' l1; k_cells Y'; (try simp only [List.cons_append, List.nil_append] at N'); (try dsimp only); (try k_fold))
  have hst : @LT.lt Nat _ st L' := l1 _ hS
  have hnl : @LT.lt Nat _ nl L' := l1 _ hn
  k_steps
  rename_i oc1 oc2 dc1 dc2 sg hh3 ls hh2 oo FF1 NN1 dd r tr t1' hh1 tk1 r0 r1 FF0 NN0 hh0 tk0 rt ru rv RR FR NR GR
  obtain ⟨sv, hsv, NR'⟩ : ∃ sv : List Value, StrsAre sv SG ∧ News g' L' hh0 ((sg, listOf sv.toArray 0) :: (L' + 1 + 1, oo) :: (L' + 1, oc2) :: g (listOf #[.ref nl, .int (k + 1) t1'] c)) := by
    refine ⟨_, ?_, NR⟩
    unfold SG
    repeat (first | exact .nil | refine .cons _ _ ?_)
  unfold Halt
  refine LCg.CompSrc.range (by rfl) FR NR' RR (by exact small_one (by omega) (by omega) (by omega) (by omega)) (by exact rangeSize_nat _ _) (by rw [sizeLine_eq]; omega) ?_
  intro gg
  refine comp_rest (fun i ys nx => (∃ t', nx = (sg, listOf sv.toArray 0) :: (L' + 1 + 1, oo) :: (L' + 1, oc2) :: g (listOf #[.ref nl, .int (k + 1 + (i : Nat)) t'] c)) ∧ ∃ ws : List Str, StrsAre ys ws ∧ ws.length = i ∧ ∀ y ∈ ws, y ∈ SG) ⟨⟨t1', by simp⟩, [], .nil, rfl, by simp⟩ ?_ ?_
  · rintro i ys nx v I oI C oC D m₂ h tk E' hi' ⟨⟨t', rfl⟩, ws, hws, hwl, hin⟩ ⟨tv, rfl⟩ hC hx F N off ne
    simp only [LCg.Off3] at off
    obtain ⟨⟨a1, a2, a3⟩, ⟨b1, b2, b3⟩, ⟨c1, c2, c3⟩, offg⟩ := off
    obtain ⟨n1', n2', n3'⟩ := ne
    obtain ⟨e1, e2, e3⟩ : @Ne Nat st I ∧ @Ne Nat st C ∧ @Ne Nat st D := offg.mem _ (UpdF.mem (UpdF.again U _))
    obtain ⟨f1, f2, f3⟩ : @Ne Nat nl I ∧ @Ne Nat nl C ∧ @Ne Nat nl D := offg.mem _ (UpdF.other U hn hne _)
    k_steps
    rename_i r2 tr2 t2 h2 tk2 q0 q1 F2 N2 y ty hy
    refine LCg.CompEnd.intro F2 N2 _ (fun p hp => hp) ⟨⟨a1, a2, a3⟩, ⟨b1, b2, b3⟩, ⟨c1, c2, c3⟩, off_upd U offg⟩ True.intro ⟨⟨t2, ?_⟩, ws ++ [y], kct_snoc hws, by simp [hwl], ?_⟩
    · rw [show k + 1 + ((i + 1 : Nat) : Int) = k + 1 + (i : Int) + 1 by omega]
    · intro z hz
      rcases List.mem_append.mp hz with hz | hz
      · exact hin z hz
      · rw [List.mem_singleton.mp hz]; exact hy
  · rintro ys nx ⟨⟨t', rfl⟩, ws, hws, hwl, hin⟩
    k_steps
    rename News _ _ _ _ => nF
    obtain ⟨g1, g2, g3⟩ := code_facts hin (by omega)
    exact ret _ _ _ _ _ _ g1 g2 g3 (by omega) (by omega) (by assumption) (kst_newsOf nF fun p hp => .tail _ (.tail _ (.tail _ (.tail _ hp))))
end
section
section
variable {prog : Program} {w : World} {A : Around} {E : Value → Shared → Prop} {s : Shared} {env : Env} {h₀ : Heap} {x : Str} {body : List Stmt} {Q : Flow → Shared → Prop}
/-- a loop over a list of the call's own whose items are texts; the list itself must stand -/
theorem iter_texts {l : Addr} {vs : List Value} {ws : List Str} {nn : Nat} {m₀ : Str → Option Value} {news : List (Addr × Obj)} (J : Nat → (Str → Option Value) → List (Addr × Obj) → Prop)
    (hh : A.handled = none) (hl : (l, listOf vs.toArray nn) ∈ news) (hi : StrsAre vs ws) (F : Fr h₀ env.locals s.heap m₀) (N : News h₀ env.locals s.heap news) (hj : J 0 m₀ news)
    (turn : ∀ i y t m₁ nx h tk own, ws[i]? = some y → nx.map (·.1) = news.map (·.1) → OwnOff own (news.map (·.1)) → J i m₁ nx → Fr h₀ env.locals h (fun z => if z = x then some (.str y t) else m₁ z) → News h₀ env.locals h (nx ++ own) →
      wpAny (model prog w) A (execs body env) (InvPostN h₀ env.locals (J (i + 1)) own (news.map (·.1)) { s with heap := h, toks := tk } Q) E { s with heap := h, toks := tk })
    (stay : ∀ i m₁ nx, J i m₁ nx → (l, listOf vs.toArray nn) ∈ nx)
    (done : ∀ m₁ nx h tk, J ws.length m₁ nx → Fr h₀ env.locals h m₁ → News h₀ env.locals h nx → Q .next { s with heap := h, toks := tk }) :
    wpAny (model prog w) A (pyIter (.ref l)) (fun it s₂ => LoopAtV prog w A h₀ env x body Q E it s₂) E s := by
  have ho : s.heap.get? l = some (listOf vs.toArray nn) := (N _ hl).1
  have hil : s.heap.IsList l vs.toArray := PySem.IsL.isList (n := nn) ho
  have hlt := Heap.lt_size ho
  have hne : l ≠ s.heap.objs.size := Nat.ne_of_lt hlt
  have hlen : vs.toArray.size = ws.length := by rw [List.size_toArray, hi.length]
  refine wpAny_pyIter_list hil ?_
  have W := Walks.list (prog := prog) (w := w) hh s.heap.objs.size l hne vs.toArray
  rw [hlen] at W
  refine ⟨s.heap.objs.size, _, _, ws.length, _, _, m₀, news, fun i m nx => nx.map (·.1) = news.map (·.1) ∧ J i m nx, rfl, W, ?_, ?_, ?_, ⟨⟨_, Heap.get?_push_size _ rfl, rfl, rfl⟩, hil.at fun _ e => Heap.get?_push_of_some _ e⟩, F.push _, fun p hp => ⟨Heap.get?_push_of_some _ (N p hp).1, (N p hp).2⟩, ⟨rfl, hj⟩, ?_, ?_⟩
  · intro hm
    rcases List.mem_cons.mp hm with e | hm
    · have := F.ns.lt
      rw [e] at this
      exact Nat.lt_irrefl _ this
    · exact (N _ hl).2.1 (List.mem_singleton.mp hm).symm
  · intro b hb
    rw [List.mem_singleton.mp hb]
    exact next_is_new F
  · intro p hp hI
    have := Heap.lt_size (N p hp).1
    rw [List.mem_singleton.mp hI] at this
    exact Nat.lt_irrefl _ this
  · rintro i v m₁ nx s₁ own ⟨hh', tk', rfl⟩ hin hP ⟨hadr, hJ⟩ _ hown hget _ _ F₁ N₁
    have hmine : ∀ b ∈ news.map (·.1), b ≠ s.heap.objs.size := fun b hb e => by
      obtain ⟨q, hq, rfl⟩ := List.mem_map.mp hb
      have := Heap.lt_size (N q hq).1
      rw [e] at this
      exact Nat.lt_irrefl _ this
    obtain ⟨y, t, rfl, hy⟩ := hi.item i v (by simpa using hP)
    have hl₁ := stay i m₁ nx hJ
    have hsep : OwnOff (own.filter fun p => decide (p.1 = s.heap.objs.size)) (news.map (·.1)) := fun p hp b hb e =>
      hmine b hb (e ▸ of_decide_eq_true (List.mem_filter.mp hp).2)
    have N₂ : News h₀ env.locals hh' (nx ++ own.filter fun p => decide (p.1 = s.heap.objs.size)) := fun p hp => N₁ p (by
      rcases List.mem_append.mp hp with h | h
      · exact List.mem_append_right _ h
      · exact List.mem_append_left _ (List.mem_filter.mp h).1)
    have hlo : hh'.get? l = some (listOf vs.toArray nn) := (N₁ _ (List.mem_append_right _ hl₁)).1
    refine wpAny_mono (turn i y t m₁ nx hh' tk' _ hy hadr hsep hJ F₁ N₂) (fun f s₂ p => ?_) fun _ _ e => e
    have fin : InvEndN h₀ env.locals (J (i + 1)) (own.filter fun p => decide (p.1 = s.heap.objs.size)) (news.map (·.1)) { s with heap := hh', toks := tk' } s₂ →
        LoopStepU h₀ env.locals [s.heap.objs.size] own (fun m nx => nx.map (·.1) = news.map (·.1) ∧ J (i + 1) m nx) { s with heap := hh', toks := tk' } .next s₂ := by
      rintro ⟨h', tk, m', news', nx', e, F', N', hn, ho', ha, hm⟩
      refine ⟨rfl, h', tk, m', nx', e, F', fun p hp => ?_, fun p hp hI => ?_, ha, hm⟩
      · rcases List.mem_append.mp hp with h | h
        · by_cases hI : p.1 = s.heap.objs.size
          · exact N' p (ho' p (List.mem_filter.mpr ⟨h, decide_eq_true hI⟩))
          · have h1 : p.1 = l := by
              rcases List.mem_cons.mp (hown p h) with h2 | h2
              · exact absurd h2 hI
              · exact List.mem_singleton.mp h2
            have h2 := hget p h
            rw [h1, hlo] at h2
            have h3 : p = (l, listOf vs.toArray nn) := Prod.ext h1 (Option.some.inj h2).symm
            rw [h3]
            exact N' _ (hn _ (stay _ _ _ hm))
        · exact N' p (hn p h)
      · have h1 : p.1 ∈ news.map (·.1) := ha ▸ List.mem_map_of_mem hp
        exact hmine _ h1 (List.mem_singleton.mp hI)
    cases f with
    | ret v => exact .ret p
    | brk => exact .brk p
    | next => exact .next (fin p)
    | cont => exact .cont (fin p)
  · rintro h' tk m' nx F' N' _ ⟨_, hJ⟩
    exact done m' nx h' tk hJ F' N'

/-- each once, in their order -/
def onceStep (ds : List Str) (y : Str) : List Str := if (ds.any (· == y)) = true then ds else ds ++ [y]
def onceAll (ws : List Str) : List Str := ws.foldl onceStep []
/-- a loop that fills one list with the texts, each once -/
theorem iter_once {l d : Addr} {vs : List Value} {ws : List Str} {nn n0 : Nat} {m₀ : Str → Option Value} {news : List (Addr × Obj)} {g : Obj → List (Addr × Obj)} (U : UpdF d (listOf #[] n0) news g) (hld : l ≠ d)
    (hh : A.handled = none) (hl : (l, listOf vs.toArray nn) ∈ news) (hi : StrsAre vs ws) (F : Fr h₀ env.locals s.heap m₀) (N : News h₀ env.locals s.heap news)
    (turn : ∀ i y t us ds n (u : Str → Option Value) h tk own, y ∈ ws → ds.length ≤ i → i < ws.length → StrsAre us ds → (∀ z, z ≠ x → u z = m₀ z) → OwnOff own (news.map (·.1)) → UpdF d (listOf #[] n0) news g → Fr h₀ env.locals h (fun z => if z = x then some (.str y t) else m₀ z) → News h₀ env.locals h (g (listOf us.toArray n) ++ own) →
      wpAny (model prog w) A (execs body env) (InvPostN h₀ env.locals (fun m' nx => (∃ us' n', nx = g (listOf us'.toArray n') ∧ StrsAre us' (onceStep ds y)) ∧ ∀ z, z ≠ x → m' z = m₀ z) own (news.map (·.1)) { s with heap := h, toks := tk } Q) E { s with heap := h, toks := tk })
    (done : ∀ us n (u : Str → Option Value) h tk, StrsAre us (onceAll ws) → Fr h₀ env.locals h (fun z => if z = x then u z else m₀ z) → News h₀ env.locals h (g (listOf us.toArray n)) → Q .next { s with heap := h, toks := tk }) :
    wpAny (model prog w) A (pyIter (.ref l)) (fun it s₂ => LoopAtV prog w A h₀ env x body Q E it s₂) E s := by
  have hg : news = g (listOf #[] n0) := by
    clear hl N turn done
    induction U with
    | head _ => rfl
    | tail _ _ ih => exact congrArg _ ih
  have hstep : ∀ (ds : List Str) y, (onceStep ds y).length ≤ ds.length + 1 := fun ds y => by
    unfold onceStep
    split
    · omega
    · simp
  have hlen : ∀ i, ((ws.take i).foldl onceStep []).length ≤ i := by
    have key : ∀ (l : List Str) ds, (l.foldl onceStep ds).length ≤ ds.length + l.length := by
      intro l
      induction l with
      | nil => intro ds; simp
      | cons y r ih =>
        intro ds
        have h1 := ih (onceStep ds y)
        have h2 := hstep ds y
        simp only [List.foldl_cons, List.length_cons]
        omega
    intro i
    have := key (ws.take i) []
    simp only [List.length_nil, List.length_take] at this
    omega
  refine iter_texts (fun i m nx => (∃ us n, nx = g (listOf us.toArray n) ∧ StrsAre us ((ws.take i).foldl onceStep [])) ∧ ∀ z, z ≠ x → m z = m₀ z) hh hl hi F N ⟨⟨[], n0, hg, .nil⟩, fun _ _ => rfl⟩ ?_ ?_ ?_
  · rintro i y t m₁ nx h tk own hy _ hoff ⟨⟨us, n, rfl, hus⟩, hm⟩ F₁ N₁
    have hlt : i < ws.length := (List.getElem?_eq_some_iff.mp hy).1
    have hs : (ws.take (i + 1)).foldl onceStep [] = onceStep ((ws.take i).foldl onceStep []) y := by
      rw [List.take_add_one, hy]; simp
    rw [hs]
    have em : (fun z => if z = x then some (Value.str y t) else m₁ z) = fun z => if z = x then some (Value.str y t) else m₀ z := by
      funext z
      by_cases e : z = x
      · simp [e]
      · simp only [if_neg e]; exact hm z e
    rw [em] at F₁
    exact turn i y t us _ n m₁ h tk own (List.mem_of_getElem? hy) (hlen i) hlt hus hm hoff U F₁ N₁
  · rintro i m₁ nx ⟨⟨us, n, rfl, _⟩, _⟩
    exact UpdF.other U hl hld _
  · rintro m₁ nx h tk ⟨⟨us, n, rfl, hus⟩, hm⟩ F₁ N₁
    rw [List.take_length] at hus
    refine done us n m₁ h tk hus ?_ N₁
    have em : (fun z => if z = x then m₁ z else m₀ z) = m₁ := by
      funext z
      by_cases e : z = x
      · simp [e]
      · simp only [if_neg e]; exact (hm z e).symm
    rw [em]
    exact F₁
theorem step_mem {ds : List Str} {y z : Str} (h : z ∈ onceStep ds y) : z ∈ ds ∨ z = y := by
  unfold onceStep at h
  split at h
  · exact .inl h
  · rcases List.mem_append.mp h with h | h
    · exact .inl h
    · exact .inr (List.mem_singleton.mp h)
theorem once_memAux : ∀ (ws ds : List Str) (z : Str), z ∈ ws.foldl onceStep ds → z ∈ ds ∨ z ∈ ws
  | [], _, _, h => .inl h
  | y :: r, ds, z, h => by
    rcases once_memAux r (onceStep ds y) z h with q | q
    · rcases step_mem q with q | q
      · exact .inl q
      · exact .inr (q ▸ .head _)
    · exact .inr (.tail _ q)
theorem once_mem {ws : List Str} {z : Str} (h : z ∈ onceAll ws) : z ∈ ws := (once_memAux ws [] z h).resolve_left (fun q => nomatch q)
theorem once_lenAux : ∀ (ws ds : List Str), (ws.foldl onceStep ds).length ≤ ds.length + ws.length
  | [], _ => Nat.le_refl _
  | y :: r, ds => by
    have h1 := once_lenAux r (onceStep ds y)
    have h2 : (onceStep ds y).length ≤ ds.length + 1 := by
      unfold onceStep
      split
      · omega
      · simp
    simp only [List.foldl_cons, List.length_cons]
    omega
theorem once_len (ws : List Str) : (onceAll ws).length ≤ ws.length := by
  have := once_lenAux ws []
  simpa [onceAll] using this
theorem semi_len : (Str.ofString "; ").length = 2 := by decide +kernel
theorem once_sum {ws : List Str} (h4 : ws.length ≤ 4) (hs : ∀ y ∈ ws, y.length ≤ 4) : ((onceAll ws).map (·.length)).sum + (onceAll ws).length * (Str.ofString "; ").length ≤ 16777216 := by
  have h1 := sum_len (b := 4) (ys := onceAll ws) fun y hy => hs y (once_mem hy)
  have h2 := once_len ws
  rw [semi_len]
  omega
theorem once_join {ws : List Str} (h4 : ws.length ≤ 4) (hs : ∀ y ∈ ws, y.length ≤ 4) : (Txt.join (Str.ofString "; ") (onceAll ws)).length ≤ 24 := by
  have h1 := join_len (sep := Str.ofString "; ") (b := 4) (ys := onceAll ws) fun y hy => hs y (once_mem hy)
  have h2 := once_len ws
  rw [join_is]
  rw [semi_len] at h1
  omega
theorem front_len (x : Str) : (front x).length ≤ x.length := by
  rw [← toL_len, ← toL_len]
  unfold front
  rw [toL_ofL]
  exact cutf_le _
theorem front_tame {x : Str} (h : Tame x) : Tame (front x) := h.sub fun _ hc => (List.takeWhile_sublist _).subset hc
theorem once_old {ds : List Str} {y : Str} (h : (ds.any fun x => x == y) = true) : onceStep ds y = ds := if_pos h
theorem once_new {ds : List Str} {y : Str} (h : (ds.any fun x => x == y) = false) : onceStep ds y = ds ++ [y] := if_neg (by rw [h]; exact Bool.false_ne_true)
theorem push_list (us : List Value) (v : Value) (n : Nat) : listOf (us.toArray.push v) n = listOf (us ++ [v]).toArray n := by rw [List.push_toArray]
theorem len_zero {x : Str} : x.length = 0 ↔ x = Str.ofString "" := by
  constructor
  · intro h
    rw [nil_of h]
    decide +kernel
  · intro h
    rw [h]
    decide +kernel
theorem put_some {b p j : Str} (h : (j.length : Int) ≠ 0) : Str.empty ++ b ++ p ++ Str.ofString " " ++ j = b ++ p ++ (if j = Str.ofString "" then Str.ofString "" else Str.ofString " " ++ j) := by
  rw [if_neg (fun e => h (by rw [len_zero.mpr e]; rfl)), Str.empty_append, Str.append_assoc]
theorem empty_is : Str.ofString "" = Str.empty := by decide +kernel
theorem append_empty (x : Str) : x ++ Str.ofString "" = x := by
  apply toL_inj
  rw [toL_app, show toL (Str.ofString "") = [] from by decide +kernel, List.append_nil]
theorem put_none {b p j : Str} (h : (j.length : Int) = 0) : Str.empty ++ b ++ p = b ++ p ++ (if j = Str.ofString "" then Str.ofString "" else Str.ofString " " ++ j) := by
  rw [if_pos (len_zero.mp (by omega)), Str.empty_append, append_empty]
theorem upd_own {d : Addr} {o : Obj} {l own : List (Addr × Obj)} {g : Obj → List (Addr × Obj)} (U : UpdF d o l g) (ho : OwnOff own (l.map (·.1))) (o1 o2 : Obj) : Upd d o1 o2 (g o1 ++ own) (g o2 ++ own) := by
  have hd : ∀ p ∈ own, p.1 ≠ d := ho.ne (List.mem_map_of_mem (UpdF.mem U))
  clear ho
  induction U with
  | @head r h =>
    refine .head fun p hp => ?_
    rcases List.mem_append.mp hp with hp | hp
    · exact h p hp
    · exact hd p hp
  | tail h _ ih => exact .tail h ih
theorem mem_own {d : Addr} {o : Obj} {l own : List (Addr × Obj)} {g : Obj → List (Addr × Obj)} (U : UpdF d o l g) (o1 : Obj) : (d, o1) ∈ g o1 ++ own := List.mem_append_left _ (UpdF.mem (UpdF.again U o1))
theorem map_upd {d : Addr} {o : Obj} {l : List (Addr × Obj)} {g : Obj → List (Addr × Obj)} (U : UpdF d o l g) (o1 : Obj) : (g o1).map (·.1) = l.map (·.1) := by
  induction U with
  | head _ => rfl
  | @tail p r g' _ _ ih => exact congrArg (p.1 :: ·) ih
theorem notin_led {l : Addr} {vs : List Value} {ds : List Str} {c : Nat} {k : Str} {t : Tok} {L : Addr} {news : List (Addr × Obj)} {Q : Value → Shared → Prop} (N : News h₀ L s.heap news) (hm : (l, listOf vs.toArray c) ∈ news) (hi : StrsAre vs ds)
    (h : Q (.bool (!(ds.any (· == k)))) s) : wpAny (model prog w) A (compareOp .NotIn (.str k t) (.ref l)) Q E s := notin_list_strs (PySem.IsL.isList (n := c) (N _ hm).1) hi h
theorem truthy_led {l : Addr} {vs : List Value} {ds : List Str} {c : Nat} {L : Addr} {news : List (Addr × Obj)} {Q : Bool → Shared → Prop} (N : News h₀ L s.heap news) (hm : (l, listOf vs.toArray c) ∈ news) (hi : StrsAre vs ds) (hl : ds.length ≤ 1000)
    (h : Q (decide (0 < ds.length)) { s with toks := s.toks + 1 + 1 }) : wpAny (model prog w) A (truthy (.ref l)) Q E s :=
  wpAny_truthy_list (PySem.IsL.isList (n := c) (N _ hm).1) (by rw [List.size_toArray, hi.length]; omega) (by
    have e : (!vs.toArray.isEmpty) = decide (0 < ds.length) := by
      rw [← hi.length, Bool.eq_iff_iff, decide_eq_true_eq]
      cases vs <;> simp
    rw [e]
    exact h)
end
end
section
local macro_rules | `(tactic| walk_at "call ref") => `(tactic| (k_here; k_dflt (refine' parse_some ?k1 ?k2 ?k3 ?k4 ?k5 ?k6 ?k7 ?k8 ?k9 ?kt ?kn ?_; (case k1 => k_asm); (case k2 => k_asm); (case k3 => k_asm); (case k4 => k_asm); (case k5 => k_asm); (case k6 => first | exact rfl | assumption); (case kn => assumption); (case kt => assumption); (case k7 => ktr_room); (case k8 => ktr_units); (case k9 => first | assumption | omega); k_whole); intro _ _ _ _ _ _ _ _; (try dsimp only); (try k_fold)))
local macro_rules | `(tactic| walk_at "call ref") => `(tactic| (k_here; k_dflt (refine' parse_none ?k1 ?k2 ?k3 ?k4 ?k5 ?k6 ?k7 ?k8 ?k9 ?kt ?kn ?_; (case k1 => k_asm); (case k2 => k_asm); (case k3 => k_asm); (case k4 => k_asm); (case k5 => k_asm); (case k6 => first | exact rfl | assumption); (case kn => assumption); (case kt => assumption); (case k7 => ktr_room); (case k8 => ktr_units); (case k9 => first | assumption | omega); k_whole); intro _ _ _ _ _ _; (try dsimp only); (try k_fold)))
local macro_rules | `(tactic| k_mem) => `(tactic| exact mem_own (by assumption) _)
local macro_rules | `(tactic| k_mem) => `(tactic| assumption)
local macro_rules | `(tactic| k_mem) => `(tactic| (refine List.Mem.tail _ ?_; assumption))
local macro_rules | `(tactic| k_all) => `(tactic| exact all_ne (by assumption) (Nat.le_refl _))
local macro_rules | `(tactic| k_upd) => `(tactic| ((rename (∀ (o1 o2 : Obj), Upd _ o1 o2 _ _) => hU9); exact hU9 _ _))
local macro_rules | `(tactic| size_fits) => `(tactic| assumption)
local macro_rules | `(tactic| walk_at "truthy ref") => `(tactic| (k_here; (with_reducible show wpAny _ _ (truthy (Value.ref _)) _ _ _); k_dflt (refine' truthy_led ?N ?m ?i ?k ?_; (case N => k_asm); (case m => k_mem); (case i => assumption); (case k => omega); k_whole)))
local macro_rules | `(tactic| walk_at "compareOp NotIn str ref") => `(tactic| (k_here; k_dflt (refine' notin_led ?N ?m ?i ?_; (case N => k_asm); (case m => k_mem); (case i => assumption); k_whole)))
local macro_rules | `(tactic| walk_at "call builtin:str.join") => `(tactic| (k_here; k_dflt ((show wpAny _ _ (call (Value.builtin "str.join") [Value.str _ _, Value.ref _]) _ _ _); refine' join_led ?N ?m ?i ?k ?_; (case N => k_asm); (case m => k_mem); (case i => assumption); (case k => exact once_sum (by assumption) (by assumption)); k_whole; intro _ _)))
local macro_rules | `(tactic| walk_at "call builtin:list.append") => `(tactic| (k_here; k_dflt ((show wpAny _ _ (call (Value.builtin "list.append") [Value.ref _, Value.str _ _]) _ _ _); refine' append_K ?k1 ?k2 ?k3 ?_ ?z; (case k1 => k_asm); (case k2 => k_asm); (case k3 => k_upd); (case z => size_fits); k_whole); intro h' F' N'; (try k_sweep)))
local macro_rules | `(tactic| walk_at "exec For Name Name cons nil") => `(tactic| (k_here; (rename Fr _ _ _ _ => lF'); (with_unfolding_all refine' For_invVF lF' ?k1 ?k2 ?_; (case k1 => exact rfl); (case k2 => exact rfl); k_whole)))
local macro_rules | `(tactic| walk_at "pyIter ref") => `(tactic| ((with_reducible show wpAny _ _ (pyIter (Value.ref _)) (fun it s₂ => LoopAtV _ _ _ _ _ _ _ _ _ it s₂) _ _); refine halt ?_))
set_option maxRecDepth 100000 in
set_option maxHeartbeats 8000000 in
theorem add_some {w : World} {mean : ExcName → Option Value} {mg mb : Str → Option Value} {dp un : Nat} {gd : Option (List Code)} {cn : Str} {cs : Scope} {a : Addr} {ccd : Value} {cl : List (Str × Addr)} {outer : List Env} {A₀ : Around} {base h₀ : Heap} {L : Addr}
    {m : Str → Option Value} {news : List (Addr × Obj)} {s : Shared} {Q E : Value → Shared → Prop} {l : Addr} {vs : List Value} {ws : List Str} {nn : Nat} {x p : Str} {t tp : Tok}
    (B : Below A₀ base outer h₀) (F : Fr h₀ L s.heap m) (X : (hd.heap_39 w.params).In h₀) (N : News h₀ L s.heap news) (T : Top hd.view_39 LO mean mg mb h₀) (hk : cs.kind = .function)
    (hdp : dp + 2 < recursionLimit) (hun : un + 16 < cLine)
    (hm : (l, listOf vs.toArray nn) ∈ news) (hw : StrsAre vs ws) (h0 : 0 < ws.length) (h4 : ws.length ≤ 4) (hs : ∀ y ∈ ws, y.length ≤ 4)
    (hx : x.length ≤ 100) (hT : Tame x) (hN : hasN x) (hp : p.length ≤ 10)
    (ret : ∀ tr h' tk', Fr h₀ L h' m → News h₀ L h' news → Q (.str (rstrp (front x) ++ p ++ (if Txt.join (Str.ofString "; ") (onceAll ws) = Str.ofString "" then Str.ofString "" else Str.ofString " " ++ Txt.join (Str.ofString "; ") (onceAll ws))) tr) { s with heap := h', toks := tk' }) :
    wpAny (model PR w) (ktrTop dp un gd cn cs L a ccd cl outer) (call (.ref 29) [.ref l, .str x t] [(Str.ofString "comment_prefix", .str p tp)]) Q E s := by
  k_with_none
  w_on
  have hfill : hd.heap_39 = hd.heap_39 ∧ PySem.Challenge.rw_nk0013_01 = PySem.Challenge.rw_nk0013_01 := by (k_fill; exact ⟨rfl, rfl⟩)
  clear hfill
  refine wpAny_call ?_
  k_dflt (refine' code_def ?k1 ?k2 ?k3 ?k4 ?k5 ?kA ?kF ?kK ?k6 ?k7 ?k8 ?k9 ?kB ?_ ?c2 ?c3 ?c4 ?c5; (case kA => exact rfl); (case kF => exact rfl); (case kK => assumption); (case k1 => k_asm); (case k2 => k_asm); (case k3 => k_asm); (case k4 => k_asm); (case k5 => k_asm); (case k6 => k_is); (case k7 => k_is); (case k8 => ktr_room); (case k9 => first | exact BindsTo.of_eq rfl | exact binds_K (by k_in) rfl (by k_is) rfl rfl rfl); (case c5 => decide); (case kB => exact locs rfl); (case c2 => exact rfl); (case c3 => exact rfl); (case c4 => exact rfl); k_whole; intro g' L' h' FG' F' N' B' X' T'; (try dsimp only); (try k_lift B'); (try k_fold))
  have hj := once_join h4 hs
  have hfl := front_len x
  have hft := front_tame hT
  k_steps
  rename_i od hh1 l1 hh2 lF NN
  unfold Halt
  have U : UpdF od (listOf #[] 0) ((od, listOf #[] 0) :: news) (fun o' => (od, o') :: news) := .head (fun p hp => Nat.ne_of_lt (l1 p hp))
  have hld : l ≠ od := Nat.ne_of_lt (l1 _ hm)
  refine iter_once U hld (by rfl) (.tail _ hm) hw (by assumption) NN ?_ ?_
  · intro i y ty us ds n u h tk own hy hdl hil hus hu hoff U' F1 N1
    have hU : ∀ o1 o2 : Obj, Upd od o1 o2 (((od, o1) :: news) ++ own) (((od, o2) :: news) ++ own) := fun o1 o2 => upd_own U hoff o1 o2
    have hfit : us.toArray.size ≤ sizeLine := by rw [List.size_toArray, hus.length, sizeLine_eq]; omega
    k_steps
    · refine InvEndN.intro (nx := (od, listOf us.toArray n) :: news) (by assumption) (by assumption) ⟨⟨us, n, rfl, by rw [once_old (by assumption)]; exact hus⟩, fun z hz => if_neg hz⟩ rfl (fun p hp => List.mem_append_left _ hp) (fun p hp => List.mem_append_right _ hp)
    · refine InvEndN.intro (nx := (od, listOf (us ++ [Value.str y ty]).toArray (n + 1)) :: news) (by assumption) (by rw [← push_list us (Value.str y ty)]; assumption) ⟨⟨us ++ [Value.str y ty], n + 1, rfl, by rw [once_new (by assumption)]; exact kct_snoc hus⟩, fun z hz => if_neg hz⟩ rfl (fun p hp => List.mem_append_left _ hp) (fun p hp => List.mem_append_right _ hp)
  · intro us n u h tk hus F1 N1
    rw [← rstrip_tame hft] at ret
    k_steps
    · rw [put_some (by assumption)]
      rename News h₀ _ _ _ => nF
      exact ret _ _ _ (by assumption) (kst_newsOf nF fun p hp => .tail _ (.tail _ hp))
    · rw [put_none (by assumption)]
      rename News h₀ _ _ _ => nF
      exact ret _ _ _ (by assumption) (kst_newsOf nF fun p hp => .tail _ (.tail _ hp))
set_option maxRecDepth 100000 in
set_option maxHeartbeats 8000000 in
theorem add_none {w : World} {mean : ExcName → Option Value} {mg mb : Str → Option Value} {dp un : Nat} {gd : Option (List Code)} {cn : Str} {cs : Scope} {a : Addr} {ccd : Value} {cl : List (Str × Addr)} {outer : List Env} {A₀ : Around} {base h₀ : Heap} {L : Addr}
    {m : Str → Option Value} {news : List (Addr × Obj)} {s : Shared} {Q E : Value → Shared → Prop} {l : Addr} {vs : List Value} {ws : List Str} {nn : Nat} {x p : Str} {t tp : Tok}
    (B : Below A₀ base outer h₀) (F : Fr h₀ L s.heap m) (X : (hd.heap_39 w.params).In h₀) (N : News h₀ L s.heap news) (T : Top hd.view_39 LO mean mg mb h₀) (hk : cs.kind = .function)
    (hdp : dp + 2 < recursionLimit) (hun : un + 16 < cLine)
    (hm : (l, listOf vs.toArray nn) ∈ news) (hw : StrsAre vs ws) (h0 : 0 < ws.length) (h4 : ws.length ≤ 4) (hs : ∀ y ∈ ws, y.length ≤ 4)
    (hx : x.length ≤ 100) (hT : Tame x) (hN : ¬ hasN x) (hp : p.length ≤ 10)
    (ret : ∀ tr h' tk', Fr h₀ L h' m → News h₀ L h' news → Q (.str (x ++ p ++ (if Txt.join (Str.ofString "; ") (onceAll ws) = Str.ofString "" then Str.ofString "" else Str.ofString " " ++ Txt.join (Str.ofString "; ") (onceAll ws))) tr) { s with heap := h', toks := tk' }) :
    wpAny (model PR w) (ktrTop dp un gd cn cs L a ccd cl outer) (call (.ref 29) [.ref l, .str x t] [(Str.ofString "comment_prefix", .str p tp)]) Q E s := by
  k_with_none
  w_on
  have hfill : hd.heap_39 = hd.heap_39 ∧ PySem.Challenge.rw_nk0013_01 = PySem.Challenge.rw_nk0013_01 := by (k_fill; exact ⟨rfl, rfl⟩)
  clear hfill
  refine wpAny_call ?_
  k_dflt (refine' code_def ?k1 ?k2 ?k3 ?k4 ?k5 ?kA ?kF ?kK ?k6 ?k7 ?k8 ?k9 ?kB ?_ ?c2 ?c3 ?c4 ?c5; (case kA => exact rfl); (case kF => exact rfl); (case kK => assumption); (case k1 => k_asm); (case k2 => k_asm); (case k3 => k_asm); (case k4 => k_asm); (case k5 => k_asm); (case k6 => k_is); (case k7 => k_is); (case k8 => ktr_room); (case k9 => first | exact BindsTo.of_eq rfl | exact binds_K (by k_in) rfl (by k_is) rfl rfl rfl); (case c5 => decide); (case kB => exact locs rfl); (case c2 => exact rfl); (case c3 => exact rfl); (case c4 => exact rfl); k_whole; intro g' L' h' FG' F' N' B' X' T'; (try dsimp only); (try k_lift B'); (try k_fold))
  have hj := once_join h4 hs
  have hfl := front_len x
  have hft := front_tame hT
  k_steps
  rename_i od hh1 l1 hh2 lF NN
  unfold Halt
  have U : UpdF od (listOf #[] 0) ((od, listOf #[] 0) :: news) (fun o' => (od, o') :: news) := .head (fun p hp => Nat.ne_of_lt (l1 p hp))
  have hld : l ≠ od := Nat.ne_of_lt (l1 _ hm)
  refine iter_once U hld (by rfl) (.tail _ hm) hw (by assumption) NN ?_ ?_
  · intro i y ty us ds n u h tk own hy hdl hil hus hu hoff U' F1 N1
    have hU : ∀ o1 o2 : Obj, Upd od o1 o2 (((od, o1) :: news) ++ own) (((od, o2) :: news) ++ own) := fun o1 o2 => upd_own U hoff o1 o2
    have hfit : us.toArray.size ≤ sizeLine := by rw [List.size_toArray, hus.length, sizeLine_eq]; omega
    k_steps
    · refine InvEndN.intro (nx := (od, listOf us.toArray n) :: news) (by assumption) (by assumption) ⟨⟨us, n, rfl, by rw [once_old (by assumption)]; exact hus⟩, fun z hz => if_neg hz⟩ rfl (fun p hp => List.mem_append_left _ hp) (fun p hp => List.mem_append_right _ hp)
    · refine InvEndN.intro (nx := (od, listOf (us ++ [Value.str y ty]).toArray (n + 1)) :: news) (by assumption) (by rw [← push_list us (Value.str y ty)]; assumption) ⟨⟨us ++ [Value.str y ty], n + 1, rfl, by rw [once_new (by assumption)]; exact kct_snoc hus⟩, fun z hz => if_neg hz⟩ rfl (fun p hp => List.mem_append_left _ hp) (fun p hp => List.mem_append_right _ hp)
  · intro us n u h tk hus F1 N1
    k_steps
    · rw [put_some (by assumption)]
      rename News h₀ _ _ _ => nF
      exact ret _ _ _ (by assumption) (kst_newsOf nF fun p hp => .tail _ (.tail _ hp))
    · rw [put_none (by assumption)]
      rename News h₀ _ _ _ => nF
      exact ret _ _ _ (by assumption) (kst_newsOf nF fun p hp => .tail _ (.tail _ hp))
set_option maxRecDepth 100000 in
set_option maxHeartbeats 8000000 in
theorem off_some {w : World} {mean : ExcName → Option Value} {mg mb : Str → Option Value} {dp un : Nat} {gd : Option (List Code)} {cn : Str} {cs : Scope} {a : Addr} {ccd : Value} {cl : List (Str × Addr)} {outer : List Env} {A₀ : Around} {base h₀ : Heap} {L : Addr}
    {m : Str → Option Value} {news : List (Addr × Obj)} {s : Shared} {Q E : Value → Shared → Prop} {l : Addr} {x p : Str} {t tp : Tok}
    (B : Below A₀ base outer h₀) (F : Fr h₀ L s.heap m) (X : (hd.heap_39 w.params).In h₀) (N : News h₀ L s.heap news) (T : Top hd.view_39 LO mean mg mb h₀) (hk : cs.kind = .function)
    (hdp : dp + 2 < recursionLimit) (hun : un + 16 < cLine)
    (hx : x.length ≤ 100) (hT : Tame x) (hN : hasN x)
    (ret : ∀ tr h' tk', Fr h₀ L h' m → News h₀ L h' news → Q (.str (front x) tr) { s with heap := h', toks := tk' }) :
    wpAny (model PR w) (ktrTop dp un gd cn cs L a ccd cl outer) (call (.ref 29) [.ref l, .str x t, .bool true, .str p tp]) Q E s := by
  k_with_none
  w_on
  have hfill : hd.heap_39 = hd.heap_39 ∧ PySem.Challenge.rw_nk0013_01 = PySem.Challenge.rw_nk0013_01 := by (k_fill; exact ⟨rfl, rfl⟩)
  clear hfill
  refine wpAny_call ?_
  k_dflt (refine' code_def ?k1 ?k2 ?k3 ?k4 ?k5 ?kA ?kF ?kK ?k6 ?k7 ?k8 ?k9 ?kB ?_ ?c2 ?c3 ?c4 ?c5; (case kA => exact rfl); (case kF => exact rfl); (case kK => assumption); (case k1 => k_asm); (case k2 => k_asm); (case k3 => k_asm); (case k4 => k_asm); (case k5 => k_asm); (case k6 => k_is); (case k7 => k_is); (case k8 => ktr_room); (case k9 => first | exact BindsTo.of_eq rfl | exact binds_K (by k_in) rfl (by k_is) rfl rfl rfl); (case c5 => decide); (case kB => exact locs rfl); (case c2 => exact rfl); (case c3 => exact rfl); (case c4 => exact rfl); k_whole; intro g' L' h' FG' F' N' B' X' T'; (try dsimp only); (try k_lift B'); (try k_fold))
  k_steps
  rename News h₀ _ _ _ => nF
  exact ret _ _ _ (by assumption) (news_tail nF)
set_option maxRecDepth 100000 in
set_option maxHeartbeats 8000000 in
theorem off_none {w : World} {mean : ExcName → Option Value} {mg mb : Str → Option Value} {dp un : Nat} {gd : Option (List Code)} {cn : Str} {cs : Scope} {a : Addr} {ccd : Value} {cl : List (Str × Addr)} {outer : List Env} {A₀ : Around} {base h₀ : Heap} {L : Addr}
    {m : Str → Option Value} {news : List (Addr × Obj)} {s : Shared} {Q E : Value → Shared → Prop} {l : Addr} {x p : Str} {t tp : Tok}
    (B : Below A₀ base outer h₀) (F : Fr h₀ L s.heap m) (X : (hd.heap_39 w.params).In h₀) (N : News h₀ L s.heap news) (T : Top hd.view_39 LO mean mg mb h₀) (hk : cs.kind = .function)
    (hdp : dp + 2 < recursionLimit) (hun : un + 16 < cLine)
    (hx : x.length ≤ 100) (hT : Tame x) (hN : ¬ hasN x)
    (ret : ∀ tr h' tk', Fr h₀ L h' m → News h₀ L h' news → Q (.str x tr) { s with heap := h', toks := tk' }) :
    wpAny (model PR w) (ktrTop dp un gd cn cs L a ccd cl outer) (call (.ref 29) [.ref l, .str x t, .bool true, .str p tp]) Q E s := by
  k_with_none
  w_on
  have hfill : hd.heap_39 = hd.heap_39 ∧ PySem.Challenge.rw_nk0013_01 = PySem.Challenge.rw_nk0013_01 := by (k_fill; exact ⟨rfl, rfl⟩)
  clear hfill
  refine wpAny_call ?_
  k_dflt (refine' code_def ?k1 ?k2 ?k3 ?k4 ?k5 ?kA ?kF ?kK ?k6 ?k7 ?k8 ?k9 ?kB ?_ ?c2 ?c3 ?c4 ?c5; (case kA => exact rfl); (case kF => exact rfl); (case kK => assumption); (case k1 => k_asm); (case k2 => k_asm); (case k3 => k_asm); (case k4 => k_asm); (case k5 => k_asm); (case k6 => k_is); (case k7 => k_is); (case k8 => ktr_room); (case k9 => first | exact BindsTo.of_eq rfl | exact binds_K (by k_in) rfl (by k_is) rfl rfl rfl); (case c5 => decide); (case kB => exact locs rfl); (case c2 => exact rfl); (case c3 => exact rfl); (case c4 => exact rfl); k_whole; intro g' L' h' FG' F' N' B' X' T'; (try dsimp only); (try k_lift B'); (try k_fold))
  k_steps
  rename News h₀ _ _ _ => nF
  exact ret _ _ _ (by assumption) (news_tail nF)
set_option maxRecDepth 100000 in
set_option maxHeartbeats 8000000 in
theorem add_nothing {w : World} {mean : ExcName → Option Value} {mg mb : Str → Option Value} {dp un : Nat} {gd : Option (List Code)} {cn : Str} {cs : Scope} {a : Addr} {ccd : Value} {cl : List (Str × Addr)} {outer : List Env} {A₀ : Around} {base h₀ : Heap} {L : Addr}
    {m : Str → Option Value} {news : List (Addr × Obj)} {s : Shared} {Q E : Value → Shared → Prop} {x : Str} {t : Tok}
    (B : Below A₀ base outer h₀) (F : Fr h₀ L s.heap m) (X : (hd.heap_39 w.params).In h₀) (N : News h₀ L s.heap news) (T : Top hd.view_39 LO mean mg mb h₀) (hk : cs.kind = .function)
    (hdp : dp + 2 < recursionLimit) (hun : un + 16 < cLine)
    (hx : x.length ≤ 100)
    (ret : ∀ tr h' tk', Fr h₀ L h' m → News h₀ L h' news → Q (.str x tr) { s with heap := h', toks := tk' }) :
    wpAny (model PR w) (ktrTop dp un gd cn cs L a ccd cl outer) (call (.ref 29) [.none, .str x t]) Q E s := by
  k_with_none
  w_on
  have hfill : hd.heap_39 = hd.heap_39 ∧ PySem.Challenge.rw_nk0013_01 = PySem.Challenge.rw_nk0013_01 := by (k_fill; exact ⟨rfl, rfl⟩)
  clear hfill
  refine wpAny_call ?_
  k_dflt (refine' code_def ?k1 ?k2 ?k3 ?k4 ?k5 ?kA ?kF ?kK ?k6 ?k7 ?k8 ?k9 ?kB ?_ ?c2 ?c3 ?c4 ?c5; (case kA => exact rfl); (case kF => exact rfl); (case kK => assumption); (case k1 => k_asm); (case k2 => k_asm); (case k3 => k_asm); (case k4 => k_asm); (case k5 => k_asm); (case k6 => k_is); (case k7 => k_is); (case k8 => ktr_room); (case k9 => first | exact BindsTo.of_eq rfl | exact binds_K (by k_in) rfl (by k_is) rfl rfl rfl); (case c5 => decide); (case kB => exact locs rfl); (case c2 => exact rfl); (case c3 => exact rfl); (case c4 => exact rfl); k_whole; intro g' L' h' FG' F' N' B' X' T'; (try dsimp only); (try k_lift B'); (try k_fold))
  k_steps
  exact ret _ _ _ (by assumption) (by assumption)
set_option maxRecDepth 100000 in
set_option maxHeartbeats 8000000 in
theorem add_empty {w : World} {mean : ExcName → Option Value} {mg mb : Str → Option Value} {dp un : Nat} {gd : Option (List Code)} {cn : Str} {cs : Scope} {a : Addr} {ccd : Value} {cl : List (Str × Addr)} {outer : List Env} {A₀ : Around} {base h₀ : Heap} {L : Addr}
    {m : Str → Option Value} {news : List (Addr × Obj)} {s : Shared} {Q E : Value → Shared → Prop} {l : Addr} {vs : List Value} {nn : Nat} {x : Str} {t : Tok}
    (B : Below A₀ base outer h₀) (F : Fr h₀ L s.heap m) (X : (hd.heap_39 w.params).In h₀) (N : News h₀ L s.heap news) (T : Top hd.view_39 LO mean mg mb h₀) (hk : cs.kind = .function)
    (hdp : dp + 2 < recursionLimit) (hun : un + 16 < cLine)
    (hm : (l, listOf vs.toArray nn) ∈ news) (hw : StrsAre vs []) (hx : x.length ≤ 100)
    (ret : ∀ tr h' tk', Fr h₀ L h' m → News h₀ L h' news → Q (.str x tr) { s with heap := h', toks := tk' }) :
    wpAny (model PR w) (ktrTop dp un gd cn cs L a ccd cl outer) (call (.ref 29) [.ref l, .str x t]) Q E s := by
  k_with_none
  w_on
  have hfill : hd.heap_39 = hd.heap_39 ∧ PySem.Challenge.rw_nk0013_01 = PySem.Challenge.rw_nk0013_01 := by (k_fill; exact ⟨rfl, rfl⟩)
  clear hfill
  refine wpAny_call ?_
  k_dflt (refine' code_def ?k1 ?k2 ?k3 ?k4 ?k5 ?kA ?kF ?kK ?k6 ?k7 ?k8 ?k9 ?kB ?_ ?c2 ?c3 ?c4 ?c5; (case kA => exact rfl); (case kF => exact rfl); (case kK => assumption); (case k1 => k_asm); (case k2 => k_asm); (case k3 => k_asm); (case k4 => k_asm); (case k5 => k_asm); (case k6 => k_is); (case k7 => k_is); (case k8 => ktr_room); (case k9 => first | exact BindsTo.of_eq rfl | exact binds_K (by k_in) rfl (by k_is) rfl rfl rfl); (case c5 => decide); (case kB => exact locs rfl); (case c2 => exact rfl); (case c3 => exact rfl); (case c4 => exact rfl); k_whole; intro g' L' h' FG' F' N' B' X' T'; (try dsimp only); (try k_lift B'); (try k_fold))
  have hz : ([] : List Str).length ≤ 1000 := Nat.zero_le _
  k_steps
  all_goals first | exact ret _ _ _ (by assumption) (by assumption) | skip
set_option maxRecDepth 100000 in
set_option maxHeartbeats 8000000 in
theorem add_emptyK {w : World} {mean : ExcName → Option Value} {mg mb : Str → Option Value} {dp un : Nat} {gd : Option (List Code)} {cn : Str} {cs : Scope} {a : Addr} {ccd : Value} {cl : List (Str × Addr)} {outer : List Env} {A₀ : Around} {base h₀ : Heap} {L : Addr}
    {m : Str → Option Value} {news : List (Addr × Obj)} {s : Shared} {Q E : Value → Shared → Prop} {l : Addr} {vs : List Value} {nn : Nat} {x p : Str} {t tp : Tok}
    (B : Below A₀ base outer h₀) (F : Fr h₀ L s.heap m) (X : (hd.heap_39 w.params).In h₀) (N : News h₀ L s.heap news) (T : Top hd.view_39 LO mean mg mb h₀) (hk : cs.kind = .function)
    (hdp : dp + 2 < recursionLimit) (hun : un + 16 < cLine)
    (hm : (l, listOf vs.toArray nn) ∈ news) (hw : StrsAre vs []) (hx : x.length ≤ 100)
    (ret : ∀ tr h' tk', Fr h₀ L h' m → News h₀ L h' news → Q (.str x tr) { s with heap := h', toks := tk' }) :
    wpAny (model PR w) (ktrTop dp un gd cn cs L a ccd cl outer) (call (.ref 29) [.ref l, .str x t] [(Str.ofString "comment_prefix", .str p tp)]) Q E s := by
  k_with_none
  w_on
  have hfill : hd.heap_39 = hd.heap_39 ∧ PySem.Challenge.rw_nk0013_01 = PySem.Challenge.rw_nk0013_01 := by (k_fill; exact ⟨rfl, rfl⟩)
  clear hfill
  refine wpAny_call ?_
  k_dflt (refine' code_def ?k1 ?k2 ?k3 ?k4 ?k5 ?kA ?kF ?kK ?k6 ?k7 ?k8 ?k9 ?kB ?_ ?c2 ?c3 ?c4 ?c5; (case kA => exact rfl); (case kF => exact rfl); (case kK => assumption); (case k1 => k_asm); (case k2 => k_asm); (case k3 => k_asm); (case k4 => k_asm); (case k5 => k_asm); (case k6 => k_is); (case k7 => k_is); (case k8 => ktr_room); (case k9 => first | exact BindsTo.of_eq rfl | exact binds_K (by k_in) rfl (by k_is) rfl rfl rfl); (case c5 => decide); (case kB => exact locs rfl); (case c2 => exact rfl); (case c3 => exact rfl); (case c4 => exact rfl); k_whole; intro g' L' h' FG' F' N' B' X' T'; (try dsimp only); (try k_lift B'); (try k_fold))
  have hz : ([] : List Str).length ≤ 1000 := Nat.zero_le _
  k_steps
  all_goals first | exact ret _ _ _ (by assumption) (by assumption) | skip
end
section
def TLs : List Str := [Str.ofString "", Str.ofString "#", Str.ofString "  # one", Str.ofString "#two # three"]
def PLs : List Str := [Str.ofString "one", Str.ofString "two", Str.ofString "noqa", Str.ofString "", Str.ofString "x y"]
def PFs : List Str := [Str.ofString "  #", Str.ofString " #", Str.ofString "#"]
def TlP (y : Str) : Prop := y.length ≤ 12 ∧ Tame y
def PlP (y : Str) : Prop := y.length ≤ 4 ∧ Tame y
def PfP (p : Str) : Prop := p.length ≤ 3 ∧ Tame p ∧ toL p = (toL p).dropLast ++ [35] ∧ 35 ∉ (toL p).dropLast
theorem tl_all : ∀ y ∈ TLs, TlP y := by
  have h : ∀ y ∈ TLs, y.length ≤ 12 ∧ ∀ c ∈ toL y, 32 ≤ c ∧ c < 128 := by decide +kernel
  exact h
theorem pl_all : ∀ y ∈ PLs, PlP y := by
  have h : ∀ y ∈ PLs, y.length ≤ 4 ∧ ∀ c ∈ toL y, 32 ≤ c ∧ c < 128 := by decide +kernel
  exact h
theorem pf_all : ∀ y ∈ PFs, PfP y := by
  have h : ∀ y ∈ PFs, y.length ≤ 3 ∧ (∀ c ∈ toL y, 32 ≤ c ∧ c < 128) ∧ toL y = (toL y).dropLast ++ [35] ∧ 35 ∉ (toL y).dropLast := by decide +kernel
  exact h
section
variable {prog : Program} {w : World} {A : Around} {E : Value → Shared → Prop} {s : Shared} {h₀ : Heap} {L : Addr} {news : List (Addr × Obj)}
theorem item_P {value slice : PySem.Expr} {l : Addr} {vs : List Value} {ws : List Str} {P : Str → Prop} (hP : ∀ y ∈ ws, P y) {c : Nat} {k : Int} {u : Tok} {Q : Value → Shared → Prop} (N : News h₀ L s.heap news) (hm : (l, listOf vs.toArray c) ∈ news) (hw : StrsAre vs ws) (h0 : 0 ≤ k) (hk : k < ws.length) (hhi : k < 2 ^ 63)
    (h : ∀ y t, P y → Q (.str y t) s)
    (hs : subscripted slice false (.ref l) (.int k u) = operate [.ref l, .int k u] (getItem (.ref l) (.int k u)) := by with_unfolding_all rfl) :
    wpAny (model prog w) A (subscriptTail value slice (.ref l) (.int k u)) Q E s := item_str N hm hw h0 hk hhi (fun y t hy => h y t (hP y hy)) hs
end
theorem add_whole {prog : Program} {w : World} {A : Around} {E : Value → Shared → Prop} {s : Shared} {x y : Str} {t u : Tok} {Q : Value → Shared → Prop} (hx : Tame x) (lx : x.length ≤ 12) (hy : TlP y)
    (h : ∀ z t' k, Tame z → z.length ≤ 24 → Q (.str z t') { s with toks := k }) : wpAny (model prog w) A (binaryOp .Add (.str x t) (.str y u)) Q E s := by
  have ly := hy.1
  refine KOpn.add (by omega) fun t' k _ => h _ t' k (hx.app hy.2) ?_
  rw [len_app]
  omega
section
variable {prog : Program} {w : World} {A : Around} {E : Value → Shared → Prop} {s : Shared} {h₀ : Heap} {L : Addr} {news : List (Addr × Obj)}
theorem ne_two {a b : Str} {t1 t2 t3 t4 : Tok} {D1 D2 : Addr} {Q : Value → Shared → Prop} (N : News h₀ L s.heap news) (m1 : (D1, ({ cls := .type "tuple", data := .seq #[.str a t1, .str b t2] } : Obj)) ∈ news) (m2 : (D2, ({ cls := .type "tuple", data := .seq #[.str a t3, .str b t4] } : Obj)) ∈ news) (hu : A.units < cLine)
    (h : Q (.bool false) s) : wpAny (model prog w) A (compareOp .NotEq (.ref D1) (.ref D2)) Q E s :=
  SeqAt.RcNeAt.tuples (e := fun _ => true) ⟨_, (N _ m1).1, rfl, 0, rfl⟩ ⟨_, (N _ m2).1, rfl, 0, rfl⟩ hu (fun j h1 h2 => match j, h1, h2 with
    | 0, _, _ => by have := SeqAt.EqAt.str_str (A := A.in1) (s := s) a t1 a t3; rwa [beq_self_eq_true] at this
    | 1, _, _ => by have := SeqAt.EqAt.str_str (A := A.in1) (s := s) b t2 b t4; rwa [beq_self_eq_true] at this
    | n + 2, h1, _ => absurd h1 (by simp)) prog w E Q h
theorem ne_one {a : Str} {t1 t3 : Tok} {D1 D2 : Addr} {Q : Value → Shared → Prop} (N : News h₀ L s.heap news) (m1 : (D1, ({ cls := .type "tuple", data := .seq #[.str a t1, .none] } : Obj)) ∈ news) (m2 : (D2, ({ cls := .type "tuple", data := .seq #[.str a t3, .none] } : Obj)) ∈ news) (hu : A.units < cLine)
    (h : Q (.bool false) s) : wpAny (model prog w) A (compareOp .NotEq (.ref D1) (.ref D2)) Q E s :=
  SeqAt.RcNeAt.tuples (e := fun _ => true) ⟨_, (N _ m1).1, rfl, 0, rfl⟩ ⟨_, (N _ m2).1, rfl, 0, rfl⟩ hu (fun j h1 h2 => match j, h1, h2 with
    | 0, _, _ => by have := SeqAt.EqAt.str_str (A := A.in1) (s := s) a t1 a t3; rwa [beq_self_eq_true] at this
    | 1, _, _ => SeqAt.EqAt.same .none
    | n + 2, h1, _ => absurd h1 (by simp)) prog w E Q h
theorem eq_nil {l b : Addr} {vs : List Value} {ws : List Str} {c c2 : Nat} {Q : Value → Shared → Prop} (N : News h₀ L s.heap news) (m1 : (l, listOf vs.toArray c) ∈ news) (m2 : (b, listOf #[] c2) ∈ news) (hw : StrsAre vs ws) (hu : A.units < cLine)
    (h : Q (.bool (decide (ws.length = 0))) s) : wpAny (model prog w) A (compareOp .Eq (.ref l) (.ref b)) Q E s := by
  have i1 := PySem.IsL.isList (n := c) (N _ m1).1
  have i2 := PySem.IsL.isList (n := c2) (N _ m2).1
  have hl := hw.length
  by_cases e : ws.length = 0
  · have ev : vs = [] := List.eq_nil_of_length_eq_zero (by omega)
    subst ev
    refine SeqAt.eq_listAt (e := fun _ => true) i1 i2 rfl hu (fun j h1 _ => absurd h1 (by simp)) ?_
    rw [decide_eq_true e] at h
    exact h
  · refine SeqAt.eq_list_lengthsAt i1 i2 (by simp; intro ev; rw [ev] at hl; exact e (by simpa using hl.symm)) hu ?_
    rw [decide_eq_false e] at h
    exact h
end
section
variable {prog : Program} {w : World} {A : Around} {h₀ : Heap} {L : Addr} {m : Str → Option Value} {env : Env} {elt : PySem.Expr} {x : Str} {scope : Scope} {cl : List (Str × Addr)} {s₁ : Shared} {Fin : Shared → List Value → List (Addr × Obj) → Prop} {news : List (Addr × Obj)}
theorem upd_self {d : Addr} {o : Obj} {l : List (Addr × Obj)} {g : Obj → List (Addr × Obj)} (U : UpdF d o l g) : l = g o := by
  induction U with
  | head _ => rfl
  | tail _ _ ih => exact congrArg _ ih
theorem comp_draws {st nl rr : Addr} {g : Obj → List (Addr × Obj)} {k r : Int} {t t₀ u₀ v₀ : Tok} {c : Nat} (W : Str → Prop) (hh : A.handled = none) (F : Fr h₀ L s₁.heap m) (N : News h₀ L s₁.heap news)
    (hS : (st, listOf #[.ref nl, .int k t] c) ∈ news) (U : UpdF st (listOf #[.ref nl, .int k t] c) news g) (hr : IsRange s₁.heap rr 0 r 1 t₀ u₀ v₀) (r0 : 0 ≤ r) (r1 : r < 5)
    (turn : ∀ (i : Nat) ys t' I oI C oC D m₂ (s : Shared) h tk (E' : Value → Shared → Prop), (i : Int) < r → LCg.NsObj oC m₂ → Fr h₀ L h m → News h₀ L h ((I, oI) :: (C, oC) :: (D, LCg.lst ys) :: g (listOf #[.ref nl, .int (k + (i : Int)) t'] c)) → LCg.Off3 I C D (g (listOf #[.ref nl, .int (k + (i : Int)) t'] c)) → ((@Ne Nat I C) ∧ (@Ne Nat I D) ∧ (@Ne Nat C D)) →
      wpAny (model prog w) A (eval elt (compEnvC scope cl C env)) (LCg.CompEnd h₀ L m { s with heap := h, toks := tk } I oI C oC D (LCg.lst ys) (fun _ => True) (fun y nx' => (∃ t'', nx' = g (listOf #[.ref nl, .int (k + (i : Int) + 1) t''] c)) ∧ ∃ z tz, y = .str z tz ∧ W z)) E' { s with heap := h, toks := tk })
    (fin : ∀ g' ys ws t', StrsAre ys ws → (ws.length : Int) = r → (∀ z ∈ ws, W z) → Fin { s₁ with heap := g' } ys (g (listOf #[.ref nl, .int (k + r) t'] c))) :
    LCg.CompSrc prog w A h₀ L m env elt x scope cl Fin (.ref rr) s₁ := by
  refine LCg.CompSrc.range hh F N hr (small_one (by omega) (by omega) (by omega) (by omega)) (rangeSize_nat _ _) (by rw [sizeLine_eq]; omega) fun gg => ?_
  refine comp_rest (fun i ys nx => (∃ t', nx = g (listOf #[.ref nl, .int (k + (i : Nat)) t'] c)) ∧ ∃ ws : List Str, StrsAre ys ws ∧ ws.length = i ∧ ∀ z ∈ ws, W z) ⟨⟨t, by rw [show k + ((0 : Nat) : Int) = k by omega]; exact upd_self U⟩, [], .nil, rfl, fun _ h => nomatch h⟩ ?_ ?_
  · rintro i ys nx v I oI C oC D m₂ h tk E' hi' ⟨⟨t', rfl⟩, ws, hws, hwl, hin⟩ ⟨tv, rfl⟩ hC hx F' N' off ne
    refine wpAny_mono (turn i ys t' I oI C oC D m₂ _ h tk E' (by omega) hC F' N' off ne) (fun y s₂ hq => ?_) fun _ _ e => e
    obtain ⟨h', tk', nw, e, F9, N9, off', hS', ⟨t'', rfl⟩, z, tz, rfl, hz⟩ := hq
    refine ⟨h', tk', _, e, F9, N9, off', hS', ⟨t'', ?_⟩, ws ++ [z], kct_snoc hws, by simp [hwl], fun q hq => ?_⟩
    · rw [show k + ((i + 1 : Nat) : Int) = k + (i : Int) + 1 by omega]
    · rcases List.mem_append.mp hq with hq | hq
      · exact hin q hq
      · rw [List.mem_singleton.mp hq]; exact hz
  · rintro ys nx ⟨⟨t', rfl⟩, ws, hws, hwl, hin⟩
    have e : (((r - 0).toNat : Nat) : Int) = r := by omega
    rw [e]
    exact fin gg ys ws t' hws (by omega) hin
end
theorem strs_nil {vs : List Value} {ws : List Str} (h : StrsAre vs ws) (e : ws.length = 0) : StrsAre vs [] := by
  have : ws = [] := List.eq_nil_of_length_eq_zero e
  rwa [this] at h
theorem st3 {x t0 : Str} (h : (Txt.slice x (some (-1)) none == Str.ofString " ") = true) (i1 : rst (toL x) = rst (toL t0)) (i2 : x.length ≤ t0.length) : rst (toL (Txt.slice x none (some (-1)))) = rst (toL t0) ∧ (Txt.slice x none (some (-1))).length ≤ t0.length := by
  have := rst_step h
  exact ⟨this.2.1.trans i1, by omega⟩
theorem add_ok {prog : Program} {w : World} {A : Around} {E : Value → Shared → Prop} {s : Shared} {x y : Str} {t u : Tok} {Q : Value → Shared → Prop} (lx : x.length ≤ 10000) (ly : y.length ≤ 10000)
    (h : ∀ t' k, (x ++ y).length = x.length + y.length → Q (.str (x ++ y) t') { s with toks := k }) : wpAny (model prog w) A (binaryOp .Add (.str x t) (.str y u)) Q E s :=
  KOpn.add (by omega) fun t' k _ => h t' k (len_app x y)
theorem pf_len {p : Str} (h : PfP p) : p.length ≤ 10000 := Nat.le_trans h.1 (by decide)
section
variable {h₀ H : Heap} {L : Addr} {a b c d e f g h i j : Addr × Obj}
theorem trim7 (N : News h₀ L H [a, b, c, d, e, f, g]) : News h₀ L H [a, b, f, g] := kst_newsOf N fun p hp => by
  simp only [List.mem_cons, List.not_mem_nil, or_false] at hp ⊢
  rcases hp with rfl | rfl | rfl | rfl <;> simp
theorem trim10 (N : News h₀ L H [a, b, c, d, e, f, g, h, i, j]) : News h₀ L H [a, b, g, h, j] := kst_newsOf N fun p hp => by
  simp only [List.mem_cons, List.not_mem_nil, or_false] at hp ⊢
  rcases hp with rfl | rfl | rfl | rfl | rfl <;> simp
theorem trim6 (N : News h₀ L H [a, b, c, d, e, f]) : News h₀ L H [b, c] := kst_newsOf N fun p hp => by
  simp only [List.mem_cons, List.not_mem_nil, or_false] at hp ⊢
  rcases hp with rfl | rfl <;> simp
end
def Flag1 : Prop := True
theorem item_PF {prog : Program} {w : World} {A : Around} {E : Value → Shared → Prop} {s : Shared} {h₀ : Heap} {L : Addr} {news : List (Addr × Obj)} {value slice : PySem.Expr} {l : Addr} {vs : List Value} {c : Nat} {k : Int} {u : Tok} {Q : Value → Shared → Prop} (N : News h₀ L s.heap news) (hm : (l, listOf vs.toArray c) ∈ news) (hw : StrsAre vs PFs) (h0 : 0 ≤ k) (hk : k < PFs.length) (hhi : k < 2 ^ 63)
    (h : ∀ y t, PfP y → y.length ≤ 3 → Q (.str y t) s)
    (hs : subscripted slice false (.ref l) (.int k u) = operate [.ref l, .int k u] (getItem (.ref l) (.int k u)) := by with_unfolding_all rfl) :
    wpAny (model prog w) A (subscriptTail value slice (.ref l) (.int k u)) Q E s := item_P pf_all N hm hw h0 hk hhi (fun y t hy => h y t hy hy.1) hs
theorem rst_sub {l : List Nat} {c : Nat} (h : c ∈ rst l) : c ∈ l := by
  unfold rst at h
  exact List.mem_reverse.mp ((List.dropWhile_sublist _).subset (List.mem_reverse.mp h))
theorem rstrp_tame {x : Str} (h : Tame x) : Tame (rstrp x) := h.sub fun _ hc => rst_sub hc
theorem rstrp_len (x : Str) : (rstrp x).length ≤ x.length := by
  rw [← toL_len, ← toL_len]
  unfold rstrp
  rw [toL_ofL]
  unfold rst
  rw [List.length_reverse]
  have := (List.dropWhile_sublist sp (l := (toL x).reverse)).length_le
  rwa [List.length_reverse] at this
theorem cutf_no (l : List Nat) : 35 ∉ cutf l := fun h => by
  have : ∀ l : List Nat, 35 ∈ cutf l → False := by
    intro l
    induction l with
    | nil => intro h; exact nomatch h
    | cons a r ih =>
      intro h
      unfold cutf at h
      rw [List.takeWhile_cons] at h
      split at h
      · rename_i q
        rcases List.mem_cons.mp h with e | e
        · rw [← e] at q; exact absurd q (by decide)
        · exact ih e
      · exact nomatch h
  exact this l h
theorem rstrp_no (z : Str) : ¬ hasN (rstrp (front z)) := fun h => by
  unfold hasN rstrp at h
  rw [toL_ofL] at h
  have h' := rst_sub h
  unfold front at h'
  rw [toL_ofL] at h'
  exact cutf_no _ h'
theorem cutf_app : ∀ {l r : List Nat}, 35 ∉ l → cutf (l ++ 35 :: r) = l
  | [], _, _ => rfl
  | a :: t, r, h => by
    have ha : (a != 35) = true := by
      have : a ≠ 35 := fun e => h (e ▸ .head _)
      simpa using this
    show ((a :: (t ++ 35 :: r)).takeWhile (· != 35)) = a :: t
    rw [List.takeWhile_cons, if_pos ha]
    exact congrArg _ (cutf_app fun q => h (.tail _ q))
theorem cuta_app {l r : List Nat} (h : 35 ∉ l) : cuta (l ++ 35 :: r) = r := by
  unfold cuta
  rw [cutf_app h]
  induction l with
  | nil => rfl
  | cons a t ih => exact ih fun q => h (.tail _ q)
theorem strp_blank (x : Str) : strp (Str.ofString " " ++ x) = strp x := by
  unfold strp
  rw [toL_app, blank]
  rfl
/-- what is put behind the mark -/
noncomputable def tailOf (j : Str) : Str := if j = Str.ofString "" then Str.ofString "" else Str.ofString " " ++ j
theorem tail_strp (j : Str) : strp (tailOf j) = strp j := by
  unfold tailOf
  split
  · rename_i h; rw [h]
  · exact strp_blank j
theorem note_made {b p j : Str} (hb : ¬ hasN b) (hp : PfP p) : hasN (b ++ p ++ tailOf j) ∧ note (b ++ p ++ tailOf j) = strp j := by
  have e : toL (b ++ p ++ tailOf j) = (toL b ++ (toL p).dropLast) ++ 35 :: toL (tailOf j) := by
    rw [toL_app, toL_app, hp.2.2.1]
    simp [List.append_assoc]
  have hn : 35 ∉ toL b ++ (toL p).dropLast := fun q => (List.mem_append.mp q).elim hb hp.2.2.2
  refine ⟨?_, ?_⟩
  · unfold hasN
    rw [e]
    simp
  · unfold note
    rw [e, cuta_app hn, ofL_toL, tail_strp]
theorem tame_lit (x : Str) (h : ∀ c ∈ toL x, 32 ≤ c ∧ c < 128 := by decide +kernel) : Tame x := h
theorem tail_tame {j : Str} (h : Tame j) : Tame (tailOf j) := by
  unfold tailOf
  split
  · exact tame_lit (Str.ofString "")
  · exact (tame_lit (Str.ofString " ")).app h
theorem join_tame {ws : List Str} (hin : ∀ y ∈ ws, PlP y) : Tame (Txt.join (Str.ofString "; ") (onceAll ws)) := by
  rw [join_is]
  intro c hc
  rcases join_mem hc with q | ⟨y, hy, q⟩
  · have t : Tame (Str.ofString "; ") := tame_lit (Str.ofString "; "); exact t c q
  · exact (hin y (once_mem hy)).2 c q
def MadeOk (x j : Str) : Prop := (Tame x ∧ hasN x ∧ note x = strp j) ∧ x.length ≤ 1000
theorem made_of {b p : Str} {ws : List Str} (hT : Tame b) (hb : ¬ hasN b) (hl : b.length ≤ 24) (hp : PfP p) (h4 : ws.length ≤ 4) (hin : ∀ y ∈ ws, PlP y) :
    MadeOk (b ++ p ++ tailOf (Txt.join (Str.ofString "; ") (onceAll ws))) (Txt.join (Str.ofString "; ") (onceAll ws)) := by
  have hj := once_join h4 fun y hy => (hin y hy).1
  obtain ⟨h1, h2⟩ := note_made (j := Txt.join (Str.ofString "; ") (onceAll ws)) hb hp
  refine ⟨⟨(hT.app hp.2.1).app (tail_tame (join_tame hin)), h1, h2⟩, ?_⟩
  have hp1 := hp.1
  have ht : (tailOf (Txt.join (Str.ofString "; ") (onceAll ws))).length ≤ 25 := by
    unfold tailOf
    split
    · decide +kernel
    · rw [len_app, show (Str.ofString " ").length = 1 from by decide +kernel]; omega
  rw [len_app, len_app]
  omega
theorem made_some {z p : Str} {ws : List Str} (hT : Tame z) (hl : z.length ≤ 24) (hp : PfP p) (h4 : ws.length ≤ 4) (hin : ∀ y ∈ ws, PlP y) : MadeOk (rstrp (front z) ++ p ++ tailOf (Txt.join (Str.ofString "; ") (onceAll ws))) (Txt.join (Str.ofString "; ") (onceAll ws)) :=
  made_of (b := rstrp (front z)) (p := p) (ws := ws) (rstrp_tame (front_tame hT)) (rstrp_no z) (Nat.le_trans (rstrp_len _) (Nat.le_trans (front_len z) hl)) hp h4 hin
theorem made_none {z p : Str} {ws : List Str} (hT : Tame z) (hN : ¬ hasN z) (hl : z.length ≤ 24) (hp : PfP p) (h4 : ws.length ≤ 4) (hin : ∀ y ∈ ws, PlP y) : MadeOk (z ++ p ++ tailOf (Txt.join (Str.ofString "; ") (onceAll ws))) (Txt.join (Str.ofString "; ") (onceAll ws)) :=
  made_of (b := z) (p := p) (ws := ws) hT hN hl hp h4 hin
theorem front_done {f z : Str} (h : (Txt.slice f (some (-1)) none == Str.ofString " ") = false) (i1 : rst (toL f) = rst (toL (front z))) : f = rstrp (front z) := by
  apply toL_inj
  unfold rstrp
  rw [toL_ofL, ← i1, rst_done h]
theorem bad_text {f b p j : Str} (e : f = b) (hj : (j != Str.ofString "") = true) (h : ((b ++ p ++ if j = Str.ofString "" then Str.ofString "" else Str.ofString " " ++ j) != f ++ p ++ (Str.ofString " " ++ j)) = true) : False := by
  rw [if_neg (by simpa using hj), e] at h
  simp at h
theorem bad_none {f b p j : Str} (e : f = b) (hj : (j != Str.ofString "") = false) (h : ((b ++ p ++ if j = Str.ofString "" then Str.ofString "" else Str.ofString " " ++ j) != f ++ p ++ Str.ofString "") = true) : False := by
  rw [if_pos (by simpa using hj), e] at h
  simp at h
theorem parse_made {w : World} {mean : ExcName → Option Value} {mg mb : Str → Option Value} {dp un : Nat} {gd : Option (List Code)} {cn : Str} {cs : Scope} {a : Addr} {ccd : Value} {cl : List (Str × Addr)} {outer : List Env} {A₀ : Around} {base h₀ : Heap} {L : Addr}
    {m : Str → Option Value} {news : List (Addr × Obj)} {s : Shared} {Q E : Value → Shared → Prop} {x j : Str} {t : Tok}
    (B : Below A₀ base outer h₀) (F : Fr h₀ L s.heap m) (X : (hd.heap_39 w.params).In h₀) (N : News h₀ L s.heap news) (T : Top hd.view_39 LO mean mg mb h₀) (hk : cs.kind = .function)
    (hdp : dp + 1 < recursionLimit) (hun : un + 8 < cLine)
    (hM : Tame x ∧ hasN x ∧ note x = strp j) (hx : x.length ≤ 1000)
    (ret : ∀ D t1 t2 h' tk', Fr h₀ L h' m → News h₀ L h' ((D, ({ cls := .type "tuple", data := .seq #[.str (front x) t1, .str (strp j) t2] } : Obj)) :: news) → (∀ p ∈ news, p.1 < D) → Q (.ref D) { s with heap := h', toks := tk' }) :
    wpAny (model PR w) (ktrTop dp un gd cn cs L a ccd cl outer) (call (.ref 21) [.str x t]) Q E s :=
  parse_some B F X N T hk hdp hun hx hM.1 hM.2.1 fun D t1 t2 h' tk' F' N' l => ret D t1 t2 h' tk' F' (hM.2.2 ▸ N') l
theorem strs_TL (t1 t2 t3 t4 : Tok) : StrsAre [.str (Str.ofString "") t1, .str (Str.ofString "#") t2, .str (Str.ofString "  # one") t3, .str (Str.ofString "#two # three") t4] TLs := .cons _ _ (.cons _ _ (.cons _ _ (.cons _ _ .nil)))
theorem strs_PL (t1 t2 t3 t4 t5 : Tok) : StrsAre [.str (Str.ofString "one") t1, .str (Str.ofString "two") t2, .str (Str.ofString "noqa") t3, .str (Str.ofString "") t4, .str (Str.ofString "x y") t5] PLs := .cons _ _ (.cons _ _ (.cons _ _ (.cons _ _ (.cons _ _ .nil))))
theorem strs_PF (t1 t2 t3 : Tok) : StrsAre [.str (Str.ofString "  #") t1, .str (Str.ofString " #") t2, .str (Str.ofString "#") t3] PFs := .cons _ _ (.cons _ _ (.cons _ _ .nil))
theorem ns_facts (l : List Int) (h : l.length ≤ 63) : 0 < (List.map (fun k' : Int => (if k' < 0 then -k' else k').fmod 1000003) (List.take 24 l) ++ [5, 0, 11]).length ∧ (List.map (fun k' : Int => (if k' < 0 then -k' else k').fmod 1000003) (List.take 24 l) ++ [5, 0, 11]).length ≤ 30 ∧
    ∀ n ∈ List.map (fun k' : Int => (if k' < 0 then -k' else k').fmod 1000003) (List.take 24 l) ++ [5, 0, 11], 0 ≤ n ∧ n < 1000003 := by
  refine ⟨by simp, ?_, ?_⟩
  · simp only [List.length_append, List.length_map, List.length_take, List.length_cons, List.length_nil]
    omega
  · intro n hn
    rcases List.mem_append.mp hn with hn | hn
    · obtain ⟨k, _, rfl⟩ := List.mem_map.mp hn
      exact ⟨Int.fmod_nonneg_of_pos _ (by decide), Int.fmod_lt_of_pos _ (by decide)⟩
    · simp only [List.mem_cons, List.not_mem_nil, or_false] at hn
      omega
theorem ns_of {vs : List Value} {l : List Int} (hi : IntsAre vs (List.map (fun k' : Int => (if k' < 0 then -k' else k').fmod 1000003) (List.take 24 l) ++ [5, 0, 11])) (h : ¬ ((63 : Nat) : Int) < (l.length : Int)) :
    ∃ NS : List Int, IntsAre vs NS ∧ 0 < NS.length ∧ NS.length ≤ 30 ∧ ∀ n ∈ NS, 0 ≤ n ∧ n < 1000003 :=
  ⟨_, hi, (ns_facts l (by omega)).1, (ns_facts l (by omega)).2.1, (ns_facts l (by omega)).2.2⟩
end
end Mine
open Mine
local macro_rules | `(tactic| walk_at "call ref") => `(tactic| ((with_reducible show wpAny _ _ (call (Value.ref 46) _) _ _ _); refine halt ?_))
local macro_rules | `(tactic| walk_at "call ref") => `(tactic| ((with_reducible show wpAny _ _ (call (Value.ref 21) _) _ _ _); refine halt ?_))
local macro_rules | `(tactic| walk_at "call ref") => `(tactic| (k_here; k_dflt (refine' text_call ?k1 ?k2 ?k3 ?k4 ?k5 ?k6 ?k7 ?k8 ?hn ?hi ?U ?hS ?hne ?n0 ?n1 ?hns ?j0 ?j1 ?_; (case k1 => k_asm); (case k2 => k_asm); (case k3 => k_asm); (case k4 => k_asm); (case k5 => k_asm); (case k6 => first | exact rfl | assumption); (case k7 => ktr_room); (case k8 => ktr_units); (case U => k_updF); (case hi => assumption); (case hn => k_mem); (case hS => k_mem); (case hne => first | assumption | k_ne); (case n0 => assumption); (case n1 => assumption); (case hns => assumption); (case j0 => omega); (case j1 => omega); k_whole); intro _ _ _ _ _ _ _ _ _ _ _ _ _; (try k_sweep); (try dsimp only); (try k_fold)))
local macro_rules | `(tactic| walk_at "call ref") => `(tactic| (k_here; k_dflt (refine' next_call ?k1 ?k2 ?k3 ?k4 ?k5 ?k6 ?k7 ?k8 ?hn ?hi ?U ?hS ?hne ?n0 ?n1 ?hns ?j0 ?j1 ?m0 ?m1 ?_; (case k1 => k_asm); (case k2 => k_asm); (case k3 => k_asm); (case k4 => k_asm); (case k5 => k_asm); (case k6 => first | exact rfl | assumption); (case k7 => ktr_room); (case k8 => ktr_units); (case U => k_updF); (case hi => assumption); (case hn => k_mem); (case hS => k_mem); (case hne => first | assumption | k_ne); (case n0 => assumption); (case n1 => assumption); (case hns => assumption); (case j0 => omega); (case j1 => omega); (case m0 => omega); (case m1 => omega); k_whole); intro _ _ _ _ _ _ _ _ _; (try k_sweep); (try dsimp only); (try k_fold)))
local macro_rules | `(tactic| walk_at "call ref") => `(tactic| (k_here; k_dflt (refine' parse_some ?k1 ?k2 ?k3 ?k4 ?k5 ?k6 ?k7 ?k8 ?x1 ?x2 ?x3 ?_; (case k1 => k_asm); (case k2 => k_asm); (case k3 => k_asm); (case k4 => k_asm); (case k5 => k_asm); (case k6 => first | exact rfl | assumption); (case k7 => ktr_room); (case k8 => ktr_units); (case x1 => first | assumption | omega); (case x2 => assumption); (case x3 => assumption); k_whole); intro _ _ _ _ _ _ _ l9; (try k_lt l9); (try k_sweep); (try dsimp only); (try k_fold)))
local macro_rules | `(tactic| walk_at "call ref") => `(tactic| (k_here; k_dflt (refine' parse_none ?k1 ?k2 ?k3 ?k4 ?k5 ?k6 ?k7 ?k8 ?x1 ?x2 ?x3 ?_; (case k1 => k_asm); (case k2 => k_asm); (case k3 => k_asm); (case k4 => k_asm); (case k5 => k_asm); (case k6 => first | exact rfl | assumption); (case k7 => ktr_room); (case k8 => ktr_units); (case x1 => first | assumption | omega); (case x2 => assumption); (case x3 => assumption); k_whole); intro _ _ _ _ _ l9; (try k_lt l9); (try k_sweep); (try dsimp only); (try k_fold)))
local macro_rules | `(tactic| walk_at "call ref") => `(tactic| (k_here; k_dflt (refine' parse_made ?k1 ?k2 ?k3 ?k4 ?k5 ?k6 ?k7 ?k8 ?xM ?x1 ?_; (case k1 => k_asm); (case k2 => k_asm); (case k3 => k_asm); (case k4 => k_asm); (case k5 => k_asm); (case k6 => first | exact rfl | assumption); (case k7 => ktr_room); (case k8 => ktr_units); (case xM => assumption); (case x1 => assumption); k_whole); intro _ _ _ _ _ _ _ l9; (try k_lt l9); (try k_sweep); (try dsimp only); (try k_fold)))
local macro_rules | `(tactic| walk_at "call ref") => `(tactic| (k_here; k_dflt (refine' cut_some ?k1 ?k2 ?k3 ?k4 ?k5 ?k6 ?k7 ?k8 ?x1 ?x3 ?_; (case k1 => k_asm); (case k2 => k_asm); (case k3 => k_asm); (case k4 => k_asm); (case k5 => k_asm); (case k6 => first | exact rfl | assumption); (case k7 => ktr_room); (case k8 => ktr_units); (case x1 => first | assumption | omega); (case x3 => assumption); k_whole); intro _ _ _ _ _ _ _ l9; (try k_lt l9); (try k_sweep); (try dsimp only); (try k_fold)))
local macro_rules | `(tactic| walk_at "call ref") => `(tactic| (k_here; k_dflt (refine' cut_none ?k1 ?k2 ?k3 ?k4 ?k5 ?k6 ?k7 ?k8 ?x1 ?x3 ?_; (case k1 => k_asm); (case k2 => k_asm); (case k3 => k_asm); (case k4 => k_asm); (case k5 => k_asm); (case k6 => first | exact rfl | assumption); (case k7 => ktr_room); (case k8 => ktr_units); (case x1 => first | assumption | omega); (case x3 => assumption); k_whole); intro _ _ _ _ _ l9; (try k_lt l9); (try k_sweep); (try dsimp only); (try k_fold)))
local macro_rules | `(tactic| walk_at "call ref") => `(tactic| (k_here; k_dflt (refine' stripped_call ?k1 ?k2 ?k3 ?k4 ?k5 ?k6 ?k7 ?k8 ?x1 ?_; (case k1 => k_asm); (case k2 => k_asm); (case k3 => k_asm); (case k4 => k_asm); (case k5 => k_asm); (case k6 => first | exact rfl | assumption); (case k7 => ktr_room); (case k8 => ktr_units); (case x1 => first | assumption | omega); k_whole); intro _ _ _ _ _; (try k_sweep); (try dsimp only); (try k_fold)))
local macro_rules | `(tactic| walk_at "call ref") => `(tactic| (k_here; k_dflt (refine' off_some ?k1 ?k2 ?k3 ?k4 ?k5 ?k6 ?k7 ?k8 ?x1 ?x2 ?x3 ?_; (case k1 => k_asm); (case k2 => k_asm); (case k3 => k_asm); (case k4 => k_asm); (case k5 => k_asm); (case k6 => first | exact rfl | assumption); (case k7 => ktr_room); (case k8 => ktr_units); (case x1 => first | assumption | omega); (case x2 => assumption); (case x3 => assumption); k_whole); intro _ _ _ _ _; (try k_sweep); (try dsimp only); (try k_fold)))
local macro_rules | `(tactic| walk_at "call ref") => `(tactic| (k_here; k_dflt (refine' off_none ?k1 ?k2 ?k3 ?k4 ?k5 ?k6 ?k7 ?k8 ?x1 ?x2 ?x3 ?_; (case k1 => k_asm); (case k2 => k_asm); (case k3 => k_asm); (case k4 => k_asm); (case k5 => k_asm); (case k6 => first | exact rfl | assumption); (case k7 => ktr_room); (case k8 => ktr_units); (case x1 => first | assumption | omega); (case x2 => assumption); (case x3 => assumption); k_whole); intro _ _ _ _ _; (try k_sweep); (try dsimp only); (try k_fold)))
local macro_rules | `(tactic| walk_at "call ref") => `(tactic| (k_here; k_dflt (refine' add_nothing ?k1 ?k2 ?k3 ?k4 ?k5 ?k6 ?k7 ?k8 ?x1 ?_; (case k1 => k_asm); (case k2 => k_asm); (case k3 => k_asm); (case k4 => k_asm); (case k5 => k_asm); (case k6 => first | exact rfl | assumption); (case k7 => ktr_room); (case k8 => ktr_units); (case x1 => first | assumption | omega); k_whole); intro _ _ _ _ _; (try k_sweep); (try dsimp only); (try k_fold)))
local macro_rules | `(tactic| walk_at "call ref") => `(tactic| (k_here; k_dflt (refine' add_empty ?k1 ?k2 ?k3 ?k4 ?k5 ?k6 ?k7 ?k8 ?x0 ?xw ?x1 ?_; (case k1 => k_asm); (case k2 => k_asm); (case k3 => k_asm); (case k4 => k_asm); (case k5 => k_asm); (case k6 => first | exact rfl | assumption); (case k7 => ktr_room); (case k8 => ktr_units); (case x0 => k_mem); (case xw => first | assumption | exact .nil); (case x1 => first | assumption | omega); k_whole); intro _ _ _ _ _; (try k_sweep); (try dsimp only); (try k_fold)))
local macro_rules | `(tactic| walk_at "call ref") => `(tactic| (k_here; k_dflt (refine' add_emptyK ?k1 ?k2 ?k3 ?k4 ?k5 ?k6 ?k7 ?k8 ?x0 ?xw ?x1 ?_; (case k1 => k_asm); (case k2 => k_asm); (case k3 => k_asm); (case k4 => k_asm); (case k5 => k_asm); (case k6 => first | exact rfl | assumption); (case k7 => ktr_room); (case k8 => ktr_units); (case x0 => k_mem); (case xw => first | assumption | exact .nil | exact strs_nil (by assumption) (by omega)); (case x1 => first | assumption | omega); k_whole); intro _ _ _ _ _; (try k_sweep); (try dsimp only); (try k_fold)))
local macro_rules | `(tactic| walk_at "call ref") => `(tactic| (k_here; k_dflt (refine' add_some ?k1 ?k2 ?k3 ?k4 ?k5 ?k6 ?k7 ?k8 ?x0 ?xw ?x4 ?x5 ?x6 ?x1 ?x2 ?x3 ?x7 ?_; (case k1 => k_asm); (case k2 => k_asm); (case k3 => k_asm); (case k4 => k_asm); (case k5 => k_asm); (case k6 => first | exact rfl | assumption); (case k7 => ktr_room); (case k8 => ktr_units); (case x0 => k_mem); (case xw => assumption); (case x4 => omega); (case x5 => assumption); (case x6 => assumption); (case x1 => first | assumption | omega); (case x2 => assumption); (case x3 => assumption); (case x7 => omega); k_whole); intro _ _ _ _ _; (try k_sweep); (try dsimp only); (try k_fold)))
local macro_rules | `(tactic| walk_at "call ref") => `(tactic| (k_here; k_dflt (refine' add_none ?k1 ?k2 ?k3 ?k4 ?k5 ?k6 ?k7 ?k8 ?x0 ?xw ?x4 ?x5 ?x6 ?x1 ?x2 ?x3 ?x7 ?_; (case k1 => k_asm); (case k2 => k_asm); (case k3 => k_asm); (case k4 => k_asm); (case k5 => k_asm); (case k6 => first | exact rfl | assumption); (case k7 => ktr_room); (case k8 => ktr_units); (case x0 => k_mem); (case xw => assumption); (case x4 => omega); (case x5 => assumption); (case x6 => assumption); (case x1 => first | assumption | omega); (case x2 => assumption); (case x3 => assumption); (case x7 => omega); k_whole); intro _ _ _ _ _; (try k_sweep); (try dsimp only); (try k_fold)))
local macro_rules | `(tactic| walk_at "subscriptTail") => `(tactic| (k_here; (with_reducible show wpAny _ _ (subscriptTail _ _ (Value.ref _) (Value.int _ _)) _ _ _); k_dflt (refine' item_P tl_all ?N ?m ?i ?a ?k ?b ?_ ?s; (case N => k_asm); (case m => k_mem); (case i => exact strs_TL _ _ _ _); (case a => omega); (case k => (show _ < ((4 : Nat) : Int); omega)); (case b => omega); (case s => with_unfolding_all rfl); k_whole; intro _ _ _)))
local macro_rules | `(tactic| walk_at "subscriptTail") => `(tactic| (k_here; (with_reducible show wpAny _ _ (subscriptTail _ _ (Value.ref _) (Value.int _ _)) _ _ _); k_dflt (refine' item_P pl_all ?N ?m ?i ?a ?k ?b ?_ ?s; (case N => k_asm); (case m => k_mem); (case i => exact strs_PL _ _ _ _ _); (case a => omega); (case k => (show _ < ((5 : Nat) : Int); omega)); (case b => omega); (case s => with_unfolding_all rfl); k_whole; intro _ _ _)))
local macro_rules | `(tactic| walk_at "subscriptTail") => `(tactic| (k_here; (with_reducible show wpAny _ _ (subscriptTail _ _ (Value.ref _) (Value.int _ _)) _ _ _); k_dflt (refine' item_PF ?N ?m ?i ?a ?k ?b ?_ ?s; (case N => k_asm); (case m => k_mem); (case i => exact strs_PF _ _ _); (case a => omega); (case k => (show _ < ((3 : Nat) : Int); omega)); (case b => omega); (case s => with_unfolding_all rfl); k_whole; intro _ _ _ _)))
local macro_rules | `(tactic| walk_at "binaryOp Add str str") => `(tactic| (k_here; (with_reducible show wpAny _ _ (binaryOp Operator.Add (Value.str _ _) (Value.str _ _)) _ _ _); k_dflt (refine' add_ok ?a ?b ?_; (case a => omega); (case b => omega); k_whole); intro _ _ _))
local macro_rules | `(tactic| walk_at "binaryOp Add str str") => `(tactic| (k_here; (with_reducible show wpAny _ _ (binaryOp Operator.Add (Value.str _ _) (Value.str _ _)) _ _ _); (refine add_whole (by assumption) (by assumption) (by assumption) ?_); intro _ _ _ _ _))
local macro_rules | `(tactic| walk_at "compareOp NotEq ref ref") => `(tactic| (k_here; k_dflt (refine' ne_two ?N ?a ?b ?u ?_; (case N => k_asm); (case a => k_mem); (case b => k_mem); (case u => first | ke_room | ktr_units); k_whole)))
local macro_rules | `(tactic| walk_at "compareOp NotEq ref ref") => `(tactic| (k_here; k_dflt (refine' ne_one ?N ?a ?b ?u ?_; (case N => k_asm); (case a => k_mem); (case b => k_mem); (case u => first | ke_room | ktr_units); k_whole)))
local macro_rules | `(tactic| walk_at "compareOp Eq ref ref") => `(tactic| (k_here; k_dflt (refine' eq_nil ?N ?a ?b ?w ?u ?_; (case N => k_asm); (case a => k_mem); (case b => k_mem); (case w => assumption); (case u => first | ke_room | ktr_units); k_whole)))
local macro_rules | `(tactic| walk_at "CompSrc") => `(tactic| (k_here; k_dflt (refine' comp_draws PlP ?hh ?F ?N ?S ?U ?R ?r0 ?r1 ?_ ?_; (case hh => exact rfl); (case F => k_asm); (case N => k_asm); (case S => k_mem); (case R => assumption); (case U => k_updF); (case r0 => omega); (case r1 => omega)); (all_goals (refine halt ?_))))
local macro_rules | `(tactic| walk_at "exec For Name Name cons nil") => `(tactic| (k_here; (rename Fr _ _ _ _ => lF'); (with_unfolding_all refine' For_invVF lF' ?k1 ?k2 ?_; (case k1 => exact rfl); (case k2 => exact rfl); k_whole)))
local macro_rules | `(tactic| walk_at "pyIter ref") => `(tactic| ((with_reducible show wpAny _ _ (pyIter (Value.ref _)) (fun it s₂ => LoopAtV _ _ _ _ _ _ _ _ _ it s₂) _ _); refine halt ?_))
local macro_rules | `(tactic| k_upd) => `(tactic| ((rename (∀ (o1 o2 : Obj), Upd _ o1 o2 _ _) => hU9); exact hU9 _ _))
local macro_rules | `(tactic| walk_at "compareOp NotIn str ref") => `(tactic| (k_here; k_dflt (refine' notin_led ?N ?m ?i ?_; (case N => k_asm); (case m => k_mem); (case i => assumption); k_whole)))
local macro_rules | `(tactic| walk_at "call builtin:str.join") => `(tactic| (k_here; k_dflt ((show wpAny _ _ (call (Value.builtin "str.join") [Value.str _ _, Value.ref _]) _ _ _); refine' join_led ?N ?m ?i ?k ?_; (case N => k_asm); (case m => k_mem); (case i => assumption); (case k => exact once_sum (by assumption) (by assumption)); k_whole; intro _ _)))
local macro_rules | `(tactic| walk_at "call builtin:list.append") => `(tactic| (k_here; k_dflt ((show wpAny _ _ (call (Value.builtin "list.append") [Value.ref _, Value.str _ _]) _ _ _); refine' append_K ?k1 ?k2 ?k3 ?_ ?z; (case k1 => k_asm); (case k2 => k_asm); (case k3 => k_upd); (case z => assumption); k_whole); intro h' F' N'; (try k_sweep)))
local macro_rules | `(tactic| walk_at "exec While Compare cons nil") => `(tactic| ((with_reducible show wpAny _ _ (exec (Stmt.While (Expr.Compare (Expr.Subscript _ (Expr.Slice (some _) none _ _) _) _ _ _) _ _ _) _) _ _ _); k_while_given ["front!"] (fun t0 _ front => rst (toL front) = rst (toL t0) ∧ front.length ≤ t0.length) (fun _ _ front => front.length) "front"))
local macro_rules | `(tactic| walk_at "CompEnd") => `(tactic| ((with_reducible show LCg.CompEnd _ _ _ _ _ _ _ _ _ _ _ (fun _ _ => And _ _) _ _); refine halt ?_))
local macro_rules | `(tactic| walk_at "InvEndN") => `(tactic| refine halt ?_)
local macro_rules | `(tactic| walk_at "call ref") => `(tactic| ((with_reducible show wpAny _ _ (call (Value.ref 60) _) _ _ _); (rename Flag1 => f9); refine halt ?_))
set_option maxRecDepth 100000 in
set_option maxHeartbeats 100000000 in
theorem PySem.Challenge.cw_nk0013_01_holds : PySem.Challenge.rw_nk0013_01.Holds := by
  refine Mine.hd ?_
  k_with_none
  w_strict k_go0
  rename_i hD h1 tk1 F0 o2 o1 d2 d1 N0 X0
  rename Heap.CodeRec _ _ _ => hcd
  clear X0 hD hcd
  with_unfolding_all replace F0 : Fr _ _ h1 (fun y => if y = Str.ofString "script" then some (Value.ref _) else none) := F0
  with_unfolding_all replace d2 : o2.data = .cell none := d2
  with_unfolding_all replace d1 : o1.data = .cell none := d1
  (try dsimp only)
  (try k_fold)
  k_steps
  unfold Halt
  (rename ¬ ((63 : Nat) : Int) < _ => h63)
  (rename IntsAre _ (List.map _ _ ++ _) => hNI)
  obtain ⟨NS, hNS, n0, n1, hns⟩ := ns_of hNI h63
  clear hNI
  rename News _ _ _ _ => NN
  have NN' := trim7 NN
  clear NN
  rename (@LT.lt Nat _ _ _ ∧ _) => la
  obtain ⟨q1, q2, q3, q4, q5, q6⟩ := la
  clear q2 q3 q4
  rename (@LT.lt Nat _ _ _ ∧ _) => la
  obtain ⟨q2, q3, q4, q7, q8⟩ := la
  clear q2 q3 q4
  repeat (rename (@LT.lt Nat _ _ _ ∧ _) => q9; clear q9)
  repeat (rename (_ ≠ _ ∧ _) => q9; clear q9)
  have hb0 : (Str.ofString "").length = 0 := by decide +kernel
  have hb1 : (Str.ofString " ").length = 1 := by decide +kernel
  k_steps
  unfold Halt
  (rename Tame _ => hTz)
  (rename Str.length _ ≤ 24 => hLz)
  rename Str => z
  have hfl := front_len z
  k_with "state" => first | exact ⟨rfl, Nat.le_refl _⟩ | exact st3 (by assumption) (by assumption) (by assumption)
  k_with "measure" => exact (rst_step (by assumption)).2.2
  by_cases hN : hasN z
  · k_steps
    · unfold Halt
      intro i ys t' I oI C oC D m₂ s h tk E' hi hC F N off ne
      have off0 := off
      simp only [LCg.Off3, and_true] at off
      k_steps
      rename_i r2 tr2 t2 h2 tk2 q0 q1 F2 N2 y ty hy
      unfold Halt
      exact LCg.CompEnd.intro F2 N2 _ (fun p hp => hp) off0 True.intro ⟨⟨t2, rfl⟩, y, ty, rfl, hy⟩
    · unfold Halt
      intro gg ys ws t' hws hwl hin
      have h4 : ws.length ≤ 4 := by omega
      have hs : ∀ y ∈ ws, y.length ≤ 4 := fun y hy => (hin y hy).1
      have hj := once_join h4 hs
      k_steps
      unfold Halt
      rename News _ _ _ _ => NN
      have NN' := trim10 NN
      clear NN
      rename (@LT.lt Nat _ _ _ ∧ _) => la
      rename (_ ≠ _ ∧ _) => lb
      revert la lb
      repeat (rename (@LT.lt Nat _ _ _ ∧ _) => q9; clear q9)
      repeat (rename (_ ≠ _ ∧ _) => q9; clear q9)
      intro la lb
      refine' iter_once ?U ?hld (by rfl) ?hl hws ?F ?N ?turn ?done
      case N => k_asm
      case F => k_asm
      case U => k_updF
      case hl => k_mem
      case hld => k_ne
      · intro i y ty us ds n u h tk own hy hdl hil hus hu hoff U' F1 N1
        have hU := fun o1 o2 : Obj => upd_own U' hoff o1 o2
        have hfit : us.toArray.size ≤ sizeLine := by rw [List.size_toArray, hus.length, sizeLine_eq]; omega
        k_steps
        · unfold Halt
          exact InvEndN.intro (by assumption) (by assumption) ⟨⟨us, n, rfl, by rw [once_old (by assumption)]; exact hus⟩, fun z hz => if_neg hz⟩ (map_upd U' _) (fun p hp => List.mem_append_left _ hp) (fun p hp => List.mem_append_right _ hp)
        · unfold Halt
          rename News _ _ _ _ => N9
          rw [push_list us (Value.str y ty)] at N9
          exact InvEndN.intro (by assumption) N9 ⟨⟨us ++ [Value.str y ty], n + 1, rfl, by rw [once_new (by assumption)]; exact kct_snoc hus⟩, fun z hz => if_neg hz⟩ (map_upd U' _) (fun p hp => List.mem_append_left _ hp) (fun p hp => List.mem_append_right _ hp)
      · intro us n u h tk hus F1 N1
        have flag : Flag1 := True.intro
        k_steps
        unfold Halt
        rename Flag1 => ff
        clear ff
        rename News _ _ _ _ => NN
        have NN' := trim6 NN
        clear NN
        repeat (rename (@LT.lt Nat _ _ _ ∧ _) => q9; clear q9)
        repeat (rename (_ ≠ _ ∧ _) => q9; clear q9)
        (rename PfP _ => hpf)
        k_steps
        · exact (bad_text (front_done (by assumption) (by assumption)) (by assumption) (by assumption)).elim
        · obtain ⟨hM1, hM2⟩ := made_some hTz hLz hpf h4 hin
          unfold Halt
          k_steps
        · exact (bad_none (front_done (by assumption) (by assumption)) (by assumption) (by assumption)).elim
        · obtain ⟨hM1, hM2⟩ := made_some hTz hLz hpf h4 hin
          unfold Halt
          k_steps
  · k_steps
    · unfold Halt
      intro i ys t' I oI C oC D m₂ s h tk E' hi hC F N off ne
      have off0 := off
      simp only [LCg.Off3, and_true] at off
      k_steps
      rename_i r2 tr2 t2 h2 tk2 q0 q1 F2 N2 y ty hy
      unfold Halt
      exact LCg.CompEnd.intro F2 N2 _ (fun p hp => hp) off0 True.intro ⟨⟨t2, rfl⟩, y, ty, rfl, hy⟩
    · unfold Halt
      intro gg ys ws t' hws hwl hin
      have h4 : ws.length ≤ 4 := by omega
      have hs : ∀ y ∈ ws, y.length ≤ 4 := fun y hy => (hin y hy).1
      have hj := once_join h4 hs
      k_steps
      unfold Halt
      rename News _ _ _ _ => NN
      have NN' := trim10 NN
      clear NN
      rename (@LT.lt Nat _ _ _ ∧ _) => la
      rename (_ ≠ _ ∧ _) => lb
      revert la lb
      repeat (rename (@LT.lt Nat _ _ _ ∧ _) => q9; clear q9)
      repeat (rename (_ ≠ _ ∧ _) => q9; clear q9)
      intro la lb
      refine' iter_once ?U2 ?hld2 (by rfl) ?hl2 hws ?F2 ?N2 ?turn2 ?done2
      case N2 => k_asm
      case F2 => k_asm
      case U2 => k_updF
      case hl2 => k_mem
      case hld2 => k_ne
      · intro i y ty us ds n u h tk own hy hdl hil hus hu hoff U' F1 N1
        have hU := fun o1 o2 : Obj => upd_own U' hoff o1 o2
        have hfit : us.toArray.size ≤ sizeLine := by rw [List.size_toArray, hus.length, sizeLine_eq]; omega
        k_steps
        · unfold Halt
          exact InvEndN.intro (by assumption) (by assumption) ⟨⟨us, n, rfl, by rw [once_old (by assumption)]; exact hus⟩, fun z hz => if_neg hz⟩ (map_upd U' _) (fun p hp => List.mem_append_left _ hp) (fun p hp => List.mem_append_right _ hp)
        · unfold Halt
          rename News _ _ _ _ => N9
          rw [push_list us (Value.str y ty)] at N9
          exact InvEndN.intro (by assumption) N9 ⟨⟨us ++ [Value.str y ty], n + 1, rfl, by rw [once_new (by assumption)]; exact kct_snoc hus⟩, fun z hz => if_neg hz⟩ (map_upd U' _) (fun p hp => List.mem_append_left _ hp) (fun p hp => List.mem_append_right _ hp)
      · intro us n u h tk hus F1 N1
        have flag : Flag1 := True.intro
        k_steps
        unfold Halt
        rename Flag1 => ff
        clear ff
        rename News _ _ _ _ => NN
        have NN' := trim6 NN
        clear NN
        repeat (rename (@LT.lt Nat _ _ _ ∧ _) => q9; clear q9)
        repeat (rename (_ ≠ _ ∧ _) => q9; clear q9)
        (rename PfP _ => hpf)
        k_steps
        · obtain ⟨hM1, hM2⟩ := made_none hTz hN hLz hpf h4 hin
          unfold Halt
          k_steps
        · obtain ⟨hM1, hM2⟩ := made_none hTz hN hLz hpf h4 hin
          unfold Halt
          k_steps

