import PyProof.Rows.All
import Wide.All
import OpenK.AllK
import Wide.FinOn
import Lean
import PySem.Challenge.RW_xe0053_01
open PySem PySem.W PyProof.Rows
set_option Elab.async false
namespace Mine
open PySem.Builtin PySem.Builtin.Str PySem.StrLaws

/-- the rule of the law's own helper, over the signs' numbers -/
def put (old new : List Nat) : List Nat → List Nat
  | [] => []
  | c :: r => if old.isPrefixOf (c :: r) then new ++ put old new (r.drop (old.length - 1)) else c :: put old new r
termination_by l => l.length
decreasing_by all_goals (simp [List.length_drop]; try omega)
theorem put_nil {o n : List Nat} : put o n [] = [] := by rw [put]
theorem put_no {o n r : List Nat} {c : Nat} (h : ¬ o <+: (c :: r)) : put o n (c :: r) = c :: put o n r := by
  rw [put, if_neg (by rw [List.isPrefixOf_iff_prefix]; exact h)]
theorem put_yes {o n l : List Nat} (ho : 1 ≤ o.length) (h : o <+: l) : put o n l = n ++ put o n (l.drop o.length) := by
  cases l with
  | nil => have := h.length_le; simp at this; subst this; simp at ho
  | cons c r =>
    rw [put, if_pos (by rw [List.isPrefixOf_iff_prefix]; exact h)]
    obtain ⟨k, hk⟩ : ∃ k, o.length = k + 1 := ⟨o.length - 1, by omega⟩
    rw [hk, List.drop_succ_cons, Nat.add_sub_cancel]
theorem put_len {o n : List Nat} (ho : 1 ≤ o.length) (hn : n.length ≤ 2) : ∀ (k : Nat) (l : List Nat), l.length ≤ k → (put o n l).length ≤ 2 * l.length
  | 0, l, h => by
    have : l = [] := List.length_eq_zero_iff.mp (by omega)
    subst this; rw [put_nil]; simp
  | k + 1, [], h => by rw [put_nil]; simp
  | k + 1, c :: r, h => by
    by_cases hp : o <+: (c :: r)
    · rw [put_yes ho hp, List.length_append]
      have h1 := put_len ho hn k ((c :: r).drop o.length) (by simp [List.length_drop] at h ⊢; omega)
      have h2 := hp.length_le
      rw [List.length_drop] at h1
      omega
    · rw [put_no hp, List.length_cons, List.length_cons]
      have h1 := put_len ho hn k r (by simp at h; omega)
      omega
/-- nothing between two places: it is left -/
theorem put_skip {o n : List Nat} (xs : List Nat) : ∀ (m a : Nat), a + m ≤ xs.length → (∀ k, a ≤ k → k < a + m → ¬ o <+: xs.drop k) →
    put o n (xs.drop a) = (xs.drop a).take m ++ put o n (xs.drop (a + m))
  | 0, a, _, _ => by simp
  | m + 1, a, h, hn => by
    have ha : a < xs.length := by omega
    have hd : xs.drop a = xs[a] :: xs.drop (a + 1) := List.drop_eq_getElem_cons ha
    have h0 := hn a (Nat.le_refl _) (by omega)
    rw [hd] at h0 ⊢
    rw [put_no h0, List.take_succ_cons, List.cons_append, put_skip xs m (a + 1) (by omega) (fun k h1 h2 => hn k (by omega) (by omega))]
    have e : a + 1 + m = a + (m + 1) := by omega
    rw [e]
theorem put_free {o n : List Nat} (xs : List Nat) (a : Nat) (ha : a ≤ xs.length) (hn : ∀ k, a ≤ k → ¬ o <+: xs.drop k) : put o n (xs.drop a) = xs.drop a := by
  rw [put_skip xs (xs.length - a) a (by omega) (fun k h _ => hn k h)]
  have e : a + (xs.length - a) = xs.length := by omega
  rw [e, List.drop_length, put_nil, List.append_nil, List.take_of_length_le (by rw [List.length_drop]; omega)]

abbrev cs (x : Str) : List Nat := x.cps.toList
theorem cs_len (x : Str) : (cs x).length = x.length := by simp [Str.length]
theorem eq_of_cs {x : Str} {l : List Nat} (h : cs x = l) : x = ⟨l.toArray⟩ := by
  subst h; rfl
theorem cs_app (x y : Str) : cs (x ++ y) = cs x ++ cs y := by
  unfold cs; rw [Str.cps_append, Array.toList_append]
theorem at_prefix {x y : Str} {k : Nat} : At x y x.length k ↔ (cs y <+: (cs x).drop k ∧ k + y.length ≤ x.length) := by
  unfold At
  rw [subAt_eq, beq_iff_eq, ← cs_len y, List.prefix_iff_eq_take]
  exact ⟨fun h => ⟨h.2.symm, h.1⟩, fun h => ⟨h.2, h.1.symm⟩⟩
theorem prefix_at {x y : Str} {k : Nat} (hy : 1 ≤ y.length) (h : cs y <+: (cs x).drop k) : At x y x.length k := by
  refine at_prefix.mpr ⟨h, ?_⟩
  have := h.length_le
  rw [List.length_drop, cs_len, cs_len] at this
  omega
theorem cs_sub (x : Str) (i j : Nat) : cs (strSub x i j) = ((cs x).drop i).take (j - i) := strSub_toList x i j
theorem join_cons (z p : Str) : ∀ {l : List Str}, l ≠ [] → Str.join z (p :: l) = p ++ z ++ Str.join z l
  | [], h => absurd rfl h
  | _ :: _, _ => rfl
theorem join_parts (x y z : Str) (hy : 1 ≤ y.length) : ∀ (cuts : List Nat) (a f : Nat), a ≤ x.length → ChainG x y x.length a cuts f → (∀ k, f ≤ k → ¬ At x y x.length k) →
    cs (Str.join z (partsFrom x y.length a cuts)) = put (cs y) (cs z) ((cs x).drop a)
  | [], a, f, ha, h, hn => by
    have e : f = a := h
    subst e
    show cs (strSub x f x.length) = _
    rw [cs_sub, put_free _ _ (by rw [cs_len]; exact ha) (fun k hk hp => hn k hk (prefix_at hy hp))]
    rw [List.take_of_length_le (by rw [List.length_drop, cs_len]; omega)]
  | c :: r, a, f, ha, h, hn => by
    obtain ⟨h1, h2, h3, h4⟩ := h
    have hc := (at_prefix.mp h2)
    have hne : partsFrom x y.length (c + y.length) r ≠ [] := by
      obtain ⟨p, q, e⟩ := partsFrom_ne x y.length (c + y.length) r
      rw [e]; simp
    show cs (Str.join z (strSub x a c :: partsFrom x y.length (c + y.length) r)) = _
    rw [join_cons z _ hne, cs_app, cs_app, join_parts x y z hy r _ f (by omega) h4 hn, cs_sub]
    have e := put_skip (o := cs y) (n := cs z) (cs x) (c - a) a (by rw [cs_len]; omega) (fun k k1 k2 hp => h3 k k1 (by omega) (prefix_at hy hp))
    have ec : a + (c - a) = c := by omega
    rw [ec] at e
    rw [e, put_yes (by rw [cs_len]; exact hy) hc.1, List.drop_drop, cs_len, List.append_assoc]
theorem strKind_ge (x : Str) : 1 ≤ Builtin.Str.strKind x := by
  unfold Builtin.Str.strKind
  split
  · exact Nat.le_refl _
  · split <;> omega
theorem join_split_put (x y z : Str) (hy : 1 ≤ y.length) (hk : Builtin.Str.strKind y = 1) : cs (Txt.join z (Txt.split x y)) = put (cs y) (cs z) (cs x) := by
  show cs (glued z (Txt.split x y)) = _
  rw [glued_eq_join]
  obtain ⟨f, hf, hn⟩ := occ_tight x y hy
  have whole : (∀ k, ¬ At x y x.length k) → put (cs y) (cs z) (cs x) = cs x := fun h => by
    have := put_free (o := cs y) (n := cs z) (cs x) 0 (Nat.zero_le _) (fun k _ hp => h k (prefix_at hy hp))
    simpa using this
  unfold Txt.split
  split
  · rename_i h
    have hk' : ¬ Builtin.Str.strKind x < Builtin.Str.strKind y := by have := strKind_ge x; omega
    have hl : x.length < y.length := by simpa [hk'] using h
    rw [whole fun k hA => by have := hA.1; omega]
    rfl
  · split
    · rename_i h
      have e : occurrences x y 0 x.length (x.length + 1) = [] := List.isEmpty_iff.mp h
      rw [e] at hf
      have e0 : f = 0 := hf
      rw [whole fun k hA => hn k (by omega) hA]
      rfl
    · rw [partsBetween_eq, join_parts x y z hy _ 0 f (Nat.zero_le _) hf hn, List.drop_zero]

/-- the law's helper as one text -/
def putS (x old new : Str) : Str := ⟨(put (cs old) (cs new) (cs x)).toArray⟩
theorem join_split_putS {x y z : Str} (hy : 1 ≤ y.length) (hk : Builtin.Str.strKind y = 1) : Txt.join z (Txt.split x y) = putS x y z := eq_of_cs (join_split_put x y z hy hk)
theorem putS_len {x y z : Str} (hy : 1 ≤ y.length) (hz : z.length ≤ 2) : (putS x y z).length ≤ 2 * x.length := by
  have := put_len (o := cs y) (n := cs z) (by rw [cs_len]; exact hy) (by rw [cs_len]; exact hz) _ (cs x) (Nat.le_refl _)
  rw [cs_len] at this
  simpa [putS, Str.length] using this
end Mine
namespace Mine
open PySem.Builtin PySem.Builtin.Str PySem.StrLaws

def abcB (c : Nat) : Bool := c == 97 || c == 98 || c == 99 || c == 32 || c == 10 || c == 46
/-- the six signs of the law's texts -/
def Abc (x : Str) : Prop := ∀ c ∈ cs x, abcB c = true

theorem abc_item : ∀ n : Nat, n < 6 → ((cs (Txt.item (Str.ofString "abc \n.") (n : Int))).all abcB) = true := by decide +kernel
theorem abc_item' (a : Int) : ∀ c ∈ cs (Txt.item (Str.ofString "abc \n.") (a.fmod 6)), abcB c = true := by
  have h0 : 0 ≤ a.fmod 6 := fmod_lo a (by decide)
  have h1 : a.fmod 6 < 6 := fmod_hi a (by decide)
  obtain ⟨n, hn⟩ := Int.eq_ofNat_of_zero_le h0
  rw [hn] at h1 ⊢
  exact List.all_eq_true.mp (abc_item n (by omega))
theorem mem_join {z : Str} {c : Nat} : ∀ {l : List Str}, c ∈ cs (Str.join z l) → (∃ p ∈ l, c ∈ cs p) ∨ c ∈ cs z
  | [], h => by simp [cs, Str.join, Str.empty] at h
  | [p], h => .inl ⟨p, by simp, h⟩
  | p :: q :: r, h => by
    have e : Str.join z (p :: q :: r) = p ++ z ++ Str.join z (q :: r) := rfl
    rw [e, cs_app, cs_app, List.mem_append, List.mem_append] at h
    rcases h with (h | h) | h
    · exact .inl ⟨p, by simp, h⟩
    · exact .inr h
    · rcases mem_join h with ⟨y, hy, hc⟩ | h
      · exact .inl ⟨y, List.mem_cons_of_mem _ hy, hc⟩
      · exact .inr h
theorem join_mem {z : Str} {c : Nat} {p : Str} : ∀ {l : List Str}, p ∈ l → c ∈ cs p → c ∈ cs (Str.join z l)
  | [q], h, hc => by
    have : p = q := by simpa using h
    subst this; exact hc
  | q :: r :: s, h, hc => by
    have e : Str.join z (q :: r :: s) = q ++ z ++ Str.join z (r :: s) := rfl
    rw [e, cs_app, cs_app, List.mem_append, List.mem_append]
    rcases List.mem_cons.mp h with rfl | h
    · exact .inl (.inl hc)
    · exact .inr (join_mem h hc)
theorem abc_join (ns : List Int) : Abc (Txt.join (Str.ofString "") (ns.map fun a => Txt.item (Str.ofString "abc \n.") (a.fmod 6))) := by
  intro c hc
  have hc' : c ∈ cs (glued (Str.ofString "") (ns.map fun a => Txt.item (Str.ofString "abc \n.") (a.fmod 6))) := hc
  rw [glued_eq_join] at hc'
  rcases mem_join hc' with ⟨p, hp, hc⟩ | h
  · obtain ⟨a, _, rfl⟩ := List.mem_map.mp hp
    exact abc_item' a c hc
  · rw [show cs (Str.ofString "") = [] from by decide +kernel] at h
    simp at h
theorem takeWhile_congr {g g' : Nat → Bool} : ∀ {l : List Nat}, (∀ c ∈ l, g c = g' c) → l.takeWhile g = l.takeWhile g'
  | [], _ => rfl
  | a :: r, h => by
    rw [List.takeWhile_cons, List.takeWhile_cons, h a (by simp), takeWhile_congr fun c hc => h c (List.mem_cons_of_mem _ hc)]
theorem stripBy_congr {g g' : Nat → Bool} {l r : Bool} {x : Str} (h : ∀ c ∈ cs x, g c = g' c) : Txt.stripBy g l r x = Txt.stripBy g' l r x := by
  have e1 : stripLo g l x = stripLo g' l x := by
    unfold stripLo
    rw [takeWhile_congr h]
  have e2 : stripHi g r x (stripLo g l x) = stripHi g' r x (stripLo g' l x) := by
    unfold stripHi
    rw [e1, takeWhile_congr (g := g) (g' := g') fun c hc => h c (List.mem_of_mem_drop (List.mem_reverse.mp hc))]
  rw [PyProof.Rows.stripBy_eq, PyProof.Rows.stripBy_eq, e2, e1]
theorem space_abc {c : Nat} (h : abcB c = true) : Unicode.isSpace c = (c == 32 || c == 10) := by
  unfold abcB at h
  simp only [Bool.or_eq_true, beq_iff_eq] at h
  rcases h with ((((rfl | rfl) | rfl) | rfl) | rfl) | rfl <;> decide +kernel
theorem strip_same {x : Str} (h : Abc x) : Txt.stripChars x (Str.ofString " \n") = Txt.strip x := by
  refine stripBy_congr fun c hc => ?_
  rw [space_abc (h c hc)]
  have e : (Str.ofString " \n").cps = #[32, 10] := by decide +kernel
  rw [e]
  simp [Array.contains, Bool.or_comm]
theorem mem_stripBy {g : Nat → Bool} {l r : Bool} {x : Str} {c : Nat} (h : c ∈ cs (Txt.stripBy g l r x)) : c ∈ cs x := by
  rw [PyProof.Rows.stripBy_eq, cs_sub] at h
  exact List.mem_of_mem_drop (List.mem_of_mem_take h)
theorem mem_split {x y p : Str} {c : Nat} (hp : p ∈ Txt.split x y) (hc : c ∈ cs p) : c ∈ cs x := by
  have := join_mem (z := y) hp hc
  rwa [join_split] at this
theorem split_pos (x y : Str) : 1 ≤ (Txt.split x y).length := by
  unfold Txt.split
  split
  · simp
  · split
    · simp
    · rw [partsBetween_eq]
      obtain ⟨p, r, e⟩ := partsFrom_ne x y.length 0 (occurrences x y 0 x.length (x.length + 1))
      rw [e]; simp

/-- the rows of the text without its outer blanks -/
def rowsOf (x : Str) : List Str := Txt.split (Txt.strip x) (Str.ofString "\n")
theorem rows_pos (x : Str) : 1 ≤ (rowsOf x).length := split_pos _ _
theorem rows_weight (x : Str) : ((rowsOf x).map (·.length)).sum + (rowsOf x).length ≤ x.length + 1 :=
  Nat.le_trans (split_weight _ _ (by decide +kernel)) (Nat.succ_le_succ (len_strip x))
theorem row_space {x y : Str} (h : Abc x) (hy : y ∈ rowsOf x) {c : Nat} (hc : c ∈ cs y) : Unicode.isSpace c = (c == 32) := by
  have h1 := h c (mem_stripBy (mem_split hy hc))
  have e : Str.ofString "\n" = ⟨#[10]⟩ := by decide +kernel
  have h2 : c ≠ 10 := by
    rintro rfl
    unfold rowsOf at hy
    rw [e] at hy
    exact split_free _ 10 y hy hc
  rw [space_abc h1]
  simp [h2]
/-- a row of blanks alone -/
def blank (y : Str) : Bool := (cs y).all (· == 32)
theorem getD_cs (x : Str) {k : Nat} (h : k < x.length) : ∃ h' : k < (cs x).length, x.cps.getD k 0 = (cs x)[k] := by
  refine ⟨by rw [cs_len]; exact h, ?_⟩
  have h' : k < x.cps.size := h
  simp [Array.getD, h', cs]
theorem all_of_getD {g : Nat → Bool} {x : Str} (h : ∀ k, k < x.length → g (x.cps.getD k 0) = true) : (cs x).all g = true := by
  refine List.all_eq_true.mpr fun c hc => ?_
  obtain ⟨k, hk, rfl⟩ := List.getElem_of_mem hc
  obtain ⟨_, e⟩ := getD_cs x (k := k) (by rw [← cs_len]; exact hk)
  rw [← e]
  exact h k (by rw [← cs_len]; exact hk)
theorem getD_of_all {g : Nat → Bool} {x : Str} (h : (cs x).all g = true) {k : Nat} (hk : k < x.length) : g (x.cps.getD k 0) = true := by
  obtain ⟨h', e⟩ := getD_cs x hk
  rw [e]
  exact List.all_eq_true.mp h _ (List.getElem_mem h')
theorem stripBy_len {g : Nat → Bool} {l r : Bool} {x : Str} (hh : stripHi g r x (stripLo g l x) ≤ x.length) : (Txt.stripBy g l r x).length = stripHi g r x (stripLo g l x) - stripLo g l x := by
  rw [PyProof.Rows.stripBy_eq, sub_len _ _ _ hh]
theorem rstripBy_zero (g : Nat → Bool) (x : Str) : (Txt.stripBy g false true x).length = 0 ↔ (cs x).all g = true := by
  have hlo : stripLo g false x = 0 := rfl
  obtain ⟨h1, h2, h3, h4⟩ := hi_facts g x 0 (Nat.zero_le _)
  rw [stripBy_len (by rw [hlo]; exact h2), hlo, Nat.sub_zero]
  constructor
  · intro h
    exact all_of_getD fun k hk => h3 k (by omega) hk
  · intro h
    rcases h4 with h4 | h4
    · exact h4
    · by_cases h0 : stripHi g true x 0 = 0
      · exact h0
      · have := getD_of_all h (k := stripHi g true x 0 - 1) (by omega)
        rw [this] at h4
        exact absurd h4 (by decide)
theorem stripBy_zero (g : Nat → Bool) (x : Str) : (Txt.stripBy g true true x).length = 0 ↔ (cs x).all g = true := by
  obtain ⟨l1, l2, l3⟩ := lo_facts g x
  obtain ⟨h1, h2, h3, h4⟩ := hi_facts g x (stripLo g true x) l1
  rw [stripBy_len h2]
  constructor
  · intro h
    refine all_of_getD fun k hk => ?_
    by_cases hk' : k < stripLo g true x
    · exact l2 k hk'
    · exact h3 k (by omega) hk
  · intro h
    rcases l3 with l3 | l3
    · omega
    · by_cases hl : stripLo g true x < x.length
      · have := getD_of_all h hl
        rw [this] at l3
        exact absurd l3 (by decide)
      · omega
theorem all_congr {g g' : Nat → Bool} {l : List Nat} (h : ∀ c ∈ l, g c = g' c) : l.all g = l.all g' := by
  rw [Bool.eq_iff_iff, List.all_eq_true, List.all_eq_true]
  exact ⟨fun k c hc => (h c hc) ▸ k c hc, fun k c hc => (h c hc).symm ▸ k c hc⟩
theorem rstrip_blank {x y : Str} (h : Abc x) (hy : y ∈ rowsOf x) : (Txt.rstrip y).length = 0 ↔ blank y = true := by
  unfold Txt.rstrip blank
  rw [rstripBy_zero, all_congr fun c hc => row_space h hy hc]
theorem stripB_blank (y : Str) : (Txt.stripChars y (Str.ofString " ")).length = 0 ↔ blank y = true := by
  have e : (Str.ofString " ").cps = #[32] := by decide +kernel
  unfold Txt.stripChars blank
  rw [stripBy_zero, e, all_congr (g' := (· == 32)) fun c _ => by simp [Array.contains]]
theorem str_nil {y : Str} (h : y.length = 0) : y = Str.ofString "" := by
  have h' : y.cps.size = 0 := h
  exact Str.ext' (by rw [Array.eq_empty_of_size_eq_zero h']; decide +kernel)
end Mine
namespace Mine
open PySem.Builtin PySem.Builtin.Str PySem.StrLaws

theorem slice_clamp (x : Str) (l : Option Int) {q : Int} (h : 0 ≤ q) : Txt.slice x l (some q) = Txt.slice x l (some (min q (x.length : Int))) := by
  have e : strSliceIndices l (some q) 1 x.length = strSliceIndices l (some (min q (x.length : Int))) 1 x.length := by
    have e1 : max (0 : Int) (min (min q (x.length : Int)) (x.length : Int)) = max 0 (min q (x.length : Int)) := by omega
    have h1 : ¬ (q < 0) := by omega
    have h2 : ¬ (min q (x.length : Int) < 0) := by omega
    simp only [strSliceIndices, h1, h2, if_false, e1, show ((1 : Int) > 0) = True from by simp, if_true]
  unfold Txt.slice
  rw [e]
theorem slice_cs {x : Str} {p q : Int} (h0 : 0 ≤ p) (hpq : p ≤ q) (hp : p ≤ (x.length : Int)) : cs (Txt.slice x (some p) (some q)) = ((cs x).drop p.toNat).take (q - p).toNat := by
  have hl : (cs x).length = x.length := cs_len x
  have h := sliceText_plain (x := x) (i := p) (j := min q (x.length : Int)) ⟨h0, by omega, by
    have : (x.cps.toList.length : Int) = x.length := by rw [← cs_len]
    omega⟩
  rw [slice_clamp x _ (by omega)]
  show cs (StrLaws.sliceText x (some p) (some (min q (x.length : Int)))) = _
  rw [h]
  show ((cs x).drop p.toNat).take _ = _
  by_cases hq : q ≤ (x.length : Int)
  · rw [Int.min_eq_left hq]
  · have hd : ((cs x).drop p.toNat).length = x.length - p.toNat := by rw [List.length_drop, hl]
    rw [List.take_of_length_le (by rw [hd]; omega), List.take_of_length_le (by rw [hd]; omega)]
theorem item_cs {x : Str} {p : Int} (h0 : 0 ≤ p) (hp : p < (x.length : Int)) : ∃ c, (cs x).drop p.toNat = c :: (cs x).drop (p.toNat + 1) ∧ cs (Txt.item x p) = [c] := by
  have hk : p.toNat < (cs x).length := by rw [cs_len]; omega
  refine ⟨(cs x)[p.toNat], List.drop_eq_getElem_cons hk, ?_⟩
  have e : x.cps[p.toNat]? = some ((cs x)[p.toNat]) := by
    have hk' : p.toNat < x.cps.size := by have : x.cps.size = x.length := rfl; omega
    simp [cs, hk']
  have h := at_nonneg h0 e
  show ([(Txt.charAt x p).getD 0] : List Nat) = _
  have e2 : Txt.charAt x p = some ((cs x)[p.toNat]) := h
  rw [e2]
  rfl

/-- between two turns of the law's helper -/
def LpInv (text old new found : Str) (place : Int) : Prop :=
  cs found ++ put (cs old) (cs new) ((cs text).drop place.toNat) = put (cs old) (cs new) (cs text)
theorem LpInv.eq {text old new found : Str} {place : Int} (h : LpInv text old new found place) :
    cs found ++ put (cs old) (cs new) ((cs text).drop place.toNat) = put (cs old) (cs new) (cs text) := h
theorem LpInv.of {text old new found : Str} {place : Int} (h : cs found ++ put (cs old) (cs new) ((cs text).drop place.toNat) = put (cs old) (cs new) (cs text)) :
    LpInv text old new found place := h
abbrev LpAll (text old new found : Str) (place : Int) : Prop :=
  0 ≤ place ∧ place ≤ (text.length : Int) ∧ (found.length : Int) ≤ 2 * place ∧ text.length ≤ 200 ∧ 1 ≤ old.length ∧ old.length ≤ 2 ∧ new.length ≤ 2 ∧ LpInv text old new found place
theorem lp_start {x old new : Str} (hx : x.length ≤ 200) (h1 : 1 ≤ old.length) (h2 : old.length ≤ 2) (h3 : new.length ≤ 2) : LpAll x old new (Str.ofString "") 0 :=
  ⟨by omega, by omega, by decide, hx, h1, h2, h3, .of rfl⟩
theorem lp_yes {x old new f : Str} {p : Int} {k : Nat} (I : LpInv x old new f p) (h0 : 0 ≤ p) (hp : p < (x.length : Int)) (hf : (f.length : Int) ≤ 2 * p) (hx : x.length ≤ 200) (h1 : 1 ≤ old.length) (h2 : old.length ≤ 2) (h3 : new.length ≤ 2)
    (hk : old.length = k) (e : (Txt.slice x (some p) (some (p + (k : Int))) == old) = true) : LpAll x old new (f ++ new) (p + (k : Int)) := by
  have e' : cs (Txt.slice x (some p) (some (p + (k : Int)))) = cs old := by rw [eq_of_beq e]
  rw [slice_cs h0 (by omega) (by omega)] at e'
  have ek : (p + (k : Int) - p).toNat = k := by omega
  rw [ek] at e'
  have hpre : cs old <+: (cs x).drop p.toNat := by
    rw [List.prefix_iff_eq_take, cs_len, hk]
    exact e'.symm
  have hle := hpre.length_le
  rw [List.length_drop, cs_len, cs_len] at hle
  have et : (p + (k : Int)).toNat = p.toNat + k := by omega
  refine ⟨by omega, by omega, by rw [Str.length_append]; omega, hx, h1, h2, h3, .of ?_⟩
  rw [← I.eq, put_yes (by rw [cs_len]; exact h1) hpre, cs_app, cs_len, hk, List.drop_drop, et, List.append_assoc]
theorem lp_no {x old new f : Str} {p : Int} {k : Nat} (I : LpInv x old new f p) (h0 : 0 ≤ p) (hp : p < (x.length : Int)) (hf : (f.length : Int) ≤ 2 * p) (hx : x.length ≤ 200) (h1 : 1 ≤ old.length) (h2 : old.length ≤ 2) (h3 : new.length ≤ 2)
    (hk : old.length = k) (e : (Txt.slice x (some p) (some (p + (k : Int))) == old) = false) : LpAll x old new (f ++ Txt.item x p) (p + 1) := by
  obtain ⟨c, hd, hc⟩ := item_cs h0 hp
  have hlen : (Txt.item x p).length = 1 := rfl
  have et : (p + 1).toNat = p.toNat + 1 := by omega
  refine ⟨by omega, by omega, by rw [Str.length_append, hlen]; omega, hx, h1, h2, h3, .of ?_⟩
  have hn : ¬ cs old <+: c :: (cs x).drop (p.toNat + 1) := by
    intro hpre
    rw [← hd] at hpre
    rw [List.prefix_iff_eq_take, cs_len, hk] at hpre
    have e' : cs (Txt.slice x (some p) (some (p + (k : Int)))) = cs old := by
      rw [slice_cs h0 (by omega) (by omega)]
      have ek : (p + (k : Int) - p).toNat = k := by omega
      rw [ek]
      exact hpre.symm
    have e2 : Txt.slice x (some p) (some (p + (k : Int))) = old := Str.ext' (Array.toList_inj.mp e')
    rw [e2] at e
    simp at e
  rw [← I.eq, hd, put_no hn, cs_app, hc, et, List.append_assoc]
  rfl
theorem lp_end {x old new f : Str} {p : Int} (I : LpInv x old new f p) (h : ¬ p < (x.length : Int)) : f = putS x old new := by
  replace I := I.eq
  rw [List.drop_of_length_le (by rw [cs_len]; omega), put_nil, List.append_nil] at I
  exact eq_of_cs I
theorem joinlen {x : Str} {ns : List Int} {f : Int → Bool} (h : x.length = (ns.filter f).length) (h2 : ¬ ((63 : Nat) : Int) < (ns.length : Int)) : x.length ≤ 63 := by
  have := List.length_filter_le f ns
  omega
end Mine
namespace Mine
open PySem.Builtin PySem.Builtin.Str PySem.StrLaws PySem.Calls
section
variable {prog : Program} {w : World} {A : Around} {E : Value → Shared → Prop} {s : Shared} {h₀ : Heap} {L : Addr} {m : PySem.Str → Option Value} {news : List (Addr × Obj)} {x y z : PySem.Str} {t u : Tok} {Q : Value → Shared → Prop} {vs : List Value} {ys : List PySem.Str} {D : Addr} {value slice : PySem.Expr}
theorem r_split (hF : Fr h₀ L s.heap m) (hN : News h₀ L s.heap news) (hy : (y.length == 0) = false) (hx : x.length ≤ 1000)
    (h : ∀ D vs h' k, StrsAre vs (Txt.split x y) → Fr h₀ L h' m → News h₀ L h' ((D, listOf vs.toArray 0) :: news) → (∀ p ∈ news, p.1 < D) → Q (.ref D) { s with heap := h', toks := k }) :
    wpAny (model prog w) A (call (.builtin "str.split") [.str x t, .str y u]) Q E s :=
  KSpl.split1 hF hN hy (fun D l h' k e a F N l1 => h D (strValues l) h' k (e ▸ a) F N l1) (by rw [sizeLine_eq]; omega)
theorem r_join (hl : s.heap.IsList D vs.toArray) (hi : StrsAre vs (Txt.split x y)) (hy : 1 ≤ y.length) (hk : Builtin.Str.strKind y = 1) (hx : x.length ≤ 1000) (hz : z.length ≤ 2)
    (h : ∀ t' k, (putS x y z).length ≤ 2 * x.length → Q (.str (putS x y z) t') { s with toks := k }) : wpAny (model prog w) A (call (.builtin "str.join") [.str z t, .ref D]) Q E s := by
  refine join_listW hl hi (by omega) (Nat.le_trans (split_weight x y hy) (by omega)) fun t' k => ?_
  rw [join_split_putS hy hk]
  exact h t' k (putS_len hy hz)
theorem r_strip0 (hx : x.length ≤ 1000) (h : ∀ t' k, Q (.str (Txt.strip x) t') { s with toks := k }) : wpAny (model prog w) A (call (.builtin "str.strip") [.str x t]) Q E s :=
  SC.strip h (by rw [sizeLine_eq]; omega)
theorem r_strip1 (hA : Abc x) (hx : x.length ≤ 1000) (h : ∀ t' k, Q (.str (Txt.strip x) t') { s with toks := k }) : wpAny (model prog w) A (call (.builtin "str.strip") [.str x t, .str (Str.ofString " \n") u]) Q E s :=
  SC.stripChars (fun t' k => by rw [strip_same hA]; exact h t' k) (by rw [sizeLine_eq]; omega)
theorem r_rows (hF : Fr h₀ L s.heap m) (hN : News h₀ L s.heap news) (hx : x.length ≤ 1000)
    (h : ∀ D vs h' k, StrsAre vs (rowsOf x) → Fr h₀ L h' m → News h₀ L h' ((D, listOf vs.toArray 0) :: news) → (∀ p ∈ news, p.1 < D) → 1 ≤ (rowsOf x).length → (rowsOf x).length ≤ 1001 → Q (.ref D) { s with heap := h', toks := k }) :
    wpAny (model prog w) A (call (.builtin "str.split") [.str (Txt.strip x) t, .str (Str.ofString "\n") u]) Q E s :=
  r_split hF hN (by decide +kernel) (Nat.le_trans (len_strip x) hx) fun D vs h' k a F N l1 => h D vs h' k a F N l1 (rows_pos x) (by have := rows_weight x; omega)
theorem r_len (hl : s.heap.IsList D vs.toArray) (hi : StrsAre vs ys) (hn : ys.length ≤ 1001) (h : Q (.int (ys.length : Nat) (s.toks + 1)) { s with toks := s.toks + 1 + 1 }) : wpAny (model prog w) A (call (.builtin "len") [.ref D]) Q E s := by
  have e : vs.toArray.size = ys.length := by rw [List.size_toArray]; exact hi.len_eq
  refine Calls.call_len_list hl (by omega) ?_
  rw [e]
  exact h
theorem r_item0 (hl : s.heap.IsList D vs.toArray) (hi : StrsAre vs ys) (hn : 0 < ys.length) (h : ∀ t', Q (.str (ys.getD 0 Str.empty) t') s)
    (hs : subscripted slice false (.ref D) (.int 0 u) = operate [.ref D, .int 0 u] (getItem (.ref D) (.int 0 u)) := by with_unfolding_all rfl) (hg : ∀ r, letTemporaryGo value (.ref D) r = pure () := by intro _; with_unfolding_all rfl) :
    wpAny (model prog w) A (subscriptTail value slice (.ref D) (.int 0 u)) Q E s := item_strsA hl hi (by omega) (by omega) (by omega) h hs hg
theorem r_item1 (hl : s.heap.IsList D vs.toArray) (hi : StrsAre vs ys) (hn : 1 < ys.length) (h : ∀ t', Q (.str (ys.getD 1 Str.empty) t') s)
    (hs : subscripted slice false (.ref D) (.int 1 u) = operate [.ref D, .int 1 u] (getItem (.ref D) (.int 1 u)) := by with_unfolding_all rfl) (hg : ∀ r, letTemporaryGo value (.ref D) r = pure () := by intro _; with_unfolding_all rfl) :
    wpAny (model prog w) A (subscriptTail value slice (.ref D) (.int 1 u)) Q E s := item_strsA hl hi (by omega) (by omega) (by omega) h hs hg
theorem r_drop2 {tk : Tok} (F : Fr h₀ L s.heap m) (N : News h₀ L s.heap news) (hl : s.heap.IsList D vs.toArray) (hi : StrsAre vs ys) (hn : ys.length ≤ 1001) (h2 : 2 ≤ ys.length)
    (h : ∀ D' ws h', StrsAre ws (ys.drop 2) → Fr h₀ L h' m → News h₀ L h' ((D', listOf ws.toArray 0) :: news) → (∀ p ∈ news, p.1 < D') → Q (.ref D') { s with heap := h' })
    (hs : subscripted slice false (.ref D) (.ref s.heap.objs.size) = operate [.ref s.heap.objs.size, .ref D] (getItem (.ref D) (.ref s.heap.objs.size)) := by with_unfolding_all rfl)
    (ht : ∀ r, letTemporaryGo value (.ref D) r = pure () := by intro _; with_unfolding_all rfl) :
    wpAny (model prog w) A (subscriptTail value slice (.ref D) (.ref s.heap.objs.size)) Q E { s with heap := s.heap.push { cls := .type "slice", data := .fields #[.int 2 tk, .none, .none] } } :=
  kmk_slice_lit F N hl (.int 2 tk) .none (congrArg Array.toList (slicePick_from vs.toArray 2 (by rw [List.size_toArray, hi.len_eq]; exact h2))) (fun D' h' F' N' l1 => h D' (vs.drop 2) h' (hi.drop' 2) F' N' l1) hs ht (by rw [List.size_toArray, hi.len_eq, sizeLine_eq]; omega)
theorem weight_drop (k : Nat) : ∀ (l : List PySem.Str), ((l.drop k).map (·.length)).sum + (l.drop k).length ≤ (l.map (·.length)).sum + l.length := by
  induction k with
  | zero => intro l; simp
  | succ k ih =>
    intro l
    cases l with
    | nil => simp
    | cons a r =>
      have := ih r
      simp only [List.drop_succ_cons, List.map_cons, List.sum_cons, List.length_cons] at this ⊢
      omega
theorem r_joinAll (hl : s.heap.IsList D vs.toArray) (hi : StrsAre vs (rowsOf x)) (hx : x.length ≤ 1000)
    (h : ∀ t' k, Q (.str (Txt.join (Str.ofString "\n") (rowsOf x)) t') { s with toks := k }) : wpAny (model prog w) A (call (.builtin "str.join") [.str (Str.ofString "\n") t, .ref D]) Q E s :=
  join_listW hl hi (by decide +kernel) (Nat.le_trans (rows_weight x) (by omega)) h
theorem r_joinRest (hl : s.heap.IsList D vs.toArray) (hi : StrsAre vs ((rowsOf x).drop 2)) (hx : x.length ≤ 1000)
    (h : ∀ t' k, Q (.str (Txt.join (Str.ofString "\n") ((rowsOf x).drop 2)) t') { s with toks := k }) : wpAny (model prog w) A (call (.builtin "str.join") [.str (Str.ofString "\n") t, .ref D]) Q E s :=
  join_listW hl hi (by decide +kernel) (Nat.le_trans (weight_drop 2 _) (Nat.le_trans (rows_weight x) (by omega))) h
theorem row_mem {l : List PySem.Str} (h : 1 < l.length) : l.getD 1 Str.empty ∈ l := by
  rw [List.getD_eq_getElem?_getD, List.getElem?_eq_getElem h]
  exact List.getElem_mem h
theorem row_len {x y : PySem.Str} (h : y ∈ rowsOf x) : y.length ≤ x.length := by
  have h1 : y.length ≤ ((rowsOf x).map (·.length)).sum := by
    have : ∀ l : List PySem.Str, y ∈ l → y.length ≤ (l.map (·.length)).sum := by
      intro l
      induction l with
      | nil => intro h; simp at h
      | cons a r ih =>
        intro h
        rw [List.map_cons, List.sum_cons]
        rcases List.mem_cons.mp h with rfl | h
        · omega
        · have := ih h; omega
    exact this _ h
  have h2 := rows_weight x
  have h3 := rows_pos x
  omega
/-- a text of some length -/
def Full (r : PySem.Str) : Prop := r.length ≠ 0
theorem r_tup2 {tk : Tok} {T : Addr} {a b : Value} {rest : List Value} (F : Fr h₀ L s.heap m) (N : News h₀ L s.heap news) (hm : (T, ({ cls := .type "tuple", data := .seq (a :: b :: rest).toArray } : Obj)) ∈ news) (hr : rest.length ≤ 1000)
    (h : ∀ D h', Fr h₀ L h' m → News h₀ L h' ((D, { cls := .type "tuple", data := .seq rest.toArray }) :: news) → (∀ p ∈ news, p.1 < D) → Q (.ref D) { s with heap := h' })
    (hs : subscripted slice false (.ref T) (.ref s.heap.objs.size) = operate [.ref s.heap.objs.size, .ref T] (getItem (.ref T) (.ref s.heap.objs.size)) := by with_unfolding_all rfl)
    (hg : ∀ r, letTemporaryGo value (.ref T) r = pure () := by intro _; with_unfolding_all rfl) :
    wpAny (model prog w) A (subscriptTail value slice (.ref T) (.ref s.heap.objs.size)) Q E { s with heap := s.heap.push { cls := .type "slice", data := .fields #[.int 2 tk, .none, .none] } } :=
  slice_tuple_from (a := 2) F N (News.isTup N hm) (by decide) (by simp) (fun h' F' N' => h _ h' F' N' fun p hp => Nat.lt_succ_of_lt (Heap.lt_size (N p hp).1)) hs hg (by rw [sizeLine_eq, List.size_toArray]; simp; omega)
theorem r_tuple {ws : List Value} (F : Fr h₀ L s.heap m) (N : News h₀ L s.heap news) (hr : ws.length ≤ 1000)
    (h : ∀ D h', Fr h₀ L h' m → News h₀ L h' ((D, { cls := .type "tuple", data := .seq ws.toArray }) :: news) → (∀ p ∈ news, p.1 < D) → Q (.ref D) { s with heap := h' }) :
    wpAny (model prog w) A (newTuple ws) Q E s :=
  newTuple_N F N (fun h' F' N' => h _ h' F' N' fun p hp => Heap.lt_size (N p hp).1) (by rw [sizeLine_eq]; omega)
theorem r_rstrip (hA : Abc x) (hn : 1 < (rowsOf x).length) (hx : x.length ≤ 1000)
    (h1 : blank ((rowsOf x).getD 1 Str.empty) = true → ∀ t' k, Q (.str (Str.ofString "") t') { s with toks := k })
    (h2 : blank ((rowsOf x).getD 1 Str.empty) = false → ∀ r t' k, 1 ≤ r.length → (r == Str.ofString "") = false → r.length ≤ 1000 → Q (.str r t') { s with toks := k }) :
    wpAny (model prog w) A (call (.builtin "str.rstrip") [.str ((rowsOf x).getD 1 Str.empty) t]) Q E s := by
  have hm := row_mem hn
  have hl := row_len hm
  refine SC.rstrip (fun t' k => ?_) (by rw [sizeLine_eq]; omega)
  have hb := rstrip_blank hA hm
  cases hq : blank ((rowsOf x).getD 1 Str.empty) with
  | true => rw [str_nil (hb.mpr hq)]; exact h1 hq t' k
  | false =>
    have h0 : ¬ (Txt.rstrip ((rowsOf x).getD 1 Str.empty)).length = 0 := fun e => by rw [hb.mp e] at hq; exact absurd hq (by decide)
    refine h2 hq _ t' k (by omega) ?_ (Nat.le_trans (len_rstrip _) (by omega))
    refine beq_eq_false_iff_ne.mpr fun e => h0 ?_
    rw [e]; decide +kernel
theorem r_rstripT (hA : Abc x) (hn : 1 < (rowsOf x).length) (hx : x.length ≤ 1000) (hb : blank ((rowsOf x).getD 1 Str.empty) = true)
    (h1 : ∀ t' k, Q (.str (Str.ofString "") t') { s with toks := k }) : wpAny (model prog w) A (call (.builtin "str.rstrip") [.str ((rowsOf x).getD 1 Str.empty) t]) Q E s :=
  r_rstrip hA hn hx (fun _ => h1) fun e => by rw [hb] at e; exact absurd e (by decide)
theorem r_rstripF (hA : Abc x) (hn : 1 < (rowsOf x).length) (hx : x.length ≤ 1000) (hb : blank ((rowsOf x).getD 1 Str.empty) = false)
    (h2 : ∀ r t' k, 1 ≤ r.length → (r == Str.ofString "") = false → r.length ≤ 1000 → Q (.str r t') { s with toks := k }) : wpAny (model prog w) A (call (.builtin "str.rstrip") [.str ((rowsOf x).getD 1 Str.empty) t]) Q E s :=
  r_rstrip hA hn hx (fun e => by rw [hb] at e; exact absurd e (by decide)) fun _ => h2
theorem r_stripB (hn : 1 < (rowsOf x).length) (hx : x.length ≤ 1000)
    (h1 : blank ((rowsOf x).getD 1 Str.empty) = true → ∀ t' k, Q (.str (Str.ofString "") t') { s with toks := k })
    (h2 : blank ((rowsOf x).getD 1 Str.empty) = false → ∀ r t' k, 1 ≤ r.length → (r == Str.ofString "") = false → r.length ≤ 1000 → Q (.str r t') { s with toks := k }) :
    wpAny (model prog w) A (call (.builtin "str.strip") [.str ((rowsOf x).getD 1 Str.empty) t, .str (Str.ofString " ") u]) Q E s := by
  have hm := row_mem hn
  have hl := row_len hm
  refine SC.stripChars (fun t' k => ?_) (by rw [sizeLine_eq]; omega)
  have hb := stripB_blank ((rowsOf x).getD 1 Str.empty)
  cases hq : blank ((rowsOf x).getD 1 Str.empty) with
  | true => rw [str_nil (hb.mpr hq)]; exact h1 hq t' k
  | false =>
    have h0 : ¬ (Txt.stripChars ((rowsOf x).getD 1 Str.empty) (Str.ofString " ")).length = 0 := fun e => by rw [hb.mp e] at hq; exact absurd hq (by decide)
    refine h2 hq _ t' k (by omega) ?_ (Nat.le_trans (len_stripChars _ _) (by omega))
    refine beq_eq_false_iff_ne.mpr fun e => h0 ?_
    rw [e]; decide +kernel
theorem abc_ok {y : PySem.Str} (h : Abc y) : PyData.strOk y = true := by
  unfold PyData.strOk
  refine Array.all_eq_true_iff_forall_mem.mpr fun c hc => ?_
  have := h c (by simpa [cs] using hc)
  unfold abcB at this
  simp only [Bool.or_eq_true, beq_iff_eq] at this
  exact decide_eq_true (by omega)
theorem abc_nil : Abc (Str.ofString "") := by
  intro c hc
  rw [show cs (Str.ofString "") = [] from by decide +kernel] at hc
  simp at hc
theorem abc_mem {y : PySem.Str} (h : Abc x) (hy : y ∈ rowsOf x) : Abc y := fun c hc => h c (mem_stripBy (mem_split hy hc))
theorem abc_row0 (h : Abc x) : Abc ((rowsOf x).getD 0 Str.empty) := by
  refine abc_mem h ?_
  rw [List.getD_eq_getElem?_getD, List.getElem?_eq_getElem (rows_pos x)]
  exact List.getElem_mem _
theorem abc_joined (h : Abc x) {l : List PySem.Str} (hl : ∀ y ∈ l, y ∈ rowsOf x) : Abc (Txt.join (Str.ofString "\n") l) := by
  intro c hc
  have hc' : c ∈ cs (glued (Str.ofString "\n") l) := hc
  rw [glued_eq_join] at hc'
  rcases mem_join hc' with ⟨p, hp, hc⟩ | h
  · exact abc_mem h (hl p hp) c hc
  · rw [show cs (Str.ofString "\n") = [10] from by decide +kernel] at h
    have : c = 10 := by simpa using h
    subst this
    rfl
theorem abc_all (h : Abc x) : Abc (Txt.join (Str.ofString "\n") (rowsOf x)) := abc_joined h fun _ hy => hy
theorem abc_rest (h : Abc x) : Abc (Txt.join (Str.ofString "\n") ((rowsOf x).drop 2)) := abc_joined h fun _ hy => List.mem_of_mem_drop hy
theorem r_ne2 {a b : Addr} {x1 x2 : PySem.Str} {t1 t2 u1 u2 : Tok} {n1 n2 : Nat} (N : News h₀ L s.heap news)
    (ha : (a, ({ cls := .type "tuple", data := .seq #[.str x1 t1, .str x2 t2] n1 } : Obj)) ∈ news) (hb : (b, ({ cls := .type "tuple", data := .seq #[.str x1 u1, .str x2 u2] n2 } : Obj)) ∈ news)
    (o1 : Abc x1) (o2 : Abc x2) (hu : A.units + 64 < cLine) (h : Q (.bool false) s) : wpAny (model prog w) A (compareOp .NotEq (.ref a) (.ref b)) Q E s := by
  have R : ∀ {c : Addr} {v1 v2 : Tok} {n : Nat}, (c, ({ cls := .type "tuple", data := .seq #[.str x1 v1, .str x2 v2] n } : Obj)) ∈ news → Reads s.heap (.ref c) (.tuple [.str x1, .str x2]) [] := fun hm =>
    reads_tuple_at (News.get N hm) rfl rfl (.cons (as := []) (.str _ _) (.cons (as := []) (.str _ _) .nil))
  have sh : SeqAt.shaped (.tuple [.str x1, .str x2]) = true := by simp [SeqAt.shaped, PyData.canLay0, PyData.canLayAll0, PyData.depth, PyData.depthAll, abc_ok o1, abc_ok o2]
  refine ne_dataH (R ha) (R hb) sh sh hu ?_
  have e : PyData.eqv (.tuple [.str x1, .str x2]) (.tuple [.str x1, .str x2]) = true := by simp [PyData.eqv, PyData.eqvAll]
  rw [e]
  exact h
theorem ints_of {zs : List Value} : ∀ {ns : List Int}, CarriedAll zs (ns.map PyData.int) → IntsAre zs ns := fun {ns} hc => by
  have h := CarriedAll.intsOf (as := ns) (f := fun a => a) hc
  simpa using h
theorem r_eqL {a b : Addr} {xs zs : List Value} {ns : List Int} (ha : s.heap.IsList a xs.toArray) (hi : IntsAre xs ns) (hb : s.heap.IsList b zs.toArray) (hc : CarriedAll zs (ns.map PyData.int)) (hu : A.units + 64 < cLine) (h : Q (.bool true) s) :
    wpAny (model prog w) A (compareOp .Eq (.ref a) (.ref b)) Q E s :=
  ke_eq_ints ha hb hi (ints_of hc) hu (by rw [decide_eq_true rfl]; exact h)
theorem r_neS (h : Q (.bool false) s) : wpAny (model prog w) A (compareOp .NotEq (.str x t) (.str x u)) Q E s := by
  refine PySem.P.ne_str ?_
  have e : (x.cps.toList != x.cps.toList) = false := by simp
  rw [e]
  exact h
theorem r_truthy {Q : Bool → Shared → Prop} (h1 : 1 ≤ x.length) (h2 : x.length ≤ 1000) (h : Q true { s with toks := s.toks + 1 + 1 }) : wpAny (model prog w) A (PySem.truthy (.str x t)) Q E s := by
  refine SBL.truthy (by omega) ?_
  have e : (((x.length : Nat) : Int) != 0) = true := bne_iff_ne.mpr (by omega)
  rw [e]
  exact h
theorem r_eqT {a b : Int} (e : a = b) (h : Q (.bool true) s) : wpAny (model prog w) A (compareOp .Eq (.int a t) (.int b u)) Q E s :=
  PyProof.Rows.eq_int (by rw [beq_iff_eq.mpr e]; exact h)
theorem r_eqF {a b : Int} (e : a ≠ b) (h : Q (.bool false) s) : wpAny (model prog w) A (compareOp .Eq (.int a t) (.int b u)) Q E s :=
  PyProof.Rows.eq_int (by rw [beq_eq_false_iff_ne.mpr e]; exact h)
end
/-- between two turns of _split_list -/
def SpInv (pre yes no : List Int) : Prop := yes = pre.filter (fun a => a.fmod 3 == 1) ∧ no = pre.filter (fun a => a.fmod 3 != 1)
abbrev SpAll (pre yes no : List Int) : Prop := SpInv pre yes no ∧ yes.length ≤ pre.length ∧ no.length ≤ pre.length
theorem sp_start : SpAll [] [] [] := ⟨⟨rfl, rfl⟩, Nat.le_refl _, Nat.le_refl _⟩
theorem sp_yes {pre yes no : List Int} {n : Int} (I : SpInv pre yes no) (h1 : yes.length ≤ pre.length) (h2 : no.length ≤ pre.length) (h : n.fmod 3 = 1) : SpAll (pre ++ [n]) (yes ++ [n]) no := by
  obtain ⟨a, b⟩ := I
  refine ⟨⟨?_, ?_⟩, by simp; omega, by simp; omega⟩
  · rw [List.filter_append, ← a]; simp [h]
  · rw [List.filter_append, ← b]; simp [h]
theorem sp_no {pre yes no : List Int} {n : Int} (I : SpInv pre yes no) (h1 : yes.length ≤ pre.length) (h2 : no.length ≤ pre.length) (h : n.fmod 3 ≠ 1) : SpAll (pre ++ [n]) yes (no ++ [n]) := by
  obtain ⟨a, b⟩ := I
  refine ⟨⟨?_, ?_⟩, by simp; omega, by simp; omega⟩
  · rw [List.filter_append, ← a]; simp [h]
  · rw [List.filter_append, ← b]; simp [h]
section
variable {M : Model} {A : Around} {E : Value → Shared → Prop} {s s' : Shared} {env : Env} {h₀ : Heap} {L : Addr} {m m' : PySem.Str → Option Value} {news news' : List (Addr × Obj)} {stored : List PySem.Str} {Q : Flow → Shared → Prop} {a b c : Stmt} {rest : List Stmt}
/-- behind some statements: the frame but for some names, and the ledger as it was -/
def CutAt (h₀ : Heap) (L : Addr) (s : Shared) (m : PySem.Str → Option Value) (news : List (Addr × Obj)) (stored : List PySem.Str) (s' : Shared) : Prop :=
  ∃ (h : Heap) (tk : Nat) (m' : PySem.Str → Option Value), s' = { s with heap := h, toks := tk } ∧ Fr h₀ L h m' ∧ News h₀ L h news ∧ ∀ z, stored.contains z = false → m' z = m z
def CutPost (h₀ : Heap) (L : Addr) (s : Shared) (m : PySem.Str → Option Value) (news : List (Addr × Obj)) (stored : List PySem.Str) (Q : Flow → Shared → Prop) (f : Flow) (s' : Shared) : Prop :=
  match f with
  | .next => CutAt h₀ L s m news stored s'
  | f => Q f s'
theorem cut_at {h : Heap} {tk : Nat} (F : Fr h₀ L h m') (N : News h₀ L h news') (hn : ∀ p ∈ news, p ∈ news') (hk : ∀ z, stored.contains z = false → m' z = m z) : CutAt h₀ L s m news stored { s with heap := h, toks := tk } :=
  ⟨h, tk, m', rfl, F, fun p hp => N p (hn p hp), hk⟩
theorem cut_after (c : CutAt h₀ L s m news stored s')
    (h2 : ∀ h tk (u : PySem.Str → Option Value), Fr h₀ L h (fun z => if stored.contains z then u z else m z) → News h₀ L h news → wpAny M A (execs rest env) Q E { s with heap := h, toks := tk }) : wpAny M A (execs rest env) Q E s' := by
  obtain ⟨h, tk, m', rfl, F, N, hk⟩ := c
  refine h2 h tk m' ?_ N
  have e : (fun z => if stored.contains z then m' z else m z) = m' := by
    funext z
    cases hz : stored.contains z with
    | true => simp
    | false => simp [hk z hz]
  rw [e]
  exact F
theorem cut_post {f : Flow} : CutPost h₀ L s m news stored Q f s' →
    (∀ h tk (u : PySem.Str → Option Value), Fr h₀ L h (fun z => if stored.contains z then u z else m z) → News h₀ L h news → wpAny M A (execs rest env) Q E { s with heap := h, toks := tk }) →
    (match f with | .next => wpAny M A (execs rest env) Q E s' | f => Q f s') := by
  intro p h2
  cases f with
  | next => exact cut_after p h2
  | ret v => exact p
  | brk => exact p
  | cont => exact p
theorem cut1 (F : Fr h₀ L s.heap m) (N : News h₀ L s.heap news) (h1 : wpAny M A (exec a env) (CutPost h₀ L s m news stored Q) E s)
    (h2 : ∀ h tk (u : PySem.Str → Option Value), Fr h₀ L h (fun z => if stored.contains z then u z else m z) → News h₀ L h news → wpAny M A (execs rest env) Q E { s with heap := h, toks := tk }) :
    wpAny M A (execs (a :: rest) env) Q E s :=
  wpAny_execs_cons (wpAny_mono h1 (fun _ _ p => cut_post p h2) fun _ _ x => x)
theorem cut3 (F : Fr h₀ L s.heap m) (N : News h₀ L s.heap news)
    (h1 : wpAny M A (exec a env) (fun f s₁ => match f with
      | .next => wpAny M A (exec b env) (fun f s₂ => match f with
        | .next => wpAny M A (exec c env) (CutPost h₀ L s m news stored Q) E s₂
        | f => Q f s₂) E s₁
      | f => Q f s₁) E s)
    (h2 : ∀ h tk (u : PySem.Str → Option Value), Fr h₀ L h (fun z => if stored.contains z then u z else m z) → News h₀ L h news → wpAny M A (execs rest env) Q E { s with heap := h, toks := tk }) :
    wpAny M A (execs (a :: b :: c :: rest) env) Q E s := by
  refine wpAny_execs_cons (wpAny_mono h1 (fun f s₁ p => ?_) fun _ _ x => x)
  cases f with
  | next =>
    refine wpAny_execs_cons (wpAny_mono p (fun f s₂ p => ?_) fun _ _ x => x)
    cases f with
    | next => exact wpAny_execs_cons (wpAny_mono p (fun _ _ p => cut_post p h2) fun _ _ x => x)
    | ret v => exact p
    | brk => exact p
    | cont => exact p
  | ret v => exact p
  | brk => exact p
  | cont => exact p
theorem cut2 (F : Fr h₀ L s.heap m) (N : News h₀ L s.heap news)
    (h1 : wpAny M A (exec a env) (fun f s₁ => match f with
      | .next => wpAny M A (exec b env) (CutPost h₀ L s m news stored Q) E s₁
      | f => Q f s₁) E s)
    (h2 : ∀ h tk (u : PySem.Str → Option Value), Fr h₀ L h (fun z => if stored.contains z then u z else m z) → News h₀ L h news → wpAny M A (execs rest env) Q E { s with heap := h, toks := tk }) :
    wpAny M A (execs (a :: b :: rest) env) Q E s := by
  refine wpAny_execs_cons (wpAny_mono h1 (fun f s₁ p => ?_) fun _ _ x => x)
  cases f with
  | next => exact wpAny_execs_cons (wpAny_mono p (fun _ _ p => cut_post p h2) fun _ _ x => x)
  | ret v => exact p
  | brk => exact p
  | cont => exact p
theorem cut4 {d : Stmt} (F : Fr h₀ L s.heap m) (N : News h₀ L s.heap news)
    (h1 : wpAny M A (exec a env) (fun f s₁ => match f with
      | .next => wpAny M A (exec b env) (fun f s₂ => match f with
        | .next => wpAny M A (exec c env) (fun f s₃ => match f with
          | .next => wpAny M A (exec d env) (CutPost h₀ L s m news stored Q) E s₃
          | f => Q f s₃) E s₂
        | f => Q f s₂) E s₁
      | f => Q f s₁) E s)
    (h2 : ∀ h tk (u : PySem.Str → Option Value), Fr h₀ L h (fun z => if stored.contains z then u z else m z) → News h₀ L h news → wpAny M A (execs rest env) Q E { s with heap := h, toks := tk }) :
    wpAny M A (execs (a :: b :: c :: d :: rest) env) Q E s := by
  refine wpAny_execs_cons (wpAny_mono h1 (fun f s₁ p => ?_) fun _ _ x => x)
  cases f with
  | next =>
    refine wpAny_execs_cons (wpAny_mono p (fun f s₂ p => ?_) fun _ _ x => x)
    cases f with
    | next =>
      refine wpAny_execs_cons (wpAny_mono p (fun f s₃ p => ?_) fun _ _ x => x)
      cases f with
      | next => exact wpAny_execs_cons (wpAny_mono p (fun _ _ p => cut_post p h2) fun _ _ x => x)
      | ret v => exact p
      | brk => exact p
      | cont => exact p
    | ret v => exact p
    | brk => exact p
    | cont => exact p
  | ret v => exact p
  | brk => exact p
  | cont => exact p
end
end Mine
namespace Mine
/-- a mark: the stage is passed -/
def Pass (n : String) : Prop := True
theorem pass {n : String} : Pass n := trivial
end Mine
local macro_rules | `(tactic| walk_at "subscriptTail Name Slice str ref") => `(tactic| (k_here; (with_reducible rename Fr _ _ _ _ => F'); (with_reducible rename News _ _ _ _ => N'); first
  | ((with_reducible show wpAny _ _ (subscriptTail _ (Expr.Slice none (some _) none _) _ _) _ _ _); (refine slice_strN_ns_len (hsz := ?hsz) (s := ⟨_, _, _, _, _⟩) F' N' ?_); (case hsz => ((try rw [sizeLine_eq]); omega)); intro _ _ _ _ _ _)
  | ((with_reducible show wpAny _ _ (subscriptTail _ (Expr.Slice (some _) none none _) _ _) _ _ _); (refine slice_strN_sn_len (hsz := ?hsz) (s := ⟨_, _, _, _, _⟩) F' N' ?_); (case hsz => ((try rw [sizeLine_eq]); omega)); intro _ _ _ _ _ _)
  | ((with_reducible show wpAny _ _ (subscriptTail _ (Expr.Slice (some _) (some _) none _) _ _) _ _ _); (refine slice_strN_ss_len (hsz := ?hsz) (s := ⟨_, _, _, _, _⟩) F' N' ?_); (case hsz => ((try rw [sizeLine_eq]); omega)); intro _ _ _ _ _ _)))
local macro_rules | `(tactic| walk_at "subscriptTail Name Name str int") => `(tactic| (k_here; (with_reducible show wpAny _ _ (subscriptTail _ _ (Value.str _ _) (Value.int _ _)) _ _ _); (refine KXi.item (n := _) rfl (by omega) (by omega) (by omega) ?_); intro kxiE))
local macro_rules | `(tactic| walk_at "exec Assign") => `(tactic| ((with_reducible show wpAny _ _ (exec (Stmt.Assign [Expr.Name (Str.ofString "size") _] _ _) _) _ _ _); (fail_if_success (have : Mine.Pass "size" := by with_reducible assumption)); k_dflt ((have pp := Mine.pass (n := "size")); (with_reducible rename Str.length (Txt.join _ _) = _ => hlen); (with_reducible rename ¬ ((63 : Nat) : Int) < _ => hle); (have hx := Mine.joinlen hlen hle); (clear hlen); (rw [filter_true'] at *); (have hA := Mine.abc_join (by assumption)); (generalize Txt.join _ _ = x at *))))
local macro_rules | `(tactic| walk_at "exec Return some") => `(tactic| k_dflt ((with_reducible rename Mine.LpInv _ _ _ _ _ => lpI); (have lpE := Mine.lp_end lpI (by assumption)); clear lpI; subst lpE))
local macro_rules | `(tactic| walk_at "exec Return some") => `(tactic| k_dflt ((with_reducible rename Mine.SpInv _ _ _ => spI); (obtain ⟨spA, spB⟩ := spI); subst spA; subst spB))
local macro_rules | `(tactic| walk_at "call builtin:str.split") => `(tactic| (k_here; (with_reducible show wpAny _ _ (call (Value.builtin "str.split") [Value.str _ _, Value.str _ _]) _ _ _); k_dflt ((refine Mine.r_split (by k_asm) (by k_asm) (by decide +kernel) (by omega) ?_); (intro D' vs' h' k' e' F' N' l1); (try k_lt l1))))
local macro_rules | `(tactic| walk_at "call builtin:str.split") => `(tactic| (k_here; (with_reducible show wpAny _ _ (call (Value.builtin "str.split") [Value.str (Txt.strip _) _, Value.str _ _]) _ _ _); k_dflt ((refine Mine.r_rows (by k_asm) (by k_asm) (by omega) ?_); (intro D' vs' h' k' e' F' N' l1 r1 r2); (try k_lt l1))))
local macro_rules | `(tactic| walk_at "call builtin:str.join") => `(tactic| (k_here; (with_reducible show wpAny _ _ (call (Value.builtin "str.join") [Value.str _ _, Value.ref _]) _ _ _); k_dflt ((refine' Mine.r_join ?hl ?hi ?hy ?hk ?hx ?hz ?_; (case hl => is_list); (case hi => with_reducible assumption); (case hy => decide +kernel); (case hk => decide +kernel); (case hx => omega); (case hz => decide +kernel)); (intro t' k' e'))))
local macro_rules | `(tactic| walk_at "call builtin:str.join") => `(tactic| (k_here; (with_reducible show wpAny _ _ (call (Value.builtin "str.join") [Value.str _ _, Value.ref _]) _ _ _); k_dflt (first
  | (refine' Mine.r_joinAll ?hl ?hi ?hx ?_; (case hl => is_list); (case hi => with_reducible assumption); (case hx => omega); (intro t' k'))
  | (refine' Mine.r_joinRest ?hl ?hi ?hx ?_; (case hl => is_list); (case hi => with_reducible assumption); (case hx => omega); (intro t' k')))))
local macro_rules | `(tactic| walk_at "call builtin:str.strip") => `(tactic| (k_here; first
  | ((with_reducible show wpAny _ _ (call (Value.builtin "str.strip") [Value.str _ _]) _ _ _); k_dflt ((refine Mine.r_strip0 (by omega) ?_); (intro t' k')))
  | ((with_reducible show wpAny _ _ (call (Value.builtin "str.strip") [Value.str (List.getD (Mine.rowsOf _) _ _) _, Value.str _ _]) _ _ _); k_dflt ((refine Mine.r_stripB (by omega) (by omega) ?_ ?_); (intro hb' t' k'); (rotate_left; intro hb' r' t' k' e1' e2' e3'); rotate_left))
  | ((with_reducible show wpAny _ _ (call (Value.builtin "str.strip") [Value.str _ _, Value.str _ _]) _ _ _); k_dflt ((refine Mine.r_strip1 (by with_reducible assumption) (by omega) ?_); (intro t' k')))))
local macro_rules | `(tactic| walk_at "call builtin:str.rstrip") => `(tactic| (k_here; (with_reducible show wpAny _ _ (call (Value.builtin "str.rstrip") [Value.str (List.getD (Mine.rowsOf _) _ _) _]) _ _ _); k_dflt (first
  | (refine Mine.r_rstripT (by with_reducible assumption) (by omega) (by omega) (by with_reducible assumption) ?_; intro t' k')
  | (refine Mine.r_rstripF (by with_reducible assumption) (by omega) (by omega) (by with_reducible assumption) ?_; intro r' t' k' e1' e2' e3'))))
local macro_rules | `(tactic| walk_at "compareOp NotEq ref ref") => `(tactic| (k_here; k_dflt (refine' Mine.r_ne2 ?N ?a ?b ?o1 ?o2 ?u ?_; (case N => k_asm); (case a => k_mem); (case b => k_mem); (case o1 => (first | exact Mine.abc_nil | exact Mine.abc_row0 (by with_reducible assumption) | exact Mine.abc_all (by with_reducible assumption) | exact Mine.abc_rest (by with_reducible assumption))); (case o2 => (first | exact Mine.abc_nil | exact Mine.abc_row0 (by with_reducible assumption) | exact Mine.abc_all (by with_reducible assumption) | exact Mine.abc_rest (by with_reducible assumption))); (case u => ke_room))))
local macro_rules | `(tactic| walk_at "newTuple") => `(tactic| (k_here; k_dflt (refine' Mine.r_tuple ?F ?N ?hr ?_; (case F => k_asm); (case N => k_asm); (case hr => exact Nat.le_of_ble_eq_true rfl); (intro D' h' F' N' l1); (try k_lt l1))))
local macro_rules | `(tactic| walk_at "call builtin:len") => `(tactic| (k_here; (with_reducible show wpAny _ _ (call (Value.builtin "len") [Value.ref _]) _ _ _); k_dflt (refine' Mine.r_len ?hl ?hi ?hn ?_; (case hl => is_list); (case hi => with_reducible assumption); (case hn => omega))))
local macro_rules | `(tactic| walk_at "subscriptTail Name Constant ref int") => `(tactic| (k_here; first
  | ((with_reducible show wpAny _ _ (subscriptTail _ _ (Value.ref _) (Value.int 0 _)) _ _ _); k_dflt ((refine' Mine.r_item0 ?hl ?hi ?hn ?_; (case hl => is_list); (case hi => with_reducible assumption); (case hn => omega)); (intro t')))
  | ((with_reducible show wpAny _ _ (subscriptTail _ _ (Value.ref _) (Value.int 1 _)) _ _ _); k_dflt ((refine' Mine.r_item1 ?hl ?hi ?hn ?_; (case hl => is_list); (case hi => with_reducible assumption); (case hn => omega)); (intro t')))))
local macro_rules | `(tactic| walk_at "subscriptTail Name Slice ref ref") => `(tactic| (k_here; (with_reducible show wpAny _ _ (subscriptTail _ (Expr.Slice (some _) none none _) (Value.ref _) (Value.ref _)) _ _ _); k_dflt (first
  | (refine' Mine.r_tup2 (s := ⟨_, _, _, _, _⟩) ?F ?N ?hm ?hr ?_; (case F => k_asm); (case N => k_asm); (case hm => k_mem); (case hr => exact Nat.le_of_ble_eq_true rfl); (intro D' h' F' N' l1); (try k_lt l1))
  | (refine' Mine.r_drop2 (s := ⟨_, _, _, _, _⟩) ?F ?N ?hl ?hi ?hn ?h2 ?_; (case F => k_asm); (case N => k_asm); (case hl => is_list); (case hi => with_reducible assumption); (case hn => omega); (case h2 => omega); (intro D' ws' h' e' F' N' l1); (try k_lt l1)))))
local macro_rules | `(tactic| walk_at "compareOp Eq int int") => `(tactic| (k_here; (with_reducible show wpAny _ _ (compareOp CmpOp.Eq (Value.int (((Mine.rowsOf _).length : Nat) : Int) _) _) _ _ _); k_dflt (first | refine Mine.r_eqT (by omega) ?_ | refine Mine.r_eqF (by omega) ?_)))
local macro_rules | `(tactic| walk_at "execs cons") => `(tactic| (k_here; (with_reducible show wpAny _ _ (execs (Stmt.Assign [Expr.Name (Str.ofString "told") _] _ _ :: _ :: _ :: _) _) _ _ _); k_dflt ((with_reducible rename Fr _ _ _ _ => cF'); (with_reducible rename News _ _ _ _ => cN'); (refine Mine.cut3 (stored := [Str.ofString "told", Str.ofString "room"]) cF' cN' ?_ ?_); rotate_left; (intro kH kTk kU kFr kNews); (clear cF' cN'); rotate_left)))
local macro_rules | `(tactic| walk_at "execs cons") => `(tactic| (k_here; (with_reducible show wpAny _ _ (execs (Stmt.Assign [Expr.Name (Str.ofString "once") _] _ _ :: _ :: _) _) _ _ _); k_dflt ((with_reducible rename Fr _ _ _ _ => cF'); (with_reducible rename News _ _ _ _ => cN'); (refine Mine.cut2 (stored := [Str.ofString "once"]) cF' cN' ?_ ?_); rotate_left; (intro kH kTk kU kFr kNews); (clear cF' cN'); rotate_left)))
local macro_rules | `(tactic| walk_at "execs cons") => `(tactic| (k_here; (with_reducible show wpAny _ _ (execs (Stmt.Assign [Expr.Name (Str.ofString "rows") _] _ _ :: _ :: _ :: _ :: _) _) _ _ _); k_dflt ((with_reducible rename Fr _ _ _ _ => cF'); (with_reducible rename News _ _ _ _ => cN'); (refine Mine.cut4 (stored := [Str.ofString "rows", Str.ofString "due"]) cF' cN' ?_ ?_); rotate_left; (intro kH kTk kU kFr kNews); (clear cF' cN'); rotate_left)))
local macro_rules | `(tactic| walk_at "CutPost") => `(tactic| (dsimp only [Mine.CutPost]))
local macro_rules | `(tactic| walk_at "CutAt") => `(tactic| (k_dflt ((with_reducible rename Fr _ _ _ _ => cF'); (with_reducible rename News _ _ _ _ => cN'); (refine Mine.cut_at cF' cN' ?hn ?hk); (case hn => exact List.forall_mem_cons.mpr ⟨by k_mem, List.forall_mem_nil _⟩); (case hk => (intro z h3; first | rfl | ((simp only [List.contains_cons, List.contains_nil, Bool.or_false, Bool.or_eq_false_iff, beq_eq_false_iff_ne, ne_eq] at h3); (simp [h3]; done)))))))
local macro_rules | `(tactic| walk_at "compareOp Eq ref ref") => `(tactic| (k_here; (with_reducible show wpAny _ _ (compareOp CmpOp.Eq (Value.ref _) (Value.ref _)) _ _ _); k_dflt (refine' Mine.r_eqL ?ha ?hi ?hb ?hc ?hu ?_; (case ha => is_list); (case hi => with_reducible assumption); (case hb => with_reducible assumption); (case hc => with_reducible assumption); (case hu => ke_room))))
local macro_rules | `(tactic| walk_at "compareOp NotEq str str") => `(tactic| (k_here; with_reducible refine Mine.r_neS ?_))
local macro_rules | `(tactic| walk_at "truthy str") => `(tactic| (k_here; (with_reducible show wpAny _ _ (PySem.truthy (Value.str _ _)) _ _ _); k_dflt (refine Mine.r_truthy (by omega) (by omega) ?_)))
set_option maxRecDepth 100000 in
set_option maxHeartbeats 8000000 in
theorem PySem.Challenge.cw_xe0053_01_holds : PySem.Challenge.rw_xe0053_01.Holds := by
  k_with "exec While Compare cons nil" => k_while_given ["text", "old", "new"] (fun text old new script found place => Mine.LpAll text old new found place) (fun text old new script found place => text.length - place.toNat) "found" "place"
  k_with "pyIter ref" => k_state (fun pre yes no => Mine.SpAll pre yes no) "yes" "no"
  k_with "state" => ((try dsimp only); first
    | with_reducible exact Mine.sp_start
    | (with_reducible refine Mine.sp_yes ?_ ?_ ?_ ?_) <;> (with_reducible assumption)
    | (with_reducible refine Mine.sp_no ?_ ?_ ?_ ?_) <;> (with_reducible assumption)
    | (with_reducible refine Mine.lp_yes (k := 2) ?_ ?_ ?_ ?_ ?_ ?_ ?_ ?_ ?_ ?_) <;> first | (with_reducible assumption) | decide
    | (with_reducible refine Mine.lp_yes (k := 1) ?_ ?_ ?_ ?_ ?_ ?_ ?_ ?_ ?_ ?_) <;> first | (with_reducible assumption) | decide
    | (with_reducible refine Mine.lp_no (k := 2) ?_ ?_ ?_ ?_ ?_ ?_ ?_ ?_ ?_ ?_) <;> first | (with_reducible assumption) | decide
    | (with_reducible refine Mine.lp_no (k := 1) ?_ ?_ ?_ ?_ ?_ ?_ ?_ ?_ ?_ ?_) <;> first | (with_reducible assumption) | decide
    | (with_reducible refine Mine.lp_start ?_ ?_ ?_ ?_) <;> first | omega | decide)
  open_k
