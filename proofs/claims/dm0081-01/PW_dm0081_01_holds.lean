import PyProof.Rows.All
import Wide.All
import OpenK.AllK
import Wide.FinOn
import PySem.Challenge.RW_dm0081_01
/-! A law of the parts of a parameter list (dm0081-01): _parseparam against a reading of the law's own. -/
set_option Elab.async false

section
open PySem PySem.W PyProof.Rows
namespace Mine
set_option maxRecDepth 100000 in
set_option maxHeartbeats 8000000 in
open_top hd for PySem.Challenge.rw_dm0081_01
end Mine
end

section
open PySem PySem.Builtin PySem.Builtin.Str PyProof.Rows
namespace Mine

/-! texts as lists of numbers -/
abbrev cod (x : PySem.Str) : List Nat := x.cps.toList
abbrev mkS (l : List Nat) : PySem.Str := ⟨l.toArray⟩
theorem cod_mkS (l : List Nat) : cod (mkS l) = l := by simp [cod, mkS]
theorem mkS_cod (x : PySem.Str) : mkS (cod x) = x := by cases x; simp [cod, mkS]
theorem cod_inj {x y : PySem.Str} (h : cod x = cod y) : x = y := by rw [← mkS_cod x, h, mkS_cod]
theorem cod_app (x y : PySem.Str) : cod (x ++ y) = cod x ++ cod y := by simp [cod, PySem.Str.cps_append]
theorem cod_len (x : PySem.Str) : (cod x).length = x.length := by simp [cod, PySem.Str.length]

/-! strip -/
abbrev sp : Nat → Bool := Unicode.isSpace
def lz (l : List Nat) : List Nat := l.dropWhile sp
def rz (l : List Nat) : List Nat := (l.reverse.dropWhile sp).reverse

theorem drop_takeWhile {α : Type} (p : α → Bool) : ∀ l : List α, l.drop (l.takeWhile p).length = l.dropWhile p
  | [] => rfl
  | a :: r => by
    rw [List.takeWhile_cons, List.dropWhile_cons]
    by_cases h : p a = true
    · rw [if_pos h, if_pos h]; simpa using drop_takeWhile p r
    · rw [if_neg h, if_neg h]; rfl
theorem take_rev (l : List Nat) (k : Nat) (hk : k ≤ l.length) : l.take (l.length - k) = (l.reverse.drop k).reverse := by
  rw [List.drop_reverse, List.reverse_reverse]
theorem strip_gen (l r : Bool) (x : PySem.Str) : cod (Txt.stripBy sp l r x) = (if r then rz else id) ((if l then lz else id) (cod x)) := by
  rw [stripBy_eq]
  show (strSub x _ _).cps.toList = _
  rw [StrLaws.strSub_toList]
  have hM : ∀ M : List Nat, M.take (M.length - (M.reverse.takeWhile sp).length) = rz M := fun M => by
    rw [take_rev _ _ (by simpa using takeWhile_len_le sp M.reverse), drop_takeWhile]; rfl
  have hn : x.cps.toList.length = x.length := by simp [PySem.Str.length]
  have hlo : stripLo sp l x ≤ x.length := by
    unfold stripLo
    cases l
    · simp
    · simpa [PySem.Str.length] using takeWhile_len_le sp x.cps.toList
  have hd : x.cps.toList.drop (stripLo sp l x) = (if l then lz else id) (cod x) := by
    unfold stripLo
    cases l
    · rfl
    · exact drop_takeWhile sp _
  cases r
  · show List.take (x.length - stripLo sp l x) _ = _
    rw [hd]
    show _ = (if l then lz else id) (cod x)
    rw [← hd]
    rw [List.take_of_length_le]
    simp [PySem.Str.length]
  · show List.take ((x.length - ((x.cps.toList.drop (stripLo sp l x)).reverse.takeWhile sp).length) - stripLo sp l x) _ = rz _
    rw [hd, ← hM]
    have e : ((if l then lz else id) (cod x)).length = x.length - stripLo sp l x := by rw [← hd, List.length_drop, hn]
    rw [e]
    congr 1
    omega
theorem cod_lstrip (x : PySem.Str) : cod (Txt.lstrip x) = lz (cod x) := strip_gen true false x
theorem cod_rstrip (x : PySem.Str) : cod (Txt.rstrip x) = rz (cod x) := strip_gen false true x
theorem cod_strip (x : PySem.Str) : cod (Txt.strip x) = rz (lz (cod x)) := strip_gen true true x

/-! lower -/
def low (c : Nat) : Nat := if 65 ≤ c ∧ c ≤ 90 then c + 32 else c
theorem lowerOf_low : ∀ c, c < 128 → Unicode.lowerOf c = [low c] := by decide +kernel
theorem sp_low : ∀ c, c < 128 → sp (low c) = sp c := by decide +kernel
theorem low_lt : ∀ c, c < 128 → low c < 128 := by decide +kernel
def Asc (l : List Nat) : Prop := ∀ c ∈ l, c < 128
theorem flat_ones (l : List Nat) : (l.map fun c => #[low c].toList).flatten = l.map low := by
  induction l with
  | nil => rfl
  | cons a r ih => simp only [List.map_cons, List.flatten_cons, ih]; rfl
theorem cod_lower {x : PySem.Str} (hA : Asc (cod x)) : cod (Txt.lower x) = (cod x).map low := by
  show (placed x fun i _ => Unicode.lowerAt x.cps i).toList = _
  unfold placed
  have e : (x.cps.mapIdx fun i c => (Unicode.lowerAt x.cps i).toArray) = x.cps.map fun c => #[low c] := by
    apply Array.ext
    · simp
    · intro i h1 h2
      simp only [Array.getElem_mapIdx, Array.getElem_map]
      have hi : i < x.cps.size := by simpa using h1
      have hc : x.cps[i] < 128 := hA _ (by simp [cod])
      unfold Unicode.lowerAt
      rw [Array.getElem?_eq_getElem hi]
      have h3 : (x.cps[i] == 0x3A3) = false := by
        rw [beq_eq_false_iff_ne]; omega
      simp only [h3, Bool.false_and]
      simp [lowerOf_low _ hc]
  rw [e]
  simp only [Array.toList_flatten, Array.toList_map]
  rw [List.map_map]
  exact flat_ones _

end Mine
end

section
open PySem PySem.Builtin PySem.Builtin.Str PyProof.Rows
namespace Mine

/-! the pieces -/
def cutF : Bool → Bool → List Nat → List Nat × List (List Nat)
  | _, _, [] => ([], [])
  | ins, esc, c :: r =>
    if c = 59 ∧ ins = false then ([], (cutF false false r).1 :: (cutF false false r).2)
    else (c :: (cutF (ins ^^ (c == 34 && !esc)) (c == 92) r).1, (cutF (ins ^^ (c == 34 && !esc)) (c == 92) r).2)
def allP (l : List Nat) : List (List Nat) := (cutF false false l).1 :: (cutF false false l).2
def pre (a : List Nat) (p : List Nat × List (List Nat)) : List Nat × List (List Nat) := (a ++ p.1, p.2)
theorem pre_pre (a b : List Nat) (p : List Nat × List (List Nat)) : pre a (pre b p) = pre (a ++ b) p := by simp [pre]
theorem pre_nil (p : List Nat × List (List Nat)) : pre [] p = p := rfl

/-- how many quotation marks stand without a backslash at once ahead -/
def unq : Bool → List Nat → Nat
  | _, [] => 0
  | esc, c :: r => (if c = 34 ∧ esc = false then 1 else 0) + unq (c == 92) r
def escA : Bool → List Nat → Bool
  | e, [] => e
  | _, c :: r => escA (c == 92) r
def odd (n : Nat) : Bool := n % 2 == 1
theorem odd_add (a b : Nat) : odd (a + b) = (odd a ^^ odd b) := by
  unfold odd
  rcases Nat.mod_two_eq_zero_or_one a with h | h <;> rcases Nat.mod_two_eq_zero_or_one b with h' | h' <;> simp [Nat.add_mod, h, h']
theorem cut_free : ∀ (l : List Nat) (ins esc : Bool) (r : List Nat), 59 ∉ l → cutF ins esc (l ++ r) = pre l (cutF (ins ^^ odd (unq esc l)) (escA esc l) r)
  | [], ins, esc, r, _ => by simp [unq, escA, odd, pre]
  | c :: l, ins, esc, r, h => by
    have h1 : c ≠ 59 := fun e => h (by simp [e])
    have h2 : 59 ∉ l := fun e => h (by simp [e])
    rw [List.cons_append, cutF, if_neg (fun e => h1 e.1), cut_free l _ _ r h2, unq, escA, odd_add]
    have e : odd (if c = 34 ∧ esc = false then 1 else 0) = (c == 34 && !esc) := by
      by_cases hc : c = 34 <;> cases esc <;> simp [hc, odd]
    rw [e, Bool.xor_assoc]
    rfl
theorem cut_in (esc : Bool) (r : List Nat) : cutF true esc (59 :: r) = pre [59] (cutF true false r) := by
  rw [cutF, if_neg (by simp)]; rfl
theorem cut_out (esc : Bool) (r : List Nat) : cutF false esc (59 :: r) = ([], allP r) := by
  rw [cutF, if_pos (by simp)]; rfl
theorem cut_esc (ins e e' : Bool) (r : List Nat) : cutF ins e (59 :: r) = cutF ins e' (59 :: r) := by
  cases ins
  · rw [cut_out, cut_out]
  · rw [cut_in, cut_in]

/-! counting -/
def pc : List Nat → Nat
  | [] => 0
  | c :: r => (if c = 92 ∧ r.head? = some 34 then 1 else 0) + pc r
theorem count_split : ∀ (l : List Nat) (esc : Bool), l.count 34 = unq esc l + pc l + (if esc = true ∧ l.head? = some 34 then 1 else 0)
  | [], esc => by simp [unq, pc]
  | c :: r, esc => by
    have ih := count_split r (c == 92)
    rw [List.count_cons, ih, unq, pc, List.head?_cons]
    by_cases h1 : c = 34
    · subst h1
      cases esc <;> simp <;> omega
    · have h2 : (c == 34) = false := by simp [h1]
      by_cases h3 : c = 92
      · subst h3
        simp; omega
      · simp [h1, h3]
theorem count_parity (l : List Nat) : (l.count 34 : Int) - (pc l : Int) = (unq false l : Int) := by
  have := count_split l false
  simp at this
  omega

/-- what the counting loop counts -/
def occC (s sub : PySem.Str) (hi : Nat) : Nat → Nat → Nat → Nat
  | _, 0, _ => 0
  | i, k + 1, free => if (free ≤ i ∧ i + sub.length ≤ hi) ∧ subAt s sub i = true then 1 + occC s sub hi (i + 1) k (i + sub.length) else occC s sub hi (i + 1) k free
theorem occ_count (s sub : PySem.Str) (hi limit : Nat) : ∀ (k i : Nat) (st : Array Nat × Nat), st.fst.size + k ≤ limit →
    (forIn (List.range' i k) st (StrLaws.occBody s sub hi limit)).run.fst.size = st.fst.size + occC s sub hi i k st.snd
  | 0, i, st, _ => by simp [occC]
  | k + 1, i, st, h => by
    rw [List.range'_succ, List.forIn_cons]
    unfold StrLaws.occBody
    rw [occC]
    by_cases hc : (st.snd ≤ i ∧ i + sub.length ≤ hi) ∧ subAt s sub i = true
    · rw [if_pos hc, if_pos ⟨⟨⟨by omega, hc.1.1⟩, hc.1.2⟩, hc.2⟩]
      have := occ_count s sub hi limit k (i + 1) (st.fst.push i, i + sub.length) (by simp only [Array.size_push]; omega)
      simp only [Array.size_push] at this
      refine Eq.trans this ?_
      omega
    · rw [if_neg hc, if_neg (fun e => hc ⟨⟨e.1.1.2, e.1.2⟩, e.2⟩)]
      exact occ_count s sub hi limit k (i + 1) st (by omega)
theorem occ_len (s sub : PySem.Str) (lo hi limit : Nat) (h : hi + 1 - lo ≤ limit) : (occurrences s sub lo hi limit).length = occC s sub hi lo (hi + 1 - lo) lo := by
  rw [StrLaws.occ_eq, Array.length_toList, occ_count s sub hi limit _ _ _ (by simpa using h)]
  simp

/-- the stretch from i to hi -/
def seg (l : List Nat) (i hi : Nat) : List Nat := (l.take hi).drop i
theorem seg_cons {l : List Nat} {i hi c : Nat} (hc : l[i]? = some c) (h : i < hi) : seg l i hi = c :: seg l (i + 1) hi := by
  unfold seg
  have : (l.take hi)[i]? = some c := by rw [List.getElem?_take, if_pos h]; exact hc
  obtain ⟨h1, h2⟩ := List.getElem?_eq_some_iff.mp this
  rw [List.drop_eq_getElem_cons h1, h2]
theorem seg_nil {l : List Nat} {i hi : Nat} (h : hi ≤ i) : seg l i hi = [] := by
  unfold seg
  apply List.drop_eq_nil_of_le
  rw [List.length_take]; omega
theorem seg_at (l : List Nat) (i hi k : Nat) (h : i + k < hi) : (seg l i hi)[k]? = l[i + k]? := by
  unfold seg
  rw [List.getElem?_drop, List.getElem?_take, if_pos h]
theorem seg_eq (l : List Nat) (i hi : Nat) : seg l i hi = (l.drop i).take (hi - i) := by
  unfold seg
  rw [List.drop_take]
theorem seg_len {l : List Nat} {i hi : Nat} (h : hi ≤ l.length) : (seg l i hi).length = hi - i := by
  rw [seg_eq, List.length_take, List.length_drop]; omega

theorem at_one (s : PySem.Str) (c hi i : Nat) (hh : hi ≤ s.length) : (i + (⟨#[c]⟩ : PySem.Str).length ≤ hi ∧ subAt s ⟨#[c]⟩ i = true) ↔ (i < hi ∧ (cod s)[i]? = some c) := by
  rw [StrLaws.subAt_eq]
  show (i + 1 ≤ hi ∧ ((s.cps.toList.drop i).take 1 == [c]) = true) ↔ _
  rw [StrLaws.take1_drop]
  exact ⟨fun h => ⟨by omega, h.2⟩, fun h => ⟨by omega, h.2⟩⟩
theorem take2_drop {l : List Nat} {c d i : Nat} : ((l.drop i).take 2 == [c, d]) = true ↔ (l[i]? = some c ∧ l[i + 1]? = some d) := by
  have e : l[i]? = (l.drop i)[0]? := by rw [List.getElem?_drop]; rfl
  have e' : l[i + 1]? = (l.drop i)[1]? := by rw [List.getElem?_drop]
  rw [e, e', beq_iff_eq]
  cases l.drop i with
  | nil => simp
  | cons a r => cases r <;> simp
theorem at_two (s : PySem.Str) (c d hi i : Nat) (hh : hi ≤ s.length) : (i + (⟨#[c, d]⟩ : PySem.Str).length ≤ hi ∧ subAt s ⟨#[c, d]⟩ i = true) ↔ (i + 1 < hi ∧ (cod s)[i]? = some c ∧ (cod s)[i + 1]? = some d) := by
  rw [StrLaws.subAt_eq]
  show (i + 2 ≤ hi ∧ ((s.cps.toList.drop i).take 2 == [c, d]) = true) ↔ _
  rw [take2_drop]
  exact ⟨fun h => ⟨by omega, h.2⟩, fun h => ⟨by omega, h.2⟩⟩

theorem occC_one (s : PySem.Str) (c hi : Nat) (hh : hi ≤ s.length) : ∀ (k i free : Nat), i + k = hi + 1 → free ≤ i → occC s ⟨#[c]⟩ hi i k free = (seg (cod s) i hi).count c
  | 0, i, free, h, _ => by rw [seg_nil (by omega)]; rfl
  | k + 1, i, free, h, hf => by
    rw [occC]
    by_cases hi' : i < hi
    · have hlt : i < (cod s).length := by rw [cod_len]; omega
      have hg := List.getElem?_eq_getElem hlt
      rw [seg_cons hg hi', List.count_cons]
      by_cases hc : (cod s)[i] = c
      · have hA := (at_one s c hi i hh).mpr ⟨hi', by rw [hg, hc]⟩
        rw [if_pos ⟨⟨hf, hA.1⟩, hA.2⟩, occC_one s c hi hh k (i + 1) _ (by omega) (by show i + 1 ≤ i + 1; omega)]
        simp [hc]; omega
      · rw [if_neg (fun e => hc (by have := ((at_one s c hi i hh).mp ⟨e.1.2, e.2⟩).2; rw [hg] at this; exact Option.some.inj this)), occC_one s c hi hh k (i + 1) _ (by omega) (by omega)]
        have hb : ((cod s)[i] == c) = false := by rw [beq_eq_false_iff_ne]; exact hc
        rw [hb]; simp only [Bool.false_eq_true, if_false, Nat.add_zero]
    · rw [if_neg (fun e => hi' ((at_one s c hi i hh).mp ⟨e.1.2, e.2⟩).1), occC_one s c hi hh k (i + 1) _ (by omega) (by omega), seg_nil (by omega), seg_nil (by omega)]
theorem occC_two (s : PySem.Str) (hi : Nat) (hh : hi ≤ s.length) : ∀ (k i free : Nat), i + k = hi + 1 → (free ≤ i ∨ (free = i + 1 ∧ (cod s)[i]? = some 34)) → occC s ⟨#[92, 34]⟩ hi i k free = pc (seg (cod s) i hi)
  | 0, i, free, h, _ => by rw [seg_nil (by omega)]; rfl
  | k + 1, i, free, h, hf => by
    rw [occC]
    by_cases hi' : i < hi
    · have hlt : i < (cod s).length := by rw [cod_len]; omega
      have hg := List.getElem?_eq_getElem hlt
      rw [seg_cons hg hi', pc]
      have hd : (seg (cod s) (i + 1) hi).head? = if i + 1 < hi then (cod s)[i + 1]? else none := by
        by_cases h2 : i + 1 < hi
        · rw [if_pos h2, List.head?_eq_getElem?, seg_at _ _ _ 0 (by omega)]
        · rw [if_neg h2, seg_nil (by omega)]; rfl
      rw [hd]
      by_cases hc : i + 1 < hi ∧ (cod s)[i]? = some 92 ∧ (cod s)[i + 1]? = some 34
      · have hA := (at_two s 92 34 hi i hh).mpr hc
        have hfr : free ≤ i := by
          rcases hf with hf | hf
          · exact hf
          · rw [hc.2.1] at hf; simp at hf
        have h92 : (cod s)[i] = 92 := by have := hc.2.1; rw [hg] at this; exact Option.some.inj this
        rw [if_pos ⟨⟨hfr, hA.1⟩, hA.2⟩, occC_two s hi hh k (i + 1) (i + (⟨#[92, 34]⟩ : PySem.Str).length) (by omega) (.inr ⟨rfl, hc.2.2⟩), if_pos ⟨h92, by rw [if_pos hc.1]; exact hc.2.2⟩]
      · rw [if_neg (fun e => hc ((at_two s 92 34 hi i hh).mp ⟨e.1.2, e.2⟩)), occC_two s hi hh k (i + 1) _ (by omega) (by rcases hf with hf | hf <;> (left; omega)), if_neg (fun e => hc ?_)]
        · omega
        · obtain ⟨e1, e2⟩ := e
          by_cases h2 : i + 1 < hi
          · rw [if_pos h2] at e2; exact ⟨h2, by rw [hg, e1], e2⟩
          · rw [if_neg h2] at e2; cases e2
    · rw [if_neg (fun e => by have := ((at_two s 92 34 hi i hh).mp ⟨e.1.2, e.2⟩).1; omega), occC_two s hi hh k (i + 1) _ (by omega) (by rcases hf with hf | hf <;> (left; omega)), seg_nil (by omega), seg_nil (by omega)]

/-! find and count with two bounds -/
def find4 (x y : PySem.Str) (i j : Int) : Int := match occurrences x y (fromIndex x.length i) (min (fromIndex x.length j) x.length) 1 with | k :: _ => (k : Int) | [] => -1
def count4 (x y : PySem.Str) (i j : Int) : Int := (occurrences x y (fromIndex x.length i) (min (fromIndex x.length j) x.length) (x.length + 1)).length
theorem fromIndex_nat (n : Nat) (i : Int) (h : 0 ≤ i) : fromIndex n i = i.toNat := by
  unfold fromIndex
  rw [if_neg (by omega), Int.max_eq_right h]
theorem count4_one (x : PySem.Str) (c : Nat) (i j : Nat) (hj : j ≤ x.length) : count4 x ⟨#[c]⟩ i j = (seg (cod x) i j).count c := by
  unfold count4
  rw [fromIndex_nat _ _ (by omega), fromIndex_nat _ _ (by omega)]
  simp only [Int.toNat_natCast]
  rw [Nat.min_eq_left hj, occ_len _ _ _ _ _ (by omega)]
  by_cases h : i ≤ j + 1
  · rw [occC_one x c j hj _ _ _ (by omega) (Nat.le_refl _)]
  · rw [show j + 1 - i = 0 by omega, seg_nil (by omega)]; rfl
theorem count4_two (x : PySem.Str) (i j : Nat) (hj : j ≤ x.length) : count4 x ⟨#[92, 34]⟩ i j = pc (seg (cod x) i j) := by
  unfold count4
  rw [fromIndex_nat _ _ (by omega), fromIndex_nat _ _ (by omega)]
  simp only [Int.toNat_natCast]
  rw [Nat.min_eq_left hj, occ_len _ _ _ _ _ (by omega)]
  by_cases h : i ≤ j + 1
  · rw [occC_two x j hj _ _ _ (by omega) (.inl (Nat.le_refl _))]
  · rw [show j + 1 - i = 0 by omega, seg_nil (by omega)]; rfl
theorem count4_neg (x y : PySem.Str) (j : Nat) (hy : 1 ≤ y.length) (hj : j < x.length) : count4 x y (-1) j = 0 := by
  have e : fromIndex x.length (-1) = x.length - 1 := by
    unfold fromIndex
    rw [if_pos (by omega), Int.max_eq_right (by omega)]; omega
  unfold count4
  rw [e, fromIndex_nat _ _ (by omega)]
  simp only [Int.toNat_natCast]
  rw [Nat.min_eq_left (by omega), occ_len _ _ _ _ _ (by omega)]
  by_cases h : x.length - 1 = j
  · have e1 : j + 1 - (x.length - 1) = 1 := by omega
    rw [e1, h, occC, if_neg (by omega)]; rfl
  · rw [show j + 1 - (x.length - 1) = 0 by omega]; rfl
end Mine
end

section
open PySem PySem.Builtin PySem.Builtin.Str PyProof.Rows
namespace Mine

/-! stretches -/
theorem drop_seg (l : List Nat) {a b : Nat} (h : a ≤ b) : l.drop a = seg l a b ++ l.drop b := by
  rw [seg_eq]
  have e : l.drop b = (l.drop a).drop (b - a) := by rw [List.drop_drop]; congr 1; omega
  rw [e, List.take_append_drop]
theorem seg_seg (l : List Nat) {a b c : Nat} (h : a ≤ b) (h' : b ≤ c) : seg l a b ++ seg l b c = seg l a c := by
  rw [seg_eq l b c, seg_eq l a c, seg_eq l a b]
  have e : l.drop b = (l.drop a).drop (b - a) := by rw [List.drop_drop]; congr 1; omega
  rw [e]
  have e2 : c - a = (b - a) + (c - b) := by omega
  rw [e2, List.take_add]
theorem drop_at {l : List Nat} {k c : Nat} (h : l[k]? = some c) : l.drop k = c :: l.drop (k + 1) := by
  obtain ⟨h1, h2⟩ := List.getElem?_eq_some_iff.mp h
  rw [List.drop_eq_getElem_cons h1, h2]
theorem not_mem_seg {l : List Nat} {c i k : Nat} (h : ∀ v, i ≤ v → v < k → l[v]? ≠ some c) : c ∉ seg l i k := by
  intro hm
  obtain ⟨j, hj⟩ := List.mem_iff_getElem?.mp hm
  unfold seg at hj
  rw [List.getElem?_drop, List.getElem?_take] at hj
  by_cases h2 : i + j < k
  · rw [if_pos h2] at hj; exact h _ (by omega) h2 hj
  · rw [if_neg h2] at hj; cases hj
theorem seg_full (l : List Nat) (a : Nat) : seg l a l.length = l.drop a := by unfold seg; rw [List.take_length]

theorem semi_eq : PySem.Str.ofString ";" = ⟨#[59]⟩ := by decide +kernel
theorem eqs_eq : PySem.Str.ofString "=" = ⟨#[61]⟩ := by decide +kernel
theorem quo_eq : PySem.Str.ofString "\"" = ⟨#[34]⟩ := by decide +kernel
theorem bsq_eq : PySem.Str.ofString "\\\"" = ⟨#[92, 34]⟩ := by decide +kernel

theorem getD_ne {x : PySem.Str} {v c : Nat} (hv : v < x.length) (h : x.cps.getD v 0 ≠ c) : (cod x)[v]? ≠ some c := fun e => h (StrLaws.getD_of_getElem? e)
theorem find_spec (x : PySem.Str) (c i : Nat) :
    (Txt.find3 x ⟨#[c]⟩ (i : Int) = -1 ∧ ∀ v, i ≤ v → v < x.length → (cod x)[v]? ≠ some c) ∨
    ∃ k : Nat, Txt.find3 x ⟨#[c]⟩ (i : Int) = (k : Int) ∧ i ≤ k ∧ k < x.length ∧ (cod x)[k]? = some c ∧ ∀ v, i ≤ v → v < k → (cod x)[v]? ≠ some c := by
  have e := fromIndex_nat x.length (i : Int) (by omega)
  rw [Int.toNat_natCast] at e
  rcases StrLaws.find3_spec x c (i : Int) with ⟨h, hn⟩ | ⟨k, h, h1, h2, h3, hn⟩
  · rw [e] at hn
    exact .inl ⟨h, fun v a b => getD_ne b (hn v a b)⟩
  · rw [e] at h1 hn
    exact .inr ⟨k, h, h1, h2, StrLaws.getElem?_of_getD h2 h3, fun v a b => getD_ne (by omega) (hn v a b)⟩
theorem find_next {x : PySem.Str} {c a k : Nat} (h : Txt.find3 x ⟨#[c]⟩ (a : Int) = (k : Int)) (hk : a < k) : Txt.find3 x ⟨#[c]⟩ ((a : Int) + 1) = (k : Int) := by
  have e : (a : Int) + 1 = ((a + 1 : Nat) : Int) := by omega
  rw [e]
  rcases find_spec x c a with ⟨h', _⟩ | ⟨k', h', h1, h2, h3, hn⟩
  · rw [h'] at h; omega
  · have : k' = k := by rw [h'] at h; omega
    subst this
    rcases find_spec x c (a + 1) with ⟨_, hm⟩ | ⟨j, h4, h5, h6, h7, hm⟩
    · exact absurd h3 (hm k' (by omega) h2)
    · rw [h4]
      by_cases hj : j < k'
      · exact absurd h7 (hn j (by omega) hj)
      · by_cases hj' : k' < j
        · exact absurd h3 (hm k' (by omega) hj')
        · omega

/-! the inner loop -/
def oddI (d : Int) : Bool := d % 2 == 1
theorem oddI_add (d : Int) (n : Nat) : oddI (d + n) = (oddI d ^^ odd n) := by
  unfold oddI odd
  rcases (show d % 2 = 0 ∨ d % 2 = 1 by omega) with h | h <;> rcases Nat.mod_two_eq_zero_or_one n with h' | h'
  all_goals
    have h2 : ((n : Int)) % 2 = ((n % 2 : Nat) : Int) := by omega
    rw [Int.add_emod, h, h2, h']
    decide
def InA (s : PySem.Str) (st e i d : Int) : Prop :=
  ∃ st' a : Nat, st = st' ∧ i = a ∧ 1 ≤ st' ∧ st' ≤ a ∧ cutF false false ((cod s).drop st') = pre (seg (cod s) st' a) (cutF (oddI d) false ((cod s).drop a)) ∧
    ((a = st' ∧ d = 0 ∧ e = Txt.find3 s ⟨#[59]⟩ (a : Int)) ∨ ((cod s)[a]? = some 59 ∧ oddI d = true ∧ e = Txt.find3 s ⟨#[59]⟩ ((a : Int) + 1)))
def InB (s : PySem.Str) (st e i d : Int) : Prop :=
  ∃ st' a m : Nat, st = st' ∧ e = a ∧ 1 ≤ st' ∧ st' ≤ a ∧ a < m ∧ m < s.length ∧ (cod s)[m]? = some 59 ∧ Txt.find3 s ⟨#[59]⟩ ((a : Int) + 1) = m ∧ i = Txt.find3 s ⟨#[59]⟩ ((m : Int) + 1) ∧ oddI d = true ∧
    cutF false false ((cod s).drop st') = pre (seg (cod s) st' m) (cutF true false ((cod s).drop m))
def Inn (s : PySem.Str) (st e i d : Int) : Prop := InA s st e i d ∨ InB s st e i d
def mu (n e i : Int) : Nat := if e < 0 then 0 else if i < 0 then 1 else if e < i then (2 * (n - i) + 2).toNat else (2 * (n - e) + 1).toNat
def dif (s : PySem.Str) (d i e : Int) : Int := d + (count4 s ⟨#[34]⟩ i e - count4 s ⟨#[92, 34]⟩ i e)

theorem inn_start {s : PySem.Str} {st : Int} (h : 1 ≤ st) : Inn s st (Txt.find3 s ⟨#[59]⟩ st) st 0 := by
  have e : st = ((st.toNat : Nat) : Int) := by omega
  refine .inl ⟨st.toNat, st.toNat, e, e, by omega, Nat.le_refl _, ?_, .inl ⟨rfl, rfl, by rw [← e]⟩⟩
  rw [seg_nil (Nat.le_refl _), pre_nil]; rfl

theorem dif_A {s : PySem.Str} {d : Int} {a k : Nat} (hk : k ≤ s.length) : dif s d a k = d + (unq false (seg (cod s) a k) : Int) := by
  unfold dif
  rw [count4_one s 34 a k hk, count4_two s a k hk, count_parity]
theorem dif_B {s : PySem.Str} {d : Int} {a m : Nat} (h : a < m) (hm : m < s.length) : dif s d (Txt.find3 s ⟨#[59]⟩ ((m : Int) + 1)) a = d := by
  have e : (m : Int) + 1 = ((m + 1 : Nat) : Int) := by omega
  rw [e]
  unfold dif
  rcases find_spec s 59 (m + 1) with ⟨h1, _⟩ | ⟨k, h1, h2, _⟩
  · rw [h1, count4_neg s _ a (by decide) (by omega), count4_neg s _ a (by decide) (by omega)]; omega
  · rw [h1, count4_one s 34 k a (by omega), count4_two s k a (by omega), seg_nil (by omega)]
    simp [pc]

theorem inA_adv {s : PySem.Str} {st e i d : Int} (h : InA s st e i d) (he : 0 < e) :
    ∃ st' a k : Nat, st = st' ∧ i = a ∧ e = k ∧ 1 ≤ st' ∧ st' ≤ a ∧ a ≤ k ∧ k < s.length ∧ (cod s)[k]? = some 59 ∧
      cutF false false ((cod s).drop st') = pre (seg (cod s) st' k) (cutF (oddI (dif s d i e)) false ((cod s).drop k)) ∧
      (oddI (dif s d i e) = true → a < k ∧ Txt.find3 s ⟨#[59]⟩ ((a : Int) + 1) = k) := by
  obtain ⟨st', a, h1, h2, h3, h4, h5, h6⟩ := h
  rcases h6 with ⟨g1, g2, g3⟩ | ⟨g1, g2, g3⟩
  · rcases find_spec s 59 a with ⟨f1, _⟩ | ⟨k, f1, f2, f3, f4, f5⟩
    · rw [f1] at g3; omega
    · rw [f1] at g3
      refine ⟨st', a, k, h1, h2, g3, h3, h4, f2, f3, f4, ?_, ?_⟩
      · rw [h5, h2, g3, dif_A (by omega), g2, oddI_add, drop_seg (cod s) f2, cut_free _ _ _ _ (not_mem_seg f5), pre_pre, seg_seg _ h4 f2, drop_at f4, cut_esc _ _ false]
      · intro ho
        have hk : a < k := by
          by_cases hh : a = k
          · rw [h2, g3, dif_A (by omega), hh, seg_nil (Nat.le_refl _), g2] at ho; simp [unq, oddI] at ho
          · omega
        exact ⟨hk, find_next f1 hk⟩
  · have e1 : (a : Int) + 1 = ((a + 1 : Nat) : Int) := by omega
    rcases find_spec s 59 (a + 1) with ⟨f1, _⟩ | ⟨k, f1, f2, f3, f4, f5⟩
    · rw [e1, f1] at g3; omega
    · rw [e1, f1] at g3
      refine ⟨st', a, k, h1, h2, g3, h3, h4, by omega, f3, f4, ?_, fun _ => ⟨by omega, by rw [e1, f1]⟩⟩
      have e2 : seg (cod s) a k = 59 :: seg (cod s) (a + 1) k := seg_cons g1 (by omega)
      rw [h5, h2, g3, dif_A (by omega), oddI_add, g2, drop_seg (cod s) (show a ≤ k by omega), e2, List.cons_append, cut_in, cut_free _ _ _ _ (not_mem_seg f5), pre_pre, pre_pre]
      have e3 : seg (cod s) st' a ++ ([59] ++ seg (cod s) (a + 1) k) = seg (cod s) st' k := by
        rw [← seg_seg (cod s) h4 (show a ≤ k by omega), e2]; rfl
      rw [List.append_assoc] 
      rw [e3, drop_at f4, cut_esc _ _ false]
      simp [unq]

theorem inn_next {s : PySem.Str} {st e i d : Int} (h : Inn s st e i d) (he : 0 < e) (ho : oddI (dif s d i e) = true) :
    Inn s st i (Txt.find3 s ⟨#[59]⟩ (e + 1)) (dif s d i e) ∧ mu s.length i (Txt.find3 s ⟨#[59]⟩ (e + 1)) < mu s.length e i := by
  rcases h with h | ⟨st', a, m, h1, h2, h3, h4, h5, h6, h7, h8, h9, h10, h11⟩
  · obtain ⟨st', a, k, h1, h2, h3, h4, h5, h6, h7, h8, h9, h10⟩ := inA_adv h he
    obtain ⟨g1, g2⟩ := h10 ho
    refine ⟨.inr ⟨st', a, k, h1, h2, h4, h5, g1, h7, h8, g2, by rw [h3], ho, by rw [h9, ho]⟩, ?_⟩
    have e1 : e + 1 = ((k + 1 : Nat) : Int) := by omega
    rw [e1]
    unfold mu
    rcases find_spec s 59 (k + 1) with ⟨f1, _⟩ | ⟨j, f1, f2, f3, _⟩
    · rw [f1]; split <;> split <;> (try split) <;> (try split) <;> omega
    · rw [f1]; split <;> split <;> (try split) <;> (try split) <;> (try split) <;> omega
  · have hd : dif s d i e = d := by rw [h9, h2]; exact dif_B h5 h6
    rw [hd]
    rw [h2, h8]
    refine ⟨.inl ⟨st', m, h1, rfl, h3, by omega, by rw [h11, h10], .inr ⟨h7, h10, h9⟩⟩, ?_⟩
    have e1 : (m : Int) + 1 = ((m + 1 : Nat) : Int) := by omega
    rw [h9, e1]
    unfold mu
    rcases find_spec s 59 (m + 1) with ⟨f1, _⟩ | ⟨j, f1, f2, f3, _⟩
    · rw [f1]; split <;> (try split) <;> (try split) <;> (try split) <;> omega
    · rw [f1]; split <;> (try split) <;> (try split) <;> (try split) <;> (try split) <;> omega

/-- where the piece that begins at st ends -/
def PEnd (s : PySem.Str) (st E : Int) : Prop :=
  ∃ st' k : Nat, st = st' ∧ E = k ∧ st' ≤ k ∧ ((k = s.length ∧ cutF false false ((cod s).drop st') = (seg (cod s) st' k, [])) ∨ (k < s.length ∧ (cod s)[k]? = some 59 ∧ cutF false false ((cod s).drop st') = (seg (cod s) st' k, allP ((cod s).drop (k + 1)))))

theorem inn_break {s : PySem.Str} {st e i d : Int} (h : Inn s st e i d) (he : 0 < e) (ho : oddI (dif s d i e) = false) : PEnd s st e := by
  rcases h with h | ⟨st', a, m, h1, h2, h3, h4, h5, h6, h7, h8, h9, h10, h11⟩
  · obtain ⟨st', a, k, h1, h2, h3, h4, h5, h6, h7, h8, h9, h10⟩ := inA_adv h he
    refine ⟨st', k, h1, h3, by omega, .inr ⟨h7, h8, ?_⟩⟩
    rw [h9, ho, drop_at h8, cut_out]
    simp [pre]
  · have hd : dif s d i e = d := by rw [h9, h2]; exact dif_B h5 h6
    rw [hd, h10] at ho; cases ho

theorem inn_exit {s : PySem.Str} {st e i d : Int} (h : Inn s st e i d) (hs : st ≤ s.length) (he : ¬ 0 < e) : e < 0 ∧ PEnd s st s.length := by
  rcases h with ⟨st', a, h1, h2, h3, h4, h5, h6⟩ | ⟨st', a, m, h1, h2, h3, h4, h5, h6, h7, h8, h9, h10, h11⟩
  · have key : ∀ b : Bool, 59 ∉ (cod s).drop a → cutF b false ((cod s).drop a) = ((cod s).drop a, []) := by
      intro b hb
      have := cut_free ((cod s).drop a) b false [] hb
      rw [List.append_nil] at this
      rw [this]; simp [pre, cutF]
    have fin : cutF (oddI d) false ((cod s).drop a) = ((cod s).drop a, []) → PEnd s st s.length := by
      intro h7
      refine ⟨st', s.length, h1, rfl, by omega, .inl ⟨rfl, ?_⟩⟩
      rw [h5, h7, ← cod_len, seg_full]
      simp only [pre]
      rw [← drop_seg _ h4]
    rcases h6 with ⟨g1, g2, g3⟩ | ⟨g1, g2, g3⟩
    · rcases find_spec s 59 a with ⟨f1, f2⟩ | ⟨k, f1, f2, _⟩
      · refine ⟨by rw [g3, f1]; decide, fin (key _ ?_)⟩
        rw [← seg_full, cod_len]
        exact not_mem_seg f2
      · rw [f1] at g3; omega
    · have e1 : (a : Int) + 1 = ((a + 1 : Nat) : Int) := by omega
      rcases find_spec s 59 (a + 1) with ⟨f1, f2⟩ | ⟨k, f1, f2, _⟩
      · rw [e1, f1] at g3
        refine ⟨by omega, fin ?_⟩
        have hn : 59 ∉ (cod s).drop (a + 1) := by
          rw [← seg_full, cod_len]
          exact not_mem_seg f2
        rw [g2, drop_at g1, cut_in]
        have := cut_free ((cod s).drop (a + 1)) true false [] hn
        rw [List.append_nil] at this
        rw [this]; simp [pre, cutF]
      · rw [e1, f1] at g3; omega
  · omega
end Mine
end

section
open PySem PySem.Builtin PySem.Builtin.Str PyProof.Rows
namespace Mine

/-! strip's algebra -/
theorem dw_stop (a : List Nat) (c : Nat) (r : List Nat) (hc : sp c = false) : (a ++ c :: r).dropWhile sp = a.dropWhile sp ++ c :: r := by
  induction a with
  | nil => rw [List.nil_append, List.dropWhile_cons, if_neg (by rw [hc]; decide)]; rfl
  | cons b a ih =>
    rw [List.cons_append, List.dropWhile_cons, List.dropWhile_cons]
    by_cases h : sp b = true
    · rw [if_pos h, if_pos h, ih]
    · rw [if_neg h, if_neg h]; rfl
theorem lz_stop (a : List Nat) (c : Nat) (r : List Nat) (hc : sp c = false) : lz (a ++ c :: r) = lz a ++ c :: r := dw_stop a c r hc
theorem rz_stop (a : List Nat) (c : Nat) (r : List Nat) (hc : sp c = false) : rz (a ++ c :: r) = a ++ c :: rz r := by
  unfold rz
  rw [List.reverse_append, List.reverse_cons, List.append_assoc]
  show ((r.reverse ++ c :: a.reverse).dropWhile sp).reverse = _
  rw [dw_stop _ _ _ hc]
  simp
theorem dw_all {a : List Nat} (h : ∀ c ∈ a, sp c = true) : a.dropWhile sp = [] := by
  induction a with
  | nil => rfl
  | cons b a ih => rw [List.dropWhile_cons, if_pos (h b (by simp))]; exact ih fun c hc => h c (by simp [hc])
theorem dw_parts (a : List Nat) : ∃ w, a = w ++ a.dropWhile sp ∧ (∀ c ∈ w, sp c = true) ∧ (a.dropWhile sp = [] ∨ ∃ c r, a.dropWhile sp = c :: r ∧ sp c = false) := by
  induction a with
  | nil => exact ⟨[], rfl, by simp, .inl rfl⟩
  | cons b a ih =>
    rw [List.dropWhile_cons]
    by_cases h : sp b = true
    · obtain ⟨w, h1, h2, h3⟩ := ih
      rw [if_pos h]
      exact ⟨b :: w, by rw [List.cons_append, ← h1], fun c hc => by rcases List.mem_cons.mp hc with rfl | hc; exact h; exact h2 c hc, h3⟩
    · rw [if_neg h]
      exact ⟨[], rfl, by simp, .inr ⟨b, a, rfl, by simpa using h⟩⟩
theorem lz_rz (a : List Nat) : lz (rz a) = rz (lz a) := by
  obtain ⟨w, h1, h2, h3⟩ := dw_parts a
  have hw : lz w = [] := dw_all h2
  rcases h3 with h3 | ⟨c, r, h3, hc⟩
  · have e : lz a = [] := h3
    rw [e]
    rw [h3, List.append_nil] at h1
    have e2 : rz a = [] := by
      unfold rz
      rw [h1, dw_all (fun c hc => h2 c (by simpa using hc))]; rfl
    rw [e2]; rfl
  · have e : lz a = c :: r := h3
    rw [h3] at h1
    rw [e, h1, rz_stop _ _ _ hc, lz_stop _ _ _ hc, hw]
    have := rz_stop [] c r hc
    rw [List.nil_append] at this ⊢
    rw [this]; rfl
theorem lz_low {a : List Nat} (hA : Asc a) : lz (a.map low) = (lz a).map low := by
  unfold lz
  induction a with
  | nil => rfl
  | cons b a ih =>
    rw [List.map_cons, List.dropWhile_cons, List.dropWhile_cons, sp_low b (hA b (by simp))]
    by_cases h : sp b = true
    · rw [if_pos h, if_pos h]; exact ih fun c hc => hA c (by simp [hc])
    · rw [if_neg h, if_neg h]; rfl
theorem asc_rz {a : List Nat} (hA : Asc a) : Asc (rz a) := fun c hc => hA c (by
  unfold rz at hc
  have := (List.dropWhile_sublist (p := sp) (l := a.reverse)).mem (by simpa using hc)
  simpa using this)
theorem asc_lz {a : List Nat} (hA : Asc a) : Asc (lz a) := fun c hc => hA c ((List.dropWhile_sublist (p := sp) (l := a)).mem hc)
theorem asc_seg {l : List Nat} (hA : Asc l) (i j : Nat) : Asc (seg l i j) := fun c hc => hA c (List.mem_of_mem_take (List.mem_of_mem_drop hc))
theorem strip_pair {a b : List Nat} (hA : Asc a) : rz (lz ((rz a).map low ++ 61 :: lz b)) = (rz (lz a)).map low ++ 61 :: rz (lz b) := by
  rw [lz_stop _ _ _ (by decide +kernel), rz_stop _ _ _ (by decide +kernel), lz_low (asc_rz hA), lz_rz]

/-! one piece as it is handed out -/
def fmtL (p : List Nat) : List Nat := if 61 ∈ p then (rz (lz (p.takeWhile (· != 61)))).map low ++ 61 :: rz (lz ((p.dropWhile (· != 61)).drop 1)) else rz (lz p)
theorem fmt_free {p : List Nat} (h : 61 ∉ p) : fmtL p = rz (lz p) := by unfold fmtL; rw [if_neg h]
theorem fmt_at {a b : List Nat} (h : 61 ∉ a) : fmtL (a ++ 61 :: b) = (rz (lz a)).map low ++ 61 :: rz (lz b) := by
  unfold fmtL
  rw [if_pos (by simp)]
  have e1 : ∀ a : List Nat, 61 ∉ a → (a ++ 61 :: b).takeWhile (· != 61) = a ∧ (a ++ 61 :: b).dropWhile (· != 61) = 61 :: b := by
    intro a
    induction a with
    | nil => intro _; simp
    | cons c a ih =>
      intro h
      have h1 : (c != 61) = true := by
        rw [bne_iff_ne]; intro e; exact h (by simp [e])
      obtain ⟨i1, i2⟩ := ih fun e => h (by simp [e])
      constructor
      · rw [List.cons_append, List.takeWhile_cons, if_pos h1, i1]
      · rw [List.cons_append, List.dropWhile_cons, if_pos h1, i2]
  obtain ⟨i1, i2⟩ := e1 a h
  rw [i1, i2]
  rfl

theorem occ_head_hi (x : PySem.Str) (c lo hi : Nat) (hh : hi ≤ x.length) :
    (occurrences x ⟨#[c]⟩ lo hi 1 = [] ∧ ∀ i, lo ≤ i → i < hi → (cod x)[i]? ≠ some c) ∨
    ∃ i r, occurrences x ⟨#[c]⟩ lo hi 1 = i :: r ∧ lo ≤ i ∧ i < hi ∧ (cod x)[i]? = some c ∧ ∀ k, lo ≤ k → k < i → (cod x)[k]? ≠ some c := by
  have hfree : ∀ i ∈ List.range' lo (hi + 1 - lo), lo ≤ i := fun i hi => (List.mem_range'_1.mp hi).1
  rw [StrLaws.occ_eq]
  rcases StrLaws.occ_first x ⟨#[c]⟩ hi 1 (Nat.le_refl 1) _ lo hfree with ⟨h0, hn⟩ | ⟨p, a, q, e, h0, ha, hn⟩
  · refine .inl ⟨by rw [h0], fun i h1 h2 h3 => hn i (List.mem_range'_1.mpr (by omega)) ((at_one x c hi i hh).mpr ⟨h2, h3⟩)⟩
  · have hs := StrLaws.range'_split_from e
    have ha' := (at_one x c hi a hh).mp ha
    generalize (forIn (List.range' lo (hi + 1 - lo)) ((#[] : Array Nat), lo) (StrLaws.occBody x ⟨#[c]⟩ hi 1)).run.fst = arr at h0
    refine .inr ⟨a, arr.toList.tail, ?_, hs.1, ha'.1, ha'.2, fun k h1 h2 h3 => hn k (hs.2 k h1 h2) ((at_one x c hi k hh).mpr ⟨by have := ha'.1; omega, h3⟩)⟩
    have h1 : arr.toList[0]? = some a := by simpa using h0
    cases hL : arr.toList with
    | nil => rw [hL] at h1; cases h1
    | cons b t => rw [hL] at h1; simp at h1; rw [h1]; rfl
theorem find4_spec (x : PySem.Str) (c i j : Nat) (hj : j ≤ x.length) :
    (find4 x ⟨#[c]⟩ i j = -1 ∧ c ∉ seg (cod x) i j) ∨ ∃ k : Nat, find4 x ⟨#[c]⟩ i j = k ∧ i ≤ k ∧ k < j ∧ (cod x)[k]? = some c ∧ c ∉ seg (cod x) i k := by
  unfold find4
  rw [fromIndex_nat _ _ (by omega), fromIndex_nat _ _ (by omega)]
  simp only [Int.toNat_natCast]
  rw [Nat.min_eq_left hj]
  rcases occ_head_hi x c i j hj with ⟨h0, hn⟩ | ⟨k, r, h0, h1, h2, h3, hn⟩
  · rw [h0]; exact .inl ⟨rfl, not_mem_seg hn⟩
  · rw [h0]; exact .inr ⟨k, rfl, h1, h2, h3, not_mem_seg hn⟩

theorem cod_slice (x : PySem.Str) (a b : Nat) (hab : a ≤ b) (hb : b ≤ x.length) : cod (Txt.slice x (some (a : Int)) (some (b : Int))) = seg (cod x) a b := by
  have hf := StrLaws.sliced_plain x hab hb
  have hi := StrLaws.strSliceIndices_plain hab hb
  unfold Txt.slice
  split
  · rename_i hc
    rw [hi] at hc
    simp only [beq_self_eq_true, Bool.true_and, List.length_map, List.length_range, beq_iff_eq] at hc
    have e1 : a = 0 := by omega
    have e2 : b = x.length := by omega
    rw [e1, e2, ← cod_len, seg_full]; rfl
  · show (List.filterMap _ _).toArray.toList = _
    rw [hf, seg_eq]

theorem fmt_none {s : PySem.Str} {st E : Int} {st' k : Nat} (h1 : st = st') (h2 : E = k) (h3 : st' ≤ k) (h4 : k ≤ s.length) (hf : find4 s ⟨#[61]⟩ st E = -1) :
    cod (Txt.strip (Txt.slice s (some st) (some E))) = fmtL (seg (cod s) st' k) := by
  rw [h1, h2] at hf
  rcases find4_spec s 61 st' k h4 with ⟨_, hn⟩ | ⟨j, hj, _⟩
  · rw [h1, h2, cod_strip, cod_slice s st' k h3 h4, fmt_free hn]
  · rw [hj] at hf; omega
theorem fmt_some {s : PySem.Str} {st E : Int} {st' k : Nat} (hA : Asc (cod s)) (h1 : st = st') (h2 : E = k) (h4 : k ≤ s.length) (hf : find4 s ⟨#[61]⟩ st E ≠ -1) :
    cod (Txt.strip (Txt.lower (Txt.rstrip (Txt.slice s (some st) (some (find4 s ⟨#[61]⟩ st E)))) ++ PySem.Str.ofString "=" ++ Txt.lstrip (Txt.slice s (some (find4 s ⟨#[61]⟩ st E + 1)) (some E)))) = fmtL (seg (cod s) st' k) := by
  rw [h1, h2] at hf ⊢
  rcases find4_spec s 61 st' k h4 with ⟨hn, _⟩ | ⟨j, hj, j1, j2, j3, j4⟩
  · exact absurd hn hf
  · rw [hj]
    have e : (j : Int) + 1 = ((j + 1 : Nat) : Int) := by omega
    rw [e, cod_strip, cod_app, cod_app, eqs_eq, cod_lstrip, cod_slice s (j + 1) k (by omega) h4, cod_lower (by rw [cod_rstrip, cod_slice s st' j j1 (by omega)]; exact asc_rz (asc_seg hA _ _)), cod_rstrip, cod_slice s st' j j1 (by omega)]
    have e2 : seg (cod s) st' k = seg (cod s) st' j ++ 61 :: seg (cod s) (j + 1) k := by
      rw [← seg_seg (cod s) j1 (show j ≤ k by omega), seg_cons j3 j2]
    rw [e2, fmt_at j4, ← strip_pair (asc_seg hA _ _)]
    show rz (lz ((rz (seg (cod s) st' j)).map low ++ [61] ++ lz (seg (cod s) (j + 1) k))) = _
    rw [List.append_assoc]; rfl

/-! the same piece on the law's side -/
theorem part_none {p : PySem.Str} (h : 61 ∉ cod p) : Txt.partition p ⟨#[61]⟩ = (p, PySem.Str.empty, PySem.Str.empty) := by
  unfold Txt.partition
  rcases occ_head_hi p 61 0 p.length (Nat.le_refl _) with ⟨h0, _⟩ | ⟨i, r, h0, _, h2, h3, _⟩
  · rw [h0]
  · exact absurd (List.mem_of_getElem? h3) h
theorem part_some {p : PySem.Str} (h : 61 ∈ cod p) : ∃ j : Nat, (cod p)[j]? = some 61 ∧ 61 ∉ seg (cod p) 0 j ∧ Txt.partition p ⟨#[61]⟩ = (mkS (seg (cod p) 0 j), ⟨#[61]⟩, mkS ((cod p).drop (j + 1))) := by
  unfold Txt.partition
  rcases occ_head_hi p 61 0 p.length (Nat.le_refl _) with ⟨h0, hn⟩ | ⟨j, r, h0, _, h2, h3, hn⟩
  · obtain ⟨i, hi⟩ := List.mem_iff_getElem?.mp h
    refine absurd hi (hn i (Nat.zero_le _) ?_)
    obtain ⟨hl, _⟩ := List.getElem?_eq_some_iff.mp hi
    rw [← cod_len]; exact hl
  · refine ⟨j, h3, not_mem_seg hn, ?_⟩
    rw [h0]
    have e1 : strSub p 0 j = mkS (seg (cod p) 0 j) := cod_inj (by rw [cod_mkS]; show (strSub p 0 j).cps.toList = _; rw [StrLaws.strSub_toList, seg_eq])
    have e2 : strSub p (j + (⟨#[61]⟩ : PySem.Str).length) p.length = mkS ((cod p).drop (j + 1)) := cod_inj (by
      rw [cod_mkS]; show (strSub p (j + 1) p.length).cps.toList = _
      rw [StrLaws.strSub_toList, List.take_of_length_le]
      simp [PySem.Str.length])
    show (strSub p 0 j, (⟨#[61]⟩ : PySem.Str), strSub p (j + (⟨#[61]⟩ : PySem.Str).length) p.length) = _
    rw [e1, e2]

theorem due_some {p : PySem.Str} (hA : Asc (cod p)) (h : (Txt.partition p ⟨#[61]⟩).2.1 = ⟨#[61]⟩) :
    cod (Txt.lower (Txt.strip (Txt.partition p ⟨#[61]⟩).1) ++ PySem.Str.ofString "=" ++ Txt.strip (Txt.partition p ⟨#[61]⟩).2.2) = fmtL (cod p) := by
  by_cases hm : 61 ∈ cod p
  · obtain ⟨j, h1, h2, h3⟩ := part_some hm
    rw [h3]
    show cod (Txt.lower (Txt.strip (mkS (seg (cod p) 0 j))) ++ PySem.Str.ofString "=" ++ Txt.strip (mkS ((cod p).drop (j + 1)))) = _
    have e : cod p = seg (cod p) 0 j ++ 61 :: (cod p).drop (j + 1) := by
      rw [← drop_at h1, ← drop_seg (cod p) (Nat.zero_le j)]; rfl
    have hL : Asc (cod (Txt.strip (mkS (seg (cod p) 0 j)))) := by rw [cod_strip, cod_mkS]; exact asc_rz (asc_lz (asc_seg hA 0 j))
    have e' := (congrArg fmtL e).trans (fmt_at h2)
    rw [e', cod_app, cod_app, eqs_eq, cod_lower hL, cod_strip, cod_mkS, cod_strip, cod_mkS, List.append_assoc]; rfl
  · rw [part_none hm] at h
    exact absurd (show PySem.Str.empty = ⟨#[61]⟩ from h) (by decide)
theorem due_none {p : PySem.Str} (h : (Txt.partition p ⟨#[61]⟩).2.1 ≠ ⟨#[61]⟩) : cod (Txt.strip (Txt.partition p ⟨#[61]⟩).1) = fmtL (cod p) := by
  by_cases hm : 61 ∈ cod p
  · obtain ⟨j, h1, h2, h3⟩ := part_some hm
    rw [h3] at h
    exact absurd rfl h
  · rw [part_none hm, cod_strip, fmt_free hm]

/-! the outer loop -/
def dueL (t : PySem.Str) : List (List Nat) := (allP (cod t)).map fmtL
def dueS (t : PySem.Str) : List PySem.Str := (dueL t).map mkS
def OInv (t s : PySem.Str) (start : Int) (pl : List PySem.Str) : Prop :=
  ∃ a : Nat, start = a ∧ ((a = s.length ∧ pl.map cod = dueL t) ∨ (a < s.length ∧ (cod s)[a]? = some 59 ∧ pl.map cod ++ (allP ((cod s).drop (a + 1))).map fmtL = dueL t))
theorem out_start (t : PySem.Str) : OInv t (PySem.Str.ofString ";" ++ t) 0 [] := by
  rw [semi_eq]
  refine ⟨0, rfl, .inr ⟨?_, ?_, ?_⟩⟩
  · rw [PySem.Str.length_append]; show 0 < 1 + t.length; omega
  · rw [cod_app]; rfl
  · rw [cod_app]; rfl
theorem out_go {t s : PySem.Str} {start : Int} {pl : List PySem.Str} (h : OInv t s start pl) (hf : Txt.find3 s ⟨#[59]⟩ start = start) :
    ∃ a : Nat, start = a ∧ a < s.length ∧ (cod s)[a]? = some 59 ∧ pl.map cod ++ (allP ((cod s).drop (a + 1))).map fmtL = dueL t := by
  obtain ⟨a, h1, h2 | h2⟩ := h
  · rw [h1] at hf
    rcases find_spec s 59 a with ⟨f, _⟩ | ⟨k, f, f1, f2, _⟩
    · rw [f] at hf; omega
    · omega
  · exact ⟨a, h1, h2⟩
theorem out_done {t s : PySem.Str} {start : Int} {pl : List PySem.Str} (h : OInv t s start pl) (hf : ¬ Txt.find3 s ⟨#[59]⟩ start = start) : pl = dueS t := by
  obtain ⟨a, h1, ⟨_, h2⟩ | ⟨h2, h3, _⟩⟩ := h
  · unfold dueS
    rw [← h2, List.map_map]
    exact (List.map_id'' (fun x => mkS_cod x) _).symm
  · refine absurd ?_ hf
    rw [h1]
    rcases find_spec s 59 a with ⟨f, fn⟩ | ⟨k, f, f1, f2, f3, fn⟩
    · exact absurd h3 (fn a (Nat.le_refl _) h2)
    · rw [f]
      by_cases hk : a < k
      · exact absurd h3 (fn a (Nat.le_refl _) hk)
      · omega
theorem out_next {t s y : PySem.Str} {start E : Int} {pl : List PySem.Str} (h : OInv t s start pl) (hf : Txt.find3 s ⟨#[59]⟩ start = start) (hF : PEnd s (start + 1) E)
    (hy : ∀ st' k : Nat, start + 1 = st' → E = k → st' ≤ k → k ≤ s.length → cod y = fmtL (seg (cod s) st' k)) : OInv t s E (pl ++ [y]) := by
  obtain ⟨a, h1, h2, h3, h4⟩ := out_go h hf
  obtain ⟨st', k, g1, g2, g3, g4⟩ := hF
  have hst : st' = a + 1 := by omega
  subst hst
  rcases g4 with ⟨g5, g6⟩ | ⟨g5, g6, g7⟩
  · refine ⟨k, g2, .inl ⟨g5, ?_⟩⟩
    rw [← h4, List.map_append, List.map_cons, List.map_nil, hy _ k g1 g2 g3 (by omega)]
    unfold allP
    rw [g6]; rfl
  · refine ⟨k, g2, .inr ⟨g5, g6, ?_⟩⟩
    rw [← h4, List.map_append, List.map_cons, List.map_nil, hy _ k g1 g2 g3 (by omega), List.append_assoc]
    congr 1
    conv => rhs; unfold allP
    rw [g7]; rfl
theorem out_meas {s : PySem.Str} {start E : Int} (h : 0 ≤ start) (hF : PEnd s (start + 1) E) : ((s.length : Int) - E).toNat < ((s.length : Int) - start).toNat := by
  obtain ⟨st', k, g1, g2, g3, g4⟩ := hF
  have : k ≤ s.length := by rcases g4 with ⟨g, _⟩ | ⟨g, _⟩ <;> omega
  omega
theorem out_nonneg {t s : PySem.Str} {start : Int} {pl : List PySem.Str} (h : OInv t s start pl) : 0 ≤ start ∧ start ≤ s.length := by
  obtain ⟨a, h1, ⟨h2, _⟩ | ⟨h2, _⟩⟩ := h <;> omega

/-! the law's own loop -/
def dstep (q : List (List Nat) × List Nat × Bool × List Nat) (c : Nat) : List (List Nat) × List Nat × Bool × List Nat :=
  (if c = 59 ∧ q.2.2.1 = false then (q.1 ++ [q.2.1], []) else (q.1, q.2.1 ++ [c])) |> fun z => (z.1, z.2, q.2.2.1 ^^ (c == 34 && q.2.2.2 != [92]), [c])
theorem run_cut : ∀ (l : List Nat) (dn : List (List Nat)) (cur : List Nat) (ins : Bool) (bf : List Nat),
    (l.foldl dstep (dn, cur, ins, bf)).1 ++ [(l.foldl dstep (dn, cur, ins, bf)).2.1] = dn ++ (cur ++ (cutF ins (bf == [92]) l).1) :: (cutF ins (bf == [92]) l).2
  | [], dn, cur, ins, bf => by simp [cutF]
  | c :: l, dn, cur, ins, bf => by
    rw [List.foldl_cons, cutF]
    by_cases h : c = 59 ∧ ins = false
    · obtain ⟨h1, h2⟩ := h
      subst h1; subst h2
      have e : dstep (dn, cur, false, bf) 59 = (dn ++ [cur], [], false, [59]) := by simp [dstep]
      rw [e, run_cut l, if_pos ⟨rfl, rfl⟩]
      simp
    · have e : dstep (dn, cur, ins, bf) c = (dn, cur ++ [c], ins ^^ (c == 34 && bf != [92]), [c]) := by
        unfold dstep
        simp only [if_neg h]
      rw [e, run_cut l, if_neg h]
      have e2 : ([c] == [92]) = (c == 92) := by
        by_cases hc : c = 92 <;> simp [hc]
      rw [e2]
      simp [bne]
def DInv (pr : List Int) (ps : List PySem.Str) (ins : Bool) (bf : PySem.Str) : Prop :=
  ∃ dn cur, ps.map cod = dn ++ [cur] ∧ (pr.map Int.toNat).foldl dstep ([], [], false, []) = (dn, cur, ins, cod bf)
theorem due_done {x : PySem.Str} {ps : List PySem.Str} {ins : Bool} {bf : PySem.Str} (h : DInv (PySem.W.KStt.codes x) ps ins bf) : ps.map cod = allP (cod x) := by
  obtain ⟨dn, cur, h1, h2⟩ := h
  have e : (PySem.W.KStt.codes x).map Int.toNat = cod x := by
    unfold PySem.W.KStt.codes
    rw [List.map_map]
    exact (List.map_congr_left (g := _root_.id) fun c _ => Int.toNat_natCast c).trans (List.map_id _)
  rw [e] at h2
  have := run_cut (cod x) [] [] false []
  rw [h2] at this
  rw [h1, this]; rfl
end Mine
end

section
open PySem PySem.W PyProof.Rows PySem.Spec PySem.Calls PySem.Builtin PySem.Builtin.Str
namespace Mine
theorem gives_find4 (x y : PySem.Str) (i j : Int) (t u v z : Tok) : Gives («str.find» ⟨[.str x t, .str y u, .int i v, .int j z], []⟩) (.int (find4 x y i j)) := by
  show Gives (match occurrences x y (fromIndex x.length i) (min (fromIndex x.length j) x.length) 1 with | k :: _ => retInt k | [] => (do rule "str.find.not-found"; retInt (-1))) _
  unfold find4
  cases occurrences x y (fromIndex x.length i) (min (fromIndex x.length j) x.length) 1 with
  | nil => exact .rule (.of_eq rfl)
  | cons k _ => exact .of_eq rfl
theorem gives_count4 (x y : PySem.Str) (i j : Int) (t u v z : Tok) : Gives («str.count» ⟨[.str x t, .str y u, .int i v, .int j z], []⟩) (.int (count4 x y i j)) := by
  show Gives (retInt (occurrences x y (fromIndex x.length i) (min (fromIndex x.length j) x.length) (x.length + 1)).length) _
  exact .of_eq rfl
section
variable {prog : Program} {w : World} {A : Around} {E : Value → Shared → Prop} {s : Shared} {x y : PySem.Str} {t u v z : Tok} {i j : Int} {Q : Value → Shared → Prop}
theorem call_find4 (hq : Q (.int (find4 x y i j) s.toks) { s with toks := s.toks + 1 }) : wpAny (model prog w) A (call (.builtin "str.find") [.str x t, .str y u, .int i v, .int j z]) Q E s :=
  call_gives F.slot_str_find (typeIs_str _ _ _) F.entry_str_find (F.args_str_find_4 _ _ _ _) (gives_find4 x y i j t u v z) hq
theorem call_count4 (hq : Q (.int (count4 x y i j) s.toks) { s with toks := s.toks + 1 }) : wpAny (model prog w) A (call (.builtin "str.count") [.str x t, .str y u, .int i v, .int j z]) Q E s :=
  call_gives F.slot_str_count (typeIs_str _ _ _) F.entry_str_count (F.args_str_count_4 _ _ _ _) (gives_count4 x y i j t u v z) hq
end
end Mine
end

section
open PySem PySem.W PyProof.Rows PySem.Spec PySem.Calls PySem.Builtin PySem.Builtin.Str
namespace Mine
def OW (t s : PySem.Str) (start : Int) (pl : List PySem.Str) : Prop := OInv t s start pl ∧ pl.length ≤ start.toNat ∧ s.length ≤ 201 ∧ Asc (cod s)
theorem ow_start {x : PySem.Str} (h : x.length ≤ 200) (hA : Asc (cod x)) : OW x (PySem.Str.ofString ";" ++ x) 0 [] := by
  refine ⟨out_start x, by simp, ?_, ?_⟩
  · rw [PySem.Str.length_append, semi_eq]; show 1 + x.length ≤ 201; omega
  · intro c hc
    rw [cod_app, semi_eq] at hc
    rcases List.mem_append.mp hc with h1 | h1
    · rw [List.mem_singleton.mp (show c ∈ [59] from h1)]; decide
    · exact hA c h1
theorem ow_nonneg {t s : PySem.Str} {start : Int} {pl : List PySem.Str} (h : OW t s start pl) : 0 ≤ start ∧ start ≤ s.length ∧ s.length ≤ 201 ∧ pl.length ≤ 201 := by
  have h1 := out_nonneg h.1
  have h2 := h.2.1
  have h3 := h.2.2.1
  omega
theorem ow_inn {t s : PySem.Str} {start : Int} {pl : List PySem.Str} (h : OW t s start pl) : Inn s (start + 1) (Txt.find3 s (PySem.Str.ofString ";") (start + 1)) (start + 1) 0 := by
  rw [semi_eq]
  exact inn_start (by have := ow_nonneg h; omega)
theorem fmod_odd {d : Int} (h : ¬ d.fmod 2 = 0) : oddI d = true := by
  rw [Int.fmod_eq_emod_of_nonneg _ (by decide)] at h
  unfold oddI
  rw [beq_iff_eq]; omega
theorem fmod_even {d : Int} (h : d.fmod 2 = 0) : oddI d = false := by
  rw [Int.fmod_eq_emod_of_nonneg _ (by decide)] at h
  unfold oddI
  rw [beq_eq_false_iff_ne]; omega
def difS (s : PySem.Str) (d i e : Int) : Int := d + (count4 s (PySem.Str.ofString "\"") i e - count4 s (PySem.Str.ofString "\\\"") i e)
theorem difS_eq (s : PySem.Str) (d i e : Int) : difS s d i e = dif s d i e := by unfold difS dif; rw [quo_eq, bsq_eq]
end Mine
namespace Mine
open PySem PySem.W PyProof.Rows PySem.Spec PySem.Calls PySem.Builtin PySem.Builtin.Str
theorem len_rz (l : List Nat) : (rz l).length ≤ l.length := by
  unfold rz
  rw [List.length_reverse]
  have := (List.dropWhile_sublist (p := sp) (l := l.reverse)).length_le
  rwa [List.length_reverse] at this
theorem len_lz (l : List Nat) : (lz l).length ≤ l.length := (List.dropWhile_sublist (p := sp) (l := l)).length_le
theorem len_rstrip_le (x : PySem.Str) : (Txt.rstrip x).length ≤ x.length := by rw [← cod_len, ← cod_len, cod_rstrip]; exact len_rz _
theorem len_lstrip_le (x : PySem.Str) : (Txt.lstrip x).length ≤ x.length := by rw [← cod_len, ← cod_len, cod_lstrip]; exact len_lz _
theorem len_strip_le (x : PySem.Str) : (Txt.strip x).length ≤ x.length := by rw [← cod_len, ← cod_len, cod_strip]; exact Nat.le_trans (len_rz _) (len_lz _)
theorem len_eqs : (PySem.Str.ofString "=").length = 1 := by rw [eqs_eq]; rfl
section
variable {prog : Program} {w : World} {A : Around} {E : Value → Shared → Prop} {s : Shared} {x y z : PySem.Str} {t u : Tok} {Q : Value → Shared → Prop} {a b c d : Option Int}
/-- a text of a few signs: the same, told with its bound -/
theorem lower_few {n : Nat} (hx : x.length ≤ n) (hn : n ≤ 100000) (h : (Txt.lower x).length ≤ 3 * n → Q (.str (Txt.lower x) s.toks) { s with toks := s.toks + 1 }) : wpAny (model prog w) A (call (.builtin "str.lower") [.str x t]) Q E s :=
  SCL.lower (by omega) fun hl => h (by omega)
theorem strip_few {n : Nat} (hx : x.length ≤ n) (hn : n ≤ 1000000) (h : ∀ t' k, (Txt.strip x).length ≤ n → Q (.str (Txt.strip x) t') { s with toks := k }) : wpAny (model prog w) A (call (.builtin "str.strip") [.str x t]) Q E s :=
  SCL.strip (fun t' k hl => h t' k (by omega)) (by rw [sizeLine_eq]; omega)
theorem rstrip_few {n : Nat} (hx : x.length ≤ n) (hn : n ≤ 1000000) (h : ∀ t' k, (Txt.rstrip x).length ≤ n → Q (.str (Txt.rstrip x) t') { s with toks := k }) : wpAny (model prog w) A (call (.builtin "str.rstrip") [.str x t]) Q E s :=
  SCL.rstrip (fun t' k hl => h t' k (by omega)) (by rw [sizeLine_eq]; omega)
theorem lstrip_few {n : Nat} (hx : x.length ≤ n) (hn : n ≤ 1000000) (h : ∀ t' k, (Txt.lstrip x).length ≤ n → Q (.str (Txt.lstrip x) t') { s with toks := k }) : wpAny (model prog w) A (call (.builtin "str.lstrip") [.str x t]) Q E s :=
  SCL.lstrip (fun t' k hl => h t' k (by omega)) (by rw [sizeLine_eq]; omega)
theorem add_few {n k : Nat} (hx : x.length ≤ n) (hy : y.length ≤ k) (hn : n + k ≤ 1000000) (h : ∀ t' j, (x ++ y).length ≤ n + k → Q (.str (x ++ y) t') { s with toks := j }) : wpAny (model prog w) A (binaryOp .Add (.str x t) (.str y u)) Q E s :=
  KXadd.add hx hy (by omega) fun t' j _ => h t' j (by rw [PySem.Str.length_append]; omega)
theorem lit_eqs_few : (PySem.Str.ofString "=").length ≤ 1 := Nat.le_of_eq len_eqs
theorem slice_few {n : Nat} (hx : x.length ≤ n) : (Txt.slice x a b).length ≤ n := Nat.le_trans (Txt.slice_le x a b) hx
end
section
variable {prog : Program} {w : World} {A : Around} {E : Value → Shared → Prop} {s : Shared} {x y z : PySem.Str} {t u : Tok} {Q : Value → Shared → Prop}
theorem add_semi (hx : x.length ≤ 200) (h : ∀ S t' j, S = PySem.Str.ofString ";" ++ x → Q (.str S t') { s with toks := j }) : wpAny (model prog w) A (binaryOp .Add (.str (PySem.Str.ofString ";") t) (.str x u)) Q E s :=
  add_few (n := 1) (k := 200) (by rw [semi_eq]; decide) hx (by decide) fun t' j _ => h _ t' j rfl
theorem len_few {n : Nat} (hx : x.length ≤ n) (hn : n ≤ 1000000) (h : Q (.int x.length (s.toks + 1)) { s with toks := s.toks + 1 + 1 }) : wpAny (model prog w) A (call (.builtin "len") [.str x t]) Q E s :=
  P.len_str (by omega) h
end
theorem ow_startS {x S : PySem.Str} (hS : S = PySem.Str.ofString ";" ++ x) (h : x.length ≤ 200) (hA : Asc (cod x)) : OW x S 0 [] := by subst hS; exact ow_start h hA
theorem inn_nextS {S : PySem.Str} {st e i d : Int} (h : Inn S st e i d) (he : e > 0) (ho : ¬ (d + (count4 S (PySem.Str.ofString "\"") i e - count4 S (PySem.Str.ofString "\\\"") i e)).fmod 2 = 0) :
    Inn S st i (Txt.find3 S (PySem.Str.ofString ";") (e + 1)) (d + (count4 S (PySem.Str.ofString "\"") i e - count4 S (PySem.Str.ofString "\\\"") i e)) := by
  rw [quo_eq, bsq_eq] at ho ⊢
  rw [semi_eq]
  exact (inn_next h he (fmod_odd ho)).1
theorem inn_measS {S : PySem.Str} {st e i d : Int} (h : Inn S st e i d) (he : e > 0) (ho : ¬ (d + (count4 S (PySem.Str.ofString "\"") i e - count4 S (PySem.Str.ofString "\\\"") i e)).fmod 2 = 0) :
    mu S.length i (Txt.find3 S (PySem.Str.ofString ";") (e + 1)) < mu S.length e i := by
  rw [quo_eq, bsq_eq] at ho
  rw [semi_eq]
  exact (inn_next h he (fmod_odd ho)).2
theorem fin_break {S : PySem.Str} {st e i d : Int} (h : Inn S st e i d) (he : e > 0) (ho : (d + (count4 S (PySem.Str.ofString "\"") i e - count4 S (PySem.Str.ofString "\\\"") i e)).fmod 2 = 0) : PEnd S st e := by
  rw [quo_eq, bsq_eq] at ho
  exact inn_break h he (fmod_even ho)
theorem fin_exit {x S : PySem.Str} {pl : List PySem.Str} {o e i d : Int} (hO : OW x S o pl) (hf : Txt.find3 S (PySem.Str.ofString ";") o = o) (h : Inn S (o + 1) e i d) (he : ¬ e > 0) : e < 0 ∧ PEnd S (o + 1) S.length := by
  rw [semi_eq] at hf
  obtain ⟨a, h1, h2, _⟩ := out_go hO.1 hf
  exact inn_exit h (by omega) he
theorem ow_next {x S y : PySem.Str} {pl : List PySem.Str} {o E : Int} (hO : OW x S o pl) (hf : Txt.find3 S (PySem.Str.ofString ";") o = o) (hF : PEnd S (o + 1) E)
    (hy : ∀ st' k : Nat, o + 1 = st' → E = k → st' ≤ k → k ≤ S.length → cod y = fmtL (seg (cod S) st' k)) : OW x S E (pl ++ [y]) := by
  rw [semi_eq] at hf
  refine ⟨out_next hO.1 hf hF hy, ?_, hO.2.2⟩
  have h1 := hO.2.1
  have h2 := out_nonneg hO.1
  obtain ⟨st', k, g1, g2, g3, g4⟩ := hF
  rw [List.length_append]
  show pl.length + 1 ≤ _
  omega
theorem ow_next_none {x S : PySem.Str} {pl : List PySem.Str} {o E : Int} (hO : OW x S o pl) (hf : Txt.find3 S (PySem.Str.ofString ";") o = o) (hF : PEnd S (o + 1) E) (hi : find4 S (PySem.Str.ofString "=") (o + 1) E = -1) :
    OW x S E (pl ++ [Txt.strip (Txt.slice S (some (o + 1)) (some E))]) := by
  rw [eqs_eq] at hi
  exact ow_next hO hf hF fun st' k h1 h2 h3 h4 => fmt_none h1 h2 h3 h4 hi
theorem ow_next_some {x S : PySem.Str} {pl : List PySem.Str} {o E : Int} (hO : OW x S o pl) (hf : Txt.find3 S (PySem.Str.ofString ";") o = o) (hF : PEnd S (o + 1) E) (hi : ¬ find4 S (PySem.Str.ofString "=") (o + 1) E = -1) :
    OW x S E (pl ++ [Txt.strip (Txt.lower (Txt.rstrip (Txt.slice S (some (o + 1)) (some (find4 S (PySem.Str.ofString "=") (o + 1) E)))) ++ PySem.Str.ofString "=" ++ Txt.lstrip (Txt.slice S (some (find4 S (PySem.Str.ofString "=") (o + 1) E + 1)) (some E)))]) := by
  refine ow_next hO hf hF fun st' k h1 h2 h3 h4 => ?_
  have e := eqs_eq
  have hi' : find4 S ⟨#[61]⟩ (o + 1) E ≠ -1 := by rw [← e]; exact hi
  have := fmt_some hO.2.2.2 h1 h2 h4 hi'
  rw [← e] at this
  exact this
theorem ow_meas {x S : PySem.Str} {pl : List PySem.Str} {o E : Int} (hO : OW x S o pl) (hF : PEnd S (o + 1) E) : ((S.length : Int) - E).toNat < ((S.length : Int) - o).toNat := out_meas (ow_nonneg hO).1 hF
theorem ow_done {x S : PySem.Str} {pl : List PySem.Str} {o : Int} (hO : OW x S o pl) (hf : ¬ Txt.find3 S (PySem.Str.ofString ";") o = o) : pl = dueS x := by
  rw [semi_eq] at hf
  exact out_done hO.1 hf
section
variable {prog : Program} {w : World} {A : Around} {E : Value → Shared → Prop} {s : Shared} {h₀ : Heap} {L : Addr} {m : Str → Option Value} {news : List (Addr × Obj)} {l D : Addr} {o : Obj} {vs : List Value} {n : Nat} {v : Value} {Q : Value → Shared → Prop}
theorem append_2 (F : Fr h₀ L s.heap m) (N : News h₀ L s.heap ((D, o) :: (l, listOf vs.toArray n) :: news)) (h1 : l < D) (h2 : ∀ p ∈ news, p.1 < l) (hz : vs.length ≤ 1000)
    (h : ∀ h', Fr h₀ L h' m → News h₀ L h' ((D, o) :: (l, listOf (vs ++ [v]).toArray (n + 1)) :: news) → Q .none { s with heap := h' }) : wpAny (model prog w) A (call (.builtin "list.append") [.ref l, v]) Q E s := by
  refine append_K (its := vs.toArray) (n := n) (news' := (D, o) :: (l, listOf (vs.toArray.push v) (n + 1)) :: news) F N (Upd.tail ?_ (Upd.head ?_)) (fun h' F' N' => h h' F' ?_) (by rw [List.size_toArray, sizeLine_eq]; omega)
  · exact Nat.ne_of_gt h1
  · exact fun p hp => Nat.ne_of_lt (h2 p hp)
  · rw [List.push_toArray] at N'; exact N'
theorem append_1 (F : Fr h₀ L s.heap m) (N : News h₀ L s.heap ((l, listOf vs.toArray n) :: news)) (h2 : ∀ p ∈ news, p.1 < l) (hz : vs.length ≤ 1000)
    (h : ∀ h', Fr h₀ L h' m → News h₀ L h' ((l, listOf (vs ++ [v]).toArray (n + 1)) :: news) → Q .none { s with heap := h' }) : wpAny (model prog w) A (call (.builtin "list.append") [.ref l, v]) Q E s := by
  refine append_K (its := vs.toArray) (n := n) (news' := (l, listOf (vs.toArray.push v) (n + 1)) :: news) F N (Upd.head ?_) (fun h' F' N' => h h' F' ?_) (by rw [List.size_toArray, sizeLine_eq]; omega)
  · exact fun p hp => Nat.ne_of_lt (h2 p hp)
  · rw [List.push_toArray] at N'; exact N'
end
end Mine
end

section
open PySem PySem.W PyProof.Rows PySem.Spec PySem.Calls PySem.Builtin PySem.Builtin.Str
namespace Mine
abbrev OSt : Type := Int × Tok × List Value × List PySem.Str × Nat
abbrev oStored : List PySem.Str := [PySem.Str.ofString "end", PySem.Str.ofString "ind", PySem.Str.ofString "diff", PySem.Str.ofString "i", PySem.Str.ofString "f"]
theorem ow_end {x S y : PySem.Str} {h₀ h' : Heap} {L l D : Addr} {o : Obj} {s : Shared} {tk : Nat} {m₀ m' : PySem.Str → Option Value} {news : List (Addr × Obj)} {oV : List Value} {oP : List PySem.Str} {oC : Nat} {E : Int} {et t : Tok} {c : OSt} {stored : List PySem.Str}
    (F : Fr h₀ L h' m') (N : News h₀ L h' ((D, o) :: (l, listOf (oV ++ [Value.str y t]).toArray (oC + 1)) :: news)) (hk : m' (PySem.Str.ofString "start") = some (.int E et))
    (hr : ∀ z, z ≠ PySem.Str.ofString "start" → stored.contains z = false → m' z = m₀ z) (hOF : StrsAre oV oP) (hp : OW x S E (oP ++ [y])) (hm : ((S.length : Int) - E).toNat < ((S.length : Int) - c.1).toNat) :
    KswEnd h₀ L s (fun c : OSt => (l, listOf c.2.2.1.toArray c.2.2.2.2) :: news) (fun c => [(PySem.Str.ofString "start", Value.int c.1 c.2.1)]) (fun c => StrsAre c.2.2.1 c.2.2.2.1) stored m₀ (fun c => OW x S c.1 c.2.2.2.1) (fun c => ((PySem.Str.length S : Int) - c.1).toNat) c { s with heap := h', toks := tk } :=
  ksw_end (E, et, oV ++ [Value.str y t], oP ++ [y], oC + 1) F N (fun p hp => List.Mem.tail _ hp) (StrsAre.append' hOF (.cons _ _ .nil)) (List.forall_mem_cons.mpr ⟨hk, List.forall_mem_nil _⟩) (fun z h2 h3 => hr z (h2 _ (.head _)) h3) hp hm
/-- what `str` of it is -/
def TextArg (v : Value) (x : PySem.Str) : Prop := (∃ t, v = .str x t) ∨ ∃ n t, v = .int n t ∧ -100 ≤ n ∧ n ≤ 100 ∧ x = PySem.Str.ofString (toString n)
theorem TextArg.text (x : PySem.Str) (t : Tok) : TextArg (.str x t) x := .inl ⟨t, rfl⟩
theorem TextArg.number (n : Int) (t : Tok) (lo : -100 ≤ n) (hi : n ≤ 100) : TextArg (.int n t) (PySem.Str.ofString (toString n)) := .inr ⟨n, t, rfl, lo, hi, rfl⟩
section
variable {prog : Program} {w : World} {A : Around} {E : Value → Shared → Prop} {s : Shared} {x : PySem.Str} {v : Value} {Q : Value → Shared → Prop}
theorem str_of_arg (h : TextArg v x) (hq : ∀ t k, Q (.str x t) { s with toks := k }) : wpAny (model prog w) A (call (.type "str") [v]) Q E s := by
  rcases h with ⟨t, rfl⟩ | ⟨n, t, rfl, lo, hi, rfl⟩
  · exact P.str_of_str (hq _ _)
  · exact str_of_int_fit (N := 101) (by split <;> omega) (by decide) fun _ => hq _ _
end
end Mine
end

section
open PySem PySem.W PyProof.Rows PySem.Spec PySem.Calls PySem.Builtin PySem.Builtin.Str
namespace Mine
/-- the first loop's word, with the lengths that the walk wants -/
def DW (x : PySem.Str) (pr : List Int) (ps : List PySem.Str) (ins : Bool) (bf : PySem.Str) : Prop := DInv pr ps ins bf ∧ 1 ≤ ps.length ∧ ps.length ≤ pr.length + 1 ∧ (∀ p ∈ ps, p.length ≤ pr.length) ∧ bf.length ≤ 1
theorem dw_start (x : PySem.Str) : DW x [] [PySem.Str.ofString ""] false (PySem.Str.ofString "") := by
  have e : PySem.Str.ofString "" = ⟨#[]⟩ := by decide +kernel
  rw [e]
  exact ⟨⟨[], [], rfl, rfl⟩, by decide, by decide, by decide, by decide⟩
end Mine
end

section
open PySem PySem.W PyProof.Rows PySem.Spec PySem.Calls PySem.Builtin PySem.Builtin.Str
namespace Mine
theorem strs_last : ∀ {vs : List Value} {pi : List PySem.Str} {pz : PySem.Str}, StrsAre vs (pi ++ [pz]) → ∃ vi tz, vs = vi ++ [Value.str pz tz] ∧ StrsAre vi pi
  | _, [], pz, .cons _ t .nil => ⟨[], t, rfl, .nil⟩
  | _, y :: pi, pz, .cons _ t r => by
    obtain ⟨vi, tz, e, h⟩ := strs_last (pi := pi) r
    exact ⟨_ :: vi, tz, by rw [e]; rfl, .cons _ t h⟩
theorem dw_last {x : PySem.Str} {pr : List Int} {ps : List PySem.Str} {ins : Bool} {bf : PySem.Str} (h : DW x pr ps ins bf) : ∃ pi pz, ps = pi ++ [pz] := by
  have hne : ps ≠ [] := fun e => by have := h.2.1; rw [e] at this; simp at this
  exact ⟨ps.dropLast, ps.getLast hne, (List.dropLast_concat_getLast hne).symm⟩
theorem own_ne {l : Addr} {o : Obj} {news own : List (Addr × Obj)} (h : ∀ p ∈ news, p.1 < l) (hO : OwnOff own (((l, o) :: news).map (·.1))) : ∀ p ∈ news ++ own, p.1 ≠ l := by
  intro p hp
  rcases List.mem_append.mp hp with h1 | h1
  · exact Nat.ne_of_lt (h p h1)
  · exact hO p h1 l (by simp)
section
variable {prog : Program} {w : World} {A : Around} {E : Value → Shared → Prop} {s : Shared} {h₀ : Heap} {L : Addr} {m : Str → Option Value} {rest : List (Addr × Obj)} {l : Addr} {vi vs : List Value} {n : Nat} {v v' : Value} {u : Tok}
theorem get_last {Q : Value → Shared → Prop} (N : News h₀ L s.heap ((l, listOf (vi ++ [v]).toArray n) :: rest)) (h : Q v s) : wpAny (model prog w) A (getItem (.ref l) (.int (-1) u)) Q E s := by
  have hl : s.heap.IsList l (vi ++ [v]).toArray := PySem.IsL.isList (n := n) (N _ (.head _)).1
  refine wpAny_getItem_list_neg hl (by decide) ?_ (by decide) (x := v) ?_ h
  · simp; omega
  · have e : ((-1 : Int) + ((vi ++ [v]).toArray.size : Nat)).toNat = vi.length := by simp; omega
    rw [e]
    simp
theorem set_last {Q : Unit → Shared → Prop} (F : Fr h₀ L s.heap m) (N : News h₀ L s.heap ((l, listOf (vi ++ [v]).toArray n) :: rest)) (hne : ∀ p ∈ rest, p.1 ≠ l)
    (h : ∀ h', Fr h₀ L h' m → News h₀ L h' ((l, listOf (vi ++ [v']).toArray n) :: rest) → Q () { s with heap := h' }) : wpAny (model prog w) A (setItem (.ref l) (.int (-1) u) v') Q E s := by
  have z := N _ (.head _)
  have e : ((-1 : Int) + ((vi ++ [v]).toArray.size : Nat)).toNat = vi.length := by simp; omega
  refine ki_setBack z.1 (by decide) (by simp; omega) (by decide) (h _ (F.change (Heap.SameBut.update ..) z.2.1 z.2.2) (ki_turn (pre := []) _ N (fun _ h => nomatch h) hne ?_ ?_))
  · rw [e]
    apply Array.toList_inj.mp
    simp
  · simp
theorem append_ne {Q : Value → Shared → Prop} (F : Fr h₀ L s.heap m) (N : News h₀ L s.heap ((l, listOf vs.toArray n) :: rest)) (hne : ∀ p ∈ rest, p.1 ≠ l) (hz : vs.length ≤ 1000)
    (h : ∀ h', Fr h₀ L h' m → News h₀ L h' ((l, listOf (vs ++ [v]).toArray (n + 1)) :: rest) → Q .none { s with heap := h' }) : wpAny (model prog w) A (call (.builtin "list.append") [.ref l, v]) Q E s := by
  refine append_K (its := vs.toArray) (n := n) (news' := (l, listOf (vs.toArray.push v) (n + 1)) :: rest) F N (Upd.head hne) (fun h' F' N' => h h' F' ?_) (by rw [List.size_toArray, sizeLine_eq]; omega)
  rw [List.push_toArray] at N'; exact N'
theorem iadd_few {x y : PySem.Str} {t u : Tok} {Q : Value → Shared → Prop} (hx : x.length ≤ 1000) (hy : y.length ≤ 1000) (h : ∀ t' j, Q (.str (x ++ y) t') { s with toks := j }) :
    wpAny (model prog w) A (inplaceOp .Add (.str x t) (.str y u)) Q E s := SB.iadd h (by rw [sizeLine_eq]; omega)
end
theorem one_is (n c : Nat) (y : PySem.Str) (hy : y = ⟨#[c]⟩) : ((⟨#[n]⟩ : PySem.Str) == y) = (n == c) := by
  subst hy
  rw [one_beq]
  by_cases h : n = c <;> simp [h]
theorem bsl_eq : PySem.Str.ofString "\\" = ⟨#[92]⟩ := by decide +kernel
theorem emp_eq : PySem.Str.ofString "" = ⟨#[]⟩ := by decide +kernel
/-- one turn of the law's first loop -/
theorem dw_turn {x pz : PySem.Str} {pr : List Int} {pi ys : List PySem.Str} {ins b : Bool} {bf : PySem.Str} {n : Nat} (h : DW x pr (pi ++ [pz]) ins bf)
    (hys : ys = if n = 59 ∧ ins = false then pi ++ [pz] ++ [PySem.Str.ofString ""] else pi ++ [pz ++ ⟨#[n]⟩]) (hb : b = (ins ^^ (n == 34 && cod bf != [92]))) : DW x (pr ++ [(n : Int)]) ys b ⟨#[n]⟩ := by
  obtain ⟨⟨dn, cur, h1, h2⟩, h3, h4, h5, h6⟩ := h
  have hpz : pz.length ≤ pr.length := h5 pz (by simp)
  rw [List.map_append] at h1
  obtain ⟨e1, e2⟩ := List.append_inj' h1 (by simp)
  have e3 : cod pz = cur := by simpa using e2
  refine ⟨?_, ?_, ?_, ?_, by show 1 ≤ 1; omega⟩
  · rw [hys, hb]
    have hf : ((pr ++ [(n : Int)]).map Int.toNat).foldl dstep ([], [], false, []) = dstep (dn, cur, ins, cod bf) n := by
      rw [List.map_append, List.foldl_append, h2]; rfl
    by_cases hc : n = 59 ∧ ins = false
    · refine ⟨dn ++ [cur], [], ?_, ?_⟩
      · rw [if_pos hc, emp_eq, List.map_append, List.map_append, e1]
        show dn ++ [cod pz] ++ [[]] = _
        rw [e3]
      · rw [hf]; unfold dstep; simp only [if_pos hc]
    · refine ⟨dn, cur ++ [n], ?_, ?_⟩
      · rw [if_neg hc, List.map_append, e1]
        show dn ++ [cod (pz ++ ⟨#[n]⟩)] = _
        rw [cod_app, e3]
      · rw [hf]; unfold dstep; simp only [if_neg hc]
  · rw [hys]; split <;> simp
  · rw [hys]
    simp only [List.length_append, List.length_cons, List.length_nil] at h4 ⊢
    split <;> simp <;> omega
  · intro p hp
    have hl : (pr ++ [(n : Int)]).length = pr.length + 1 := by simp
    rw [hl]
    rw [hys] at hp
    have hpi : ∀ q ∈ pi, q.length ≤ pr.length + 1 := fun q hq => Nat.le_succ_of_le (h5 q (by simp [hq]))
    split at hp
    · rcases List.mem_append.mp hp with h7 | h7
      · rcases List.mem_append.mp h7 with h8 | h8
        · exact hpi p h8
        · rw [List.mem_singleton.mp h8]; omega
      · rw [List.mem_singleton.mp h7, emp_eq]; exact Nat.zero_le _
    · rcases List.mem_append.mp hp with h8 | h8
      · exact hpi p h8
      · rw [List.mem_singleton.mp h8, PySem.Str.length_append]
        show pz.length + 1 ≤ _
        omega
end Mine
end

section
open PySem PySem.W PyProof.Rows PySem.Spec PySem.Calls PySem.Builtin PySem.Builtin.Str
namespace Mine
def SEnd (h₀ : Heap) (L : Addr) (s : Shared) (o l : Addr) (vs : List Value) (nn : Nat) (rest own : List (Addr × Obj)) (x : PySem.Str) (stored : List PySem.Str) (m₀ : PySem.Str → Option Value) (ys : List PySem.Str) (s₂ : Shared) : Prop :=
  ∃ (h' : Heap) (tk : Nat) (m' : PySem.Str → Option Value) (us : List Value) (c : Nat) (news' : List (Addr × Obj)), s₂ = { s with heap := h', toks := tk } ∧ Fr h₀ L h' m' ∧ News h₀ L h' news' ∧
    (∀ p ∈ (o, listOf us.toArray c) :: (l, listOf vs.toArray nn) :: (rest ++ own), p ∈ news') ∧ StrsAre us ys ∧ ∀ z, z ≠ x → stored.contains z = false → m' z = m₀ z
def SPost (h₀ : Heap) (L : Addr) (s : Shared) (o l : Addr) (vs : List Value) (nn : Nat) (rest own : List (Addr × Obj)) (x : PySem.Str) (stored : List PySem.Str) (m₀ : PySem.Str → Option Value) (ys : List PySem.Str) (Q : Flow → Shared → Prop) (f : Flow) (s₂ : Shared) : Prop :=
  match f with
  | .ret v => Q (.ret v) s₂
  | .brk => Q .next s₂
  | _ => SEnd h₀ L s o l vs nn rest own x stored m₀ ys s₂
section
variable {prog : Program} {w : World} {A : Around} {E : Value → Shared → Prop} {s : Shared} {env : Env} {h₀ : Heap} {x : PySem.Str} {body : List Stmt} {Q : Flow → Shared → Prop}
theorem strs_map {m₀ m₁ : PySem.Str → Option Value} {stored : List PySem.Str} {v : Value} (h2 : ∀ z, z ≠ x → stored.contains z = false → m₁ z = m₀ z) :
    (fun y => if y = x then some v else m₁ y) = fun y => if y = x then some v else if stored.contains y = true then m₁ y else m₀ y := by
  funext y
  by_cases hy : y = x
  · rw [if_pos hy, if_pos hy]
  · rw [if_neg hy, if_neg hy]
    cases h3 : stored.contains y with
    | true => simp
    | false => simp only [Bool.false_eq_true, if_false]; exact h2 y hy h3
theorem strs_mapOut {m₀ m₁ : PySem.Str → Option Value} {stored : List PySem.Str} (h2 : ∀ z, z ≠ x → stored.contains z = false → m₁ z = m₀ z) :
    m₁ = fun y => if y = x then m₁ y else if stored.contains y = true then m₁ y else m₀ y := by
  funext y
  by_cases hy : y = x
  · rw [if_pos hy]
  · rw [if_neg hy]
    cases h3 : stored.contains y with
    | true => simp
    | false => simp only [Bool.false_eq_true, if_false]; exact h2 y hy h3
theorem strs_iter {l o : Addr} {vs : List Value} {ws : List PySem.Str} {nn : Nat} {m₀ : PySem.Str → Option Value} {rest : List (Addr × Obj)} (stored : List PySem.Str) (f : PySem.Str → PySem.Str) (hh : A.handled = none) (hi : StrsAre vs ws)
    (F : Fr h₀ env.locals s.heap m₀) (N : News h₀ env.locals s.heap ((o, listOf #[] 0) :: (l, listOf vs.toArray nn) :: rest))
    (turn : ∀ (i : Nat) (y : PySem.Str) (t : Tok) (us : List Value) (c : Nat) (u : PySem.Str → Option Value) (h : Heap) (tk : Nat) (own : List (Addr × Obj)), ws[i]? = some y → StrsAre us ((ws.take i).map f) → OwnOff own (o :: l :: rest.map (·.1)) →
      Fr h₀ env.locals h (fun z => if z = x then some (.str y t) else if stored.contains z = true then u z else m₀ z) → News h₀ env.locals h ((o, listOf us.toArray c) :: (l, listOf vs.toArray nn) :: (rest ++ own)) →
      wpAny (model prog w) A (execs body env) (SPost h₀ env.locals { s with heap := h, toks := tk } o l vs nn rest own x stored m₀ ((ws.take (i + 1)).map f) Q) E { s with heap := h, toks := tk })
    (done : ∀ (us : List Value) (c : Nat) (u : PySem.Str → Option Value) (h : Heap) (tk : Nat), StrsAre us (ws.map f) → Fr h₀ env.locals h (fun z => if z = x then u z else if stored.contains z = true then u z else m₀ z) →
      News h₀ env.locals h ((o, listOf us.toArray c) :: (l, listOf vs.toArray nn) :: rest) → Q .next { s with heap := h, toks := tk }) :
    wpAny (model prog w) A (pyIter (.ref l)) (fun it s₂ => LoopAtV prog w A h₀ env x body Q E it s₂) E s := by
  refine kdl_iter (nn := nn) (vs := vs) (news := (o, listOf #[] 0) :: (l, listOf vs.toArray nn) :: rest) (fun i m nx => ∃ us c, nx = (o, listOf us.toArray c) :: (l, listOf vs.toArray nn) :: rest ∧ StrsAre us ((ws.take i).map f) ∧ ∀ z, z ≠ x → stored.contains z = false → m z = m₀ z)
    hh (.tail _ (.head _)) F N ⟨[], 0, rfl, StrsAre.nil, fun _ _ _ => rfl⟩ ?_ ?_
  · rintro i v m₁ nx h tk own hv hoff _ ⟨us, c, rfl, hus, hm⟩ F₁ N₁
    obtain ⟨y, t, rfl, hy⟩ := StrsAre.item hi i v hv
    rw [strs_map hm] at F₁
    refine wpAny_mono (turn i y t us c m₁ h tk own hy hus hoff F₁ N₁) (fun fl s₂ p => ?_) fun _ _ e => e
    have fin : SEnd h₀ env.locals { s with heap := h, toks := tk } o l vs nn rest own x stored m₀ ((ws.take (i + 1)).map f) s₂ → InvEndG h₀ env.locals (fun m' nx => (l, listOf vs.toArray nn) ∈ nx ∧ ∃ us c, nx = (o, listOf us.toArray c) :: (l, listOf vs.toArray nn) :: rest ∧ StrsAre us ((ws.take (i + 1)).map f) ∧ ∀ z, z ≠ x → stored.contains z = false → m' z = m₀ z) own { s with heap := h, toks := tk } s₂ := by
      rintro ⟨h', tk', m', us', c', news', rfl, F', N', hn, hs, hr⟩
      refine InvEndG.intro (nx := (o, listOf us'.toArray c') :: (l, listOf vs.toArray nn) :: rest) F' N' ⟨.tail _ (.head _), us', c', rfl, hs, hr⟩ hoff ?_ ?_
      · intro p hp
        rcases List.mem_cons.mp hp with rfl | hp
        · exact hn _ (.head _)
        · rcases List.mem_cons.mp hp with rfl | hp
          · exact hn _ (.tail _ (.head _))
          · exact hn _ (.tail _ (.tail _ (List.mem_append.mpr (.inl hp))))
      · exact fun p hp => hn _ (.tail _ (.tail _ (List.mem_append.mpr (.inr hp))))
    cases fl with
    | ret v => exact p
    | brk => exact p
    | next => exact fin p
    | cont => exact fin p
  · rintro m₁ nx h tk ⟨us, c, rfl, hus, hm⟩ F₁ N₁
    have hl : vs.length = ws.length := hi.length
    rw [hl, List.take_length] at hus
    rw [strs_mapOut hm] at F₁
    exact done us c m₁ h tk hus F₁ N₁
theorem strs_end {h' : Heap} {L : Addr} {m' m₀ : PySem.Str → Option Value} {o l : Addr} {vs us : List Value} {nn c : Nat} {rest own news' : List (Addr × Obj)} {stored ys : List PySem.Str} {tk : Nat} (F : Fr h₀ L h' m') (N : News h₀ L h' news')
    (hn : ∀ p ∈ (o, listOf us.toArray c) :: (l, listOf vs.toArray nn) :: (rest ++ own), p ∈ news') (hs : StrsAre us ys) (hr : ∀ z, z ≠ x → stored.contains z = false → m' z = m₀ z) :
    SEnd h₀ L s o l vs nn rest own x stored m₀ ys { s with heap := h', toks := tk } := ⟨h', tk, m', us, c, news', rfl, F, N, hn, hs, hr⟩
end
/-- the end of a turn of the first loop -/
theorem dw_end {h₀ h' : Heap} {L l : Addr} {s : Shared} {tk : Nat} {m₀ m' : PySem.Str → Option Value} {news own : List (Addr × Obj)} {us : List Value} {ys : List PySem.Str} {c : Nat} {x y z : PySem.Str} {b : Bool} {t : Tok} {pr : List Int} {adr : List Addr}
    (ha : l :: news.map (·.1) = adr) (F : Fr h₀ L h' m') (N : News h₀ L h' ((l, listOf us.toArray c) :: (news ++ own))) (hk1 : m' (PySem.Str.ofString "inside") = some (.bool b)) (hk2 : m' (PySem.Str.ofString "before") = some (.str y t))
    (hr : ∀ q, q ≠ z → q ≠ PySem.Str.ofString "inside" → q ≠ PySem.Str.ofString "before" → m' q = m₀ q) (hs : StrsAre us ys) (hp : DW x pr ys b y) :
    InvEndN h₀ L (KstS (fun c : List Value × List PySem.Str × Nat × Bool × PySem.Str × Tok => (l, listOf c.1.toArray c.2.2.1) :: news) (fun c => [(PySem.Str.ofString "inside", Value.bool c.2.2.2.1), (PySem.Str.ofString "before", Value.str c.2.2.2.2.1 c.2.2.2.2.2)]) (fun c => StrsAre c.1 c.2.1) z [] m₀ (fun pr c => DW x pr c.2.1 c.2.2.2.1 c.2.2.2.2.1) pr) own adr s { s with heap := h', toks := tk } :=
  kst_end (us, ys, c, b, y, t) F N (fun p hp => by
      rcases List.mem_cons.mp hp with rfl | hp
      · exact .head _
      · exact .tail _ (List.mem_append.mpr (.inl hp))) (fun p hp => .tail _ (List.mem_append.mpr (.inr hp))) ha hs (List.forall_mem_cons.mpr ⟨hk1, List.forall_mem_cons.mpr ⟨hk2, List.forall_mem_nil _⟩⟩)
    (fun q h1 h2 _ => hr q h1 (h2 _ (.head _)) (h2 _ (.tail _ (.head _)))) hp
theorem dw_fit {x pz : PySem.Str} {pr post : List Int} {n : Int} {pi : List PySem.Str} {vi : List Value} {v : Value} {ins : Bool} {bf : PySem.Str} (h : DW x pr (pi ++ [pz]) ins bf) (e : KStt.codes x = pr ++ n :: post) (hx : x.length ≤ 200) (hv : StrsAre vi pi) :
    pz.length ≤ 1000 ∧ (vi ++ [v]).length ≤ 1000 := by
  have h1 : pr.length ≤ 200 := by
    have := congrArg List.length e
    rw [KStt.codes_length] at this
    simp at this
    omega
  have h2 := h.2.2.2.1 pz (by simp)
  have h3 := h.2.2.1
  have h4 := hv.length
  simp at h3 ⊢
  omega
theorem one_fit (n : Nat) : (⟨#[n]⟩ : PySem.Str).length ≤ 1000 := by show 1 ≤ 1000; omega
end Mine
end

section
open PySem PySem.W PyProof.Rows PySem.Spec PySem.Calls PySem.Builtin PySem.Builtin.Str
namespace Mine
section
variable {n : Nat} {ins : Bool} {pi : List PySem.Str} {pz bf : PySem.Str}
theorem keepF (h : ((⟨#[n]⟩ : PySem.Str) == PySem.Str.ofString ";") = false) : pi ++ [pz ++ ⟨#[n]⟩] = if n = 59 ∧ ins = false then pi ++ [pz] ++ [PySem.Str.ofString ""] else pi ++ [pz ++ ⟨#[n]⟩] := by
  rw [one_is n 59 _ semi_eq, beq_eq_false_iff_ne] at h
  rw [if_neg fun e => h e.1]
theorem keepI (h : ins = true) : pi ++ [pz ++ ⟨#[n]⟩] = if n = 59 ∧ ins = false then pi ++ [pz] ++ [PySem.Str.ofString ""] else pi ++ [pz ++ ⟨#[n]⟩] := by
  rw [if_neg fun e => by rw [h] at e; cases e.2]
theorem cutT (h : ((⟨#[n]⟩ : PySem.Str) == PySem.Str.ofString ";") = true) (h2 : ins = false) : pi ++ [pz] ++ [PySem.Str.ofString ""] = if n = 59 ∧ ins = false then pi ++ [pz] ++ [PySem.Str.ofString ""] else pi ++ [pz ++ ⟨#[n]⟩] := by
  rw [one_is n 59 _ semi_eq, beq_iff_eq] at h
  rw [if_pos ⟨h, h2⟩]
theorem cod_bsl : (bf == PySem.Str.ofString "\\") = (cod bf == [92]) := by
  rw [bsl_eq, Bool.eq_iff_iff, beq_iff_eq, beq_iff_eq]
  constructor
  · intro h; rw [h]
  · intro h; exact cod_inj h
theorem togT (h : ((⟨#[n]⟩ : PySem.Str) == PySem.Str.ofString "\"") = true) (h2 : (bf != PySem.Str.ofString "\\") = true) : (!ins) = (ins ^^ (n == 34 && cod bf != [92])) := by
  rw [one_is n 34 _ quo_eq] at h
  unfold bne at h2 ⊢
  rw [cod_bsl] at h2
  rw [h, h2]
  cases ins <;> rfl
theorem sameA (h : ((⟨#[n]⟩ : PySem.Str) == PySem.Str.ofString "\"") = false) : ins = (ins ^^ (n == 34 && cod bf != [92])) := by
  rw [one_is n 34 _ quo_eq] at h
  rw [h]
  cases ins <;> rfl
theorem sameB (h2 : (bf != PySem.Str.ofString "\\") = false) : ins = (ins ^^ (n == 34 && cod bf != [92])) := by
  unfold bne at h2 ⊢
  rw [cod_bsl] at h2
  rw [h2]
  cases ins <;> simp
end
/-! the pieces hold the text's own signs -/
theorem asc_cut : ∀ (l : List Nat) (ins esc : Bool), Asc l → Asc (cutF ins esc l).1 ∧ ∀ p ∈ (cutF ins esc l).2, Asc p
  | [], _, _, _ => ⟨(fun _ h => nomatch h), (fun _ h => nomatch h)⟩
  | c :: r, ins, esc, h => by
    have hr : Asc r := fun d hd => h d (.tail _ hd)
    rw [cutF]
    split
    · have ih := asc_cut r false false hr
      refine ⟨(fun _ h => nomatch h), fun p hp => ?_⟩
      rcases List.mem_cons.mp hp with rfl | hp
      · exact ih.1
      · exact ih.2 p hp
    · have ih := asc_cut r (ins ^^ (c == 34 && !esc)) (c == 92) hr
      refine ⟨fun d hd => ?_, ih.2⟩
      rcases List.mem_cons.mp hd with rfl | hd
      · exact h _ (.head _)
      · exact ih.1 d hd
theorem asc_all {l : List Nat} (h : Asc l) : ∀ p ∈ allP l, Asc p := by
  intro p hp
  have := asc_cut l false false h
  rcases List.mem_cons.mp hp with rfl | hp
  · exact this.1
  · exact this.2 p hp
def fmtS (p : PySem.Str) : PySem.Str := mkS (fmtL (cod p))
/-- what the second loop's turn is told -/
theorem dw_piece {x y : PySem.Str} {ps : List PySem.Str} {ins : Bool} {bf : PySem.Str} {i : Nat} (h : DW x (KStt.codes x) ps ins bf) (hA : Asc (cod x)) (hx : x.length ≤ 200) (hy : ps[i]? = some y) : Asc (cod y) ∧ y.length ≤ 200 := by
  have hm : y ∈ ps := List.mem_of_getElem? hy
  constructor
  · refine asc_all hA _ ?_
    rw [← due_done h.1]
    exact List.mem_map.mpr ⟨y, hm, rfl⟩
  · have := h.2.2.2.1 y hm
    rw [KStt.codes_length] at this
    omega
theorem dw_many {x : PySem.Str} {ps : List PySem.Str} {us : List Value} {ins : Bool} {bf : PySem.Str} {i : Nat} (h : DW x (KStt.codes x) ps ins bf) (hx : x.length ≤ 200) (hu : StrsAre us ((ps.take i).map fmtS)) : us.length ≤ 1000 := by
  have h1 := hu.length
  have h2 := h.2.2.1
  rw [KStt.codes_length] at h2
  simp at h1
  omega
theorem dw_result {x : PySem.Str} {ps : List PySem.Str} {ins : Bool} {bf : PySem.Str} (h : DW x (KStt.codes x) ps ins bf) : ps.map fmtS = dueS x := by
  unfold dueS dueL
  rw [← due_done h.1, List.map_map, List.map_map]
  rfl
theorem take_next {ps : List PySem.Str} {i : Nat} {y : PySem.Str} (hy : ps[i]? = some y) : (ps.take (i + 1)).map fmtS = (ps.take i).map fmtS ++ [fmtS y] := by
  rw [List.take_add_one, hy]; simp
section
variable {prog : Program} {w : World} {A : Around} {E : Value → Shared → Prop} {s : Shared} {h₀ : Heap} {L : Addr} {m : Str → Option Value} {news : List (Addr × Obj)} {y : PySem.Str} {t u : Tok} {Q : Value → Shared → Prop}
theorem partition_few (hF : Fr h₀ L s.heap m) (hN : News h₀ L s.heap news) (hy : y.length ≤ 200)
    (h : ∀ a b c D ta tb tc h' k, Txt.partition y ⟨#[61]⟩ = (a, b, c) → a.length ≤ 200 → c.length ≤ 200 → Fr h₀ L h' m → News h₀ L h' ((D, { cls := .type "tuple", data := .seq [.str a ta, .str b tb, .str c tc].toArray }) :: news) → (∀ q ∈ news, q.1 < D) → Q (.ref D) { s with heap := h', toks := k }) :
    wpAny (model prog w) A (call (.builtin "str.partition") [.str y t, .str (PySem.Str.ofString "=") u]) Q E s := by
  have hl : (Txt.partition y ⟨#[61]⟩).1.length ≤ 200 ∧ (Txt.partition y ⟨#[61]⟩).2.2.length ≤ 200 := by
    by_cases hm : 61 ∈ cod y
    · obtain ⟨j, h1, _, h3⟩ := part_some hm
      rw [h3]
      have e : (cod y).length = y.length := cod_len y
      constructor
      · show (mkS (seg (cod y) 0 j)).length ≤ 200
        rw [← cod_len, cod_mkS, seg_eq, List.length_take, List.length_drop]; omega
      · show (mkS ((cod y).drop (j + 1))).length ≤ 200
        rw [← cod_len, cod_mkS, List.length_drop]; omega
    · rw [part_none hm]; exact ⟨hy, Nat.zero_le _⟩
  rw [eqs_eq]
  exact KXpa.partition hF hN (by decide) rfl rfl rfl (by rw [sizeLine_eq]; omega) fun D ta tb tc h' k F N hlt => h _ _ _ D ta tb tc h' k rfl hl.1 hl.2 F N hlt
end
theorem strip_len {a : PySem.Str} {n : Nat} (h : a.length ≤ n) : (Txt.strip a).length ≤ n := Nat.le_trans (len_strip_le a) h
theorem lower_len {a : PySem.Str} {n : Nat} (h : a.length ≤ n) : (Txt.lower a).length ≤ 3 * n := Nat.le_trans (len_lower a) (by omega)
theorem due_pair {y a b c : PySem.Str} (hp : Txt.partition y ⟨#[61]⟩ = (a, b, c)) (hA : Asc (cod y)) (hb : (b == PySem.Str.ofString "=") = true) : Txt.lower (Txt.strip a) ++ PySem.Str.ofString "=" ++ Txt.strip c = fmtS y := by
  rw [eqs_eq, beq_iff_eq] at hb
  have h := due_some (p := y) hA (by rw [hp]; exact hb)
  rw [hp] at h
  unfold fmtS
  rw [← h, mkS_cod]
theorem due_bare {y a b c : PySem.Str} (hp : Txt.partition y ⟨#[61]⟩ = (a, b, c)) (hb : (b == PySem.Str.ofString "=") = false) : Txt.strip a = fmtS y := by
  rw [eqs_eq, beq_eq_false_iff_ne] at hb
  have h := due_none (p := y) (by rw [hp]; exact hb)
  rw [hp] at h
  unfold fmtS
  rw [← h, mkS_cod]
theorem own_ne2 {l o : Addr} {b : Obj} {news own : List (Addr × Obj)} (h : l < o ∧ AllLt o news) (hO : OwnOff own (o :: l :: news.map (·.1))) : ∀ p ∈ (l, b) :: (news ++ own), p.1 ≠ o := by
  intro p hp
  rcases List.mem_cons.mp hp with rfl | hp
  · exact Nat.ne_of_lt h.1
  · rcases List.mem_append.mp hp with h1 | h1
    · exact Nat.ne_of_lt (kst_ltOf h.2 p h1)
    · exact hO p h1 o (.head _)
theorem news_drop {h₀ h : Heap} {L : Addr} {a b : Addr × Obj} {news : List (Addr × Obj)} (N : News h₀ L h (a :: b :: news)) : News h₀ L h (a :: news) := fun p hp => N p (by
  rcases List.mem_cons.mp hp with rfl | hp
  · exact .head _
  · exact .tail _ (.tail _ hp))
section
variable {prog : Program} {w : World} {A : Around} {E : Value → Shared → Prop} {s : Shared} {h₀ : Heap} {L : Addr} {m : Str → Option Value} {rest : List (Addr × Obj)} {o D : Addr} {b : Obj} {vs : List Value} {n : Nat} {v : Value}
theorem append_t {Q : Value → Shared → Prop} (F : Fr h₀ L s.heap m) (N : News h₀ L s.heap ((D, b) :: (o, listOf vs.toArray n) :: rest)) (hD : ∀ q ∈ (o, listOf vs.toArray n) :: rest, q.1 < D) (hne : ∀ p ∈ rest, p.1 ≠ o) (hz : vs.length ≤ 1000)
    (h : ∀ h', Fr h₀ L h' m → News h₀ L h' ((D, b) :: (o, listOf (vs ++ [v]).toArray (n + 1)) :: rest) → Q .none { s with heap := h' }) : wpAny (model prog w) A (call (.builtin "list.append") [.ref o, v]) Q E s := by
  refine append_K (its := vs.toArray) (n := n) (news' := (D, b) :: (o, listOf (vs.toArray.push v) (n + 1)) :: rest) F N (Upd.tail ?_ (Upd.head hne)) (fun h' F' N' => h h' F' ?_) (by rw [List.size_toArray, sizeLine_eq]; omega)
  · exact Nat.ne_of_gt (hD _ (.head _))
  · rw [List.push_toArray] at N'; exact N'
end
end Mine
end

section
open PySem PySem.W PyProof.Rows PySem.Spec PySem.Calls PySem.Builtin PySem.Builtin.Str PyProof.V
namespace Mine
theorem sameAll_strs : ∀ ys : List PySem.Str, PySem.Spec.sameAll (ys.map PyData.str) (ys.map PyData.str) = true
  | [] => by simp [PySem.Spec.sameAll]
  | y :: r => by simp [PySem.Spec.sameAll, PySem.Spec.same, sameAll_strs r]
theorem depth_strs : ∀ ys : List PySem.Str, PyData.depthAll (ys.map PyData.str) = 0
  | [] => rfl
  | _ :: r => by simp [PyData.depthAll, PyData.depth, depth_strs r]
theorem canLay_strs : ∀ ys : List PySem.Str, (∀ y ∈ ys, PyData.strOk y = true) → PyData.canLayAll0 (ys.map PyData.str) = true
  | [], _ => rfl
  | y :: r, h => by simp [PyData.canLayAll0, PyData.canLay0, canLay_strs r fun z hz => h z (.tail _ hz), h y (.head _)]
theorem shaped_strs (ys : List PySem.Str) (h : ∀ y ∈ ys, PyData.strOk y = true) : SeqAt.shaped (.list (ys.map PyData.str)) = true := by
  simp [SeqAt.shaped, PyData.canLay0, PyData.depth, canLay_strs ys h, depth_strs]
theorem strOk_asc {y : PySem.Str} (h : Asc (cod y)) : PyData.strOk y = true := by
  unfold PyData.strOk
  rw [Array.all_eq_true']
  intro c hc
  have := h c (by simpa [cod] using hc)
  simp
  omega
theorem asc_map {a : List Nat} (h : Asc a) : Asc (a.map low) := by
  intro c hc
  obtain ⟨d, hd, rfl⟩ := List.mem_map.mp hc
  exact low_lt d (h d hd)
theorem asc_sub {a b : List Nat} (h : Asc b) (hs : ∀ c ∈ a, c ∈ b) : Asc a := fun c hc => h c (hs c hc)
theorem asc_fmt {p : List Nat} (h : Asc p) : Asc (fmtL p) := by
  unfold fmtL
  split
  · intro c hc
    rcases List.mem_append.mp hc with h1 | h1
    · exact asc_map (asc_rz (asc_lz (asc_sub h fun d hd => (List.takeWhile_sublist _).mem hd))) c h1
    · rcases List.mem_cons.mp h1 with rfl | h1
      · decide
      · exact asc_rz (asc_lz (asc_sub h fun d hd => (List.dropWhile_sublist _).mem (List.mem_of_mem_drop hd))) c h1
  · exact asc_rz (asc_lz h)
theorem due_ok {x : PySem.Str} (h : Asc (cod x)) : ∀ y ∈ dueS x, PyData.strOk y = true := by
  intro y hy
  unfold dueS dueL at hy
  obtain ⟨p, hp, rfl⟩ := List.mem_map.mp hy
  obtain ⟨q, hq, rfl⟩ := List.mem_map.mp hp
  refine strOk_asc ?_
  rw [cod_mkS]
  exact asc_fmt (asc_all h q hq)
section
variable {prog : Program} {w : World} {A : Around} {E : Value → Shared → Prop} {s : Shared} {a b : Addr} {xs zs : List Value} {ys : List PySem.Str} {Q : Value → Shared → Prop}
theorem ne_strs (ha : s.heap.IsList a xs.toArray) (hb : s.heap.IsList b zs.toArray) (hi : StrsAre xs ys) (hj : StrsAre zs ys) (hok : ∀ y ∈ ys, PyData.strOk y = true) (hu : A.units + 64 < cLine) (h : Q (.bool false) s) :
    wpAny (model prog w) A (compareOp .NotEq (.ref a) (.ref b)) Q E s :=
  ne_dataH_same (reads_newData ha hi.carried) (reads_newData hb hj.carried) (shaped_strs _ hok) (shaped_strs _ hok) hu (SeqAt.noMix_of_shape (.list .str) rfl _ _ (list_map_has fun _ => rfl) (list_map_has fun _ => rfl)) (by simp only [PySem.Spec.same]; rw [sameAll_strs]; exact h)
end
/-! the law's text -/
def tab : List Int := [59, 59, 34, 34, 92, 61, 32, 65, 98, 9, 34, 59, 10]
theorem tab_le (i : Nat) : 0 ≤ tab.getD i 0 ∧ tab.getD i 0 ≤ 127 := by
  by_cases h : i < 13
  · exact (by decide : ∀ i, i < 13 → 0 ≤ tab.getD i 0 ∧ tab.getD i 0 ≤ 127) i h
  · have : tab.getD i 0 = 0 := by
      rw [List.getD_eq_getElem?_getD, List.getElem?_eq_none (by simp [tab]; omega)]; rfl
    rw [this]; decide
def gText (k : Int) : PySem.Str := if k.fmod 16 < 13 then ⟨#[([59, 59, 34, 34, 92, 61, 32, 65, 98, 9, 34, 59, 10].getD (k.fmod 16).toNat 0 : Int).toNat]⟩ else ⟨#[((k.fdiv 16).fmod 128).toNat]⟩
theorem gText_lo {k : Int} (h : k.fmod 16 < 13) : gText k = ⟨#[([59, 59, 34, 34, 92, 61, 32, 65, 98, 9, 34, 59, 10].getD (k.fmod 16).toNat 0 : Int).toNat]⟩ := by unfold gText; rw [if_pos h]
theorem gText_hi {k : Int} (h : ¬ k.fmod 16 < 13) : gText k = ⟨#[((k.fdiv 16).fmod 128).toNat]⟩ := by unfold gText; rw [if_neg h]
theorem gText_one (k : Int) : (gText k).length = 1 ∧ Asc (cod (gText k)) := by
  unfold gText
  split
  · refine ⟨rfl, fun c hc => ?_⟩
    have h := tab_le (k.fmod 16).toNat
    rw [List.mem_singleton.mp (show c ∈ [_] from hc)]
    show (tab.getD (k.fmod 16).toNat 0).toNat < 128
    omega
  · refine ⟨rfl, fun c hc => ?_⟩
    rw [List.mem_singleton.mp (show c ∈ [_] from hc)]
    have h1 := fmod_lo (k.fdiv 16) (n := 128) (by decide)
    have h2 := fmod_hi (k.fdiv 16) (n := 128) (by decide)
    omega
theorem asc_app {x y : PySem.Str} (hx : Asc (cod x)) (hy : Asc (cod y)) : Asc (cod (x ++ y)) := by
  intro c hc
  rw [cod_app] at hc
  rcases List.mem_append.mp hc with h | h
  · exact hx c h
  · exact hy c h
theorem asc_emp : Asc (cod (PySem.Str.ofString "")) := by
  rw [emp_eq]; intro c hc; cases hc
theorem asc_join : ∀ l : List PySem.Str, (∀ a ∈ l, Asc (cod a)) → Asc (cod (PySem.Str.join (PySem.Str.ofString "") l))
  | [], _ => by intro c hc; cases hc
  | [a], h => h a (.head _)
  | a :: b :: r, h => by
    show Asc (cod (a ++ PySem.Str.ofString "" ++ PySem.Str.join (PySem.Str.ofString "") (b :: r)))
    exact asc_app (asc_app (h a (.head _)) asc_emp) (asc_join (b :: r) fun c hc => h c (.tail _ hc))
section
variable {prog : Program} {w : World} {A : Around} {E : Value → Shared → Prop} {s : Shared} {t u : Tok} {Q : Value → Shared → Prop} {D : Addr} {ys : List Value} {l : List Int}
theorem join_text (hl : s.heap.IsList D ys.toArray) (hc : CarriedAll ys (l.map fun a => PyData.str (gText a))) (hn : l.length ≤ 63) (h : ∀ x t' k, x.length ≤ 63 → Asc (cod x) → Q (.str x t') { s with toks := k }) :
    wpAny (model prog w) A (call (.builtin "str.join") [.str (PySem.Str.ofString "") t, .ref D]) Q E s := by
  refine KT.join_1 hl hc (fun a _ => (gText_one a).1) (by omega) fun t' k e => h _ t' k (by rw [e]; exact hn) ?_
  show Asc (cod (Builtin.Str.glued (PySem.Str.ofString "") (l.map gText)))
  rw [StrLaws.glued_eq_join]
  refine asc_join _ fun a ha => ?_
  obtain ⟨b, _, rfl⟩ := List.mem_map.mp ha
  exact (gText_one b).2
theorem add_asc {x y : PySem.Str} (hx : x.length ≤ 63) (hy : y.length ≤ 63) (hA : Asc (cod x)) (hB : Asc (cod y)) (h : ∀ z t' k, z.length ≤ 200 → Asc (cod z) → Q (.str z t') { s with toks := k }) :
    wpAny (model prog w) A (binaryOp .Add (.str x t) (.str y u)) Q E s :=
  add_few hx hy (by decide) fun t' j hl => h _ t' j (by omega) (asc_app hA hB)
theorem chr_tab {i : Nat} (hq : Q (.str ⟨#[([59, 59, 34, 34, 92, 61, 32, 65, 98, 9, 34, 59, 10].getD i 0 : Int).toNat]⟩ s.toks) { s with toks := s.toks + 1 }) : wpAny (model prog w) A (call (.builtin "chr") [.int ([59, 59, 34, 34, 92, 61, 32, 65, 98, 9, 34, 59, 10].getD i 0) t]) Q E s :=
  chr_of_range (tab_le i).1 (Int.le_trans (tab_le i).2 (by decide)) hq
end
theorem lit_pre : (PySem.Str.ofString "A;b=\"").length ≤ 63 ∧ Asc (cod (PySem.Str.ofString "A;b=\"")) := by
  have e : PySem.Str.ofString "A;b=\"" = ⟨#[65, 59, 98, 61, 34]⟩ := by decide +kernel
  rw [e]
  exact ⟨by decide, fun c hc => by
    have : c ∈ [65, 59, 98, 61, 34] := hc
    simp at this
    omega⟩
theorem lit_suf : (PySem.Str.ofString ";C = d").length ≤ 63 ∧ Asc (cod (PySem.Str.ofString ";C = d")) := by
  have e : PySem.Str.ofString ";C = d" = ⟨#[59, 67, 32, 61, 32, 100]⟩ := by decide +kernel
  rw [e]
  exact ⟨by decide, fun c hc => by
    have : c ∈ [59, 67, 32, 61, 32, 100] := hc
    simp at this
    omega⟩
/-! the numbers -/
def numOk (n : Int) : Bool := decide (dueL (PySem.Str.ofString (toString n)) = [cod (PySem.Str.ofString (toString n))]) && (cod (PySem.Str.ofString (toString n))).all (· < 128) && decide ((PySem.Str.ofString (toString n)).length ≤ 200)
theorem numOk_all : ∀ k : Nat, k < 130 → numOk ((k : Int) - 65) = true := by decide +kernel
theorem num_due {n : Int} (h1 : -65 ≤ n) (h2 : n ≤ 64) : dueS (PySem.Str.ofString (toString n)) = [PySem.Str.ofString (toString n)] ∧ Asc (cod (PySem.Str.ofString (toString n))) ∧ (PySem.Str.ofString (toString n)).length ≤ 200 := by
  have h := numOk_all (n + 65).toNat (by omega)
  have e : (((n + 65).toNat : Nat) : Int) - 65 = n := by omega
  rw [e] at h
  unfold numOk at h
  simp only [Bool.and_eq_true, decide_eq_true_eq, List.all_eq_true] at h
  refine ⟨?_, h.1.2, h.2⟩
  unfold dueS
  rw [h.1.1]
  show [mkS (cod _)] = _
  rw [mkS_cod]
end Mine
end

section
open PySem PySem.W PyProof.Rows PySem.Spec PySem.Calls
namespace Mine

abbrev CallClaim (w : World) (mean : ExcName → Option Value) (mg mb : Str → Option Value) (f : Addr) (v : Value) (ys : List Str) : Prop :=
  ∀ (dp un : Nat) (gd : Option (List Code)) (cn : Str) (cs : Scope) (a : Addr) (ccd : Value) (cl : List (Str × Addr)) (outer : List Env) (A₀ : Around) (base h₀ : Heap) (L : Addr) (m : Str → Option Value) (news : List (Addr × Obj)) (s : Shared) (Q E : Value → Shared → Prop),
    Below A₀ base outer h₀ → Fr h₀ L s.heap m → (hd.heap_39 w.params).In h₀ → News h₀ L s.heap news → Top hd.view_39 (looseW hd.view_39 []) mean mg mb h₀ → cs.kind = .function →
    dp + 1 < recursionLimit → un + 8 < cLine →
    (∀ (l : Addr) (us : List Value) (c : Nat) (h' : Heap) (tk' : Nat), Fr h₀ L h' m → News h₀ L h' ((l, listOf us.toArray c) :: news) → (∀ p ∈ news, p.1 < l) → StrsAre us ys → Q (.ref l) { s with heap := h', toks := tk' }) →
    wpAny (model PySem.Challenge.rw_dm0081_01.row.prog w) (ktrTop dp un gd cn cs L a ccd cl outer) (call (.ref f) [v]) Q E s

local macro_rules | `(tactic| walk_at "call builtin:str.count") => `(tactic| (k_here; (show wpAny _ _ (call (Value.builtin "str.count") [Value.str _ _, Value.str _ _, Value.int _ _, Value.int _ _]) _ _ _); refine call_count4 ?_))
local macro_rules | `(tactic| walk_at "call builtin:str.find") => `(tactic| (k_here; (show wpAny _ _ (call (Value.builtin "str.find") [Value.str _ _, Value.str _ _, Value.int _ _, Value.int _ _]) _ _ _); refine call_find4 ?_))

local macro_rules | `(tactic| walk_at "call type:str") => `(tactic| (k_here; (show wpAny _ _ (call (Value.type "str") [_]) _ _ _); (refine str_of_arg (by with_reducible assumption) ?_); intro _ _))
local macro_rules | `(tactic| walk_at "call builtin:str.lower") => `(tactic| (k_here; (show wpAny _ _ (call (Value.builtin "str.lower") [Value.str _ _]) _ _ _); (refine lower_few (by with_reducible assumption) (by decide) ?_); intro _))
local macro_rules | `(tactic| walk_at "call builtin:str.strip") => `(tactic| (k_here; (show wpAny _ _ (call (Value.builtin "str.strip") [Value.str _ _]) _ _ _); (refine strip_few (by first | with_reducible assumption | exact slice_few (by with_reducible assumption)) (by decide) ?_); intro _ _ _))
local macro_rules | `(tactic| walk_at "call builtin:str.rstrip") => `(tactic| (k_here; (show wpAny _ _ (call (Value.builtin "str.rstrip") [Value.str _ _]) _ _ _); (refine rstrip_few (by first | with_reducible assumption | exact slice_few (by with_reducible assumption)) (by decide) ?_); intro _ _ _))
local macro_rules | `(tactic| walk_at "call builtin:str.lstrip") => `(tactic| (k_here; (show wpAny _ _ (call (Value.builtin "str.lstrip") [Value.str _ _]) _ _ _); (refine lstrip_few (by first | with_reducible assumption | exact slice_few (by with_reducible assumption)) (by decide) ?_); intro _ _ _))
local macro_rules | `(tactic| walk_at "binaryOp Add str str") => `(tactic| (k_here; (with_reducible show wpAny _ _ (binaryOp Operator.Add (Value.str _ _) (Value.str _ _)) _ _ _); (refine add_few (by with_reducible assumption) (by first | with_reducible assumption | exact lit_eqs_few) (by decide) ?_); intro _ _ _))
local macro_rules | `(tactic| walk_at "binaryOp Add str str") => `(tactic| (k_here; (with_reducible show wpAny _ _ (binaryOp Operator.Add (Value.str (PySem.Str.ofString ";") _) (Value.str _ _)) _ _ _); (refine add_semi (by with_reducible assumption) ?_); intro S9 _ _ hS9))
local macro_rules | `(tactic| walk_at "call builtin:len") => `(tactic| (k_here; (show wpAny _ _ (call (Value.builtin "len") [Value.str _ _]) _ _ _); (refine len_few (by with_reducible assumption) (by decide) ?_)))
local macro_rules | `(tactic| walk_at "call builtin:list.append") => `(tactic| (k_here; (show wpAny _ _ (call (Value.builtin "list.append") [Value.ref _, _]) _ _ _); (rename News _ _ _ _ => nA'); (refine append_2 (by with_reducible assumption) nA' (And.left (by with_reducible assumption)) (by with_reducible assumption) (by with_reducible assumption) ?_); clear nA'; intro _ _ _))
set_option maxRecDepth 100000 in
set_option maxHeartbeats 1200000 in
theorem pp (w : World) (mean : ExcName → Option Value) (mg mb : Str → Option Value) (x : PySem.Str) (v : Value) (hv : TextArg v x) (hlen : x.length ≤ 200) (hAsc : Asc (cod x)) : CallClaim w mean mg mb 21 v (dueS x) := by
  unfold CallClaim
  k_fill
  intro dp un gd cn cs a ccd cl outer A₀ base h₀ L m news s Q E B F X N T hk hd hu hret
  w_on
  k_with_none
  k_with "exec While Compare cons nil" => (
    (with_reducible show wpAny _ _ (exec (PySem.Stmt.While (PySem.Expr.Compare (PySem.Expr.Call _ _ _ _) _ _ _) _ _ _) _) _ _ _)
    k_here
    rename Fr _ _ _ _ => lF'
    rename News _ _ _ _ => lN'
    rename (_ = Str.ofString ";" ++ x) => hS
    rename PySem.Str => S
    with_unfolding_all refine' ksw_while (fun c : Int × Tok × List Value × List Str × Nat => (_, listOf c.2.2.1.toArray c.2.2.2.2) :: news) (fun c => [(Str.ofString "start", Value.int c.1 c.2.1)]) (fun c => StrsAre c.2.2.1 c.2.2.2.1) [Str.ofString "end", Str.ofString "ind", Str.ofString "diff", Str.ofString "i", Str.ofString "f"] (fun c => OW x S c.1 c.2.2.2.1) (fun c => ((PySem.Str.length S : Int) - c.1).toNat) (0, _, [], [], 0) lF' ?kn ?kf ?kk ?kp ?_ PySem.PassesOwn.leaving
    (case kn => with_unfolding_all exact lN')
    (case kf => exact StrsAre.nil)
    (case kk => (refine List.forall_mem_cons.mpr ⟨?_, ?_⟩; (with_unfolding_all rfl); exact List.forall_mem_nil _))
    (case kp => exact ow_startS hS hlen hAsc)
    clear lF' lN'
    rintro ⟨oS, oST, oV, oP, oC⟩ u9 h9 tk9 hOF hOW F9 N9
    dsimp only [kstB] at F9
    dsimp only at N9 hOF hOW
    have kMark := kstMark
    have hS201 := hOW.2.2.1
    have hO1 := ow_nonneg hOW
    have hO2 : oV.length ≤ 1000 := by have := StrsAre.length hOF; omega
    clear hS
    (try k_fold))
  k_with "exec While Compare cons nil" => (
    (with_reducible show wpAny _ _ (exec (PySem.Stmt.While (PySem.Expr.Compare (PySem.Expr.Name _ _) _ _ _) _ _ _) _) _ _ _)
    k_here
    rename Fr _ _ _ _ => lF'
    rename News _ _ _ _ => lN'
    with_unfolding_all refine' ksw_while (fun c : Int × Tok × Int × Tok × Int × Tok => _) (fun c => [(Str.ofString "end", Value.int c.1 c.2.1), (Str.ofString "ind", Value.int c.2.2.1 c.2.2.2.1), (Str.ofString "diff", Value.int c.2.2.2.2.1 c.2.2.2.2.2)]) (fun c => True) [] (fun c => Inn S (oS + 1) c.1 c.2.2.1 c.2.2.2.2.1) (fun c => mu (PySem.Str.length S) c.1 c.2.2.1) (_, _, _, _, _, _) lF' ?kn ?kf ?kk ?kp ?_ PySem.PassesOwn.leaving
    (case kn => with_unfolding_all exact lN')
    (case kf => exact True.intro)
    (case kk => (refine List.forall_mem_cons.mpr ⟨?_, List.forall_mem_cons.mpr ⟨?_, List.forall_mem_cons.mpr ⟨?_, List.forall_mem_nil _⟩⟩⟩ <;> (with_unfolding_all rfl)))
    (case kp => exact ow_inn hOW)
    clear lF' lN'
    rintro ⟨iE, iET, iI, iIT, iD, iDT⟩ u8 h8 tk8 hIF hIW F8 N8
    dsimp only [kstB] at F8
    dsimp only at N8 hIF hIW
    have kMark := kstMark
    (try k_fold))
  k_with "state" => exact inn_nextS hIW (by with_reducible assumption) (by with_reducible assumption)
  k_with "measure" => exact inn_measS hIW (by with_reducible assumption) (by with_reducible assumption)
  refine wpAny_call ?_
  k_dflt cell_enter
  repeat' ((fail_if_success (with_reducible show KswEnd (σ := Int × Tok × List Value × List Str × Nat) _ _ _ _ _ _ _ _ _ _ _ _)); first | (k_unfold; (try dsimp only)) | (k_end; kc_close) | walk1 | (dsimp only; walk1) | (leave1; (try dsimp only)))
  all_goals first
    | (exfalso
       (fail_if_success (have hno : 0 < iE := by with_reducible assumption))
       exact absurd (fin_exit hOW (by with_reducible assumption) hIW (by with_reducible assumption)).1 (by with_reducible assumption))
    | skip
  · rename Fr _ _ _ _ => lF'
    rename News _ _ _ _ => lN'
    refine ow_end (E := iE) lF' lN' (by with_unfolding_all rfl) ?_ hOF ?_ ?_
    · intro z h2 h3
      simp only [List.contains_cons, List.contains_nil, Bool.or_false, Bool.or_eq_false_iff, beq_eq_false_iff_ne, ne_eq] at h3
      obtain ⟨z1, z2, z3, z4, z5⟩ := h3
      simp only [h2, z1, z2, z3, z4, z5, if_false, List.contains_cons, List.contains_nil, Bool.or_false, beq_iff_eq, Bool.or_eq_true, or_false, Bool.false_eq_true, false_or]
    · exact ow_next_none hOW (by with_reducible assumption) (fin_break hIW (by with_reducible assumption) (by with_reducible assumption)) (by with_reducible assumption)
    · exact ow_meas hOW (fin_break hIW (by with_reducible assumption) (by with_reducible assumption))
  · rename Fr _ _ _ _ => lF'
    rename News _ _ _ _ => lN'
    refine ow_end (E := iE) lF' lN' (by with_unfolding_all rfl) ?_ hOF ?_ ?_
    · intro z h2 h3
      simp only [List.contains_cons, List.contains_nil, Bool.or_false, Bool.or_eq_false_iff, beq_eq_false_iff_ne, ne_eq] at h3
      obtain ⟨z1, z2, z3, z4, z5⟩ := h3
      simp only [h2, z1, z2, z3, z4, z5, if_false, List.contains_cons, List.contains_nil, Bool.or_false, beq_iff_eq, Bool.or_eq_true, or_false, Bool.false_eq_true, false_or]
    · exact ow_next_some hOW (by with_reducible assumption) (fin_break hIW (by with_reducible assumption) (by with_reducible assumption)) (by with_reducible assumption)
    · exact ow_meas hOW (fin_break hIW (by with_reducible assumption) (by with_reducible assumption))
  · rename Fr _ _ _ _ => lF'
    rename News _ _ _ _ => lN'
    refine ow_end (E := S.length) lF' lN' (by with_unfolding_all rfl) ?_ hOF ?_ ?_
    · intro z h2 h3
      simp only [List.contains_cons, List.contains_nil, Bool.or_false, Bool.or_eq_false_iff, beq_eq_false_iff_ne, ne_eq] at h3
      obtain ⟨z1, z2, z3, z4, z5⟩ := h3
      simp only [h2, z1, z2, z3, z4, z5, if_false, List.contains_cons, List.contains_nil, Bool.or_false, beq_iff_eq, Bool.or_eq_true, or_false, Bool.false_eq_true, false_or]
    · exact ow_next_none hOW (by with_reducible assumption) (fin_exit hOW (by with_reducible assumption) hIW (by with_reducible assumption)).2 (by with_reducible assumption)
    · exact ow_meas hOW (fin_exit hOW (by with_reducible assumption) hIW (by with_reducible assumption)).2
  · rename Fr _ _ _ _ => lF'
    rename News _ _ _ _ => lN'
    refine ow_end (E := S.length) lF' lN' (by with_unfolding_all rfl) ?_ hOF ?_ ?_
    · intro z h2 h3
      simp only [List.contains_cons, List.contains_nil, Bool.or_false, Bool.or_eq_false_iff, beq_eq_false_iff_ne, ne_eq] at h3
      obtain ⟨z1, z2, z3, z4, z5⟩ := h3
      simp only [h2, z1, z2, z3, z4, z5, if_false, List.contains_cons, List.contains_nil, Bool.or_false, beq_iff_eq, Bool.or_eq_true, or_false, Bool.false_eq_true, false_or]
    · exact ow_next_some hOW (by with_reducible assumption) (fin_exit hOW (by with_reducible assumption) hIW (by with_reducible assumption)).2 (by with_reducible assumption)
    · exact ow_meas hOW (fin_exit hOW (by with_reducible assumption) hIW (by with_reducible assumption)).2
  · have e := ow_done hOW (by with_reducible assumption)
    subst e
    exact hret _ _ _ _ _ (by with_reducible assumption) (by with_reducible assumption) (by with_reducible assumption) hOF
end Mine
end

section
open PySem PySem.W PyProof.Rows PySem.Spec PySem.Calls
namespace Mine
local macro_rules | `(tactic| walk_at "getItem ref int") => `(tactic| (k_here; (with_reducible show wpAny _ _ (getItem (Value.ref _) (Value.int (-1) _)) _ _ _); (rename News _ _ _ _ => nG'); (refine get_last nG' ?_)))
local macro_rules | `(tactic| walk_at "setItem ref int") => `(tactic| (k_here; (with_reducible show wpAny _ _ (setItem (Value.ref _) (Value.int (-1) _) _) _ _ _); (rename News _ _ _ _ => nG'); (refine set_last (by with_reducible assumption) nG' (by with_reducible assumption) ?_); clear nG'; intro _ _ _))
local macro_rules | `(tactic| walk_at "inplaceOp Add str str") => `(tactic| (k_here; (with_reducible show wpAny _ _ (inplaceOp Operator.Add (Value.str _ _) (Value.str _ _)) _ _ _); (refine iadd_few (by with_reducible assumption) (by with_reducible assumption) ?_); intro _ _))
local macro_rules | `(tactic| walk_at "call builtin:str.partition") => `(tactic| (k_here; (show wpAny _ _ (call (Value.builtin "str.partition") [Value.str _ _, Value.str _ _]) _ _ _); (refine partition_few (by with_reducible assumption) (by with_reducible assumption) (by with_reducible assumption) ?_); intro _ _ _ _ _ _ _ _ _ hPt' _ _ _ _ hLt'))
local macro_rules | `(tactic| walk_at "call builtin:str.strip") => `(tactic| (k_here; (show wpAny _ _ (call (Value.builtin "str.strip") [Value.str _ _]) _ _ _); (refine strip_few (n := 200) (by with_reducible assumption) (by decide) ?_); intro _ _ _))
local macro_rules | `(tactic| walk_at "call builtin:str.lower") => `(tactic| (k_here; (show wpAny _ _ (call (Value.builtin "str.lower") [Value.str _ _]) _ _ _); (refine lower_few (n := 200) (by with_reducible assumption) (by decide) ?_); intro _))
local macro_rules | `(tactic| walk_at "binaryOp Add str str") => `(tactic| (k_here; (with_reducible show wpAny _ _ (binaryOp Operator.Add (Value.str _ _) (Value.str _ _)) _ _ _); (refine add_few (by with_reducible assumption) (by first | with_reducible assumption | exact lit_eqs_few) (by decide) ?_); intro _ _ _))
local macro_rules | `(tactic| walk_at "SPost") => `(tactic| (dsimp only [SPost]))
local macro_rules | `(tactic| walk_at "call builtin:list.append") => `(tactic| (k_here; (show wpAny _ _ (call (Value.builtin "list.append") [Value.ref _, _]) _ _ _); (rename News _ _ _ _ => nA'); (refine append_t (by with_reducible assumption) nA' (by with_reducible assumption) (by with_reducible assumption) (by with_reducible assumption) ?_); clear nA'; intro _ _ _))
local macro_rules | `(tactic| walk_at "call builtin:list.append") => `(tactic| (k_here; (show wpAny _ _ (call (Value.builtin "list.append") [Value.ref _, _]) _ _ _); (rename News _ _ _ _ => nA'); (refine append_ne (by with_reducible assumption) nA' (by with_reducible assumption) (by with_reducible assumption) ?_); clear nA'; intro _ _ _))
set_option maxRecDepth 100000 in
set_option maxHeartbeats 1200000 in
theorem due (w : World) (mean : ExcName → Option Value) (mg mb : Str → Option Value) (x : PySem.Str) (xt : Tok) (hlen : x.length ≤ 200) (hAsc : Asc (cod x)) : CallClaim w mean mg mb 33 (.str x xt) (dueS x) := by
  unfold CallClaim
  k_fill
  intro dp un gd cn cs a ccd cl outer A₀ base h₀ L m news s Q E B F X N T hk hd hu hret
  w_on
  k_with_none
  k_with "pyIter str" => (
    k_here
    rename Fr _ _ _ _ => lF'
    rename News _ _ _ _ => lN'
    with_unfolding_all refine' KStt.kst_text (fun c : List Value × List Str × Nat × Bool × Str × Tok => (_, listOf c.1.toArray c.2.2.1) :: news) (fun c => [(Str.ofString "inside", Value.bool c.2.2.2.1), (Str.ofString "before", Value.str c.2.2.2.2.1 c.2.2.2.2.2)]) (fun c => StrsAre c.1 c.2.1) [] (fun pr c => DW x pr c.2.1 c.2.2.2.1 c.2.2.2.2.1) ([Value.str (Str.ofString "") _], [Str.ofString ""], 0, false, Str.ofString "", _) (by rfl) lF' ?kn ?kf ?kk ?kp ?_ ?_
    (case kn => with_unfolding_all exact lN')
    (case kf => exact StrsAre.cons _ _ StrsAre.nil)
    (case kk => (refine List.forall_mem_cons.mpr ⟨?_, List.forall_mem_cons.mpr ⟨?_, List.forall_mem_nil _⟩⟩ <;> (with_unfolding_all rfl)))
    (case kp => exact dw_start x)
    all_goals (clear lF' lN')
    focus ((rintro ⟨dV, dP, dC, dI, dB, dBT⟩ dPre dPost dN dT u9 h9 tk9 own9 dEq dOff hDF hDW F9 N9); (dsimp only [kstB] at F9); (dsimp only at N9 hDF hDW dOff); (simp only [List.cons_append] at N9); (obtain ⟨dPi, dPz, dPe⟩ := dw_last hDW); (subst dPe); (obtain ⟨dVi, dTz, dVe, hDVi⟩ := strs_last hDF); (subst dVe); (have hne9 := own_ne (by with_reducible assumption) dOff); (have hfit9 := dw_fit (v := Value.str dPz dTz) hDW dEq hlen hDVi); (have hfitA := hfit9.1); (have hfitB := hfit9.2); (clear hfit9); (have hfitC := one_fit dN); (have kMark := kstMark); ((try k_fold)))
    rotate_left
    focus ((rintro ⟨dV, dP, dC, dI, dB, dBT⟩ u9 h9 tk9 hDF hDW F9 N9); (dsimp only [kstB] at F9); (dsimp only at N9 hDF hDW); (have kMark := kstMark); ((try k_fold)))
    rotate_left)
  k_with "pyIter ref" => (
    k_here
    rename Fr _ _ _ _ => lF'
    rename News _ _ _ _ => lN'
    with_unfolding_all refine' strs_iter [Str.ofString "name", Str.ofString "middle", Str.ofString "value"] fmtS (by rfl) hDF lF' lN' ?_ ?_
    all_goals (clear lF' lN')
    focus (rintro pI pY pT pU pC u8 h8 tk8 own8 hPY hPU hOff F8 N8; (have hPA := (dw_piece hDW hAsc hlen hPY).1); (have hPL := (dw_piece hDW hAsc hlen hPY).2); (have hPM := dw_many hDW hlen hPU); (have hne8 := own_ne2 (b := listOf dV.toArray dC) (by with_reducible assumption) hOff); (try k_fold))
    rotate_left
    focus (rintro pU pC u8 h8 tk8 hPU F8 N8; (rw [dw_result hDW] at hPU); (try k_fold))
    rotate_left)
  refine wpAny_call ?_
  k_dflt cell_enter
  repeat' ((fail_if_success (with_reducible show InvEndN _ _ _ _ _ _ _)); (fail_if_success (with_reducible show SEnd _ _ _ _ _ _ _ _ _ _ _ _ _ _)); first | (k_unfold; (try dsimp only)) | (k_end; kc_close) | walk1 | (dsimp only; walk1) | (leave1; (try dsimp only)))
  all_goals first
    | ((with_reducible show InvEndN _ _ _ _ _ _ _)
       rename Fr _ _ _ _ => lF'
       rename News _ _ _ _ => lN'
       refine dw_end (by rfl) lF' lN' (by with_unfolding_all rfl) (by with_unfolding_all rfl) ?_ (by first | exact StrsAre.append' hDF (.cons _ _ .nil) | exact StrsAre.append' hDVi (.cons _ _ .nil)) (dw_turn hDW (by first | exact keepF (by with_reducible assumption) | exact cutT (by with_reducible assumption) (by with_reducible assumption) | exact keepI (by with_reducible assumption)) (by first | exact sameA (by with_reducible assumption) | exact sameB (by with_reducible assumption) | exact togT (by with_reducible assumption) (by with_reducible assumption)))
       intro q h1 h2 h3
       simp only [h1, h2, h3, if_false, List.contains_nil, Bool.false_eq_true])
    | skip
  · rename Fr _ _ _ _ => lF'
    rename News _ _ _ _ => lN'
    refine strs_end lF' lN' (by exact fun p hp => List.Mem.tail _ hp) ?_ ?_
    · rw [take_next hPY]
      exact StrsAre.append' hPU (by rw [← due_pair (by with_reducible assumption) hPA (by with_reducible assumption)]; exact .cons _ _ .nil)
    · intro z h1 h3
      simp only [List.contains_cons, List.contains_nil, Bool.or_false, Bool.or_eq_false_iff, beq_eq_false_iff_ne, ne_eq] at h3
      obtain ⟨z1, z2, z3⟩ := h3
      simp only [h1, z1, z2, z3, if_false, List.contains_cons, List.contains_nil, Bool.or_false, beq_iff_eq, Bool.or_eq_true, or_false, Bool.false_eq_true, false_or]
  · rename Fr _ _ _ _ => lF'
    rename News _ _ _ _ => lN'
    refine strs_end lF' lN' (by exact fun p hp => List.Mem.tail _ hp) ?_ ?_
    · rw [take_next hPY]
      exact StrsAre.append' hPU (by rw [← due_bare (by with_reducible assumption) (by with_reducible assumption)]; exact .cons _ _ .nil)
    · intro z h1 h3
      simp only [List.contains_cons, List.contains_nil, Bool.or_false, Bool.or_eq_false_iff, beq_eq_false_iff_ne, ne_eq] at h3
      obtain ⟨z1, z2, z3⟩ := h3
      simp only [h1, z1, z2, z3, if_false, List.contains_cons, List.contains_nil, Bool.or_false, beq_iff_eq, Bool.or_eq_true, or_false, Bool.false_eq_true, false_or]
  · rename (_ < _ ∧ AllLt _ news) => hAl
    rename News h₀ _ _ _ => lN'
    exact hret _ _ _ _ _ (by with_reducible assumption) (news_drop lN') (kst_ltOf hAl.2) hPU
end Mine
end

section
open PySem PySem.W PyProof.Rows PySem.Spec PySem.Calls
namespace Mine
theorem claim_use {w : World} {mean : ExcName → Option Value} {mg mb : Str → Option Value} {f : Addr} {v : Value} {ys : List Str} {dp un : Nat} {gd : Option (List Code)} {cn : Str} {cs : Scope} {a : Addr} {ccd : Value} {cl : List (Str × Addr)} {outer : List Env} {A₀ : Around} {base h₀ : Heap} {L : Addr} {m : Str → Option Value} {news : List (Addr × Obj)} {s : Shared} {Q E : Value → Shared → Prop}
    (C : CallClaim w mean mg mb f v ys) (B : Below A₀ base outer h₀) (F : Fr h₀ L s.heap m) (X : (hd.heap_39 w.params).In h₀) (N : News h₀ L s.heap news) (T : Top hd.view_39 (looseW hd.view_39 []) mean mg mb h₀) (hk : cs.kind = .function) (hd : dp + 1 < recursionLimit) (hu : un + 8 < cLine)
    (ret : ∀ (l : Addr) (us : List Value) (c : Nat) (h' : Heap) (tk' : Nat), Fr h₀ L h' m → News h₀ L h' ((l, listOf us.toArray c) :: news) → (∀ p ∈ news, p.1 < l) → StrsAre us ys → Q (.ref l) { s with heap := h', toks := tk' }) :
    wpAny (model PySem.Challenge.rw_dm0081_01.row.prog w) (ktrTop dp un gd cn cs L a ccd cl outer) (call (.ref f) [v]) Q E s :=
  C dp un gd cn cs a ccd cl outer A₀ base h₀ L m news s Q E B F X N T hk hd hu ret
theorem le200 {x : PySem.Str} (h : x.length ≤ 63) : x.length ≤ 200 := Nat.le_trans h (by decide)

theorem pp_num {w : World} {mean : ExcName → Option Value} {mg mb : Str → Option Value} {n : Int} {t : Tok} (h1 : -65 ≤ n) (h2 : n ≤ 64) : CallClaim w mean mg mb 21 (.int n t) [Str.ofString (toString n)] := by
  have h := num_due h1 h2
  have hp := pp w mean mg mb (Str.ofString (toString n)) (.int n t) (.number n t (by omega) (by omega)) h.2.2 h.2.1
  rw [h.1] at hp
  exact hp
theorem num_ok {n : Int} (h1 : -65 ≤ n) (h2 : n ≤ 64) : ∀ y ∈ [Str.ofString (toString n)], PyData.strOk y = true := fun y hy => by
  rw [List.mem_singleton.mp hy]
  exact strOk_asc (num_due h1 h2).2.1
theorem str_num {prog : Program} {w : World} {A : Around} {E : Value → Shared → Prop} {s : Shared} {Q : Value → Shared → Prop} {n : Int} {t : Tok} (h1 : -65 ≤ n) (h2 : n ≤ 64) (hq : ∀ t k, Q (.str (Str.ofString (toString n)) t) { s with toks := k }) : wpAny (model prog w) A (call (.type "str") [.int n t]) Q E s :=
  str_of_arg (.number n t (by omega) (by omega)) hq
end Mine
end

open PySem PySem.W PyProof.Rows PySem.Spec PySem.Calls Mine
local macro_rules | `(tactic| walk_at "CompSrc") => `(tactic| (k_here; k_dflt ((refine LCg.CompSrc.base (by rfl) (by k_asm) (by k_asm) (by assumption) (by size_fits) ?_); intro g'; (refine' kct_list gText (by assumption) (fun k' t' I' oI' C' oC' D' m' ys' h' tk' E' hk' hC' hx' F' N' off' ne' => ?_) ?_); (all_goals (try (simp only [LCg.Off3, and_true] at off'))); (all_goals (try ((show KPfMark → _); intro hMark'))); kcf_last)))
local macro_rules | `(tactic| walk_at "KCtEl") => `(tactic| ((refine kct_el ?kce (by with_unfolding_all rfl) (by with_unfolding_all rfl)); (case kce => first | exact gText_lo (by with_reducible assumption) | exact gText_hi (by with_reducible assumption))))
local macro_rules | `(tactic| walk_at "call builtin:chr") => `(tactic| (k_here; (with_reducible refine chr_tab ?_)))
local macro_rules | `(tactic| walk_at "call builtin:str.join") => `(tactic| (k_here; (show wpAny _ _ (call (Value.builtin "str.join") [Value.str (PySem.Str.ofString "") _, Value.ref _]) _ _ _); (with_reducible rename CarriedAll _ (List.map _ _) => ktC); (refine join_text (by exact News.isList (by k_asm) (by k_mem)) ktC (by omega) ?_); intro _ _ _ _ _))
local macro_rules | `(tactic| walk_at "binaryOp Add str str") => `(tactic| (k_here; (with_reducible show wpAny _ _ (binaryOp Operator.Add (Value.str _ _) (Value.str _ _)) _ _ _); (refine add_asc (by first | with_reducible assumption | exact lit_pre.1) (by first | with_reducible assumption | exact lit_suf.1) (by first | with_reducible assumption | exact lit_pre.2) (by first | with_reducible assumption | exact lit_suf.2) ?_); intro _ _ _ _ _))
local macro_rules | `(tactic| walk_at "call ref") => `(tactic| (k_here; (show wpAny _ _ (call (Value.ref 33) [Value.str _ _]) _ _ _); k_dflt (refine' claim_use (due _ _ _ _ _ _ ?c1 ?c2) ?k1 ?k2 ?k3 ?k4 ?k5 ?kK ?kd ?ku ?_; (case c1 => first | with_reducible assumption | exact le200 (by with_reducible assumption)); (case c2 => with_reducible assumption); (case k1 => k_asm); (case k2 => k_asm); (case k3 => k_asm); (case k4 => k_asm); (case k5 => k_asm); (case kK => exact rfl); (case kd => ktr_room); (case ku => ktr_units)); intro l9 us9 c9 h9 tk9 F9 N9 hlt9 hs9; (try dsimp only); (try k_fold)))
local macro_rules | `(tactic| walk_at "call ref") => `(tactic| (k_here; (show wpAny _ _ (call (Value.ref 21) [Value.str _ _]) _ _ _); k_dflt (refine' claim_use (pp _ _ _ _ _ _ (TextArg.text _ _) ?c1 ?c2) ?k1 ?k2 ?k3 ?k4 ?k5 ?kK ?kd ?ku ?_; (case c1 => first | with_reducible assumption | exact le200 (by with_reducible assumption)); (case c2 => with_reducible assumption); (case k1 => k_asm); (case k2 => k_asm); (case k3 => k_asm); (case k4 => k_asm); (case k5 => k_asm); (case kK => exact rfl); (case kd => ktr_room); (case ku => ktr_units)); intro l9 us9 c9 h9 tk9 F9 N9 hlt9 hs9; (try dsimp only); (try k_fold)))
local macro_rules | `(tactic| walk_at "compareOp NotEq ref ref") => `(tactic| (k_here; (with_reducible show wpAny _ _ (compareOp CmpOp.NotEq (Value.ref _) (Value.ref _)) _ _ _); k_dflt (refine ne_strs (by exact News.isList (by k_asm) (by k_mem)) (by exact News.isList (by k_asm) (by k_mem)) (by with_reducible assumption) (by with_reducible assumption) (due_ok (by with_reducible assumption)) (by ke_room) ?_)))
local macro_rules | `(tactic| walk_at "call ref") => `(tactic| (k_here; (show wpAny _ _ (call (Value.ref 21) [Value.int _ _]) _ _ _); k_dflt (refine' claim_use (pp_num ?c1 ?c2) ?k1 ?k2 ?k3 ?k4 ?k5 ?kK ?kd ?ku ?_; (case c1 => omega); (case c2 => omega); (case k1 => k_asm); (case k2 => k_asm); (case k3 => k_asm); (case k4 => k_asm); (case k5 => k_asm); (case kK => exact rfl); (case kd => ktr_room); (case ku => ktr_units)); intro l9 us9 c9 h9 tk9 F9 N9 hlt9 hs9; (try dsimp only); (try k_fold)))
local macro_rules | `(tactic| walk_at "call type:str") => `(tactic| (k_here; (show wpAny _ _ (call (Value.type "str") [Value.int _ _]) _ _ _); (refine str_num (by omega) (by omega) ?_); intro _ _))
local macro_rules | `(tactic| walk_at "compareOp NotEq ref ref") => `(tactic| (k_here; (with_reducible show wpAny _ _ (compareOp CmpOp.NotEq (Value.ref _) (Value.ref _)) _ _ _); k_dflt (refine ne_strs (by exact News.isList (by k_asm) (by k_mem)) (by exact News.isList (by k_asm) (by k_mem)) (by with_reducible assumption) (by exact StrsAre.cons _ _ StrsAre.nil) (num_ok (by omega) (by omega)) (by ke_room) ?_)))
set_option maxRecDepth 100000 in
set_option maxHeartbeats 4000000 in
theorem PySem.Challenge.cw_dm0081_01_holds : PySem.Challenge.rw_dm0081_01.Holds := by
  exact Mine.hd (by
    k_with_none
    w_on
    w_strict k_go)

