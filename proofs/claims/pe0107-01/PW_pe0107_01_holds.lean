import PyProof.Rows.All
import Wide.All
import OpenK.AllK
import Wide.FinOn
import PySem.Challenge.RW_pe0107_01
set_option Elab.async false
section
open PySem PySem.W PyProof.Rows
namespace Mine
set_option maxRecDepth 100000
set_option maxHeartbeats 8000000
open_top hd for PySem.Challenge.rw_pe0107_01
end Mine
end
section
open PySem
namespace Mine
set_option maxRecDepth 100000

/-! texts as lists of codes; substitution sign by sign -/
def subst (g : Nat → List Nat) (x : Str) : Str := ⟨(x.cps.toList.flatMap g).toArray⟩
def oneSub (c : Nat) (r : List Nat) (k : Nat) : List Nat := if k = c then r else [k]
def look (t : List (Nat × List Nat)) (k : Nat) : List Nat := (t.lookup k).getD [k]

theorem flat_free {c : Nat} {r : List Nat} : ∀ {l : List Nat}, c ∉ l → l.flatMap (oneSub c r) = l
  | [], _ => rfl
  | k :: l, h => by
    have h1 : ¬ k = c := fun e => h (e ▸ List.mem_cons_self ..)
    rw [List.flatMap_cons, flat_free fun m => h (List.mem_cons_of_mem _ m)]
    simp [oneSub, h1]

theorem flat_join (c : Nat) (z : Str) : ∀ parts : List Str, (∀ p ∈ parts, c ∉ p.cps.toList) → (Str.join ⟨#[c]⟩ parts).cps.toList.flatMap (oneSub c z.cps.toList) = (Str.join z parts).cps.toList
  | [], _ => rfl
  | [p], h => flat_free (h p (List.mem_singleton.mpr rfl))
  | p :: q :: r, h => by
    have ih := flat_join c z (q :: r) fun a ha => h a (List.mem_cons_of_mem _ ha)
    show (p ++ ⟨#[c]⟩ ++ Str.join ⟨#[c]⟩ (q :: r)).cps.toList.flatMap _ = (p ++ z ++ Str.join z (q :: r)).cps.toList
    simp only [Str.cps_append, Array.toList_append, List.flatMap_append]
    rw [ih, flat_free (h p (List.mem_cons_self ..))]
    simp [oneSub]

theorem replace_subst (x z : Str) (c : Nat) : Txt.replace x ⟨#[c]⟩ z = subst (oneSub c z.cps.toList) x := by
  apply Str.ext'
  apply Array.ext'
  show _ = (x.cps.toList.flatMap (oneSub c z.cps.toList)).toArray.toList
  rw [StrLaws.replace_one, ← flat_join c z _ (StrLaws.split_free x c), StrLaws.join_split]

theorem subst_look_nil (x : Str) : subst (look []) x = x := by
  apply Str.ext'; apply Array.ext'
  show x.cps.toList.flatMap (fun k => [k]) = x.cps.toList
  induction x.cps.toList with
  | nil => rfl
  | cons k l ih => rw [List.flatMap_cons, ih]; rfl

def okStep (t : List (Nat × List Nat)) (c : Nat) : Bool := t.all fun p => p.1 != c && !p.2.contains c

theorem look_step {t : List (Nat × List Nat)} {c : Nat} (r : List Nat) (h : okStep t c = true) (k : Nat) : (look t k).flatMap (oneSub c r) = look (t ++ [(c, r)]) k := by
  induction t with
  | nil =>
    show (oneSub c r k) ++ [] = look [(c, r)] k
    simp only [oneSub, look, List.lookup, List.append_nil]
    by_cases e : k = c
    · simp [e]
    · have : (k == c) = false := by simpa using e
      simp [e, this]
  | cons p t ih =>
    simp only [okStep, List.all_cons, Bool.and_eq_true] at h
    have ih := ih (by simpa [okStep] using h.2)
    obtain ⟨p1, p2⟩ := p
    simp only [look, List.cons_append, List.lookup] at ih ⊢
    by_cases e : (k == p1) = true
    · rw [e]
      simp only [Option.getD_some]
      apply flat_free
      have := h.1.2
      simpa using this
    · rw [Bool.not_eq_true] at e
      rw [e]; exact ih

theorem subst_subst (f g : Nat → List Nat) (x : Str) : subst g (subst f x) = subst (fun k => (f k).flatMap g) x := by
  apply Str.ext'; apply Array.ext'
  show (x.cps.toList.flatMap f).flatMap g = x.cps.toList.flatMap _
  rw [List.flatMap_assoc]

theorem replace_look {t : List (Nat × List Nat)} {c : Nat} (z x : Str) (h : okStep t c = true) : Txt.replace (subst (look t) x) ⟨#[c]⟩ z = subst (look (t ++ [(c, z.cps.toList)])) x := by
  rw [replace_subst, subst_subst]
  congr 1
  funext k
  exact look_step _ h k

theorem look_len {t : List (Nat × List Nat)} (h : (t.all fun p => decide (p.2.length ≤ 6)) = true) (k : Nat) : (look t k).length ≤ 6 := by
  induction t with
  | nil => simp [look]
  | cons p t ih =>
    simp only [List.all_cons, Bool.and_eq_true, decide_eq_true_eq] at h
    obtain ⟨p1, p2⟩ := p
    have ih := ih (by simpa using h.2)
    simp only [look, List.lookup] at ih ⊢
    by_cases e : (k == p1) = true
    · rw [e]; exact h.1
    · rw [Bool.not_eq_true] at e; rw [e]; exact ih

theorem subst_len {g : Nat → List Nat} (h : ∀ k, (g k).length ≤ 6) (x : Str) : (subst g x).length ≤ 6 * x.length := by
  show (x.cps.toList.flatMap g).toArray.size ≤ 6 * x.cps.size
  rw [List.size_toArray, ← Array.length_toList]
  induction x.cps.toList with
  | nil => simp
  | cons k l ih =>
    rw [List.flatMap_cons, List.length_append, List.length_cons]
    have := h k
    omega
theorem subst_look_len {t : List (Nat × List Nat)} (h : (t.all fun p => decide (p.2.length ≤ 6)) = true) (x : Str) : (subst (look t) x).length ≤ 6 * x.length := subst_len (look_len h) x

theorem found_free {x : Str} {c : Nat} (h : (!(Builtin.Str.occurrences x ⟨#[c]⟩ 0 x.length 1).isEmpty) = false) (z : Str) : Txt.replace x ⟨#[c]⟩ z = x := by
  rw [StrLaws.found_one, decide_eq_false_iff_not] at h
  rw [replace_subst]
  apply Str.ext'; apply Array.ext'
  exact flat_free h

def tAmp : Nat × List Nat := (38, [38, 97, 109, 112, 59])
def tLt : Nat × List Nat := (60, [38, 108, 116, 59])
def tGt : Nat × List Nat := (62, [38, 103, 116, 59])
def tQuot : Nat × List Nat := (34, [38, 113, 117, 111, 116, 59])
def tb : Nat → List (Nat × List Nat)
  | 0 => [(34, [34, 34])]
  | 1 => [tAmp, tLt, tGt]
  | 2 => [tAmp, tLt, tGt, tQuot, (13, [38, 35, 49, 51, 59]), (10, [38, 35, 49, 48, 59]), (9, [38, 35, 48, 57, 59])]
  | 3 => [tAmp, tGt, tQuot]
  | 4 => [tAmp, tLt, tGt, (13, [38, 35, 120, 68, 59])]
  | 5 => [tAmp, tLt, tQuot, (9, [38, 35, 120, 57, 59]), (10, [38, 35, 120, 65, 59]), (13, [38, 35, 120, 68, 59])]
  | _ => [(34, [34, 34])]
def esc (l : Nat) (x : Str) : Str := subst (look (tb l)) x
theorem tb_len (l : Nat) : ((tb l).all fun p => decide (p.2.length ≤ 6)) = true := by
  rcases l with _ | _ | _ | _ | _ | _ | _ <;> first | decide | rfl
theorem esc_len (l : Nat) (x : Str) : (esc l x).length ≤ 6 * x.length := subst_look_len (tb_len l) x
end Mine
end
section
open PySem
namespace Mine
def rOpen : Str := ⟨#[50, 53, 55, 32, 34]⟩
def rEnd0 : Str := ⟨#[34]⟩
def rEnd6 : Str := ⟨#[34, 32, 97, 115, 32, 34, 115, 97, 105, 100, 34]⟩
def step : Nat → Str → Str
  | 0, x => rOpen ++ esc 0 x ++ rEnd0
  | 6, x => rOpen ++ esc 6 x ++ rEnd6
  | l, x => esc l x
theorem step_len (l : Nat) (x : Str) : (step l x).length ≤ 6 * x.length + 16 := by
  have h := esc_len l x
  unfold step
  split
  · simp only [Str.length_append]
    have e1 : rOpen.length = 5 := rfl
    have e2 : rEnd0.length = 1 := rfl
    omega
  · simp only [Str.length_append]
    have e1 : rOpen.length = 5 := rfl
    have e2 : rEnd6.length = 11 := rfl
    omega
  · omega

def spell (x : Str) (ls : List Nat) : Str := ls.foldl (fun t l => step l t) x
theorem spell_nil (x : Str) : spell x [] = x := rfl
theorem spell_snoc (x : Str) (ls : List Nat) (l : Nat) : spell x (ls ++ [l]) = step l (spell x ls) := by
  unfold spell; rw [List.foldl_append]; rfl
theorem spell_append (x : Str) (a b : List Nat) : spell x (a ++ b) = spell (spell x a) b := by
  unfold spell; rw [List.foldl_append]
theorem spell_len : ∀ (ls : List Nat) (x : Str), (spell x ls).length + 4 ≤ 6 ^ ls.length * (x.length + 4)
  | [], x => by simp [spell]
  | l :: ls, x => by
    have ih := spell_len ls (step l x)
    have h := step_len l x
    show (spell (step l x) ls).length + 4 ≤ 6 ^ (ls.length + 1) * (x.length + 4)
    have e : 6 ^ (ls.length + 1) * (x.length + 4) = 6 ^ ls.length * (6 * (x.length + 4)) := by
      rw [Nat.pow_succ, Nat.mul_assoc]
    have h2 : 6 ^ ls.length * ((step l x).length + 4) ≤ 6 ^ ls.length * (6 * (x.length + 4)) := Nat.mul_le_mul_left _ (by omega)
    omega
theorem spell_small {x : Str} {ls : List Nat} (hx : x.length ≤ 3) (hl : ls.length ≤ 5) : (spell x ls).length ≤ 60000 := by
  have h := spell_len ls x
  have h1 : 6 ^ ls.length ≤ 6 ^ 5 := Nat.pow_le_pow_right (by decide) hl
  have h2 : 6 ^ ls.length * (x.length + 4) ≤ 6 ^ 5 * 7 := Nat.mul_le_mul h1 (by omega)
  have h3 : 6 ^ 5 * 7 = 54432 := by decide
  omega
end Mine
end
section
open PySem PySem.Builtin PySem.Builtin.Str
namespace Mine
theorem slice_eq (x : Str) (a b : Nat) (hab : a ≤ b) : (Txt.slice x (some (a : Int)) (some (b : Int))).cps.toList = (x.cps.toList.drop a).take (b - a) := by
  have e : Txt.slice x (some (a : Int)) (some (b : Int)) = StrLaws.sliceText x (some ((min a x.length : Nat) : Int)) (some ((min b x.length : Nat) : Int)) := by
    have e1 : strSliceIndices (some (a : Int)) (some (b : Int)) 1 x.length = strSliceIndices (some ((min a x.length : Nat) : Int)) (some ((min b x.length : Nat) : Int)) 1 x.length := by
      unfold strSliceIndices
      have h1 : ¬ ((a : Int) < 0) := by omega
      have h2 : ¬ ((b : Int) < 0) := by omega
      have h3 : ¬ (((min a x.length : Nat) : Int) < 0) := by omega
      have h4 : ¬ (((min b x.length : Nat) : Int) < 0) := by omega
      have h5 : max 0 (min (a : Int) (x.length : Int)) = max 0 (min ((min a x.length : Nat) : Int) (x.length : Int)) := by omega
      have h6 : max 0 (min (b : Int) (x.length : Int)) = max 0 (min ((min b x.length : Nat) : Int) (x.length : Int)) := by omega
      have h7 : (1 : Int) > 0 := by decide
      simp only [h1, h2, h3, h4, if_false, h7, if_true, h5, h6]
    show (if ((1 : Int) == 1 && (strSliceIndices (some (a : Int)) (some (b : Int)) 1 x.length).length == x.length) = true then x else ⟨((strSliceIndices (some (a : Int)) (some (b : Int)) 1 x.length).filterMap (x.cps[·]?)).toArray⟩) = _
    unfold StrLaws.sliceText
    rw [e1]
  rw [e, StrLaws.sliceText_nat x (by omega) (by omega)]
  show (List.take (min b x.length - min a x.length) (List.drop (min a x.length) x.cps.toList)) = _
  have hl : x.cps.toList.length = x.length := Array.length_toList
  by_cases h : a ≤ x.length
  · rw [Nat.min_eq_left h]
    by_cases h' : b ≤ x.length
    · rw [Nat.min_eq_left h']
    · rw [Nat.min_eq_right (by omega), List.take_of_length_le (by rw [List.length_drop]; omega), List.take_of_length_le (by rw [List.length_drop]; omega)]
  · rw [Nat.min_eq_right (by omega : x.length ≤ a), Nat.min_eq_right (by omega : x.length ≤ b), Nat.sub_self, List.take_zero, List.drop_eq_nil_of_le (by omega), List.take_nil]
theorem slice_none (x : Str) (b : Nat) : (Txt.slice x none (some (b : Int))).cps.toList = x.cps.toList.take b := by
  have e : Txt.slice x none (some (b : Int)) = Txt.slice x (some ((0 : Nat) : Int)) (some (b : Int)) := by
    unfold Txt.slice
    rw [StrLaws.sliceIdx_none_lo]
    rfl
  rw [e, slice_eq x 0 b (Nat.zero_le _)]
  simp

/-- what parse257 tells of a text that opens with 257 -/
def scan : List Nat → List Nat
  | [] => []
  | [c] => if c = 34 then [] else [c]
  | c :: d :: r => if c = 34 then (if d = 34 then 34 :: scan r else []) else c :: scan (d :: r)
def isRep (x : Str) : Bool := x.cps.toList.take 3 == [50, 53, 55]
def parse (x : Str) : Str := if (x.cps.toList.drop 3).take 2 == [32, 34] then ⟨(scan (x.cps.toList.drop 5)).toArray⟩ else ⟨#[]⟩

theorem scan_len : ∀ l : List Nat, (scan l).length ≤ l.length
  | [] => by simp [scan]
  | [c] => by unfold scan; split <;> simp
  | c :: d :: r => by
    have h1 := scan_len r
    have h2 := scan_len (d :: r)
    unfold scan
    split
    · split <;> simp <;> omega
    · simp only [List.length_cons] at h2 ⊢; omega
theorem parse_len (x : Str) : (parse x).length ≤ x.length := by
  unfold parse
  split
  · show (scan (x.cps.toList.drop 5)).toArray.size ≤ x.cps.size
    have := scan_len (x.cps.toList.drop 5)
    have h2 : x.cps.toList.length = x.cps.size := Array.length_toList
    rw [List.length_drop] at this
    rw [List.size_toArray]; omega
  · exact Nat.zero_le _

theorem str_bne {a b : Str} : (a != b) = (a.cps.toList != b.cps.toList) := by
  show (!(a == b)) = !(a.cps.toList == b.cps.toList)
  congr 1
  rw [Bool.eq_iff_iff]
  simp only [beq_iff_eq]
  constructor
  · intro h; rw [h]
  · intro h; exact Str.ext' (Array.ext' h)
theorem isRep_of (x : Str) : (Txt.slice x none (some 3) != Str.ofString "257") = !isRep x := by
  rw [str_bne, show (Txt.slice x none (some 3)).cps.toList = x.cps.toList.take 3 from slice_none x 3]
  rfl
theorem opens_of (x : Str) : (Txt.slice x (some 3) (some 5) != Str.ofString " \"") = !((x.cps.toList.drop 3).take 2 == [32, 34]) := by
  rw [str_bne, show (Txt.slice x (some 3) (some 5)).cps.toList = (x.cps.toList.drop 3).take 2 from slice_eq x 3 5 (by decide)]
  rfl
theorem item_at {x : Str} {i : Nat} (h : i < x.length) : Txt.item x (i : Int) = ⟨#[x.cps.toList[i]'(by rw [Array.length_toList]; exact h)]⟩ := by
  have hi : i < x.cps.size := h
  have e : (seqIndex? (i : Int) x.length).bind (x.cps[·]?) = some x.cps[i] := StrLaws.at_nonneg (x := x) (i := (i : Int)) (n := x.cps[i]) (Int.natCast_nonneg i) (by simp [hi])
  have e' : Txt.charAt x (i : Int) = some x.cps[i] := e
  unfold Txt.item
  rw [e']
  simp
theorem item_beq {x : Str} {i : Nat} (h : i < x.length) : (Txt.item x (i : Int) == Str.ofString "\"") = (x.cps.toList[i]'(by rw [Array.length_toList]; exact h) == 34) := by
  rw [item_at h, Bool.eq_iff_iff, beq_iff_eq, beq_iff_eq]
  constructor
  · intro e
    have := congrArg Str.cps e
    have h2 : (Str.ofString "\"").cps = #[34] := by decide +kernel
    rw [h2] at this
    simpa using this
  · intro e
    rw [e]
    decide +kernel
theorem scan_ne {c : Nat} (h : c ≠ 34) (r : List Nat) : scan (c :: r) = c :: scan r := by
  cases r with
  | nil => simp [scan, h]
  | cons d r => simp [scan, h]
theorem scan_qq (r : List Nat) : scan (34 :: 34 :: r) = 34 :: scan r := by simp [scan]
theorem scan_q {d : Nat} (h : d ≠ 34) (r : List Nat) : scan (34 :: d :: r) = [] := by simp [scan, h]

section
variable {x d : Str} {i : Nat}
theorem sc_drop (h : i < x.length) : x.cps.toList.drop i = x.cps.toList[i]'(by rw [Array.length_toList]; exact h) :: x.cps.toList.drop (i + 1) :=
  List.drop_eq_getElem_cons (by rw [Array.length_toList]; exact h)
theorem sc_end (h : x.length ≤ i) (e : d.cps.toList ++ scan (x.cps.toList.drop i) = scan (x.cps.toList.drop 5)) : d = ⟨(scan (x.cps.toList.drop 5)).toArray⟩ := by
  rw [List.drop_eq_nil_of_le (by rw [Array.length_toList]; exact h)] at e
  simp only [scan, List.append_nil] at e
  rw [← e]
theorem sc_brk1 (h : i < x.length) (hq : (Txt.item x (i : Int) == Str.ofString "\"") = true) (h2 : x.length ≤ i + 1) (e : d.cps.toList ++ scan (x.cps.toList.drop i) = scan (x.cps.toList.drop 5)) : d = ⟨(scan (x.cps.toList.drop 5)).toArray⟩ := by
  rw [item_beq h, beq_iff_eq] at hq
  rw [sc_drop h, hq, List.drop_eq_nil_of_le (by rw [Array.length_toList]; exact h2)] at e
  simp only [scan, if_true, List.append_nil] at e
  rw [← e]
theorem sc_brk2 (h : i < x.length) (hq : (Txt.item x (i : Int) == Str.ofString "\"") = true) (h2 : i + 1 < x.length) (hn : (Txt.item x ((i : Int) + 1) != Str.ofString "\"") = true) (e : d.cps.toList ++ scan (x.cps.toList.drop i) = scan (x.cps.toList.drop 5)) : d = ⟨(scan (x.cps.toList.drop 5)).toArray⟩ := by
  rw [item_beq h, beq_iff_eq] at hq
  have hn' : ¬ (Txt.item x ((i + 1 : Nat) : Int) == Str.ofString "\"") = true := by
    simpa [bne] using hn
  rw [item_beq h2, beq_iff_eq] at hn'
  rw [sc_drop h, hq, sc_drop h2, scan_q hn', List.append_nil] at e
  rw [← e]
theorem sc_qq (h : i < x.length) (hq : (Txt.item x (i : Int) == Str.ofString "\"") = true) (h2 : i + 1 < x.length) (hn : (Txt.item x ((i : Int) + 1) != Str.ofString "\"") = false) (e : d.cps.toList ++ scan (x.cps.toList.drop i) = scan (x.cps.toList.drop 5)) :
    (d ++ Txt.item x (i : Int)).cps.toList ++ scan (x.cps.toList.drop (i + 1 + 1)) = scan (x.cps.toList.drop 5) := by
  have hq' := hq
  rw [item_beq h, beq_iff_eq] at hq
  have hn' : (Txt.item x ((i + 1 : Nat) : Int) == Str.ofString "\"") = true := by
    simpa [bne] using hn
  rw [item_beq h2, beq_iff_eq] at hn'
  rw [sc_drop h, hq, sc_drop h2, hn', scan_qq] at e
  rw [← e, beq_iff_eq.mp hq', Str.cps_append, Array.toList_append, List.append_assoc]
  congr 1
theorem sc_on (h : i < x.length) (hq : (Txt.item x (i : Int) == Str.ofString "\"") = false) (e : d.cps.toList ++ scan (x.cps.toList.drop i) = scan (x.cps.toList.drop 5)) :
    (d ++ Txt.item x (i : Int)).cps.toList ++ scan (x.cps.toList.drop (i + 1)) = scan (x.cps.toList.drop 5) := by
  rw [item_beq h, beq_eq_false_iff_ne] at hq
  rw [sc_drop h, scan_ne hq] at e
  rw [← e, item_at h, Str.cps_append, Array.toList_append, List.append_assoc]
  congr 1
end

def refused : Str := Str.ofString "refused"
def readN : Nat → Str → List Str
  | 0, _ => []
  | n + 1, x => if isRep x = true then (if parse x = Str.ofString "" then [parse x] else parse x :: readN n (parse x)) else [refused, x]
end Mine
end
section
open PySem
namespace Mine
def sgn : Str := Str.ofString "a\"&<>\x0d\t"
def dig (z : Int) (k : Nat) : Int := (z.fdiv ((7 : Int) ^ k)).fmod 7
theorem dig_bounds (z : Int) (k : Nat) : 0 ≤ dig z k ∧ dig z k < 7 := by
  unfold dig
  exact ⟨Int.fmod_nonneg_of_pos _ (by decide), Int.fmod_lt_of_pos _ (by decide)⟩
def rowZ (x : Int) : Int := x.fdiv 84035
def rowT (x : Int) : Nat := (1 + (rowZ x).fmod 3).toNat
def rowL (x : Int) : Nat := (1 + x.fmod 5).toNat
theorem rowT_eq (x : Int) : ((rowT x : Nat) : Int) = 1 + (rowZ x).fmod 3 ∧ 1 ≤ rowT x ∧ rowT x ≤ 3 := by
  have h1 := Int.fmod_nonneg_of_pos (rowZ x) (show (0 : Int) < 3 by decide)
  have h2 := Int.fmod_lt_of_pos (rowZ x) (show (0 : Int) < 3 by decide)
  unfold rowT; omega
theorem rowL_eq (x : Int) : ((rowL x : Nat) : Int) = 1 + x.fmod 5 ∧ 1 ≤ rowL x ∧ rowL x ≤ 5 := by
  have h1 := Int.fmod_nonneg_of_pos x (show (0 : Int) < 5 by decide)
  have h2 := Int.fmod_lt_of_pos x (show (0 : Int) < 5 by decide)
  unfold rowL; omega
def rowSigns (x : Int) : List Str := (List.range (rowT x)).map fun k => Txt.item sgn (dig ((rowZ x).fdiv 3) k)
def rowText (x : Int) : Str := Txt.join (Str.ofString "") (rowSigns x)
def rowLayers (x : Int) : List Nat := (List.range (rowL x)).map fun k => (dig (x.fdiv 5) k).toNat
theorem rowSigns_len (x : Int) : (rowSigns x).length = rowT x := by unfold rowSigns; rw [List.length_map, List.length_range]
theorem rowSigns_sum (x : Int) : ((rowSigns x).map (·.length)).sum ≤ 3 := by
  have h1 := StrLaws.sumLen_le (B := 1) (rowSigns x) (fun y hy => by
    obtain ⟨k, _, rfl⟩ := List.mem_map.mp hy
    exact Nat.le_refl _)
  have h2 := rowT_eq x
  rw [rowSigns_len] at h1
  omega
theorem rowLayers_len (x : Int) : (rowLayers x).length ≤ 5 ∧ 1 ≤ (rowLayers x).length := by
  have := rowL_eq x
  unfold rowLayers; rw [List.length_map, List.length_range]; omega
theorem rowLayers_lt (x : Int) : ∀ n ∈ rowLayers x, n < 7 := by
  intro n hn
  obtain ⟨k, _, rfl⟩ := List.mem_map.mp hn
  have := dig_bounds (x.fdiv 5) k
  show (dig (x.fdiv 5) k).toNat < 7
  omega
end Mine
end
section
open PySem
namespace Mine
def isR (n : Nat) : Bool := ([0, 6] : List Int).any (· == (n : Int))
def isQ (n : Nat) : Bool := ([2, 3, 5] : List Int).any (· == (n : Int))
def places (ls : List Nat) : List Nat := (List.range ls.length).filter fun k => isR (ls.getD k 0)
def placeOf (ls : List Nat) : Nat := (places ls).getLastD 0
def less (ls : List Nat) : List Nat := ls.take (placeOf ls) ++ ls.drop (placeOf ls + 1)
def dueN : Nat → Str → List Nat → List Str
  | 0, _, _ => []
  | n + 1, x, ls => if ls.filter isR = [] then [refused, spell x ls] else
      if (ls.drop (placeOf ls + 1)).filter isQ = [] then spell x (less ls) :: dueN n x (less ls) else [Str.ofString ""]
theorem places_ne {ls : List Nat} (h : ls.filter isR ≠ []) : places ls ≠ [] := by
  intro e
  apply h
  rw [List.filter_eq_nil_iff]
  intro a ha hr
  obtain ⟨i, hi, rfl⟩ := List.mem_iff_getElem.mp ha
  have : i ∈ places ls := by
    unfold places
    rw [List.mem_filter]
    refine ⟨List.mem_range.mpr hi, ?_⟩
    rw [List.getD_eq_getElem?_getD, List.getElem?_eq_getElem hi]
    exact hr
  rw [e] at this; cases this
theorem placeOf_mem {ls : List Nat} (h : ls.filter isR ≠ []) : placeOf ls ∈ places ls := by
  unfold placeOf
  have h1 := places_ne h
  rw [List.getLastD_eq_getLast?, List.getLast?_eq_getLast h1]
  exact List.getLast_mem h1
theorem placeOf_lt {ls : List Nat} (h : ls.filter isR ≠ []) : placeOf ls < ls.length := by
  have h1 := placeOf_mem h
  unfold places at h1
  exact List.mem_range.mp (List.mem_filter.mp h1).1
theorem less_length {ls : List Nat} (h : ls.filter isR ≠ []) : (less ls).length + 1 = ls.length := by
  have h1 := placeOf_lt h
  unfold less
  rw [List.length_append, List.length_take, List.length_drop]
  omega
theorem less_mem {ls : List Nat} {n : Nat} (h : n ∈ less ls) : n ∈ ls := by
  unfold less at h
  rcases List.mem_append.mp h with h | h
  · exact List.mem_of_mem_take h
  · exact List.mem_of_mem_drop h
end Mine
end
section
open PySem
namespace Mine
set_option maxRecDepth 100000
def cod (x : Str) : List Nat := x.cps.toList
theorem cod_inj {x y : Str} (h : cod x = cod y) : x = y := Str.ext' (Array.ext' h)
def dbl (l : List Nat) : List Nat := l.flatMap (look [(34, [34, 34])])
theorem cod_esc (l : Nat) (x : Str) : cod (esc l x) = (cod x).flatMap (look (tb l)) := rfl
theorem cod_app (x y : Str) : cod (x ++ y) = cod x ++ cod y := by
  unfold cod; rw [Str.cps_append, Array.toList_append]
def endOf (r : Nat) : List Nat := if r = 0 then [34] else [34, 32, 97, 115, 32, 34, 115, 97, 105, 100, 34]
theorem isR_cases {r : Nat} (h : isR r = true) : r = 0 ∨ r = 6 := by
  simp [isR] at h; omega
theorem cod_reply {r : Nat} (h : isR r = true) (x : Str) : cod (step r x) = [50, 53, 55, 32, 34] ++ dbl (cod x) ++ endOf r := by
  rcases isR_cases h with rfl | rfl
  · show cod (rOpen ++ esc 0 x ++ rEnd0) = _
    rw [cod_app, cod_app, cod_esc]; rfl
  · show cod (rOpen ++ esc 6 x ++ rEnd6) = _
    rw [cod_app, cod_app, cod_esc]; rfl
theorem step_esc {l : Nat} (h : isR l = false) (x : Str) : step l x = esc l x := by
  unfold step
  split
  · simp [isR] at h
  · simp [isR] at h
  · rfl
theorem low {l : Nat} (h : isR l = false) (h7 : l < 7) : l = 1 ∨ l = 2 ∨ l = 3 ∨ l = 4 ∨ l = 5 := by
  simp [isR] at h; omega
theorem lowQ {l : Nat} (h : isR l = false) (hq : isQ l = false) (h7 : l < 7) : l = 1 ∨ l = 4 := by
  simp [isR] at h; simp [isQ] at hq; omega

/-- doubling commutes with an escape that writes no quotes -/
theorem dbl_cons (c : Nat) (l : List Nat) : dbl (c :: l) = look [(34, [34, 34])] c ++ dbl l := List.flatMap_cons
theorem dbl_app (a b : List Nat) : dbl (a ++ b) = dbl a ++ dbl b := List.flatMap_append
theorem look34 (c : Nat) (h : c ≠ 34) : look [(34, [34, 34])] c = [c] := by
  have : (c == 34) = false := by simpa using h
  simp [look, List.lookup, this]
theorem look_one (c : Nat) : look (tb 1) c = if c = 38 then [38, 97, 109, 112, 59] else if c = 60 then [38, 108, 116, 59] else if c = 62 then [38, 103, 116, 59] else [c] := by
  by_cases h1 : c = 38
  · subst h1; rfl
  by_cases h2 : c = 60
  · subst h2; rfl
  by_cases h3 : c = 62
  · subst h3; rfl
  have e1 : (c == 38) = false := by simpa using h1
  have e2 : (c == 60) = false := by simpa using h2
  have e3 : (c == 62) = false := by simpa using h3
  simp [look, tb, tAmp, tLt, tGt, List.lookup, e1, e2, e3, h1, h2, h3]
theorem look_four (c : Nat) : look (tb 4) c = if c = 38 then [38, 97, 109, 112, 59] else if c = 60 then [38, 108, 116, 59] else if c = 62 then [38, 103, 116, 59] else if c = 13 then [38, 35, 120, 68, 59] else [c] := by
  by_cases h1 : c = 38
  · subst h1; rfl
  by_cases h2 : c = 60
  · subst h2; rfl
  by_cases h3 : c = 62
  · subst h3; rfl
  by_cases h4 : c = 13
  · subst h4; rfl
  have e1 : (c == 38) = false := by simpa using h1
  have e2 : (c == 60) = false := by simpa using h2
  have e3 : (c == 62) = false := by simpa using h3
  have e4 : (c == 13) = false := by simpa using h4
  simp [look, tb, tAmp, tLt, tGt, List.lookup, e1, e2, e3, e4, h1, h2, h3, h4]
theorem dbl_one {l : Nat} (h : l = 1 ∨ l = 4) (c : Nat) : (look [(34, [34, 34])] c).flatMap (look (tb l)) = dbl (look (tb l) c) := by
  by_cases hc : c = 34
  · subst hc
    rcases h with rfl | rfl <;> rfl
  · rw [look34 c hc, List.flatMap_cons, List.flatMap_nil, List.append_nil]
    rcases h with rfl | rfl
    · rw [look_one]
      split
      · rfl
      split
      · rfl
      split
      · rfl
      rw [dbl_cons, look34 c hc]; rfl
    · rw [look_four]
      split
      · rfl
      split
      · rfl
      split
      · rfl
      split
      · rfl
      rw [dbl_cons, look34 c hc]; rfl
theorem dbl_esc {l : Nat} (h : l = 1 ∨ l = 4) (y : List Nat) : (dbl y).flatMap (look (tb l)) = dbl (y.flatMap (look (tb l))) := by
  unfold dbl
  rw [List.flatMap_assoc, List.flatMap_assoc]
  congr 1
  funext c
  exact dbl_one h c
theorem open_esc {l : Nat} (h : l = 1 ∨ l = 4) : ([50, 53, 55, 32, 34] : List Nat).flatMap (look (tb l)) = [50, 53, 55, 32, 34] := by
  rcases h with rfl | rfl <;> rfl
theorem end_esc {l : Nat} (h : l = 1 ∨ l = 4) (r : Nat) : (endOf r).flatMap (look (tb l)) = endOf r := by
  unfold endOf
  rcases h with rfl | rfl <;> (split <;> rfl)
theorem reply_post {r : Nat} : ∀ (post : List Nat) (y z : Str), (∀ l ∈ post, l = 1 ∨ l = 4) → cod z = [50, 53, 55, 32, 34] ++ dbl (cod y) ++ endOf r → cod (spell z post) = [50, 53, 55, 32, 34] ++ dbl (cod (spell y post)) ++ endOf r
  | [], y, z, _, e => e
  | l :: post, y, z, h, e => by
    have hl := h l (List.mem_cons_self ..)
    have hr : isR l = false := by rcases hl with rfl | rfl <;> rfl
    have ih := reply_post (r := r) post (step l y) (step l z) (fun m hm => h m (List.mem_cons_of_mem _ hm)) (by
      rw [step_esc hr, step_esc hr, cod_esc, cod_esc, e, List.flatMap_append, List.flatMap_append, open_esc hl, dbl_esc hl, end_esc hl])
    exact ih
theorem scan_dbl : ∀ (y t : List Nat), scan (dbl y ++ t) = y ++ scan t
  | [], t => rfl
  | c :: y, t => by
    have ih := scan_dbl y t
    rw [dbl_cons, List.append_assoc]
    by_cases hc : c = 34
    · subst hc
      show scan (34 :: 34 :: (dbl y ++ t)) = _
      rw [scan_qq, ih]; rfl
    · rw [look34 c hc]
      show scan (c :: (dbl y ++ t)) = _
      rw [scan_ne hc, ih]; rfl
theorem scan_end (r : Nat) : scan (endOf r) = [] := by
  unfold endOf; split <;> rfl
theorem parse_reply {z y : Str} {r : Nat} (e : cod z = [50, 53, 55, 32, 34] ++ dbl (cod y) ++ endOf r) : isRep z = true ∧ parse z = y := by
  have e' : z.cps.toList = [50, 53, 55, 32, 34] ++ dbl (cod y) ++ endOf r := e
  constructor
  · unfold isRep; rw [e']; rfl
  · unfold parse
    rw [e', if_pos (by rfl)]
    apply cod_inj
    show scan (List.drop 5 ([50, 53, 55, 32, 34] ++ dbl (cod y) ++ endOf r)) = cod y
    rw [List.append_assoc]
    show scan (dbl (cod y) ++ endOf r) = cod y
    rw [scan_dbl, scan_end, List.append_nil]

/-- an escape that writes quotes, outside of the reply -/
theorem quote_step {l c : Nat} {q : List Nat} {z : Str} (hr : isR l = false) (h7 : l < 7) (hc : c = 34 ∨ c = 38) (e : cod z = [50, 53, 55, 32] ++ c :: q) :
    ∃ c' q', cod (step l z) = [50, 53, 55, 32] ++ c' :: q' ∧ (c' = 34 ∨ c' = 38) ∧ (c = 38 ∨ isQ l = true → c' = 38) := by
  rw [step_esc hr, cod_esc, e, List.flatMap_append, List.flatMap_cons]
  rcases low hr h7 with rfl | rfl | rfl | rfl | rfl <;> rcases hc with rfl | rfl
  · exact ⟨34, _, rfl, Or.inl rfl, fun h => by rcases h with h | h <;> cases h⟩
  · exact ⟨38, _, rfl, Or.inr rfl, fun _ => rfl⟩
  · exact ⟨38, _, rfl, Or.inr rfl, fun _ => rfl⟩
  · exact ⟨38, _, rfl, Or.inr rfl, fun _ => rfl⟩
  · exact ⟨38, _, rfl, Or.inr rfl, fun _ => rfl⟩
  · exact ⟨38, _, rfl, Or.inr rfl, fun _ => rfl⟩
  · exact ⟨34, _, rfl, Or.inl rfl, fun h => by rcases h with h | h <;> cases h⟩
  · exact ⟨38, _, rfl, Or.inr rfl, fun _ => rfl⟩
  · exact ⟨38, _, rfl, Or.inr rfl, fun _ => rfl⟩
  · exact ⟨38, _, rfl, Or.inr rfl, fun _ => rfl⟩
theorem quote_post : ∀ (post : List Nat) (z : Str) (c : Nat) (q : List Nat), (∀ l ∈ post, isR l = false ∧ l < 7) → (c = 34 ∨ c = 38) → cod z = [50, 53, 55, 32] ++ c :: q → (c = 38 ∨ post.filter isQ ≠ []) → ∃ q', cod (spell z post) = [50, 53, 55, 32] ++ 38 :: q'
  | [], z, c, q, _, _, e, h => by
    rcases h with rfl | h
    · exact ⟨q, e⟩
    · exact absurd rfl h
  | l :: post, z, c, q, hp, hc, e, h => by
    have hl := hp l (List.mem_cons_self ..)
    obtain ⟨c', q', e', hc', h'⟩ := quote_step hl.1 hl.2 hc e
    refine quote_post post (step l z) c' q' (fun m hm => hp m (List.mem_cons_of_mem _ hm)) hc' e' ?_
    rcases h with h | h
    · exact Or.inl (h' (Or.inl h))
    · rw [List.filter_cons] at h
      cases hq : isQ l with
      | true => exact Or.inl (h' (Or.inr hq))
      | false => rw [hq] at h; exact Or.inr h
theorem parse_quote {z : Str} {q : List Nat} (e : cod z = [50, 53, 55, 32] ++ 38 :: q) : isRep z = true ∧ parse z = Str.ofString "" := by
  have e' : z.cps.toList = [50, 53, 55, 32] ++ 38 :: q := e
  constructor
  · unfold isRep; rw [e']; rfl
  · unfold parse
    rw [e', if_neg (by intro h; cases h)]
    apply cod_inj
    rfl

/-- no reply at all -/
theorem look_head {l c : Nat} (hr : isR l = false) (h7 : l < 7) (hc : c ≠ 50) : ∃ d q, look (tb l) c = d :: q ∧ d ≠ 50 := by
  have key : ∀ t : List (Nat × List Nat), (t.all fun p => p.2.head? == some 38) = true → ∃ d q, look t c = d :: q ∧ d ≠ 50 := by
    intro t
    induction t with
    | nil => intro _; exact ⟨c, [], rfl, hc⟩
    | cons p t ih =>
      intro h
      simp only [List.all_cons, Bool.and_eq_true] at h
      obtain ⟨p1, p2⟩ := p
      obtain ⟨d, q, e, hd⟩ := ih h.2
      simp only [look, List.lookup] at e ⊢
      by_cases e1 : (c == p1) = true
      · rw [e1]
        have h1 := h.1
        cases p2 with
        | nil => cases h1
        | cons a b =>
          simp at h1
          exact ⟨a, b, rfl, by omega⟩
      · rw [Bool.not_eq_true] at e1
        rw [e1]
        exact ⟨d, q, e, hd⟩
  apply key
  rcases low hr h7 with rfl | rfl | rfl | rfl | rfl <;> rfl
theorem none_post : ∀ (ls : List Nat) (z : Str) (c : Nat) (q : List Nat), (∀ l ∈ ls, isR l = false ∧ l < 7) → c ≠ 50 → cod z = c :: q → isRep (spell z ls) = false
  | [], z, c, q, _, hc, e => by
    have e' : z.cps.toList = c :: q := e
    show (z.cps.toList.take 3 == [50, 53, 55]) = false
    rw [e', List.take_succ_cons]
    have : (c == 50) = false := by simpa using hc
    show ((c == 50) && _) = false
    rw [this]; rfl
  | l :: ls, z, c, q, h, hc, e => by
    have hl := h l (List.mem_cons_self ..)
    obtain ⟨d, q', e', hd⟩ := look_head hl.1 hl.2 hc
    refine none_post ls (step l z) d (q' ++ q.flatMap (look (tb l))) (fun m hm => h m (List.mem_cons_of_mem _ hm)) hd ?_
    rw [step_esc hl.1, cod_esc, e, List.flatMap_cons, e']; rfl

/-- never empty -/
theorem look_ne (l c : Nat) : look (tb l) c ≠ [] := by
  have key : ∀ t : List (Nat × List Nat), (t.all fun p => !p.2.isEmpty) = true → look t c ≠ [] := by
    intro t
    induction t with
    | nil => intro _ h; cases h
    | cons p t ih =>
      intro h
      simp only [List.all_cons, Bool.and_eq_true] at h
      obtain ⟨p1, p2⟩ := p
      have ih := ih h.2
      simp only [look, List.lookup] at ih ⊢
      by_cases e1 : (c == p1) = true
      · rw [e1]
        have h1 := h.1
        cases p2 with
        | nil => cases h1
        | cons a b => intro h; cases h
      · rw [Bool.not_eq_true] at e1
        rw [e1]; exact ih
  apply key
  rcases l with _ | _ | _ | _ | _ | _ | _ <;> rfl
theorem step_ne (l : Nat) {x : Str} (h : cod x ≠ []) : cod (step l x) ≠ [] := by
  cases hr : isR l with
  | true => rw [cod_reply hr]; intro h; cases h
  | false =>
    rw [step_esc hr, cod_esc]
    cases e : cod x with
    | nil => exact absurd e h
    | cons c q =>
      rw [List.flatMap_cons]
      intro h
      exact look_ne l c (List.append_eq_nil_iff.mp h).1
theorem spell_ne : ∀ (ls : List Nat) {x : Str}, cod x ≠ [] → cod (spell x ls) ≠ []
  | [], _, h => h
  | l :: ls, _, h => spell_ne ls (step_ne l h)

/-- the last reply -/
theorem split_last : ∀ ls : List Nat, ls.filter isR ≠ [] → ∃ pre r post, ls = pre ++ r :: post ∧ isR r = true ∧ post.filter isR = []
  | [], h => absurd rfl h
  | a :: ls, h => by
    by_cases hl : ls.filter isR = []
    · refine ⟨[], a, ls, rfl, ?_, hl⟩
      cases e : isR a with
      | true => rfl
      | false => rw [List.filter_cons, e] at h; exact absurd hl h
    · obtain ⟨pre, r, post, e, hr, hp⟩ := split_last ls hl
      exact ⟨a :: pre, r, post, by rw [e]; rfl, hr, hp⟩
theorem placeOf_split {pre post : List Nat} {r : Nat} (hr : isR r = true) (hp : post.filter isR = []) : placeOf (pre ++ r :: post) = pre.length := by
  unfold placeOf places
  have e : (pre ++ r :: post).length = (pre.length + 1) + post.length := by rw [List.length_append, List.length_cons]; omega
  have e2 : List.filter (fun k => isR ((pre ++ r :: post).getD k 0)) (List.map (fun k => (pre.length + 1) + k) (List.range post.length)) = [] := by
    rw [List.filter_eq_nil_iff]
    intro a ha
    obtain ⟨k, hk, rfl⟩ := List.mem_map.mp ha
    have hk' := List.mem_range.mp hk
    have h1 : (pre ++ r :: post).getD (pre.length + 1 + k) 0 = post[k] := by
      rw [List.getD_eq_getElem?_getD, List.getElem?_append_right (by omega), show pre.length + 1 + k - pre.length = k + 1 by omega, List.getElem?_cons_succ, List.getElem?_eq_getElem hk']; rfl
    rw [h1]
    exact (List.filter_eq_nil_iff.mp hp) _ (List.getElem_mem hk')
  have h1 : (pre ++ r :: post).getD pre.length 0 = r := by
    rw [List.getD_eq_getElem?_getD, List.getElem?_append_right (Nat.le_refl _), Nat.sub_self]; rfl
  rw [e, List.range_add, List.filter_append, e2, List.append_nil, List.range_succ, List.filter_append, List.filter_cons, h1, hr]
  simp

theorem law_plain (x : Str) {c : Nat} {q : List Nat} (hx : cod x = c :: q) (hc : c ≠ 50) : ∀ (n m : Nat) (ls : List Nat), (∀ l ∈ ls, l < 7) → ls.length < n → ls.length < m → readN n (spell x ls) = dueN m x ls
  | 0, _, _, _, h, _ => absurd h (Nat.not_lt_zero _)
  | _ + 1, 0, _, _, _, h => absurd h (Nat.not_lt_zero _)
  | n + 1, m + 1, ls, h7, hn, hm => by
    unfold readN dueN
    by_cases hno : ls.filter isR = []
    · have h1 : isRep (spell x ls) = false := none_post ls x c q (fun l hl => ⟨by simpa using List.filter_eq_nil_iff.mp hno l hl, h7 l hl⟩) hc hx
      rw [h1, if_pos hno]; rfl
    · rw [if_neg hno]
      have hll := less_length hno
      obtain ⟨pre, r, post, rfl, hr, hp⟩ := split_last ls hno
      have hpl := placeOf_split (pre := pre) hr hp
      have hd : (pre ++ r :: post).drop (placeOf (pre ++ r :: post) + 1) = post := by
        rw [hpl, List.drop_append]; simp
      have hls : less (pre ++ r :: post) = pre ++ post := by
        unfold less; rw [hd, hpl]; simp
      rw [hd, hls]
      rw [hls] at hll
      have hpost : ∀ l ∈ post, isR l = false ∧ l < 7 := fun l hl => ⟨by simpa using List.filter_eq_nil_iff.mp hp l hl, h7 l (by simp [hl])⟩
      have e1 : spell x (pre ++ r :: post) = spell (step r (spell x pre)) post := by rw [spell_append]; rfl
      by_cases hq : post.filter isQ = []
      · rw [if_pos hq]
        have h14 : ∀ l ∈ post, l = 1 ∨ l = 4 := fun l hl => lowQ (hpost l hl).1 (by simpa using List.filter_eq_nil_iff.mp hq l hl) (hpost l hl).2
        obtain ⟨h1, h2⟩ := parse_reply (reply_post post (spell x pre) (step r (spell x pre)) h14 (cod_reply hr _))
        rw [← e1] at h1 h2
        rw [← spell_append] at h2
        rw [h1, h2, if_pos rfl, if_neg (fun e => spell_ne (pre ++ post) (x := x) (by rw [hx]; intro e; cases e) (by rw [e]; rfl))]
        rw [law_plain x hx hc n m (pre ++ post) (fun l hl => h7 l (by simp at hl ⊢; rcases hl with h | h <;> simp [h])) (by omega) (by omega)]
      · rw [if_neg hq]
        obtain ⟨q', e2⟩ := quote_post post (step r (spell x pre)) 34 (dbl (cod (spell x pre)) ++ endOf r) hpost (Or.inl rfl) (by rw [cod_reply hr]; rfl) (Or.inr hq)
        obtain ⟨h1, h2⟩ := parse_quote e2
        rw [← e1] at h1 h2
        rw [h1, h2, if_pos rfl, if_pos rfl]

theorem item_sgn (i : Int) (h0 : 0 ≤ i) (h7 : i < 7) : ∃ c, cod (Txt.item sgn i) = [c] ∧ c ≠ 50 := by
  have : i = 0 ∨ i = 1 ∨ i = 2 ∨ i = 3 ∨ i = 4 ∨ i = 5 ∨ i = 6 := by omega
  rcases this with rfl | rfl | rfl | rfl | rfl | rfl | rfl
  · exact ⟨97, by decide +kernel, by decide⟩
  · exact ⟨34, by decide +kernel, by decide⟩
  · exact ⟨38, by decide +kernel, by decide⟩
  · exact ⟨60, by decide +kernel, by decide⟩
  · exact ⟨62, by decide +kernel, by decide⟩
  · exact ⟨13, by decide +kernel, by decide⟩
  · exact ⟨9, by decide +kernel, by decide⟩
theorem tjoin (l : List Str) : Txt.join (Str.ofString "") l = Str.join (Str.ofString "") l := eq_of_beq (PyProof.Rows.join_plain_closes _ _)
theorem join_head (p : Str) : ∀ r : List Str, ∃ q, cod (Txt.join (Str.ofString "") (p :: r)) = cod p ++ q
  | [] => ⟨[], by rw [List.append_nil, tjoin]; rfl⟩
  | a :: r => ⟨cod (Str.ofString "") ++ cod (Str.join (Str.ofString "") (a :: r)), by
    rw [tjoin]
    show cod (p ++ Str.ofString "" ++ Str.join (Str.ofString "") (a :: r)) = _
    rw [cod_app, cod_app, List.append_assoc]⟩
theorem rowText_head (x : Int) : ∃ c q, cod (rowText x) = c :: q ∧ c ≠ 50 := by
  have h := rowT_eq x
  unfold rowText rowSigns
  obtain ⟨n, hn⟩ : ∃ n, rowT x = n + 1 := ⟨rowT x - 1, by omega⟩
  rw [hn, List.range_succ_eq_map, List.map_cons]
  have hb := dig_bounds ((rowZ x).fdiv 3) 0
  obtain ⟨c, e, hc⟩ := item_sgn _ hb.1 hb.2
  obtain ⟨q, hq⟩ := join_head (Txt.item sgn (dig ((rowZ x).fdiv 3) 0)) (List.map (fun k => Txt.item sgn (dig ((rowZ x).fdiv 3) k)) (List.map Nat.succ (List.range n)))
  refine ⟨c, q, ?_, hc⟩
  rw [hq, e]; rfl
theorem rowText_len (x : Int) : (rowText x).length ≤ 3 := by
  have h := rowSigns_sum x
  unfold rowText
  refine Nat.le_trans ?_ h
  rw [tjoin]
  generalize rowSigns x = l
  induction l with
  | nil => exact Nat.zero_le _
  | cons p r ih =>
    cases r with
    | nil => show p.length ≤ _; simp
    | cons a r =>
      show (p ++ Str.ofString "" ++ Str.join (Str.ofString "") (a :: r)).length ≤ _
      rw [Str.length_append, Str.length_append, List.map_cons, List.sum_cons]
      have e : (Str.ofString "").length = 0 := rfl
      have ih' : (Str.join (Str.ofString "") (a :: r)).length ≤ (List.map (fun x => x.length) (a :: r)).sum := ih
      omega
theorem law_row (x : Int) : readN 6 (spell (rowText x) (rowLayers x)) = dueN ((rowLayers x).length + 1) (rowText x) (rowLayers x) := by
  obtain ⟨c, q, e, hc⟩ := rowText_head x
  exact law_plain _ e hc 6 _ _ (rowLayers_lt x) (by have := rowLayers_len x; omega) (Nat.lt_succ_self _)
end Mine
end
section
open PySem
namespace Mine
set_option maxRecDepth 100000
def okL (l : List Nat) : Prop := ∀ c ∈ l, c < 1114112
theorem strOk_of {x : Str} (h : okL (cod x)) : PyData.strOk x = true := by
  unfold PyData.strOk
  rw [← Array.all_toList, List.all_eq_true]
  intro c hc
  exact decide_eq_true (h c hc)
theorem okL_app {a b : List Nat} (ha : okL a) (hb : okL b) : okL (a ++ b) := fun c hc => by
  rcases List.mem_append.mp hc with h | h
  · exact ha c h
  · exact hb c h
theorem look_ok (l : Nat) {c : Nat} (hc : c < 1114112) : okL (look (tb l) c) := by
  have key : ∀ t : List (Nat × List Nat), (t.all fun p => p.2.all fun d => decide (d < 1114112)) = true → okL (look t c) := by
    intro t
    induction t with
    | nil => intro _ d hd; rw [List.mem_singleton.mp hd]; exact hc
    | cons p t ih =>
      intro h
      simp only [List.all_cons, Bool.and_eq_true] at h
      obtain ⟨p1, p2⟩ := p
      have ih := ih h.2
      simp only [look, List.lookup] at ih ⊢
      by_cases e1 : (c == p1) = true
      · rw [e1]
        intro d hd
        exact of_decide_eq_true (List.all_eq_true.mp h.1 d hd)
      · rw [Bool.not_eq_true] at e1
        rw [e1]; exact ih
  apply key
  rcases l with _ | _ | _ | _ | _ | _ | _ <;> rfl
theorem esc_ok (l : Nat) {x : Str} (h : okL (cod x)) : okL (cod (esc l x)) := by
  rw [cod_esc]
  intro d hd
  obtain ⟨c, hc, hd'⟩ := List.mem_flatMap.mp hd
  exact look_ok l (h c hc) d hd'
theorem step_ok (l : Nat) {x : Str} (h : okL (cod x)) : okL (cod (step l x)) := by
  unfold step
  split
  · rw [cod_app, cod_app]
    exact okL_app (okL_app (by unfold okL; decide) (esc_ok 0 h)) (by unfold okL; decide)
  · rw [cod_app, cod_app]
    exact okL_app (okL_app (by unfold okL; decide) (esc_ok 6 h)) (by unfold okL; decide)
  · exact esc_ok _ h
theorem spell_ok : ∀ (ls : List Nat) {x : Str}, okL (cod x) → okL (cod (spell x ls))
  | [], _, h => h
  | l :: ls, _, h => spell_ok ls (step_ok l h)
theorem join_ok : ∀ {l : List Str}, (∀ y ∈ l, okL (cod y)) → okL (cod (Str.join (Str.ofString "") l))
  | [], _ => fun c hc => by cases hc
  | [p], h => h p (List.mem_singleton.mpr rfl)
  | p :: q :: r, h => by
    have ih := join_ok (l := q :: r) fun y hy => h y (List.mem_cons_of_mem _ hy)
    show okL (cod (p ++ Str.ofString "" ++ Str.join (Str.ofString "") (q :: r)))
    rw [cod_app, cod_app]
    exact okL_app (okL_app (h p (List.mem_cons_self ..)) (fun c hc => by cases hc)) ih
theorem item_ok (i : Int) (h0 : 0 ≤ i) (h7 : i < 7) : okL (cod (Txt.item sgn i)) := by
  have : i = 0 ∨ i = 1 ∨ i = 2 ∨ i = 3 ∨ i = 4 ∨ i = 5 ∨ i = 6 := by omega
  rcases this with rfl | rfl | rfl | rfl | rfl | rfl | rfl <;> (unfold okL; decide +kernel)
theorem rowText_ok (x : Int) : okL (cod (rowText x)) := by
  unfold rowText
  rw [tjoin]
  refine join_ok fun y hy => ?_
  obtain ⟨k, _, rfl⟩ := List.mem_map.mp hy
  have := dig_bounds ((rowZ x).fdiv 3) k
  exact item_ok _ this.1 this.2
theorem due_ok (x : Str) (hx : okL (cod x)) : ∀ (n : Nat) (ls : List Nat), ∀ t ∈ dueN n x ls, PyData.strOk t = true
  | 0, _, t, ht => by cases ht
  | n + 1, ls, t, ht => by
    unfold dueN at ht
    split at ht
    · rcases List.mem_cons.mp ht with rfl | ht
      · decide +kernel
      · rw [List.mem_singleton.mp ht]; exact strOk_of (spell_ok _ hx)
    · split at ht
      · rcases List.mem_cons.mp ht with rfl | ht
        · exact strOk_of (spell_ok _ hx)
        · exact due_ok x hx n _ t ht
      · rw [List.mem_singleton.mp ht]; decide +kernel
end Mine
end
section
open PySem PySem.W PyProof.Rows PySem.Calls PySem.Spec
namespace Mine
set_option maxRecDepth 100000
set_option maxHeartbeats 8000000

abbrev PR : Program := PySem.Challenge.rw_pe0107_01.row.prog
abbrev TT (mean : ExcName → Option Value) (mg mb : Str → Option Value) (h : Heap) : Prop := Top hd.view_39 (looseW hd.view_39 []) mean mg mb h
abbrev Ext (h h' : Heap) : Prop := ∀ b o, h.get? b = some o → h'.get? b = some o

theorem fill (w : World) (h : Heap) : (hd.heap_39 w.params).In h → PySem.Challenge.rw_pe0107_01.row.prog = PySem.Challenge.rw_pe0107_01.row.prog := by
  k_fill
  intro _
  rfl

theorem lookup_ifs (y : Str) : ∀ l : List (Str × Value), l.lookup y = l.foldr (fun p f => if y = p.1 then some p.2 else f) none
  | [] => rfl
  | (k, v) :: r => by
    simp only [List.lookup, List.foldr_cons]
    by_cases h : y = k
    · subst h; simp
    · have b : (y == k) = false := by simpa using h
      rw [b, if_neg h]; exact lookup_ifs y r

theorem enter {w : World} {A : Around} {s : Shared} {mean : ExcName → Option Value} {mg mb : Str → Option Value} {Q E : Value → Shared → Prop} {name qual : Str} {params : Arguments} {body : List Stmt} {scope : Scope} {dV kV doc pm cdv ct oc : Value} {an od : Option Addr} {osl : Array (Option Value)} {f : Addr} {args : List Value} {binds : List (Str × Value)}
    (X : (hd.heap_39 w.params).In s.heap) (T : TT mean mg mb s.heap)
    (ho : (hd.heap_39 w.params).lookup f = some ⟨oc, od, .func (fnOf name qual params body scope dV kV doc pm an cdv ct), osl⟩) (hcd : codeIn (hd.heap_39 w.params) cdv qual = true) (hroom : A.depth < recursionLimit)
    (hbind : BindsTo s (fnOf name qual params body scope dV kV doc pm an cdv ct) ⟨args, []⟩ binds) (hloc : ∀ y ∈ binds, scope.names.lookup y.1 = some .local)
    (h : ∀ h₁ tk, 0 < tk → Fr s.heap s.heap.objs.size h₁ (fun y => binds.reverse.foldr (fun p f => if y = p.1 then some p.2 else f) none) → News s.heap s.heap.objs.size h₁ [] →
      wpAny (model PR w) (A.deeper (envOf qual scope s.heap.objs.size f cdv)) (execs body (envOf qual scope s.heap.objs.size f cdv))
        (fun fl s' => Q (match fl with | .ret v => v | _ => .none) s')
        (fun e s' => wpAny (model PR w) (A.deeper (envOf qual scope s.heap.objs.size f cdv)) (leaving (envOf qual scope s.heap.objs.size f cdv) e) (fun _ s'' => E e s'') (fun e' s'' => E e' s'') s')
        { s with heap := h₁, toks := tk })
    (hlen : 0 < binds.length)
    (hco : scope.isCoroutine = false) (hgen : scope.isGenerator = false) (hk : scope.kind = .function)
    (hcell : ∀ x ∈ scope.names, x.2 ≠ .cell) : wpAny (model PR w) A (call (.ref f) args) Q E s := by
  refine wpAny_call ?_
  refine codeAny_call_def (fd := fnX name qual params body scope [] dV kV doc pm an cdv ct) (body := body) (binds := binds) hroom (X _ _ ho) rfl T.nolimit (codeRec_of X hcd) rfl hbind hcell hloc (fun h₁ hns hk₁ => ?_) hco hgen hk
  have e : (fun y => binds.reverse.lookup y) = fun y => binds.reverse.foldr (fun p f => if y = p.1 then some p.2 else f) none := funext fun y => lookup_ifs y _
  exact h h₁ _ (by omega) ⟨e ▸ hns, hk₁, Nat.le_refl _⟩ News.nil

theorem news_add {h₀ h h' : Heap} {L D : Addr} {m : Str → Option Value} {news : List (Addr × Obj)} {o : Obj} (F : Fr h₀ L h m) (N : News h₀ L h' news) (hD : h.get? D = none) (ho : h'.get? D = some o) : News h₀ L h' ((D, o) :: news) := by
  intro p hp
  rcases List.mem_cons.mp hp with rfl | hp
  · refine ⟨ho, fun e => ?_, ?_⟩
    · obtain ⟨oL, _, _, hL, _⟩ := F.ns
      have e' : D = L := e
      rw [← e', hD] at hL; cases hL
    · cases q : h₀.get? D with
      | none => rfl
      | some o' => rw [F.keep _ _ q] at hD; cases hD
  · exact N p hp

def Stop (P : Prop) : Prop := P
theorem Stop.on {P : Prop} (h : Stop P) : P := h
theorem Stop.off {P : Prop} (h : P) : Stop P := h

theorem map_ext (ks : List Str) {m m' : Str → Option Value} (hk : ∀ k ∈ ks, m k = m' k) (hr : ∀ y, y ∉ ks → m y = m' y) : m = m' := by
  funext y
  by_cases h : y ∈ ks
  · exact hk y h
  · exact hr y h

/-- if C in text: text = text.replace(C, R) -/
theorem esc_if {w : World} {A : Around} {E : Value → Shared → Prop} {s : Shared} {h₀ : Heap} {L a : Addr} {cn : Str} {cs : Scope} {cd : Value} {m : Str → Option Value} {news : List (Addr × Obj)}
    {c : Nat} {C R : Str} {tbl : List (Nat × List Nat)} {x : Str} {t : Tok} {Q : Flow → Shared → Prop} {k1 k7 k8 : Nat} {p1 p2 p3 p4 p5 p6 p7 p8 p9 p10 p11 : Pos}
    (F : Fr h₀ L s.heap m) (N : News h₀ L s.heap news) (hm : m (Str.ofString "text") = some (.str (subst (look tbl) x) t)) (hk : 0 < s.toks) (hC : C = ⟨#[c]⟩) (hcr : (C == R) = false) (hx : x.length ≤ 100000) (hR : R.length ≤ 14)
    (hok : okStep tbl c = true) (hlen : (tbl.all fun p => decide (p.2.length ≤ 6)) = true)
    (h : ∀ h' tk t', 0 < tk → Fr h₀ L h' (fun y => if y = Str.ofString "text" then some (.str (subst (look (tbl ++ [(c, R.cps.toList)])) x) t') else m y) → News h₀ L h' news → Q .next { s with heap := h', toks := tk })
    (hkind : cs.kind = .function) (hl : (envOf cn cs L a cd).kindOf (Str.ofString "text") = some .local)
    (hsw : swapsWith (.Call (.Attribute (.Name (Str.ofString "text") p5) (Str.ofString "replace") p6) [.Constant (.str C) k7 p7, .Constant (.str R) k8 p8] [] p9) (some (.Name (Str.ofString "text") p4)) p10.line (envOf cn cs L a cd) = pure false)
    {pl : Sem Bool} (he : eval (.Call (.Attribute (.Name (Str.ofString "text") p5) (Str.ofString "replace") p6) [.Constant (.str C) k7 p7, .Constant (.str R) k8 p8] [] p9) (envOf cn cs L a cd) = (do
      let ov ← eval (.Name (Str.ofString "text") p5) (envOf cn cs L a cd)
      standAt p6.atName
      let (f, first) ← holding [ov] (getMethod ov (Str.ofString "replace") pl)
      callWith p9 f first (backTo p9 (starEach [.Constant (.str C) k7 p7, .Constant (.str R) k8 p8] (envOf cn cs L a cd))) [])) :
    wpAny (model PR w) A (exec (.If (.Compare (.Constant (.str C) k1 p1) [.In] [.Name (Str.ofString "text") p2] p3)
      [.Assign [.Name (Str.ofString "text") p4] (.Call (.Attribute (.Name (Str.ofString "text") p5) (Str.ofString "replace") p6) [.Constant (.str C) k7 p7, .Constant (.str R) k8 p8] [] p9) p10] [] p11) (envOf cn cs L a cd)) Q E s := by
  have hlenx := subst_look_len hlen x
  subst hC
  refine wpAny_If (wpAny_isTrue_Compare1 (Calls.Constant_str (ld F hm (in_str (wpAny_truthy_bool ?_)) hkind hl rfl)))
  have hrep := replace_look R x hok
  cases hb : (!(Builtin.Str.occurrences (subst (look tbl) x) ⟨#[c]⟩ 0 (subst (look tbl) x).length 1).isEmpty) with
  | true =>
    simp only [if_true]
    refine wpAny_execs_cons (wpAny_Assign_Name (MethodCall_ (ld F hm (GM.replace (callWith_method1 (spliced_more (Calls.Constant_str (spliced_more (Calls.Constant_str (spliced_none ?_))))))) hkind hl rfl) he) hsw)
    refine SC.replaceW (Nat.pos_iff_ne_zero.mp (by show 0 < s.toks + 1; omega)) (by show s.toks + 1 + 1 ≠ 0; omega) (by show s.toks + 1 ≠ s.toks + 1 + 1; omega) hcr (by omega) hR ?_
    intro t' k
    rw [hrep]
    refine stN F N (fun h' F' N' => ?_) hkind hl
    refine wpAny_pure (h h' _ t' (by omega) F' N')
  | false =>
    simp only [Bool.false_eq_true, if_false]
    rw [found_free hb R] at hrep
    refine wpAny_pure ?_
    have e : (fun y => if y = Str.ofString "text" then some (Value.str (subst (look (tbl ++ [(c, R.cps.toList)])) x) t) else m y) = m := by
      funext y
      by_cases hy : y = Str.ofString "text"
      · rw [if_pos hy, hy, hm, hrep]
      · rw [if_neg hy]
    exact h s.heap _ t (by omega) (by rw [e]; exact F) N
end Mine
end
section
open PySem PySem.W PyProof.Rows PySem.Calls PySem.Spec
namespace Mine
set_option maxRecDepth 100000
set_option maxHeartbeats 8000000

theorem fill_W1 (w : World) (h : Heap) : (hd.heap_39 w.params).In h → PySem.Challenge.rw_pe0107_01.row.prog = PySem.Challenge.rw_pe0107_01.row.prog := by
  k_fill
  intro _
  rfl

local macro_rules | `(tactic| walk_at "my enter") => `(tactic| (refine' enter ?k1 ?k2 ?k6 ?k7 ?k8 ?k9 ?kB ?_ ?kl ?c2 ?c3 ?c4 ?c5; (case k1 => assumption); (case k2 => assumption); (case k6 => k_is); (case k7 => k_is); (case k8 => assumption); (case k9 => exact BindsTo.of_eq rfl); (case c5 => decide); (case kB => exact locs rfl); (case c2 => exact rfl); (case c3 => exact rfl); (case c4 => exact rfl); (case kl => exact Nat.zero_lt_succ _)))

theorem cdata_spec {w : World} {mean : ExcName → Option Value} {mg mb : Str → Option Value} {A : Around} {s : Shared} {x : Str} {t : Tok} {Q E : Value → Shared → Prop}
    (X : (hd.heap_39 w.params).In s.heap) (T : TT mean mg mb s.heap) (hroom : A.depth < recursionLimit) (hx : x.length ≤ 100000)
    (hret : ∀ t' h' tk, Ext s.heap h' → Q (.str (esc 1 x) t') { s with heap := h', toks := tk }) :
    wpAny (model PR w) A (call (.ref 60) [.str x t]) Q E s := by
  have e0 := subst_look_nil x
  walk_at "my enter"
  intro h₁ tk0 hk0 F N
  have hm : (some (Value.str x t)) = some (Value.str (subst (look []) x) t) := by rw [e0]
  refine wpAny_execs_cons (wpAny_Try_except (wpAny_execs_cons ?_))
  refine esc_if (c := 38) (tbl := []) F N hm hk0 (by decide +kernel) (by decide +kernel) hx (by decide +kernel) (by decide +kernel) (by decide +kernel) ?_ rfl rfl rfl rfl
  intro h' tk t' hk0 F N
  refine wpAny_execs_cons (esc_if (c := 60) F N rfl hk0 (by decide +kernel) (by decide +kernel) hx (by decide +kernel) (by decide +kernel) (by decide +kernel) ?_ rfl rfl rfl rfl)
  intro h' tk t' hk0 F N
  refine wpAny_execs_cons (esc_if (c := 62) F N rfl hk0 (by decide +kernel) (by decide +kernel) hx (by decide +kernel) (by decide +kernel) (by decide +kernel) ?_ rfl rfl rfl rfl)
  intro h' tk t' hk0 F N
  refine wpAny_execs_cons (wpAny_Return_some (ld F rfl ?_))
  exact hret t' h' tk F.keep

theorem attrib_spec {w : World} {mean : ExcName → Option Value} {mg mb : Str → Option Value} {A : Around} {s : Shared} {x : Str} {t : Tok} {Q E : Value → Shared → Prop}
    (X : (hd.heap_39 w.params).In s.heap) (T : TT mean mg mb s.heap) (hroom : A.depth < recursionLimit) (hx : x.length ≤ 100000)
    (hret : ∀ t' h' tk, Ext s.heap h' → Q (.str (esc 2 x) t') { s with heap := h', toks := tk }) :
    wpAny (model PR w) A (call (.ref 67) [.str x t]) Q E s := by
  have e0 := subst_look_nil x
  walk_at "my enter"
  intro h₁ tk0 hk0 F N
  have hm : (some (Value.str x t)) = some (Value.str (subst (look []) x) t) := by rw [e0]
  refine wpAny_execs_cons (wpAny_Try_except (wpAny_execs_cons ?_))
  refine esc_if (c := 38) (tbl := []) F N hm hk0 (by decide +kernel) (by decide +kernel) hx (by decide +kernel) (by decide +kernel) (by decide +kernel) ?_ rfl rfl rfl rfl
  intro h' tk t' hk0 F N
  refine wpAny_execs_cons (esc_if (c := 60) F N rfl hk0 (by decide +kernel) (by decide +kernel) hx (by decide +kernel) (by decide +kernel) (by decide +kernel) ?_ rfl rfl rfl rfl)
  intro h' tk t' hk0 F N
  refine wpAny_execs_cons (esc_if (c := 62) F N rfl hk0 (by decide +kernel) (by decide +kernel) hx (by decide +kernel) (by decide +kernel) (by decide +kernel) ?_ rfl rfl rfl rfl)
  intro h' tk t' hk0 F N
  refine wpAny_execs_cons (esc_if (c := 34) F N rfl hk0 (by decide +kernel) (by decide +kernel) hx (by decide +kernel) (by decide +kernel) (by decide +kernel) ?_ rfl rfl rfl rfl)
  intro h' tk t' hk0 F N
  refine wpAny_execs_cons (esc_if (c := 13) F N rfl hk0 (by decide +kernel) (by decide +kernel) hx (by decide +kernel) (by decide +kernel) (by decide +kernel) ?_ rfl rfl rfl rfl)
  intro h' tk t' hk0 F N
  refine wpAny_execs_cons (esc_if (c := 10) F N rfl hk0 (by decide +kernel) (by decide +kernel) hx (by decide +kernel) (by decide +kernel) (by decide +kernel) ?_ rfl rfl rfl rfl)
  intro h' tk t' hk0 F N
  refine wpAny_execs_cons (esc_if (c := 9) F N rfl hk0 (by decide +kernel) (by decide +kernel) hx (by decide +kernel) (by decide +kernel) (by decide +kernel) ?_ rfl rfl rfl rfl)
  intro h' tk t' hk0 F N
  refine wpAny_execs_cons (wpAny_Return_some (ld F rfl ?_))
  exact hret t' h' tk F.keep

theorem html_spec {w : World} {mean : ExcName → Option Value} {mg mb : Str → Option Value} {A : Around} {s : Shared} {x : Str} {t : Tok} {Q E : Value → Shared → Prop}
    (X : (hd.heap_39 w.params).In s.heap) (T : TT mean mg mb s.heap) (hroom : A.depth < recursionLimit) (hx : x.length ≤ 100000)
    (hret : ∀ t' h' tk, Ext s.heap h' → Q (.str (esc 3 x) t') { s with heap := h', toks := tk }) :
    wpAny (model PR w) A (call (.ref 74) [.str x t]) Q E s := by
  have e0 := subst_look_nil x
  walk_at "my enter"
  intro h₁ tk0 hk0 F N
  have hm : (some (Value.str x t)) = some (Value.str (subst (look []) x) t) := by rw [e0]
  refine wpAny_execs_cons (wpAny_Try_except (wpAny_execs_cons ?_))
  refine esc_if (c := 38) (tbl := []) F N hm hk0 (by decide +kernel) (by decide +kernel) hx (by decide +kernel) (by decide +kernel) (by decide +kernel) ?_ rfl rfl rfl rfl
  intro h' tk t' hk0 F N
  refine wpAny_execs_cons (esc_if (c := 62) F N rfl hk0 (by decide +kernel) (by decide +kernel) hx (by decide +kernel) (by decide +kernel) (by decide +kernel) ?_ rfl rfl rfl rfl)
  intro h' tk t' hk0 F N
  refine wpAny_execs_cons (esc_if (c := 34) F N rfl hk0 (by decide +kernel) (by decide +kernel) hx (by decide +kernel) (by decide +kernel) (by decide +kernel) ?_ rfl rfl rfl rfl)
  intro h' tk t' hk0 F N
  refine wpAny_execs_cons (wpAny_Return_some (ld F rfl ?_))
  exact hret t' h' tk F.keep

theorem cdata14_spec {w : World} {mean : ExcName → Option Value} {mg mb : Str → Option Value} {A : Around} {s : Shared} {x : Str} {t : Tok} {Q E : Value → Shared → Prop}
    (X : (hd.heap_39 w.params).In s.heap) (T : TT mean mg mb s.heap) (hroom : A.depth < recursionLimit) (hx : x.length ≤ 100000)
    (hret : ∀ t' h' tk, Ext s.heap h' → Q (.str (esc 4 x) t') { s with heap := h', toks := tk }) :
    wpAny (model PR w) A (call (.ref 81) [.str x t]) Q E s := by
  have e0 := subst_look_nil x
  walk_at "my enter"
  intro h₁ tk0 hk0 F N
  have hm : (some (Value.str x t)) = some (Value.str (subst (look []) x) t) := by rw [e0]
  refine wpAny_execs_cons (wpAny_Try_except (wpAny_execs_cons ?_))
  refine esc_if (c := 38) (tbl := []) F N hm hk0 (by decide +kernel) (by decide +kernel) hx (by decide +kernel) (by decide +kernel) (by decide +kernel) ?_ rfl rfl rfl rfl
  intro h' tk t' hk0 F N
  refine wpAny_execs_cons (esc_if (c := 60) F N rfl hk0 (by decide +kernel) (by decide +kernel) hx (by decide +kernel) (by decide +kernel) (by decide +kernel) ?_ rfl rfl rfl rfl)
  intro h' tk t' hk0 F N
  refine wpAny_execs_cons (esc_if (c := 62) F N rfl hk0 (by decide +kernel) (by decide +kernel) hx (by decide +kernel) (by decide +kernel) (by decide +kernel) ?_ rfl rfl rfl rfl)
  intro h' tk t' hk0 F N
  refine wpAny_execs_cons (esc_if (c := 13) F N rfl hk0 (by decide +kernel) (by decide +kernel) hx (by decide +kernel) (by decide +kernel) (by decide +kernel) ?_ rfl rfl rfl rfl)
  intro h' tk t' hk0 F N
  refine wpAny_execs_cons (wpAny_Return_some (ld F rfl ?_))
  exact hret t' h' tk F.keep

theorem attrib14_spec {w : World} {mean : ExcName → Option Value} {mg mb : Str → Option Value} {A : Around} {s : Shared} {x : Str} {t : Tok} {Q E : Value → Shared → Prop}
    (X : (hd.heap_39 w.params).In s.heap) (T : TT mean mg mb s.heap) (hroom : A.depth < recursionLimit) (hx : x.length ≤ 100000)
    (hret : ∀ t' h' tk, Ext s.heap h' → Q (.str (esc 5 x) t') { s with heap := h', toks := tk }) :
    wpAny (model PR w) A (call (.ref 88) [.str x t]) Q E s := by
  have e0 := subst_look_nil x
  walk_at "my enter"
  intro h₁ tk0 hk0 F N
  have hm : (some (Value.str x t)) = some (Value.str (subst (look []) x) t) := by rw [e0]
  refine wpAny_execs_cons (wpAny_Try_except (wpAny_execs_cons ?_))
  refine esc_if (c := 38) (tbl := []) F N hm hk0 (by decide +kernel) (by decide +kernel) hx (by decide +kernel) (by decide +kernel) (by decide +kernel) ?_ rfl rfl rfl rfl
  intro h' tk t' hk0 F N
  refine wpAny_execs_cons (esc_if (c := 60) F N rfl hk0 (by decide +kernel) (by decide +kernel) hx (by decide +kernel) (by decide +kernel) (by decide +kernel) ?_ rfl rfl rfl rfl)
  intro h' tk t' hk0 F N
  refine wpAny_execs_cons (esc_if (c := 34) F N rfl hk0 (by decide +kernel) (by decide +kernel) hx (by decide +kernel) (by decide +kernel) (by decide +kernel) ?_ rfl rfl rfl rfl)
  intro h' tk t' hk0 F N
  refine wpAny_execs_cons (esc_if (c := 9) F N rfl hk0 (by decide +kernel) (by decide +kernel) hx (by decide +kernel) (by decide +kernel) (by decide +kernel) ?_ rfl rfl rfl rfl)
  intro h' tk t' hk0 F N
  refine wpAny_execs_cons (esc_if (c := 10) F N rfl hk0 (by decide +kernel) (by decide +kernel) hx (by decide +kernel) (by decide +kernel) (by decide +kernel) ?_ rfl rfl rfl rfl)
  intro h' tk t' hk0 F N
  refine wpAny_execs_cons (esc_if (c := 13) F N rfl hk0 (by decide +kernel) (by decide +kernel) hx (by decide +kernel) (by decide +kernel) (by decide +kernel) ?_ rfl rfl rfl rfl)
  intro h' tk t' hk0 F N
  refine wpAny_execs_cons (wpAny_Return_some (ld F rfl ?_))
  exact hret t' h' tk F.keep

end Mine
end
section
open PySem PySem.W PyProof.Rows PySem.Calls PySem.Spec
namespace Mine
set_option maxRecDepth 100000
set_option maxHeartbeats 8000000
theorem laid_spec {w : World} {mean : ExcName → Option Value} {mg mb : Str → Option Value} {A : Around} {s : Shared} {l : Nat} {x : Str} {t u : Tok} {Q E : Value → Shared → Prop}
    (X : (hd.heap_39 w.params).In s.heap) (T : TT mean mg mb s.heap) (hroom : A.depth + 1 < recursionLimit) (hx : x.length ≤ 100000) (hl : l < 7)
    (hret : ∀ t' h' tk, Ext s.heap h' → Q (.str (step l x) t') { s with heap := h', toks := tk }) :
    wpAny (model PR w) A (call (.ref 95) [.str x t, .int l u]) Q E s := by
  have hr0 : A.depth < recursionLimit := by omega
  refine' enter (binds := [(Str.ofString "text", .str x t), (Str.ofString "layer", .int l u)]) X T ?k6 ?k7 hr0 ?k9 ?kB ?_ ?kl ?c2 ?c3 ?c4 ?c5; (case k6 => k_is); (case k7 => k_is); (case k9 => exact BindsTo.of_eq rfl); (case c5 => decide); (case kB => exact locs rfl); (case c2 => exact rfl); (case c3 => exact rfl); (case c4 => exact rfl); (case kl => exact Nat.zero_lt_succ _)
  intro h₁ tk0 hk0 F N
  change Fr s.heap s.heap.objs.size h₁ (fun y => if y = Str.ofString "layer" then some (Value.int l u) else if y = Str.ofString "text" then some (Value.str x t) else none) at F
  (try dsimp only); (try k_fold)
  have hrq : Txt.replace x (Str.ofString "\"") (Str.ofString "\"\"") = esc 0 x := by
    have h1 := replace_look (t := []) (c := 34) (Str.ofString "\"\"") x (by decide)
    rw [subst_look_nil] at h1
    rw [show Str.ofString "\"" = ⟨#[34]⟩ from by decide +kernel, h1]
    rfl
  have hs0 : Str.ofString "257 \"" ++ Txt.replace x (Str.ofString "\"") (Str.ofString "\"\"") ++ Str.ofString "\"" = step 0 x := by
    rw [hrq]; rfl
  have hs6 : Str.ofString "257 \"" ++ Txt.replace x (Str.ofString "\"") (Str.ofString "\"\"") ++ Str.ofString "\" as \"said\"" = step 6 x := by
    rw [hrq]; rfl
  have hq : (Txt.replace x (Str.ofString "\"") (Str.ofString "\"\"")).length ≤ 600000 := by
    rw [hrq]
    have h2 := esc_len 0 x
    omega
  have h7 : l = 0 ∨ l = 1 ∨ l = 2 ∨ l = 3 ∨ l = 4 ∨ l = 5 ∨ l = 6 := by omega
  rcases h7 with rfl | rfl | rfl | rfl | rfl | rfl | rfl
  all_goals k_steps
  all_goals rename Fr _ _ _ _ => F1
  · rw [hs0]; exact hret _ _ _ F1.keep
  · exact cdata_spec (X.keeps F1.keep) (T.keeps F1.keep) hroom hx (fun t' h' tk e => hret t' h' tk fun b o q => e b o (F1.keep b o q))
  · exact attrib_spec (X.keeps F1.keep) (T.keeps F1.keep) hroom hx (fun t' h' tk e => hret t' h' tk fun b o q => e b o (F1.keep b o q))
  · exact html_spec (X.keeps F1.keep) (T.keeps F1.keep) hroom hx (fun t' h' tk e => hret t' h' tk fun b o q => e b o (F1.keep b o q))
  · exact cdata14_spec (X.keeps F1.keep) (T.keeps F1.keep) hroom hx (fun t' h' tk e => hret t' h' tk fun b o q => e b o (F1.keep b o q))
  · exact attrib14_spec (X.keeps F1.keep) (T.keeps F1.keep) hroom hx (fun t' h' tk e => hret t' h' tk fun b o q => e b o (F1.keep b o q))
  · rw [hs6]; exact hret _ _ _ F1.keep
end Mine
end
section
open PySem PySem.W PyProof.Rows PySem.Calls PySem.Spec
namespace Mine
set_option maxRecDepth 100000
set_option maxHeartbeats 8000000
abbrev toI (ls : List Nat) : List Int := ls.map fun n : Nat => (n : Int)
theorem whole_spec {w : World} {mean : ExcName → Option Value} {mg mb : Str → Option Value} {A : Around} {s : Shared} {l : Addr} {vs : List Value} {ls : List Nat} {x : Str} {t : Tok} {Q E : Value → Shared → Prop}
    (X : (hd.heap_39 w.params).In s.heap) (T : TT mean mg mb s.heap) (hh : A.handled = none) (hroom : A.depth + 2 < recursionLimit) (hx : x.length ≤ 3) (hls : ls.length ≤ 5) (h7 : ∀ n ∈ ls, n < 7)
    (hl : s.heap.IsList l vs.toArray) (hi : IntsAre vs (toI ls))
    (hret : ∀ t' h' tk, Ext s.heap h' → Q (.str (spell x ls) t') { s with heap := h', toks := tk }) :
    wpAny (model PR w) A (call (.ref 124) [.str x t, .ref l]) Q E s := by
  have hr0 : A.depth < recursionLimit := by omega
  have hr1 : A.depth + 1 + 1 < recursionLimit := hroom
  refine' enter (binds := [(Str.ofString "text", .str x t), (Str.ofString "layers", .ref l)]) X T ?k6 ?k7 hr0 ?k9 ?kB ?_ ?kl ?c2 ?c3 ?c4 ?c5; (case k6 => k_is); (case k7 => k_is); (case k9 => exact BindsTo.of_eq rfl); (case c5 => decide); (case kB => exact locs rfl); (case c2 => exact rfl); (case c3 => exact rfl); (case c4 => exact rfl); (case kl => exact Nat.zero_lt_succ _)
  intro h₁ tk0 hk0 F N
  change Fr s.heap s.heap.objs.size h₁ (fun y => if y = Str.ofString "layers" then some (Value.ref l) else if y = Str.ofString "text" then some (Value.str x t) else none) at F
  refine wpAny_execs_cons (For_invVF F rfl rfl (ld F rfl ?_))
  have e0 : (fun y => if y = Str.ofString "layers" then some (Value.ref l) else if y = Str.ofString "text" then some (Value.str x t) else none) = (fun y => if y = Str.ofString "layer" then none else if y = Str.ofString "text" then some (.str (spell x (ls.take 0)) t) else if y = Str.ofString "layers" then some (.ref l) else none) := by
    refine map_ext [Str.ofString "layer", Str.ofString "text", Str.ofString "layers"] ?_ ?_
    · simp only [List.forall_mem_cons]; exact ⟨rfl, rfl, rfl, List.forall_mem_nil _⟩
    · intro y hy
      simp only [List.mem_cons, List.not_mem_nil, or_false, not_or] at hy
      simp [hy]
  refine iter_inv (J := fun i m => ∃ t' u, m = fun y => if y = Str.ofString "layer" then u else if y = Str.ofString "text" then some (.str (spell x (ls.take i)) t') else if y = Str.ofString "layers" then some (.ref l) else none) (by exact hh) hl hi F N ⟨t, none, e0⟩ ?_ ?_
  · intro i n u m₁ h tk own hn hJ F1 N1
    obtain ⟨t1, u1, rfl⟩ := hJ
    have hil : i < ls.length := by
      have := (List.getElem?_eq_some_iff.mp hn).1
      simpa using this
    have hnn : n = (ls[i] : Nat) := by
      rw [List.getElem?_map, List.getElem?_eq_getElem hil] at hn
      exact (Option.some.inj hn).symm
    subst hnn
    have hlen := spell_small (ls := ls.take i) hx (by rw [List.length_take]; omega)
    k_steps
    rename Fr _ _ _ _ => F2
    rename News _ _ _ _ => N2
    refine laid_spec (X.keeps F2.keep) (T.keeps F2.keep) hr1 (by omega) (h7 _ (List.getElem_mem hil)) ?_
    intro t' h' tk e
    have F3 := F2.keeps e
    have N3 := N2.grown e
    clear F2 N2
    k_steps
    rename Fr _ _ _ _ => F4
    rename News _ _ _ _ => N4
    refine InvEnd.intro F4 N4 (fun p hp => hp) ⟨t', some (.int (ls[i] : Nat) u), ?_⟩
    refine map_ext [Str.ofString "layer", Str.ofString "text", Str.ofString "layers"] ?_ ?_
    · simp only [List.forall_mem_cons]
      refine ⟨rfl, ?_, rfl, List.forall_mem_nil _⟩
      rw [List.take_add_one, List.getElem?_eq_getElem hil]
      show _ = some (Value.str (spell x (ls.take i ++ [ls[i]])) t')
      rw [spell_snoc]
      rfl
    · intro y hy
      simp only [List.mem_cons, List.not_mem_nil, or_false, not_or] at hy
      simp [hy]
  · intro m₁ h tk hJ F1 N1
    obtain ⟨t1, u1, rfl⟩ := hJ
    refine wpAny_execs_cons (wpAny_Return_some (ld F1 rfl ?_))
    rw [show (toI ls).length = ls.length from List.length_map .., List.take_length]
    exact hret t1 h tk F1.keep
end Mine
end
section
open PySem PySem.W PyProof.Rows PySem.Calls PySem.Spec
namespace Mine
set_option maxRecDepth 100000
set_option maxHeartbeats 8000000
local macro_rules | `(tactic| walk_at "exec While Compare cons nil") => `(tactic| refine Stop.on ?_)
theorem parse_spec {w : World} {mean : ExcName → Option Value} {mg mb : Str → Option Value} {A : Around} {s : Shared} {x : Str} {t : Tok} {Q E : Value → Shared → Prop}
    (X : (hd.heap_39 w.params).In s.heap) (T : TT mean mg mb s.heap) (hh : A.handled = none) (hroom : A.depth < recursionLimit) (hx : x.length ≤ 100000) (hrep : isRep x = true)
    (hret : ∀ t' h' tk, Ext s.heap h' → Q (.str (parse x) t') { s with heap := h', toks := tk }) :
    wpAny (model PR w) A (call (.ref 46) [.str x t]) Q E s := by
  have e1 := isRep_of x
  have e2 := opens_of x
  rw [hrep] at e1
  refine' enter (binds := [(Str.ofString "resp", .str x t)]) X T ?k6 ?k7 hroom ?k9 ?kB ?_ ?kl ?c2 ?c3 ?c4 ?c5; (case k6 => k_is); (case k7 => k_is); (case k9 => exact BindsTo.of_eq rfl); (case c5 => decide); (case kB => exact locs rfl); (case c2 => exact rfl); (case c3 => exact rfl); (case c4 => exact rfl); (case kl => exact Nat.zero_lt_succ _)
  intro h₁ tk0 hk0 F N
  change Fr s.heap s.heap.objs.size h₁ (fun y => if y = Str.ofString "resp" then some (Value.str x t) else none) at F
  (try dsimp only); (try k_fold)
  k_steps
  · exfalso
    rename (Txt.slice x none (some 3) != Str.ofString "257") = true => q
    rw [e1] at q; cases q
  · rename (Txt.slice x (some 3) (some 5) != Str.ofString " \"") = true => q
    rw [e2] at q
    have hp : parse x = Str.ofString "" := by
      unfold parse
      rw [Bool.not_eq_true'] at q
      rw [q]; rfl
    rename Fr _ _ _ _ => F1
    rw [← hp]
    exact hret _ _ _ F1.keep
  · rename (Txt.slice x (some 3) (some 5) != Str.ofString " \"") = false => q
    rw [e2] at q
    have hp : parse x = ⟨(scan (x.cps.toList.drop 5)).toArray⟩ := by
      unfold parse
      rw [Bool.not_eq_false'] at q
      rw [q]; rfl
    have h5 : 5 ≤ x.length := by
      rw [Bool.not_eq_false', beq_iff_eq] at q
      have := congrArg List.length q
      rw [List.length_take, List.length_drop] at this
      have h2 : x.cps.toList.length = x.cps.size := Array.length_toList
      show 5 ≤ x.cps.size
      simp at this
      omega
    rename Fr _ _ _ _ => F1
    rename News _ _ _ _ => N1
    refine Stop.off ?_
    refine While_inv2 (n₀ := x.length - 5) (fun k m nw => nw = [] ∧ ∃ (i : Nat) (d : Str) (td ti tn : Tok) (c : Option Value), k = x.length - i ∧ 5 ≤ i ∧ i ≤ x.length ∧ d.length ≤ i ∧ d.cps.toList ++ scan (x.cps.toList.drop i) = scan (x.cps.toList.drop 5) ∧
      m = fun y => if y = Str.ofString "c" then c else if y = Str.ofString "n" then some (.int (x.length : Nat) tn) else if y = Str.ofString "i" then some (.int (i : Nat) ti) else if y = Str.ofString "dirname" then some (.str d td) else if y = Str.ofString "resp" then some (.str x t) else none) F1 N1 ?_ ?_ ?_
    · exact ⟨rfl, 5, Str.ofString "", _, _, _, none, rfl, Nat.le_refl _, h5, Nat.zero_le _, rfl, map_ext [Str.ofString "c", Str.ofString "n", Str.ofString "i", Str.ofString "dirname", Str.ofString "resp"]
        (by simp only [List.forall_mem_cons]; exact ⟨rfl, rfl, rfl, rfl, rfl, List.forall_mem_nil _⟩)
        (by intro y hy; simp only [List.mem_cons, List.not_mem_nil, or_false, not_or] at hy; simp [hy])⟩
    · rintro k m₁ nw h tk F2 N2 ⟨rfl, i, d, td, ti, tn, c, rfl, hi5, hin, hd, hsc, rfl⟩
      k_steps
      all_goals (try dsimp only [WhileStep2])
      · rename Fr _ _ _ _ => F3
        k_steps
        rw [sc_brk1 (by omega) (by assumption) (by omega) hsc, ← hp]
        exact hret _ _ _ F3.keep
      · rename Fr _ _ _ _ => F3
        k_steps
        rw [sc_brk2 (by omega) (by assumption) (by omega) (by assumption) hsc, ← hp]
        exact hret _ _ _ F3.keep
      · rename Fr _ _ _ _ => F3
        rename News _ _ _ _ => N3
        have hq := sc_qq (by omega) (by assumption) (by omega) (by assumption) hsc
        have hl1 := item_at (x := x) (i := i) (by omega)
        refine ⟨_, _, _, [], x.length - (i + 1 + 1), rfl, F3, N3, by omega, rfl, i + 1 + 1, d ++ Txt.item x (i : Int), _, _, tn, _, rfl, by omega, by omega, ?_, hq, map_ext [Str.ofString "c", Str.ofString "n", Str.ofString "i", Str.ofString "dirname", Str.ofString "resp"]
          (by simp only [List.forall_mem_cons]; exact ⟨rfl, rfl, rfl, rfl, rfl, List.forall_mem_nil _⟩)
          (by intro y hy; simp only [List.mem_cons, List.not_mem_nil, or_false, not_or] at hy; simp [hy])⟩
        rw [Str.length_append, hl1]
        show d.length + 1 ≤ i + 1 + 1
        omega
      · rename Fr _ _ _ _ => F3
        rename News _ _ _ _ => N3
        have hq := sc_on (by omega) (by assumption) hsc
        have hl1 := item_at (x := x) (i := i) (by omega)
        refine ⟨_, _, _, [], x.length - (i + 1), rfl, F3, N3, by omega, rfl, i + 1, d ++ Txt.item x (i : Int), _, _, tn, _, rfl, by omega, by omega, ?_, hq, map_ext [Str.ofString "c", Str.ofString "n", Str.ofString "i", Str.ofString "dirname", Str.ofString "resp"]
          (by simp only [List.forall_mem_cons]; exact ⟨rfl, rfl, rfl, rfl, rfl, List.forall_mem_nil _⟩)
          (by intro y hy; simp only [List.mem_cons, List.not_mem_nil, or_false, not_or] at hy; simp [hy])⟩
        rw [Str.length_append, hl1]
        show d.length + 1 ≤ i + 1
        omega
      · rename Fr _ _ _ _ => F3
        k_steps
        rw [sc_end (by omega) hsc, ← hp]
        exact hret _ _ _ F3.keep
    · passes_own
end Mine
end
section
open PySem PySem.W PyProof.Rows PySem.Calls PySem.Spec
namespace Mine
set_option maxRecDepth 100000
set_option maxHeartbeats 8000000
local macro_rules | `(tactic| walk_at "exec While Compare cons nil") => `(tactic| refine Stop.on ?_)
local macro_rules | `(tactic| walk_at "leaving ref") => `(tactic| refine Stop.on ?_)
theorem parse_raise {w : World} {mean : ExcName → Option Value} {mg mb : Str → Option Value} {A A₀ : Around} {s : Shared} {x : Str} {t : Tok} {Q E : Value → Shared → Prop}
    {base h₀ : Heap} {outer : List Env} {L a : Addr} {m : Str → Option Value} {cn : Str} {cs : Scope} {ccd : Value} {news : List (Addr × Obj)}
    (B : Below A₀ base outer h₀) (F : Fr h₀ L s.heap m) (N : News h₀ L s.heap news) (X : (hd.heap_39 w.params).In h₀) (T : TT mean mg mb h₀)
    (hA : A.frames = some (envOf cn cs L a ccd :: outer)) (hck : cs.kind = .function) (hroom : A.depth < recursionLimit) (hh : A.handled = none) (hx : x.length ≤ 100000) (hrep : isRep x = false)
    (hE : ∀ h' g e t' tk, Fr h₀ L g m → RaisedS base g (envOf cn cs L a ccd :: outer) e (.ref 37) t' [.str x t] news h' → g.UpToSlots h' → E (.ref e) { s with heap := h', toks := tk }) :
    wpAny (model PR w) A (call (.ref 46) [.str x t]) Q E s := by
  have e1 := isRep_of x
  rw [hrep] at e1
  refine wpAny_call ?_
  refine' call_K (binds := [(Str.ofString "resp", .str x t)]) B F N (X.keeps F.keep) T.nolimit hA ?k6 ?k7 hroom ?k9 ?kB ?_ hck ?c2 ?c3 ?c4 ?c5; (case k6 => k_is); (case k7 => k_is); (case k9 => exact BindsTo.of_eq rfl); (case c5 => decide); (case kB => exact locs rfl); (case c2 => exact rfl); (case c3 => exact rfl); (case c4 => exact rfl)
  intro g L' h₁ FG F' N' B' st
  have e0 : (fun y => ([(Str.ofString "resp", Value.str x t)] : List (Str × Value)).reverse.lookup y) = (fun y => if y = Str.ofString "resp" then some (Value.str x t) else none) := funext fun y => lookup_ifs y _
  rw [e0] at F'
  have X' := X.keeps st
  have T' := T.keeps st
  clear F N X T
  (try dsimp only); (try k_fold)
  k_steps
  · rename Fr _ _ _ _ => F2
    rename News _ _ _ _ => N2
    rename Heap.MadeExcOf _ _ _ _ _ => hmade
    refine Stop.off ?_
    refine leave_raiseS B' hmade F2 N2 ?_
    intro h' t' R' _ U'
    exact hE _ _ _ _ _ FG R' U'
  all_goals
    exfalso
    rename (Txt.slice x none (some 3) != Str.ofString "257") = false => q
    rw [e1] at q; cases q
end Mine
end
section
open PySem PySem.W PyProof.Rows PySem.Calls PySem.Spec
namespace Mine
set_option maxRecDepth 100000
set_option maxHeartbeats 8000000

/-- a for over range(0, n) by a word on the turn's number -/
theorem iter_rangeJ {w : World} {A : Around} {E : Value → Shared → Prop} {s : Shared} {env : Env} {h₀ : Heap} {x : Str} {body : List Stmt} {Q : Flow → Shared → Prop}
    {r : Addr} {b₀ : Int} {t₀ u₀ v₀ : Tok} {n : Nat} {m₀ : Str → Option Value} {news : List (Addr × Obj)} (J : Nat → (Str → Option Value) → List (Addr × Obj) → Prop)
    (hh : A.handled = none) (hr : IsRange s.heap r 0 b₀ 1 t₀ u₀ v₀) (hsmall : Builtin.Range.small 0 b₀ 1 = true) (hn : Builtin.Range.rangeSize 0 b₀ 1 = (n : Int))
    (F : Fr h₀ env.locals s.heap m₀) (N : News h₀ env.locals s.heap news) (hj : J 0 m₀ news)
    (turn : ∀ i t m₁ news₁ h tk own, i < n → OwnOff own (news.map (·.1)) → J i m₁ news₁ → Fr h₀ env.locals h (fun y => if y = x then some (.int (i : Nat) t) else m₁ y) → News h₀ env.locals h (news₁ ++ own) →
      wpAny (model PR w) A (execs body env) (InvPostN h₀ env.locals (J (i + 1)) own (news.map (·.1)) { s with heap := h, toks := tk } Q) E { s with heap := h, toks := tk })
    (done : ∀ m₁ news₁ h tk, J n m₁ news₁ → Fr h₀ env.locals h m₁ → News h₀ env.locals h news₁ → Q .next { s with heap := h, toks := tk }) :
    wpAny (model PR w) A (pyIter (.ref r)) (fun it s₂ => LoopAtV PR w A h₀ env x body Q E it s₂) E s := by
  refine wpAny_pyIter_range hr hsmall ?_
  have Wk := Walks.range (prog := PR) (w := w) hh s.heap.objs.size 0 1 n
  have hnew := next_is_new F
  let J' : Nat → (Str → Option Value) → List (Addr × Obj) → Prop := fun i m₁ nw => nw.map (·.1) = news.map (·.1) ∧ J i m₁ nw
  refine ⟨_, _, _, n, _, _, m₀, news, J', rfl, Wk, ?_, ?_, ?_, (by show IsRangeIter _ _ _ _ _; rw [hn]; simpa using Heap.get?_push_size _ rfl), F.push _, (fun p hp => ⟨Heap.get?_push_of_some _ (N p hp).1, (N p hp).2⟩), ⟨rfl, hj⟩, ?_, ?_⟩
  · intro hm
    exact absurd F.ns.lt ((List.mem_singleton.mp hm) ▸ Nat.lt_irrefl _)
  · intro b hb
    rw [List.mem_singleton.mp hb]
    exact hnew
  · intro p hp hI
    exact absurd (Heap.lt_size (N p hp).1) ((List.mem_singleton.mp hI) ▸ Nat.lt_irrefl _)
  · rintro i v m₁ news₁ s₁ own ⟨hh', tk', rfl⟩ hin ⟨t, rfl⟩ ⟨hadr, hJ⟩ hoff hown _ _ _ F₁ N₁
    have hsep : OwnOff own (news.map (·.1)) := by
      intro p hp b hb e
      obtain ⟨q, hq, rfl⟩ := List.mem_map.mp hb
      have h1 := List.mem_singleton.mp (hown p hp)
      exact absurd (Heap.lt_size (N q hq).1) (by rw [← e, h1]; exact Nat.lt_irrefl _)
    have e1 : (0 : Int) + (i : Int) * 1 = (i : Int) := by omega
    rw [e1] at F₁
    have N₂ : News h₀ env.locals hh' (news₁ ++ own) := fun p hp => N₁ p ((List.mem_append.mp hp).elim (fun h => List.mem_append.mpr (.inr h)) fun h => List.mem_append.mpr (.inl h))
    refine wpAny_mono (turn i t m₁ news₁ hh' tk' own hin hsep hJ F₁ N₂) (fun f s₂ p => ?_) fun _ _ e => e
    have fin : InvEndN h₀ env.locals (J (i + 1)) own (news.map (·.1)) { s with heap := hh', toks := tk' } s₂ → LoopStepU h₀ env.locals [s.heap.objs.size] own (J' (i + 1)) { s with heap := hh', toks := tk' } .next s₂ := by
      rintro ⟨h', tk, m', news', nx, e, F', N', hn, ho, ha, hm⟩
      refine ⟨rfl, h', tk, m', nx, e, F', fun p hp => N' p ((List.mem_append.mp hp).elim (ho p) (hn p)), fun p hp hq => ?_, ha, hm⟩
      have h1 : p.1 ∈ nx.map (·.1) := List.mem_map.mpr ⟨p, hp, rfl⟩
      rw [ha, ← hadr] at h1
      obtain ⟨q, hq1, hq2⟩ := List.mem_map.mp h1
      exact hoff q hq1 (by rw [hq2]; exact hq)
    cases f with
    | ret v => exact .ret p
    | brk => exact .brk p
    | next => exact .next (fin p)
    | cont => exact .cont (fin p)
  · rintro h' tk m' news' F' N' _ ⟨_, hJ⟩
    exact done m' news' h' tk hJ F' N'
end Mine
end
section
open PySem PySem.W PyProof.Rows PySem.Calls PySem.Spec
open PySem.Builtin PySem.Builtin.Str PySem.Builtin.BaseException PySem.Builtin.Exceptions
namespace Mine
set_option maxRecDepth 100000
set_option maxHeartbeats 400000
/-- an exception object of the class error_reply with one text -/
def ErrAt (h : Heap) (e t0 : Addr) (m : Str) (tk : Tok) : Prop :=
  (∃ o vs, h.get? e = some o ∧ o.cls = .ref 37 ∧ o.data = .fields vs ∧ vs[0]? = some (.ref t0)) ∧ h.TupAt t0 [.str m tk]

section
variable {w : World} {prog : Program} {v : World} {A : Around} {E : Value → Shared → Prop} {s : Shared} {e t0 : Addr} {m : Str} {tk : Tok}

theorem err_args {M : Model} {Q : Value × List Value → Shared → Prop} (x : ErrAt s.heap e t0 m tk) (hq : Q (.ref t0, [.str m tk]) s) :
    wpAny M A (bexcArgs (.ref e)) Q E s := by
  obtain ⟨⟨o, vs, ho, _, hd, h0⟩, ⟨ot, k, hto, _, htd⟩⟩ := x
  unfold bexcArgs
  refine wpAny_bind (wpAny_field ho hd h0 (wpAny_bind (wpAny_seqItems hto htd ?_)))
  exact wpAny_pure hq

theorem err_str_entry {Q : Fin → Shared → Prop} (x : ErrAt s.heap e t0 m tk) (hq : Q (.done (.ret (.str m tk))) s) :
    wpAny (model prog v) A (Builtin.«BaseException.__str__» ⟨[.ref e], []⟩) Q E s := by
  unfold Builtin.«BaseException.__str__»
  repeat (first | with_reducible refine err_args x ?_ | wp_step)
  exact hq

theorem err_type {M : Model} (x : ErrAt s.heap e t0 m tk) : Looks M s.heap (typeOf (.ref e)) (.ref 37) := by
  obtain ⟨⟨o, vs, ho, hc, _⟩, _⟩ := x
  rw [← hc]
  exact (Looks.ld ho).andThen Looks.now
theorem call_slot_own {id owner n : String} {b : Builtin} {self : Value} {rest : List Value} {Q : Value → Shared → Prop} (hp : plainId id = true) (hb : entryFor table id = some b)
    (hk : builtinKind id = some .slot) (hs : splitId id = some (owner, n)) (hi : Looks (model prog v) s.heap (isInstance self (.type owner)) true) (ha : argsOk id ⟨self :: rest, []⟩)
    (hc : wpAny (model prog v) A.in1 (b ⟨self :: rest, []⟩) (fun fin s' => ∃ v, fin = .done (.ret v) ∧ Q v s') E s) : wpAny (model prog v) A (call (.builtin id) (self :: rest)) Q E s := by
  refine wpAny_call (codeAny_call_builtin hp hb (check_slot hk hs hi ha (wpAny_mono hc (fun fin s' h' => ?_) fun _ _ h' => h')))
  obtain ⟨v, rfl, hv⟩ := h'; exact hv
theorem err_call {Q : Value → Shared → Prop} (X : (hd.heap_39 w.params).In s.heap) (x : ErrAt s.heap e t0 m tk) (hq : Q (.str m tk) s) :
    wpAny (model prog v) A (call (.builtin "BaseException.__str__") [.ref e]) Q E s := by
  exact call_slot_own (owner := "BaseException") (n := "__str__") PySem.F.excStr_Exception.str.plain PySem.F.entry_bexc_str (by decide +kernel) (by decide +kernel) ((err_type x).andThen (looks_subIn X (by k_is))) (PySem.F.args_bexc_str _) (err_str_entry x ⟨_, rfl, hq⟩)
theorem err_strOf {Q : Value → Shared → Prop} (X : (hd.heap_39 w.params).In s.heap) (hu : A.units < cLine) (x : ErrAt s.heap e t0 m tk) (hq : Q (.str m tk) s) :
    wpAny (model prog v) A (Builtin.Str.strOf (.ref e)) Q E s := by
  have hsp : wpAny (model prog v) A (callSpecial? (.ref e) (Str.ofString "__str__") []) (fun r s' => r = some (.str m tk) ∧ s' = s) E s := by
    unfold callSpecial?
    have hl : Looks (model prog v) s.heap (specialOf (.ref e) (Str.ofString "__str__")) (some (.builtin "BaseException.__str__")) := (err_type x).andThen (looks_findIn X (by k_is))
    refine wpAny_bind (hl.here ?_)
    refine wpAny_holding ?_
    simp only [F.excStr_Exception.str.bind]
    exact wpAny_bind (wpAny_pure (wpAny_bind (err_call X x (wpAny_pure ⟨rfl, rfl⟩))))
  unfold Builtin.Str.strOf
  repeat (first | with_reducible refine wpAny_cRoomFor hu ?_ | (refine wpAny_bind (wpAny_mono hsp ?_ fun _ _ h => h); rintro _ _ ⟨rfl, rfl⟩) | wp_step)
  exact hq
theorem err_str {Q : Value → Shared → Prop} (X : (hd.heap_39 w.params).In s.heap) (hu : A.units + 2 < cLine) (x : ErrAt s.heap e t0 m tk) (h : Q (.str m tk) s) :
    wpAny (model prog v) A (call (.type "str") [.ref e]) Q E s :=
  callType_new F.called_str (by decide) (F.typeCall_str_1 _) (F.newCall_str_1 _) (fun obj => F.args_object_init_2 obj _) F.entry_str_new
    (meets_str_new (S := fun A' R s' => A'.units + 1 < cLine ∧ (hd.heap_39 w.params).In s'.heap ∧ ErrAt s'.heap e t0 m tk ∧ R (.ok (.ret (.str m tk))) s')
      fun _ _ A' _ _ hq => err_strOf (A := A'.in1) hq.2.1 hq.1 hq.2.2.1 hq.2.2.2)
    ⟨(show A.units + 1 + 1 < cLine from hu), X, x, typeIs_str _ _ _, h⟩
end
end Mine
end
section
open PySem PySem.W PyProof.Rows PySem.Calls PySem.Spec
namespace Mine
set_option maxRecDepth 100000
set_option maxHeartbeats 8000000
local macro_rules | `(tactic| walk_at "pyIter ref") => `(tactic| refine Stop.on ?_)
local macro_rules | `(tactic| walk_at "call ref") => `(tactic| refine Stop.on ?_)
theorem strsAre_snoc : ∀ {vs : List Value} {ts : List Str}, StrsAre vs ts → ∀ (y : Str) (t : Tok), StrsAre (vs ++ [.str y t]) (ts ++ [y])
  | _, _, .nil, _, _ => .cons _ _ .nil
  | _, _, .cons _ _ h, y, t => .cons _ _ (strsAre_snoc h y t)
theorem read_spec {w : World} {mean : ExcName → Option Value} {mg mb : Str → Option Value} {A : Around} {s : Shared} {x : Str} {t : Tok} {Q E : Value → Shared → Prop}
    {base : Heap} {outer : List Env}
    (B : Below A base outer s.heap) (XB : (hd.heap_39 w.params).In base) (TB : TT mean mg mb base) (D : KtsDicts (outer.filterMap (·.frame)) s.heap)
    (X : (hd.heap_39 w.params).In s.heap) (T : TT mean mg mb s.heap)
    (hroom : A.depth + 1 < recursionLimit) (hh : A.handled = none) (hx : x.length ≤ 100000) (hu : A.units + 20 < cLine)
    (hret : ∀ a h' tk vs n, (∀ b o, s.heap.get? b = some o → b ∉ outer.filterMap (·.frame) → h'.get? b = some o) → (∀ b o, s.heap.get? b = some o → b ∈ outer.filterMap (·.frame) → ∃ sl, h'.get? b = some { o with slots := sl }) → s.heap.get? a = none →
      StrsAre vs (readN 6 x) → h'.get? a = some (W.listOf vs.toArray n) → Q (.ref a) { s with heap := h', toks := tk }) :
    wpAny (model PR w) A (call (.ref 107) [.str x t]) Q E s := by
  have hr0 : A.depth < recursionLimit := by omega
  refine' enter (binds := [(Str.ofString "text", .str x t)]) X T ?k6 ?k7 hr0 ?k9 ?kB ?_ ?kl ?c2 ?c3 ?c4 ?c5; (case k6 => k_is); (case k7 => k_is); (case k9 => exact BindsTo.of_eq rfl); (case c5 => decide); (case kB => exact locs rfl); (case c2 => exact rfl); (case c3 => exact rfl); (case c4 => exact rfl); (case kl => exact Nat.zero_lt_succ _)
  intro h₁ tk0 hk0 F N
  change Fr s.heap s.heap.objs.size h₁ (fun y => if y = Str.ofString "text" then some (Value.str x t) else none) at F
  (try dsimp only); (try k_fold)
  k_steps
  refine Stop.off ?_
  rename_i ax _ _ _ _ _ _ _ _ _ _ hrng F1 N1 _
  refine iter_rangeJ (n := 6) (fun i m nx => ∃ (y : Str) (ty : Tok) (ts : List Str) (vs : List Value) (n : Nat) (u : Option Value), StrsAre vs ts ∧ ts.length = i ∧ y.length ≤ 100000 ∧ readN 6 x = ts ++ readN (6 - i) y ∧ nx = [(ax, W.listOf vs.toArray n)] ∧
    m = fun z => if z = Str.ofString "k" then u else if z = Str.ofString "told" then some (.ref ax) else if z = Str.ofString "text" then some (.str y ty) else none) (by exact hh) hrng (by decide) (by decide) F1 N1 ?_ ?_ ?_
  · exact ⟨x, t, [], [], 0, none, .nil, rfl, hx, rfl, rfl, map_ext [Str.ofString "k", Str.ofString "told", Str.ofString "text"]
        (by simp only [List.forall_mem_cons]; exact ⟨rfl, rfl, rfl, List.forall_mem_nil _⟩)
        (by intro y hy; simp only [List.mem_cons, List.not_mem_nil, or_false, not_or] at hy; simp [hy])⟩
  · rintro i tk1 m₁ nx h tk2 own hi6 hown ⟨y, ty, ts, vs, n, u, hvs, hts, hy, hread, rfl, rfl⟩ F2 N2
    have hvl := hvs.length
    have hax : ∀ p ∈ own, p.1 ≠ ax := hown.ne (by exact List.mem_singleton.mpr rfl)
    obtain ⟨j, hj⟩ : ∃ j, 6 - i = j + 1 := ⟨6 - i - 1, by omega⟩
    rw [hj] at hread
    k_steps
    refine Stop.off ?_
    by_cases hrep : isRep y = true
    · refine parse_spec (X.keeps F2.keep) (T.keeps F2.keep) (by exact hh) (by exact hroom) hy hrep ?_
      intro t' h' tk e
      have F3 := F2.keeps e
      have N3 := N2.grown e
      clear F2 N2
      have hpl := parse_len y
      k_steps
      · rename (parse y == Str.ofString "") = true => hq
        rename Fr _ _ _ _ => F4
        rename News _ _ _ _ => N4
        have hm : (ax, W.listOf (vs.toArray.push (Value.str (parse y) t')) (n + 1)) ∈ (ax, W.listOf (vs.toArray.push (Value.str (parse y) t')) (n + 1)) :: [].append own := List.mem_cons_self ..
        have hr : readN 6 x = ts ++ [parse y] := by
          rw [hread]
          show ts ++ (if isRep y = true then _ else _) = _
          rw [if_pos hrep, if_pos (beq_iff_eq.mp hq)]
        refine hret ax _ _ (vs ++ [Value.str (parse y) t']) (n + 1) (fun b o q _ => F4.keep b o q) (fun b o q _ => ⟨o.slots, F4.keep b o q⟩) (N4 _ hm).2.2 ?_ ?_
        · rw [hr]; exact strsAre_snoc hvs _ _
        · have := (N4 _ hm).1
          rw [List.push_toArray] at this
          exact this
      · rename (parse y == Str.ofString "") = false => hq
        rename Fr _ _ _ _ => F4
        rename News _ _ _ _ => N4
        rw [List.push_toArray] at N4
        have hr : readN 6 x = (ts ++ [parse y]) ++ readN (6 - (i + 1)) (parse y) := by
          rw [hread]
          show ts ++ (if isRep y = true then _ else _) = _
          rw [if_pos hrep, if_neg (by simpa using hq), show 6 - (i + 1) = j from by omega]
          simp
        refine InvEndN.intro (nx := [(ax, W.listOf (vs ++ [Value.str (parse y) t']).toArray (n + 1))]) F4 N4 ⟨parse y, t', ts ++ [parse y], vs ++ [Value.str (parse y) t'], n + 1, _, strsAre_snoc hvs _ _, by rw [List.length_append, hts]; rfl, by omega, hr, rfl, map_ext [Str.ofString "k", Str.ofString "told", Str.ofString "text"]
          (by simp only [List.forall_mem_cons]; exact ⟨rfl, rfl, rfl, List.forall_mem_nil _⟩)
          (by intro y hy; simp only [List.mem_cons, List.not_mem_nil, or_false, not_or] at hy; simp [hy])⟩ rfl ?_ ?_
        · intro p hp
          rw [List.mem_singleton.mp hp]; exact List.mem_cons_self ..
        · intro p hp
          exact List.mem_cons_of_mem _ hp
    · have hr : readN 6 x = ts ++ [refused, y] := by
        rw [hread]
        show ts ++ (if isRep y = true then _ else _) = _
        rw [if_neg hrep]
      refine parse_raise B F2 N2 X T (Around.frames_deeper B.stack) rfl (by exact hroom) (by exact hh) hy (by simpa using hrep) ?_
      intro h' g e t' tk FG R U
      refine caught_SOB R FG B U XB TB D KtsTurn.refl ?_ ?_ ?_
      · k_is
      · kts_isx
      · intro h' g' news₂ tk KT F3 N3 G N3' B' X' T' D'
        have herr : ErrAt h' e t' y ty := by
          obtain ⟨oe, ot, ws, nt, m1, m2, c1, d1, z1, c2, d2⟩ := G
          exact ⟨⟨oe, ws, (N3 _ m1).1, c1, d1, z1⟩, ⟨ot, nt, (N3 _ m2).1, c2, d2⟩⟩
        k_steps
        refine err_str (X'.keeps F3.keep) (by show A.units + 3 + 2 < cLine; omega) herr ?_
        clear N3 R FG G
        have hall : ∀ t, StrsAre (vs ++ [Value.str (Str.ofString "refused") t, Value.str y ty]) (readN 6 x) := by
          intro t
          rw [hr]
          have h1 := strsAre_snoc (strsAre_snoc hvs refused t) y ty
          rw [List.append_assoc, List.append_assoc] at h1
          exact h1
        k_steps
        rename Fr _ _ _ _ => F4
        rename News _ _ _ _ => N4
        have N5 := N4 _ (List.mem_cons_self ..)
        refine hret _ _ _ (vs ++ [Value.str (Str.ofString "refused") tk, Value.str y ty]) 0 (fun b o q nb => F4.keep b o (KT.other b o q nb)) (fun b o q nb => ?_) ?_ ?_ N5.1
        · obtain ⟨sl, hsl⟩ := KT.frame b o q nb
          exact ⟨sl, F4.keep _ _ hsl⟩
        · cases q : s.heap.get? _ with
          | none => rfl
          | some o =>
            obtain ⟨sl, hsl⟩ := KT.up q
            rw [N5.2.2] at hsl; cases hsl
        · exact hall _
  · rintro m₁ nx h tk ⟨y, ty, ts, vs, n, u, hvs, hts, hy, hread, rfl, rfl⟩ F2 N2
    k_steps
    have hr : readN 6 x = ts := by rw [hread]; simp [readN]
    have N3 := N2 _ (List.mem_cons_self ..)
    refine hret ax _ _ vs n (fun b o q _ => F2.keep b o q) (fun b o q _ => ⟨o.slots, F2.keep b o q⟩) N3.2.2 ?_ N3.1
    rw [hr]; exact hvs
end Mine
end
section
open PySem PySem.W PyProof.Rows PySem.Calls PySem.Spec
namespace Mine
set_option maxRecDepth 100000
set_option maxHeartbeats 8000000

/-- a call of a def whose locals are captured, from any place -/
theorem enterC {w : World} {A : Around} {s : Shared} {mean : ExcName → Option Value} {mg mb : Str → Option Value} {Q E : Value → Shared → Prop} {name qual : Str} {params : Arguments} {body : List Stmt} {scope : Scope} {dV kV doc pm cdv ct oc : Value} {an od : Option Addr} {osl : Array (Option Value)} {f : Addr} {args : List Value} {binds : List (Str × Value)}
    (X : (hd.heap_39 w.params).In s.heap) (T : TT mean mg mb s.heap)
    (ho : (hd.heap_39 w.params).lookup f = some ⟨oc, od, .func (fnOf name qual params body scope dV kV doc pm an cdv ct), osl⟩) (hcd : codeIn (hd.heap_39 w.params) cdv qual = true) (hroom : A.depth < recursionLimit)
    (hbind : BindsTo s (fnOf name qual params body scope dV kV doc pm an cdv ct) ⟨args, []⟩ binds)
    (hkind : (binds.all fun y => scope.names.lookup y.1 == some .local || scope.names.lookup y.1 == some .cell) = true)
    (hnd : ((cellsFrom 0 scope.names []).map (·.1)).Nodup)
    (h : ∀ h₁ tk cells, Fr s.heap s.heap.objs.size h₁ (bindL (envOfC qual scope s.heap.objs.size f cdv).kindOf binds fun _ => none) → News s.heap s.heap.objs.size h₁ cells →
      CellsAre (bindC (envOfC qual scope s.heap.objs.size f cdv).kindOf binds fun _ => none) (cellsFrom (s.heap.objs.size + 1) scope.names []) cells →
      wpAny (model PR w) (A.deeper (envOfC qual scope s.heap.objs.size f cdv)) (execs body (envOfC qual scope s.heap.objs.size f cdv))
        (fun fl s' => Q (match fl with | .ret v => v | _ => .none) s')
        (fun e s' => wpAny (model PR w) (A.deeper (envOfC qual scope s.heap.objs.size f cdv)) (leaving (envOfC qual scope s.heap.objs.size f cdv) e) (fun _ s'' => E e s'') (fun e' s'' => E e' s'') s')
        { s with heap := h₁, toks := tk })
    (hco : scope.isCoroutine = false) (hgen : scope.isGenerator = false) (hk : scope.kind = .function) : wpAny (model PR w) A (call (.ref f) args) Q E s := by
  refine wpAny_call ?_
  refine codeAny_call_function (fd := fnX name qual params body scope [] dV kV doc pm an cdv ct) hroom (X _ _ ho) rfl hco hgen rfl (codeRec_of X hcd) (hbind _ _ _ _ ?_)
  refine wpAny_newFunctionEnv_cells hk (kindsX hkind _) fun env' he s' x => ?_
  subst he
  refine ⟨T.nolimit.keeps x.toInCall.keep, codeAny_func ?_⟩
  obtain ⟨h₁, tk, rfl, _⟩ := x.done
  have hk₁ := x.toInCall.keep
  obtain ⟨cells, NC, Y⟩ := Cl.news (h₀ := s.heap) (Nat.le_refl _) fun n c hm => ⟨x.cell n c (lookup_of_mem_nodup (cellsFrom_names scope.names 0 (s.heap.objs.size + 1) [] [] rfl ▸ hnd) hm), x.above n c hm⟩
  exact h h₁ tk cells ⟨x.toInCall.ns, hk₁, Nat.le_refl _⟩ NC Y
end Mine
end
section
open PySem PySem.W PyProof.Rows PySem.Calls PySem.Spec
namespace Mine
set_option maxRecDepth 100000
set_option maxHeartbeats 1000000

theorem paired_range {val : Nat → Value → Prop} {p : Nat → Bool} {pv : Value → Bool} {F : Value → Value → Prop} (hp : ∀ (i : Nat) (t : Tok), pv (Value.int (i : Int) t) = p i) (hF : ∀ (i : Nat) (t : Tok) (y : Value), F (Value.int (i : Int) t) y → val i y) :
    ∀ (vs : List Value) (a : Nat) (ys : List Value), (∀ j v, vs[j]? = some v → ∃ t, v = Value.int ((a + j : Nat) : Int) t) → Paired F (vs.filter pv) ys → Paired val ((List.range' a vs.length).filter p) ys
  | [], a, ys, _, h => by
    cases h; exact .nil
  | v :: vs, a, ys, hv, h => by
    obtain ⟨t, rfl⟩ := hv 0 v rfl
    have ih := paired_range hp hF vs (a + 1)
    have hv' : ∀ j v, vs[j]? = some v → ∃ t, v = Value.int ((a + 1 + j : Nat) : Int) t := fun j v e => by
      obtain ⟨t, ht⟩ := hv (j + 1) v (by simpa using e)
      exact ⟨t, by rw [ht]; congr 2; omega⟩
    rw [List.length_cons, List.range'_succ]
    simp only [List.filter_cons] at h ⊢
    have e : pv (Value.int ((a + 0 : Nat) : Int) t) = p a := hp a t
    rw [e] at h
    cases hpa : p a with
    | true =>
      rw [hpa] at h
      simp only [if_true] at h ⊢
      cases h with
      | cons h1 h2 => exact .cons (hF a t _ h1) (ih _ hv' h2)
    | false =>
      rw [hpa] at h
      simp only [Bool.false_eq_true, if_false] at h ⊢
      exact ih _ hv' h

section
variable {w : World} {A : Around} {E : Value → Shared → Prop} {s : Shared} {env : Env}

/-- [elt for x in range(n) if ..], the elements plain values -/
theorem ListComp_range {elt iter : Expr} {x : Str} {px : Pos} {ifs : List Expr} {scope : Scope} {cl : List (Str × Addr)} {pos : Pos} {Q : Value → Shared → Prop} (p : Nat → Bool) (val : Nat → Value → Prop)
    (hh : A.handled = none) (hclos : closureFor scope env = pure cl) (hcell : ∀ y ∈ scope.names, y.2 ≠ .cell) (hkind : scope.kind = .function)
    (hnames : ∀ y ∈ scope.names, y.2 = .local → scope.names.lookup y.1 = some .local) (hx : scope.names.lookup x = some .local)
    (h : wpAny (model PR w) A (eval iter env) (fun xv s₁ => Stop (∃ r b₀ t₀ u₀ v₀ n, xv = .ref r ∧ IsRange s₁.heap r 0 b₀ 1 t₀ u₀ v₀ ∧ Builtin.Range.small 0 b₀ 1 = true ∧ Builtin.Range.rangeSize 0 b₀ 1 = ((n : Nat) : Int) ∧ n ≤ sizeLine ∧
      (∀ C (i : Nat) t s₂ m₂ E', s₁.heap.objs.size ≤ C → i < n → s₂.heap.Ns C m₂ → m₂ x = some (.int (i : Int) t) → Ext s₁.heap s₂.heap →
        wpAny (model PR w) A (forIn ifs true fun c r => if r = true then do let ok ← isTrue c (compEnvC scope cl C env) (eval c (compEnvC scope cl C env)); pure (ForInStep.yield ok) else pure (ForInStep.yield r))
          (fun ok s₃ => ok = p i ∧ Keeps s₂ s₃) E' s₂) ∧
      (∀ C (i : Nat) t s₂ m₂ E', s₁.heap.objs.size ≤ C → i < n → p i = true → s₂.heap.Ns C m₂ → m₂ x = some (.int (i : Int) t) → Ext s₁.heap s₂.heap →
        wpAny (model PR w) A (eval elt (compEnvC scope cl C env)) (fun y s₃ => val i y ∧ Keeps s₂ s₃) E' s₂) ∧
      (∀ D (ys : List Value) h' tk, s₁.heap.get? D = none → h'.IsList D ys.toArray → h'.PlainList D ys.toArray → Paired val ((List.range n).filter p) ys → Ext s₁.heap h' → Q (.ref D) { s₁ with heap := h', toks := tk }))) E s)
    (hs : ∀ x, foldedSetIterable iter env x = pure x) :
    wpAny (model PR w) A (eval (.ListComp elt [⟨.Name x px, iter, ifs, 0⟩] scope pos) env) Q E s := by
  let pv : Value → Bool := fun v => match v with | Value.int i _ => p i.toNat | _ => false
  refine wpAny_ListComp_free pv (fun v y => ∀ (i : Nat) t, v = .int (i : Int) t → val i y) hclos hcell hkind hnames hx (wpAny_mono h (fun xv s₁ h₁ => ?_) fun _ _ e => e) hs
  obtain ⟨r, b₀, t₀, u₀, v₀, n, rfl, hr, hsm, hn, hsz, ht, he, hQ⟩ := h₁
  refine wpAny_pyIter_range hr hsm ?_
  have up : ∀ (h₃ : Heap), (∀ b o, b ∉ [s₁.heap.objs.size] → (s₁.heap.push { cls := .type "range_iterator", data := .fields #[rawInt 0, rawInt (Builtin.Range.rangeSize 0 b₀ 1), rawInt 1] }).get? b = some o → h₃.get? b = some o) → Ext s₁.heap h₃ :=
    fun h₃ hk b o e => hk b o (fun hm => by rcases List.mem_cons.mp hm with rfl | hm; exact Nat.lt_irrefl _ (Heap.lt_size e); cases hm) (Heap.get?_push_of_some _ e)
  refine ⟨s₁.heap.objs.size, [s₁.heap.objs.size], [s₁.heap.objs.size], n, _, _, rfl, (Walks.range hh _ 0 1 n).bound, hsz, ?_, ?_, ⟨?_, ?_⟩, ?_⟩
  · show IsRangeIter _ _ _ _ _
    rw [hn]; simpa using Heap.get?_push_size _ rfl
  · intro b hb
    rw [List.mem_singleton.mp hb]
    show _ < (s₁.heap.push _).objs.size
    rw [Heap.size_push]; exact Nat.lt_succ_self _
  · rintro C i v s₃ m₃ E' hC ⟨hi, t, rfl⟩ hns hm hk _
    have e1 : (0 : Int) + (i : Int) * 1 = (i : Int) := by omega
    rw [e1] at hm ⊢
    exact ht C i t s₃ m₃ E' (Nat.le_of_succ_le (by simpa [Heap.size_push] using hC)) hi hns hm (up _ hk)
  · rintro C i v s₃ m₃ E' hC ⟨hi, t, rfl⟩ hpv hns hm hk _
    have e1 : (0 : Int) + (i : Int) * 1 = (i : Int) := by omega
    rw [e1] at hm hpv ⊢
    refine wpAny_mono (he C i t s₃ m₃ E' (Nat.le_of_succ_le (by simpa [Heap.size_push] using hC)) hi hpv hns hm (up _ hk)) (fun y s₄ h₄ => ⟨?_, h₄.2⟩) fun _ _ e => e
    intro j t' ej
    have : (i : Int) = (j : Int) := by injection ej
    have e2 : i = j := by omega
    rw [← e2]; exact h₄.1
  · intro D h' tk ys vs hD hl hpl hlen hP hF hk
    have hD' : s₁.heap.get? D = none := by
      cases e : s₁.heap.get? D with
      | none => rfl
      | some o => rw [Heap.get?_push_of_some _ e] at hD; cases hD
    have h1 := paired_range (val := val) (p := p) (pv := pv) (F := fun v y => ∀ (i : Nat) t, v = .int (i : Int) t → val i y) (fun i t => rfl) (fun i t y q => q i t rfl) vs 0 ys.toList (fun j v e => by
      obtain ⟨_, t, rfl⟩ := hP j v e
      exact ⟨t, by congr 1; omega⟩) hF
    rw [hlen, ← List.range_eq_range'] at h1
    exact hQ D ys.toList h' tk hD' (by rw [Array.toArray_toList]; exact hl) (by rw [Array.toArray_toList]; exact hpl) h1 (up _ hk)
end
end Mine
end
section
open PySem PySem.W PyProof.Rows PySem.Calls PySem.Spec
namespace Mine
set_option maxRecDepth 100000
set_option maxHeartbeats 8000000
local macro_rules | `(tactic| walk_at "eval ListComp") => `(tactic| refine Stop.on ?_)
theorem range_small {b : Int} (h0 : 0 ≤ b) (h1 : b < 1000000) : Builtin.Range.small 0 b 1 = true := by
  refine small_one ?_ ?_ ?_ ?_ <;> omega
theorem range_size {b : Int} {n : Nat} (h : (n : Int) = b) : Builtin.Range.rangeSize 0 b 1 = (n : Int) := by
  rw [rangeSize_nat]; omega
theorem isCell_ext {h h' : Heap} {c : Addr} {v : Option Value} (x : h.IsCell c v) (e : Ext h h') : h'.IsCell c v := by
  obtain ⟨o, ho, hd⟩ := x
  exact ⟨o, e _ _ ho, hd⟩
theorem pow7_small {i : Nat} (hi : i < 5) : ((7 : Int) ^ i).natAbs < 1073741824 ∧ (7 : Int) ^ i ≠ 0 := by
  rcases i with _ | _ | _ | _ | _ | i
  · decide
  · decide
  · decide
  · decide
  · decide
  · omega
theorem paired_strs {f : Nat → Str} : ∀ {l : List Nat} {ys : List Value}, Paired (fun i y => ∃ t', y = Value.str (f i) t') l ys → StrsAre ys (l.map f)
  | _, _, .nil => .nil
  | _, _, .cons ⟨_, e⟩ r => by subst e; exact .cons _ _ (paired_strs r)
theorem paired_ints {f : Nat → Int} : ∀ {l : List Nat} {ys : List Value}, Paired (fun i y => ∃ t', y = Value.int (f i) t') l ys → IntsAre ys (l.map f)
  | _, _, .nil => .nil
  | _, _, .cons ⟨_, e⟩ r => by subst e; exact .cons _ _ (paired_ints r)
theorem filter_true (l : List Nat) : l.filter (fun _ => true) = l := List.filter_eq_self.mpr fun _ _ => rfl
/-- the object that _law_row hands back -/
def RowAt (h₀ h : Heap) (a : Addr) (x : Int) : Prop := ∃ tt b vs n, h.get? a = some (W.listOf #[.str (rowText x) tt, .ref b] 0) ∧ h.get? b = some (W.listOf vs.toArray n) ∧ h₀.get? b = none ∧ IntsAre vs (toI (rowLayers x))
theorem row_spec {w : World} {mean : ExcName → Option Value} {mg mb : Str → Option Value} {A : Around} {s : Shared} {x : Int} {t : Tok} {Q E : Value → Shared → Prop}
    (X : (hd.heap_39 w.params).In s.heap) (T : TT mean mg mb s.heap)
    (hroom : A.depth < recursionLimit) (hh : A.handled = none)
    (hret : ∀ a h' tk, Ext s.heap h' → s.heap.get? a = none → RowAt s.heap h' a x → Q (.ref a) { s with heap := h', toks := tk }) :
    wpAny (model PR w) A (call (.ref 117) [.int x t]) Q E s := by
  refine' enterC (binds := [(Str.ofString "x", .int x t)]) X T ?k6 ?k7 hroom ?k9 ?kB ?kD ?_ ?c2 ?c3 ?c4; (case k6 => k_is); (case k7 => k_is); (case k9 => exact BindsTo.of_eq rfl); (case kB => exact rfl); (case kD => decide +kernel); (case c2 => exact rfl); (case c3 => exact rfl); (case c4 => exact rfl)
  intro h₁ tk0 cells F N Y
  have e0 : (bindL (envOfC (Str.ofString "_law_row") { kind := ScopeKind.function, names := [(Str.ofString "x", NameKind.cell), (Str.ofString "z", NameKind.cell), (Str.ofString "text", NameKind.local), (Str.ofString "range", NameKind.globalImplicit)], isGenerator := false, isCoroutine := false, more := [(Str.ofString "fast", Const.str (Str.ofString "x")), (Str.ofString "fast", Const.str (Str.ofString "z")), (Str.ofString "fast", Const.str (Str.ofString "k")), (Str.ofString "fast", Const.str (Str.ofString "text"))] } s.heap.objs.size 117 (Value.ref 116)).kindOf [(Str.ofString "x", Value.int x t)] fun _ => none) = fun _ => none := rfl
  rw [e0] at F
  k_cells Y
  (try dsimp only); (try k_fold)
  k_steps
  refine Stop.off ?_
  rename_i o1 o2 d1 d2 h2 o3 F1 N1 d3
  replace d2 : o2.data = .cell (some (.int x t)) := d2
  clear d1 e0
  refine ListComp_range (fun _ => true) (fun i y => ∃ t', y = .str (Txt.item sgn (dig ((rowZ x).fdiv 3) i)) t') (by exact hh) rfl (by decide) rfl (by decide) rfl ?_ (by intro _; rfl)
  k_steps
  refine Stop.off ?_
  rename_i h3 _ _ _ _ hr F2 N2 _
  have hT := rowT_eq x
  have hc1 : h3.IsCell (s.heap.objs.size + 1 + 1) (some (.int (x.fdiv 84035) _)) := ⟨o3, (N2 _ (List.mem_cons_self ..)).1, d3⟩
  have hc2 : h3.IsCell (s.heap.objs.size + 1) (some (.int x t)) := ⟨o2, (N2 _ (List.mem_cons_of_mem _ (List.mem_cons_self ..))).1, d2⟩
  refine ⟨_, _, _, _, _, rowT x, rfl, hr, ?_, ?_, ?_, ?_, ?_, ?_⟩
  · exact range_small (by unfold rowZ at hT; omega) (by unfold rowZ at hT; omega)
  · exact range_size hT.1
  · rw [sizeLine_eq]; omega
  · intro C i t s₂ m₂ E' _ _ _ _ _
    exact wpAny_pure ⟨rfl, _, _, rfl, fun _ _ e => e⟩
  · intro C i t s₂ m₂ E' hC hi _ hns hm hext
    have h7 := pow7_small (i := i) (by omega)
    have hd := dig_bounds ((rowZ x).fdiv 3) i
    refine Subscript_ (Calls.Constant_str (wpAny_BinOp (wpAny_BinOp (wpAny_BinOp (wpAny_Name (wpAny_loadName_cell rfl rfl rfl (isCell_ext hc1 hext) (wpAny_Constant_int (floordiv_int (by decide) ?_ (Or.inl (PyProof.noPylong_small (by decide))))))) ))))
    refine wpAny_BinOp (wpAny_Constant_int (wpAny_Name (wpAny_loadName_local rfl rfl hns hm (pow_int_small (by omega) (by omega) (by decide) ?_))))
    rw [Int.toNat_natCast]
    refine floordiv_int h7.2 (wpAny_Constant_int (mod_int' (by decide) ?_)) (Or.inl (PyProof.noPylong_small h7.1))
    refine tail_any (typeIs_str _ _ _) PySem.F.slot_str_getitem.lookup (SB.getItem (i := dig ((rowZ x).fdiv 3) i) ?_ ?_ ?_) (by with_unfolding_all rfl)
    · exact fitsSsize_of (N := 100) (by omega) (by omega) (by decide)
    · exact charAt_isSome (by have : ((Str.ofString "a\"&<>\x0d\t").length : Int) = 7 := rfl; omega) (by have : ((Str.ofString "a\"&<>\x0d\t").length : Int) = 7 := rfl; omega)
    · exact ⟨⟨_, rfl⟩, _, _, rfl, fun _ _ e => e⟩
  · intro D ys h' tk hD hl hpl hpair hext
    rw [filter_true] at hpair
    have hstr := paired_strs hpair
    have F3 := F2.keeps hext
    have N3 := N2.grown hext
    clear F2 N2
    k_steps
    have hsum := rowSigns_sum x
    refine join_list (ys := rowSigns x) hl (by exact hstr) (by show _ + _ * 0 ≤ 16777216; omega) ?_
    intro tj kj
    k_steps
    refine Stop.off ?_
    rename Fr _ _ _ _ => F4
    rename News _ _ _ _ => N4
    refine ListComp_range (fun _ => true) (fun i y => ∃ t', y = .int (dig (x.fdiv 5) i) t') (by exact hh) rfl (by decide) rfl (by decide) rfl ?_ (by intro _; rfl)
    k_steps
    refine Stop.off ?_
    rename Fr _ _ _ _ => F5
    rename News _ _ _ _ => N5
    rename IsRange _ _ _ _ _ _ _ _ => hr5
    have hL := rowL_eq x
    refine ⟨_, _, _, _, _, rowL x, rfl, hr5, range_small (by omega) (by omega), range_size hL.1, by rw [sizeLine_eq]; omega, ?_, ?_, ?_⟩
    · intro C i t s₂ m₂ E' _ _ _ _ _
      exact wpAny_pure ⟨rfl, _, _, rfl, fun _ _ e => e⟩
    · intro C i t s₂ m₂ E' hC hi _ hns hm hext
      have h7 := pow7_small (i := i) (by omega)
      have hx2 := N5 _ (List.mem_cons_of_mem _ (List.mem_cons_self ..))
      refine wpAny_BinOp (wpAny_BinOp (wpAny_BinOp (wpAny_Name (wpAny_loadName_cell rfl rfl rfl ⟨_, hext _ _ hx2.1, d2⟩ (wpAny_Constant_int (floordiv_int (by decide) ?_ (Or.inl (PyProof.noPylong_small (by decide)))))))))
      refine wpAny_BinOp (wpAny_Constant_int (wpAny_Name (wpAny_loadName_local rfl rfl hns hm (pow_int_small (by omega) (by omega) (by decide) ?_))))
      rw [Int.toNat_natCast]
      refine floordiv_int h7.2 (wpAny_Constant_int (mod_int' (by decide) ?_)) (Or.inl (PyProof.noPylong_small h7.1))
      exact ⟨⟨_, rfl⟩, _, _, rfl, fun _ _ e => e⟩
    · intro D' ys' h' tk hD' hl' hpl' hpair' hext'
      rw [filter_true] at hpair'
      have hint := paired_ints hpair'
      have F6 := F5.keeps hext'
      obtain ⟨nD, hoD⟩ := hpl'
      have N6 := news_add F5 (N5.grown hext') hD' hoD
      clear F5 N5
      k_steps
      rename Fr _ _ _ _ => F7
      rename News _ _ _ _ => N7
      have g1 := N7 _ (List.mem_cons_self ..)
      have g2 := N7 _ (List.mem_cons_of_mem _ (List.mem_cons_self ..))
      refine hret _ _ _ F7.keep g1.2.2 ⟨tj, D', ys', nD, g1.1, g2.1, g2.2.2, ?_⟩
      have e : (List.range (rowL x)).map (dig (x.fdiv 5)) = toI (rowLayers x) := by
        unfold rowLayers toI
        rw [List.map_map]
        apply List.map_congr_left
        intro k _
        have := dig_bounds (x.fdiv 5) k
        show dig (x.fdiv 5) k = ((dig (x.fdiv 5) k).toNat : Int)
        omega
      rw [← e]
      exact hint
end Mine
end
section
open PySem PySem.W PyProof.Rows PySem.Calls PySem.Spec PyProof.V
namespace Mine
set_option maxRecDepth 100000
set_option maxHeartbeats 1000000

/-- a display of written texts -/
inductive ConstPairs : List (Option Expr) → List Expr → List (Str × Str) → Prop
  | nil : ConstPairs [] [] []
  | cons {ks vs ps} (k v : Str) (a b : Nat) (p q : Pos) : ConstPairs ks vs ps → ConstPairs (some (.Constant (.str k) a p) :: ks) (.Constant (.str v) b q :: vs) ((k, v) :: ps)
inductive TokPairs : List (Value × Value) → List (Str × Str) → Prop
  | nil : TokPairs [] []
  | cons {vs ps} (k v : Str) (t u : Tok) : TokPairs vs ps → TokPairs ((.str k t, .str v u) :: vs) ((k, v) :: ps)

def datOf (ps : List (Str × Str)) : List (PyData × PyData) := ps.map fun p => (.str p.1, .str p.2)
def TabObj (w : World) (o : Obj) (D : List (PyData × PyData)) : Prop := ∃ kvs, o.IsDictOf (PySem.strKind PR w) kvs ∧ FlatPairs PyData.str kvs D

section
variable {w : World} {A : Around} {E : Value → Shared → Prop} {env : Env}
theorem evalPairs_consts {keys : List (Option Expr)} {values : List Expr} {ps : List (Str × Str)} {pos : Pos} (c : ConstPairs keys values ps) : ∀ {s : Shared} {Q : List (Value × Value) → Shared → Prop},
    (∀ vs tk, TokPairs vs ps → Q vs { s with toks := tk }) → wpAny (model PR w) A (evalPairs (pairTrees keys values env pos)) Q E s := by
  induction c with
  | nil => intro s Q h; exact pairTrees_nil_walk (h [] s.toks .nil)
  | cons k v a b p q _ ih =>
    intro s Q h
    refine pairTrees_cons_walk (Calls.Constant_str (Calls.Constant_str (ih ?_)))
    intro vs tk hv
    exact h _ tk (.cons k v _ _ hv)
theorem TokPairs.keys : ∀ {vs : List (Value × Value)} {ps : List (Str × Str)}, TokPairs vs ps → allStrKeys vs = true ∧ allFlat vs = true ∧ (strPairs vs).map (·.1) = ps.map (·.1) ∧ strData vs = datOf ps
  | _, _, .nil => ⟨rfl, rfl, rfl, rfl⟩
  | _, _, .cons k v t u r => by
    obtain ⟨h1, h2, h3, h4⟩ := r.keys
    refine ⟨h1, ?_, ?_, ?_⟩
    · show ((datumOf (Value.str v u)).isSome && allFlat _) = true
      rw [h2]; rfl
    · show k :: (strPairs _).map (·.1) = k :: _
      rw [h3]
    · show (PyData.str k, (datumOf (Value.str v u)).getD .none) :: strData _ = _
      rw [h4]; rfl
theorem ConstPairs.len : ∀ {keys : List (Option Expr)} {values : List Expr} {ps : List (Str × Str)}, ConstPairs keys values ps → keys.all (·.isSome) = true ∧ keys.length = values.length ∧ keys.length = ps.length
  | _, _, _, .nil => ⟨rfl, rfl, rfl⟩
  | _, _, _, .cons _ _ _ _ _ _ r => by
    obtain ⟨h1, h2, h3⟩ := r.len
    refine ⟨?_, ?_, ?_⟩
    · rw [List.all_cons, h1]; rfl
    · rw [List.length_cons, List.length_cons, h2]
    · rw [List.length_cons, List.length_cons, h3]

theorem eval_dict {s : Shared} {h₀ : Heap} {L : Addr} {m : Str → Option Value} {news : List (Addr × Obj)} {keys : List (Option Expr)} {values : List Expr} {ps : List (Str × Str)} {pos : Pos} {Q : Value → Shared → Prop}
    (F : Fr h₀ L s.heap m) (N : News h₀ L s.heap news) (hbig : h₀.NoLimit) (c : ConstPairs keys values ps) (h0 : ps ≠ []) (hlen : ps.length ≤ 15) (hn : (ps.map (·.1)).Nodup)
    (h : ∀ d h' o tk, Fr h₀ L h' m → News h₀ L h' ((d, o) :: news) → (∀ p ∈ news, p.1 < d) → (d == sysModules) = false → TabObj w o (datOf ps) → Q (.ref d) { s with heap := h', toks := tk }) :
    wpAny (model PR w) A (eval (.Dict keys values pos) env) Q E s := by
  obtain ⟨h1, h2, h3⟩ := c.len
  refine Dict_made (knd := PySem.strKind PR w) F h1 h2 (fun e => h0 (by rw [e] at h3; exact List.length_eq_zero_iff.mp h3.symm)) (by omega) fun F' => ?_
  refine evalPairs_consts c ?_
  intro vs tk hv
  obtain ⟨k1, k2, k3, k4⟩ := hv.keys
  refine made_str F N k1 (by rw [k3]; exact hn) fun h' o F'' N'' hd => ?_
  exact h _ h' o _ F'' N'' (fun p hp => Heap.lt_size (N p hp).1) (F.notModules (modules_low hbig)) ⟨_, hd, by rw [← k4]; exact flatPairs_str vs k1 k2⟩
end

/-! the tables as data -/
def tabDat (t : List (Nat × List Nat)) : List (PyData × PyData) := t.map fun p => (.str ⟨#[p.1]⟩, .str ⟨p.2.toArray⟩)
theorem lookup_tab (t : List (Nat × List Nat)) (c : Nat) : (Spec.lookup (.str ⟨#[c]⟩) (tabDat t)).getD (.str ⟨#[c]⟩) = .str ⟨(look t c).toArray⟩ := by
  induction t with
  | nil => rfl
  | cons p t ih =>
    obtain ⟨k, r⟩ := p
    have e : same (PyData.str ⟨#[k]⟩) (PyData.str ⟨#[c]⟩) = decide ((⟨#[k]⟩ : Str) = ⟨#[c]⟩) := PyProof.V.same_str _ _
    show (Spec.lookup (.str ⟨#[c]⟩) ((PyData.str ⟨#[k]⟩, PyData.str ⟨r.toArray⟩) :: tabDat t)).getD _ = _
    show (if same (PyData.str ⟨#[k]⟩) (PyData.str ⟨#[c]⟩) = true then some (PyData.str ⟨r.toArray⟩) else Spec.lookup (.str ⟨#[c]⟩) (tabDat t)).getD _ = _
    rw [e]
    by_cases hck : k = c
    · subst hck
      simp [look, List.lookup]
    · have e1 : decide ((⟨#[k]⟩ : Str) = ⟨#[c]⟩) = false := by
        simp; exact hck
      have e2 : (c == k) = false := by simpa using fun q : c = k => hck q.symm
      rw [e1]
      simp only [Bool.false_eq_true, if_false]
      rw [ih]
      unfold look
      rw [List.lookup_cons, e2]

theorem paired_signs {val : Nat → Value → Prop} {F : Value → Value → Prop} (hF : ∀ (c : Nat) (t : Tok) (y : Value), F (Value.str ⟨#[c]⟩ t) y → val c y) :
    ∀ (cs : List Nat) (vs ys : List Value), vs.length = cs.length → (∀ (j : Nat) (v : Value), vs[j]? = some v → ∃ c t, cs[j]? = some c ∧ v = Value.str ⟨#[c]⟩ t) → Paired F (vs.filter fun _ => true) ys → Paired val cs ys
  | [], [], _, _, _, h => by cases h; exact .nil
  | [], _ :: _, _, e, _, _ => by cases e
  | _ :: _, [], _, e, _, _ => by cases e
  | c :: cs, v :: vs, ys, e, hv, h => by
    obtain ⟨c', t, e1, rfl⟩ := hv 0 v rfl
    cases e1
    rw [List.filter_cons] at h
    simp only [if_true] at h
    cases h with
    | cons h1 h2 => exact .cons (hF _ _ _ h1) (paired_signs hF cs vs _ (by simpa using e) (fun j v q => by simpa using hv (j + 1) v (by simpa using q)) h2)

section
variable {w : World} {A : Around} {E : Value → Shared → Prop} {s : Shared} {env : Env}

/-- [elt for x in text], the elements plain values -/
theorem ListComp_str {elt iter : Expr} {x : Str} {px : Pos} {scope : Scope} {cl : List (Str × Addr)} {pos : Pos} {Q : Value → Shared → Prop} (val : Nat → Value → Prop)
    (hh : A.handled = none) (hclos : closureFor scope env = pure cl) (hcell : ∀ y ∈ scope.names, y.2 ≠ .cell) (hkind : scope.kind = .function)
    (hnames : ∀ y ∈ scope.names, y.2 = .local → scope.names.lookup y.1 = some .local) (hx : scope.names.lookup x = some .local)
    (h : wpAny (model PR w) A (eval iter env) (fun xv s₁ => Stop (∃ (y : Str) (ty : Tok), xv = .str y ty ∧ y.length ≤ sizeLine ∧
      (∀ C c t s₂ m₂ E', s₁.heap.objs.size ≤ C → s₂.heap.Ns C m₂ → m₂ x = some (.str ⟨#[c]⟩ t) → Ext s₁.heap s₂.heap →
        wpAny (model PR w) A (eval elt (compEnvC scope cl C env)) (fun v s₃ => val c v ∧ Keeps s₂ s₃) E' s₂) ∧
      (∀ D (ys : List Value) h' tk, s₁.heap.get? D = none → h'.PlainList D ys.toArray → Paired val y.cps.toList ys → Ext s₁.heap h' → Q (.ref D) { s₁ with heap := h', toks := tk }))) E s)
    (hs : ∀ x, foldedSetIterable iter env x = pure x) :
    wpAny (model PR w) A (eval (.ListComp elt [⟨.Name x px, iter, [], 0⟩] scope pos) env) Q E s := by
  refine wpAny_ListComp_free (fun _ => true) (fun v r => ∀ c t, v = Value.str ⟨#[c]⟩ t → val c r) hclos hcell hkind hnames hx (wpAny_mono h (fun xv s₁ h₁ => ?_) fun _ _ e => e) hs
  obtain ⟨y, ty, rfl, hsz, he, hQ⟩ := h₁
  refine wpAny_pyIter_str fun o St W hst => ?_
  have up : ∀ (h₃ : Heap), (∀ b o', b ∉ [s₁.heap.objs.size] → (s₁.heap.push o).get? b = some o' → h₃.get? b = some o') → Ext s₁.heap h₃ :=
    fun h₃ hk b o' e => hk b o' (fun hm => by rcases List.mem_cons.mp hm with rfl | hm; exact Nat.lt_irrefl _ (Heap.lt_size e); cases hm) (Heap.get?_push_of_some _ e)
  refine ⟨s₁.heap.objs.size, [s₁.heap.objs.size], [s₁.heap.objs.size], y.cps.size, _, St, rfl, W A hh, hsz, hst, ?_, ⟨?_, ?_⟩, ?_⟩
  · intro b hb
    rw [List.mem_singleton.mp hb]
    show _ < (s₁.heap.push _).objs.size
    rw [Heap.size_push]; exact Nat.lt_succ_self _
  · intro C i v s₃ m₃ E' _ _ _ _ _ _
    exact wpAny_pure ⟨rfl, _, _, rfl, fun _ _ e => e⟩
  · rintro C i v s₃ m₃ E' hC ⟨c, t, _, rfl⟩ _ hns hm hk _
    refine wpAny_mono (he C c t s₃ m₃ E' (Nat.le_of_succ_le (by simpa [Heap.size_push] using hC)) hns hm (up _ hk)) (fun r s₄ h₄ => ⟨?_, h₄.2⟩) fun _ _ e => e
    intro c' t' e
    injection e with e1
    have e2 := congrArg Str.cps e1
    simp only [Array.mk.injEq, List.cons.injEq, and_true] at e2
    rw [← e2]; exact h₄.1
  · intro D h' tk ys vs hD hl hpl hlen hP hF hk
    have hD' : s₁.heap.get? D = none := by
      cases e : s₁.heap.get? D with
      | none => rfl
      | some o' => rw [Heap.get?_push_of_some _ e] at hD; cases hD
    have h1 := paired_signs (val := val) (F := fun v r => ∀ c t, v = Value.str ⟨#[c]⟩ t → val c r) (fun c t y q => q c t rfl) y.cps.toList vs ys.toList (by rw [hlen, Array.length_toList]) (fun j v e => by
      obtain ⟨c, t, e1, rfl⟩ := hP j v e
      exact ⟨c, t, by rw [Array.getElem?_toList]; exact e1, rfl⟩) hF
    exact hQ D ys.toList h' tk hD' (by rw [Array.toArray_toList]; exact hpl) h1 (up _ hk)
end
end Mine
end
section
open PySem PySem.W PyProof.Rows PySem.Calls PySem.Spec PyProof.V
namespace Mine
set_option maxRecDepth 100000
set_option maxHeartbeats 1000000
theorem bool_index : typeLookup (.type "bool") (Str.ofString "__index__") = pure (some (.builtin "int.__index__")) := by rw [typeLookup_type, builtinLookup_eq_fast]; kernel_rfl

section
variable {w : World} {A : Around} {E : Value → Shared → Prop} {s : Shared}
theorem listSubscript_bool {M : Model} {b : Bool} {Q : Option Int → Shared → Prop} (h : Q (some (if b then 1 else 0)) s) :
    wpAny M A (Builtin.List.listSubscript? (.bool b)) Q E s := by
  unfold Builtin.List.listSubscript?
  refine wpAny_bind (wpAny_specialOf (T := "bool") (PySem.typeIs_bool s b) bool_index ?_)
  show wpAny M A (asIndex (.bool b) >>= _) Q E s
  cases b with
  | true =>
    refine wpAny_bind (wpAny_of_eq (a := 1) rfl ?_)
    exact wpAny_pure h
  | false =>
    refine wpAny_bind (wpAny_of_eq (a := 0) rfl ?_)
    exact wpAny_pure h

theorem getItem_list_bool {l : Addr} {items : Array Value} {b : Bool} {x : Value} {Q : Value → Shared → Prop} (hl : s.heap.IsList l items)
    (hx : items[(if b then 1 else 0 : Nat)]? = some x) (h : Q x s) : wpAny (model PR w) A (getItem (.ref l) (.bool b)) Q E s := by
  obtain ⟨o, ho, hc, ne, hd⟩ := id hl
  unfold getItem
  try with_reducible refine wpAny_holding ?_
  first | refine wpAny_bind (wpAny_pure ?_) | skip
  refine wpAny_bind (wpAny_sequenceKey hl.typeIs (by decide) ?_)
  refine wpAny_bind (wpAny_callSpecial?_slot (name := Str.ofString "__getitem__") hl.typeIs slot_list_getitem
    (wpAny_call_entry slot_list_getitem hl.typeIs entry_list_getitem ?_ (args_list_getitem _ _)))
  show wpAny _ _ (Builtin.List.listSubscript? (.bool b) >>= _) _ _ s
  refine wpAny_bind (listSubscript_bool ?_)
  cases b with
  | true =>
    show wpAny _ _ ((seqItemAt l 1 >>= fun r => pure (r.map (1, ·))) >>= _) _ _ s
    refine wpAny_bind (wpAny_bind (wpAny_seqItemAt ho hd (wpAny_pure ?_)))
    rw [show items[1]? = some x from hx]
    first
      | exact wpAny_bind (wpAny_pure (wpAny_pure ⟨x, rfl, wpAny_pure h⟩))
      | exact wpAny_pure ⟨x, rfl, wpAny_pure h⟩
  | false =>
    show wpAny _ _ ((seqItemAt l 0 >>= fun r => pure (r.map (0, ·))) >>= _) _ _ s
    refine wpAny_bind (wpAny_bind (wpAny_seqItemAt ho hd (wpAny_pure ?_)))
    rw [show items[0]? = some x from hx]
    first
      | exact wpAny_bind (wpAny_pure (wpAny_pure ⟨x, rfl, wpAny_pure h⟩))
      | exact wpAny_pure ⟨x, rfl, wpAny_pure h⟩

theorem item_list_bool {value slice : Expr} {l : Addr} {items : Array Value} {b : Bool} {x : Value} {Q : Value → Shared → Prop} (hl : s.heap.IsList l items)
    (hx : items[(if b then 1 else 0 : Nat)]? = some x) (h : Q x s)
    (hs : subscripted slice false (.ref l) (.bool b) = operate [.ref l, .bool b] (getItem (.ref l) (.bool b))) :
    wpAny (model PR w) A (subscriptTail value slice (.ref l) (.bool b)) Q E s :=
  tail_any hl.typeIs slot_list_getitem.lookup (getItem_list_bool hl hx h) hs
theorem item_two_true {value slice : Expr} {l : Addr} {x y : Value} {b : Bool} {Q : Value → Shared → Prop} (hl : s.heap.IsList l #[x, y]) (hb : b = true) (h : Q y s)
    (hs : subscripted slice false (.ref l) (.bool b) = operate [.ref l, .bool b] (getItem (.ref l) (.bool b))) :
    wpAny (model PR w) A (subscriptTail value slice (.ref l) (.bool b)) Q E s := by
  subst hb
  exact item_list_bool hl rfl h hs
theorem item_two_false {value slice : Expr} {l : Addr} {x y : Value} {b : Bool} {Q : Value → Shared → Prop} (hl : s.heap.IsList l #[x, y]) (hb : b = false) (h : Q x s)
    (hs : subscripted slice false (.ref l) (.bool b) = operate [.ref l, .bool b] (getItem (.ref l) (.bool b))) :
    wpAny (model PR w) A (subscriptTail value slice (.ref l) (.bool b)) Q E s := by
  subst hb
  exact item_list_bool hl rfl h hs
end
end Mine
end
section
open PySem PySem.W PyProof.Rows PySem.Calls PySem.Spec PyProof.V
namespace Mine
set_option maxRecDepth 100000
set_option maxHeartbeats 1000000

def escSigns (k : Nat) (y : Str) : List Str := y.cps.toList.map fun c => ⟨(look (tb k) c).toArray⟩

theorem paired_signs_strs {k : Nat} : ∀ {l : List Nat} {ys : List Value}, Paired (fun c v => ∃ t', v = Value.str ⟨(look (tb k) c).toArray⟩ t') l ys → StrsAre ys (l.map fun c => (⟨(look (tb k) c).toArray⟩ : Str))
  | _, _, .nil => .nil
  | _, _, .cons ⟨_, e⟩ r => by subst e; exact .cons _ _ (paired_signs_strs r)

/-- [table.get(sign, sign) for sign in text] -/
theorem table_comp {w : World} {A : Around} {E : Value → Shared → Prop} {s : Shared} {nm : Str} {sc scope : Scope} {L f c d : Addr} {cd : Value} {h₀ : Heap} {m : Str → Option Value} {news : List (Addr × Obj)} {o oc : Obj} {D : List (PyData × PyData)} {k : Nat} {y : Str} {ty : Tok}
    {p1 p2 p3 p4 p5 p6 p7 p8 : Pos} {Q : Value → Shared → Prop}
    (hh : A.handled = none) (F : Fr h₀ L s.heap m) (N : News h₀ L s.heap news) (hmc : (c, oc) ∈ news) (hdc : oc.data = .cell (some (.ref d))) (hmd : (d, o) ∈ news) (hlo : (d == sysModules) = false) (hT : TabObj w o D) (hD : D = tabDat (tb k))
    (hm : m (Str.ofString "text") = some (.str y ty)) (hy : y.length ≤ 60000)
    (h : ∀ D ys h' tk nD, s.heap.get? D = none → h'.get? D = some (W.listOf ys.toArray nD) → StrsAre ys (escSigns k y) → Fr h₀ L h' m → News h₀ L h' ((D, W.listOf ys.toArray nD) :: news) → Q (.ref D) { s with heap := h', toks := tk })
    (hkf : sc.kind = .function) (hkl : (envOfC nm sc L f cd).kindOf (Str.ofString "text") = some .local)
    (hclos : closureFor scope (envOfC nm sc L f cd) = pure [(Str.ofString "table", c)]) (hcell : ∀ y ∈ scope.names, y.2 ≠ .cell) (hkind : scope.kind = .function)
    (hnames : ∀ y ∈ scope.names, y.2 = .local → scope.names.lookup y.1 = some .local) (hx : scope.names.lookup (Str.ofString "sign") = some .local)
    (hk1 : ∀ C, (compEnvC scope [(Str.ofString "table", c)] C (envOfC nm sc L f cd)).scope.kind = .function)
    (hk2 : ∀ C, (compEnvC scope [(Str.ofString "table", c)] C (envOfC nm sc L f cd)).kindOf (Str.ofString "sign") = some .local)
    (hk3 : ∀ C, (compEnvC scope [(Str.ofString "table", c)] C (envOfC nm sc L f cd)).kindOf (Str.ofString "table") = some .cell)
    {pl : Addr → Sem Bool}
    (he : ∀ C, eval (.Call (.Attribute (.Name (Str.ofString "table") p1) (Str.ofString "get") p2) [.Name (Str.ofString "sign") p3, .Name (Str.ofString "sign") p4] [] p5) (compEnvC scope [(Str.ofString "table", c)] C (envOfC nm sc L f cd)) = (do
      let ov ← eval (.Name (Str.ofString "table") p1) (compEnvC scope [(Str.ofString "table", c)] C (envOfC nm sc L f cd))
      standAt p2.atName
      let (g, first) ← holding [ov] (getMethod ov (Str.ofString "get") (pl C))
      callWith p5 g first (backTo p5 (starEach [.Name (Str.ofString "sign") p3, .Name (Str.ofString "sign") p4] (compEnvC scope [(Str.ofString "table", c)] C (envOfC nm sc L f cd)))) []))
    (hs : ∀ x, foldedSetIterable (.Name (Str.ofString "text") p7) (envOfC nm sc L f cd) x = pure x) :
    wpAny (model PR w) A (eval (.ListComp (.Call (.Attribute (.Name (Str.ofString "table") p1) (Str.ofString "get") p2) [.Name (Str.ofString "sign") p3, .Name (Str.ofString "sign") p4] [] p5)
      [⟨.Name (Str.ofString "sign") p6, .Name (Str.ofString "text") p7, [], 0⟩] scope p8) (envOfC nm sc L f cd)) Q E s := by
  refine ListComp_str (fun c v => ∃ t', v = Value.str ⟨(look (tb k) c).toArray⟩ t') hh hclos hcell hkind hnames hx (ldLoc F hm ?_ hkf hkl rfl) hs
  refine ⟨y, ty, rfl, by rw [sizeLine_eq]; omega, ?_, ?_⟩
  · intro C cc t s₂ m₂ E' hC hns hm2 hext
    obtain ⟨kvs, hdic, hfl⟩ := hT
    have hTab : StrTab PR w s₂.heap d D := TabAt.ofObj hlo (hext _ _ (N _ hmd).1) hdic hfl
    refine MethodCall_ (pl := pl C) (wpAny_Name (wpAny_loadName_cell (hk1 C) (hk3 C) rfl ⟨oc, hext _ _ (N _ hmc).1, hdc⟩ ?_)) (he C)
    refine getMethod_strTab_get hTab ?_
    refine callWith_method1 (spliced_more (wpAny_Name (wpAny_loadName_local (hk1 C) (hk2 C) hns hm2 (spliced_more (wpAny_Name (wpAny_loadName_local (hk1 C) (hk2 C) hns hm2 (spliced_none ?_))))))) 
    refine call_get2_strTab hTab (.str _ _) ?_
    intro v hv
    subst hD
    rw [lookup_tab] at hv
    cases hv s₂.heap
    exact ⟨⟨_, rfl⟩, _, _, rfl, fun _ _ e => e⟩
  · intro D' ys h' tk hD' hpl hpair hext
    obtain ⟨nD, ho⟩ := hpl
    exact h D' ys h' tk nD hD' ho (paired_signs_strs hpair) (F.keeps hext) (news_add F (N.grown hext) hD' ho)

theorem dat0 : datOf [(Str.ofString "\"", Str.ofString "\"\"")] = tabDat (tb 0) := by rfl
theorem dat1 : datOf [(Str.ofString "&", Str.ofString "&amp;"), (Str.ofString "<", Str.ofString "&lt;"), (Str.ofString ">", Str.ofString "&gt;")] = tabDat (tb 1) := by rfl
theorem dat2 : datOf [(Str.ofString "&", Str.ofString "&amp;"), (Str.ofString "<", Str.ofString "&lt;"), (Str.ofString ">", Str.ofString "&gt;"), (Str.ofString "\"", Str.ofString "&quot;"), (Str.ofString "\x0d", Str.ofString "&#13;"), (Str.ofString "\n", Str.ofString "&#10;"), (Str.ofString "\t", Str.ofString "&#09;")] = tabDat (tb 2) := by rfl
theorem dat3 : datOf [(Str.ofString "&", Str.ofString "&amp;"), (Str.ofString ">", Str.ofString "&gt;"), (Str.ofString "\"", Str.ofString "&quot;")] = tabDat (tb 3) := by rfl
theorem dat4 : datOf [(Str.ofString "&", Str.ofString "&amp;"), (Str.ofString "<", Str.ofString "&lt;"), (Str.ofString ">", Str.ofString "&gt;"), (Str.ofString "\x0d", Str.ofString "&#xD;")] = tabDat (tb 4) := by rfl
theorem dat5 : datOf [(Str.ofString "&", Str.ofString "&amp;"), (Str.ofString "<", Str.ofString "&lt;"), (Str.ofString "\"", Str.ofString "&quot;"), (Str.ofString "\t", Str.ofString "&#x9;"), (Str.ofString "\n", Str.ofString "&#xA;"), (Str.ofString "\x0d", Str.ofString "&#xD;")] = tabDat (tb 5) := by rfl
theorem dat6 : datOf [(Str.ofString "\"", Str.ofString "\"\"")] = tabDat (tb 6) := by rfl

/-! the parts joined are the substitution -/
theorem glued_cps (ss : List Str) : ∀ acc : Array Nat, ss.foldl (fun acc (p : Str) => acc ++ (Str.ofString "").cps ++ p.cps) acc = acc ++ (ss.flatMap fun p => p.cps.toList).toArray := by
  induction ss with
  | nil => intro acc; simp
  | cons p ss ih =>
    intro acc
    rw [List.foldl_cons, ih]
    have e : (Str.ofString "").cps = #[] := by decide +kernel
    rw [e, List.flatMap_cons, Array.append_empty]
    apply Array.ext'
    simp
theorem join_esc (k : Nat) (y : Str) : Txt.join (Str.ofString "") (escSigns k y) = esc k y := by
  unfold Txt.join
  have hj : ∀ (ss : List Str), Builtin.Str.glued (Str.ofString "") ss = ⟨(ss.flatMap fun p => p.cps.toList).toArray⟩ := by
    intro ss
    cases ss with
    | nil => rfl
    | cons p ss =>
      have h1 : Builtin.Str.glued (Str.ofString "") (p :: ss) = ⟨ss.foldl (fun acc p => acc ++ (Str.ofString "").cps ++ p.cps) p.cps⟩ := rfl
      rw [h1, glued_cps]
      apply Str.ext'
      apply Array.ext'
      simp
  rw [hj]
  unfold escSigns esc subst
  apply Str.ext'
  apply Array.ext'
  show (List.flatMap _ (List.map _ _)) = _
  rw [List.flatMap_map]
theorem escSigns_sum (k : Nat) (y : Str) : ((escSigns k y).map (·.length)).sum ≤ 6 * y.length ∧ (escSigns k y).length = y.length := by
  unfold escSigns
  constructor
  · rw [List.map_map]
    have : y.length = y.cps.toList.length := Array.length_toList.symm
    rw [this]
    induction y.cps.toList with
    | nil => simp
    | cons c l ih =>
      rw [List.map_cons, List.sum_cons, List.length_cons]
      have h1 := look_len (tb_len k) c
      have h2 : (((fun x : Str => x.length) ∘ fun c => (⟨(look (tb k) c).toArray⟩ : Str)) c) = (look (tb k) c).length := by
        show (look (tb k) c).toArray.size = _
        rw [List.size_toArray]
      omega
  · rw [List.length_map, Array.length_toList]; rfl
end Mine
end
section
open PySem PySem.W PyProof.Rows PySem.Calls PySem.Spec
namespace Mine
set_option maxRecDepth 100000
set_option maxHeartbeats 8000000
local macro_rules | `(tactic| walk_at "eval ListComp") => `(tactic| refine Stop.on ?_)
local macro_rules | `(tactic| walk_at "pyIter ref") => `(tactic| refine Stop.on ?_)
local macro_rules | `(tactic| walk_at "eval Dict") => `(tactic| (k_here; k_dflt (refine' eval_dict ?F ?N ?b ?c ?e ?l ?n ?_; (case F => k_asm); (case N => k_asm); (case b => exact Top.nolimit (by k_asm)); (case c => repeat' constructor); (case e => exact List.cons_ne_nil _ _); (case l => decide); (case n => exact of_decide_eq_true (by first | rfl | kernel_rfl!)); intro d' h' o' tk' F' N' l1 lo' hD'; (try k_lt l1))))
local macro_rules | `(tactic| walk_at "subscriptTail") => `(tactic| (k_here; (with_reducible show wpAny _ _ (subscriptTail _ _ (Value.ref _) (Value.bool _)) _ _ _); k_dflt (first | (refine' item_two_true ?hl ?hb ?_ ?hs; (case hl => exact News.isList (by k_asm) (by k_mem)); (case hb => decide); (case hs => with_unfolding_all rfl)) | (refine' item_two_false ?hl ?hb ?_ ?hs; (case hl => exact News.isList (by k_asm) (by k_mem)); (case hb => decide); (case hs => with_unfolding_all rfl)))))
theorem step0 (y : Str) : Str.ofString "257 \"" ++ esc 0 y ++ Str.ofString "\"" = step 0 y := rfl
theorem step6 (y : Str) : Str.ofString "257 \"" ++ esc 6 y ++ Str.ofString "\" as \"said\"" = step 6 y := rfl
theorem step_mid (z : Str) : Str.ofString "" ++ z ++ Str.ofString "" = z := by
  have e : Str.ofString "" = Str.empty := by decide +kernel
  rw [e, Str.empty_append, Str.append_empty]
theorem step1 (y : Str) : Str.ofString "" ++ esc 1 y ++ Str.ofString "" = step 1 y := step_mid _
theorem step2 (y : Str) : Str.ofString "" ++ esc 2 y ++ Str.ofString "" = step 2 y := step_mid _
theorem step3 (y : Str) : Str.ofString "" ++ esc 3 y ++ Str.ofString "" = step 3 y := step_mid _
theorem step4 (y : Str) : Str.ofString "" ++ esc 4 y ++ Str.ofString "" = step 4 y := step_mid _
theorem step5 (y : Str) : Str.ofString "" ++ esc 5 y ++ Str.ofString "" = step 5 y := step_mid _
theorem spelled_spec {w : World} {mean : ExcName → Option Value} {mg mb : Str → Option Value} {A : Around} {s : Shared} {l : Addr} {vs : List Value} {ls : List Nat} {x : Str} {t : Tok} {Q E : Value → Shared → Prop}
    (X : (hd.heap_39 w.params).In s.heap) (T : TT mean mg mb s.heap) (hh : A.handled = none) (hroom : A.depth + 2 < recursionLimit) (hx : x.length ≤ 3) (hls : ls.length ≤ 5) (h7 : ∀ n ∈ ls, n < 7)
    (hl : s.heap.IsList l vs.toArray) (hi : IntsAre vs (toI ls))
    (hret : ∀ t' h' tk, Ext s.heap h' → Q (.str (spell x ls) t') { s with heap := h', toks := tk }) :
    wpAny (model PR w) A (call (.ref 100) [.str x t, .ref l]) Q E s := by
  obtain ⟨ah, dp, fr, gd, un⟩ := A
  dsimp only at hh hroom
  subst hh
  have hr0 : dp < recursionLimit := by omega
  refine' enterC (binds := [(Str.ofString "text", .str x t), (Str.ofString "layers", .ref l)]) X T ?k6 ?k7 hr0 ?k9 ?kB ?kD ?_ ?c2 ?c3 ?c4; (case k6 => k_is); (case k7 => k_is); (case k9 => exact BindsTo.of_eq rfl); (case kB => exact rfl); (case kD => decide +kernel); (case c2 => exact rfl); (case c3 => exact rfl); (case c4 => exact rfl)
  intro h₁ tk0 cells F N Y
  change Fr s.heap s.heap.objs.size h₁ (fun y => if y = Str.ofString "layers" then some (Value.ref l) else if y = Str.ofString "text" then some (Value.str x t) else none) at F
  k_cells Y
  (try dsimp only); (try k_fold)
  k_steps
  refine Stop.off ?_
  rename_i oc dc dso _ oso _ loso hso _ dot _ oot _ loot hot _ _ _ _ _ _ _ dli _ oli _ loli hli _ _ dla _ ola _ lola hla _ _ F1 N1
  rename IntsAre _ _ => hi
  have N2 : News s.heap s.heap.objs.size _ [(dla, ola), (dli, oli), (dot, oot), (dso, oso), (s.heap.objs.size + 1, oc)] := fun p hp => N1 p (by simp only [List.mem_cons, List.not_mem_nil, or_false] at hp ⊢; rcases hp with h | h | h | h | h <;> simp [h])
  clear N1
  refine iter_invN (J := fun i m nx => ∃ (t' : Tok) (u v : Option Value) (oc : Obj), oc.data = .cell v ∧ nx = [(dla, ola), (dli, oli), (dot, oot), (dso, oso), (s.heap.objs.size + 1, oc)] ∧ m = fun y => if y = Str.ofString "layer" then u else if y = Str.ofString "last" then some (Value.ref dla) else if y = Str.ofString "lines" then some (Value.ref dli) else if y = Str.ofString "some" then some (Value.ref dso) else if y = Str.ofString "others" then some (Value.ref dot) else if y = Str.ofString "text" then some (Value.str (spell x (ls.take i)) t') else if y = Str.ofString "layers" then some (Value.ref l) else none) rfl hl hi F1 N2 ?_ ?_ ?_
  · exact ⟨t, none, _, oc, dc, rfl, map_ext [Str.ofString "layer", Str.ofString "last", Str.ofString "lines", Str.ofString "some", Str.ofString "others", Str.ofString "text", Str.ofString "layers"]
      (by simp only [List.forall_mem_cons]; exact ⟨rfl, rfl, rfl, rfl, rfl, rfl, rfl, List.forall_mem_nil _⟩)
      (by intro y hy; simp only [List.mem_cons, List.not_mem_nil, or_false, not_or] at hy; simp [hy])⟩
  · rintro i n u1 m₁ nx h tk own hn hadr hown ⟨t1, u, v, oc1, dc1, rfl, rfl⟩ F3 N3
    clear F1 N2 dc
    have hil : i < ls.length := by
      have := (List.getElem?_eq_some_iff.mp hn).1
      simpa using this
    have hnn : n = (ls[i] : Nat) := by
      rw [List.getElem?_map, List.getElem?_eq_getElem hil] at hn
      exact (Option.some.inj hn).symm
    have hlen := spell_small (ls := ls.take i) hx (by rw [List.length_take]; omega)
    have hk7 := h7 _ (List.getElem_mem hil)
    have hsn : spell x (ls.take (i + 1)) = step ls[i] (spell x (ls.take i)) := by
      rw [List.take_add_one, List.getElem?_eq_getElem hil]
      show spell x (ls.take i ++ [ls[i]]) = _
      rw [spell_snoc]
    rw [hsn]
    generalize hy : spell x (ls.take i) = y at *
    generalize hk : ls[i] = k at *
    subst hnn
    clear hn hy hsn hret hk h7
    simp only [List.map_cons, List.map_nil] at hown ⊢
    simp only [List.cons_append, List.nil_append] at N3
    have hoc : ∀ p ∈ own, p.1 ≠ s.heap.objs.size + 1 := hown.ne (by simp)
    have hk' : k = 0 ∨ k = 1 ∨ k = 2 ∨ k = 3 ∨ k = 4 ∨ k = 5 ∨ k = 6 := by omega
    rcases hk' with rfl | rfl | rfl | rfl | rfl | rfl | rfl
    · k_steps
      refine Stop.off ?_
      rename Fr _ _ _ _ => F4
      rename News _ _ _ _ => N4
      rename Obj.data _ = Data.cell (some _) => dcell
      refine' table_comp (k := 0) rfl F4 N4 ?k1 dcell ?k2 ?k3 ?k4 dat0 rfl hlen ?_ rfl rfl rfl ?c1 rfl ?c2 rfl (fun _ => rfl) (fun _ => rfl) (fun _ => rfl) (fun _ => rfl) (fun _ => rfl)
      (case k1 => k_mem)
      (case k2 => k_mem)
      (case k3 => assumption)
      (case k4 => assumption)
      (case c1 => decide)
      (case c2 => decide)
      intro D ys h' tk nD hD hoD hst F5 N5
      clear F4 N4 hD
      have hsum := escSigns_sum 0 y
      have hesc := esc_len 0 y
      k_steps
      refine join_list (ys := escSigns 0 y) (News.isList N5 (by k_mem)) (by exact hst) (by show _ + _ * 0 ≤ 16777216; omega) ?_
      intro tj kj
      rw [join_esc]
      k_steps
      rename Fr _ _ _ _ => F6
      rename News _ _ _ _ => N6
      refine InvEndN.intro (nx := [(dla, ola), (dli, oli), (dot, oot), (dso, oso), (s.heap.objs.size + 1, _)]) F6 N6 ⟨_, _, _, _, dcell, rfl, map_ext [Str.ofString "layer", Str.ofString "last", Str.ofString "lines", Str.ofString "some", Str.ofString "others", Str.ofString "text", Str.ofString "layers"]
        (by simp only [List.forall_mem_cons]; exact ⟨rfl, rfl, rfl, rfl, rfl, congrArg (fun z => some (Value.str z _)) (step0 y), rfl, List.forall_mem_nil _⟩)
        (by intro y hy; simp only [List.mem_cons, List.not_mem_nil, or_false, not_or] at hy; simp [hy])⟩ rfl ?_ ?_
      · intro p hp
        simp only [List.mem_cons, List.not_mem_nil, or_false] at hp
        rcases hp with h | h | h | h | h <;> simp [h]
      · intro p hp
        repeat (first | exact hp | apply List.mem_cons_of_mem)
    · k_steps
      refine Stop.off ?_
      rename Fr _ _ _ _ => F4
      rename News _ _ _ _ => N4
      rename Obj.data _ = Data.cell (some _) => dcell
      refine' table_comp (k := 1) rfl F4 N4 ?k1 dcell ?k2 ?k3 ?k4 dat1 rfl hlen ?_ rfl rfl rfl ?c1 rfl ?c2 rfl (fun _ => rfl) (fun _ => rfl) (fun _ => rfl) (fun _ => rfl) (fun _ => rfl)
      (case k1 => k_mem)
      (case k2 => k_mem)
      (case k3 => assumption)
      (case k4 => assumption)
      (case c1 => decide)
      (case c2 => decide)
      intro D ys h' tk nD hD hoD hst F5 N5
      clear F4 N4 hD
      have hsum := escSigns_sum 1 y
      have hesc := esc_len 1 y
      k_steps
      refine join_list (ys := escSigns 1 y) (News.isList N5 (by k_mem)) (by exact hst) (by show _ + _ * 0 ≤ 16777216; omega) ?_
      intro tj kj
      rw [join_esc]
      k_steps
      rename Fr _ _ _ _ => F6
      rename News _ _ _ _ => N6
      refine InvEndN.intro (nx := [(dla, ola), (dli, oli), (dot, oot), (dso, oso), (s.heap.objs.size + 1, _)]) F6 N6 ⟨_, _, _, _, dcell, rfl, map_ext [Str.ofString "layer", Str.ofString "last", Str.ofString "lines", Str.ofString "some", Str.ofString "others", Str.ofString "text", Str.ofString "layers"]
        (by simp only [List.forall_mem_cons]; exact ⟨rfl, rfl, rfl, rfl, rfl, congrArg (fun z => some (Value.str z _)) (step1 y), rfl, List.forall_mem_nil _⟩)
        (by intro y hy; simp only [List.mem_cons, List.not_mem_nil, or_false, not_or] at hy; simp [hy])⟩ rfl ?_ ?_
      · intro p hp
        simp only [List.mem_cons, List.not_mem_nil, or_false] at hp
        rcases hp with h | h | h | h | h <;> simp [h]
      · intro p hp
        repeat (first | exact hp | apply List.mem_cons_of_mem)
    · k_steps
      refine Stop.off ?_
      rename Fr _ _ _ _ => F4
      rename News _ _ _ _ => N4
      rename Obj.data _ = Data.cell (some _) => dcell
      refine' table_comp (k := 2) rfl F4 N4 ?k1 dcell ?k2 ?k3 ?k4 dat2 rfl hlen ?_ rfl rfl rfl ?c1 rfl ?c2 rfl (fun _ => rfl) (fun _ => rfl) (fun _ => rfl) (fun _ => rfl) (fun _ => rfl)
      (case k1 => k_mem)
      (case k2 => k_mem)
      (case k3 => assumption)
      (case k4 => assumption)
      (case c1 => decide)
      (case c2 => decide)
      intro D ys h' tk nD hD hoD hst F5 N5
      clear F4 N4 hD
      have hsum := escSigns_sum 2 y
      have hesc := esc_len 2 y
      k_steps
      refine join_list (ys := escSigns 2 y) (News.isList N5 (by k_mem)) (by exact hst) (by show _ + _ * 0 ≤ 16777216; omega) ?_
      intro tj kj
      rw [join_esc]
      k_steps
      rename Fr _ _ _ _ => F6
      rename News _ _ _ _ => N6
      refine InvEndN.intro (nx := [(dla, ola), (dli, oli), (dot, oot), (dso, oso), (s.heap.objs.size + 1, _)]) F6 N6 ⟨_, _, _, _, dcell, rfl, map_ext [Str.ofString "layer", Str.ofString "last", Str.ofString "lines", Str.ofString "some", Str.ofString "others", Str.ofString "text", Str.ofString "layers"]
        (by simp only [List.forall_mem_cons]; exact ⟨rfl, rfl, rfl, rfl, rfl, congrArg (fun z => some (Value.str z _)) (step2 y), rfl, List.forall_mem_nil _⟩)
        (by intro y hy; simp only [List.mem_cons, List.not_mem_nil, or_false, not_or] at hy; simp [hy])⟩ rfl ?_ ?_
      · intro p hp
        simp only [List.mem_cons, List.not_mem_nil, or_false] at hp
        rcases hp with h | h | h | h | h <;> simp [h]
      · intro p hp
        repeat (first | exact hp | apply List.mem_cons_of_mem)
    · k_steps
      refine Stop.off ?_
      rename Fr _ _ _ _ => F4
      rename News _ _ _ _ => N4
      rename Obj.data _ = Data.cell (some _) => dcell
      refine' table_comp (k := 3) rfl F4 N4 ?k1 dcell ?k2 ?k3 ?k4 dat3 rfl hlen ?_ rfl rfl rfl ?c1 rfl ?c2 rfl (fun _ => rfl) (fun _ => rfl) (fun _ => rfl) (fun _ => rfl) (fun _ => rfl)
      (case k1 => k_mem)
      (case k2 => k_mem)
      (case k3 => assumption)
      (case k4 => assumption)
      (case c1 => decide)
      (case c2 => decide)
      intro D ys h' tk nD hD hoD hst F5 N5
      clear F4 N4 hD
      have hsum := escSigns_sum 3 y
      have hesc := esc_len 3 y
      k_steps
      refine join_list (ys := escSigns 3 y) (News.isList N5 (by k_mem)) (by exact hst) (by show _ + _ * 0 ≤ 16777216; omega) ?_
      intro tj kj
      rw [join_esc]
      k_steps
      rename Fr _ _ _ _ => F6
      rename News _ _ _ _ => N6
      refine InvEndN.intro (nx := [(dla, ola), (dli, oli), (dot, oot), (dso, oso), (s.heap.objs.size + 1, _)]) F6 N6 ⟨_, _, _, _, dcell, rfl, map_ext [Str.ofString "layer", Str.ofString "last", Str.ofString "lines", Str.ofString "some", Str.ofString "others", Str.ofString "text", Str.ofString "layers"]
        (by simp only [List.forall_mem_cons]; exact ⟨rfl, rfl, rfl, rfl, rfl, congrArg (fun z => some (Value.str z _)) (step3 y), rfl, List.forall_mem_nil _⟩)
        (by intro y hy; simp only [List.mem_cons, List.not_mem_nil, or_false, not_or] at hy; simp [hy])⟩ rfl ?_ ?_
      · intro p hp
        simp only [List.mem_cons, List.not_mem_nil, or_false] at hp
        rcases hp with h | h | h | h | h <;> simp [h]
      · intro p hp
        repeat (first | exact hp | apply List.mem_cons_of_mem)
    · k_steps
      refine Stop.off ?_
      rename Fr _ _ _ _ => F4
      rename News _ _ _ _ => N4
      rename Obj.data _ = Data.cell (some _) => dcell
      refine' table_comp (k := 4) rfl F4 N4 ?k1 dcell ?k2 ?k3 ?k4 dat4 rfl hlen ?_ rfl rfl rfl ?c1 rfl ?c2 rfl (fun _ => rfl) (fun _ => rfl) (fun _ => rfl) (fun _ => rfl) (fun _ => rfl)
      (case k1 => k_mem)
      (case k2 => k_mem)
      (case k3 => assumption)
      (case k4 => assumption)
      (case c1 => decide)
      (case c2 => decide)
      intro D ys h' tk nD hD hoD hst F5 N5
      clear F4 N4 hD
      have hsum := escSigns_sum 4 y
      have hesc := esc_len 4 y
      k_steps
      refine join_list (ys := escSigns 4 y) (News.isList N5 (by k_mem)) (by exact hst) (by show _ + _ * 0 ≤ 16777216; omega) ?_
      intro tj kj
      rw [join_esc]
      k_steps
      rename Fr _ _ _ _ => F6
      rename News _ _ _ _ => N6
      refine InvEndN.intro (nx := [(dla, ola), (dli, oli), (dot, oot), (dso, oso), (s.heap.objs.size + 1, _)]) F6 N6 ⟨_, _, _, _, dcell, rfl, map_ext [Str.ofString "layer", Str.ofString "last", Str.ofString "lines", Str.ofString "some", Str.ofString "others", Str.ofString "text", Str.ofString "layers"]
        (by simp only [List.forall_mem_cons]; exact ⟨rfl, rfl, rfl, rfl, rfl, congrArg (fun z => some (Value.str z _)) (step4 y), rfl, List.forall_mem_nil _⟩)
        (by intro y hy; simp only [List.mem_cons, List.not_mem_nil, or_false, not_or] at hy; simp [hy])⟩ rfl ?_ ?_
      · intro p hp
        simp only [List.mem_cons, List.not_mem_nil, or_false] at hp
        rcases hp with h | h | h | h | h <;> simp [h]
      · intro p hp
        repeat (first | exact hp | apply List.mem_cons_of_mem)
    · k_steps
      refine Stop.off ?_
      rename Fr _ _ _ _ => F4
      rename News _ _ _ _ => N4
      rename Obj.data _ = Data.cell (some _) => dcell
      refine' table_comp (k := 5) rfl F4 N4 ?k1 dcell ?k2 ?k3 ?k4 dat5 rfl hlen ?_ rfl rfl rfl ?c1 rfl ?c2 rfl (fun _ => rfl) (fun _ => rfl) (fun _ => rfl) (fun _ => rfl) (fun _ => rfl)
      (case k1 => k_mem)
      (case k2 => k_mem)
      (case k3 => assumption)
      (case k4 => assumption)
      (case c1 => decide)
      (case c2 => decide)
      intro D ys h' tk nD hD hoD hst F5 N5
      clear F4 N4 hD
      have hsum := escSigns_sum 5 y
      have hesc := esc_len 5 y
      k_steps
      refine join_list (ys := escSigns 5 y) (News.isList N5 (by k_mem)) (by exact hst) (by show _ + _ * 0 ≤ 16777216; omega) ?_
      intro tj kj
      rw [join_esc]
      k_steps
      rename Fr _ _ _ _ => F6
      rename News _ _ _ _ => N6
      refine InvEndN.intro (nx := [(dla, ola), (dli, oli), (dot, oot), (dso, oso), (s.heap.objs.size + 1, _)]) F6 N6 ⟨_, _, _, _, dcell, rfl, map_ext [Str.ofString "layer", Str.ofString "last", Str.ofString "lines", Str.ofString "some", Str.ofString "others", Str.ofString "text", Str.ofString "layers"]
        (by simp only [List.forall_mem_cons]; exact ⟨rfl, rfl, rfl, rfl, rfl, congrArg (fun z => some (Value.str z _)) (step5 y), rfl, List.forall_mem_nil _⟩)
        (by intro y hy; simp only [List.mem_cons, List.not_mem_nil, or_false, not_or] at hy; simp [hy])⟩ rfl ?_ ?_
      · intro p hp
        simp only [List.mem_cons, List.not_mem_nil, or_false] at hp
        rcases hp with h | h | h | h | h <;> simp [h]
      · intro p hp
        repeat (first | exact hp | apply List.mem_cons_of_mem)
    · k_steps
      refine Stop.off ?_
      rename Fr _ _ _ _ => F4
      rename News _ _ _ _ => N4
      rename Obj.data _ = Data.cell (some _) => dcell
      refine' table_comp (k := 6) rfl F4 N4 ?k1 dcell ?k2 ?k3 ?k4 dat6 rfl hlen ?_ rfl rfl rfl ?c1 rfl ?c2 rfl (fun _ => rfl) (fun _ => rfl) (fun _ => rfl) (fun _ => rfl) (fun _ => rfl)
      (case k1 => k_mem)
      (case k2 => k_mem)
      (case k3 => assumption)
      (case k4 => assumption)
      (case c1 => decide)
      (case c2 => decide)
      intro D ys h' tk nD hD hoD hst F5 N5
      clear F4 N4 hD
      have hsum := escSigns_sum 6 y
      have hesc := esc_len 6 y
      k_steps
      refine join_list (ys := escSigns 6 y) (News.isList N5 (by k_mem)) (by exact hst) (by show _ + _ * 0 ≤ 16777216; omega) ?_
      intro tj kj
      rw [join_esc]
      k_steps
      rename Fr _ _ _ _ => F6
      rename News _ _ _ _ => N6
      refine InvEndN.intro (nx := [(dla, ola), (dli, oli), (dot, oot), (dso, oso), (s.heap.objs.size + 1, _)]) F6 N6 ⟨_, _, _, _, dcell, rfl, map_ext [Str.ofString "layer", Str.ofString "last", Str.ofString "lines", Str.ofString "some", Str.ofString "others", Str.ofString "text", Str.ofString "layers"]
        (by simp only [List.forall_mem_cons]; exact ⟨rfl, rfl, rfl, rfl, rfl, congrArg (fun z => some (Value.str z _)) (step6 y), rfl, List.forall_mem_nil _⟩)
        (by intro y hy; simp only [List.mem_cons, List.not_mem_nil, or_false, not_or] at hy; simp [hy])⟩ rfl ?_ ?_
      · intro p hp
        simp only [List.mem_cons, List.not_mem_nil, or_false] at hp
        rcases hp with h | h | h | h | h <;> simp [h]
      · intro p hp
        repeat (first | exact hp | apply List.mem_cons_of_mem)
  · rintro m₁ nx h tk ⟨t1, u, v, oc1, dc1, rfl, rfl⟩ F3 N3
    rw [show (toI ls).length = ls.length from List.length_map .., List.take_length] at F3
    k_steps
    exact hret _ _ _ F3.keep
end Mine
end
section
open PySem PySem.W PyProof.Rows PySem.Calls PySem.Spec PyProof.V
namespace Mine
set_option maxRecDepth 100000
set_option maxHeartbeats 1000000

/-- as enterC, with one object of the caller's kept in the ledger -/
theorem enterCH {w : World} {A : Around} {s : Shared} {hb : Heap} {mean : ExcName → Option Value} {mg mb : Str → Option Value} {Q E : Value → Shared → Prop} {name qual : Str} {params : Arguments} {body : List Stmt} {scope : Scope} {dV kV doc pm cdv ct oc : Value} {an od : Option Addr} {osl : Array (Option Value)} {f l : Addr} {ol : Obj} {args : List Value} {binds : List (Str × Value)}
    (X : (hd.heap_39 w.params).In hb) (T : TT mean mg mb hb) (hext : Ext hb s.heap) (hlb : hb.get? l = none) (hol : s.heap.get? l = some ol)
    (ho : (hd.heap_39 w.params).lookup f = some ⟨oc, od, .func (fnOf name qual params body scope dV kV doc pm an cdv ct), osl⟩) (hcd : codeIn (hd.heap_39 w.params) cdv qual = true) (hroom : A.depth < recursionLimit)
    (hbind : BindsTo s (fnOf name qual params body scope dV kV doc pm an cdv ct) ⟨args, []⟩ binds)
    (hkind : (binds.all fun y => scope.names.lookup y.1 == some .local || scope.names.lookup y.1 == some .cell) = true)
    (hnd : ((cellsFrom 0 scope.names []).map (·.1)).Nodup)
    (h : ∀ g h₁ tk cells, (∀ h', Ext g h' → h'.get? l = some ol → Ext s.heap h') → (∀ b o, s.heap.get? b = some o → b ≠ l → g.get? b = some o) → g.objs.size = s.heap.objs.size → Fr g s.heap.objs.size h₁ (bindL (envOfC qual scope s.heap.objs.size f cdv).kindOf binds fun _ => none) → News g s.heap.objs.size h₁ (cells ++ [(l, ol)]) →
      CellsAre (bindC (envOfC qual scope s.heap.objs.size f cdv).kindOf binds fun _ => none) (cellsFrom (s.heap.objs.size + 1) scope.names []) cells → (hd.heap_39 w.params).In g → TT mean mg mb g →
      wpAny (model PR w) (A.deeper (envOfC qual scope s.heap.objs.size f cdv)) (execs body (envOfC qual scope s.heap.objs.size f cdv))
        (fun fl s' => Q (match fl with | .ret v => v | _ => .none) s')
        (fun e s' => wpAny (model PR w) (A.deeper (envOfC qual scope s.heap.objs.size f cdv)) (leaving (envOfC qual scope s.heap.objs.size f cdv) e) (fun _ s'' => E e s'') (fun e' s'' => E e' s'') s')
        { s with heap := h₁, toks := tk })
    (hco : scope.isCoroutine = false) (hgen : scope.isGenerator = false) (hk : scope.kind = .function) : wpAny (model PR w) A (call (.ref f) args) Q E s := by
  have st : hb.StaysIn (hideAll s.heap [l]) := fun b o e => hideAll_get _ (hext b o e) (fun hm => by rw [List.mem_singleton.mp hm, hlb] at e; cases e)
  refine wpAny_call ?_
  refine codeAny_call_function (fd := fnX name qual params body scope [] dV kV doc pm an cdv ct) hroom (X.keeps hext _ _ ho) rfl hco hgen rfl (codeRec_of (X.keeps hext) hcd) (hbind _ _ _ _ ?_)
  refine wpAny_newFunctionEnv_cells hk (kindsX hkind _) fun env' he s' x => ?_
  subst he
  refine ⟨(T.nolimit.keeps hext).keeps x.toInCall.keep, codeAny_func ?_⟩
  obtain ⟨h₁, tk, rfl, _⟩ := x.done
  have hk₁ := x.toInCall.keep
  obtain ⟨cells, NC, Y⟩ := Cl.news (h₀ := s.heap) (Nat.le_refl _) fun n c hm => ⟨x.cell n c (lookup_of_mem_nodup (cellsFrom_names scope.names 0 (s.heap.objs.size + 1) [] [] rfl ▸ hnd) hm), x.above n c hm⟩
  refine h (hideAll s.heap [l]) h₁ tk cells (fun h' e hl' b o q => ?_) (fun b o q hbl => hideAll_get _ q (fun hm => hbl (List.mem_singleton.mp hm))) (hideAll_size _ _) ⟨x.toInCall.ns, fun b o e => hk₁ b o (of_hideAll _ e), Nat.le_of_eq (hideAll_size _ _)⟩ (fun p hp => ?_) Y (X.keeps st) (T.keeps st)
  · by_cases hbl : b = l
    · subst hbl; rw [hol] at q; cases q; exact hl'
    · exact e b o (hideAll_get _ q (fun hm => hbl (List.mem_singleton.mp hm)))
  · rcases List.mem_append.mp hp with hp | hp
    · refine ⟨(NC p hp).1, (NC p hp).2.1, ?_⟩
      cases q : (hideAll s.heap [l]).get? p.1 with
      | none => rfl
      | some o => have := of_hideAll _ q; rw [(NC p hp).2.2] at this; cases this
    · rw [List.mem_singleton.mp hp]
      exact ⟨hk₁ _ _ hol, Nat.ne_of_lt (Heap.lt_size hol), hideAll_none _ (List.mem_singleton.mpr rfl)⟩

theorem paired_ints_filter {val : Nat → Value → Prop} {p : Nat → Bool} {pv : Value → Bool} {F : Value → Value → Prop} (hp : ∀ (i : Nat) (t : Tok), pv (Value.int (i : Int) t) = p i) (hF : ∀ (i : Nat) (t : Tok) (y : Value), F (Value.int (i : Int) t) y → val i y) :
    ∀ (ns : List Nat) (vs ys : List Value), IntsAre vs (toI ns) → Paired F (vs.filter pv) ys → Paired val (ns.filter p) ys
  | [], vs, ys, hi, h => by
    cases hi; cases h; exact .nil
  | n :: ns, vs, ys, hi, h => by
    cases hi with
    | cons t v r =>
      simp only [List.filter_cons] at h ⊢
      rw [hp n] at h
      cases hpn : p n with
      | true =>
        rw [hpn] at h
        simp only [if_true] at h ⊢
        cases h with
        | cons h1 h2 => exact .cons (hF _ _ _ h1) (paired_ints_filter hp hF ns _ _ r h2)
      | false =>
        rw [hpn] at h
        simp only [Bool.false_eq_true, if_false] at h ⊢
        exact paired_ints_filter hp hF ns _ _ r h

theorem intsAre_mem : ∀ (ns : List Nat) (vs : List Value), IntsAre vs (toI ns) → ∀ v ∈ vs, ∃ n ∈ ns, ∃ t, v = Value.int (n : Int) t
  | [], vs, hi, v, hv => by cases hi; cases hv
  | n :: ns, vs, hi, v, hv => by
    cases hi with
    | cons _ t r =>
      rcases List.mem_cons.mp hv with rfl | hv
      · exact ⟨n, List.mem_cons_self .., _, rfl⟩
      · obtain ⟨m, hm, e⟩ := intsAre_mem ns _ r v hv
        exact ⟨m, List.mem_cons_of_mem _ hm, e⟩

section
variable {w : World} {A : Around} {E : Value → Shared → Prop} {s : Shared} {env : Env}
/-- [elt for x in a list of small ints if ..] -/
theorem ListComp_ints {elt iter : Expr} {x : Str} {px : Pos} {ifs : List Expr} {scope : Scope} {cl : List (Str × Addr)} {pos : Pos} {Q : Value → Shared → Prop} (p : Nat → Bool) (val : Nat → Value → Prop)
    (hh : A.handled = none) (hclos : closureFor scope env = pure cl) (hcell : ∀ y ∈ scope.names, y.2 ≠ .cell) (hkind : scope.kind = .function)
    (hnames : ∀ y ∈ scope.names, y.2 = .local → scope.names.lookup y.1 = some .local) (hx : scope.names.lookup x = some .local)
    (h : wpAny (model PR w) A (eval iter env) (fun xv s₁ => Stop (∃ ax vs ns, xv = .ref ax ∧ s₁.heap.IsList ax vs.toArray ∧ IntsAre vs (toI ns) ∧ ns.length ≤ sizeLine ∧
      (∀ C (n : Nat) t s₂ m₂ E', s₁.heap.objs.size ≤ C → n ∈ ns → s₂.heap.Ns C m₂ → m₂ x = some (.int (n : Int) t) → Ext s₁.heap s₂.heap →
        wpAny (model PR w) A (forIn ifs true fun c r => if r = true then do let ok ← isTrue c (compEnvC scope cl C env) (eval c (compEnvC scope cl C env)); pure (ForInStep.yield ok) else pure (ForInStep.yield r))
          (fun ok s₃ => ok = p n ∧ Keeps s₂ s₃) E' s₂) ∧
      (∀ C (n : Nat) t s₂ m₂ E', s₁.heap.objs.size ≤ C → n ∈ ns → p n = true → s₂.heap.Ns C m₂ → m₂ x = some (.int (n : Int) t) → Ext s₁.heap s₂.heap →
        wpAny (model PR w) A (eval elt (compEnvC scope cl C env)) (fun y s₃ => val n y ∧ Keeps s₂ s₃) E' s₂) ∧
      (∀ D (ys : List Value) h' tk, s₁.heap.get? D = none → h'.PlainList D ys.toArray → Paired val (ns.filter p) ys → Ext s₁.heap h' → Q (.ref D) { s₁ with heap := h', toks := tk }))) E s)
    (hs : ∀ x, foldedSetIterable iter env x = pure x) :
    wpAny (model PR w) A (eval (.ListComp elt [⟨.Name x px, iter, ifs, 0⟩] scope pos) env) Q E s := by
  let pv : Value → Bool := fun v => match v with | Value.int i _ => p i.toNat | _ => false
  refine wpAny_ListComp_free pv (fun v y => ∀ (i : Nat) t, v = Value.int (i : Int) t → val i y) hclos hcell hkind hnames hx (wpAny_mono h (fun xv s₁ h₁ => ?_) fun _ _ e => e) hs
  obtain ⟨ax, vs, ns, rfl, hl, hi, hsz, ht, he, hQ⟩ := h₁
  have hlt : ax < s₁.heap.objs.size := by obtain ⟨_, e, _⟩ := hl; exact Heap.lt_size e
  have hlen : vs.length = ns.length := by rw [hi.length, List.length_map]
  have up : ∀ (h₃ : Heap), (∀ b o, b ∉ [s₁.heap.objs.size] → (s₁.heap.push { cls := .type "list_iterator", data := .fields #[.ref ax, .int 0 0] }).get? b = some o → h₃.get? b = some o) → Ext s₁.heap h₃ :=
    fun h₃ hk b o e => hk b o (fun hm => by rcases List.mem_cons.mp hm with rfl | hm; exact Nat.lt_irrefl _ (Heap.lt_size e); cases hm) (Heap.get?_push_of_some _ e)
  refine wpAny_pyIter_list hl ⟨s₁.heap.objs.size, [s₁.heap.objs.size, ax], [s₁.heap.objs.size], vs.toArray.size, _, _, rfl, Walks.list hh _ _ (Nat.ne_of_lt hlt) vs.toArray, (by rw [List.size_toArray, hlen]; exact hsz), ⟨⟨_, Heap.get?_push_size _ rfl, rfl, rfl⟩, hl.push _⟩, ?_, ⟨?_, ?_⟩, ?_⟩
  · intro b hb
    show b < (s₁.heap.push _).objs.size
    rw [Heap.size_push]
    rcases List.mem_cons.mp hb with rfl | hb
    · exact Nat.lt_succ_self _
    · rcases List.mem_cons.mp hb with rfl | hb
      · exact Nat.lt_succ_of_lt hlt
      · cases hb
  · intro C i v s₃ m₃ E' hC hP hns hm hk _
    obtain ⟨n, hmem, t, rfl⟩ := intsAre_mem ns vs hi v (by simpa using Array.mem_of_getElem? hP)
    exact ht C n t s₃ m₃ E' (Nat.le_of_succ_le (by simpa [Heap.size_push] using hC)) hmem hns hm (up _ hk)
  · intro C i v s₃ m₃ E' hC hP hpv hns hm hk _
    obtain ⟨n, hmem, t, rfl⟩ := intsAre_mem ns vs hi v (by simpa using Array.mem_of_getElem? hP)
    refine wpAny_mono (he C n t s₃ m₃ E' (Nat.le_of_succ_le (by simpa [Heap.size_push] using hC)) hmem hpv hns hm (up _ hk)) (fun y s₄ h₄ => ⟨?_, h₄.2⟩) fun _ _ e => e
    intro j t' ej
    have : (n : Int) = (j : Int) := by injection ej
    have e2 : n = j := by omega
    rw [← e2]; exact h₄.1
  · intro D h' tk ys vs' hD hl' hpl hlen' hP hF hk
    have e : vs' = vs := by simpa using list_of_places hlen' hP
    subst e
    have hD' : s₁.heap.get? D = none := by
      cases e : s₁.heap.get? D with
      | none => rfl
      | some o => rw [Heap.get?_push_of_some _ e] at hD; cases hD
    have h1 := paired_ints_filter (val := val) (p := p) (pv := pv) (F := fun v y => ∀ (i : Nat) t, v = Value.int (i : Int) t → val i y) (fun i t => rfl) (fun i t y q => q i t rfl) ns vs' ys.toList hi hF
    exact hQ D ys.toList h' tk hD' (by rw [Array.toArray_toList]; exact hpl) h1 (up _ hk)

theorem one_test {M : Model} {c : Expr} {Q : Bool → Shared → Prop} (h : wpAny M A (isTrue c env (eval c env)) Q E s) :
    wpAny M A (forIn [c] true fun c r => if r = true then do let ok ← isTrue c env (eval c env); pure (ForInStep.yield ok) else pure (ForInStep.yield r)) Q E s := by
  rw [List.forIn_cons]
  simp only [if_true]
  refine wpAny_bind (wpAny_bind (wpAny_mono h (fun ok s' q => wpAny_pure ?_) fun _ _ e => e))
  exact wpAny_pure q

/-- L in [c1, c2] -/
theorem test_in2 {L : Expr} {n c1 c2 : Int} {t : Tok} {k1 k2 : Nat} {p1 p2 p3 p4 : Pos} {whole : Sem Value} {Q : Bool → Shared → Prop}
    (hL : ∀ Q', Q' (Value.int n t) s → wpAny (model PR w) A (eval L env) Q' E s)
    (h : ∀ h' tk, Ext s.heap h' → Q ([c1, c2].any (· == n)) { s with heap := h', toks := tk })
    (he : starEach [.Constant (.int c1) k1 p1, .Constant (.int c2) k2 p2] env = (false, eval (.Constant (.int c1) k1 p1) env) :: starEach [.Constant (.int c2) k2 p2] env)
    (he2 : starEach [.Constant (.int c2) k2 p2] env = (false, eval (.Constant (.int c2) k2 p2) env) :: starEach [] env) :
    wpAny (model PR w) A (isTrue (.Compare L [.In] [.List [.Constant (.int c1) k1 p1, .Constant (.int c2) k2 p2] p3] p4) env whole) Q E s := by
  refine wpAny_isTrue_Compare1 (hL _ (List_ (spliced_more (wpAny_Constant_int (spliced_more (wpAny_Constant_int (spliced_none ?_)) he2)) he)))
  refine wpAny_newObj_type ?_ (by show 2 ≤ sizeLine; rw [sizeLine_eq]; omega)
  refine in_list_ints (vs := [.int c1 _, .int c2 _]) (ns := [c1, c2]) ⟨_, Heap.get?_push_size _ rfl, rfl, _, rfl⟩ (.cons _ _ (.cons _ _ .nil)) (wpAny_truthy_bool ?_)
  exact h _ _ (fun b o e => Heap.get?_push_of_some _ e)
theorem test_in3 {L : Expr} {n c1 c2 c3 : Int} {t : Tok} {k1 k2 k3 : Nat} {p1 p2 p3 p4 p5 : Pos} {whole : Sem Value} {Q : Bool → Shared → Prop}
    (hL : ∀ Q', Q' (Value.int n t) s → wpAny (model PR w) A (eval L env) Q' E s)
    (h : ∀ h' tk, Ext s.heap h' → Q ([c1, c2, c3].any (· == n)) { s with heap := h', toks := tk })
    (he : starEach [.Constant (.int c1) k1 p1, .Constant (.int c2) k2 p2, .Constant (.int c3) k3 p5] env = (false, eval (.Constant (.int c1) k1 p1) env) :: starEach [.Constant (.int c2) k2 p2, .Constant (.int c3) k3 p5] env)
    (he2 : starEach [.Constant (.int c2) k2 p2, .Constant (.int c3) k3 p5] env = (false, eval (.Constant (.int c2) k2 p2) env) :: starEach [.Constant (.int c3) k3 p5] env)
    (he3 : starEach [.Constant (.int c3) k3 p5] env = (false, eval (.Constant (.int c3) k3 p5) env) :: starEach [] env) :
    wpAny (model PR w) A (isTrue (.Compare L [.In] [.List [.Constant (.int c1) k1 p1, .Constant (.int c2) k2 p2, .Constant (.int c3) k3 p5] p3] p4) env whole) Q E s := by
  refine wpAny_isTrue_Compare1 (hL _ (List_ (spliced_more (wpAny_Constant_int (spliced_more (wpAny_Constant_int (spliced_more (wpAny_Constant_int (spliced_none ?_)) he3)) he2)) he)))
  refine wpAny_newObj_type ?_ (by show 3 ≤ sizeLine; rw [sizeLine_eq]; omega)
  refine in_list_ints (vs := [.int c1 _, .int c2 _, .int c3 _]) (ns := [c1, c2, c3]) ⟨_, Heap.get?_push_size _ rfl, rfl, _, rfl⟩ (.cons _ _ (.cons _ _ (.cons _ _ .nil))) (wpAny_truthy_bool ?_)
  exact h _ _ (fun b o e => Heap.get?_push_of_some _ e)
end
end Mine
end
section
open PySem PySem.W PyProof.Rows PySem.Calls PySem.Spec
namespace Mine
set_option maxRecDepth 100000
set_option maxHeartbeats 8000000
local macro_rules | `(tactic| walk_at "eval ListComp") => `(tactic| refine Stop.on ?_)
local macro_rules | `(tactic| walk_at "exec While Compare cons nil") => `(tactic| refine Stop.on ?_)
local macro_rules | `(tactic| walk_at "compareOp NotEq ref ref") => `(tactic| refine Stop.on ?_)
local macro_rules | `(tactic| walk_at "subscriptTail Name Slice ref ref") => `(tactic| refine Stop.on ?_)
local macro_rules | `(tactic| walk_at "call ref") => `(tactic| refine Stop.on ?_)
theorem intsAre_at : ∀ {ns : List Nat} {vs : List Value} {i : Nat}, IntsAre vs (toI ns) → i < ns.length → ∃ t, vs[i]? = some (Value.int (ns.getD i 0 : Int) t)
  | [], _, i, _, h => absurd h (Nat.not_lt_zero i)
  | n :: ns, _, 0, hi, _ => by
    cases hi with
    | cons _ t r => exact ⟨_, rfl⟩
  | n :: ns, _, i + 1, hi, h => by
    cases hi with
    | cons _ t r =>
      obtain ⟨t', e⟩ := intsAre_at (i := i) r (Nat.lt_of_succ_lt_succ h)
      exact ⟨t', by simpa using e⟩
theorem intsAre_last {ls : List Nat} {vs : List Value} (hi : IntsAre vs (toI (places ls))) (h : places ls ≠ []) : ∃ t, vs[vs.length - 1]? = some (Value.int (placeOf ls : Int) t) := by
  have h1 : vs.length = (places ls).length := by rw [hi.length, toI, List.length_map]
  have h2 : 0 < (places ls).length := List.length_pos_iff.mpr h
  obtain ⟨t, e⟩ := intsAre_at (i := (places ls).length - 1) hi (by omega)
  refine ⟨t, ?_⟩
  rw [h1, e]
  unfold placeOf
  rw [List.getLastD_eq_getLast?, List.getLast?_eq_getElem?, List.getD_eq_getElem?_getD]
theorem intsAre_app : ∀ {as bs : List Value} {ns ms : List Nat}, IntsAre as (toI ns) → IntsAre bs (toI ms) → IntsAre (as ++ bs) (toI (ns ++ ms))
  | _, _, [], _, h1, h2 => by cases h1; exact h2
  | _, _, n :: ns, _, h1, h2 => by
    cases h1 with
    | cons _ t r => exact .cons _ _ (intsAre_app r h2)
theorem toI_last {ls : List Nat} (h : places ls ≠ []) : (toI (places ls)).getD (-1 + ((toI (places ls)).length : Int)).toNat 0 = (placeOf ls : Int) := by
  have h2 : 0 < (places ls).length := List.length_pos_iff.mpr h
  have e : (-1 + ((toI (places ls)).length : Int)).toNat = (places ls).length - 1 := by rw [toI, List.length_map]; omega
  rw [e, toI, List.getD_eq_getElem?_getD, List.getElem?_map]
  unfold placeOf
  rw [List.getLastD_eq_getLast?, List.getLast?_eq_getElem?, List.getElem?_eq_getElem (by omega)]
  rfl
theorem due_spec {w : World} {mean : ExcName → Option Value} {mg mb : Str → Option Value} {A : Around} {s : Shared} {hb : Heap} {l : Addr} {vs : List Value} {n0 : Nat} {ls : List Nat} {x : Str} {t : Tok} {Q E : Value → Shared → Prop}
    (X : (hd.heap_39 w.params).In hb) (T : TT mean mg mb hb) (hext : Ext hb s.heap) (hlb : hb.get? l = none) (hh : A.handled = none) (hroom : A.depth + 3 < recursionLimit) (hu : A.units + 100 < cLine) (hx : x.length ≤ 3) (hls : ls.length ≤ 5) (h7 : ∀ n ∈ ls, n < 7)
    (hl : s.heap.get? l = some (W.listOf vs.toArray n0)) (hi : IntsAre vs (toI ls))
    (hret : ∀ a h' tk vr nr, Ext s.heap h' → s.heap.get? a = none → StrsAre vr (dueN (ls.length + 1) x ls) → h'.get? a = some (W.listOf vr.toArray nr) → Q (.ref a) { s with heap := h', toks := tk }) :
    wpAny (model PR w) A (call (.ref 112) [.str x t, .ref l]) Q E s := by
  obtain ⟨ah, dp, fr, gd, un⟩ := A
  dsimp only at hh hroom hu
  subst hh
  have hr0 : dp < recursionLimit := by omega
  refine' enterCH (binds := [(Str.ofString "text", .str x t), (Str.ofString "layers", .ref l)]) X T hext hlb hl ?k6 ?k7 hr0 ?k9 ?kB ?kD ?_ ?c2 ?c3 ?c4; (case k6 => k_is); (case k7 => k_is); (case k9 => exact BindsTo.of_eq rfl); (case kB => exact rfl); (case kD => decide +kernel); (case c2 => exact rfl); (case c3 => exact rfl); (case c4 => exact rfl)
  intro g h₁ tk0 cells hback hrev hsz F N Y X' T'
  clear X T
  change Fr g s.heap.objs.size h₁ (fun y => if y = Str.ofString "layers" then some (Value.ref l) else if y = Str.ofString "text" then some (Value.str x t) else none) at F
  k_cells Y
  (try simp only [List.cons_append, List.nil_append] at N)
  (try dsimp only); (try k_fold)
  k_steps
  refine Stop.off ?_
  rename_i _ _ at_ _ hlt1 _ _ hlt2 _ _ _ _ _ oc0 F1 N1 dc0
  have N2 : News g s.heap.objs.size _ [(at_, W.listOf #[] 0), (s.heap.objs.size + 1, oc0), (l, W.listOf vs.toArray n0), (l, W.listOf vs.toArray n0)] := fun p hp => N1 p (by simp only [List.mem_cons, List.mem_append, List.not_mem_nil, or_false] at hp ⊢; rcases hp with h | h | h | h <;> simp [h])
  clear N1
  have hla : l < s.heap.objs.size := Heap.lt_size hl
  have hnl : ∀ (h' : Heap) a ws k z tz, h'.get? a = some (W.listOf (List.toArray ws) k) → h'.get? l = some (W.listOf vs.toArray n0) → Value.str z tz ∈ ws → a ≠ l := by
    intro h' a ws k z tz e1 e2 hm e
    rw [e, e2] at e1
    have h1 : vs.toArray = ws.toArray := by injection e1 with e1; injection e1 with _ _ e1; injection e1
    have h2 : vs = ws := by simpa using h1
    obtain ⟨n, _, t', e'⟩ := intsAre_mem ls vs hi _ (h2 ▸ hm)
    cases e'
  have hfresh : ∀ a, g.get? a = none → a ≠ l → s.heap.get? a = none := fun a e e' => by
    cases q : s.heap.get? a with
    | none => rfl
    | some o => rw [hrev a o q e'] at e; cases e
  refine While_inv2 (n₀ := ls.length) (fun k m nw => ∃ (lsi : List Nat) (b : Addr) (vsi : List Value) (ni : Nat) (ts : List Str) (vt : List Value) (nt : Nat) (oc : Obj) (u : Option Value), k = lsi.length ∧ (∀ n ∈ lsi, n < 7) ∧ IntsAre vsi (toI lsi) ∧ StrsAre vt ts ∧ ts.length + lsi.length = ls.length ∧ dueN (ls.length + 1) x ls = ts ++ dueN (lsi.length + 1) x lsi ∧
    oc.data = .cell (some (.ref b)) ∧ b ≠ at_ ∧ b ≠ s.heap.objs.size + 1 ∧ nw = [(at_, W.listOf vt.toArray nt), (s.heap.objs.size + 1, oc), (b, W.listOf vsi.toArray ni), (l, W.listOf vs.toArray n0)] ∧
    m = fun y => if y = Str.ofString "place" then u else if y = Str.ofString "told" then some (Value.ref at_) else if y = Str.ofString "layers" then some (Value.ref l) else if y = Str.ofString "text" then some (Value.str x t) else none) F1 N2 ?_ ?_ ?_
  · exact ⟨ls, l, vs, n0, [], [], 0, oc0, none, rfl, h7, hi, .nil, Nat.zero_add _, rfl, dc0, neN (by omega), Nat.ne_of_lt (Nat.lt_succ_of_lt hla), rfl, map_ext [Str.ofString "place", Str.ofString "told", Str.ofString "layers", Str.ofString "text"]
      (by simp only [List.forall_mem_cons]; exact ⟨rfl, rfl, rfl, rfl, List.forall_mem_nil _⟩)
      (by intro y hy; simp only [List.mem_cons, List.not_mem_nil, or_false, not_or] at hy; simp [hy])⟩
  · rintro k m₁ nw h tk F2 N2 ⟨lsi, b, vsi, ni, ts, vt, nt, oc, u, rfl, h7i, hii, hvt, hlen, hdue, hoc, hba, hbc, rfl, rfl⟩
    k_steps
    refine Stop.off ?_
    refine ListComp_ints isR (fun n y => ∃ t', y = Value.int (n : Int) t') rfl rfl (by decide) rfl (by decide) rfl ?_ (by intro _; rfl)
    k_steps
    refine Stop.off ?_
    have hbl : h.IsList b vsi.toArray := ⟨_, (N2 _ (List.mem_cons_of_mem _ (List.mem_cons_of_mem _ (List.mem_cons_self ..)))).1, rfl, _, rfl⟩
    refine ⟨b, vsi, lsi, rfl, hbl, hii, by rw [sizeLine_eq]; omega, ?_, ?_, ?_⟩
    · intro C n t s₂ m₂ E' _ _ hns hm _
      refine one_test (test_in2 (fun Q' q => wpAny_Name (wpAny_loadName_local rfl rfl hns hm q)) ?_ rfl rfl)
      intro h' tk e
      exact ⟨rfl, _, _, rfl, e⟩
    · intro C n t s₂ m₂ E' _ _ _ hns hm _
      exact wpAny_Name (wpAny_loadName_local rfl rfl hns hm ⟨⟨_, rfl⟩, _, _, rfl, fun _ _ e => e⟩)
    · intro D ys h' tk hD hpl hpair hext
      obtain ⟨nD, hoD⟩ := hpl
      have hys := paired_ints (f := fun n : Nat => (n : Int)) hpair
      have hys' : IntsAre ys (toI (lsi.filter isR)) := hys
      have F3 := F2.keeps hext
      have N3 := news_add F2 (N2.grown hext) hD hoD
      clear F2 N2 hbl
      k_steps
      refine Stop.off ?_
      rename Fr _ _ _ _ => F4
      rename News _ _ _ _ => N4
      refine ne_intsK (ns := toI (lsi.filter isR)) (ms := []) (News.isList N4 (by k_mem)) hys' (us := []) (News.isList N4 (by k_mem)) .nil (by show un + 3 + 64 < cLine; omega) ?_
      have N5 : News g s.heap.objs.size _ [(at_, W.listOf vt.toArray nt), (s.heap.objs.size + 1, oc), (b, W.listOf vsi.toArray ni), (l, W.listOf vs.toArray n0)] := fun p hp => N4 p (List.mem_cons_of_mem _ (List.mem_cons_of_mem _ hp))
      clear N4
      refine wpAny_truthy_bool ?_
      by_cases hno : lsi.filter isR = []
      · rw [hno]
        simp only [List.map_nil, decide_true, Bool.not_true, Bool.false_eq_true, if_false]
        have hall : ∀ t1 t2, StrsAre (vt ++ [Value.str (Str.ofString "refused") t1, Value.str (spell x lsi) t2]) (dueN (ls.length + 1) x ls) := by
          intro t1 t2
          have h1 := strsAre_snoc (strsAre_snoc hvt refused t1) (spell x lsi) t2
          rw [List.append_assoc, List.append_assoc] at h1
          rw [hdue]
          show StrsAre _ (ts ++ (if _ then _ else _))
          rw [if_pos hno]
          exact h1
        k_steps
        refine Stop.off ?_
        refine spelled_spec (X'.keeps F4.keep) (T'.keeps F4.keep) rfl (by show dp + 1 + 2 < recursionLimit; omega) hx (by omega) h7i (News.isList N5 (by k_mem)) hii ?_
        intro t2 h2 tk2 e2
        have F6 := F4.keeps e2
        have N6 := N5.grown e2
        clear F4 N5
        have hvl := hvt.length
        k_steps
        rename Fr _ _ _ _ => F7
        rename News _ _ _ _ => N7
        have hal := N7 _ (List.mem_cons_self ..)
        refine hret _ _ _ _ _ (hback _ F7.keep (N7 (l, W.listOf vs.toArray n0) (by k_mem)).1) (hfresh _ hal.2.2 (hnl _ _ _ _ _ _ hal.1 (N7 (l, W.listOf vs.toArray n0) (by k_mem)).1 (by simp; exact Or.inr (Or.inl ⟨rfl, rfl⟩)))) (hall _ _) hal.1
      · have hne : (!decide (toI (lsi.filter isR) = [])) = true := by
          simp [toI, hno]
        rw [hne]
        simp only [if_true]
        have hvl : vsi.length = lsi.length := by rw [hii.length, toI, List.length_map]
        have hpl := placeOf_lt hno
        have hpm := placeOf_mem hno
        have hpn := places_ne hno
        k_steps
        refine Stop.off ?_
        refine ListComp_range (fun k => isR (lsi.getD k 0)) (fun i y => ∃ t', y = Value.int (i : Int) t') rfl rfl (by decide) rfl (by decide) rfl ?_ (by intro _; rfl)
        k_steps
        refine Stop.off ?_
        rename Fr _ _ _ _ => F5
        rename News _ _ _ _ => N6
        rename IsRange _ _ _ _ _ _ _ _ => hr6
        have hcl := (N6 (s.heap.objs.size + 1, oc) (by k_mem)).1
        have hbl := (N6 (b, W.listOf vsi.toArray ni) (by k_mem)).1
        refine ⟨_, _, _, _, _, lsi.length, rfl, hr6, range_small (by simp) (by simp; omega), range_size (by simp), by rw [sizeLine_eq]; omega, ?_, ?_, ?_⟩
        · intro C i t s₂ m₂ E' _ hi hns hm hext
          obtain ⟨tv, hv⟩ : ∃ t', vsi[i]? = some (Value.int (lsi.getD i 0 : Int) t') := intsAre_at hii hi
          refine one_test (test_in2 (n := (lsi.getD i 0 : Int)) (t := tv) (fun Q' q => ?_) ?_ rfl rfl)
          · refine Subscript_ (wpAny_Name (wpAny_loadName_cell rfl rfl rfl ⟨_, hext _ _ hcl, hoc⟩ (wpAny_Name (wpAny_loadName_local rfl rfl hns hm ?_))))
            have hbl' : s₂.heap.IsList b vsi.toArray := ⟨_, hext _ _ hbl, rfl, _, rfl⟩
            exact tail_any hbl'.typeIs slot_list_getitem.lookup (wpAny_getItem_list hbl' (by omega) (by omega) (by simpa using hv) q) (by with_unfolding_all rfl)
          · intro h' tk e
            exact ⟨rfl, _, _, rfl, e⟩
        · intro C i t s₂ m₂ E' _ _ _ hns hm _
          exact wpAny_Name (wpAny_loadName_local rfl rfl hns hm ⟨⟨_, rfl⟩, _, _, rfl, fun _ _ e => e⟩)
        · intro D2 ys2 h2 tk2 hD2 _ hpl2 hpair2 hext2
          obtain ⟨nD2, hoD2⟩ := hpl2
          have hys2 := paired_ints (f := fun n : Nat => (n : Int)) hpair2
          have hys2' : IntsAre ys2 (toI (places lsi)) := hys2
          have F6 := F5.keeps hext2
          have N7 := news_add F5 (N6.grown hext2) hD2 hoD2
          clear F5 N6 hcl hbl
          obtain ⟨tq, hlast⟩ : ∃ t', ys2[ys2.length - 1]? = some (Value.int (placeOf lsi : Int) t') := intsAre_last hys2' hpn
          have hyl : ys2.length = (places lsi).length := by rw [hys2'.length, toI, List.length_map]
          have hyl2 : 0 < (places lsi).length := List.length_pos_iff.mpr hpn
          have hpv : (toI (places lsi)).getD (-1 + ((toI (places lsi)).length : Int)).toNat 0 = (placeOf lsi : Int) := toI_last hpn
          k_steps
          rename Fr _ _ _ _ => F7
          rename News _ _ _ _ => N8
          rw [hpv] at F7
          clear hpv hlast hyl hyl2 hpair2 hys2 hpair hpn hpm hne hext2 hD2 hext hD hoD hoD2 hys
          have N9 : News g s.heap.objs.size _ [(at_, W.listOf vt.toArray nt), (s.heap.objs.size + 1, oc), (b, W.listOf vsi.toArray ni), (l, W.listOf vs.toArray n0)] := fun p hp => N8 p (List.mem_cons_of_mem _ hp)
          clear N8
          refine Stop.off ?_
          refine ListComp_ints isQ (fun n y => ∃ t', y = Value.int (n : Int) t') rfl rfl (by decide) rfl (by decide) rfl ?_ (by intro _; rfl)
          clear hr6 hys' hrev dc0 hlt2
          k_steps
          refine Stop.off ?_
          refine kmk_slice_ints F7 N9 (News.isList N9 (by k_mem)) (.int _ _) .none hii (kmk_from hii (by omega)) rfl ?_ (by with_unfolding_all rfl) (by kmk_pure) (by rw [sizeLine_eq]; simp; omega)
          intro D3 ws3 h3 F8 N10 _ hI3 _ _
          refine Stop.off ?_
          have hdr : (toI lsi).drop ((placeOf lsi : Int) + 1).toNat = toI (lsi.drop (placeOf lsi + 1)) := by
            rw [show ((placeOf lsi : Int) + 1).toNat = placeOf lsi + 1 by omega]; unfold toI; rw [List.map_drop]
          rw [hdr] at hI3
          refine ⟨D3, ws3, lsi.drop (placeOf lsi + 1), rfl, News.isList N10 (by k_mem), hI3, by rw [sizeLine_eq, List.length_drop]; omega, ?_, ?_, ?_⟩
          · intro C n t s₂ m₂ E' _ _ hns hm _
            refine one_test (test_in3 (fun Q' q => wpAny_Name (wpAny_loadName_local rfl rfl hns hm q)) ?_ rfl rfl rfl)
            intro h' tk e
            exact ⟨rfl, _, _, rfl, e⟩
          · intro C n t s₂ m₂ E' _ _ _ hns hm _
            exact wpAny_Name (wpAny_loadName_local rfl rfl hns hm ⟨⟨_, rfl⟩, _, _, rfl, fun _ _ e => e⟩)
          · intro D4 ys4 h4 tk4 hD4 hpl4 hpair4 hext4
            obtain ⟨nD4, hoD4⟩ := hpl4
            have hys4 := paired_ints (f := fun n : Nat => (n : Int)) hpair4
            have hys4' : IntsAre ys4 (toI ((lsi.drop (placeOf lsi + 1)).filter isQ)) := hys4
            have F9 := F8.keeps hext4
            have N11 : News g s.heap.objs.size _ [(at_, W.listOf vt.toArray nt), (s.heap.objs.size + 1, oc), (b, W.listOf vsi.toArray ni), (l, W.listOf vs.toArray n0)] := fun p hp => (N10.grown hext4) p (List.mem_cons_of_mem _ hp)
            have N12 := news_add F8 N11 hD4 hoD4
            clear F8 N11 N10 F7 N9 hpair4 hys4 hI3 hext4 hoD4 hD4
            k_steps
            refine Stop.off ?_
            rename Fr _ _ _ _ => F10
            rename News _ _ _ _ => N13
            refine ne_intsK (ns := toI ((lsi.drop (placeOf lsi + 1)).filter isQ)) (ms := []) (News.isList N13 (by k_mem)) hys4' (us := []) (News.isList N13 (by k_mem)) .nil (by show un + 3 + 64 < cLine; omega) ?_
            have N14 : News g s.heap.objs.size _ [(at_, W.listOf vt.toArray nt), (s.heap.objs.size + 1, oc), (b, W.listOf vsi.toArray ni), (l, W.listOf vs.toArray n0)] := fun p hp => N13 p (List.mem_cons_of_mem _ (List.mem_cons_of_mem _ hp))
            clear N13 hys4'
            refine wpAny_truthy_bool ?_
            have hdo : dueN (lsi.length + 1) x lsi = if (lsi.drop (placeOf lsi + 1)).filter isQ = [] then spell x (less lsi) :: dueN lsi.length x (less lsi) else [Str.ofString ""] := by
              show (if _ then _ else _) = _
              rw [if_neg hno]
            by_cases hq : (lsi.drop (placeOf lsi + 1)).filter isQ = []
            · rw [hq]
              rw [if_pos hq] at hdo
              simp only [toI, List.map_nil, decide_true, Bool.not_true, Bool.false_eq_true, if_false]
              k_steps
              refine Stop.off ?_
              refine kmk_slice_ints F10 N14 (News.isList N14 (by k_mem)) .none (.int _ _) hii (kmk_upto hii (by omega)) rfl ?_ (by with_unfolding_all rfl) (by kmk_pure) (by rw [sizeLine_eq]; simp; omega)
              intro D5 ws5 h5 F11 N15 hD5 hI5 _ _
              clear F10 N14
              have hI5' : IntsAre ws5 (toI (lsi.take (placeOf lsi))) := by
                have e : (toI lsi).take ((placeOf lsi : Int)).toNat = toI (lsi.take (placeOf lsi)) := by
                  rw [show ((placeOf lsi : Int)).toNat = placeOf lsi by omega]; unfold toI; rw [List.map_take]
                rw [← e]; exact hI5
              clear hI5
              k_steps
              refine Stop.off ?_
              rename Fr _ _ _ _ => F12
              rename News _ _ _ _ => N16
              refine kmk_slice_ints F12 N16 (News.isList N16 (by k_mem)) (.int _ _) .none hii (kmk_from hii (by omega)) rfl ?_ (by with_unfolding_all rfl) (by kmk_pure) (by rw [sizeLine_eq]; simp; omega)
              intro D6 ws6 h6 F13 N17 hD6 hI6 _ _
              clear F12 N16
              rw [hdr] at hI6
              have hlt5 : ws5.length ≤ 5 := by rw [hI5'.length, toI, List.length_map, List.length_take]; omega
              have hlt6 : ws6.length ≤ 5 := by rw [hI6.length, toI, List.length_map, List.length_drop]; omega
              have hI7 : IntsAre (ws5 ++ ws6) (toI (less lsi)) := intsAre_app hI5' hI6
              have hvtl := hvt.length
              k_steps
              rename Fr _ _ _ _ => F14
              rename News _ _ _ _ => N18
              rename IntsAre _ (toI (List.take (placeOf lsi) lsi) ++ toI (List.drop (placeOf lsi + 1) lsi)) => hI8
              rename_i D7 ws7 _ hD7
              have hI8' : IntsAre ws7 (toI (less lsi)) := by
                unfold less toI; rw [List.map_append]; exact hI8
              have N19 : News g s.heap.objs.size _ [(at_, W.listOf vt.toArray nt), (s.heap.objs.size + 1, oc), (D7, W.listOf ws7.toArray 0), (l, W.listOf vs.toArray n0)] := fun p hp => N18 p (by simp only [List.mem_cons, List.not_mem_nil, or_false] at hp ⊢; rcases hp with h | h | h | h <;> simp [h])
              clear N18
              refine storeX_C F14 N19 rfl (UpdF.tail (neN (by omega)) (UpdF.head (by simp only [List.forall_mem_cons]; exact ⟨neN (by omega), Nat.ne_of_lt (Nat.lt_succ_of_lt hla), List.forall_mem_nil _⟩))) hoc ?_ rfl rfl
              intro h8 oc8 F15 N20 doc8
              clear F14 N19 hI8 hI7 hI5' hI6
              (try dsimp only at N20)
              k_steps
              refine Stop.off ?_
              refine spelled_spec (X'.keeps F15.keep) (T'.keeps F15.keep) rfl (by show dp + 1 + 2 < recursionLimit; omega) hx (by have := less_length hno; omega) (fun n hn => h7i n (less_mem hn)) (News.isList N20 (by k_mem)) hI8' ?_
              intro t9 h9 tk9 e9
              have F16 := F15.keeps e9
              have N21 := N20.grown e9
              clear F15 N20
              have hll := less_length hno
              k_steps
              rename Fr _ _ _ _ => F17
              rename News _ _ _ _ => N22
              refine ⟨_, _, _, _, (less lsi).length, rfl, F17, N22, by omega, less lsi, D7, ws7, 0, ts ++ [spell x (less lsi)], vt ++ [Value.str (spell x (less lsi)) t9], nt + 1, oc8, _, rfl, fun n hn => h7i n (less_mem hn), hI8', strsAre_snoc hvt _ _, by rw [List.length_append]; show ts.length + 1 + _ = _; omega, ?_, doc8, neN (by omega), neN (by omega), ?_, map_ext [Str.ofString "place", Str.ofString "told", Str.ofString "layers", Str.ofString "text"]
                (by simp only [List.forall_mem_cons]; exact ⟨rfl, rfl, rfl, rfl, List.forall_mem_nil _⟩)
                (by intro y hy; simp only [List.mem_cons, List.not_mem_nil, or_false, not_or] at hy; simp [hy])⟩
              · rw [hdue, hdo, hll, List.append_assoc]; rfl
              · rw [List.push_toArray]
            · have hne : (!decide (toI ((lsi.drop (placeOf lsi + 1)).filter isQ) = [])) = true := by
                simp [toI, hq]
              rw [hne]
              rw [if_neg hq] at hdo
              simp only [if_true]
              have hall : ∀ t1, StrsAre (vt ++ [Value.str (Str.ofString "") t1]) (dueN (ls.length + 1) x ls) := by
                intro t1
                rw [hdue, hdo]
                exact strsAre_snoc hvt _ t1
              have hvtl := hvt.length
              k_steps
              rename Fr _ _ _ _ => F11
              rename News _ _ _ _ => N15
              have hal := N15 _ (List.mem_cons_self ..)
              refine hret _ _ _ _ _ (hback _ F11.keep (N15 (l, W.listOf vs.toArray n0) (by k_mem)).1) (hfresh _ hal.2.2 (hnl _ _ _ _ _ _ hal.1 (N15 (l, W.listOf vs.toArray n0) (by k_mem)).1 (by simp; exact Or.inr ⟨rfl, rfl⟩))) (hall _) hal.1
  · passes_own
end Mine
end
section
open PySem PySem.W PyProof.Rows PySem.Calls PySem.Spec
namespace Mine
set_option maxRecDepth 100000
set_option maxHeartbeats 1000000

/-- all kept, but for the slots of one object -/
def Kp (L : Addr) (h h' : Heap) : Prop := (∀ b o, b ≠ L → h.get? b = some o → h'.get? b = some o) ∧ ∀ o, h.get? L = some o → ∃ sl, h'.get? L = some { o with slots := sl }
theorem Kp.refl (L : Addr) (h : Heap) : Kp L h h := ⟨fun _ _ _ e => e, fun o e => ⟨o.slots, e⟩⟩
theorem Kp.trans {L : Addr} {h h' h'' : Heap} (a : Kp L h h') (b : Kp L h' h'') : Kp L h h'' :=
  ⟨fun c o hc e => b.1 c o hc (a.1 c o hc e), fun o e => by
    obtain ⟨sl, e1⟩ := a.2 o e
    obtain ⟨sl', e2⟩ := b.2 _ e1
    exact ⟨sl', e2⟩⟩
theorem Kp.of_ext {L : Addr} {h h' : Heap} (e : Ext h h') : Kp L h h' := ⟨fun b o _ q => e b o q, fun o q => ⟨o.slots, e _ _ q⟩⟩
theorem Kp.ns {L a : Addr} {h h' : Heap} {m : Str → Option Value} (k : Kp L h h') (n : h.Ns a m) : h'.Ns a m := by
  obtain ⟨o, es, ep, ho, hd, r⟩ := n
  by_cases e : a = L
  · subst e
    obtain ⟨sl, e1⟩ := k.2 o ho
    exact ⟨_, es, ep, e1, hd, r⟩
  · exact ⟨o, es, ep, k.1 a o e ho, hd, r⟩

theorem paired_mono {α β : Type} {F G : α → β → Prop} (h : ∀ a b, F a b → G a b) : ∀ {l : List α} {r : List β}, Paired F l r → Paired G l r
  | _, _, .nil => .nil
  | _, _, .cons h1 h2 => .cons (h _ _ h1) (paired_mono h h2)
theorem paired_len {α β : Type} {F : α → β → Prop} : ∀ {l : List α} {r : List β}, Paired F l r → l.length = r.length
  | _, _, .nil => rfl
  | _, _, .cons _ h2 => by rw [List.length_cons, List.length_cons, paired_len h2]

section
variable {w : World} {A : Around} {E : Value → Shared → Prop} {env : Env}

theorem lawBlock {elt target iter : PySem.Expr} {scope : Scope} {cl : List (Str × Addr)} {pos : Pos} {s₁ : Shared} {a L : Addr} {vs : List Value}
    (Bd : Value → (Str → Option Value) → Prop) (R : Value → Value → List (Addr × Obj) → Prop) {RR : Value → Addr → Result → Shared → Prop}
    (hh : A.handled = none) (hcell : ∀ y ∈ scope.names, y.2 ≠ .cell) (hkind : scope.kind = .function)
    (hl : s₁.heap.IsList a vs.toArray) (haL : a ≠ L) {oL : Obj} (hLo : s₁.heap.get? L = some oL) (hsz : vs.length ≤ sizeLine)
    (hown : ∀ I i v (s : Shared) (Q : Unit → Shared → Prop) E', v ∈ vs → s.heap.IsListIter I a i → Q () s → wpAny (model PR w) A (letOwnedTupleGo target (.ref I) v) Q E' s)
    (hasg : ∀ C v (s₃ : Shared) m₃ (Q' : Unit → Shared → Prop) E', v ∈ vs → Kp L s₁.heap s₃.heap → s₁.heap.objs.size ≤ C → s₃.heap.Ns C m₃ →
      (∀ h' tk m', h'.Ns C m' → (∀ b o, b ≠ C → s₃.heap.get? b = some o → h'.get? b = some o) → Bd v m' → Q' () { s₃ with heap := h', toks := tk }) → wpAny (model PR w) A (assign target (compEnvC scope cl C env) v) Q' E' s₃)
    (helt : ∀ C v h₃ tk₃ m₃ E', v ∈ vs → Kp L s₁.heap h₃ → s₁.heap.objs.size ≤ C → h₃.Ns C m₃ → Bd v m₃ →
      wpAny (model PR w) A (eval elt (compEnvC scope cl C env)) (fun y s₄ => ∃ h' tk objs, s₄ = { s₁ with heap := h', toks := tk } ∧ Kp L h₃ h' ∧ (∀ p ∈ objs, h₃.get? p.1 = none ∧ h'.get? p.1 = some p.2) ∧ R v y objs) E' { s₁ with heap := h₃, toks := tk₃ })
    (hRR : ∀ D C h' tk m' ys, s₁.heap.get? D = none → s₁.heap.get? C = none → D ≠ C → h'.Ns C m' → h'.PlainList D (List.toArray ys) →
      Paired (fun v y => ∃ objs, (∀ p ∈ objs, h'.get? p.1 = some p.2 ∧ p.1 ≠ C ∧ s₁.heap.get? p.1 = none) ∧ R v y objs) vs ys → Kp L s₁.heap h' → RR (.ref D) C (.ok .next) { s₁ with heap := h', toks := tk }) :
    wpAny (model PR w) A (pyIter (.ref a)) (fun it s₂ => wpAny (model PR w) A (newList []) (fun acc s₃ => wpAny (model PR w) A (newFunctionEnv scope env.globals cl [] env.qual none .none (some env)) (fun cenv s₄ =>
      codeAny (model PR w) A (.compStart (.ListComp elt [⟨target, iter, [], 0⟩] scope pos) 0 it acc { cenv with scope := relabel scope env }) (RR acc cenv.locals) s₄) E s₃) E s₂) E s₁ := by
  have hL : L < s₁.heap.objs.size := Heap.lt_size hLo
  have hlt : a < s₁.heap.objs.size := by obtain ⟨_, e, _⟩ := hl; exact Heap.lt_size e
  refine wpAny_pyIter_list hl ?_
  refine wpAny_newObj_type (wpAny_newFunctionEnv hcell (by intro y hy; simp at hy) (fun h₁ hns₁ hsb₁ => ?_) hkind)
  dsimp only at hns₁ hsb₁ ⊢
  generalize hH1 : s₁.heap.push { cls := .type "list_iterator", data := .fields #[.ref a, .int 0 0] } = H1 at hns₁ hsb₁ ⊢
  generalize hH2 : H1.push { cls := .type "list", dict := none, data := .seq ([] : List Value).toArray } = H2 at hns₁ hsb₁ ⊢
  have hD : H1.objs.size = s₁.heap.objs.size + 1 := by rw [← hH1, Heap.size_push]
  have hC : H2.objs.size = s₁.heap.objs.size + 2 := by rw [← hH2, Heap.size_push, hD]
  have hDC : H1.objs.size ≠ H2.objs.size := by rw [hC, hD]; exact Nat.ne_of_lt (Nat.lt_succ_self _)
  have hIC : s₁.heap.objs.size ≠ H2.objs.size := by rw [hC]; exact Nat.ne_of_lt (by omega)
  have hID : s₁.heap.objs.size ≠ H1.objs.size := by rw [hD]; exact Nat.ne_of_lt (by omega)
  have hLI : L ≠ s₁.heap.objs.size := Nat.ne_of_lt hL
  have hLD : L ≠ H1.objs.size := by rw [hD]; exact Nat.ne_of_lt (Nat.lt_succ_of_lt hL)
  have hLC : L ≠ H2.objs.size := by rw [hC]; exact Nat.ne_of_lt (Nat.lt_succ_of_lt (Nat.lt_succ_of_lt hL))
  have fresh : ∀ b, s₁.heap.objs.size ≤ b → s₁.heap.get? b = none := fun b hb => by
    cases e : s₁.heap.get? b with
    | none => rfl
    | some o' => exact absurd (Heap.lt_size e) (Nat.not_lt.mpr hb)
  have ne3 : ∀ b o, s₁.heap.get? b = some o → b ≠ s₁.heap.objs.size ∧ b ≠ H1.objs.size ∧ b ≠ H2.objs.size := fun b o e => by
    have := Heap.lt_size e
    rw [hC, hD]
    exact ⟨Nat.ne_of_lt this, Nat.ne_of_lt (Nat.lt_succ_of_lt this), Nat.ne_of_lt (Nat.lt_succ_of_lt (Nat.lt_succ_of_lt this))⟩
  have old1 : ∀ b o, H1.get? b = some o → b ≠ H2.objs.size → h₁.get? b = some o := fun b o e hb => hsb₁.extBut b o hb (Heap.get?_push_of_some _ (hH2 ▸ Heap.get?_push_of_some _ e))
  have old : ∀ b o, s₁.heap.get? b = some o → h₁.get? b = some o := fun b o e => old1 b o (hH1 ▸ Heap.get?_push_of_some _ e) (ne3 b o e).2.2
  have hacc : h₁.PlainList H1.objs.size (List.toArray []) := ⟨_, hsb₁.extBut _ _ hDC (Heap.get?_push_of_some _ (hH2 ▸ Heap.get?_push_size _ rfl))⟩
  have hit₁ : h₁.IsListIter s₁.heap.objs.size a 0 := ⟨_, old1 _ _ (hH1 ▸ Heap.get?_push_size _ rfl) hIC, rfl, rfl⟩
  have loop : ∀ s₃ : Shared, s₃ = { s₁ with heap := h₁, toks := s₁.toks + ([] : List (Str × Value)).length } →
      codeAny (model PR w) A (.compLoop (.ListComp elt [⟨target, iter, [], 0⟩] scope pos) 0 (.ref s₁.heap.objs.size) (.ref H1.objs.size) (compEnvC scope cl H2.objs.size env))
        (RR (.ref H1.objs.size) H2.objs.size) s₃ := by
    rintro s₃ rfl
    refine kcp_loop (fun k s' => ∃ h' tk m' i ys, s' = { s₁ with heap := h', toks := tk } ∧ k = vs.length + 1 - i ∧ i ≤ vs.length ∧ h'.IsListIter s₁.heap.objs.size a i ∧ h'.PlainList H1.objs.size (List.toArray ys) ∧ h'.Ns H2.objs.size m' ∧ Kp L s₁.heap h' ∧
      Paired (fun v y => ∃ objs, (∀ p ∈ objs, h'.get? p.1 = some p.2 ∧ (p.1 ≠ s₁.heap.objs.size ∧ p.1 ≠ H1.objs.size ∧ p.1 ≠ H2.objs.size ∧ p.1 ≠ L) ∧ s₁.heap.get? p.1 = none) ∧ R v y objs) (vs.take i) ys) ?_ (vs.length + 1)
      ⟨h₁, _, _, 0, [], rfl, rfl, Nat.zero_le _, hit₁, hacc, hns₁, Kp.of_ext old, by rw [List.take_zero]; exact .nil⟩
    rintro k s' ⟨H, tk, m', i, ys, rfl, rfl, hi, hit, hac, hns, hkp, hpair⟩
    have hlH : H.IsList a vs.toArray := hl.at fun o e => hkp.1 a o haL e
    by_cases hlt' : i < vs.length
    · refine wpAny_pyNext_list_item hit hlH (x := vs[i]) (by simp [hlt']) fun h₂ hit₂ hs₂ => ?_
      have hv : vs[i] ∈ vs := List.getElem_mem hlt'
      refine hown _ _ _ _ _ _ hv hit₂ ?_
      have kp₂ : Kp L s₁.heap h₂ := ⟨fun b o hb e => hs₂.extBut b o (ne3 b o e).1 (hkp.1 b o hb e), fun o e => by
        obtain ⟨sl, e1⟩ := hkp.2 o e
        exact ⟨sl, hs₂.extBut _ _ hLI e1⟩⟩
      refine hasg _ _ _ _ _ _ hv kp₂ (by rw [hC]; exact Nat.le_add_right _ _) (hns.sameBut hs₂ (Ne.symm hIC)) ?_
      intro h₃ tk₃ m₃ hns₃ hk₃ hbd
      have kp₃ : Kp L s₁.heap h₃ := ⟨fun b o hb e => hk₃ b o (ne3 b o e).2.2 (kp₂.1 b o hb e), fun o e => by
        obtain ⟨sl, e1⟩ := kp₂.2 o e
        exact ⟨sl, hk₃ _ _ hLC e1⟩⟩
      refine wpAny_mono (helt _ _ h₃ tk₃ m₃ _ hv kp₃ (by rw [hC]; exact Nat.le_add_right _ _) hns₃ hbd) (fun y s₄ h₄ => ?_) fun _ _ e => e
      obtain ⟨h₄, tk₄, objs, rfl, kp₄, hobj, hR⟩ := h₄
      have hI₃ : ∃ o, h₃.get? s₁.heap.objs.size = some o := by obtain ⟨o, e, _⟩ := hit₂; exact ⟨o, hk₃ _ _ hIC e⟩
      have hac₃ : h₃.PlainList H1.objs.size (List.toArray ys) := by
        obtain ⟨n, e⟩ := hac
        exact ⟨n, hk₃ _ _ hDC (hs₂.extBut _ _ (Ne.symm hID) e)⟩
      have hac₄ : h₄.PlainList H1.objs.size (List.toArray ys) := by
        obtain ⟨n, e⟩ := hac₃
        exact ⟨n, kp₄.1 _ _ (Ne.symm hLD) e⟩
      have hyl := paired_len hpair
      rw [List.length_take] at hyl
      refine wpAny_list_append_plain (hsz := by rw [List.size_toArray]; omega) hac₄ fun h₅ hl₅ hs₅ => ?_
      refine ⟨vs.length + 1 - (i + 1), by omega, h₅, tk₄, m₃, i + 1, ys ++ [y], rfl, rfl, hlt', ?_, ?_, ?_, ?_, ?_⟩
      · obtain ⟨o, e, hc, hd⟩ := hit₂
        exact ⟨o, hs₅.extBut _ _ hID (kp₄.1 _ _ (Ne.symm hLI) (hk₃ _ _ hIC e)), hc, hd⟩
      · rw [List.push_toArray] at hl₅
        exact hl₅
      · exact (kp₄.ns hns₃).sameBut hs₅ (Ne.symm hDC)
      · have kp' := kp₃.trans kp₄
        exact ⟨fun b o hb e => hs₅.extBut b o (ne3 b o e).2.1 (kp'.1 b o hb e), fun o e => by
          obtain ⟨sl, e1⟩ := kp'.2 o e
          exact ⟨sl, hs₅.extBut _ _ hLD e1⟩⟩
      · rw [List.take_succ_eq_append_getElem hlt']
        refine Paired.snoc (paired_mono (fun v y q => ?_) hpair) ⟨objs, fun p hp => ?_, hR⟩
        · obtain ⟨objs', ho', hR'⟩ := q
          refine ⟨objs', fun p hp => ?_, hR'⟩
          obtain ⟨e1, ⟨n1, n2, n3, n4⟩, e2⟩ := ho' p hp
          exact ⟨hs₅.extBut _ _ n2 (kp₄.1 _ _ n4 (hk₃ _ _ n3 (hs₂.extBut _ _ n1 e1))), ⟨n1, n2, n3, n4⟩, e2⟩
        · obtain ⟨e1, e2⟩ := hobj p hp
          have n1 : p.1 ≠ s₁.heap.objs.size := by
            intro q; obtain ⟨o, e⟩ := hI₃; rw [q, e] at e1; cases e1
          have n2 : p.1 ≠ H1.objs.size := by
            intro q; obtain ⟨n, e⟩ := hac₃; rw [q, e] at e1; cases e1
          have n3 : p.1 ≠ H2.objs.size := by
            intro q; obtain ⟨o, _, _, e, _⟩ := hns₃; rw [q, e] at e1; cases e1
          have n4 : p.1 ≠ L := by
            intro q
            obtain ⟨sl, e'⟩ := kp₃.2 oL hLo
            rw [q, e'] at e1; cases e1
          refine ⟨hs₅.extBut _ _ n2 e2, ⟨n1, n2, n3, n4⟩, ?_⟩
          cases e : s₁.heap.get? p.1 with
          | none => rfl
          | some o => rw [kp₃.1 _ _ n4 e] at e1; cases e1
    · have hin : i = vs.length := by omega
      subst hin
      rw [List.take_length] at hpair
      refine wpAny_pyNext_list_end hh hit hlH (by simp) fun h₂ he₂ => ?_
      refine hRR _ _ h₂ tk m' ys (fresh _ (by rw [hD]; omega)) (fresh _ (by rw [hC]; omega)) hDC (hns.extBut he₂ (Ne.symm hIC)) ?_ (paired_mono (fun v y q => ?_) hpair) ?_
      · obtain ⟨n, e⟩ := hac
        exact ⟨n, he₂ _ _ (Ne.symm hID) e⟩
      · obtain ⟨objs', ho', hR'⟩ := q
        refine ⟨objs', fun p hp => ?_, hR'⟩
        obtain ⟨e1, ⟨n1, n2, n3, n4⟩, e2⟩ := ho' p hp
        exact ⟨he₂ _ _ n1 e1, n3, e2⟩
      · exact ⟨fun b o hb e => he₂ b o (ne3 b o e).1 (hkp.1 b o hb e), fun o e => by
          obtain ⟨sl, e1⟩ := hkp.2 o e
          exact ⟨sl, he₂ _ _ hLI e1⟩⟩
  refine codeAny_compStart_list (loop _ rfl) (wpAny_pyIter_listiter hit₁ (loop _ rfl))
end
end Mine
end
section
open PySem PySem.W PyProof.Rows PySem.Calls PySem.Spec
namespace Mine
set_option maxRecDepth 100000
set_option maxHeartbeats 1000000

structure Turns (w : World) (A : Around) (env : Env) (elt target : PySem.Expr) (scope : Scope) (cl : List (Str × Addr)) (L : Addr) (Bd : Value → (Str → Option Value) → Prop) (R : Value → Value → List (Addr × Obj) → Prop) (s₁ : Shared) (a : Addr) (vs : List Value) : Prop where
  list : s₁.heap.IsList a vs.toArray
  off : a ≠ L
  own : ∃ oL, s₁.heap.get? L = some oL
  size : vs.length ≤ sizeLine
  go : ∀ I i v (s : Shared) (Q : Unit → Shared → Prop) E', v ∈ vs → s.heap.IsListIter I a i → Q () s → wpAny (model PR w) A (letOwnedTupleGo target (.ref I) v) Q E' s
  asg : ∀ C v (s₃ : Shared) m₃ (Q' : Unit → Shared → Prop) E', v ∈ vs → Kp L s₁.heap s₃.heap → s₁.heap.objs.size ≤ C → s₃.heap.Ns C m₃ →
      (∀ h' tk m', h'.Ns C m' → (∀ b o, b ≠ C → s₃.heap.get? b = some o → h'.get? b = some o) → Bd v m' → Q' () { s₃ with heap := h', toks := tk }) → wpAny (model PR w) A (assign target (compEnvC scope cl C env) v) Q' E' s₃
  elt : ∀ C v h₃ tk₃ m₃ E', v ∈ vs → Kp L s₁.heap h₃ → s₁.heap.objs.size ≤ C → h₃.Ns C m₃ → Bd v m₃ →
      wpAny (model PR w) A (eval elt (compEnvC scope cl C env)) (fun y s₄ => ∃ h' tk objs, s₄ = { s₁ with heap := h', toks := tk } ∧ Kp L h₃ h' ∧ (∀ p ∈ objs, h₃.get? p.1 = none ∧ h'.get? p.1 = some p.2) ∧ R v y objs) E' { s₁ with heap := h₃, toks := tk₃ }

/-- what is made, with its objects -/
def Made (R : Value → Value → List (Addr × Obj) → Prop) (h₁ h' : Heap) (vs ys : List Value) : Prop :=
  Paired (fun v y => ∃ objs, (∀ p ∈ objs, h'.get? p.1 = some p.2 ∧ h₁.get? p.1 = none) ∧ R v y objs) vs ys

section
variable {w : World} {A : Around} {E : Value → Shared → Prop} {s : Shared} {env : Env}

theorem law_comp {elt target iter : PySem.Expr} {scope : Scope} {cl : List (Str × Addr)} {pos : Pos} {Q : Value → Shared → Prop} (L : Addr)
    (Bd : Value → (Str → Option Value) → Prop) (R : Value → Value → List (Addr × Obj) → Prop)
    (hh : A.handled = none) (hclos : closureFor scope env = pure cl) (hcell : ∀ y ∈ scope.names, y.2 ≠ .cell) (hkind : scope.kind = .function)
    (hnames : ∀ y ∈ scope.names, y.2 = .local → scope.names.lookup y.1 = some .local)
    (h : wpAny (model PR w) A (eval iter env) (fun xv s₁ => Stop (∃ a vs, xv = .ref a ∧ Turns w A env elt target scope cl L Bd R s₁ a vs ∧
      ∀ D h' tk ys, s₁.heap.get? D = none → h'.PlainList D (List.toArray ys) → Made R s₁.heap h' vs ys → Kp L s₁.heap h' → Q (.ref D) { s₁ with heap := h', toks := tk })) E s)
    (hs : ∀ x, foldedSetIterable iter env x = pure x) :
    wpAny (model PR w) A (eval (.ListComp elt [⟨target, iter, [], 0⟩] scope pos) env) Q E s := by
  rw [eval_ListComp]
  refine wpAny_comprehension_free (use := none) rfl hs hclos hkind hnames (wpAny_mono h (fun xv s₁ h₁ => ?_) fun _ _ e => e)
  obtain ⟨a, vs, rfl, T, hQ⟩ := h₁
  obtain ⟨oL, hLo⟩ := T.own
  refine lawBlock Bd R (RR := fun acc C => compPost (model PR w) A E none Q acc C) hh hcell hkind T.list T.off hLo T.size T.go T.asg T.elt ?_
  intro D C h' tk m' ys hD hC hDC hn hpl hp hk
  refine ⟨m', hn, fun h'' hs'' => hQ D h'' tk ys hD ?_ (paired_mono (fun v y q => ?_) hp) ?_⟩
  · obtain ⟨n, e⟩ := hpl
    exact ⟨n, hs''.extBut _ _ hDC e⟩
  · obtain ⟨objs, ho, hR⟩ := q
    exact ⟨objs, fun p hp => ⟨hs''.extBut _ _ (ho p hp).2.1 (ho p hp).1, (ho p hp).2.2⟩, hR⟩
  · refine ⟨fun b o hb e => hs''.extBut b o (by rintro rfl; rw [hC] at e; cases e) (hk.1 b o hb e), fun o e => ?_⟩
    obtain ⟨sl, e1⟩ := hk.2 o e
    exact ⟨sl, hs''.extBut _ _ (by rintro rfl; rw [hC] at e; cases e) e1⟩

theorem law_assign {elt target iter : PySem.Expr} {y : Str} {py : Pos} {scope : Scope} {cl : List (Str × Addr)} {pos spos : Pos} {Q : Flow → Shared → Prop} (L : Addr)
    (Bd : Value → (Str → Option Value) → Prop) (R : Value → Value → List (Addr × Obj) → Prop) (hLe : env.locals = L)
    (hsw : swapsWith (.ListComp elt [⟨target, iter, [], 0⟩] scope pos) (some (.Name y py)) spos.line env = pure true)
    (hh : A.handled = none) (hclos : closureFor scope env = pure cl) (hcell : ∀ y ∈ scope.names, y.2 ≠ .cell) (hkind : scope.kind = .function)
    (hnames : ∀ y ∈ scope.names, y.2 = .local → scope.names.lookup y.1 = some .local)
    (hy : env.kindOf y = some .local) (hp : (env.scope.kind == .class || (env.scope.kind == .module && env.locals != env.globals)) = false)
    (h : wpAny (model PR w) A (eval iter env) (fun xv s₁ => Stop (∃ a vs m, xv = .ref a ∧ Turns w A env elt target scope cl L Bd R s₁ a vs ∧ s₁.heap.Ns L m ∧
      ∀ D h' tk ys, s₁.heap.get? D = none → h'.PlainList D (List.toArray ys) → Made R s₁.heap h' vs ys → (∀ b o, b ≠ L → s₁.heap.get? b = some o → h'.get? b = some o) → h'.Ns L (fun z => if z = y then some (.ref D) else m z) →
        Q .next { s₁ with heap := h', toks := tk })) E s)
    (hs : ∀ x, foldedSetIterable iter env x = pure x) :
    wpAny (model PR w) A (exec (.Assign [.Name y py] (.ListComp elt [⟨target, iter, [], 0⟩] scope pos) spos) env) Q E s := by
  subst hLe
  rw [exec_Assign_Name_used _ _ _ _ hsw]
  refine wpAny_bind (wpAny_standAt (wpAny_bind ?_))
  show wpAny _ A (do let _ ← comprehension (.ListComp elt [⟨target, iter, [], 0⟩] scope pos) scope env _ (newList []) false (eval iter env) (some (assign (.Name y py) env))) _ _ s
  refine wpAny_bind (wpAny_mono (wpAny_comprehension_free (use := some (assign (.Name y py) env)) (Q := fun _ s' => Q .next s') rfl hs hclos hkind hnames
    (wpAny_mono h (fun xv s₁ h₁ => ?_) fun _ _ e => e)) (fun _ s' hq => wpAny_pure (wpAny_pure hq)) fun _ _ e => e)
  obtain ⟨a, vs, m, rfl, T, hn, hQ⟩ := h₁
  obtain ⟨oL, hLo⟩ := T.own
  refine lawBlock Bd R (RR := fun acc C => compPost (model PR w) A E (some (assign (.Name y py) env)) (fun _ s' => Q .next s') acc C) hh hcell hkind T.list T.off hLo T.size T.go T.asg T.elt ?_
  intro D C h' tk m' ys hD hC hDC hnC hpl hpr hk
  have hLC : env.locals ≠ C := by rintro rfl; rw [hC] at hLo; cases hLo
  have hLD : env.locals ≠ D := by rintro rfl; rw [hD] at hLo; cases hLo
  show wpAny _ A (assign (.Name y py) env (.ref D)) _ _ _
  refine wpAny_assign_Name (wpAny_storeName_local hy (hk.ns hn) (fun h₂ hn₂ hs₂ => ?_) hp)
  refine ⟨m', hnC.sameBut hs₂ (Ne.symm hLC), fun h₃ hs₃ => ?_⟩
  refine hQ D h₃ _ ys hD ?_ (paired_mono (fun v y q => ?_) hpr) (fun b o hbL e => hs₃.extBut b o (by rintro rfl; rw [hC] at e; cases e) (hs₂.extBut b o hbL (hk.1 b o hbL e))) (hn₂.sameBut hs₃ hLC)
  · obtain ⟨n, e⟩ := hpl
    exact ⟨n, hs₃.extBut _ _ hDC (hs₂.extBut _ _ (Ne.symm hLD) e)⟩
  · obtain ⟨objs, ho, hR⟩ := q
    refine ⟨objs, fun p hp => ⟨hs₃.extBut _ _ (ho p hp).2.1 (hs₂.extBut _ _ ?_ (ho p hp).1), (ho p hp).2.2⟩, hR⟩
    intro e
    have := (ho p hp).2.2
    rw [e, hLo] at this; cases this

theorem assign_listE {elts : List PySem.Expr} {k : Nat} {pos : Pos} {l : Addr} {items : Array Value} {Q : Unit → Shared → Prop} (hh : A.handled = none) (hl : s.heap.IsList l items) (hn : (assignEach elts env).length = items.size)
    (hstar : (assignEach elts env).findIdx? (·.1) = none) (h : ∀ h', Heap.ExtBut s.heap.objs.size s.heap h' → wpAny (model PR w) A (assignInOrder ((assignEach elts env).map (·.2)) items.toList) Q E { s with heap := h' }) :
    wpAny (model PR w) A (assign (.Tuple elts k pos) env (.ref l)) Q E s := by
  rw [assign_Tuple]
  refine wpAny_bind (wpAny_standAt ?_)
  unfold unpack
  rw [hn, hstar]
  exact wpAny_bind (wpAny_holding (kun_itemsOf hh hl h))
/-- text, layers = a list of two -/
theorem assign_two {a b : Str} {pa pb tp : Pos} {kk : Nat} {T : Addr} {x y : Value} {m : Str → Option Value} {Q : Unit → Shared → Prop} (hh : A.handled = none) (ht : s.heap.IsList T #[x, y])
    (ha : env.kindOf a = some .local) (hb : env.kindOf b = some .local) (hp : (env.scope.kind == .class || (env.scope.kind == .module && env.locals != env.globals)) = false) (hn : s.heap.Ns env.locals m)
    (h : ∀ (h' : Heap) (tk : Nat), h'.Ns env.locals (fun z => if z = b then some y else if z = a then some x else m z) → (∀ c o, c ≠ env.locals → s.heap.get? c = some o → h'.get? c = some o) → Q () { s with heap := h', toks := tk }) :
    wpAny (model PR w) A (assign (.Tuple [.Name a pa, .Name b pb] kk tp) env (.ref T)) Q E s := by
  refine assign_listE hh ht rfl rfl fun h₁ he₁ => ?_
  have hL : env.locals ≠ s.heap.objs.size := Nat.ne_of_lt hn.lt
  have hn₁ : h₁.Ns env.locals m := hn.at' fun o e => he₁ _ o hL e
  have up₁ : ∀ c o, s.heap.get? c = some o → h₁.get? c = some o := fun c o e => he₁ c o (Nat.ne_of_lt (Heap.lt_size e)) e
  show wpAny _ _ (assignInOrder [assign (.Name a pa) env, assign (.Name b pb) env] [x, y]) _ _ _
  refine assignInOrder_cons ?_
  refine wpAny_assign_Name (wpAny_storeName_local ha hn₁ (fun h₂ hn₂ hs₂ => ?_) hp)
  refine assignInOrder_cons ?_
  refine wpAny_assign_Name (wpAny_storeName_local hb hn₂ (fun h₃ hn₃ hs₃ => ?_) hp)
  refine assignInOrder_nil ?_
  exact h h₃ _ hn₃ fun c o hc e => hs₃.extBut c o hc (hs₂.extBut c o hc (up₁ c o e))
end
end Mine
end
section
open PySem PySem.W PyProof.Rows PySem.Calls PySem.Spec PySem.SeqAt
namespace Mine
set_option maxRecDepth 100000
set_option maxHeartbeats 1000000
def strL (ts : List Str) : PyData := .list (ts.map PyData.str)
def strLL (tss : List (List Str)) : PyData := .list (tss.map strL)
theorem readsAll_strs {h : Heap} : ∀ {vs : List Value} {ts : List Str}, StrsAre vs ts → ReadsAll h vs (ts.map PyData.str) []
  | _, _, .nil => .nil
  | _, _, .cons k t r => by
    have := ReadsAll.cons (Reads.str (h := h) k t) (readsAll_strs (h := h) r)
    simpa using this
theorem reads_strs {h : Heap} {a : Addr} {vs : List Value} {ts : List Str} (hl : h.IsList a vs.toArray) (hi : StrsAre vs ts) : Reads h (.ref a) (strL ts) [a] := by
  obtain ⟨o, ho, hc, n, hd⟩ := hl
  exact Reads.list ho hc hd (by simpa using readsAll_strs hi)
def AllOk (ts : List Str) : Prop := ∀ t ∈ ts, PyData.strOk t = true
theorem canLay_strs : ∀ ts : List Str, AllOk ts → PyData.canLayAll0 (ts.map PyData.str) = true
  | [], _ => by simp [PyData.canLayAll0]
  | n :: r, h => by simp [PyData.canLayAll0, PyData.canLay0, canLay_strs r fun t ht => h t (List.mem_cons_of_mem _ ht), h n (List.mem_cons_self ..)]
theorem depth_strs : ∀ ts : List Str, PyData.depthAll (ts.map PyData.str) ≤ 1
  | [] => by simp [PyData.depthAll]
  | n :: r => by
    have := depth_strs r
    simp only [List.map_cons, PyData.depthAll, PyData.depth]
    omega
theorem depth_strL (ts : List Str) : PyData.depth (strL ts) ≤ 2 := by
  have := depth_strs ts
  unfold strL
  simp only [PyData.depth]; omega
theorem shaped_strL (ts : List Str) (ok : AllOk ts) : shaped (strL ts) = true := by
  have h1 := depth_strL ts
  show (PyData.canLay0 (strL ts) && decide (PyData.depth (strL ts) ≤ 64)) = true
  rw [Bool.and_eq_true]
  exact ⟨by unfold strL; simp only [PyData.canLay0]; exact canLay_strs ts ok, decide_eq_true (by omega)⟩
theorem noMix_strs : ∀ ts : List Str, noMixAll (ts.map PyData.str) (ts.map PyData.str) = true
  | [] => by simp [noMixAll]
  | _ :: r => by simp [noMixAll, noMix, noMix_strs r]
theorem same_strs : ∀ ts : List Str, PySem.Spec.sameAll (ts.map PyData.str) (ts.map PyData.str) = true
  | [] => by simp [PySem.Spec.sameAll]
  | _ :: r => by simp [PySem.Spec.sameAll, PySem.Spec.same, same_strs r]
theorem canLay_strLL : ∀ tss : List (List Str), (∀ ts ∈ tss, AllOk ts) → PyData.canLayAll0 (tss.map strL) = true
  | [], _ => by simp [PyData.canLayAll0]
  | n :: r, h => by
    have : PyData.canLay0 (strL n) = true := by unfold strL; simp only [PyData.canLay0]; exact canLay_strs n (h n (List.mem_cons_self ..))
    simp [PyData.canLayAll0, this, canLay_strLL r fun t ht => h t (List.mem_cons_of_mem _ ht)]
theorem depth_strLs : ∀ tss : List (List Str), PyData.depthAll (tss.map strL) ≤ 2
  | [] => by simp [PyData.depthAll]
  | n :: r => by
    have := depth_strLs r
    have := depth_strL n
    simp only [List.map_cons, PyData.depthAll]
    omega
theorem shaped_strLL (tss : List (List Str)) (ok : ∀ ts ∈ tss, AllOk ts) : shaped (strLL tss) = true := by
  have h1 := depth_strLs tss
  have h2 : PyData.depth (strLL tss) ≤ 64 := by unfold strLL; simp only [PyData.depth]; omega
  show (PyData.canLay0 (strLL tss) && decide (PyData.depth (strLL tss) ≤ 64)) = true
  rw [Bool.and_eq_true]
  exact ⟨by unfold strLL; simp only [PyData.canLay0]; exact canLay_strLL tss ok, decide_eq_true h2⟩
theorem noMix_strLs : ∀ tss : List (List Str), noMixAll (tss.map strL) (tss.map strL) = true
  | [] => by simp [noMixAll]
  | n :: r => by
    have : noMix (strL n) (strL n) = true := by unfold strL; simp only [noMix]; exact noMix_strs n
    simp [noMixAll, this, noMix_strLs r]
theorem same_strLs : ∀ tss : List (List Str), PySem.Spec.sameAll (tss.map strL) (tss.map strL) = true
  | [] => by simp [PySem.Spec.sameAll]
  | n :: r => by
    have : PySem.Spec.same (strL n) (strL n) = true := by unfold strL; simp only [PySem.Spec.same]; exact same_strs n
    simp [PySem.Spec.sameAll, this, same_strLs r]
section
variable {w : World} {A : Around} {E : Value → Shared → Prop} {s : Shared}
theorem ne_strs_same {a b : Addr} {vs us : List Value} {ts : List Str} {Q : Value → Shared → Prop} (hl : s.heap.IsList a vs.toArray) (hi : StrsAre vs ts) (hl' : s.heap.IsList b us.toArray) (hi' : StrsAre us ts) (ok : AllOk ts) (hu : A.units + 64 < cLine)
    (h : Q (.bool false) s) : wpAny (model PR w) A (compareOp .NotEq (.ref a) (.ref b)) Q E s := by
  refine ne_dataH_same (reads_strs hl hi) (reads_strs hl' hi') (shaped_strL ts ok) (shaped_strL ts ok) hu (by unfold strL; simp only [noMix]; exact noMix_strs ts) ?_
  have e : PySem.Spec.same (strL ts) (strL ts) = true := by unfold strL; simp only [PySem.Spec.same]; exact same_strs ts
  rw [e]; exact h
theorem readsAll_lists {h : Heap} {α : Type} {f : α → List Str} : ∀ {xs : List α} {ys : List Value}, Paired (fun x y => ∃ a vs, y = Value.ref a ∧ h.IsList a (List.toArray vs) ∧ StrsAre vs (f x)) xs ys → ∃ as, ReadsAll h ys ((xs.map f).map strL) as
  | _, _, .nil => ⟨_, .nil⟩
  | _, _, .cons h1 h2 => by
    obtain ⟨a, vs, rfl, hl, hi⟩ := h1
    obtain ⟨as, ih⟩ := readsAll_lists h2
    exact ⟨_, ReadsAll.cons (reads_strs hl hi) ih⟩
theorem eq_lists_same {α : Type} {f : α → List Str} {a b : Addr} {xs : List α} {ys zs : List Value} {Q : Value → Shared → Prop}
    (hl : s.heap.IsList a ys.toArray) (hy : Paired (fun x y => ∃ a vs, y = Value.ref a ∧ s.heap.IsList a (List.toArray vs) ∧ StrsAre vs (f x)) xs ys)
    (hl' : s.heap.IsList b zs.toArray) (hz : Paired (fun x y => ∃ a vs, y = Value.ref a ∧ s.heap.IsList a (List.toArray vs) ∧ StrsAre vs (f x)) xs zs) (ok : ∀ x ∈ xs, AllOk (f x)) (hu : A.units + 64 < cLine)
    (h : Q (.bool true) s) : wpAny (model PR w) A (compareOp .Eq (.ref a) (.ref b)) Q E s := by
  have ok' : ∀ ts ∈ xs.map f, AllOk ts := fun ts ht => by obtain ⟨x, hx, rfl⟩ := List.mem_map.mp ht; exact ok x hx
  obtain ⟨as, r1⟩ := readsAll_lists hy
  obtain ⟨bs, r2⟩ := readsAll_lists hz
  obtain ⟨o, ho, hc, n, hd⟩ := hl
  obtain ⟨o', ho', hc', n', hd'⟩ := hl'
  refine eq_dataH_same (da := strLL (xs.map f)) (db := strLL (xs.map f)) (Reads.list ho hc hd (by simpa using r1)) (Reads.list ho' hc' hd' (by simpa using r2)) (shaped_strLL _ ok') (shaped_strLL _ ok') hu (by unfold strLL; simp only [noMix]; exact noMix_strLs _) ?_
  have e : PySem.Spec.same (strLL (xs.map f)) (strLL (xs.map f)) = true := by unfold strLL; simp only [PySem.Spec.same]; exact same_strLs _
  rw [e]; exact h
end
end Mine
end
section
open PySem PySem.W PyProof.Rows PySem.Calls PySem.Spec
namespace Mine
set_option maxRecDepth 100000
set_option maxHeartbeats 1000000
theorem fr_kp {h₀ h h' : Heap} {L : Addr} {m : Str → Option Value} (F : Fr h₀ L h m) (k : Kp L h h') : Fr h₀ L h' m :=
  ⟨k.ns F.ns, fun b o e => k.1 b o (Nat.ne_of_lt (Nat.lt_of_lt_of_le (Heap.lt_size e) F.above)) (F.keep b o e), F.above⟩
theorem fr_set {h₀ h h' : Heap} {L : Addr} {m m' : Str → Option Value} (F : Fr h₀ L h m) (k : ∀ b o, b ≠ L → h.get? b = some o → h'.get? b = some o) (n : h'.Ns L m') : Fr h₀ L h' m' :=
  ⟨n, fun b o e => k b o (Nat.ne_of_lt (Nat.lt_of_lt_of_le (Heap.lt_size e) F.above)) (F.keep b o e), F.above⟩
theorem fr_map {h₀ h : Heap} {L : Addr} {m m' : Str → Option Value} (F : Fr h₀ L h m) (e : m = m') : Fr h₀ L h m' := e ▸ F
theorem fr_none {h₀ h : Heap} {L : Addr} {m : Str → Option Value} (F : Fr h₀ L h m) (b : Addr) (e : h.get? b = none) : h₀.get? b = none := by
  cases q : h₀.get? b with
  | none => rfl
  | some o => rw [F.keep b o q] at e; cases e
theorem fr_own {h₀ h : Heap} {L : Addr} {m : Str → Option Value} (F : Fr h₀ L h m) : ∃ o, h.get? L = some o := by
  obtain ⟨o, _, _, e, _⟩ := F.ns; exact ⟨o, e⟩
theorem ints_mem : ∀ {ns : List Int} {vs : List Value}, IntsAre vs ns → ∀ v ∈ vs, ∃ x t, v = Value.int x t
  | _, _, .nil, v, hv => by cases hv
  | _, _, .cons k t r, v, hv => by
    rcases List.mem_cons.mp hv with rfl | hv
    · exact ⟨_, _, rfl⟩
    · exact ints_mem r v hv
/-- the comprehension's own names, in a ledger -/
theorem own_news {h₀ h h₃ : Heap} {L C : Addr} {m m₃ : Str → Option Value} (F : Fr h₀ L h m) (hC : h.objs.size ≤ C) (hn : h₃.Ns C m₃) : ∃ oC, News h₀ L h₃ [(C, oC)] ∧ LCg.NsObj oC m₃ := by
  obtain ⟨o, e, n⟩ := LCg.ns_obj hn
  have h1 : L < h.objs.size := F.ns.lt
  refine ⟨o, fun p hp => ?_, n⟩
  rw [List.mem_singleton.mp hp]
  refine ⟨e, Nat.ne_of_gt (Nat.lt_of_lt_of_le h1 hC), ?_⟩
  cases q : h₀.get? C with
  | none => rfl
  | some o' => exact absurd (Nat.lt_of_lt_of_le (Heap.lt_size q) (Nat.le_trans F.above (Nat.le_of_lt h1))) (Nat.not_lt.mpr hC)
def R1 (v y : Value) (objs : List (Addr × Obj)) : Prop := ∃ x t a tt b vs n, v = Value.int x t ∧ y = .ref a ∧ objs = [(a, W.listOf #[.str (rowText x) tt, .ref b] 0), (b, W.listOf (List.toArray vs) n)] ∧ IntsAre vs (toI (rowLayers x))
/-- the rows, in any later heap -/
def Rows (h₀ : Heap) (L : Addr) (h : Heap) (xs : List Int) (ys : List Value) : Prop :=
  Paired (fun x y => ∃ a tt b vs n, y = Value.ref a ∧ a ≠ L ∧ b ≠ L ∧ h₀.get? b = none ∧ h.get? a = some (W.listOf #[.str (rowText x) tt, .ref b] 0) ∧ h.get? b = some (W.listOf (List.toArray vs) n) ∧ IntsAre vs (toI (rowLayers x))) xs ys
theorem rows_of {h₀ h h' : Heap} {L : Addr} : ∀ {xs : List Int} {vs ys : List Value}, IntsAre vs xs → Made R1 h h' vs ys → (∃ o, h.get? L = some o) → (∀ b, h.get? b = none → h₀.get? b = none) → Rows h₀ L h' xs ys
  | _, _, _, .nil, hm, _, _ => by cases hm; exact .nil
  | _, _, _, .cons k t r, hm, hL, h0 => by
    cases hm with
    | cons h1 h2 =>
      refine .cons ?_ (rows_of r h2 hL h0)
      obtain ⟨objs, ho, x, t', a, tt, b, vs, n, e1, rfl, rfl, hi⟩ := h1
      obtain ⟨o, eo⟩ := hL
      have hx : k = x := by injection e1
      subst hx
      have ha := ho _ (List.mem_cons_self ..)
      have hb := ho _ (List.mem_cons_of_mem _ (List.mem_cons_self ..))
      exact ⟨a, tt, b, vs, n, rfl, (fun e => by rw [e] at ha; have := ha.2; rw [eo] at this; cases this), (fun e => by rw [e] at hb; have := hb.2; rw [eo] at this; cases this), h0 _ hb.2, ha.1, hb.1, hi⟩
theorem Rows.kp {h₀ h h' : Heap} {L : Addr} {xs : List Int} {ys : List Value} (r : Rows h₀ L h xs ys) (k : ∀ b o, b ≠ L → h.get? b = some o → h'.get? b = some o) : Rows h₀ L h' xs ys :=
  paired_mono (fun x y q => by
    obtain ⟨a, tt, b, vs, n, e, h1, h2, h3, h4, h5, h6⟩ := q
    exact ⟨a, tt, b, vs, n, e, h1, h2, h3, k _ _ h1 h4, k _ _ h2 h5, h6⟩) r
theorem Rows.mem {h₀ h : Heap} {L : Addr} : ∀ {xs : List Int} {ys : List Value}, Rows h₀ L h xs ys → ∀ v ∈ ys, ∃ x a tt b vs n, v = Value.ref a ∧ a ≠ L ∧ b ≠ L ∧ h₀.get? b = none ∧ h.get? a = some (W.listOf #[.str (rowText x) tt, .ref b] 0) ∧ h.get? b = some (W.listOf (List.toArray vs) n) ∧ IntsAre vs (toI (rowLayers x))
  | _, _, .nil, v, hv => by cases hv
  | _, _, .cons h1 h2, v, hv => by
    rcases List.mem_cons.mp hv with rfl | hv
    · obtain ⟨a, tt, b, vs, n, r⟩ := h1
      exact ⟨_, a, tt, b, vs, n, r⟩
    · exact Rows.mem h2 v hv

def RV (hr : Heap) (f : Str → List Nat → Value → List (Addr × Obj) → Prop) (v y : Value) (objs : List (Addr × Obj)) : Prop :=
  ∃ a tt b vs n txt lys, v = Value.ref a ∧ hr.get? a = some (W.listOf #[.str txt tt, .ref b] 0) ∧ hr.get? b = some (W.listOf (List.toArray vs) n) ∧ IntsAre vs (toI lys) ∧ f txt lys y objs
def BV (h₀ : Heap) (L : Addr) (hr : Heap) (v : Value) (m : Str → Option Value) : Prop :=
  ∃ (x : Int) (a : Addr) (tt : Tok) (b : Addr) (vs : List Value) (n : Nat), v = Value.ref a ∧ b ≠ L ∧ h₀.get? b = none ∧ hr.get? a = some (W.listOf #[.str (rowText x) tt, .ref b] 0) ∧ hr.get? b = some (W.listOf (List.toArray vs) n) ∧ IntsAre vs (toI (rowLayers x)) ∧
    m (Str.ofString "text") = some (.str (rowText x) tt) ∧ m (Str.ofString "layers") = some (.ref b)
theorem ints_fun : ∀ {vs : List Value} {ns ms : List Int}, IntsAre vs ns → IntsAre vs ms → ns = ms
  | _, _, _, .nil, h => by cases h; rfl
  | _, _, _, .cons k t r, h => by
    cases h with
    | cons _ _ r' => rw [ints_fun r r']
theorem toI_inj : ∀ {a b : List Nat}, toI a = toI b → a = b
  | [], [], _ => rfl
  | [], _ :: _, h => by cases h
  | _ :: _, [], h => by cases h
  | x :: a, y :: b, h => by
    have h1 : (x : Int) = (y : Int) := by injection h
    have h2 : toI a = toI b := by injection h
    rw [toI_inj h2]
    have : x = y := by omega
    rw [this]
theorem rv_of {h₀ hr h h' : Heap} {L : Addr} {f : Str → List Nat → Value → List (Addr × Obj) → Prop} : ∀ {xs : List Int} {ys zs : List Value}, Rows h₀ L hr xs ys → Made (RV hr f) h h' ys zs →
    Paired (fun x z => ∃ objs, (∀ p ∈ objs, h'.get? p.1 = some p.2 ∧ h.get? p.1 = none) ∧ f (rowText x) (rowLayers x) z objs) xs zs
  | _, _, _, .nil, hm => by cases hm; exact .nil
  | _, _, _, .cons (a := x) q r, hm => by
    cases hm with
    | cons h1 h2 =>
      refine .cons ?_ (rv_of r h2)
      obtain ⟨a, tt, b, vs, n, rfl, _, _, _, e4, e5, e6⟩ := q
      obtain ⟨objs, ho, a', tt', b', vs', n', txt, lys, e7, e8, e9, e10, hf⟩ := h1
      have ea : a = a' := by injection e7
      subst ea
      rw [e4] at e8
      have e11 : (#[Value.str (rowText x) tt, Value.ref b] : Array Value) = #[Value.str txt tt', Value.ref b'] := by injection e8 with e8; injection e8 with _ _ e8; injection e8
      have e12 : [Value.str (rowText x) tt, Value.ref b] = [Value.str txt tt', Value.ref b'] := by simpa using congrArg Array.toList e11
      have et : rowText x = txt := by injection e12 with e12 _; injection e12
      have eb : b = b' := by injection e12 with _ e12; injection e12 with e12 _; injection e12
      subst eb
      rw [e5] at e9
      have e13 : vs.toArray = vs'.toArray := by injection e9 with e9; injection e9 with _ _ e9; injection e9
      have ev : vs = vs' := by simpa using e13
      subst ev
      have el := toI_inj (ints_fun e6 e10)
      rw [et, el]
      exact ⟨objs, ho, hf⟩

theorem strs_of {α : Type} {g : α → Str} {P : Value → List (Addr × Obj) → Prop} : ∀ {xs : List α} {zs : List Value}, Paired (fun x z => ∃ objs, P z objs ∧ ∃ t, z = Value.str (g x) t) xs zs → StrsAre zs (xs.map g)
  | _, _, .nil => .nil
  | _, _, .cons h r => by
    obtain ⟨_, _, t, rfl⟩ := h
    exact .cons _ _ (strs_of r)
theorem news_two {h₀ h : Heap} {L a b : Addr} {oa ob : Obj} (ha : h.get? a = some oa) (ha1 : a ≠ L) (ha2 : h₀.get? a = none) (hb : h.get? b = some ob) (hb1 : b ≠ L) (hb2 : h₀.get? b = none) : News h₀ L h [(a, oa), (b, ob)] := fun p hp => by
  rcases List.mem_cons.mp hp with rfl | hp
  · exact ⟨ha, ha1, ha2⟩
  · rw [List.mem_singleton.mp hp]; exact ⟨hb, hb1, hb2⟩
theorem off_own {h₀ h : Heap} {L D : Addr} {m : Str → Option Value} (F : Fr h₀ L h m) (e : h.get? D = none) : D ≠ L := by
  intro q; obtain ⟨o, eo⟩ := fr_own F; rw [q, eo] at e; cases e
theorem strs_mem : ∀ {ts : List Str} {vs : List Value}, StrsAre vs ts → ∀ v ∈ vs, ∃ x ∈ ts, ∃ t, v = Value.str x t
  | _, _, .nil, v, hv => by cases hv
  | _, _, .cons k t r, v, hv => by
    rcases List.mem_cons.mp hv with rfl | hv
    · exact ⟨_, List.mem_cons_self .., _, rfl⟩
    · obtain ⟨x, hx, t', e⟩ := strs_mem r v hv
      exact ⟨x, List.mem_cons_of_mem _ hx, t', e⟩
def R4 (v y : Value) (objs : List (Addr × Obj)) : Prop := ∃ x t a vs n, v = Value.str x t ∧ y = Value.ref a ∧ objs = [(a, W.listOf (List.toArray vs) n)] ∧ StrsAre vs (readN 6 x)
def R5 (txt : Str) (lys : List Nat) (y : Value) (objs : List (Addr × Obj)) : Prop := ∃ a vs n, y = Value.ref a ∧ objs = [(a, W.listOf (List.toArray vs) n)] ∧ StrsAre vs (dueN (lys.length + 1) txt lys)
def due (x : Int) : List Str := dueN ((rowLayers x).length + 1) (rowText x) (rowLayers x)
/-- lists of texts, off one object -/
def Told (L : Addr) (h : Heap) (xs : List Int) (ys : List Value) : Prop := Paired (fun x y => ∃ a vs n, y = Value.ref a ∧ a ≠ L ∧ h.get? a = some (W.listOf (List.toArray vs) n) ∧ StrsAre vs (due x)) xs ys
theorem Told.kp {h h' : Heap} {L : Addr} {xs : List Int} {ys : List Value} (r : Told L h xs ys) (k : Kp L h h') : Told L h' xs ys :=
  paired_mono (fun x y q => by
    obtain ⟨a, vs, n, e, h1, h2, h3⟩ := q
    exact ⟨a, vs, n, e, h1, k.1 _ _ h1 h2, h3⟩) r
theorem Told.lists {h : Heap} {L : Addr} {xs : List Int} {ys : List Value} (r : Told L h xs ys) : Paired (fun x y => ∃ a vs, y = Value.ref a ∧ h.IsList a (List.toArray vs) ∧ StrsAre vs (due x)) xs ys :=
  paired_mono (fun x y q => by
    obtain ⟨a, vs, n, e, h1, h2, h3⟩ := q
    exact ⟨a, vs, e, ⟨_, h2, rfl, _, rfl⟩, h3⟩) r
theorem told_read {h h' : Heap} {L : Addr} : ∀ {xs : List Int} {vs ys : List Value}, StrsAre vs (xs.map fun x => spell (rowText x) (rowLayers x)) → Made R4 h h' vs ys → (∃ o, h.get? L = some o) → Told L h' xs ys
  | [], _, _, hs, hm, _ => by cases hs; cases hm; exact .nil
  | x :: xs, _, _, hs, hm, hL => by
    cases hs with
    | cons k t r =>
      cases hm with
      | cons h1 h2 =>
        refine .cons ?_ (told_read r h2 hL)
        obtain ⟨objs, ho, x', t', a, vs, n, e1, rfl, rfl, hi⟩ := h1
        obtain ⟨o, eo⟩ := hL
        have hx : spell (rowText x) (rowLayers x) = x' := by injection e1
        subst hx
        have ha := ho _ (List.mem_cons_self ..)
        rw [law_row x] at hi
        exact ⟨a, vs, n, rfl, (fun e => by rw [e] at ha; have := ha.2; rw [eo] at this; cases this), ha.1, hi⟩
theorem told_due {h h' : Heap} {L : Addr} {xs : List Int} {ys : List Value} (hp : Paired (fun x z => ∃ objs, (∀ p ∈ objs, h'.get? p.1 = some p.2 ∧ h.get? p.1 = none) ∧ R5 (rowText x) (rowLayers x) z objs) xs ys) (hL : ∃ o, h.get? L = some o) : Told L h' xs ys :=
  paired_mono (fun x y q => by
    obtain ⟨objs, ho, a, vs, n, rfl, rfl, hi⟩ := q
    obtain ⟨o, eo⟩ := hL
    have ha := ho _ (List.mem_cons_self ..)
    exact ⟨a, vs, n, rfl, (fun e => by rw [e] at ha; have := ha.2; rw [eo] at this; cases this), ha.1, hi⟩) hp
section
variable {w : World} {A : Around} {s : Shared} {env : Env}
theorem rows_turns {elt : PySem.Expr} {pa pb tp : Pos} {kk : Nat} {scope : Scope} {cl : List (Str × Addr)} {h₀ : Heap} {L D : Addr} {m : Str → Option Value} {xs : List Int} {ys : List Value} {nD : Nat} {hr : Heap} (f : Str → List Nat → Value → List (Addr × Obj) → Prop)
    (hh : A.handled = none) (he : s.heap = hr) (F : Fr h₀ L hr m) (hD : hr.get? D = some (W.listOf (List.toArray ys) nD)) (hDL : D ≠ L) (hrw : Rows h₀ L hr xs ys) (hsz : ys.length ≤ 9)
    (ht : scope.names.lookup (Str.ofString "text") = some .local) (hl : scope.names.lookup (Str.ofString "layers") = some .local) (hkind : scope.kind = .function)
    (helt : ∀ C h₃ tk₃ m₃ E' (x : Int) tt b (vs : List Value) n, Kp L hr h₃ → hr.objs.size ≤ C → h₃.Ns C m₃ → h₀.get? b = none → h₃.get? b = some (W.listOf (List.toArray vs) n) → IntsAre vs (toI (rowLayers x)) →
      m₃ (Str.ofString "text") = some (.str (rowText x) tt) → m₃ (Str.ofString "layers") = some (.ref b) →
      wpAny (model PR w) A (eval elt (compEnvC scope cl C env)) (fun y s₄ => ∃ h' tk objs, s₄ = { s with heap := h', toks := tk } ∧ Kp L h₃ h' ∧ (∀ p ∈ objs, h₃.get? p.1 = none ∧ h'.get? p.1 = some p.2) ∧ f (rowText x) (rowLayers x) y objs) E' { s with heap := h₃, toks := tk₃ }) :
    Turns w A env elt (.Tuple [.Name (Str.ofString "text") pa, .Name (Str.ofString "layers") pb] kk tp) scope cl L (BV h₀ L hr) (RV hr f) s D ys := by
  subst he
  exact {
  list := ⟨_, hD, rfl, _, rfl⟩
  off := hDL
  own := fr_own F
  size := by rw [sizeLine_eq]; omega
  go := by
    intro I i v s' Q E' hv hit q
    obtain ⟨x, a, tt, b, vs, n, rfl, _⟩ := hrw.mem v hv
    exact wpAny_letOwnedTupleGo_listiter hit q
  asg := by
    intro C v s₃ m₃ Q' E' hv hk hC hns q
    obtain ⟨x, a, tt, b, vs, n, rfl, h1, h2, h3, h4, h5, h6⟩ := hrw.mem v hv
    refine assign_two (T := a) (x := .str (rowText x) tt) (y := .ref b) hh ⟨_, hk.1 _ _ h1 h4, rfl, _, rfl⟩ (lookup_relabel_local ht) (lookup_relabel_local hl) (by simp [compEnvC, relabel, hkind]) hns ?_
    intro h' tk hn hk'
    refine q h' tk _ hn hk' ⟨x, a, tt, b, vs, n, rfl, h2, h3, h4, h5, h6, ?_, if_pos rfl⟩
    exact rfl
  elt := by
    intro C v h₃ tk₃ m₃ E' hv hk hC hns hb
    obtain ⟨x, a, tt, b, vs, n, rfl, h2, h3, h4, h5, h6, h7, h8⟩ := hb
    refine wpAny_mono (helt C h₃ tk₃ m₃ E' x tt b vs n hk hC hns h3 (hk.1 _ _ h2 h5) h6 h7 h8) (fun y s₄ q => ?_) fun _ _ e => e
    obtain ⟨h', tk, objs, e1, e2, e3, e4⟩ := q
    exact ⟨h', tk, objs, e1, e2, e3, a, tt, b, vs, n, _, _, rfl, h4, h5, h6, e4⟩ }
end
end Mine
end
section
open PySem PySem.W PyProof.Rows PySem.Calls PySem.Spec
open Mine
set_option maxRecDepth 100000
set_option maxHeartbeats 8000000
local macro_rules | `(tactic| walk_at "eval ListComp") => `(tactic| refine Stop.on ?_)
local macro_rules | `(tactic| walk_at "exec Assign cons ListComp") => `(tactic| refine Stop.on ?_)
local macro_rules | `(tactic| walk_at "subscriptTail Name Slice ref ref") => `(tactic| refine Stop.on ?_)
local macro_rules | `(tactic| walk_at "call ref") => `(tactic| refine Stop.on ?_)
theorem PySem.Challenge.cw_pe0107_01_holds : PySem.Challenge.rw_pe0107_01.Holds := by
  exact Mine.hd (by
    k_go0
    k_steps
    refine Stop.off ?_
    all_goals (try clear_value qk ek)
    rename Frag.In _ _ => X
    rename Top _ _ _ _ _ _ => T
    rename Fr _ _ _ _ => F
    rename News _ _ _ _ => N
    rename IntsAre _ _ => hI
    rename Heap.IsList _ _ _ => hLs
    rename_i w s₀ s₁ mg mb G Y fa o pm doc kV ho hg X' V GL B TE TW w9 w8 M w7 w6 hcd script hs hlay0 hL hr hl2 w4 w3 sa svs ws ra w1 r0 hr' hcond hcond' K0 hD h₁
    clear hs hlay0 hL hr hl2 ra w1 r0 hr' hD TE TW B GL V X' M hcd
    refine law_assign s₁.heap.objs.size (fun v m => m (Str.ofString "x") = some v) R1 rfl (by with_unfolding_all rfl) rfl rfl (by decide) rfl (by decide) rfl rfl ?_ (by intro _; rfl)
    replace F := fr_map F (m' := fun y => if y = Str.ofString "script" then some (Value.ref sa) else none) (map_ext [Str.ofString "script"] (by simp only [List.forall_mem_cons]; exact ⟨rfl, List.forall_mem_nil _⟩)
      (by intro y hy; have h1 : (y == Str.ofString "script") = false := beq_false_of_ne (fun e => hy (List.mem_singleton.mpr e)); have h2 : ¬ y = Str.ofString "script" := fun e => hy (List.mem_singleton.mpr e); simp [List.lookup, h1, h2]))
    k_steps
    refine Stop.off ?_
    have hsl : svs.length ≤ 63 := by rw [hI.length]; omega
    refine kmk_slice_ints F N (hLs.at fun o e => F.keep _ o e) .none (.int _ _) hI (kmk_upto hI (by omega)) rfl ?_ (by with_unfolding_all rfl) (by kmk_pure) (by rw [sizeLine_eq]; simp; omega)
    intro D1 ws1 h1 F1 N1 _ hI1 _ _
    change IntsAre ws1 (script.take 4) at hI1
    have hw1 : ws1.length ≤ 4 := by rw [hI1.length, List.length_take]; omega
    clear F N
    k_steps
    refine Stop.off ?_
    rename Fr _ _ _ _ => F2
    rename News _ _ _ _ => N2
    rename IntsAre _ (List.take 4 script ++ _) => hI2
    rename_i l2 h1' hl21 D2 ws2 h2 hlt
    have hD2 := N2 _ (List.mem_cons_self ..)
    have hw2 : ws2.length ≤ 9 := by rw [hI2.length, List.length_append, List.length_take]; show _ + 5 ≤ 9; omega
    generalize hxs : List.take 4 script ++ [5638713, 72, 64707212, 9411940, 1512836] = xs at hI2
    clear hI1 hw1 hI hLs hl21 hlt hxs
    refine ⟨D2, ws2, _, rfl, ⟨⟨_, hD2.1, rfl, _, rfl⟩, hD2.2.1, fr_own F2, by rw [sizeLine_eq]; omega, ?_, ?_, ?_⟩, F2.ns, ?_⟩
    · intro I i v s Q E' _ _ q
      exact wpAny_pure q
    · intro C v s₃ m₃ Q' E' _ _ _ hns q
      exact wpAny_assign_Name (wpAny_storeName_local rfl hns (fun h' hn hs => q h' _ _ hn (fun b o hb e => hs.extBut b o hb e) (if_pos rfl)) rfl)
    · intro C v h₃ tk₃ m₃ E' hv hk hC hns hb
      obtain ⟨x, t, rfl⟩ := ints_mem hI2 v hv
      have F3 := fr_kp F2 hk
      obtain ⟨oC, N3, nC⟩ := own_news F2 hC hns
      replace hb : m₃ (Str.ofString "x") = some (Value.int x t) := hb
      clear F2 N2 hI2 hns hk hD2
      k_steps
      refine Stop.off ?_
      refine row_spec (X.keeps F3.keep) (T.keeps F3.keep) (by show callerA.depth + 1 < recursionLimit; decide) rfl ?_
      rintro a h' tk e hfr ⟨tt, b, vs, n, ha, hb, hbf, hi⟩
      refine ⟨h', tk, [(a, _), (b, _)], rfl, Kp.of_ext e, ?_, x, t, a, tt, b, vs, n, rfl, rfl, rfl, hi⟩
      intro p hp
      rcases List.mem_cons.mp hp with rfl | hp
      · exact ⟨hfr, ha⟩
      · rw [List.mem_singleton.mp hp]; exact ⟨hbf, hb⟩
    · intro D3 h3 tk3 ys3 hD3 hpl3 hm3 hk3 hns3
      have F3 := fr_set F2 hk3 hns3
      have hrows := rows_of hI2 hm3 (fr_own F2) (fun b e => fr_none F2 b e)
      obtain ⟨n3, hoD3⟩ := hpl3
      have hDL3 : D3 ≠ s₁.heap.objs.size := by
        intro e; obtain ⟨o, eo⟩ := fr_own F2; rw [e] at hD3; rw [show _ = _ from eo] at hD3; cases hD3
      have N3 : News s₁.heap s₁.heap.objs.size h3 [(D3, W.listOf (List.toArray ys3) n3)] := fun p hp => by
        rw [List.mem_singleton.mp hp]; exact ⟨hoD3, hDL3, fr_none F2 _ hD3⟩
      have hy3 : ys3.length ≤ 9 := by rw [← paired_len hm3]; exact hw2
      clear hm3 hk3 hns3 hD3 hD2 N2 F2 hI2 hw2
      k_steps
      refine Stop.off ?_
      refine law_assign s₁.heap.objs.size (BV s₁.heap s₁.heap.objs.size h3) (RV h3 (fun txt lys y objs => ∃ t, y = Value.str (spell txt lys) t)) rfl (by with_unfolding_all rfl) rfl rfl (by decide) rfl (by decide) rfl rfl ?_ (by intro _; rfl)
      k_steps
      refine Stop.off ?_
      refine ⟨D3, ys3, _, rfl, rows_turns _ rfl rfl F3 hoD3 hDL3 hrows hy3 rfl rfl rfl ?_, F3.ns, ?_⟩
      · intro C h₃ tk₃ m₃ E' x tt b vs n hk hC hns hb0 hb hi ht hl
        have F4 := fr_kp F3 hk
        obtain ⟨oC, N4, nC⟩ := own_news F3 hC hns
        clear F3 N3 hns hk
        k_steps
        refine Stop.off ?_
        refine whole_spec (X.keeps F4.keep) (T.keeps F4.keep) rfl (by show callerA.depth + 1 + 2 < recursionLimit; decide) (rowText_len x) (rowLayers_len x).1 (rowLayers_lt x) ⟨_, hb, rfl, _, rfl⟩ hi ?_
        intro t' h' tk e
        exact ⟨h', tk, [], rfl, Kp.of_ext e, (by intro p hp; cases hp), t', rfl⟩
      · intro D4 h4 tk4 zs4 hD4 hpl4 hm4 hk4 hns4
        have F4 := fr_set F3 hk4 hns4
        have hrows4 := hrows.kp hk4
        have hw4 := strs_of (g := fun x => spell (rowText x) (rowLayers x)) (rv_of hrows hm4)
        have hz4 : zs4.length ≤ 9 := by rw [← paired_len hm4]; exact hy3
        obtain ⟨n4, hoD4⟩ := hpl4
        have hDL4 : D4 ≠ s₁.heap.objs.size := off_own F3 hD4
        have hoD3' := hk4 _ _ hDL3 hoD3
        have N4 : News s₁.heap s₁.heap.objs.size h4 [(D4, W.listOf (List.toArray zs4) n4), (D3, W.listOf (List.toArray ys3) n3)] := news_two hoD4 hDL4 (fr_none F3 _ hD4) hoD3' hDL3 (N3 _ (List.mem_cons_self ..)).2.2
        clear hm4 hk4 hns4 hD4 N3 F3 hrows hoD3
        k_steps
        refine Stop.off ?_
        refine law_comp s₁.heap.objs.size (BV s₁.heap s₁.heap.objs.size h4) (RV h4 (fun txt lys y objs => ∃ t, y = Value.str (spell txt lys) t)) rfl rfl (by decide) rfl (by decide) ?_ (by intro _; rfl)
        k_steps
        refine Stop.off ?_
        refine ⟨D3, ys3, rfl, rows_turns _ rfl rfl F4 hoD3' hDL3 hrows4 hy3 rfl rfl rfl ?_, ?_⟩
        · intro C h₃ tk₃ m₃ E' x tt b vs n hk hC hns hb0 hb hi ht hl
          have F5 := fr_kp F4 hk
          obtain ⟨oC, N5, nC⟩ := own_news F4 hC hns
          clear F4 N4 hns hk
          k_steps
          refine Stop.off ?_
          refine spelled_spec (X.keeps F5.keep) (T.keeps F5.keep) rfl (by show callerA.depth + 1 + 2 < recursionLimit; decide) (rowText_len x) (rowLayers_len x).1 (rowLayers_lt x) ⟨_, hb, rfl, _, rfl⟩ hi ?_
          intro t' h' tk e
          exact ⟨h', tk, [], rfl, Kp.of_ext e, (by intro p hp; cases hp), t', rfl⟩
        · intro D5 h5 tk5 us5 hD5 hpl5 hm5 hk5
          have F5 := fr_kp F4 hk5
          have hrows5 := hrows4.kp hk5.1
          have hw5 := strs_of (g := fun x => spell (rowText x) (rowLayers x)) (rv_of hrows4 hm5)
          have hoD4' := hk5.1 _ _ hDL4 hoD4
          have hoD3'' := hk5.1 _ _ hDL3 hoD3'
          have N5 : News s₁.heap s₁.heap.objs.size h5 [(D4, W.listOf (List.toArray zs4) n4), (D3, W.listOf (List.toArray ys3) n3)] := news_two hoD4' hDL4 (N4 _ (List.mem_cons_self ..)).2.2 hoD3'' hDL3 (N4 _ (List.mem_cons_of_mem _ (List.mem_cons_self ..))).2.2
          have hisl5 := hpl5.isList
          clear hm5 hk5 hD5 N4 F4 hrows4 hoD3' hoD4 hpl5
          refine ne_strs_same (ts := xs.map fun x => spell (rowText x) (rowLayers x)) ⟨_, hoD4', rfl, _, rfl⟩ hw4 hisl5 hw5 (fun t ht => by obtain ⟨x, _, rfl⟩ := List.mem_map.mp ht; exact strOk_of (spell_ok _ (rowText_ok x))) (by show callerA.units + 3 + 64 < cLine; decide) (wpAny_truthy_bool ?_)
          simp only [Bool.false_eq_true, if_false]
          clear hisl5 hw5
          k_steps
          refine Stop.off ?_
          refine law_comp s₁.heap.objs.size (fun v m => m (Str.ofString "whole") = some v) R4 rfl rfl (by decide) rfl (by decide) ?_ (by intro _; rfl)
          k_steps
          refine Stop.off ?_
          refine ⟨D4, zs4, rfl, ⟨⟨_, hoD4', rfl, _, rfl⟩, hDL4, fr_own F5, by rw [sizeLine_eq]; omega, ?_, ?_, ?_⟩, ?_⟩
          · intro I i v s Q E' _ _ q
            exact wpAny_pure q
          · intro C v s₃ m₃ Q' E' _ _ _ hns q
            exact wpAny_assign_Name (wpAny_storeName_local rfl hns (fun h' hn hs => q h' _ _ hn (fun b o hb e => hs.extBut b o hb e) (if_pos rfl)) rfl)
          · intro C v h₃ tk₃ m₃ E' hv hk hC hns hb
            obtain ⟨x, hx, t, rfl⟩ := strs_mem hw4 v hv
            have hxl : x.length ≤ 100000 := by
              obtain ⟨z, _, rfl⟩ := List.mem_map.mp hx
              have := spell_small (rowText_len z) (rowLayers_len z).1
              show (spell (rowText z) (rowLayers z)).length ≤ 100000
              omega
            have F6 := fr_kp F5 hk
            obtain ⟨oC, N6, nC⟩ := own_news F5 hC hns
            replace hb : m₃ (Str.ofString "whole") = some (Value.str x t) := hb
            clear F5 N5 hns hk hx hv hw4
            k_steps
            refine Stop.off ?_
            refine read_spec ((below_caller s₁.heap).push F6) X T ?_ (X.keeps F6.keep) (T.keeps F6.keep) (by show callerA.depth + 1 + 1 < recursionLimit; decide) rfl hxl (by show callerA.units + 3 + 20 < cLine; decide) ?_
            · intro b hbm
              obtain ⟨o, es, n, e, hdd, _⟩ := F6.ns
              have : b = s₁.heap.objs.size := by simpa [envOf, envOfC] using hbm
              subst this
              exact ⟨o, es, n, e, hdd⟩
            · intro a h' tk vs n hk1 hk2 hfr hvs ha
              refine ⟨h', tk, [(a, _)], rfl, ⟨fun b o hb e => hk1 b o e ?_, fun o e => hk2 _ o e ?_⟩, ?_, x, t, a, vs, n, rfl, rfl, rfl, hvs⟩
              · intro hm
                exact hb (by simpa [envOf, envOfC] using hm)
              · simp [envOf, envOfC]
              · intro p hp
                rw [List.mem_singleton.mp hp]; exact ⟨hfr, ha⟩
          · intro D6 h6 tk6 us6 hD6 hpl6 hm6 hk6
            have F6 := fr_kp F5 hk6
            have hrows6 := hrows5.kp hk6.1
            have htold6 := told_read hw4 hm6 (fr_own F5)
            have hDL6 : D6 ≠ s₁.heap.objs.size := off_own F5 hD6
            have hoD3x := hk6.1 _ _ hDL3 hoD3''
            obtain ⟨n6, hoD6⟩ := hpl6
            have N6 : News s₁.heap s₁.heap.objs.size h6 [(D6, W.listOf (List.toArray us6) n6), (D3, W.listOf (List.toArray ys3) n3)] := news_two hoD6 hDL6 (fr_none F5 _ hD6) hoD3x hDL3 (N5 _ (List.mem_cons_of_mem _ (List.mem_cons_self ..))).2.2
            clear hm6 hk6 hD6 N5 F5 hrows5 hoD3'' hoD4' hw4
            k_steps
            refine Stop.off ?_
            refine law_comp s₁.heap.objs.size (BV s₁.heap s₁.heap.objs.size h6) (RV h6 R5) rfl rfl (by decide) rfl (by decide) ?_ (by intro _; rfl)
            k_steps
            refine Stop.off ?_
            refine ⟨D3, ys3, rfl, rows_turns _ rfl rfl F6 hoD3x hDL3 hrows6 hy3 rfl rfl rfl ?_, ?_⟩
            · intro C h₃ tk₃ m₃ E' x tt b vs n hk hC hns hb0 hb hi ht hl
              have F7 := fr_kp F6 hk
              obtain ⟨oC, N7, nC⟩ := own_news F6 hC hns
              clear F6 N6 hns hk htold6
              k_steps
              refine Stop.off ?_
              refine due_spec (hb := s₁.heap) X T F7.keep hb0 rfl (by show callerA.depth + 1 + 3 < recursionLimit; decide) (by show callerA.units + 3 + 100 < cLine; decide) (rowText_len x) (rowLayers_len x).1 (rowLayers_lt x) hb hi ?_
              intro a h' tk vr nr e hfr hvr ha
              refine ⟨h', tk, [(a, _)], rfl, Kp.of_ext e, ?_, a, vr, nr, rfl, rfl, hvr⟩
              intro p hp
              rw [List.mem_singleton.mp hp]; exact ⟨hfr, ha⟩
            · intro D7 h7 tk7 us7 hD7 hpl7 hm7 hk7
              have F7 := fr_kp F6 hk7
              have htold7 := told_due (rv_of hrows6 hm7) (fr_own F6)
              have htold6' := htold6.kp hk7
              have hoD6' := hk7.1 _ _ hDL6 hoD6
              refine eq_lists_same (f := due) ⟨_, hoD6', rfl, _, rfl⟩ htold6'.lists hpl7.isList htold7.lists (fun x _ => due_ok _ (rowText_ok x) _ _) (by show callerA.units + 3 + 64 < cLine; decide) ?_
              clear hm7 hk7 hD7 N6 F6 hrows6 htold6 htold7 htold6'
              k_steps)
end
