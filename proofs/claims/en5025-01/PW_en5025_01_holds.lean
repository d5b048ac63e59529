import PyProof.Rows.All
import Wide.All
import OpenK.AllK
import Wide.FinOn
import PySem.Challenge.RW_en5025_01
set_option Elab.async false
section
open PySem PySem.W PyProof.Rows
set_option maxRecDepth 100000
set_option maxHeartbeats 0
namespace Mine
local macro_rules | `(tactic| o_head (kmHook $k $a (fun _ => by kernel_rfl) $t)) => `(tactic| o_head (kmHook $k $a (fun P9 => by kernel_rfl) [34, 46]))
open_top hd for PySem.Challenge.rw_en5025_01
end Mine
end
section
open PySem PySem.W PyProof.Rows
set_option maxRecDepth 100000
namespace Mine
theorem s34 : Str.ofString "\"" = ⟨#[34]⟩ := by decide +kernel
theorem s92 : Str.ofString "\\" = ⟨#[92]⟩ := by decide +kernel
theorem one_eq {n k : Nat} : ((⟨#[n]⟩ : Str) == ⟨#[k]⟩) = (n == k) := by
  rw [Bool.eq_iff_iff, beq_iff_eq, beq_iff_eq]
  constructor
  · intro e; injection e with e; injection e with e; injection e with e
  · intro e; rw [e]
def qtN (c : Nat) : List Nat := if c = 34 ∨ c = 92 then [92, c] else [c]
def qtP (pre : List Int) : Str := ⟨(34 :: pre.flatMap (fun c => qtN c.toNat)).toArray⟩
def lawQuoted (x : Str) : Str := ⟨(34 :: (x.cps.toList.flatMap qtN ++ [34])).toArray⟩
theorem qtP_nil : Str.ofString "\"" = qtP [] := by rw [s34]; rfl
theorem qtP_snoc (pre : List Int) (n : Nat) : qtP (pre ++ [(n : Int)]) = ⟨(qtP pre).cps ++ (qtN n).toArray⟩ := by
  simp [qtP]
theorem app_cps (a b : Str) : a ++ b = ⟨a.cps ++ b.cps⟩ := rfl
theorem qt_start : Str.ofString "\"" = qtP [] ∧ (Str.ofString "\"").length ≤ 2 * ([] : List Int).length + 1 := ⟨qtP_nil, by rw [s34]; decide⟩
theorem qt_esc {a : Str} {pre : List Int} {n : Nat} (h : a = qtP pre) (hl : a.length ≤ 2 * pre.length + 1) (e : n = 34 ∨ n = 92) :
    a ++ Str.ofString "\\" ++ ⟨#[n]⟩ = qtP (pre ++ [(n : Int)]) ∧ (a ++ Str.ofString "\\" ++ ⟨#[n]⟩).length ≤ 2 * (pre ++ [(n : Int)]).length + 1 := by
  subst h
  refine ⟨?_, ?_⟩
  · rw [qtP_snoc, s92]; simp only [qtN, if_pos e, app_cps]; congr 1
  · rw [s92]; simp only [app_cps, Str.length, Array.size_append, List.length_append, List.length_cons, List.length_nil] at *; simp at *; omega
theorem qt_esc1 {a : Str} {pre : List Int} {n : Nat} (h : a = qtP pre) (hl : a.length ≤ 2 * pre.length + 1) (e : ((⟨#[n]⟩ : Str) == Str.ofString "\"") = true) :
    a ++ Str.ofString "\\" ++ ⟨#[n]⟩ = qtP (pre ++ [(n : Int)]) ∧ (a ++ Str.ofString "\\" ++ ⟨#[n]⟩).length ≤ 2 * (pre ++ [(n : Int)]).length + 1 :=
  qt_esc h hl (.inl (by rw [s34, one_eq] at e; simpa using e))
theorem qt_esc2 {a : Str} {pre : List Int} {n : Nat} (h : a = qtP pre) (hl : a.length ≤ 2 * pre.length + 1) (e : ((⟨#[n]⟩ : Str) == Str.ofString "\\") = true) :
    a ++ Str.ofString "\\" ++ ⟨#[n]⟩ = qtP (pre ++ [(n : Int)]) ∧ (a ++ Str.ofString "\\" ++ ⟨#[n]⟩).length ≤ 2 * (pre ++ [(n : Int)]).length + 1 :=
  qt_esc h hl (.inr (by rw [s92, one_eq] at e; simpa using e))
theorem qt_plain {a : Str} {pre : List Int} {n : Nat} (h : a = qtP pre) (hl : a.length ≤ 2 * pre.length + 1) (e1 : ((⟨#[n]⟩ : Str) == Str.ofString "\"") = false) (e2 : ((⟨#[n]⟩ : Str) == Str.ofString "\\") = false) :
    a ++ ⟨#[n]⟩ = qtP (pre ++ [(n : Int)]) ∧ (a ++ ⟨#[n]⟩).length ≤ 2 * (pre ++ [(n : Int)]).length + 1 := by
  subst h
  rw [s34, one_eq] at e1; rw [s92, one_eq] at e2
  refine ⟨?_, ?_⟩
  · rw [qtP_snoc]; simp only [qtN, if_neg (by simp at e1 e2; omega : ¬ (n = 34 ∨ n = 92)), app_cps]
  · simp only [app_cps, Str.length, Array.size_append, List.length_append, List.length_cons, List.length_nil] at *; simp at *; omega
theorem qt_end {a x : Str} (h : a = qtP (KStt.codes x)) : a ++ Str.ofString "\"" = lawQuoted x := by
  subst h; rw [s34]; simp [qtP, KStt.codes, lawQuoted, app_cps, List.flatMap_map]

def tokS : Str := Str.ofString "!#$%&'*+-.^_`|~0123456789ABCDEFGHIJKLMNOPQRSTUVWXYZabcdefghijklmnopqrstuvwxyz"
def lawIsToken (x : Str) : Bool := !x.cps.toList.isEmpty && x.cps.toList.all (fun c => decide (c ∈ tokS.cps.toList))
theorem ne_empty (x : Str) : (x != Str.ofString "") = !x.cps.toList.isEmpty := by
  obtain ⟨⟨l⟩⟩ := x
  have e : Str.ofString "" = ⟨#[]⟩ := by decide +kernel
  rw [e]
  cases l with
  | nil => decide
  | cons a r => rw [Bool.eq_iff_iff]; simp
def outOf (tok : Str) (a : Str) : Bool := !(!(Builtin.Str.occurrences tok a 0 tok.length 1).isEmpty)
theorem outOf_one (tok : Str) (c : Nat) : outOf tok ⟨#[c]⟩ = !decide (c ∈ tok.cps.toList) := by
  unfold outOf; rw [StrLaws.found_one]
theorem tok_yes {x : Str} (h : (x != Str.ofString "") = true) : ((signs x).filter (outOf tokS)).isEmpty = lawIsToken x := by
  rw [ne_empty] at h
  unfold lawIsToken signs
  rw [h, Bool.true_and]
  generalize x.cps.toList = l
  induction l with
  | nil => rfl
  | cons c r ih =>
    rw [List.map_cons, List.filter_cons, List.all_cons, ← ih, outOf_one]
    by_cases hc : c ∈ tokS.cps.toList
    · rw [decide_eq_true hc]; rfl
    · rw [decide_eq_false hc]; rfl
theorem tok_no {x : Str} (h : (x != Str.ofString "") = false) : (x != Str.ofString "") = lawIsToken x := by
  have h2 := h
  rw [ne_empty] at h
  unfold lawIsToken
  rw [h2, h]; rfl

noncomputable def rd : List Nat → List Nat
  | [] => []
  | [c] => [c]
  | c :: d :: r => if c = 92 ∧ d ≠ 10 then d :: rd r else c :: rd (d :: r)
def mid (x : Str) : Str := ⟨((x.cps.toList.drop 1).take (x.length - 2)).toArray⟩
def isQ (x : Str) : Bool := decide (2 ≤ x.length) && decide (x.cps.toList.getD 0 0 = 34) && decide (x.cps.toList.getD (x.length - 1) 0 = 34)
noncomputable def lawRead (x : Str) : Str := if isQ x = true then ⟨(rd (mid x).cps.toList).toArray⟩ else x
theorem slice_mid {x : Str} (h : 2 ≤ x.length) : Txt.slice x (some 1) (some ((x.length : Int) - 1)) = mid x := by
  show StrLaws.sliceText x (some 1) (some ((x.length : Int) - 1)) = mid x
  have hl : x.cps.toList.length = x.length := by simp [Str.length]
  rw [StrLaws.sliceText_plain ⟨by omega, by omega, by omega⟩]
  unfold mid
  congr 2
  congr 1
  omega
theorem slice_mid_neg {x : Str} (h : 2 ≤ x.length) : Txt.slice x (some 1) (some (-1)) = mid x := by
  rw [← slice_mid h]
  show StrLaws.sliceText x (some 1) (some (-1)) = StrLaws.sliceText x (some 1) (some ((x.length : Int) - 1))
  rw [StrLaws.sliceText_neg_hi x _ (by omega) (by omega)]
  congr 2
theorem item_at {y : Str} {k : Int} (h0 : 0 ≤ k) (h1 : k < y.length) : Txt.item y k = ⟨#[y.cps.toList.getD k.toNat 0]⟩ := by
  unfold Txt.item Txt.charAt
  rw [seqIndex_of h0 h1]
  have hl : k.toNat < y.cps.size := by have : y.length = y.cps.size := rfl; omega
  simp [hl, List.getD]
theorem s10 : Str.ofString "\n" = ⟨#[10]⟩ := by decide +kernel
theorem s0 : Str.ofString "" = ⟨#[]⟩ := by decide +kernel
def RdI (y : Str) (k : Int) (out : Str) : Prop := out.cps.toList ++ rd (y.cps.toList.drop k.toNat) = rd y.cps.toList
theorem rd_start (y : Str) : (0 : Int) ≤ 0 ∧ (0 : Int) ≤ (y.length : Int) ∧ ((Str.ofString "").length : Int) ≤ 0 ∧ RdI y 0 (Str.ofString "") := by
  rw [s0]; refine ⟨by omega, by omega, by decide, ?_⟩
  unfold RdI; simp
theorem drop_at {l : List Nat} {k : Nat} (h : k < l.length) : l.drop k = l.getD k 0 :: l.drop (k + 1) := by
  rw [List.drop_eq_getElem_cons h]; simp [List.getD, h]
theorem rd_esc {y out : Str} {k : Int} (h0 : 0 ≤ k) (hl : (out.length : Int) ≤ k) (hI : RdI y k out) (e1 : (Txt.item y k == Str.ofString "\\") = true) (e2 : k + 1 < (y.length : Int)) (e3 : (Txt.item y (k + 1) != Str.ofString "\n") = true) :
    0 ≤ k + 2 ∧ k + 2 ≤ (y.length : Int) ∧ ((out ++ Txt.item y (k + 1)).length : Int) ≤ k + 2 ∧ RdI y (k + 2) (out ++ Txt.item y (k + 1)) := by
  have hn : y.cps.toList.length = y.length := by simp [Str.length]
  rw [item_at h0 (by omega), s92, one_eq] at e1
  rw [item_at (by omega) e2, s10, bne, one_eq] at e3
  rw [item_at (by omega) e2]
  have n1 : (k + 1).toNat = k.toNat + 1 := by omega
  have n2 : (k + 2).toNat = k.toNat + 2 := by omega
  rw [n1] at e3 ⊢
  refine ⟨by omega, by omega, ?_, ?_⟩
  · simp only [app_cps, Str.length, Array.size_append] at *; simp at *; omega
  · unfold RdI at hI ⊢
    rw [n2, ← hI, drop_at (by omega : k.toNat < _), drop_at (by omega : k.toNat + 1 < _), rd, if_pos (by simpa using And.intro e1 e3)]
    simp [app_cps]
theorem rd_step {y out : Str} {k : Int} (h0 : 0 ≤ k) (h1 : k < (y.length : Int)) (hl : (out.length : Int) ≤ k) (hI : RdI y k out)
    (h : ¬ (y.cps.toList.getD k.toNat 0 = 92 ∧ k + 1 < (y.length : Int) ∧ y.cps.toList.getD (k.toNat + 1) 0 ≠ 10)) :
    0 ≤ k + 1 ∧ k + 1 ≤ (y.length : Int) ∧ ((out ++ Txt.item y k).length : Int) ≤ k + 1 ∧ RdI y (k + 1) (out ++ Txt.item y k) := by
  have hn : y.cps.toList.length = y.length := by simp [Str.length]
  rw [item_at h0 h1]
  have n1 : (k + 1).toNat = k.toNat + 1 := by omega
  refine ⟨by omega, by omega, ?_, ?_⟩
  · simp only [app_cps, Str.length, Array.size_append] at *; simp at *; omega
  · unfold RdI at hI ⊢
    rw [n1, ← hI, drop_at (by omega : k.toNat < _)]
    by_cases h2 : k + 1 < (y.length : Int)
    · rw [drop_at (by omega : k.toNat + 1 < _), rd, if_neg (fun e => h ⟨e.1, h2, e.2⟩)]
      simp [app_cps]
    · have e : y.cps.toList.drop (k.toNat + 1) = [] := List.drop_eq_nil_of_le (by omega)
      rw [e]; simp [app_cps, rd]
theorem rd_step1 {y out : Str} {k : Int} (h0 : 0 ≤ k) (h1 : k < (y.length : Int)) (hl : (out.length : Int) ≤ k) (hI : RdI y k out) (e1 : (Txt.item y k == Str.ofString "\\") = false) :
    0 ≤ k + 1 ∧ k + 1 ≤ (y.length : Int) ∧ ((out ++ Txt.item y k).length : Int) ≤ k + 1 ∧ RdI y (k + 1) (out ++ Txt.item y k) := by
  rw [item_at h0 (by omega), s92, one_eq] at e1
  exact rd_step h0 h1 hl hI fun e => by simp at e1; exact e1 (by simpa using e.1)
theorem rd_step2 {y out : Str} {k : Int} (h0 : 0 ≤ k) (h1 : k < (y.length : Int)) (hl : (out.length : Int) ≤ k) (hI : RdI y k out) (e1 : ¬ k + 1 < (y.length : Int)) :
    0 ≤ k + 1 ∧ k + 1 ≤ (y.length : Int) ∧ ((out ++ Txt.item y k).length : Int) ≤ k + 1 ∧ RdI y (k + 1) (out ++ Txt.item y k) :=
  rd_step h0 h1 hl hI fun e => e1 e.2.1
theorem rd_step3 {y out : Str} {k : Int} (h0 : 0 ≤ k) (h1 : k < (y.length : Int)) (hl : (out.length : Int) ≤ k) (hI : RdI y k out) (h2 : k + 1 < (y.length : Int)) (e1 : (Txt.item y (k + 1) != Str.ofString "\n") = false) :
    0 ≤ k + 1 ∧ k + 1 ≤ (y.length : Int) ∧ ((out ++ Txt.item y k).length : Int) ≤ k + 1 ∧ RdI y (k + 1) (out ++ Txt.item y k) := by
  rw [item_at (by omega) h2, s10, bne, one_eq] at e1
  have n1 : (k + 1).toNat = k.toNat + 1 := by omega
  rw [n1] at e1
  exact rd_step h0 h1 hl hI fun e => by simp at e1; exact e.2.2 (by simpa using e1)
theorem isQ_eq {x : Str} (h : ¬ (x.length : Int) < 2) : isQ x = ((Txt.item x 0 == Str.ofString "\"") && (Txt.item x ((x.length : Int) - 1) == Str.ofString "\"")) := by
  rw [item_at (by omega) (by omega), item_at (by omega) (by omega), s34, one_eq, one_eq]
  have n1 : ((x.length : Int) - 1).toNat = x.length - 1 := by omega
  have n2 : ((0 : Int)).toNat = 0 := rfl
  rw [n1, n2]
  unfold isQ
  rw [decide_eq_true (by omega : 2 ≤ x.length), Bool.true_and]
  rfl
theorem read_short {x : Str} (h : (x.length : Int) < 2) : x = lawRead x := by
  have e : isQ x = false := by unfold isQ; rw [decide_eq_false (by omega)]; rfl
  unfold lawRead; rw [e]; rfl
theorem read_head {x : Str} (h : ¬ (x.length : Int) < 2) (e : (Txt.item x 0 != Str.ofString "\"") = true) : x = lawRead x := by
  have e : isQ x = false := by rw [isQ_eq h]; simp [bne] at e; rw [Bool.and_eq_false_iff]; left; simpa using e
  unfold lawRead; rw [e]; rfl
theorem read_last {x : Str} (h : ¬ (x.length : Int) < 2) (e : (Txt.item x ((x.length : Int) - 1) != Str.ofString "\"") = true) : x = lawRead x := by
  have e : isQ x = false := by rw [isQ_eq h]; simp [bne] at e; rw [Bool.and_eq_false_iff]; right; simpa using e
  unfold lawRead; rw [e]; rfl
theorem read_in {x out : Str} {k : Int} (h : ¬ (x.length : Int) < 2) (e1 : (Txt.item x 0 != Str.ofString "\"") = false) (e2 : (Txt.item x ((x.length : Int) - 1) != Str.ofString "\"") = false)
    (hk : 0 ≤ k) (hI : RdI (Txt.slice x (some 1) (some ((x.length : Int) - 1))) k out) (h3 : ¬ k < ((Txt.slice x (some 1) (some ((x.length : Int) - 1))).length : Int)) : out = lawRead x := by
  have e : isQ x = true := by
    rw [isQ_eq h, Bool.and_eq_true]
    exact ⟨by simpa [bne] using e1, by simpa [bne] using e2⟩
  unfold lawRead; rw [if_pos e]
  rw [slice_mid (by omega)] at hI h3
  unfold RdI at hI
  have hn : (mid x).cps.toList.length = (mid x).length := by simp [Str.length]
  rw [List.drop_eq_nil_of_le (by omega)] at hI
  rw [rd, List.append_nil] at hI
  rw [← hI]

def rep (c : Nat) (z : List Nat) (l : List Nat) : List Nat := l.flatMap fun k => if k = c then z else [k]
theorem rep_append (c : Nat) (z a b : List Nat) : rep c z (a ++ b) = rep c z a ++ rep c z b := by simp [rep]
theorem rep_free (c : Nat) (z : List Nat) : ∀ l : List Nat, c ∉ l → rep c z l = l
  | [], _ => rfl
  | k :: r, h => by
    have h1 : ¬ k = c := fun e => h (e ▸ List.mem_cons_self ..)
    have ih := rep_free c z r fun m => h (List.mem_cons_of_mem _ m)
    show (if k = c then z else [k]) ++ rep c z r = k :: r
    rw [if_neg h1, ih]; rfl
theorem rep_join (c : Nat) (z : Str) : ∀ parts : List Str, (∀ p ∈ parts, c ∉ p.cps.toList) → rep c z.cps.toList (Str.join ⟨#[c]⟩ parts).cps.toList = (Str.join z parts).cps.toList
  | [], _ => rfl
  | [p], h => rep_free c _ _ (h p (List.mem_singleton.mpr rfl))
  | p :: q :: r, h => by
    have ih := rep_join c z (q :: r) fun a ha => h a (List.mem_cons_of_mem _ ha)
    show rep c z.cps.toList (p ++ ⟨#[c]⟩ ++ Str.join ⟨#[c]⟩ (q :: r)).cps.toList = (p ++ z ++ Str.join z (q :: r)).cps.toList
    simp only [Str.cps_append, Array.toList_append]
    rw [rep_append, rep_append, ih, rep_free c _ _ (h p (List.mem_cons_self ..))]
    have e : rep c z.cps.toList [c] = z.cps.toList := by simp [rep]
    show p.cps.toList ++ rep c z.cps.toList [c] ++ _ = _
    rw [e]
theorem replace_rep (x z : Str) (c : Nat) : (Txt.replace x ⟨#[c]⟩ z).cps.toList = rep c z.cps.toList x.cps.toList := by
  rw [StrLaws.replace_one, ← rep_join c z _ (StrLaws.split_free x c), StrLaws.join_split]
theorem s9292 : Str.ofString "\\\\" = ⟨#[92, 92]⟩ := by decide +kernel
theorem s9234 : Str.ofString "\\\"" = ⟨#[92, 34]⟩ := by decide +kernel
theorem len_rep2 (c a b : Nat) : ∀ l : List Nat, (rep c [a, b] l).length ≤ 2 * l.length
  | [] => Nat.le_refl _
  | k :: r => by
    have ih := len_rep2 c a b r
    show ((if k = c then [a, b] else [k]) ++ rep c [a, b] r).length ≤ _
    split <;> simp only [List.length_append, List.length_cons, List.length_nil] <;> omega
theorem len_toList (x : Str) : x.cps.toList.length = x.length := by simp [Str.length]
theorem len_esc1 (x : Str) : (Txt.replace x (Str.ofString "\\") (Str.ofString "\\\\")).length ≤ 2 * x.length := by
  rw [s92, s9292, ← len_toList, replace_rep, ← len_toList]
  exact len_rep2 92 92 92 _
theorem len_esc2 (x : Str) : (Txt.replace x (Str.ofString "\"") (Str.ofString "\\\"")).length ≤ 2 * x.length := by
  rw [s34, s9234, ← len_toList, replace_rep, ← len_toList]
  exact len_rep2 34 92 34 _
theorem rep_rep (l : List Nat) : rep 34 [92, 34] (rep 92 [92, 92] l) = l.flatMap qtN := by
  induction l with
  | nil => rfl
  | cons k r ih =>
    have e : rep 92 [92, 92] (k :: r) = (if k = 92 then [92, 92] else [k]) ++ rep 92 [92, 92] r := rfl
    rw [e, rep_append, ih, List.flatMap_cons]
    congr 1
    by_cases h : k = 92
    · subst h; rfl
    · by_cases h2 : k = 34
      · subst h2; rfl
      · rw [if_neg h]; simp [rep, qtN, h, h2]
theorem esc_all (x : Str) : Str.ofString "\"" ++ Txt.replace (Txt.replace x (Str.ofString "\\") (Str.ofString "\\\\")) (Str.ofString "\"") (Str.ofString "\\\"") ++ Str.ofString "\"" = lawQuoted x := by
  rw [s34, s92, s9292, s9234]
  unfold lawQuoted
  rw [app_cps, app_cps]
  congr 1
  apply Array.ext'
  rw [Array.toList_append, Array.toList_append, replace_rep, replace_rep, rep_rep]
  simp
def tokC : Str := Str.ofString "!#$%&'*+-.0123456789ABCDEFGHIJKLMNOPQRSTUVWXYZ^_`abcdefghijklmnopqrstuvwxyz|~"
theorem tok_sub1 : ∀ c ∈ tokC.cps.toList, c ∈ tokS.cps.toList := by decide +kernel
theorem tok_sub2 : ∀ c ∈ tokS.cps.toList, c ∈ tokC.cps.toList := by decide +kernel
def quoteV (x : Str) (b : Bool) : Str := if (b && lawIsToken x) = true then x else lawQuoted x
theorem lawQuoted_len (x : Str) : (lawQuoted x).length ≤ 2 * x.length + 2 := by
  rw [← len_toList, ← len_toList]
  show (34 :: (x.cps.toList.flatMap qtN ++ [34])).length ≤ _
  have h : ∀ l : List Nat, (l.flatMap qtN).length ≤ 2 * l.length := by
    intro l
    induction l with
    | nil => exact Nat.le_refl _
    | cons k r ih => rw [List.flatMap_cons, List.length_append, List.length_cons]; unfold qtN at *; split <;> simp only [List.length_cons, List.length_nil] <;> omega
  have := h x.cps.toList
  simp only [List.length_cons, List.length_append, List.length_nil]; omega
theorem empty_of {x : Str} (h : (x.length : Int) = 0) : x = ⟨#[]⟩ := by
  obtain ⟨⟨l⟩⟩ := x
  cases l with
  | nil => rfl
  | cons a r => simp [Str.length] at h; omega
theorem quote_empty {x : Str} {b : Bool} (h : (x.length : Int) = 0) : Str.ofString "\"\"" = quoteV x b := by
  have e : Str.ofString "\"\"" = ⟨#[34, 34]⟩ := by decide +kernel
  rw [empty_of h, e]
  cases b <;> rfl
theorem isToken_all {x : Str} (h : (x.length : Int) ≠ 0) : lawIsToken x = (signs x).all (fun z => !(Builtin.Str.occurrences tokC z 0 tokC.length 1).isEmpty) := by
  have hn : x.cps.toList.isEmpty = false := by
    obtain ⟨⟨l⟩⟩ := x
    cases l with
    | nil => exact absurd rfl h
    | cons a r => rfl
  unfold lawIsToken signs
  rw [hn, Bool.not_false, Bool.true_and, List.all_map]
  congr 1
  funext c
  show _ = (!(Builtin.Str.occurrences tokC ⟨#[c]⟩ 0 tokC.length 1).isEmpty)
  rw [StrLaws.found_one, Bool.eq_iff_iff, decide_eq_true_eq, decide_eq_true_eq]
  exact ⟨tok_sub2 c, tok_sub1 c⟩
theorem quote_tok {x : Str} (h : (x.length : Int) ≠ 0) (e : (signs x).all (fun z => !(Builtin.Str.occurrences tokC z 0 tokC.length 1).isEmpty) = true) : x = quoteV x true := by
  unfold quoteV; rw [isToken_all h, e]; rfl
theorem quote_esc {x : Str} (h : (x.length : Int) ≠ 0) (e : (signs x).all (fun z => !(Builtin.Str.occurrences tokC z 0 tokC.length 1).isEmpty) = false) :
    Str.ofString "\"" ++ Txt.replace (Txt.replace x (Str.ofString "\\") (Str.ofString "\\\\")) (Str.ofString "\"") (Str.ofString "\\\"") ++ Str.ofString "\"" = quoteV x true := by
  unfold quoteV; rw [isToken_all h, e, esc_all]; rfl
theorem quote_esc_no (x : Str) : Str.ofString "\"" ++ Txt.replace (Txt.replace x (Str.ofString "\\") (Str.ofString "\\\\")) (Str.ofString "\"") (Str.ofString "\\\"") ++ Str.ofString "\"" = quoteV x false := by
  rw [esc_all]; rfl
end Mine
end
section
open PySem PySem.W PyProof.Rows
set_option maxRecDepth 100000
namespace Mine
theorem rd_cons {c : Nat} {r : List Nat} (h : c ≠ 92) : rd (c :: r) = c :: rd r := by
  cases r with
  | nil => rfl
  | cons d r => rw [rd, if_neg fun e => h e.1]
theorem rd_qt : ∀ l : List Nat, rd (l.flatMap qtN) = l
  | [] => rfl
  | c :: r => by
    have ih := rd_qt r
    rw [List.flatMap_cons]
    unfold qtN
    by_cases h : c = 34 ∨ c = 92
    · rw [if_pos h]
      show rd (92 :: c :: r.flatMap qtN) = _
      rw [rd, if_pos ⟨rfl, by omega⟩, ih]
    · rw [if_neg h]
      show rd (c :: r.flatMap qtN) = _
      rw [rd_cons (by omega), ih]
theorem quoted_isQ (x : Str) : isQ (lawQuoted x) = true := by
  have hl : (lawQuoted x).length = (x.cps.toList.flatMap qtN).length + 2 := by
    rw [← len_toList]
    show (34 :: (x.cps.toList.flatMap qtN ++ [34])).length = _
    simp
  unfold isQ
  rw [Bool.and_eq_true, Bool.and_eq_true, decide_eq_true_eq, decide_eq_true_eq, decide_eq_true_eq]
  refine ⟨⟨by omega, rfl⟩, ?_⟩
  rw [hl]
  show (34 :: (x.cps.toList.flatMap qtN ++ [34])).getD _ 0 = 34
  simp [List.getD]
theorem quoted_mid (x : Str) : (mid (lawQuoted x)).cps.toList = x.cps.toList.flatMap qtN := by
  have hl : (lawQuoted x).length = (x.cps.toList.flatMap qtN).length + 2 := by
    rw [← len_toList]
    show (34 :: (x.cps.toList.flatMap qtN ++ [34])).length = _
    simp
  unfold mid
  rw [hl]
  show (((34 :: (x.cps.toList.flatMap qtN ++ [34])).drop 1).take _) = _
  simp
theorem read_quoted (x : Str) : lawRead (lawQuoted x) = x := by
  unfold lawRead
  rw [if_pos (quoted_isQ x), quoted_mid, rd_qt]
theorem token_noQ {x : Str} (h : lawIsToken x = true) : isQ x = false := by
  cases e : isQ x with
  | false => rfl
  | true =>
    unfold isQ at e
    rw [Bool.and_eq_true, Bool.and_eq_true, decide_eq_true_eq, decide_eq_true_eq] at e
    obtain ⟨⟨h1, h2⟩, _⟩ := e
    unfold lawIsToken at h
    rw [Bool.and_eq_true, List.all_eq_true] at h
    have hl := len_toList x
    have hm : x.cps.toList.getD 0 0 ∈ x.cps.toList := by
      rw [List.getD, List.getElem?_eq_getElem (by omega : 0 < x.cps.toList.length)]
      exact List.getElem_mem _
    have h3 := of_decide_eq_true (h.2 _ hm)
    rw [h2] at h3
    exact absurd h3 (by decide +kernel)
theorem read_token {x : Str} (h : lawIsToken x = true) : lawRead x = x := by
  unfold lawRead; rw [token_noQ h]; rfl
theorem quote_yes {x : Str} (h : lawIsToken x = true) : quoteV x true = x := by unfold quoteV; rw [h]; rfl
theorem quote_no {x : Str} (h : lawIsToken x = false) : quoteV x true = lawQuoted x := by unfold quoteV; rw [h]; rfl
theorem read_quote (x : Str) : lawRead (quoteV x true) = x := by
  cases h : lawIsToken x with
  | true => rw [quote_yes h, read_token h]
  | false => rw [quote_no h, read_quoted]
theorem ne_self (x : Str) : (x != x) = false := by simp
theorem ne_of {x y : Str} (h : x = y) : (x != y) = false := by rw [h]; exact ne_self y
theorem eq_of {x y : Str} (h : x = y) : (x == y) = true := by rw [h]; exact beq_self_eq_true y
theorem nq1 {x : Str} (h : lawIsToken x = true) : (quoteV x true != x) = false := ne_of (quote_yes h)
theorem nq2 {x : Str} (h : lawIsToken x = false) : (quoteV x true != lawQuoted x) = false := ne_of (quote_no h)
theorem nq3 (x : Str) : (lawRead (quoteV x true) != x) = false := ne_of (read_quote x)
theorem nq4 (x : Str) : (lawRead (lawQuoted x) != x) = false := ne_of (read_quoted x)
theorem nq5 (x : Str) : (lawRead (lawRead (lawQuoted (lawQuoted x))) == x) = true := eq_of (by rw [read_quoted, read_quoted])
theorem ite_no {b : Bool} {P R : Prop} (h : b = false) (r : R) : if b = true then P else R := by rw [h]; exact r
theorem ite_yes {b : Bool} {P R : Prop} (h : b = true) (r : P) : if b = true then P else R := by rw [if_pos h]; exact r
theorem tok_one (n : Nat) : lawIsToken ⟨#[n]⟩ = (!(Builtin.Str.occurrences tokS ⟨#[n]⟩ 0 tokS.length 1).isEmpty) := by
  rw [StrLaws.found_one]
  show (!([n] : List Nat).isEmpty && [n].all fun c => decide (c ∈ tokS.cps.toList)) = _
  simp
theorem nqC1 {n : Nat} (h : (!(Builtin.Str.occurrences tokS ⟨#[n]⟩ 0 tokS.length 1).isEmpty) = true) : (quoteV ⟨#[n]⟩ true != ⟨#[n]⟩) = false := nq1 (by rw [tok_one, h])
theorem nqC2 {n : Nat} (h : (!(Builtin.Str.occurrences tokS ⟨#[n]⟩ 0 tokS.length 1).isEmpty) = false) : (quoteV ⟨#[n]⟩ true != lawQuoted ⟨#[n]⟩) = false := nq2 (by rw [tok_one, h])
theorem len_one {n : Nat} : (⟨#[n]⟩ : Str).length ≤ 1000 := by show 1 ≤ 1000; decide
theorem nqD1 {n : Nat} (h : (Builtin.Str.occurrences (Str.ofString "!#$%&'*+-.^_`|~0123456789ABCDEFGHIJKLMNOPQRSTUVWXYZabcdefghijklmnopqrstuvwxyz") ⟨#[n]⟩ 0 (Str.ofString "!#$%&'*+-.^_`|~0123456789ABCDEFGHIJKLMNOPQRSTUVWXYZabcdefghijklmnopqrstuvwxyz").length 1).isEmpty = false) : (quoteV ⟨#[n]⟩ true != ⟨#[n]⟩) = false := nqC1 (congrArg (fun b => !b) h)
theorem nqD2 {n : Nat} (h : (Builtin.Str.occurrences (Str.ofString "!#$%&'*+-.^_`|~0123456789ABCDEFGHIJKLMNOPQRSTUVWXYZabcdefghijklmnopqrstuvwxyz") ⟨#[n]⟩ 0 (Str.ofString "!#$%&'*+-.^_`|~0123456789ABCDEFGHIJKLMNOPQRSTUVWXYZabcdefghijklmnopqrstuvwxyz").length 1).isEmpty = true) : (quoteV ⟨#[n]⟩ true != lawQuoted ⟨#[n]⟩) = false := nqC2 (congrArg (fun b => !b) h)
end Mine
end
section
open PySem PySem.W PySem.Calls PyProof.Rows
set_option maxRecDepth 100000
namespace Mine
theorem int_tok : ∀ k : Nat, k < 58 → (k = 45 ∨ 48 ≤ k) → k ∈ tokS.cps.toList := by decide +kernel
theorem int_ne (i : Int) : (Str.ofString (toString i)).cps.toList ≠ [] := by
  intro e
  have e2 : (Str.ofString (toString i)).length = 0 := by
    show (Str.ofString (toString i)).cps.size = 0
    rw [← Array.length_toList, e]; rfl
  by_cases h : i < 0
  · rw [len_text_neg h] at e2; omega
  · have e3 := PySem.W.KIN.signs_num i.toNat
    rw [Int.toNat_of_nonneg (by omega), e] at e3
    have : (Nat.toDigits 10 i.toNat).map Char.toNat = [] := e3.symm
    rw [List.map_eq_nil_iff] at this
    exact Nat.toDigits_ne_nil this
theorem int_sgn (i : Int) : ∀ c ∈ (Str.ofString (toString i)).cps.toList, c < 58 ∧ (c = 45 ∨ 48 ≤ c) := by
  intro c hc
  by_cases h : c ≠ 45 ∧ (c < 48 ∨ 57 < c)
  · exact absurd hc (int_text_free' c h i)
  · omega
theorem tok_int (i : Int) : lawIsToken (Str.ofString (toString i)) = true := by
  unfold lawIsToken
  rw [Bool.and_eq_true]
  constructor
  · rw [Bool.not_eq_true', List.isEmpty_eq_false_iff]; exact int_ne i
  · rw [List.all_eq_true]
    intro c hc
    obtain ⟨h1, h2⟩ := int_sgn i c hc
    exact decide_eq_true (int_tok c h1 h2)

theorem quoted_plain {x : Str} (h : ∀ c ∈ x.cps.toList, c ≠ 34 ∧ c ≠ 92) : lawQuoted x = Str.ofString "\"" ++ x ++ Str.ofString "\"" := by
  have e : ∀ l : List Nat, (∀ c ∈ l, c ≠ 34 ∧ c ≠ 92) → l.flatMap qtN = l := by
    intro l
    induction l with
    | nil => intro _; rfl
    | cons c r ih =>
      intro hl
      have h1 := hl c (.head _)
      rw [List.flatMap_cons, ih fun c hc => hl c (.tail _ hc)]
      have : qtN c = [c] := by unfold qtN; simp [h1.1, h1.2]
      rw [this]; rfl
  unfold lawQuoted
  rw [e _ h, s34]
  have : x = ⟨x.cps⟩ := rfl
  apply congrArg Str.mk
  apply Array.toList_inj.mp
  simp [app_cps]
theorem quoted_int (i : Int) : lawQuoted (Str.ofString (toString i)) = Str.ofString "\"" ++ Str.ofString (toString i) ++ Str.ofString "\"" :=
  quoted_plain fun c hc => by have := int_sgn i c hc; omega
theorem nqI1 (i : Int) : (quoteV (Str.ofString (toString i)) true != Str.ofString (toString i)) = false := nq1 (tok_int i)
theorem nqI2 (i : Int) : (lawQuoted (Str.ofString (toString i)) != Str.ofString "\"" ++ Str.ofString (toString i) ++ Str.ofString "\"") = false := ne_of (quoted_int i)
theorem len_int {i : Int} (h1 : -500 ≤ i) (h2 : i ≤ 499) : (Str.ofString (toString i)).length ≤ 1000 := by
  have := len_str_of_int i
  omega
end Mine
namespace Mine
theorem len_qx {x : Str} (h : x.length ≤ 1000) : (Str.ofString "\"" ++ x).length ≤ 2000 := by
  rw [Str.length_append]
  have : (Str.ofString "\"").length = 1 := by decide +kernel
  omega
theorem len_up {x : Str} (h : x.length ≤ 1000) : x.length ≤ 2000 := by omega
section
variable {prog : Program} {w : World} {A : Around} {E : Value → Shared → Prop} {s : Shared} {x y : Str} {t u : Tok}
theorem add_fit {Q : Value → Shared → Prop} (ha : x.length ≤ 2000) (hb : y.length ≤ 2000) (h : ∀ t' tk, Q (.str (x ++ y) t') { s with toks := tk }) : wpAny (model prog w) A (binaryOp .Add (.str x t) (.str y u)) Q E s :=
  PyProof.Rows.add_str h (by rw [sizeLine_eq]; omega)
end
end Mine
namespace Mine
theorem len_8 {x : Str} (h : x.length ≤ 8) : x.length ≤ 1000 := by omega
theorem len_8r {x : Str} (h : x.length ≤ 8) : x.length ≤ 20 := by omega
theorem len_8h {x : Str} (h : x.length ≤ 8) : x.length ≤ 100 := by omega
theorem len_qxq {x : Str} (h : x.length ≤ 500) : (Str.ofString "\"" ++ x ++ Str.ofString "\"").length ≤ 1000 := by
  rw [Str.length_append, Str.length_append]
  have : (Str.ofString "\"").length = 1 := by decide +kernel
  omega
theorem len_qx0 {x : Str} (h : x.length ≤ 500) : (Str.ofString "\"" ++ x).length ≤ 1000 := by
  rw [Str.length_append]
  have : (Str.ofString "\"").length = 1 := by decide +kernel
  omega
theorem len_xq0 {x : Str} (h : x.length ≤ 500) : (x ++ Str.ofString "\"").length ≤ 1000 := by
  rw [Str.length_append]
  have : (Str.ofString "\"").length = 1 := by decide +kernel
  omega
theorem len_85 {x : Str} (h : x.length ≤ 8) : x.length ≤ 500 := by omega
section
variable {M : Model} {A : Around} {E : Value → Shared → Prop} {s : Shared} {h₀ : Heap} {L : Addr} {m : Str → Option Value} {news : List (Addr × Obj)}
theorem newList_S {vs : List Value} {Q : Value → Shared → Prop} (F : Fr h₀ L s.heap m) (N : News h₀ L s.heap news) (hz : Nat.ble vs.length 16 = true)
    (h : ∀ l h', Fr h₀ L h' m → News h₀ L h' ((l, listOf vs.toArray 0) :: news) → Q (.ref l) { s with heap := h' }) : wpAny M A (newList vs) Q E s :=
  newList_K F N (fun l h' F' N' _ => h l h' F' N') (by have := Nat.le_of_ble_eq_true hz; rw [sizeLine_eq]; omega)
theorem newTuple_S {vs : List Value} {Q : Value → Shared → Prop} (F : Fr h₀ L s.heap m) (N : News h₀ L s.heap news) (hz : Nat.ble vs.length 16 = true)
    (h : ∀ D h', Fr h₀ L h' m → News h₀ L h' ((D, ({ cls := .type "tuple", data := .seq vs.toArray } : Obj)) :: news) → Q (.ref D) { s with heap := h' }) : wpAny M A (newTuple vs) Q E s :=
  kup_newTuple F N (fun l h' F' N' _ => h l h' F' N') (by have := Nat.le_of_ble_eq_true hz; rw [sizeLine_eq]; omega)
end
end Mine
end
section
open PySem PySem.W PySem.Calls PyProof.Rows PySem.Spec
set_option maxRecDepth 100000
namespace Mine
section
variable {prog : Program} {w : World} {A : Around} {E : Value → Shared → Prop} {s₁ : Shared} {K : Frag} {h₀ : Heap} {L : Addr} {m mg mb : Str → Option Value} {news : List (Addr × Obj)} {p : Program} {loose : List Str} {mean : ExcName → Option Value}

theorem srcC_tok {env : Env} {x g : Str} {p1 p2 p3 p4 : Pos} {scope : Scope} {Q : Value → Shared → Prop} {y tok : Str} {t u : Tok}
    (hh : A.handled = none) (F : Fr h₀ L s₁.heap m) (N : News h₀ L s₁.heap news) (X : K.In h₀) (T : Top p loose mean mg mb h₀) (e : nsIn K mainGlobals g = some (some (.str tok u)))
    (hg : env.globals = mainGlobals) (hk : scope.kind = .function) (kx : scope.names.lookup x = some .local) (kg : scope.names.lookup g = some .globalImplicit)
    (dx : (x == ("__debug__" : Str)) = false) (dg : (g == ("__debug__" : Str)) = false)
    (h : ∀ D (ys : List Value) n h' tk, Fr h₀ L h' m → News h₀ L h' ((D, listOf ys.toArray n) :: news) → (∀ p ∈ news, p.1 ≠ D) → CarriedAll ys (((signs y).filter (outOf tok)).map .str) → Q (.ref D) { s₁ with heap := h', toks := tk })
    (hsz : y.length ≤ sizeLine) :
    wpAny (model prog w) A (pyIter (.str y t)) (CompPost prog w A env scope x [.Compare (.Name x p1) [.NotIn] [.Name g p2] p3] (.Name x p4) Q) E s₁ := by
  unfold CompPost
  refine wpAny_pyIter_str fun o St W hst => ?_
  have up : ∀ (h' : Heap), (∀ b o', b ∉ [s₁.heap.objs.size] → (s₁.heap.push o).get? b = some o' → h'.get? b = some o') → ∀ b o', s₁.heap.get? b = some o' → h'.get? b = some o' :=
    fun h' hk b o' e => hk b o' (old_not_new e) (Heap.get?_push_of_some _ e)
  refine ⟨ItemKind.str.lift (outOf tok), fun v r => ∃ a, ItemKind.str.is a v ∧ Carried r (.str a), s₁.heap.objs.size, [s₁.heap.objs.size], [s₁.heap.objs.size], y.cps.size, SignAt y, St, rfl, W A hh, hsz, hst, ?_, ⟨?_, ?_⟩, ?_⟩
  · intro b hb
    show b < (s₁.heap.push o).objs.size
    rw [Heap.size_push, List.mem_singleton.mp hb]
    exact Nat.lt_succ_self _
  · intro C i v s₃ m₃ E' hP hn hm hk₃ htk
    obtain ⟨c, u', _, rfl⟩ := hP
    have ha : ItemKind.str.is ⟨#[c]⟩ (.str ⟨#[c]⟩ u') := ⟨u', rfl⟩
    rw [ItemKind.lift_is ha]
    have hkeep : ∀ b o', h₀.get? b = some o' → s₃.heap.get? b = some o' := fun b o' e' => up _ hk₃ b o' (F.keep b o' e')
    have hx : (compEnv scope C env).kindOf x = some .local := kx
    have hgk : (compEnv scope C env).kindOf g = some .globalImplicit := kg
    refine wpAny_bind ?_
    show wpAny (model prog w) A _ _ E' s₃
    refine wpAny_bind (wpAny_isTrue_Compare1 ?_ rfl)
    refine wpAny_Name (wpAny_loadName_local hk hx hn hm ?_) dx
    refine Name_function_global hk hgk (loadGlobal_global (env := compEnv scope C env) (mg := mg) (by show s₃.heap.Ns env.globals mg; rw [hg]; exact T.g.keeps hkeep) (mg_of X T.g e) ?_) dg
    refine notIn_str ?_
    refine wpAny_truthy_bool ?_
    refine wpAny_pure ?_
    refine wpAny_pure ?_
    exact ⟨rfl, s₃.heap, s₃.toks, rfl, fun _ _ e => e⟩
  · intro C i v s₃ m₃ E' hP hp hn hm _ htk
    obtain ⟨c, u', _, rfl⟩ := hP
    have hx : (compEnv scope C env).kindOf x = some .local := kx
    refine wpAny_Name (wpAny_loadName_local hk hx hn hm ?_) dx
    exact ⟨⟨_, ⟨u', rfl⟩, .str _ _⟩, s₃.heap, s₃.toks, rfl, fun _ _ e => e⟩
  · intro D h' tk ys vs hnew hlD hplD hlen hP hF hk'
    obtain ⟨n, hD⟩ := hplD
    have hne : ∀ p ∈ news, p.1 ≠ D := fun p hp e => by rw [← e, Heap.get?_push_of_some _ (N p hp).1] at hnew; cases hnew
    have F' : Fr h₀ L h' m := F.keeps (up h' hk')
    have h0D : h₀.get? D = none := by
      cases e : h₀.get? D with
      | none => rfl
      | some o' => rw [Heap.get?_push_of_some _ (F.keep _ _ e)] at hnew; cases hnew
    have hDL : D ≠ L := (show NewPlain h' news D ys from ⟨⟨n, hD⟩, hne⟩).ne_locals F'
    refine h D ys.toList n h' tk F' (fun q hq => ?_) hne ((areOf_signs hlen hP).paired (outOf tok) PyData.str _ hF)
    rcases List.mem_cons.mp hq with rfl | hq
    · exact ⟨hD, hDL, h0D⟩
    · exact (N.grown (up h' hk')) q hq
end

theorem ne_succ {news : List (Addr × Obj)} {L : Addr} (h : ∀ p ∈ news, p.1 < L) : ∀ p ∈ news, p.1 ≠ L + 1 := fun p hp e => by have := h p hp; rw [e] at this; exact absurd this (Nat.not_lt.mpr (Nat.le_succ L))
theorem gentoks {α : Type} {M : Model} {A : Around} {T : Sem α} {Q : α → Shared → Prop} {E : Value → Shared → Prop} {hp : Heap} {X Y : Nat} {g d os} (h : ∀ k, X + Y ≤ k → wpAny M A T Q E ⟨hp, g, d, k, os⟩) : wpAny M A T Q E ⟨hp, g, d, X + Y, os⟩ := h (X + Y) (Nat.le_refl _)
theorem rc_strs_nil {prog : Program} {w : World} {A : Around} {E : Value → Shared → Prop} {s : Shared} {h₀ : Heap} {L : Addr} {news : List (Addr × Obj)} {l b : Addr} {xs : List Value} {n k : Nat} {ds : List Str} (N : News h₀ L s.heap news)
    (ha : (l, listOf xs.toArray n) ∈ news) (hb : (b, listOf ([] : List Value).toArray k) ∈ news) (hc : CarriedAll xs (ds.map PyData.str)) (hu : A.units < cLine) {Q : Value → Shared → Prop}
    (h : Q (.bool ds.isEmpty) s) : wpAny (model prog w) A (compareOp .Eq (.ref l) (.ref b)) Q E s := by
  refine cmp_ofEq ?_
  have ha' : s.heap.IsList l xs.toArray := ⟨_, (N _ ha).1, rfl, _, rfl⟩
  have hb' : s.heap.IsList b ([] : List Value).toArray := ⟨_, (N _ hb).1, rfl, _, rfl⟩
  generalize e : ds.map PyData.str = dd at hc
  have e2 : ds.isEmpty = dd.isEmpty := by rw [← e]; cases ds <;> rfl
  rw [e2] at h
  cases hc with
  | nil => exact (PySem.SeqAt.RcAt.lists ha' hb' rfl hu (e := fun _ => true) (fun j h1 _ => absurd h1 (by simp))) prog w E Q (by simpa using h)
  | cons c r => exact (PySem.SeqAt.RcAt.lists_lengths ha' hb' (by simp) hu) prog w E Q (by simpa using h)
end Mine
end
section
open PySem
set_option maxRecDepth 100000
namespace Mine
open PySem.Sre
def codeC : Array Nat := #[14, 8, 1, 2, 2, 1, 1, 92, 0, 16, 92, 17, 0, 2, 17, 1, 1]
noncomputable def stepN : Nat → M → M
  | 0, m => m
  | n + 1, m => stepN n m.step
theorem step_done {m : M} (h : m.outcome.isSome = true) : m.step = m := by unfold M.step; rw [if_pos h]
theorem stepN_done {m : M} (h : m.outcome.isSome = true) : ∀ n, stepN n m = m
  | 0 => rfl
  | n + 1 => by rw [stepN, step_done h, stepN_done h n]
theorem stepN_add (a b : Nat) (m : M) : stepN (a + b) m = stepN b (stepN a m) := by
  induction a generalizing m with
  | zero => rw [Nat.zero_add]; rfl
  | succ a ih => rw [Nat.succ_add, stepN, ih]; rfl
theorem runFor_eq (n : Nat) (m : M) : M.runFor n m = stepN n m := by
  induction n generalizing m with
  | zero => rfl
  | succ n ih =>
    unfold M.runFor
    split
    · rename_i h; rw [stepN_done h]
    · rw [ih]; rfl
/-- a state within an attempt at s -/
def sta (text : Array Nat) (lim s : Nat) (om : Bool) (marks : Array (Option Nat)) (seen : Seen) (pc pos hd : Nat) (lm li : Int) (ans : Option Bool) : M :=
  { code := codeC, text, lim, start := s, lastStart := lim, pc, pos, handed := hd, outermost := om, marks, lastmark := lm, lastindex := li, frames := [{ wait := .nextStart, pc := 9, pos := s, outermost := om }], weight := 1, answer := ans, seen }
def att (text : Array Nat) (lim s : Nat) (om : Bool) (marks : Array (Option Nat)) (seen : Seen) : M := sta text lim s om marks seen 9 s s (-1) (-1) none
def failedM (m : M) : Prop := m.outcome = some .failed
def foundM (m : M) (p : Nat) : Prop := m.outcome = some .matched ∧ m.start = p ∧ m.handed = p + 2 ∧ m.marks = #[some (p + 1), some (p + 2)] ∧ m.lastmark = 1 ∧ m.lastindex = 1
theorem search_att (text : Array Nat) (pos lim : Nat) (h : pos + 2 ≤ lim) : ∃ seen, forSearch codeC text 1 pos lim false = att text lim pos true (Array.replicate 2 none) seen := by
  refine ⟨({} : Seen).add 14, ?_⟩
  unfold forSearch
  have e : (header codeC) = (2, 9) := by decide
  rw [e]
  simp only []
  rw [if_neg (by simp; omega)]
  rfl
theorem search_short (text : Array Nat) (pos lim : Nat) (h : lim < pos + 2) : failedM (stepN 1 (forSearch codeC text 1 pos lim false)) := by
  unfold forSearch
  have e : (header codeC) = (2, 9) := by decide
  rw [e]
  simp only []
  rw [if_pos (by simp; omega)]
  rfl
theorem o9 : ops[codeC.getD 9 0]? = some .LITERAL := rfl
theorem o11 : ops[codeC.getD 11 0]? = some .MARK := rfl
theorem o13 : ops[codeC.getD 13 0]? = some .ANY := rfl
theorem o14 : ops[codeC.getD 14 0]? = some .MARK := rfl
theorem o16 : ops[codeC.getD 16 0]? = some .SUCCESS := rfl
theorem sz : codeC.size = 17 := rfl
section
variable {text : Array Nat} {lim s pos hd : Nat} {lm li : Int} {om : Bool} {marks : Array (Option Nat)} {seen : Seen}
theorem lit_no (h : lim ≤ pos ∨ text.getD pos 0 ≠ 92) :
    ∃ seen', stepN 1 (sta text lim s om marks seen 9 pos hd lm li none) = sta text lim s om marks seen' 9 pos hd lm li (some false) := by
  refine ⟨seen.add 16, ?_⟩
  unfold stepN stepN M.step sta
  simp only [Option.isSome_none, Bool.false_eq_true, if_false, sz, show (9 : Nat) < 17 from by decide, if_true]
  unfold M.exec
  simp only [M.word, o9, Nat.add_zero]
  by_cases hl : lim ≤ pos
  · rw [if_pos (show pos ≥ lim from hl)]; rfl
  · rw [if_neg (show ¬ pos ≥ lim from hl)]
    have hc : (text.getD pos 0 == 92) = false := by simpa using h.resolve_left hl
    simp only [accepts, o9]
    rw [show codeC.getD (9 + 1) 0 = 92 from rfl, hc]
    rfl
theorem lit_yes (hl : pos < lim) (h : text.getD pos 0 = 92) :
    ∃ seen', stepN 1 (sta text lim s om marks seen 9 pos hd lm li none) = sta text lim s om marks seen' 11 (pos + 1) hd lm li none := by
  refine ⟨seen.add 16, ?_⟩
  unfold stepN stepN M.step sta
  simp only [Option.isSome_none, Bool.false_eq_true, if_false, sz, show (9 : Nat) < 17 from by decide, if_true]
  unfold M.exec
  simp only [M.word, o9, Nat.add_zero]
  rw [if_neg (show ¬ pos ≥ lim from Nat.not_le.mpr hl)]
  simp only [accepts, o9]
  rw [show codeC.getD (9 + 1) 0 = 92 from rfl, h]
  rfl
theorem mark0 : ∃ seen', stepN 1 (sta text lim s om marks seen 11 pos hd (-1) (-1) none) = sta text lim s om (marks.setIfInBounds 0 (some pos)) seen' 13 pos hd 0 (-1) none := by
  refine ⟨seen.add 17, ?_⟩
  unfold stepN stepN M.step sta
  simp only [Option.isSome_none, Bool.false_eq_true, if_false, sz, show (11 : Nat) < 17 from by decide, if_true]
  unfold M.exec
  simp only [M.word, o11, Nat.add_zero]
  rfl
theorem any_no (h : lim ≤ pos ∨ text.getD pos 0 = 10) :
    ∃ seen', stepN 1 (sta text lim s om marks seen 13 pos hd lm li none) = sta text lim s om marks seen' 13 pos hd lm li (some false) := by
  refine ⟨seen.add 2, ?_⟩
  unfold stepN stepN M.step sta
  simp only [Option.isSome_none, Bool.false_eq_true, if_false, sz, show (13 : Nat) < 17 from by decide, if_true]
  unfold M.exec
  simp only [M.word, o13, Nat.add_zero]
  by_cases hl : lim ≤ pos
  · rw [if_pos (show pos ≥ lim from hl)]; rfl
  · rw [if_neg (show ¬ pos ≥ lim from hl)]
    have hc : (text.getD pos 0 != 10) = false := by simpa using h.resolve_left hl
    simp only [accepts, o13]
    rw [hc]
    rfl
theorem any_yes (hl : pos < lim) (h : text.getD pos 0 ≠ 10) :
    ∃ seen', stepN 1 (sta text lim s om marks seen 13 pos hd lm li none) = sta text lim s om marks seen' 14 (pos + 1) hd lm li none := by
  refine ⟨seen.add 2, ?_⟩
  unfold stepN stepN M.step sta
  simp only [Option.isSome_none, Bool.false_eq_true, if_false, sz, show (13 : Nat) < 17 from by decide, if_true]
  unfold M.exec
  simp only [M.word, o13, Nat.add_zero]
  rw [if_neg (show ¬ pos ≥ lim from Nat.not_le.mpr hl)]
  have hc : (text.getD pos 0 != 10) = true := by simpa using h
  simp only [accepts, o13]
  rw [hc]
  rfl
theorem mark1 : ∃ seen', stepN 1 (sta text lim s om marks seen 14 pos hd 0 (-1) none) = sta text lim s om (marks.setIfInBounds 1 (some pos)) seen' 16 pos hd 1 1 none := by
  refine ⟨seen.add 17, ?_⟩
  unfold stepN stepN M.step sta
  simp only [Option.isSome_none, Bool.false_eq_true, if_false, sz, show (14 : Nat) < 17 from by decide, if_true]
  unfold M.exec
  simp only [M.word, o14, Nat.add_zero]
  rfl
theorem succ1 : ∃ seen', stepN 1 (sta text lim s om marks seen 16 pos hd lm li none) = sta text lim s om marks seen' 16 pos pos lm li (some true) := by
  refine ⟨seen.add 1, ?_⟩
  unfold stepN stepN M.step sta
  simp only [Option.isSome_none, Bool.false_eq_true, if_false, sz, show (16 : Nat) < 17 from by decide, if_true]
  unfold M.exec
  simp only [M.word, o16, Nat.add_zero, Bool.false_and, Bool.or_false, Bool.and_false, Bool.false_eq_true, if_false]
  rfl
theorem back_on {pc : Nat} (h : s < lim) : stepN 1 (sta text lim s om marks seen pc pos hd lm li (some false)) = att text lim (s + 1) false marks seen := by
  unfold stepN stepN M.step sta
  simp only [Option.isSome_none, Bool.false_eq_true, if_false]
  unfold M.resume
  simp only [Bool.false_eq_true, if_false]
  rw [if_pos h]
  rfl
theorem back_end {pc : Nat} (h : lim ≤ s) : failedM (stepN 2 (sta text lim s om marks seen pc pos hd lm li (some false))) := by
  unfold failedM stepN stepN M.step sta
  simp only [Option.isSome_none, Bool.false_eq_true, if_false]
  unfold M.resume
  simp only [Bool.false_eq_true, if_false]
  rw [if_neg (Nat.not_lt.mpr h)]
  rfl
theorem yes_end {pc : Nat} : ∃ m, stepN 2 (sta text lim s om marks seen pc pos hd lm li (some true)) = m ∧ m.outcome = some .matched ∧ m.start = s ∧ m.handed = hd ∧ m.marks = marks ∧ m.lastmark = lm ∧ m.lastindex = li :=
  ⟨_, rfl, rfl, rfl, rfl, rfl, rfl, rfl⟩
theorem hop {a b : Nat} {m m' m'' : M} (h : stepN a m = m') (k : stepN b m' = m'') : stepN (a + b) m = m'' := by rw [stepN_add, h, k]
end
abbrev hit (text : Array Nat) (lim s : Nat) : Prop := s + 1 < lim ∧ text.getD s 0 = 92 ∧ text.getD (s + 1) 0 ≠ 10
theorem marks_two {marks : Array (Option Nat)} (h : marks.size = 2) (a b : Option Nat) : (marks.setIfInBounds 0 a).setIfInBounds 1 b = #[a, b] := by
  apply Array.ext'
  obtain ⟨l⟩ := marks
  match l, h with
  | [x, y], _ => rfl
theorem att_hit {text : Array Nat} {lim s : Nat} {om : Bool} {marks : Array (Option Nat)} {seen : Seen} (hm : marks.size = 2) (h : hit text lim s) : foundM (stepN 7 (att text lim s om marks seen)) s := by
  obtain ⟨h1, h2, h3⟩ := h
  obtain ⟨s1, e1⟩ := lit_yes (s := s) (om := om) (marks := marks) (seen := seen) (hd := s) (lm := -1) (li := -1) (by omega : s < lim) h2
  obtain ⟨s2, e2⟩ := mark0 (text := text) (lim := lim) (s := s) (om := om) (marks := marks) (seen := s1) (pos := s + 1) (hd := s)
  obtain ⟨s3, e3⟩ := any_yes (s := s) (om := om) (marks := marks.setIfInBounds 0 (some (s + 1))) (seen := s2) (hd := s) (lm := 0) (li := -1) h1 h3
  obtain ⟨s4, e4⟩ := mark1 (text := text) (lim := lim) (s := s) (om := om) (marks := marks.setIfInBounds 0 (some (s + 1))) (seen := s3) (pos := s + 2) (hd := s)
  obtain ⟨s5, e5⟩ := succ1 (text := text) (lim := lim) (s := s) (om := om) (marks := (marks.setIfInBounds 0 (some (s + 1))).setIfInBounds 1 (some (s + 2))) (seen := s4) (pos := s + 2) (hd := s) (lm := 1) (li := 1)
  obtain ⟨m, e6, r⟩ := yes_end (text := text) (lim := lim) (s := s) (pc := 16) (pos := s + 2) (hd := s + 2) (lm := 1) (li := 1) (om := om) (marks := (marks.setIfInBounds 0 (some (s + 1))).setIfInBounds 1 (some (s + 2))) (seen := s5)
  have e : stepN 7 (att text lim s om marks seen) = m := hop (b := 2) (hop (b := 1) (hop (b := 1) (hop (b := 1) (hop (b := 1) e1 e2) e3) e4) e5) e6
  rw [e]
  rw [marks_two hm] at r
  exact ⟨r.1, r.2.1, r.2.2.1, r.2.2.2.1, r.2.2.2.2.1, r.2.2.2.2.2⟩
theorem att_miss {text : Array Nat} {lim s : Nat} {om : Bool} {marks : Array (Option Nat)} {seen : Seen} (hm : marks.size = 2) (hs : s < lim) (h : ¬ hit text lim s) :
    ∃ k marks' seen', k ≤ 4 ∧ marks'.size = 2 ∧ stepN k (att text lim s om marks seen) = att text lim (s + 1) false marks' seen' := by
  by_cases h2 : text.getD s 0 = 92
  · obtain ⟨s1, e1⟩ := lit_yes (s := s) (om := om) (marks := marks) (seen := seen) (hd := s) (lm := -1) (li := -1) hs h2
    obtain ⟨s2, e2⟩ := mark0 (text := text) (lim := lim) (s := s) (om := om) (marks := marks) (seen := s1) (pos := s + 1) (hd := s)
    obtain ⟨s3, e3⟩ := any_no (text := text) (lim := lim) (s := s) (om := om) (marks := marks.setIfInBounds 0 (some (s + 1))) (seen := s2) (pos := s + 1) (hd := s) (lm := 0) (li := -1) (by
      by_cases h1 : lim ≤ s + 1
      · exact .inl h1
      · refine .inr ?_
        by_cases h3 : text.getD (s + 1) 0 = 10
        · exact h3
        · exact absurd ⟨by omega, h2, h3⟩ h)
    exact ⟨4, marks.setIfInBounds 0 (some (s + 1)), s3, Nat.le_refl _, by simpa using hm, hop (b := 1) (hop (b := 1) (hop (b := 1) e1 e2) e3) (back_on hs)⟩
  · obtain ⟨s1, e1⟩ := lit_no (s := s) (om := om) (marks := marks) (seen := seen) (lim := lim) (pos := s) (hd := s) (lm := -1) (li := -1) (.inr h2)
    exact ⟨2, marks, s1, by omega, hm, hop (b := 1) e1 (back_on hs)⟩
theorem att_end {text : Array Nat} {lim s : Nat} {om : Bool} {marks : Array (Option Nat)} {seen : Seen} (h : lim ≤ s) : failedM (stepN 3 (att text lim s om marks seen)) := by
  obtain ⟨s1, e1⟩ := lit_no (om := om) (marks := marks) (seen := seen) (text := text) (lim := lim) (s := s) (pos := s) (hd := s) (lm := -1) (li := -1) (.inl h)
  have e : stepN 3 (att text lim s om marks seen) = stepN 2 (sta text lim s om marks s1 9 s s (-1) (-1) (some false)) := hop (b := 2) e1 rfl
  rw [e]
  exact back_end h
/-- the first place of a match at s or behind it -/
noncomputable def nextHit (text : Array Nat) (lim : Nat) : (fuel s : Nat) → Option Nat
  | 0, _ => none
  | n + 1, s => if hit text lim s then some s else nextHit text lim n (s + 1)
theorem att_runs (text : Array Nat) (lim : Nat) : ∀ (n s : Nat), s + n = lim → ∀ (om : Bool) (marks : Array (Option Nat)) (seen : Seen), marks.size = 2 →
    ∃ k, k ≤ 4 * n + 7 ∧ (match nextHit text lim n s with | some p => foundM (stepN k (att text lim s om marks seen)) p | none => failedM (stepN k (att text lim s om marks seen)))
  | 0, s, hs, om, marks, seen, hm => ⟨3, by omega, by unfold nextHit; exact att_end (by omega)⟩
  | n + 1, s, hs, om, marks, seen, hm => by
    unfold nextHit
    by_cases h : hit text lim s
    · rw [if_pos h]
      exact ⟨7, by omega, att_hit hm h⟩
    · rw [if_neg h]
      obtain ⟨k, marks', seen', hk, hm', e⟩ := att_miss (om := om) (seen := seen) hm (by omega : s < lim) h
      obtain ⟨k', hk', r⟩ := att_runs text lim n (s + 1) (by omega) false marks' seen' hm'
      refine ⟨k + k', by omega, ?_⟩
      rw [stepN_add, e]
      exact r
theorem search_runs (text : Array Nat) (lim s : Nat) (hs : s ≤ lim) :
    ∃ k, k ≤ 4 * lim + 7 ∧ (match nextHit text lim (lim - s) s with | some p => foundM (stepN k (forSearch codeC text 1 s lim false)) p | none => failedM (stepN k (forSearch codeC text 1 s lim false))) := by
  by_cases h : s + 2 ≤ lim
  · obtain ⟨seen, e⟩ := search_att text s lim h
    rw [e]
    obtain ⟨k, hk, r⟩ := att_runs text lim (lim - s) s (by omega) true (Array.replicate 2 none) seen rfl
    exact ⟨k, by omega, r⟩
  · have hn : nextHit text lim (lim - s) s = none := by
      have : ∀ n t, lim < t + 2 → nextHit text lim n t = none := by
        intro n
        induction n with
        | zero => intro t _; rfl
        | succ n ih => intro t ht; unfold nextHit; rw [if_neg (fun q => by have := q.1; omega)]; exact ih _ (by omega)
      exact this _ _ (by omega)
    rw [hn]
    exact ⟨1, by omega, search_short text s lim (by omega)⟩
end Mine
end
section
open PySem PySem.W PySem.Calls PyProof.Rows PySem.Builtin.Re
set_option maxRecDepth 100000
namespace Mine
open PySem.Sre
section
variable {Mo : Model} {A : Around} {E : Value → Shared → Prop} {s : Shared}
theorem wp_reDrive {Q : Sre.M → Shared → Prop} : ∀ (turns k : Nat) (m : Sre.M), k < 4 * turns → (stepN k m).outcome.isSome = true → Q (stepN k m) s → wpAny Mo A (reDrive turns m) Q E s
  | 0, k, m, hk, _, _ => absurd hk (by omega)
  | t + 1, k, m, hk, h, hq => by
    unfold reDrive reTurnSteps
    simp only [runFor_eq]
    by_cases h4 : (stepN 4 m).outcome.isSome = true
    · rw [if_pos h4]
      have e : stepN k m = stepN 4 m := by
        by_cases hk4 : k ≤ 4
        · have e1 := stepN_add k (4 - k) m
          rw [stepN_done h, show k + (4 - k) = 4 by omega] at e1
          exact e1.symm
        · have e1 := stepN_add 4 (k - 4) m
          rw [stepN_done h4, show 4 + (k - 4) = k by omega] at e1
          exact e1
      rw [← e]; exact wpAny_pure hq
    · rw [if_neg h4]
      have hk4 : 4 < k := by
        apply Nat.lt_of_not_le
        intro hk4
        have e1 := stepN_add k (4 - k) m
        rw [stepN_done h, show k + (4 - k) = 4 by omega] at e1
        rw [e1] at h4
        exact h4 h
      have e1 := stepN_add 4 (k - 4) m
      rw [show 4 + (k - 4) = k by omega] at e1
      refine wpAny_bind (wpAny_rule ?_)
      exact wp_reDrive t (k - 4) (stepN 4 m) (by omega) (by rw [← e1]; exact h) (by rw [← e1]; exact hq)
theorem wp_rules {m : Sre.M} {Q : PUnit → Shared → Prop} (l : List Nat) (h : Q ⟨⟩ s) :
    wpAny Mo A (forIn l PUnit.unit fun i _ => if m.seen.has i = true then do rule (Sre.names.getD i ""); pure (ForInStep.yield PUnit.unit) else pure (ForInStep.yield PUnit.unit)) Q E s := by
  induction l with
  | nil => exact wpAny_pure h
  | cons i r ih =>
    rw [List.forIn_cons]
    refine wpAny_bind ?_
    by_cases hi : m.seen.has i = true
    · rw [if_pos hi]; exact wpAny_bind (wpAny_rule (wpAny_pure ih))
    · rw [if_neg hi]; exact wpAny_pure ih
theorem wp_reRun {m : Sre.M} {k : Nat} {Q : Option Sre.M → Shared → Prop} (hk : k < 4 * 2 ^ 64) (h : (stepN k m).outcome.isSome = true)
    (hq : match (stepN k m).outcome with | some .matched => Q (some (stepN k m)) s | some .failed => Q none s | _ => False) : wpAny Mo A (reRunToEnd m) Q E s := by
  unfold reRunToEnd
  refine wpAny_bind (wp_reDrive (2 ^ 64) k m hk h ?_)
  refine wpAny_bind ?_
  refine wpAny_mono (wp_rules (Q := fun _ s' => s' = s) (m := stepN k m) (List.range Sre.names.size) rfl) ?_ (fun _ _ e => e)
  rintro _ _ rfl
  revert hq
  cases (stepN k m).outcome with
  | none => exact fun q => q.elim
  | some o => cases o with
    | matched => exact fun q => wpAny_pure q
    | failed => exact fun q => wpAny_pure q
    | stuck w => exact fun q => q.elim
end
end Mine
end
section
open PySem PySem.W PySem.Calls PyProof.Rows PySem.Builtin.Re
set_option maxRecDepth 100000
namespace Mine
theorem slot_sub : Slot "re.Pattern" "sub" "re.Pattern.sub" :=
  .of (owner := "re.Pattern") (n := "sub") (by rw [typeLookup_type, builtinLookup_eq_fast]; kernel_rfl) (by decide +kernel) (by decide +kernel) (by decide +kernel)
    (by first | exact .inl (by decide +kernel) | exact .inr (by decide +kernel)) (by rw [isSubtype_type]; kernel_rfl)
theorem type_sub : typeOf (.builtin "re.Pattern.sub") = pure (.type "method_descriptor") := by show builtinType _ = _; rw [builtinType_eq_fast]; kernel_rfl
theorem entry_sub : entryFor table "re.Pattern.sub" = some Builtin.«re.Pattern.sub» := entryFor_of_fast (by kernel_rfl)
theorem entry_subloop : entryFor table "re.Pattern.sub.loop" = some Builtin.«re.Pattern.sub.loop» := entryFor_of_fast (by kernel_rfl)
theorem plain_subloop : plainId "re.Pattern.sub.loop" = true := by decide +kernel
theorem slot_group : Slot "re.Match" "group" "re.Match.group" :=
  .of (owner := "re.Match") (n := "group") (by rw [typeLookup_type, builtinLookup_eq_fast]; kernel_rfl) (by decide +kernel) (by decide +kernel) (by decide +kernel)
    (by first | exact .inl (by decide +kernel) | exact .inr (by decide +kernel)) (by rw [isSubtype_type]; kernel_rfl)
theorem type_group : typeOf (.builtin "re.Match.group") = pure (.type "method_descriptor") := by show builtinType _ = _; rw [builtinType_eq_fast]; kernel_rfl
theorem entry_group : entryFor table "re.Match.group" = some Builtin.«re.Match.group» := entryFor_of_fast (by kernel_rfl)
theorem plainAttrs_pat : PlainAttrs "re.Pattern" :=
  ⟨⟨"object.__getattribute__", by rw [typeLookup_type, builtinLookup_eq_fast]; kernel_rfl, by decide +kernel⟩, by rw [typeLookup_type, builtinLookup_eq_fast]; kernel_rfl⟩
theorem plainAttrs_match : PlainAttrs "re.Match" :=
  ⟨⟨"object.__getattribute__", by rw [typeLookup_type, builtinLookup_eq_fast]; kernel_rfl, by decide +kernel⟩, by rw [typeLookup_type, builtinLookup_eq_fast]; kernel_rfl⟩
theorem owner_pat : Manifest.owners.lookup (String.ofList ['n', 'r', 'e', 't', 't', 'a', 'P', '.', 'e', 'r'].reverse) = some Manifest.sig_re_Pattern := by kernel_rfl
theorem owner_match : Manifest.owners.lookup (String.ofList ['h', 'c', 't', 'a', 'M', '.', 'e', 'r'].reverse) = some Manifest.sig_re_Match := by kernel_rfl
theorem args_sub (a b c : Value) : argsOk "re.Pattern.sub" ⟨[a, b, c], []⟩ := by
  unfold argsOk; rw [signature?_of (id := "re.Pattern.sub") (n := ['b', 'u', 's']) (o := ['n', 'r', 'e', 't', 't', 'a', 'P', '.', 'e', 'r']) (by kernel_rfl) owner_pat]; kernel_rfl
theorem args_group (a b : Value) : argsOk "re.Match.group" ⟨[a, b], []⟩ := by
  unfold argsOk; rw [signature?_of (id := "re.Match.group") (n := ['p', 'u', 'o', 'r', 'g']) (o := ['h', 'c', 't', 'a', 'M', '.', 'e', 'r']) (by kernel_rfl) owner_match]; kernel_rfl
theorem special_call : typeLookup (.type "function") "__call__" = pure (some (.builtin "function.__call__")) := by rw [typeLookup_type, builtinLookup_eq_fast]; kernel_rfl
end Mine
end
section
open PySem PySem.W PySem.Calls PyProof.Rows PySem.Builtin.Re
set_option maxRecDepth 100000
namespace Mine
abbrev codeVals : Array Value := #[.int 14 0, .int 8 0, .int 1 0, .int 2 0, .int 2 0, .int 1 0, .int 1 0, .int 92 0, .int 0 0, .int 16 0, .int 92 0, .int 17 0, .int 0 0, .int 2 0, .int 17 0, .int 1 0, .int 1 0]
theorem codeVals_eq : (codeVals.map reRawOf).map (fun x => x.toNat) = codeC := by simp [codeC, reRawOf]
structure PatIn (h : Heap) : Prop where
  pat : h.get? 44 = some { cls := .type "re.Pattern", data := .fields #[.str (Str.ofString "\\\\(.)") 297, .int 256 317, .int 1 0, .none, .none, .ref 43, .int 0 0] }
  code : h.get? 43 = some { cls := .type "tuple", data := .seq codeVals }
theorem PatIn.keeps {h h' : Heap} (P : PatIn h) (k : ∀ b o, h.get? b = some o → h'.get? b = some o) : PatIn h' := ⟨k _ _ P.pat, k _ _ P.code⟩
abbrev tgt (y : Str) (t : Tok) : ReTarget := { pattern := .ref 44, string := .str y t, code := codeC, text := y.cps, kind := 0, groups := 1, pos := 0, lim := y.cps.size }
abbrev spanObj (p : Nat) : Obj := { cls := .type "tuple", data := .seq #[rawInt (p : Nat), rawInt ((p + 2 : Nat) : Int), rawInt ((p + 1 : Nat) : Int), rawInt ((p + 2 : Nat) : Int)] }
abbrev matchObj (y : Str) (t : Tok) (a : Addr) : Obj := { cls := .type "re.Match", data := .fields #[.str y t, .ref 44, rawInt (0 : Nat), rawInt (y.cps.size : Nat), rawInt 1, .ref a] }
section
variable {Mo : Model} {A : Around} {E : Value → Shared → Prop} {s : Shared} {y : Str} {t : Tok}
theorem wp_whole {Q : ReTarget → Shared → Prop} (P : PatIn s.heap) (h : Q (tgt y t) s) : wpAny Mo A (reWholeTarget (.ref 44) (.str y t)) Q E s := by
  unfold reWholeTarget
  refine wpAny_bind (wpAny_fieldsOf P.pat rfl ?_)
  refine wpAny_bind (wpAny_pure ?_)
  refine wpAny_bind (wpAny_pure ?_)
  refine wpAny_bind ?_
  unfold reRawItems
  refine wpAny_bind (wpAny_seqItems P.code rfl ?_)
  refine wpAny_pure (wpAny_pure ?_)
  rw [show (some codeVals).getD #[] = codeVals from rfl, codeVals_eq]
  exact h
theorem wp_next {Q : Option Sre.M → Shared → Prop} {st : Nat} (hst : st ≤ y.cps.size) (hy : y.cps.size ≤ 100000)
    (h : match nextHit y.cps y.cps.size (y.cps.size - st) st with | some p => ∀ m, foundM m p → Q (some m) s | none => Q none s) :
    wpAny Mo A (reNextFound (tgt y t) st false) Q E s := by
  unfold reNextFound
  obtain ⟨k, hk, r⟩ := search_runs y.cps y.cps.size st hst
  have hk' : k < 4 * 2 ^ 64 := by omega
  revert h r
  cases nextHit y.cps y.cps.size (y.cps.size - st) st with
  | none =>
    intro h r
    exact wp_reRun hk' (by rw [r]; rfl) (by rw [r]; exact h)
  | some p =>
    intro h r
    exact wp_reRun hk' (by rw [r.1]; rfl) (by rw [r.1]; exact h _ r)
theorem wp_newMatch {Q : Value → Shared → Prop} {m : Sre.M} {p : Nat} (f : foundM m p)
    (h : Q (.ref (s.heap.objs.size + 1)) { s with heap := (s.heap.push (spanObj p)).push (matchObj y t s.heap.objs.size) }) :
    wpAny Mo A (reNewMatch (.ref 44) (.str y t) 1 0 y.cps.size m) Q E s := by
  obtain ⟨_, f2, f3, f4, f5, f6⟩ := f
  unfold reNewMatch
  simp only [f2, f3, f4, f5, f6]
  have hany : ((List.range 1).any fun g => match (#[some (p + 1), some (p + 2)] : Array (Option Nat)).getD (2 * g) none, (#[some (p + 1), some (p + 2)] : Array (Option Nat)).getD (2 * g + 1) none with
      | some b, some e => decide (((2 * g + 1 : Nat) : Int) ≤ 1) && decide (e < b) | _, _ => false) = false := by
    show (decide (((2 * 0 + 1 : Nat) : Int) ≤ 1) && decide (p + 2 < p + 1) || false) = false
    rw [decide_eq_false (by omega : ¬ p + 2 < p + 1)]; rfl
  refine wpAny_ite_false (decide_eq_false fun q => Bool.false_ne_true (hany.symm.trans q)) ?_
  have hsz : (s.heap.push (spanObj p)).objs.size = s.heap.objs.size + 1 := Heap.size_push _ _
  refine wpAny_bind (wpAny_newTuple ?_ (by show 4 ≤ sizeLine; rw [sizeLine_eq]; decide))
  refine wpAny_newObj_type ?_ (by show 6 ≤ sizeLine + 2; rw [sizeLine_eq]; decide)
  rw [← hsz] at h
  exact h
end
section
variable {prog : Program} {w : World} {A : Around} {E : Value → Shared → Prop} {s : Shared} {y : Str} {t : Tok}
theorem wp_groupText {Mo : Model} {Q : Value → Shared → Prop} {fs : Array Value} {p : Nat} (hf : fs.getD 0 .none = .str y t) (hl : y.cps.size ≤ 100000)
    (h : Q (.str ⟨y.cps.extract (p + 1) (p + 2)⟩ s.toks) { s with toks := s.toks + 1 }) :
    wpAny Mo A (reGroupText { fields := fs, spans := #[(p : Int), ((p + 2 : Nat) : Int), ((p + 1 : Nat) : Int), ((p + 2 : Nat) : Int)] } 1 .none) Q E s := by
  unfold reGroupText
  show wpAny Mo A (if (decide (((p + 1 : Nat) : Int) < 0) || decide (((p + 2 : Nat) : Int) < 0)) = true then _ else _) Q E s
  have e : (decide (((p + 1 : Nat) : Int) < 0) || decide (((p + 2 : Nat) : Int) < 0)) = false := by
    rw [decide_eq_false (by omega), decide_eq_false (by omega)]; rfl
  refine wpAny_ite_false (decide_eq_false fun q => Bool.false_ne_true (e.symm.trans q)) ?_
  dsimp only
  rw [hf]
  refine wpAny_bind (wpAny_of_eq (rfl : reTextOf (.str y t) = pure (y.cps, 0)) ?_)
  show wpAny Mo A (mkStr ⟨y.cps.extract (p + 1) (p + 2)⟩) Q E s
  refine wpAny_mkStr h ?_
  show (y.cps.extract (p + 1) (p + 2)).size ≤ sizeLine
  rw [Array.size_extract, sizeLine_eq]; omega
theorem wp_group {Q : Value → Shared → Prop} {a₁ a₂ : Addr} {p : Nat} {u : Tok} (h1 : s.heap.get? a₁ = some (spanObj p)) (h2 : s.heap.get? a₂ = some (matchObj y t a₁)) (hl : y.cps.size ≤ 100000)
    (h : Q (.str ⟨y.cps.extract (p + 1) (p + 2)⟩ s.toks) { s with toks := s.toks + 1 }) :
    wpAny (model prog w) A (call (.builtin "re.Match.group") [.ref a₂, .int 1 u]) Q E s := by
  refine wpAny_call_entry slot_group ⟨_, h2, rfl⟩ entry_group ?_ (args_group _ _)
  unfold Builtin.«re.Match.group»
  refine wpAny_bind (wpAny_pure ?_)
  unfold reFound
  refine wpAny_bind (wpAny_bind (wpAny_fieldsOf h2 rfl ?_))
  unfold reRawItems
  refine wpAny_bind (wpAny_bind (wpAny_seqItems h1 rfl ?_))
  refine wpAny_pure (wpAny_pure ?_)
  have e : ((some #[rawInt (p : Nat), rawInt ((p + 2 : Nat) : Int), rawInt ((p + 1 : Nat) : Int), rawInt ((p + 2 : Nat) : Int)]).getD #[]).map reRawOf = #[(p : Int), ((p + 2 : Nat) : Int), ((p + 1 : Nat) : Int), ((p + 2 : Nat) : Int)] := by simp [rawInt, reRawOf]
  rw [e]
  refine wpAny_bind (wpAny_of_eq (rfl : reGroupNumber _ (.int 1 u) = pure 1) ?_)
  refine wpAny_bind (wpAny_mono (wp_groupText (Q := fun v s' => Q v s') rfl hl h) (fun v s' hv => ?_) fun _ _ e => e)
  exact wpAny_pure ⟨_, rfl, hv⟩
end
end Mine
end
section
open PySem PySem.W PySem.Calls PyProof.Rows PySem.Builtin.Re
set_option maxRecDepth 100000
namespace Mine
theorem nextHit_some {text : Array Nat} {lim : Nat} : ∀ {n s p : Nat}, nextHit text lim n s = some p → s ≤ p ∧ hit text lim p
  | 0, _, _, h => by cases h
  | n + 1, s, p, h => by
    unfold nextHit at h
    by_cases q : hit text lim s
    · rw [if_pos q] at h; cases h; exact ⟨Nat.le_refl _, q⟩
    · rw [if_neg q] at h; exact ⟨Nat.le_of_succ_le (nextHit_some h).1, (nextHit_some h).2⟩
noncomputable def unqParts (text : Array Nat) : (fuel st : Nat) → List Str
  | 0, st => if st < text.size then [⟨text.extract st text.size⟩] else []
  | n + 1, st => match nextHit text text.size (text.size - st) st with
    | some p => (if st < p then [⟨text.extract st p⟩] else []) ++ ⟨text.extract (p + 1) (p + 2)⟩ :: unqParts text n (p + 2)
    | none => if st < text.size then [⟨text.extract st text.size⟩] else []
abbrev loopArgs (y : Str) (t : Tok) (f l : Addr) (n : Int) (st : Nat) : Args := ⟨[.ref 44, .str y t, .ref f, rawInt 1, rawInt 0, rawInt n, rawInt (st : Nat), rawInt (st : Nat), .bool false, .ref l, .bool false], []⟩
theorem strs_snoc {us : List Value} {ws : List PySem.Str} {x : PySem.Str} {t : Tok} (h : StrsAre us ws) : StrsAre (us ++ [.str x t]) (ws ++ [x]) := h.append' (.cons _ _ .nil)
section
variable {prog : Program} {w : World} {A : Around} {y : Str} {t : Tok} {h₀ : Heap} {L : Addr} {m : Str → Option Value}
theorem push_at {E : Value → Shared → Prop} {s : Shared} {l : Addr} {vs : List Value} {k : Nat} {v : Value} {pre led : List (Addr × Obj)} {Q : Unit → Shared → Prop}
    (F : Fr h₀ L s.heap m) (N : News h₀ L s.heap (pre ++ (l, listOf vs.toArray k) :: led)) (h1 : ∀ p ∈ pre, p.1 ≠ l) (h2 : ∀ p ∈ led, p.1 ≠ l) (hz : vs.length ≤ 100000)
    (h : ∀ h', Fr h₀ L h' m → News h₀ L h' (pre ++ (l, listOf (vs ++ [v]).toArray (k + 1)) :: led) → Q () { s with heap := h' }) :
    wpAny (model prog w) A (updateSeq l (·.push v)) Q E s := by
  have z := N (l, listOf vs.toArray k) (List.mem_append.mpr (.inr (.head _)))
  refine wpAny_updateSeq z.1 rfl ?_ (by rw [List.size_toArray, sizeLine_eq]; omega) (by rw [Array.size_push, List.size_toArray, sizeLine_eq]; omega)
  have hs : Heap.SameBut l s.heap (s.heap.update l (Obj.mapSeq (·.push v))) := Heap.SameBut.update ..
  have hg : (s.heap.update l (Obj.mapSeq (·.push v))).get? l = some (listOf (vs ++ [v]).toArray (k + 1)) := by
    have e := Heap.get?_update_self (h := s.heap) (Obj.mapSeq (·.push v)) z.1 rfl
    rw [e]
    simp [Obj.mapSeq]
  exact h _ (F.change hs z.2.1 z.2.2) (news_set N h1 h2 hs hg)

theorem num_ne {st : Nat} : (((rawInt (st : Nat)) : Value) = .int (st : Int) 0) := rfl
abbrev LamOk (prog : Program) (w : World) (A : Around) (y : Str) (t : Tok) (h₀ : Heap) (L : Addr) (m : Str → Option Value) (f l : Addr) (led : List (Addr × Obj)) : Prop :=
  ∀ (s' : Shared) (a₁ a₂ : Addr) (p k : Nat) (vs : List Value) (Q E : Value → Shared → Prop), Fr h₀ L s'.heap m → News h₀ L s'.heap ((a₂, matchObj y t a₁) :: (a₁, spanObj p) :: (l, W.listOf vs.toArray k) :: led) → p + 2 ≤ y.cps.size →
    (∀ h' tk t', Fr h₀ L h' m → News h₀ L h' ((a₂, matchObj y t a₁) :: (a₁, spanObj p) :: (l, W.listOf vs.toArray k) :: led) → Q (.str ⟨y.cps.extract (p + 1) (p + 2)⟩ t') { s' with heap := h', toks := tk }) →
    wpAny (model prog w) A.in1 (call (.ref f) [.ref a₂]) Q E s'

def cut (text : Array Nat) (a b : Nat) : List Str := if a < b then [⟨text.extract a b⟩] else []
theorem size_cut (text : Array Nat) (a b : Nat) : ((cut text a b).map (·.length)).sum ≤ b - a ∧ (cut text a b).length ≤ b - a := by
  unfold cut
  split
  · simp [Str.length, Array.size_extract]; omega
  · simp
theorem wp_cut {E : Value → Shared → Prop} {A : Around} {s : Shared} {l : Addr} {vs : List Value} {parts : List Str} {k a b : Nat} {led : List (Addr × Obj)} {α : Type} {rest : Sem α} {Q : α → Shared → Prop}
    (hl : ∀ p ∈ led, p.1 ≠ l) (hy : y.cps.size ≤ 1000) (hz : parts.length ≤ 1000) (hv : StrsAre vs parts) (F : Fr h₀ L s.heap m) (N : News h₀ L s.heap ((l, W.listOf vs.toArray k) :: led))
    (h : ∀ vs' k' h' tk, StrsAre vs' (parts ++ cut y.cps a b) → Fr h₀ L h' m → News h₀ L h' ((l, W.listOf vs'.toArray k') :: led) → wpAny (model prog w) A rest Q E { s with heap := h', toks := tk }) :
    wpAny (model prog w) A (if a < b then do let v ← reSlice (tgt y t).text (tgt y t).kind a b; updateSeq l (fun x => x.push v); rest else rest) Q E s := by
  by_cases hab : a < b
  · rw [if_pos hab]
    refine wpAny_bind ?_
    show wpAny _ _ (mkStr ⟨y.cps.extract a b⟩) _ _ s
    refine wpAny_mkStr ?_ (by show (y.cps.extract a b).size ≤ sizeLine; rw [Array.size_extract, sizeLine_eq]; omega)
    refine wpAny_bind (push_at (pre := []) F N (fun p hp => nomatch hp) hl (by rw [hv.length]; omega) fun h' F' N' => ?_)
    refine h _ _ h' _ ?_ F' N'
    unfold cut; rw [if_pos hab]; exact strs_snoc hv
  · rw [if_neg hab]
    refine h vs k s.heap s.toks ?_ F N
    unfold cut; rw [if_neg hab, List.append_nil]; exact hv
theorem sub_turn {R : Result → Shared → Prop} {f l : Addr} {led : List (Addr × Obj)} (hy : y.cps.size ≤ 1000) (P : PatIn h₀) (hl : ∀ p ∈ led, p.1 ≠ l) (lam : LamOk prog w A y t h₀ L m f l led)
    {st : Nat} {cnt : Int} {vs : List Value} {k : Nat} {parts : List Str} {s : Shared} (hst : st ≤ y.cps.size) (hpl : parts.length ≤ st) (hps : (parts.map (·.length)).sum ≤ st) (hv : StrsAre vs parts)
    (F : Fr h₀ L s.heap m) (N : News h₀ L s.heap ((l, W.listOf vs.toArray k) :: led))
    (h : match nextHit y.cps y.cps.size (y.cps.size - st) st with
      | some p => ∀ vs' k' h' tk, StrsAre vs' (parts ++ cut y.cps st p ++ [⟨y.cps.extract (p + 1) (p + 2)⟩]) → Fr h₀ L h' m → News h₀ L h' ((l, W.listOf vs'.toArray k') :: led) →
          codeAny (model prog w) A (.builtin "re.Pattern.sub.loop" (loopArgs y t f l (cnt + 1) (p + 2))) R { s with heap := h', toks := tk }
      | none => ∀ h' tk t', Fr h₀ L h' m → News h₀ L h' led → R (.ok (.ret (.str (Txt.join ⟨#[]⟩ (parts ++ cut y.cps st y.cps.size)) t'))) { s with heap := h', toks := tk }) :
    codeAny (model prog w) A (.builtin "re.Pattern.sub.loop" (loopArgs y t f l cnt st)) R s := by
  refine codeAny_builtin entry_subloop ?_
  rw [Around.under_plainId plain_subloop _]
  unfold Builtin.«re.Pattern.sub.loop»
  dsimp only
  refine wpAny_bind (wp_whole (P.keeps F.keep) ?_)
  simp only [show ((1 : Int) == 0) = false from rfl, show ((0 : Int) != 0) = false from rfl, Bool.false_and, Bool.false_eq_true, if_false, show ((1 : Int) == 1) = true from rfl, if_true, Int.toNat_natCast]
  refine wpAny_bind (wp_next hst (by omega) ?_)
  revert h
  cases hn : nextHit y.cps y.cps.size (y.cps.size - st) st with
  | none =>
    intro h
    dsimp only
    refine wp_cut (t := t) hl hy (by omega) hv F N fun vs' k' h' tk hv' F' N' => ?_
    have ej : (⟨y.cps.extract 0 0⟩ : Str) = ⟨#[]⟩ := by congr 1; simp
    refine wpAny_bind (show wpAny _ _ (mkStr ⟨y.cps.extract 0 0⟩) _ _ _ from wpAny_mkStr ?_ (by rw [ej, sizeLine_eq]; decide))
    rw [ej]
    have z := (N' _ (.head _)).1
    refine wpAny_bind (wpAny_seqItems z rfl ?_)
    have N0 : News h₀ L h' led := fun r hr => N' r (.tail _ hr)
    cases vs' with
    | nil =>
      have e0 : parts ++ cut y.cps st y.cps.size = [] := by cases hc : parts ++ cut y.cps st y.cps.size with | nil => rfl | cons a r => rw [hc] at hv'; cases hv'
      refine wpAny_bind (wpAny_pure (wpAny_pure ?_))
      have q := h h' (tk + 1) tk F' N0
      rw [e0] at q
      exact q
    | cons v r =>
      refine wpAny_bind ?_
      show wpAny _ _ (call (.builtin "str.join") [.str ⟨#[]⟩ _, .ref l]) _ _ _
      have h1 := size_cut y.cps st y.cps.size
      refine join_listW ⟨_, z, rfl, _, rfl⟩ (by simpa using hv') (by decide) ?_ fun t' k2 => wpAny_pure (h h' k2 t' F' N0)
      rw [List.map_append, List.sum_append, List.length_append]
      omega
  | some p =>
    intro h mm hm
    obtain ⟨hp, q1, q2, q3⟩ := nextHit_some hn
    dsimp only
    rw [hm.2.1]
    refine wp_cut (t := t) hl hy (by omega) hv F N fun vs' k' h' tk hv' F' N' => ?_
    refine wpAny_bind (wp_newMatch hm ?_)
    refine wpAny_bind (wpAny_holding ?_)
    dsimp only
    have hlt : l < h'.objs.size := Heap.lt_size (N' _ (.head _)).1
    have e1 : (h'.push (spanObj p)).objs.size = h'.objs.size + 1 := Heap.size_push _ _
    have F1 := F'.push (spanObj p)
    have N1 := News.push F' N' (spanObj p)
    have F2 := F1.push (matchObj y t h'.objs.size)
    have N2 := News.push F1 N1 (matchObj y t h'.objs.size)
    rw [e1] at N2
    refine lam _ _ _ p k' vs' _ _ F2 N2 (by have := q1; omega) fun h3 tk3 t3 F3 N3 => ?_
    dsimp only
    rw [if_pos (show ((Value.str ⟨y.cps.extract (p + 1) (p + 2)⟩ t3) != Value.none) = true from rfl)]
    have hlen : vs'.length ≤ 100000 := by
      rw [hv'.length, List.length_append]
      have := (size_cut y.cps st p).2
      omega
    refine wpAny_bind (push_at (pre := [(h'.objs.size + 1, matchObj y t h'.objs.size), (h'.objs.size, spanObj p)]) F3 N3 (fun r hr => ?_) hl hlen fun h4 F4 N4 => ?_)
    · rcases List.mem_cons.mp hr with rfl | hr
      · exact Nat.ne_of_gt (Nat.lt_succ_of_lt hlt)
      · rcases List.mem_cons.mp hr with rfl | hr
        · exact Nat.ne_of_gt hlt
        · cases hr
    refine wpAny_pure ⟨plainId_quiet plain_subloop _, ?_⟩
    rw [hm.2.2.1, show (p + 2 == p) = false from by simp]
    exact h _ _ h4 _ (strs_snoc hv') F4 (fun r hr => N4 r (List.mem_append_right _ hr))
theorem unqParts_none {text : Array Nat} {st : Nat} (h : nextHit text text.size (text.size - st) st = none) : ∀ n, unqParts text n st = cut text st text.size
  | 0 => rfl
  | n + 1 => by unfold unqParts; rw [h]; rfl
theorem sub_loop {R : Result → Shared → Prop} {f l : Addr} {led : List (Addr × Obj)} (hy : y.cps.size ≤ 1000) (P : PatIn h₀) (hl : ∀ p ∈ led, p.1 ≠ l) (lam : LamOk prog w A y t h₀ L m f l led) :
    ∀ (n st : Nat) (cnt : Int) (vs : List Value) (k : Nat) (parts : List Str) (s : Shared), y.cps.size - st ≤ n → st ≤ y.cps.size → parts.length ≤ st → (parts.map (·.length)).sum ≤ st → StrsAre vs parts →
      Fr h₀ L s.heap m → News h₀ L s.heap ((l, W.listOf vs.toArray k) :: led) →
      (∀ h' tk t', Fr h₀ L h' m → News h₀ L h' led → R (.ok (.ret (.str (Txt.join ⟨#[]⟩ (parts ++ unqParts y.cps n st)) t'))) { s with heap := h', toks := tk }) →
      codeAny (model prog w) A (.builtin "re.Pattern.sub.loop" (loopArgs y t f l cnt st)) R s := by
  intro n
  induction n with
  | zero =>
    intro st cnt vs k parts s hn hst hpl hps hv F N hR
    refine sub_turn hy P hl lam hst hpl hps hv F N ?_
    have e : nextHit y.cps y.cps.size (y.cps.size - st) st = none := by rw [show y.cps.size - st = 0 by omega]; rfl
    rw [e]
    exact hR
  | succ n ih =>
    intro st cnt vs k parts s hn hst hpl hps hv F N hR
    refine sub_turn hy P hl lam hst hpl hps hv F N ?_
    cases e : nextHit y.cps y.cps.size (y.cps.size - st) st with
    | none =>
      dsimp only
      rw [unqParts_none e] at hR
      exact hR
    | some p =>
      dsimp only
      obtain ⟨hp, q1, q2, q3⟩ := nextHit_some e
      intro vs' k' h' tk hv' F' N'
      have h1 := size_cut y.cps st p
      refine ih (p + 2) (cnt + 1) vs' k' _ _ (by omega) (by omega) ?_ ?_ hv' F' N' fun h2 tk2 t2 F2 N2 => ?_
      · simp only [List.length_append, List.length_cons, List.length_nil]; omega
      · simp only [List.map_append, List.map_cons, List.map_nil, List.sum_append, List.sum_cons, List.sum_nil]
        have e2 : ((⟨y.cps.extract (p + 1) (p + 2)⟩ : Str)).length = 1 := by show (y.cps.extract (p + 1) (p + 2)).size = 1; rw [Array.size_extract]; omega
        rw [e2]; omega
      · have e3 : parts ++ unqParts y.cps (n + 1) st = parts ++ cut y.cps st p ++ [⟨y.cps.extract (p + 1) (p + 2)⟩] ++ unqParts y.cps n (p + 2) := by
          rw [unqParts, e]; simp [cut]
        have q := hR h2 tk2 t2 F2 N2
        rw [e3] at q
        exact q
end
end Mine
end
section
open PySem PySem.W PySem.Calls PyProof.Rows PySem.Builtin.Re
set_option maxRecDepth 100000
namespace Mine
section
variable {prog : Program} {w : World} {A : Around} {y : Str} {t : Tok} {h₀ : Heap} {L : Addr} {m : Str → Option Value}
theorem named_sub (f : Addr) : reNamed "re.Pattern.sub" "sub" ["repl", "string", "count"] 2 [.ref f, .str y t] [] = pure [some (.ref f), some (.str y t), none] := by rfl
theorem wp_notHeld {Mo : Model} {E : Value → Shared → Prop} {s : Shared} {id : String} {Q : Unit → Shared → Prop} (h : Q () s) : wpAny Mo A (reNotHeld id (.str y t)) Q E s := by
  unfold reNotHeld
  refine wpAny_bind (wpAny_isInstance_val rfl F.sub_str_bytearray ?_)
  exact wpAny_pure h
noncomputable def unq (y : Str) : Str := Txt.join ⟨#[]⟩ (unqParts y.cps y.cps.size 0)
theorem call_sub {E : Value → Shared → Prop} {s : Shared} {f : Addr} {led : List (Addr × Obj)} {of : Obj} {Q : Value → Shared → Prop} (hy : y.cps.size ≤ 1000) (P : PatIn h₀) (lam : ∀ l, LamOk prog w A y t h₀ L m f l led)
    (F : Fr h₀ L s.heap m) (N : News h₀ L s.heap led) (hf : s.heap.get? f = some of) (hcf : of.cls = .type "function")
    (h : ∀ h' tk t', Fr h₀ L h' m → News h₀ L h' led → Q (.str (unq y) t') { s with heap := h', toks := tk }) :
    wpAny (model prog w) A (call (.builtin "re.Pattern.sub") [.ref 44, .ref f, .str y t]) Q E s := by
  have P' := P.keeps F.keep
  refine wpAny_call (codeAny_call_builtin slot_sub.plain entry_sub (slot_sub.check _ _ _ _ _ _ _ _ ⟨_, P'.pat, rfl⟩ (args_sub _ _ _) ?_))
  unfold Builtin.«re.Pattern.sub» reSubstitute
  dsimp only
  refine wpAny_bind (wpAny_of_eq (named_sub f) ?_)
  dsimp only
  refine wpAny_bind (wpAny_pure ?_)
  refine wpAny_bind (wpAny_specialOf ⟨_, hf, hcf⟩ special_call ?_)
  rw [if_pos (show (some (Value.builtin "function.__call__")).isSome = true from rfl)]
  refine wpAny_bind (wpAny_pure ?_)
  rw [if_pos (show (some (Value.builtin "function.__call__")).isSome = true from rfl)]
  refine wpAny_bind (wpAny_pure ?_)
  refine wpAny_bind (wpAny_holding (wp_whole P' ?_))
  dsimp only
  rw [if_pos (show ((1 : Int) == 1) = true from rfl)]
  refine wpAny_bind (wp_notHeld ?_)
  refine wpAny_bind (wpAny_newList ?_ (by rw [sizeLine_eq]; decide))
  refine wpAny_pure ⟨plainId_quiet plain_subloop _, ?_⟩
  have F1 := F.push { cls := .type "list", data := .seq ([] : List Value).toArray }
  have N1 := News.push F N { cls := .type "list", data := .seq ([] : List Value).toArray }
  refine sub_loop hy P (fun p hp => Nat.ne_of_lt (Heap.lt_size (N p hp).1)) (lam _) y.cps.size 0 0 [] 0 [] _ (by omega) (by omega) (Nat.le_refl _) (Nat.le_refl _) .nil F1 N1 fun h' tk t' F' N' => ?_
  exact h h' tk t' F' N'
end
end Mine
end
section
open PySem PySem.W PySem.Calls PyProof.Rows
set_option maxRecDepth 100000
namespace Mine
section
variable {prog : Program} {w : World} {A : Around} {E : Value → Shared → Prop} {s : Shared} {y : Str} {t : Tok} {h₀ : Heap} {L : Addr} {m : Str → Option Value} {K : Frag} {news : List (Addr × Obj)}
theorem patIn_of {h : Heap} (X : K.In h) (h1 : K.lookup 44 = some { cls := .type "re.Pattern", data := .fields #[.str (Str.ofString "\\\\(.)") 297, .int 256 317, .int 1 0, .none, .none, .ref 43, .int 0 0] })
    (h2 : K.lookup 43 = some { cls := .type "tuple", data := .seq codeVals }) : PatIn h := ⟨X _ _ h1, X _ _ h2⟩
theorem gm_sub {pl : Sem Bool} {Q : Value × List Value → Shared → Prop} (F : Fr h₀ L s.heap m) (P : PatIn h₀) (h : Q (.builtin "re.Pattern.sub", [.ref 44]) s) :
    wpAny (model prog w) A (getMethod (.ref 44) (Str.ofString "sub") pl) Q E s :=
  getMethod_builtin ⟨_, (P.keeps F.keep).pat, rfl⟩ plainAttrs_pat slot_sub type_sub (fun a e => by cases e; exact ⟨_, (P.keeps F.keep).pat, rfl⟩) h
theorem gm_group {pl : Sem Bool} {Q : Value × List Value → Shared → Prop} {a a₁ : Addr} (N : News h₀ L s.heap news) (hm : (a, matchObj y t a₁) ∈ news) (h : Q (.builtin "re.Match.group", [.ref a]) s) :
    wpAny (model prog w) A (getMethod (.ref a) (Str.ofString "group") pl) Q E s :=
  getMethod_builtin ⟨_, (N _ hm).1, rfl⟩ plainAttrs_match slot_group type_group (fun b e => by cases e; exact ⟨_, (N _ hm).1, rfl⟩) h
theorem group_K {Q : Value → Shared → Prop} {a a₁ : Addr} {p : Nat} {u : Tok} (N : News h₀ L s.heap news) (hm : (a, matchObj y t a₁) ∈ news) (h1 : (a₁, spanObj p) ∈ news) (hl : y.cps.size ≤ 1000) (hp : p + 2 ≤ y.cps.size)
    (h : ∀ t' k, (⟨y.cps.extract (p + 1) (p + 2)⟩ : Str).length = 1 → Q (.str ⟨y.cps.extract (p + 1) (p + 2)⟩ t') { s with toks := k }) :
    wpAny (model prog w) A (call (.builtin "re.Match.group") [.ref a, .int 1 u]) Q E s :=
  wp_group (N _ h1).1 (N _ hm).1 (by omega) (h _ _ (by show (y.cps.extract (p + 1) (p + 2)).size = 1; rw [Array.size_extract]; omega))
theorem empty_app (x : Str) : Str.ofString "" ++ x = x := by rw [s0, app_cps]; congr 1; simp
end
end Mine
end
section
open PySem PySem.W PyProof.Rows
set_option maxRecDepth 100000
namespace Mine
theorem start_q {x : Str} (h : 2 ≤ (x.length : Int)) : Txt.startswith x (Str.ofString "\"") = decide (x.cps.toList.getD 0 0 = 34) := by
  have hn := len_toList x
  rw [s34]
  have h1 := StrLaws.subAt_one x 34 0
  show (decide (0 + (⟨#[34]⟩ : Str).length ≤ x.length) && Builtin.Str.subAt x ⟨#[34]⟩ 0) = _
  rw [Bool.eq_iff_iff, Bool.and_eq_true, decide_eq_true_eq, decide_eq_true_eq, h1]
  have h0 : 0 < x.cps.toList.length := by omega
  have e9 : x.cps.toList.getD 0 0 = x.cps.toList[0] := by rw [List.getD, List.getElem?_eq_getElem h0]; rfl
  rw [List.getElem?_eq_getElem h0, e9]
  constructor
  · exact Option.some.inj
  · exact congrArg some
theorem end_q {x : Str} (h : 2 ≤ (x.length : Int)) : Txt.endswith x (Str.ofString "\"") = decide (x.cps.toList.getD (x.length - 1) 0 = 34) := by
  have hn := len_toList x
  rw [s34]
  have h1 := StrLaws.subAt_one x 34 (x.length - 1)
  have e1 : (⟨#[34]⟩ : Str).length = 1 := rfl
  show (decide (0 + (⟨#[34]⟩ : Str).length ≤ x.length) && Builtin.Str.subAt x ⟨#[34]⟩ (x.length - (⟨#[34]⟩ : Str).length)) = _
  rw [e1] at h1 ⊢
  have h0 : x.length - 1 < x.cps.toList.length := by omega
  rw [List.getElem?_eq_getElem h0] at h1
  have e2 : decide (0 + 1 ≤ x.length) = true := decide_eq_true (by omega)
  have e3 : x.length - 1 + 1 ≤ x.length := by omega
  rw [e2, Bool.true_and, Bool.eq_iff_iff, decide_eq_true_eq]
  have e9 : x.cps.toList.getD (x.length - 1) 0 = x.cps.toList[x.length - 1] := by rw [List.getD, List.getElem?_eq_getElem h0]; rfl
  rw [e9]
  constructor
  · intro q; exact Option.some.inj (h1.mp ⟨e3, q⟩)
  · intro q; exact (h1.mpr (congrArg some q)).2
theorem isQ_eq2 {x : Str} (h : 2 ≤ (x.length : Int)) : isQ x = (Txt.startswith x (Str.ofString "\"") && Txt.endswith x (Str.ofString "\"")) := by
  rw [start_q h, end_q h]
  unfold isQ
  rw [decide_eq_true (by omega : 2 ≤ x.length), Bool.true_and]
theorem unq_short {x : Str} (h : ¬ 2 ≤ (x.length : Int)) : x = lawRead x := read_short (by omega)
theorem unq_head {x : Str} (h : 2 ≤ (x.length : Int)) (e : Txt.startswith x (Str.ofString "\"") = false) : x = lawRead x := by
  unfold lawRead; rw [isQ_eq2 h, e]; rfl
theorem unq_last {x : Str} (h : 2 ≤ (x.length : Int)) (e : Txt.endswith x (Str.ofString "\"") = false) : x = lawRead x := by
  unfold lawRead; rw [isQ_eq2 h, e, Bool.and_false]; rfl
theorem rd_free {l : List Nat} {s : Nat} (h : s < l.length) (n : ¬ (s + 1 < l.length ∧ l.getD s 0 = 92 ∧ l.getD (s + 1) 0 ≠ 10)) : rd (l.drop s) = l.getD s 0 :: rd (l.drop (s + 1)) := by
  rw [drop_at h]
  by_cases h2 : s + 1 < l.length
  · rw [drop_at h2, rd, if_neg fun e => n ⟨h2, e.1, e.2⟩]
  · have e : l.drop (s + 1) = [] := List.drop_eq_nil_of_le (by omega)
    rw [e]; rfl
theorem rd_hit {l : List Nat} {s : Nat} (n : s + 1 < l.length ∧ l.getD s 0 = 92 ∧ l.getD (s + 1) 0 ≠ 10) : rd (l.drop s) = l.getD (s + 1) 0 :: rd (l.drop (s + 2)) := by
  rw [drop_at (by omega : s < l.length), drop_at n.1, rd, if_pos n.2]
theorem next_rd (t : Array Nat) : ∀ n s, s + n = t.size → match nextHit t t.size n s with
    | some p => s ≤ p ∧ p + 1 < t.size ∧ rd (t.toList.drop s) = (t.toList.drop s).take (p - s) ++ t.toList.getD (p + 1) 0 :: rd (t.toList.drop (p + 2))
    | none => rd (t.toList.drop s) = t.toList.drop s
  | 0, s, h => by
    have e : t.toList.drop s = [] := List.drop_eq_nil_of_le (by simp; omega)
    simp only [nextHit, e, rd]
  | n + 1, s, h => by
    have ih := next_rd t n (s + 1) (by omega)
    have hl : t.toList.length = t.size := by simp
    have hg : ∀ i, t.getD i 0 = t.toList.getD i 0 := fun i => by simp [Array.getD_eq_getD_getElem?, List.getD]
    unfold nextHit
    by_cases hh : hit t t.size s
    · rw [if_pos hh]
      unfold hit at hh
      rw [hg, hg] at hh
      refine ⟨Nat.le_refl _, hh.1, ?_⟩
      rw [Nat.sub_self, List.take_zero, List.nil_append]
      exact rd_hit (by rw [hl]; exact hh)
    · rw [if_neg hh]
      unfold hit at hh
      rw [hg, hg] at hh
      have hr := rd_free (l := t.toList) (s := s) (by omega) (by rw [hl]; exact hh)
      have hd := drop_at (l := t.toList) (k := s) (by omega)
      cases hn : nextHit t t.size n (s + 1) with
      | none =>
        rw [hn] at ih
        show rd (t.toList.drop s) = t.toList.drop s
        rw [hr, ih, ← hd]
      | some p =>
        rw [hn] at ih
        refine ⟨by omega, ih.2.1, ?_⟩
        rw [hr, ih.2.2, hd, show p - s = (p - (s + 1)) + 1 by omega, List.take_succ_cons, List.cons_append]
theorem parts_rd (t : Array Nat) : ∀ n s, s ≤ t.size → t.size ≤ s + n → (unqParts t n s).flatMap (fun z => z.cps.toList) = rd (t.toList.drop s)
  | 0, s, h1, h2 => by
    have e : t.toList.drop s = [] := List.drop_eq_nil_of_le (by simp; omega)
    unfold unqParts
    rw [if_neg (by omega), e]; rfl
  | n + 1, s, h1, h2 => by
    have hx := next_rd t (t.size - s) s (by omega)
    unfold unqParts
    cases hn : nextHit t t.size (t.size - s) s with
    | none =>
      rw [hn] at hx
      simp only []
      rw [hx]
      by_cases h : s < t.size
      · rw [if_pos h]; simp [List.take_of_length_le]
      · have e : t.toList.drop s = [] := List.drop_eq_nil_of_le (by simp; omega)
        rw [if_neg h, e]; rfl
    | some p =>
      rw [hn] at hx
      obtain ⟨h3, h4, h5⟩ := hx
      have ih := parts_rd t n (p + 2) (by omega) (by omega)
      simp only []
      rw [h5, List.flatMap_append, List.flatMap_cons, ih]
      congr 1
      · by_cases h : s < p
        · rw [if_pos h]; simp
        · rw [if_neg h, show p - s = 0 by omega]; rfl
      · have e1 : (t.extract (p + 1) (p + 2)).toList = [t.toList.getD (p + 1) 0] := by
          have hl : p + 1 < t.toList.length := by simp; omega
          rw [Array.toList_extract, List.extract_eq_take_drop, drop_at hl, show p + 2 - (p + 1) = 1 by omega]
          rfl
        show (t.extract (p + 1) (p + 2)).toList ++ _ = _
        rw [e1]; rfl
theorem join_nil (parts : List Str) : (Txt.join ⟨#[]⟩ parts).cps.toList = parts.flatMap fun z => z.cps.toList := by
  rw [eq_of_beq (join_plain_closes ⟨#[]⟩ parts)]
  induction parts with
  | nil => rfl
  | cons p r ih =>
    cases r with
    | nil => show p.cps.toList = p.cps.toList ++ []; rw [List.append_nil]
    | cons q r =>
      show (p ++ (⟨#[]⟩ : Str) ++ Str.join ⟨#[]⟩ (q :: r)).cps.toList = _
      rw [List.flatMap_cons, ← ih, app_cps, app_cps, Array.toList_append, Array.toList_append]
      show p.cps.toList ++ [] ++ _ = _
      rw [List.append_nil]
theorem unq_rd (y : Str) : unq y = ⟨(rd y.cps.toList).toArray⟩ := by
  unfold unq
  have h := parts_rd y.cps y.cps.size 0 (by omega) (by omega)
  rw [← join_nil, List.drop_zero] at h
  rw [← h]
theorem unq_in {x : Str} (h : 2 ≤ (x.length : Int)) (e1 : Txt.startswith x (Str.ofString "\"") = true) (e2 : Txt.endswith x (Str.ofString "\"") = true) : unq (Txt.slice x (some 1) (some (-1))) = lawRead x := by
  unfold lawRead
  rw [isQ_eq2 h, e1, e2, if_pos (by rfl), slice_mid_neg (by omega), unq_rd]
end Mine
end
section
open PySem PySem.W PySem.Calls PyProof.Rows PySem.Spec
set_option maxRecDepth 100000
namespace Mine
def inOf (tok : Str) (a : Str) : Bool := !(Builtin.Str.occurrences tok a 0 tok.length 1).isEmpty
section
variable {prog : Program} {w : World} {A : Around} {E : Value → Shared → Prop} {s : Shared} {h₀ : Heap} {c P L : Addr} {ps : Array Value} {m mg mb : Str → Option Value} {led : List (Addr × Obj)} {p : Program} {loose : List Str} {mean : ExcName → Option Value}
theorem wp_genCode {Mo : Model} {env : Env} {pos : Pos} {qualname : Str} {scope : Scope} {Q : Value → Shared → Prop} (hc : env.code = .ref c) (C : CodeHd s.heap c P) (hP : s.heap.get? P = some (tabObj ps)) (ht : TriplesOk ps.toList)
    (hQ : ∀ code h' tk ps', Heap.ExtBut P s.heap h' → s.heap.objs.size ≤ h'.objs.size → h'.get? P = some (tabObj ps') → TriplesOk ps'.toList → Q code { s with heap := h', toks := tk }) :
    wpAny Mo A (genexprCode env pos qualname scope) Q E s := by
  cases hf : codeAmong pos ps.toList with
  | none =>
    refine wpAny_genexprCodeX hc (C.code hP ht) (C.tab hP) hf fun c' h' tk hx hge hlt hcode _ htab _ => ?_
    refine hQ _ h' tk _ hx (Nat.le_trans hge (Nat.le_of_lt hlt)) htab.2 ?_
    obtain ⟨_, _, _, _, _, _, _, _, _, _, _, _, _, _, _, _, _, _, _, htr, _⟩ := hcode
    exact htr
  | some cv =>
    obtain ⟨o, vs, file, tf, flags, tg, inF, text, tt, e1, e2, e3, e4, e5, e6, e7, e8, e9, e10⟩ := C
    unfold genexprCode codeAt
    rw [hc, if_neg (show ¬ ((Value.ref c == Value.none) = true) from Bool.false_ne_true)]
    refine wpAny_bind (wpAny_fieldsOf e1 e3 ?_)
    rw [e5]
    refine wpAny_bind (wpAny_fieldsOf hP rfl ?_)
    rw [hf]
    exact wpAny_pure (hQ cv s.heap s.toks ps (Heap.ExtBut.refl _ _) (Nat.le_refl _) hP ht)

theorem genOnD_all {Kb a : Addr} {y : Str} {q : Str → Bool} {S : Shared}
    (X : Gen prog w A Kb a (passing (fun _ => true) y.cps.size 0).length (fun j r => ∃ i, (passing (fun _ => true) y.cps.size 0)[j]? = some i ∧ ∃ b, (signs y)[i]? = some b ∧ Carried r (.bool (q b))) S) :
    GenOnD prog w A Kb a (signs y) (fun _ => true) (fun z => .bool (q z)) S := by
  have hpass : passing (fun _ => true) y.cps.size 0 = List.range y.cps.size := by simp [passing]
  have hfil : (signs y).filter (fun _ => true) = signs y := by simp
  unfold GenOnD
  rw [hfil, signs_length]
  rw [hpass, List.length_range] at X
  refine X.imp fun j r hy => ?_
  obtain ⟨i, hij, b, hb, hc⟩ := hy
  have hj : j = i := by
    by_cases hjn : j < y.cps.size
    · rw [List.getElem?_eq_getElem (by simpa using hjn)] at hij; simpa using hij
    · rw [List.getElem?_eq_none (by simpa using hjn)] at hij; cases hij
  subst hj
  exact ⟨b, hb, hc⟩
theorem genexp_tok {env : Env} {iter : Expr} {x g : Str} {px p1 p2 p3 : Pos} {scope : Scope} {cc : Addr} {oc : Obj} {tok y : Str} {u t : Tok} {pos : Pos} {Q : Value → Shared → Prop}
    (hh : A.handled = none) (hroom : A.depth < recursionLimit) (F : Fr h₀ L s.heap m) (N : News h₀ L s.heap ((P, tabObj ps) :: led)) (hPn : ∀ q ∈ led, q.1 ≠ P) (C : CodeHd h₀ c P) (ht : TriplesOk ps.toList) (hcode : env.code = .ref c)
    (T : Top p loose mean mg mb h₀) (hge : env.globals = mainGlobals) (G : AllBare s.gens) (hclos : closureFor scope env = pure [(g, cc)]) (hcm : (cc, oc) ∈ led) (hcd : oc.data = .cell (some (.str tok u)))
    (hco : scope.isCoroutine = false) (hcell : ∀ y ∈ scope.names, y.2 ≠ .cell) (h0 : scope.names.lookup (".0" : Str) = some NameKind.local) (hx : scope.names.lookup x = some .local) (hg : scope.names.lookup g = some .free) (hkind : scope.kind = .function)
    (dx : (x == ("__debug__" : Str)) = false) (dg : (g == ("__debug__" : Str)) = false) (dc : (g == ("__classdict__" : Str)) = false)
    (hi : ∀ Q : Value → Shared → Prop, Q (.str y t) s → wpAny (model prog w) A (eval iter env) Q E s) (hs : ∀ x, genFold iter env x = pure x)
    (hn1 : 1 ≤ s.toks) (h : ∀ a s₅ ps' Kb, 1 ≤ s₅.toks → Fr h₀ L s₅.heap m → News h₀ L s₅.heap ((P, tabObj ps') :: led) → TriplesOk ps'.toList → AllBare s₅.gens → s₅.os = s.os → L ≤ Kb → (∀ q ∈ (P, tabObj ps') :: led, q.1 ≤ Kb) →
      GenOnD prog w A Kb a (signs y) (fun _ => true) (fun z => .bool (inOf tok z)) s₅ → Q (.ref a) s₅) :
    wpAny (model prog w) A (eval (.GeneratorExp (.Compare (.Name x p1) [.In] [.Name g p2] p3) [⟨.Name x px, iter, [], 0⟩] scope pos) env) Q E s := by
  have hgs := T.g.keeps F.keep
  obtain ⟨bm, ob, b1, b2, b3, b4, b5, b6⟩ := T.bmain
  have hP := N (P, tabObj ps) (.head _)
  have hgP : mainGlobals ≠ P := fun q => by
    obtain ⟨o, es, ep, e, hd, _⟩ := hgs
    rw [q, hP.1] at e; cases e; cases hd
  have hbP : bm ≠ P := fun q => by
    have e := F.keep _ _ b3
    rw [q, hP.1] at e; cases e; cases b4
  have hlim : s.heap.NoLimit := T.nolimit.keeps F.keep
  have hcP : cStatics ≠ P := fun e => by
    obtain ⟨_, hns, _⟩ := hlim
    obtain ⟨o, es, ep, ho, hd, _⟩ := hns
    rw [e, hP.1] at ho; cases ho; cases hd
  have hLs : L < s.heap.objs.size := F.ns.lt
  refine wpAny_with_toks hn1 (wpAny_mono (Q := fun a s' => 1 ≤ s'.toks → Q a s') (E := E) ?_ (fun _ _ q => q) (fun _ _ q _ => q))
  refine wpAny_GeneratorExp_walksQD hh hco hclos hcell h0 hx hkind hroom (hi _ ?_) hs
  refine wpAny_pyIter_str fun o St W hst => ?_
  have kp : ∀ b o', s.heap.get? b = some o' → (s.heap.push o).get? b = some o' := fun b o' e => Heap.get?_push_of_some _ e
  have hl₂ : (s.heap.push o).NoLimit := hlim.push _
  have sz2 : (s.heap.push o).objs.size = s.heap.objs.size + 1 := Heap.size_push _ _
  refine ⟨hl₂, wp_genCode hcode ((C.keeps F.keep).keeps kp) (kp _ _ hP.1) ht fun code h₃ tk₃ ps' hx₃ hsz₃ htab₃ ht₃ => ?_⟩
  have hsz₃' : s.heap.objs.size + 1 ≤ h₃.objs.size := by rw [← sz2]; exact hsz₃
  have k₃ : ∀ b o', b ≠ P → s.heap.get? b = some o' → h₃.get? b = some o' := fun b o' hb e => hx₃ b o' hb (kp b o' e)
  have hl₃ : h₃.NoLimit := hl₂.extBut hx₃ hcP
  have hbG : bm ≠ builtinsNs := b2
  rw [hge]
  refine wpAny_builtinsFor (hgs.extBut (fun b o' hb e => k₃ b o' hb e) hgP) b1 b2 (k₃ _ _ hbP (F.keep _ _ b3)) b4 b5 b6 ?_
  have hcc := N (cc, oc) (.tail _ hcm)
  have hccP : cc ≠ P := hPn _ hcm
  have hccI : cc ≠ s.heap.objs.size := Nat.ne_of_lt (Heap.lt_size hcc.1)
  refine ⟨s.heap.objs.size, [s.heap.objs.size], [s.heap.objs.size], y.cps.size, SignAt y, St, (fun _ => true), (fun i r => ∃ b, (signs y)[i]? = some b ∧ Carried r (.bool (inOf tok b))), rfl, W,
    (W A hh).frame _ _ _ hst (fun b hb o' e => hx₃ b o' (fun q => by rw [List.mem_singleton.mp hb] at q; exact absurd (Heap.lt_size hP.1) (by rw [← q]; exact Nat.lt_irrefl _)) e),
    (fun b hb => by rw [List.mem_singleton.mp hb]; exact hsz₃'), hl₃, ?_, (fun href hhref => ⟨?_, ?_⟩), ?_⟩
  · intro hm
    obtain ⟨_, hns, _⟩ := hlim
    have := hns.lt
    rw [List.mem_singleton.mp hm] at this
    exact Nat.lt_irrefl _ this
  · intro A' E' i v s₂ m₂ hA hD hU hPi hn hm hk
    exact wpAny_pure ⟨rfl, s₂.heap, s₂.toks, rfl, fun _ _ e => e⟩
  · intro A' E' i v s₂ m₂ hA hD hU hPi hp hn hm hk
    obtain ⟨c₁, t₁, hc₁, rfl⟩ := hPi
    have hloc : (genEnv scope [(g, cc)] h₃.objs.size code builtinsNs env).kindOf x = some .local := hx
    have hfree : (genEnv scope [(g, cc)] h₃.objs.size code builtinsNs env).kindOf g = some .free := hg
    have hcc₂ : s₂.heap.get? cc = some oc := hk cc (List.mem_range.mpr (Nat.lt_of_lt_of_le (Nat.lt_succ_of_lt (Heap.lt_size hcc.1)) hsz₃')) (fun q => hccI (List.mem_singleton.mp q)) oc (hhref _ _ (k₃ _ _ hccP hcc.1))
    refine wpAny_Compare1 ?_ rfl
    refine wpAny_Name (wpAny_loadName_local hkind hloc hn hm ?_) dx
    refine wpAny_Name (wpAny_loadName_free hkind hfree (by simp [genEnv]) ⟨oc, hcc₂, hcd⟩ ?_ dc) dg
    refine in_str ?_
    exact ⟨⟨_, signs_at hc₁, .bool _⟩, s₂.heap, s₂.toks, rfl, fun _ _ e => e⟩
  · intro a h₅ tk gs hgb hag hsz₅ hk₅ Wk hat
    have kk : ∀ b o', b ≠ P → s.heap.get? b = some o' → h₅.get? b = some o' := fun b o' hb e => hk₅ _ _ (k₃ b o' hb e)
    have pos : 0 < s.heap.objs.size := Nat.lt_of_le_of_lt (Nat.zero_le _) hLs
    have F₅ : Fr h₀ L h₅ m := ⟨F.ns.extBut (fun b o' hb e => kk b o' hb e) hP.2.1.symm, fun b o' e => kk b o' (fun q => by rw [q, hP.2.2] at e; cases e) (F.keep b o' e), F.above⟩
    have N₅ : News h₀ L h₅ ((P, tabObj ps') :: led) := fun q hq => by
      rcases List.mem_cons.mp hq with rfl | hq
      · exact ⟨hk₅ _ _ htab₃, hP.2⟩
      · have z := N q (.tail _ hq)
        exact ⟨kk _ _ (hPn q hq) z.1, z.2⟩
    intro ht₅
    refine h a _ ps' (s.heap.objs.size - 1) ht₅ F₅ N₅ ht₃ (G.push hgb) rfl (Nat.le_sub_one_of_lt hLs) (fun q hq => ?_) ?_
    · have hlt : q.1 < s.heap.objs.size := by
        rcases List.mem_cons.mp hq with rfl | hq
        · exact Heap.lt_size hP.1
        · exact Heap.lt_size (N q (.tail _ hq)).1
      exact Nat.le_sub_one_of_lt hlt
    · refine genOnD_all ⟨_, _, _, _, Wk, hat, (fun i s' st => st.1.typeIs), List.mem_cons_self, ?_, ?_⟩
      · intro b hb
        show b < h₅.objs.size
        rw [hsz₅]
        rcases List.mem_cons.mp hb with rfl | hb
        · exact Nat.lt_succ_self _
        · rcases List.mem_cons.mp hb with rfl | hb
          · exact Nat.lt_succ_of_lt hag
          · exact Nat.lt_succ_of_lt (Nat.lt_trans (List.mem_range.mp hb) hag)
      · intro b hb
        rcases List.mem_cons.mp hb with rfl | hb
        · exact Nat.lt_of_lt_of_le (by omega) hsz₃'
        · rw [List.mem_singleton.mp hb]; exact Nat.sub_one_lt_of_lt hLs
theorem all_tok {Kb a : Addr} {y : Str} {q : Str → Bool} {Q : Value → Shared → Prop} (F : Fr h₀ L s.heap m) (N : News h₀ L s.heap led) (G : AllBare s.gens)
    (X : GenOnD prog w A Kb a (signs y) (fun _ => true) (fun z => .bool (q z)) s) (hLK : L ≤ Kb) (hK : ∀ r ∈ led, r.1 ≤ Kb) (hn1 : 1 ≤ s.toks)
    (h : ∀ hp g d tk os, 1 ≤ tk → Fr h₀ L hp m → News h₀ L hp led → AllBare g → os = s.os → Q (.bool ((signs y).all q)) ⟨hp, g, d, tk, os⟩) : wpAny (model prog w) A (call (.builtin "all") [.ref a]) Q E s := by
  refine wpAny_with_toks hn1 (wpAny_mono (Q := fun a s' => 1 ≤ s'.toks → Q a s') (E := E) ?_ (fun _ _ q => q) (fun _ _ q _ => q))
  refine all_genD F G X hLK fun s' F' G' hos hk ht => ?_
  have hfil : (signs y).filter (fun _ => true) = signs y := by simp
  rw [hfil]
  obtain ⟨hp, g, d, tk, os⟩ := s'
  exact h hp g d tk os ht F' (fun r hr => ⟨hk _ _ (hK r hr) (N r hr).1, (N r hr).2⟩) G' hos
theorem news_swap {h : Heap} {a b : Addr × Obj} {r : List (Addr × Obj)} (N : News h₀ L h (a :: b :: r)) : News h₀ L h (b :: a :: r) := fun q hq => by
  rcases List.mem_cons.mp hq with rfl | hq
  · exact N _ (.tail _ (.head _))
  · rcases List.mem_cons.mp hq with rfl | hq
    · exact N _ (.head _)
    · exact N _ (.tail _ (.tail _ hq))
theorem le_swap {Kb : Addr} {a b : Addr × Obj} {r : List (Addr × Obj)} (N : ∀ q ∈ a :: b :: r, q.1 ≤ Kb) : ∀ q ∈ b :: a :: r, q.1 ≤ Kb := fun q hq => by
  rcases List.mem_cons.mp hq with rfl | hq
  · exact N _ (.tail _ (.head _))
  · rcases List.mem_cons.mp hq with rfl | hq
    · exact N _ (.head _)
    · exact N _ (.tail _ (.tail _ hq))
theorem ne_cons {P L : Addr} {o : Obj} {r : List (Addr × Obj)} (h : ∀ p ∈ r, p.1 ≠ P) (l : P < L) : ∀ p ∈ (L + 1, o) :: r, p.1 ≠ P := fun p hp => by
  rcases List.mem_cons.mp hp with rfl | hp
  · exact Nat.ne_of_gt (Nat.lt_succ_of_lt l)
  · exact h p hp
theorem tail_lt {L : Addr} {a : Addr × Obj} {r : List (Addr × Obj)} (h : ∀ p ∈ a :: r, p.1 < L) : ∀ p ∈ r, p.1 < L := fun p hp => h p (.tail _ hp)
theorem head_lt {L P : Addr} {o : Obj} {r : List (Addr × Obj)} (h : ∀ p ∈ (P, o) :: r, p.1 < L) : P < L := h (P, o) (.head _)
theorem replT {x y z : Str} {t u v : Tok} {Q : Value → Shared → Prop} (hn : 1 ≤ s.toks) (hu : u ≠ 0) (hv : v ≠ 0) (huv : u ≠ v) (hyz : (y == z) = false) (hx : x.length ≤ 1048576) (hz : z.length ≤ 14)
    (hq : ∀ t' k, 1 ≤ k → Q (.str (Txt.replace x y z) t') { s with toks := k }) : wpAny (model prog w) A (call (.builtin "str.replace") [.str x t, .str y u, .str z v]) Q E s := by
  refine wpAny_with_toks hn (wpAny_mono (Q := fun a s' => 1 ≤ s'.toks → Q a s') (E := E) ?_ (fun _ _ q => q) (fun _ _ q _ => q))
  exact PySem.SC.replaceW hu hv huv hyz hx hz fun t' k hk => hq t' k hk
theorem news_drop2 {h : Heap} {a b : Addr × Obj} {r : List (Addr × Obj)} (N : News h₀ L h (a :: b :: r)) : News h₀ L h (a :: r) := fun q hq => by
  rcases List.mem_cons.mp hq with rfl | hq
  · exact N _ (.head _)
  · exact N _ (.tail _ (.tail _ hq))
theorem news_drop1 {h : Heap} {b : Addr × Obj} {r : List (Addr × Obj)} (N : News h₀ L h (b :: r)) : News h₀ L h r := fun q hq => N _ (.tail _ hq)
theorem empty_app3 (a b c : Str) : Str.empty ++ a ++ b ++ c = a ++ b ++ c := by rw [PySem.Str.empty_append]
end
end Mine
end
section
open PySem PySem.W PyProof.Rows
set_option maxRecDepth 100000
set_option maxHeartbeats 8000000
namespace Mine
abbrev topNames : List Str := [Str.ofString "quote_header_value", Str.ofString "_unslash_re", Str.ofString "_law_signs", Str.ofString "_law_hard"]
noncomputable abbrev topLoose : List Str := looseW hd.view_39 topNames ++ List.map (fun x => x.name) (recsOf hd.view_39) ++ List.map (fun x => x.fst) (litsOf hd.view_39) ++ List.map (fun x => x.name) (clssOf hd.view_39 (looseW hd.view_39 topNames))
def Con (w : World) (mean : ExcName → Option Value) (mg mb : Str → Option Value) (f : Addr) (vs : List Value) (R : Tok → Value) : Prop :=
  ∀ (news : List (Addr × Obj)) (dp un : Nat) (gd : Option (List Code)) (cn : Str) (cs : Scope) (a : Addr) (ccd : Value) (cl : List (Str × Addr)) (outer : List Env) (A₀ : Around) (base h₀ : Heap) (L : Addr) (m : Str → Option Value) (s : Shared) (Q E : Value → Shared → Prop),
    Below A₀ base outer h₀ → Fr h₀ L s.heap m → (hd.heap_39 w.params).In h₀ → News h₀ L s.heap news → Top topProg topLoose mean mg mb h₀ → cs.kind = .function →
    dp + 4 < recursionLimit → un + 16 < cLine → CbRet h₀ L m news s Q R →
      wpAny (model PySem.Challenge.rw_en5025_01.row.prog w) (ktrTop dp un gd cn cs L a ccd cl outer) (call (.ref f) vs) Q E s
end Mine
end
section
open PySem PySem.W PyProof.Rows
set_option maxRecDepth 100000
set_option maxHeartbeats 8000000
namespace Mine
theorem c_quoted (w : World) (mean : ExcName → Option Value) (mg mb : Str → Option Value) (x : Str) (t : Tok) (hx : x.length ≤ 1000) : Con w mean mg mb 60 [.str x t] (fun t => .str (lawQuoted x) t) := by
  k_with_none
  k_with "pyIter str" => k_state (fun pre out => out = qtP pre ∧ out.length ≤ 2 * pre.length + 1) "out"
  k_with "state" => first | exact qt_start | exact qt_esc1 (by assumption) (by assumption) (by assumption) | exact qt_esc2 (by assumption) (by assumption) (by assumption) | exact qt_plain (by assumption) (by assumption) (by assumption) (by assumption)
  k_with "tree" => exact qt_end (by assumption)
  w_on
  unfold Con
  dsimp only [CbRet]
  k_fill
  intros
  rename_i hret
  refine wpAny_call ?_
  k_dflt cell_enter
  k_steps

  all_goals cb_end hret
end Mine
end
section
open PySem PySem.W PyProof.Rows
set_option maxRecDepth 100000
set_option maxHeartbeats 8000000
namespace Mine
local macro_rules | `(tactic| walk_at "eval ListComp") => `(tactic| (k_here; (with_reducible show wpAny _ _ (eval (Expr.ListComp (Expr.Name _ _) [⟨Expr.Name _ _, Expr.Name _ _, [_], _⟩] _ _) _) _ _ _); (with_reducible apply ListComp_rowsP); (case hfree => decide); (case hcell => decide); (case hkind => with_unfolding_all rfl); (case hnames => decide); (case hx => with_unfolding_all rfl); (case hs => intro _; with_unfolding_all rfl)))
local macro_rules | `(tactic| walk_at "pyIter str") => `(tactic| (k_here; (with_reducible show wpAny _ _ (pyIter (Value.str _ _)) (CompPost _ _ _ _ _ _ _ _ _) _ _); k_dflt (refine' srcC_tok ?hh ?hF ?hN ?hX ?hT ?he ?hg ?hk ?kx ?kg ?dx ?dg ?_ ?hsz; (case hh => exact rfl); (case hF => k_asm); (case hN => k_asm); (case hX => k_asm); (case hT => k_asm); (case he => k_is); (case hg => exact rfl); (case hk => exact rfl); (case kx => exact rfl); (case kg => exact rfl); (case dx => decide); (case dg => decide); (case hsz => size_fits); k_whole); intro D9 ys9 n9 h' tk9 F' N' l9 c9))
local macro_rules | `(tactic| walk_at "compareOp Eq ref ref") => `(tactic| (k_here; (with_reducible show wpAny _ _ (compareOp CmpOp.Eq (Value.ref _) (Value.ref _)) _ _ _); k_dflt (refine' rc_strs_nil ?hN ?h1 ?h2 ?h3 ?h4 ?_; (case hN => k_asm); (case h1 => k_mem); (case h2 => k_mem); (case h3 => assumption); (case h4 => first | k_units | ktr_units); k_whole)))
theorem c_isToken (w : World) (mean : ExcName → Option Value) (mg mb : Str → Option Value) (x : Str) (t : Tok) (hx : x.length ≤ 1000) : Con w mean mg mb 65 [.str x t] (fun _ => .bool (lawIsToken x)) := by
  k_with_none
  k_with "tree" => first | exact tok_yes (by assumption) | exact tok_no (by assumption)
  w_on
  unfold Con
  dsimp only [CbRet]
  k_fill
  intros
  rename_i hret
  refine wpAny_call ?_
  k_dflt cell_enter
  k_steps
  all_goals cb_end hret
end Mine
end
section
open PySem PySem.W PyProof.Rows
set_option maxRecDepth 100000
set_option maxHeartbeats 16000000
namespace Mine
local macro_rules | `(tactic| walk_at "mine pad 0") => `(tactic| skip)
local macro_rules | `(tactic| walk_at "ite") => `(tactic| (k_here; (with_reducible show if (_ != _) = true then _ else _); (refine split_bool ?_ ?_ <;> intro _)))
local macro_rules | `(tactic| walk_at "execs cons") => `(tactic| (k_here; (with_reducible refine gentoks ?_); intro tk htk; clear htk))
local macro_rules | `(tactic| walk_at "execs nil") => `(tactic| (k_here; (with_reducible refine gentoks ?_); intro tk htk; clear htk))
theorem c_read (w : World) (mean : ExcName → Option Value) (mg mb : Str → Option Value) (x : Str) (t : Tok) (hx : x.length ≤ 1000) : Con w mean mg mb 72 [.str x t] (fun t => .str (lawRead x) t) := by
  k_with_none
  k_with "exec While Compare cons nil" => k_while_given ["inner"] (fun inner script k out => 0 ≤ k ∧ k ≤ (inner.length : Int) ∧ (out.length : Int) ≤ k ∧ RdI inner k out) (fun inner script k out => ((inner.length : Int) - k).toNat) "at" "out"
  k_with "state" => first | exact rd_start _ | exact rd_esc (by assumption) (by assumption) (by assumption) (by assumption) (by assumption) (by assumption) | exact rd_step1 (by assumption) (by assumption) (by assumption) (by assumption) (by assumption) | exact rd_step2 (by assumption) (by assumption) (by assumption) (by assumption) (by assumption) | exact rd_step3 (by assumption) (by assumption) (by assumption) (by assumption) (by assumption) (by assumption)
  k_with "tree" => first | exact read_short (by assumption) | exact read_head (by assumption) (by assumption) | exact read_last (by assumption) (by assumption) | exact read_in (by assumption) (by assumption) (by assumption) (by assumption) (by assumption) (by assumption)
  w_on
  unfold Con
  dsimp only [CbRet]
  k_fill
  intros
  rename_i hret
  refine wpAny_call ?_
  k_dflt cell_enter
  k_steps
  all_goals cb_end hret
end Mine
end
section
open PySem PySem.W PyProof.Rows
set_option maxRecDepth 100000
set_option maxHeartbeats 2000000
namespace Mine
def Con34 (w : World) (mean : ExcName → Option Value) (mg mb : Str → Option Value) (f : Addr) (vs : List Value) (R : Tok → Value) : Prop :=
  ∀ (ps : Array Value) (news : List (Addr × Obj)) (dp un : Nat) (gd : Option (List Code)) (cn : Str) (cs : Scope) (a : Addr) (ccd : Value) (cl : List (Str × Addr)) (outer : List Env) (A₀ : Around) (base h₀ : Heap) (L : Addr) (m : Str → Option Value) (s : Shared) (Q E : Value → Shared → Prop),
    Below A₀ base outer h₀ → Fr h₀ L s.heap m → (hd.heap_39 w.params).In h₀ → News h₀ L s.heap ((34, tabObj ps) :: news) → TriplesOk ps.toList → (∀ p ∈ news, p.1 ≠ 34) → AllBare s.gens → CodeHd base 38 34 → Top topProg topLoose mean mg mb h₀ → cs.kind = .function →
    dp + 4 < recursionLimit → un + 16 < cLine → (∀ t s' ps', Fr h₀ L s'.heap m → News h₀ L s'.heap ((34, tabObj ps') :: news) → TriplesOk ps'.toList → AllBare s'.gens → s'.os = s.os → Q (R t) s') →
      wpAny (model PySem.Challenge.rw_en5025_01.row.prog w) (ktrTop dp un gd cn cs L a ccd cl outer) (call (.ref f) vs) Q E s
local macro_rules | `(tactic| walk_at "execs cons") => `(tactic| (k_here; (with_reducible refine gentoks ?_); intro tk htk))
local macro_rules | `(tactic| walk_at "execs nil") => `(tactic| (k_here; (with_reducible refine gentoks ?_); intro tk htk))
local macro_rules | `(tactic| k_all) => `(tactic| first | exact ne_succ (by assumption) | assumption)
local macro_rules | `(tactic| walk_at "eval GeneratorExp") => `(tactic| (k_here; k_dflt ((refine' genexp_tok ?hh ?hroom ?hF ?hN ?hPn ?hC ?ht ?hcode ?hT ?hge ?hG ?hclos ?hcm ?hcd ?hco ?hcell ?h0 ?hx ?hg ?hkind ?dx ?dg ?dc ?hi ?hs ?hn1 ?_); (case hh => exact rfl); (case hroom => ktr_room); (case hF => k_asm); (case hN => exact news_swap (by k_asm)); (case hPn => exact ne_cons (by assumption) (by assumption)); (case hC => exact CodeHd.keeps (by assumption) (Below.stays (by assumption))); (case ht => assumption); (case hcode => exact rfl); (case hT => k_asm); (case hge => exact rfl); (case hG => assumption); (case hn1 => (dsimp only; omega)); (case hclos => exact rfl); (case hcm => exact List.Mem.head _); (case hcd => assumption); (case hco => exact rfl); (case hcell => decide); (case h0 => exact rfl); (case hx => exact rfl); (case hg => exact rfl); (case hkind => exact rfl); (case dx => decide); (case dg => decide); (case dc => decide); (case hs => intro _; with_unfolding_all rfl); (case hi => (intro Q9 hQ9; walk1; exact hQ9)); k_whole); intro a9 s9 ps9 Kb9 hT9 F' N' ht9 G9 os9 l9 kb9 X9))
local macro_rules | `(tactic| walk_at "call builtin:all") => `(tactic| (k_here; k_dflt ((refine' all_tok ?hF ?hN ?hG ?hX ?hL ?hK ?hn1 ?_); (case hF => k_asm); (case hN => k_asm); (case hn1 => (try dsimp only); first | assumption | omega); (case hG => assumption); (case hX => assumption); (case hL => assumption); (case hK => assumption); k_whole); intro hp9 g9 d9 tk9 os9 hT9 F' N' G9 os9; (try dsimp only)))
local macro_rules | `(tactic| walk_at "call builtin:str.replace") => `(tactic| (k_here; k_dflt ((refine' replT ?hn ?hu ?hv ?huv ?hyz ?hx ?hz ?_); (case hn => ((try dsimp only); omega)); (case hu => ((show @Ne Nat _ _); (try dsimp only); omega)); (case hv => ((show @Ne Nat _ _); (try dsimp only); omega)); (case huv => ((show @Ne Nat _ _); (try dsimp only); omega)); (case hyz => decide +kernel); (case hx => omega); (case hz => decide +kernel); k_whole); intro t9 k9 hk9))
def StrOf (w : World) (v : Value) (x : Str) : Prop := ∀ (A : Around) (E : Value → Shared → Prop) (s : Shared) (Q : Value → Shared → Prop), (∀ t' k, Q (.str x t') { s with toks := k }) → wpAny (model PySem.Challenge.rw_en5025_01.row.prog w) A (call (.type "str") [v]) Q E s
local macro_rules | `(tactic| walk_at "call type:str") => `(tactic| (k_here; refine (by assumption : StrOf _ _ _) _ _ _ _ ?_; intro t8 k8))
local macro_rules | `(tactic| walk_at "mine quote") => `(tactic| (
  refine wpAny_call ?_
  k_dflt ((refine' code_defC ?k1 ?k2 ?k3 ?k4 ?k5 ?kA ?kF ?kK ?k6 ?k7 ?k8 ?k9 ?kB ?kD ?_ ?c2 ?c3 ?c4; (case kA => exact rfl); (case kF => exact rfl); (case kK => assumption); (case k1 => k_asm); (case k2 => k_asm); (case k3 => k_asm); (case k4 => k_asm); (case k5 => k_asm); (case k6 => k_is); (case k7 => k_is); (case k8 => ktr_room); (case k9 => first | exact BindsTo.of_eq rfl | exact binds_K (by k_in) rfl (by k_is) rfl rfl rfl); (case kB => exact rfl); (case kD => decide +kernel); (case c2 => exact rfl); (case c3 => exact rfl); (case c4 => exact rfl); k_whole; intro g' L' h' tk' cells' FG' F' N' Y' B' X' T' l1; have l2 := tail_lt l1; have l3 := head_lt l1; (try k_lt l1); k_cells Y'; (try simp only [List.cons_append, List.nil_append] at N'); (try dsimp only); (try k_lift B'); (try k_fold)))
  k_steps))
theorem c_quoteV1 (w : World) (mean : ExcName → Option Value) (mg mb : Str → Option Value) (v : Value) (x : Str) (hx : x.length ≤ 1000) (hv : StrOf w v x) : Con34 w mean mg mb 39 [v] (fun t => .str (quoteV x true) t) := by
  k_with_none
  w_on
  unfold Con34
  k_fill
  intros
  rename_i hret
  have e1 := len_esc1 x
  have e2 := len_esc2 (Txt.replace x (Str.ofString "\\") (Str.ofString "\\\\"))
  walk_at "mine quote"
  · have e := quote_tok (x := x) (by assumption) (by assumption)
    rw [← e] at hret
    exact hret _ _ _ (by k_asm) (news_drop2 (by k_asm)) (by assumption) (by assumption) (Eq.trans (by assumption) (by assumption))
  · have e := quote_esc (x := x) (by assumption) (by assumption)
    rw [empty_app3, e]
    exact hret _ _ _ (by k_asm) (news_drop2 (by k_asm)) (by assumption) (by assumption) (Eq.trans (by assumption) (by assumption))
  · have e := quote_empty (x := x) (b := true) (by assumption)
    rw [e]
    exact hret _ _ _ (by k_asm) (news_drop1 (by k_asm)) (by assumption) (by assumption) rfl
theorem c_quoteV2 (w : World) (mean : ExcName → Option Value) (mg mb : Str → Option Value) (v : Value) (x : Str) (hx : x.length ≤ 1000) (hv : StrOf w v x) : Con34 w mean mg mb 39 [v, .bool false] (fun t => .str (quoteV x false) t) := by
  k_with_none
  w_on
  unfold Con34
  k_fill
  intros
  rename_i hret
  have e1 := len_esc1 x
  have e2 := len_esc2 (Txt.replace x (Str.ofString "\\") (Str.ofString "\\\\"))
  walk_at "mine quote"
  · rw [empty_app3, quote_esc_no]
    exact hret _ _ _ (by k_asm) (news_drop1 (by k_asm)) (by assumption) (by assumption) rfl
  · have e := quote_empty (x := x) (b := false) (by assumption)
    rw [e]
    exact hret _ _ _ (by k_asm) (news_drop1 (by k_asm)) (by assumption) (by assumption) rfl
end Mine
end
section
open PySem PySem.W PyProof.Rows
set_option maxRecDepth 100000
set_option maxHeartbeats 2000000
namespace Mine

def lamQ : Str := Str.ofString "unquote_header_value.<locals>.<lambda>"
def L46 (tl : List (Addr × Obj)) : Prop := tl = [(46, tabObj #[])] ∨ ∃ c' oc vs t, 46 < c' ∧ oc.data = .fields vs ∧ vs[1]? = some (.str lamQ t) ∧ tl = [(46, tabObj #[rawInt 17, rawInt 31, .ref c']), (c', oc)]
theorem L46.new {c' : Addr} {oc : Obj} {vs : Array Value} {t : Tok} (h1 : 46 < c') (h2 : oc.data = .fields vs) (h3 : vs[1]? = some (.str lamQ t)) : L46 [(46, tabObj #[rawInt 17, rawInt 31, .ref c']), (c', oc)] := .inr ⟨_, _, _, _, h1, h2, h3, rfl⟩
theorem L46.nil : L46 [(46, tabObj #[])] := .inl rfl
def Con46 (w : World) (mean : ExcName → Option Value) (mg mb : Str → Option Value) (tl : List (Addr × Obj)) (f : Addr) (vs : List Value) (R : Tok → Value) : Prop :=
  ∀ (news : List (Addr × Obj)) (dp un : Nat) (gd : Option (List Code)) (cn : Str) (cs : Scope) (a : Addr) (ccd : Value) (cl : List (Str × Addr)) (outer : List Env) (A₀ : Around) (base h₀ : Heap) (L : Addr) (m : Str → Option Value) (s : Shared) (Q E : Value → Shared → Prop),
    Below A₀ base outer h₀ → Fr h₀ L s.heap m → (hd.heap_39 w.params).In h₀ → News h₀ L s.heap (tl ++ news) → (∀ p ∈ news, p.1 ≠ 46) → CodeHd base 50 46 → Top topProg topLoose mean mg mb h₀ → cs.kind = .function →
    dp + 4 < recursionLimit → un + 16 < cLine → (∀ t h' k tl', Fr h₀ L h' m → News h₀ L h' (tl' ++ news) → L46 tl' → Q (R t) { s with heap := h', toks := k }) →
      wpAny (model PySem.Challenge.rw_en5025_01.row.prog w) (ktrTop dp un gd cn cs L a ccd cl outer) (call (.ref f) vs) Q E s
local macro_rules | `(tactic| walk_at "execs cons") => `(tactic| (k_here; (with_reducible refine gentoks ?_); intro tk htk; clear htk))
local macro_rules | `(tactic| walk_at "execs nil") => `(tactic| (k_here; (with_reducible refine gentoks ?_); intro tk htk; clear htk))
local macro_rules | `(tactic| walk_at "getMethod ref") => `(tactic| (k_here; k_dflt (first
  | (refine' gm_sub ?hF ?hP ?_; (case hF => k_asm); (case hP => exact patIn_of (by k_asm) (by k_is) (by k_is)); k_whole)
  | (refine' gm_group ?hN ?hm ?_; (case hN => k_asm); (case hm => k_mem); k_whole))))
local macro_rules | `(tactic| walk_at "call builtin:re.Match.group") => `(tactic| (k_here; k_dflt (refine' group_K ?hN ?hm ?h1 ?hl ?hp ?_; (case hN => k_asm); (case hm => k_mem); (case h1 => k_mem); (case hl => exact Nat.le_trans (by assumption) (by assumption)); (case hp => assumption); k_whole); intro t9 k9 hOne))
local macro_rules | `(tactic| walk_at "call builtin:re.Pattern.sub") => `(tactic| (k_here; k_dflt (refine' call_sub ?hy ?hP ?hlam ?hF ?hN ?hf ?hc ?_; (case hy => exact Nat.le_trans (by assumption) (by assumption)); (case hF => k_asm); (case hN => k_asm); (case hP => exact patIn_of (by k_asm) (by k_is) (by k_is)); (case hf => exact News.get (by k_asm) (by k_mem)); (case hc => exact rfl))))
local macro_rules | `(tactic| k_all) => `(tactic| assumption)
local macro_rules | `(tactic| walk_at "call ref") => `(tactic| (k_here; kn_here; k_dflt (refine wpAny_call ?_; (refine' kla_code ?k1 ?k2 ?k3 ?k4 ?k5 ?kA ?kF ?kK ?k6 ?k7 ?k8 ?k9 ?kB ?_ ?c2 ?c3 ?c4 ?c5; (case kA => exact rfl); (case kF => exact rfl); (case kK => exact rfl); (case k1 => k_asm); (case k2 => k_asm); (case k3 => k_asm); (case k4 => k_asm); (case k5 => k_asm); (case k6 => k_mem); (case k7 => exact codeRec_news (by k_asm) (by k_mem) (by assumption) (by assumption)); (case k8 => ktr_room); (case k9 => exact rfl); (case c5 => decide); (case kB => exact locs rfl); (case c2 => exact rfl); (case c3 => exact rfl); (case c4 => exact rfl); k_whole; intro g' L' h' FG' F' N' B' X' T'; (try dsimp only); (try k_lift B'); (try k_fold)))))

section
variable {h₀ : Heap} {L : Addr}
theorem news_drop1f {h : Heap} {p q b : Addr × Obj} {r : List (Addr × Obj)} (N : News h₀ L h (b :: p :: q :: r)) : News h₀ L h ([p, q] ++ r) := fun x hx => N _ (.tail _ hx)
theorem news_drop2f {h : Heap} {p q b : Addr × Obj} {r : List (Addr × Obj)} (N : News h₀ L h (b :: q :: p :: r)) : News h₀ L h ([p, q] ++ r) := fun x hx => by
  rcases List.mem_cons.mp hx with rfl | hx
  · exact N _ (.tail _ (.tail _ (.head _)))
  · rcases List.mem_cons.mp hx with rfl | hx
    · exact N _ (.tail _ (.head _))
    · exact N _ (.tail _ (.tail _ (.tail _ hx)))
end
theorem c_unq0 (w : World) (mean : ExcName → Option Value) (mg mb : Str → Option Value) (x : Str) (t : Tok) (hx : x.length ≤ 1000) : Con46 w mean mg mb [(46, tabObj #[])] 51 [.str x t] (fun t => .str (lawRead x) t) := by
  k_with_none
  w_on
  unfold Con46
  simp only [List.cons_append, List.nil_append]
  k_fill
  intros
  rename_i hret
  refine wpAny_call ?_
  k_dflt cell_enter
  k_steps
  · rw [empty_app]
    rename ∀ (h' : Heap) (tk : Nat) (t' : Tok), _ → _ → _ => hq
    exact hq _ _ _ (by k_asm) (by k_asm)
  · rename Str.length _ = 1 => hOne
    rename (_ : Int) = 0 => e9
    rw [hOne] at e9
    cases e9
  · rw [unq_in (x := x) (by assumption) (by assumption) (by assumption)]
    exact hret _ _ _ _ (by k_asm) (news_drop2f (by k_asm)) (L46.new (And.left (by assumption)) (by assumption) (by assumption))
  · have e9 := unq_last (x := x) (by assumption) (by assumption); rw [← e9] at hret; exact hret _ _ _ [(46, tabObj #[])] (by k_asm) (by k_asm) L46.nil
  · have e9 := unq_head (x := x) (by assumption) (by assumption); rw [← e9] at hret; exact hret _ _ _ [(46, tabObj #[])] (by k_asm) (by k_asm) L46.nil
  · have e9 := unq_short (x := x) (by assumption); rw [← e9] at hret; exact hret _ _ _ [(46, tabObj #[])] (by k_asm) (by k_asm) L46.nil
theorem c_unq1 (w : World) (mean : ExcName → Option Value) (mg mb : Str → Option Value) (x : Str) (t : Tok) (hx : x.length ≤ 1000) {c₁ : Addr} {oc₁ : Obj} {vs₁ : Array Value} {t₁ : Tok} (hc1 : 46 < c₁) (hc2 : oc₁.data = .fields vs₁) (hc3 : vs₁[1]? = some (.str lamQ t₁)) :
    Con46 w mean mg mb [(46, tabObj #[rawInt 17, rawInt 31, .ref c₁]), (c₁, oc₁)] 51 [.str x t] (fun t => .str (lawRead x) t) := by
  k_with_none
  w_on
  unfold Con46
  simp only [List.cons_append, List.nil_append]
  k_fill
  intros
  rename_i hret
  refine wpAny_call ?_
  k_dflt cell_enter
  k_steps
  · rw [empty_app]
    rename ∀ (h' : Heap) (tk : Nat) (t' : Tok), _ → _ → _ => hq
    exact hq _ _ _ (by k_asm) (by k_asm)
  · rename Str.length _ = 1 => hOne
    rename (_ : Int) = 0 => e9
    rw [hOne] at e9
    cases e9
  · rw [unq_in (x := x) (by assumption) (by assumption) (by assumption)]
    exact hret _ _ _ _ (by k_asm) (news_drop1f (by k_asm)) (L46.new hc1 hc2 hc3)
  · have e9 := unq_last (x := x) (by assumption) (by assumption); rw [← e9] at hret; exact hret _ _ _ [(46, tabObj #[rawInt 17, rawInt 31, .ref c₁]), (c₁, oc₁)] (by k_asm) (by k_asm) (L46.new hc1 hc2 hc3)
  · have e9 := unq_head (x := x) (by assumption) (by assumption); rw [← e9] at hret; exact hret _ _ _ [(46, tabObj #[rawInt 17, rawInt 31, .ref c₁]), (c₁, oc₁)] (by k_asm) (by k_asm) (L46.new hc1 hc2 hc3)
  · have e9 := unq_short (x := x) (by assumption); rw [← e9] at hret; exact hret _ _ _ [(46, tabObj #[rawInt 17, rawInt 31, .ref c₁]), (c₁, oc₁)] (by k_asm) (by k_asm) (L46.new hc1 hc2 hc3)
end Mine
end
section
open PySem PySem.W PyProof.Rows
set_option maxRecDepth 100000
set_option maxHeartbeats 2000000
namespace Mine
def Tabs (tl : List (Addr × Obj)) : Prop := ∃ ps l, TriplesOk ps.toList ∧ L46 l ∧ tl = (34, tabObj ps) :: l
theorem Tabs.start : Tabs [(34, tabObj #[]), (46, tabObj #[])] := ⟨#[], _, by simp [TriplesOk], .inl rfl, rfl⟩
def Plain (rest : List (Addr × Obj)) : Prop := ∀ p ∈ rest, p.2.cls ≠ Value.none
def Spl (led rest tl : List (Addr × Obj)) : Prop := led = rest ++ tl ∧ Plain rest
theorem Spl.nil {tl : List (Addr × Obj)} : Spl tl [] tl := ⟨rfl, fun _ h => nomatch h⟩
theorem cls_ne {c : String} : Value.type c ≠ Value.none := nofun
theorem cls_ne2 {o : Obj} {c : String} (h : o.cls = .type c) : o.cls ≠ .none := by rw [h]; nofun
theorem Spl.cons {led rest tl : List (Addr × Obj)} {p : Addr × Obj} (h : p.2.cls ≠ Value.none) (s : Spl led rest tl) : Spl (p :: led) (p :: rest) tl :=
  ⟨congrArg (p :: ·) s.1, fun q hq => (List.mem_cons.mp hq).elim (fun e => e ▸ h) (s.2 q)⟩
theorem News.perm {h₀ h : Heap} {L : Addr} {l l' : List (Addr × Obj)} (N : News h₀ L h l) (e : ∀ p, p ∈ l' → p ∈ l) : News h₀ L h l' := fun p hp => N p (e p hp)
theorem plain_ne {h₀ h : Heap} {L P : Addr} {ps : Array Value} {rest led : List (Addr × Obj)} (N : News h₀ L h led) (hr : ∀ p ∈ rest, p ∈ led) (hP : (P, tabObj ps) ∈ led) (hc : Plain rest) : ∀ p ∈ rest, p.1 ≠ P := fun p hp e => by
  have e1 := (N p (hr p hp)).1
  have e2 := (N _ hP).1
  rw [e] at e1
  rw [e2] at e1
  exact hc p hp (congrArg Obj.cls (Option.some.inj e1)).symm
theorem L46.tab {l : List (Addr × Obj)} (h : L46 l) : ∃ ps, (46, tabObj ps) ∈ l := by
  rcases h with rfl | ⟨_, _, _, _, _, _, _, rfl⟩
  · exact ⟨_, .head _⟩
  · exact ⟨_, .head _⟩
theorem L46.off {l : List (Addr × Obj)} (h : L46 l) : ∀ p ∈ l, p.1 ≠ 34 := by
  rcases h with rfl | ⟨c', oc, _, _, hc, _, _, rfl⟩
  · intro p hp
    rcases List.mem_cons.mp hp with rfl | hp
    · exact fun e => absurd (show (46 : Nat) = 34 from e) (by decide)
    · exact nomatch hp
  · intro p hp
    rcases List.mem_cons.mp hp with rfl | hp
    · exact fun e => absurd (show (46 : Nat) = 34 from e) (by decide)
    · rcases List.mem_cons.mp hp with rfl | hp
      · exact fun e => absurd (show (46 : Nat) < 34 from (show c' = 34 from e) ▸ hc) (by decide)
      · exact nomatch hp
def ConT (w : World) (mean : ExcName → Option Value) (mg mb : Str → Option Value) (D U : Nat) (f : Addr) (vs : List Value) (R : Tok → Value) : Prop :=
  ∀ (rest tl led : List (Addr × Obj)) (dp un : Nat) (gd : Option (List Code)) (cn : Str) (cs : Scope) (a : Addr) (ccd : Value) (cl : List (Str × Addr)) (outer : List Env) (A₀ : Around) (base h₀ : Heap) (L : Addr) (m : Str → Option Value) (s : Shared) (Q E : Value → Shared → Prop),
    Below A₀ base outer h₀ → Fr h₀ L s.heap m → (hd.heap_39 w.params).In h₀ → News h₀ L s.heap led → Spl led rest tl → Tabs tl → AllBare s.gens → CodeHd base 38 34 → CodeHd base 50 46 → Top topProg topLoose mean mg mb h₀ → cs.kind = .function →
    dp + D < recursionLimit → un + U < cLine →
    (∀ t hp g d k tl', Fr h₀ L hp m → News h₀ L hp (rest ++ tl') → Tabs tl' → AllBare g → Q (R t) ⟨hp, g, d, k, s.os⟩) →
      wpAny (model PySem.Challenge.rw_en5025_01.row.prog w) (ktrTop dp un gd cn cs L a ccd cl outer) (call (.ref f) vs) Q E s
theorem Con34.toT {w : World} {mean : ExcName → Option Value} {mg mb : Str → Option Value} {f : Addr} {vs : List Value} {R : Tok → Value} (C : Con34 w mean mg mb f vs R) : ConT w mean mg mb 4 16 f vs R := by
  intro rest tl led dp un gd cn cs a ccd cl outer A₀ base h₀ L m s Q E B F K N hS hT hG hC1 hC2 T hk hd hu ret
  obtain ⟨ps, l, h1, h2, rfl⟩ := hT
  obtain ⟨rfl, hp⟩ := hS
  refine C ps (rest ++ l) dp un gd cn cs a ccd cl outer A₀ base h₀ L m s Q E B F K (News.perm N fun p hp => ?_) h1 ?_ hG hC1 T hk hd hu fun t s' ps' F' N' h1' hG' os' => ?_
  · simp only [List.mem_cons, List.mem_append] at hp ⊢
    rcases hp with h | h | h
    · exact .inr (.inl h)
    · exact .inl h
    · exact .inr (.inr h)
  · intro p hq
    rcases List.mem_append.mp hq with hq | hq
    · exact plain_ne N (rest := rest) (fun p hp => List.mem_append.mpr (.inl hp)) (List.mem_append.mpr (.inr (.head _))) hp p hq
    · exact h2.off p hq
  · obtain ⟨hp', g', d', k', os⟩ := s'
    subst os'
    refine ret t hp' g' d' k' ((34, tabObj ps') :: l) F' (News.perm N' fun p hq => ?_) ⟨ps', l, h1', h2, rfl⟩ hG'
    simp only [List.mem_cons, List.mem_append] at hq ⊢
    rcases hq with h | h | h
    · exact .inr (.inl h)
    · exact .inl h
    · exact .inr (.inr h)
theorem toT46 {w : World} {mean : ExcName → Option Value} {mg mb : Str → Option Value} {f : Addr} {vs : List Value} {R : Tok → Value} (C : ∀ l, L46 l → Con46 w mean mg mb l f vs R) : ConT w mean mg mb 4 16 f vs R := by
  intro rest tl led dp un gd cn cs a ccd cl outer A₀ base h₀ L m s Q E B F K N hS hT hG hC1 hC2 T hk hd hu ret
  obtain ⟨ps, l, h1, h2, rfl⟩ := hT
  obtain ⟨rfl, hp⟩ := hS
  refine C l h2 (rest ++ [(34, tabObj ps)]) dp un gd cn cs a ccd cl outer A₀ base h₀ L m s Q E B F K (News.perm N fun p hp => ?_) ?_ hC2 T hk hd hu fun t h' k l' F' N' h2' => ?_
  · simp only [List.mem_cons, List.mem_append] at hp ⊢
    rcases hp with h | h | h | h
    · exact .inr (.inr h)
    · exact .inl h
    · exact .inr (.inl h)
    · exact nomatch h
  · intro p hq
    obtain ⟨p46, h46⟩ := h2.tab
    rcases List.mem_append.mp hq with hq | hq
    · exact plain_ne N (rest := rest) (fun p hp => List.mem_append.mpr (.inl hp)) (List.mem_append.mpr (.inr (.tail _ h46))) hp p hq
    · rw [List.mem_singleton.mp hq]; exact fun e => absurd (show (34 : Nat) = 46 from e) (by decide)
  · refine ret t h' _ _ k ((34, tabObj ps) :: l') F' (News.perm N' fun p hq => ?_) ⟨ps, l', h1, h2', rfl⟩ hG
    simp only [List.mem_cons, List.mem_append] at hq ⊢
    rcases hq with h | h | h
    · exact .inr (.inl h)
    · exact .inr (.inr (.inl h))
    · exact .inl h
section
variable {w : World} {mean : ExcName → Option Value} {mg mb : Str → Option Value}
theorem t_unq (x : Str) (t : Tok) (hx : x.length ≤ 1000) : ConT w mean mg mb 4 16 51 [.str x t] (fun t => .str (lawRead x) t) := toT46 fun l hl => by
  rcases hl with rfl | ⟨c', oc, vs, t', h1, h2, h3, rfl⟩
  · exact c_unq0 w mean mg mb x t hx
  · exact c_unq1 w mean mg mb x t hx h1 h2 h3
theorem t_quote1 (v : Value) (x : Str) (hx : x.length ≤ 1000) (hv : StrOf w v x) : ConT w mean mg mb 4 16 39 [v] (fun t => .str (quoteV x true) t) := (c_quoteV1 w mean mg mb v x hx hv).toT
theorem t_quote2 (v : Value) (x : Str) (hx : x.length ≤ 1000) (hv : StrOf w v x) : ConT w mean mg mb 4 16 39 [v, .bool false] (fun t => .str (quoteV x false) t) := (c_quoteV2 w mean mg mb v x hx hv).toT
theorem strOf_str (x : Str) (t : Tok) : StrOf w (.str x t) x := fun A E s Q h => P.str_of_str (h t s.toks)
theorem strOf_none : StrOf w .none (Str.ofString "None") := fun A E s Q h => P.str_of_none (h _ _)
theorem strOf_true : StrOf w (.bool true) (Str.ofString "True") := fun A E s Q h => P.str_of_bool (h _ _)
theorem strOf_false : StrOf w (.bool false) (Str.ofString "False") := fun A E s Q h => P.str_of_bool (h _ _)
theorem strOf_int (i : Int) (t : Tok) (h1 : -500 ≤ i) (h2 : i ≤ 499) : StrOf w (.int i t) (Str.ofString (toString i)) := fun A E s Q h => P.str_of_int (shown (N := 2 ^ 1920) (by omega) (by omega) (Int.le_refl _)) (h _ _)
end
end Mine
end
section
open PySem PySem.W PyProof.Rows
set_option maxRecDepth 100000
set_option maxHeartbeats 2000000
namespace Mine
theorem Spl.app {rest tl : List (Addr × Obj)} (h : Plain rest) : Spl (rest ++ tl) rest tl := ⟨rfl, h⟩
theorem len_l1 {x : Str} (h : x.length ≤ 100) : (lawQuoted x).length ≤ 1000 := by have := lawQuoted_len x; omega
theorem len_l2 {x : Str} (h : x.length ≤ 100) : (lawQuoted (lawQuoted x)).length ≤ 1000 := by have := lawQuoted_len x; have := lawQuoted_len (lawQuoted x); omega
theorem len_l3 {x : Str} (h : x.length ≤ 20) : (lawQuoted (lawQuoted (lawQuoted x))).length ≤ 1000 := by have := lawQuoted_len x; have := lawQuoted_len (lawQuoted x); have := lawQuoted_len (lawQuoted (lawQuoted x)); omega
theorem len_q1 {x : Str} {b : Bool} (h : x.length ≤ 100) : (quoteV x b).length ≤ 1000 := by have := lawQuoted_len x; unfold quoteV; split <;> omega
theorem rd_len : ∀ l : List Nat, (rd l).length ≤ l.length
  | [] => Nat.le_refl _
  | [_] => Nat.le_refl _
  | c :: d :: r => by
    rw [rd]
    have h1 := rd_len r
    have h2 := rd_len (d :: r)
    split <;> simp only [List.length_cons] at * <;> omega
theorem lawRead_len (x : Str) : (lawRead x).length ≤ x.length := by
  unfold lawRead
  split
  · have h := rd_len (mid x).cps.toList
    have h3 : (mid x).cps.toList.length ≤ x.length := by
      have := len_toList x
      unfold mid; simp; omega
    show (rd (mid x).cps.toList).toArray.size ≤ _
    rw [List.size_toArray]; omega
  · exact Nat.le_refl _
theorem len_r {x : Str} (h : x.length ≤ 1000) : (lawRead x).length ≤ 1000 := Nat.le_trans (lawRead_len x) h
theorem t_quote2q {w : World} {mean : ExcName → Option Value} {mg mb : Str → Option Value} (v : Value) (x : Str) (hx : x.length ≤ 1000) (hv : StrOf w v x) : ConT w mean mg mb 4 16 39 [v, .bool false] (fun t => .str (lawQuoted x) t) := t_quote2 v x hx hv
theorem con_use {w : World} {mean : ExcName → Option Value} {mg mb : Str → Option Value} {f : Addr} {vs : List Value} {R : Tok → Value} {news : List (Addr × Obj)} {dp un : Nat} {gd : Option (List Code)} {cn : Str} {cs : Scope} {a : Addr} {ccd : Value} {cl : List (Str × Addr)} {outer : List Env} {A₀ : Around} {base h₀ : Heap} {L : Addr} {m : Str → Option Value} {s : Shared} {Q E : Value → Shared → Prop}
    (B : Below A₀ base outer h₀) (F : Fr h₀ L s.heap m) (X : (hd.heap_39 w.params).In h₀) (N : News h₀ L s.heap news) (T : Top topProg topLoose mean mg mb h₀) (hk : cs.kind = .function)
    (C : Con w mean mg mb f vs R) (hd : dp + 4 < recursionLimit) (hu : un + 16 < cLine) (h : ∀ t h' tk, Fr h₀ L h' m → News h₀ L h' news → Q (R t) { s with heap := h', toks := tk }) :
    wpAny (model PySem.Challenge.rw_en5025_01.row.prog w) (ktrTop dp un gd cn cs L a ccd cl outer) (call (.ref f) vs) Q E s :=
  C _ _ _ _ _ _ _ _ _ _ _ _ _ _ _ _ _ _ B F X N T hk hd hu h
theorem conT_use {w : World} {mean : ExcName → Option Value} {mg mb : Str → Option Value} {D U : Nat} {f : Addr} {vs : List Value} {R : Tok → Value} {rest tl led : List (Addr × Obj)} {dp un : Nat} {gd : Option (List Code)} {cn : Str} {cs : Scope} {a : Addr} {ccd : Value} {cl : List (Str × Addr)} {outer : List Env} {A₀ : Around} {base h₀ : Heap} {L : Addr} {m : Str → Option Value} {s : Shared} {Q E : Value → Shared → Prop}
    (B : Below A₀ base outer h₀) (F : Fr h₀ L s.heap m) (X : (hd.heap_39 w.params).In h₀) (N : News h₀ L s.heap led) (T : Top topProg topLoose mean mg mb h₀) (hk : cs.kind = .function) (hS : Spl led rest tl) (hT : Tabs tl) (hG : AllBare s.gens) (h1 : CodeHd base 38 34) (h2 : CodeHd base 50 46)
    (C : ConT w mean mg mb D U f vs R) (hd : dp + D < recursionLimit) (hu : un + U < cLine) (h : ∀ t hp g d k tl', Fr h₀ L hp m → News h₀ L hp (rest ++ tl') → Tabs tl' → AllBare g → Q (R t) ⟨hp, g, d, k, s.os⟩) :
    wpAny (model PySem.Challenge.rw_en5025_01.row.prog w) (ktrTop dp un gd cn cs L a ccd cl outer) (call (.ref f) vs) Q E s :=
  C _ _ _ _ _ _ _ _ _ _ _ _ _ _ _ _ _ _ _ _ B F X N hS hT hG h1 h2 T hk hd hu h
local macro_rules | `(tactic| walk_at "eval Name") => `(tactic| (k_here; (with_reducible rename Fr _ _ _ _ => kF); with_unfolding_all refine guard_global (by rfl) ?_; k_dflt (refine' name_K kF ?k1 ?k2 ?k3 ?_; (case k1 => k_asm); (case k2 => k_asm); (case k3 => k_is); k_whole)))
local macro_rules | `(tactic| walk_at "eval Name") => `(tactic| (k_here; (name_kind "local"); k_dflt (refine' ld ?k1 ?k2 ?_; (case k1 => k_asm); (case k2 => exact rfl); k_whole)))
local macro_rules | `(tactic| walk_at "callWith ref") => `(tactic| (k_here; k_dflt (refine' callWith_K ?k1 ?k2 ?_; (case k1 => k_asm); (case k2 => k_is); k_whole)))
local macro_rules | `(tactic| walk_at "execs cons") => `(tactic| (k_here; (with_reducible refine gentoks ?_); intro tk htk; clear htk))
local macro_rules | `(tactic| walk_at "execs nil") => `(tactic| (k_here; (with_reducible refine gentoks ?_); intro tk htk; clear htk))
local macro_rules | `(tactic| walk_at "mine split") => `(tactic| first | exact Spl.app (by assumption) | exact Spl.nil | (apply Spl.cons cls_ne; walk_at "mine split") | (apply Spl.cons (cls_ne2 (by assumption)); walk_at "mine split"))
local macro_rules | `(tactic| walk_at "mine len") => `(tactic| first | with_reducible assumption | with_reducible exact len_8 (by with_reducible assumption) | with_reducible exact len_8r (by with_reducible assumption) | with_reducible exact len_8h (by with_reducible assumption) | with_reducible exact len_one | with_reducible exact len_int (by assumption) (by assumption) | with_reducible exact len_qxq (len_85 (by with_reducible assumption)) | with_reducible exact len_qx0 (len_85 (by with_reducible assumption)) | with_reducible exact len_xq0 (len_85 (by with_reducible assumption)) | decide +kernel | ((with_reducible refine len_q1 ?_); walk_at "mine len") | ((with_reducible refine len_l3 ?_); walk_at "mine len") | ((with_reducible refine len_l2 ?_); walk_at "mine len") | ((with_reducible refine len_l1 ?_); walk_at "mine len") | ((with_reducible refine len_r ?_); walk_at "mine len") | omega)
local macro_rules | `(tactic| walk_at "ite") => `(tactic| (k_here; first | (with_reducible refine ite_no ?hb ?_; (case hb => first | with_reducible exact nq1 (by assumption) | with_reducible exact nq2 (by assumption) | with_reducible exact nq3 _ | with_reducible exact nq4 _ | with_reducible exact ne_self _)) | (with_reducible refine ite_yes ?hb ?_; (case hb => first | with_reducible exact nq5 _))))
local macro_rules | `(tactic| walk_at "call ref") => `(tactic| (k_here; k_dflt (first
  | ((with_reducible show wpAny _ _ (call (Value.ref 60) [_]) _ _ _); refine' con_use ?k1 ?k2 ?k3 ?k4 ?k5 ?kK (c_quoted _ _ _ _ _ _ ?hx) ?kd ?ku ?_; (case k1 => k_asm); (case k2 => k_asm); (case k3 => k_asm); (case k4 => k_asm); (case k5 => k_asm); (case kK => first | exact rfl | assumption); (case hx => walk_at "mine len"); (case kd => ktr_room); (case ku => ktr_units); k_whole; intro t9 h9 tk9 F9 N9; (try dsimp only); (try k_fold))
  | ((with_reducible show wpAny _ _ (call (Value.ref 65) [_]) _ _ _); refine' con_use ?k1 ?k2 ?k3 ?k4 ?k5 ?kK (c_isToken _ _ _ _ _ _ ?hx) ?kd ?ku ?_; (case k1 => k_asm); (case k2 => k_asm); (case k3 => k_asm); (case k4 => k_asm); (case k5 => k_asm); (case kK => first | exact rfl | assumption); (case hx => walk_at "mine len"); (case kd => ktr_room); (case ku => ktr_units); k_whole; intro t9 h9 tk9 F9 N9; (try dsimp only); (try k_fold))
  | ((with_reducible show wpAny _ _ (call (Value.ref 51) [_]) _ _ _); refine' conT_use ?k1 ?k2 ?k3 ?k4 ?k5 ?kK ?kS ?kT ?kG ?kc ?kd2 (t_unq _ _ ?hx) ?kd ?ku ?_; (case k1 => k_asm); (case k2 => k_asm); (case k3 => k_asm); (case k4 => k_asm); (case k5 => k_asm); (case kK => first | exact rfl | assumption); (case kT => assumption); (case kS => walk_at "mine split"); (case kG => assumption); (case kc => assumption); (case kd2 => assumption); (case hx => walk_at "mine len"); (case kd => ktr_room); (case ku => ktr_units); k_whole; intro t9 hp9 g9 d9 k9 tl9 F9 N9 T9 G9; (try simp only [List.cons_append, List.nil_append] at N9); (try dsimp only); (try k_fold))
  | ((with_reducible show wpAny _ _ (call (Value.ref 39) [_]) _ _ _); refine' conT_use ?k1 ?k2 ?k3 ?k4 ?k5 ?kK ?kS ?kT ?kG ?kc ?kd2 (t_quote1 _ _ ?hx (strOf_str _ _)) ?kd ?ku ?_; (case k1 => k_asm); (case k2 => k_asm); (case k3 => k_asm); (case k4 => k_asm); (case k5 => k_asm); (case kK => first | exact rfl | assumption); (case kT => assumption); (case kS => walk_at "mine split"); (case kG => assumption); (case kc => assumption); (case kd2 => assumption); (case hx => walk_at "mine len"); (case kd => ktr_room); (case ku => ktr_units); k_whole; intro t9 hp9 g9 d9 k9 tl9 F9 N9 T9 G9; (try simp only [List.cons_append, List.nil_append] at N9); (try dsimp only); (try k_fold))
  | ((with_reducible show wpAny _ _ (call (Value.ref 39) [_, _]) _ _ _); refine' conT_use ?k1 ?k2 ?k3 ?k4 ?k5 ?kK ?kS ?kT ?kG ?kc ?kd2 (t_quote2q _ _ ?hx (strOf_str _ _)) ?kd ?ku ?_; (case k1 => k_asm); (case k2 => k_asm); (case k3 => k_asm); (case k4 => k_asm); (case k5 => k_asm); (case kK => first | exact rfl | assumption); (case kT => assumption); (case kS => walk_at "mine split"); (case kG => assumption); (case kc => assumption); (case kd2 => assumption); (case hx => walk_at "mine len"); (case kd => ktr_room); (case ku => ktr_units); k_whole; intro t9 hp9 g9 d9 k9 tl9 F9 N9 T9 G9; (try simp only [List.cons_append, List.nil_append] at N9); (try dsimp only); (try k_fold)))))
theorem c_round (w : World) (mean : ExcName → Option Value) (mg mb : Str → Option Value) (x : Str) (t : Tok) (hx : x.length ≤ 20) : ConT w mean mg mb 6 40 79 [.str x t] (fun _ => .bool true) := by
  k_with_none
  w_on
  unfold ConT
  k_fill
  intros
  rename_i hret
  rename Spl _ _ _ => hS
  obtain ⟨e9, hP9⟩ := hS
  subst e9
  refine wpAny_call ?_
  k_dflt cell_enter
  k_steps
  all_goals (rw [show (lawQuoted (lawQuoted x) == lawQuoted (lawQuoted x)) = true from eq_of rfl]; exact hret t _ _ _ _ _ (by k_asm) (by k_asm) (by assumption) (by assumption))
end Mine
end
section
open PySem PySem.W PySem.Calls PyProof.Rows
set_option maxRecDepth 100000
set_option maxHeartbeats 2000000
namespace Mine
section
variable {prog : Program} {w : World} {A : Around} {E : Value → Shared → Prop} {s : Shared} {env : Env} {h₀ : Heap} {x : Str} {body : List Stmt} {Q : Flow → Shared → Prop}
def LoopG (prog : Program) (w : World) (A : Around) (env : Env) (x : Str) (body : List Stmt) (Q : Flow → Shared → Prop) (E : Value → Shared → Prop) (it : Value) (s₂ : Shared) : Prop :=
  ∃ (I : Addr) (fp wr : List Addr) (n : Nat) (P : Nat → Value → Prop) (St : Nat → Heap → Prop) (J : Nat → Shared → Prop), it = .ref I ∧ Walks prog w A I fp wr n P St ∧ J 0 s₂ ∧ (∀ i s, J i s → St i s.heap) ∧
    (∀ i v s h' tk, i < n → P i v → J i s → St (i + 1) h' → (∀ b o, b ∉ wr → s.heap.get? b = some o → h'.get? b = some o) →
      wpAny (model prog w) A (storeName env x v) (fun _ s₂ => wpAny (model prog w) A (execs body env) (fun f s₃ => match f with | .ret v => Q (.ret v) s₃ | .brk => Q .next s₃ | _ => J (i + 1) s₃) E s₂) E { s with heap := h', toks := tk }) ∧
    (∀ s h' tk, J n s → (∀ b o, b ∉ wr → s.heap.get? b = some o → h'.get? b = some o) → Q .next { s with heap := h', toks := tk })
theorem for_G {px pos : Pos} {iter : Expr}
    (h : wpAny (model prog w) A (eval iter env) (fun xv s₁ => wpAny (model prog w) A (pyIter xv) (fun it s₂ => LoopG prog w A env x body Q E it s₂) E s₁) E s)
    (hs : ∀ x, foldedSetIterable iter env x = pure x := by intro _; rfl) (hE : PassesOwn (model prog w) A env E := by passes_own) :
    wpAny (model prog w) A (exec (.For (.Name x px) iter body [] pos) env) Q E s := by
  refine wpAny_For (wpAny_mono h (fun xv s₁ h₁ => wpAny_mono h₁ (fun it s₂ h₂ => ?_) fun _ _ e => e) fun _ _ e => e) hs
  obtain ⟨I, fp, wr, n, P, St, J, rfl, W, h0, hst, step, fin⟩ := h₂
  refine codeAny_forLoop (fun k s' => ∃ i, i ≤ n ∧ k = n + 1 - i ∧ J i s') ?_ (n + 1) ⟨0, Nat.zero_le _, rfl, h0⟩
  rintro k s' ⟨i, hi, rfl, hJ⟩
  by_cases hlt : i < n
  · refine W.item i _ _ _ hlt (hst i s' hJ) fun v h₁ tk₁ hP hst₁ hk₁ => ?_
    refine wpAny_assign_Name (wpAny_passesOwn hE ?_)
    refine wpAny_mono (step i v s' h₁ tk₁ hlt hP hJ hst₁ hk₁) (fun _ s₄ h₄ => wpAny_passesOwn hE (wpAny_mono h₄ (fun f s₅ h₅ => ?_) fun _ _ e => e)) fun _ _ e => e
    cases f with
    | ret v => exact h₅
    | brk => exact h₅
    | cont => exact ⟨n + 1 - (i + 1), by omega, i + 1, hlt, rfl, h₅⟩
    | next => exact ⟨n + 1 - (i + 1), by omega, i + 1, hlt, rfl, h₅⟩
  · have hin : i = n := by omega
    subst hin
    refine W.done _ _ _ (hst i s' hJ) fun h₁ tk₁ hk₁ => wpAny_execs_nil ?_
    exact fin s' h₁ tk₁ hJ hk₁
def itObj (i : Nat) : Obj := { cls := .type "range_iterator", data := .fields #[rawInt (0 + (i : Int) * 1), rawInt (((128 : Nat) : Int) - (i : Int)), rawInt 1] }
abbrev codeN : Str := Str.ofString "code"
abbrev signN : Str := Str.ofString "sign"
def Turned (h₀ : Heap) (L : Addr) (m : Str → Option Value) (led : List (Addr × Obj)) (os : OsState) (s : Shared) : Prop :=
  ∃ m' tl', Fr h₀ L s.heap m' ∧ (∀ z, z ≠ codeN → z ≠ signN → m' z = m z) ∧ News h₀ L s.heap (led ++ tl') ∧ Tabs tl' ∧ AllBare s.gens ∧ s.os = os
theorem two_names {m₁ m : Str → Option Value} (h : ∀ z, z ≠ codeN → z ≠ signN → m₁ z = m z) : m₁ = fun z => if z = codeN then m₁ codeN else if z = signN then m₁ signN else m z := by
  funext z
  by_cases h1 : z = codeN
  · rw [if_pos h1, h1]
  · by_cases h2 : z = signN
    · rw [if_neg h1, if_pos h2, h2]
    · rw [if_neg h1, if_neg h2, h z h1 h2]
theorem tabs_it {tl : List (Addr × Obj)} (h : Tabs tl) {p : Addr × Obj} (hp : p ∈ tl) {i : Nat} (e : p.2 = itObj i) : False := by
  obtain ⟨ps, l, _, h2, rfl⟩ := h
  have htab : ∀ qs, tabObj qs ≠ itObj i := fun qs q => by
    have := congrArg Obj.cls q
    cases this
  rcases List.mem_cons.mp hp with rfl | hp
  · exact htab _ e
  rcases h2 with rfl | ⟨c', oc, vs, t, _, hd, hv, rfl⟩
  · rw [List.mem_singleton.mp hp] at e; exact htab _ e
  · rcases List.mem_cons.mp hp with rfl | hp
    · exact htab _ e
    · rw [List.mem_singleton.mp hp] at e
      dsimp only at e
      rw [e] at hd
      unfold itObj at hd
      injection hd with hd
      rw [← hd] at hv
      cases hv
theorem iter128 {r : Addr} {t₀ u₀ v₀ : Tok} {m : Str → Option Value} {led rest tl : List (Addr × Obj)} (hh : A.handled = none) (hr : IsRange s.heap r 0 128 1 t₀ u₀ v₀) (F : Fr h₀ env.locals s.heap m) (N : News h₀ env.locals s.heap led) (hS : Spl led rest tl) (hT : Tabs tl) (hG : AllBare s.gens)
    (hx : env.kindOf codeN = some .local) (hp : (env.scope.kind == .class || (env.scope.kind == .module && env.locals != env.globals)) = false)
    (turn : ∀ (i : Nat) t I u h g d k tl', i < 128 → (∀ p ∈ rest, p.1 < I) → Fr h₀ env.locals h (fun z => if z = codeN then some (.int (i : Int) t) else if z = signN then u else m z) → News h₀ env.locals h ((I, itObj (i + 1)) :: (rest ++ tl')) → Tabs tl' → AllBare g →
      wpAny (model prog w) A (execs body env) (fun f s₃ => match f with | .ret v => Q (.ret v) s₃ | .brk => Q .next s₃ | _ => Turned h₀ env.locals m ((I, itObj (i + 1)) :: rest) s.os s₃) E ⟨h, g, d, k, s.os⟩)
    (done : ∀ u u' h g d k tl', Fr h₀ env.locals h (fun z => if z = codeN then u else if z = signN then u' else m z) → News h₀ env.locals h (rest ++ tl') → Tabs tl' → AllBare g → Q .next ⟨h, g, d, k, s.os⟩) :
    wpAny (model prog w) A (pyIter (.ref r)) (fun it s₂ => LoopG prog w A env codeN body Q E it s₂) E s := by
  obtain ⟨rfl, hrest⟩ := hS
  refine wpAny_pyIter_range hr (by decide +kernel) ?_
  have hlt : ∀ p ∈ rest, p.1 < s.heap.objs.size := fun p hp => Heap.lt_size (N p (List.mem_append.mpr (.inl hp))).1
  have hNI : s.heap.objs.size ≠ env.locals := fun e => absurd F.ns.lt (by rw [← e]; exact Nat.lt_irrefl _)
  have hI0 : h₀.get? s.heap.objs.size = none := Heap.get?_none_of_le (Nat.le_of_lt (Nat.lt_of_le_of_lt F.above F.ns.lt))
  generalize hI : s.heap.objs.size = I at *
  have hpush : ∀ o : Obj, o.isFreed = false → (s.heap.push o).get? I = some o := fun o ho => hI ▸ Heap.get?_push_size _ ho
  refine ⟨I, [I], [I], 128, _, _, fun i s' => ∃ m' tl', Fr h₀ env.locals s'.heap m' ∧ (∀ z, z ≠ codeN → z ≠ signN → m' z = m z) ∧ News h₀ env.locals s'.heap ((I, itObj i) :: (rest ++ tl')) ∧ Tabs tl' ∧ AllBare s'.gens ∧ s'.os = s.os, rfl, Walks.range hh I 0 1 128, ?_, ?_, ?_, ?_⟩
  · refine ⟨m, tl, F.push _, fun _ _ _ => rfl, ?_, hT, hG, rfl⟩
    intro p hp
    rcases List.mem_cons.mp hp with rfl | hp
    · exact ⟨hpush _ rfl, hNI, hI0⟩
    · exact ⟨Heap.get?_push_of_some _ (N p hp).1, (N p hp).2⟩
  · rintro i s' ⟨m', tl', _, _, N', _⟩
    exact (N' (I, itObj i) (.head _)).1
  · rintro i v ⟨h, g, d, k, os⟩ h' tk hi ⟨t, rfl⟩ ⟨m', tl', F', hm', N', hT', hG', hos⟩ hst hk
    dsimp only at F' N' hG' hos hk hst
    subst hos
    have hne : ∀ p ∈ rest ++ tl', p.1 ≠ I := fun p hp e => by
      have h1 := (N' (I, itObj i) (.head _)).1
      have h2 := (N' p (.tail _ hp)).1
      rw [e, h1] at h2
      rcases List.mem_append.mp hp with hp | hp
      · exact absurd (hlt p hp) (by rw [e]; exact Nat.lt_irrefl _)
      · exact tabs_it hT' hp (Option.some.inj h2).symm
    have hkeep : ∀ b o, b ≠ I → h.get? b = some o → h'.get? b = some o := fun b o hb e => hk b o (fun q => hb (List.mem_singleton.mp q)) e
    have F₁ : Fr h₀ env.locals h' m' := ⟨F'.ns.at' fun o e => hkeep _ o hNI.symm e, fun b o e => hkeep b o (fun q => by rw [q, hI0] at e; cases e) (F'.keep b o e), F'.above⟩
    have N₁ : News h₀ env.locals h' ((I, itObj (i + 1)) :: (rest ++ tl')) := fun p hp => by
      rcases List.mem_cons.mp hp with rfl | hp
      · exact ⟨hst, hNI, hI0⟩
      · exact ⟨hkeep _ _ (hne p hp) (N' p (.tail _ hp)).1, (N' p (.tail _ hp)).2⟩
    refine wpAny_storeName_local hx F₁.ns (fun h₂ hn₂ hs₂ => ?_) hp
    have F₂ := F₁.set hn₂ hs₂
    have N₂ := N₁.set hs₂
    refine wpAny_mono (turn i t I (m' signN) h₂ g d _ tl' hi hlt ?_ N₂ hT' hG') (fun f s₃ h₃ => ?_) fun _ _ e => e
    · have e : (fun y => if y = codeN then some (Value.int (0 + (i : Int) * 1) t) else m' y) = fun z => if z = codeN then some (.int (i : Int) t) else if z = signN then m' signN else m z := by
        funext z
        by_cases h1 : z = codeN
        · rw [if_pos h1, if_pos h1, Int.zero_add, Int.mul_one]
        · by_cases h2 : z = signN
          · rw [if_neg h1, if_neg h1, if_pos h2, h2]
          · rw [if_neg h1, if_neg h1, if_neg h2, hm' z h1 h2]
      rw [← e]; exact F₂
    · cases f with
      | ret v => exact h₃
      | brk => exact h₃
      | cont => obtain ⟨m₂, tl₂, a1, a2, a3, a4, a5, a6⟩ := h₃; exact ⟨m₂, tl₂, a1, a2, a3, a4, a5, a6⟩
      | next => obtain ⟨m₂, tl₂, a1, a2, a3, a4, a5, a6⟩ := h₃; exact ⟨m₂, tl₂, a1, a2, a3, a4, a5, a6⟩
  · rintro ⟨h, g, d, k, os⟩ h' tk ⟨m', tl', F', hm', N', hT', hG', hos⟩ hk
    dsimp only at F' N' hG' hos hk
    subst hos
    have F₁ : Fr h₀ env.locals h' m' := ⟨F'.ns.at' fun o e => hk _ o (fun q => hNI (List.mem_singleton.mp q).symm) e, fun b o e => hk b o (fun q => by rw [List.mem_singleton.mp q, hI0] at e; cases e) (F'.keep b o e), F'.above⟩
    rw [two_names hm'] at F₁
    refine done _ _ h' g d tk tl' F₁ (fun p hp => ⟨hk _ _ (fun q => ?_) (N' p (.tail _ hp)).1, (N' p (.tail _ hp)).2⟩) hT' hG'
    have h1 := (N' (I, itObj 128) (.head _)).1
    have h2 := (N' p (.tail _ hp)).1
    rw [List.mem_singleton.mp q, h1] at h2
    rcases List.mem_append.mp hp with hp | hp
    · exact absurd (hlt p hp) (by rw [List.mem_singleton.mp q]; exact Nat.lt_irrefl _)
    · exact tabs_it hT' hp (Option.some.inj h2).symm
end
end Mine
end
section
open PySem PySem.W PySem.Calls PyProof.Rows
set_option maxRecDepth 100000
set_option maxHeartbeats 2000000
namespace Mine
section
variable {prog : Program} {w : World} {A : Around} {E : Value → Shared → Prop} {s : Shared} {env : Env} {h₀ : Heap} {target : Expr} {body : List Stmt} {Q : Flow → Shared → Prop}
theorem mem_each {P : Prop} {v a : Value} {l : List Value} (h1 : v = a → P) (h2 : v ∈ l → P) : v ∈ a :: l → P := fun h => (List.mem_cons.mp h).elim h1 h2
def ListG (prog : Program) (w : World) (A : Around) (env : Env) (target : Expr) (body : List Stmt) (Q : Flow → Shared → Prop) (E : Value → Shared → Prop) (it : Value) (s₂ : Shared) : Prop :=
  ∃ (I : Addr) (fp wr : List Addr) (n : Nat) (P : Nat → Value → Prop) (St : Nat → Heap → Prop) (J : Nat → Shared → Prop), it = .ref I ∧ Walks prog w A I fp wr n P St ∧ J 0 s₂ ∧ (∀ i s, J i s → St i s.heap) ∧
    (∀ i v (s : Shared) (Q : Unit → Shared → Prop) (E : Value → Shared → Prop), St i s.heap → Q () s → wpAny (model prog w) A (letOwnedTupleGo target (.ref I) v) Q E s) ∧
    (∀ i v s h' tk, i < n → P i v → J i s → St (i + 1) h' → (∀ b o, b ∉ wr → s.heap.get? b = some o → h'.get? b = some o) →
      wpAny (model prog w) A (assign target env v) (fun _ s₂ => wpAny (model prog w) A (execs body env) (fun f s₃ => match f with | .ret v => Q (.ret v) s₃ | .brk => Q .next s₃ | _ => J (i + 1) s₃) E s₂) E { s with heap := h', toks := tk }) ∧
    (∀ s h' tk, J n s → (∀ b o, b ∉ wr → s.heap.get? b = some o → h'.get? b = some o) → Q .next { s with heap := h', toks := tk })
theorem for_T {pos : Pos} {iter : Expr}
    (h : wpAny (model prog w) A (eval iter env) (fun xv s₁ => wpAny (model prog w) A (pyIter xv) (fun it s₂ => ListG prog w A env target body Q E it s₂) E s₁) E s)
    (hs : ∀ x, foldedSetIterable iter env x = pure x := by intro _; rfl) (hE : PassesOwn (model prog w) A env E := by passes_own) :
    wpAny (model prog w) A (exec (.For target iter body [] pos) env) Q E s := by
  refine wpAny_For (wpAny_mono h (fun xv s₁ h₁ => wpAny_mono h₁ (fun it s₂ h₂ => ?_) fun _ _ e => e) fun _ _ e => e) hs
  obtain ⟨I, fp, wr, n, P, St, J, rfl, W, h0, hst, hgo, step, fin⟩ := h₂
  refine codeAny_forLoop_any (fun k s' => ∃ i, i ≤ n ∧ k = n + 1 - i ∧ J i s') ?_ (n + 1) ⟨0, Nat.zero_le _, rfl, h0⟩
  rintro k s' ⟨i, hi, rfl, hJ⟩
  by_cases hlt : i < n
  · refine W.item i _ _ _ hlt (hst i s' hJ) fun v h₁ tk₁ hP hst₁ hk₁ => ?_
    refine hgo (i + 1) v _ _ _ hst₁ (wpAny_passesOwn hE ?_)
    refine wpAny_mono (step i v s' h₁ tk₁ hlt hP hJ hst₁ hk₁) (fun _ s₄ h₄ => wpAny_passesOwn hE (wpAny_mono h₄ (fun f s₅ h₅ => ?_) fun _ _ e => e)) fun _ _ e => e
    cases f with
    | ret v => exact h₅
    | brk => exact h₅
    | cont => exact ⟨n + 1 - (i + 1), by omega, i + 1, hlt, rfl, h₅⟩
    | next => exact ⟨n + 1 - (i + 1), by omega, i + 1, hlt, rfl, h₅⟩
  · have hin : i = n := by omega
    subst hin
    refine W.done _ _ _ (hst i s' hJ) fun h₁ tk₁ hk₁ => wpAny_execs_nil ?_
    exact fin s' h₁ tk₁ hJ hk₁
def TurnedN (h₀ : Heap) (L : Addr) (m : Str → Option Value) (ns : List Str) (led : List (Addr × Obj)) (os : OsState) (s : Shared) : Prop :=
  ∃ m' tl', Fr h₀ L s.heap m' ∧ (∀ z, z ∉ ns → m' z = m z) ∧ News h₀ L s.heap (led ++ tl') ∧ Tabs tl' ∧ AllBare s.gens ∧ s.os = os
theorem tabs_cls {tl : List (Addr × Obj)} (h : Tabs tl) {p : Addr × Obj} (hp : p ∈ tl) {l : Addr} {i : Nat} (e : p.2.cls = .type "list_iterator") (e2 : p.2.data = .fields #[.ref l, .int i 0]) : False := by
  obtain ⟨ps, q, _, h2, rfl⟩ := h
  rcases List.mem_cons.mp hp with rfl | hp
  · cases e
  rcases h2 with rfl | ⟨c', oc, vs, t, _, hd, hv, rfl⟩
  · rw [List.mem_singleton.mp hp] at e; cases e
  · rcases List.mem_cons.mp hp with rfl | hp
    · cases e
    · rw [List.mem_singleton.mp hp] at e2
      dsimp only at e2
      rw [e2] at hd
      injection hd with hd
      rw [← hd] at hv
      cases hv
theorem iterList {l : Addr} {vs : List Value} {n : Nat} {m : Str → Option Value} {led rest tl : List (Addr × Obj)} (ns : List Str) (hh : A.handled = none) (hl : (l, listOf vs.toArray n) ∈ rest) (F : Fr h₀ env.locals s.heap m) (N : News h₀ env.locals s.heap led) (hS : Spl led rest tl) (hT : Tabs tl) (hG : AllBare s.gens)
    (turn : ∀ v I o m₁ h g d k tl', v ∈ vs → (∀ p ∈ rest, p.1 < I) → o.cls = .type "list_iterator" → (∀ z, z ∉ ns → m₁ z = m z) → Fr h₀ env.locals h m₁ → News h₀ env.locals h ((I, o) :: (rest ++ tl')) → Tabs tl' → AllBare g →
      wpAny (model prog w) A (assign target env v) (fun _ s₂ => wpAny (model prog w) A (execs body env) (fun f s₃ => match f with | .ret v => Q (.ret v) s₃ | .brk => Q .next s₃ | _ => TurnedN h₀ env.locals m ns ((I, o) :: rest) s.os s₃) E s₂) E ⟨h, g, d, k, s.os⟩)
    (done : ∀ m₁ h g d k tl', (∀ z, z ∉ ns → m₁ z = m z) → Fr h₀ env.locals h m₁ → News h₀ env.locals h (rest ++ tl') → Tabs tl' → AllBare g → Q .next ⟨h, g, d, k, s.os⟩) :
    wpAny (model prog w) A (pyIter (.ref l)) (fun it s₂ => ListG prog w A env target body Q E it s₂) E s := by
  obtain ⟨rfl, hrest⟩ := hS
  have hls := N _ (List.mem_append.mpr (.inl hl))
  have hlist : s.heap.IsList l vs.toArray := ⟨_, hls.1, rfl, n, rfl⟩
  refine wpAny_pyIter_list hlist ?_
  have hlt : ∀ p ∈ rest, p.1 < s.heap.objs.size := fun p hp => Heap.lt_size (N p (List.mem_append.mpr (.inl hp))).1
  have hNI : s.heap.objs.size ≠ env.locals := fun e => absurd F.ns.lt (by rw [← e]; exact Nat.lt_irrefl _)
  have hI0 : h₀.get? s.heap.objs.size = none := Heap.get?_none_of_le (Nat.le_of_lt (Nat.lt_of_le_of_lt F.above F.ns.lt))
  generalize hI : s.heap.objs.size = I at *
  have hpush : ∀ o : Obj, o.isFreed = false → (s.heap.push o).get? I = some o := fun o ho => hI ▸ Heap.get?_push_size _ ho
  have hne : l ≠ I := Nat.ne_of_lt (hlt _ hl)
  refine ⟨I, [I, l], [I], vs.toArray.size, _, _, fun i s' => ∃ m' tl' o, Fr h₀ env.locals s'.heap m' ∧ (∀ z, z ∉ ns → m' z = m z) ∧ o.cls = .type "list_iterator" ∧ News h₀ env.locals s'.heap ((I, o) :: (rest ++ tl')) ∧ Tabs tl' ∧ AllBare s'.gens ∧ s'.os = s.os ∧ s'.heap.IsListIter I l i, rfl, Walks.list hh I l hne vs.toArray, ?_, ?_, ?_, ?_, ?_⟩
  · refine ⟨m, tl, { cls := .type "list_iterator", data := .fields #[.ref l, .int 0 0] }, F.push _, fun _ _ => rfl, rfl, ?_, hT, hG, rfl, ⟨_, hpush _ rfl, rfl, rfl⟩⟩
    intro p hp
    rcases List.mem_cons.mp hp with rfl | hp
    · exact ⟨hpush _ rfl, hNI, hI0⟩
    · exact ⟨Heap.get?_push_of_some _ (N p hp).1, (N p hp).2⟩
  · rintro i s' ⟨m', tl', o, _, _, _, N', _, _, _, hit⟩
    exact ⟨hit, ⟨_, (N' (l, listOf vs.toArray n) (.tail _ (List.mem_append.mpr (.inl hl)))).1, rfl, n, rfl⟩⟩
  · intro i v s' Q' E' st q
    exact letGo_listiter st.1 q
  · rintro i v ⟨h, g, d, k, os⟩ h' tk hi hv ⟨m', tl', o, F', hm', hoc, N', hT', hG', hos, hit⟩ hst hk
    dsimp only at F' N' hG' hos hk hst hit
    subst hos
    have hne' : ∀ p ∈ rest ++ tl', p.1 ≠ I := fun p hp e => by
      obtain ⟨o2, h1, hc1, hd1⟩ := hit
      have h2 := (N' p (.tail _ hp)).1
      rw [e, h1] at h2
      rcases List.mem_append.mp hp with hp | hp
      · exact absurd (hlt p hp) (by rw [e]; exact Nat.lt_irrefl _)
      · rw [Option.some.inj h2] at hc1 hd1
        exact tabs_cls hT' hp hc1 hd1
    have hkeep : ∀ b o, b ≠ I → h.get? b = some o → h'.get? b = some o := fun b o hb e => hk b o (fun q => hb (List.mem_singleton.mp q)) e
    have F₁ : Fr h₀ env.locals h' m' := ⟨F'.ns.at' fun o e => hkeep _ o hNI.symm e, fun b o e => hkeep b o (fun q => by rw [q, hI0] at e; cases e) (F'.keep b o e), F'.above⟩
    obtain ⟨⟨o3, hg3, hc3, hd3⟩, _⟩ := hst
    have N₁ : News h₀ env.locals h' ((I, o3) :: (rest ++ tl')) := fun p hp => by
      rcases List.mem_cons.mp hp with rfl | hp
      · exact ⟨hg3, hNI, hI0⟩
      · exact ⟨hkeep _ _ (hne' p hp) (N' p (.tail _ hp)).1, (N' p (.tail _ hp)).2⟩
    have hmem : v ∈ vs := by
      have hv' : vs[i]? = some v := by simpa using hv
      exact List.mem_of_getElem? hv'
    refine wpAny_mono (turn v I o3 m' h' g d tk tl' hmem hlt hc3 hm' F₁ N₁ hT' hG') (fun _ s₂ h₂ => wpAny_mono h₂ (fun f s₃ h₃ => ?_) fun _ _ e => e) fun _ _ e => e
    have fin : TurnedN h₀ env.locals m ns ((I, o3) :: rest) s.os s₃ → ∃ m' tl' o, Fr h₀ env.locals s₃.heap m' ∧ (∀ z, z ∉ ns → m' z = m z) ∧ o.cls = .type "list_iterator" ∧ News h₀ env.locals s₃.heap ((I, o) :: (rest ++ tl')) ∧ Tabs tl' ∧ AllBare s₃.gens ∧ s₃.os = s.os ∧ s₃.heap.IsListIter I l (i + 1) := by
      rintro ⟨m₂, tl₂, a1, a2, a3, a4, a5, a6⟩
      exact ⟨m₂, tl₂, o3, a1, a2, hc3, a3, a4, a5, a6, ⟨o3, (a3 (I, o3) (.head _)).1, hc3, hd3⟩⟩
    cases f with
    | ret v => exact h₃
    | brk => exact h₃
    | cont => exact fin h₃
    | next => exact fin h₃
  · rintro ⟨h, g, d, k, os⟩ h' tk ⟨m', tl', o, F', hm', hoc, N', hT', hG', hos, hit⟩ hk
    dsimp only at F' N' hG' hos hk hit
    subst hos
    have F₁ : Fr h₀ env.locals h' m' := ⟨F'.ns.at' fun o e => hk _ o (fun q => hNI (List.mem_singleton.mp q).symm) e, fun b o e => hk b o (fun q => by rw [List.mem_singleton.mp q, hI0] at e; cases e) (F'.keep b o e), F'.above⟩
    refine done _ h' g d tk tl' hm' F₁ (fun p hp => ⟨hk _ _ (fun q => ?_) (N' p (.tail _ hp)).1, (N' p (.tail _ hp)).2⟩) hT' hG'
    obtain ⟨o2, h1, hc1, hd1⟩ := hit
    have h2 := (N' p (.tail _ hp)).1
    rw [List.mem_singleton.mp q, h1] at h2
    rcases List.mem_append.mp hp with hp | hp
    · exact absurd (hlt p hp) (by rw [List.mem_singleton.mp q]; exact Nat.lt_irrefl _)
    · rw [Option.some.inj h2] at hc1 hd1
      exact tabs_cls hT' hp hc1 hd1

theorem name1 {x : Str} {m₁ m : Str → Option Value} (h : ∀ z, z ∉ [x] → m₁ z = m z) : m₁ = fun z => if z = x then m₁ x else m z := by
  funext z
  by_cases h1 : z = x
  · rw [if_pos h1, h1]
  · rw [if_neg h1, h z (fun q => h1 (List.mem_singleton.mp q))]
theorem name2 {x y : Str} {m₁ m : Str → Option Value} (h : ∀ z, z ∉ [x, y] → m₁ z = m z) : m₁ = fun z => if z = x then m₁ x else if z = y then m₁ y else m z := by
  funext z
  by_cases h1 : z = x
  · rw [if_pos h1, h1]
  · by_cases h2 : z = y
    · rw [if_neg h1, if_pos h2, h2]
    · rw [if_neg h1, if_neg h2, h z (fun q => (List.mem_cons.mp q).elim h1 fun q => h2 (List.mem_singleton.mp q))]
theorem iterList1 {x : Str} {px : Pos} {l : Addr} {vs : List Value} {n : Nat} {m : Str → Option Value} {led rest tl : List (Addr × Obj)} (hh : A.handled = none) (F : Fr h₀ env.locals s.heap m) (N : News h₀ env.locals s.heap led) (hT : Tabs tl) (hS : Spl led rest tl) (hl : (l, listOf vs.toArray n) ∈ rest) (hG : AllBare s.gens)
    (hx : env.kindOf x = some .local) (hp : (env.scope.kind == .class || (env.scope.kind == .module && env.locals != env.globals)) = false)
    (turn : ∀ v I o h g d k tl', v ∈ vs → (∀ p ∈ rest, p.1 < I) → o.cls = .type "list_iterator" → Fr h₀ env.locals h (fun z => if z = x then some v else m z) → News h₀ env.locals h ((I, o) :: (rest ++ tl')) → Tabs tl' → AllBare g →
      wpAny (model prog w) A (execs body env) (fun f s₃ => match f with | .ret v => Q (.ret v) s₃ | .brk => Q .next s₃ | _ => TurnedN h₀ env.locals m [x] ((I, o) :: rest) s.os s₃) E ⟨h, g, d, k, s.os⟩)
    (done : ∀ u h g d k tl', Fr h₀ env.locals h (fun z => if z = x then u else m z) → News h₀ env.locals h (rest ++ tl') → Tabs tl' → AllBare g → Q .next ⟨h, g, d, k, s.os⟩) :
    wpAny (model prog w) A (pyIter (.ref l)) (fun it s₂ => ListG prog w A env (.Name x px) body Q E it s₂) E s := by
  refine iterList [x] hh hl F N hS hT hG ?_ ?_
  · intro v I o m₁ h g d k tl' hv hI ho hm F₁ N₁ hT₁ hG₁
    refine wpAny_assign_Name (wpAny_storeName_local hx F₁.ns (fun h₂ hn₂ hs₂ => ?_) hp)
    have F₂ := F₁.set hn₂ hs₂
    refine turn v I o h₂ g d _ tl' hv hI ho ?_ (N₁.set hs₂) hT₁ hG₁
    have e : (fun y => if y = x then some v else m₁ y) = fun z => if z = x then some v else m z := by
      funext z
      by_cases h1 : z = x
      · rw [if_pos h1, if_pos h1]
      · rw [if_neg h1, if_neg h1, hm z (fun q => h1 (List.mem_singleton.mp q))]
    rw [← e]; exact F₂
  · intro m₁ h g d k tl' hm F₁ N₁ hT₁ hG₁
    rw [name1 hm] at F₁
    exact done _ h g d k tl' F₁ N₁ hT₁ hG₁
theorem iterList2 (x y : Str) {l : Addr} {vs : List Value} {n : Nat} {m : Str → Option Value} {led rest tl : List (Addr × Obj)} (hh : A.handled = none) (F : Fr h₀ env.locals s.heap m) (N : News h₀ env.locals s.heap led) (hT : Tabs tl) (hS : Spl led rest tl) (hl : (l, listOf vs.toArray n) ∈ rest) (hG : AllBare s.gens)
    (turn : ∀ v I o u u' h g d k tl', v ∈ vs → (∀ p ∈ rest, p.1 < I) → o.cls = .type "list_iterator" → Fr h₀ env.locals h (fun z => if z = x then u else if z = y then u' else m z) → News h₀ env.locals h ((I, o) :: (rest ++ tl')) → Tabs tl' → AllBare g →
      wpAny (model prog w) A (assign target env v) (fun _ s₂ => wpAny (model prog w) A (execs body env) (fun f s₃ => match f with | .ret v => Q (.ret v) s₃ | .brk => Q .next s₃ | _ => TurnedN h₀ env.locals m [x, y] ((I, o) :: rest) s.os s₃) E s₂) E ⟨h, g, d, k, s.os⟩)
    (done : ∀ u u' h g d k tl', Fr h₀ env.locals h (fun z => if z = x then u else if z = y then u' else m z) → News h₀ env.locals h (rest ++ tl') → Tabs tl' → AllBare g → Q .next ⟨h, g, d, k, s.os⟩) :
    wpAny (model prog w) A (pyIter (.ref l)) (fun it s₂ => ListG prog w A env target body Q E it s₂) E s := by
  refine iterList [x, y] hh hl F N hS hT hG ?_ ?_
  · intro v I o m₁ h g d k tl' hv hI ho hm F₁ N₁ hT₁ hG₁
    rw [name2 hm] at F₁
    exact turn v I o _ _ h g d k tl' hv hI ho F₁ N₁ hT₁ hG₁
  · intro m₁ h g d k tl' hm F₁ N₁ hT₁ hG₁
    rw [name2 hm] at F₁
    exact done _ _ h g d k tl' F₁ N₁ hT₁ hG₁
theorem iter128L {L : Addr} (hL : env.locals = L) {r : Addr} {t₀ u₀ v₀ : Tok} {m : Str → Option Value} {led rest tl : List (Addr × Obj)} (hh : A.handled = none) (hr : IsRange s.heap r 0 128 1 t₀ u₀ v₀) (F : Fr h₀ L s.heap m) (N : News h₀ L s.heap led) (hS : Spl led rest tl) (hT : Tabs tl) (hG : AllBare s.gens)
    (hx : env.kindOf codeN = some .local) (hp : (env.scope.kind == .class || (env.scope.kind == .module && env.locals != env.globals)) = false)
    (turn : ∀ (i : Nat) t I u h g d k tl', i < 128 → (∀ p ∈ rest, p.1 < I) → Fr h₀ L h (fun z => if z = codeN then some (.int (i : Int) t) else if z = signN then u else m z) → News h₀ L h ((I, itObj (i + 1)) :: (rest ++ tl')) → Tabs tl' → AllBare g →
      wpAny (model prog w) A (execs body env) (fun f s₃ => match f with | .ret v => Q (.ret v) s₃ | .brk => Q .next s₃ | _ => Turned h₀ L m ((I, itObj (i + 1)) :: rest) s.os s₃) E ⟨h, g, d, k, s.os⟩)
    (done : ∀ u u' h g d k tl', Fr h₀ L h (fun z => if z = codeN then u else if z = signN then u' else m z) → News h₀ L h (rest ++ tl') → Tabs tl' → AllBare g → Q .next ⟨h, g, d, k, s.os⟩) :
    wpAny (model prog w) A (pyIter (.ref r)) (fun it s₂ => LoopG prog w A env codeN body Q E it s₂) E s := by
  subst hL
  exact iter128 hh hr F N hS hT hG hx hp turn done
theorem iterList1L {L : Addr} (hL : env.locals = L) {x : Str} {px : Pos} {l : Addr} {vs : List Value} {n : Nat} {m : Str → Option Value} {led rest tl : List (Addr × Obj)} (hh : A.handled = none) (F : Fr h₀ L s.heap m) (N : News h₀ L s.heap led) (hT : Tabs tl) (hS : Spl led rest tl) (hl : (l, listOf vs.toArray n) ∈ rest) (hG : AllBare s.gens)
    (hx : env.kindOf x = some .local) (hp : (env.scope.kind == .class || (env.scope.kind == .module && env.locals != env.globals)) = false)
    (turn : ∀ v I o h g d k tl', v ∈ vs → (∀ p ∈ rest, p.1 < I) → o.cls = .type "list_iterator" → Fr h₀ L h (fun z => if z = x then some v else m z) → News h₀ L h ((I, o) :: (rest ++ tl')) → Tabs tl' → AllBare g →
      wpAny (model prog w) A (execs body env) (fun f s₃ => match f with | .ret v => Q (.ret v) s₃ | .brk => Q .next s₃ | _ => TurnedN h₀ L m [x] ((I, o) :: rest) s.os s₃) E ⟨h, g, d, k, s.os⟩)
    (done : ∀ u h g d k tl', Fr h₀ L h (fun z => if z = x then u else m z) → News h₀ L h (rest ++ tl') → Tabs tl' → AllBare g → Q .next ⟨h, g, d, k, s.os⟩) :
    wpAny (model prog w) A (pyIter (.ref l)) (fun it s₂ => ListG prog w A env (.Name x px) body Q E it s₂) E s := by
  subst hL
  exact iterList1 hh F N hT hS hl hG hx hp turn done
theorem iterList2L {L : Addr} (hL : env.locals = L) (x y : Str) {l : Addr} {vs : List Value} {n : Nat} {m : Str → Option Value} {led rest tl : List (Addr × Obj)} (hh : A.handled = none) (F : Fr h₀ L s.heap m) (N : News h₀ L s.heap led) (hT : Tabs tl) (hS : Spl led rest tl) (hl : (l, listOf vs.toArray n) ∈ rest) (hG : AllBare s.gens)
    (turn : ∀ v I o u u' h g d k tl', v ∈ vs → (∀ p ∈ rest, p.1 < I) → o.cls = .type "list_iterator" → Fr h₀ L h (fun z => if z = x then u else if z = y then u' else m z) → News h₀ L h ((I, o) :: (rest ++ tl')) → Tabs tl' → AllBare g →
      wpAny (model prog w) A (assign target env v) (fun _ s₂ => wpAny (model prog w) A (execs body env) (fun f s₃ => match f with | .ret v => Q (.ret v) s₃ | .brk => Q .next s₃ | _ => TurnedN h₀ L m [x, y] ((I, o) :: rest) s.os s₃) E s₂) E ⟨h, g, d, k, s.os⟩)
    (done : ∀ u u' h g d k tl', Fr h₀ L h (fun z => if z = x then u else if z = y then u' else m z) → News h₀ L h (rest ++ tl') → Tabs tl' → AllBare g → Q .next ⟨h, g, d, k, s.os⟩) :
    wpAny (model prog w) A (pyIter (.ref l)) (fun it s₂ => ListG prog w A env target body Q E it s₂) E s := by
  subst hL
  exact iterList2 x y hh F N hT hS hl hG turn done
end
end Mine
end
section
open PySem PySem.W PySem.Calls PyProof.Rows PySem.Spec
set_option maxRecDepth 100000
namespace Mine
section
variable {prog : Program} {w : World} {A : Around} {E : Value → Shared → Prop} {s₁ : Shared} {K : Frag} {h₀ : Heap} {L : Addr} {m mg mb : Str → Option Value} {news : List (Addr × Obj)} {p : Program} {loose : List Str} {mean : ExcName → Option Value}
theorem srcC_pick {env : Env} {x g : Str} {p1 p2 p3 p4 p5 : Pos} {kd : Nat} {scope : Scope} {Q : Value → Shared → Prop} {l lt : Addr} {vs ws : List Value} {ns : List Int} {tab : Nat → Str} {k : Nat}
    (hh : A.handled = none) (F : Fr h₀ L s₁.heap m) (N : News h₀ L s₁.heap news) (X : K.In h₀) (T : Top p loose mean mg mb h₀) (e : nsIn K mainGlobals g = some (some (.ref lt)))
    (hl : s₁.heap.IsList l vs.toArray) (hi : IntsAre vs ns) (htab : h₀.IsList lt ws.toArray) (hk : 0 < k) (hk2 : k ≤ 100) (hw : ∀ i, i < k → ∃ t, ws[i]? = some (.str (tab i) t)) (h1 : ∀ i, i < k → (tab i).length = 1)
    (hg : env.globals = mainGlobals) (hkf : scope.kind = .function) (kx : scope.names.lookup x = some .local) (kg : scope.names.lookup g = some .globalImplicit)
    (dx : (x == ("__debug__" : Str)) = false) (dg : (g == ("__debug__" : Str)) = false)
    (h : ∀ D (ys : List Value) n h' tk (ds : List Str), Fr h₀ L h' m → News h₀ L h' ((D, listOf ys.toArray n) :: news) → CarriedAll ys (ds.map fun d => PyData.str d) → (∀ d ∈ ds, d.length = 1) → ds.length = ns.length → Q (.ref D) { s₁ with heap := h', toks := tk })
    (hsz : ns.length ≤ sizeLine) :
    wpAny (model prog w) A (pyIter (.ref l)) (CompPost prog w A env scope x [] (.Subscript (.Name g p1) (.BinOp (.Name x p2) .Mod (.Constant (.int (k : Int)) kd p3) p4) p5) Q) E s₁ := by
  have hlt : l < s₁.heap.objs.size := by obtain ⟨_, e, _⟩ := hl; exact Heap.lt_size e
  refine wpAny_pyIter_list hl ?_
  have up : ∀ (h' : Heap), (∀ b o', b ∉ [s₁.heap.objs.size] → (s₁.heap.push { cls := .type "list_iterator", data := .fields #[.ref l, .int 0 0] }).get? b = some o' → h'.get? b = some o') → ∀ b o', s₁.heap.get? b = some o' → h'.get? b = some o' :=
    fun h' hk b o' e => hk b o' (not_iter_of_old e) (Heap.get?_push_of_some _ e)
  have hix : ∀ a : Int, 0 ≤ a.fmod (k : Int) ∧ a.fmod (k : Int) < (k : Int) := fun a => by
    have hk' : (0 : Int) < (k : Int) := by exact_mod_cast hk
    rw [Int.fmod_eq_emod_of_nonneg _ (Int.le_of_lt hk')]
    exact ⟨Int.emod_nonneg _ (Int.ne_of_gt hk'), Int.emod_lt_of_pos _ hk'⟩
  refine ⟨fun _ => true, fun v r => ∃ a, ItemKind.int.is a v ∧ Carried r (.str (tab (a.fmod (k : Int)).toNat)), s₁.heap.objs.size, [s₁.heap.objs.size, l], [s₁.heap.objs.size], vs.toArray.size, _, _, rfl, Walks.list hh _ l (Nat.ne_of_lt hlt) vs.toArray, (by rw [List.size_toArray, hi.areOf.length]; exact hsz),
    ⟨⟨_, Heap.get?_push_size _ rfl, rfl, rfl⟩, hl.at fun o e => Heap.get?_push_of_some _ e⟩, ?_, ⟨?_, ?_⟩, ?_⟩
  · intro b hb
    show b < (s₁.heap.push _).objs.size
    rw [Heap.size_push]
    rcases List.mem_cons.mp hb with rfl | hb
    · exact Nat.lt_succ_self _
    · rw [List.mem_singleton.mp hb]; exact Nat.lt_succ_of_lt hlt
  · intro C i v s₃ m₃ E' hP hn hm _ htk
    exact wpAny_pure ⟨rfl, s₃.heap, s₃.toks, rfl, fun _ _ e => e⟩
  · intro C i v s₃ m₃ E' hP hp hn hm hk₃ htk
    obtain ⟨a, _, ha⟩ := hi.areOf.get i v (by simpa using hP)
    obtain ⟨u, rfl⟩ := ItemKind.int_is ha
    have hkeep : ∀ b o', h₀.get? b = some o' → s₃.heap.get? b = some o' := fun b o' e' => up _ hk₃ b o' (F.keep b o' e')
    have hx : (compEnv scope C env).kindOf x = some .local := kx
    have hgk : (compEnv scope C env).kindOf g = some .globalImplicit := kg
    refine wpAny_Subscript_BinOp_late ?_
    refine Name_function_global hkf hgk (loadGlobal_global (env := compEnv scope C env) (mg := mg) (by show s₃.heap.Ns env.globals mg; rw [hg]; exact T.g.keeps hkeep) (mg_of X T.g e) ?_) dg
    refine wpAny_BinOp ?_
    refine wpAny_Name (wpAny_loadName_local hkf hx hn hm ?_) dx
    refine wpAny_Constant_int ?_
    refine mod_int' (by omega) ?_
    have htab₃ : s₃.heap.IsList lt ws.toArray := htab.at fun o e' => hkeep _ _ e'
    obtain ⟨h0, h2⟩ := hix a
    have hi2 : (a.fmod (k : Int)).toNat < k := by omega
    obtain ⟨t, ht⟩ := hw _ hi2
    exact ⟨"list", _, slot_list_getitem.lookup, htab₃.typeIs, wpAny_getItem_list htab₃ h0 (by omega) (by simpa using ht) ⟨⟨a, ha, .str _ _⟩, s₃.heap, _, rfl, fun _ _ e => e⟩⟩
  · intro D h' tk ys vs' hnew hlD hplD hlen hP hF hk'
    have e' : vs' = vs := by simpa using walked_is hlen hP
    subst e'
    obtain ⟨n, hD⟩ := hplD
    have hne : ∀ p ∈ news, p.1 ≠ D := fun p hp e => by rw [← e, Heap.get?_push_of_some _ (N p hp).1] at hnew; cases hnew
    have F' : Fr h₀ L h' m := F.keeps (up h' hk')
    have h0D : h₀.get? D = none := by
      cases e : h₀.get? D with
      | none => rfl
      | some o' => rw [Heap.get?_push_of_some _ (F.keep _ _ e)] at hnew; cases hnew
    have hDL : D ≠ L := (show NewPlain h' news D ys from ⟨⟨n, hD⟩, hne⟩).ne_locals F'
    have hc := hi.areOf.paired (fun _ => true) (fun a => PyData.str (tab (a.fmod (k : Int)).toNat)) _ (by
      have q : (vs'.filter fun _ => true) = vs' := List.filter_eq_self.mpr fun _ _ => rfl
      have q2 : (vs'.filter (ItemKind.int.lift fun _ => true)) = vs' := List.filter_eq_self.mpr fun v hv => by
        obtain ⟨a, ha⟩ := hi.areOf.mem v hv
        rw [ItemKind.lift_is ha]
      rw [q2]; rw [q] at hF; exact hF)
    rw [List.filter_eq_self.mpr fun _ _ => rfl] at hc
    refine h D ys.toList n h' tk (ns.map fun a => tab (a.fmod (k : Int)).toNat) F' (fun q hq => ?_) (by rw [List.map_map]; exact hc) (fun d hd => ?_) (List.length_map _)
    · rcases List.mem_cons.mp hq with rfl | hq
      · exact ⟨hD, hDL, h0D⟩
      · exact (N.grown (up h' hk')) q hq
    · obtain ⟨a, _, rfl⟩ := List.mem_map.mp hd
      have := hix a
      exact h1 _ (by omega)
end
end Mine
end
section
open PySem PySem.W PyProof.Rows
set_option maxRecDepth 100000
set_option maxHeartbeats 2000000
namespace Mine
def wsS : List Value := [.str (Str.ofString "a") 330, .str (Str.ofString "Z") 331, .str (Str.ofString "0") 332, .str (Str.ofString "-") 333, .str (Str.ofString "~") 334, .str (Str.ofString " ") 335,
  .str (Str.ofString "\"") 336, .str (Str.ofString "\\") 337, .str (Str.ofString ",") 338, .str (Str.ofString ";") 339, .str (Str.ofString "=") 340, .str (Str.ofString "\t") 341, .str (Str.ofString "\n") 342, .str (Str.ofString "é") 343]
def wsH : List Value := [.str (Str.ofString "\\") 345, .str (Str.ofString "\"") 346, .str (Str.ofString "a") 347, .str (Str.ofString "\n") 348, .str (Str.ofString "\\") 349, .str (Str.ofString "€") 350]
def pick (ws : List Value) (i : Nat) : Str := match ws[i]? with | some (.str x _) => x | _ => Str.ofString "a"
theorem pick_at {ws : List Value} (h : ∀ v ∈ ws, ∃ x t, v = .str x t) {i : Nat} (hi : i < ws.length) : ∃ t, ws[i]? = some (.str (pick ws i) t) := by
  obtain ⟨x, t, e⟩ := h ws[i] (List.getElem_mem hi)
  have e2 : ws[i]? = some (.str x t) := by rw [List.getElem?_eq_getElem hi, e]
  exact ⟨t, by rw [e2]; unfold pick; rw [e2]⟩
theorem hwS : ∀ i, i < 14 → ∃ t, wsS[i]? = some (.str (pick wsS i) t) := fun i hi => pick_at (by intro v hv; simp only [wsS, List.mem_cons, List.not_mem_nil, or_false] at hv; rcases hv with h | h | h | h | h | h | h | h | h | h | h | h | h | h <;> exact ⟨_, _, h⟩) hi
theorem hwH : ∀ i, i < 6 → ∃ t, wsH[i]? = some (.str (pick wsH i) t) := fun i hi => pick_at (by intro v hv; simp only [wsH, List.mem_cons, List.not_mem_nil, or_false] at hv; rcases hv with h | h | h | h | h | h <;> exact ⟨_, _, h⟩) hi
theorem h1S : ∀ i, i < 14 → (pick wsS i).length = 1 := by decide +kernel
theorem h1H : ∀ i, i < 6 → (pick wsH i).length = 1 := by decide +kernel
theorem tabS {P : Params} {h : Heap} (X : (hd.heap_39 P).In h) : h.IsList 52 wsS.toArray := ⟨listOf wsS.toArray 0, X 52 _ (by kernel_rfl), rfl, 0, rfl⟩
theorem tabH {P : Params} {h : Heap} (X : (hd.heap_39 P).In h) : h.IsList 53 wsH.toArray := ⟨listOf wsH.toArray 0, X 53 _ (by kernel_rfl), rfl, 0, rfl⟩
end Mine
end
section
open PySem PySem.W PySem.Calls PyProof.Rows
set_option maxRecDepth 100000
namespace Mine
theorem fmod_at {a : Int} {k : Nat} (hk : 0 < k) : 0 ≤ a.fmod (k : Int) ∧ a.fmod (k : Int) < (k : Int) := by
  have hk' : (0 : Int) < (k : Int) := by exact_mod_cast hk
  rw [Int.fmod_eq_emod_of_nonneg _ (Int.le_of_lt hk')]
  exact ⟨Int.emod_nonneg _ (Int.ne_of_gt hk'), Int.emod_lt_of_pos _ hk'⟩
theorem slice_le {ns : List Int} {a : Int} {n : Nat} : (List.take (min (1 + a.fmod 9).toNat n - 1) (List.drop 1 ns)).length ≤ 8 := by
  have h := fmod_at (a := a) (k := 9) (by decide)
  rw [List.length_take]
  have h2 : a.fmod 9 < 9 := h.2
  have h3 : 0 ≤ a.fmod 9 := h.1
  omega
theorem slice_le2 {ns : List Int} {a : Int} {n : Nat} : (List.take (min (12 + a.fmod 7).toNat n - 12) (List.drop 12 ns)).length ≤ 8 := by
  have h := fmod_at (a := a) (k := 7) (by decide)
  rw [List.length_take]
  have h2 : a.fmod 7 < 7 := h.2
  have h3 : 0 ≤ a.fmod 7 := h.1
  omega
theorem bad12 {a : Int} (h : 12 + a.fmod 7 < 0) : False := by
  have h3 : 0 ≤ a.fmod 7 := (fmod_at (a := a) (k := 7) (by decide)).1
  omega
section
variable {prog : Program} {w : World} {A : Around} {E : Value → Shared → Prop} {s : Shared} {t : Tok} {Q : Value → Shared → Prop} {D : Addr} {ys : List Value} {ds : List Str}
theorem join_gen {n : Nat} (hl : s.heap.IsList D ys.toArray) (hc : CarriedAll ys (ds.map fun d => PyData.str d)) (h1 : ∀ d ∈ ds, d.length = 1) (hle : ds.length = n) (hn : n ≤ 8)
    (h : ∀ x t' k, x.length ≤ 8 → Q (.str x t') { s with toks := k }) : wpAny (model prog w) A (call (.builtin "str.join") [.str (PySem.Str.ofString "") t, .ref D]) Q E s :=
  KT.join_1 (g := fun d => d) hl hc h1 (by omega) fun t' k e => h _ t' k (by omega)
end
end Mine
end
section
open PySem PySem.W PySem.Calls PyProof.Rows
set_option maxRecDepth 100000
set_option maxHeartbeats 2000000
namespace Mine
abbrev numbersN : Str := Str.ofString "numbers"
abbrev wholeN : Str := Str.ofString "whole"
abbrev hardN : Str := Str.ofString "hard"
theorem fr_cut1 {h₀ h : Heap} {L : Addr} {m : Str → Option Value} {x : Str} {v : Value} (F : Fr h₀ L h m) (hx : m x = some v) : Fr h₀ L h (fun z => if z = x then some v else m z) := by
  have e : (fun z => if z = x then some v else m z) = m := by
    funext z
    by_cases h : z = x
    · rw [if_pos h, h, hx]
    · rw [if_neg h]
  rw [e]; exact F
theorem fr_cut2 {h₀ h : Heap} {L : Addr} {m : Str → Option Value} {x y : Str} {v u : Value} (F : Fr h₀ L h m) (hx : m x = some v) (hy : m y = some u) : Fr h₀ L h (fun z => if z = x then some v else if z = y then some u else m z) := by
  have e : (fun z => if z = y then some u else m z) = m := by
    funext z
    by_cases h : z = y
    · rw [if_pos h, h, hy]
    · rw [if_neg h]
  have F1 := fr_cut1 F hx
  have e2 : (fun z => if z = x then some v else if z = y then some u else m z) = fun z => if z = x then some v else m z := by
    funext z
    rw [show (if z = y then some u else m z) = m z from congrFun e z]
  rw [e2]; exact F1
theorem spl_cut {h₀ h : Heap} {L : Addr} {led rest tl : List (Addr × Obj)} {p : Addr × Obj} (N : News h₀ L h led) (hS : Spl led rest tl) (hp : p ∈ rest) : News h₀ L h (p :: tl) := by
  obtain ⟨rfl, _⟩ := hS
  intro q hq
  rcases List.mem_cons.mp hq with rfl | hq
  · exact N _ (List.mem_append.mpr (.inl hp))
  · exact N _ (List.mem_append.mpr (.inr hq))
theorem spl_cut0 {h₀ h : Heap} {L : Addr} {led rest tl : List (Addr × Obj)} (N : News h₀ L h led) (hS : Spl led rest tl) : News h₀ L h tl := by
  obtain ⟨rfl, _⟩ := hS
  intro q hq
  exact N _ (List.mem_append.mpr (.inr hq))
theorem len19 {l : List Int} : (List.take 19 l ++ (List.replicate (19 - ((List.take 19 l).length : Int)).toNat [(0 : Int)]).flatten).length = 19 := by
  rw [List.flatten_replicate_singleton, List.length_append, List.length_replicate, List.length_take]
  omega
section
variable {α : Type} {M : Model} {A : Around} {T : Sem α} {Q : α → Shared → Prop} {E : Value → Shared → Prop} {s : Shared} {h₀ : Heap} {L D : Addr} {m : Str → Option Value} {led rest tl : List (Addr × Obj)} {ws : List Value} {ns : List Int} {n : Nat}
theorem cutN (F : Fr h₀ L s.heap m) (N : News h₀ L s.heap led) (hT : Tabs tl) (hS : Spl led rest tl) (hx : m numbersN = some (.ref D)) (hl : (D, listOf ws.toArray n) ∈ rest) (hi : IntsAre ws ns) (hlen : ns.length = 19) (hG : AllBare s.gens)
    (H : ∀ (ns : List Int) (ws : List Value) (u : Str → Option Value) hp g d k, IntsAre ws ns → ns.length = 19 → Fr h₀ L hp (fun z => if z = numbersN then some (.ref D) else u z) → News h₀ L hp ((D, listOf ws.toArray n) :: tl) → AllBare g → wpAny M A T Q E ⟨hp, g, d, k, s.os⟩) : wpAny M A T Q E s :=
  H ns ws m s.heap s.gens s.drawn s.toks hi hlen (fr_cut1 F hx) (spl_cut N hS hl) hG
theorem cutW {i : Int} {t : Tok} (F : Fr h₀ L s.heap m) (N : News h₀ L s.heap led) (hT : Tabs tl) (hS : Spl led rest tl) (hx : m numbersN = some (.ref D)) (hl : (D, listOf ws.toArray n) ∈ rest) (hG : AllBare s.gens) (hw : m wholeN = some (.int (i.fmod 1000 - 500) t))
    (H : ∀ (i : Int) (t : Tok) (u : Str → Option Value) hp g d k, -500 ≤ i → i ≤ 499 → Fr h₀ L hp (fun z => if z = wholeN then some (.int i t) else if z = numbersN then some (.ref D) else u z) → News h₀ L hp ((D, listOf ws.toArray n) :: tl) → AllBare g → wpAny M A T Q E ⟨hp, g, d, k, s.os⟩) : wpAny M A T Q E s := by
  have hb : 0 ≤ i.fmod 1000 ∧ i.fmod 1000 < 1000 := by
    rw [Int.fmod_eq_emod_of_nonneg _ (by decide)]
    exact ⟨Int.emod_nonneg _ (by decide), Int.emod_lt_of_pos _ (by decide)⟩
  exact H _ t m s.heap s.gens s.drawn s.toks (by omega) (by omega) (fr_cut2 F hw hx) (spl_cut N hS hl) hG
theorem cutH {x : Str} {t : Tok} (F : Fr h₀ L s.heap m) (N : News h₀ L s.heap led) (hT : Tabs tl) (hS : Spl led rest tl) (hG : AllBare s.gens) (hw : m hardN = some (.str x t)) (hx : x.length ≤ 8)
    (H : ∀ (x : Str) (t : Tok) (u : Str → Option Value) hp g d k, x.length ≤ 8 → Fr h₀ L hp (fun z => if z = hardN then some (.str x t) else u z) → News h₀ L hp tl → AllBare g → wpAny M A T Q E ⟨hp, g, d, k, s.os⟩) : wpAny M A T Q E s :=
  H x t m s.heap s.gens s.drawn s.toks hx (fr_cut1 F hw) (spl_cut0 N hS) hG
end
end Mine
end
section
open PySem PySem.W PySem.Calls PyProof.Rows
set_option maxRecDepth 100000
set_option maxHeartbeats 8000000
namespace Mine
def LawEnd (s₁ : Shared) (tabs : List (Addr × Addr)) (r : Result) (s' : Shared) : Prop :=
  r = .ok (.ret (.bool true)) ∧ (∀ b o, (ghostOf s₁.heap tabs).get? b = some o → s'.heap.get? b = some o) ∧ s'.os = s₁.os ∧ AllBare s'.gens ∧ GrownAll tabs s'.heap
theorem law_post {M : Model} {A : Around} {cd : Code} {s s₁ : Shared} {cw : ClaimW} {cl : Str → Option Addr} {mean : ExcName → Option Value} {args : List WData} {tabs : List (Addr × Addr)} (hT : TabsAt tabs s₁.heap) (hr : ∀ a x, cw.raises a x = false) (hp : cw.post args (.bool true) args = true)
    (h : codeAny M A cd (LawEnd s₁ tabs) s) : codeAny M A cd (GoodWG cw cl mean args s₁) s := by
  refine codeAny_mono h fun r s' e => ?_
  obtain ⟨rfl, hk, hos, hg, hgr⟩ := e
  have tabAt : ∀ b ∈ tabs.map (·.2), isCodeTable s₁.heap b ∧ s₁.heap.get? b = some (tabObj #[]) ∧ ∃ ps, s'.heap.get? b = some (tabObj ps) := fun b hb => by
    obtain ⟨q, hq, rfl⟩ := List.mem_map.mp hb
    exact ⟨((hT q hq).1.tab (hT q hq).2).isCodeTable, (hT q hq).2, hgr.get q hq⟩
  refine ⟨.inl ⟨.bool true, .bool true, [], rfl, fun x => hr args x, .bool true, hp, fun _ => ⟨List.nodup_nil, fun a ha => nomatch ha⟩⟩, ⟨fun b o e => ?_, fun b o e => ?_⟩, hos, hg⟩
  · by_cases hb : b ∈ tabs.map (·.2)
    · obtain ⟨h1, h2, ps, h3⟩ := tabAt b hb
      rw [e] at h2
      cases Option.some.inj h2
      exact .inr (.inl ⟨h1, rfl, #[], ps, rfl, by rw [Array.empty_append]; exact h3⟩)
    · exact .inl (hk b o (ghost_ne e hb))
  · by_cases hb : b ∈ tabs.map (·.2)
    · obtain ⟨_, _, ps, h3⟩ := tabAt b hb
      exact ⟨_, h3⟩
    · exact ⟨o, hk b o (ghost_ne e hb)⟩
theorem LawEnd.of {s₁ : Shared} {b : Bool} {hp : Heap} {g : Array GenState} {d k} {m : Str → Option Value} {L : Addr} {led rest tl : List (Addr × Obj)} (hb : b = true) (F : Fr (ghostOf s₁.heap [(38, 34), (50, 46)]) L hp m)
    (N : News (ghostOf s₁.heap [(38, 34), (50, 46)]) L hp led) (T : Tabs tl) (S : Spl led rest tl) (G : AllBare g) : LawEnd s₁ [(38, 34), (50, 46)] (.ok (.ret (.bool b))) ⟨hp, g, d, k, s₁.os⟩ := by
  subst hb
  obtain ⟨ps, l, h1, h2, rfl⟩ := T
  obtain ⟨rfl, _⟩ := S
  refine ⟨rfl, fun b o e => F.keep b o e, rfl, G, ?_, ?_, trivial⟩
  · exact ⟨ps, (N (34, tabObj ps) (List.mem_append.mpr (.inr (.head _)))).1⟩
  · obtain ⟨qs, hq⟩ := h2.tab
    exact ⟨qs, (N (46, tabObj qs) (List.mem_append.mpr (.inr (.tail _ hq)))).1⟩
local macro_rules | `(tactic| walk_at "exec For Name Call cons nil") => `(tactic| (k_here; k_dflt ((refine' cutN ?F ?N ?hT ?S ?hx ?hl ?hi ?hlen ?hG ?_; (case F => k_asm); (case N => k_asm); (case hT => assumption); (case S => walk_at "mine split"); (case hx => rfl); (case hl => k_mem); (case hi => assumption); (case hlen => exact len19); (case hG => assumption)); (intro ns9 ws9 u9 hp9 g9 d9 k9 hi9 hl9 F9 N9 G9); (try dsimp only); k_sweep; (repeat ((with_reducible rename ((_ : Nat) < _ ∧ _) => h9x); clear h9x)); (repeat ((rename (List.length _ = min _ _) => h9x); clear h9x)); refine for_G ?_)))
local macro_rules | `(tactic| walk_at "pyIter ref") => `(tactic| ((with_reducible show wpAny _ _ (pyIter (Value.ref _)) (fun it s₂ => LoopG _ _ _ _ _ _ _ _ it s₂) _ _); k_dflt (refine' iter128L ?hL ?hh ?hr ?F ?N ?hS ?hT ?hG ?hx ?hp ?_ ?_; (case hh => exact rfl); (case hr => assumption); (case F => k_asm); (case N => k_asm); (case hL => exact rfl); (case hT => assumption); (case hS => walk_at "mine split"); (case hG => assumption); (case hx => exact rfl); (case hp => exact rfl)); rotate_left; (intro u9 v9 hp9 g9 d9 k9 tl9 F9 N9 T9 G9; (try simp only [List.cons_append, List.nil_append] at N9); (try dsimp only)); rotate_left; (intro i9 t9 I9 u9 hp9 g9 d9 k9 tl9 hi9 l9 F9 N9 T9 G9; (try simp only [List.cons_append, List.nil_append] at N9); (try k_fold))))
local macro_rules | `(tactic| walk_at "LawEnd cons ok") => `(tactic| (k_dflt (refine' LawEnd.of ?hb ?hF ?hN ?hT ?hS ?hG; (case hF => k_asm); (case hN => k_asm); (case hT => assumption); (case hS => walk_at "mine split"); (case hG => assumption); (case hb => decide +kernel))))
local macro_rules | `(tactic| walk_at "newList") => `(tactic| (k_here; k_dflt (refine' newList_S ?k1 ?k2 ?k3 ?_; (case k1 => k_asm); (case k2 => k_asm); (case k3 => rfl); k_whole; (intro l' h' F' N'); k_sweep)))
local macro_rules | `(tactic| walk_at "newTuple") => `(tactic| (k_here; k_dflt (refine' newTuple_S ?k1 ?k2 ?k3 ?_; (case k1 => k_asm); (case k2 => k_asm); (case k3 => rfl); k_whole; (intro l' h' F' N'); k_sweep)))
local macro_rules | `(tactic| walk_at "call type:str") => `(tactic| (k_here; (with_reducible show wpAny _ _ (call (Value.type "str") [Value.int _ _]) _ _ _); k_dflt (refine strOf_int _ _ (by assumption) (by assumption) _ _ _ _ ?_; (intro t9 k9))))
local macro_rules | `(tactic| walk_at "mine len2") => `(tactic| first | decide +kernel | ((with_reducible refine len_qx ?_); walk_at "mine len") | ((with_reducible refine len_up ?_); walk_at "mine len") | omega)
local macro_rules | `(tactic| walk_at "binaryOp Add str str") => `(tactic| (k_here; k_dflt (refine' add_fit ?ha ?hb ?_; (case ha => walk_at "mine len2"); (case hb => walk_at "mine len2"); (intro t9 k9))))
local macro_rules | `(tactic| walk_at "call builtin:str.join") => `(tactic| (k_here; k_dflt ((show wpAny _ _ (call (Value.builtin "str.join") [Value.str _ _, Value.ref _]) _ _ _); refine' join_gen ?hl ?hc ?h1 ?hle ?hn ?_; (case hl => first | assumption | is_list | exact News.isList (by k_asm) (by k_mem)); (case hc => assumption); (case h1 => assumption); (case hle => assumption); (case hn => first | exact slice_le | exact slice_le2); (intro x9 t9 k9 hx9); (rename CarriedAll _ _ => c9x); clear c9x)))
local macro_rules | `(tactic| walk_at "eval ListComp") => `(tactic| (k_here; (with_reducible show wpAny _ _ (eval (Expr.ListComp (Expr.Subscript _ _ _) [⟨Expr.Name _ _, _, [], _⟩] _ _) _) _ _ _); (with_reducible apply ListComp_rowsP); (case hfree => decide); (case hcell => decide); (case hkind => with_unfolding_all rfl); (case hnames => decide); (case hx => with_unfolding_all rfl); (case hs => intro _; with_unfolding_all rfl)))
local macro_rules | `(tactic| walk_at "pyIter ref") => `(tactic| (k_here; (with_reducible show wpAny _ _ (pyIter (Value.ref _)) (CompPost _ _ _ _ _ _ _ _ _) _ _); k_dflt (first | (exfalso; exact bad12 (by assumption)) | ((first | refine' srcC_pick (g := Str.ofString "_law_signs") (k := 14) ?hh ?hF ?hN ?hX ?hT ?he ?hl ?hi (tabS (by k_asm)) ?hk0 ?hk2 hwS h1S ?hg ?hk ?kx ?kg ?dx ?dg ?_ ?hsz | refine' srcC_pick (g := Str.ofString "_law_hard") (k := 6) ?hh ?hF ?hN ?hX ?hT ?he ?hl ?hi (tabH (by k_asm)) ?hk0 ?hk2 hwH h1H ?hg ?hk ?kx ?kg ?dx ?dg ?_ ?hsz); (case hh => exact rfl); (case hF => k_asm); (case hN => k_asm); (case hX => k_asm); (case hT => k_asm); (case he => k_is); (case hl => first | assumption | is_list); (case hi => assumption); (case hk0 => decide); (case hk2 => decide); (case hg => exact rfl); (case hk => exact rfl); (case kx => exact rfl); (case kg => exact rfl); (case dx => decide); (case dg => decide); (case hsz => size_fits); (intro D9 ys9 n9 h' tk9 ds9 F' N' c9 o9 le9)))))
local macro_rules | `(tactic| walk_at "mine each") => `(tactic| first
  | exact fun h => absurd h List.not_mem_nil
  | (refine mem_each ?hd ?tl; (case' hd => (intro e9; subst e9)); (case' tl => walk_at "mine each")))
local macro_rules | `(tactic| walk_at "Turned") => `(tactic| (k_dflt (refine' ⟨_, _, ?F, ?m, ?N, ?T, ?G, rfl⟩; (case T => assumption); (case F => k_asm); (case m => (intro z h1 h2; first | rfl | (simp only [if_neg h1, if_neg h2]; done) | (simp [h1, h2]; done))); (case N => (simp only [List.cons_append, List.nil_append]; k_asm)); (case G => assumption))))
local macro_rules | `(tactic| walk_at "TurnedN") => `(tactic| (k_dflt (refine' ⟨_, _, ?F, ?m, ?N, ?T, ?G, rfl⟩; (case T => assumption); (case F => k_asm); (case m => (intro z h1; first | rfl | (simp at h1; simp [h1]; done))); (case N => (simp only [List.cons_append, List.nil_append]; k_asm)); (case G => assumption))))
local macro_rules | `(tactic| walk_at "exec For Name List cons nil") => `(tactic| (k_here; k_dflt (first | ((refine' cutH ?F ?N ?hT ?S ?hG ?hw ?hx ?_; (case F => k_asm); (case N => k_asm); (case hT => assumption); (case S => walk_at "mine split"); (case hG => assumption); (case hw => rfl); (case hx => assumption)); (intro x9 t9 u9 hp9 g9 d9 k9 hx9 F9 N9 G9); (try dsimp only); k_sweep; (repeat ((with_reducible rename ((_ : Nat) < _ ∧ _) => h9x); clear h9x)); (repeat ((rename (List.length _ = min _ _) => h9x); clear h9x)); refine for_T ?_) | refine for_T ?_)))
local macro_rules | `(tactic| walk_at "exec For Tuple List cons nil") => `(tactic| (k_here; k_dflt ((refine' cutW ?F ?N ?hT ?S ?hx ?hl ?hG ?hw ?_; (case F => k_asm); (case N => k_asm); (case hT => assumption); (case S => walk_at "mine split"); (case hx => rfl); (case hl => k_mem); (case hG => assumption); (case hw => rfl)); (intro i9 t9 u9 hp9 g9 d9 k9 hlo9 hhi9 F9 N9 G9); (try dsimp only); k_sweep; (repeat ((with_reducible rename ((_ : Nat) < _ ∧ _) => h9x); clear h9x)); (repeat ((rename (List.length _ = min _ _) => h9x); clear h9x)); refine for_T ?_)))
local macro_rules | `(tactic| walk_at "pyIter ref") => `(tactic| ((with_reducible show wpAny _ _ (pyIter (Value.ref _)) (fun it s₂ => ListG _ _ _ _ (Expr.Name _ _) _ _ _ it s₂) _ _); k_dflt (refine' iterList1L ?hL ?hh ?F ?N ?hT ?hS ?hl ?hG ?hx ?hp ?_ ?_; (case hh => exact rfl); (case F => k_asm); (case N => k_asm); (case hL => exact rfl); (case hT => assumption); (case hS => walk_at "mine split"); (case hl => k_mem); (case hG => assumption); (case hx => exact rfl); (case hp => exact rfl)); rotate_left; (intro u9 hp9 g9 d9 k9 tl9 F9 N9 T9 G9; (try simp only [List.cons_append, List.nil_append] at N9); (try dsimp only)); rotate_left; (intro v9 I9 o9 hp9 g9 d9 k9 tl9 hv9 l9 ho9 F9 N9 T9 G9; (try simp only [List.cons_append, List.nil_append] at N9); (try k_fold); revert hv9; walk_at "mine each")))
local macro_rules | `(tactic| walk_at "pyIter ref") => `(tactic| ((with_reducible show wpAny _ _ (pyIter (Value.ref _)) (fun it s₂ => ListG _ _ _ _ (Expr.Tuple _ _ _) _ _ _ it s₂) _ _); k_dflt (refine' iterList2L ?hL (Str.ofString "value") (Str.ofString "plain") ?hh ?F ?N ?hT ?hS ?hl ?hG ?_ ?_; (case hh => exact rfl); (case F => k_asm); (case N => k_asm); (case hL => exact rfl); (case hT => assumption); (case hS => walk_at "mine split"); (case hl => k_mem); (case hG => assumption)); rotate_left; (intro u9 v9 hp9 g9 d9 k9 tl9 F9 N9 T9 G9; (try simp only [List.cons_append, List.nil_append] at N9); (try dsimp only)); rotate_left; (intro v9 I9 o9 u9 w9 hp9 g9 d9 k9 tl9 hv9 l9 ho9 F9 N9 T9 G9; (try simp only [List.cons_append, List.nil_append] at N9); (try k_fold); revert hv9; walk_at "mine each")))
local macro_rules | `(tactic| walk_at "eval Name") => `(tactic| (k_here; (with_reducible rename Fr _ _ _ _ => kF); with_unfolding_all refine guard_global (by rfl) ?_; k_dflt (refine' name_K kF ?k1 ?k2 ?k3 ?_; (case k1 => k_asm); (case k2 => k_asm); (case k3 => k_is); k_whole)))
local macro_rules | `(tactic| walk_at "eval Name") => `(tactic| (k_here; (name_kind "local"); k_dflt (refine' ld ?k1 ?k2 ?_; (case k1 => k_asm); (case k2 => exact rfl); k_whole)))
local macro_rules | `(tactic| walk_at "callWith ref") => `(tactic| (k_here; k_dflt (refine' callWith_K ?k1 ?k2 ?_; (case k1 => k_asm); (case k2 => k_is); k_whole)))
local macro_rules | `(tactic| walk_at "execs cons") => `(tactic| (k_here; (with_reducible refine gentoks ?_); intro tk htk; clear htk))
local macro_rules | `(tactic| walk_at "execs nil") => `(tactic| (k_here; (with_reducible refine gentoks ?_); intro tk htk; clear htk))
local macro_rules | `(tactic| walk_at "mine split") => `(tactic| first | exact Spl.app (by assumption) | exact Spl.nil | (apply Spl.cons cls_ne; walk_at "mine split") | (apply Spl.cons (cls_ne2 (by assumption)); walk_at "mine split"))
local macro_rules | `(tactic| walk_at "mine len") => `(tactic| first | with_reducible assumption | with_reducible exact len_8 (by with_reducible assumption) | with_reducible exact len_8r (by with_reducible assumption) | with_reducible exact len_8h (by with_reducible assumption) | with_reducible exact len_one | with_reducible exact len_int (by assumption) (by assumption) | with_reducible exact len_qxq (len_85 (by with_reducible assumption)) | with_reducible exact len_qx0 (len_85 (by with_reducible assumption)) | with_reducible exact len_xq0 (len_85 (by with_reducible assumption)) | decide +kernel | ((with_reducible refine len_q1 ?_); walk_at "mine len") | ((with_reducible refine len_l3 ?_); walk_at "mine len") | ((with_reducible refine len_l2 ?_); walk_at "mine len") | ((with_reducible refine len_l1 ?_); walk_at "mine len") | ((with_reducible refine len_r ?_); walk_at "mine len") | omega)
local macro_rules | `(tactic| walk_at "ite") => `(tactic| (k_here; first | (with_reducible refine ite_no ?hb ?_; (case hb => first | with_reducible exact nq1 (by assumption) | with_reducible exact nq2 (by assumption) | with_reducible exact nq3 _ | with_reducible exact nq4 _ | with_reducible exact ne_self _ | with_reducible exact nqD1 (by assumption) | with_reducible exact nqD2 (by assumption) | with_reducible exact nqI1 _ | with_reducible exact nqI2 _ | decide +kernel)) | (with_reducible refine ite_yes ?hb ?_; (case hb => first | with_reducible exact nq5 _ | decide +kernel))))
local macro_rules | `(tactic| walk_at "call ref") => `(tactic| (k_here; k_dflt (first
  | ((with_reducible show wpAny _ _ (call (Value.ref 60) [_]) _ _ _); refine' con_use ?k1 ?k2 ?k3 ?k4 ?k5 ?kK (c_quoted _ _ _ _ _ _ ?hx) ?kd ?ku ?_; (case k1 => k_asm); (case k2 => k_asm); (case k3 => k_asm); (case k4 => k_asm); (case k5 => k_asm); (case kK => first | exact rfl | assumption); (case hx => walk_at "mine len"); (case kd => ktr_room); (case ku => ktr_units); k_whole; intro t9 h9 tk9 F9 N9; (try dsimp only); (try k_fold))
  | ((with_reducible show wpAny _ _ (call (Value.ref 65) [_]) _ _ _); refine' con_use ?k1 ?k2 ?k3 ?k4 ?k5 ?kK (c_isToken _ _ _ _ _ _ ?hx) ?kd ?ku ?_; (case k1 => k_asm); (case k2 => k_asm); (case k3 => k_asm); (case k4 => k_asm); (case k5 => k_asm); (case kK => first | exact rfl | assumption); (case hx => walk_at "mine len"); (case kd => ktr_room); (case ku => ktr_units); k_whole; intro t9 h9 tk9 F9 N9; (try dsimp only); (try k_fold))
  | ((with_reducible show wpAny _ _ (call (Value.ref 72) [_]) _ _ _); refine' con_use ?k1 ?k2 ?k3 ?k4 ?k5 ?kK (c_read _ _ _ _ _ _ ?hx) ?kd ?ku ?_; (case k1 => k_asm); (case k2 => k_asm); (case k3 => k_asm); (case k4 => k_asm); (case k5 => k_asm); (case kK => first | exact rfl | assumption); (case hx => walk_at "mine len"); (case kd => ktr_room); (case ku => ktr_units); k_whole; intro t9 h9 tk9 F9 N9; (try dsimp only); (try k_fold))
  | ((with_reducible show wpAny _ _ (call (Value.ref 51) [_]) _ _ _); refine' conT_use ?k1 ?k2 ?k3 ?k4 ?k5 ?kK ?kS ?kT ?kG ?kc ?kd2 (t_unq _ _ ?hx) ?kd ?ku ?_; (case k1 => k_asm); (case k2 => k_asm); (case k3 => k_asm); (case k4 => k_asm); (case k5 => k_asm); (case kK => first | exact rfl | assumption); (case kT => assumption); (case kS => walk_at "mine split"); (case kG => assumption); (case kc => assumption); (case kd2 => assumption); (case hx => walk_at "mine len"); (case kd => ktr_room); (case ku => ktr_units); k_whole; intro t9 hp9 g9 d9 k9 tl9 F9 N9 T9 G9; (try simp only [List.cons_append, List.nil_append] at N9); (try dsimp only); (try k_fold))
  | ((with_reducible show wpAny _ _ (call (Value.ref 79) [_]) _ _ _); refine' conT_use ?k1 ?k2 ?k3 ?k4 ?k5 ?kK ?kS ?kT ?kG ?kc ?kd2 (c_round _ _ _ _ _ _ ?hx) ?kd ?ku ?_; (case k1 => k_asm); (case k2 => k_asm); (case k3 => k_asm); (case k4 => k_asm); (case k5 => k_asm); (case kK => first | exact rfl | assumption); (case kT => assumption); (case kS => walk_at "mine split"); (case kG => assumption); (case kc => assumption); (case kd2 => assumption); (case hx => walk_at "mine len"); (case kd => ktr_room); (case ku => ktr_units); k_whole; intro t9 hp9 g9 d9 k9 tl9 F9 N9 T9 G9; (try simp only [List.cons_append, List.nil_append] at N9); (try dsimp only); (try k_fold))
  | ((with_reducible show wpAny _ _ (call (Value.ref 39) [_]) _ _ _); refine' conT_use ?k1 ?k2 ?k3 ?k4 ?k5 ?kK ?kS ?kT ?kG ?kc ?kd2 (t_quote1 _ _ ?hx (by first | exact strOf_str _ _ | exact strOf_int _ _ (by assumption) (by assumption) | exact strOf_none | exact strOf_true | exact strOf_false)) ?kd ?ku ?_; (case k1 => k_asm); (case k2 => k_asm); (case k3 => k_asm); (case k4 => k_asm); (case k5 => k_asm); (case kK => first | exact rfl | assumption); (case kT => assumption); (case kS => walk_at "mine split"); (case kG => assumption); (case kc => assumption); (case kd2 => assumption); (case hx => walk_at "mine len"); (case kd => ktr_room); (case ku => ktr_units); k_whole; intro t9 hp9 g9 d9 k9 tl9 F9 N9 T9 G9; (try simp only [List.cons_append, List.nil_append] at N9); (try dsimp only); (try k_fold))
  | ((with_reducible show wpAny _ _ (call (Value.ref 39) [_, _]) _ _ _); refine' conT_use ?k1 ?k2 ?k3 ?k4 ?k5 ?kK ?kS ?kT ?kG ?kc ?kd2 (t_quote2q _ _ ?hx (by first | exact strOf_str _ _ | exact strOf_int _ _ (by assumption) (by assumption) | exact strOf_none | exact strOf_true | exact strOf_false)) ?kd ?ku ?_; (case k1 => k_asm); (case k2 => k_asm); (case k3 => k_asm); (case k4 => k_asm); (case k5 => k_asm); (case kK => first | exact rfl | assumption); (case kT => assumption); (case kS => walk_at "mine split"); (case kG => assumption); (case kc => assumption); (case kd2 => assumption); (case hx => walk_at "mine len"); (case kd => ktr_room); (case ku => ktr_units); k_whole; intro t9 hp9 g9 d9 k9 tl9 F9 N9 T9 G9; (try simp only [List.cons_append, List.nil_append] at N9); (try dsimp only); (try k_fold)))))
theorem law_try : PySem.Challenge.rw_en5025_01.Holds := by
  refine hd ?_
  w_on
  k_with_none
  w_strict (
    k_fill
    intro w s₀ s₁ mg mb G Y fa o pm cd doc dV kV ho hd hcd hD hmg hg args vals as hpre hlay hrd hwl hlo
    have KX := km_in_of Y
    have hT8 := km_tabs_of Y
    have X := (Ground.X G).1
    have V := (Ground.X G).2
    have hT9 : TabsAt [(38, 34), (50, 46)] s₁.heap := List.forall_mem_cons.mpr ⟨⟨codeHd_of_K (c := 38) (P := 34) KX (by kernel_rfl), hT8 34 (by k_mem)⟩, List.forall_mem_cons.mpr ⟨⟨codeHd_of_K (c := 50) (P := 46) KX (by kernel_rfl), hT8 46 (by k_mem)⟩, fun _ h => nomatch h⟩⟩
    refine Ground.open G ?_
    intro T B D TE TW
    try (refine guard_noD D (by decide +kernel) ?_; clear D)
    clear hmg
    wrow_args hpre hlay hrd hwl hlo
    refine enter_call ?_
    w_top on
    refine law_post hT9 (fun _ _ => rfl) (postW_of (by wrow_shape) (by wtm_val) (by str_meet; first | done | w_fin)) ?_
    w_call any ho hd hcd hD T F
    clear hd
    kn_ghosts F T
    k_drop
    have hG9 : AllBare s₁.gens := .of_eq hg
    rename News _ _ _ _ => N9
    rename Top _ _ _ _ _ (ghostOf _ _) => T9
    have T8 : Top topProg topLoose _ mg mb _ := T9
    obtain ⟨tl0, ht0⟩ : ∃ tl, tl = [((34 : Addr), tabObj #[]), (46, tabObj #[])] := ⟨_, rfl⟩
    rw [← ht0] at N9
    have hTl : Tabs tl0 := ht0 ▸ Tabs.start
    clear ht0
    try clear T9
    try clear T
    try clear TE
    try clear TW
    try clear B
    try clear hD
    try clear hT9
    try clear hT8
    try clear X
    try clear V
    try clear KX
    try clear hcd
    try clear Y
    try clear G
    try clear ho
    try clear hg
    try clear hs
    try clear hr
    try clear hl2
    try clear w1
    try clear r0
    try clear ra
    try clear hlay0
    k_steps)
end Mine
end
set_option maxRecDepth 100000 in
set_option maxHeartbeats 8000000 in
theorem PySem.Challenge.cw_en5025_01_holds : PySem.Challenge.rw_en5025_01.Holds := by
  exact Mine.law_try
