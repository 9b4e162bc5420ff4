import PyProof.Rows.All
import Wide.All
import OpenK.AllK
import Wide.FinOn
import OpenK.XGo
import KE.KxDecode
import Lean
import PySem.Challenge.RW_fy0022_01
set_option Elab.async false
set_option maxRecDepth 100000
set_option maxHeartbeats 8000000
set_option linter.all false
section
open PySem PySem.W PyProof.Rows
namespace Mine
local macro_rules | `(tactic| k_head) => `(tactic| x_head)
open_top hd for PySem.Challenge.rw_fy0022_01
end Mine
end
section
namespace Mine
theorem fresh_FYtxt : True := by
  k_with_none
  w_top off
  trivial
end Mine
open PySem PySem.W PyProof.Rows
namespace Mine
open PySem.Builtin PySem.Builtin.Str PySem.StrLaws

/-- the text's signs -/
abbrev cl (x : Str) : List Nat := x.cps.toList
theorem cl_inj {x y : Str} (h : cl x = cl y) : x = y := Str.ext' (Array.toList_inj.mp h)
theorem cl_len (x : Str) : (cl x).length = x.length := by simp [cl, Str.length]
theorem cl_app (x y : Str) : cl (x ++ y) = cl x ++ cl y := by simp [cl, Str.cps_append]

/-- the parts of l between the places at which p stands, from the left -/
inductive Cut (p : List Nat) : List Nat → List (List Nat) → Prop
  | last {l : List Nat} (h : ∀ i, ¬ (l.drop i).take p.length = p) : Cut p l [l]
  | more {l u r : List Nat} {ps : List (List Nat)} (e : l = u ++ p ++ r) (h : ∀ i, i < u.length → ¬ (l.drop i).take p.length = p) (c : Cut p r ps) : Cut p l (u :: ps)

theorem cut_chain (x y : Str) : ∀ (cuts : List Nat) (a f : Nat), a ≤ x.length → ChainG x y x.length a cuts f → (∀ k, f ≤ k → ¬ At x y x.length k) → 1 ≤ y.length →
    Cut (cl y) ((cl x).drop a) ((partsFrom x y.length a cuts).map cl)
  | [], a, f, ha, h, hn, hy => by
    have e : f = a := h
    subst e
    have e1 : ((strSub x f x.length).cps.toList) = (cl x).drop f := by
      rw [strSub_toList]
      exact List.take_of_length_le (by simp [cl, Str.length])
    show Cut (cl y) ((cl x).drop f) [cl (strSub x f x.length)]
    have e2 : cl (strSub x f x.length) = (cl x).drop f := e1
    rw [e2]
    refine .last fun i hi => ?_
    rw [List.drop_drop] at hi
    refine hn (f + i) (by omega) ⟨?_, ?_⟩
    · have h2 := congrArg List.length hi
      simp only [List.length_take, List.length_drop, cl_len] at h2
      omega
    · rw [subAt_eq, ← cl_len]; exact beq_iff_eq.mpr hi
  | c :: r, a, f, ha, h, hn, hy => by
    obtain ⟨h1, h2, h3, h4⟩ := h
    have hc : c + y.length ≤ x.length := h2.1
    have ey : ((cl x).drop c).take y.length = cl y := by
      have := h2.2
      rw [subAt_eq] at this
      exact eq_of_beq this
    have ih := cut_chain x y r (c + y.length) f hc h4 hn hy
    have e1 : cl (strSub x a c) = ((cl x).drop a).take (c - a) := strSub_toList x a c
    show Cut (cl y) ((cl x).drop a) (cl (strSub x a c) :: (partsFrom x y.length (c + y.length) r).map cl)
    have hl : (cl (strSub x a c)).length = c - a := by
      rw [e1, List.length_take, List.length_drop, cl_len]; omega
    refine .more (r := (cl x).drop (c + y.length)) ?_ ?_ ih
    · have e3 : (cl x).drop c = cl y ++ (cl x).drop (c + y.length) := by
        rw [← ey, ← List.drop_drop, List.take_append_drop]
      have e4 : (cl x).drop a = ((cl x).drop a).take (c - a) ++ (cl x).drop c := by
        have : (cl x).drop c = ((cl x).drop a).drop (c - a) := by rw [List.drop_drop]; congr 1; omega
        rw [this, List.take_append_drop]
      rw [e1, List.append_assoc, ← e3, ← e4]
    · intro i hi e
      rw [hl] at hi
      rw [List.drop_drop] at e
      refine h3 (a + i) (by omega) (by omega) ⟨?_, ?_⟩
      · have h2 := congrArg List.length e
        simp only [List.length_take, List.length_drop, cl_len] at h2
        omega
      · rw [subAt_eq, ← cl_len]; exact beq_iff_eq.mpr e

theorem cut_occ (x y : Str) (hy : 1 ≤ y.length) : Cut (cl y) (cl x) ((partsFrom x y.length 0 (occurrences x y 0 x.length (x.length + 1))).map cl) := by
  obtain ⟨f, h, hn⟩ := occ_tight x y hy
  have := cut_chain x y _ 0 f (Nat.zero_le _) h hn hy
  simpa using this

/-- the parts put together with z between -/
def glue (z : List Nat) : List (List Nat) → List Nat
  | [] => []
  | [p] => p
  | p :: q :: r => p ++ z ++ glue z (q :: r)
theorem cl_join (z : Str) : ∀ ps : List Str, cl (Str.join z ps) = glue (cl z) (ps.map cl)
  | [] => rfl
  | [p] => rfl
  | p :: q :: r => by
    show cl (p ++ z ++ Str.join z (q :: r)) = cl p ++ cl z ++ glue (cl z) (cl q :: r.map cl)
    rw [cl_app, cl_app, cl_join z (q :: r)]; rfl

theorem cut_none {p l : List Nat} {ps : List (List Nat)} (h : ∀ i, ¬ (l.drop i).take p.length = p) (c : Cut p l ps) : ps = [l] := by
  cases c with
  | last _ => rfl
  | @more _ u r ps e _ _ =>
    exfalso
    subst e
    refine h u.length ?_
    simp [List.append_assoc]

theorem cl_replace (x y z : Str) (hy : 1 ≤ y.length) : ∃ ps, Cut (cl y) (cl x) ps ∧ cl (Txt.replace x y z) = glue (cl z) ps := by
  refine ⟨_, cut_occ x y hy, ?_⟩
  unfold Txt.replace
  have h0 : (y.length == 0) = false := by simp; omega
  rw [h0, Bool.false_and, Bool.or_false]
  cases ho : occurrences x y 0 x.length (x.length + 1) with
  | nil =>
    have e : cl (strSub x 0 x.length) = cl x := congrArg cl (sub_whole x)
    show cl x = glue (cl z) [cl (strSub x 0 x.length)]
    rw [e]; rfl
  | cons a r =>
    show cl (glued z (partsBetween x (a :: r) y.length)) = _
    rw [glued_eq_join, partsBetween_eq, cl_join]

theorem cut_split (x y : Str) (hy : 1 ≤ y.length) (hk : ¬ Builtin.Str.strKind x < Builtin.Str.strKind y) : Cut (cl y) (cl x) ((Txt.split x y).map cl) := by
  unfold Txt.split
  have c := cut_occ x y hy
  by_cases h1 : x.length < y.length
  · rw [if_pos (by simp [h1])]
    refine .last fun i hi => ?_
    have h2 := congrArg List.length hi
    simp only [List.length_take, List.length_drop, cl_len] at h2
    omega
  · rw [if_neg (by simp [h1, hk])]
    cases ho : occurrences x y 0 x.length (x.length + 1) with
    | nil =>
      rw [ho] at c
      have e : cl (strSub x 0 x.length) = cl x := congrArg cl (sub_whole x)
      rw [show (partsFrom x y.length 0 []).map cl = [cl (strSub x 0 x.length)] from rfl, e] at c
      exact c
    | cons a r =>
      rw [ho] at c
      rw [if_neg (by simp), partsBetween_eq]
      exact c

/-- each a turned to z -/
def rep1 (a : Nat) (z : List Nat) : List Nat → List Nat
  | [] => []
  | c :: r => if c = a then z ++ rep1 a z r else c :: rep1 a z r
/-- each pair a b, from the left, turned to z -/
def rep2 (a b : Nat) (z : List Nat) : List Nat → List Nat
  | x :: y :: r => if x = a ∧ y = b then z ++ rep2 a b z r else x :: rep2 a b z (y :: r)
  | [x] => [x]
  | [] => []
def headOn (x : Nat) : List (List Nat) → List (List Nat)
  | [] => [[x]]
  | p :: r => (x :: p) :: r
/-- the parts between the pairs a b -/
def spl2 (a b : Nat) : List Nat → List (List Nat)
  | x :: y :: r => if x = a ∧ y = b then [] :: spl2 a b r else headOn x (spl2 a b (y :: r))
  | [x] => [[x]]
  | [] => [[]]
theorem cut_ne {p l : List Nat} {ps : List (List Nat)} (c : Cut p l ps) : ∃ q r, ps = q :: r := by
  cases c with
  | last _ => exact ⟨_, _, rfl⟩
  | more _ _ _ => exact ⟨_, _, rfl⟩

theorem rep1_none (a : Nat) (z : List Nat) : ∀ l : List Nat, (∀ i, ¬ (l.drop i).take 1 = [a]) → rep1 a z l = l
  | [], _ => rfl
  | c :: r, h => by
    have h0 : ¬ c = a := fun e => h 0 (by simp [e])
    rw [rep1, if_neg h0, rep1_none a z r fun i hi => h (i + 1) (by simpa using hi)]
theorem rep1_first (a : Nat) (z r : List Nat) : ∀ u : List Nat, (∀ i, i < u.length → ¬ ((u ++ [a] ++ r).drop i).take 1 = [a]) → rep1 a z (u ++ [a] ++ r) = u ++ z ++ rep1 a z r
  | [], _ => by simp [rep1]
  | c :: u, h => by
    have h0 : ¬ c = a := fun e => h 0 (by simp) (by simp [e])
    show rep1 a z (c :: (u ++ [a] ++ r)) = c :: (u ++ z ++ rep1 a z r)
    rw [rep1, if_neg h0, rep1_first a z r u fun i hi e => h (i + 1) (by simpa using hi) (by simpa using e)]
theorem cut_rep1 {a : Nat} {z l : List Nat} {ps : List (List Nat)} (c : Cut [a] l ps) : glue z ps = rep1 a z l := by
  induction c with
  | last h => exact (rep1_none a z _ h).symm
  | more e h c ih =>
    obtain ⟨q, s, rfl⟩ := cut_ne c
    subst e
    rw [glue, ih, rep1_first a z _ _ h]

theorem rep2_none (a b : Nat) (z : List Nat) : ∀ l : List Nat, (∀ i, ¬ (l.drop i).take 2 = [a, b]) → rep2 a b z l = l
  | [], _ => rfl
  | [_], _ => rfl
  | x :: y :: r, h => by
    have h0 : ¬ (x = a ∧ y = b) := fun e => h 0 (by simp [e])
    rw [rep2, if_neg h0, rep2_none a b z (y :: r) fun i hi => h (i + 1) (by simpa using hi)]
theorem rep2_first (a b : Nat) (z r : List Nat) : ∀ u : List Nat, (∀ i, i < u.length → ¬ ((u ++ [a, b] ++ r).drop i).take 2 = [a, b]) → rep2 a b z (u ++ [a, b] ++ r) = u ++ z ++ rep2 a b z r
  | [], _ => by simp [rep2]
  | [c], h => by
    have h0 : ¬ (c = a ∧ a = b) := fun e => h 0 (by simp) (by simp [e.1, ← e.2])
    show rep2 a b z (c :: a :: b :: r) = c :: (z ++ rep2 a b z r)
    rw [rep2, if_neg h0, rep2, if_pos ⟨rfl, rfl⟩]
  | c :: d :: u, h => by
    have h0 : ¬ (c = a ∧ d = b) := fun e => h 0 (by simp) (by simp [e])
    show rep2 a b z (c :: d :: (u ++ [a, b] ++ r)) = c :: (d :: u ++ z ++ rep2 a b z r)
    rw [rep2, if_neg h0]
    exact congrArg (c :: ·) (rep2_first a b z r (d :: u) fun i hi e => h (i + 1) (by simpa using hi) (by simpa using e))
theorem cut_rep2 {a b : Nat} {z l : List Nat} {ps : List (List Nat)} (c : Cut [a, b] l ps) : glue z ps = rep2 a b z l := by
  induction c with
  | last h => exact (rep2_none a b z _ h).symm
  | more e h c ih =>
    obtain ⟨q, s, rfl⟩ := cut_ne c
    subst e
    rw [glue, ih, rep2_first a b z _ _ h]

theorem spl2_none (a b : Nat) : ∀ l : List Nat, (∀ i, ¬ (l.drop i).take 2 = [a, b]) → spl2 a b l = [l]
  | [], _ => rfl
  | [_], _ => rfl
  | x :: y :: r, h => by
    have h0 : ¬ (x = a ∧ y = b) := fun e => h 0 (by simp [e])
    rw [spl2, if_neg h0, spl2_none a b (y :: r) fun i hi => h (i + 1) (by simpa using hi)]
    rfl
theorem spl2_first (a b : Nat) (r : List Nat) : ∀ u : List Nat, (∀ i, i < u.length → ¬ ((u ++ [a, b] ++ r).drop i).take 2 = [a, b]) → spl2 a b (u ++ [a, b] ++ r) = u :: spl2 a b r
  | [], _ => by simp [spl2]
  | [c], h => by
    have h0 : ¬ (c = a ∧ a = b) := fun e => h 0 (by simp) (by simp [e.1, ← e.2])
    show spl2 a b (c :: a :: b :: r) = [c] :: spl2 a b r
    rw [spl2, if_neg h0, spl2, if_pos ⟨rfl, rfl⟩]
    rfl
  | c :: d :: u, h => by
    have h0 : ¬ (c = a ∧ d = b) := fun e => h 0 (by simp) (by simp [e])
    show spl2 a b (c :: d :: (u ++ [a, b] ++ r)) = (c :: d :: u) :: spl2 a b r
    rw [spl2, if_neg h0]
    have := spl2_first a b r (d :: u) fun i hi e => h (i + 1) (by simpa using hi) (by simpa using e)
    rw [show d :: (u ++ [a, b] ++ r) = d :: u ++ [a, b] ++ r from rfl, this]
    rfl
theorem cut_spl2 {a b : Nat} {l : List Nat} {ps : List (List Nat)} (c : Cut [a, b] l ps) : ps = spl2 a b l := by
  induction c with
  | last h => exact (spl2_none a b _ h).symm
  | more e h c ih =>
    subst e
    rw [spl2_first a b _ _ h, ih]

theorem cl_rep1 (x z : Str) (a : Nat) : cl (Txt.replace x ⟨#[a]⟩ z) = rep1 a (cl z) (cl x) := by
  obtain ⟨ps, c, e⟩ := cl_replace x ⟨#[a]⟩ z (by show 1 ≤ 1; decide)
  rw [e]; exact cut_rep1 c
theorem cl_rep2 (x z : Str) (a b : Nat) : cl (Txt.replace x ⟨#[a, b]⟩ z) = rep2 a b (cl z) (cl x) := by
  obtain ⟨ps, c, e⟩ := cl_replace x ⟨#[a, b]⟩ z (by show 1 ≤ 2; decide)
  rw [e]; exact cut_rep2 c
theorem strKind_pos (x : Str) : 1 ≤ Builtin.Str.strKind x := by
  unfold Builtin.Str.strKind
  split
  · decide
  · split <;> decide
theorem cl_spl2 (x : Str) (a b : Nat) (ha : a < 256) (hb : b < 256) : (Txt.split x ⟨#[a, b]⟩).map cl = spl2 a b (cl x) := by
  refine cut_spl2 (cut_split x ⟨#[a, b]⟩ (by show 1 ≤ 2; decide) ?_)
  have e : Builtin.Str.strKind ⟨#[a, b]⟩ = 1 := by
    unfold Builtin.Str.strKind
    rw [if_pos (by simp [ha, hb])]
  have := strKind_pos x
  omega
end Mine
end
section
namespace Mine
theorem fresh_FYlaw : True := by
  k_with_none
  w_top off
  trivial
end Mine
open PySem PySem.W PyProof.Rows
namespace Mine
theorem rep2_ne {a b c : Nat} {z : List Nat} (h : c ≠ a) (l : List Nat) : rep2 a b z (c :: l) = c :: rep2 a b z l := by
  cases l with
  | nil => rfl
  | cons y r => rw [rep2, if_neg fun e => h e.1]
theorem rep2_hit (a b : Nat) (z r : List Nat) : rep2 a b z (a :: b :: r) = z ++ rep2 a b z r := by rw [rep2, if_pos ⟨rfl, rfl⟩]
theorem rep2_miss {a b : Nat} {z l : List Nat} (h : l.head? ≠ some b) : rep2 a b z (a :: l) = a :: rep2 a b z l := by
  cases l with
  | nil => rfl
  | cons y r => rw [rep2, if_neg fun e => h (by rw [e.2]; rfl)]
theorem rep1_app (a : Nat) (z : List Nat) : ∀ l m : List Nat, rep1 a z (l ++ m) = rep1 a z l ++ rep1 a z m
  | [], _ => rfl
  | c :: r, m => by
    rw [List.cons_append, rep1, rep1, rep1_app a z r m]
    split <;> simp
theorem rep1_ne {a c : Nat} {z : List Nat} (h : c ≠ a) (l : List Nat) : rep1 a z (c :: l) = c :: rep1 a z l := by rw [rep1, if_neg h]
theorem rep1_hit (a : Nat) (z l : List Nat) : rep1 a z (a :: l) = z ++ rep1 a z l := by rw [rep1, if_pos rfl]

/-- one pass: a backslash and a sign that f knows are f's sign -/
def pass (f : Nat → Option Nat) : List Nat → List Nat
  | x :: y :: r => if x = 92 then (match f y with | some c => c :: pass f r | none => x :: pass f (y :: r)) else x :: pass f (y :: r)
  | [x] => [x]
  | [] => []
theorem pass_ne {f : Nat → Option Nat} {x : Nat} (h : x ≠ 92) (l : List Nat) : pass f (x :: l) = x :: pass f l := by
  cases l with
  | nil => rfl
  | cons y r => rw [pass, if_neg h]
theorem pass_hit {f : Nat → Option Nat} {y c : Nat} (h : f y = some c) (r : List Nat) : pass f (92 :: y :: r) = c :: pass f r := by rw [pass, if_pos rfl, h]
theorem pass_miss {f : Nat → Option Nat} {y : Nat} (h : f y = none) (r : List Nat) : pass f (92 :: y :: r) = 92 :: pass f (y :: r) := by rw [pass, if_pos rfl, h]
theorem pass_miss2 {f : Nat → Option Nat} {y : Nat} (h : f y = none) (hy : y ≠ 92) (r : List Nat) : pass f (92 :: y :: r) = 92 :: y :: pass f r := by rw [pass_miss h, pass_ne hy]
theorem pass_nil (f : Nat → Option Nat) (hf : ∀ y, f y = none) : ∀ l, pass f l = l
  | [] => rfl
  | [_] => rfl
  | x :: y :: r => by
    by_cases h : x = 92
    · subst h; rw [pass_miss (hf y), pass_nil f hf (y :: r)]
    · rw [pass_ne h, pass_nil f hf (y :: r)]

/-- no two backslashes side by side -/
def nb : List Nat → Prop
  | x :: y :: r => ¬ (x = 92 ∧ y = 92) ∧ nb (y :: r)
  | _ => True
theorem nb_tail {x : Nat} {l : List Nat} (h : nb (x :: l)) : nb l := by
  cases l with
  | nil => trivial
  | cons y r => exact h.2
theorem nb_second {y : Nat} {r : List Nat} (h : nb (92 :: y :: r)) : y ≠ 92 := fun e => h.1 ⟨rfl, e⟩

def also (f : Nat → Option Nat) (b c : Nat) : Nat → Option Nat := fun y => if y = b then some c else f y

theorem rep2_pass (f : Nat → Option Nat) (b c : Nat) (hb : b ≠ 92) (hfb : f b = none) (h92 : f 92 = none) (ho : ∀ y d, f y = some d → d ≠ 92) : ∀ l, nb l → rep2 92 b [c] (pass f l) = pass (also f b c) l
  | [], _ => rfl
  | [x], _ => rfl
  | x :: y :: r, h => by
    by_cases hx : x = 92
    · subst hx
      have hy := nb_second h
      have ih1 := rep2_pass f b c hb hfb h92 ho r (nb_tail (nb_tail h))
      cases hf : f y with
      | some d =>
        have e : also f b c y = some d := by
          unfold also
          rw [if_neg (fun e => by rw [e, hfb] at hf; cases hf), hf]
        rw [pass_hit hf, pass_hit e, rep2_ne (ho y d hf), ih1]
      | none =>
        rw [pass_miss2 hf hy]
        by_cases e : y = b
        · subst e
          rw [rep2_hit, ih1, pass_hit (f := also f y c) (c := c) (by unfold also; rw [if_pos rfl])]
          rfl
        · rw [rep2_miss (by simpa using e), rep2_ne hy, ih1, pass_miss2 (by unfold also; rw [if_neg e, hf]) hy]
    · rw [pass_ne hx, pass_ne hx, rep2_ne hx, rep2_pass f b c hb hfb h92 ho (y :: r) (nb_tail h)]

def none1 : Nat → Option Nat := fun _ => none
def f5 : Nat → Option Nat := also (also (also (also (also none1 44 44) 59 59) 58 58) 110 10) 78 10
def f6 : Nat → Option Nat := also f5 92 92
def reps (l : List Nat) : List Nat := rep2 92 78 [10] (rep2 92 110 [10] (rep2 92 58 [58] (rep2 92 59 [59] (rep2 92 44 [44] l))))

theorem also_ne {f : Nat → Option Nat} {b c : Nat} (h : ∀ y d, f y = some d → d ≠ 92) (hc : c ≠ 92) : ∀ y d, also f b c y = some d → d ≠ 92 := by
  intro y d e
  unfold also at e
  split at e
  · cases e; exact hc
  · exact h y d e
theorem none1_ne : ∀ y d, none1 y = some d → d ≠ 92 := fun _ _ e => by cases e

theorem reps_eq (l : List Nat) (h : nb l) : reps l = pass f5 l := by
  have e0 : rep2 92 44 [44] l = pass (also none1 44 44) l := by
    have := rep2_pass none1 44 44 (by decide) rfl rfl none1_ne l h
    rwa [pass_nil none1 (fun _ => rfl)] at this
  have n1 := also_ne (b := 44) (c := 44) none1_ne (by decide)
  have n2 := also_ne (b := 59) (c := 59) n1 (by decide)
  have n3 := also_ne (b := 58) (c := 58) n2 (by decide)
  have n4 := also_ne (b := 110) (c := 10) n3 (by decide)
  unfold reps
  rw [e0, rep2_pass _ 59 59 (by decide) (by decide) (by decide) n1 l h, rep2_pass _ 58 58 (by decide) (by decide) (by decide) n2 l h,
    rep2_pass _ 110 10 (by decide) (by decide) (by decide) n3 l h, rep2_pass _ 78 10 (by decide) (by decide) (by decide) n4 l h]
  rfl

theorem spl2_ne (a b : Nat) : ∀ l, ∃ q r, spl2 a b l = q :: r
  | [] => ⟨_, _, rfl⟩
  | [_] => ⟨_, _, rfl⟩
  | x :: y :: r => by
    rw [spl2]
    split
    · exact ⟨_, _, rfl⟩
    · obtain ⟨q, s, e⟩ := spl2_ne a b (y :: r)
      rw [e]; exact ⟨_, _, rfl⟩
theorem spl2_hit (a b : Nat) (r : List Nat) : spl2 a b (a :: b :: r) = [] :: spl2 a b r := by rw [spl2, if_pos ⟨rfl, rfl⟩]
theorem spl2_off {a b x : Nat} (h : x ≠ a) (l : List Nat) : spl2 a b (x :: l) = headOn x (spl2 a b l) := by
  cases l with
  | nil => rfl
  | cons y r => rw [spl2, if_neg fun e => h e.1]
theorem spl2_miss {a b y : Nat} (h : y ≠ b) (r : List Nat) : spl2 a b (a :: y :: r) = headOn a (spl2 a b (y :: r)) := by rw [spl2, if_neg fun e => h e.2]

theorem glue_cons (z p : List Nat) (q : List Nat) (r : List (List Nat)) : glue z (p :: q :: r) = p ++ z ++ glue z (q :: r) := rfl
theorem glue_head (z : List Nat) (x : Nat) (p : List Nat) (ps : List (List Nat)) : glue z ((x :: p) :: ps) = x :: glue z (p :: ps) := by
  cases ps <;> rfl

theorem unesc_pass (f : Nat → Option Nat) : ∀ l, glue [92] ((spl2 92 92 l).map (pass f)) = pass (also f 92 92) l
  | [] => rfl
  | [x] => rfl
  | x :: y :: r => by
    by_cases hx : x = 92
    · subst hx
      by_cases hy : y = 92
      · subst hy
        rw [spl2_hit]
        obtain ⟨q, s, e⟩ := spl2_ne 92 92 r
        have ih := unesc_pass f r
        rw [e] at ih ⊢
        rw [pass_hit (f := also f 92 92) (c := 92) (by unfold also; rw [if_pos rfl]), ← ih]
        rfl
      · have ih := unesc_pass f r
        rw [spl2_miss hy, spl2_off hy]
        obtain ⟨q, s, e⟩ := spl2_ne 92 92 r
        rw [e] at ih ⊢
        have e9 : also f 92 92 y = f y := by unfold also; rw [if_neg hy]
        show glue [92] (pass f (92 :: y :: q) :: s.map (pass f)) = _
        cases hf : f y with
        | some d =>
          rw [pass_hit hf, pass_hit (e9.trans hf), glue_head, ← ih]; rfl
        | none =>
          rw [pass_miss2 hf hy, pass_miss2 (e9.trans hf) hy, glue_head, glue_head, ← ih]; rfl
    · have ih := unesc_pass f (y :: r)
      rw [spl2_off hx]
      obtain ⟨q, s, e⟩ := spl2_ne 92 92 (y :: r)
      rw [e] at ih ⊢
      show glue [92] (pass f (x :: q) :: s.map (pass f)) = _
      rw [pass_ne hx, pass_ne hx, glue_head, ← ih]; rfl

theorem nb_cons {x : Nat} (h : x ≠ 92) : ∀ {l : List Nat}, nb l → nb (x :: l)
  | [], _ => trivial
  | _ :: _, hl => ⟨fun e => h e.1, hl⟩
theorem spl2_nb : ∀ l, ∀ p ∈ spl2 92 92 l, nb p
  | [], p, hp => by
    rw [List.mem_singleton.mp hp]; trivial
  | [x], p, hp => by
    rw [List.mem_singleton.mp hp]; trivial
  | x :: y :: r, p, hp => by
    by_cases hx : x = 92
    · subst hx
      by_cases hy : y = 92
      · subst hy
        rw [spl2_hit] at hp
        rcases List.mem_cons.mp hp with e | hp
        · rw [e]; trivial
        · exact spl2_nb r p hp
      · rw [spl2_miss hy, spl2_off hy] at hp
        have ih := spl2_nb r
        obtain ⟨q, s, e⟩ := spl2_ne 92 92 r
        rw [e] at ih hp
        rcases List.mem_cons.mp hp with e | hp
        · rw [e]
          exact ⟨fun e => hy e.2, nb_cons hy (ih q (List.mem_cons_self ..))⟩
        · exact ih p (List.mem_cons_of_mem _ hp)
    · rw [spl2_off hx] at hp
      have ih := spl2_nb (y :: r)
      obtain ⟨q, s, e⟩ := spl2_ne 92 92 (y :: r)
      rw [e] at ih hp
      rcases List.mem_cons.mp hp with e | hp
      · rw [e]; exact nb_cons hx (ih q (List.mem_cons_self ..))
      · exact ih p (List.mem_cons_of_mem _ hp)

/-- what unescape_backslash reckons is one pass -/
theorem unesc_eq (l : List Nat) : glue [92] ((spl2 92 92 l).map reps) = pass f6 l := by
  have e : (spl2 92 92 l).map reps = (spl2 92 92 l).map (pass f5) := List.map_congr_left fun p hp => reps_eq p (spl2_nb l p hp)
  rw [e, unesc_pass]
  rfl

/-- what _law_written reckons -/
def out1 (c : Nat) : List Nat := if c = 92 then [92, 92] else if c = 44 then [92, 44] else if c = 59 then [92, 59] else if c = 10 then [92, 110] else if c = 13 then [92, 110] else [c]
def wr (p : Bool) : List Nat → List Nat
  | [] => []
  | c :: r => (if c = 10 ∧ p = true then [] else out1 c) ++ wr (c == 13) r
def escd (l : List Nat) : List Nat := rep1 13 [92, 110] (rep1 10 [92, 110] (rep2 13 10 [92, 110] (rep1 44 [92, 44] (rep1 59 [92, 59] (rep1 92 [92, 92] l)))))

theorem wr_true {c : Nat} (h : c ≠ 10) (r : List Nat) : wr true (c :: r) = wr false (c :: r) := by
  rw [wr, wr, if_neg fun e => h e.1, if_neg fun e => h e.1]
def e3 (l : List Nat) : List Nat := rep1 44 [92, 44] (rep1 59 [92, 59] (rep1 92 [92, 92] l))
def out3 (c : Nat) : List Nat := if c = 92 then [92, 92] else if c = 59 then [92, 59] else if c = 44 then [92, 44] else [c]
theorem e3_cons (c : Nat) (l : List Nat) : e3 (c :: l) = out3 c ++ e3 l := by
  unfold out3
  by_cases h1 : c = 92
  · subst h1; simp [e3, rep1]
  · by_cases h2 : c = 59
    · subst h2; simp [e3, rep1]
    · by_cases h3 : c = 44
      · subst h3; simp [e3, rep1]
      · simp [e3, rep1, h1, h2, h3]
theorem out3_head {c : Nat} (h : c ≠ 10) (l : List Nat) : (out3 c ++ l).head? ≠ some 10 := by
  unfold out3
  split
  · simp
  · split
    · simp
    · split
      · simp
      · simpa using h
theorem esc_rest (t : List Nat) {c : Nat} (h13 : c ≠ 13) (h10 : c ≠ 10) : rep1 13 [92, 110] (rep1 10 [92, 110] (rep2 13 10 [92, 110] (out3 c ++ t))) = out1 c ++ rep1 13 [92, 110] (rep1 10 [92, 110] (rep2 13 10 [92, 110] t)) := by
  unfold out3 out1
  by_cases h1 : c = 92
  · subst h1; simp [rep1, rep2_ne]
  · by_cases h2 : c = 59
    · subst h2; simp [rep1, rep2_ne]
    · by_cases h3 : c = 44
      · subst h3; simp [rep1, rep2_ne]
      · simp [h1, h2, h3, h10, h13, rep1, rep2_ne h13]
def escE (l : List Nat) : List Nat := rep1 13 [92, 110] (rep1 10 [92, 110] (rep2 13 10 [92, 110] (e3 l)))
theorem escE_eq : ∀ l, escE l = wr false l
  | [] => rfl
  | [x] => by
    unfold escE
    rw [e3_cons]
    by_cases h13 : x = 13
    · subst h13; decide
    · by_cases h10 : x = 10
      · subst h10; decide
      · rw [esc_rest _ h13 h10]
        simp [wr, h10]
        rfl
  | x :: y :: r => by
    by_cases h13 : x = 13
    · subst h13
      by_cases h10 : y = 10
      · subst h10
        have ih := escE_eq r
        unfold escE at ih ⊢
        rw [e3_cons, e3_cons]
        show rep1 13 [92, 110] (rep1 10 [92, 110] (rep2 13 10 [92, 110] (13 :: 10 :: e3 r))) = _
        rw [rep2_hit, rep1_app, rep1_app, ih]
        rfl
      · have ih := escE_eq (y :: r)
        unfold escE at ih ⊢
        rw [e3_cons]
        show rep1 13 [92, 110] (rep1 10 [92, 110] (rep2 13 10 [92, 110] (13 :: e3 (y :: r)))) = _
        rw [rep2_miss (by rw [e3_cons]; exact out3_head h10 _), rep1_ne (by decide), rep1_hit, ih]
        show _ = out1 13 ++ wr true (y :: r)
        rw [wr_true h10]; rfl
    · have ih := escE_eq (y :: r)
      by_cases h10 : x = 10
      · subst h10
        unfold escE at ih ⊢
        rw [e3_cons]
        show rep1 13 [92, 110] (rep1 10 [92, 110] (rep2 13 10 [92, 110] (10 :: e3 (y :: r)))) = _
        rw [rep2_ne (by decide), rep1_hit, rep1_app, ih]
        rfl
      · unfold escE at ih ⊢
        rw [e3_cons, esc_rest _ h13 h10, ih]
        have e : (x == 13) = false := by simpa using h13
        show _ = (if x = 10 ∧ false = true then [] else out1 x) ++ wr (x == 13) (y :: r)
        rw [if_neg (by simp), e]
theorem escd_eq (l : List Nat) : escd l = wr false l := escE_eq l

/-- _unescape_char against the law's own reading -/
def f4 : Nat → Option Nat := also (also (also (also none1 110 10) 78 10) 44 44) 59 59
def unch (l : List Nat) : List Nat := rep2 92 92 [92] (rep2 92 59 [59] (rep2 92 44 [44] (rep2 92 110 [10] (rep2 13 10 [10] (rep2 92 78 [92, 110] l)))))
def due (l : List Nat) : List Nat := rep2 92 46 [92, 58] (pass f6 (rep2 92 58 [92, 46] (rep2 13 10 [10] l)))

theorem rep2_head {a b : Nat} {z : List Nat} {c : Nat} {l : List Nat} : (rep2 a b z (c :: l)).head? = some c ∨ (rep2 a b z (c :: l)).head? = (z ++ rep2 a b z (l.drop 1)).head? := by
  cases l with
  | nil => exact .inl rfl
  | cons y r =>
    rw [rep2]
    split
    · exact .inr rfl
    · exact .inl rfl

theorem swap_rep : ∀ l, nb l → rep2 13 10 [10] (rep2 92 78 [92, 110] l) = rep2 92 78 [92, 110] (rep2 13 10 [10] l)
  | [], _ => rfl
  | [x], _ => rfl
  | x :: y :: r, h => by
    by_cases hx : x = 92
    · subst hx
      have hy := nb_second h
      have ih := swap_rep r (nb_tail (nb_tail h))
      by_cases h78 : y = 78
      · subst h78
        rw [rep2_hit, rep2_ne (a := 13) (by decide) (78 :: r), rep2_ne (a := 13) (by decide) r, rep2_hit]
        show rep2 13 10 [10] (92 :: 110 :: rep2 92 78 [92, 110] r) = _
        rw [rep2_ne (by decide), rep2_ne (by decide), ih]; rfl
      · have ih2 := swap_rep (y :: r) (nb_tail h)
        rw [rep2_miss (a := 92) (by simpa using h78), rep2_ne (a := 13) (c := 92) (by decide), ih2, rep2_ne (a := 13) (c := 92) (by decide), rep2_miss]
        rcases rep2_head (a := 13) (b := 10) (z := [10]) (c := y) (l := r) with e | e
        · rw [e]; simpa using h78
        · rw [e]; simp
    · have ih2 := swap_rep (y :: r) (nb_tail h)
      by_cases h13 : x = 13
      · subst h13
        by_cases h10 : y = 10
        · subst h10
          have ih := swap_rep r (nb_tail (nb_tail h))
          rw [rep2_hit, rep2_ne (a := 92) (c := 13) (by decide), rep2_ne (a := 92) (c := 10) (by decide), rep2_hit]
          show 10 :: rep2 13 10 [10] (rep2 92 78 [92, 110] r) = rep2 92 78 [92, 110] (10 :: rep2 13 10 [10] r)
          rw [rep2_ne (by decide), ih]
        · rw [rep2_ne (a := 92) (by decide), rep2_miss, ih2, rep2_miss (a := 13) (by simpa using h10), rep2_ne (a := 92) (by decide)]
          rcases rep2_head (a := 92) (b := 78) (z := [92, 110]) (c := y) (l := r) with e | e
          · rw [e]; simpa using h10
          · rw [e]; simp
      · rw [rep2_ne (a := 92) hx, rep2_ne (a := 13) h13, ih2, rep2_ne (a := 13) h13, rep2_ne (a := 92) hx]

theorem nb_rep13 : ∀ l, nb l → nb (rep2 13 10 [10] l)
  | [], _ => trivial
  | [x], _ => trivial
  | x :: y :: r, h => by
    by_cases h13 : x = 13
    · subst h13
      by_cases h10 : y = 10
      · subst h10
        rw [rep2_hit]
        exact nb_cons (by decide) (nb_rep13 r (nb_tail (nb_tail h)))
      · rw [rep2_miss (by simpa using h10)]
        exact nb_cons (by decide) (nb_rep13 (y :: r) (nb_tail h))
    · rw [rep2_ne h13]
      have ih := nb_rep13 (y :: r) (nb_tail h)
      by_cases hx : x = 92
      · subst hx
        have hy := nb_second h
        cases e : rep2 13 10 [10] (y :: r) with
        | nil => trivial
        | cons q s =>
          rw [e] at ih
          refine ⟨fun e2 => ?_, ih⟩
          rcases rep2_head (a := 13) (b := 10) (z := [10]) (c := y) (l := r) with e3 | e3
          · rw [e] at e3
            exact hy ((Option.some.inj e3).symm.trans e2.2)
          · rw [e] at e3
            have : q = 10 := Option.some.inj e3
            omega
      · exact nb_cons hx ih
theorem mem_rep13 {c : Nat} : ∀ l, c ∈ rep2 13 10 [10] l → c = 10 ∨ c ∈ l
  | [], h => .inr h
  | [x], h => .inr h
  | x :: y :: r, h => by
    rw [rep2] at h
    split at h
    · rcases List.mem_append.mp h with h | h
      · exact .inl (List.mem_singleton.mp h)
      · rcases mem_rep13 r h with h | h
        · exact .inl h
        · exact .inr (List.mem_cons_of_mem _ (List.mem_cons_of_mem _ h))
    · rcases List.mem_cons.mp h with h | h
      · exact .inr (h ▸ List.mem_cons_self ..)
      · rcases mem_rep13 (y :: r) h with h | h
        · exact .inl h
        · exact .inr (List.mem_cons_of_mem _ h)

theorem two_n : ∀ d, nb d → rep2 92 110 [10] (rep2 92 78 [92, 110] d) = pass (also (also none1 110 10) 78 10) d
  | [], _ => rfl
  | [x], _ => rfl
  | x :: y :: r, h => by
    by_cases hx : x = 92
    · subst hx
      have hy := nb_second h
      have ih := two_n r (nb_tail (nb_tail h))
      by_cases h78 : y = 78
      · subst h78
        rw [rep2_hit]
        show rep2 92 110 [10] (92 :: 110 :: rep2 92 78 [92, 110] r) = _
        rw [rep2_hit, ih, pass_hit (c := 10) (by decide)]; rfl
      · rw [rep2_miss (by simpa using h78), rep2_ne hy]
        by_cases h110 : y = 110
        · subst h110
          rw [rep2_hit, ih, pass_hit (c := 10) (by decide)]; rfl
        · rw [rep2_miss (by simpa using h110), rep2_ne hy, ih, pass_miss2 (by simp [also, none1, h78, h110]) hy]
    · rw [rep2_ne hx, rep2_ne hx, two_n (y :: r) (nb_tail h), pass_ne hx]

theorem nb_pass {f : Nat → Option Nat} (ho : ∀ y d, f y = some d → d ≠ 92) : ∀ l, nb l → nb (pass f l)
  | [], _ => trivial
  | [x], _ => trivial
  | x :: y :: r, h => by
    by_cases hx : x = 92
    · subst hx
      have hy := nb_second h
      have ih := nb_pass ho r (nb_tail (nb_tail h))
      cases hf : f y with
      | some d => rw [pass_hit hf]; exact nb_cons (ho y d hf) ih
      | none => rw [pass_miss2 hf hy]; exact ⟨fun e => hy e.2, nb_cons hy ih⟩
    · rw [pass_ne hx]; exact nb_cons hx (nb_pass ho (y :: r) (nb_tail h))
theorem rep_nb : ∀ l, nb l → rep2 92 92 [92] l = l
  | [], _ => rfl
  | [x], _ => rfl
  | x :: y :: r, h => by rw [rep2, if_neg h.1, rep_nb (y :: r) h.2]

theorem unch_eq (l : List Nat) (h : nb l) : unch l = pass f4 (rep2 13 10 [10] l) := by
  have hd := nb_rep13 l h
  have n2 : ∀ y d, also (also none1 110 10) 78 10 y = some d → d ≠ 92 := also_ne (also_ne none1_ne (by decide)) (by decide)
  have n3 := also_ne (b := 44) (c := 44) n2 (by decide)
  have n4 := also_ne (b := 59) (c := 59) n3 (by decide)
  unfold unch
  rw [swap_rep l h, two_n _ hd, rep2_pass _ 44 44 (by decide) (by decide) (by decide) n2 _ hd, rep2_pass _ 59 59 (by decide) (by decide) (by decide) n3 _ hd]
  exact rep_nb _ (nb_pass n4 _ hd)

theorem due_pass : ∀ d, nb d → 46 ∉ d → rep2 92 46 [92, 58] (pass f6 (rep2 92 58 [92, 46] d)) = pass f4 d
  | [], _, _ => rfl
  | [x], _, _ => rfl
  | x :: y :: r, h, h46 => by
    have h46r : 46 ∉ r := fun m => h46 (List.mem_cons_of_mem _ (List.mem_cons_of_mem _ m))
    have h46y : y ≠ 46 := fun e => h46 (e ▸ List.mem_cons_of_mem _ (List.mem_cons_self ..))
    by_cases hx : x = 92
    · subst hx
      have hy := nb_second h
      have ih := due_pass r (nb_tail (nb_tail h)) h46r
      by_cases h58 : y = 58
      · subst h58
        rw [rep2_hit]
        show rep2 92 46 [92, 58] (pass f6 (92 :: 46 :: rep2 92 58 [92, 46] r)) = _
        rw [pass_miss2 (by decide) (by decide), rep2_hit, ih, pass_miss2 (f := f4) (by decide) (by decide)]; rfl
      · rw [rep2_miss (by simpa using h58), rep2_ne hy]
        have e46 : f6 y = f4 y := by
          unfold f6 f5 f4 also
          simp only [hy, h58, if_false]
          by_cases a1 : y = 44 <;> by_cases a2 : y = 59 <;> by_cases a3 : y = 110 <;> by_cases a4 : y = 78 <;> simp_all
        cases hf : f4 y with
        | some c =>
          have hc : c ≠ 92 := also_ne (also_ne (also_ne (also_ne none1_ne (by decide)) (by decide)) (by decide)) (by decide) y c hf
          rw [pass_hit (e46.trans hf), pass_hit hf, rep2_ne hc, ih]
        | none =>
          rw [pass_miss2 (e46.trans hf) hy, pass_miss2 hf hy, rep2_miss (by simpa using h46y), rep2_ne hy, ih]
    · rw [rep2_ne hx, pass_ne hx, pass_ne hx, rep2_ne hx, due_pass (y :: r) (nb_tail h) fun m => h46 (List.mem_cons_of_mem _ m)]

theorem unch_due (l : List Nat) (h : nb l) (h46 : 46 ∉ l) : unch l = due l := by
  rw [unch_eq l h]
  unfold due
  rw [due_pass _ (nb_rep13 l h)]
  intro m
  rcases mem_rep13 l m with e | m
  · cases e
  · exact h46 m

/-- the parts at a mark that no backslash stands ahead of -/
def parts (m : Nat) : List Nat → List Nat → List (List Nat)
  | cur, x :: y :: r => if x = 92 then parts m (cur ++ [x, y]) r else if x = m then cur :: parts m [] (y :: r) else parts m (cur ++ [x]) (y :: r)
  | cur, [x] => if x = m then [cur, []] else [cur ++ [x]]
  | cur, [] => [cur]
theorem parts_pair (m : Nat) (cur : List Nat) (y : Nat) (r : List Nat) : parts m cur (92 :: y :: r) = parts m (cur ++ [92, y]) r := by rw [parts, if_pos rfl]
theorem parts_mark {m : Nat} (hm : m ≠ 92) (cur r : List Nat) : parts m cur (m :: r) = cur :: parts m [] r := by
  cases r with
  | nil => rw [parts, if_pos rfl]; rfl
  | cons y r => rw [parts, if_neg hm, if_pos rfl]
theorem parts_other {m x : Nat} (hx : x ≠ 92) (hm : x ≠ m) (cur r : List Nat) : parts m cur (x :: r) = parts m (cur ++ [x]) r := by
  cases r with
  | nil => rw [parts, if_neg hm]; rfl
  | cons y r => rw [parts, if_neg hx, if_neg hm]
theorem parts_last {m : Nat} (hm : m ≠ 92) (cur : List Nat) : parts m cur [92] = parts m (cur ++ [92]) [] := by
  rw [parts, if_neg fun e => hm e.symm]; rfl
end Mine
end
section
namespace Mine
theorem fresh_FYstr : True := by
  k_with_none
  w_top off
  trivial
end Mine
open PySem PySem.W PyProof.Rows
namespace Mine
open PySem.Builtin PySem.Builtin.Str PySem.StrLaws

theorem sliceIdx_ss (len : Nat) (a b : Nat) : strSliceIndices (some (a : Int)) (some (b : Int)) 1 len = strSliceIndices (some ((min a len : Nat) : Int)) (some ((min b len : Nat) : Int)) 1 len := by
  have a1 : ¬ ((a : Int) < 0) := by omega
  have a2 : ¬ ((b : Int) < 0) := by omega
  have a3 : ¬ (((min a len : Nat) : Int) < 0) := by omega
  have a4 : ¬ (((min b len : Nat) : Int) < 0) := by omega
  have e1 : max (0 : Int) (min ((min a len : Nat) : Int) (len : Int)) = max (0 : Int) (min (a : Int) (len : Int)) := by omega
  have e2 : max (0 : Int) (min ((min b len : Nat) : Int) (len : Int)) = max (0 : Int) (min (b : Int) (len : Int)) := by omega
  simp [strSliceIndices, a1, a2, a3, a4, e1, e2]
theorem cl_slice (x : Str) (a b : Nat) (hab : a ≤ b) (ha : a ≤ x.length) : cl (Txt.slice x (some (a : Int)) (some (b : Int))) = ((cl x).drop a).take (b - a) := by
  have e : Txt.slice x (some (a : Int)) (some (b : Int)) = sliceText x (some ((min a x.length : Nat) : Int)) (some ((min b x.length : Nat) : Int)) := by
    show sliceText x (some (a : Int)) (some (b : Int)) = _
    unfold sliceText
    rw [sliceIdx_ss]
  rw [e, sliceText_nat x (by omega) (by omega)]
  have e1 : min a x.length = a := by omega
  rw [e1]
  show (((cl x).drop a).take (min b x.length - a)) = _
  by_cases h : b ≤ x.length
  · rw [Nat.min_eq_left h]
  · have h2 : min b x.length = x.length := by omega
    rw [h2, List.take_of_length_le (by rw [List.length_drop, cl_len]; omega), List.take_of_length_le (by rw [List.length_drop, cl_len]; omega)]
theorem cl_item (x : Str) (k : Nat) (h : k < x.length) : cl (Txt.item x (k : Int)) = [(cl x)[k]'(by rw [cl_len]; exact h)] := by
  have e : (seqIndex? (k : Int) x.length).bind (x.cps[·]?) = some ((cl x)[k]'(by rw [cl_len]; exact h)) := by
    refine at_nonneg (by omega) ?_
    simp [cl]
  have e2 : Txt.item x (k : Int) = ⟨#[(cl x)[k]'(by rw [cl_len]; exact h)]⟩ := by
    show (⟨#[((seqIndex? (k : Int) x.length).bind (x.cps[·]?)).getD 0]⟩ : Str) = _
    rw [e]; rfl
  rw [e2]
theorem drop_at (x : Str) (k : Nat) (h : k < x.length) : (cl x).drop k = (cl x)[k]'(by rw [cl_len]; exact h) :: (cl x).drop (k + 1) := by
  have h' : k < (cl x).length := by rw [cl_len]; exact h
  exact List.drop_eq_getElem_cons h'
theorem str_eq_cl {x y : Str} : (x == y) = (cl x == cl y) := by
  by_cases h : x = y
  · subst h; simp
  · have h2 : cl x ≠ cl y := fun e => h (cl_inj e)
    rw [beq_eq_false_iff_ne.mpr h, beq_eq_false_iff_ne.mpr h2]
theorem cl_bs : cl (Str.ofString "\\") = [92] := by decide +kernel
theorem cl_one (c : Nat) : cl ⟨#[c]⟩ = [c] := rfl

/-- the sign at place k -/
theorem item_eq {x : Str} {k : Nat} {y : Str} {c : Nat} (h : k < x.length) (hy : cl y = [c]) (e : (Txt.item x (k : Int) == y) = true) : (cl x).drop k = c :: (cl x).drop (k + 1) := by
  rw [str_eq_cl, cl_item x k h, hy] at e
  rw [drop_at x k h]
  have := eq_of_beq e
  rw [List.cons.inj this |>.1]
theorem item_ne {x : Str} {k : Nat} {y : Str} {c : Nat} (h : k < x.length) (hy : cl y = [c]) (e : (Txt.item x (k : Int) == y) = false) : ∃ d, d ≠ c ∧ (cl x).drop k = d :: (cl x).drop (k + 1) ∧ cl (Txt.item x (k : Int)) = [d] := by
  rw [str_eq_cl, cl_item x k h, hy] at e
  refine ⟨_, ?_, drop_at x k h, cl_item x k h⟩
  intro e2
  rw [e2] at e
  simp at e

abbrev escs : List Str := [Str.ofString "\\", Str.ofString ",", Str.ofString ";", Str.ofString ":", Str.ofString "n", Str.ofString "N"]
def escN : List Nat := [92, 44, 59, 58, 110, 78]
theorem escs_cl : escs.map cl = escN.map fun c => [c] := by decide +kernel
theorem escs_any (y : Str) : (escs.any fun z => z == y) = (escN.any fun c => cl y == [c]) := by
  have e : (escs.any fun z => z == y) = ((escs.map cl).any fun z => cl y == z) := by
    rw [List.any_map]
    refine congrArg (fun f => escs.any f) (funext fun z => ?_)
    rw [str_eq_cl]
    show (cl z == cl y) = (cl y == cl z)
    by_cases h : cl z = cl y
    · rw [h]
    · rw [beq_eq_false_iff_ne.mpr h, beq_eq_false_iff_ne.mpr (Ne.symm h)]
  rw [e, escs_cl, List.any_map]
  rfl
theorem slice_one (x : Str) (k : Nat) (h : k < x.length) : cl (Txt.slice x (some ((k : Int) + 1)) (some ((k : Int) + 2))) = ((cl x).drop (k + 1)).take 1 := by
  have := cl_slice x (k + 1) (k + 2) (by omega) (by omega)
  have e : k + 2 - (k + 1) = 1 := by omega
  rw [e] at this
  exact this
theorem f6_some {c : Nat} (h : c ∈ escN) : ∃ d, f6 c = some d := by
  simp only [escN, List.mem_cons, List.not_mem_nil, or_false] at h
  rcases h with rfl | rfl | rfl | rfl | rfl | rfl <;> exact ⟨_, rfl⟩
theorem f6_none {c : Nat} (h : c ∉ escN) : f6 c = none := by
  simp only [escN, List.mem_cons, List.not_mem_nil, or_false, not_or] at h
  simp [f6, f5, also, none1, h]
theorem esc_yes {x : Str} {k : Nat} (h : k < x.length) (e : (escs.any fun z => z == Txt.slice x (some ((k : Int) + 1)) (some ((k : Int) + 2))) = true) :
    k + 1 < x.length ∧ ∃ c, c ∈ escN ∧ (cl x).drop (k + 1) = c :: (cl x).drop (k + 2) ∧ cl (Txt.item x ((k : Int) + 1)) = [c] := by
  rw [escs_any, slice_one x k h] at e
  obtain ⟨c, hc, e⟩ := List.any_eq_true.mp e
  have e := eq_of_beq e
  have hl : k + 1 < x.length := by
    have := congrArg List.length e
    simp only [List.length_take, List.length_drop, List.length_cons, List.length_nil, cl_len] at this
    omega
  have ed := drop_at x (k + 1) hl
  refine ⟨hl, c, hc, ?_, ?_⟩
  · rw [ed] at e ⊢
    rw [List.take_succ_cons, List.take_zero] at e
    rw [List.cons.inj e |>.1]
  · have ei := cl_item x (k + 1) hl
    rw [ed, List.take_succ_cons, List.take_zero] at e
    rw [← e]
    exact ei
theorem esc_no {x : Str} {k : Nat} (h : k < x.length) (e : (escs.any fun z => z == Txt.slice x (some ((k : Int) + 1)) (some ((k : Int) + 2))) = false) :
    (cl x).drop (k + 1) = [] ∨ ∃ c, c ∉ escN ∧ (cl x).drop (k + 1) = c :: (cl x).drop (k + 2) := by
  rw [escs_any, slice_one x k h] at e
  by_cases hl : k + 1 < x.length
  · right
    have ed := drop_at x (k + 1) hl
    refine ⟨_, ?_, ed⟩
    intro hm
    rw [List.any_eq_false] at e
    refine e _ hm ?_
    rw [ed]
    simp
  · left
    exact List.drop_of_length_le (by rw [cl_len]; omega)

/-- the sign that n and N stand for -/
def unqS (y : Str) : Str := if y = Str.ofString "n" then Str.ofString "\n" else if y = Str.ofString "N" then Str.ofString "\n" else y
theorem get_form {y : Str} {v : Value} {t1 t2 t3 t4 : Tok}
    (h : PyProof.V.Flat v ((Spec.lookup (PyData.str y) (strData [(Value.str (Str.ofString "n") t1, Value.str (Str.ofString "\n") t2), (Value.str (Str.ofString "N") t3, Value.str (Str.ofString "\n") t4)])).getD (PyData.str y))) :
    ∃ t, v = .str (unqS y) t := by
  have e : ((Spec.lookup (PyData.str y) (strData [(Value.str (Str.ofString "n") t1, Value.str (Str.ofString "\n") t2), (Value.str (Str.ofString "N") t3, Value.str (Str.ofString "\n") t4)])).getD (PyData.str y)) = .str (unqS y) := by
    show ((if Spec.same (.str (Str.ofString "n")) (.str y) = true then some (PyData.str (Str.ofString "\n")) else if Spec.same (.str (Str.ofString "N")) (.str y) = true then some (PyData.str (Str.ofString "\n")) else none).getD (PyData.str y)) = _
    unfold unqS
    simp only [Spec.same, beq_iff_eq]
    by_cases h1 : y = Str.ofString "n"
    · rw [if_pos h1.symm, if_pos h1]; rfl
    · rw [if_neg (Ne.symm h1), if_neg h1]
      by_cases h2 : y = Str.ofString "N"
      · rw [if_pos h2.symm, if_pos h2]; rfl
      · rw [if_neg (Ne.symm h2), if_neg h2]; rfl
  rw [e] at h
  cases h (default : Heap)
  exact ⟨_, rfl⟩
theorem unqS_len {y : Str} (h : y.length = 1) : (unqS y).length = 1 := by
  unfold unqS
  split
  · decide
  · split
    · decide
    · exact h
theorem cl_unqS {y : Str} {c d : Nat} (h : cl y = [c]) (hc : c ∈ escN) (hd : f6 c = some d) : cl (unqS y) = [d] := by
  have e1 : cl (Str.ofString "n") = [110] := by decide +kernel
  have e2 : cl (Str.ofString "N") = [78] := by decide +kernel
  have e3 : cl (Str.ofString "\n") = [10] := by decide +kernel
  have q1 : y = Str.ofString "n" ↔ c = 110 := by
    constructor
    · intro e; rw [e, e1] at h; exact (List.cons.inj h).1.symm
    · intro e; exact cl_inj (by rw [h, e1, e])
  have q2 : y = Str.ofString "N" ↔ c = 78 := by
    constructor
    · intro e; rw [e, e2] at h; exact (List.cons.inj h).1.symm
    · intro e; exact cl_inj (by rw [h, e2, e])
  unfold unqS
  simp only [q1, q2]
  simp only [escN, List.mem_cons, List.not_mem_nil, or_false] at hc
  rcases hc with rfl | rfl | rfl | rfl | rfl | rfl <;> cases hd <;> first | exact h | exact e3
theorem drop_step {x : Str} {k c : Nat} (e : (cl x).drop k = c :: (cl x).drop (k + 1)) : k < x.length := by
  have := congrArg List.length e
  simp only [List.length_drop, List.length_cons, cl_len] at this
  omega
end Mine
end
section
namespace Mine
theorem fresh_FYstr2 : True := by
  k_with_none
  w_top off
  trivial
end Mine
open PySem PySem.W PyProof.Rows
namespace Mine
open PySem.Builtin PySem.Builtin.Str PySem.StrLaws
theorem rep1_len {a : Nat} {z : List Nat} (hz : z.length ≤ 2) : ∀ l : List Nat, (rep1 a z l).length ≤ 2 * l.length
  | [] => Nat.le_refl _
  | c :: r => by
    have ih := rep1_len (a := a) hz r
    rw [rep1]
    split
    · rw [List.length_append, List.length_cons]; omega
    · rw [List.length_cons, List.length_cons]; omega
theorem rep2_len {a b : Nat} {z : List Nat} (hz : z.length ≤ 2) : ∀ l : List Nat, (rep2 a b z l).length ≤ l.length
  | [] => Nat.le_refl _
  | [_] => Nat.le_refl _
  | x :: y :: r => by
    rw [rep2]
    split
    · have ih := rep2_len (a := a) (b := b) hz r
      rw [List.length_append, List.length_cons, List.length_cons]; omega
    · have ih := rep2_len (a := a) (b := b) hz (y :: r)
      rw [List.length_cons, List.length_cons]; exact Nat.succ_le_succ ih
theorem two_signs {y : Str} (h : y.length = 2) : ∃ a b, y = ⟨#[a, b]⟩ := by
  obtain ⟨⟨l⟩⟩ := y
  match l, h with
  | [a, b], _ => exact ⟨a, b, rfl⟩
theorem one_sign {y : Str} (h : y.length = 1) : ∃ a, y = ⟨#[a]⟩ := by
  obtain ⟨⟨l⟩⟩ := y
  match l, h with
  | [a], _ => exact ⟨a, rfl⟩
theorem rep_le2 {x y z : Str} {n : Nat} (h : x.length ≤ n) (hy : y.length = 2) (hz : z.length ≤ 2) : (Txt.replace x y z).length ≤ n := by
  obtain ⟨a, b, rfl⟩ := two_signs hy
  rw [← cl_len, cl_rep2]
  refine Nat.le_trans (rep2_len (by rw [cl_len]; exact hz) _) ?_
  rw [cl_len]; exact h
theorem rep_le1 {x y z : Str} {n : Nat} (h : x.length ≤ n) (hy : y.length = 1) (hz : z.length ≤ 2) : (Txt.replace x y z).length ≤ 2 * n := by
  obtain ⟨a, rfl⟩ := one_sign hy
  rw [← cl_len, cl_rep1]
  refine Nat.le_trans (rep1_len (by rw [cl_len]; exact hz) _) ?_
  rw [cl_len]; omega
theorem spl2_len (a b : Nat) : ∀ l : List Nat, (spl2 a b l).length ≤ l.length + 1
  | [] => Nat.le_refl _
  | [_] => by show 1 ≤ 2; decide
  | x :: y :: r => by
    rw [spl2]
    split
    · have ih := spl2_len a b r
      rw [List.length_cons, List.length_cons, List.length_cons]; omega
    · have ih := spl2_len a b (y :: r)
      obtain ⟨q, s, e⟩ := spl2_ne a b (y :: r)
      rw [e] at ih ⊢
      show (headOn x (q :: s)).length ≤ _
      rw [show headOn x (q :: s) = (x :: q) :: s from rfl]
      simp only [List.length_cons] at ih ⊢
      omega

abbrev repS (p : Str) : Str := Txt.replace (Txt.replace (Txt.replace (Txt.replace (Txt.replace p (Str.ofString "\\,") (Str.ofString ",")) (Str.ofString "\\;") (Str.ofString ";")) (Str.ofString "\\:") (Str.ofString ":")) (Str.ofString "\\n") (Str.ofString "\n")) (Str.ofString "\\N") (Str.ofString "\n")
theorem cl_repS (p : Str) : cl (repS p) = reps (cl p) := by
  have e1 : Str.ofString "\\," = ⟨#[92, 44]⟩ := by decide +kernel
  have e2 : Str.ofString "\\;" = ⟨#[92, 59]⟩ := by decide +kernel
  have e3 : Str.ofString "\\:" = ⟨#[92, 58]⟩ := by decide +kernel
  have e4 : Str.ofString "\\n" = ⟨#[92, 110]⟩ := by decide +kernel
  have e5 : Str.ofString "\\N" = ⟨#[92, 78]⟩ := by decide +kernel
  have c1 : cl (Str.ofString ",") = [44] := by decide +kernel
  have c2 : cl (Str.ofString ";") = [59] := by decide +kernel
  have c3 : cl (Str.ofString ":") = [58] := by decide +kernel
  have c4 : cl (Str.ofString "\n") = [10] := by decide +kernel
  unfold repS reps
  rw [e1, e2, e3, e4, e5, cl_rep2, cl_rep2, cl_rep2, cl_rep2, cl_rep2, c1, c2, c3, c4]
theorem une_eq (x : Str) : Txt.join (Str.ofString "\\") ((Txt.split x (Str.ofString "\\\\")).map repS) = ⟨(pass f6 (cl x)).toArray⟩ := by
  have e1 : Str.ofString "\\\\" = ⟨#[92, 92]⟩ := by decide +kernel
  apply cl_inj
  show cl (Txt.join (Str.ofString "\\") ((Txt.split x (Str.ofString "\\\\")).map repS)) = pass f6 (cl x)
  unfold Txt.join
  rw [glued_eq_join, cl_join, cl_bs, e1, List.map_map]
  have e2 : (cl ∘ repS) = reps ∘ cl := funext cl_repS
  rw [e2, ← List.map_map, cl_spl2 x 92 92 (by decide) (by decide), unesc_eq]
theorem split_count (x : Str) : (Txt.split x (Str.ofString "\\\\")).length ≤ x.length + 1 := by
  have e1 : Str.ofString "\\\\" = ⟨#[92, 92]⟩ := by decide +kernel
  have h := congrArg List.length (cl_spl2 x 92 92 (by decide) (by decide))
  rw [List.length_map] at h
  rw [e1, h, ← cl_len]
  exact spl2_len 92 92 (cl x)
theorem repS_le {p : Str} {n : Nat} (h : p.length ≤ n) : (repS p).length ≤ n :=
  rep_le2 (rep_le2 (rep_le2 (rep_le2 (rep_le2 h (by decide +kernel) (by decide +kernel)) (by decide +kernel) (by decide +kernel)) (by decide +kernel) (by decide +kernel)) (by decide +kernel) (by decide +kernel)) (by decide +kernel) (by decide +kernel)
theorem sum_le {L : List Str} {n : Nat} (h : ∀ a ∈ L, a.length ≤ n) : (L.map (·.length)).sum ≤ L.length * n := by
  induction L with
  | nil => simp
  | cons a r ih =>
    have h1 := h a (List.mem_cons_self ..)
    have h2 := ih fun b hb => h b (List.mem_cons_of_mem _ hb)
    simp only [List.map_cons, List.sum_cons, List.length_cons, Nat.succ_mul]
    omega
theorem une_sum {x : Str} {L : List Str} (hL : L = Txt.split x (Str.ofString "\\\\")) (hx : x.length ≤ 1000) (ha : ∀ a ∈ L, a.length ≤ x.length) :
    ((L.map repS).map (·.length)).sum + (L.map repS).length * (Str.ofString "\\").length ≤ 16777216 := by
  have h1 : (Str.ofString "\\").length = 1 := by decide +kernel
  have h2 := split_count x
  rw [← hL] at h2
  have h3 : ∀ a ∈ L.map repS, a.length ≤ 1000 := by
    intro a hm
    obtain ⟨b, hb, rfl⟩ := List.mem_map.mp hm
    exact Nat.le_trans (repS_le (ha b hb)) hx
  have h4 := sum_le h3
  rw [h1, List.length_map] at *
  omega
theorem strs_of_carr {vs : List Value} {L : List Str} {g : Str → Str} (h : CarriedAll vs (List.map (fun a => PyData.str (g a)) (List.filter (fun _ => true) L))) : StrsAre vs (L.map g) := by
  refine StrsAre.of_carried ?_
  rw [List.map_map]
  have e : List.filter (fun _ => true) L = L := by simp
  rw [e] at h
  exact h
end Mine
end
section
namespace Mine
theorem fresh_FYtok : True := by
  k_with_none
  w_top off
  trivial
end Mine
open PySem PySem.W PyProof.Rows
namespace Mine
theorem runs_toks {M : Model} {Γ : PySem.Ctx} {p : Pos} {t : Sem Fin} {fs : List Frame} {s s' : Shared} {e : End} (h : Runs M Γ p t fs s e s') : s.toks ≤ s'.toks := by
  induction h <;> first | exact Nat.le_refl _ | assumption | omega | (simp only [Shared.setGen] at *; omega)
theorem wakes_toks {M : Model} {Γ : PySem.Ctx} {p : Pos} {g : Nat} {r : Resume} {s s' : Shared} {res : GenResult} (h : Wakes M Γ p g r s res s') : s.toks ≤ s'.toks := by
  unfold Wakes at h
  split at h
  · exact h.elim
  · split at h
    · obtain ⟨e, s₁, h1, _, _, rfl⟩ := h
      exact (show (s.setGen g .running).toks ≤ s₁.toks from runs_toks h1)
    · rw [h.2]; exact Nat.le_refl _
    · rw [h.2]; exact Nat.le_refl _
  · obtain ⟨e, s₁, h1, _, _, rfl⟩ := h
    exact (show (s.setGen g .running).toks ≤ s₁.toks from runs_toks h1)
  · rw [h.2]; exact Nat.le_refl _
  · rw [h.2]; exact Nat.le_refl _
theorem wp_toks {α : Type} (M : Model) (Γ : PySem.Ctx) {Q : α → Pos → Shared → Prop} {E : Value → Pos → Shared → Prop} (n : Nat) :
    ∀ (t : Sem α) (p : Pos) (s : Shared), n ≤ s.toks → Sem.wp M Γ t (fun a p' s' => n ≤ s'.toks → Q a p' s') E p s → Sem.wp M Γ t Q E p s
  | .pure a, _, _, hn, h => h hn
  | .raise e, _, _, _, h => h
  | .unsupported _, _, _, _, h => h
  | .finish _, _, _, _, h => h
  | .rule _ k, p, s, hn, h => wp_toks M Γ n (k ()) p s hn h
  | .at p' k, _, s, hn, h => wp_toks M Γ n (k ()) p' s hn h
  | .load a _ k, p, s, hn, ⟨o, ho, h⟩ => ⟨o, ho, wp_toks M Γ n (k o) p s hn h⟩
  | .update a _ f k, p, s, hn, ⟨ho, h⟩ => ⟨ho, wp_toks M Γ n (k ()) p _ hn h⟩
  | .loadIfAlive a k, p, s, hn, h => wp_toks M Γ n (k (s.heap.get? a)) p s hn h
  | .point _ k, p, s, hn, h => wp_toks M Γ n (k ()) p s hn h
  | .register _ _, _, _, _, h => h
  | .alloc o k, p, s, hn, h => wp_toks M Γ n (k s.heap.objs.size) p _ hn h
  | .fresh k, p, s, hn, h => wp_toks M Γ n (k s.toks) p { s with toks := s.toks + 1 } (Nat.le_succ_of_le hn) h
  | .ask k, p, s, hn, h => wp_toks M Γ n (k ⟨M.prog, M.w.params⟩) p s hn h
  | .choose src m k, p, s, hn, ⟨h0, h⟩ => ⟨h0, wp_toks M Γ n (k (M.w.draws src (s.drawn.get src) % m)) p _ hn h⟩
  | .os q _ k, p, s, hn, h => wp_toks M Γ n (k (Os.step s.os q).2) p _ hn h
  | .call c hd _ _ k, p, s, hn, ⟨r, s', hr, h⟩ => ⟨r, s', hr, wp_toks M Γ n (k r) p s' (Nat.le_trans hn (runs_toks hr)) h⟩
  | .handled own k, p, s, hn, h => wp_toks M Γ n (k (if own then Γ.own else Γ.handled)) p s hn h
  | .genState g k, p, s, hn, ⟨st, h0, h⟩ => ⟨st, h0, wp_toks M Γ n (k st.seen) p s hn h⟩
  | .newGen c k, p, s, hn, h => wp_toks M Γ n (k s.gens.size) p _ hn h
  | .resume g r _ k, p, s, hn, ⟨res, s', hw, h⟩ => ⟨res, s', hw, wp_toks M Γ n (k res) p s' (Nat.le_trans hn (wakes_toks hw)) h⟩
  | .yield .., _, _, _, h => h
  | .stack k, p, s, hn, h => wp_toks M Γ n (k ((Γ.code, p) :: Γ.below)) p s hn h
  | .fork .., _, _, _, h => h
  | .thread k, p, s, hn, h => wp_toks M Γ n (k 0) p s hn h
  | .await .., _, _, _, h => h
/-- the tokens only grow -/
theorem any_toks {α : Type} {M : Model} {A : Around} {t : Sem α} {Q : α → Shared → Prop} {E : Value → Shared → Prop} {s : Shared} (h : wpAny M A t (fun v s' => s.toks ≤ s'.toks → Q v s') E s) : wpAny M A t Q E s :=
  fun Γ p hΓ => wp_toks M Γ s.toks t p s (Nat.le_refl _) (h Γ p hΓ)
end Mine
namespace Mine
open PySem.Builtin PySem.Builtin.Str
section
variable {prog : Program} {w : World} {A : Around} {E : Value → Shared → Prop} {s : Shared} {x y z : Str} {t u v : Tok} {Q : Value → Shared → Prop}
theorem replaceT (hu : @LT.lt Nat instLTNat 0 u) (hv : @LT.lt Nat instLTNat 0 v) (huv : @Ne Nat u v) (hyz : (y == z) = false) (hx : x.length ≤ 1048576) (hz : z.length ≤ 14)
    (hq : ∀ t' k, s.toks ≤ k → Q (.str (Txt.replace x y z) t') { s with toks := k }) : wpAny (model prog w) A (call (.builtin "str.replace") [.str x t, .str y u, .str z v]) Q E s :=
  any_toks (SC.replaceW (Nat.ne_of_gt hu) (Nat.ne_of_gt hv) huv hyz hx hz fun t' k hk => hq t' k hk)
end
end Mine
end
section
namespace Mine
theorem fresh_FYbase : True := by
  k_with_none
  w_top off
  trivial
end Mine
open PySem PySem.W PyProof.Rows
namespace Mine
open PySem.Spec PySem.Calls
abbrev Claim (w : World) (p : Program) (loose : List Str) (mean : ExcName → Option Value) (mg mb : Str → Option Value) (k : Nat) (f : Addr) (news : List (Addr × Obj)) (vs : List Value) (Ret : Heap → Addr → (Str → Option Value) → Shared → (Value → Shared → Prop) → Prop) : Prop :=
  ∀ (dp un : Nat) (gd : Option (List Code)) (cn : Str) (cs : Scope) (a : Addr) (ccd : Value) (cl : List (Str × Addr)) (outer : List Env) (A₀ : Around) (base h₀ : Heap) (L : Addr) (m : Str → Option Value) (s : Shared) (Q E : Value → Shared → Prop),
    Below A₀ base outer h₀ → Fr h₀ L s.heap m → (hd.heap_39 w.params).In h₀ → News h₀ L s.heap news → Top p loose mean mg mb h₀ → cs.kind = .function → dp + k < recursionLimit → un + 8 * k < cLine → Ret h₀ L m s Q →
      wpAny (model PySem.Challenge.rw_fy0022_01.row.prog w) (ktrTop dp un gd cn cs L a ccd cl outer) (call (.ref f) vs) Q E s
def passS (x : Str) : Str := ⟨(pass f6 (cl x)).toArray⟩
abbrev RetStr (news : List (Addr × Obj)) (y : Str) (h₀ : Heap) (L : Addr) (m : Str → Option Value) (s : Shared) (Q : Value → Shared → Prop) : Prop :=
  ∀ t h' tk', Fr h₀ L h' m → News h₀ L h' news → Q (.str y t) { s with heap := h', toks := tk' }
/-- a stop of the walk: what is behind it is typed by hand -/
def Stop (P : Prop) : Prop := P
theorem stop_here {P : Prop} (h : Stop P) : P := h
theorem stop_go {P : Prop} (h : P) : Stop P := h
structure TokMark : Prop where
  one : True
end Mine
end
section
namespace Mine
theorem fresh_FYpass : True := by
  k_with_none
  w_top off
  trivial
end Mine
open PySem PySem.W PyProof.Rows
namespace Mine
open PySem.Spec PySem.Calls


local macro_rules | `(tactic| walk_at "exec While Compare cons nil") => `(tactic| k_extra "mine")
local macro_rules | `(tactic| walk_at "KswEnd") => `(tactic| k_extra "myend")
local macro_rules | `(tactic| walk_at "binaryOp Add str") => `(tactic| k_extra "add")
local macro_rules | `(tactic| walk_at "subscriptTail Name BinOp str int") => `(tactic| k_extra "bin")
abbrev S5 := Str × Tok × Nat × Tok
abbrev passPs (c : S5) : List (Str × Value) := [(Str.ofString "found", .str c.1 c.2.1), (Str.ofString "k", .int c.2.2.1 c.2.2.2)]
def PassP (x : Str) (c : S5) : Prop := cl c.1 ++ pass f6 ((cl x).drop c.2.2.1) = pass f6 (cl x) ∧ c.2.2.1 ≤ x.length ∧ c.1.length ≤ c.2.2.1
def passM (x : Str) (c : S5) : Nat := x.length - c.2.2.1

theorem pass_end1 {x found : Str} {k : Nat} {t t' : Tok} (I1 : cl found ++ pass f6 ((cl x).drop k) = pass f6 (cl x)) (I3 : found.length ≤ k) (hk : k < x.length) (e1 : (Txt.item x (k : Int) == Str.ofString "\\") = true)
    (e2 : (escs.any fun z => z == Txt.slice x (some ((k : Int) + 1)) (some ((k : Int) + 2))) = true) : PassP x (found ++ unqS (Txt.item x ((k : Int) + 1)), t, k + 2, t') := by
  obtain ⟨h1, c, hc, hd, hi⟩ := esc_yes hk e2
  obtain ⟨d, hf⟩ := f6_some hc
  have e3 := item_eq hk cl_bs e1
  refine ⟨?_, by show k + 2 ≤ x.length; omega, ?_⟩
  · show cl (found ++ unqS (Txt.item x ((k : Int) + 1))) ++ pass f6 ((cl x).drop (k + 2)) = _
    rw [cl_app, cl_unqS hi hc hf, ← I1, e3, hd, pass_hit hf, List.append_assoc]; rfl
  · show (found ++ unqS (Txt.item x ((k : Int) + 1))).length ≤ k + 2
    rw [Str.length_append, unqS_len (show (Txt.item x ((k : Int) + 1)).length = 1 from rfl)]; omega
theorem pass_end2 {x found : Str} {k : Nat} {t t' : Tok} (I1 : cl found ++ pass f6 ((cl x).drop k) = pass f6 (cl x)) (I3 : found.length ≤ k) (hk : k < x.length) (e1 : (Txt.item x (k : Int) == Str.ofString "\\") = true)
    (e2 : (escs.any fun z => z == Txt.slice x (some ((k : Int) + 1)) (some ((k : Int) + 2))) = false) : PassP x (found ++ Txt.item x (k : Int), t, k + 1, t') := by
  have e3 := item_eq hk cl_bs e1
  have e4 : cl (Txt.item x (k : Int)) = [92] := by
    rw [str_eq_cl, cl_bs] at e1; exact eq_of_beq e1
  refine ⟨?_, by show k + 1 ≤ x.length; omega, ?_⟩
  · show cl (found ++ Txt.item x (k : Int)) ++ pass f6 ((cl x).drop (k + 1)) = _
    rw [cl_app, e4, ← I1, e3]
    rcases esc_no hk e2 with h | ⟨c, hc, hd⟩
    · rw [h]; simp [pass]
    · rw [hd, pass_miss (f6_none hc), ← hd]; simp
  · show (found ++ Txt.item x (k : Int)).length ≤ k + 1
    rw [Str.length_append, show (Txt.item x (k : Int)).length = 1 from rfl]; omega
theorem pass_end3 {x found : Str} {k : Nat} {t t' : Tok} (I1 : cl found ++ pass f6 ((cl x).drop k) = pass f6 (cl x)) (I3 : found.length ≤ k) (hk : k < x.length) (e1 : (Txt.item x (k : Int) == Str.ofString "\\") = false) :
    PassP x (found ++ Txt.item x (k : Int), t, k + 1, t') := by
  obtain ⟨d, hd, he, hi⟩ := item_ne hk cl_bs e1
  refine ⟨?_, by show k + 1 ≤ x.length; omega, ?_⟩
  · show cl (found ++ Txt.item x (k : Int)) ++ pass f6 ((cl x).drop (k + 1)) = _
    rw [cl_app, hi, ← I1, he, pass_ne hd, List.append_assoc]; rfl
  · show (found ++ Txt.item x (k : Int)).length ≤ k + 1
    rw [Str.length_append, show (Txt.item x (k : Int)).length = 1 from rfl]; omega
theorem pass_done {x found : Str} {k : Nat} (I1 : cl found ++ pass f6 ((cl x).drop k) = pass f6 (cl x)) (hk : ¬ ((k : Int) < (x.length : Int))) : found = passS x := by
  apply cl_inj
  rw [List.drop_of_length_le (by rw [cl_len]; omega)] at I1
  show cl found = pass f6 (cl x)
  rw [← I1]; simp [pass]
theorem pass_call {w : World} {p : Program} {loose : List Str} {mean : ExcName → Option Value} {mg mb : Str → Option Value} {news : List (Addr × Obj)} (x : Str) (tk : Tok) (hx : x.length ≤ 1000) :
    Claim w p loose mean mg mb 3 422 news [.str x tk] (RetStr news (passS x)) := by
  unfold Claim
  k_fill
  intro dp un gd cn cs a ccd cl outer A₀ base h₀ L m s Q E B F X N T hk hdp hu hret
  k_with_none
  k_with "mine" => (
    (rename Fr _ _ _ _ => lF'); (rename News _ _ _ _ => lN')
    refine' ksw_while (fun _ => news) passPs (fun _ => True) [] (PassP x) (passM x) (Str.ofString "", _, 0, _) lF' lN' True.intro ?kk ?kp ?_
    (case kk => with_unfolding_all kst_all)
    (case kp => exact ⟨rfl, Nat.zero_le _, Nat.le_refl _⟩)
    intro c u h₁ tk₁ _ kInv kFr kNews
    obtain ⟨found, tf, k, tkk⟩ := c
    obtain ⟨kI1, kI2, kI3⟩ := kInv
    dsimp only at kI1 kI2 kI3
    dsimp only [passPs] at kFr
    try k_fold)
  k_with "bin" => (
    (have hq := (esc_yes (x := x) (k := k) (by omega) (by assumption)).1)
    (refine item_str (x := x) (fitsSsize_of (N := 9223372036854775808) (by omega) (by omega) (Int.le_refl _)) (by omega) (by omega) ?_; intro _))
  k_with "add" => (
    (obtain ⟨t9, e9⟩ := get_form (by assumption))
    subst e9
    (have hl9 := unqS_len (y := Txt.item x ((k : Int) + 1)) rfl)
    dsimp only)
  k_with "myend" => fail
  refine wpAny_call ?_
  k_dflt cell_enter
  k_steps
  · (rename News _ _ _ _ => nE'); (refine ksw_end (found ++ unqS (Txt.item x ((k : Int) + 1)), _, k + 2, _) (by assumption) nE' (fun p hp => by first | exact hp | exact .tail _ hp | exact .tail _ (.tail _ hp)) True.intro (by kst_all) (fun z h2 h3 => by simp only [passPs, List.forall_mem_cons, List.not_mem_nil, false_implies, implies_true, and_true, ne_eq] at h2; simp [kstB, h2]) (pass_end1 kI1 kI3 (by omega) (by assumption) (by assumption)) (by show x.length - (k + 2) < x.length - k; omega))
  · (rename News _ _ _ _ => nE'); (refine ksw_end (found ++ Txt.item x (k : Int), _, k + 1, _) (by assumption) nE' (fun p hp => by first | exact hp | exact .tail _ hp | exact .tail _ (.tail _ hp)) True.intro (by kst_all) (fun z h2 h3 => by simp only [passPs, List.forall_mem_cons, List.not_mem_nil, false_implies, implies_true, and_true, ne_eq] at h2; simp [kstB, h2]) (pass_end2 kI1 kI3 (by omega) (by assumption) (by assumption)) (by show x.length - (k + 1) < x.length - k; omega))
  · (rename News _ _ _ _ => nE'); (refine ksw_end (found ++ Txt.item x (k : Int), _, k + 1, _) (by assumption) nE' (fun p hp => by first | exact hp | exact .tail _ hp | exact .tail _ (.tail _ hp)) True.intro (by kst_all) (fun z h2 h3 => by simp only [passPs, List.forall_mem_cons, List.not_mem_nil, false_implies, implies_true, and_true, ne_eq] at h2; simp [kstB, h2]) (pass_end3 kI1 kI3 (by omega) (by assumption)) (by show x.length - (k + 1) < x.length - k; omega))
  · have e9 : found = passS x := pass_done kI1 (by assumption)
    subst e9
    exact hret _ _ _ (by assumption) (by assumption)
end Mine
end
section
local macro_rules | `(tactic| walk_at "zq0") => `(tactic| skip)
local macro_rules | `(tactic| walk_at "zq1") => `(tactic| skip)
local macro_rules | `(tactic| walk_at "zq2") => `(tactic| skip)
local macro_rules | `(tactic| walk_at "zq3") => `(tactic| skip)
namespace Mine
theorem fresh_FYune : True := by
  k_with_none
  w_top off
  trivial
end Mine
open PySem PySem.W PyProof.Rows
namespace Mine
open PySem.Spec PySem.Calls
local macro_rules | `(tactic| walk_at "call builtin:str.replace") => `(tactic| k_extra "rep")
local macro_rules | `(tactic| walk_at "call builtin:str.split") => `(tactic| k_extra "split")
local macro_rules | `(tactic| walk_at "call builtin:str.join") => `(tactic| k_extra "join")
theorem une_call {w : World} {p : Program} {loose : List Str} {mean : ExcName → Option Value} {mg mb : Str → Option Value} {news : List (Addr × Obj)} (x : Str) (tk : Tok) (hx : x.length ≤ 1000) :
    Claim w p loose mean mg mb 3 43 news [.str x tk] (RetStr news (passS x)) := by
  unfold Claim
  k_fill
  intro dp un gd cn cs a ccd cl outer A₀ base h₀ L m s Q E B F X N T hk hdp hu hret
  k_with_none
  k_with "split" => (
    (with_reducible rename Fr _ _ _ _ => F'); (with_reducible rename News _ _ _ _ => N')
    refine any_toks (splitN1A (hsz := ?hsz) F' N' (by first | rfl | assumption) ?_); (case hsz => size_fits); intro _ _ _ _ _ _ _ _ _ hle
    dsimp only at hle)
  k_with "rep" => (
    (rename (_ ≤ Shared.toks _) => hT); (try dsimp only at hT)
    (refine replaceT ?h1 ?h2 ?h3 (by decide +kernel) ?h4 (by decide +kernel) ?_)
    (case h1 => omega)
    (case h2 => omega)
    (case h3 => omega)
    (case h4 =>
      refine Nat.le_trans (m := 1000) ?_ (by decide)
      (repeat (refine rep_le2 ?_ (by decide +kernel) (by decide +kernel)))
      rename (∀ a ∈ List.map _ _, _) => hall
      exact Nat.le_trans (hall _ (by assumption)) hx)
    intro _ _ hle2
    (try dsimp only at hle2))
  k_with "join" => (
    (with_reducible rename CarriedAll _ _ => hc')
    rename (∀ a ∈ List.map _ _, _) => hall
    rename (List.map _ _ = Txt.split _ _) => hsp
    refine join_list (by assumption) (strs_of_carr (g := repS) hc') (une_sum hsp hx hall) ?_
    intro _ _)
  refine wpAny_call ?_
  k_dflt cell_enter
  k_steps
  · skip
    rename (List.map _ _ = Txt.split _ _) => hsp
    rw [hsp, une_eq]
    exact hret _ _ _ (by assumption) (fun p hp => by rename News _ _ _ _ => nE; exact nE p (.tail _ (.tail _ hp)))
end Mine
end
section
namespace Mine
theorem fresh_FYspl0 : True := by
  k_with_none
  w_top off
  trivial
end Mine
open PySem PySem.W PyProof.Rows
namespace Mine
open PySem.Spec PySem.Calls
structure SpS where
  ca : Addr
  cv : List Value
  cs : List Str
  ce : Nat
  rv : List Value
  rs : List Str
  re : Nat
  i : Nat
  ti : Tok
abbrev spLed (ra : Addr) (news : List (Addr × Obj)) (c : SpS) : List (Addr × Obj) := (c.ca, W.listOf c.cv.toArray c.ce) :: (ra, W.listOf c.rv.toArray c.re) :: news
abbrev spPs (c : SpS) : List (Str × Value) := [(Str.ofString "current", .ref c.ca), (Str.ofString "i", .int c.i c.ti)]
def flatS (cs : List Str) : List Nat := (cs.map cl).flatten
theorem flatS_app (cs : List Str) (y : Str) : flatS (cs ++ [y]) = flatS cs ++ cl y := by simp [flatS]
theorem glue_nil : ∀ ps : List (List Nat), glue [] ps = ps.flatten
  | [] => rfl
  | [p] => by simp [glue]
  | p :: q :: r => by rw [glue, glue_nil (q :: r)]; simp
theorem cl_join0 (cs : List Str) : cl (Txt.join (Str.ofString "") cs) = flatS cs := by
  unfold Txt.join
  rw [StrLaws.glued_eq_join, cl_join]
  have e : cl (Str.ofString "") = [] := by decide +kernel
  rw [e, glue_nil]; rfl
theorem flatS_len : ∀ cs : List Str, (flatS cs).length = (cs.map (·.length)).sum
  | [] => rfl
  | a :: r => by
    have ih := flatS_len r
    simp only [flatS, List.map_cons, List.flatten_cons, List.length_append, List.sum_cons, cl_len] at ih ⊢
    rw [ih]
theorem join0_len (cs : List Str) : (Txt.join (Str.ofString "") cs).length = (cs.map (·.length)).sum := by
  rw [← cl_len, cl_join0, flatS_len]
/-- what the splitters give -/
def partsS (m : Nat) (x : Str) : List Str := (parts m [] (cl x)).map fun p => ⟨(pass f6 p).toArray⟩
structure SpP (m : Nat) (x : Str) (c : SpS) : Prop where
  eq : c.rs.map cl ++ (parts m (flatS c.cs) ((cl x).drop c.i)).map (pass f6) = (parts m [] (cl x)).map (pass f6)
  le : c.i ≤ x.length
  sum : (c.cs.map (·.length)).sum ≤ c.i
  lc : c.cv.length ≤ c.i
  lr : c.rv.length ≤ c.i
structure SpF (ra : Addr) (news : List (Addr × Obj)) (c : SpS) : Prop where
  fc : StrsAre c.cv c.cs
  fr : StrsAre c.rv c.rs
  ne : c.ca ≠ ra
  al : ∀ p ∈ news, p.1 ≠ c.ca
def spM (x : Str) (c : SpS) : Nat := x.length - c.i
abbrev RetList (news : List (Addr × Obj)) (ys : List Str) (h₀ : Heap) (L : Addr) (m : Str → Option Value) (s : Shared) (Q : Value → Shared → Prop) : Prop :=
  ∀ D vs e h' tk', StrsAre vs ys → Fr h₀ L h' m → News h₀ L h' ((D, W.listOf vs.toArray e) :: news) → Q (.ref D) { s with heap := h', toks := tk' }

theorem cl_passS (y : Str) : cl (passS y) = pass f6 (cl y) := rfl
section
variable {m : Nat} {x : Str} {ca : Addr} {cv rv : List Value} {cs rs : List Str} {ce re i : Nat} {ti : Tok}
theorem sp_start (hm : m ≠ 92) : SpP m x ⟨ca, [], [], ce, [], [], re, 0, ti⟩ := ⟨rfl, Nat.zero_le _, Nat.le_refl _, Nat.le_refl _, Nat.le_refl _⟩
theorem sp_pair {ca' : Addr} {ce' re' : Nat} {ti' : Tok} {v1 v2 : Value} (P : SpP m x ⟨ca, cv, cs, ce, rv, rs, re, i, ti⟩) (e : (Txt.item x (i : Int) == Str.ofString "\\") = true) (h : i + 1 < x.length) :
    SpP m x ⟨ca', cv ++ [v1] ++ [v2], cs ++ [Txt.item x (i : Int)] ++ [Txt.item x ((i : Int) + 1)], ce', rv, rs, re', i + 2, ti'⟩ := by
  have e1 := item_eq (by omega) cl_bs e
  have e2 := drop_at x (i + 1) h
  have e3 : cl (Txt.item x (i : Int)) = [92] := by rw [str_eq_cl, cl_bs] at e; exact eq_of_beq e
  have e4 : cl (Txt.item x ((i : Int) + 1)) = [_] := cl_item x (i + 1) h
  refine ⟨?_, by show i + 2 ≤ x.length; omega, ?_, ?_, ?_⟩
  · show rs.map cl ++ (parts m (flatS (cs ++ [Txt.item x (i : Int)] ++ [Txt.item x ((i : Int) + 1)])) ((cl x).drop (i + 2))).map (pass f6) = _
    have := P.eq
    dsimp only at this
    rw [← this, e1, e2, flatS_app, flatS_app, parts_pair, e3, e4]
    simp
  · have := P.sum
    dsimp only at this
    simp only [List.map_append, List.sum_append, List.map_cons, List.map_nil, List.sum_cons, List.sum_nil]
    rw [show (Txt.item x (i : Int)).length = 1 from rfl, show (Txt.item x ((i : Int) + 1)).length = 1 from rfl]
    omega
  · have := P.lc
    simp only [List.length_append, List.length_cons, List.length_nil] at this ⊢; omega
  · have := P.lr
    dsimp only at this ⊢; omega
theorem sp_mark {ca' : Addr} {ce' re' : Nat} {ti' : Tok} {v1 : Value} (hm : m ≠ 92) {y : Str} (hy : cl y = [m]) (P : SpP m x ⟨ca, cv, cs, ce, rv, rs, re, i, ti⟩) (h : i < x.length) (e : (Txt.item x (i : Int) == y) = true) :
    SpP m x ⟨ca', [], [], ce', rv ++ [v1], rs ++ [passS (Txt.join (Str.ofString "") cs)], re', i + 1, ti'⟩ := by
  have e1 := item_eq h hy e
  refine ⟨?_, by show i + 1 ≤ x.length; omega, Nat.zero_le _, Nat.zero_le _, ?_⟩
  · show (rs ++ [passS (Txt.join (Str.ofString "") cs)]).map cl ++ (parts m [] ((cl x).drop (i + 1))).map (pass f6) = _
    have := P.eq
    dsimp only at this
    rw [← this, e1, parts_mark hm]
    simp only [List.map_append, List.map_cons, List.map_nil, cl_passS, cl_join0, List.append_assoc, List.cons_append, List.nil_append]
  · have := P.lr
    simp only [List.length_append, List.length_cons, List.length_nil] at this ⊢; omega
theorem sp_other {ca' : Addr} {ce' re' : Nat} {ti' : Tok} {v1 : Value} {y : Str} (hm : m ≠ 92) (hy : cl y = [m]) (P : SpP m x ⟨ca, cv, cs, ce, rv, rs, re, i, ti⟩) (h : i < x.length)
    (e0 : (Txt.item x (i : Int) == Str.ofString "\\") = false ∨ ¬ i + 1 < x.length) (e : (Txt.item x (i : Int) == y) = false) :
    SpP m x ⟨ca', cv ++ [v1], cs ++ [Txt.item x (i : Int)], ce', rv, rs, re', i + 1, ti'⟩ := by
  obtain ⟨d, hd, he, hi⟩ := item_ne h hy e
  refine ⟨?_, by show i + 1 ≤ x.length; omega, ?_, ?_, ?_⟩
  · show rs.map cl ++ (parts m (flatS (cs ++ [Txt.item x (i : Int)])) ((cl x).drop (i + 1))).map (pass f6) = _
    have := P.eq
    dsimp only at this
    rw [← this, he, flatS_app, hi]
    by_cases h92 : d = 92
    · rcases e0 with e0 | e0
      · obtain ⟨d', hd', he', hi'⟩ := item_ne h cl_bs e0
        rw [hi] at hi'
        exact absurd h92 (by rw [(List.cons.inj hi').1]; exact hd')
      · have e5 : (cl x).drop (i + 1) = [] := List.drop_of_length_le (by rw [cl_len]; omega)
        rw [e5, h92, parts_last hm]
    · rw [parts_other h92 hd]
  · have := P.sum
    dsimp only at this
    simp only [List.map_append, List.sum_append, List.map_cons, List.map_nil, List.sum_cons, List.sum_nil]
    rw [show (Txt.item x (i : Int)).length = 1 from rfl]
    omega
  · have := P.lc
    simp only [List.length_append, List.length_cons, List.length_nil] at this ⊢; omega
  · have := P.lr
    dsimp only at this ⊢; omega
theorem sp_done (P : SpP m x ⟨ca, cv, cs, ce, rv, rs, re, i, ti⟩) (h : ¬ i < x.length) : rs ++ [passS (Txt.join (Str.ofString "") cs)] = partsS m x := by
  have := P.eq
  dsimp only at this
  rw [List.drop_of_length_le (by rw [cl_len]; omega)] at this
  have inj : ∀ a b : List Str, a.map cl = b.map cl → a = b := by
    intro a
    induction a with
    | nil => intro b e; cases b with
      | nil => rfl
      | cons _ _ => cases e
    | cons p r ih => intro b e; cases b with
      | nil => cases e
      | cons q t =>
        rw [List.map_cons, List.map_cons] at e
        rw [cl_inj (List.cons.inj e).1, ih t (List.cons.inj e).2]
  apply inj
  have e2 : (partsS m x).map cl = (parts m [] (cl x)).map (pass f6) := by
    unfold partsS
    rw [List.map_map]; rfl
  rw [e2, ← this]
  simp only [List.map_append, List.map_cons, List.map_nil, cl_passS, cl_join0, parts]
end

section
variable {prog : Program} {w : World} {A : Around} {E : Value → Shared → Prop} {Q : Flow → Shared → Prop} {s : Shared} {env : Env} {h₀ : Heap} {L : Addr}
theorem sp_while {test : Expr} {body : List Stmt} {pos : Pos} {m₀ : Str → Option Value} {m : Nat} {x : Str} {news : List (Addr × Obj)} {ca ra : Addr} {e1 e2 : Nat} {ti : Tok} (hm : m ≠ 92)
    (F : Fr h₀ L s.heap m₀) (N : News h₀ L s.heap ((ca, W.listOf #[] e1) :: (ra, W.listOf #[] e2) :: news)) (hB : ra < ca ∧ AllLt ca news)
    (h1 : m₀ (Str.ofString "current") = some (.ref ca)) (h2 : m₀ (Str.ofString "i") = some (.int 0 ti))
    (turn : ∀ (c : SpS) (u : Str → Option Value) h tk, SpF ra news c → SpP m x c → Fr h₀ L h (kstB (fun z => if ([] : List Str).contains z then u z else m₀ z) (spPs c)) → News h₀ L h (spLed ra news c) →
      wpAny (model prog w) A (isTrue test env (eval test env)) (fun b s₂ =>
        if b = true then wpAny (model prog w) A (execs body env) (KswPost h₀ L s (spLed ra news) spPs (SpF ra news) [] m₀ (SpP m x) (spM x) Q c) E s₂ else Q .next s₂) E { s with heap := h, toks := tk })
    (hE : PassesOwn (model prog w) A env E := by passes_own) :
    wpAny (model prog w) A (exec (.While test body [] pos) env) Q E s :=
  ksw_while (spLed ra news) spPs (SpF ra news) [] (SpP m x) (spM x) ⟨ca, [], [], e1, [], [], e2, 0, ti⟩ F N
    ⟨.nil, .nil, Nat.ne_of_gt hB.1, fun p hp => Nat.ne_of_lt (kst_ltOf hB.2 p hp)⟩
    (List.forall_mem_cons.mpr ⟨h1, List.forall_mem_cons.mpr ⟨h2, List.forall_mem_nil _⟩⟩) (sp_start hm) turn hE
end

theorem partsS_nil {m : Nat} {x : Str} (h : (x.length : Int) = 0) : partsS m x = [Str.ofString ""] := by
  have e : cl x = [] := List.eq_nil_of_length_eq_zero (by rw [cl_len]; omega)
  unfold partsS
  rw [e]
  show [(⟨(pass f6 []).toArray⟩ : Str)] = _
  exact congrArg (fun y => [y]) (by decide +kernel)

theorem sub_skip {a b : Addr × Obj} {r : List (Addr × Obj)} : ∀ p ∈ a :: r, p ∈ a :: b :: r := fun p hp => by
  cases hp with
  | head => exact .head _
  | tail _ hp => exact .tail _ (.tail _ hp)
end Mine
end
section
local macro_rules | `(tactic| walk_at "zq0") => `(tactic| skip)
local macro_rules | `(tactic| walk_at "zq1") => `(tactic| skip)
local macro_rules | `(tactic| walk_at "zq2") => `(tactic| skip)
local macro_rules | `(tactic| walk_at "zq3") => `(tactic| skip)
local macro_rules | `(tactic| walk_at "zq4") => `(tactic| skip)
local macro_rules | `(tactic| walk_at "zq5") => `(tactic| skip)
local macro_rules | `(tactic| walk_at "zq6") => `(tactic| skip)
namespace Mine
theorem fresh_FYspl : True := by
  k_with_none
  w_top off
  trivial
end Mine
open PySem PySem.W PyProof.Rows
namespace Mine
open PySem.Spec PySem.Calls
local macro_rules | `(tactic| walk_at "exec While Compare cons nil") => `(tactic| k_extra "mine")
local macro_rules | `(tactic| walk_at "KswEnd") => `(tactic| k_extra "myend")
local macro_rules | `(tactic| walk_at "call builtin:list.append") => `(tactic| k_extra "app")
local macro_rules | `(tactic| walk_at "call builtin:str.join") => `(tactic| k_extra "join")
local macro_rules | `(tactic| walk_at "call ref") => `(tactic| ((with_reducible show wpAny _ _ (call (Value.ref 43) [Value.str _ _]) _ _ _); k_extra "une"))

theorem comma_call {w : World} {p : Program} {loose : List Str} {mean : ExcName → Option Value} {mg mb : Str → Option Value} {news : List (Addr × Obj)} (x : Str) (tk : Tok) (hx : x.length ≤ 900) :
    Claim w p loose mean mg mb 6 50 news [.str x tk] (RetList news (partsS 44 x)) := by
  unfold Claim
  k_fill
  intro dp un gd cn cs a ccd cl outer A₀ base h₀ L m s Q E B F X N T hk hdp hu hret
  k_with_none
  k_with "mine" => (
    (rename Fr _ _ _ _ => lF'); (rename News _ _ _ _ => lN')
    (rename (∀ p ∈ news, p.fst < _) => hA); (rename (_ < _ ∧ AllLt _ news) => hB)
    refine' sp_while (m := 44) (x := x) (by decide) lF' lN' hB (by with_unfolding_all rfl) (by with_unfolding_all rfl) ?_
    have hR := fun p (hp : p ∈ news) => Nat.ne_of_lt (hA p hp)
    intro c u h₁ tk₁ kFacts kInv kFr kNews
    obtain ⟨ca, cv, cs, ce, rv, rs, re, i, ti⟩ := c
    obtain ⟨kfc, kfr, kne, kal⟩ := kFacts
    have kle := kInv.le; have ksum := kInv.sum; have klc := kInv.lc; have klr := kInv.lr
    dsimp only at kfc kfr kne kal kle ksum klc klr
    dsimp only [spPs] at kFr
    dsimp only [spLed] at kNews
    have kcur : ∀ p ∈ (_, W.listOf rv.toArray re) :: news, p.1 ≠ ca := List.forall_mem_cons.mpr ⟨Ne.symm kne, kal⟩
    try k_fold)
  k_with "app" => (
    (with_reducible rename Fr _ _ _ _ => aF); (with_reducible rename News _ _ _ _ => aN)
    first
    | (refine' append_K aF aN (Upd.head (by first | exact kcur | (intro p hp; exact kcur p hp))) ?_ ?z; (case z => simp only [List.size_toArray, List.length_append, List.length_cons, List.length_nil, List.push_toArray]; rw [sizeLine_eq]; omega); intro h' F' N'; (simp only [List.push_toArray] at N'))
    | (refine' append_K aF aN (Upd.tail kne (Upd.head hR)) ?_ ?z; (case z => simp only [List.size_toArray, List.length_append, List.length_cons, List.length_nil, List.push_toArray]; rw [sizeLine_eq]; omega); intro h' F' N'; (simp only [List.push_toArray] at N')))
  k_with "join" => (
    (with_reducible rename News _ _ _ _ => aN)
    refine join_list (News.isList aN (.head _)) kfc (by have h0 : (Str.ofString "").length = 0 := by decide +kernel
                                                        rw [h0]; omega) ?_
    intro _ _)
  k_with "une" => (
    refine' une_call _ _ ?hx _ _ _ _ _ _ _ _ _ _ _ _ _ _ _ _ _ ?k1 ?k2 ?k3 ?k4 ?k5 ?kK ?kd ?ku ?_
    (case hx => rw [join0_len]; omega)
    (case k1 => k_asm)
    (case k2 => k_asm)
    (case k3 => k_asm)
    (case k4 => k_asm)
    (case k5 => k_asm)
    (case kK => first | exact rfl | assumption)
    (case kd => ktr_room)
    (case ku => ktr_units)
    intro t9 h9 tk9 F9 N9
    (try dsimp only)
    (try k_fold))
  refine wpAny_call ?_
  k_dflt cell_enter
  k_steps
  · (rename News _ _ _ _ => nE'); (refine ksw_end ⟨ca, cv ++ [_] ++ [_], cs ++ [Txt.item x (i : Int)] ++ [Txt.item x ((i : Int) + 1)], ce + 1 + 1, rv, rs, re, i + 2, _⟩ (by assumption) nE' (fun p hp => hp) ⟨StrsAre.append' (StrsAre.append' kfc (.cons _ _ .nil)) (.cons _ _ .nil), kfr, kne, kal⟩ (by with_unfolding_all kst_all) (fun z h2 h3 => by simp only [spPs, List.forall_mem_cons, List.not_mem_nil, false_implies, implies_true, and_true, ne_eq] at h2; simp [kstB, h2]) (sp_pair kInv (by assumption) (by omega)) (by show x.length - (i + 2) < x.length - i; omega))
  · (rename News _ _ _ _ => nE'); (rename (ca < _ ∧ _ < _ ∧ AllLt _ news) => l1'); (refine ksw_end ⟨_, [], [], 0, rv ++ [_], rs ++ [passS (Txt.join (Str.ofString "") cs)], re + 1, i + 1, _⟩ (by assumption) nE' sub_skip ⟨.nil, StrsAre.append' kfr (.cons _ _ .nil), Nat.ne_of_gt l1'.2.1, fun p hp => Nat.ne_of_lt (kst_ltOf l1'.2.2 p hp)⟩ (by with_unfolding_all kst_all) (fun z h2 h3 => by simp only [spPs, List.forall_mem_cons, List.not_mem_nil, false_implies, implies_true, and_true, ne_eq] at h2; simp [kstB, h2]) (sp_mark (by decide) (y := Str.ofString ",") (by decide +kernel) kInv (by omega) (by assumption)) (by show x.length - (i + 1) < x.length - i; omega))
  · (rename News _ _ _ _ => nE'); (refine ksw_end ⟨ca, cv ++ [_], cs ++ [Txt.item x (i : Int)], ce + 1, rv, rs, re, i + 1, _⟩ (by assumption) nE' (fun p hp => hp) ⟨StrsAre.append' kfc (.cons _ _ .nil), kfr, kne, kal⟩ (by with_unfolding_all kst_all) (fun z h2 h3 => by simp only [spPs, List.forall_mem_cons, List.not_mem_nil, false_implies, implies_true, and_true, ne_eq] at h2; simp [kstB, h2]) (sp_other (y := Str.ofString ",") (by decide) (by decide +kernel) kInv (by omega) (by first | exact .inl (by assumption) | exact .inr (by omega)) (by assumption)) (by show x.length - (i + 1) < x.length - i; omega))
  · (rename News _ _ _ _ => nE'); (rename (ca < _ ∧ _ < _ ∧ AllLt _ news) => l1'); (refine ksw_end ⟨_, [], [], 0, rv ++ [_], rs ++ [passS (Txt.join (Str.ofString "") cs)], re + 1, i + 1, _⟩ (by assumption) nE' sub_skip ⟨.nil, StrsAre.append' kfr (.cons _ _ .nil), Nat.ne_of_gt l1'.2.1, fun p hp => Nat.ne_of_lt (kst_ltOf l1'.2.2 p hp)⟩ (by with_unfolding_all kst_all) (fun z h2 h3 => by simp only [spPs, List.forall_mem_cons, List.not_mem_nil, false_implies, implies_true, and_true, ne_eq] at h2; simp [kstB, h2]) (sp_mark (by decide) (y := Str.ofString ",") (by decide +kernel) kInv (by omega) (by assumption)) (by show x.length - (i + 1) < x.length - i; omega))
  · (rename News _ _ _ _ => nE'); (refine ksw_end ⟨ca, cv ++ [_], cs ++ [Txt.item x (i : Int)], ce + 1, rv, rs, re, i + 1, _⟩ (by assumption) nE' (fun p hp => hp) ⟨StrsAre.append' kfc (.cons _ _ .nil), kfr, kne, kal⟩ (by with_unfolding_all kst_all) (fun z h2 h3 => by simp only [spPs, List.forall_mem_cons, List.not_mem_nil, false_implies, implies_true, and_true, ne_eq] at h2; simp [kstB, h2]) (sp_other (y := Str.ofString ",") (by decide) (by decide +kernel) kInv (by omega) (by first | exact .inl (by assumption) | exact .inr (by omega)) (by assumption)) (by show x.length - (i + 1) < x.length - i; omega))
  · (rename News _ _ _ _ => nE')
    exact hret _ _ _ _ _ (sp_done kInv (by omega) ▸ StrsAre.append' kfr (.cons _ _ .nil)) (by assumption) (fun p hp => nE' p (.tail _ hp))
  · (rename News _ _ _ _ => nE')
    exact hret _ [_] _ _ _ (partsS_nil (by assumption) ▸ StrsAre.cons _ _ .nil) (by assumption) nE'

theorem semi_call {w : World} {p : Program} {loose : List Str} {mean : ExcName → Option Value} {mg mb : Str → Option Value} {news : List (Addr × Obj)} (x : Str) (tk : Tok) (hx : x.length ≤ 900) :
    Claim w p loose mean mg mb 6 57 news [.str x tk] (RetList news (partsS 59 x)) := by
  unfold Claim
  k_fill
  intro dp un gd cn cs a ccd cl outer A₀ base h₀ L m s Q E B F X N T hk hdp hu hret
  k_with_none
  k_with "mine" => (
    (rename Fr _ _ _ _ => lF'); (rename News _ _ _ _ => lN')
    (rename (∀ p ∈ news, p.fst < _) => hA); (rename (_ < _ ∧ AllLt _ news) => hB)
    refine' sp_while (m := 59) (x := x) (by decide) lF' lN' hB (by with_unfolding_all rfl) (by with_unfolding_all rfl) ?_
    have hR := fun p (hp : p ∈ news) => Nat.ne_of_lt (hA p hp)
    intro c u h₁ tk₁ kFacts kInv kFr kNews
    obtain ⟨ca, cv, cs, ce, rv, rs, re, i, ti⟩ := c
    obtain ⟨kfc, kfr, kne, kal⟩ := kFacts
    have kle := kInv.le; have ksum := kInv.sum; have klc := kInv.lc; have klr := kInv.lr
    dsimp only at kfc kfr kne kal kle ksum klc klr
    dsimp only [spPs] at kFr
    dsimp only [spLed] at kNews
    have kcur : ∀ p ∈ (_, W.listOf rv.toArray re) :: news, p.1 ≠ ca := List.forall_mem_cons.mpr ⟨Ne.symm kne, kal⟩
    try k_fold)
  k_with "app" => (
    (with_reducible rename Fr _ _ _ _ => aF); (with_reducible rename News _ _ _ _ => aN)
    first
    | (refine' append_K aF aN (Upd.head (by first | exact kcur | (intro p hp; exact kcur p hp))) ?_ ?z; (case z => simp only [List.size_toArray, List.length_append, List.length_cons, List.length_nil, List.push_toArray]; rw [sizeLine_eq]; omega); intro h' F' N'; (simp only [List.push_toArray] at N'))
    | (refine' append_K aF aN (Upd.tail kne (Upd.head hR)) ?_ ?z; (case z => simp only [List.size_toArray, List.length_append, List.length_cons, List.length_nil, List.push_toArray]; rw [sizeLine_eq]; omega); intro h' F' N'; (simp only [List.push_toArray] at N')))
  k_with "join" => (
    (with_reducible rename News _ _ _ _ => aN)
    refine join_list (News.isList aN (.head _)) kfc (by have h0 : (Str.ofString "").length = 0 := by decide +kernel
                                                        rw [h0]; omega) ?_
    intro _ _)
  k_with "une" => (
    refine' une_call _ _ ?hx _ _ _ _ _ _ _ _ _ _ _ _ _ _ _ _ _ ?k1 ?k2 ?k3 ?k4 ?k5 ?kK ?kd ?ku ?_
    (case hx => rw [join0_len]; omega)
    (case k1 => k_asm)
    (case k2 => k_asm)
    (case k3 => k_asm)
    (case k4 => k_asm)
    (case k5 => k_asm)
    (case kK => first | exact rfl | assumption)
    (case kd => ktr_room)
    (case ku => ktr_units)
    intro t9 h9 tk9 F9 N9
    (try dsimp only)
    (try k_fold))
  refine wpAny_call ?_
  k_dflt cell_enter
  k_steps
  · (rename News _ _ _ _ => nE'); (refine ksw_end ⟨ca, cv ++ [_] ++ [_], cs ++ [Txt.item x (i : Int)] ++ [Txt.item x ((i : Int) + 1)], ce + 1 + 1, rv, rs, re, i + 2, _⟩ (by assumption) nE' (fun p hp => hp) ⟨StrsAre.append' (StrsAre.append' kfc (.cons _ _ .nil)) (.cons _ _ .nil), kfr, kne, kal⟩ (by with_unfolding_all kst_all) (fun z h2 h3 => by simp only [spPs, List.forall_mem_cons, List.not_mem_nil, false_implies, implies_true, and_true, ne_eq] at h2; simp [kstB, h2]) (sp_pair kInv (by assumption) (by omega)) (by show x.length - (i + 2) < x.length - i; omega))
  · (rename News _ _ _ _ => nE'); (rename (ca < _ ∧ _ < _ ∧ AllLt _ news) => l1'); (refine ksw_end ⟨_, [], [], 0, rv ++ [_], rs ++ [passS (Txt.join (Str.ofString "") cs)], re + 1, i + 1, _⟩ (by assumption) nE' sub_skip ⟨.nil, StrsAre.append' kfr (.cons _ _ .nil), Nat.ne_of_gt l1'.2.1, fun p hp => Nat.ne_of_lt (kst_ltOf l1'.2.2 p hp)⟩ (by with_unfolding_all kst_all) (fun z h2 h3 => by simp only [spPs, List.forall_mem_cons, List.not_mem_nil, false_implies, implies_true, and_true, ne_eq] at h2; simp [kstB, h2]) (sp_mark (by decide) (y := Str.ofString ";") (by decide +kernel) kInv (by omega) (by assumption)) (by show x.length - (i + 1) < x.length - i; omega))
  · (rename News _ _ _ _ => nE'); (refine ksw_end ⟨ca, cv ++ [_], cs ++ [Txt.item x (i : Int)], ce + 1, rv, rs, re, i + 1, _⟩ (by assumption) nE' (fun p hp => hp) ⟨StrsAre.append' kfc (.cons _ _ .nil), kfr, kne, kal⟩ (by with_unfolding_all kst_all) (fun z h2 h3 => by simp only [spPs, List.forall_mem_cons, List.not_mem_nil, false_implies, implies_true, and_true, ne_eq] at h2; simp [kstB, h2]) (sp_other (y := Str.ofString ";") (by decide) (by decide +kernel) kInv (by omega) (by first | exact .inl (by assumption) | exact .inr (by omega)) (by assumption)) (by show x.length - (i + 1) < x.length - i; omega))
  · (rename News _ _ _ _ => nE'); (rename (ca < _ ∧ _ < _ ∧ AllLt _ news) => l1'); (refine ksw_end ⟨_, [], [], 0, rv ++ [_], rs ++ [passS (Txt.join (Str.ofString "") cs)], re + 1, i + 1, _⟩ (by assumption) nE' sub_skip ⟨.nil, StrsAre.append' kfr (.cons _ _ .nil), Nat.ne_of_gt l1'.2.1, fun p hp => Nat.ne_of_lt (kst_ltOf l1'.2.2 p hp)⟩ (by with_unfolding_all kst_all) (fun z h2 h3 => by simp only [spPs, List.forall_mem_cons, List.not_mem_nil, false_implies, implies_true, and_true, ne_eq] at h2; simp [kstB, h2]) (sp_mark (by decide) (y := Str.ofString ";") (by decide +kernel) kInv (by omega) (by assumption)) (by show x.length - (i + 1) < x.length - i; omega))
  · (rename News _ _ _ _ => nE'); (refine ksw_end ⟨ca, cv ++ [_], cs ++ [Txt.item x (i : Int)], ce + 1, rv, rs, re, i + 1, _⟩ (by assumption) nE' (fun p hp => hp) ⟨StrsAre.append' kfc (.cons _ _ .nil), kfr, kne, kal⟩ (by with_unfolding_all kst_all) (fun z h2 h3 => by simp only [spPs, List.forall_mem_cons, List.not_mem_nil, false_implies, implies_true, and_true, ne_eq] at h2; simp [kstB, h2]) (sp_other (y := Str.ofString ";") (by decide) (by decide +kernel) kInv (by omega) (by first | exact .inl (by assumption) | exact .inr (by omega)) (by assumption)) (by show x.length - (i + 1) < x.length - i; omega))
  · (rename News _ _ _ _ => nE')
    exact hret _ _ _ _ _ (sp_done kInv (by omega) ▸ StrsAre.append' kfr (.cons _ _ .nil)) (by assumption) (fun p hp => nE' p (.tail _ hp))
  · (rename News _ _ _ _ => nE')
    exact hret _ [_] _ _ _ (partsS_nil (by assumption) ▸ StrsAre.cons _ _ .nil) (by assumption) nE'
end Mine
end
section
namespace Mine
theorem fresh_FYpar0 : True := by
  k_with_none
  w_top off
  trivial
end Mine
open PySem PySem.W PyProof.Rows
namespace Mine
open PySem.Spec PySem.Calls
structure LpS where
  rv : List Value
  rs : List Str
  cur : Str
  ct : Tok
  e : Nat
  k : Nat
  tk : Tok
abbrev lpLed (pa : Addr) (news : List (Addr × Obj)) (c : LpS) : List (Addr × Obj) := (pa, W.listOf (c.rv ++ [Value.str c.cur c.ct]).toArray c.e) :: news
abbrev lpPs (c : LpS) : List (Str × Value) := [(Str.ofString "k", .int c.k c.tk)]
structure LpP (m : Nat) (x : Str) (c : LpS) : Prop where
  eq : c.rs.map cl ++ parts m (cl c.cur) ((cl x).drop c.k) = parts m [] (cl x)
  le : c.k ≤ x.length
  lc : c.cur.length ≤ c.k
  lr : c.rv.length ≤ c.k
def LpF (c : LpS) : Prop := StrsAre c.rv c.rs
def lpM (x : Str) (c : LpS) : Nat := x.length - c.k
section
variable {prog : Program} {w : World} {A : Around} {E : Value → Shared → Prop} {Q : Flow → Shared → Prop} {s : Shared} {env : Env} {h₀ : Heap} {L : Addr}
theorem lp_while {test : Expr} {body : List Stmt} {pos : Pos} {m₀ : Str → Option Value} {m : Nat} {x : Str} {news : List (Addr × Obj)} {pa : Addr} {e1 : Nat} {t1 ti : Tok}
    (F : Fr h₀ L s.heap m₀) (N : News h₀ L s.heap ((pa, W.listOf #[Value.str (Str.ofString "") t1] e1) :: news))
    (h2 : m₀ (Str.ofString "k") = some (.int 0 ti))
    (turn : ∀ (c : LpS) (u : Str → Option Value) h tk, LpF c → LpP m x c → Fr h₀ L h (kstB (fun z => if ([] : List Str).contains z then u z else m₀ z) (lpPs c)) → News h₀ L h (lpLed pa news c) →
      wpAny (model prog w) A (isTrue test env (eval test env)) (fun b s₂ =>
        if b = true then wpAny (model prog w) A (execs body env) (KswPost h₀ L s (lpLed pa news) lpPs LpF [] m₀ (LpP m x) (lpM x) Q c) E s₂ else Q .next s₂) E { s with heap := h, toks := tk })
    (hE : PassesOwn (model prog w) A env E := by passes_own) :
    wpAny (model prog w) A (exec (.While test body [] pos) env) Q E s :=
  ksw_while (lpLed pa news) lpPs LpF [] (LpP m x) (lpM x) ⟨[], [], Str.ofString "", t1, e1, 0, ti⟩ F N .nil
    (List.forall_mem_cons.mpr ⟨h2, List.forall_mem_nil _⟩)
    ⟨by have e : cl (Str.ofString "") = [] := by decide +kernel
        show [] ++ parts m (cl (Str.ofString "")) _ = _
        rw [e]; rfl, Nat.zero_le _, (by decide +kernel : (Str.ofString "").length ≤ 0), Nat.le_refl _⟩ turn hE
end
section
variable {m : Nat} {x : Str} {rv : List Value} {rs : List Str} {cur : Str} {ct tk : Tok} {e k : Nat}
theorem slice_two {x : Str} {k : Nat} (h : k + 1 < x.length) : cl (Txt.slice x (some (k : Int)) (some ((k : Int) + 2))) = [(cl x)[k]'(by rw [cl_len]; omega), (cl x)[k + 1]'(by rw [cl_len]; exact h)] := by
  have := cl_slice x k (k + 2) (by omega) (by omega)
  have e : k + 2 - k = 2 := by omega
  rw [e, drop_at x k (by omega), drop_at x (k + 1) h] at this
  exact this
theorem lp_pair {ct' tk' : Tok} {e' : Nat} (P : LpP m x ⟨rv, rs, cur, ct, e, k, tk⟩) (he : (Txt.item x (k : Int) == Str.ofString "\\") = true) (h : k + 1 < x.length) :
    LpP m x ⟨rv, rs, cur ++ Txt.slice x (some (k : Int)) (some ((k : Int) + 2)), ct', e', k + 2, tk'⟩ := by
  have e1 := item_eq (by omega) cl_bs he
  have e2 := drop_at x (k + 1) h
  have e3 := slice_two h
  have e0 := drop_at x k (by omega)
  rw [e1] at e0
  have e4 := (List.cons.inj e0).1
  refine ⟨?_, by show k + 2 ≤ x.length; omega, ?_, ?_⟩
  · show rs.map cl ++ parts m (cl (cur ++ Txt.slice x (some (k : Int)) (some ((k : Int) + 2)))) ((cl x).drop (k + 2)) = _
    have := P.eq
    dsimp only at this
    rw [← this, e1, e2, parts_pair, cl_app, e3, ← e4]
  · have := P.lc
    dsimp only at this
    show (cur ++ Txt.slice x (some (k : Int)) (some ((k : Int) + 2))).length ≤ k + 2
    rw [Str.length_append, ← cl_len (Txt.slice _ _ _), e3]
    simp only [List.length_cons, List.length_nil]
    omega
  · have := P.lr
    dsimp only at this ⊢; omega
theorem lp_mark {ct' tk' : Tok} {e' : Nat} {y : Str} (hm : m ≠ 92) (hy : cl y = [m]) (P : LpP m x ⟨rv, rs, cur, ct, e, k, tk⟩) (h : k < x.length) (he : (Txt.item x (k : Int) == y) = true) :
    LpP m x ⟨rv ++ [.str cur ct], rs ++ [cur], Str.ofString "", ct', e', k + 1, tk'⟩ := by
  have e1 := item_eq h hy he
  have e0 : cl (Str.ofString "") = [] := by decide +kernel
  refine ⟨?_, by show k + 1 ≤ x.length; omega, Nat.zero_le _, ?_⟩
  · show (rs ++ [cur]).map cl ++ parts m (cl (Str.ofString "")) ((cl x).drop (k + 1)) = _
    have := P.eq
    dsimp only at this
    rw [← this, e1, parts_mark hm, e0]
    simp
  · have := P.lr
    simp only [List.length_append, List.length_cons, List.length_nil] at this ⊢; omega
theorem lp_other {ct' tk' : Tok} {e' : Nat} {y : Str} (hm : m ≠ 92) (hy : cl y = [m]) (P : LpP m x ⟨rv, rs, cur, ct, e, k, tk⟩) (h : k < x.length)
    (he0 : (Txt.item x (k : Int) == Str.ofString "\\") = false ∨ ¬ k + 1 < x.length) (he : (Txt.item x (k : Int) == y) = false) :
    LpP m x ⟨rv, rs, cur ++ Txt.item x (k : Int), ct', e', k + 1, tk'⟩ := by
  obtain ⟨d, hd, he, hi⟩ := item_ne h hy he
  refine ⟨?_, by show k + 1 ≤ x.length; omega, ?_, ?_⟩
  · show rs.map cl ++ parts m (cl (cur ++ Txt.item x (k : Int))) ((cl x).drop (k + 1)) = _
    have := P.eq
    dsimp only at this
    rw [← this, he, cl_app, hi]
    by_cases h92 : d = 92
    · rcases he0 with e0 | e0
      · obtain ⟨d', hd', he', hi'⟩ := item_ne h cl_bs e0
        rw [hi] at hi'
        exact absurd h92 (by rw [(List.cons.inj hi').1]; exact hd')
      · have e5 : (cl x).drop (k + 1) = [] := List.drop_of_length_le (by rw [cl_len]; omega)
        rw [e5, h92, parts_last hm]
    · rw [parts_other h92 hd]
  · have := P.lc
    dsimp only at this
    show (cur ++ Txt.item x (k : Int)).length ≤ k + 1
    rw [Str.length_append, show (Txt.item x (k : Int)).length = 1 from rfl]; omega
  · have := P.lr
    dsimp only at this ⊢; omega
theorem lp_done (P : LpP m x ⟨rv, rs, cur, ct, e, k, tk⟩) (h : ¬ k < x.length) : (rs ++ [cur]).map passS = partsS m x := by
  have := P.eq
  dsimp only at this
  rw [List.drop_of_length_le (by rw [cl_len]; omega)] at this
  unfold partsS
  rw [← this]
  simp [parts, passS, cl]
end
end Mine
end
section
namespace Mine
theorem fresh_FYlast : True := by
  k_with_none
  w_top off
  trivial
end Mine
open PySem PySem.W PyProof.Rows
namespace Mine
open PySem.Spec PySem.Calls
section
variable {prog : Program} {w : World} {A : Around} {E : Value → Shared → Prop} {s : Shared} {h₀ : Heap} {L D : Addr} {m : Str → Option Value} {news news' : List (Addr × Obj)} {n : Nat}
theorem setLastK {r : List Value} {a : Value} {t : Tok} {v : Value} {Q : Unit → Shared → Prop} (F : Fr h₀ L s.heap m) (N : News h₀ L s.heap ((D, listOf (r ++ [a]).toArray n) :: news)) (hD : ∀ p ∈ news, p.1 ≠ D)
    (h : ∀ h', Fr h₀ L h' m → News h₀ L h' ((D, listOf (r ++ [v]).toArray n) :: news) → Q () { s with heap := h' }) : wpAny (model prog w) A (setItem (.ref D) (.int (-1) t) v) Q E s := by
  have z := N (D, listOf (r ++ [a]).toArray n) (.head _)
  have e : ((-1 : Int) + ((r ++ [a]).toArray.size : Int)).toNat = r.length := by simp; omega
  refine ki_setBack z.1 (by decide) (by simp; omega) (by decide) (h _ (F.change (Heap.SameBut.update ..) z.2.1 z.2.2) (ki_turn (pre := []) _ N (fun _ h => nomatch h) hD ?_ ?_))
  · rw [e]
    apply Array.toList_inj.mp
    simp
  · simp
theorem getLastK {value slice : PySem.Expr} {r : List Value} {a : Value} {t : Tok} {Q : Value → Shared → Prop} (N : News h₀ L s.heap ((D, listOf (r ++ [a]).toArray n) :: news)) (h : Q a s)
    (hs : subscripted slice false (.ref D) (.int (-1) t) = operate [.ref D, .int (-1) t] (getItem (.ref D) (.int (-1) t)) := by with_unfolding_all rfl) :
    wpAny (model prog w) A (subscriptTail value slice (.ref D) (.int (-1) t)) Q E s := by
  have hl : s.heap.IsList D (r ++ [a]).toArray := PySem.IsL.isList (n := n) (N _ (.head _)).1
  refine tail_any hl.typeIs slot_list_getitem.lookup (wpAny_getItem_list_neg hl (by decide) (by simp; omega) (by decide) ?_ h) hs
  have e : ((-1 : Int) + ((r ++ [a]).toArray.size : Int)).toNat = r.length := by simp; omega
  rw [e]
  simp
end
end Mine
end
section
namespace Mine
theorem fresh_FYcomp : True := by
  k_with_none
  w_top off
  trivial
end Mine
open PySem PySem.W PyProof.Rows
namespace Mine
open PySem.Spec PySem.Calls
section
variable {prog : Program} {w : World} {A : Around} {h₀ : Heap} {L : Addr} {m : Str → Option Value} {env : Env} {elt : Expr} {x : Str} {scope : Scope} {cl : List (Str × Addr)} {s : Shared} {S : List (Addr × Obj) → Prop} {Fin : List Value → List (Addr × Obj) → Prop} {news : List (Addr × Obj)}
def StrEl (news : List (Addr × Obj)) (r : Str) (y : Value) (news' : List (Addr × Obj)) : Prop := news' = news ∧ ∃ t : Tok, y = .str r t
theorem StrsAre.at' : ∀ {vs : List Value} {ys : List Str}, StrsAre vs ys → ∀ (i : Nat) (v : Value), vs[i]? = some v → ∃ y t, ys[i]? = some y ∧ v = .str y t
  | _, _, .cons y t _, 0, v, e => ⟨y, t, rfl, (Option.some.inj e).symm⟩
  | _, _, .cons _ _ h, i + 1, v, e => StrsAre.at' h i v e
theorem strs_rest {vs : List Value} {zs : List Str} (g : Str → Str) (hi : StrsAre vs zs)
    (turn : ∀ z t I oI C oC D m₂ acc h tk (E' : Value → Shared → Prop), z ∈ zs → LCg.NsObj oC m₂ → m₂ x = some (.str z t) → Fr h₀ L h m → News h₀ L h ((I, oI) :: (C, oC) :: (D, LCg.lst acc) :: news) → LCg.Off3 I C D news → ((@Ne Nat I C) ∧ (@Ne Nat I D) ∧ (@Ne Nat C D)) →
      wpAny (model prog w) A (eval elt (compEnvC scope cl C env)) (LCg.CompEnd h₀ L m { s with heap := h, toks := tk } I oI C oC D (LCg.lst acc) S (fun y news' => StrEl news (g z) y news')) E' { s with heap := h, toks := tk })
    (fin : ∀ acc, StrsAre acc (zs.map g) → Fin acc news) : LCg.CompRest prog w A h₀ L m env elt x scope cl s S (fun i v => vs.toArray[i]? = some v) Fin vs.toArray.size 0 [] news := by
  have hlen : vs.toArray.size = zs.length := by rw [List.size_toArray]; exact StrsAre.len_eq hi
  have key : ∀ (j i : Nat) (acc : List Value), i + j = zs.length → StrsAre acc ((zs.take i).map g) → LCg.CompRest prog w A h₀ L m env elt x scope cl s S (fun i v => vs.toArray[i]? = some v) Fin j i acc news := by
    intro j
    induction j with
    | zero =>
      intro i acc hij hy
      have e : i = zs.length := by omega
      subst e
      rw [List.take_length] at hy
      exact LCg.CompRest.zero (fin acc hy)
    | succ j ih =>
      intro i acc hij hy
      refine LCg.CompRest.succ ?_
      intro v I oI C oC D m₂ h tk E' hv hC hx F N off ne
      obtain ⟨z, t, hz, hv'⟩ := StrsAre.at' hi i v (by simpa using hv)
      rw [hv'] at hx
      refine wpAny_mono (turn z t I oI C oC D m₂ acc h tk E' (List.mem_of_getElem? hz) hC hx F N off ne) (fun y s₂ hq => ?_) fun _ _ e => e
      obtain ⟨h', tk', nw, e, F', N', off', hS, hn, t', hy'⟩ := hq
      rw [hn] at N' off' hS
      refine ⟨h', tk', news, e, F', N', off', hS, ?_⟩
      rw [hy']
      refine ih (i + 1) _ (by omega) ?_
      rw [List.take_add_one, hz]
      simpa using StrsAre.append' hy (.cons (g z) t' .nil)
  rw [hlen]
  exact key zs.length 0 [] (by omega) (by simp only [List.take_zero, List.map_nil]; exact .nil)
end
theorem parts_len (m : Nat) : ∀ (l cur p : List Nat), p ∈ parts m cur l → p.length ≤ cur.length + l.length
  | [], cur, p, h => by rw [parts] at h; rw [List.mem_singleton.mp h]; exact Nat.le_refl _
  | [x], cur, p, h => by
    rw [parts] at h
    split at h
    · rcases List.mem_cons.mp h with e | h
      · rw [e]; omega
      · rw [List.mem_singleton.mp h]; simp
    · rw [List.mem_singleton.mp h]; simp
  | x :: y :: r, cur, p, h => by
    rw [parts] at h
    split at h
    · have := parts_len m r _ p h
      simp only [List.length_append, List.length_cons, List.length_nil] at this ⊢; omega
    · split at h
      · rcases List.mem_cons.mp h with e | h
        · rw [e]; omega
        · have := parts_len m (y :: r) _ p h
          simp only [List.length_cons, List.length_nil] at this ⊢; omega
      · have := parts_len m (y :: r) _ p h
        simp only [List.length_append, List.length_cons, List.length_nil] at this ⊢; omega
theorem lp_small {m : Nat} {x : Str} {rv : List Value} {rs : List Str} {cur : Str} {ct tk : Tok} {e k : Nat} (P : LpP m x ⟨rv, rs, cur, ct, e, k, tk⟩) (h : ¬ k < x.length) : ∀ z ∈ rs ++ [cur], z.length ≤ x.length := by
  intro z hz
  have := P.eq
  dsimp only at this
  rw [List.drop_of_length_le (by rw [cl_len]; omega)] at this
  have hm : cl z ∈ parts m [] (cl x) := by
    rw [← this, parts]
    have := List.mem_map_of_mem (f := cl) hz
    simpa using this
  have := parts_len m (cl x) [] _ hm
  rw [cl_len, cl_len] at this
  simpa using this
end Mine
end
section
namespace Mine
theorem fresh_FYpar : True := by
  k_with_none
  w_top off
  trivial
end Mine
open PySem PySem.W PyProof.Rows
namespace Mine
open PySem.Spec PySem.Calls
local macro_rules | `(tactic| walk_at "exec While Compare cons nil") => `(tactic| k_extra "mine")
local macro_rules | `(tactic| walk_at "KswEnd") => `(tactic| k_extra "myend")
local macro_rules | `(tactic| walk_at "CompEnd") => `(tactic| k_extra "cend")
local macro_rules | `(tactic| walk_at "CompSrc") => `(tactic| k_extra "src")
local macro_rules | `(tactic| walk_at "subscriptTail Name UnaryOp ref int") => `(tactic| k_extra "last")
local macro_rules | `(tactic| walk_at "setItem ref int") => `(tactic| k_extra "setlast")
local macro_rules | `(tactic| walk_at "call ref") => `(tactic| ((with_reducible show wpAny _ _ (call (Value.ref 422) [Value.str _ _]) _ _ _); k_extra "pass"))
theorem par_call {w : World} {p : Program} {loose : List Str} {mean : ExcName → Option Value} {mg mb : Str → Option Value} {news : List (Addr × Obj)} (x y : Str) (tk tk2 : Tok) (m : Nat) (hm : m ≠ 92) (hy : Mine.cl y = [m]) (hx : x.length ≤ 900) :
    Claim w p loose mean mg mb 6 427 news [.str x tk, .str y tk2] (RetList news (partsS m x)) := by
  unfold Claim
  k_fill
  intro dp un gd cn cs a ccd cl outer A₀ base h₀ L m' s Q E B F X N T hk hdp hu hret
  k_with_none
  k_with "mine" => (
    (rename Fr _ _ _ _ => lF'); (rename News _ _ _ _ => lN')
    (rename (∀ p ∈ news, p.fst < _) => hA)
    refine' lp_while (m := m) (x := x) lF' lN' (by with_unfolding_all rfl) ?_
    have hR := fun p (hp : p ∈ news) => Nat.ne_of_lt (hA p hp)
    intro c u h₁ tk₁ kFacts kInv kFr kNews
    obtain ⟨rv, rs, cur, ct, e, k, ti⟩ := c
    have kle := kInv.le; have klc := kInv.lc; have klr := kInv.lr
    dsimp only [LpF] at kFacts kle klc klr
    dsimp only [lpPs] at kFr
    dsimp only [lpLed] at kNews
    try k_fold)
  k_with "last" => (
    (with_reducible rename News _ _ _ _ => aN)
    refine getLastK aN ?_)
  k_with "setlast" => (
    (with_reducible rename Fr _ _ _ _ => aF); (with_reducible rename News _ _ _ _ => aN)
    refine setLastK aF aN hR ?_
    intro h' F' N')
  k_with "src" => (
    (with_reducible rename News _ _ _ _ => aN)
    refine LCg.CompSrc.ledger (by rfl) (by k_asm) aN (.head _) (by simp only [List.size_toArray, List.length_append, List.length_cons, List.length_nil]; rw [sizeLine_eq]; omega) ?_
    intro g'
    have hsm := lp_small kInv (by omega)
    refine strs_rest passS (StrsAre.append' kFacts (.cons _ _ .nil)) (fun z9 t9 I oI C oC D m₂ acc h tk E' hz hC hx9 F9 N9 off9 ne9 => ?_) (fun acc hacc D h tk F9 N9 o1 => ?_)
    all_goals (try dsimp only)
    all_goals (try k_fold))
  k_with "pass" => (
    refine' pass_call _ _ ?hx _ _ _ _ _ _ _ _ _ _ _ _ _ _ _ _ _ ?k1 ?k2 ?k3 ?k4 ?k5 ?kK ?kd ?ku ?_
    (case hx => exact Nat.le_trans (hsm _ hz) (by omega))
    (case k1 => k_asm)
    (case k2 => k_asm)
    (case k3 => k_asm)
    (case k4 => k_asm)
    (case k5 => k_asm)
    (case kK => first | exact rfl | assumption)
    (case kd => ktr_room)
    (case ku => ktr_units)
    intro t9 h9 tk9 F9 N9
    (try dsimp only)
    (try k_fold))
  refine wpAny_call ?_
  k_dflt cell_enter
  k_steps
  · (rename News _ _ _ _ => nE'); (refine ksw_end ⟨rv, rs, cur ++ Txt.slice x (some (k : Int)) (some ((k : Int) + 2)), _, e, k + 2, _⟩ (by assumption) nE' (fun p hp => hp) kFacts (by with_unfolding_all kst_all) (fun z h2 h3 => by simp only [lpPs, List.forall_mem_cons, List.not_mem_nil, false_implies, implies_true, and_true, ne_eq] at h2; simp [kstB, h2]) (lp_pair kInv (by assumption) (by omega)) (by show x.length - (k + 2) < x.length - k; omega))
  · (rename News _ _ _ _ => nE'); (simp only [List.push_toArray] at nE'); (refine ksw_end ⟨rv ++ [.str cur ct], rs ++ [cur], Str.ofString "", _, e + 1, k + 1, _⟩ (by assumption) nE' (fun p hp => hp) (StrsAre.append' kFacts (.cons _ _ .nil)) (by with_unfolding_all kst_all) (fun z h2 h3 => by simp only [lpPs, List.forall_mem_cons, List.not_mem_nil, false_implies, implies_true, and_true, ne_eq] at h2; simp [kstB, h2]) (lp_mark hm hy kInv (by omega) (by assumption)) (by show x.length - (k + 1) < x.length - k; omega))
  · (rename News _ _ _ _ => nE'); (refine ksw_end ⟨rv, rs, cur ++ Txt.item x (k : Int), _, e, k + 1, _⟩ (by assumption) nE' (fun p hp => hp) kFacts (by with_unfolding_all kst_all) (fun z h2 h3 => by simp only [lpPs, List.forall_mem_cons, List.not_mem_nil, false_implies, implies_true, and_true, ne_eq] at h2; simp [kstB, h2]) (lp_other hm hy kInv (by omega) (by first | exact .inl (by assumption) | exact .inr (by omega)) (by assumption)) (by show x.length - (k + 1) < x.length - k; omega))
  · (rename News _ _ _ _ => nE'); (simp only [List.push_toArray] at nE'); (refine ksw_end ⟨rv ++ [.str cur ct], rs ++ [cur], Str.ofString "", _, e + 1, k + 1, _⟩ (by assumption) nE' (fun p hp => hp) (StrsAre.append' kFacts (.cons _ _ .nil)) (by with_unfolding_all kst_all) (fun z h2 h3 => by simp only [lpPs, List.forall_mem_cons, List.not_mem_nil, false_implies, implies_true, and_true, ne_eq] at h2; simp [kstB, h2]) (lp_mark hm hy kInv (by omega) (by assumption)) (by show x.length - (k + 1) < x.length - k; omega))
  · (rename News _ _ _ _ => nE'); (refine ksw_end ⟨rv, rs, cur ++ Txt.item x (k : Int), _, e, k + 1, _⟩ (by assumption) nE' (fun p hp => hp) kFacts (by with_unfolding_all kst_all) (fun z h2 h3 => by simp only [lpPs, List.forall_mem_cons, List.not_mem_nil, false_implies, implies_true, and_true, ne_eq] at h2; simp [kstB, h2]) (lp_other hm hy kInv (by omega) (by first | exact .inl (by assumption) | exact .inr (by omega)) (by assumption)) (by show x.length - (k + 1) < x.length - k; omega))
  · (rename News _ _ _ _ => nE')
    exact LCg.CompEnd.intro (by assumption) nE' _ (fun p hp => hp) off9 (.inr ⟨_, .head _, rfl, _, rfl⟩) ⟨rfl, _, rfl⟩
  · exact hret _ _ _ _ _ (lp_done kInv (by omega) ▸ hacc) (by assumption) (fun p hp => by
      rename News _ _ _ _ => nE'
      exact nE' p (sub_skip p hp))
end Mine
end
section
namespace Mine
theorem fresh_FYwri0 : True := by
  k_with_none
  w_top off
  trivial
end Mine
open PySem PySem.W PyProof.Rows
namespace Mine
open PySem.Spec PySem.Calls
def writS (x : Str) : Str := ⟨(wr false (rep2 92 78 [10] (cl x))).toArray⟩
def prevCR (l : List Nat) : Nat → Bool
  | 0 => false
  | j + 1 => l[j]? == some 13
abbrev WrS := Str × Tok
abbrev wrPs (c : WrS) : List (Str × Value) := [(Str.ofString "found", .str c.1 c.2)]
structure WrP (r : Str) (pre : List Int) (c : WrS) : Prop where
  eq : cl c.1 ++ wr (prevCR (cl r) pre.length) ((cl r).drop pre.length) = wr false (cl r)
  le : c.1.length ≤ 2 * pre.length
theorem wr_start (r : Str) (t : Tok) : WrP r [] (Str.ofString "", t) := by
  have e : cl (Str.ofString "") = [] := by decide +kernel
  refine ⟨?_, (by decide +kernel : (Str.ofString "").length ≤ 0)⟩
  show cl (Str.ofString "") ++ wr false ((cl r).drop 0) = _
  rw [e]; rfl
theorem slice_m1 (r : Str) (h : 0 < r.length) : cl (Txt.slice r (some (-1)) (some 0)) = [] := by
  have e : PySem.Builtin.Str.strSliceIndices (some (-1)) (some 0) 1 r.length = [] := by
    have a1 : ((-1 : Int) < 0) := by omega
    have a2 : ¬ ((0 : Int) < 0) := by omega
    have e1 : max (0 : Int) (min ((-1 : Int) + (r.length : Int)) (r.length : Int)) = (r.length : Int) - 1 := by omega
    have e2 : max (0 : Int) (min (0 : Int) (r.length : Int)) = 0 := by omega
    unfold PySem.Builtin.Str.strSliceIndices
    simp only [a1, a2, if_true, if_false, gt_iff_lt, Int.zero_lt_one, e1, e2]
    unfold PySem.sliceRange
    first | (simp; omega) | simp_all | (split <;> simp <;> omega)
  show cl (StrLaws.sliceText r (some (-1)) (some 0)) = []
  unfold StrLaws.sliceText
  rw [e]
  rw [if_neg (by simp; omega)]
  rfl

theorem prev_eq (r : Str) (k : Nat) (h : k < r.length) : (Txt.slice r (some ((k : Int) - 1)) (some (k : Int)) == Str.ofString "\r") = prevCR (cl r) k := by
  have e13 : cl (Str.ofString "\r") = [13] := by decide +kernel
  rw [str_eq_cl, e13]
  cases k with
  | zero =>
    have e : cl (Txt.slice r (some (((0 : Nat) : Int) - 1)) (some ((0 : Nat) : Int))) = [] := slice_m1 r h
    rw [e]; rfl
  | succ j =>
    have e1 : ((j + 1 : Nat) : Int) - 1 = (j : Int) := by omega
    have h' : j < (cl r).length := by rw [cl_len]; omega
    rw [e1, cl_slice r j (j + 1) (by omega) (by omega), drop_at r j (by omega)]
    have e2 : j + 1 - j = 1 := by omega
    rw [e2, List.take_succ_cons, List.take_zero]
    show _ = ((cl r)[j]? == some 13)
    rw [List.getElem?_eq_getElem h']
    by_cases h13 : (cl r)[j] = 13
    · rw [h13]; rfl
    · rw [beq_eq_false_iff_ne.mpr (fun e => h13 (List.cons.inj e).1), beq_eq_false_iff_ne.mpr (fun e => h13 (Option.some.inj e))]
def escS (y : Str) : Str :=
  if y = Str.ofString "\\" then Str.ofString "\\\\" else if y = Str.ofString "," then Str.ofString "\\," else if y = Str.ofString ";" then Str.ofString "\\;"
  else if y = Str.ofString "\n" then Str.ofString "\\n" else if y = Str.ofString "\r" then Str.ofString "\\n" else y
theorem get_esc {y : Str} {v : Value} {t1 t2 t3 t4 t5 t6 t7 t8 t9 t0 : Tok}
    (h : PyProof.V.Flat v ((Spec.lookup (PyData.str y) (strData [(Value.str (Str.ofString "\\") t1, Value.str (Str.ofString "\\\\") t2), (Value.str (Str.ofString ",") t3, Value.str (Str.ofString "\\,") t4), (Value.str (Str.ofString ";") t5, Value.str (Str.ofString "\\;") t6), (Value.str (Str.ofString "\n") t7, Value.str (Str.ofString "\\n") t8), (Value.str (Str.ofString "\r") t9, Value.str (Str.ofString "\\n") t0)])).getD (PyData.str y))) :
    ∃ t, v = .str (escS y) t := by
  have e : ((Spec.lookup (PyData.str y) (strData [(Value.str (Str.ofString "\\") t1, Value.str (Str.ofString "\\\\") t2), (Value.str (Str.ofString ",") t3, Value.str (Str.ofString "\\,") t4), (Value.str (Str.ofString ";") t5, Value.str (Str.ofString "\\;") t6), (Value.str (Str.ofString "\n") t7, Value.str (Str.ofString "\\n") t8), (Value.str (Str.ofString "\r") t9, Value.str (Str.ofString "\\n") t0)])).getD (PyData.str y)) = .str (escS y) := by
    show ((if Spec.same (.str (Str.ofString "\\")) (.str y) = true then some (PyData.str (Str.ofString "\\\\")) else if Spec.same (.str (Str.ofString ",")) (.str y) = true then some (PyData.str (Str.ofString "\\,"))
      else if Spec.same (.str (Str.ofString ";")) (.str y) = true then some (PyData.str (Str.ofString "\\;")) else if Spec.same (.str (Str.ofString "\n")) (.str y) = true then some (PyData.str (Str.ofString "\\n"))
      else if Spec.same (.str (Str.ofString "\r")) (.str y) = true then some (PyData.str (Str.ofString "\\n")) else none).getD (PyData.str y)) = _
    unfold escS
    simp only [Spec.same, beq_iff_eq]
    by_cases h1 : y = Str.ofString "\\"
    · rw [if_pos h1.symm, if_pos h1]; rfl
    · rw [if_neg (Ne.symm h1), if_neg h1]
      by_cases h2 : y = Str.ofString ","
      · rw [if_pos h2.symm, if_pos h2]; rfl
      · rw [if_neg (Ne.symm h2), if_neg h2]
        by_cases h3 : y = Str.ofString ";"
        · rw [if_pos h3.symm, if_pos h3]; rfl
        · rw [if_neg (Ne.symm h3), if_neg h3]
          by_cases h4 : y = Str.ofString "\n"
          · rw [if_pos h4.symm, if_pos h4]; rfl
          · rw [if_neg (Ne.symm h4), if_neg h4]
            by_cases h5 : y = Str.ofString "\r"
            · rw [if_pos h5.symm, if_pos h5]; rfl
            · rw [if_neg (Ne.symm h5), if_neg h5]; rfl
  rw [e] at h
  cases h (default : Heap)
  exact ⟨_, rfl⟩
theorem one_iff {y z : Str} {c d : Nat} (hy : cl y = [c]) (hz : cl z = [d]) : y = z ↔ c = d := by
  constructor
  · intro e; rw [e, hz] at hy; exact (List.cons.inj hy).1.symm
  · intro e; exact cl_inj (by rw [hy, hz, e])
theorem cl_escS {y : Str} {c : Nat} (h : cl y = [c]) : cl (escS y) = out1 c := by
  have q1 := one_iff h (z := Str.ofString "\\") (d := 92) (by decide +kernel)
  have q2 := one_iff h (z := Str.ofString ",") (d := 44) (by decide +kernel)
  have q3 := one_iff h (z := Str.ofString ";") (d := 59) (by decide +kernel)
  have q4 := one_iff h (z := Str.ofString "\n") (d := 10) (by decide +kernel)
  have q5 := one_iff h (z := Str.ofString "\r") (d := 13) (by decide +kernel)
  unfold escS out1
  simp only [q1, q2, q3, q4, q5]
  by_cases h1 : c = 92
  · rw [if_pos h1, if_pos h1]; decide +kernel
  · rw [if_neg h1, if_neg h1]
    by_cases h2 : c = 44
    · rw [if_pos h2, if_pos h2]; decide +kernel
    · rw [if_neg h2, if_neg h2]
      by_cases h3 : c = 59
      · rw [if_pos h3, if_pos h3]; decide +kernel
      · rw [if_neg h3, if_neg h3]
        by_cases h4 : c = 10
        · rw [if_pos h4, if_pos h4]; decide +kernel
        · rw [if_neg h4, if_neg h4]
          by_cases h5 : c = 13
          · rw [if_pos h5, if_pos h5]; decide +kernel
          · rw [if_neg h5, if_neg h5]; exact h
theorem out1_len (c : Nat) : (out1 c).length ≤ 2 := by
  unfold out1
  repeat' split
  all_goals simp
theorem escS_len {y : Str} (h : y.length = 1) : (escS y).length ≤ 2 := by
  obtain ⟨c, rfl⟩ := one_sign h
  rw [← cl_len, cl_escS (cl_one c)]
  exact out1_len c
theorem prev_next {r : Str} {k c : Nat} (h : k < r.length) (he : (cl r).drop k = c :: (cl r).drop (k + 1)) : prevCR (cl r) (k + 1) = (c == 13) := by
  have h' : k < (cl r).length := by rw [cl_len]; exact h
  have e := drop_at r k h
  rw [he] at e
  show ((cl r)[k]? == some 13) = _
  rw [List.getElem?_eq_getElem h', ← (List.cons.inj e).1]
  rfl
theorem wr_skip {r found : Str} {t t' : Tok} {pre : List Int} {v : Int} (P : WrP r pre (found, t)) (h : pre.length < r.length) (e1 : (Txt.item r ((pre.length : Nat) : Int) == Str.ofString "\n") = true)
    (e2 : (Txt.slice r (some (((pre.length : Nat) : Int) - 1)) (some ((pre.length : Nat) : Int)) == Str.ofString "\r") = true) : WrP r (pre ++ [v]) (found, t') := by
  rw [prev_eq r _ h] at e2
  have e3 := item_eq (c := 10) h (by decide +kernel) e1
  have P1 := P.eq
  have P2 := P.le
  dsimp only at P1 P2
  refine ⟨?_, ?_⟩
  · show cl found ++ wr (prevCR (cl r) (pre ++ [v]).length) ((cl r).drop (pre ++ [v]).length) = _
    rw [List.length_append, List.length_singleton, prev_next h e3, ← P1, e3, e2, wr, if_pos ⟨rfl, rfl⟩]
    rfl
  · show found.length ≤ 2 * (pre ++ [v]).length
    rw [List.length_append, List.length_singleton]; omega
theorem wr_step {r found : Str} {t t' : Tok} {pre : List Int} {v : Int} (P : WrP r pre (found, t)) (h : pre.length < r.length)
    (e : (Txt.item r ((pre.length : Nat) : Int) == Str.ofString "\n") = false ∨ (Txt.slice r (some (((pre.length : Nat) : Int) - 1)) (some ((pre.length : Nat) : Int)) == Str.ofString "\r") = false) :
    WrP r (pre ++ [v]) (found ++ escS (Txt.item r ((pre.length : Nat) : Int)), t') := by
  have hi := cl_item r pre.length h
  have e3 := drop_at r pre.length h
  have P1 := P.eq
  have P2 := P.le
  dsimp only at P1 P2
  refine ⟨?_, ?_⟩
  · show cl (found ++ escS (Txt.item r ((pre.length : Nat) : Int))) ++ wr (prevCR (cl r) (pre ++ [v]).length) ((cl r).drop (pre ++ [v]).length) = _
    rw [List.length_append, List.length_singleton, prev_next h e3, ← P1, e3, wr, cl_app, cl_escS hi, if_neg, List.append_assoc]
    rintro ⟨c1, c2⟩
    rcases e with e | e
    · rw [str_eq_cl, hi, c1] at e
      exact absurd e (by decide +kernel)
    · rw [prev_eq r _ h, c2] at e
      cases e
  · show (found ++ escS (Txt.item r ((pre.length : Nat) : Int))).length ≤ 2 * (pre ++ [v]).length
    have := escS_len (y := Txt.item r ((pre.length : Nat) : Int)) rfl
    rw [List.length_append, List.length_singleton, Str.length_append]; omega
theorem wr_done {r found : Str} {t : Tok} {pre : List Int} (P : WrP r pre (found, t)) (h : pre.length = r.length) : cl found = wr false (cl r) := by
  have P1 := P.eq
  dsimp only at P1
  rw [h, List.drop_of_length_le (by rw [cl_len]; exact Nat.le_refl _)] at P1
  rw [← P1]; simp [wr]
section
variable {prog : Program} {w : World} {A : Around} {E : Value → Shared → Prop} {s : Shared} {env : Env} {h₀ : Heap} {x : Str} {body : List Stmt} {Q : Flow → Shared → Prop}
theorem wr_loop {r : Addr} {b₀ : Int} {t₀ u₀ v₀ : Tok} {m₀ : Str → Option Value} {news : List (Addr × Obj)} {y : Str} {tf : Tok}
    (hh : A.handled = none) (hr : IsRange s.heap r 0 b₀ 1 t₀ u₀ v₀) (hb : b₀ = (y.length : Int)) (hy : y.length ≤ 900) (F : Fr h₀ env.locals s.heap m₀) (N : News h₀ env.locals s.heap news)
    (h1 : m₀ (Str.ofString "found") = some (.str (Str.ofString "") tf))
    (turn : ∀ (c : WrS) (pre : List Int) t (u : Str → Option Value) h tk own, pre.length < y.length → WrP y pre c →
      Fr h₀ env.locals h (fun z => if z = x then some (.int ((pre.length : Nat) : Int) t) else kstB (fun z => if ([] : List Str).contains z then u z else m₀ z) (wrPs c) z) → News h₀ env.locals h (news ++ own) →
      wpAny (model prog w) A (execs body env) (InvPostN h₀ env.locals (KstS (fun _ => news) wrPs (fun _ => True) x [] m₀ (WrP y) (pre ++ [((pre.length : Nat) : Int)])) own (news.map (·.1)) { s with heap := h, toks := tk } Q) E { s with heap := h, toks := tk })
    (done : ∀ (c : WrS) (u : Str → Option Value) h tk, cl c.1 = wr false (cl y) → Fr h₀ env.locals h (fun z => if z = x then u z else kstB (fun z => if ([] : List Str).contains z then u z else m₀ z) (wrPs c) z) → News h₀ env.locals h news → Q .next { s with heap := h, toks := tk }) :
    wpAny (model prog w) A (pyIter (.ref r)) (fun it s₂ => LoopAtV prog w A h₀ env x body Q E it s₂) E s := by
  subst hb
  refine kst_range (n := y.length) (fun _ => news) wrPs (fun _ => True) [] (WrP y) (Str.ofString "", tf) hh hr ?_ ?_ F N True.intro (List.forall_mem_cons.mpr ⟨h1, List.forall_mem_nil _⟩) (wr_start y tf) ?_ ?_
  · first | exact small_one (by omega) (by omega) (by omega) (by omega) | exact small_one (by decide) (by omega) (by decide) (by omega)
  · first | exact rangeSize_nat _ _ | (simpa using rangeSize_nat 0 y.length)
  · intro c pre k t u h tk own hk hlt _ _ hP F₁ N₁
    have e : k = ((pre.length : Nat) : Int) := by omega
    subst e
    exact turn c pre t u h tk own hlt hP F₁ N₁
  · intro c u h tk _ hP F₁ N₁
    exact done c u h tk (wr_done hP (by rw [rangeKs_length])) F₁ N₁
end

theorem wri_eq {x r found : Str} (hr : Txt.replace x (Str.ofString "\\N") (Str.ofString "\n") = r) (h : cl found = wr false (cl r)) : found = writS x := by
  apply cl_inj
  have e1 : Str.ofString "\\N" = ⟨#[92, 78]⟩ := by decide +kernel
  have e2 : cl (Str.ofString "\n") = [10] := by decide +kernel
  show cl found = wr false (rep2 92 78 [10] (cl x))
  rw [h, ← hr, e1, cl_rep2, e2]
end Mine
end
section
local macro_rules | `(tactic| walk_at "zq0") => `(tactic| skip)
local macro_rules | `(tactic| walk_at "zq1") => `(tactic| skip)
local macro_rules | `(tactic| walk_at "zq2") => `(tactic| skip)
local macro_rules | `(tactic| walk_at "zq3") => `(tactic| skip)
local macro_rules | `(tactic| walk_at "zq4") => `(tactic| skip)
local macro_rules | `(tactic| walk_at "zq5") => `(tactic| skip)
local macro_rules | `(tactic| walk_at "zq6") => `(tactic| skip)
namespace Mine
theorem fresh_FYwri : True := by
  k_with_none
  w_top off
  trivial
end Mine
open PySem PySem.W PyProof.Rows
namespace Mine
open PySem.Spec PySem.Calls
local macro_rules | `(tactic| walk_at "pyIter ref") => `(tactic| k_extra "mine")
local macro_rules | `(tactic| walk_at "InvEndN") => `(tactic| k_extra "myend")
local macro_rules | `(tactic| walk_at "binaryOp Add str") => `(tactic| k_extra "add")
local macro_rules | `(tactic| walk_at "call builtin:str.replace") => `(tactic| k_extra "rep")
theorem wri_call {w : World} {p : Program} {loose : List Str} {mean : ExcName → Option Value} {mg mb : Str → Option Value} {news : List (Addr × Obj)} (x : Str) (tk : Tok) (hx : x.length ≤ 900) :
    Claim w p loose mean mg mb 6 434 news [.str x tk] (RetStr news (writS x)) := by
  unfold Claim
  k_fill
  intro dp un gd cn cs a ccd cl outer A₀ base h₀ L m' s Q E B F X N T hk hdp hu hret
  k_with_none
  k_with "rep" => (
    (refine replaceT ?h1 ?h2 ?h3 (by decide +kernel) ?h4 (by decide +kernel) ?_)
    (case h1 => omega)
    (case h2 => omega)
    (case h3 => omega)
    (case h4 => omega)
    intro _ _ hle2
    have hrl := rep_le2 (y := Str.ofString "\\N") (z := Str.ofString "\n") hx (by decide +kernel) (by decide +kernel)
    generalize hr : Txt.replace x (Str.ofString "\\N") (Str.ofString "\n") = r at hrl ⊢)
  k_with "mine" => (
    (rename Fr _ _ _ _ => lF'); (rename News _ _ _ _ => lN'); (rename IsRange _ _ _ _ _ _ _ _ => rgX)
    k_dflt (refine' wr_loop (by rfl) rgX (y := r) (by first | rfl | omega) hrl lF' lN' (by with_unfolding_all rfl) ?_ ?_)
    rotate_left
    (intro c u h1 tk1 kDone kFr kNews; obtain ⟨found, tf⟩ := c; dsimp only [wrPs] at kFr; dsimp only at kDone; (try k_fold))
    rotate_left
    (intro c pre t1 u h1 tk1 own kLt kInv kFr kNews; obtain ⟨found, tf⟩ := c; have kle := kInv.le; dsimp only [wrPs] at kFr; dsimp only at kle; (try k_fold)))
  k_with "add" => (
    (obtain ⟨t9, e9⟩ := get_esc (by assumption))
    subst e9
    (have hl9 := escS_len (y := Txt.item r ((pre.length : Nat) : Int)) rfl)
    dsimp only)
  k_with "myend" => (refine stop_here ?_)
  refine wpAny_call ?_
  k_dflt cell_enter
  k_steps
  · refine stop_go ?_
    (rename News _ _ _ _ => nE')
    exact kst_end (found, tf) (by assumption) nE' (fun p hp => List.mem_append_left _ hp) (fun p hp => List.mem_append_right _ hp) rfl True.intro (by with_unfolding_all kst_all) (fun z h1 h2 h3 => by simp only [wrPs, List.forall_mem_cons, List.not_mem_nil, false_implies, implies_true, and_true, ne_eq] at h2; simp [kstB, h1, h2]) (wr_skip kInv kLt (by assumption) (by assumption))
  · refine stop_go ?_
    (rename News _ _ _ _ => nE')
    exact kst_end (found ++ escS (Txt.item r ((pre.length : Nat) : Int)), _) (by assumption) nE' (fun p hp => .tail _ (List.mem_append_left _ hp)) (fun p hp => .tail _ (List.mem_append_right _ hp)) rfl True.intro (by with_unfolding_all kst_all) (fun z h1 h2 h3 => by simp only [wrPs, List.forall_mem_cons, List.not_mem_nil, false_implies, implies_true, and_true, ne_eq] at h2; simp [kstB, h1, h2]) (wr_step kInv kLt (.inr (by assumption)))
  · refine stop_go ?_
    (rename News _ _ _ _ => nE')
    exact kst_end (found ++ escS (Txt.item r ((pre.length : Nat) : Int)), _) (by assumption) nE' (fun p hp => .tail _ (List.mem_append_left _ hp)) (fun p hp => .tail _ (List.mem_append_right _ hp)) rfl True.intro (by with_unfolding_all kst_all) (fun z h1 h2 h3 => by simp only [wrPs, List.forall_mem_cons, List.not_mem_nil, false_implies, implies_true, and_true, ne_eq] at h2; simp [kstB, h1, h2]) (wr_step kInv kLt (.inl (by assumption)))
  · have e9 := wri_eq hr kDone
    subst e9
    exact hret _ _ _ (by assumption) (by assumption)
end Mine
end
section
namespace Mine
theorem fresh_FYesc0 : True := by
  k_with_none
  w_top off
  trivial
end Mine
open PySem PySem.W PyProof.Rows
namespace Mine
open PySem.Spec PySem.Calls
theorem rep_half {x y z : Str} {n : Nat} (h : x.length ≤ n / 2) (hy : y.length = 1 ∨ y.length = 2) (hz : z.length ≤ 2) : (Txt.replace x y z).length ≤ n := by
  rcases hy with hy | hy
  · exact Nat.le_trans (rep_le1 h hy hz) (by omega)
  · exact Nat.le_trans (rep_le2 h hy hz) (by omega)
abbrev escT (x : Str) : Str := Txt.replace (Txt.replace (Txt.replace (Txt.replace (Txt.replace (Txt.replace (Txt.replace x (Str.ofString "\\N") (Str.ofString "\n")) (Str.ofString "\\") (Str.ofString "\\\\")) (Str.ofString ";") (Str.ofString "\\;")) (Str.ofString ",") (Str.ofString "\\,"))
  (Str.ofString "\r\n") (Str.ofString "\\n")) (Str.ofString "\n") (Str.ofString "\\n")) (Str.ofString "\r") (Str.ofString "\\n")
theorem esc_eq (x : Str) : escT x = writS x := by
  apply cl_inj
  have a1 : Str.ofString "\\N" = ⟨#[92, 78]⟩ := by decide +kernel
  have a2 : Str.ofString "\\" = ⟨#[92]⟩ := by decide +kernel
  have a3 : Str.ofString ";" = ⟨#[59]⟩ := by decide +kernel
  have a4 : Str.ofString "," = ⟨#[44]⟩ := by decide +kernel
  have a5 : Str.ofString "\r\n" = ⟨#[13, 10]⟩ := by decide +kernel
  have a6 : Str.ofString "\n" = ⟨#[10]⟩ := by decide +kernel
  have a7 : Str.ofString "\r" = ⟨#[13]⟩ := by decide +kernel
  have c2 : cl (Str.ofString "\\\\") = [92, 92] := by decide +kernel
  have c3 : cl (Str.ofString "\\;") = [92, 59] := by decide +kernel
  have c4 : cl (Str.ofString "\\,") = [92, 44] := by decide +kernel
  have c5 : cl (Str.ofString "\\n") = [92, 110] := by decide +kernel
  show cl (escT x) = wr false (rep2 92 78 [10] (cl x))
  unfold escT
  rw [a1, a2, a3, a4, a5, a6, a7, cl_rep1, cl_rep1, cl_rep2, cl_rep1, cl_rep1, cl_rep1, cl_rep2, c2, c3, c4, c5, ← escd_eq]
  rfl
abbrev unchT (x : Str) : Str := Txt.replace (Txt.replace (Txt.replace (Txt.replace (Txt.replace (Txt.replace x (Str.ofString "\\N") (Str.ofString "\\n")) (Str.ofString "\r\n") (Str.ofString "\n")) (Str.ofString "\\n") (Str.ofString "\n")) (Str.ofString "\\,") (Str.ofString ",")) (Str.ofString "\\;") (Str.ofString ";")) (Str.ofString "\\\\") (Str.ofString "\\")
theorem cl_unchT (x : Str) : cl (unchT x) = unch (cl x) := by
  have a1 : Str.ofString "\\N" = ⟨#[92, 78]⟩ := by decide +kernel
  have a2 : Str.ofString "\r\n" = ⟨#[13, 10]⟩ := by decide +kernel
  have a4 : Str.ofString "\\," = ⟨#[92, 44]⟩ := by decide +kernel
  have a5 : Str.ofString "\\;" = ⟨#[92, 59]⟩ := by decide +kernel
  have a6 : Str.ofString "\\\\" = ⟨#[92, 92]⟩ := by decide +kernel
  have a3 : Str.ofString "\\n" = ⟨#[92, 110]⟩ := by decide +kernel
  have c1 : cl ⟨#[92, 110]⟩ = [92, 110] := rfl
  have c2 : cl (Str.ofString "\n") = [10] := by decide +kernel
  have c4 : cl (Str.ofString ",") = [44] := by decide +kernel
  have c5 : cl (Str.ofString ";") = [59] := by decide +kernel
  have c6 : cl (Str.ofString "\\") = [92] := by decide +kernel
  unfold unchT unch
  rw [a1, a2, a3, a4, a5, a6, cl_rep2, cl_rep2, cl_rep2, cl_rep2, cl_rep2, cl_rep2, c1, c2, c4, c5, c6]
end Mine
end
section
namespace Mine
theorem fresh_FYesc : True := by
  k_with_none
  w_top off
  trivial
end Mine
open PySem PySem.W PyProof.Rows
namespace Mine
open PySem.Spec PySem.Calls
local macro_rules | `(tactic| walk_at "call builtin:str.replace") => `(tactic| k_extra "rep")
local macro_rules | `(tactic| walk_at "execs cons") => `(tactic| ((with_reducible refine wpAny_execs_cons ?_); try dsimp only))
local macro_rules | `(tactic| walk_at "exec Assert") => `(tactic| k_extra "assert")
local macro_rules | `(tactic| walk_at "call ref") => `(tactic| ((with_reducible show wpAny _ _ (call (Value.ref 66) [Value.str _ _]) _ _ _); k_extra "tou"))
theorem tou_call {w : World} {p : Program} {loose : List Str} {mean : ExcName → Option Value} {mg mb : Str → Option Value} {news : List (Addr × Obj)} (x : Str) (tk : Tok) :
    Claim w p loose mean mg mb 3 66 news [.str x tk] (fun h₀ L m s Q => ∀ h' tk', Fr h₀ L h' m → News h₀ L h' news → Q (.str x tk) { s with heap := h', toks := tk' }) := by
  unfold Claim
  k_fill
  intro dp un gd cn cs a ccd cl outer A₀ base h₀ L m' s Q E B F X N T hk hdp hu hret
  k_with_none
  refine wpAny_call ?_
  k_dflt (refine' code_def ?k1 ?k2 ?k3 ?k4 ?k5 ?kA ?kF ?kK ?k6 ?k7 ?k8 ?k9 ?kB ?_ ?c2 ?c3 ?c4 ?c5; (case kA => exact rfl); (case kF => exact rfl); (case kK => assumption); (case k1 => k_asm); (case k2 => k_asm); (case k3 => k_asm); (case k4 => k_asm); (case k5 => k_asm); (case k6 => k_is); (case k7 => k_is); (case k8 => ktr_room); (case k9 => exact binds_K (by k_in) rfl (by k_is) rfl rfl rfl); (case c5 => decide); (case kB => exact locs rfl); (case c2 => exact rfl); (case c3 => exact rfl); (case c4 => exact rfl); k_whole; intro g' L' h' FG' F' N' B' X' T'; (try dsimp only); (try k_lift B'); (try k_fold))
  k_steps
  exact hret _ _ (by assumption) (by assumption)

theorem esc_call {w : World} {p : Program} {loose : List Str} {mean : ExcName → Option Value} {mg mb : Str → Option Value} {news : List (Addr × Obj)} (x : Str) (tk : Tok) (hx : x.length ≤ 900) :
    Claim w p loose mean mg mb 6 73 news [.str x tk] (RetStr news (writS x)) := by
  unfold Claim
  k_fill
  intro dp un gd cn cs a ccd cl outer A₀ base h₀ L m' s Q E B F X N T hk hdp hu hret
  k_with_none
  k_with "assert" => (
    (fail_if_success (rename TokMark => x9))
    refine any_toks ?_
    have tm : TokMark := TokMark.mk True.intro)
  k_with "tou" => (
    refine any_toks ?_
    refine' tou_call _ _ _ _ _ _ _ _ _ _ _ _ _ _ _ _ _ _ _ ?k1 ?k2 ?k3 ?k4 ?k5 ?kK ?kd ?ku ?_
    (case k1 => k_asm)
    (case k2 => k_asm)
    (case k3 => k_asm)
    (case k4 => k_asm)
    (case k5 => k_asm)
    (case kK => first | exact rfl | assumption)
    (case kd => ktr_room)
    (case ku => ktr_units)
    intro h9 tk9 F9 N9 hT9
    (try dsimp only at hT9)
    (try dsimp only)
    (try k_fold))
  k_with "rep" => (
    (try (rename (_ ≤ Shared.toks _) => hT; dsimp only at hT))
    (refine replaceT ?h1 ?h2 ?h3 (by decide +kernel) ?h4 (by decide +kernel) ?_)
    (case h1 => omega)
    (case h2 => omega)
    (case h3 => omega)
    (case h4 =>
      refine Nat.le_trans (m := 115200) ?_ (by decide)
      (repeat (refine rep_half ?_ (by decide +kernel) (by decide +kernel)))
      omega)
    intro _ _ hle2
    (try dsimp only at hle2))
  refine wpAny_call ?_
  k_dflt cell_enter
  (show wpAny _ _ _ _ _ { heap := _, gens := _, drawn := _, toks := s.toks + 1, os := _ })
  generalize hT0 : s.toks + 1 = tk0
  have hT1 : 1 ≤ tk0 := by rw [← hT0]; exact Nat.le_add_left 1 _
  clear hT0
  k_steps
  (rename News _ _ _ _ => nE')
  have e9 := esc_eq x
  unfold escT at e9
  rw [e9]
  exact hret _ _ _ (by assumption) (fun p hp => nE' p (.tail _ hp))

theorem unch_call {w : World} {p : Program} {loose : List Str} {mean : ExcName → Option Value} {mg mb : Str → Option Value} {news : List (Addr × Obj)} (x : Str) (tk : Tok) (hx : x.length ≤ 900) :
    Claim w p loose mean mg mb 6 80 news [.str x tk] (RetStr news (unchT x)) := by
  unfold Claim
  k_fill
  intro dp un gd cn cs a ccd cl outer A₀ base h₀ L m' s Q E B F X N T hk hdp hu hret
  k_with_none
  k_with "assert" => (
    (fail_if_success (rename TokMark => x9))
    refine any_toks ?_
    have tm : TokMark := TokMark.mk True.intro)
  k_with "tou" => (
    refine any_toks ?_
    refine' tou_call _ _ _ _ _ _ _ _ _ _ _ _ _ _ _ _ _ _ _ ?k1 ?k2 ?k3 ?k4 ?k5 ?kK ?kd ?ku ?_
    (case k1 => k_asm)
    (case k2 => k_asm)
    (case k3 => k_asm)
    (case k4 => k_asm)
    (case k5 => k_asm)
    (case kK => first | exact rfl | assumption)
    (case kd => ktr_room)
    (case ku => ktr_units)
    intro h9 tk9 F9 N9 hT9
    (try dsimp only at hT9)
    (try dsimp only)
    (try k_fold))
  k_with "rep" => (
    (try (rename (_ ≤ Shared.toks _) => hT; dsimp only at hT))
    (refine replaceT ?h1 ?h2 ?h3 (by decide +kernel) ?h4 (by decide +kernel) ?_)
    (case h1 => omega)
    (case h2 => omega)
    (case h3 => omega)
    (case h4 =>
      refine Nat.le_trans (m := 115200) ?_ (by decide)
      (repeat (refine rep_half ?_ (by decide +kernel) (by decide +kernel)))
      omega)
    intro _ _ hle2
    (try dsimp only at hle2))
  refine wpAny_call ?_
  k_dflt cell_enter
  (show wpAny _ _ _ _ _ { heap := _, gens := _, drawn := _, toks := s.toks + 1, os := _ })
  generalize hT0 : s.toks + 1 = tk0
  have hT1 : 1 ≤ tk0 := by rw [← hT0]; exact Nat.le_add_left 1 _
  clear hT0
  k_steps
  (rename News _ _ _ _ => nE')
  exact hret _ _ _ (by assumption) (fun p hp => nE' p (.tail _ hp))
end Mine
end
section
local macro_rules | `(tactic| walk_at "zq0") => `(tactic| skip)
local macro_rules | `(tactic| walk_at "zq1") => `(tactic| skip)
local macro_rules | `(tactic| walk_at "zq2") => `(tactic| skip)
local macro_rules | `(tactic| walk_at "zq3") => `(tactic| skip)
namespace Mine
theorem fresh_FYdraw : True := by
  k_with_none
  w_top off
  trivial
end Mine
open PySem PySem.W PyProof.Rows
namespace Mine
open PySem.Spec PySem.Calls
local macro_rules | `(tactic| walk_at "setItem ref int") => `(tactic| k_extra "set")
theorem draw_call {w : World} {p : Program} {loose : List Str} {mean : ExcName → Option Value} {mg mb : Str → Option Value} {rest : List (Addr × Obj)} {ba : Addr} {b : Int} {tb : Tok} {eb : Nat} (n : Int) (tn : Tok) (h0 : 0 ≤ b) (hn : 1 ≤ n) (hn2 : n ≤ 1000) (hoff : ∀ p ∈ rest, p.1 ≠ ba) :
    Claim w p loose mean mg mb 3 408 ((ba, W.listOf [Value.int b tb].toArray eb) :: rest) [.ref ba, .int n tn] (fun h₀ L m s Q => ∀ t t' h' tk', Fr h₀ L h' m → News h₀ L h' ((ba, W.listOf [Value.int (b.fdiv n) t'].toArray eb) :: rest) → Q (.int (b.fmod n) t) { s with heap := h', toks := tk' }) := by
  unfold Claim
  k_fill
  intro dp un gd cn cs a ccd cl outer A₀ base h₀ L m' s Q E B F X N T hk hdp hu hret
  k_with_none
  k_with "set" => (
    (with_reducible rename Fr _ _ _ _ => aF); (with_reducible rename News _ _ _ _ => aN)
    (show wpAny _ _ (setItem (Value.ref ba) (Value.int 0 _) (Value.int (b.fdiv n) _)) _ _ _)
    refine ksa_set (vs := [Value.int b tb]) (ns := [b]) aF aN (Upd.head hoff) (.cons _ _ .nil) (by decide) (by show (0 : Int) < 1; decide) (by decide) ?_
    intro h' F' N' hi9 hl9 hs9
    clear hi9 hl9 hs9)
  refine wpAny_call ?_
  k_dflt cell_enter
  k_steps
  exact hret _ _ _ _ (by assumption) (by assumption)
end Mine
end
section
namespace Mine
theorem fresh_FYtext0 : True := by
  k_with_none
  w_top off
  trivial
end Mine
open PySem PySem.W PyProof.Rows
namespace Mine
open PySem.Spec PySem.Calls
/-- x is up to n of ps, one behind the other -/
def MadeOf (ps : List Str) (n : Nat) (x : Str) : Prop := ∃ l : List Str, (∀ p ∈ l, p ∈ ps) ∧ cl x = (l.map cl).flatten ∧ l.length ≤ n
theorem MadeOf.nil (ps : List Str) : MadeOf ps 0 (Str.ofString "") := ⟨[], by simp, by decide +kernel, Nat.le_refl _⟩
theorem MadeOf.snoc {ps : List Str} {n : Nat} {x y : Str} (h : MadeOf ps n x) (hy : y ∈ ps) : MadeOf ps (n + 1) (x ++ y) := by
  obtain ⟨l, h1, h2, h3⟩ := h
  refine ⟨l ++ [y], ?_, ?_, ?_⟩
  · intro p hp
    rcases List.mem_append.mp hp with hp | hp
    · exact h1 p hp
    · rw [List.mem_singleton.mp hp]; exact hy
  · rw [cl_app, h2]; simp
  · rw [List.length_append, List.length_singleton]; omega
structure TxS where
  told : Str
  tt : Tok
  b : Int
  tb : Tok
abbrev txLed (ba pa : Addr) (eb ep : Nat) (pv : List Value) (rest : List (Addr × Obj)) (c : TxS) : List (Addr × Obj) := (ba, W.listOf [Value.int c.b c.tb].toArray eb) :: (pa, W.listOf pv.toArray ep) :: rest
abbrev txPs (c : TxS) : List (Str × Value) := [(Str.ofString "told", .str c.told c.tt)]
structure TxP (ps : List Str) (pre : List Int) (c : TxS) : Prop where
  made : MadeOf ps pre.length c.told
  pos : 0 ≤ c.b
  le : c.told.length ≤ 2 * pre.length
section
variable {prog : Program} {w : World} {A : Around} {E : Value → Shared → Prop} {s : Shared} {env : Env} {h₀ : Heap} {x : Str} {body : List Stmt} {Q : Flow → Shared → Prop} {L : Addr}
theorem tx_loop {r : Addr} {b₀ : Int} {t₀ u₀ v₀ : Tok} {m₀ : Str → Option Value} {rest : List (Addr × Obj)} {ba pa : Addr} {eb ep : Nat} {pv : List Value} {ps : List Str} {bb : Int} {tb tf : Tok} {N₀ : Nat}
    (hh : A.handled = none) (hr : IsRange s.heap r 0 b₀ 1 t₀ u₀ v₀) (hb0 : 0 ≤ b₀) (hb : b₀ ≤ (N₀ : Int)) (hN : N₀ ≤ 1000) (F : Fr h₀ env.locals s.heap m₀) (hbb : 0 ≤ bb) (N : News h₀ env.locals s.heap ((ba, W.listOf [Value.int bb tb].toArray eb) :: (pa, W.listOf pv.toArray ep) :: rest))
    (h1 : m₀ (Str.ofString "told") = some (.str (Str.ofString "") tf)) (hpa : pa ≠ ba) (hoff : ∀ p ∈ rest, p.1 ≠ ba)
    (turn : ∀ (c : TxS) (pre : List Int) (k : Int) t (u : Str → Option Value) h tk own, pre.length < N₀ → TxP ps pre c → (∀ p ∈ (pa, W.listOf pv.toArray ep) :: (rest ++ own), p.1 ≠ ba) →
      Fr h₀ env.locals h (fun z => if z = x then some (.int k t) else kstB (fun z => if ([] : List Str).contains z then u z else m₀ z) (txPs c) z) → News h₀ env.locals h ((ba, W.listOf [Value.int c.b c.tb].toArray eb) :: (pa, W.listOf pv.toArray ep) :: (rest ++ own)) →
      wpAny (model prog w) A (execs body env) (InvPostN h₀ env.locals (KstS (txLed ba pa eb ep pv rest) txPs (fun _ => True) x [] m₀ (TxP ps) (pre ++ [k])) own ((txLed ba pa eb ep pv rest ⟨Str.ofString "", tf, bb, tb⟩).map (·.1)) { s with heap := h, toks := tk } Q) E { s with heap := h, toks := tk })
    (done : ∀ (c : TxS) (u : Str → Option Value) h tk, MadeOf ps N₀ c.told → 0 ≤ c.b → Fr h₀ env.locals h (fun z => if z = x then u z else kstB (fun z => if ([] : List Str).contains z then u z else m₀ z) (txPs c) z) → News h₀ env.locals h (txLed ba pa eb ep pv rest c) → Q .next { s with heap := h, toks := tk }) :
    wpAny (model prog w) A (pyIter (.ref r)) (fun it s₂ => LoopAtV prog w A h₀ env x body Q E it s₂) E s := by
  obtain ⟨n, rfl⟩ : ∃ n : Nat, b₀ = (n : Int) := ⟨b₀.toNat, by omega⟩
  refine kst_range (n := n) (txLed ba pa eb ep pv rest) txPs (fun _ => True) [] (TxP ps) ⟨Str.ofString "", tf, bb, tb⟩ hh hr ?_ ?_ F N True.intro (List.forall_mem_cons.mpr ⟨h1, List.forall_mem_nil _⟩) ⟨MadeOf.nil ps, hbb, (by decide +kernel : (Str.ofString "").length ≤ 0)⟩ ?_ ?_
  · first | exact small_one (by omega) (by omega) (by omega) (by omega) | exact small_one (by decide) (by omega) (by decide) (by omega)
  · first | exact rangeSize_nat _ _ | (simpa using rangeSize_nat 0 n)
  · intro c pre k t u h tk own hk hlt hoff2 _ hP F₁ N₁
    refine turn c pre k t u h tk own (by omega) hP ?_ F₁ N₁
    intro p hp
    rcases List.mem_cons.mp hp with e | hp
    · rw [e]; exact hpa
    · rcases List.mem_append.mp hp with hp | hp
      · exact hoff p hp
      · exact hoff2 p hp ba (List.mem_cons_self ..)
  · intro c u h tk _ hP F₁ N₁
    refine done c u h tk ?_ hP.pos F₁ N₁
    obtain ⟨l, h1, h2, h3⟩ := hP.made
    rw [rangeKs_length] at h3
    exact ⟨l, h1, h2, by omega⟩
theorem pieceK {value slice : PySem.Expr} {news : List (Addr × Obj)} {pa : Addr} {pv : List Value} {ps : List Str} {ep : Nat} {k : Int} {t : Tok} {Q : Value → Shared → Prop} (N : News h₀ L s.heap news) (hm : (pa, W.listOf pv.toArray ep) ∈ news) (hi : StrsAre pv ps) (h0 : 0 ≤ k) (h1 : k < (ps.length : Int)) (h2 : k < 2 ^ 63)
    (h : ∀ y t', y ∈ ps → Q (.str y t') s)
    (hs : subscripted slice false (.ref pa) (.int k t) = operate [.ref pa, .int k t] (getItem (.ref pa) (.int k t)) := by with_unfolding_all rfl) :
    wpAny (model prog w) A (subscriptTail value slice (.ref pa) (.int k t)) Q E s := by
  have hl : s.heap.IsList pa pv.toArray := PySem.IsL.isList (n := ep) (N _ hm).1
  have hlen := StrsAre.len_eq hi
  have hk : k.toNat < pv.length := by omega
  obtain ⟨y, t', hy, hv⟩ := StrsAre.at' hi k.toNat pv[k.toNat] (List.getElem?_eq_getElem hk)
  refine tail_any hl.typeIs slot_list_getitem.lookup (wpAny_getItem_list hl h0 h2 ?_ (h y t' (List.mem_of_getElem? hy))) hs
  rw [← hv]
  simp [hk]
end
end Mine
end
section
namespace Mine
theorem fresh_FYtext : True := by
  k_with_none
  w_top off
  trivial
end Mine
open PySem PySem.W PyProof.Rows
namespace Mine
open PySem.Spec PySem.Calls
local macro_rules | `(tactic| walk_at "pyIter ref") => `(tactic| k_extra "mine")
local macro_rules | `(tactic| walk_at "InvEndN") => `(tactic| k_extra "myend")
local macro_rules | `(tactic| walk_at "call ref") => `(tactic| ((with_reducible show wpAny _ _ (call (Value.ref 408) [Value.ref _, Value.int _ _]) _ _ _); k_extra "draw"))
local macro_rules | `(tactic| walk_at "subscriptTail Name Call ref int") => `(tactic| k_extra "piece")
theorem text_call {w : World} {p : Program} {loose : List Str} {mean : ExcName → Option Value} {mg mb : Str → Option Value} {rest : List (Addr × Obj)} {ba pa : Addr} {b : Int} {tb : Tok} {eb ep : Nat} {pv : List Value} (ps : List Str) (many : Nat) (tn : Tok)
    (h0 : 0 ≤ b) (hm1 : 1 ≤ many) (hm2 : many ≤ 100) (hpa : pa ≠ ba) (hoff : ∀ p ∈ rest, p.1 ≠ ba) (hi : StrsAre pv ps) (hp1 : 1 ≤ ps.length) (hp2 : ps.length ≤ 100) (hps : ∀ y ∈ ps, y.length ≤ 2) :
    Claim w p loose mean mg mb 5 415 ((ba, W.listOf [Value.int b tb].toArray eb) :: (pa, W.listOf pv.toArray ep) :: rest) [.ref ba, .ref pa, .int many tn] (fun h₀ L m s Q => ∀ told t b' t' h' tk', MadeOf ps many told → 0 ≤ b' → Fr h₀ L h' m → News h₀ L h' ((ba, W.listOf [Value.int b' t'].toArray eb) :: (pa, W.listOf pv.toArray ep) :: rest) → Q (.str told t) { s with heap := h', toks := tk' }) := by
  unfold Claim
  k_fill
  intro dp un gd cn cs a ccd cl outer A₀ base h₀ L m' s Q E B F X N T hk hdp hu hret
  have hlen := StrsAre.len_eq hi
  have hoff1 : ∀ p ∈ (pa, W.listOf pv.toArray ep) :: rest, p.1 ≠ ba := List.forall_mem_cons.mpr ⟨hpa, hoff⟩
  k_with_none
  k_with "draw" => (
    first
    | (refine' draw_call (many : Int) _ h0 (by omega) (by omega) hoff1 _ _ _ _ _ _ _ _ _ _ _ _ _ _ _ _ _ ?k1 ?k2 ?k3 ?k4 ?k5 ?kK ?kd ?ku ?_)
    | (refine' draw_call (ps.length : Int) _ kpos (by omega) (by omega) kOff _ _ _ _ _ _ _ _ _ _ _ _ _ _ _ _ _ ?k1 ?k2 ?k3 ?k4 ?k5 ?kK ?kd ?ku ?_)
    (case k1 => k_asm)
    (case k2 => k_asm)
    (case k3 => k_asm)
    (case k4 => k_asm)
    (case k5 => k_asm)
    (case kK => first | exact rfl | assumption)
    (case kd => ktr_room)
    (case ku => ktr_units)
    intro t9 t8 h9 tk9 F9 N9
    (try dsimp only)
    (try k_fold))
  k_with "mine" => (
    (rename Fr _ _ _ _ => lF'); (rename News _ _ _ _ => lN'); (rename IsRange _ _ _ _ _ _ _ _ => rgX)
    k_dflt (refine' tx_loop (ps := ps) (N₀ := many) (bb := b.fdiv many) (by rfl) rgX (Int.fmod_nonneg h0 (by omega)) (by have := Int.fmod_lt_of_pos b (b := (many : Int)) (by omega); omega) (by omega) lF' (Int.fdiv_nonneg h0 (by omega)) lN' (by with_unfolding_all rfl) hpa hoff ?_ ?_)
    rotate_left
    (intro c u h1 tk1 kMade kpos kFr kNews; obtain ⟨told, tf, bb, tbb⟩ := c; (try dsimp only [txPs] at kFr); (try dsimp only [txLed] at kNews); (try dsimp only at kMade); (try dsimp only at kpos); (try k_fold))
    rotate_left
    (intro c pre k1 t1 u h1 tk1 own kLt kInv kOff kFr kNews; obtain ⟨told, tf, bb, tbb⟩ := c; have kle := kInv.le; have kpos := kInv.pos; (try dsimp only [txPs] at kFr); (try dsimp only at kle); (try dsimp only at kpos); (try dsimp only at kNews); (try k_fold)))
  k_with "piece" => (
    (with_reducible rename News _ _ _ _ => aN)
    refine pieceK (ps := ps) (pv := pv) aN (List.mem_cons_of_mem _ (List.mem_cons_self ..)) (by assumption) (Int.fmod_nonneg kpos (by omega)) (by have := Int.fmod_lt_of_pos bb (b := (ps.length : Int)) (by omega); omega) (by have := Int.fmod_lt_of_pos bb (b := (ps.length : Int)) (by omega); omega) ?_
    intro y9 t7 hy9
    have hyl := hps y9 hy9)
  k_with "myend" => (refine stop_here ?_)
  refine wpAny_call ?_
  k_dflt cell_enter
  k_steps
  · refine stop_go ?_
    (rename News _ _ _ _ => nE')
    refine kst_end ⟨told ++ y9, _, bb.fdiv (ps.length : Int), t8⟩ (by assumption) nE' ?_ ?_ rfl True.intro (by with_unfolding_all kst_all) (fun z h1 h2 h3 => by simp only [txPs, List.forall_mem_cons, List.not_mem_nil, false_implies, implies_true, and_true, ne_eq] at h2; simp [kstB, h1, h2]) ⟨?_, Int.fdiv_nonneg kpos (by omega), ?_⟩
    · intro p hp
      rcases List.mem_cons.mp hp with e | hp
      · rw [e]; exact List.mem_cons_self ..
      · rcases List.mem_cons.mp hp with e | hp
        · rw [e]; exact List.mem_cons_of_mem _ (List.mem_cons_self ..)
        · exact List.mem_cons_of_mem _ (List.mem_cons_of_mem _ (List.mem_append_left _ hp))
    · intro p hp
      exact List.mem_cons_of_mem _ (List.mem_cons_of_mem _ (List.mem_append_right _ hp))
    · have := MadeOf.snoc kInv.made hy9
      rw [List.length_append, List.length_singleton]
      exact this
    · show (told ++ y9).length ≤ 2 * _
      rw [Str.length_append, List.length_append, List.length_singleton]; omega
  · exact hret _ _ _ _ _ _ kMade kpos (by assumption) (by assumption)
end Mine
end
section
namespace Mine
theorem fresh_FYmain0 : True := by
  k_with_none
  w_top off
  trivial
end Mine
open PySem PySem.W PyProof.Rows
namespace Mine
open PySem.Spec PySem.Calls
/-- the law's pieces, and its singles -/
abbrev pieces : List Str := [Str.ofString "a", Str.ofString "\\", Str.ofString ":", Str.ofString "\\:", Str.ofString "\\n", Str.ofString "\\N", Str.ofString "\\,", Str.ofString "\\;", Str.ofString "\\\\", Str.ofString ",", Str.ofString ";", Str.ofString "n", Str.ofString "\n", Str.ofString "\x0d\n", Str.ofString "\x0d", Str.ofString "\t", Str.ofString "\u2028", Str.ofString "é", Str.ofString "𝄞", Str.ofString "\\x", Str.ofString "\x0b", Str.ofString "Z"]
abbrev singles : List Str := [Str.ofString "a", Str.ofString ":", Str.ofString "\\:", Str.ofString "\\n", Str.ofString "\\N", Str.ofString "\\,", Str.ofString "\\;", Str.ofString "\\x", Str.ofString ",", Str.ofString ";", Str.ofString "\x0d\n", Str.ofString "\n", Str.ofString "\x0d", Str.ofString "é", Str.ofString "n"]
theorem cl_length (x : Str) : (cl x).length = x.length := by rfl
theorem MadeOf.len {ps : List Str} {n : Nat} {x : Str} (h : MadeOf ps n x) (hp : ∀ y ∈ ps, y.length ≤ 2) : x.length ≤ 2 * n := by
  obtain ⟨l, hl, hx, hn⟩ := h
  have : (cl x).length ≤ 2 * l.length := by
    rw [hx]
    clear hx hn
    induction l with
    | nil => simp
    | cons a l ih =>
      have h1 := ih (fun p hp => hl p (List.mem_cons_of_mem _ hp))
      have h2 : (cl a).length ≤ 2 := hp a (hl a List.mem_cons_self)
      simp only [List.map_cons, List.flatten_cons, List.length_append, List.length_cons]
      omega
  have h3 : (cl x).length = x.length := cl_length x
  omega
theorem MadeOf.all {ps : List Str} {n : Nat} {x : Str} (P : Nat → Prop) (h : MadeOf ps n x) (hp : ∀ y ∈ ps, ∀ c ∈ cl y, P c) : ∀ c ∈ cl x, P c := by
  obtain ⟨l, hl, hx, -⟩ := h
  intro c hc
  rw [hx, List.mem_flatten] at hc
  obtain ⟨q, hq, hc⟩ := hc
  obtain ⟨y, hy, rfl⟩ := List.mem_map.mp hq
  exact hp y (hl y hy) c hc
theorem News.swap {h₀ h : Heap} {L : Addr} {a b : Addr × Obj} {r : List (Addr × Obj)} (N : News h₀ L h (a :: b :: r)) : News h₀ L h (b :: a :: r) := fun p hp => N p (by
  simp only [List.mem_cons] at hp ⊢
  rcases hp with h | h | h
  · exact .inr (.inl h)
  · exact .inl h
  · exact .inr (.inr h))
/-- an object that is a vText of the text x, its dict at d -/
def IsVT (x : Str) (d : Addr) (o : Obj) : Prop := ∃ t sl, o = ⟨.ref 389, some d, .prim (.str x t), sl⟩
abbrev RetVT (news : List (Addr × Obj)) (x : Str) (h₀ : Heap) (L : Addr) (m : Str → Option Value) (s : Shared) (Q : Value → Shared → Prop) : Prop :=
  ∀ b d t sl h' tk', Fr h₀ L h' m → News h₀ L h' ((b, ⟨.ref 389, some d, .prim (.str x t), sl⟩) :: (d, emptyDict) :: news) → Q (.ref b) { s with heap := h', toks := tk' }
end Mine
end
section
namespace Mine
theorem fresh_FYeq : True := by
  k_with_none
  w_top off
  trivial
end Mine
open PySem PySem.W PyProof.Rows PySem.Calls PyProof.V PySem.Spec
namespace Mine
theorem pass_all {f : Nat → Option Nat} {P : Nat → Prop} (hf : ∀ y d, f y = some d → P d) : ∀ l, (∀ c ∈ l, P c) → ∀ c ∈ pass f l, P c
  | [], _ => by intro c hc; cases hc
  | [x], h => h
  | x :: y :: r, h => by
    intro c hc
    have hx : P x := h x List.mem_cons_self
    have hr : ∀ c ∈ y :: r, P c := fun c hc => h c (List.mem_cons_of_mem _ hc)
    by_cases e : x = 92
    · subst e
      cases q : f y with
      | none =>
        rw [pass_miss q] at hc
        rcases List.mem_cons.mp hc with rfl | hc
        · exact hx
        · exact pass_all hf (y :: r) hr c hc
      | some d =>
        rw [pass_hit q] at hc
        rcases List.mem_cons.mp hc with rfl | hc
        · exact hf y _ q
        · exact pass_all hf r (fun c hc => hr c (List.mem_cons_of_mem _ hc)) c hc
    · rw [pass_ne e] at hc
      rcases List.mem_cons.mp hc with rfl | hc
      · exact hx
      · exact pass_all hf (y :: r) hr c hc
theorem f6_low : ∀ y d, f6 y = some d → d < 0x110000 := by
  intro y d h
  unfold f6 f5 also none1 at h
  repeat (first | (split at h; · (cases h; decide)) | cases h)
theorem parts_all {m : Nat} {P : Nat → Prop} : ∀ (cur l : List Nat), (∀ c ∈ cur, P c) → (∀ c ∈ l, P c) → ∀ q ∈ parts m cur l, ∀ c ∈ q, P c
  | cur, [], hc, _ => by
    intro q hq
    rw [parts, List.mem_singleton] at hq
    subst hq; exact hc
  | cur, [x], hc, hl => by
    intro q hq
    have hx : ∀ c ∈ cur ++ [x], P c := by
      intro c h
      rcases List.mem_append.mp h with h | h
      · exact hc c h
      · exact hl c h
    rw [parts] at hq
    split at hq
    · rcases List.mem_cons.mp hq with rfl | hq
      · exact hc
      · rw [List.mem_singleton] at hq; subst hq; intro c h; cases h
    · rw [List.mem_singleton] at hq; subst hq; exact hx
  | cur, x :: y :: r, hc, hl => by
    intro q hq
    have hx : P x := hl x List.mem_cons_self
    have hy : P y := hl y (List.mem_cons_of_mem _ List.mem_cons_self)
    have hr : ∀ c ∈ r, P c := fun c h => hl c (List.mem_cons_of_mem _ (List.mem_cons_of_mem _ h))
    have hyr : ∀ c ∈ y :: r, P c := fun c h => hl c (List.mem_cons_of_mem _ h)
    rw [parts] at hq
    split at hq
    · refine parts_all (cur ++ [x, y]) r ?_ hr q hq
      intro c h
      rcases List.mem_append.mp h with h | h
      · exact hc c h
      · simp only [List.mem_cons, List.not_mem_nil, or_false] at h
        rcases h with rfl | rfl
        · exact hx
        · exact hy
    · split at hq
      · rcases List.mem_cons.mp hq with rfl | hq
        · exact hc
        · exact parts_all [] (y :: r) (fun c h => by cases h) hyr q hq
      · refine parts_all (cur ++ [x]) (y :: r) ?_ hyr q hq
        intro c h
        rcases List.mem_append.mp h with h | h
        · exact hc c h
        · rw [List.mem_singleton] at h; subst h; exact hx
theorem partsS_ok {m : Nat} {x : Str} (h : ∀ c ∈ cl x, c < 0x110000) : ∀ y ∈ partsS m x, PyData.strOk y = true := by
  intro y hy
  unfold partsS at hy
  obtain ⟨q, hq, rfl⟩ := List.mem_map.mp hy
  unfold PyData.strOk
  rw [Array.all_eq_true_iff_forall_mem]
  intro c hc
  have := pass_all f6_low q (parts_all [] (cl x) (by intro c hc; cases hc) h q hq) c (by simpa using hc)
  simpa using this
theorem cl0_strs : ∀ ns : List Str, (∀ y ∈ ns, PyData.strOk y = true) → PyData.canLayAll0 (ns.map PyData.str) = true
  | [], _ => rfl
  | a :: r, h => by simp [PyData.canLayAll0, PyData.canLay0, cl0_strs r (fun y hy => h y (List.mem_cons_of_mem _ hy)), h a List.mem_cons_self]
theorem dep_strs : ∀ ns : List Str, PyData.depthAll (ns.map PyData.str) = 0
  | [] => rfl
  | _ :: r => by simp [PyData.depthAll, PyData.depth, dep_strs r]
theorem shaped_strs (ns : List Str) (h : ∀ y ∈ ns, PyData.strOk y = true) : SeqAt.shaped (.list (ns.map PyData.str)) = true := by
  simp [SeqAt.shaped, PyData.canLay0, PyData.depth, cl0_strs ns h, dep_strs]
theorem carried_strs : ∀ {vs : List Value} {ns : List Str}, StrsAre vs ns → CarriedAll vs (ns.map PyData.str)
  | _, _, .nil => .nil
  | _, _, .cons _ t r => .cons (.str _ t) (carried_strs r)
theorem ne_strs {prog : Program} {w : World} {A : Around} {E : Value → Shared → Prop} {s : Shared} {a b : Addr} {xs ys : List Value} {ns : List Str} {ka kb : Nat} {news : List (Addr × Obj)} {h₀ : Heap} {L : Addr} {Q : Value → Shared → Prop}
    (N : News h₀ L s.heap news) (ha : (a, W.listOf xs.toArray ka) ∈ news) (hb : (b, W.listOf ys.toArray kb) ∈ news) (hi : StrsAre xs ns) (hj : StrsAre ys ns) (ho : ∀ y ∈ ns, PyData.strOk y = true) (hu : A.units + 64 < cLine) (h : Q (.bool false) s) :
    wpAny (model prog w) A (compareOp .NotEq (.ref a) (.ref b)) Q E s :=
  ne_dataH_same (reads_newData ⟨_, N.get ha, rfl, _, rfl⟩ (carried_strs hi)) (reads_newData ⟨_, N.get hb, rfl, _, rfl⟩ (carried_strs hj)) (shaped_strs _ ho) (shaped_strs _ ho) hu (SeqAt.noMix_of_shape (.list .str) rfl _ _ (list_map_has fun _ => rfl) (list_map_has fun _ => rfl)) (by
    have : PySem.Spec.same (.list (ns.map PyData.str)) (.list (ns.map PyData.str)) = true := by simp only [PySem.Spec.same]; exact sameAll_refl _
    rw [this]; exact h)
end Mine
end
section
namespace Mine
theorem fresh_FYsing : True := by
  k_with_none
  w_top off
  trivial
end Mine
open PySem PySem.W PyProof.Rows
namespace Mine
theorem pieces_low : ∀ y ∈ pieces, ∀ c ∈ cl y, c < 0x110000 := by decide +kernel
theorem pieces_nosur : ∀ y ∈ pieces, ∀ c ∈ cl y, c < 0xD800 ∨ 0xE000 ≤ c := by decide +kernel
theorem pieces_sur : ∀ y ∈ pieces, ∀ c ∈ cl y, Str.isSurrogate c = false := by decide +kernel
theorem singles_sur : ∀ y ∈ singles, ∀ c ∈ cl y, Str.isSurrogate c = false := by decide +kernel
theorem singles_nodot : ∀ y ∈ singles, ∀ c ∈ cl y, c ≠ 46 := by decide +kernel
theorem nb_app : ∀ (a b : List Nat), nb a → nb b → a.getLast? ≠ some 92 → nb (a ++ b)
  | [], _, _, hb, _ => hb
  | [x], [], _, _, _ => trivial
  | [x], y :: r, _, hb, hl => ⟨fun e => hl (by rw [e.1]; rfl), hb⟩
  | x :: y :: r, b, ha, hb, hl => ⟨ha.1, nb_app (y :: r) b ha.2 hb (by rwa [List.getLast?_cons_cons] at hl)⟩
def nbB : List Nat → Bool
  | x :: y :: r => !(x == 92 && y == 92) && nbB (y :: r)
  | _ => true
theorem nbB_nb : ∀ l : List Nat, nbB l = true → nb l
  | [], _ => trivial
  | [_], _ => trivial
  | x :: y :: r, h => by
    rw [nbB, Bool.and_eq_true] at h
    exact ⟨fun e => by rw [e.1, e.2] at h; exact absurd h.1 (by decide), nbB_nb (y :: r) h.2⟩
theorem singles_nb : ∀ y ∈ singles, nbB (cl y) = true ∧ (cl y).getLast? ≠ some 92 := by decide +kernel
theorem nb_flat : ∀ l : List (List Nat), (∀ q ∈ l, nb q ∧ q.getLast? ≠ some 92) → nb l.flatten
  | [], _ => trivial
  | a :: r, h => by
    rw [List.flatten_cons]
    exact nb_app a r.flatten (h a List.mem_cons_self).1 (nb_flat r fun q hq => h q (List.mem_cons_of_mem _ hq)) (h a List.mem_cons_self).2
theorem MadeOf.nb {n : Nat} {x : Str} (h : MadeOf singles n x) : Mine.nb (cl x) := by
  obtain ⟨l, hl, hx, -⟩ := h
  rw [hx]
  refine nb_flat _ fun q hq => ?_
  obtain ⟨y, hy, rfl⟩ := List.mem_map.mp hq
  exact ⟨nbB_nb _ (singles_nb y (hl y hy)).1, (singles_nb y (hl y hy)).2⟩
theorem MadeOf.nodot {n : Nat} {x : Str} (h : MadeOf singles n x) : 46 ∉ cl x := fun hc => h.all (fun c => c ≠ 46) singles_nodot 46 hc rfl
theorem singles_low : ∀ y ∈ singles, ∀ c ∈ cl y, c < 0x110000 := by decide +kernel
/-- what the law makes of its own for _unescape_char -/
def dueS (x : Str) : Str := Txt.replace (passS (Txt.replace (Txt.replace x (Str.ofString "\r\n") (Str.ofString "\n")) (Str.ofString "\\:") (Str.ofString "\\."))) (Str.ofString "\\.") (Str.ofString "\\:")
theorem cl_dueS (x : Str) : cl (dueS x) = due (cl x) := by
  have a1 : Str.ofString "\r\n" = ⟨#[13, 10]⟩ := by decide +kernel
  have a2 : Str.ofString "\n" = ⟨#[10]⟩ := by decide +kernel
  have a3 : Str.ofString "\\:" = ⟨#[92, 58]⟩ := by decide +kernel
  have a4 : Str.ofString "\\." = ⟨#[92, 46]⟩ := by decide +kernel
  unfold dueS
  rw [a1, a2, a3, a4, cl_rep2, cl_passS, cl_rep2, cl_rep2]
  rfl
theorem unchT_due {x : Str} (h : Mine.nb (cl x)) (h46 : 46 ∉ cl x) : unchT x = dueS x := by
  have : cl (unchT x) = cl (dueS x) := by rw [cl_unchT, cl_dueS, unch_due _ h h46]
  exact congrArg (fun l => (⟨l.toArray⟩ : Str)) this
end Mine
end
section
namespace Mine
theorem fresh_FYsv : True := by
  k_with_none
  w_top off
  trivial
end Mine
open PySem PySem.W PySem.W.X PyProof.Rows
namespace Mine
open PySem.Spec PySem.Calls
set_option hygiene false in
local macro_rules | `(tactic| x_close) => `(tactic| (exact hret _ _))
theorem str_vt0 {w : World} {h : Heap} {g : Array GenState} {dr : Drawn} {tk : Nat} {os : OsState} {cs : Scope} {L a b : Addr} {ccd : Value} {d : Option Addr} {x : Str} {t : Tok} {sl : Array (Option Value)} (X : (hd.heap_39 w.params).In h) (hb : h.get? b = some ⟨.ref 389, d, .prim (.str x t), sl⟩) (hx : x.length ≤ 1000) (Q E : Value → Shared → Prop)
    (hret : ∀ u tk', Q (.str x u) ⟨h, g, dr, tk', os⟩) :
    wpAny (model PySem.Challenge.rw_fy0022_01.row.prog w) (callerA.deeper (envOf (Str.ofString "law") cs L a ccd)) (call (.type "str") [.ref b]) Q E ⟨h, g, dr, tk, os⟩ := by
  x_run
theorem str_vt {w : World} {s : Shared} {cs : Scope} {L a b : Addr} {ccd : Value} {d : Addr} {t : Tok} {sl : Array (Option Value)} {x : Str} {h₀ : Heap} {m : Str → Option Value} {news : List (Addr × Obj)} {Q E : Value → Shared → Prop}
    (F : Fr h₀ L s.heap m) (X : (hd.heap_39 w.params).In h₀) (N : News h₀ L s.heap news) (hm : (b, (⟨.ref 389, some d, .prim (.str x t), sl⟩ : Obj)) ∈ news) (hx : x.length ≤ 1000)
    (hret : ∀ u tk', Q (.str x u) { s with toks := tk' }) :
    wpAny (model PySem.Challenge.rw_fy0022_01.row.prog w) (callerA.deeper (envOf (Str.ofString "law") cs L a ccd)) (call (.type "str") [.ref b]) Q E s := by
  exact str_vt0 (X.keeps F.keep) (N.get hm) hx Q E hret
end Mine
end
section
namespace Mine
theorem fresh_FYutf : True := by
  k_with_none
  w_top off
  trivial
end Mine
open PySem PySem.W PyProof.Rows
namespace Mine
open PySem.Builtin PySem.Builtin._codecs
/-- the bytes of a text in UTF-8 -/
def u8 (x : Str) : Array UInt8 := x.cps.foldl (fun acc y => acc ++ (Str.utf8Of y).toArray) #[]
def u8L (l : List Nat) : List UInt8 := l.flatMap Str.utf8Of
theorem u8_fold : ∀ (l : List Nat) (acc : Array UInt8), (l.foldl (fun acc y => acc ++ (Str.utf8Of y).toArray) acc).toList = acc.toList ++ u8L l
  | [], acc => by simp [u8L]
  | a :: r, acc => by
    rw [List.foldl_cons, u8_fold r]
    simp [u8L]
theorem u8_list (x : Str) : (u8 x).toList = u8L (cl x) := by
  unfold u8
  rw [← Array.foldl_toList, u8_fold]
  simp
theorem utf8Of_len (c : Nat) : 1 ≤ (Str.utf8Of c).length ∧ (Str.utf8Of c).length ≤ 4 := by
  unfold Str.utf8Of
  split
  · exact ⟨Nat.le_refl _, by simp⟩
  · split
    · simp
    · split <;> simp
theorem u8L_len : ∀ l : List Nat, (u8L l).length ≤ 4 * l.length
  | [] => by simp [u8L]
  | a :: r => by
    have h := u8L_len r
    have h2 := (utf8Of_len a).2
    simp only [u8L, List.flatMap_cons, List.length_append, List.length_cons] at h ⊢
    omega
theorem u8_size (x : Str) : (u8 x).size ≤ 4 * x.length := by
  have h := u8L_len (cl x)
  rw [← u8_list, cl_length] at h
  simpa using h
theorem enc_narrow (id : String) (self : Value) (x : Str) (hx : x.length ≤ 1000) (h : ∀ c ∈ cl x, Str.isSurrogate c = false) : encodeNarrow id utf8Codec none self x = pure (u8 x) := by
  have hb : utf8Codec.bad = Str.isSurrogate := rfl
  have ho : utf8Codec.bytesOf = Str.utf8Of := rfl
  have hsz : (u8 x).size ≤ 4000 := by have := u8_size x; omega
  have hf : Array.findIdx? Str.isSurrogate x.cps = none := by
    rw [Array.findIdx?_eq_none_iff]
    intro c hc
    exact h c (by simpa using hc)
  unfold encodeNarrow
  simp only [Std.Legacy.Range.forIn_eq_forIn_range', Std.Legacy.Range.size, Nat.sub_zero, Nat.add_sub_cancel, Nat.div_one, hb, ho]
  obtain ⟨n, hn⟩ : ∃ n, x.length = n := ⟨_, rfl⟩
  rw [hn]
  cases n with
  | zero =>
    have : x.cps = #[] := Array.eq_empty_of_size_eq_zero hn
    simp [u8, this]
  | succ n =>
    have h0 : 0 < x.cps.size := by show 0 < x.length; omega
    have hg : x.cps[0]? = some x.cps[0] := Array.getElem?_eq_getElem h0
    have hs0 : Str.isSurrogate x.cps[0] = false := h _ (by simp)
    have he : x.cps.extract 0 = x.cps := by simp
    rw [List.range'_succ, List.forIn_cons]
    have e0 : ¬ ((#[] : Array UInt8).size > sizeLine) := by decide +kernel
    have hu : Array.foldl (fun acc y => acc ++ (Str.utf8Of y).toArray) #[] (x.cps.extract 0 x.cps.size) = u8 x := by rw [Array.extract_size]; rfl
    have hu2 : Array.foldl (fun acc y => acc ++ (Str.utf8Of y).toArray) #[] x.cps = u8 x := rfl
    have hs2 : ¬ ((u8 x).size > sizeLine) := by rw [sizeLine_eq]; omega
    have hg2 : x.cps[x.cps.size]? = none := by simp
    simp only [if_neg e0, hg, hs0, Bool.not_false, if_true, he, hf, Option.getD_none, Nat.zero_add, hu, hu2, pure_bind]
    cases n with
    | zero => simp only [List.range'_zero, List.forIn_nil, pure_bind]
    | succ n =>
      rw [List.range'_succ, List.forIn_cons]
      simp only [if_neg hs2, hg2, pure_bind]
end Mine
end
section
namespace Mine
theorem fresh_FYutf2 : True := by
  k_with_none
  w_top off
  trivial
end Mine
open PySem PySem.W PyProof.Rows
namespace Mine
open PySem.Builtin PySem.Builtin._codecs
theorem at_low {b : Array UInt8} {p c : Nat} (hc : c < 128) (h : b[p]? = some c.toUInt8) : Bytes.utf8At b p = (.char c, p + 1) := by
  have h1 : (b.getD p 0).toNat = c := by
    rw [Array.getD_eq_getD_getElem?, h, Option.getD_some]
    show c % 256 = c
    omega
  unfold Bytes.utf8At
  simp only [h1, if_pos hc]
theorem at_e9 {b : Array UInt8} {p : Nat} (h : b[p]? = some 0xC3) (h1 : b[p + 1]? = some 0xA9) : Bytes.utf8At b p = (.char 233, p + 2) := by
  have g : (b.getD p 0).toNat = 0xC3 := by rw [Array.getD_eq_getD_getElem?, h]; rfl
  unfold Bytes.utf8At
  simp only [g]
  simp [List.range, List.range.loop, h1, Except.bind]
theorem at_2028 {b : Array UInt8} {p : Nat} (h : b[p]? = some 0xE2) (h1 : b[p + 1]? = some 0x80) (h2 : b[p + 2]? = some 0xA8) : Bytes.utf8At b p = (.char 0x2028, p + 3) := by
  have g : (b.getD p 0).toNat = 0xE2 := by rw [Array.getD_eq_getD_getElem?, h]; rfl
  unfold Bytes.utf8At
  simp only [g]
  simp [List.range, List.range.loop, h1, h2, Except.bind]
theorem at_clef {b : Array UInt8} {p : Nat} (h : b[p]? = some 0xF0) (h1 : b[p + 1]? = some 0x9D) (h2 : b[p + 2]? = some 0x84) (h3 : b[p + 3]? = some 0x9E) : Bytes.utf8At b p = (.char 0x1D11E, p + 4) := by
  have g : (b.getD p 0).toNat = 0xF0 := by rw [Array.getD_eq_getD_getElem?, h]; rfl
  unfold Bytes.utf8At
  simp only [g]
  simp [List.range, List.range.loop, h1, h2, h3, Except.bind]
/-- the signs that the law's texts are made of -/
def okc (c : Nat) : Prop := c < 128 ∨ c = 233 ∨ c = 0x2028 ∨ c = 0x1D11E
theorem at_ok {b : Array UInt8} {p c : Nat} (hc : okc c) (h : ∀ k, k < (Str.utf8Of c).length → b[p + k]? = (Str.utf8Of c)[k]?) : Bytes.utf8At b p = (.char c, p + (Str.utf8Of c).length) := by
  rcases hc with hc | rfl | rfl | rfl
  · have e : Str.utf8Of c = [c.toUInt8] := by unfold Str.utf8Of; rw [if_pos hc]
    rw [e] at h ⊢
    exact at_low hc (h 0 Nat.zero_lt_one)
  · exact at_e9 (h 0 (by decide)) (h 1 (by decide))
  · exact at_2028 (h 0 (by decide)) (h 1 (by decide)) (h 2 (by decide))
  · exact at_clef (h 0 (by decide)) (h 1 (by decide)) (h 2 (by decide)) (h 3 (by decide))
theorem dec_loop {σ : Type} (b : Array UInt8) (f : Nat → Nat × Array Nat × σ → Sem (ForInStep (Nat × Array Nat × σ)))
    (hs : ∀ i p out st c, out.size ≤ 1000 → p < b.size → Bytes.utf8At b p = (.char c, p + (Str.utf8Of c).length) → f i (p, out, st) = pure (.yield (p + (Str.utf8Of c).length, out ++ #[c], st)))
    (hd : ∀ i p out st, out.size ≤ 1000 → b.size ≤ p → f i (p, out, st) = pure (.done (p, out, st))) :
    ∀ (l m : List Nat) (p : Nat) (out : Array Nat) (st : σ), (∀ c ∈ l, okc c) → b.toList.drop p = u8L l → p ≤ b.size → out.size + l.length ≤ 1000 → l.length ≤ m.length →
      forIn m (p, out, st) f = pure (b.size, out ++ l.toArray, st)
  | [], m, p, out, st, _, hb, hp, ho, _ => by
    have hb' : b.toList.drop p = [] := hb
    have : b.size ≤ p := by simpa [List.drop_eq_nil_iff] using hb'
    have e : p = b.size := by omega
    subst e
    cases m with
    | nil => simp
    | cons i m =>
      rw [List.forIn_cons, hd i b.size out st (by simpa using ho) (Nat.le_refl _)]
      simp
  | c :: r, [], p, out, st, _, _, _, _, hm => by simp at hm
  | c :: r, i :: m, p, out, st, hk, hb, hp, ho, hm => by
    have hb' : b.toList.drop p = Str.utf8Of c ++ u8L r := hb
    have hl := utf8Of_len c
    have hlen : b.size - p = (Str.utf8Of c).length + (u8L r).length := by
      have := congrArg List.length hb'
      simpa using this
    have hg : ∀ k, k < (Str.utf8Of c).length → b[p + k]? = (Str.utf8Of c)[k]? := by
      intro k hk2
      have h1 : (b.toList.drop p)[k]? = (Str.utf8Of c)[k]? := by rw [hb', List.getElem?_append_left hk2]
      rw [List.getElem?_drop] at h1
      simpa using h1
    have ha := at_ok (hk c List.mem_cons_self) hg
    have ho' : out.size + (r.length + 1) ≤ 1000 := ho
    rw [List.forIn_cons, hs i p out st c (by omega) (by omega) ha]
    simp only [pure_bind]
    rw [dec_loop b f hs hd r m (p + (Str.utf8Of c).length) (out ++ #[c]) st (fun d hd => hk d (List.mem_cons_of_mem _ hd)) ?_ (by omega) ?_ (by simpa using hm)]
    · simp
    · rw [← List.drop_drop, hb', List.drop_left]
    · simp; omega
theorem run_dec (id : String) (x : Str) (hx : x.length ≤ 1000) (h : ∀ c ∈ cl x, okc c) : runDecoder id utf8Decoder none true (u8 x) 0 [] = pure (x.cps, (u8 x).size) := by
  unfold runDecoder
  simp only [Std.Legacy.Range.forIn_eq_forIn_range', Std.Legacy.Range.size, Nat.sub_zero, Nat.add_sub_cancel, Nat.div_one]
  have hL : (u8 x).toList.drop 0 = u8L (cl x) := by rw [List.drop_zero, u8_list]
  have hlen : ∀ l : List Nat, l.length ≤ (u8L l).length := by
    intro l
    induction l with
    | nil => simp
    | cons a r ih =>
      have := (utf8Of_len a).1
      simp only [u8L, List.flatMap_cons, List.length_append, List.length_cons] at ih ⊢
      omega
  have hm : (cl x).length ≤ (List.range' 0 (u8 x).size).length := by
    rw [List.length_range']
    have h1 := hlen (cl x)
    rw [← u8_list] at h1
    simpa using h1
  have hxl : (#[] : Array Nat).size + (cl x).length ≤ 1000 := by rw [cl_length]; simpa using hx
  rw [dec_loop (u8 x) _ ?hs ?hd (cl x) _ 0 #[] _ h hL (Nat.zero_le _) hxl hm]
  case hs =>
    intro i p out st c h1 h2 h3
    have e1 : ¬ (out.size > sizeLine) := by rw [sizeLine_eq]; omega
    have e2 : ¬ (p ≥ (u8 x).size) := by omega
    have e3 : utf8Decoder.find true (u8 x) p = .text [c] (p + (Str.utf8Of c).length) := by
      unfold utf8Decoder
      dsimp only
      rw [h3]
      rfl
    simp only [if_neg e1, if_neg e2, e3]
  case hd =>
    intro i p out st h1 h2
    have e1 : ¬ (out.size > sizeLine) := by rw [sizeLine_eq]; omega
    simp only [if_neg e1, if_pos h2]
  simp
end Mine
end
section
namespace Mine
theorem fresh_FYenc : True := by
  k_with_none
  w_top off
  trivial
end Mine
open PySem PySem.W PyProof.Rows
namespace Mine
open PySem.Builtin PySem.Builtin._codecs
theorem enc_eq (x : Str) (t u : Tok) : «str.encode» ⟨[.str x t, .str (Str.ofString "utf-8") u], []⟩ = (do ret (← encodeRoad "str.encode" (.str x t) x (Str.ofString "utf-8") none)) := by kernel_rfl
section
variable {prog : Program} {w : World} {A : Around} {E : Value → Shared → Prop} {s : Shared} {x : Str} {t u : Tok} {Q : Value → Shared → Prop}
theorem enc_meth {pl : Sem Bool} {Q : Value × List Value → Shared → Prop} (h : Q (.builtin "str.encode", [.str x t]) s) : wpAny (model prog w) A (getMethod (.str x t) "encode" pl) Q E s :=
  getMethod_builtin (typeIs_str _ _ _) F.plainAttrs_str F.slot_str_encode F.type_str_encode (fun _ e => nomatch e) h
theorem enc_call (hx : x.length ≤ 1000) (hs : ∀ c ∈ cl x, Str.isSurrogate c = false) (h : ∀ t' k, Q (.bytes (u8 x) t') { s with toks := k }) :
    wpAny (model prog w) A (call (.builtin "str.encode") [.str x t, .str (Str.ofString "utf-8") u]) Q E s :=
  call_meets F.slot_str_encode (typeIs_str _ _ _) F.entry_str_encode (F.args_str_encode_2 _ _) (S := fun _ R s => ∀ t' k, R (.ok (.ret (.bytes (u8 x) t'))) { s with toks := k }) (by
    refine .of_wp fun prog w A R s hS => ?_
    rw [enc_eq, encodeRoad_utf8, enc_narrow _ _ x hx hs]
    have hz : (u8 x).size ≤ 16777216 := by have := u8_size x; omega
    refine wpAny_bind (wpAny_bind (wpAny_pure ?_))
    exact wpAny_mkBytes (wpAny_pure ⟨_, rfl, hS _ _⟩) (by rw [sizeLine_eq]; exact hz)) h
theorem dec_eq (c : UInt8) (cs : List UInt8) (t u : Tok) : «bytes.decode» ⟨[.bytes (c :: cs).toArray t, .str (Str.ofString "utf-8") u], []⟩ = (mkStr (PySem.Str.ofString "utf-8") >>= fun _ => mkStr (PySem.Str.ofString "utf-8") >>= fun e => mkStr (PySem.Str.ofString "bytes.decode") >>= fun d =>
    call (.builtin "_codecs.decode.text") [.bytes (c :: cs).toArray t, e, .none, d] >>= fun v => ret v) := by kernel_rfl
theorem dec_eq0 (t u : Tok) : «bytes.decode» ⟨[.bytes #[] t, .str (Str.ofString "utf-8") u], []⟩ = (rule "bytes.decode.empty" >>= fun _ => retStr Str.empty) := by kernel_rfl
theorem dec_args (a b : Value) : argsOk "bytes.decode" ⟨[a, b], []⟩ := by
  unfold argsOk; rw [signature?_of (id := "bytes.decode") (n := ['e', 'd', 'o', 'c', 'e', 'd']) (o := ['s', 'e', 't', 'y', 'b']) (by kernel_rfl) FB.owner_bytes]; kernel_rfl
theorem u8L_nil {l : List Nat} (h : u8L l = []) : l = [] := by
  cases l with
  | nil => rfl
  | cons a r =>
    have h1 := congrArg List.length h
    have h2 := (utf8Of_len a).1
    simp only [u8L, List.flatMap_cons, List.length_append, List.length_nil] at h1
    omega
theorem dec_call (hx : x.length ≤ 1000) (hs : ∀ c ∈ cl x, okc c) (h : ∀ t' k, Q (.str x t') { s with toks := k }) :
    wpAny (model prog w) A (call (.builtin "bytes.decode") [.bytes (u8 x) t, .str (Str.ofString "utf-8") u]) Q E s :=
  call_meets FB.slot_bytes_decode (typeIs_bytes _ _ _) FB.entry_bytes_decode (dec_args _ _) (S := fun _ R s => ∀ t' k, R (.ok (.ret (.str x t'))) { s with toks := k }) (by
    refine .of_wp fun prog w A R s hS => ?_
    obtain ⟨b, hb⟩ : ∃ b, (u8 x).toList = b := ⟨_, rfl⟩
    have hb2 : u8 x = b.toArray := by rw [← hb]
    cases b with
    | nil =>
      have e : x = Str.empty := by
        have h1 : u8L (cl x) = [] := by rw [← u8_list]; exact hb
        exact cl_inj (u8L_nil h1)
      subst e
      rw [hb2, dec_eq0]
      refine wpAny_bind (wpAny_rule ?_)
      exact wpAny_bind (wpAny_mkStr (wpAny_pure ⟨_, rfl, hS _ _⟩) (by decide))
    | cons c cs =>
      have hn : ∀ id, runDecoder id utf8Decoder none true (u8 x) 0 [] = pure (x.cps, (u8 x).size) := fun id => run_dec id x hx hs
      rw [hb2, dec_eq]
      refine wpAny_bind (wpAny_mkStr ?_ (by decide))
      refine wpAny_bind (wpAny_mkStr ?_ (by decide))
      refine wpAny_bind (wpAny_mkStr ?_ (by decide))
      exact wpAny_bind (call_function_meets KBd.kind_text KBd.plain_text KBd.entry_text (KBd.args_text _ _ _ _) (KBd.meets_text (hb2 ▸ hn)) ⟨by rw [sizeLine_eq]; omega, wpAny_pure ⟨_, rfl, hS _ _⟩⟩)) h
end
end Mine
end
section
namespace Mine
theorem fresh_FYwok : True := by
  k_with_none
  w_top off
  trivial
end Mine
open PySem PySem.W PyProof.Rows
namespace Mine
theorem out1_ok {c : Nat} (h : okc c) : (∀ d ∈ out1 c, okc d) ∧ (out1 c).length ≤ 2 := by
  unfold out1
  repeat (first | (split; · refine ⟨fun d hd => ?_, by simp⟩; simp only [List.mem_cons, List.not_mem_nil, or_false] at hd; rcases hd with rfl | rfl <;> exact .inl (by decide)))
  refine ⟨fun d hd => ?_, by simp⟩
  rw [List.mem_singleton] at hd
  subst hd; exact h
theorem wr_ok : ∀ (l : List Nat) (p : Bool), (∀ c ∈ l, okc c) → (∀ d ∈ wr p l, okc d) ∧ (wr p l).length ≤ 2 * l.length
  | [], p, _ => ⟨fun d hd => by rw [wr] at hd; (cases hd), by simp [wr]⟩
  | c :: r, p, h => by
    have ih := wr_ok r (c == 13) fun d hd => h d (List.mem_cons_of_mem _ hd)
    have ho := out1_ok (h c List.mem_cons_self)
    rw [wr]
    split
    · rw [List.nil_append]; exact ⟨ih.1, by have := ih.2; simp only [List.length_cons]; omega⟩
    · refine ⟨fun d hd => ?_, ?_⟩
      · rcases List.mem_append.mp hd with hd | hd
        · exact ho.1 d hd
        · exact ih.1 d hd
      · rw [List.length_append, List.length_cons]; have := ih.2; have := ho.2; omega
theorem rep2_ok (a b : Nat) (z : List Nat) (hz : (∀ d ∈ z, okc d) ∧ z.length ≤ 2) : ∀ l : List Nat, (∀ c ∈ l, okc c) → (∀ d ∈ rep2 a b z l, okc d) ∧ (rep2 a b z l).length ≤ l.length
  | [], _ => ⟨fun d hd => by rw [rep2] at hd; (cases hd), by simp [rep2]⟩
  | [x], h => ⟨fun d hd => by rw [rep2] at hd; exact h d hd, by simp [rep2]⟩
  | x :: y :: r, h => by
    rw [rep2]
    split
    · have ih := rep2_ok a b z hz r fun d hd => h d (List.mem_cons_of_mem _ (List.mem_cons_of_mem _ hd))
      refine ⟨fun d hd => ?_, ?_⟩
      · rcases List.mem_append.mp hd with hd | hd
        · exact hz.1 d hd
        · exact ih.1 d hd
      · rw [List.length_append, List.length_cons, List.length_cons]; have := ih.2; have := hz.2; omega
    · have ih := rep2_ok a b z hz (y :: r) fun d hd => h d (List.mem_cons_of_mem _ hd)
      refine ⟨fun d hd => ?_, ?_⟩
      · rcases List.mem_cons.mp hd with rfl | hd
        · exact h _ List.mem_cons_self
        · exact ih.1 d hd
      · rw [List.length_cons, List.length_cons]; have := ih.2; omega
theorem writS_ok {x : Str} (h : ∀ c ∈ cl x, okc c) : (∀ c ∈ cl (writS x), okc c) ∧ (writS x).length ≤ 2 * x.length := by
  have h1 := rep2_ok 92 78 [10] ⟨by intro d hd; rw [List.mem_singleton] at hd; subst hd; exact .inl (by decide), by simp⟩ (cl x) h
  have h2 := wr_ok _ false h1.1
  have e : cl (writS x) = wr false (rep2 92 78 [10] (cl x)) := rfl
  refine ⟨by rw [e]; exact h2.1, ?_⟩
  rw [← cl_length, e]
  have := h1.2
  have := h2.2
  have := cl_length x
  omega
theorem pieces_okc : ∀ y ∈ pieces, ∀ c ∈ cl y, okc c := by unfold okc; decide +kernel
theorem okc_sur {c : Nat} (h : okc c) : Str.isSurrogate c = false := by
  unfold Str.isSurrogate
  rcases h with h | rfl | rfl | rfl
  · simp; omega
  all_goals decide
end Mine
end
section
namespace Mine
theorem fresh_FYcd : True := by
  k_with_none
  w_top off
  trivial
end Mine
open PySem PySem.W PySem.W.X PyProof.Rows
namespace Mine
open PySem.Spec PySem.Calls
theorem wp_weaken {α : Type} {M : Model} {A : Around} {D U : Nat} {t : Sem α} {Q : α → Shared → Prop} {E : Value → Shared → Prop} {s : Shared} (hd : A.depth ≤ D) (hu : A.units ≤ U) (h : wpAny M ⟨A.handled, D, A.frames, A.guards, U⟩ t Q E s) : wpAny M A t Q E s :=
  fun Γ p hΓ => h Γ p ⟨hΓ.1, Nat.le_trans hΓ.2.1 hd, hΓ.2.2.1, hΓ.2.2.2.1, Nat.le_trans hΓ.2.2.2.2 hu⟩
theorem mem_keep {h h' : Heap} {news : List (Addr × Obj)} (D : Mem h h' [] news) {b : Addr} {o : Obj} (e : h.get? b = some o) : h'.get? b = some o := D.keep b o e (by simp [away])
theorem mem_fr {h₀ h h' : Heap} {L : Addr} {m : Str → Option Value} {news : List (Addr × Obj)} (D : Mem h h' [] news) (F : Fr h₀ L h m) : Fr h₀ L h' m := by
  obtain ⟨oL, es, ep, hL, r⟩ := F.ns
  exact ⟨⟨oL, es, ep, mem_keep D hL, r⟩, fun b x q => mem_keep D (F.keep b x q), F.above⟩
theorem mem_news {h₀ h h' : Heap} {L : Addr} {own news : List (Addr × Obj)} (D : Mem h h' [] own) (N : News h₀ L h news) : News h₀ L h' news := fun p hp => ⟨mem_keep D (N p hp).1, (N p hp).2⟩
set_option hygiene false in
local macro_rules | `(tactic| x_close) => `(tactic| (exact hret _ _ _ (by first | assumption | exact Mem.start _)))
theorem cd_meth0 {w : World} {h : Heap} {g : Array GenState} {dr : Drawn} {tk : Nat} {os : OsState} {fr : Option (List Env)} {gu : Option (List Code)} {q b a2 : Addr} (X : (hd.heap_39 w.params).In h) (hq : h.get? q = some ⟨.type "method", none, .fields #[.ref 107, .ref b], #[]⟩) (hb : h.get? b = some ⟨.ref 330, some a2, .dict #[] 0, #[]⟩) (hb2 : h.get? a2 = some ⟨.type "dict", none, .dict #[] 0, #[]⟩) (Q E : Value → Shared → Prop)
    (hret : ∀ h' tk' news, Mem h h' [] news → Q .none ⟨h', g, dr, tk', os⟩) :
    wpAny (model PySem.Challenge.rw_fy0022_01.row.prog w) ⟨none, 500, fr, gu, 6000⟩ (call (.ref q) []) Q E ⟨h, g, dr, tk, os⟩ := by
  x_run
end Mine
end
section
namespace Mine
theorem fresh_FYpe : True := by
  k_with_none
  w_top off
  trivial
end Mine
open PySem PySem.W PyProof.Rows
namespace Mine
open PySem.Spec PySem.Calls PyProof.V
abbrev cellObj (v : Option Value) : Obj := { cls := .type "cell", data := .cell v }
section
variable {prog : Program} {w : World} {A₀ A : Around} {s : Shared} {base h₀ : Heap} {outer : List Env} {L : Addr} {m mg mb : Str → Option Value} {env : Env} {news : List (Addr × Obj)} {K : Frag} {p : Program} {loose : List Str} {mean : ExcName → Option Value}
  {R : Result → Shared → Prop} {name qual : Str} {params : Arguments} {body : List Stmt} {scope : Scope} {cl : List (Str × Addr)} {dV kV doc pm cdv ct oc : Value} {an od : Option Addr} {osl : Array (Option Value)} {f : Addr} {args : Args}
/-- the frame of a def with two locals that are bound, one own cell and a closure -/
theorem cell_frame {E : Value → Shared → Prop} {x1 x2 x3 : Str} {v1 v2 v3 : Value} (B : Below A₀ base outer h₀) (F : Fr h₀ L s.heap m) (N : News h₀ L s.heap news) (hlim : h₀.NoLimit) (hA : A.frames = some (env :: outer)) (hf : env.frame = some L) (hke : env.scope.kind = .function)
    (hcf : ∀ n, cellsFrom n scope.names cl = (x3, n) :: cl) (hpc : ∀ h, pushCells h scope.names = h.push (cellObj none))
    (h1 : scope.names.lookup x1 = some .local) (h2 : scope.names.lookup x2 = some .local) (h3 : scope.names.lookup x3 = some .cell)
    (h : ∀ g L' c co h₁ tk, co.data = .cell (some v3) → Fr h₀ L g m → Fr g L' h₁ (fun y => if y = x2 then some v2 else if y = x1 then some v1 else none) → News g L' h₁ ((c, co) :: news) → Below A base (env :: outer) g → h₀.StaysIn g → (∀ p ∈ news, p.1 < L') → L' < c →
      _root_.PySem.wpAt (model prog w) (A.deeper (envX qual scope L' f cdv ((x3, c) :: cl))) (.func body (envX qual scope L' f cdv ((x3, c) :: cl))) (execs body (envX qual scope L' f cdv ((x3, c) :: cl)))
        (fun fl s' => LeaveK h₀ L m g R (match fl with | .ret v => v | _ => .none) s')
        (fun e s' => wpAny (model prog w) (A.deeper (envX qual scope L' f cdv ((x3, c) :: cl))) (leaving (envX qual scope L' f cdv ((x3, c) :: cl)) e) (fun _ s'' => R (.error e) s'') (fun e' s'' => R (.error e') s'') s')
        { s with heap := h₁, toks := tk })
    (hk : scope.kind = .function) :
    wpAny (model prog w) A.in1 (newFunctionEnv scope mainGlobals cl [(x1, v1), (x2, v2), (x3, v3)] (qual ++ ".<locals>.") (some f) cdv none builtinsNs) (fun env' s₂ => s₂.heap.NoLimit ∧ codeAny (model prog w) A (.func body env') R s₂) E s := by
  obtain ⟨FG, BG, st, lv⟩ := groundX (R := R) B F N hA hf hke
  have kp : ∀ b o, (hideAll s.heap (news.map (·.1))).get? b = some o → s.heap.get? b = some o := fun b o e => of_hideAll _ e
  have hsz : (hideAll s.heap (news.map (·.1))).objs.size = s.heap.objs.size := hideAll_size _ _
  have nl : ∀ p ∈ news, p.1 < s.heap.objs.size := fun p hp => Heap.lt_size (N p hp).1
  have hN : ∀ p ∈ news, (hideAll s.heap (news.map (·.1))).get? p.1 = none := fun p hp => hideAll_none _ (List.mem_map_of_mem hp)
  generalize hideAll s.heap (news.map (·.1)) = g at FG BG st lv kp hsz hN
  simp only [newFunctionEnv, Option.isSome_none, Bool.false_eq_true, if_false]
  refine wpAny_bind (wpAny_alloc ?_)
  refine wpAny_bind (wpAny_layCells _ (fun name kind cells => by cases hkc : kind == NameKind.cell <;> simp [hkc]) _ _ _ _ ?_)
  rw [hcf, hpc]
  rw [show ({ s with heap := s.heap.push { cls := .type "frame", data := .dict #[] } } : Shared).heap.objs.size = s.heap.objs.size + 1 from Heap.size_push ..]
  have hns : ((s.heap.push { cls := .type "frame", data := .dict #[] }).push (cellObj none)).Ns s.heap.objs.size (fun _ => none) := (Heap.Ns.new s.heap (.type "frame")).keeps fun b o e => Heap.get?_push_of_some _ e
  have F1 : Fr g s.heap.objs.size ((s.heap.push { cls := .type "frame", data := .dict #[] }).push (cellObj none)) (fun _ => none) :=
    ⟨hns, fun b o e => Heap.get?_push_of_some _ (Heap.get?_push_of_some _ (kp b o e)), Nat.le_of_eq hsz⟩
  have N1 : News g s.heap.objs.size ((s.heap.push { cls := .type "frame", data := .dict #[] }).push (cellObj none)) ((s.heap.objs.size + 1, cellObj none) :: news) := by
    intro p hp
    rcases List.mem_cons.mp hp with rfl | hp
    · refine ⟨?_, Nat.succ_ne_self _, ?_⟩
      · have := Heap.get?_push_size (s.heap.push { cls := .type "frame", data := .dict #[] }) (o := cellObj none) rfl
        rwa [Heap.size_push] at this
      · cases q : g.get? (s.heap.objs.size + 1) with
        | none => rfl
        | some o => have := Heap.lt_size q; rw [hsz] at this; exact absurd this (Nat.not_lt.mpr (Nat.le_succ _))
    · exact ⟨Heap.get?_push_of_some _ (Heap.get?_push_of_some _ (N p hp).1), Nat.ne_of_lt (nl p hp), hN p hp⟩
  have hx : ∀ y k, scope.names.lookup y = some k → (envX qual scope s.heap.objs.size f cdv ((x3, s.heap.objs.size + 1) :: cl)).kindOf y = some k := fun y k e => e
  refine wpAny_bind ?_
  rw [List.forIn_cons]
  refine wpAny_bind (wpAny_bind (storeX_L F1 N1 (fun h' F2 N2 => wpAny_pure ?_) hk (hx _ _ h1)))
  dsimp only
  rw [List.forIn_cons]
  refine wpAny_bind (wpAny_bind (storeX_L F2 N2 (fun h' F3 N3 => wpAny_pure ?_) hk (hx _ _ h2)))
  dsimp only
  rw [List.forIn_cons]
  refine wpAny_bind (wpAny_bind (storeX_C (c := s.heap.objs.size + 1) (g := fun o => (s.heap.objs.size + 1, o) :: news) F3 N3 (by rw [List.lookup_cons, beq_self_eq_true]) (UpdF.head fun p hp => Nat.ne_of_lt (Nat.lt_succ_of_lt (nl p hp))) rfl (fun h' o' F4 N4 hd => wpAny_pure ?_) hk (hx _ _ h3)))
  dsimp only
  rw [List.forIn_nil]
  refine wpAny_pure (wpAny_pure ⟨?_, ks_codeAny_funcAt ?_⟩)
  · exact (hlim.keeps FG.keep).keeps F4.keep
  · exact ks_wpAt_mono (h g s.heap.objs.size (s.heap.objs.size + 1) o' h' _ hd FG F4 N4 BG st nl (Nat.lt_succ_self _)) (fun fl s' hl => lv _ _ hl) fun _ _ y => y
theorem cell_both {env : Env} {outer : List Env} {R : Result → Shared → Prop} {name qual : Str} {params : Arguments} {body : List Stmt} {scope : Scope} {cl : List (Str × Addr)} {dV kV doc pm cdv ct oc : Value} {an od : Option Addr} {osl : Array (Option Value)} {f : Addr} {args : Args} {vs : List Value} {x1 nm nr : Str} {v1 : Value} {g₁ : Addr → Sem (List (Str × Value))} {g₂ : Addr → Addr → Sem (List (Str × Value))}
    (B : Below A₀ base outer h₀) (F : Fr h₀ L s.heap m) (X₀ : K.In h₀) (N : News h₀ L s.heap news) (T : Top p loose mean mg mb h₀) (hA : A.frames = some (env :: outer)) (hf : env.frame = some L) (hke : env.scope.kind = .function)
    (ho : K.lookup f = some ⟨oc, od, .func (fnX name qual params body scope cl dV kV doc pm an cdv ct), osl⟩) (hcd : codeIn K cdv qual = true) (hroom : A.depth < recursionLimit)
    (hv : args.pos.drop (params.posonlyargs.length + params.args.length) = vs) (hnr : params.vararg.map (·.arg) = some nr) (hnm : params.kwarg.map (·.arg) = some nm)
    (hp : peekA K ⟨prog, w.params⟩ (bindArgs (fnX name qual params body scope cl dV kV doc pm an cdv ct) args) = some (({ cls := .type "tuple", data := .seq vs.toArray } : Obj), g₁))
    (hp₂ : ∀ D, peekA K ⟨prog, w.params⟩ (g₁ D) = some (dictOf [] 0, g₂ D))
    (hk₂ : ∀ C D, g₂ C D = (forIn ([] : List (Str × Value)) PUnit.unit (fun x _ => (nsSet D x.1 x.2 >>= fun _ => pure (ForInStep.yield PUnit.unit))) >>= fun _ => pure [(x1, v1), (nr, Value.ref C), (nm, Value.ref D)]))
    (hcf : ∀ n, cellsFrom n scope.names cl = (nm, n) :: cl) (hpc : ∀ h, pushCells h scope.names = h.push (cellObj none))
    (h1 : scope.names.lookup x1 = some .local) (h2 : scope.names.lookup nr = some .local) (h3 : scope.names.lookup nm = some .cell)
    (h : ∀ C D o g L' c co h₁ tk, (∀ p ∈ news, p.1 < C) → C < D → D < c → (D == sysModules) = false → o.IsDictOf (strKind prog w) [] → FlatPairs PyData.str [] [] → o = dictOf [] 0 → co.data = .cell (some (.ref D)) → Fr h₀ L g m → Fr g L' h₁ (fun y => if y = nr then some (.ref C) else if y = x1 then some v1 else none) →
      News g L' h₁ ((c, co) :: (D, o) :: (C, ({ cls := .type "tuple", data := .seq vs.toArray } : Obj)) :: news) → Below A base (env :: outer) g → K.In g → Top p loose mean mg mb g →
      _root_.PySem.wpAt (model prog w) (A.deeper (envX qual scope L' f cdv ((nm, c) :: cl))) (.func body (envX qual scope L' f cdv ((nm, c) :: cl))) (execs body (envX qual scope L' f cdv ((nm, c) :: cl)))
        (fun fl s' => LeaveK h₀ L m g R (match fl with | .ret v => v | _ => .none) s')
        (fun e s' => wpAny (model prog w) (A.deeper (envX qual scope L' f cdv ((nm, c) :: cl))) (leaving (envX qual scope L' f cdv ((nm, c) :: cl)) e) (fun _ s'' => R (.error e) s'') (fun e' s'' => R (.error e') s'') s')
        { s with heap := h₁, toks := tk })
    (hco : scope.isCoroutine = false) (hgen : scope.isGenerator = false) (hk : scope.kind = .function) : codeAny (model prog w) A (.call (.ref f) args) R s := by
  have _ := hv
  have _ := hnr
  have _ := hnm
  refine codeAny_call_function (fd := fnX name qual params body scope cl dV kV doc pm an cdv ct) (body := body) hroom ((X₀.keeps F.keep) _ _ ho) rfl hco hgen rfl (codeRec_of (X₀.keeps F.keep) hcd) ?_
  refine wp_of_peekA (o := ({ cls := .type "tuple", data := .seq vs.toArray } : Obj)) F N (X₀.keeps F.keep) rfl _ g₁ hp fun h' F' N' l => ?_
  refine wp_of_peekA (s := { s with heap := h' }) (o := dictOf [] 0) F' N' (X₀.keeps F'.keep) rfl _ (g₂ s.heap.objs.size) (hp₂ _) fun h'' F'' N'' l' => ?_
  rw [hk₂, List.forIn_nil]
  refine wpAny_bind (wpAny_pure (wpAny_pure ?_))
  exact cell_frame (cl := cl) (s := { s with heap := h'' }) B F'' N'' T.nolimit hA hf hke hcf hpc h1 h2 h3
    (fun g L' c co h₁ tk hd FG FL NG BG st nl hc => h _ _ _ g L' c co h₁ tk l (l' _ (.head _)) (Nat.lt_trans (nl _ (.head _)) hc) (F'.notModules (modules_low T.nolimit)) (kp_isDict (ex := []) s.toks 0 List.nodup_nil) .nil rfl hd FG FL NG BG (X₀.keeps st) (T.keeps st)) hk
end
end Mine
end
section
namespace Mine
theorem fresh_FYsup : True := by
  k_with_none
  w_top off
  trivial
end Mine
open PySem PySem.W PyProof.Rows
namespace Mine
open PySem.Spec PySem.Calls PyProof.V
section
variable {prog : Program} {w : World} {A : Around} {E : Value → Shared → Prop} {s : Shared}
theorem merge_none {d D : Addr} {Q : Unit → Shared → Prop} (hd : s.heap.get? d = some emptyDict) (hD : s.heap.get? D = some (dictOf [] 0)) (hs : (D == sysModules) = false) (h : Q () s) : wpAny (model prog w) A (mergeMapping d (.ref D) true) Q E s := by
  have hT : s.TypeIs (.ref D) "dict" := ⟨_, hD, rfl⟩
  unfold mergeMapping
  refine wpAny_bind (wpAny_isInstance hT isSubtype_dict_dict ?_)
  dsimp only
  simp only [if_true]
  refine wpAny_bind (wpAny_specialOf hT PySem.F.slot_dict_iter.lookup (wpAny_bind (wpAny_pure ?_)))
  simp only [beq_self_eq_true, hs, Bool.false_eq_true, if_false]
  refine wpAny_bind (wpAny_dictEntries hd rfl ?_)
  simp only [Array.isEmpty_empty, if_true]
  refine wpAny_bind (wpAny_dictEntries hD rfl (wpAny_bind ?_))
  refine wpAny_of_eq (a := PUnit.unit) (by rw [← Array.forIn_toList]; exact List.forIn_nil ..) (wpAny_bind (wpAny_dictEntries hD rfl (wpAny_bind (wpAny_dictEpoch hD rfl ?_))))
  simp only [List.size_toArray, List.length_nil, List.range_zero, List.forIn_nil]
  exact wpAny_pure h
variable {h₀ : Heap} {L : Addr} {m : Str → Option Value} {news : List (Addr × Obj)} {K : Frag} {cn : Str} {cs : Scope} {a : Addr} {ccd : Value} {cl : List (Str × Addr)}
abbrev noTup : Obj := { cls := .type "tuple", data := .seq #[] }
theorem kw_none {f : Value} {D c : Addr} {co : Obj} {xk : Str} {pk pos : Pos} {Q : Addr → Shared → Prop} (F : Fr h₀ L s.heap m) (N : News h₀ L s.heap news)
    (hcl : cl.lookup xk = some c) (hc : (c, co) ∈ news) (hco : co.data = .cell (some (.ref D))) (hD : (D, dictOf [] 0) ∈ news) (hs : (D == sysModules) = false)
    (hk : cs.kind = .function) (hx : (envX cn cs L a ccd cl).kindOf xk = some .cell) (hb : (xk == ("__debug__" : Str)) = false)
    (h : ∀ d h', Fr h₀ L h' m → News h₀ L h' ((d, emptyDict) :: news) → Q d { s with heap := h' }) :
    wpAny (model prog w) A (mergedKeywords f [(none, (do let v ← eval (.Name xk pk) (envX cn cs L a ccd cl); standAt pos; pure v))]) Q E s := by
  have F' := F.push emptyDict
  have N' := N.push F emptyDict rfl
  unfold mergedKeywords
  refine wpAny_bind (wpAny_alloc (wpAny_bind (wpAny_holding ?_)))
  dsimp only
  rw [List.forIn_cons]
  dsimp only
  refine wpAny_bind (wpAny_bind (wpAny_bind ?_))
  rw [if_pos (show ([] : List (Str × Sem Value)).isEmpty = true from rfl)]
  refine wpAny_pure (wpAny_bind (wpAny_bind (nameX_C (c := c) (o := co) N' hcl (.tail _ hc) hco (wpAny_bind (wpAny_standAt (wpAny_pure ?_))) hk hx hb)))
  refine wpAny_bind (wpAny_onRaise (wpAny_holding (wpAny_tryCatch (wpAny_onRaise (merge_none (N'.get (.head _)) (N'.get (.tail _ hD)) hs ?_)))))
  refine wpAny_pure ?_
  dsimp only
  rw [List.forIn_nil]
  refine wpAny_pure ?_
  rw [if_pos (show ([] : List (Str × Sem Value)).isEmpty = true from rfl)]
  exact wpAny_pure (wpAny_pure (h _ _ F' N'))
theorem star_call {C D c q f x : Addr} {co : Obj} {xa xk : Str} {pa ps pk pkw pos : Pos} {Q : Value → Shared → Prop} (F : Fr h₀ L s.heap m) (N : News h₀ L s.heap news) (X : K.In h₀)
    (ha : m xa = some (.ref C)) (hka : (envX cn cs L a ccd cl).kindOf xa = some .local) (hba : (xa == ("__debug__" : Str)) = false) (hC : (C, noTup) ∈ news)
    (hcl : cl.lookup xk = some c) (hc : (c, co) ∈ news) (hco : co.data = .cell (some (.ref D))) (hD : (D, dictOf [] 0) ∈ news) (hs : (D == sysModules) = false)
    (hk : cs.kind = .function) (hx : (envX cn cs L a ccd cl).kindOf xk = some .cell) (hb : (xk == ("__debug__" : Str)) = false)
    (hq : (q, methodObj (.ref f) (.ref x)) ∈ news) (hfn : fnIn K f = true)
    (h : ∀ h', Fr h₀ L h' m → News h₀ L h' news → wpAny (model prog w) A (call (.ref q) []) Q E { s with heap := h' }) :
    wpAny (model prog w) A (callWith pos (.ref q) [] (backTo pos (starEach [.Starred (.Name xa pa) ps] (envX cn cs L a ccd cl))) (backToKw pos (keywordEach [⟨none, .Name xk pk, pkw⟩] (envX cn cs L a ccd cl)))) Q E s := by
  show wpAny (model prog w) A (callWith pos (.ref q) [] [(true, do let v ← eval (.Name xa pa) (envX cn cs L a ccd cl); standAt pos; pure v)] [(none, (do let v ← eval (.Name xk pk) (envX cn cs L a ccd cl); standAt pos; pure v))]) Q E s
  unfold callWith
  refine wpAny_bind (wpAny_holding ?_)
  unfold evalArgs
  dsimp only
  refine wpAny_bind (wpAny_bind (nameX_L F ha (wpAny_bind (wpAny_standAt (wpAny_pure (wpAny_bind (wpAny_pure ?_))))) hk hka hba))
  refine wpAny_holding ?_
  dsimp only
  rw [if_neg (by simp)]
  refine wpAny_bind (kw_none F N hcl hc hco hD hs hk hx hb fun d h' F1 N1 => ?_)
  have S := star_seq (prog := prog) (w := w) (A := A) (E := E) (s := { s with heap := h' }) (Q := fun ws s' => ws = [] ∧ ∃ h2, s' = { s with heap := h2 } ∧ Fr h₀ L h2 m ∧ News h₀ L h2 ((d, emptyDict) :: news)) F1 N1 (.tail _ hC) rfl rfl (.inr rfl) rfl (Nat.zero_le _) (fun h2 F2 N2 => ⟨rfl, h2, rfl, F2, N2⟩)
  unfold StarOf at S
  refine wpAny_bind (wpAny_bind (wpAny_mono S (fun b s2 q2 => ?_) fun _ _ z => z))
  obtain ⟨rfl, q2⟩ := q2
  rw [if_neg Bool.false_ne_true]
  refine wpAny_holding (wpAny_mono q2 (fun ws s3 q3 => ?_) fun _ _ z => z)
  obtain ⟨rfl, h2, rfl, F2, N2⟩ := q3
  refine wpAny_bind (wpAny_holding ?_)
  unfold keywordsIn
  refine wpAny_bind (wpAny_dictEntries (N2.get (.head _)) rfl (wpAny_bind ?_))
  refine wpAny_of_eq (a := []) (by rw [← Array.forIn_toList]; exact List.forIn_nil ..) (wpAny_pure (wpAny_pure (wpAny_bind (wpAny_standAt ?_))))
  have N3 : News h₀ L h2 news := fun p hp => N2 p (.tail _ hp)
  obtain ⟨k, hk', L2⟩ := keeps_M (M := model prog w) (q := q) (self := .ref x) hfn h2 ⟨N3.get hq, X.keeps F2.keep⟩
  refine wpAny_bind (L2.here (s := { s with heap := h2 }) ?_)
  have tail : ∀ {t : Sem Value}, wpAny (model prog w) A t Q E { s with heap := h2 } → wpAny (model prog w) A (t >>= fun r => holding [r] point >>= fun _ => pure r) Q E { s with heap := h2 } :=
    fun ht => wpAny_bind (wpAny_mono ht (fun r s₂ hr => wpAny_bind (wpAny_holding (wpAny_point (wpAny_pure hr)))) fun _ _ x => x)
  have hh := h h2 F2 N3
  have marked (mk : Value) : wpAny (model prog w) A (callMarked mk (.ref q) [] []) Q E { s with heap := h2 } := by unfold callMarked; exact Calls.wpAny_keep hh
  rcases hk' with rfl | rfl | rfl <;> dsimp only <;> first | exact tail (marked _) | exact tail (wpAny_operating hh)
theorem method_star_at {M : Model} {c : Code} {env : Env} {o : Expr} {name : Str} {apos pos : Pos} {args : List Expr} {kws : List Keyword} {Q : Value → Shared → Prop}
    (h : _root_.PySem.wpAt M A c (attributeBase o name env (eval o env)) (fun ov s₁ => wpAny M A (getAttr ov name true) (fun f s₂ => wpAny M A (callWith pos f [] (backTo pos (starEach args env)) (backToKw pos (keywordEach kws env))) Q E s₂) E s₁) E s)
    (hf : methodCallForm (args.length + kws.length) (backTo pos (starEach args env)) (backToKw pos (keywordEach kws env)) = false) :
    _root_.PySem.wpAt M A c (eval (.Call (.Attribute o name apos) args kws pos) env) Q E s := by
  have he : eval (.Call (.Attribute o name apos) args kws pos) env = (do
      let ov ← attributeBase o name env (eval o env)
      standAt apos.atName
      methodCall o name apos pos env ov (args.length + kws.length) (backTo pos (starEach args env)) (backToKw pos (keywordEach kws env))) := by rfl
  rw [he]
  refine _root_.PySem.wpAt_bind (ks_wpAt_mono h (fun ov s₁ h₁ => _root_.PySem.wpAt_of_wpAny (wpAny_bind (wpAny_standAt ?_))) fun _ _ x => x)
  unfold methodCall
  rw [hf]
  unfold calleeOf methodCallPos
  simp only [Bool.false_eq_true, if_false, Bool.not_false, Bool.true_or, if_true]
  exact wpAny_bind (wpAny_holding (wpAny_bind (wpAny_mono h₁ (fun f s₂ h₂ => wpAny_pure (wpAny_bind (wpAny_pure h₂))) fun _ _ x => x)))
theorem super_attr {so D x C f : Addr} {ox : Obj} {odx : Option Obj} {name : Str} {Q : Value → Shared → Prop} (F : Fr h₀ L s.heap m) (X₀ : K.In h₀) (N : News h₀ L s.heap news) (hso : (so, ks_superObj D x C) ∈ news) (I : InstAt s.heap x ox C odx) (ho : nsIn K cStatics "thirdparty.any" = some none)
    (hm : ks_superIn K C D name = some (some (.ref f))) (ht : typeIn K (.ref f) = some (.type "function")) (hn : (name == ("__class__" : Str)) = false)
    (h : ∀ q h', Fr h₀ L h' m → News h₀ L h' ((q, methodObj (.ref f) (.ref x)) :: news) → (∀ p ∈ news, p.1 < q) → Q (.ref q) { s with heap := h', toks := s.toks + 1 }) : wpAny (model prog w) A (getAttr (.ref so) name true) Q E s := by
  have X : K.In s.heap := X₀.keeps F.keep
  obtain ⟨hh, g, d, t, os⟩ := s
  cases hc : clsIn K C with
  | none => unfold ks_superIn at hm; rw [hc] at hm; cases hm
  | some cd =>
    unfold ks_superIn at hm
    rw [hc] at hm
    obtain ⟨of, hof, hofc⟩ : ∃ of, hh.get? f = some of ∧ of.cls = .type "function" := by
      have ht' : (K.lookup f).map (·.cls) = some (.type "function") := ht
      cases z : K.lookup f with
      | none => rw [z] at ht'; cases ht'
      | some of => rw [z] at ht'; exact ⟨of, X _ _ z, Option.some.inj ht'⟩
    have hlk := PySem.F.ks_slot_super_ga.lookup
    have hT : ∀ t', (⟨hh, g, d, t', os⟩ : Shared).TypeIs (.ref so) "super" := fun _ => ⟨_, (N _ hso).1, rfl⟩
    have hC : Looks (model prog w) hh (mroOf (.ref C)) cd.mro := fun A Q E s k q => wpAny_bind ((looks_clsIn X hc) A _ E s k (wpAny_pure q))
    unfold getAttr getAttrBy
    refine wpAny_bind (wpAny_mkText (wpAny_holding (wpAny_bind (wpAny_typeOf (hT _) (wpAny_bind (wpAny_of_eq hlk ?_))))))
    show wpAny _ _ (getAttrByItsOwn (.ref so) (.str name t) (.type "super") (.builtin "super.__getattribute__") true true) _ _ _
    unfold getAttrByItsOwn hookBefore callGetattribute boundAndCalled
    refine wpAny_bind (wpAny_of_eq (show (if onTheHeap (.type "super") then typeLookup (.type "super") "__getattr__" else pure none) = pure none from rfl) ?_)
    refine wpAny_bind (wpAny_attempt (wpAny_holding ?_))
    show wpAny _ _ (bindSpecial (.builtin "super.__getattribute__") (.ref so) >>= _) _ _ _
    refine wpAny_bind (wpAny_of_eq (PySem.F.ks_slot_super_ga.bind _) ?_)
    refine wpAny_mono (Q := fun v s' => v = .ref hh.objs.size ∧ s' = ⟨hh.push { cls := .type "method", data := .fields #[.ref f, .ref x] }, g, d, t + 1, os⟩) (E := fun _ _ => False)
      (wpAny_call_entry PySem.F.ks_slot_super_ga (hT _) PySem.F.ks_entry_super_ga (ks_wpAny_super_ga (N _ hso).1 (looks_opaque X ho) hC rfl X hm hof hofc (ks_ne X I hc) hn ⟨_, rfl, rfl, rfl⟩) (PySem.F.ks_gaArgs_super _ _)) (fun v s' hv => ?_) fun _ _ z => z.elim
    obtain ⟨rfl, rfl⟩ := hv
    obtain ⟨F', N', l'⟩ := ks_newsPush (s := ⟨hh, g, d, t, os⟩) (o := methodObj (.ref f) (.ref x)) F N rfl (Heap.get?_push_at rfl rfl) (fun b o e => Heap.get?_push_of_some _ e)
    exact wpAny_pure (h _ _ F' N' l')
/-- super() within a method whose frame has cells of its own: the call of the type is what is left -/
theorem super_frame {mg mb : Str → Option Value} {p : Program} {loose : List Str} {mean : ExcName → Option Value} {f D cc cda : Addr} {self : Value} {body : List Stmt} {q : Str} {p0 p1 : Pos} {attr : Str} {whole : Sem Value} {fd : FuncData} {ar : Arg} {vs : Array Value} {file : Str} {tf : Tok} {oc ccl cll : Value} {od cdd cld : Option Addr} {osl ccs csl : Array (Option Value)} {cdD : ClassData} {Q : Value → Shared → Prop}
    (F : Fr h₀ L s.heap m) (X₀ : K.In h₀) (T : Top p loose mean mg mb h₀)
    (hf : K.lookup f = some ⟨oc, od, .func fd, osl⟩) (hp : (fd.params.posonlyargs ++ fd.params.args).head? = some ar) (hv : m ar.arg = some self)
    (hcode : K.lookup cda = some ⟨ccl, cdd, .fields vs, ccs⟩) (hvs : vs[2]? = some (.str file tf)) (hfile : ((prog.main.file : Str) == file) = true)
    (hlook : cl.lookup ("__class__" : Str) = some cc) (hcell : K.lookup cc = some ⟨cll, cld, .cell (some (.ref D)), csl⟩) (hD : clsIn K D = some cdD) (hsuper : nsIn K mainGlobals "super" = some none)
    (hat : (attr == ("__class__" : Str)) = false) (hks : cs.names.lookup ("super" : Str) = some .globalImplicit) (hkc : cs.names.lookup ("__class__" : Str) = some .free) (hka : cs.names.lookup ar.arg = some .local) (hk : cs.kind = .function)
    (htop : (prog.main.scope.names.lookup ("super" : Str)).isSome = false) (hboot : bootBuiltins "super" = some (.type "super"))
    (h : wpAny (model prog w) A (call (.type "super") [.ref D, self]) Q E s) :
    _root_.PySem.wpAt (model prog w) A (.func body (envX q cs L f (.ref cda) cl)) (attributeBase (.Call (.Name "super" p0) [] [] p1) attr (envX q cs L f (.ref cda) cl) whole) Q E s := by
  have X : K.In s.heap := X₀.keeps F.keep
  obtain ⟨hh, g, d, t, os⟩ := s
  obtain ⟨oD, hD1, hD2⟩ : ∃ oD, hh.get? D = some oD ∧ oD.data = .cls cdD := by
    unfold clsIn at hD
    split at hD
    · rename_i c d cd' sl ho
      cases hD
      exact ⟨_, X _ _ ho, rfl⟩
    · cases hD
  refine ks_wpAt_super_base (env := envX q cs L f (.ref cda) cl) hks hkc hat rfl (X _ _ hf) rfl hp rfl (X _ _ hcode) rfl hvs hfile htop ?_
  refine ks_loadName_global hk hks (loadGlobal_builtin (env := envX q cs L f (.ref cda) cl) (T.g.keeps F.keep) (mg_none_of X₀ T.g hsuper) (T.b.keeps F.keep) ((T.builtins _ (by decide +kernel)).trans hboot) ⟨rfl, ?_⟩)
  refine wpAny_loadName_free hk hkc hlook ⟨_, X _ _ hcell, rfl⟩ ?_
  refine wpAny_loadName_local hk hka F.ns hv ?_
  exact ks_wpAny_isType_cls hD1 hD2 ⟨rfl, h⟩
theorem super_inst {x C D : Addr} {ox : Obj} {odx : Option Obj} {cdD : ClassData} {Q : Value → Shared → Prop} (F : Fr h₀ L s.heap m) (X₀ : K.In h₀) (N : News h₀ L s.heap news) (I : InstAt s.heap x ox C odx) (hD : clsIn K D = some cdD) (hsub : mroIn K C (.ref D) = some true)
    (h : ∀ so h', Fr h₀ L h' m → News h₀ L h' ((so, ks_superObj D x C) :: news) → (∀ p ∈ news, p.1 < so) → Q (.ref so) { s with heap := h' }) :
    wpAny (model prog w) A (call (.type "super") [.ref D, .ref x]) Q E s := by
  have X : K.In s.heap := X₀.keeps F.keep
  obtain ⟨hh, g, d, t, os⟩ := s
  obtain ⟨oD, hD1, hD2⟩ : ∃ oD, hh.get? D = some oD ∧ oD.data = .cls cdD := by
    unfold clsIn at hD
    split at hD
    · rename_i c d cd' sl ho
      cases hD
      exact ⟨_, X _ _ ho, rfl⟩
    · cases hD
  refine ks_wpAny_call_super hD1 hD2 I.at_ I.cls (fun c e => ?_) (looks_mroIn X hsub) (fun h' e k => ?_)
  · have := I.no
    unfold notCls at this
    rw [e] at this
    exact Bool.noConfusion this
  · obtain ⟨F', N', l'⟩ := ks_newsPush (s := ⟨hh, g, d, t, os⟩) F N rfl e k
    exact h _ _ F' N' l'
theorem inst_sub {h : Heap} {x C d : Addr} {es : Array DictEntry} {n : Nat} {o : Obj} {sl : Array (Option Value)} (N : News h₀ L h news) (hx : (x, (⟨.ref C, some d, .dict es n, sl⟩ : Obj)) ∈ news) (hd : (d, o) ∈ news) : InstAt h x ⟨.ref C, some d, .dict es n, sl⟩ C (some o) :=
  ⟨N.get hx, rfl, rfl, N.get hd⟩
theorem for_none {d : Addr} {n : Nat} {target : Expr} {body : List Stmt} {x : Str} {px apos ipos pos : Pos} {pl : Sem Bool} {Q : Flow → Shared → Prop} (F : Fr h₀ L s.heap m) (N : News h₀ L s.heap news) (X : K.In h₀) (hsm : (K.lookup sysModules).isSome = true) (hh : A.handled = none)
    (hm : m x = some (.ref d)) (hd : (d, dictOf [] n) ∈ news) (hk : cs.kind = .function) (hx : (envX cn cs L a ccd cl).kindOf x = some .local) (hb : (x == ("__debug__" : Str)) = false)
    (he : eval (.Call (.Attribute (.Name x px) "items" apos) [] [] ipos) (envX cn cs L a ccd cl) = (do
      let ov ← eval (.Name x px) (envX cn cs L a ccd cl)
      standAt apos.atName
      let (f, first) ← holding [ov] (getMethod ov "items" pl)
      callWith ipos f first (backTo ipos (starEach [] (envX cn cs L a ccd cl))) []))
    (h : ∀ h' tk', Fr h₀ L h' m → News h₀ L h' news → Q .next { s with heap := h', toks := tk' }) :
    wpAny (model prog w) A (exec (.For target (.Call (.Attribute (.Name x px) "items" apos) [] [] ipos) body [] pos) (envX cn cs L a ccd cl)) Q E s := by
  have lo : (d == sysModules) = false := by
    rw [beq_eq_false_iff_ne]
    rintro rfl
    obtain ⟨o, ho⟩ := Option.isSome_iff_exists.mp hsm
    have := X _ _ ho
    rw [(N _ hd).2.2] at this
    cases this
  have hi : (dictOf [] n).IsDictOf (strKind prog w) [] := kp_isDict (ex := []) s.toks n List.nodup_nil
  have T : TabAt (strKind prog w) PyData.str s.heap d [] := ⟨lo, [], Heap.dictOf_iff.mpr ⟨_, N.get hd, hi⟩, .nil⟩
  refine wpAny_For (MethodCall_ (nameX_L F hm ?_ hk hx hb) he)
  refine getMethod_tab PySem.F.slot_dict_items PySem.F.type_dict_items T (callWith_method0 (call_items_tab T F N fun h1 o hv F1 N1 => ?_))
  have N2 : News h₀ L h1 news := fun p hp => N1 p (.tail _ hp)
  have hat : h1.DictAt (strKind prog w) d [] n := by
    obtain ⟨es, ep, h1', h2', h3', h4', h5'⟩ := hi
    have e : Data.dict ([] : List DictEntry).toArray n = .dict es ep := h2'
    injection e with e1 e2
    subst e1 e2
    exact ⟨_, _, N2.get hd, h1', h2', h3', h4', h5'⟩
  refine wpAny_pyIter_items hv hat ?_
  have F3 := F1.push { cls := .type "dict_itemiterator", data := .fields #[.none, .bool false, .ref d, .int 0 0, .int 0 0, .int n 0, .none, .none] }
  have hne : ∀ b o, h1.get? b = some o → b ≠ h1.objs.size := fun b o e => Nat.ne_of_lt (Heap.lt_size e)
  refine codeAny_forLoop_any (fun _ s' => s' = { s with heap := h1.push { cls := .type "dict_itemiterator", data := .fields #[.none, .bool false, .ref d, .int 0 0, .int 0 0, .int n 0, .none, .none] } }) ?_ 0 rfl
  rintro _ s' rfl
  refine wpAny_pyNext_items_end (knd := strKind prog w) (kvs := []) (i := 0) (ep := n) (ok := .none) (ov := .none) hh ?_ (hat.at' fun o e => Heap.get?_push_of_some _ e) rfl (fun h' hx' => ?_)
  · exact Heap.get?_push_size _ rfl
  · dsimp only
    refine wpAny_pure ?_
    have keep : ∀ b o, h1.get? b = some o → h'.get? b = some o := fun b o e => hx' b o (hne b o e) (Heap.get?_push_of_some _ e)
    obtain ⟨oL, es, ep, hL, r⟩ := F1.ns
    exact h h' s.toks ⟨⟨oL, es, ep, keep _ _ hL, r⟩, fun b o e => keep b o (F1.keep b o e), F1.above⟩ fun p hp => ⟨keep _ _ (N2 p hp).1, (N2 p hp).2⟩
end
end Mine
end
section
local macro_rules | `(tactic| walk_at "zq0") => `(tactic| skip)
local macro_rules | `(tactic| walk_at "zq1") => `(tactic| skip)
local macro_rules | `(tactic| walk_at "zq2") => `(tactic| skip)
local macro_rules | `(tactic| walk_at "zq3") => `(tactic| skip)
namespace Mine
theorem fresh_FYpi : True := by
  k_with_none
  w_top off
  trivial
end Mine
open PySem PySem.W PyProof.Rows
namespace Mine
open PySem.Spec PySem.Calls
theorem slice_none {prog : Program} {w : World} {A : Around} {E : Value → Shared → Prop} {s : Shared} {h₀ : Heap} {L : Addr} {m : Str → Option Value} {news : List (Addr × Obj)} {value slice : Expr} {t : Addr} {u : Tok} {Q : Value → Shared → Prop}
    (F : Fr h₀ L s.heap m) (N : News h₀ L s.heap news) (ht : (t, ({ cls := .type "tuple", data := .seq #[.none] } : Obj)) ∈ news)
    (h : ∀ D h', Fr h₀ L h' m → News h₀ L h' ((D, { cls := .type "tuple", data := .seq #[] }) :: news) → (∀ p ∈ news, p.1 < D) → Q (.ref D) { s with heap := h' })
    (hs : subscripted slice false (.ref t) (.ref s.heap.objs.size) = operate [.ref s.heap.objs.size, .ref t] (getItem (.ref t) (.ref s.heap.objs.size)))
    (hg : ∀ r, letTemporaryGo value (.ref t) r = pure ()) :
    wpAny (model prog w) A (subscriptTail value slice (.ref t) (.ref s.heap.objs.size)) Q E { s with heap := s.heap.push { cls := .type "slice", data := .fields #[.int (1 : Nat) u, .none, .none] } } :=
  slice_tuple_from (items := #[.none]) F N (N.isTup ht) (Nat.le_refl 1) (Nat.le_refl 1) (fun h' F' N' => h _ h' F' N' fun p hp => Nat.lt_succ_of_lt (Heap.lt_size (N p hp).1)) hs hg
theorem comp_none {prog : Program} {w : World} {A : Around} {E : Value → Shared → Prop} {s : Shared} {h₀ : Heap} {L : Addr} {m : Str → Option Value} {news : List (Addr × Obj)} {env : Env} {kx vx iter : Expr} {x y : Str} {px py : Pos} {ifs : List Expr} {scope : Scope} {cl : List (Str × Addr)} {pos spos : Pos} {z : Str} {zv : Value} {Q : Flow → Shared → Prop}
    (hsw : swapsWith (.DictComp kx vx [⟨.Name x px, iter, ifs, 0⟩] scope pos) (some (.Name y py)) spos.line env = pure true) (hL : env.locals = L)
    (hh : A.handled = none) (hclos : closureFor scope env = pure cl) (hcell : ∀ z ∈ scope.names, z.2 ≠ .cell) (hkind : scope.kind = .function)
    (hnames : ∀ z ∈ scope.names, z.2 = .local → scope.names.lookup z.1 = some .local) (hx : scope.names.lookup x = some .local)
    (hy : env.kindOf y = some .local) (hp : (env.scope.kind == .class || (env.scope.kind == .module && env.locals != env.globals)) = false)
    (hs : ∀ x, foldedSetIterable iter env x = pure x) (_F₀ : Fr h₀ L s.heap m) (_N₀ : News h₀ L s.heap news) (hz : z ≠ y) (hm : m z = some zv)
    (h : wpAny (model prog w) A (eval iter env) (fun xv s₁ => ∃ ax, xv = .ref ax ∧ s₁.heap.IsList ax #[] ∧ Fr h₀ L s₁.heap m ∧ News h₀ L s₁.heap news ∧
      ∀ D o h' tk, o.IsDictOf (strKind prog w) [] → Fr h₀ L h' (fun z => if z = y then some (.ref D) else m z) → News h₀ L h' ((D, o) :: news) → Q .next { s₁ with heap := h', toks := tk }) E s) :
    wpAny (model prog w) A (exec (.Assign [.Name y py] (.DictComp kx vx [⟨.Name x px, iter, ifs, 0⟩] scope pos) spos) env) Q E s := by
  refine Assign_DictComp_DCx (K := ItemKind.int) (h₀ := h₀) (m := m) (news := news) hsw hL hh hclos hcell hkind hnames hx hy hp (wpAny_mono h (fun xv s₁ q => ?_) fun _ _ e => e) hs
  obtain ⟨ax, rfl, hl, F, N, k⟩ := q
  refine ⟨ax, [], [], rfl, hl, .nil, Nat.zero_le _, F, N, ?_⟩
  refine .mk (Kk := Str) (strKind prog w) (enc := PyData.str) (pz := fun _ => true) (kf := fun _ => Str.empty) (d := fun _ => .none) PyProof.V.same_str (fun _ _ _ _ _ _ h => nomatch h) (fun _ _ _ _ _ _ h => nomatch h) (fun _ _ _ _ _ _ h => nomatch h) ?_
  intro D kvs h' tk F' N' hD hdict hflat
  cases hflat
  obtain ⟨o, ho, hdo⟩ := Heap.dictOf_iff.mp hdict
  refine k D o h' tk hdo F' fun p hp => ?_
  rcases List.mem_cons.mp hp with rfl | hp
  · refine ⟨ho, ?_, hD⟩
    rintro rfl
    obtain ⟨oL, es, ep, e1, e2, e3, e4⟩ := F'.ns
    obtain ⟨es', ep', e5, e6, e7, e8, -⟩ := hdo
    have e9 : oL = o := Option.some.inj (e1.symm.trans ho)
    subst e9
    rw [e6] at e2
    cases e2
    have hz' := e4 z
    dsimp only at hz'
    rw [if_neg hz, hm] at hz'
    have q0 : es.toList = [] := by
      cases q : es.toList with
      | nil => rfl
      | cons a b => rw [q] at e8; cases e8
    have q1 : es = #[] := by
      cases es; simp at q0; rw [q0]
    rw [q1] at hz'
    cases hz'
  · exact N' p hp
theorem dict_lit {prog : Program} {w : World} {o : Obj} (h : o.IsDictOf (strKind prog w) []) : ∃ n, o = dictOf [] n := by
  obtain ⟨es, ep, hx, hd, -, hp, -⟩ := h
  have q0 : es.toList = [] := by
    cases q : es.toList with
    | nil => rfl
    | cons a b => rw [q] at hp; cases hp
  have q1 : es = #[] := by
    cases es; simp at q0; rw [q0]
  obtain ⟨c, d, dt, sl⟩ := o
  dsimp only at hd
  subst q1 hd
  obtain ⟨h1, h2, h3⟩ := hx
  dsimp only at h1 h2 h3
  subst h1 h2 h3
  exact ⟨ep, rfl⟩
theorem src_end {l v : Addr} {c : Nat} {ov : Obj} {P : Prop} {h₀ h : Heap} {L : Addr} {m : Str → Option Value} {news : List (Addr × Obj)} (F : Fr h₀ L h m) (N : News h₀ L h ((l, W.listOf #[] c) :: (v, ov) :: news)) (k : P) :
    ∃ ax, Value.ref l = .ref ax ∧ h.IsList ax #[] ∧ Fr h₀ L h m ∧ News h₀ L h news ∧ P :=
  ⟨l, rfl, N.isList (.head _), F, fun p hp => N p (.tail _ (.tail _ hp)), k⟩
local macro_rules | `(tactic| walk_at "Exists") => `(tactic| k_extra "src")
local macro_rules | `(tactic| walk_at "exec Assign cons DictComp") => `(tactic| (k_here; k_dflt (refine' comp_none (z := Str.ofString "self") ?hsw ?hL ?hh ?hclos ?hcell ?hkind ?hnames ?hx ?hy ?hp ?hs ?kF ?kN ?hz ?hm ?_; (case kF => k_asm); (case kN => k_asm); (case hz => decide +kernel); (case hm => exact rfl); (case hsw => with_unfolding_all rfl); (case hL => with_unfolding_all rfl); (case hh => with_unfolding_all rfl); (case hclos => with_unfolding_all rfl); (case hcell => decide); (case hkind => with_unfolding_all rfl); (case hnames => decide); (case hx => with_unfolding_all rfl); (case hy => with_unfolding_all rfl); (case hp => with_unfolding_all rfl); (case hs => intro _; with_unfolding_all rfl))))
theorem cd_meth {w : World} {A : Around} {s : Shared} {h₀ : Heap} {L : Addr} {m : Str → Option Value} {news : List (Addr × Obj)} {q b d : Addr} {Q E : Value → Shared → Prop} (F : Fr h₀ L s.heap m) (X : (hd.heap_39 w.params).In h₀) (N : News h₀ L s.heap news)
    (hh : A.handled = none) (hdep : A.depth ≤ 500) (hun : A.units ≤ 6000) (hq : (q, methodObj (.ref 107) (.ref b)) ∈ news) (hb : (b, (⟨.ref 330, some d, .dict #[] 0, #[]⟩ : Obj)) ∈ news) (hd' : (d, emptyDict) ∈ news)
    (h : ∀ h' tk', Fr h₀ L h' m → News h₀ L h' news → Q .none { s with heap := h', toks := tk' }) :
    wpAny (model PySem.Challenge.rw_fy0022_01.row.prog w) A (call (.ref q) []) Q E s := by
  refine wp_weaken hdep hun ?_
  rw [hh]
  exact cd_meth0 (X.keeps F.keep) (N.get hq) (N.get hb) (N.get hd') Q E fun h' tk' own D => h h' tk' (mem_fr D F) (mem_news D N)
local macro_rules | `(tactic| walk_at "wpAt") => `(tactic| ((with_reducible show _root_.PySem.wpAt _ _ _ (eval (Expr.Call (Expr.Attribute _ _ _) _ (_ :: _) _) _) _ _ _); k_extra "mkw"))
local macro_rules | `(tactic| walk_at "wpAt") => `(tactic| ((with_reducible show _root_.PySem.wpAt _ _ _ (attributeBase _ _ _ _) _ _ _); k_extra "sup"))
local macro_rules | `(tactic| walk_at "wpAt") => `(tactic| ((with_reducible show _root_.PySem.wpAt _ _ _ (execs (List.cons _ _) _) _ _ _); refine ks_wpAt_execs_cons ?_))
local macro_rules | `(tactic| walk_at "wpAt") => `(tactic| ((with_reducible show _root_.PySem.wpAt _ _ _ (exec (Stmt.Expr _ _) _) _ _ _); k_extra "expr"))
local macro_rules | `(tactic| walk_at "exec For Tuple Call cons nil") => `(tactic| k_extra "fornone")
local macro_rules | `(tactic| walk_at "getAttr ref") => `(tactic| k_extra "gat")
local macro_rules | `(tactic| walk_at "callWith ref") => `(tactic| k_extra "star")
local macro_rules | `(tactic| walk_at "call ref") => `(tactic| ((with_reducible show wpAny _ _ (call (Value.ref _) []) _ _ _); k_extra "meth"))
local macro_rules | `(tactic| walk_at "subscriptTail Name Slice ref ref") => `(tactic| (k_here; k_dflt (refine' slice_none ?F ?N ?l ?_ ?s ?t; (case F => k_asm); (case N => k_asm); (case l => k_mem); (case s => with_unfolding_all rfl); (case t => (intro _; with_unfolding_all rfl))); intro D' h' F' N' l1; (try k_lt l1); (try k_sweep)))
theorem prm_init {w : World} {p : Program} {loose : List Str} {mean : ExcName → Option Value} {mg mb : Str → Option Value} {news : List (Addr × Obj)} (x d : Addr) :
    Claim w p loose mean mg mb 550 291 ((x, ⟨.ref 330, some d, .dict #[] 0, #[]⟩) :: (d, emptyDict) :: news) [.ref x, .none] (fun h₀ L m s Q => ∀ h' tk', Fr h₀ L h' m → News h₀ L h' ((x, ⟨.ref 330, some d, .dict #[] 0, #[]⟩) :: (d, emptyDict) :: news) → Q .none { s with heap := h', toks := tk' }) := by
  unfold Claim
  k_fill
  intro dp un gd cn cs a ccd cl outer A₀ base h₀ L m' s Q E B F X N T hk hdp hu hret
  k_with_none
  k_with "expr" => (k_dflt (refine ks_wpAt_Expr_any ?_ (by with_unfolding_all rfl) (by with_unfolding_all rfl)))
  k_with "mkw" => (k_dflt (refine method_star_at ?_ (by with_unfolding_all rfl)))
  k_with "src" => (
    k_dflt (refine' src_end ?k1 ?k2 ?_; (case k1 => k_asm); (case k2 => k_asm))
    intro D' o' h' tk' ho9 F' N'
    obtain ⟨n9, ho9⟩ := dict_lit ho9
    subst ho9)
  k_with "sup" => (
    k_dflt (refine' super_frame ?k1 ?k2 ?k3 ?k4 ?k5 ?k6 ?k7 ?k8 ?k9 ?l1 ?l2 ?l3 ?l4 ?l5 ?l6 ?l7 ?l8 ?l9 ?m1 ?m2 ?_; (case k1 => k_asm); (case k2 => k_asm); (case k3 => k_asm); (case k4 => k_is); (case k5 => exact rfl); (case k6 => exact rfl); (case k7 => k_is); (case k8 => exact rfl); (case k9 => first | exact rfl | decide +kernel); (case l1 => exact rfl); (case l2 => k_is); (case l3 => k_is); (case l4 => k_is); (case l5 => decide); (case l6 => exact rfl); (case l7 => exact rfl); (case l8 => exact rfl); (case l9 => exact rfl); (case m1 => decide +kernel); (case m2 => first | boot_by_name | exact rfl | kernel_rfl))
    k_dflt (refine' super_inst ?k1 ?k2 ?k3 ?k4 ?k5 ?k6 ?_; (case k1 => k_asm); (case k2 => k_asm); (case k3 => k_asm); (case k4 => refine' inst_sub ?i1 ?i2 ?i3; (case i1 => k_asm); (case i2 => k_mem); (case i3 => k_mem)); (case k5 => k_is); (case k6 => k_is))
    intro so' h' F' N' l1
    (try k_lt l1))
  k_with "gat" => (
    k_dflt (refine' super_attr ?k1 ?k2 ?k3 ?k4 ?k5 ?k6 ?k7 ?k8 ?k9 ?_; (case k1 => k_asm); (case k2 => k_asm); (case k3 => k_asm); (case k4 => k_mem); (case k5 => refine' inst_sub ?i1 ?i2 ?i3; (case i1 => k_asm); (case i2 => k_mem); (case i3 => k_mem)); (case k6 => k_is); (case k7 => ks_is); (case k8 => k_is); (case k9 => decide))
    intro q' h' F' N' l1
    (try k_lt l1))
  k_with "fornone" => (
    k_dflt (refine' for_none ?k1 ?k2 ?k3 ?k4 ?k5 ?k6 ?k7 ?k8 ?k9 ?l1 ?l2 ?_; (case k1 => k_asm); (case k2 => k_asm); (case k3 => k_asm); (case k4 => exact rfl); (case k5 => exact rfl); (case k6 => exact rfl); (case k7 => k_mem); (case k8 => exact rfl); (case k9 => exact rfl); (case l1 => decide +kernel); (case l2 => exact rfl))
    intro h' tk' F' N'
    (try dsimp only))
  k_with "star" => (
    subst ho'
    k_dflt (refine' star_call ?k1 ?k2 ?k3 ?k4 ?k5 ?k6 ?k7 ?k8 ?k9 ?l1 ?l2 ?l3 ?l4 ?l5 ?l6 ?l7 ?l8 ?_; (case k1 => k_asm); (case k2 => k_asm); (case k3 => k_asm); (case k4 => exact rfl); (case k5 => exact rfl); (case k6 => decide +kernel); (case k7 => k_mem); (case k8 => exact rfl); (case k9 => k_mem); (case l1 => assumption); (case l2 => k_mem); (case l3 => assumption); (case l4 => exact rfl); (case l5 => exact rfl); (case l6 => decide +kernel); (case l7 => k_mem); (case l8 => k_is))
    intro h' F' N'
    (try dsimp only))
  k_with "meth" => (
    k_dflt (refine' cd_meth ?k1 ?k2 ?k3 ?k4 ?k5 ?k6 ?k7 ?k8 ?k9 ?_; (case k1 => k_asm); (case k2 => k_asm); (case k3 => k_asm); (case k4 => exact rfl); (case k5 => (show dp + 1 ≤ 500); (show dp + 1 ≤ 500); have := hdp; unfold recursionLimit at this; omega); (case k6 => (show un + 3 ≤ 6000); have := hu; unfold cLine at this; omega); (case k7 => k_mem); (case k8 => k_mem); (case k9 => k_mem))
    intro h' tk' F' N'
    (try dsimp only))
  refine wpAny_call ?_
  k_dflt (refine' cell_both ?k1 ?k2 ?k3 ?k4 ?k5 ?kA ?kF ?kK ?k6 ?k7 ?k8 ?kV ?kQ ?kM ?kP ?kS ?kT ?kcf ?kpc ?kl1 ?kl2 ?kl3 ?_ ?c2 ?c3 ?c4; (case kA => exact rfl); (case kF => exact rfl); (case kK => exact hk); (case k1 => k_asm); (case k2 => k_asm); (case k3 => k_asm); (case k4 => k_asm); (case k5 => k_asm); (case k6 => k_is); (case k7 => k_is); (case k8 => ktr_room); (case kV => kp_lit); (case kQ => exact rfl); (case kM => exact rfl); (case kP => exact rfl); (case kS => exact fun _ => rfl); (case kT => exact fun _ _ => rfl); (case kcf => exact fun _ => rfl); (case kpc => exact fun _ => rfl); (case kl1 => exact rfl); (case kl2 => exact rfl); (case kl3 => exact rfl); (case c2 => exact rfl); (case c3 => exact rfl); (case c4 => exact rfl); k_whole; intro C' D' o' g' L' c' co' h' tk' l1 l2 l3 lo' hs' fs' ho' hco' FG' F' N' B' X' T'; (try k_lt l1); (try dsimp only); (try k_lift B'); (try k_fold))
  k_steps
  (rename News _ _ _ _ => nE')
  exact hret _ _ (by assumption) (fun p hp => nE' p (.tail _ (.tail _ (.tail _ (.tail _ (.tail _ (.tail _ (.tail _ hp))))))))
end Mine
end
section
namespace Mine
theorem fresh_FYmk : True := by
  k_with_none
  w_top off
  trivial
end Mine
open PySem PySem.W PyProof.Rows
namespace Mine
open PySem.Spec PySem.Calls
theorem q1 (P : Params) (S : Setting) : peek (hd.heap_39 P) S (Bind.madeBy (.ref 330)) = some (some "dict.__new__") := by kernel_rfl
theorem q2 (P : Params) (S : Setting) : peek (hd.heap_39 P) S (Bind.madeBy (.ref 389)) = some none := by kernel_rfl
theorem q3 (P : Params) : specialIn (hd.heap_39 P) (.ref 330) "__call__" = some (some (.builtin "type.__call__")) := by kernel_rfl
theorem q4 (P : Params) : specialIn (hd.heap_39 P) (.ref 389) "__call__" = some (some (.builtin "type.__call__")) := by kernel_rfl
theorem q5 (P : Params) : instIn (hd.heap_39 P) (.ref 330) (.type "type") = some true := by kernel_rfl
theorem q6 (P : Params) : instIn (hd.heap_39 P) (.ref 389) (.type "type") = some true := by kernel_rfl
theorem q7 (P : Params) : findIn (hd.heap_39 P) (.ref 330) "__init__" = some (some (.ref 291)) := by kernel_rfl
theorem q8 (P : Params) : findIn (hd.heap_39 P) (.ref 389) "__init__" = some (some (.builtin "object.__init__")) := by kernel_rfl
theorem q9 (P : Params) : mroIn (hd.heap_39 P) 330 (.ref 330) = some true := by kernel_rfl
theorem q10 (P : Params) : mroIn (hd.heap_39 P) 389 (.ref 389) = some true := by kernel_rfl
theorem q12 (P : Params) : typeIn (hd.heap_39 P) (.ref 291) = some (.type "function") := by kernel_rfl

/-- a class made by a builtin of another name than object's -/
theorem make_by {prog : Program} {w : World} {A : Around} {K : Frag} {C : Addr} {R : Result → Shared → Prop} {s : Shared} {oc : Value} {od : Option Addr} {cd : ClassData} {sl : Array (Option Value)} {rest : List Value} {i : String}
    (X : K.In s.heap) (hC : K.lookup C = some ⟨oc, od, .cls cd, sl⟩) (hne : cd.mro.isEmpty = false) (hcall : specialIn K (.ref C) "__call__" = some (some (.builtin "type.__call__"))) (htyp : instIn K (.ref C) (.type "type") = some true)
    (hmade : ∀ S, peek K S (Bind.madeBy (.ref C)) = some (some i))
    (h : wpAny (model prog w) (A.under (.builtin "type.__call__" ⟨.ref C :: rest, []⟩)) (call (.builtin i) (.ref C :: rest)) (fun obj s' => wpAny (model prog w) (A.under (.builtin "type.__call__" ⟨.ref C :: rest, []⟩)) (isInstance obj (.ref C)) (fun b s'' => b = true ∧
      wpAny (model prog w) (A.under (.builtin "type.__call__" ⟨.ref C :: rest, []⟩)) (callSpecial? obj "__init__" rest []) (fun r s3 => (r = none ∨ r = some .none) ∧ R (.ok (.ret obj)) s3) (fun e s3 => R (.error e) s3) s'') (fun e s3 => R (.error e) s3) s') (fun e s3 => R (.error e) s3) s) :
    codeAny (model prog w) A (.call (.ref C) ⟨rest, []⟩) R s := by
  obtain ⟨hh, g, d, t, os⟩ := s
  have hC' := X _ _ hC
  have call := looks_specialIn (M := model prog w) X hcall
  have typ := looks_instIn (M := model prog w) X htyp
  have made : Looks (model prog w) hh (Bind.madeBy (.ref C)) (some i) := Looks.of_peek X (hmade _)
  refine codeAny_of_tree ?_
  show wpAny _ _ (callAny (.ref C) _) _ _ _
  refine nd_load hC' ?_
  show wpAny _ _ (callAny.viaDunder (.ref C) _) _ _ _
  unfold callAny.viaDunder
  refine wpAny_bind (call.at ?_)
  dsimp only
  rw [tc_bind]
  refine wpAny_bind (wpAny_pure (wpAny_bind (wpAny_pure ?_)))
  refine wpAny_pure (a := Fin.again (.call (.builtin "type.__call__") ⟨.ref C :: rest, []⟩)) (And.intro rfl ?_)
  refine codeAny_call_builtin_at (Code.quiet_builtin _ (by decide +kernel)) entry_typeCall (check_slot tc_kind tc_split typ (tc_args _ _ _) ?_)
  unfold Builtin.«type.__call__»
  have hm : Looks (model prog w) hh (mroOf (.ref C)) cd.mro := ((Looks.ld (part := none) hC').andThen .now).andThen .now
  refine wpAny_bind (hm.at ?_)
  dsimp only
  rw [if_neg (by rw [hne]; exact Bool.false_ne_true)]
  refine wpAny_bind (made.at (wpAny_bind (wpAny_pure ?_)))
  refine wpAny_bind (wpAny_holding (wpAny_mono h (fun obj s1 h1 => ?_) fun _ _ z => z))
  refine wpAny_bind (wpAny_mono h1 (fun b s2 h2 => ?_) fun _ _ z => z)
  obtain ⟨rfl, h2⟩ := h2
  rw [if_neg (by decide)]
  refine wpAny_bind (wpAny_holding (wpAny_mono h2 (fun r s3 h3 => ?_) fun _ _ z => z))
  obtain ⟨h3, h4⟩ := h3
  rcases h3 with rfl | rfl
  · exact wpAny_pure h4
  · dsimp only
    rw [if_neg (by decide)]
    exact wpAny_pure h4
/-- a class whose __new__ is its own -/
theorem make_at {prog : Program} {w : World} {A : Around} {K : Frag} {C : Addr} {R : Result → Shared → Prop} {s : Shared} {oc : Value} {od : Option Addr} {cd : ClassData} {sl : Array (Option Value)} {rest : List Value}
    (X : K.In s.heap) (hC : K.lookup C = some ⟨oc, od, .cls cd, sl⟩) (hne : cd.mro.isEmpty = false) (hcall : specialIn K (.ref C) "__call__" = some (some (.builtin "type.__call__"))) (htyp : instIn K (.ref C) (.type "type") = some true)
    (hmade : ∀ S, peek K S (Bind.madeBy (.ref C)) = some none)
    (h : wpAny (model prog w) (A.under (.builtin "type.__call__" ⟨.ref C :: rest, []⟩)) (getAttr (.ref C) "__new__") (fun new s0 => wpAny (model prog w) (A.under (.builtin "type.__call__" ⟨.ref C :: rest, []⟩)) (call new (.ref C :: rest)) (fun obj s' => wpAny (model prog w) (A.under (.builtin "type.__call__" ⟨.ref C :: rest, []⟩)) (isInstance obj (.ref C)) (fun b s'' => b = true ∧
      wpAny (model prog w) (A.under (.builtin "type.__call__" ⟨.ref C :: rest, []⟩)) (callSpecial? obj "__init__" rest []) (fun r s3 => (r = none ∨ r = some .none) ∧ R (.ok (.ret obj)) s3) (fun e s3 => R (.error e) s3) s'') (fun e s3 => R (.error e) s3) s') (fun e s3 => R (.error e) s3) s0) (fun e s3 => R (.error e) s3) s) :
    codeAny (model prog w) A (.call (.ref C) ⟨rest, []⟩) R s := by
  obtain ⟨hh, g, d, t, os⟩ := s
  have hC' := X _ _ hC
  have call := looks_specialIn (M := model prog w) X hcall
  have typ := looks_instIn (M := model prog w) X htyp
  have made : Looks (model prog w) hh (Bind.madeBy (.ref C)) none := Looks.of_peek X (hmade _)
  refine codeAny_of_tree ?_
  show wpAny _ _ (callAny (.ref C) _) _ _ _
  refine nd_load hC' ?_
  show wpAny _ _ (callAny.viaDunder (.ref C) _) _ _ _
  unfold callAny.viaDunder
  refine wpAny_bind (call.at ?_)
  dsimp only
  rw [tc_bind]
  refine wpAny_bind (wpAny_pure (wpAny_bind (wpAny_pure ?_)))
  refine wpAny_pure (a := Fin.again (.call (.builtin "type.__call__") ⟨.ref C :: rest, []⟩)) (And.intro rfl ?_)
  refine codeAny_call_builtin_at (Code.quiet_builtin _ (by decide +kernel)) entry_typeCall (check_slot tc_kind tc_split typ (tc_args _ _ _) ?_)
  unfold Builtin.«type.__call__»
  have hm : Looks (model prog w) hh (mroOf (.ref C)) cd.mro := ((Looks.ld (part := none) hC').andThen .now).andThen .now
  refine wpAny_bind (hm.at ?_)
  dsimp only
  rw [if_neg (by rw [hne]; exact Bool.false_ne_true)]
  refine wpAny_bind (made.at (wpAny_bind (wpAny_mono h (fun new s0 h0 => ?_) fun _ _ z => z)))
  refine wpAny_bind (wpAny_holding (wpAny_mono h0 (fun obj s1 h1 => ?_) fun _ _ z => z))
  refine wpAny_bind (wpAny_mono h1 (fun b s2 h2 => ?_) fun _ _ z => z)
  obtain ⟨rfl, h2⟩ := h2
  rw [if_neg (by decide)]
  refine wpAny_bind (wpAny_holding (wpAny_mono h2 (fun r s3 h3 => ?_) fun _ _ z => z))
  obtain ⟨h3, h4⟩ := h3
  rcases h3 with rfl | rfl
  · exact wpAny_pure h4
  · dsimp only
    rw [if_neg (by decide)]
    exact wpAny_pure h4
end Mine
end
section
namespace Mine
theorem fresh_FYnp : True := by
  k_with_none
  w_top off
  trivial
end Mine
open PySem PySem.W PySem.W.X PyProof.Rows
namespace Mine
open PySem.Spec PySem.Calls
set_option hygiene false in
local macro_rules | `(tactic| x_close) => `(tactic| (exact hret _ _ _ _ (by first | assumption | exact Mem.start _)))
theorem new_par0 {w : World} {h : Heap} {g : Array GenState} {dr : Drawn} {tk : Nat} {os : OsState} {fr : Option (List Env)} {gu : Option (List Code)} (X : (hd.heap_39 w.params).In h) (Q E : Value → Shared → Prop)
    (hret : ∀ x d h' tk', Mem h h' [] [(x, ⟨.ref 330, some d, .dict #[] 0, #[]⟩), (d, emptyDict)] → Q (.ref x) ⟨h', g, dr, tk', os⟩) :
    wpAny (model PySem.Challenge.rw_fy0022_01.row.prog w) ⟨none, 500, fr, gu, 6000⟩ (call (.builtin "dict.__new__") [.ref 330, .none]) Q E ⟨h, g, dr, tk, os⟩ := by
  x_run
end Mine
end
section
namespace Mine
theorem fresh_FYpc : True := by
  k_with_none
  w_top off
  trivial
end Mine
open PySem PySem.W PySem.W.X PyProof.Rows
namespace Mine
open PySem.Spec PySem.Calls
theorem mem_own {h₀ h h' : Heap} {L : Addr} {m : Str → Option Value} {own news : List (Addr × Obj)} (D : Mem h h' [] own) (F : Fr h₀ L h m) (N : News h₀ L h news) : News h₀ L h' (own ++ news) := by
  intro p hp
  rcases List.mem_append.mp hp with hp | hp
  · obtain ⟨e1, e2⟩ := D.nw p hp
    refine ⟨e1, ?_, ?_⟩
    · rintro rfl
      obtain ⟨oL, _, _, hL, _⟩ := F.ns
      rw [hL] at e2; cases e2
    · cases q : h₀.get? p.1 with
      | none => rfl
      | some o => have := F.keep _ _ q; rw [e2] at this; cases this
  · exact mem_news D N p hp
theorem under_tc (dp un : Nat) (gd : Option (List Code)) (cn : Str) (cs : Scope) (L a : Addr) (ccd : Value) (cl : List (Str × Addr)) (outer : List Env) (C : Addr) (vs : List Value) :
    (ktrTop dp un gd cn cs L a ccd cl outer).under (.builtin "type.__call__" ⟨.ref C :: vs, []⟩) = ktrTop (dp + 1) (un + 1) gd cn cs L a ccd cl outer := by
  with_unfolding_all rfl
theorem prm_call {w : World} {p : Program} {loose : List Str} {mean : ExcName → Option Value} {mg mb : Str → Option Value} {news : List (Addr × Obj)} :
    Claim w p loose mean mg mb 560 330 news [.none] (fun h₀ L m s Q => ∀ x d h' tk', Fr h₀ L h' m → News h₀ L h' ((x, ⟨.ref 330, some d, .dict #[] 0, #[]⟩) :: (d, emptyDict) :: news) → (∀ q ∈ news, @Ne Nat q.1 x ∧ @Ne Nat q.1 d) → @Ne Nat x d → Q (.ref x) { s with heap := h', toks := tk' }) := by
  unfold Claim
  k_fill
  intro dp un gd cn cs a ccd cl outer A₀ base h₀ L m' s Q E B F X N T hk hdp hu hret
  have hdp' : dp + 560 < 1000 := hdp
  have hu' : un + 8 * 560 < 9900 := hu
  refine wpAny_call ?_
  refine' make_by (X.keeps F.keep) ?kC ?kE (q3 _) (q5 _) (q1 _) ?_
  (case kC => k_is)
  (case kE => exact rfl)
  rw [under_tc]
  refine wp_weaken (D := 500) (U := 6000) ?_ ?_ ?_
  · show dp + 1 ≤ 500
    omega
  · show un + 1 ≤ 6000
    omega
  refine new_par0 (X.keeps F.keep) _ _ fun x d h' tk' D => ?_
  have F' := mem_fr D F
  have N' := mem_own D F N
  have I : InstAt h' x ⟨.ref 330, some d, .dict #[] 0, #[]⟩ 330 (some emptyDict) := inst_sub N' (.head _) (.tail _ (.head _))
  refine wpAny_mono (show wpAny _ _ (isInstance (.ref x) (.ref 330)) (fun b s'' => b = true ∧ s'' = ⟨h', s.gens, s.drawn, tk', s.os⟩) (fun _ _ => False) _ from wpAny_bind (I.type.here ((looks_mroIn (X.keeps F'.keep) (q9 _)).here ⟨rfl, rfl⟩))) (fun b s'' hb => ?_) fun _ _ z => z.elim
  obtain ⟨rfl, rfl⟩ := hb
  refine ⟨rfl, special_fn (X.keeps F'.keep) I (q7 _) (q12 _) ?_⟩
  refine prm_init x d (dp + 1) (un + 1) gd cn cs a ccd cl outer A₀ base h₀ L m' _ _ _ B F' X N' T hk ?_ ?_ ?_
  · show dp + 1 + 550 < 1000
    omega
  · show un + 1 + 8 * 550 < 9900
    omega
  intro h2 tk2 F2 N2
  refine ⟨.inr rfl, hret x d h2 tk2 F2 N2 (fun q hq => ⟨?_, ?_⟩) ?_⟩
  · exact fun e => by
      have := (D.nw _ (.head _)).2
      rw [← e, (N q hq).1] at this
      cases this
  · exact fun e => by
      have := (D.nw _ (.tail _ (.head _))).2
      rw [← e, (N q hq).1] at this
      cases this
  · exact D.ne 0 1 _ _ _ _ rfl rfl rfl
end Mine
end
section
namespace Mine
theorem fresh_FYvp : True := by
  k_with_none
  w_top off
  trivial
end Mine
open PySem PySem.W PySem.W.X PyProof.Rows
namespace Mine
open PySem.Spec PySem.Calls
section
variable {w : World} {h : Heap} {g : Array GenState} {dr : Drawn} {tk : Nat} {os : OsState} {fr : Option (List Env)} {gu : Option (List Code)}
set_option hygiene false in
local macro_rules | `(tactic| x_close) => `(tactic| (exact hret _ _ _ (by first | assumption | exact Mem.start _)))
theorem vp1 (X : (hd.heap_39 w.params).In h) (Q E : Value → Shared → Prop)
    (hret : ∀ so h' tk', Mem h h' [] [(so, ⟨.type "super", none, .fields #[.ref 389, .ref 389, .ref 389], #[]⟩)] → Q (.ref so) ⟨h', g, dr, tk', os⟩) :
    wpAny (model PySem.Challenge.rw_fy0022_01.row.prog w) ⟨none, 500, fr, gu, 6000⟩ (call (.type "super") [.ref 389, .ref 389]) Q E ⟨h, g, dr, tk, os⟩ := by
  x_run
end
section
variable {w : World} {h : Heap} {g : Array GenState} {dr : Drawn} {tk : Nat} {os : OsState} {fr : Option (List Env)} {gu : Option (List Code)}
set_option hygiene false in
local macro_rules | `(tactic| x_close) => `(tactic| (exact hret _ _ _ _ _ (by first | assumption | exact Mem.start _)))
theorem vp3 (x : Str) (t : Tok) (hx : x.length ≤ 1000) (X : (hd.heap_39 w.params).In h) (Q E : Value → Shared → Prop)
    (hret : ∀ b d t' h' tk', Mem h h' [] [(b, ⟨.ref 389, some d, .prim (.str x t'), #[]⟩), (d, emptyDict)] → Q (.ref b) ⟨h', g, dr, tk', os⟩) :
    wpAny (model PySem.Challenge.rw_fy0022_01.row.prog w) ⟨none, 500, fr, gu, 6000⟩ (call (.builtin "str.__new__") [.ref 389, .str x t]) Q E ⟨h, g, dr, tk, os⟩ := by
  x_run
end
section
variable {w : World} {h : Heap} {g : Array GenState} {dr : Drawn} {tk : Nat} {os : OsState} {fr : Option (List Env)} {gu : Option (List Code)}
set_option hygiene false in
local macro_rules | `(tactic| x_close) => `(tactic| (exact hret _ _ _ (by first | assumption | exact Mem.start _)))
theorem vp4 (t : Tok) (X : (hd.heap_39 w.params).In h) (Q E : Value → Shared → Prop)
    (hret : ∀ h' tk' own, Mem h h' [] own → Q (.ref 360) ⟨h', g, dr, tk', os⟩) :
    wpAny (model PySem.Challenge.rw_fy0022_01.row.prog w) ⟨none, 500, fr, gu, 6000⟩ (call (.builtin "type.__getattribute__") [.ref 389, .str "__new__" t]) Q E ⟨h, g, dr, tk, os⟩ := by
  x_run
theorem vp5 (b : Addr) (d : Option Addr) (x : Str) (t t2 : Tok) (sl : Array (Option Value)) (X : (hd.heap_39 w.params).In h) (hb : h.get? b = some ⟨.ref 389, d, .prim (.str x t), sl⟩) (Q E : Value → Shared → Prop)
    (hret : ∀ h' tk' own, Mem h h' [] own → Q .none ⟨h', g, dr, tk', os⟩) :
    wpAny (model PySem.Challenge.rw_fy0022_01.row.prog w) ⟨none, 500, fr, gu, 6000⟩ (call (.builtin "object.__init__") [.ref b, .str x t2]) Q E ⟨h, g, dr, tk, os⟩ := by
  x_run
set_option hygiene false in
local macro_rules | `(tactic| x_close) => `(tactic| (exact hret _ _ _ (by first | assumption | exact Mem.start _)))
theorem vp6 (b : Addr) (d : Option Addr) (x : Str) (y : Array UInt8) (t t2 : Tok) (sl : Array (Option Value)) (X : (hd.heap_39 w.params).In h) (hb : h.get? b = some ⟨.ref 389, d, .prim (.str x t), sl⟩) (Q E : Value → Shared → Prop)
    (hret : ∀ h' tk' own, Mem h h' [] own → Q .none ⟨h', g, dr, tk', os⟩) :
    wpAny (model PySem.Challenge.rw_fy0022_01.row.prog w) ⟨none, 500, fr, gu, 6000⟩ (call (.builtin "object.__init__") [.ref b, .bytes y t2]) Q E ⟨h, g, dr, tk, os⟩ := by
  x_run
end
end Mine
end
section
namespace Mine
theorem fresh_FYsn : True := by
  k_with_none
  w_top off
  trivial
end Mine
open PySem PySem.W PyProof.Rows
namespace Mine
open PySem.Spec PySem.Calls
abbrev supVT : Obj := { cls := .type "super", dict := none, data := .fields #[.ref 389, .ref 389, .ref 389], slots := #[] }
theorem sn1 (P : Params) : ((clsIn (hd.heap_39 P) 389).map (·.mro)) = some [.ref 389, .type "str", .type "object"] := by kernel_rfl
theorem sn3 (P : Params) : nsIn (hd.heap_39 P) cStatics "thirdparty.any" = some none := by kernel_rfl
section
variable {w : World} {A : Around} {E : Value → Shared → Prop} {h : Heap} {g : Array GenState} {d : Drawn} {t : Nat} {os : OsState}
theorem super_new_ga {so : Addr} {tk : Tok} {Q : PySem.Fin → Shared → Prop} (hso : h.get? so = some supVT) (X : (hd.heap_39 w.params).In h)
    (hq : Q (.done (.ret (.builtin "str.__new__"))) ⟨h, g, d, t, os⟩) :
    wpAny (model PySem.Challenge.rw_fy0022_01.row.prog w) A (Builtin.«super.__getattribute__» ⟨[.ref so, .str "__new__" tk], []⟩) Q E ⟨h, g, d, t, os⟩ := by
  obtain ⟨cd, hc, hm⟩ := Option.map_eq_some_iff.mp (sn1 w.params)
  have hC : Looks (model PySem.Challenge.rw_fy0022_01.row.prog w) h (mroOf (.ref 389)) [.ref 389, .type "str", .type "object"] := fun A Q E s k q => wpAny_bind ((looks_clsIn X hc) A _ E s k (wpAny_pure (hm ▸ q)))
  have hno := looks_opaque (M := model PySem.Challenge.rw_fy0022_01.row.prog w) (C := 389) X (sn3 _)
  have hdt : supVT.data = .fields #[.ref 389, .ref 389, .ref 389] := rfl
  have f0 : (#[.ref 389, .ref 389, .ref 389] : Array Value)[0]? = some (.ref 389) := rfl
  have f1 : (#[.ref 389, .ref 389, .ref 389] : Array Value)[1]? = some (.ref 389) := rfl
  have f2 : (#[.ref 389, .ref 389, .ref 389] : Array Value)[2]? = some (.ref 389) := rfl
  unfold Builtin.«super.__getattribute__»
  repeat (first
    | (with_reducible refine wpAny_field hso hdt f0 ?_) | (with_reducible refine wpAny_field hso hdt f1 ?_) | (with_reducible refine wpAny_field hso hdt f2 ?_)
    | (with_reducible refine ks_wpAny_notOpaque hno ?_)
    | (with_reducible refine Looks.at hC ?_; refine Looks.here (r := .done (.ret (.builtin "str.__new__"))) (Looks.of_peek X ?_) hq)
    | wp_step
    | dsimp only)
  all_goals kernel_rfl
theorem super_new_method {so : Addr} {pl : Sem Bool} {Q : Value × List Value → Shared → Prop} (hso : h.get? so = some supVT) (X : (hd.heap_39 w.params).In h)
    (hq : Q (.builtin "str.__new__", []) ⟨h, g, d, t + 1, os⟩) :
    wpAny (model PySem.Challenge.rw_fy0022_01.row.prog w) A (getMethod (.ref so) "__new__" pl) Q E ⟨h, g, d, t, os⟩ := by
  have hlk := PySem.F.ks_slot_super_ga.lookup
  have hT : ∀ t', (⟨h, g, d, t', os⟩ : Shared).TypeIs (.ref so) "super" := fun _ => ⟨_, hso, rfl⟩
  unfold getMethod
  refine wpAny_bind (wpAny_specialOf (hT _) hlk ?_)
  show wpAny _ _ (if (Manifest.canonical "super.__getattribute__" != "object.__getattribute__") = true then _ else _) _ _ _
  rw [if_pos PySem.F.ks_canon_super_ga]
  unfold getAttr getAttrBy
  refine wpAny_bind (wpAny_bind (wpAny_mkText (wpAny_holding (wpAny_bind (wpAny_typeOf (hT _) (wpAny_bind (wpAny_of_eq hlk ?_)))))))
  show wpAny _ _ (getAttrByItsOwn (.ref so) (.str "__new__" t) (.type "super") (.builtin "super.__getattribute__") true false) _ _ _
  unfold getAttrByItsOwn hookBefore callGetattribute boundAndCalled
  refine wpAny_bind (wpAny_of_eq (show (if onTheHeap (.type "super") then typeLookup (.type "super") "__getattr__" else pure none) = pure none from rfl) ?_)
  refine wpAny_bind (wpAny_attempt (wpAny_holding ?_))
  show wpAny _ _ (bindSpecial (.builtin "super.__getattribute__") (.ref so) >>= _) _ _ _
  refine wpAny_bind (wpAny_of_eq (PySem.F.ks_slot_super_ga.bind _) ?_)
  refine wpAny_mono (Q := fun v s' => v = .builtin "str.__new__" ∧ s' = ⟨h, g, d, t + 1, os⟩) (E := fun _ _ => False)
    (wpAny_call_entry PySem.F.ks_slot_super_ga (hT _) PySem.F.ks_entry_super_ga (super_new_ga hso X ⟨_, rfl, rfl, rfl⟩) (PySem.F.ks_gaArgs_super _ _)) (fun v s' hv => ?_) fun _ _ z => z.elim
  obtain ⟨rfl, rfl⟩ := hv
  refine (show wpAny _ _ (handedOut (.builtin "str.__new__")) _ _ _ from ?_)
  rw [handedOut_of (by kernel_rfl)]
  exact wpAny_pure (wpAny_pure hq)
theorem get_new {Q : Value → Shared → Prop} (hh : A.handled = none) (hdep : A.depth ≤ 500) (hun : A.units ≤ 6000) (X : (hd.heap_39 w.params).In h)
    (hq : ∀ h' tk' own, PySem.W.X.Mem h h' [] own → Q (.ref 360) ⟨h', g, d, tk', os⟩) :
    wpAny (model PySem.Challenge.rw_fy0022_01.row.prog w) A (getAttr (.ref 389) "__new__") Q E ⟨h, g, d, t, os⟩ := by
  have hlk := KF.slot_tga.lookup
  have hty := looks_typeIn (M := model PySem.Challenge.rw_fy0022_01.row.prog w) X (v := .ref 389) (t := .type "type") (by kernel_rfl)
  unfold getAttr getAttrBy
  refine wpAny_bind (wpAny_mkText (wpAny_holding (wpAny_bind (hty.at (wpAny_bind (wpAny_of_eq hlk ?_))))))
  show wpAny _ _ (getAttrByItsOwn (.ref 389) (.str "__new__" t) (.type "type") (.builtin "type.__getattribute__") true false) _ _ _
  unfold getAttrByItsOwn hookBefore callGetattribute boundAndCalled
  refine wpAny_bind (wpAny_of_eq (show (if onTheHeap (.type "type") then typeLookup (.type "type") "__getattr__" else pure none) = pure none from rfl) ?_)
  refine wpAny_bind (wpAny_attempt (wpAny_holding ?_))
  show wpAny _ _ (bindSpecial (.builtin "type.__getattribute__") (.ref 389) >>= _) _ _ _
  refine wpAny_bind (wpAny_of_eq (KF.slot_tga.bind _) ?_)
  refine wp_weaken hdep hun ?_
  rw [hh]
  refine vp4 t X _ _ fun h' tk' own D => ?_
  exact wpAny_pure (hq h' tk' own D)
end
end Mine
end
section
namespace Mine
theorem fresh_FYvs : True := by
  k_with_none
  w_top off
  trivial
end Mine
open PySem PySem.W PyProof.Rows
namespace Mine
open PySem.Spec PySem.Calls Builtin.ObjectAttr
theorem vs1 (P : Params) : slotIn (hd.heap_39 P) 391 389 = some 0 := by kernel_rfl
theorem vs2 (P : Params) : slotIn (hd.heap_39 P) 392 389 = some 1 := by kernel_rfl
theorem vs3 (P : Params) : takerIn (hd.heap_39 P) 389 "encoding" = some (some (.ref 391)) := by kernel_rfl
theorem vs4 (P : Params) : takerIn (hd.heap_39 P) 389 "params" = some (some (.ref 392)) := by kernel_rfl
theorem vs5 (P : Params) : typeIn (hd.heap_39 P) (.ref 391) = some (.type "member_descriptor") := by kernel_rfl
theorem vs6 (P : Params) : typeIn (hd.heap_39 P) (.ref 392) = some (.type "member_descriptor") := by kernel_rfl
theorem vs7 (P : Params) : findIn (hd.heap_39 P) (.ref 389) "__setattr__" = some (some (.builtin "object.__setattr__")) := by kernel_rfl
theorem vs8 (b : Addr) : refuseLoop (.ref b) "__setattr__" [.ref 389, .type "str", .type "object"] = pure () := by kernel_rfl
theorem vs9 (P : Params) : mroIn (hd.heap_39 P) 389 (.type "object") = some true := by kernel_rfl
section
variable {w : World} {A : Around} {E : Value → Shared → Prop} {s : Shared} {h₀ : Heap} {L : Addr} {m : Str → Option Value}
theorem vt_set {x d p i : Nat} {y : Str} {t : Tok} {sl sl' : Array (Option Value)} {name : Str} {v : Value} {pre post : List (Addr × Obj)} {Q : Unit → Shared → Prop}
    (F : Fr h₀ L s.heap m) (X₀ : (hd.heap_39 w.params).In h₀) (N : News h₀ L s.heap (pre ++ (x, (⟨.ref 389, some d, .prim (.str y t), sl⟩ : Obj)) :: post)) (hd' : (d, emptyDict) ∈ pre ++ (x, (⟨.ref 389, some d, .prim (.str y t), sl⟩ : Obj)) :: post)
    (ht : takerIn (hd.heap_39 w.params) 389 name = some (some (.ref p))) (hT : typeIn (hd.heap_39 w.params) (.ref p) = some (.type "member_descriptor")) (hs : slotIn (hd.heap_39 w.params) p 389 = some i) (hi : i < 1000)
    (h1 : ∀ p ∈ pre, p.1 ≠ x) (h2 : ∀ p ∈ post, p.1 ≠ x) (e : (sl ++ Array.replicate (i + 1 - sl.size) none).setIfInBounds i (some v) = sl')
    (h : ∀ h', Fr h₀ L h' m → News h₀ L h' (pre ++ (x, (⟨.ref 389, some d, .prim (.str y t), sl'⟩ : Obj)) :: post) → Q () { s with heap := h', toks := s.toks + 1 }) :
    wpAny (model PySem.Challenge.rw_fy0022_01.row.prog w) A (setAttr (.ref x) name v) Q E s := by
  have X := X₀.keeps F.keep
  have I : InstAt s.heap x ⟨.ref 389, some d, .prim (.str y t), sl⟩ 389 (some emptyDict) := ⟨N.get (List.mem_append_right _ (.head _)), rfl, rfl, N.get hd'⟩
  obtain ⟨cd, hc, hm⟩ := Option.map_eq_some_iff.mp (sn1 w.params)
  have SF := PySem.F.store_object
  have sub : Looks (model PySem.Challenge.rw_fy0022_01.row.prog w) s.heap (isInstance (.ref x) (.type "object")) true := I.type.andThen (looks_mroIn X (vs9 _))
  have hmro : Looks (model PySem.Challenge.rw_fy0022_01.row.prog w) s.heap (mroOf (.ref 389)) [.ref 389, .type "str", .type "object"] := fun A Q E s k q => wpAny_bind ((looks_clsIn X hc) A _ E s k (wpAny_pure (hm ▸ q)))
  obtain ⟨attr, ha, hr⟩ := Option.bind_eq_some_iff.mp ht
  have L3 : Looks (model PySem.Challenge.rw_fy0022_01.row.prog w) s.heap (storeTaker? attr) (some (.ref p)) := by
    cases attr with
    | none => cases hr
    | some a =>
      obtain ⟨b, hb, he⟩ := Option.map_eq_some_iff.mp hr
      refine (looks_takesIn X hb).andThen ?_
      cases b
      · cases he
      · cases he; exact .now
  refine set_plain X I (vs7 _) ?_
  refine codeAny_call_builtin SF.slot.plain SF.entry (@check_slot (model PySem.Challenge.rw_fy0022_01.row.prog w) _ _ { s with toks := s.toks + 1 } "object.__setattr__" "object" "__setattr__" (.ref x) [.str name s.toks, v] [] _ SF.kind SF.split sub (SF.args (.ref x) (.str name s.toks) v) ?_)
  rw [osa_eq, refuse_eq]
  refine wpAny_bind (wpAny_bind (I.type.here (s := { s with toks := s.toks + 1 }) (wpAny_bind (hmro.here (s := { s with toks := s.toks + 1 }) ?_))))
  rw [vs8]
  refine wpAny_pure (wpAny_bind (I.type.here (s := { s with toks := s.toks + 1 }) (wpAny_bind ((looks_findIn X ha).here (s := { s with toks := s.toks + 1 }) (wpAny_bind (L3.here (s := { s with toks := s.toks + 1 }) ?_))))))
  have S := KF.slot_mset
  refine wpAny_bind (wpAny_rule (wpAny_bind (wpAny_holding (wpAny_bind (wpAny_bind ((looks_typeIn X hT).here (s := { s with toks := s.toks + 1 }) ((Looks.of_pure S.lookup).here (s := { s with toks := s.toks + 1 }) (wpAny_holding ?_))))))))
  rw [S.bind]
  refine wpAny_bind (wpAny_pure (wpAny_bind (wpAny_call ?_)))
  refine codeAny_mono (slot_set (s := { s with toks := s.toks + 1 }) (R := fun r s' => match r with | .ok (.ret _) => Q () s' | .ok _ => False | .error e => E e s') F N X I hs hi h1 h2 (ox' := ⟨.ref 389, some d, .prim (.str y t), sl'⟩) (by rw [← e]) rfl fun h' F' N' => h h' F' N') fun r s' z => ?_
  rcases r with e | (v | _ | _ | _) <;> first | exact z | exact wpAny_pure (wpAny_pure z)
theorem sup_vt {news : List (Addr × Obj)} {Q : Value → Shared → Prop} (F : Fr h₀ L s.heap m) (X : (hd.heap_39 w.params).In h₀) (N : News h₀ L s.heap news) (hh : A.handled = none) (hdep : A.depth ≤ 500) (hun : A.units ≤ 6000)
    (h : ∀ so h' tk', Fr h₀ L h' m → News h₀ L h' ((so, supVT) :: news) → Q (.ref so) { s with heap := h', toks := tk' }) :
    wpAny (model PySem.Challenge.rw_fy0022_01.row.prog w) A (call (.type "super") [.ref 389, .ref 389]) Q E s := by
  refine wp_weaken hdep hun ?_
  rw [hh]
  exact vp1 (X.keeps F.keep) Q E fun so h' tk' D => h so h' tk' (mem_fr D F) (mem_own D F N)
theorem new_vt {news : List (Addr × Obj)} {x : Str} {t : Tok} {Q : Value → Shared → Prop} (F : Fr h₀ L s.heap m) (X : (hd.heap_39 w.params).In h₀) (N : News h₀ L s.heap news) (hx : x.length ≤ 1000) (hh : A.handled = none) (hdep : A.depth ≤ 500) (hun : A.units ≤ 6000)
    (h : ∀ b d t' h' tk', Fr h₀ L h' m → News h₀ L h' ((b, (⟨.ref 389, some d, .prim (.str x t'), #[]⟩ : Obj)) :: (d, emptyDict) :: news) → (∀ q ∈ (d, emptyDict) :: news, q.1 ≠ b) → Q (.ref b) { s with heap := h', toks := tk' }) :
    wpAny (model PySem.Challenge.rw_fy0022_01.row.prog w) A (call (.builtin "str.__new__") [.ref 389, .str x t]) Q E s := by
  refine wp_weaken hdep hun ?_
  rw [hh]
  refine vp3 x t hx (X.keeps F.keep) Q E fun b d t' h' tk' D => h b d t' h' tk' (mem_fr D F) (mem_own D F N) fun q hq => ?_
  rcases List.mem_cons.mp hq with rfl | hq
  · exact (D.ne 0 1 _ _ _ _ rfl rfl rfl).symm
  · rintro rfl
    have := (D.nw _ (.head _)).2
    rw [(N q hq).1] at this
    cases this
theorem supm_vt {news : List (Addr × Obj)} {so : Addr} {pl : Sem Bool} {Q : Value × List Value → Shared → Prop} (F : Fr h₀ L s.heap m) (X : (hd.heap_39 w.params).In h₀) (N : News h₀ L s.heap news) (hso : (so, supVT) ∈ news)
    (h : Q (.builtin "str.__new__", []) { s with toks := s.toks + 1 }) :
    wpAny (model PySem.Challenge.rw_fy0022_01.row.prog w) A (getMethod (.ref so) "__new__" pl) Q E s := by
  obtain ⟨hp, g, d, t, os⟩ := s
  exact super_new_method (N.get hso) (X.keeps F.keep) h
end
end Mine
end
section
local macro_rules | `(tactic| walk_at "zq0") => `(tactic| skip)
local macro_rules | `(tactic| walk_at "zq1") => `(tactic| skip)
local macro_rules | `(tactic| walk_at "zq2") => `(tactic| skip)
local macro_rules | `(tactic| walk_at "zq3") => `(tactic| skip)
local macro_rules | `(tactic| walk_at "zq4") => `(tactic| skip)
local macro_rules | `(tactic| walk_at "zq5") => `(tactic| skip)
local macro_rules | `(tactic| walk_at "zq6") => `(tactic| skip)
local macro_rules | `(tactic| walk_at "zq7") => `(tactic| skip)
local macro_rules | `(tactic| walk_at "zq8") => `(tactic| skip)
local macro_rules | `(tactic| walk_at "zq9") => `(tactic| skip)
local macro_rules | `(tactic| walk_at "zq10") => `(tactic| skip)
local macro_rules | `(tactic| walk_at "zq11") => `(tactic| skip)
local macro_rules | `(tactic| walk_at "zq12") => `(tactic| skip)
local macro_rules | `(tactic| walk_at "zq13") => `(tactic| skip)
local macro_rules | `(tactic| walk_at "zq14") => `(tactic| skip)
namespace Mine
theorem fresh_FYvn : True := by
  k_with_none
  w_top off
  trivial
end Mine
open PySem PySem.W PyProof.Rows
namespace Mine
open PySem.Spec PySem.Calls
section
local macro_rules | `(tactic| walk_at "execs cons") => `(tactic| ((with_reducible refine wpAny_execs_cons ?_); try dsimp only))
theorem tou_kw {w : World} {p : Program} {loose : List Str} {mean : ExcName → Option Value} {mg mb : Str → Option Value} {news : List (Addr × Obj)} (x e : Str) (tk te : Tok)
    (dp un : Nat) (gd : Option (List Code)) (cn : Str) (cs : Scope) (a : Addr) (ccd : Value) (cl : List (Str × Addr)) (outer : List Env) (A₀ : Around) (base h₀ : Heap) (L : Addr) (m : Str → Option Value) (s : Shared) (Q E : Value → Shared → Prop)
    (B : Below A₀ base outer h₀) (F : Fr h₀ L s.heap m) (X : (hd.heap_39 w.params).In h₀) (N : News h₀ L s.heap news) (T : Top p loose mean mg mb h₀) (hk : cs.kind = .function) (hdp : dp + 3 < recursionLimit) (hu : un + 8 * 3 < cLine)
    (hret : ∀ h' tk', Fr h₀ L h' m → News h₀ L h' news → Q (.str x tk) { s with heap := h', toks := tk' }) :
    wpAny (model PySem.Challenge.rw_fy0022_01.row.prog w) (ktrTop dp un gd cn cs L a ccd cl outer) (call (.ref 66) [.str x tk] [("encoding", .str e te)]) Q E s := by
  revert X
  k_fill
  intro X
  k_with_none
  refine wpAny_call ?_
  k_dflt (refine' code_def ?k1 ?k2 ?k3 ?k4 ?k5 ?kA ?kF ?kK ?k6 ?k7 ?k8 ?k9 ?kB ?_ ?c2 ?c3 ?c4 ?c5; (case kA => exact rfl); (case kF => exact rfl); (case kK => assumption); (case k1 => k_asm); (case k2 => k_asm); (case k3 => k_asm); (case k4 => k_asm); (case k5 => k_asm); (case k6 => k_is); (case k7 => k_is); (case k8 => ktr_room); (case k9 => refine' kp_binds ?kx ?ke; (case kx => k_in); (case ke => exact fun _ => rfl)); (case c5 => decide); (case kB => exact locs rfl); (case c2 => exact rfl); (case c3 => exact rfl); (case c4 => exact rfl); k_whole; intro g' L' h' FG' F' N' B' X' T'; (try dsimp only); (try k_lift B'); (try k_fold))
  k_steps
  exact hret _ _ (by assumption) (by assumption)
end
local macro_rules | `(tactic| walk_at "call ref") => `(tactic| ((with_reducible show wpAny _ _ (call (Value.ref 66) _ _) _ _ _); k_extra "tou"))
local macro_rules | `(tactic| walk_at "call ref") => `(tactic| ((with_reducible show wpAny _ _ (call (Value.ref 330) _ _) _ _ _); k_extra "prm"))
local macro_rules | `(tactic| walk_at "wpAt") => `(tactic| ((with_reducible show _root_.PySem.wpAt _ _ _ (exec (Stmt.Assign [Expr.Name _ _] (Expr.Call (Expr.Attribute (Expr.Call _ _ _ _) _ _) _ _ _) _) _) _ _ _); k_dflt (refine ks_wpAt_Assign_Name ?_ (by with_unfolding_all rfl))))
local macro_rules | `(tactic| walk_at "wpAt") => `(tactic| ((with_reducible show _root_.PySem.wpAt _ _ _ (eval (Expr.Call (Expr.Attribute (Expr.Call _ _ _ _) _ _) _ _ _) _) _ _ _); k_extra "mcall"))
local macro_rules | `(tactic| walk_at "getMethod ref") => `(tactic| k_extra "supm")
local macro_rules | `(tactic| walk_at "call builtin:str.__new__") => `(tactic| k_extra "strn")
local macro_rules | `(tactic| walk_at "call type:super") => `(tactic| k_extra "supc")
local macro_rules | `(tactic| walk_at "setAttr ref") => `(tactic| k_extra "seta")
local macro_rules | `(tactic| walk_at "wpAt") => `(tactic| ((with_reducible show _root_.PySem.wpAt _ _ _ (attributeBase _ _ _ _) _ _ _); k_extra "sup"))
local macro_rules | `(tactic| walk_at "wpAt") => `(tactic| ((with_reducible show _root_.PySem.wpAt _ _ _ (execs (List.cons _ _) _) _ _ _); refine ks_wpAt_execs_cons ?_))
theorem vtn_call {w : World} {p : Program} {loose : List Str} {mean : ExcName → Option Value} {mg mb : Str → Option Value} {news : List (Addr × Obj)} (x : Str) (tk : Tok) (hx : x.length ≤ 900) :
    Claim w p loose mean mg mb 570 360 news [.ref 389, .str x tk] (RetVT news x) := by
  unfold Claim
  k_fill
  intro dp un gd cn cs a ccd cl outer A₀ base h₀ L m' s Q E B F X N T hk hdp hu hret
  k_with_none
  k_with "tou" => (
    k_dflt (refine' tou_kw _ _ _ _ _ _ _ _ _ _ _ _ _ _ _ _ _ _ _ _ _ ?k1 ?k2 ?k3 ?k4 ?k5 ?kK ?kd ?ku ?_)
    (case k1 => k_asm); (case k2 => k_asm); (case k3 => k_asm); (case k4 => k_asm); (case k5 => k_asm)
    (case kK => first | exact rfl | assumption)
    (case kd => ktr_room)
    (case ku => ktr_units)
    intro h9 tk9 F9 N9
    (try dsimp only)
    (try k_fold))
  k_with "mcall" => (k_dflt (refine ks_wpAt_MethodCall ?_))
  k_with "sup" => (
    k_dflt (refine' super_frame ?k1 ?k2 ?k3 ?k4 ?k5 ?k6 ?k7 ?k8 ?k9 ?l1 ?l2 ?l3 ?l4 ?l5 ?l6 ?l7 ?l8 ?l9 ?m1 ?m2 ?_; (case k1 => k_asm); (case k2 => k_asm); (case k3 => k_asm); (case k4 => k_is); (case k5 => exact rfl); (case k6 => exact rfl); (case k7 => k_is); (case k8 => exact rfl); (case k9 => first | exact rfl | decide +kernel); (case l1 => exact rfl); (case l2 => k_is); (case l3 => k_is); (case l4 => k_is); (case l5 => decide); (case l6 => exact rfl); (case l7 => exact rfl); (case l8 => exact rfl); (case l9 => exact rfl); (case m1 => decide +kernel); (case m2 => first | boot_by_name | exact rfl | kernel_rfl)))
  k_with "supc" => (
    k_dflt (refine' sup_vt ?k1 ?k2 ?k3 ?k4 ?k5 ?k6 ?_; (case k1 => k_asm); (case k2 => k_asm); (case k3 => k_asm); (case k4 => exact rfl); (case k5 => (show dp + 1 ≤ 500); have := hdp; unfold recursionLimit at this; omega); (case k6 => (show un + 3 ≤ 6000); have := hu; unfold cLine at this; omega))
    intro so9 h9 tk9 F9 N9
    (try dsimp only))
  k_with "supm" => (
    k_dflt (refine' supm_vt ?k1 ?k2 ?k3 ?k4 ?_; (case k1 => k_asm); (case k2 => k_asm); (case k3 => k_asm); (case k4 => k_mem))
    (try dsimp only))
  k_with "strn" => (
    k_dflt (refine' new_vt ?k1 ?k2 ?k3 ?kx ?k4 ?k5 ?k6 ?_; (case kx => omega); (case k1 => k_asm); (case k2 => k_asm); (case k3 => k_asm); (case k4 => exact rfl); (case k5 => (show dp + 1 ≤ 500); have := hdp; unfold recursionLimit at this; omega); (case k6 => (show un + 3 ≤ 6000); have := hu; unfold cLine at this; omega))
    intro b9 d9 t9 h9 tk9 F9 N9 hb9
    (try dsimp only))
  k_with "seta" => (
    first
    | k_dflt (refine' vt_set (pre := []) ?k1 ?k2 ?k3 ?k4 ?k5 ?k6 ?k7 ?k8 ?k9 ?l1 ?l2 ?_; (case k1 => k_asm); (case k2 => k_asm); (case k3 => k_asm); (case k4 => k_mem); (case k5 => exact vs3 _); (case k6 => exact vs5 _); (case k7 => exact vs1 _); (case k8 => decide); (case k9 => intro p hp; cases hp); (case l1 => assumption); (case l2 => exact rfl))
    | k_dflt (refine' vt_set (pre := [_, _]) ?k1 ?k2 ?k3 ?k4 ?k5 ?k6 ?k7 ?k8 ?k9 ?l1 ?l2 ?_; (case k1 => k_asm); (case k2 => k_asm); (case k3 => k_asm); (case k4 => k_mem); (case k5 => exact vs4 _); (case k6 => exact vs6 _); (case k7 => exact vs2 _); (case k8 => decide); (case k9 => intro p hp; rcases List.mem_cons.mp hp with rfl | hp; exact (hq9 _ (.head _)).1.symm; rcases List.mem_cons.mp hp with rfl | hp; exact (hq9 _ (.head _)).2.symm; cases hp); (case l1 => assumption); (case l2 => exact rfl))
    intro h9 F9 N9
    (try dsimp only [List.nil_append, List.cons_append] at N9)
    (try dsimp only))
  k_with "prm" => (
    k_dflt (refine' prm_call _ _ _ _ _ _ _ _ _ _ _ _ _ _ _ _ _ ?k1 ?k2 ?k3 ?k4 ?k5 ?kK ?kd ?ku ?_)
    (case k1 => k_asm); (case k2 => k_asm); (case k3 => k_asm); (case k4 => k_asm); (case k5 => k_asm)
    (case kK => first | exact rfl | assumption)
    (case kd => ktr_room)
    (case ku => ktr_units)
    intro xp9 dp9 h9 tk9 F9 N9 hq9 hxp9
    (try dsimp only)
    (try k_fold))
  refine wpAny_call ?_
  k_dflt (refine' ks_code_super ?k1 ?k2 ?k3 ?k4 ?k5 ?kA ?kF ?kK ?k6 ?k7 ?k8 ?k9 ?kB ?_ ?c1 ?c2 ?c3 ?c4; (case kA => exact rfl); (case kF => exact rfl); (case kK => exact hk); (case k1 => k_asm); (case k2 => k_asm); (case k3 => k_asm); (case k4 => k_asm); (case k5 => k_asm); (case k6 => k_is); (case k7 => k_is); (case k8 => ktr_room); (case k9 => refine' kp_binds ?kx ?ke; (case kx => k_in); (case ke => exact fun _ => rfl)); (case kB => exact locs rfl); (case c1 => decide); (case c2 => exact rfl); (case c3 => exact rfl); (case c4 => exact rfl); intro g' L' h' FG' F' N' B' X' T' l1; (try k_lt l1); (try dsimp only); (try k_lift B'); (try k_fold))
  k_steps
  (rename News _ _ _ _ => nE')
  exact hret _ _ _ _ _ _ (by assumption) (fun p hp => by
    rcases List.mem_cons.mp hp with rfl | hp
    · exact nE' _ (.tail _ (.tail _ (.head _)))
    rcases List.mem_cons.mp hp with rfl | hp
    · exact nE' _ (.tail _ (.tail _ (.tail _ (.head _))))
    · exact nE' _ (.tail _ (.tail _ (.tail _ (.tail _ (.tail _ hp))))))
end Mine
end
section
namespace Mine
theorem fresh_FYvt : True := by
  k_with_none
  w_top off
  trivial
end Mine
open PySem PySem.W PyProof.Rows
namespace Mine
open PySem.Spec PySem.Calls
theorem vt_made {w : World} {p : Program} {loose : List Str} {mean : ExcName → Option Value} {mg mb : Str → Option Value} {news : List (Addr × Obj)} (x : Str) (v : Value)
    (hnew : Claim w p loose mean mg mb 570 360 news [.ref 389, v] (RetVT news x))
    (hini : ∀ (A : Around) (s : Shared) (b d : Addr) (t : Tok) (sl : Array (Option Value)) (Q E : Value → Shared → Prop), A.handled = none → A.depth ≤ 500 → A.units ≤ 6000 → (hd.heap_39 w.params).In s.heap → s.heap.get? b = some ⟨.ref 389, some d, .prim (.str x t), sl⟩ →
      (∀ h' tk' own, PySem.W.X.Mem s.heap h' [] own → Q .none { s with heap := h', toks := tk' }) → wpAny (model PySem.Challenge.rw_fy0022_01.row.prog w) A (call (.builtin "object.__init__") [.ref b, v]) Q E s) :
    Claim w p loose mean mg mb 580 389 news [v] (RetVT news x) := by
  unfold Claim
  k_fill
  intro dp un gd cn cs a ccd cl outer A₀ base h₀ L m' s Q E B F X N T hk hdp hu hret
  have hdp' : dp + 580 < 1000 := hdp
  have hu' : un + 8 * 580 < 9900 := hu
  refine wpAny_call ?_
  refine' make_at (X.keeps F.keep) ?kC ?kE (q4 _) (q6 _) (q2 _) ?_
  (case kC => k_is)
  (case kE => exact rfl)
  rw [under_tc]
  obtain ⟨hp, g, d, t, os⟩ := s
  have hd1 : (ktrTop (dp + 1) (un + 1) gd cn cs L a ccd cl outer).depth ≤ 500 := by
    show dp + 1 ≤ 500
    omega
  have hu1 : (ktrTop (dp + 1) (un + 1) gd cn cs L a ccd cl outer).units ≤ 6000 := by
    show un + 1 ≤ 6000
    omega
  refine get_new rfl hd1 hu1 (X.keeps F.keep) fun h1 tk1 own D => ?_
  have F1 := mem_fr D F
  have N1 := mem_news D N
  refine hnew (dp + 1) (un + 1) gd cn cs a ccd cl outer A₀ base h₀ L m' _ _ _ B F1 X N1 T hk ?_ ?_ ?_
  · show dp + 1 + 570 < 1000
    omega
  · show un + 1 + 8 * 570 < 9900
    omega
  intro b dd t2 sl h2 tk2 F2 N2
  have I : InstAt h2 b ⟨.ref 389, some dd, .prim (.str x t2), sl⟩ 389 (some emptyDict) := ⟨N2.get (.head _), rfl, rfl, N2.get (.tail _ (.head _))⟩
  refine wpAny_mono (show wpAny _ _ (isInstance (.ref b) (.ref 389)) (fun c s'' => c = true ∧ s'' = ⟨h2, g, d, tk2, os⟩) (fun _ _ => False) _ from wpAny_bind (I.type.here ((looks_mroIn (X.keeps F2.keep) (q10 _)).here ⟨rfl, rfl⟩))) (fun c s'' hb => ?_) fun _ _ z => z.elim
  obtain ⟨rfl, rfl⟩ := hb
  refine ⟨rfl, ?_⟩
  have hb := oi_bind (.ref b)
  refine wpAny_bind (wpAny_bind (I.type.here (s := ⟨h2, g, d, tk2, os⟩) ((looks_findIn (X.keeps F2.keep) (q8 _)).here (s := ⟨h2, g, d, tk2, os⟩) (wpAny_holding ?_))))
  rw [hb]
  refine wpAny_bind (wpAny_pure (wpAny_bind ?_))
  refine hini _ _ b dd t2 sl _ _ rfl hd1 hu1 (X.keeps F2.keep) (N2.get (.head _)) fun h3 tk3 own3 D3 => wpAny_pure ⟨.inr rfl, ?_⟩
  exact hret b dd t2 sl h3 tk3 (mem_fr D3 F2) (mem_news D3 N2)
theorem vt_call {w : World} {p : Program} {loose : List Str} {mean : ExcName → Option Value} {mg mb : Str → Option Value} {news : List (Addr × Obj)} (x : Str) (tk : Tok) (hx : x.length ≤ 900) :
    Claim w p loose mean mg mb 580 389 news [.str x tk] (RetVT news x) := by
  refine vt_made x (.str x tk) (vtn_call x tk hx) fun A s b d t sl Q E hh hdp hun X hb h => ?_
  refine wp_weaken hdp hun ?_
  rw [hh]
  obtain ⟨hp, g, dr, tk0, os⟩ := s
  exact vp5 b (some d) x t tk sl X hb Q E h
end Mine
end
section
namespace Mine
theorem fresh_FYvb : True := by
  k_with_none
  w_top off
  trivial
end Mine
open PySem PySem.W PyProof.Rows
namespace Mine
open PySem.Spec PySem.Calls
theorem dec_meth {prog : Program} {w : World} {A : Around} {E : Value → Shared → Prop} {s : Shared} {b : Array UInt8} {t : Tok} {pl : Sem Bool} {Q : Value × List Value → Shared → Prop} (h : Q (.builtin "bytes.decode", [.bytes b t]) s) : wpAny (model prog w) A (getMethod (.bytes b t) "decode" pl) Q E s :=
  getMethod_builtin (typeIs_bytes _ _ _) FB.plainAttrs_bytes FB.slot_bytes_decode FB.type_bytes_decode (fun _ e => nomatch e) h
section
local macro_rules | `(tactic| walk_at "getMethod bytes") => `(tactic| ((with_reducible refine dec_meth ?_)))
local macro_rules | `(tactic| walk_at "call builtin:bytes.decode") => `(tactic| k_extra "dec")
local macro_rules | `(tactic| walk_at "execs cons") => `(tactic| ((with_reducible refine wpAny_execs_cons ?_); try dsimp only))
theorem tou_kwb {w : World} {p : Program} {loose : List Str} {mean : ExcName → Option Value} {mg mb : Str → Option Value} {news : List (Addr × Obj)} (x e : Str) (hx : x.length ≤ 900) (hs : ∀ c ∈ Mine.cl x, okc c) (tk te : Tok)
    (dp un : Nat) (gd : Option (List Code)) (cn : Str) (cs : Scope) (a : Addr) (ccd : Value) (cl : List (Str × Addr)) (outer : List Env) (A₀ : Around) (base h₀ : Heap) (L : Addr) (m : Str → Option Value) (s : Shared) (Q E : Value → Shared → Prop)
    (B : Below A₀ base outer h₀) (F : Fr h₀ L s.heap m) (X : (hd.heap_39 w.params).In h₀) (N : News h₀ L s.heap news) (T : Top p loose mean mg mb h₀) (hk : cs.kind = .function) (hdp : dp + 3 < recursionLimit) (hu : un + 8 * 3 < cLine)
    (hret : ∀ t h' tk', Fr h₀ L h' m → News h₀ L h' news → Q (.str x t) { s with heap := h', toks := tk' }) :
    wpAny (model PySem.Challenge.rw_fy0022_01.row.prog w) (ktrTop dp un gd cn cs L a ccd cl outer) (call (.ref 66) [.bytes (u8 x) tk] [("encoding", .str e te)]) Q E s := by
  revert X
  k_fill
  intro X
  k_with_none
  k_with "dec" => (
    k_dflt (refine' dec_call ?kl ?ks ?_; (case kl => omega); (case ks => assumption))
    intro t9 tk9
    (try dsimp only)
    (try k_fold))
  refine wpAny_call ?_
  k_dflt (refine' code_def ?k1 ?k2 ?k3 ?k4 ?k5 ?kA ?kF ?kK ?k6 ?k7 ?k8 ?k9 ?kB ?_ ?c2 ?c3 ?c4 ?c5; (case kA => exact rfl); (case kF => exact rfl); (case kK => assumption); (case k1 => k_asm); (case k2 => k_asm); (case k3 => k_asm); (case k4 => k_asm); (case k5 => k_asm); (case k6 => k_is); (case k7 => k_is); (case k8 => ktr_room); (case k9 => refine' kp_binds ?kx ?ke; (case kx => k_in); (case ke => exact fun _ => rfl)); (case c5 => decide); (case kB => exact locs rfl); (case c2 => exact rfl); (case c3 => exact rfl); (case c4 => exact rfl); k_whole; intro g' L' h' FG' F' N' B' X' T'; (try dsimp only); (try k_lift B'); (try k_fold))
  k_steps
  exact hret _ _ _ (by assumption) (by assumption)
end
local macro_rules | `(tactic| walk_at "call ref") => `(tactic| ((with_reducible show wpAny _ _ (call (Value.ref 66) _ _) _ _ _); k_extra "tou"))
local macro_rules | `(tactic| walk_at "call ref") => `(tactic| ((with_reducible show wpAny _ _ (call (Value.ref 330) _ _) _ _ _); k_extra "prm"))
local macro_rules | `(tactic| walk_at "wpAt") => `(tactic| ((with_reducible show _root_.PySem.wpAt _ _ _ (exec (Stmt.Assign [Expr.Name _ _] (Expr.Call (Expr.Attribute (Expr.Call _ _ _ _) _ _) _ _ _) _) _) _ _ _); k_dflt (refine ks_wpAt_Assign_Name ?_ (by with_unfolding_all rfl))))
local macro_rules | `(tactic| walk_at "wpAt") => `(tactic| ((with_reducible show _root_.PySem.wpAt _ _ _ (eval (Expr.Call (Expr.Attribute (Expr.Call _ _ _ _) _ _) _ _ _) _) _ _ _); k_extra "mcall"))
local macro_rules | `(tactic| walk_at "getMethod ref") => `(tactic| k_extra "supm")
local macro_rules | `(tactic| walk_at "call builtin:str.__new__") => `(tactic| k_extra "strn")
local macro_rules | `(tactic| walk_at "call type:super") => `(tactic| k_extra "supc")
local macro_rules | `(tactic| walk_at "setAttr ref") => `(tactic| k_extra "seta")
local macro_rules | `(tactic| walk_at "wpAt") => `(tactic| ((with_reducible show _root_.PySem.wpAt _ _ _ (attributeBase _ _ _ _) _ _ _); k_extra "sup"))
local macro_rules | `(tactic| walk_at "wpAt") => `(tactic| ((with_reducible show _root_.PySem.wpAt _ _ _ (execs (List.cons _ _) _) _ _ _); refine ks_wpAt_execs_cons ?_))
theorem vtnb_call {w : World} {p : Program} {loose : List Str} {mean : ExcName → Option Value} {mg mb : Str → Option Value} {news : List (Addr × Obj)} (x : Str) (tk : Tok) (hx : x.length ≤ 900) (hs : ∀ c ∈ Mine.cl x, okc c) :
    Claim w p loose mean mg mb 570 360 news [.ref 389, .bytes (u8 x) tk] (RetVT news x) := by
  unfold Claim
  k_fill
  intro dp un gd cn cs a ccd cl outer A₀ base h₀ L m' s Q E B F X N T hk hdp hu hret
  k_with_none
  k_with "tou" => (
    k_dflt (refine' tou_kwb _ _ ?kl ?ks _ _ _ _ _ _ _ _ _ _ _ _ _ _ _ _ _ _ _ ?k1 ?k2 ?k3 ?k4 ?k5 ?kK ?kd ?ku ?_)
    (case kl => assumption); (case ks => assumption)
    (case k1 => k_asm); (case k2 => k_asm); (case k3 => k_asm); (case k4 => k_asm); (case k5 => k_asm)
    (case kK => first | exact rfl | assumption)
    (case kd => ktr_room)
    (case ku => ktr_units)
    intro t9 h9 tk9 F9 N9
    (try dsimp only)
    (try k_fold))
  k_with "mcall" => (k_dflt (refine ks_wpAt_MethodCall ?_))
  k_with "sup" => (
    k_dflt (refine' super_frame ?k1 ?k2 ?k3 ?k4 ?k5 ?k6 ?k7 ?k8 ?k9 ?l1 ?l2 ?l3 ?l4 ?l5 ?l6 ?l7 ?l8 ?l9 ?m1 ?m2 ?_; (case k1 => k_asm); (case k2 => k_asm); (case k3 => k_asm); (case k4 => k_is); (case k5 => exact rfl); (case k6 => exact rfl); (case k7 => k_is); (case k8 => exact rfl); (case k9 => first | exact rfl | decide +kernel); (case l1 => exact rfl); (case l2 => k_is); (case l3 => k_is); (case l4 => k_is); (case l5 => decide); (case l6 => exact rfl); (case l7 => exact rfl); (case l8 => exact rfl); (case l9 => exact rfl); (case m1 => decide +kernel); (case m2 => first | boot_by_name | exact rfl | kernel_rfl)))
  k_with "supc" => (
    k_dflt (refine' sup_vt ?k1 ?k2 ?k3 ?k4 ?k5 ?k6 ?_; (case k1 => k_asm); (case k2 => k_asm); (case k3 => k_asm); (case k4 => exact rfl); (case k5 => (show dp + 1 ≤ 500); have := hdp; unfold recursionLimit at this; omega); (case k6 => (show un + 3 ≤ 6000); have := hu; unfold cLine at this; omega))
    intro so9 h9 tk9 F9 N9
    (try dsimp only))
  k_with "supm" => (
    k_dflt (refine' supm_vt ?k1 ?k2 ?k3 ?k4 ?_; (case k1 => k_asm); (case k2 => k_asm); (case k3 => k_asm); (case k4 => k_mem))
    (try dsimp only))
  k_with "strn" => (
    k_dflt (refine' new_vt ?k1 ?k2 ?k3 ?kx ?k4 ?k5 ?k6 ?_; (case kx => omega); (case k1 => k_asm); (case k2 => k_asm); (case k3 => k_asm); (case k4 => exact rfl); (case k5 => (show dp + 1 ≤ 500); have := hdp; unfold recursionLimit at this; omega); (case k6 => (show un + 3 ≤ 6000); have := hu; unfold cLine at this; omega))
    intro b9 d9 t9 h9 tk9 F9 N9 hb9
    (try dsimp only))
  k_with "seta" => (
    first
    | k_dflt (refine' vt_set (pre := []) ?k1 ?k2 ?k3 ?k4 ?k5 ?k6 ?k7 ?k8 ?k9 ?l1 ?l2 ?_; (case k1 => k_asm); (case k2 => k_asm); (case k3 => k_asm); (case k4 => k_mem); (case k5 => exact vs3 _); (case k6 => exact vs5 _); (case k7 => exact vs1 _); (case k8 => decide); (case k9 => intro p hp; cases hp); (case l1 => assumption); (case l2 => exact rfl))
    | k_dflt (refine' vt_set (pre := [_, _]) ?k1 ?k2 ?k3 ?k4 ?k5 ?k6 ?k7 ?k8 ?k9 ?l1 ?l2 ?_; (case k1 => k_asm); (case k2 => k_asm); (case k3 => k_asm); (case k4 => k_mem); (case k5 => exact vs4 _); (case k6 => exact vs6 _); (case k7 => exact vs2 _); (case k8 => decide); (case k9 => intro p hp; rcases List.mem_cons.mp hp with rfl | hp; exact (hq9 _ (.head _)).1.symm; rcases List.mem_cons.mp hp with rfl | hp; exact (hq9 _ (.head _)).2.symm; cases hp); (case l1 => assumption); (case l2 => exact rfl))
    intro h9 F9 N9
    (try dsimp only [List.nil_append, List.cons_append] at N9)
    (try dsimp only))
  k_with "prm" => (
    k_dflt (refine' prm_call _ _ _ _ _ _ _ _ _ _ _ _ _ _ _ _ _ ?k1 ?k2 ?k3 ?k4 ?k5 ?kK ?kd ?ku ?_)
    (case k1 => k_asm); (case k2 => k_asm); (case k3 => k_asm); (case k4 => k_asm); (case k5 => k_asm)
    (case kK => first | exact rfl | assumption)
    (case kd => ktr_room)
    (case ku => ktr_units)
    intro xp9 dp9 h9 tk9 F9 N9 hq9 hxp9
    (try dsimp only)
    (try k_fold))
  refine wpAny_call ?_
  k_dflt (refine' ks_code_super ?k1 ?k2 ?k3 ?k4 ?k5 ?kA ?kF ?kK ?k6 ?k7 ?k8 ?k9 ?kB ?_ ?c1 ?c2 ?c3 ?c4; (case kA => exact rfl); (case kF => exact rfl); (case kK => exact hk); (case k1 => k_asm); (case k2 => k_asm); (case k3 => k_asm); (case k4 => k_asm); (case k5 => k_asm); (case k6 => k_is); (case k7 => k_is); (case k8 => ktr_room); (case k9 => refine' kp_binds ?kx ?ke; (case kx => k_in); (case ke => exact fun _ => rfl)); (case kB => exact locs rfl); (case c1 => decide); (case c2 => exact rfl); (case c3 => exact rfl); (case c4 => exact rfl); intro g' L' h' FG' F' N' B' X' T' l1; (try k_lt l1); (try dsimp only); (try k_lift B'); (try k_fold))
  k_steps
  (rename News _ _ _ _ => nE')
  exact hret _ _ _ _ _ _ (by assumption) (fun p hp => by
    rcases List.mem_cons.mp hp with rfl | hp
    · exact nE' _ (.tail _ (.tail _ (.head _)))
    rcases List.mem_cons.mp hp with rfl | hp
    · exact nE' _ (.tail _ (.tail _ (.tail _ (.head _))))
    · exact nE' _ (.tail _ (.tail _ (.tail _ (.tail _ (.tail _ hp))))))
theorem vtb_call {w : World} {p : Program} {loose : List Str} {mean : ExcName → Option Value} {mg mb : Str → Option Value} {news : List (Addr × Obj)} (x : Str) (tk : Tok) (hx : x.length ≤ 900) (hs : ∀ c ∈ Mine.cl x, okc c) :
    Claim w p loose mean mg mb 580 389 news [.bytes (u8 x) tk] (RetVT news x) := by
  refine vt_made x (.bytes (u8 x) tk) (vtnb_call x tk hx hs) fun A s b d t sl Q E hh hdp hun X hb h => ?_
  refine wp_weaken hdp hun ?_
  rw [hh]
  obtain ⟨hp, g, dr, tk0, os⟩ := s
  exact vp6 b (some d) x (u8 x) t tk sl X hb Q E h
end Mine
end
section
namespace Mine
theorem fresh_FYvr : True := by
  k_with_none
  w_top off
  trivial
end Mine
open PySem PySem.W PyProof.Rows
namespace Mine
open PySem.Spec PySem.Calls PySem.Builtin PySem.Builtin.Str
theorem check_meth {M : Model} {A : Around} {E : Value → Shared → Prop} {s : Shared} {i owner n : String} {self : Value} {rest : List Value} {kw : List (PySem.Str × Value)} {Q : Unit → Shared → Prop}
    (hk : builtinKind i = some .method) (hs : splitId i = some (owner, n)) (hi : Looks M s.heap (isInstance self (.type owner)) true) (ha : argsOk i ⟨self :: rest, kw⟩) (q : Q () s) :
    wpAny M A (checkBuiltinCall i ⟨self :: rest, kw⟩) Q E s := by
  simp only [checkBuiltinCall, hk, hs]
  refine wpAny_bind (hi.here ?_)
  simp only [Bool.not_true, Bool.false_eq_true, if_false]
  cases hsig : Manifest.signature? i with
  | none => exact wpAny_pure q
  | some sig =>
    simp only [argsOk, hsig] at ha
    have h2 : Bind.checkArgs i sig ⟨self :: rest, kw⟩ = pure () := ha
    show wpAny M A (Bind.checkArgs i sig ⟨self :: rest, kw⟩) Q E s
    rw [h2]; exact wpAny_pure q
theorem vr1 (P : Params) : mroIn (hd.heap_39 P) 389 (.type "str") = some true := by kernel_rfl
theorem vr2 : builtinKind "str.replace" = some .method := by decide +kernel
theorem vr3 : splitId "str.replace" = some ("str", "replace") := by decide +kernel
section
variable {w : World} {A : Around} {E : Value → Shared → Prop} {s : Shared} {x y z : PySem.Str} {t u v : Tok}
theorem vt_replace {b d : Addr} {sl : Array (Option Value)} {Q : Value → Shared → Prop} (X : (hd.heap_39 w.params).In s.heap) (hb : s.heap.get? b = some ⟨.ref 389, some d, .prim (.str x t), sl⟩) (hd' : s.heap.get? d = some emptyDict)
    (hu : @LT.lt Nat instLTNat 0 u) (hv : @LT.lt Nat instLTNat 0 v) (huv : @Ne Nat u v) (hyz : (y == z) = false) (hx : x.length ≤ 1000) (hz : z.length ≤ 14)
    (hq : ∀ t' k, s.toks ≤ k → Q (.str (Txt.replace x y z) t') { s with toks := k }) :
    wpAny (model PySem.Challenge.rw_fy0022_01.row.prog w) A (call (.builtin "str.replace") [.ref b, .str y u, .str z v]) Q E s := by
  refine any_toks ?_
  have I : InstAt s.heap b ⟨.ref 389, some d, .prim (.str x t), sl⟩ 389 (some emptyDict) := ⟨hb, rfl, rfl, hd'⟩
  have hi : Looks (model PySem.Challenge.rw_fy0022_01.row.prog w) s.heap (isInstance (.ref b) (.type "str")) true := I.type.andThen (looks_mroIn X (vr1 _))
  have hh : x.length + (x.length + 1) * z.length ≤ 16777216 := by
    have h1 : (x.length + 1) * z.length ≤ (x.length + 1) * 14 := Nat.mul_le_mul_left _ hz
    omega
  have hl : tooLong (x.length + (occurrences x y 0 x.length (x.length + 1)).length * z.length) = false := by
    have h1 := StrLaws.occ_length_le x y 0 x.length (x.length + 1)
    have h2 : (occurrences x y 0 x.length (x.length + 1)).length * z.length ≤ (x.length + 1) * z.length := Nat.mul_le_mul_right _ h1
    unfold tooLong sizeLine
    exact decide_eq_false (by omega)
  refine wpAny_call (codeAny_call_builtin PySem.F.slot_str_replace.plain PySem.F.entry_str_replace (check_meth vr2 vr3 hi (PySem.F.args_str_replace_3 _ _ _) ?_))
  unfold «str.replace» strSelf textOf asStr?
  refine wpAny_bind (wpAny_bind (wpAny_bind (wpAny_bind (wpAny_load hb (wpAny_pure (wpAny_pure (wpAny_pure ?_)))))))
  show wpAny _ _ (if ((occurrences x y 0 x.length (x.length + 1)).isEmpty || (y.length == 0 && z.length == 0)) = true then (do rule "str.replace.nothing"; ret (← strUnchanged (.ref b) x)) else
          (do let same ← isSame (.str y u) (.str z v)
              if same = true then (do rule "str.replace.old-is-new"; ret (← strUnchanged (.ref b) x)) else
              if tooLong (x.length + (occurrences x y 0 x.length (x.length + 1)).length * z.length) = true then unsupported "str.replace:memory" else
              retStr (glued z (partsBetween x (occurrences x y 0 x.length (x.length + 1)) y.length)))) _ _ _
  have hq' := hq
  unfold Txt.replace at hq'
  cases hc : ((occurrences x y 0 x.length (x.length + 1)).isEmpty || (y.length == 0 && z.length == 0))
  · rw [hc] at hq'
    simp only [Bool.false_eq_true, if_false] at hq' ⊢
    have e0 : (u == 0 || v == 0) = false := by
      have h1 := Nat.ne_of_gt hu
      have h2 := Nat.ne_of_gt hv
      simp [h1, h2]
    have e1 : (u == v) = false := by simp [huv]
    rw [isSame_str_other y z u v e0 e1 hyz, hl]
    refine wpAny_bind (wpAny_pure ?_)
    simp only [Bool.false_eq_true, if_false]
    exact wpAny_bind (wpAny_mkStr (wpAny_pure (fun hk => hq' _ _ hk)) (fits_replaced y hh))
  · rw [hc] at hq'
    simp only [if_true] at hq' ⊢
    refine wpAny_bind (wpAny_rule (wpAny_bind ?_))
    show wpAny _ _ (mkStr x) _ _ _
    exact wpAny_mkStr (wpAny_pure (fun hk => hq' _ _ hk)) (by rw [sizeLine_eq]; omega)
theorem vr4 (P : Params) : findIn (hd.heap_39 P) (.ref 389) "__getattribute__" = some (some (.builtin "object.__getattribute__")) := by kernel_rfl
theorem vr5 (P : Params) : findIn (hd.heap_39 P) (.ref 389) "__getattr__" = some none := by kernel_rfl
theorem vr6 (P : Params) : findIn (hd.heap_39 P) (.ref 389) "replace" = some (some (.builtin "str.replace")) := by kernel_rfl
theorem vr7 (P : Params) : typeIn (hd.heap_39 P) (.builtin "str.replace") = some (.type "method_descriptor") := by kernel_rfl
theorem vr8 (P : Params) : findIn (hd.heap_39 P) (.ref 389) "to_ical" = some (some (.ref 367)) := by kernel_rfl
theorem vr9 (P : Params) : typeIn (hd.heap_39 P) (.ref 367) = some (.type "function") := by kernel_rfl
theorem vt_bmeth {b d : Addr} {sl : Array (Option Value)} {name : PySem.Str} {f tf : Value} {pl : Sem Bool} {Q : Value × List Value → Shared → Prop} (X : (hd.heap_39 w.params).In s.heap) (hb : s.heap.get? b = some ⟨.ref 389, some d, .prim (.str x t), sl⟩) (hd' : s.heap.get? d = some emptyDict)
    (hf : findIn (hd.heap_39 w.params) (.ref 389) name = some (some f)) (ht : typeIn (hd.heap_39 w.params) f = some tf) (hT : (tf != .type "function" && tf != .type "method_descriptor" && tf != .type "wrapper_descriptor") = false)
    (h : Q (f, [.ref b]) s) : wpAny (model PySem.Challenge.rw_fy0022_01.row.prog w) A (getMethod (.ref b) name pl) Q E s := by
  have I : InstAt s.heap b ⟨.ref 389, some d, .prim (.str x t), sl⟩ 389 (some emptyDict) := ⟨hb, rfl, rfl, hd'⟩
  have hcan := PySem.F.canon_object_ga
  unfold getMethod specialOf
  refine wpAny_bind (wpAny_bind (I.type.here ((looks_findIn X (vr4 _)).here ?_)))
  dsimp only
  rw [hcan, if_neg (by decide)]
  refine wpAny_bind (wpAny_bind (I.type.here ((looks_findIn X (vr5 _)).here ?_)))
  refine wpAny_bind (wpAny_bind (I.type.here ((looks_findIn X hf).here (wpAny_bind ((looks_typeIn X ht).here ?_)))))
  rw [hT, if_neg Bool.false_ne_true]
  refine wpAny_bind (wpAny_loadPart hb ?_)
  refine wpAny_bind (wpAny_bind (wpAny_loadPart hd' ?_))
  rw [nsLook_of (o := emptyDict) (r := none) rfl]
  exact wpAny_pure (wpAny_bind (wpAny_rule (wpAny_pure h)))
end
end Mine
end
section
namespace Mine
theorem fresh_FYvi : True := by
  k_with_none
  w_top off
  trivial
end Mine
open PySem PySem.W PySem.W.X PyProof.Rows
namespace Mine
open PySem.Spec PySem.Calls
section
variable {w : World} {h : Heap} {g : Array GenState} {dr : Drawn} {tk : Nat} {os : OsState} {fr : Option (List Env)} {gu : Option (List Code)}
set_option hygiene false in
local macro_rules | `(tactic| x_close) => `(tactic| (exact hret _ _ _ (by first | assumption | exact Mem.start _)))
theorem vi1 (b D : Addr) (d : Option Addr) (x : Str) (t : Tok) (sl : Array (Option Value)) (X : (hd.heap_39 w.params).In h) (hb : h.get? b = some ⟨.ref 389, d, .prim (.str x t), sl⟩) (hD : h.get? D = some ⟨.type "tuple", none, .seq #[.type "str", .type "bytes"] 0, #[]⟩) (Q E : Value → Shared → Prop)
    (hret : ∀ h' tk' own, Mem h h' [] own → Q (.bool true) ⟨h', g, dr, tk', os⟩) :
    wpAny (model PySem.Challenge.rw_fy0022_01.row.prog w) ⟨none, 500, fr, gu, 6000⟩ (call (.builtin "isinstance") [.ref b, .ref D]) Q E ⟨h, g, dr, tk, os⟩ := by
  x_run
theorem vi2 (b : Addr) (d : Option Addr) (x : Str) (t : Tok) (sl : Array (Option Value)) (X : (hd.heap_39 w.params).In h) (hb : h.get? b = some ⟨.ref 389, d, .prim (.str x t), sl⟩) (Q E : Value → Shared → Prop)
    (hret : ∀ h' tk' own, Mem h h' [] own → Q (.ref b) ⟨h', g, dr, tk', os⟩) :
    wpAny (model PySem.Challenge.rw_fy0022_01.row.prog w) ⟨none, 500, fr, gu, 6000⟩ (call (.ref 66) [.ref b]) Q E ⟨h, g, dr, tk, os⟩ := by
  x_run
end
theorem vi_isi {w : World} {A : Around} {E : Value → Shared → Prop} {s : Shared} {h₀ : Heap} {L : Addr} {m : Str → Option Value} {news : List (Addr × Obj)} {b D d : Addr} {x : Str} {t : Tok} {sl : Array (Option Value)} {Q : Value → Shared → Prop}
    (F : Fr h₀ L s.heap m) (X : (hd.heap_39 w.params).In h₀) (N : News h₀ L s.heap news) (hh : A.handled = none) (hdep : A.depth ≤ 500) (hun : A.units ≤ 6000) (hb : (b, (⟨.ref 389, some d, .prim (.str x t), sl⟩ : Obj)) ∈ news) (hD : (D, ({ cls := .type "tuple", data := .seq #[.type "str", .type "bytes"] } : Obj)) ∈ news)
    (hq : ∀ h' tk', Fr h₀ L h' m → News h₀ L h' news → Q (.bool true) { s with heap := h', toks := tk' }) :
    wpAny (model PySem.Challenge.rw_fy0022_01.row.prog w) A (call (.builtin "isinstance") [.ref b, .ref D]) Q E s := by
  refine wp_weaken hdep hun ?_
  rw [hh]
  exact vi1 b D (some d) x t sl (X.keeps F.keep) (N.get hb) (N.get hD) Q E fun h' tk' own D => hq h' tk' (mem_fr D F) (mem_news D N)
theorem vi_tou {w : World} {A : Around} {E : Value → Shared → Prop} {s : Shared} {h₀ : Heap} {L : Addr} {m : Str → Option Value} {news : List (Addr × Obj)} {b d : Addr} {x : Str} {t : Tok} {sl : Array (Option Value)} {Q : Value → Shared → Prop}
    (F : Fr h₀ L s.heap m) (X : (hd.heap_39 w.params).In h₀) (N : News h₀ L s.heap news) (hh : A.handled = none) (hdep : A.depth ≤ 500) (hun : A.units ≤ 6000) (hb : (b, (⟨.ref 389, some d, .prim (.str x t), sl⟩ : Obj)) ∈ news)
    (hq : ∀ h' tk', s.toks ≤ tk' → Fr h₀ L h' m → News h₀ L h' news → Q (.ref b) { s with heap := h', toks := tk' }) :
    wpAny (model PySem.Challenge.rw_fy0022_01.row.prog w) A (call (.ref 66) [.ref b]) Q E s := by
  refine any_toks (wp_weaken hdep hun ?_)
  rw [hh]
  exact vi2 b (some d) x t sl (X.keeps F.keep) (N.get hb) _ E fun h' tk' own D hk => hq h' tk' hk (mem_fr D F) (mem_news D N)
end Mine
end
section
local macro_rules | `(tactic| walk_at "zq0") => `(tactic| skip)
local macro_rules | `(tactic| walk_at "zq1") => `(tactic| skip)
local macro_rules | `(tactic| walk_at "zq2") => `(tactic| skip)
local macro_rules | `(tactic| walk_at "zq3") => `(tactic| skip)
local macro_rules | `(tactic| walk_at "zq4") => `(tactic| skip)
local macro_rules | `(tactic| walk_at "zq5") => `(tactic| skip)
local macro_rules | `(tactic| walk_at "zq6") => `(tactic| skip)
local macro_rules | `(tactic| walk_at "zq7") => `(tactic| skip)
local macro_rules | `(tactic| walk_at "zq8") => `(tactic| skip)
local macro_rules | `(tactic| walk_at "zq9") => `(tactic| skip)
local macro_rules | `(tactic| walk_at "zq10") => `(tactic| skip)
local macro_rules | `(tactic| walk_at "zq11") => `(tactic| skip)
local macro_rules | `(tactic| walk_at "zq12") => `(tactic| skip)
namespace Mine
theorem fresh_FYve : True := by
  k_with_none
  w_top off
  trivial
end Mine
open PySem PySem.W PyProof.Rows
namespace Mine
open PySem.Spec PySem.Calls
abbrev vtObj (x : Str) (d : Addr) (t : Tok) (sl : Array (Option Value)) : Obj := ⟨.ref 389, some d, .prim (.str x t), sl⟩
local macro_rules | `(tactic| walk_at "call builtin:str.replace") => `(tactic| k_extra "rep")
local macro_rules | `(tactic| walk_at "call builtin:str.replace") => `(tactic| ((with_reducible show wpAny _ _ (call (Value.builtin "str.replace") [Value.ref _, _, _]) _ _ _); k_extra "repv"))
local macro_rules | `(tactic| walk_at "execs cons") => `(tactic| ((with_reducible refine wpAny_execs_cons ?_); try dsimp only))
local macro_rules | `(tactic| walk_at "exec Assert") => `(tactic| k_extra "assert")
local macro_rules | `(tactic| walk_at "call ref") => `(tactic| ((with_reducible show wpAny _ _ (call (Value.ref 66) [Value.ref _]) _ _ _); k_extra "tou"))
local macro_rules | `(tactic| walk_at "call builtin:isinstance") => `(tactic| k_extra "isi")
local macro_rules | `(tactic| walk_at "getMethod ref") => `(tactic| k_extra "bm")
theorem escv_call {w : World} {p : Program} {loose : List Str} {mean : ExcName → Option Value} {mg mb : Str → Option Value} {news : List (Addr × Obj)} (x : Str) (b d : Addr) (t : Tok) (sl : Array (Option Value)) (hx : x.length ≤ 900) :
    Claim w p loose mean mg mb 550 73 ((b, vtObj x d t sl) :: (d, emptyDict) :: news) [.ref b] (RetStr ((b, vtObj x d t sl) :: (d, emptyDict) :: news) (writS x)) := by
  unfold Claim
  k_fill
  intro dp un gd cn cs a ccd cl outer A₀ base h₀ L m' s Q E B F X N T hk hdp hu hret
  k_with_none
  k_with "assert" => (
    (fail_if_success (rename TokMark => x9))
    refine any_toks ?_
    have tm : TokMark := TokMark.mk True.intro)
  k_with "rep" => (
    (try (rename (_ ≤ Shared.toks _) => hT; dsimp only at hT))
    (refine replaceT ?h1 ?h2 ?h3 (by decide +kernel) ?h4 (by decide +kernel) ?_)
    (case h1 => omega)
    (case h2 => omega)
    (case h3 => omega)
    (case h4 =>
      refine Nat.le_trans (m := 115200) ?_ (by decide)
      (repeat (refine rep_half ?_ (by decide +kernel) (by decide +kernel)))
      omega)
    intro _ _ hle2
    (try dsimp only at hle2))
  k_with "isi" => (
    k_dflt (refine' vi_isi ?k1 ?k2 ?k3 ?k4 ?k5 ?k6 ?k7 ?k8 ?_; (case k1 => k_asm); (case k2 => k_asm); (case k3 => k_asm); (case k4 => exact rfl); (case k5 => (show dp + 1 ≤ 500); have := hdp; unfold recursionLimit at this; omega); (case k6 => (show un + 3 ≤ 6000); have := hu; unfold cLine at this; omega); (case k7 => k_mem); (case k8 => k_mem))
    intro h9 tk9 F9 N9
    (try dsimp only))
  k_with "tou" => (
    k_dflt (refine' vi_tou ?k1 ?k2 ?k3 ?k4 ?k5 ?k6 ?k7 ?_; (case k1 => k_asm); (case k2 => k_asm); (case k3 => k_asm); (case k4 => exact rfl); (case k5 => (show dp + 1 ≤ 500); have := hdp; unfold recursionLimit at this; omega); (case k6 => (show un + 3 ≤ 6000); have := hu; unfold cLine at this; omega); (case k7 => k_mem))
    intro h9 tk9 hT9 F9 N9
    (try dsimp only at hT9)
    (try dsimp only))
  k_with "bm" => (
    k_dflt (refine' vt_bmeth ?k1 ?k2 ?k3 ?k4 ?k5 ?k6 ?_; (case k1 => k_in); (case k2 => exact News.get (by k_asm) (by k_mem)); (case k3 => exact News.get (by k_asm) (by k_mem)); (case k4 => exact vr6 _); (case k5 => exact vr7 _); (case k6 => decide))
    (try dsimp only))
  k_with "repv" => (
    (try (rename (_ ≤ Shared.toks _) => hT; dsimp only at hT))
    k_dflt (refine' vt_replace ?k1 ?k2 ?k3 ?h1 ?h2 ?h3 ?h6 ?h4 ?h5 ?_; (case k1 => k_in); (case k2 => exact News.get (by k_asm) (by k_mem)); (case k3 => exact News.get (by k_asm) (by k_mem)))
    (case h1 => omega)
    (case h2 => omega)
    (case h3 => omega)
    (case h6 => decide +kernel)
    (case h4 => omega)
    (case h5 => decide +kernel)
    intro _ _ hle2
    (try dsimp only at hle2))
  refine wpAny_call ?_
  k_dflt cell_enter
  (show wpAny _ _ _ _ _ { heap := _, gens := _, drawn := _, toks := s.toks + 1, os := _ })
  generalize hT0 : s.toks + 1 = tk0
  have hT1 : 1 ≤ tk0 := by rw [← hT0]; exact Nat.le_add_left 1 _
  clear hT0
  k_steps
  (rename News _ _ _ _ => nE')
  have e9 := esc_eq x
  unfold escT at e9
  rw [e9]
  exact hret _ _ _ (by assumption) (fun p hp => nE' p (.tail _ hp))
end Mine
end
section
namespace Mine
theorem fresh_FYvc : True := by
  k_with_none
  w_top off
  trivial
end Mine
open PySem PySem.W PyProof.Rows
namespace Mine
open PySem.Spec PySem.Calls
local macro_rules | `(tactic| walk_at "call ref") => `(tactic| ((with_reducible show wpAny _ _ (call (Value.ref 73) [Value.ref _]) _ _ _); k_extra "escv"))
local macro_rules | `(tactic| walk_at "getMethod str") => `(tactic| ((with_reducible refine enc_meth ?_)))
local macro_rules | `(tactic| walk_at "call builtin:str.encode") => `(tactic| (k_extra "enc"))
theorem ical_call {w : World} {p : Program} {loose : List Str} {mean : ExcName → Option Value} {mg mb : Str → Option Value} {news : List (Addr × Obj)} (x : Str) (b d : Addr) (t : Tok) (sl : Array (Option Value)) (hx : x.length ≤ 400) (hs : ∀ c ∈ Mine.cl x, okc c) :
    Claim w p loose mean mg mb 560 367 ((b, vtObj x d t sl) :: (d, emptyDict) :: news) [.ref b] (fun h₀ L m s Q => ∀ u h' tk', Fr h₀ L h' m → News h₀ L h' ((b, vtObj x d t sl) :: (d, emptyDict) :: news) → Q (.bytes (u8 (writS x)) u) { s with heap := h', toks := tk' }) := by
  have hw := writS_ok hs
  have hsur : ∀ c ∈ Mine.cl (writS x), Str.isSurrogate c = false := fun c hc => okc_sur (hw.1 c hc)
  have hwl := hw.2
  clear hw
  unfold Claim
  k_fill
  intro dp un gd cn cs a ccd cl outer A₀ base h₀ L m' s Q E B F X N T hk hdp hu hret
  k_with_none
  k_with "escv" => (
    k_dflt (refine' escv_call x b d t sl ?hx _ _ _ _ _ _ _ _ _ _ _ _ _ _ _ _ _ ?k1 ?k2 ?k3 ?k4 ?k5 ?kK ?kd ?ku ?_)
    (case hx => omega)
    (case k1 => k_asm); (case k2 => k_asm); (case k3 => k_asm); (case k4 => k_asm); (case k5 => k_asm)
    (case kK => first | exact rfl | assumption)
    (case kd => ktr_room)
    (case ku => ktr_units)
    intro t9 h9 tk9 F9 N9
    (try dsimp only)
    (try k_fold))
  k_with "enc" => (
    k_dflt (refine' enc_call ?kl ?ks ?_; (case kl => omega); (case ks => assumption))
    intro t9 tk9
    (try dsimp only)
    (try k_fold))
  refine wpAny_call ?_
  k_dflt cell_enter
  k_steps
  exact hret _ _ _ (by assumption) (by assumption)
end Mine
end
section
local macro_rules | `(tactic| walk_at "zq0") => `(tactic| skip)
local macro_rules | `(tactic| walk_at "zq1") => `(tactic| skip)
local macro_rules | `(tactic| walk_at "zq2") => `(tactic| skip)
namespace Mine
theorem fresh_FYtl : True := by
  k_with_none
  w_top off
  trivial
end Mine
open PySem PySem.W PyProof.Rows
namespace Mine
open PySem.Spec PySem.Calls
theorem singles_okc : ∀ y ∈ singles, ∀ c ∈ Mine.cl y, okc c := by unfold okc; decide +kernel
theorem pass_length (f : Nat → Option Nat) : ∀ (n : Nat) (l : List Nat), l.length ≤ n → (pass f l).length ≤ l.length
  | _, [], _ => Nat.le_refl _
  | _, [x], _ => Nat.le_refl _
  | 0, x :: y :: r, h => by simp at h
  | n + 1, x :: y :: r, h => by
    have h1 : (pass f (y :: r)).length ≤ (y :: r).length := pass_length f n (y :: r) (by simp only [List.length_cons] at h ⊢; omega)
    have h2 : (pass f r).length ≤ r.length := pass_length f n r (by simp only [List.length_cons] at h ⊢; omega)
    rw [pass]
    split
    · split
      · simp only [List.length_cons]; omega
      · simp only [List.length_cons] at h1 ⊢; omega
    · simp only [List.length_cons] at h1 ⊢; omega
theorem passS_length (x : Str) : (passS x).length ≤ x.length := by
  have h := pass_length f6 (cl x).length (cl x) (Nat.le_refl _)
  have e : (cl (passS x)).length = (pass f6 (cl x)).length := by rw [cl_passS]
  rw [cl_length] at e h
  omega
theorem news_one {h₀ h : Heap} {L : Addr} {q : Addr × Obj} {news : List (Addr × Obj)} (N : News h₀ L h news) (hq : q ∈ news) : News h₀ L h [q] := fun p hp => by rw [List.mem_singleton.mp hp]; exact N q hq
theorem pin_lookup {K : Frag} {a : Addr} {o o' : Obj} {P : Prop} (h : K.lookup a = some o) (k : o = o' → P) (h' : K.lookup a = some o') : P := k (Option.some.inj (h.symm.trans h'))
local macro_rules | `(tactic| walk_at "call ref") => `(tactic| ((with_reducible show wpAny _ _ (call (Value.ref 415) [Value.ref _, Value.ref _, Value.int _ _]) _ _ _); k_extra "text"))
local macro_rules | `(tactic| walk_at "call ref") => `(tactic| ((with_reducible show wpAny _ _ (call (Value.ref 422) [Value.str _ _]) _ _ _); k_extra "pass"))
local macro_rules | `(tactic| walk_at "call ref") => `(tactic| ((with_reducible show wpAny _ _ (call (Value.ref 80) [Value.str _ _]) _ _ _); k_extra "unch"))
local macro_rules | `(tactic| walk_at "execs cons") => `(tactic| ((with_reducible refine wpAny_execs_cons ?_); try dsimp only))
local macro_rules | `(tactic| walk_at "call builtin:str.replace") => `(tactic| k_extra "rep")
theorem law_tail {w : World} {p : Program} {loose : List Str} {mean : ExcName → Option Value} {mg mb : Str → Option Value} {name qual : Str} {params : Arguments} {body stmts : List Stmt} {scope : Scope} {dV kV doc pm cdv ct oc : Value} {an od : Option Addr} {osl : Array (Option Value)}
    (hK : (hd.heap_39 w.params).lookup 441 = some ⟨oc, od, .func (fnX name qual params body scope [] dV kV doc pm an cdv ct), osl⟩) (he : body.drop 7 = stmts)
    (dp un : Nat) (gd : Option (List Code)) (cn : Str) (fa : Addr) (cdx : Value) (outer : List Env) (A₀ : Around) (base h₀ : Heap) (L lb : Addr) (b : Int) (t : Tok) (m : Str → Option Value) (s : Shared) (Q : Flow → Shared → Prop) (E : Value → Shared → Prop)
    (B : Below A₀ base outer h₀) (F : Fr h₀ L s.heap m) (X : (hd.heap_39 w.params).In h₀) (N : News h₀ L s.heap [(lb, W.listOf #[.int b t] 0)]) (T : Top p loose mean mg mb h₀) (hb : 0 ≤ b) (hm : m (Str.ofString "bag") = some (.ref lb)) (hdp : dp + 100 < recursionLimit) (hu : un + 8 * 100 < cLine)
    (hret : ∀ h' m' tk', Fr h₀ L h' m' → Q (.ret (.bool true)) { s with heap := h', toks := tk' }) :
    wpAny (model PySem.Challenge.rw_fy0022_01.row.prog w) (ktrTop dp un gd cn scope L fa cdx [] outer) (execs stmts (envX cn scope L fa cdx [])) Q E s := by
  have e0 : (fun y => if y = Str.ofString "bag" then some (Value.ref lb) else m y) = m := by
    funext y
    by_cases h : y = Str.ofString "bag"
    · rw [if_pos h, h, hm]
    · rw [if_neg h]
  rw [← e0] at F
  clear e0 hm
  revert X
  k_fill
  intro X
  revert hK
  refine' pin_lookup ?k ?_
  (case k => k_is)
  intro e
  cases e
  subst he
  dsimp only [List.drop]
  k_with_none
  k_with "text" => (
    refine any_toks ?_
    first
    | k_dflt (refine' text_call singles 16 _ ?h0 (by decide) (by decide) ?hpa ?hoff ?hi ?hp1 ?hp2 ?hp3 _ _ _ _ _ _ _ _ _ _ _ _ _ _ _ _ _ ?k1 ?k2 ?k3 ?k4 ?k5 ?kK ?kd ?ku ?_)
    (case k1 => k_asm)
    (case k2 => k_asm)
    (case k3 => k_asm)
    (case k4 => exact News.swap (by k_asm))
    (case h0 => first | assumption | exact Int.fmod_nonneg (by split <;> omega) (by decide +kernel))
    (case hi => exact (by repeat (first | exact StrsAre.nil | refine StrsAre.cons _ _ ?_)))
    (case hp1 => decide)
    (case hp2 => decide)
    (case hp3 => decide +kernel)
    (case hpa => exact Nat.ne_of_gt (by omega))
    (case hoff => repeat (first | exact List.forall_mem_nil _ | refine List.forall_mem_cons.mpr ⟨(by first | exact Nat.ne_of_lt (by first | omega | (dsimp only; omega)) | exact Nat.ne_of_gt (by first | omega | (dsimp only; omega)) | fail "HOFF"), ?_⟩))
    (case k5 => k_asm)
    (case kK => first | exact rfl | assumption)
    (case kd => ktr_room)
    (case ku => ktr_units)
    intro told t9 b9 t8 h9 tk9 kMade kpos F9 N9
    have kLen9 := kMade.len (by decide +kernel)
    have kSur9 : ∀ c ∈ Mine.cl told, Str.isSurrogate c = false := kMade.all (fun c => Str.isSurrogate c = false) (by first | exact pieces_sur | exact singles_sur)
    have kLow9 : ∀ c ∈ Mine.cl told, c < 0x110000 := kMade.all (fun c => c < 0x110000) (by first | exact pieces_low | exact singles_low)
    have kOk9 : ∀ c ∈ Mine.cl told, okc c := kMade.all okc (by first | exact pieces_okc | exact singles_okc)
    have kW9 := (writS_ok kOk9).1
    have kW8 := (writS_ok kOk9).2
    intro hT9
    (try dsimp only at hT9)
    (try dsimp only)
    (try k_fold))
  k_with "rep" => (
    (try (rename (_ ≤ Shared.toks _) => hT; dsimp only at hT))
    (refine replaceT ?h1 ?h2 ?h3 (by decide +kernel) ?h4 (by decide +kernel) ?_)
    (case h1 => omega)
    (case h2 => omega)
    (case h3 => omega)
    (case h4 =>
      refine Nat.le_trans (m := 64) ?_ (by decide)
      (repeat (first | (refine rep_le2 ?_ (by decide +kernel) (by decide +kernel)) | refine Nat.le_trans (passS_length _) ?_))
      omega)
    intro _ _ hle2
    (try dsimp only at hle2))
  k_with "pass" => (
    refine any_toks ?_
    k_dflt (refine' pass_call _ _ ?hx _ _ _ _ _ _ _ _ _ _ _ _ _ _ _ _ _ ?k1 ?k2 ?k3 ?k4 ?k5 ?kK ?kd ?ku ?_)
    (case hx => refine Nat.le_trans (m := 64) ?_ (by decide); (repeat (refine rep_le2 ?_ (by decide +kernel) (by decide +kernel))); omega)
    (case k1 => k_asm); (case k2 => k_asm); (case k3 => k_asm); (case k4 => k_asm); (case k5 => k_asm)
    (case kK => first | exact rfl | assumption)
    (case kd => ktr_room)
    (case ku => ktr_units)
    intro t9 h9 tk9 F9 N9 hT9
    (try dsimp only at hT9)
    (try dsimp only)
    (try k_fold))
  k_with "unch" => (
    k_dflt (refine' unch_call _ _ ?hx _ _ _ _ _ _ _ _ _ _ _ _ _ _ _ _ _ ?k1 ?k2 ?k3 ?k4 ?k5 ?kK ?kd ?ku ?_)
    (case hx => omega)
    (case k1 => k_asm); (case k2 => k_asm); (case k3 => k_asm); (case k4 => k_asm); (case k5 => k_asm)
    (case kK => first | exact rfl | assumption)
    (case kd => ktr_room)
    (case ku => ktr_units)
    intro t9 h9 tk9 F9 N9
    (try dsimp only)
    (try k_fold))
  k_steps
  (rename MadeOf _ _ _ => kM)
  have e9 := unchT_due (MadeOf.nb kM) (MadeOf.nodot kM)
  unfold dueS at e9
  rw [e9, beq_self_eq_true]
  exact hret _ _ _ (by assumption)
end Mine
end
section
local macro_rules | `(tactic| walk_at "zq0") => `(tactic| skip)
local macro_rules | `(tactic| walk_at "zq1") => `(tactic| skip)
local macro_rules | `(tactic| walk_at "zq2") => `(tactic| skip)
local macro_rules | `(tactic| walk_at "zq3") => `(tactic| skip)
local macro_rules | `(tactic| walk_at "zq4") => `(tactic| skip)
local macro_rules | `(tactic| walk_at "zq5") => `(tactic| skip)
local macro_rules | `(tactic| walk_at "zq6") => `(tactic| skip)
local macro_rules | `(tactic| walk_at "zq7") => `(tactic| skip)
namespace Mine
theorem fresh_FYmain : True := by
  k_with_none
  w_top off
  trivial
end Mine
open PySem PySem.W PyProof.Rows
namespace Mine
open PySem.Spec PySem.Calls
local macro_rules | `(tactic| walk_at "call ref") => `(tactic| ((with_reducible show wpAny _ _ (call (Value.ref 415) [Value.ref _, Value.ref _, Value.int _ _]) _ _ _); k_extra "text"))
local macro_rules | `(tactic| walk_at "call ref") => `(tactic| ((with_reducible show wpAny _ _ (call (Value.ref 43) [Value.str _ _]) _ _ _); k_extra "une"))
local macro_rules | `(tactic| walk_at "call ref") => `(tactic| ((with_reducible show wpAny _ _ (call (Value.ref 422) [Value.str _ _]) _ _ _); k_extra "pass"))
local macro_rules | `(tactic| walk_at "call ref") => `(tactic| ((with_reducible show wpAny _ _ (call (Value.ref 50) [Value.str _ _]) _ _ _); k_extra "comma"))
local macro_rules | `(tactic| walk_at "call ref") => `(tactic| ((with_reducible show wpAny _ _ (call (Value.ref 57) [Value.str _ _]) _ _ _); k_extra "semi"))
local macro_rules | `(tactic| walk_at "call ref") => `(tactic| ((with_reducible show wpAny _ _ (call (Value.ref 427) [Value.str _ _, Value.str _ _]) _ _ _); k_extra "parts"))
local macro_rules | `(tactic| walk_at "call ref") => `(tactic| ((with_reducible show wpAny _ _ (call (Value.ref 389) [Value.str _ _]) _ _ _); k_extra "vt"))
local macro_rules | `(tactic| walk_at "compareOp NotEq ref ref") => `(tactic| k_extra "ne")
local macro_rules | `(tactic| walk_at "call type:str") => `(tactic| ((with_reducible show wpAny _ _ (call (Value.type "str") [Value.ref _]) _ _ _); k_extra "strvt"))
local macro_rules | `(tactic| walk_at "getMethod str") => `(tactic| ((with_reducible refine enc_meth ?_)))
local macro_rules | `(tactic| walk_at "call builtin:str.encode") => `(tactic| (k_extra "enc"))
local macro_rules | `(tactic| walk_at "call ref") => `(tactic| ((with_reducible show wpAny _ _ (call (Value.ref 389) [Value.bytes _ _]) _ _ _); k_extra "vtb"))
local macro_rules | `(tactic| walk_at "call ref") => `(tactic| ((with_reducible show wpAny _ _ (call (Value.ref 73) [Value.str _ _]) _ _ _); k_extra "esc"))
local macro_rules | `(tactic| walk_at "call ref") => `(tactic| ((with_reducible show wpAny _ _ (call (Value.ref 434) [Value.str _ _]) _ _ _); k_extra "wri"))
local macro_rules | `(tactic| walk_at "call ref") => `(tactic| ((with_reducible show wpAny _ _ (call (Value.ref 80) [Value.str _ _]) _ _ _); k_extra "unch"))
local macro_rules | `(tactic| walk_at "getMethod ref") => `(tactic| ((with_reducible show wpAny _ _ (getMethod (Value.ref _) (PySem.Str.ofString "to_ical") _) _ _ _); k_extra "icalm"))
local macro_rules | `(tactic| walk_at "call ref") => `(tactic| ((with_reducible show wpAny _ _ (call (Value.ref 367) _) _ _ _); k_extra "ical"))
local macro_rules | `(tactic| walk_at "getMethod bytes") => `(tactic| ((with_reducible refine dec_meth ?_)))
local macro_rules | `(tactic| walk_at "call builtin:bytes.decode") => `(tactic| k_extra "dec")
local macro_rules | `(tactic| walk_at "ite") => `(tactic| ((with_reducible refine ite_neg Bool.false_ne_true ?_)))
local macro_rules | `(tactic| walk_at "execs cons") => `(tactic| ((with_reducible show wpAny _ _ (execs (Stmt.Assign [Expr.Name (PySem.Str.ofString "singles") _] _ _ :: _) _) _ _ _); k_extra "tail"))
theorem main : PySem.Challenge.rw_fy0022_01.Holds := hd (by
  k_with_none
  k_with "pyIter ref" => k_state (fun pre n => True) "n"
  k_with "text" => (
    first
    | k_dflt (refine' text_call pieces 27 _ ?h0 (by decide) (by decide) ?hpa ?hoff ?hi ?hp1 ?hp2 ?hp3 _ _ _ _ _ _ _ _ _ _ _ _ _ _ _ _ _ ?k1 ?k2 ?k3 ?k4 ?k5 ?kK ?kd ?ku ?_)
    | k_dflt (refine' text_call singles 16 _ ?h0 (by decide) (by decide) ?hpa ?hoff ?hi ?hp1 ?hp2 ?hp3 _ _ _ _ _ _ _ _ _ _ _ _ _ _ _ _ _ ?k1 ?k2 ?k3 ?k4 ?k5 ?kK ?kd ?ku ?_)
    (case k1 => k_asm)
    (case k2 => k_asm)
    (case k3 => k_asm)
    (case k4 => exact News.swap (by k_asm))
    (case h0 => first | assumption | exact Int.fmod_nonneg (by split <;> omega) (by decide +kernel))
    (case hi => exact (by repeat (first | exact StrsAre.nil | refine StrsAre.cons _ _ ?_)))
    (case hp1 => decide)
    (case hp2 => decide)
    (case hp3 => decide +kernel)
    (case hpa => exact Nat.ne_of_gt (by omega))
    (case hoff => repeat (first | exact List.forall_mem_nil _ | refine List.forall_mem_cons.mpr ⟨(by first | exact Nat.ne_of_lt (by first | omega | (dsimp only; omega)) | exact Nat.ne_of_gt (by first | omega | (dsimp only; omega)) | fail "HOFF"), ?_⟩))
    (case k5 => k_asm)
    (case kK => first | exact rfl | assumption)
    (case kd => ktr_room)
    (case ku => ktr_units)
    intro told t9 b9 t8 h9 tk9 kMade kpos F9 N9
    have kLen9 := kMade.len (by decide +kernel)
    have kSur9 : ∀ c ∈ Mine.cl told, Str.isSurrogate c = false := kMade.all (fun c => Str.isSurrogate c = false) (by first | exact pieces_sur | exact singles_sur)
    have kLow9 : ∀ c ∈ Mine.cl told, c < 0x110000 := kMade.all (fun c => c < 0x110000) (by first | exact pieces_low | exact singles_low)
    have kOk9 : ∀ c ∈ Mine.cl told, okc c := kMade.all okc (by first | exact pieces_okc | exact singles_okc)
    have kW9 := (writS_ok kOk9).1
    have kW8 := (writS_ok kOk9).2
    (try dsimp only)
    (try k_fold))
  k_with "une" => (
    k_dflt (refine' une_call _ _ ?hx _ _ _ _ _ _ _ _ _ _ _ _ _ _ _ _ _ ?k1 ?k2 ?k3 ?k4 ?k5 ?kK ?kd ?ku ?_)
    (case hx => omega)
    (case k1 => k_asm); (case k2 => k_asm); (case k3 => k_asm); (case k4 => k_asm); (case k5 => k_asm)
    (case kK => first | exact rfl | assumption)
    (case kd => ktr_room)
    (case ku => ktr_units)
    intro t9 h9 tk9 F9 N9
    (try dsimp only)
    (try k_fold))
  k_with "esc" => (
    k_dflt (refine' esc_call _ _ ?hx _ _ _ _ _ _ _ _ _ _ _ _ _ _ _ _ _ ?k1 ?k2 ?k3 ?k4 ?k5 ?kK ?kd ?ku ?_)
    (case hx => omega)
    (case k1 => k_asm); (case k2 => k_asm); (case k3 => k_asm); (case k4 => k_asm); (case k5 => k_asm)
    (case kK => first | exact rfl | assumption)
    (case kd => ktr_room)
    (case ku => ktr_units)
    intro t9 h9 tk9 F9 N9
    (try dsimp only)
    (try k_fold))
  k_with "wri" => (
    k_dflt (refine' wri_call _ _ ?hx _ _ _ _ _ _ _ _ _ _ _ _ _ _ _ _ _ ?k1 ?k2 ?k3 ?k4 ?k5 ?kK ?kd ?ku ?_)
    (case hx => omega)
    (case k1 => k_asm); (case k2 => k_asm); (case k3 => k_asm); (case k4 => k_asm); (case k5 => k_asm)
    (case kK => first | exact rfl | assumption)
    (case kd => ktr_room)
    (case ku => ktr_units)
    intro t9 h9 tk9 F9 N9
    (try dsimp only)
    (try k_fold))
  k_with "unch" => (
    k_dflt (refine' unch_call _ _ ?hx _ _ _ _ _ _ _ _ _ _ _ _ _ _ _ _ _ ?k1 ?k2 ?k3 ?k4 ?k5 ?kK ?kd ?ku ?_)
    (case hx => omega)
    (case k1 => k_asm); (case k2 => k_asm); (case k3 => k_asm); (case k4 => k_asm); (case k5 => k_asm)
    (case kK => first | exact rfl | assumption)
    (case kd => ktr_room)
    (case ku => ktr_units)
    intro t9 h9 tk9 F9 N9
    (try dsimp only)
    (try k_fold))
  k_with "pass" => (
    k_dflt (refine' pass_call _ _ ?hx _ _ _ _ _ _ _ _ _ _ _ _ _ _ _ _ _ ?k1 ?k2 ?k3 ?k4 ?k5 ?kK ?kd ?ku ?_)
    (case hx => omega)
    (case k1 => k_asm); (case k2 => k_asm); (case k3 => k_asm); (case k4 => k_asm); (case k5 => k_asm)
    (case kK => first | exact rfl | assumption)
    (case kd => ktr_room)
    (case ku => ktr_units)
    intro t9 h9 tk9 F9 N9
    (try dsimp only)
    (try k_fold))
  k_with "comma" => (
    k_dflt (refine' comma_call _ _ ?hx _ _ _ _ _ _ _ _ _ _ _ _ _ _ _ _ _ ?k1 ?k2 ?k3 ?k4 ?k5 ?kK ?kd ?ku ?_)
    (case hx => omega)
    (case k1 => k_asm); (case k2 => k_asm); (case k3 => k_asm); (case k4 => k_asm); (case k5 => k_asm)
    (case kK => first | exact rfl | assumption)
    (case kd => ktr_room)
    (case ku => ktr_units)
    intro D9 vs9 e9 h9 tk9 S9 F9 N9
    (try dsimp only)
    (try k_fold))
  k_with "semi" => (
    k_dflt (refine' semi_call _ _ ?hx _ _ _ _ _ _ _ _ _ _ _ _ _ _ _ _ _ ?k1 ?k2 ?k3 ?k4 ?k5 ?kK ?kd ?ku ?_)
    (case hx => omega)
    (case k1 => k_asm); (case k2 => k_asm); (case k3 => k_asm); (case k4 => k_asm); (case k5 => k_asm)
    (case kK => first | exact rfl | assumption)
    (case kd => ktr_room)
    (case ku => ktr_units)
    intro D9 vs9 e9 h9 tk9 S9 F9 N9
    (try dsimp only)
    (try k_fold))
  k_with "parts" => (
    first
    | k_dflt (refine' par_call _ _ _ _ 44 (by decide) (by decide +kernel) ?hx _ _ _ _ _ _ _ _ _ _ _ _ _ _ _ _ _ ?k1 ?k2 ?k3 ?k4 ?k5 ?kK ?kd ?ku ?_)
    | k_dflt (refine' par_call _ _ _ _ 59 (by decide) (by decide +kernel) ?hx _ _ _ _ _ _ _ _ _ _ _ _ _ _ _ _ _ ?k1 ?k2 ?k3 ?k4 ?k5 ?kK ?kd ?ku ?_)
    (case hx => omega)
    (case k1 => k_asm); (case k2 => k_asm); (case k3 => k_asm); (case k4 => k_asm); (case k5 => k_asm)
    (case kK => first | exact rfl | assumption)
    (case kd => ktr_room)
    (case ku => ktr_units)
    intro D9 vs9 e9 h9 tk9 S9 F9 N9
    (try dsimp only)
    (try k_fold)
    skip)
  k_with "ne" => (
    k_dflt (refine' ne_strs ?kN ?ka ?kb ?ki ?kj ?ko ?ku ?_; (case kN => k_asm); (case ka => k_mem); (case kb => k_mem); (case ki => assumption); (case kj => assumption); (case ko => exact partsS_ok (by assumption)); (case ku => k_units)))
  k_with "vt" => (
    k_dflt (refine' vt_call _ _ ?hx _ _ _ _ _ _ _ _ _ _ _ _ _ _ _ _ _ ?k1 ?k2 ?k3 ?k4 ?k5 ?kK ?kd ?ku ?_)
    (case hx => omega)
    (case k1 => k_asm); (case k2 => k_asm); (case k3 => k_asm); (case k4 => k_asm); (case k5 => k_asm)
    (case kK => first | exact rfl | assumption)
    (case kd => ktr_room)
    (case ku => ktr_units)
    intro b9 d9 t9 sl9 h9 tk9 F9 N9
    (try dsimp only)
    (try k_fold)
    skip)
  k_with "vtb" => (
    k_dflt (refine' vtb_call _ _ ?hx ?hs _ _ _ _ _ _ _ _ _ _ _ _ _ _ _ _ _ ?k1 ?k2 ?k3 ?k4 ?k5 ?kK ?kd ?ku ?_)
    (case hx => omega)
    (case hs => assumption)
    (case k1 => k_asm); (case k2 => k_asm); (case k3 => k_asm); (case k4 => k_asm); (case k5 => k_asm)
    (case kK => first | exact rfl | assumption)
    (case kd => ktr_room)
    (case ku => ktr_units)
    intro b9 d9 t9 sl9 h9 tk9 F9 N9
    (try dsimp only)
    (try k_fold)
    skip)
  k_with "enc" => (
    k_dflt (refine' enc_call ?kl ?ks ?_; (case kl => omega); (case ks => assumption))
    intro t9 tk9
    (try dsimp only)
    (try k_fold))
  k_with "strvt" => (
    k_dflt (refine' str_vt ?kF ?kX ?kN ?km ?kl ?_; (case kF => k_asm); (case kX => k_asm); (case kN => k_asm); (case km => k_mem); (case kl => omega))
    intro t9 tk9
    (try dsimp only)
    (try k_fold))
  k_with "icalm" => (
    k_dflt (refine' vt_bmeth ?k1 ?k2 ?k3 ?k4 ?k5 ?k6 ?_; (case k1 => k_in); (case k2 => exact News.get (by k_asm) (by k_mem)); (case k3 => exact News.get (by k_asm) (by k_mem)); (case k4 => exact vr8 _); (case k5 => exact vr9 _); (case k6 => decide))
    (try dsimp only))
  k_with "ical" => (
    k_dflt (refine' ical_call _ _ _ _ _ ?hx ?hs _ _ _ _ _ _ _ _ _ _ _ _ _ _ _ _ _ ?k1 ?k2 ?k3 ?k4 ?k5 ?kK ?kd ?ku ?_)
    (case k1 => k_asm); (case k2 => k_asm); (case k3 => k_asm); (case k4 => k_asm); (case k5 => k_asm)
    (case hx => omega)
    (case hs => assumption)
    (case kK => first | exact rfl | assumption)
    (case kd => ktr_room)
    (case ku => ktr_units)
    intro t9 h9 tk9 F9 N9
    (try dsimp only)
    (try k_fold))
  k_with "dec" => (
    k_dflt (refine' dec_call ?kl ?ks ?_; (case kl => omega); (case ks => assumption))
    intro t9 tk9
    (try dsimp only)
    (try k_fold))
  k_with "tail" => (
    (rename News _ _ _ _ => nT9)
    k_dflt (refine' law_tail ?kH ?kI _ _ _ _ _ _ _ _ _ _ _ _ _ _ _ _ _ _ ?k1 ?k2 ?k3 ?k4 ?k5 ?kb ?km ?kd ?ku ?_)
    (case kH => k_is)
    (case kI => k_dflt (exact rfl))
    (case k1 => k_asm); (case k2 => k_asm); (case k3 => k_asm); (case k5 => k_asm)
    (case km => k_dflt (exact rfl))
    (case k4 => k_dflt (refine' news_one ?n1 ?n2; (case n1 => k_asm); (case n2 => k_mem)))
    (case kb => assumption)
    (case kd => ktr_room)
    (case ku => ktr_units)
    intro h9 m9 tk9 F9)
  k_go0
  (all_goals try k_fold)
  k_steps)
end Mine
end
set_option maxRecDepth 100000 in
set_option maxHeartbeats 8000000 in
theorem PySem.Challenge.cw_fy0022_01_holds : PySem.Challenge.rw_fy0022_01.Holds := by
  exact Mine.main
