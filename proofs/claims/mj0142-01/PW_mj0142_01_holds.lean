import PyProof.Rows.All
import Wide.All
import OpenK.AllK
import Wide.FinOn
import PySem.Challenge.RW_mj0142_01
open PySem PySem.W PyProof.Rows
set_option Elab.async false
set_option maxRecDepth 100000
set_option maxHeartbeats 8000000
set_option linter.unusedVariables false
set_option linter.unusedSimpArgs false
namespace Mine
open_top hd for PySem.Challenge.rw_mj0142_01
/-! P1 -/
def num (x : Str) : Int :=
  if x = ⟨#[40]⟩ then 7 else if x = ⟨#[41]⟩ then 8 else if x = ⟨#[91]⟩ then 9 else if x = ⟨#[93]⟩ then 10 else if x = ⟨#[123]⟩ then 25 else if x = ⟨#[125]⟩ then 26 else 0
def num6 (n : Int) : Int := if n = 7 then 7 else if n = 8 then 8 else if n = 9 then 9 else if n = 10 then 10 else if n = 25 then 25 else if n = 26 then 26 else 0
def tblS : List (Str × Int) := [(⟨#[33]⟩, 54), (⟨#[33, 61]⟩, 28), (⟨#[37]⟩, 24), (⟨#[37, 61]⟩, 40), (⟨#[38]⟩, 19), (⟨#[38, 61]⟩, 41), (⟨#[40]⟩, 7), (⟨#[41]⟩, 8), (⟨#[42]⟩, 16), (⟨#[42, 42]⟩, 35), (⟨#[42, 42, 61]⟩, 46), (⟨#[42, 61]⟩, 38), (⟨#[43]⟩, 14), (⟨#[43, 61]⟩, 36), (⟨#[44]⟩, 12), (⟨#[45]⟩, 15), (⟨#[45, 61]⟩, 37), (⟨#[45, 62]⟩, 51), (⟨#[46]⟩, 23), (⟨#[46, 46, 46]⟩, 52), (⟨#[47]⟩, 17), (⟨#[47, 47]⟩, 47), (⟨#[47, 47, 61]⟩, 48), (⟨#[47, 61]⟩, 39), (⟨#[58]⟩, 11), (⟨#[58, 61]⟩, 53), (⟨#[59]⟩, 13), (⟨#[60]⟩, 20), (⟨#[60, 60]⟩, 33), (⟨#[60, 60, 61]⟩, 44), (⟨#[60, 61]⟩, 29), (⟨#[61]⟩, 22), (⟨#[61, 61]⟩, 27), (⟨#[62]⟩, 21), (⟨#[62, 61]⟩, 30), (⟨#[62, 62]⟩, 34), (⟨#[62, 62, 61]⟩, 45), (⟨#[64]⟩, 49), (⟨#[64, 61]⟩, 50), (⟨#[91]⟩, 9), (⟨#[93]⟩, 10), (⟨#[94]⟩, 32), (⟨#[94, 61]⟩, 43), (⟨#[123]⟩, 25), (⟨#[124]⟩, 18), (⟨#[124, 61]⟩, 42), (⟨#[125]⟩, 26), (⟨#[126]⟩, 31)]
theorem lookup_find (x : Str) : ∀ D : List (Str × Int), (Spec.lookup (.str x) (D.map fun p => (PyData.str p.1, PyData.int p.2))).getD (.int 0) = .int (((D.find? (fun p => p.1 == x)).map (·.2)).getD 0)
  | [] => rfl
  | (a, b) :: r => by
    rw [List.map_cons, Spec.lookup, List.find?_cons]
    simp only [Spec.same]
    by_cases h : (a == x) = true
    · simp [h]
    · have h' : (a == x) = false := by simpa using h
      simpa [h'] using lookup_find x r
theorem tblS_num : ∀ p ∈ tblS, num p.1 = num6 p.2 := by decide +kernel
theorem num_tbl (x : Str) : num x = num6 (((tblS.find? (fun p => p.1 == x)).map (·.2)).getD 0) := by
  cases h : tblS.find? (fun p => p.1 == x) with
  | some p =>
    have e : p.1 = x := by simpa using List.find?_some h
    rw [← e]
    exact tblS_num p (List.mem_of_find?_eq_some h)
  | none =>
    have hn := List.find?_eq_none.mp h
    have k (c : Nat) (n : Int) (hm : ((⟨#[c]⟩, n) : Str × Int) ∈ tblS) : x ≠ ⟨#[c]⟩ := fun e => hn _ hm (by simp [e])
    unfold num
    rw [if_neg (k 40 7 (by decide +kernel)), if_neg (k 41 8 (by decide +kernel)), if_neg (k 91 9 (by decide +kernel)), if_neg (k 93 10 (by decide +kernel)), if_neg (k 123 25 (by decide +kernel)), if_neg (k 125 26 (by decide +kernel))]
    rfl
theorem flat_num {x : Str} {v : Value} (h : PyProof.V.Flat v ((Spec.lookup (PyData.str x) (tblS.map fun p => (PyData.str p.1, PyData.int p.2))).getD (PyData.int 0))) : ∃ n t, v = .int n t ∧ num x = num6 n := by
  rw [lookup_find] at h
  obtain ⟨t, e⟩ := h.int_inv
  exact ⟨_, t, e, num_tbl x⟩
abbrev tblD : List (PyData × PyData) := [(PyData.str ⟨#[33]⟩, PyData.int 54), (PyData.str ⟨#[33, 61]⟩, PyData.int 28), (PyData.str ⟨#[37]⟩, PyData.int 24), (PyData.str ⟨#[37, 61]⟩, PyData.int 40), (PyData.str ⟨#[38]⟩, PyData.int 19), (PyData.str ⟨#[38, 61]⟩, PyData.int 41), (PyData.str ⟨#[40]⟩, PyData.int 7), (PyData.str ⟨#[41]⟩, PyData.int 8), (PyData.str ⟨#[42]⟩, PyData.int 16), (PyData.str ⟨#[42, 42]⟩, PyData.int 35), (PyData.str ⟨#[42, 42, 61]⟩, PyData.int 46), (PyData.str ⟨#[42, 61]⟩, PyData.int 38), (PyData.str ⟨#[43]⟩, PyData.int 14), (PyData.str ⟨#[43, 61]⟩, PyData.int 36), (PyData.str ⟨#[44]⟩, PyData.int 12), (PyData.str ⟨#[45]⟩, PyData.int 15), (PyData.str ⟨#[45, 61]⟩, PyData.int 37), (PyData.str ⟨#[45, 62]⟩, PyData.int 51), (PyData.str ⟨#[46]⟩, PyData.int 23), (PyData.str ⟨#[46, 46, 46]⟩, PyData.int 52), (PyData.str ⟨#[47]⟩, PyData.int 17), (PyData.str ⟨#[47, 47]⟩, PyData.int 47), (PyData.str ⟨#[47, 47, 61]⟩, PyData.int 48), (PyData.str ⟨#[47, 61]⟩, PyData.int 39), (PyData.str ⟨#[58]⟩, PyData.int 11), (PyData.str ⟨#[58, 61]⟩, PyData.int 53), (PyData.str ⟨#[59]⟩, PyData.int 13), (PyData.str ⟨#[60]⟩, PyData.int 20), (PyData.str ⟨#[60, 60]⟩, PyData.int 33), (PyData.str ⟨#[60, 60, 61]⟩, PyData.int 44), (PyData.str ⟨#[60, 61]⟩, PyData.int 29), (PyData.str ⟨#[61]⟩, PyData.int 22), (PyData.str ⟨#[61, 61]⟩, PyData.int 27), (PyData.str ⟨#[62]⟩, PyData.int 21), (PyData.str ⟨#[62, 61]⟩, PyData.int 30), (PyData.str ⟨#[62, 62]⟩, PyData.int 34), (PyData.str ⟨#[62, 62, 61]⟩, PyData.int 45), (PyData.str ⟨#[64]⟩, PyData.int 49), (PyData.str ⟨#[64, 61]⟩, PyData.int 50), (PyData.str ⟨#[91]⟩, PyData.int 9), (PyData.str ⟨#[93]⟩, PyData.int 10), (PyData.str ⟨#[94]⟩, PyData.int 32), (PyData.str ⟨#[94, 61]⟩, PyData.int 43), (PyData.str ⟨#[123]⟩, PyData.int 25), (PyData.str ⟨#[124]⟩, PyData.int 18), (PyData.str ⟨#[124, 61]⟩, PyData.int 42), (PyData.str ⟨#[125]⟩, PyData.int 26), (PyData.str ⟨#[126]⟩, PyData.int 31)]
theorem tblD_eq : tblD = tblS.map fun p => (PyData.str p.1, PyData.int p.2) := rfl
theorem get_num {prog : Program} {w : World} {A : Around} {E : Value → Shared → Prop} {s : Shared} {d : Addr} {x : Str} {t u : Tok} {Q : Value → Shared → Prop} (T : StrTab prog w s.heap d tblD)
    (h : ∀ n t', num x = num6 n → Q (.int n t') { s with toks := s.toks + 1 }) : wpAny (model prog w) A (call (.builtin "dict.get") [.ref d, .str x t, .int 0 u]) Q E s :=
  call_get2_strTab T (PyProof.V.Flat.int _ _) fun v hv => by
    rw [tblD_eq] at hv
    obtain ⟨n, t', e, hn⟩ := flat_num hv
    subst e
    exact h n t' hn
/-! P2 -/
/-! the plain law of the striking: cut, R3, norm -/
def cut (x y : Str) : Str := Txt.join (Str.ofString "") (Txt.split x y)
def R3 (x : Str) : Str := cut (cut (cut x (Str.ofString "()")) (Str.ofString "[]")) (Str.ofString "{}")
def pairOf (a b : Nat) : Bool := (a == 40 && b == 41) || (a == 91 && b == 93) || (a == 123 && b == 125)
def push (st : List Nat) (c : Nat) : List Nat := match st with
  | [] => [c]
  | a :: r => if pairOf a c then r else c :: a :: r
def norm (l : List Nat) : List Nat := (l.foldl push []).reverse
def normS (x : Str) : Str := ⟨(norm x.cps.toList).toArray⟩
theorem not_pair_opener {a b c : Nat} (h : pairOf a b = true) : pairOf c a = false := by
  unfold pairOf at *
  simp only [Bool.or_eq_true, Bool.and_eq_true, beq_iff_eq] at h
  rcases h with (⟨rfl, rfl⟩ | ⟨rfl, rfl⟩) | ⟨rfl, rfl⟩ <;> simp
theorem push_pair {a b : Nat} (h : pairOf a b = true) (st : List Nat) : push (push st a) b = st := by
  cases st with
  | nil => simp [push, h]
  | cons c r => simp [push, not_pair_opener h, h]
theorem foldl_push_join {a b : Nat} (h : pairOf a b = true) : ∀ (parts : List Str) (st : List Nat), (Str.join ⟨#[a, b]⟩ parts).cps.toList.foldl push st = (Str.join Str.empty parts).cps.toList.foldl push st
  | [], _ => rfl
  | [_], _ => rfl
  | p :: q :: r, st => by
    have ih := foldl_push_join h (q :: r)
    show (p ++ ⟨#[a, b]⟩ ++ Str.join ⟨#[a, b]⟩ (q :: r)).cps.toList.foldl push st = (p ++ Str.empty ++ Str.join Str.empty (q :: r)).cps.toList.foldl push st
    simp only [Str.cps_append, Array.toList_append, List.foldl_append]
    have e : List.foldl push (List.foldl push st p.cps.toList) (#[a, b] : Array Nat).toList = List.foldl push st p.cps.toList := by
      show push (push _ a) b = _
      exact push_pair h _
    have e2 : List.foldl push (List.foldl push st p.cps.toList) Str.empty.cps.toList = List.foldl push st p.cps.toList := rfl
    rw [e, e2, ih]
theorem ofString_nil : Str.ofString "" = Str.empty := by decide +kernel
theorem cut_eq (x y : Str) : cut x y = Str.join Str.empty (Txt.split x y) := by
  unfold cut
  rw [ofString_nil]
  exact StrLaws.glued_eq_join _ _
theorem norm_cut {a b : Nat} (h : pairOf a b = true) (x : Str) : norm (cut x ⟨#[a, b]⟩).cps.toList = norm x.cps.toList := by
  unfold norm
  rw [cut_eq, ← foldl_push_join h, StrLaws.join_split]
theorem join_len (sep : Str) : ∀ parts : List Str, (Str.join sep parts).length = (parts.map (·.length)).sum + (parts.length - 1) * sep.length
  | [] => by show 0 = _; simp
  | [x] => by show x.length = _; simp
  | x :: y :: r => by
    have h := join_len sep (y :: r)
    show (x ++ sep ++ Str.join sep (y :: r)).length = _
    rw [Str.length_append, Str.length_append, h]
    simp only [List.map_cons, List.sum_cons, List.length_cons, Nat.add_sub_cancel]
    have : (r.length + 1) * sep.length = r.length * sep.length + sep.length := by rw [Nat.add_mul, Nat.one_mul]
    omega
theorem cut_len (x y : Str) : (cut x y).length + ((Txt.split x y).length - 1) * y.length = x.length := by
  have h1 := join_len y (Txt.split x y)
  rw [StrLaws.join_split] at h1
  have h2 := join_len Str.empty (Txt.split x y)
  rw [← cut_eq] at h2
  have e : Str.empty.length = 0 := rfl
  rw [e, Nat.mul_zero] at h2
  omega
theorem cut_le (x y : Str) : (cut x y).length ≤ x.length := by
  have := cut_len x y
  omega
theorem split_total (x y : Str) : ((Txt.split x y).map (·.length)).sum ≤ x.length := by
  have h1 := join_len y (Txt.split x y)
  rw [StrLaws.join_split] at h1
  omega
theorem split_count (x y : Str) (hy : 1 ≤ y.length) : (Txt.split x y).length ≤ x.length + 1 := by
  have h1 := join_len y (Txt.split x y)
  rw [StrLaws.join_split] at h1
  have h2 : ((Txt.split x y).length - 1) * 1 ≤ ((Txt.split x y).length - 1) * y.length := Nat.mul_le_mul_left _ hy
  omega
theorem joinOk_split {x y : Str} (hy : 1 ≤ y.length) (hx : x.length ≤ 64) : JoinOk (Str.ofString "") (Txt.split x y) = true :=
  joinOk_of_weight (by have h1 := split_total x y; have h2 := split_count x y hy; omega) (by rw [ofString_nil]; exact Nat.zero_le _)
theorem strKind_ge (x : Str) : 1 ≤ Builtin.Str.strKind x := by
  unfold Builtin.Str.strKind
  split
  · decide
  · split <;> decide
theorem cut_fix {x y : Str} (hy : 1 ≤ y.length) (hk : Builtin.Str.strKind y = 1) (h : (cut x y).length = x.length) : ∀ i, ¬ StrLaws.At x y x.length i := by
  have hl := cut_len x y
  have h1 : (Txt.split x y).length - 1 = 0 := by
    rcases Nat.eq_zero_or_pos ((Txt.split x y).length - 1) with e | e
    · exact e
    · have := Nat.mul_le_mul e hy
      omega
  intro i hA
  unfold Txt.split at h1
  split at h1
  · rename_i hc
    simp only [Bool.or_eq_true, decide_eq_true_eq] at hc
    rcases hc with hc | hc
    · have := hA.1; omega
    · have := strKind_ge x; omega
  · obtain ⟨f, hc, hn⟩ := StrLaws.occ_tight x y hy
    split at h1
    · rename_i he
      rw [List.isEmpty_iff] at he
      rw [he] at hc
      have e : f = 0 := hc
      exact hn i (by omega) hA
    · rename_i he
      cases ho : Builtin.Str.occurrences x y 0 x.length (x.length + 1) with
      | nil => rw [ho] at he; exact he rfl
      | cons c r =>
        rw [ho, StrLaws.partsBetween_eq] at h1
        obtain ⟨p, q, hp⟩ := StrLaws.partsFrom_ne x y.length (c + y.length) r
        have : StrLaws.partsFrom x y.length 0 (c :: r) = Builtin.Str.strSub x 0 c :: StrLaws.partsFrom x y.length (c + y.length) r := rfl
        rw [this, hp] at h1
        simp at h1
def Irr : List Nat → Prop
  | [] => True
  | [_] => True
  | a :: b :: r => pairOf a b = false ∧ Irr (b :: r)
theorem irr_push : ∀ (l : List Nat) (a : Nat) (st : List Nat), Irr (a :: l) → l.foldl push (a :: st) = l.reverse ++ a :: st
  | [], _, _, _ => rfl
  | b :: r, a, st, h => by
    have e : push (a :: st) b = b :: a :: st := by simp [push, h.1]
    rw [List.foldl_cons, e, irr_push r b (a :: st) h.2, List.reverse_cons, List.append_assoc]
    rfl
theorem norm_irr (l : List Nat) (h : Irr l) : norm l = l := by
  unfold norm
  cases l with
  | nil => rfl
  | cons a r =>
    have e : push [] a = [a] := rfl
    rw [List.foldl_cons, e, irr_push r a [] h]
    simp
theorem irr_of : ∀ (l : List Nat), (∀ i a b, pairOf a b = true → (l.drop i).take 2 ≠ [a, b]) → Irr l
  | [], _ => trivial
  | [_], _ => trivial
  | a :: b :: r, h => by
    refine ⟨?_, irr_of (b :: r) fun i c d hp => h (i + 1) c d hp⟩
    cases hp : pairOf a b with
    | false => rfl
    | true => exact absurd rfl (h 0 a b hp)
theorem noAt_take {x : Str} {a b : Nat} (h : ∀ i, ¬ StrLaws.At x ⟨#[a, b]⟩ x.length i) (i : Nat) : (x.cps.toList.drop i).take 2 ≠ [a, b] := by
  intro e
  refine h i ⟨?_, ?_⟩
  · show i + 2 ≤ x.cps.size
    have hl := congrArg List.length e
    simp only [List.length_take, List.length_drop, Array.length_toList, List.length_cons, List.length_nil] at hl
    omega
  · rw [StrLaws.subAt_eq]
    show ((x.cps.toList.drop i).take 2 == [a, b]) = true
    rw [e]
    simp
theorem paren : Str.ofString "()" = ⟨#[40, 41]⟩ := by decide +kernel
theorem brack : Str.ofString "[]" = ⟨#[91, 93]⟩ := by decide +kernel
theorem brace : Str.ofString "{}" = ⟨#[123, 125]⟩ := by decide +kernel
theorem R3_le (x : Str) : (R3 x).length ≤ x.length := by
  unfold R3
  exact Nat.le_trans (cut_le _ _) (Nat.le_trans (cut_le _ _) (cut_le _ _))
theorem norm_R3 (x : Str) : norm (R3 x).cps.toList = norm x.cps.toList := by
  unfold R3
  rw [paren, brack, brace, norm_cut (by decide), norm_cut (by decide), norm_cut (by decide)]
theorem cut_same {x y : Str} (h : (cut x y).length = x.length) (hy : 1 ≤ y.length) : cut x y = x := by
  have hl := cut_len x y
  have h1 : (Txt.split x y).length - 1 = 0 := by
    rcases Nat.eq_zero_or_pos ((Txt.split x y).length - 1) with e | e
    · exact e
    · have := Nat.mul_le_mul e hy
      omega
  have h2 := StrLaws.join_split x y
  rw [cut_eq]
  match hs : Txt.split x y with
  | [] => rw [hs] at h2; exact h2
  | [p] => rw [hs] at h2; exact h2
  | p :: q :: r => rw [hs] at h1; simp at h1
theorem R3_fix {x : Str} (h : (R3 x).length = x.length) : R3 x = x ∧ norm x.cps.toList = x.cps.toList := by
  unfold R3 at h
  have l1 := cut_le x (Str.ofString "()")
  have l2 := cut_le (cut x (Str.ofString "()")) (Str.ofString "[]")
  have l3 := cut_le (cut (cut x (Str.ofString "()")) (Str.ofString "[]")) (Str.ofString "{}")
  have e1 : cut x (Str.ofString "()") = x := cut_same (by omega) (by rw [paren]; decide)
  rw [e1] at l2 l3 h
  have e2 : cut x (Str.ofString "[]") = x := cut_same (by omega) (by rw [brack]; decide)
  rw [e2] at l3 h
  have e3 : cut x (Str.ofString "{}") = x := cut_same (by omega) (by rw [brace]; decide)
  refine ⟨by unfold R3; rw [e1, e2, e3], norm_irr _ (irr_of _ fun i a b hp => ?_)⟩
  have n1 := cut_fix (x := x) (y := ⟨#[40, 41]⟩) (by decide) (by decide +kernel) (by rw [← paren, e1])
  have n2 := cut_fix (x := x) (y := ⟨#[91, 93]⟩) (by decide) (by decide +kernel) (by rw [← brack, e2])
  have n3 := cut_fix (x := x) (y := ⟨#[123, 125]⟩) (by decide) (by decide +kernel) (by rw [← brace, e3])
  unfold pairOf at hp
  simp only [Bool.or_eq_true, Bool.and_eq_true, beq_iff_eq] at hp
  rcases hp with (⟨rfl, rfl⟩ | ⟨rfl, rfl⟩) | ⟨rfl, rfl⟩
  · exact noAt_take n1 i
  · exact noAt_take n2 i
  · exact noAt_take n3 i
theorem norm_snoc (l : List Nat) (c : Nat) : norm (l ++ [c]) = (push (norm l).reverse c).reverse := by
  unfold norm
  rw [List.foldl_append, List.reverse_reverse]
  rfl
theorem norm_snoc_push {l : List Nat} {c : Nat} (h : ∀ a, (norm l).getLast? = some a → pairOf a c = false) : norm (l ++ [c]) = norm l ++ [c] := by
  rw [norm_snoc]
  cases hr : (norm l).reverse with
  | nil =>
    have e : norm l = [] := by rw [← List.reverse_reverse (norm l), hr]; rfl
    rw [e]; rfl
  | cons a r =>
    have e : norm l = r.reverse ++ [a] := by rw [← List.reverse_reverse (norm l), hr]; simp
    have := h a (by rw [e]; simp)
    simp [push, this, e]
theorem norm_snoc_pop {l u : List Nat} {a c : Nat} (e : norm l = u ++ [a]) (h : pairOf a c = true) : norm (l ++ [c]) = u := by
  rw [norm_snoc, e]
  simp [push, h]
/-! P3 -/
/-! the plain law of the loop: what holds ahead of place n -/
def cd (T : Str) (p : Int) : Nat := (Txt.charAt T p).getD 0
theorem item_cd (T : Str) (p : Int) : Txt.item T p = ⟨#[cd T p]⟩ := rfl
def Six (c : Nat) : Prop := c = 40 ∨ c = 41 ∨ c = 91 ∨ c = 93 ∨ c = 123 ∨ c = 125
abbrev closer (c : Nat) : Prop := c = 41 ∨ c = 93 ∨ c = 125
theorem one_eq {a b : Nat} : ((⟨#[a]⟩ : Str) = ⟨#[b]⟩) ↔ a = b := by
  constructor
  · intro h
    have := congrArg (fun s : Str => s.cps.toList) h
    simpa using this
  · rintro rfl; rfl
theorem num_one (c : Nat) : num ⟨#[c]⟩ = if c = 40 then 7 else if c = 41 then 8 else if c = 91 then 9 else if c = 93 then 10 else if c = 123 then 25 else if c = 125 then 26 else 0 := by
  unfold num
  simp only [one_eq]
theorem num_pos_six {c : Nat} (h : 0 < num ⟨#[c]⟩) : Six c := by
  rw [num_one] at h
  unfold Six
  repeat' split at h
  all_goals omega
theorem six_num_pos {c : Nat} (h : Six c) : 0 < num ⟨#[c]⟩ := by
  rcases h with rfl | rfl | rfl | rfl | rfl | rfl <;> decide +kernel
theorem num_nonneg (c : Nat) : 0 ≤ num ⟨#[c]⟩ := by
  rw [num_one]
  repeat' split
  all_goals decide
theorem num_zero {c : Nat} (h : ¬ Six c) : num ⟨#[c]⟩ = 0 := by
  have h1 := num_nonneg c
  have h2 : ¬ 0 < num ⟨#[c]⟩ := fun e => h (num_pos_six e)
  omega
theorem closer_of {c : Nat} (h : 0 < num ⟨#[c]⟩) (h2 : ([7, 9, 25].any fun x => x == num ⟨#[c]⟩) = false) : closer c := by
  rcases num_pos_six h with rfl | rfl | rfl | rfl | rfl | rfl
  · exact absurd h2 (by decide +kernel)
  · exact .inl rfl
  · exact absurd h2 (by decide +kernel)
  · exact .inr (.inl rfl)
  · exact absurd h2 (by decide +kernel)
  · exact .inr (.inr rfl)
theorem opener_of {c : Nat} (h2 : ([7, 9, 25].any fun x => x == num ⟨#[c]⟩) = true) : c = 40 ∨ c = 91 ∨ c = 123 := by
  by_cases h : 0 < num ⟨#[c]⟩
  · rcases num_pos_six h with rfl | rfl | rfl | rfl | rfl | rfl
    · exact .inl rfl
    · exact absurd h2 (by decide +kernel)
    · exact .inr (.inl rfl)
    · exact absurd h2 (by decide +kernel)
    · exact .inr (.inr rfl)
    · exact absurd h2 (by decide +kernel)
  · have h1 := num_nonneg c
    have e : num ⟨#[c]⟩ = 0 := by omega
    rw [e] at h2
    exact absurd h2 (by decide)
theorem pair_num {a c : Nat} (ha : Six a) (hc : closer c) : pairOf a c = true ↔ num ⟨#[a]⟩ = num ⟨#[c]⟩ - 1 := by
  rcases ha with rfl | rfl | rfl | rfl | rfl | rfl <;> rcases hc with rfl | rfl | rfl <;> decide +kernel
theorem not_pair_of_opener {a c : Nat} (h : c = 40 ∨ c = 91 ∨ c = 123) : pairOf a c = false := by
  unfold pairOf
  rcases h with rfl | rfl | rfl <;> simp
theorem opener_not_closer {c : Nat} (h : c = 40 ∨ c = 91 ∨ c = 123) : ¬ closer c := by
  omega
theorem pair_left {a c : Nat} (h : pairOf a c = true) : ¬ closer a := by
  unfold pairOf at h
  simp only [Bool.or_eq_true, Bool.and_eq_true, beq_iff_eq] at h
  omega
structure Inv (T : Str) (n : Nat) (W M : List Int) (kept : Str) (bad : Int) : Prop where
  wb : ∀ p ∈ W, 0 ≤ p ∧ p < (n : Int)
  mb : ∀ p ∈ M, 0 ≤ p ∧ p < (n : Int)
  ws : W.Pairwise (· < ·)
  wn : ∀ p ∈ W, Six (cd T p)
  mn : ∀ p ∈ M, Six (cd T p)
  all : ∀ p : Int, 0 ≤ p → p < (n : Int) → Six (cd T p) → p ∈ W ∨ p ∈ M
  dis : ∀ p ∈ M, p ∉ W
  nk : norm kept.cps.toList = W.map (cd T)
  bd : (∃ p ∈ W, closer (cd T p)) ↔ bad < (n : Int)
  bl : bad < (n : Int) ∨ bad = (T.length : Int)
  kl : kept.length ≤ n
  ml : M.length + W.length ≤ n
theorem inv_start (T : Str) : Inv T 0 [] [] (Str.ofString "") (T.length : Int) := by
  refine ⟨fun p h => (nomatch h), fun p h => (nomatch h), .nil, fun p h => (nomatch h), fun p h => (nomatch h), fun p h1 h2 => by omega, fun p h => (nomatch h), ?_, ?_, .inr rfl, ?_, Nat.le_refl _⟩
  · rw [ofString_nil]; rfl
  · constructor
    · rintro ⟨p, h, _⟩; exact (nomatch h)
    · intro h; omega
  · rw [ofString_nil]; exact Nat.zero_le _
theorem inv_none {T : Str} {n : Nat} {W M : List Int} {kept : Str} {bad : Int} (I : Inv T n W M kept bad) (hn : n < T.length) (h : ¬ 0 < num (Txt.item T (n : Int))) : Inv T (n + 1) W M (kept ++ Str.ofString "") bad := by
  have hs : ¬ Six (cd T (n : Int)) := fun e => h (six_num_pos e)
  rw [ofString_nil, Str.append_empty]
  refine ⟨fun p hp => ?_, fun p hp => ?_, I.ws, I.wn, I.mn, fun p h1 h2 h3 => ?_, I.dis, I.nk, ?_, ?_, Nat.le_succ_of_le I.kl, Nat.le_succ_of_le I.ml⟩
  · have := I.wb p hp; omega
  · have := I.mb p hp; omega
  · by_cases e : p = (n : Int)
    · subst e; exact absurd h3 hs
    · exact I.all p h1 (by omega) h3
  · rw [I.bd]
    have := I.bl
    omega
  · have := I.bl; omega
theorem getLast_map {W : List Int} {f : Int → Nat} {a : Nat} (h : (W.map f).getLast? = some a) : ∃ p, W.getLast? = some p ∧ f p = a := by
  rw [List.getLast?_map] at h
  cases hW : W.getLast? with
  | none => rw [hW] at h; cases h
  | some p => rw [hW] at h; exact ⟨p, rfl, by simpa using h⟩
theorem codes_snoc (kept : Str) (c : Nat) : (kept ++ ⟨#[c]⟩ : Str).cps.toList = kept.cps.toList ++ [c] := by
  rw [Str.cps_append, Array.toList_append]
theorem inv_push {T : Str} {n : Nat} {W M : List Int} {kept : Str} {bad bad' : Int} (I : Inv T n W M kept bad) (hn : n < T.length) (hs : Six (cd T (n : Int)))
    (hp : ∀ a, (norm kept.cps.toList).getLast? = some a → pairOf a (cd T (n : Int)) = false) (hb : (closer (cd T (n : Int)) ∧ bad' = min bad (n : Int)) ∨ (¬ closer (cd T (n : Int)) ∧ bad' = bad)) : Inv T (n + 1) (W ++ [(n : Int)]) M (kept ++ Txt.item T (n : Int)) bad' := by
  refine ⟨fun p h => ?_, fun p h => ?_, ?_, fun p h => ?_, I.mn, fun p h1 h2 h3 => ?_, fun p h hW => ?_, ?_, ?_, ?_, ?_, ?_⟩
  · rcases List.mem_append.mp h with h | h
    · have := I.wb p h; omega
    · have := List.mem_singleton.mp h; omega
  · have := I.mb p h; omega
  · refine List.pairwise_append.mpr ⟨I.ws, List.pairwise_singleton _ _, fun a ha b hb => ?_⟩
    have h1 := (I.wb a ha).2
    have h2 := List.mem_singleton.mp hb
    omega
  · rcases List.mem_append.mp h with h | h
    · exact I.wn p h
    · rw [List.mem_singleton.mp h]; exact hs
  · by_cases e : p = (n : Int)
    · exact .inl (List.mem_append.mpr (.inr (List.mem_singleton.mpr e)))
    · rcases I.all p h1 (by omega) h3 with h | h
      · exact .inl (List.mem_append.mpr (.inl h))
      · exact .inr h
  · rcases List.mem_append.mp hW with hW | hW
    · exact I.dis p h hW
    · have h1 := (I.mb p h).2
      have h2 := List.mem_singleton.mp hW
      omega
  · rw [item_cd, codes_snoc, norm_snoc_push hp, I.nk, List.map_append]
    rfl
  · have hbd := I.bd
    have hbl := I.bl
    rcases hb with ⟨hc, rfl⟩ | ⟨hc, rfl⟩
    · constructor
      · intro _; omega
      · intro _; exact ⟨(n : Int), List.mem_append.mpr (.inr (List.mem_singleton.mpr rfl)), hc⟩
    · constructor
      · rintro ⟨p, hp, hcp⟩
        rcases List.mem_append.mp hp with h | h
        · have := hbd.mp ⟨p, h, hcp⟩; omega
        · rw [List.mem_singleton.mp h] at hcp; exact absurd hcp hc
      · intro h
        obtain ⟨p, hp, hcp⟩ := hbd.mpr (by omega)
        exact ⟨p, List.mem_append.mpr (.inl hp), hcp⟩
  · have hbl := I.bl
    rcases hb with ⟨hc, rfl⟩ | ⟨hc, rfl⟩ <;> omega
  · rw [Str.length_append]
    have := I.kl
    have e : (Txt.item T (n : Int)).length = 1 := rfl
    omega
  · rw [List.length_append]
    have := I.ml
    simp only [List.length_cons, List.length_nil]
    omega
theorem inv_open {T : Str} {n : Nat} {W M : List Int} {kept : Str} {bad : Int} (I : Inv T n W M kept bad) (hn : n < T.length) (h : 0 < num (Txt.item T (n : Int))) (h2 : ([7, 9, 25].any fun x => x == num (Txt.item T (n : Int))) = true) :
    Inv T (n + 1) (W ++ [(n : Int)]) M (kept ++ Txt.item T (n : Int)) bad :=
  inv_push I hn (num_pos_six h) (fun a _ => not_pair_of_opener (opener_of h2)) (.inr ⟨opener_not_closer (opener_of h2), rfl⟩)
theorem inv_bad {T : Str} {n : Nat} {W M : List Int} {kept : Str} {bad : Int} (I : Inv T n W M kept bad) (hn : n < T.length) (h : 0 < num (Txt.item T (n : Int))) (h2 : ([7, 9, 25].any fun x => x == num (Txt.item T (n : Int))) = false)
    (h3 : ∀ p, W.getLast? = some p → num (Txt.item T p) ≠ num (Txt.item T (n : Int)) - 1) : Inv T (n + 1) (W ++ [(n : Int)]) M (kept ++ Txt.item T (n : Int)) (min bad (n : Int)) := by
  have hc := closer_of h h2
  refine inv_push I hn (num_pos_six h) (fun a ha => ?_) (.inl ⟨hc, rfl⟩)
  rw [I.nk] at ha
  obtain ⟨p, hp, rfl⟩ := getLast_map ha
  have h4 := h3 p hp
  have h5 := pair_num (I.wn p (List.mem_of_getLast? hp)) hc
  cases e : pairOf (cd T p) (cd T (n : Int)) with
  | false => rfl
  | true => exact absurd (h5.mp e) h4
theorem inv_met {T : Str} {n : Nat} {U M : List Int} {p : Int} {kept : Str} {bad : Int} (I : Inv T n (U ++ [p]) M kept bad) (hn : n < T.length) (h : 0 < num (Txt.item T (n : Int))) (h2 : ([7, 9, 25].any fun x => x == num (Txt.item T (n : Int))) = false)
    (h3 : num (Txt.item T p) = num (Txt.item T (n : Int)) - 1) : Inv T (n + 1) U (M ++ [(n : Int), p]) (kept ++ Txt.item T (n : Int)) bad := by
  have hc := closer_of h h2
  have hpm : p ∈ U ++ [p] := List.mem_append.mpr (.inr (List.mem_singleton.mpr rfl))
  have hpair : pairOf (cd T p) (cd T (n : Int)) = true := (pair_num (I.wn p hpm) hc).mpr h3
  have hU : ∀ q ∈ U, q ∈ U ++ [p] := fun q hq => List.mem_append.mpr (.inl hq)
  have hlt : ∀ q ∈ U, q < p := fun q hq => (List.pairwise_append.mp I.ws).2.2 q hq p (List.mem_singleton.mpr rfl)
  refine ⟨fun q hq => ?_, fun q hq => ?_, (List.pairwise_append.mp I.ws).1, fun q hq => I.wn q (hU q hq), fun q hq => ?_, fun q h1 h2 h3 => ?_, fun q hq hW => ?_, ?_, ?_, ?_, ?_, ?_⟩
  · have := I.wb q (hU q hq); omega
  · rcases List.mem_append.mp hq with hq | hq
    · have := I.mb q hq; omega
    · rcases List.mem_cons.mp hq with rfl | hq
      · omega
      · rw [List.mem_singleton.mp hq]
        have := I.wb p hpm; omega
  · rcases List.mem_append.mp hq with hq | hq
    · exact I.mn q hq
    · rcases List.mem_cons.mp hq with rfl | hq
      · exact num_pos_six h
      · rw [List.mem_singleton.mp hq]; exact I.wn p hpm
  · by_cases e : q = (n : Int)
    · exact .inr (List.mem_append.mpr (.inr (e ▸ List.mem_cons_self)))
    · rcases I.all q h1 (by omega) h3 with hq | hq
      · rcases List.mem_append.mp hq with hq | hq
        · exact .inl hq
        · rw [List.mem_singleton.mp hq]
          exact .inr (List.mem_append.mpr (.inr (List.mem_cons_of_mem _ (List.mem_singleton.mpr rfl))))
      · exact .inr (List.mem_append.mpr (.inl hq))
  · rcases List.mem_append.mp hq with hq | hq
    · exact I.dis q hq (hU q hW)
    · rcases List.mem_cons.mp hq with rfl | hq
      · have := (I.wb _ (hU _ hW)).2; omega
      · have h1 := List.mem_singleton.mp hq
        have := hlt q hW
        omega
  · rw [item_cd, codes_snoc]
    refine norm_snoc_pop (a := cd T p) ?_ hpair
    rw [I.nk, List.map_append]
    rfl
  · have hbd := I.bd
    have hbl := I.bl
    constructor
    · rintro ⟨q, hq, hcq⟩
      have := hbd.mp ⟨q, hU q hq, hcq⟩
      omega
    · intro hb
      obtain ⟨q, hq, hcq⟩ := hbd.mpr (by omega)
      rcases List.mem_append.mp hq with hq | hq
      · exact ⟨q, hq, hcq⟩
      · rw [List.mem_singleton.mp hq] at hcq
        exact absurd hcq (pair_left hpair)
  · have := I.bl; omega
  · rw [Str.length_append]
    have := I.kl
    have e : (Txt.item T (n : Int)).length = 1 := rfl
    omega
  · have := I.ml
    simp only [List.length_append, List.length_cons, List.length_nil] at *
    omega
/-! P4 -/
theorem last_split' : ∀ {W : List Int}, W ≠ [] → W = W.dropLast ++ [W.getLastD 0]
  | [], h => absurd rfl h
  | [a], _ => rfl
  | a :: b :: r, _ => by
    have ih := last_split' (W := b :: r) (by simp)
    have e : (a :: b :: r).getLastD 0 = (b :: r).getLastD 0 := by simp [List.getLastD_cons]
    have e2 : (a :: b :: r).dropLast = a :: (b :: r).dropLast := rfl
    rw [e, e2, List.cons_append, ← ih]
theorem last_split {W : List Int} (h : decide (W = []) = false) : W = W.dropLast ++ [W.getLastD 0] := last_split' (of_decide_eq_false h)
theorem inv_met' {T : Str} {n : Nat} {W M : List Int} {kept : Str} {bad : Int} (I : Inv T n W M kept bad) (hn : n < T.length) (hne : decide (W = []) = false) (h : 0 < num (Txt.item T (n : Int))) (h2 : ([7, 9, 25].any fun x => x == num (Txt.item T (n : Int))) = false)
    (h3 : num (Txt.item T (W.getLastD 0)) = num (Txt.item T (n : Int)) - 1) : Inv T (n + 1) W.dropLast (M ++ [(n : Int), W.getLastD 0]) (kept ++ Txt.item T (n : Int)) bad := by
  have e := last_split hne
  rw [e] at I
  exact inv_met I hn h h2 h3
theorem inv_bad1 {T : Str} {n : Nat} {W M : List Int} {kept : Str} {bad : Int} (I : Inv T n W M kept bad) (hn : n < T.length) (he : decide (W = []) = true) (h : 0 < num (Txt.item T (n : Int))) (h2 : ([7, 9, 25].any fun x => x == num (Txt.item T (n : Int))) = false) :
    Inv T (n + 1) (W ++ [(n : Int)]) M (kept ++ Txt.item T (n : Int)) (if (n : Int) < bad then (n : Int) else bad) := by
  have e : (if (n : Int) < bad then (n : Int) else bad) = min bad (n : Int) := by split <;> omega
  rw [e]
  exact inv_bad I hn h h2 fun p hp => by
    have : W = [] := of_decide_eq_true he
    rw [this] at hp
    cases hp
theorem inv_bad2 {T : Str} {n : Nat} {W M : List Int} {kept : Str} {bad : Int} (I : Inv T n W M kept bad) (hn : n < T.length) (hne : decide (W = []) = false) (h : 0 < num (Txt.item T (n : Int))) (h2 : ([7, 9, 25].any fun x => x == num (Txt.item T (n : Int))) = false)
    (h3 : num (Txt.item T (W.getLastD 0)) ≠ num (Txt.item T (n : Int)) - 1) : Inv T (n + 1) (W ++ [(n : Int)]) M (kept ++ Txt.item T (n : Int)) (if (n : Int) < bad then (n : Int) else bad) := by
  have e : (if (n : Int) < bad then (n : Int) else bad) = min bad (n : Int) := by split <;> omega
  rw [e]
  exact inv_bad I hn h h2 fun p hp => by
    have e := last_split hne
    rw [e, List.getLast?_append] at hp
    have : W.getLastD 0 = p := by simpa using hp
    rw [← this]
    exact h3
theorem last_bounds {T : Str} {n : Nat} {W M : List Int} {kept : Str} {bad : Int} (I : Inv T n W M kept bad) (hne : decide (W = []) = false) : 0 ≤ W.getLastD 0 ∧ W.getLastD 0 < (n : Int) := by
  have e := last_split hne
  exact I.wb _ (by rw [e]; simp)
theorem ne_length {W : List Int} (hne : decide (W = []) = false) : 0 < W.length := List.length_pos_iff.mpr (of_decide_eq_false hne)
theorem join_items (T : Str) : ∀ W : List Int, Str.join Str.empty (W.map fun p => Txt.item T p) = ⟨(W.map (cd T)).toArray⟩
  | [] => rfl
  | [p] => rfl
  | p :: q :: r => by
    have ih := join_items T (q :: r)
    show Txt.item T p ++ Str.empty ++ Str.join Str.empty ((q :: r).map fun p => Txt.item T p) = _
    rw [ih, Str.append_empty]
    apply Str.ext'
    rw [Str.cps_append]
    apply Array.toList_inj.mp
    rw [Array.toList_append]
    rfl
theorem join_items' (T : Str) (W : List Int) : Txt.join (Str.ofString "") (W.map fun p => Txt.item T p) = ⟨(W.map (cd T)).toArray⟩ := by
  rw [ofString_nil, ← join_items]
  exact StrLaws.glued_eq_join _ _
theorem left_eq {T : Str} {n : Nat} {W M : List Int} {kept : Str} {bad : Int} (I : Inv T n W M kept bad) : normS kept = Txt.join (Str.ofString "") (W.map fun p => Txt.item T p) := by
  rw [join_items']
  unfold normS
  rw [I.nk]
theorem left_codes {T : Str} {n : Nat} {W M : List Int} {kept : Str} {bad : Int} (I : Inv T n W M kept bad) : (normS kept).cps.toList = W.map (cd T) := by
  unfold normS
  rw [I.nk]
theorem left_len {T : Str} {n : Nat} {W M : List Int} {kept : Str} {bad : Int} (I : Inv T n W M kept bad) : (normS kept).length ≤ n := by
  have h := congrArg List.length (left_codes I)
  rw [List.length_map] at h
  have e : (normS kept).length = (normS kept).cps.toList.length := by simp [Str.length]
  have := I.ml
  omega
theorem absurd_open {x : Str} (h : ¬ 0 < num x) (h2 : ([7, 9, 25].any fun y => y == num x) = true) : False := by
  simp only [List.any_cons, List.any_nil, Bool.or_false, Bool.or_eq_true, beq_iff_eq] at h2
  omega
theorem contains_closer (c : Nat) : Txt.contains (Str.ofString ")]}") ⟨#[c]⟩ = decide (closer c) := by
  unfold Txt.contains
  rw [StrLaws.found_one]
  have e : (Str.ofString ")]}").cps.toList = [41, 93, 125] := by decide +kernel
  rw [e]
  simp [closer]
theorem close_eq {T : Str} {n : Nat} {W M : List Int} {kept : Str} {bad : Int} (I : Inv T (n + 1) W M kept bad) : (!decide (((signs (normS kept)).filter fun a => Txt.contains (Str.ofString ")]}") a) = [])) = decide (bad ≤ (n : Int)) := by
  have hs : signs (normS kept) = W.map fun p => (⟨#[cd T p]⟩ : Str) := by
    unfold signs
    rw [left_codes I, List.map_map]
    rfl
  have hb := I.bd
  have key : ((signs (normS kept)).filter fun a => Txt.contains (Str.ofString ")]}") a) ≠ [] ↔ bad ≤ (n : Int) := by
    constructor
    · intro h
      obtain ⟨a, ha⟩ := List.exists_mem_of_ne_nil _ h
      obtain ⟨ha1, ha2⟩ := List.mem_filter.mp ha
      rw [hs] at ha1
      obtain ⟨p, hp, rfl⟩ := List.mem_map.mp ha1
      rw [contains_closer] at ha2
      have := hb.mp ⟨p, hp, of_decide_eq_true ha2⟩
      omega
    · intro h he
      obtain ⟨p, hp, hc⟩ := hb.mpr (by omega)
      have hm : (⟨#[cd T p]⟩ : Str) ∈ (signs (normS kept)).filter fun a => Txt.contains (Str.ofString ")]}") a := by
        refine List.mem_filter.mpr ⟨?_, ?_⟩
        · rw [hs]; exact List.mem_map.mpr ⟨p, hp, rfl⟩
        · rw [contains_closer]; exact decide_eq_true hc
      rw [he] at hm
      cases hm
  by_cases h : bad ≤ (n : Int)
  · rw [decide_eq_true h, decide_eq_false (key.mpr h)]; rfl
  · rw [decide_eq_false h, decide_eq_true (Decidable.not_not.mp fun e => h (key.mp e))]; rfl
/-! P5 -/
def hid (T : Str) (M : List Int) (k : Int) : Str := if (M.any fun x => x == k) = true then ⟨#[cd T k + 128]⟩ else Txt.item T k
theorem hid_pos {T : Str} {M : List Int} {k : Int} (h : (M.any fun x => x == k) = true) : hid T M k = ⟨#[cd T k + 128]⟩ := if_pos h
theorem hid_neg {T : Str} {M : List Int} {k : Int} (h : (M.any fun x => x == k) = false) : hid T M k = Txt.item T k := if_neg (by rw [h]; decide)
theorem any_mem {M : List Int} {k : Int} (h : (M.any fun x => x == k) = true) : k ∈ M := by
  obtain ⟨x, hx, e⟩ := List.any_eq_true.mp h
  rw [← eq_of_beq e]
  exact hx
theorem mem_any {M : List Int} {k : Int} (h : k ∈ M) : (M.any fun x => x == k) = true := List.any_eq_true.mpr ⟨k, h, by simp⟩
def G2 (T : Str) (M : List Int) (l : List Int) (k : Int) : List Int := if 0 < num (hid T M k) then l ++ [k] else l
theorem fold2 (T : Str) (M : List Int) : ∀ (ks l : List Int), ks.foldl (G2 T M) l = l ++ ks.filter fun k => decide (0 < num (hid T M k))
  | [], l => by simp
  | k :: r, l => by
    rw [List.foldl_cons, fold2 T M r]
    unfold G2
    by_cases h : 0 < num (hid T M k)
    · simp [h]
    · simp [h]
theorem sorted_ext : ∀ {a b : List Int}, a.Pairwise (· < ·) → b.Pairwise (· < ·) → (∀ x, x ∈ a ↔ x ∈ b) → a = b
  | [], [], _, _, _ => rfl
  | [], y :: s, _, _, h => absurd ((h y).mpr (.head _)) (by simp)
  | x :: r, [], _, _, h => absurd ((h x).mp (.head _)) (by simp)
  | x :: r, y :: s, ha, hb, h => by
    obtain ⟨ha1, ha2⟩ := List.pairwise_cons.mp ha
    obtain ⟨hb1, hb2⟩ := List.pairwise_cons.mp hb
    have e : x = y := by
      rcases List.mem_cons.mp ((h x).mp (.head _)) with e | e
      · exact e
      · rcases List.mem_cons.mp ((h y).mpr (.head _)) with e' | e'
        · exact e'.symm
        · have h1 := hb1 x e
          have h2 := ha1 y e'
          omega
    subst e
    rw [sorted_ext ha2 hb2 fun z => ?_]
    constructor
    · intro hz
      rcases List.mem_cons.mp ((h z).mp (.tail _ hz)) with e | e
      · have := ha1 z hz; omega
      · exact e
    · intro hz
      rcases List.mem_cons.mp ((h z).mpr (.tail _ hz)) with e | e
      · have := hb1 z hz; omega
      · exact e
theorem rangeKs_sorted (n : Nat) : (rangeKs 0 n).Pairwise (· < ·) := by
  unfold rangeKs
  rw [List.pairwise_map]
  refine List.Pairwise.imp (fun {a b} h => ?_) List.pairwise_lt_range
  omega
theorem mem_rangeKs0 {n : Nat} {k : Int} (h0 : 0 ≤ k) (h1 : k < (n : Int)) : k ∈ rangeKs 0 n := by
  unfold rangeKs
  exact List.mem_map.mpr ⟨k.toNat, List.mem_range.mpr (by omega), by omega⟩
theorem num_hidden {c : Nat} (h : Six c) : num ⟨#[c + 128]⟩ = 0 := by
  rcases h with rfl | rfl | rfl | rfl | rfl | rfl <;> decide +kernel
theorem fold_W {T : Str} {n : Nat} {W M : List Int} {kept : Str} {bad : Int} (I : Inv T n W M kept bad) : (rangeKs 0 n).foldl (G2 T M) [] = W := by
  rw [fold2, List.nil_append]
  refine sorted_ext ((rangeKs_sorted n).filter _) I.ws fun k => ?_
  rw [List.mem_filter]
  constructor
  · rintro ⟨hk, hp⟩
    have hp' : 0 < num (hid T M k) := of_decide_eq_true hp
    obtain ⟨b1, b2⟩ := mem_rangeKs hk
    cases hM : M.any fun x => x == k with
    | true =>
      rw [hid_pos hM, num_hidden (I.mn k (any_mem hM))] at hp'
      exact absurd hp' (by decide)
    | false =>
      rw [hid_neg hM] at hp'
      rcases I.all k b1 (by omega) (num_pos_six hp') with h | h
      · exact h
      · rw [mem_any h] at hM; cases hM
  · intro hk
    obtain ⟨b1, b2⟩ := I.wb k hk
    refine ⟨mem_rangeKs0 b1 b2, decide_eq_true ?_⟩
    cases hM : M.any fun x => x == k with
    | true => exact absurd hk (I.dis k (any_mem hM))
    | false =>
      rw [hid_neg hM]
      exact six_num_pos (I.wn k hk)
theorem grows2 (T : Str) (M : List Int) (l : List Int) (k : Int) : (G2 T M l k).length ≤ l.length + 1 := by
  unfold G2
  split
  · simp
  · omega
theorem hid_ne {T : Str} {M : List Int} {k : Int} (h : (hid T M k != Txt.item T k) = true) : (M.any fun x => x == k) = true := by
  cases hM : M.any fun x => x == k with
  | true => rfl
  | false => rw [hid_neg hM] at h; simp at h
theorem foldl_same : ∀ (ks l : List Int), ks.foldl (fun l _ => l) l = l
  | [], _ => rfl
  | _ :: r, l => foldl_same r l
theorem carried_get : ∀ {ys : List Value} {ds : List PyData} {i : Nat} {d : PyData}, CarriedAll ys ds → ds[i]? = some d → ∃ v, ys[i]? = some v ∧ Carried v d
  | _, _, 0, d, .cons (v := v) (d := d0) h _, e => by
    have e1 : d0 = d := by simpa using e
    exact ⟨v, rfl, e1 ▸ h⟩
  | _, _, i + 1, d, .cons _ r, e => by
    obtain ⟨v, h1, h2⟩ := carried_get (i := i) r (by simpa using e)
    exact ⟨v, by simpa using h1, h2⟩
theorem carried_str {v : Value} {x : Str} (h : Carried v (.str x)) : ∃ t, v = .str x t := by
  cases h with
  | str _ t => exact ⟨t, rfl⟩
theorem hidden_get {T : Str} {M : List Int} {ys : List Value} {n : Nat} {k : Int} (h : CarriedAll ys ((rangeKs 0 n).map fun k => PyData.str (hid T M k))) (h0 : 0 ≤ k) (h1 : k < (n : Int)) : ∃ t, ys[k.toNat]? = some (.str (hid T M k) t) := by
  have e : ((rangeKs 0 n).map fun k => PyData.str (hid T M k))[k.toNat]? = some (PyData.str (hid T M k)) := by
    unfold rangeKs
    have h2 : k.toNat < n := by omega
    have h3 : (0 : Int) + (k.toNat : Int) = k := by omega
    have h4 : max k 0 = k := by omega
    simp [h2, h4]
  obtain ⟨v, hv, hc⟩ := carried_get h e
  obtain ⟨t, rfl⟩ := carried_str hc
  exact ⟨t, hv⟩
/-! C0 -/
/-- what a call of the def at f gives back, in any frame of the text's: the value R t, the frame and the ledger as they were -/
def Cl (rd : Nat) (w : World) (mean : ExcName → Option Value) (mg mb : Str → Option Value) (f : Addr) (news : List (Addr × Obj)) (vs : List Value) (R : Tok → Value) : Prop :=
  ∀ (dp un : Nat) (gd : Option (List Code)) (cn : Str) (cs : Scope) (a : Addr) (ccd : Value) (cl : List (Str × Addr)) (outer : List Env) (A₀ : Around) (base h₀ : Heap) (L : Addr) (m : Str → Option Value) (s : Shared) (Q E : Value → Shared → Prop),
    Below A₀ base outer h₀ → Fr h₀ L s.heap m → (hd.heap_39 w.params).In h₀ → News h₀ L s.heap news → Top hd.view_39 (looseW hd.view_39 [Str.ofString "EXACT_TOKEN_TYPES"]) mean mg mb h₀ → cs.kind = .function →
    dp + rd < recursionLimit → un + 3 * rd + 64 < cLine →
    (∀ (t : Tok) (h' : Heap) (tk' : Nat), Fr h₀ L h' m → News h₀ L h' news → Q (R t) { s with heap := h', toks := tk' }) →
    wpAny (model Challenge.rw_mj0142_01.row.prog w) (ktrTop dp un gd cn cs L a ccd cl outer) (call (.ref f) vs) Q E s
theorem Cl.use {rd : Nat} {w : World} {mean : ExcName → Option Value} {mg mb : Str → Option Value} {f : Addr} {news : List (Addr × Obj)} {vs : List Value} {R : Tok → Value} (C : Cl rd w mean mg mb f news vs R)
    {dp un : Nat} {gd : Option (List Code)} {cn : Str} {cs : Scope} {a : Addr} {ccd : Value} {cl : List (Str × Addr)} {outer : List Env} {A₀ : Around} {base h₀ : Heap} {L : Addr} {m : Str → Option Value} {s : Shared} {Q E : Value → Shared → Prop}
    (B : Below A₀ base outer h₀) (F : Fr h₀ L s.heap m) (X : (hd.heap_39 w.params).In h₀) (N : News h₀ L s.heap news) (T : Top hd.view_39 (looseW hd.view_39 [Str.ofString "EXACT_TOKEN_TYPES"]) mean mg mb h₀) (hk : cs.kind = .function)
    (hr : dp + rd < recursionLimit) (hu : un + 3 * rd + 64 < cLine) (hret : ∀ (t : Tok) (h' : Heap) (tk' : Nat), Fr h₀ L h' m → News h₀ L h' news → Q (R t) { s with heap := h', toks := tk' }) :
    wpAny (model Challenge.rw_mj0142_01.row.prog w) (ktrTop dp un gd cn cs L a ccd cl outer) (call (.ref f) vs) Q E s :=
  C dp un gd cn cs a ccd cl outer A₀ base h₀ L m s Q E B F X N T hk hr hu hret
theorem ret_eq {h₀ h' : Heap} {L : Addr} {m : Str → Option Value} {news news' : List (Addr × Obj)} {s : Shared} {Q : Value → Shared → Prop} {R : Tok → Value} {v : Value} {t : Tok} {tk' : Nat}
    (hret : ∀ (t : Tok) (h' : Heap) (tk' : Nat), Fr h₀ L h' m → News h₀ L h' news → Q (R t) { s with heap := h', toks := tk' }) (e : v = R t) (F : Fr h₀ L h' m) (N : News h₀ L h' news') (hs : ∀ p ∈ news, p ∈ news') : Q v { s with heap := h', toks := tk' } := by
  subst e
  exact hret t h' tk' F fun p hp => N p (hs p hp)
/-! C1 -/
local macro_rules | `(tactic| walk_at "call builtin:dict.get") => `(tactic| (k_here; (with_reducible show wpAny _ _ (call (Value.builtin "dict.get") [Value.ref 99, Value.str _ _, Value.int _ _]) _ _ _); (rename StrTab _ _ _ _ _ => hTab); (refine get_num (TabAt.ofFr hTab (by k_asm)) ?_); (try clear hTab); (try ((rename KTD.TextTab _ _ _ => hTX); clear hTX)); intro n' t' hn'))
local macro_rules | `(tactic| walk_at "compareOp In int ref") => `(tactic| (k_here; (with_reducible show wpAny _ _ (compareOp CmpOp.In (Value.int _ _) (Value.ref _)) _ _ _); (refine in_tuple_ints (News.isTup (by k_asm) (by k_mem)) (by repeat constructor) ?_)))
theorem num6_in {n : Int} (h : ([7, 8, 9, 10, 25, 26].any fun x => x == n) = true) : num6 n = n := by
  simp only [List.any_cons, List.any_nil, Bool.or_false, Bool.or_eq_true, beq_iff_eq] at h
  rcases h with h | h | h | h | h | h <;> subst h <;> rfl
theorem num6_out {n : Int} (h : ([7, 8, 9, 10, 25, 26].any fun x => x == n) = false) : num6 n = 0 := by
  simp only [List.any_cons, List.any_nil, Bool.or_false, Bool.or_eq_false_iff, beq_eq_false_iff_ne] at h
  obtain ⟨h1, h2, h3, h4, h5, h6⟩ := h
  unfold num6
  rw [if_neg (Ne.symm h1), if_neg (Ne.symm h2), if_neg (Ne.symm h3), if_neg (Ne.symm h4), if_neg (Ne.symm h5), if_neg (Ne.symm h6)]
theorem num_claim (w mean mg mb news) (x : Str) (t : Tok) : Cl 1 w mean mg mb 108 news [.str x t] (fun t => .int (num x) t) := by
  ((have hfill : PySem.Challenge.rw_mj0142_01 = PySem.Challenge.rw_mj0142_01 ∧ Mine.hd.heap_39 = Mine.hd.heap_39 := by k_fill; exact ⟨rfl, rfl⟩); clear hfill; w_top off)
  unfold Cl; intros; rename_i hret; refine wpAny_call ?_; k_dflt cell_enter; k_steps
  · (rename num _ = num6 _ => hn); exact ret_eq hret (congrArg (Value.int · _) (hn.trans (num6_in (by assumption))).symm) (by assumption) (by assumption) (fun p hp => .tail _ hp)
  · (rename num _ = num6 _ => hn); exact ret_eq hret (congrArg (Value.int · _) (hn.trans (num6_out (by assumption))).symm) (by assumption) (by assumption) (fun p hp => .tail _ hp)
theorem ctoi_str (w mean mg mb news) (c : Nat) (t : Tok) : Cl 1 w mean mg mb 28 news [.str ⟨#[c]⟩ t] (fun t => .int (c : Int) t) := by
  ((have hfill : PySem.Challenge.rw_mj0142_01 = PySem.Challenge.rw_mj0142_01 ∧ Mine.hd.heap_39 = Mine.hd.heap_39 := by k_fill; exact ⟨rfl, rfl⟩); clear hfill; w_top off)
  unfold Cl; intros; rename_i hret; refine wpAny_call ?_; k_dflt cell_enter; k_steps
  all_goals (first | exact ret_eq hret rfl (by assumption) (by assumption) (fun p hp => hp))
theorem ctoi_int (w mean mg mb news) (c : Int) (t : Tok) : Cl 1 w mean mg mb 28 news [.int c t] (fun t => .int c t) := by
  ((have hfill : PySem.Challenge.rw_mj0142_01 = PySem.Challenge.rw_mj0142_01 ∧ Mine.hd.heap_39 = Mine.hd.heap_39 := by k_fill; exact ⟨rfl, rfl⟩); clear hfill; w_top off)
  unfold Cl; intros; rename_i hret; refine wpAny_call ?_; k_dflt cell_enter; k_steps
  all_goals (first | exact ret_eq hret rfl (by assumption) (by assumption) (fun p hp => hp))
/-! C2 -/
local macro_rules | `(tactic| walk_at "call ref") => `(tactic| (k_here; (with_reducible show wpAny _ _ (call (Value.ref 28) [Value.str _ _]) _ _ _); k_dflt (refine' Cl.use (ctoi_str _ _ _ _ _ _ _) ?k1 ?k2 ?k3 ?k4 ?k5 ?kK ?kd ?ku ?_; (case k1 => k_asm); (case k2 => k_asm); (case k3 => k_asm); (case k4 => k_asm); (case k5 => k_asm); (case kK => first | exact rfl | assumption); (case kd => ktr_room); (case ku => ktr_units); (intro t9 h9 tk9 F9 N9; (try dsimp only); (try k_fold)))))
local macro_rules | `(tactic| walk_at "call ref") => `(tactic| (k_here; (with_reducible show wpAny _ _ (call (Value.ref 28) [Value.int _ _]) _ _ _); k_dflt (refine' Cl.use (ctoi_int _ _ _ _ _ _ _) ?k1 ?k2 ?k3 ?k4 ?k5 ?kK ?kd ?ku ?_; (case k1 => k_asm); (case k2 => k_asm); (case k3 => k_asm); (case k4 => k_asm); (case k5 => k_asm); (case kK => first | exact rfl | assumption); (case kd => ktr_room); (case ku => ktr_units); (intro t9 h9 tk9 F9 N9; (try dsimp only); (try k_fold)))))
theorem isgraph_c (w mean mg mb news) (c : Nat) (t : Tok) (hc : Six c) : Cl 2 w mean mg mb 56 news [.str ⟨#[c]⟩ t] (fun t => .bool true) := by
  ((have hfill : PySem.Challenge.rw_mj0142_01 = PySem.Challenge.rw_mj0142_01 ∧ Mine.hd.heap_39 = Mine.hd.heap_39 := by k_fill; exact ⟨rfl, rfl⟩); clear hfill; w_top off)
  (have hc9 := hc); unfold Six at hc9; unfold Cl; intros; rename_i hret; refine wpAny_call ?_; k_dflt cell_enter; k_steps
  all_goals (first | exact ret_eq (t := 0) hret rfl (by assumption) (by assumption) (fun p hp => hp) | exact ret_eq (t := 0) hret (congrArg Value.bool (decide_eq_true (by omega))) (by assumption) (by assumption) (fun p hp => hp) | exact ret_eq (t := 0) hret (congrArg Value.bool (decide_eq_false (by omega))) (by assumption) (by assumption) (fun p hp => hp) | (exfalso; omega))
local macro_rules | `(tactic| walk_at "call ref") => `(tactic| (k_here; (with_reducible show wpAny _ _ (call (Value.ref 56) [Value.str _ _]) _ _ _); k_dflt (refine' Cl.use (isgraph_c _ _ _ _ _ _ _ (by assumption)) ?k1 ?k2 ?k3 ?k4 ?k5 ?kK ?kd ?ku ?_; (case k1 => k_asm); (case k2 => k_asm); (case k3 => k_asm); (case k4 => k_asm); (case k5 => k_asm); (case kK => first | exact rfl | assumption); (case kd => ktr_room); (case ku => ktr_units); (intro t9 h9 tk9 F9 N9; (try dsimp only); (try k_fold)))))
theorem isupper_c (w mean mg mb news) (c : Nat) (t : Tok) (hc : Six c) : Cl 2 w mean mg mb 84 news [.str ⟨#[c]⟩ t] (fun t => .bool false) := by
  ((have hfill : PySem.Challenge.rw_mj0142_01 = PySem.Challenge.rw_mj0142_01 ∧ Mine.hd.heap_39 = Mine.hd.heap_39 := by k_fill; exact ⟨rfl, rfl⟩); clear hfill; w_top off)
  (have hc9 := hc); unfold Six at hc9; unfold Cl; intros; rename_i hret; refine wpAny_call ?_; k_dflt cell_enter; k_steps
  all_goals (first | exact ret_eq (t := 0) hret rfl (by assumption) (by assumption) (fun p hp => hp) | exact ret_eq (t := 0) hret (congrArg Value.bool (decide_eq_true (by omega))) (by assumption) (by assumption) (fun p hp => hp) | exact ret_eq (t := 0) hret (congrArg Value.bool (decide_eq_false (by omega))) (by assumption) (by assumption) (fun p hp => hp) | (exfalso; omega))
local macro_rules | `(tactic| walk_at "call ref") => `(tactic| (k_here; (with_reducible show wpAny _ _ (call (Value.ref 84) [Value.str _ _]) _ _ _); k_dflt (refine' Cl.use (isupper_c _ _ _ _ _ _ _ (by assumption)) ?k1 ?k2 ?k3 ?k4 ?k5 ?kK ?kd ?ku ?_; (case k1 => k_asm); (case k2 => k_asm); (case k3 => k_asm); (case k4 => k_asm); (case k5 => k_asm); (case kK => first | exact rfl | assumption); (case kd => ktr_room); (case ku => ktr_units); (intro t9 h9 tk9 F9 N9; (try dsimp only); (try k_fold)))))
theorem islower_c (w mean mg mb news) (c : Nat) (t : Tok) (hc : Six c) : Cl 2 w mean mg mb 63 news [.str ⟨#[c]⟩ t] (fun t => .bool false) := by
  ((have hfill : PySem.Challenge.rw_mj0142_01 = PySem.Challenge.rw_mj0142_01 ∧ Mine.hd.heap_39 = Mine.hd.heap_39 := by k_fill; exact ⟨rfl, rfl⟩); clear hfill; w_top off)
  (have hc9 := hc); unfold Six at hc9; unfold Cl; intros; rename_i hret; refine wpAny_call ?_; k_dflt cell_enter; k_steps
  all_goals (first | exact ret_eq (t := 0) hret rfl (by assumption) (by assumption) (fun p hp => hp) | exact ret_eq (t := 0) hret (congrArg Value.bool (decide_eq_true (by omega))) (by assumption) (by assumption) (fun p hp => hp) | exact ret_eq (t := 0) hret (congrArg Value.bool (decide_eq_false (by omega))) (by assumption) (by assumption) (fun p hp => hp) | (exfalso; omega))
local macro_rules | `(tactic| walk_at "call ref") => `(tactic| (k_here; (with_reducible show wpAny _ _ (call (Value.ref 63) [Value.str _ _]) _ _ _); k_dflt (refine' Cl.use (islower_c _ _ _ _ _ _ _ (by assumption)) ?k1 ?k2 ?k3 ?k4 ?k5 ?kK ?kd ?ku ?_; (case k1 => k_asm); (case k2 => k_asm); (case k3 => k_asm); (case k4 => k_asm); (case k5 => k_asm); (case kK => first | exact rfl | assumption); (case kd => ktr_room); (case ku => ktr_units); (intro t9 h9 tk9 F9 N9; (try dsimp only); (try k_fold)))))
theorem isdigit_c (w mean mg mb news) (c : Nat) (t : Tok) (hc : Six c) : Cl 2 w mean mg mb 49 news [.str ⟨#[c]⟩ t] (fun t => .bool false) := by
  ((have hfill : PySem.Challenge.rw_mj0142_01 = PySem.Challenge.rw_mj0142_01 ∧ Mine.hd.heap_39 = Mine.hd.heap_39 := by k_fill; exact ⟨rfl, rfl⟩); clear hfill; w_top off)
  (have hc9 := hc); unfold Six at hc9; unfold Cl; intros; rename_i hret; refine wpAny_call ?_; k_dflt cell_enter; k_steps
  all_goals (first | exact ret_eq (t := 0) hret rfl (by assumption) (by assumption) (fun p hp => hp) | exact ret_eq (t := 0) hret (congrArg Value.bool (decide_eq_true (by omega))) (by assumption) (by assumption) (fun p hp => hp) | exact ret_eq (t := 0) hret (congrArg Value.bool (decide_eq_false (by omega))) (by assumption) (by assumption) (fun p hp => hp) | (exfalso; omega))
local macro_rules | `(tactic| walk_at "call ref") => `(tactic| (k_here; (with_reducible show wpAny _ _ (call (Value.ref 49) [Value.str _ _]) _ _ _); k_dflt (refine' Cl.use (isdigit_c _ _ _ _ _ _ _ (by assumption)) ?k1 ?k2 ?k3 ?k4 ?k5 ?kK ?kd ?ku ?_; (case k1 => k_asm); (case k2 => k_asm); (case k3 => k_asm); (case k4 => k_asm); (case k5 => k_asm); (case kK => first | exact rfl | assumption); (case kd => ktr_room); (case ku => ktr_units); (intro t9 h9 tk9 F9 N9; (try dsimp only); (try k_fold)))))
theorem isprint_c (w mean mg mb news) (c : Nat) (t : Tok) (hc : Six c) : Cl 2 w mean mg mb 70 news [.int (c : Int) t] (fun t => .bool true) := by
  ((have hfill : PySem.Challenge.rw_mj0142_01 = PySem.Challenge.rw_mj0142_01 ∧ Mine.hd.heap_39 = Mine.hd.heap_39 := by k_fill; exact ⟨rfl, rfl⟩); clear hfill; w_top off)
  (have hc9 := hc); unfold Six at hc9; unfold Cl; intros; rename_i hret; refine wpAny_call ?_; k_dflt cell_enter; k_steps
  all_goals (first | exact ret_eq (t := 0) hret rfl (by assumption) (by assumption) (fun p hp => hp) | exact ret_eq (t := 0) hret (congrArg Value.bool (decide_eq_true (by omega))) (by assumption) (by assumption) (fun p hp => hp) | exact ret_eq (t := 0) hret (congrArg Value.bool (decide_eq_false (by omega))) (by assumption) (by assumption) (fun p hp => hp) | (exfalso; omega))
local macro_rules | `(tactic| walk_at "call ref") => `(tactic| (k_here; (with_reducible show wpAny _ _ (call (Value.ref 70) [Value.int _ _]) _ _ _); k_dflt (refine' Cl.use (isprint_c _ _ _ _ _ _ _ (by assumption)) ?k1 ?k2 ?k3 ?k4 ?k5 ?kK ?kd ?ku ?_; (case k1 => k_asm); (case k2 => k_asm); (case k3 => k_asm); (case k4 => k_asm); (case k5 => k_asm); (case kK => first | exact rfl | assumption); (case kd => ktr_room); (case ku => ktr_units); (intro t9 h9 tk9 F9 N9; (try dsimp only); (try k_fold)))))
theorem isalpha_c (w mean mg mb news) (c : Nat) (t : Tok) (hc : Six c) : Cl 3 w mean mg mb 42 news [.str ⟨#[c]⟩ t] (fun t => .bool false) := by
  ((have hfill : PySem.Challenge.rw_mj0142_01 = PySem.Challenge.rw_mj0142_01 ∧ Mine.hd.heap_39 = Mine.hd.heap_39 := by k_fill; exact ⟨rfl, rfl⟩); clear hfill; w_top off)
  (have hc9 := hc); unfold Six at hc9; unfold Cl; intros; rename_i hret; refine wpAny_call ?_; k_dflt cell_enter; k_steps
  all_goals (first | exact ret_eq (t := 0) hret rfl (by assumption) (by assumption) (fun p hp => hp) | exact ret_eq (t := 0) hret (congrArg Value.bool (decide_eq_true (by omega))) (by assumption) (by assumption) (fun p hp => hp) | exact ret_eq (t := 0) hret (congrArg Value.bool (decide_eq_false (by omega))) (by assumption) (by assumption) (fun p hp => hp) | (exfalso; omega))
local macro_rules | `(tactic| walk_at "call ref") => `(tactic| (k_here; (with_reducible show wpAny _ _ (call (Value.ref 42) [Value.str _ _]) _ _ _); k_dflt (refine' Cl.use (isalpha_c _ _ _ _ _ _ _ (by assumption)) ?k1 ?k2 ?k3 ?k4 ?k5 ?kK ?kd ?ku ?_; (case k1 => k_asm); (case k2 => k_asm); (case k3 => k_asm); (case k4 => k_asm); (case k5 => k_asm); (case kK => first | exact rfl | assumption); (case kd => ktr_room); (case ku => ktr_units); (intro t9 h9 tk9 F9 N9; (try dsimp only); (try k_fold)))))
theorem isalnum_c (w mean mg mb news) (c : Nat) (t : Tok) (hc : Six c) : Cl 4 w mean mg mb 35 news [.str ⟨#[c]⟩ t] (fun t => .bool false) := by
  ((have hfill : PySem.Challenge.rw_mj0142_01 = PySem.Challenge.rw_mj0142_01 ∧ Mine.hd.heap_39 = Mine.hd.heap_39 := by k_fill; exact ⟨rfl, rfl⟩); clear hfill; w_top off)
  (have hc9 := hc); unfold Six at hc9; unfold Cl; intros; rename_i hret; refine wpAny_call ?_; k_dflt cell_enter; k_steps
  all_goals (first | exact ret_eq (t := 0) hret rfl (by assumption) (by assumption) (fun p hp => hp) | exact ret_eq (t := 0) hret (congrArg Value.bool (decide_eq_true (by omega))) (by assumption) (by assumption) (fun p hp => hp) | exact ret_eq (t := 0) hret (congrArg Value.bool (decide_eq_false (by omega))) (by assumption) (by assumption) (fun p hp => hp) | (exfalso; omega))
local macro_rules | `(tactic| walk_at "call ref") => `(tactic| (k_here; (with_reducible show wpAny _ _ (call (Value.ref 35) [Value.str _ _]) _ _ _); k_dflt (refine' Cl.use (isalnum_c _ _ _ _ _ _ _ (by assumption)) ?k1 ?k2 ?k3 ?k4 ?k5 ?kK ?kd ?ku ?_; (case k1 => k_asm); (case k2 => k_asm); (case k3 => k_asm); (case k4 => k_asm); (case k5 => k_asm); (case kK => first | exact rfl | assumption); (case kd => ktr_room); (case ku => ktr_units); (intro t9 h9 tk9 F9 N9; (try dsimp only); (try k_fold)))))
theorem ispunct_c (w mean mg mb news) (c : Nat) (t : Tok) (hc : Six c) : Cl 5 w mean mg mb 77 news [.str ⟨#[c]⟩ t] (fun t => .bool true) := by
  ((have hfill : PySem.Challenge.rw_mj0142_01 = PySem.Challenge.rw_mj0142_01 ∧ Mine.hd.heap_39 = Mine.hd.heap_39 := by k_fill; exact ⟨rfl, rfl⟩); clear hfill; w_top off)
  (have hc9 := hc); unfold Six at hc9; unfold Cl; intros; rename_i hret; refine wpAny_call ?_; k_dflt cell_enter; k_steps
  all_goals (first | exact ret_eq (t := 0) hret rfl (by assumption) (by assumption) (fun p hp => hp) | exact ret_eq (t := 0) hret (congrArg Value.bool (decide_eq_true (by omega))) (by assumption) (by assumption) (fun p hp => hp) | exact ret_eq (t := 0) hret (congrArg Value.bool (decide_eq_false (by omega))) (by assumption) (by assumption) (fun p hp => hp) | (exfalso; omega))
/-! C3 -/
local macro_rules | `(tactic| walk_at "call ref") => `(tactic| (k_here; (with_reducible show wpAny _ _ (call (Value.ref 28) [Value.str _ _]) _ _ _); k_dflt (refine' Cl.use (ctoi_str _ _ _ _ _ _ _) ?k1 ?k2 ?k3 ?k4 ?k5 ?kK ?kd ?ku ?_; (case k1 => k_asm); (case k2 => k_asm); (case k3 => k_asm); (case k4 => k_asm); (case k5 => k_asm); (case kK => first | exact rfl | assumption); (case kd => ktr_room); (case ku => ktr_units); (intro t9 h9 tk9 F9 N9; (try dsimp only); (try k_fold)))))
local macro_rules | `(tactic| walk_at "call ref") => `(tactic| (k_here; (with_reducible show wpAny _ _ (call (Value.ref 28) [Value.int _ _]) _ _ _); k_dflt (refine' Cl.use (ctoi_int _ _ _ _ _ _ _) ?k1 ?k2 ?k3 ?k4 ?k5 ?kK ?kd ?ku ?_; (case k1 => k_asm); (case k2 => k_asm); (case k3 => k_asm); (case k4 => k_asm); (case k5 => k_asm); (case kK => first | exact rfl | assumption); (case kd => ktr_room); (case ku => ktr_units); (intro t9 h9 tk9 F9 N9; (try dsimp only); (try k_fold)))))
theorem or_six {c : Nat} (hc : Six c) : Builtin.bitOr (c : Int) 128 = ((c + 128 : Nat) : Int) := by
  rcases hc with rfl | rfl | rfl | rfl | rfl | rfl <;> decide +kernel
theorem and127_six {c d : Nat} (hc : Six c) (hd : d = c + 128) : Builtin.bitAnd (d : Int) 127 = (c : Int) := by
  subst hd
  rcases hc with rfl | rfl | rfl | rfl | rfl | rfl <;> decide +kernel
theorem and128_six {c d : Nat} (hc : Six c) (hd : d = c + 128) : Builtin.bitAnd (d : Int) 128 = 128 := by
  subst hd
  rcases hc with rfl | rfl | rfl | rfl | rfl | rfl <;> decide +kernel
theorem chr_six {prog : Program} {w : World} {A : Around} {E : Value → Shared → Prop} {s : Shared} {c : Nat} {t : Tok} {Q : Value → Shared → Prop} (hc : Six c) (h : Q (.str ⟨#[c + 128]⟩ s.toks) { s with toks := s.toks + 1 }) : wpAny (model prog w) A (call (.builtin "chr") [.int (Builtin.bitOr (c : Int) 128) t]) Q E s := by
  rw [or_six hc]
  unfold Six at hc
  refine chr_of_range (by omega) (by omega) ?_
  exact h
theorem chr_and {prog : Program} {w : World} {A : Around} {E : Value → Shared → Prop} {s : Shared} {c d : Nat} {t : Tok} {Q : Value → Shared → Prop} (hc : Six c) (hd : d = c + 128) (h : Q (.str ⟨#[c]⟩ s.toks) { s with toks := s.toks + 1 }) : wpAny (model prog w) A (call (.builtin "chr") [.int (Builtin.bitAnd (d : Int) 127) t]) Q E s := by
  rw [and127_six hc hd]
  unfold Six at hc
  refine chr_of_range (by omega) (by omega) ?_
  exact h
theorem isprint_d (w mean mg mb news) (c d : Nat) (t : Tok) (hc : Six c) (hd : d = c + 128) : Cl 2 w mean mg mb 70 news [.int (Builtin.bitAnd (d : Int) 127) t] (fun _ => .bool true) := by
  rw [and127_six hc hd]
  exact isprint_c w mean mg mb news c t hc
local macro_rules | `(tactic| walk_at "call builtin:chr") => `(tactic| (k_here; (with_reducible show wpAny _ _ (call (Value.builtin "chr") [Value.int (Builtin.bitOr _ 128) _]) _ _ _); (refine chr_six (by assumption) ?_)))
local macro_rules | `(tactic| walk_at "call builtin:chr") => `(tactic| (k_here; (with_reducible show wpAny _ _ (call (Value.builtin "chr") [Value.int (Builtin.bitAnd _ 127) _]) _ _ _); (refine chr_and (by assumption) (by assumption) ?_)))
local macro_rules | `(tactic| walk_at "call ref") => `(tactic| (k_here; (with_reducible show wpAny _ _ (call (Value.ref 70) [Value.int (Builtin.bitAnd _ 127) _]) _ _ _); k_dflt (refine' Cl.use (isprint_d _ _ _ _ _ _ _ _ (by assumption) (by assumption)) ?k1 ?k2 ?k3 ?k4 ?k5 ?kK ?kd ?ku ?_; (case k1 => k_asm); (case k2 => k_asm); (case k3 => k_asm); (case k4 => k_asm); (case k5 => k_asm); (case kK => first | exact rfl | assumption); (case kd => ktr_room); (case ku => ktr_units); (intro t9 h9 tk9 F9 N9; (try dsimp only); (try k_fold)))))
theorem alt_c (w mean mg mb news) (c : Nat) (t : Tok) (hc : Six c) : Cl 2 w mean mg mb 91 news [.str ⟨#[c]⟩ t] (fun t => .str ⟨#[c + 128]⟩ t) := by
  ((have hfill : PySem.Challenge.rw_mj0142_01 = PySem.Challenge.rw_mj0142_01 ∧ Mine.hd.heap_39 = Mine.hd.heap_39 := by k_fill; exact ⟨rfl, rfl⟩); clear hfill; w_top off)
  (have hc9 := hc); unfold Six at hc9; unfold Cl; intros; rename_i hret; refine wpAny_call ?_; k_dflt cell_enter; k_steps
  all_goals (first | exact ret_eq hret rfl (by assumption) (by assumption) (fun p hp => hp) | exact ret_eq hret (congrArg Value.bool (decide_eq_true (by omega))) (by assumption) (by assumption) (fun p hp => hp) | exact ret_eq hret (congrArg Value.bool (decide_eq_false (by omega))) (by assumption) (by assumption) (fun p hp => hp) | (exfalso; omega))
theorem unctrl_d (w mean mg mb news) (c d : Nat) (t : Tok) (hc : Six c) (hd : d = c + 128) : Cl 3 w mean mg mb 98 news [.str ⟨#[d]⟩ t] (fun t => .str ⟨#[33, c]⟩ t) := by
  ((have hfill : PySem.Challenge.rw_mj0142_01 = PySem.Challenge.rw_mj0142_01 ∧ Mine.hd.heap_39 = Mine.hd.heap_39 := by k_fill; exact ⟨rfl, rfl⟩); clear hfill; w_top off)
  (have hc9 := hc); unfold Six at hc9; (have h127 := and127_six hc hd); (have h128 := and128_six hc hd); unfold Cl; intros; rename_i hret; refine wpAny_call ?_; k_dflt cell_enter; k_steps
  all_goals (first | exact ret_eq hret rfl (by assumption) (by assumption) (fun p hp => hp) | exact ret_eq hret (congrArg Value.bool (decide_eq_true (by omega))) (by assumption) (by assumption) (fun p hp => hp) | exact ret_eq hret (congrArg Value.bool (decide_eq_false (by omega))) (by assumption) (by assumption) (fun p hp => hp) | (exfalso; omega))
/-! C4 -/
theorem join_cut {prog : Program} {w : World} {A : Around} {E : Value → Shared → Prop} {s : Shared} {x y : Str} {t : Tok} {Q : Value → Shared → Prop} {D : Addr} {l : List (Str × Tok)} (hl : s.heap.IsList D (strValues l).toArray) (ht : l.map (·.1) = Txt.split x y) (hy : 1 ≤ y.length) (hx : x.length ≤ 64)
    (h : ∀ t' k, (cut x y).length ≤ 64 → Q (.str (cut x y) t') { s with toks := k }) : wpAny (model prog w) A (call (.builtin "str.join") [.str (Str.ofString "") t, .ref D]) Q E s :=
  SC.join hl ht (joinOk_split hy hx) fun t' k => h t' k (Nat.le_trans (cut_le x y) hx)
theorem slice_two {prog : Program} {w : World} {A : Around} {E : Value → Shared → Prop} {s : Shared} {h₀ : Heap} {L : Addr} {m : Str → Option Value} {news : List (Addr × Obj)} {value slice : PySem.Expr} {t : Addr} {v1 v2 : Value} {r : List Value} {u : Tok} {Q : Value → Shared → Prop}
    (F : Fr h₀ L s.heap m) (N : News h₀ L s.heap news) (hm : (t, ({ cls := .type "tuple", data := .seq (v1 :: v2 :: r).toArray } : Obj)) ∈ news) (hr : r.length ≤ 100)
    (h : ∀ D h', Fr h₀ L h' m → News h₀ L h' ((D, { cls := .type "tuple", data := .seq r.toArray }) :: news) → (∀ p ∈ news, p.1 < D) → Q (.ref D) { s with heap := h' })
    (hs : subscripted slice false (.ref t) (.ref s.heap.objs.size) = operate [.ref s.heap.objs.size, .ref t] (getItem (.ref t) (.ref s.heap.objs.size)))
    (hg : ∀ r, letTemporaryGo value (.ref t) r = pure ()) :
    wpAny (model prog w) A (subscriptTail value slice (.ref t) (.ref s.heap.objs.size)) Q E { s with heap := s.heap.push { cls := .type "slice", data := .fields #[.int 2 u, .none, .none] } } :=
  slice_tuple_from (a := 2) F N (News.isTup N hm) (by decide) (by simp) (fun h' F' N' => h _ h' F' N' fun p hp => Nat.lt_succ_of_lt (Heap.lt_size (N p hp).1)) hs hg (by rw [PySem.sizeLine_eq, List.size_toArray, List.length_cons, List.length_cons]; omega)
local macro_rules | `(tactic| walk_at "subscriptTail Name Slice ref ref") => `(tactic| (k_here; (with_reducible show wpAny _ _ (subscriptTail _ (PySem.Expr.Slice _ none none _) (Value.ref _) (Value.ref _)) _ _ _); k_dflt (refine' slice_two ?F ?N ?l ?r ?_ ?s ?t; (case F => k_asm); (case N => k_asm); (case l => k_mem); (case r => exact Nat.le_of_ble_eq_true rfl); (case s => with_unfolding_all rfl); (case t => (intro _; with_unfolding_all rfl))); intro D' h' F' N' l1'; (try k_lt l1')))
local macro_rules | `(tactic| walk_at "exec While") => `(tactic| (k_here; k_dflt (refine whl_start 100 ?_)))
local macro_rules | `(tactic| walk_at "call builtin:str.join") => `(tactic| (k_here; (with_reducible show wpAny _ _ (call (Value.builtin "str.join") [Value.str _ _, Value.ref _]) _ _ _); (with_reducible rename List.map _ _ = Txt.split _ _ => hS'); (refine join_cut (by assumption) hS' (by decide +kernel) (by assumption) ?_); clear hS'; intro t' k' hl'))
theorem replace_c (w mean mg mb news) (x : Str) (t t1 t2 t3 t4 t5 t6 : Tok) (hx : x.length ≤ 64) : Cl 1 w mean mg mb 21 news [.str x t, .str (Str.ofString "()") t1, .str (Str.ofString "") t2, .str (Str.ofString "[]") t3, .str (Str.ofString "") t4, .str (Str.ofString "{}") t5, .str (Str.ofString "") t6] (fun t => .str (R3 x) t) := by
  ((have hfill : PySem.Challenge.rw_mj0142_01 = PySem.Challenge.rw_mj0142_01 ∧ Mine.hd.heap_39 = Mine.hd.heap_39 := by k_fill; exact ⟨rfl, rfl⟩); clear hfill; w_top off)
  unfold Cl; intros; rename_i hret; refine wpAny_call ?_
  k_dflt (refine' kp_rest ?k1 ?k2 ?k3 ?k4 ?k5 ?kA ?kF ?kK ?k6 ?k7 ?k8 ?kV ?kP ?kG ?kB ?_ ?c2 ?c3 ?c4 ?c5; (case kA => exact rfl); (case kF => exact rfl); (case kK => assumption); (case k1 => k_asm); (case k2 => k_asm); (case k3 => k_asm); (case k4 => k_asm); (case k5 => k_asm); (case k6 => k_is); (case k7 => k_is); (case k8 => ktr_room); (case kV => kl_lit); (case kP => exact rfl); (case kG => exact fun _ => rfl); (case kB => exact fun _ => locs rfl); (case c5 => decide); (case c2 => exact rfl); (case c3 => exact rfl); (case c4 => exact rfl); k_whole; intro D' g' L' h' l1 FG' F' N' B' X' T'; (try k_lt l1); (try dsimp only); (try k_lift B'); (try k_fold))
  k_steps
  all_goals (first | exact ret_eq hret rfl (by assumption) (by assumption) (fun p hp => by repeat (first | assumption | refine List.Mem.tail _ ?_)))
/-! C5 -/
def Inv5 (x0 before word : Str) : Prop := norm word.cps.toList = norm x0.cps.toList ∧ word.length ≤ 64 ∧ (before = word → norm word.cps.toList = word.cps.toList)
def m5 (before word : Str) : Nat := if before = word then 0 else word.length + 1
theorem inv5_start {x0 : Str} (hx : x0.length ≤ 64) : Inv5 x0 (x0 ++ Str.ofString ".") x0 := by
  refine ⟨rfl, hx, fun e => ?_⟩
  have h := congrArg Str.length e
  rw [Str.length_append] at h
  have : (Str.ofString ".").length = 1 := by decide +kernel
  omega
theorem inv5_turn {x0 before word : Str} (h : Inv5 x0 before word) : Inv5 x0 word (R3 word) := by
  obtain ⟨h1, h2, h3⟩ := h
  refine ⟨(norm_R3 word).trans h1, Nat.le_trans (R3_le word) h2, fun e => ?_⟩
  rw [← e]
  exact (R3_fix (by rw [← e])).2
theorem less5 {before word : Str} (hne' : (before != word) = true) : m5 word (R3 word) < m5 before word := by
  have hne : before ≠ word := bne_iff_ne.mp hne'
  unfold m5
  rw [if_neg hne]
  split
  · exact Nat.succ_pos _
  · rename_i h
    have h1 := R3_le word
    have h2 : (R3 word).length ≠ word.length := fun e => h (R3_fix e).1.symm
    omega
theorem fin5 {x0 before word : Str} (h : Inv5 x0 before word) (e' : (before != word) = false) : word = normS x0 := by
  have e : before = word := by simpa using e'
  obtain ⟨h1, h2, h3⟩ := h
  unfold normS
  rw [← h1, h3 e]
theorem inv5_len {x0 before word : Str} (h : Inv5 x0 before word) : word.length ≤ 64 := h.2.1
local macro_rules | `(tactic| walk_at "exec While Compare cons nil") => `(tactic| (k_while_given ["word!"] (fun x0 script before word => Inv5 x0 before word) (fun x0 script before word => m5 before word) "before" "word"))
local macro_rules | `(tactic| kst_p) => `(tactic| ((try dsimp only); first | exact inv5_start (by assumption) | exact inv5_turn (by assumption)))
local macro_rules | `(tactic| ksw_less) => `(tactic| ((try dsimp only); exact less5 (by assumption)))
local macro_rules | `(tactic| walk_at "call ref") => `(tactic| (k_here; (with_reducible show wpAny _ _ (call (Value.ref 21) [_, _, _, _, _, _, _]) _ _ _); k_dflt (refine' Cl.use (replace_c _ _ _ _ _ _ _ _ _ _ _ _ _ (inv5_len (by assumption))) ?k1 ?k2 ?k3 ?k4 ?k5 ?kK ?kd ?ku ?_; (case k1 => k_asm); (case k2 => k_asm); (case k3 => k_asm); (case k4 => k_asm); (case k5 => k_asm); (case kK => first | exact rfl | assumption); (case kd => ktr_room); (case ku => ktr_units); (intro t9 h9 tk9 F9 N9; (try dsimp only); (try k_fold)))))
theorem struck_c (w mean mg mb news) (x : Str) (t : Tok) (hx : x.length ≤ 64) : Cl 2 w mean mg mb 115 news [.str x t] (fun t => .str (normS x) t) := by
  ((have hfill : PySem.Challenge.rw_mj0142_01 = PySem.Challenge.rw_mj0142_01 ∧ Mine.hd.heap_39 = Mine.hd.heap_39 := by k_fill; exact ⟨rfl, rfl⟩); clear hfill; w_top off)
  unfold Cl; intros; rename_i hret; refine wpAny_call ?_; k_dflt cell_enter; k_steps
  all_goals exact ret_eq hret (congrArg (Value.str · _) (fin5 (by assumption) (by assumption))) (by assumption) (by assumption) (fun p hp => hp)
/-! L2 -/
local macro_rules | `(tactic| walk_at "CompEnd") => `(tactic| (k_here; (with_reducible show LCg.CompEnd _ _ _ _ _ _ _ _ _ _ _ _ _ _); (rename News _ _ _ _ => nE'); (rename LCg.Off3 _ _ _ _ => oE'); (refine LCg.CompEnd.intro (by assumption) nE' _ (fun p hp => hp) oE' (by first | exact trivial | exact .inr ⟨_, by k_mem, rfl, _, rfl⟩) ?_); (try dsimp only); (first | exact ⟨rfl, _, rfl⟩ | skip)))

/-! L3 -/
def signOf (x : Int) : Str := if x.fmod 9 < 8 then Txt.item (Str.ofString "()[]{}<>") (x.fmod 9) else ⟨#[((x.fdiv 9).fmod 128).toNat]⟩
theorem signOf_len (x : Int) : (signOf x).length = 1 := by
  unfold signOf
  split <;> rfl
local macro_rules | `(tactic| walk_at "CompSrc") => `(tactic| (k_here; (with_reducible show LCg.CompSrc _ _ _ _ _ _ _ (PySem.Expr.IfExp _ _ _ _) (PySem.Str.ofString "x") _ _ _ _ _); k_dflt (refine LCg.CompSrc.ledger (by rfl) (by k_asm) (by k_asm) (by k_mem) (by kcf_size) ?_; intro g'; (refine' kct_list signOf (by first | assumption | l_ints) (fun k' t' I' oI' C' oC' D' m' ys' h' tk' E' hk' hC' hx' F' N' off' ne' hMark' => ?_) ?_); kcf_last)))
local macro_rules | `(tactic| walk_at "KCtEl") => `(tactic| (kpf_tidy; (refine kct_el ?kce (by with_unfolding_all rfl) (by with_unfolding_all rfl)); (case kce => (unfold signOf; first | exact if_pos (by assumption) | exact if_neg (by assumption) | (simp only [decide_eq_true_eq, decide_eq_false_iff_not] at *; first | exact if_pos (by assumption) | exact if_neg (by assumption)))))) 
local macro_rules | `(tactic| walk_at "call builtin:str.join") => `(tactic| (k_here; (with_reducible show wpAny _ _ (call (Value.builtin "str.join") [Value.str _ _, Value.ref _]) _ _ _); (with_reducible rename CarriedAll _ (List.map (fun k => PyData.str (signOf k)) _) => ktC); (refine KT.join_1 (by first | assumption | is_list | exact News.isList (by k_asm) (by k_mem)) ktC (fun a _ => signOf_len a) (by first | omega | kt_fact) ?_; intro _ _ ktE)))
/-! L4 -/
theorem len_text {T J : Str} {l : List Int} (hT : T = Str.ofString "[a(b)]{(]<})" ++ J) (hJ : J.length = (List.take 20 l).length) : 12 ≤ T.length ∧ T.length ≤ 32 := by
  subst hT
  have h1 : (Str.ofString "[a(b)]{(]<})").length = 12 := by decide +kernel
  have h2 : (List.take 20 l).length ≤ 20 := List.length_take_le 20 l
  rw [Str.length_append, h1]
  omega
local macro_rules | `(tactic| walk_at "storeName") => `(tactic| (k_here; (with_reducible show wpAny _ _ (storeName _ (Str.ofString "text") (Value.str (_ ++ _) _)) _ _ _); (generalize hT : Str.ofString "[a(b)]{(]<})" ++ Txt.join _ (List.map signOf _) = T); (have hTl := len_text hT.symm (by assumption)); clear hT; walk_at "storeName"))
/-! L5 -/
structure TextIs (T : Str) : Prop where
  lo : 12 ≤ T.length
  hi : T.length ≤ 32
theorem prune {h₀ h : Heap} {L : Addr} {a b c1 c2 c3 c4 : Addr × Obj} {d : List (Addr × Obj)} (N : News h₀ L h (a :: b :: c1 :: c2 :: c3 :: c4 :: d)) : News h₀ L h (a :: b :: d) := fun p hp => N p (by
  rcases List.mem_cons.mp hp with rfl | hp
  · exact .head _
  rcases List.mem_cons.mp hp with rfl | hp
  · exact .tail _ (.head _)
  · exact .tail _ (.tail _ (.tail _ (.tail _ (.tail _ (.tail _ hp))))))
local macro_rules | `(tactic| walk_at "exec For Name Call cons nil") => `(tactic| (k_here; (rename Fr _ _ _ _ => lF'); (rename News _ _ _ _ => lN'); (have pN' := prune lN'); clear lN'; (rename (12 ≤ _ ∧ _ ≤ 32) => hTl'); (have hT' := TextIs.mk hTl'.1 hTl'.2); (repeat (first | ((with_reducible rename IntsAre _ (List.take _ _) => jk'); clear jk') | ((with_reducible rename IntsAre _ (List.map _ _) => jk'); clear jk') | ((with_reducible rename List.length (List.take _ _) = _ => jk'); clear jk') | ((with_reducible rename List.length (List.take _ _) ≤ _ => jk'); clear jk') | ((with_reducible rename _ = List.length (List.take _ _) => jk'); clear jk') | ((with_reducible rename _ = List.length (List.map _ _) => jk'); clear jk') | ((with_reducible rename CarriedAll _ _ => jk'); clear jk') | ((with_reducible rename Str.length (Txt.join _ _) = _ => jk'); clear jk') | ((with_reducible rename (_ + Str.length (Txt.join _ _) ≤ _ ∧ _) => jk'); clear jk'))); (with_unfolding_all refine' For_invVF lF' ?k1 ?k2 ?_; (case k1 => exact rfl); (case k2 => exact rfl); k_whole)))
/-! L6 -/
theorem loop_k {prog : Program} {w : World} {A : Around} {E : Value → Shared → Prop} {s : Shared} {env : Env} {h₀ : Heap} {body : List Stmt} {Q : Flow → Shared → Prop} {r l1 l2 : Addr} {rest : List (Addr × Obj)} {t₀ u₀ v₀ : Tok} {m₀ : Str → Option Value} {tk0 tb0 : Tok} {T : Str}
    (hT : TextIs T) (hh : A.handled = none) (hr : IsRange s.heap r 0 (T.length : Int) 1 t₀ u₀ v₀) (F : Fr h₀ env.locals s.heap m₀) (N : News h₀ env.locals s.heap ((l1, listOf #[] 0) :: (l2, listOf #[] 0) :: rest))
    (hk : m₀ (Str.ofString "kept") = some (.str (Str.ofString "") tk0)) (hb : m₀ (Str.ofString "bad") = some (.int (T.length : Int) tb0))
    (turn : ∀ (vM : List Value) (M : List Int) (nM : Nat) (vW : List Value) (W : List Int) (nW : Nat) (kept : Str) (tk : Nat) (bad : Int) (tb : Nat) (pre : List Int) (t : Tok) (u : Str → Option Value) (h : Heap) (tk' : Nat) (own : List (Addr × Obj)),
      pre.length < T.length → OwnOff own (l1 :: l2 :: rest.map (·.1)) → IntsAre vM M → IntsAre vW W → Inv T pre.length W M kept bad →
      Fr h₀ env.locals h (fun y => if y = (Str.ofString "k") then some (.int (pre.length : Int) t) else if y = Str.ofString "kept" then some (.str kept tk) else if y = Str.ofString "bad" then some (.int bad tb) else if [Str.ofString "number", Str.ofString "left"].contains y then u y else m₀ y) →
      News h₀ env.locals h ((l1, listOf vM.toArray nM) :: (l2, listOf vW.toArray nW) :: (rest ++ own)) → KstMark →
      wpAny (model prog w) A (execs body env) (InvPostN h₀ env.locals (KstS (fun c : (List Value × List Int × Nat × List Value × List Int × Nat × Str × Nat × Int × Nat) => (l1, listOf c.1.toArray c.2.2.1) :: (l2, listOf c.2.2.2.1.toArray c.2.2.2.2.2.1) :: rest) (fun c : (List Value × List Int × Nat × List Value × List Int × Nat × Str × Nat × Int × Nat) => [(Str.ofString "kept", Value.str c.2.2.2.2.2.2.1 c.2.2.2.2.2.2.2.1), (Str.ofString "bad", Value.int c.2.2.2.2.2.2.2.2.1 c.2.2.2.2.2.2.2.2.2)]) (fun c : (List Value × List Int × Nat × List Value × List Int × Nat × Str × Nat × Int × Nat) => IntsAre c.1 c.2.1 ∧ IntsAre c.2.2.2.1 c.2.2.2.2.1) (Str.ofString "k") [Str.ofString "number", Str.ofString "left"] m₀ (fun (pre : List Int) (c : (List Value × List Int × Nat × List Value × List Int × Nat × Str × Nat × Int × Nat)) => Inv T pre.length c.2.2.2.2.1 c.2.1 c.2.2.2.2.2.2.1 c.2.2.2.2.2.2.2.2.1) (pre ++ [(pre.length : Int)])) own (l1 :: l2 :: rest.map (·.1)) { s with heap := h, toks := tk' } Q) E { s with heap := h, toks := tk' })
    (done : ∀ (vM : List Value) (M : List Int) (nM : Nat) (vW : List Value) (W : List Int) (nW : Nat) (kept : Str) (tk : Nat) (bad : Int) (tb : Nat) (u : Str → Option Value) (h : Heap) (tk' : Nat), IntsAre vM M → IntsAre vW W → Inv T T.length W M kept bad →
      Fr h₀ env.locals h (fun y => if y = (Str.ofString "k") then u y else if y = Str.ofString "kept" then some (.str kept tk) else if y = Str.ofString "bad" then some (.int bad tb) else if [Str.ofString "number", Str.ofString "left"].contains y then u y else m₀ y) →
      News h₀ env.locals h ((l1, listOf vM.toArray nM) :: (l2, listOf vW.toArray nW) :: rest) → KstMark → Q .next { s with heap := h, toks := tk' }) :
    wpAny (model prog w) A (pyIter (.ref r)) (fun it s₂ => LoopAtV prog w A h₀ env (Str.ofString "k") body Q E it s₂) E s := by
  have hhi := hT.hi
  refine kst_range (fun c : (List Value × List Int × Nat × List Value × List Int × Nat × Str × Nat × Int × Nat) => (l1, listOf c.1.toArray c.2.2.1) :: (l2, listOf c.2.2.2.1.toArray c.2.2.2.2.2.1) :: rest) (fun c : (List Value × List Int × Nat × List Value × List Int × Nat × Str × Nat × Int × Nat) => [(Str.ofString "kept", Value.str c.2.2.2.2.2.2.1 c.2.2.2.2.2.2.2.1), (Str.ofString "bad", Value.int c.2.2.2.2.2.2.2.2.1 c.2.2.2.2.2.2.2.2.2)]) (fun c : (List Value × List Int × Nat × List Value × List Int × Nat × Str × Nat × Int × Nat) => IntsAre c.1 c.2.1 ∧ IntsAre c.2.2.2.1 c.2.2.2.2.1) [Str.ofString "number", Str.ofString "left"] (fun (pre : List Int) (c : (List Value × List Int × Nat × List Value × List Int × Nat × Str × Nat × Int × Nat)) => Inv T pre.length c.2.2.2.2.1 c.2.1 c.2.2.2.2.2.2.1 c.2.2.2.2.2.2.2.2.1) ⟨[], [], 0, [], [], 0, Str.ofString "", tk0, (T.length : Int), tb0⟩ hh hr (small_one (by omega) (by omega) (by omega) (by omega)) (n := T.length) (by rw [rangeSize_nat]; simp) F N ⟨.nil, .nil⟩ ?_ (inv_start T) ?_ ?_
  · intro p hp
    rcases List.mem_cons.mp hp with rfl | hp
    · exact hk
    rcases List.mem_cons.mp hp with rfl | hp
    · exact hb
    · exact (nomatch hp)
  · rintro ⟨vM, M, nM, vW, W, nW, kept, tk, bad, tb⟩ pre k t u h tk' own hk' hlt hoff ⟨hM, hW⟩ hinv F₁ N₁
    have e : k = (pre.length : Int) := by omega
    subst e
    exact turn vM M nM vW W nW kept tk bad tb pre t u h tk' own hlt hoff hM hW hinv F₁ N₁ kstMark
  · rintro ⟨vM, M, nM, vW, W, nW, kept, tk, bad, tb⟩ u h tk' ⟨hM, hW⟩ hinv F₁ N₁
    refine done vM M nM vW W nW kept tk bad tb u h tk' hM hW ?_ F₁ N₁ kstMark
    have e : (rangeKs 0 T.length).length = T.length := rangeKs_length _ _
    rw [← e]
    exact hinv
/-! L7 -/
theorem kept_le {T : Str} {n : Nat} {W M : List Int} {kept : Str} {bad : Int} (I : Inv T n W M kept bad) (hT : TextIs T) (hn : n < T.length) : kept.length ≤ 31 ∧ M.length + W.length ≤ 31 ∧ n ≤ 31 := by
  have := I.kl
  have := I.ml
  have := hT.hi
  omega
local macro_rules | `(tactic| walk_at "pyIter ref") => `(tactic| (k_here; (with_reducible show wpAny _ _ (pyIter (Value.ref _)) (fun it s₂ => LoopAtV _ _ _ _ _ _ _ _ _ it s₂) _ _); (rename Fr _ _ _ _ => lF'); (rename News _ _ _ _ => lN'); (rename IsRange _ _ _ _ _ _ _ _ => rgX); (rename TextIs _ => hT'); (with_unfolding_all refine' loop_k hT' (by rfl) rgX lF' lN' (by rfl) (by rfl) (fun vM' M' nM' vW' W' nW' kept' tk0' bad' tb' pre' t' u' h' tk' own' hlt' hoff' hM' hW' hI' F' N' mk' => ?_) (fun vM' M' nM' vW' W' nW' kept' tk0' bad' tb' u' h' tk' hM' hW' hI' F' N' mk' => ?_)); (all_goals clear lF' lN'); (all_goals (try simp only [List.cons_append, List.nil_append] at N')); (all_goals (try simp only [List.map_cons, List.map_nil] at hoff')); (all_goals (try (have hkl' := kept_le hI' hT' hlt'))); (all_goals (have hlM' := IntsAre.length hM')); (all_goals (have hlW' := IntsAre.length hW')); (all_goals (try k_fold))))
/-! L8 -/
local macro_rules | `(tactic| walk_at "call ref") => `(tactic| (k_here; (with_reducible show wpAny _ _ (call (Value.ref 108) [Value.str _ _]) _ _ _); k_dflt (refine' Cl.use (num_claim _ _ _ _ _ _ _) ?k1 ?k2 ?k3 ?k4 ?k5 ?kK ?kd ?ku ?_; (case k1 => k_asm); (case k2 => k_asm); (case k3 => k_asm); (case k4 => k_asm); (case k5 => k_asm); (case kK => first | exact rfl | assumption); (case kd => ktr_room); (case ku => ktr_units); (intro t9 h9 tk9 F9 N9; (try dsimp only); (try k_fold)))))
local macro_rules | `(tactic| walk_at "call ref") => `(tactic| (k_here; (with_reducible show wpAny _ _ (call (Value.ref 77) [Value.str _ _]) _ _ _); k_dflt (refine' Cl.use (ispunct_c _ _ _ _ _ _ _ (num_pos_six (by first | assumption | (simp only [gt_iff_lt] at *; assumption)))) ?k1 ?k2 ?k3 ?k4 ?k5 ?kK ?kd ?ku ?_; (case k1 => k_asm); (case k2 => k_asm); (case k3 => k_asm); (case k4 => k_asm); (case k5 => k_asm); (case kK => first | exact rfl | assumption); (case kd => ktr_room); (case ku => ktr_units); (intro t9 h9 tk9 F9 N9; (try dsimp only); (try k_fold)))))
theorem add_small {prog : Program} {w : World} {A : Around} {E : Value → Shared → Prop} {s : Shared} {x y : Str} {t u : Tok} {Q : Value → Shared → Prop} (h1 : x.length ≤ 40) (h2 : y.length ≤ 20) (h : ∀ t' k, Q (.str (x ++ y) t') { s with toks := k }) : wpAny (model prog w) A (binaryOp .Add (.str x t) (.str y u)) Q E s :=
  add_str h (by rw [PySem.sizeLine_eq]; omega)
local macro_rules | `(tactic| walk_at "binaryOp Add str str") => `(tactic| (k_here; (with_reducible show wpAny _ _ (binaryOp Operator.Add (Value.str _ _) (Value.str _ _)) _ _ _); (refine add_small (by first | omega | decide +kernel) (by first | exact Nat.le_of_ble_eq_true rfl | omega | decide +kernel) ?_); intro t' k'))
theorem item_last {prog : Program} {w : World} {A : Around} {E : Value → Shared → Prop} {s : Shared} {h₀ : Heap} {L : Addr} {news : List (Addr × Obj)} {value slice : PySem.Expr} {a : Addr} {vW : List Value} {W M : List Int} {nn n : Nat} {u : Tok} {Q : Value → Shared → Prop} {T kept : Str} {bad : Int}
    (N : News h₀ L s.heap news) (hm : (a, listOf vW.toArray nn) ∈ news) (hi : IntsAre vW W) (I : Inv T n W M kept bad) (hne : decide (W = []) = false) (h : ∀ t, 0 ≤ W.getLastD 0 → W.getLastD 0 < (n : Int) → Q (.int (W.getLastD 0) t) s)
    (hs : subscripted slice false (.ref a) (.int (-1) u) = operate [.ref a, .int (-1) u] (getItem (.ref a) (.int (-1) u))) (hg : ∀ r, letTemporaryGo value (.ref a) r = pure ()) :
    wpAny (model prog w) A (subscriptTail value slice (.ref a) (.int (-1) u)) Q E s := by
  have hl := hi.length
  have hp := ne_length hne
  obtain ⟨y, t, h1, h2, h3⟩ := kpa_ints hi (by omega)
  obtain ⟨b1, b2⟩ := last_bounds I hne
  subst h2
  refine kim_back (l := vW) N hm rfl rfl (by decide) (by omega) (by decide) ?_ (h t b1 b2) hs hg
  have e : (-1 + (vW.length : Int)).toNat = vW.dropLast.length := by rw [List.length_dropLast]; omega
  rw [e]
  conv => lhs; rw [h1]
  simp
local macro_rules | `(tactic| walk_at "subscriptTail") => `(tactic| (k_here; (with_reducible show wpAny _ _ (subscriptTail _ _ (Value.ref _) (Value.int (-1) _)) _ _ _); k_dflt (refine' item_last ?N ?m ?i ?I ?e ?_ ?s ?g; (case N => k_asm); (case m => k_mem); (case i => assumption); (case I => assumption); (case e => assumption); (case s => with_unfolding_all rfl); (case g => (intro _; with_unfolding_all rfl))); intro t' hb1' hb2'))
theorem ints_snoc {k : Int} {t : Tok} : ∀ {us : List Value} {l : List Int}, IntsAre us l → IntsAre (us ++ [Value.int k t]) (l ++ [k])
  | _, _, .nil => .cons k t .nil
  | _, _, .cons a u r => .cons a u (ints_snoc r)
theorem append_int {prog : Program} {w : World} {A : Around} {E : Value → Shared → Prop} {s : Shared} {h₀ : Heap} {L D : Addr} {m : Str → Option Value} {news news' : List (Addr × Obj)} {us : List Value} {l : List Int} {k : Int} {t : Tok} {n : Nat} {Q : Value → Shared → Prop}
    (F : Fr h₀ L s.heap m) (N : News h₀ L s.heap news) (U : Upd D (listOf us.toArray n) (listOf (us ++ [Value.int k t]).toArray (n + 1)) news news') (hi : IntsAre us l) (hz : us.length ≤ 1000)
    (h : ∀ h', Fr h₀ L h' m → News h₀ L h' news' → IntsAre (us ++ [Value.int k t]) (l ++ [k]) → Q .none { s with heap := h' }) : wpAny (model prog w) A (call (.builtin "list.append") [.ref D, .int k t]) Q E s :=
  append_K F N (by rw [List.push_toArray]; exact U) (fun h' F' N' => h h' F' N' (ints_snoc hi)) (by rw [PySem.sizeLine_eq, List.size_toArray]; omega)
theorem pos_of {us : List Value} {W : List Int} (hi : IntsAre us W) (hne : decide (W = []) = false) : 0 < us.length := by
  have := hi.length
  have := ne_length hne
  omega
theorem extend_int {prog : Program} {w : World} {A : Around} {E : Value → Shared → Prop} {s : Shared} {h₀ : Heap} {L D b : Addr} {m : Str → Option Value} {news news' : List (Addr × Obj)} {us : List Value} {l : List Int} {k q : Int} {t u : Tok} {n n2 : Nat} {Q : Value → Shared → Prop}
    (F : Fr h₀ L s.heap m) (N : News h₀ L s.heap news) (hb : (b, listOf #[Value.int k t, Value.int q u] n2) ∈ news) (U : Upd D (listOf us.toArray n) (listOf (us ++ [Value.int k t, Value.int q u]).toArray (n + 1)) news news') (hi : IntsAre us l) (hz : us.length ≤ 1000)
    (h : ∀ h', Fr h₀ L h' m → News h₀ L h' news' → IntsAre (us ++ [Value.int k t, Value.int q u]) (l ++ [k, q]) → Q .none { s with heap := h' }) : wpAny (model prog w) A (call (.builtin "list.extend") [.ref D, .ref b]) Q E s := by
  refine kl_extend F N hb (l := us ++ [Value.int k t, Value.int q u]) rfl (by simp) U ?_ (by rw [PySem.sizeLine_eq]; simpa using (by omega : us.length ≤ 16777216)) (by rw [PySem.sizeLine_eq]; simp; omega) fun h' F' N' => h h' F' N' ?_
  · intro e
    rw [Bool.and_eq_true] at e
    have e2 := e.2
    unfold Builtin.List.listTooLong at e2
    simp at e2
    have := PySem.sizeLine_eq
    omega
  · have := ints_snoc (k := q) (t := u) (ints_snoc (k := k) (t := t) hi)
    simpa using this
local macro_rules | `(tactic| walk_at "call builtin:list.append") => `(tactic| (k_here; (with_reducible show wpAny _ _ (call (Value.builtin "list.append") [Value.ref _, Value.int _ _]) _ _ _); k_dflt (refine' append_int ?k1 ?k2 ?k3 ?i ?z ?_; (case k1 => k_asm); (case k2 => k_asm); (case k3 => k_upd); (case i => assumption); (case z => omega)); intro h' F' N' hA'; (try k_sweep)))
local macro_rules | `(tactic| walk_at "call builtin:list.pop") => `(tactic| (k_here; (show wpAny _ _ (call (Value.builtin "list.pop") [Value.ref _]) _ _ _); k_dflt (refine' kpa_pop ?F ?N ?U ?i ?l ?z ?_; (case F => k_asm); (case N => k_asm); (case U => k_upd); (case i => assumption); (case l => exact pos_of (by assumption) (by assumption)); (case z => (rw [PySem.sizeLine_eq]; omega))); (intro h' t' F' N' hA'; (try k_sweep))))
local macro_rules | `(tactic| walk_at "call builtin:list.extend") => `(tactic| (k_here; (show wpAny _ _ (call (Value.builtin "list.extend") [Value.ref _, Value.ref _]) _ _ _); k_dflt (refine' extend_int ?k1 ?k2 ?b ?k3 ?i ?z ?_; (case k1 => k_asm); (case k2 => k_asm); (case b => k_mem); (case k3 => k_upd); (case i => assumption); (case z => omega)); intro h' F' N' hA'; (try k_sweep)))
local macro_rules | `(tactic| walk_at "call builtin:list.append") => `(tactic| (exfalso; exact absurd_open (by omega) (by assumption)))
theorem struck_len {T : Str} {n : Nat} {W M : List Int} {kept : Str} {bad : Int} (I : Inv T n W M kept bad) (h : n ≤ 32) : kept.length ≤ 64 := by
  have := I.kl
  omega
local macro_rules | `(tactic| walk_at "call ref") => `(tactic| (k_here; (with_reducible show wpAny _ _ (call (Value.ref 115) [Value.str _ _]) _ _ _); (rename Inv _ _ _ _ _ _ => hI9); (first | (have hJ9 := inv_none hI9 (by assumption) (by omega)) | (have hJ9 := inv_open hI9 (by assumption) (by assumption) (by assumption)) | (have hJ9 := inv_met' hI9 (by assumption) (by assumption) (by assumption) (by assumption) (by assumption)) | (have hJ9 := inv_bad1 hI9 (by assumption) (by assumption) (by assumption) (by assumption)) | (have hJ9 := inv_bad2 hI9 (by assumption) (by assumption) (by assumption) (by assumption) (by assumption))); k_dflt (refine' Cl.use (struck_c _ _ _ _ _ _ _ (struck_len hJ9 (by omega))) ?k1 ?k2 ?k3 ?k4 ?k5 ?kK ?kd ?ku ?_; (case k1 => k_asm); (case k2 => k_asm); (case k3 => k_asm); (case k4 => k_asm); (case k5 => k_asm); (case kK => first | exact rfl | assumption); (case kd => ktr_room); (case ku => ktr_units); (intro t9 h9 tk9 F9 N9; (try dsimp only); (try k_fold)))))
local macro_rules | `(tactic| walk_at "subscriptTail") => `(tactic| (k_here; (with_reducible show wpAny _ _ (subscriptTail _ _ (Value.str _ _) (Value.int _ _)) _ _ _); (refine item_str (fitsSsize_of (N := 9223372036854775808) (by omega) (by omega) (Int.le_refl _)) (by omega) (by omega) ?_); intro t'))

/-! L9 -/
theorem kct_place {prog : Program} {w : World} {A : Around} {h₀ : Heap} {L : Addr} {m : Str → Option Value} {env : Env} {elt : PySem.Expr} {x : Str} {scope : Scope} {cl : List (Str × Addr)} {s : Shared} {S : List (Addr × Obj) → Prop} {Fin : List Value → List (Addr × Obj) → Prop} {news : List (Addr × Obj)} {vs : List Value} {T kept : Str} {n : Nat} {W M : List Int} {bad : Int} (I : Inv T n W M kept bad) (hi : IntsAre vs W)
    (turn : ∀ k t I oI C oC D m₂ ys h tk (E' : Value → Shared → Prop), 0 ≤ k → k < (n : Int) → LCg.NsObj oC m₂ → m₂ x = some (.int k t) → Fr h₀ L h m → News h₀ L h ((I, oI) :: (C, oC) :: (D, LCg.lst ys) :: news) → LCg.Off3 I C D news → ((@Ne Nat I C) ∧ (@Ne Nat I D) ∧ (@Ne Nat C D)) → KPfMark →
      wpAny (model prog w) A (eval elt (compEnvC scope cl C env)) (LCg.CompEnd h₀ L m { s with heap := h, toks := tk } I oI C oC D (LCg.lst ys) S (fun y news' => KCtEl news (Txt.item T k) y news')) E' { s with heap := h, toks := tk })
    (fin : KPfDone (∀ ys, CarriedAll ys (W.map fun k => PyData.str (Txt.item T k)) → W.length = vs.toArray.size → Fin ys news)) : LCg.CompRest prog w A h₀ L m env elt x scope cl s S (fun i v => vs.toArray[i]? = some v) Fin vs.toArray.size 0 [] news :=
  kct_list (fun p => Txt.item T p) hi (fun k t I' oI C oC D m₂ ys h tk E' hk => turn k t I' oI C oC D m₂ ys h tk E' (I.wb k hk).1 (I.wb k hk).2) fin
local macro_rules | `(tactic| walk_at "CompSrc") => `(tactic| (k_here; (with_reducible show LCg.CompSrc _ _ _ _ _ _ _ (PySem.Expr.Subscript _ _ _) (PySem.Str.ofString "place") _ _ _ _ _); (rename Inv _ _ _ _ _ _ => hJ9); k_dflt (refine LCg.CompSrc.ledger (by rfl) (by k_asm) (by k_asm) (by k_mem) (by first | kcf_size | (simp only [List.size_toArray, List.length_dropLast, PySem.sizeLine_eq]; omega)) ?_; intro g'; (refine' kct_place hJ9 (by first | assumption | l_ints | k_intsEnd) (fun k' t' I' oI' C' oC' D' m' ys' h' tk' E' hk1' hk2' hC' hx' F' N' off' ne' hMark' => ?_) ?_); kcf_last)))
theorem ne_same {prog : Program} {w : World} {A : Around} {E : Value → Shared → Prop} {s : Shared} {x y : Str} {t u : Tok} {Q : Value → Shared → Prop} (e : x = y) (h : Q (.bool false) s) : wpAny (model prog w) A (compareOp .NotEq (.str x t) (.str y u)) Q E s := by
  subst e
  refine ne_str ?_
  have e2 : (x != x) = false := by simp
  rw [e2]
  exact h
local macro_rules | `(tactic| walk_at "compareOp NotEq str str") => `(tactic| (k_here; (with_reducible show wpAny _ _ (compareOp CmpOp.NotEq (Value.str (normS _) _) (Value.str _ _)) _ _ _); (rename Inv _ _ _ _ _ _ => hJ9); (refine ne_same (left_eq hJ9) ?_)))
theorem w_len {T : Str} {n : Nat} {W M : List Int} {kept : Str} {bad : Int} (I : Inv T n W M kept bad) (h : n ≤ 32) : W.length ≤ 1048576 := by
  have := I.ml
  omega
theorem join_place {prog : Program} {w : World} {A : Around} {E : Value → Shared → Prop} {s : Shared} {D : Addr} {ys : List Value} {t : Tok} {Q : Value → Shared → Prop} {T : Str} {n : Nat} {W M : List Int} {kept : Str} {bad : Int} (I : Inv T n W M kept bad) (hn : n ≤ 32) (hl : s.heap.IsList D ys.toArray) (hc : CarriedAll ys (W.map fun a => PyData.str (Txt.item T a)))
    (h : ∀ t' k, Q (.str (Txt.join (Str.ofString "") (W.map fun p => Txt.item T p)) t') { s with toks := k }) : wpAny (model prog w) A (call (.builtin "str.join") [.str (Str.ofString "") t, .ref D]) Q E s :=
  KT.join_1 (g := fun p => Txt.item T p) hl hc (fun a _ => rfl) (w_len I hn) fun t' k _ => h t' k
local macro_rules | `(tactic| walk_at "call builtin:str.join") => `(tactic| (k_here; (with_reducible show wpAny _ _ (call (Value.builtin "str.join") [Value.str _ _, Value.ref _]) _ _ _); (rename Inv _ _ _ _ _ _ => hJ9); k_dflt (refine join_place hJ9 (by omega) (News.isList (by k_asm) (by k_mem)) (by assumption) ?_); intro t' k'))
theorem comp_close {prog : Program} {w : World} {A : Around} {E : Value → Shared → Prop} {s₁ : Shared} {h₀ : Heap} {L : Addr} {m : Str → Option Value} {news : List (Addr × Obj)} {env : Env} {elt : PySem.Expr} {x : Str} {ifs : List PySem.Expr} {scope : Scope} {Q : Value → Shared → Prop} {y : Str} {t : Tok}
    (hh : A.handled = none) (F : Fr h₀ L s₁.heap m) (N : News h₀ L s₁.heap news) (hsz : y.length ≤ 100)
    (g1 : ∀ C a ta s₂ m₂ E', s₂.heap.Ns (compEnv scope C env).locals m₂ → m₂ x = some (.str a ta) → s₁.toks ≤ s₂.toks →
        wpAny (model prog w) A (forIn ifs true fun c r => if r = true then do let ok ← isTrue c (compEnv scope C env) (eval c (compEnv scope C env)); pure (ForInStep.yield ok) else pure (ForInStep.yield r))
          (fun ok s₃ => ok = Txt.contains (Str.ofString ")]}") a ∧ Keeps s₂ s₃) E' s₂)
    (g2 : ∀ C a ta s₂ m₂ E', s₂.heap.Ns (compEnv scope C env).locals m₂ → m₂ x = some (.str a ta) → s₁.toks ≤ s₂.toks → wpAny (model prog w) A (eval elt (compEnv scope C env)) (fun r s₃ => Carried r (PyData.str a) ∧ Keeps s₂ s₃) E' s₂)
    (g3 : ∀ D (ys : List Value) h' tk n, Fr h₀ L h' m → News h₀ L h' ((D, listOf ys.toArray n) :: news) → CarriedAll ys (((signs y).filter fun a => Txt.contains (Str.ofString ")]}") a).map fun a => PyData.str a) → Q (.ref D) { s₁ with heap := h', toks := tk }) :
    wpAny (model prog w) A (pyIter (.str y t)) (CompPost prog w A env scope x ifs elt Q) E s₁ :=
  srcC_signsD (pz := fun a => Txt.contains (Str.ofString ")]}") a) (d := fun a => PyData.str a) hh F N
    (fun C a v s₂ m₂ E' i hn hm ht => by obtain ⟨ta, e⟩ := ItemKind.str_is i; subst e; exact g1 C a ta s₂ m₂ E' hn hm ht)
    (fun C a v s₂ m₂ E' i _ hn hm ht => by obtain ⟨ta, e⟩ := ItemKind.str_is i; subst e; exact g2 C a ta s₂ m₂ E' hn hm ht) (fun D ys h' tk F' N' hD hL hP hC => by obtain ⟨n, hN⟩ := made_enters hP F' N' hD; exact g3 D ys h' tk n F' hN hC) (by rw [PySem.sizeLine_eq]; omega)
theorem left_len' {T : Str} {n : Nat} {W M : List Int} {kept : Str} {bad : Int} (I : Inv T n W M kept bad) (h : n ≤ 32) : (normS kept).length ≤ 100 := by
  have := left_len I
  omega
local macro_rules | `(tactic| walk_at "pyIter str") => `(tactic| (k_here; (with_reducible show wpAny _ _ (pyIter (Value.str (normS _) _)) (CompPost _ _ _ _ _ _ _ _ _) _ _); (rename Fr _ _ _ _ => lF'); (rename News _ _ _ _ => lN'); (rename Inv _ _ _ _ _ _ => hJ9); k_dflt (refine' comp_close (by rfl) lF' lN' (left_len' hJ9 (by omega)) (fun C' a' ta' s' m' E' hns' hm' htk' => ?_) (fun C' a' ta' s' m' E' hns' hm' htk' => ?_) (fun D' ys' h' tk' n' F' N' hC' => ?_))))
theorem canLayAll_strs : ∀ ss : List Str, (∀ a ∈ ss, PyData.strOk a = true) → PyData.canLayAll0 (ss.map fun a => PyData.str a) = true
  | [], _ => by simp [PyData.canLayAll0]
  | x :: r, h => by simp [PyData.canLayAll0, PyData.canLay0, h x (.head _), canLayAll_strs r fun a ha => h a (.tail _ ha)]
theorem strOk_closers (y : Str) : ∀ a ∈ (signs y).filter fun a => Txt.contains (Str.ofString ")]}") a, PyData.strOk a = true := by
  intro a ha
  obtain ⟨h1, h2⟩ := List.mem_filter.mp ha
  unfold signs at h1
  obtain ⟨n, _, rfl⟩ := List.mem_map.mp h1
  rw [contains_closer] at h2
  rcases of_decide_eq_true h2 with rfl | rfl | rfl <;> decide +kernel
theorem depthAll_strs : ∀ ss : List Str, PyData.depthAll (ss.map fun a => PyData.str a) ≤ 1
  | [] => by simp [PyData.depthAll]
  | x :: r => by
    have := depthAll_strs r
    simp only [List.map_cons, PyData.depthAll, PyData.depth]
    omega
theorem shaped_strs (ss : List Str) (hok : ∀ a ∈ ss, PyData.strOk a = true) : SeqAt.shaped (.list (ss.map fun a => PyData.str a)) = true := by
  have h1 := depthAll_strs ss
  have h2 : PyData.depth (.list (ss.map fun a => PyData.str a)) ≤ 64 := by simp only [PyData.depth]; omega
  show (PyData.canLay0 (.list (ss.map fun a => PyData.str a)) && decide (PyData.depth (.list (ss.map fun a => PyData.str a)) ≤ 64)) = true
  rw [Bool.and_eq_true]
  exact ⟨by simp only [PyData.canLay0]; exact canLayAll_strs ss hok, decide_eq_true h2⟩
theorem same_nil (ss : List Str) : PySem.Spec.same (.list (ss.map fun a => PyData.str a)) (.list []) = decide (ss = []) := by
  cases ss <;> simp [PySem.Spec.same, PySem.Spec.sameAll]
theorem noMix_nil (ss : List Str) : SeqAt.noMix (.list (ss.map fun a => PyData.str a)) (.list []) = true := by
  cases ss <;> simp [SeqAt.noMix, SeqAt.noMixAll]
theorem ne_strs_nil {prog : Program} {w : World} {A : Around} {E : Value → Shared → Prop} {s : Shared} {a b : Addr} {ys : List Value} {ss : List Str} {Q : Value → Shared → Prop} (hok : ∀ a ∈ ss, PyData.strOk a = true) (hl : s.heap.IsList a ys.toArray) (hc : CarriedAll ys (ss.map fun a => PyData.str a)) (hb : s.heap.IsList b (#[] : Array Value)) (hu : A.units + 64 < cLine)
    (h : Q (.bool (!decide (ss = []))) s) : wpAny (model prog w) A (compareOp .NotEq (.ref a) (.ref b)) Q E s :=
  ne_dataH_same (reads_newData hl hc) (reads_newData (ys := []) hb .nil) (shaped_strs ss hok) (by decide +kernel) hu (noMix_nil ss) (by rw [same_nil]; exact h)
theorem keeps_toks {s : Shared} {k : Nat} : Keeps s { s with toks := k } := ⟨s.heap, k, rfl, fun _ _ e => e⟩
theorem keeps_self {s : Shared} : Keeps s s := ⟨s.heap, s.toks, rfl, fun _ _ e => e⟩
theorem ne_bools {prog : Program} {w : World} {A : Around} {E : Value → Shared → Prop} {s : Shared} {c d : Bool} {Q : Value → Shared → Prop} (e : c = d) (h : Q (.bool false) s) : wpAny (model prog w) A (compareOp .NotEq (.bool c) (.bool d)) Q E s := by
  subst e
  refine ne_bool ?_
  have e2 : (c != c) = false := by simp
  rw [e2]
  exact h
local macro_rules | `(tactic| walk_at "Keeps") => `(tactic| first | exact keeps_self | exact keeps_toks)
local macro_rules | `(tactic| walk_at "Carried") => `(tactic| exact Carried.str _ _)
local macro_rules | `(tactic| walk_at "compareOp NotEq ref ref") => `(tactic| (k_here; (with_reducible show wpAny _ _ (compareOp CmpOp.NotEq (Value.ref _) (Value.ref _)) _ _ _); (with_reducible rename CarriedAll _ (List.map (fun a => PyData.str a) (List.filter _ _)) => hC9); k_dflt (refine ne_strs_nil (strOk_closers _) (by is_list) hC9 (by is_list) (by units_room) ?_)))
local macro_rules | `(tactic| walk_at "compareOp NotEq bool bool") => `(tactic| (k_here; (with_reducible show wpAny _ _ (compareOp CmpOp.NotEq (Value.bool (!decide _)) (Value.bool (decide _))) _ _ _); (rename Inv _ _ _ _ _ _ => hJ9); (refine ne_bools (close_eq hJ9) ?_)))
local macro_rules | `(tactic| kst_p) => `(tactic| ((try dsimp only); (rw [List.length_append]); assumption))
/-! L10 -/
theorem rs_len (T : Str) : Builtin.Range.rangeSize 0 (T.length : Int) 1 = ((T.length : Nat) : Int) := by
  rw [rangeSize_nat]
  simp
theorem small_len {T : Str} (hT : TextIs T) : Builtin.Range.small 0 (T.length : Int) 1 = true := by
  have := hT.hi
  exact small_one (by omega) (by omega) (by omega) (by omega)
theorem size_len {T : Str} (hT : TextIs T) : T.length ≤ sizeLine := by
  have := hT.hi
  rw [PySem.sizeLine_eq]
  omega
theorem kct_hid {prog : Program} {w : World} {A : Around} {h₀ : Heap} {L : Addr} {m : Str → Option Value} {env : Env} {elt : PySem.Expr} {x : Str} {scope : Scope} {cl : List (Str × Addr)} {s : Shared} {S : List (Addr × Obj) → Prop} {Fin : List Value → List (Addr × Obj) → Prop} {news : List (Addr × Obj)} {T kept : Str} {W M : List Int} {bad : Int} (I : Inv T T.length W M kept bad)
    (turn : ∀ k t I oI C oC D m₂ ys h tk (E' : Value → Shared → Prop), 0 ≤ k → k < (T.length : Int) → ((M.any fun x => x == k) = true → Six (cd T k)) → LCg.NsObj oC m₂ → m₂ x = some (.int k t) → Fr h₀ L h m → News h₀ L h ((I, oI) :: (C, oC) :: (D, LCg.lst ys) :: news) → LCg.Off3 I C D news → ((@Ne Nat I C) ∧ (@Ne Nat I D) ∧ (@Ne Nat C D)) → KPfMark →
      wpAny (model prog w) A (eval elt (compEnvC scope cl C env)) (LCg.CompEnd h₀ L m { s with heap := h, toks := tk } I oI C oC D (LCg.lst ys) S (fun y news' => KCtEl news (hid T M k) y news')) E' { s with heap := h, toks := tk })
    (fin : KPfDone (∀ ys, CarriedAll ys ((rangeKs 0 T.length).map fun k => PyData.str (hid T M k)) → (rangeKs 0 T.length).length = T.length → Fin ys news)) : LCg.CompRest prog w A h₀ L m env elt x scope cl s S (fun i v => ∃ t, v = .int (0 + (i : Int)) t) Fin T.length 0 [] news :=
  kct_range (hid T M) (fun k t I' oI C oC D m₂ ys h tk E' h1 h2 => turn k t I' oI C oC D m₂ ys h tk E' h1 (by omega) (fun e => I.mn k (any_mem e))) fin
local macro_rules | `(tactic| walk_at "CompSrc") => `(tactic| (k_here; (with_reducible show LCg.CompSrc _ _ _ _ _ _ _ (PySem.Expr.IfExp _ _ _ _) (PySem.Str.ofString "k") _ _ _ _ _); (rename Inv _ _ _ _ _ _ => hJ9); (rename TextIs _ => hT9); k_dflt (refine LCg.CompSrc.range (by rfl) (by k_asm) (by k_asm) (by assumption) (small_len hT9) (rs_len _) (size_len hT9) ?_; intro g'; (refine' kct_hid hJ9 (fun k' t' I' oI' C' oC' D' m' ys' h' tk' E' hk1' hk2' hk3' hC' hx' F' N' off' ne' hMark' => ?_) ?_); kcf_last)))
local macro_rules | `(tactic| walk_at "compareOp In int ref") => `(tactic| (k_here; (with_reducible show wpAny _ _ (compareOp CmpOp.In (Value.int _ _) (Value.ref _)) _ _ _); k_dflt (refine in_list_ints (News.isList (by k_asm) (by k_mem)) (by assumption) ?_)))
local macro_rules | `(tactic| walk_at "KCtEl") => `(tactic| (kpf_tidy; (refine kct_el ?kce (by with_unfolding_all rfl) (by with_unfolding_all rfl)); (case kce => first | exact hid_pos (by assumption) | exact hid_neg (by assumption))))
local macro_rules | `(tactic| walk_at "subscriptTail") => `(tactic| (k_here; (with_reducible show wpAny _ _ (subscriptTail _ _ (Value.str _ _) (Value.int _ _)) _ _ _); (refine item_str (fitsSsize_of (N := 9223372036854775808) (by omega) (by omega) (Int.le_refl _)) (by omega) (by omega) ?_); intro t'))
local macro_rules | `(tactic| walk_at "call ref") => `(tactic| (k_here; (with_reducible show wpAny _ _ (call (Value.ref 91) [Value.str _ _]) _ _ _); k_dflt (refine' Cl.use (alt_c _ _ _ _ _ _ _ (by first | assumption | (rename (_ → Six _) => hk39; exact hk39 (by assumption)))) ?k1 ?k2 ?k3 ?k4 ?k5 ?kK ?kd ?ku ?_; (case k1 => k_asm); (case k2 => k_asm); (case k3 => k_asm); (case k4 => k_asm); (case k5 => k_asm); (case kK => first | exact rfl | assumption); (case kd => ktr_room); (case ku => ktr_units); (intro t9 h9 tk9 F9 N9; (try dsimp only); (try k_fold)))))
local macro_rules | `(tactic| walk_at "call ref") => `(tactic| (k_here; (with_reducible show wpAny _ _ (call (Value.ref 108) [Value.str _ _]) _ _ _); k_dflt (refine' Cl.use (num_claim _ _ _ _ _ _ _) ?k1 ?k2 ?k3 ?k4 ?k5 ?kK ?kd ?ku ?_; (case k1 => k_asm); (case k2 => k_asm); (case k3 => k_asm); (case k4 => k_asm); (case k5 => k_asm); (case kK => first | exact rfl | assumption); (case kd => ktr_room); (case ku => ktr_units); (intro t9 h9 tk9 F9 N9; (try dsimp only); (try k_fold)))))
theorem unctrl_h (w mean mg mb news) {T kept : Str} {n : Nat} {W M : List Int} {bad k : Int} (t : Tok) (I : Inv T n W M kept bad) (h : (hid T M k != Txt.item T k) = true) : Cl 3 w mean mg mb 98 news [.str (hid T M k) t] (fun t => .str (Str.ofString "!" ++ Txt.item T k) t) := by
  have hM := hid_ne h
  rw [hid_pos hM]
  exact unctrl_d w mean mg mb news (cd T k) (cd T k + 128) t (I.mn k (any_mem hM)) rfl
theorem item_hid {prog : Program} {w : World} {A : Around} {E : Value → Shared → Prop} {s : Shared} {h₀ : Heap} {L : Addr} {news : List (Addr × Obj)} {value slice : PySem.Expr} {a : Addr} {ys : List Value} {n : Nat} {u : Tok} {k : Int} {Q : Value → Shared → Prop} {T : Str} {M : List Int}
    (N : News h₀ L s.heap news) (hm : (a, LCg.lst ys) ∈ news) (hc : CarriedAll ys ((rangeKs 0 n).map fun k => PyData.str (hid T M k))) (h0 : 0 ≤ k) (h1 : k < (n : Int)) (hn : n ≤ 1000) (h : ∀ t, Q (.str (hid T M k) t) s)
    (hs : subscripted slice false (.ref a) (.int k u) = operate [.ref a, .int k u] (getItem (.ref a) (.int k u))) (hg : ∀ r, letTemporaryGo value (.ref a) r = pure ()) :
    wpAny (model prog w) A (subscriptTail value slice (.ref a) (.int k u)) Q E s := by
  obtain ⟨t, ht⟩ := hidden_get hc h0 h1
  exact kim_list (l := ys) N hm rfl rfl h0 (by omega) ht (h t) hs hg
local macro_rules | `(tactic| walk_at "subscriptTail") => `(tactic| (k_here; (with_reducible show wpAny _ _ (subscriptTail _ _ (Value.ref _) (Value.int _ _)) _ _ _); (with_reducible rename CarriedAll _ (List.map (fun k => PyData.str (hid _ _ k)) _) => hC9); k_dflt (refine' item_hid ?N ?m hC9 ?a ?b ?n ?_ ?s ?g; (case N => k_asm); (case m => k_mem); (case a => omega); (case b => omega); (case n => omega); (case s => with_unfolding_all rfl); (case g => (intro _; with_unfolding_all rfl))); intro t'))
theorem kci_two {prog : Program} {w : World} {A : Around} {h₀ : Heap} {L : Addr} {m : Str → Option Value} {env : Env} {ct elt : PySem.Expr} {x : Str} {scope : Scope} {cl : List (Str × Addr)} {s : Shared} {S : List (Addr × Obj) → Prop} {Fin : List Value → List (Addr × Obj) → Prop} {news : List (Addr × Obj)} {T kept : Str} {W M : List Int} {bad : Int} (I : Inv T T.length W M kept bad)
    (turn : ∀ k t I oI C oC D m₂ ys l h tk (E' : Value → Shared → Prop), 0 ≤ k → k < (T.length : Int) → IntsAre ys l → LCg.NsObj oC m₂ → m₂ x = some (.int k t) → Fr h₀ L h m → News h₀ L h ((I, oI) :: (C, oC) :: (D, LCg.lst ys) :: news) → LCg.Off3 I C D news → ((@Ne Nat I C) ∧ (@Ne Nat I D) ∧ (@Ne Nat C D)) → KPfMark →
      wpAny (model prog w) A (isTrue ct (compEnvC scope cl C env) (eval ct (compEnvC scope cl C env))) (fun b s' => if b = true then wpAny (model prog w) A (eval elt (compEnvC scope cl C env)) (LCg.CompEnd h₀ L m { s with heap := h, toks := tk } I oI C oC D (LCg.lst ys) S (fun y news' => KCiEl news l (G2 T M l k) y news')) E' s'
        else LCg.CompEnd h₀ L m { s with heap := h, toks := tk } I oI C oC D (LCg.lst ys) S (fun _ news' => KCiNo news l (G2 T M l k) news') Value.none s') E' { s with heap := h, toks := tk })
    (fin : KPfDone (∀ ys, IntsAre ys W → ys.length ≤ T.length → Fin ys news)) : LCt.CompRestT prog w A h₀ L m env ct elt x scope cl s S (fun i v => ∃ t, v = .int (0 + (i : Int)) t) Fin T.length 0 [] news :=
  kci_range (G2 T M) (fun k t I' oI C oC D m₂ ys l h tk E' h1 h2 => turn k t I' oI C oC D m₂ ys l h tk E' h1 (by omega)) (by have f := fin; unfold KPfDone at f ⊢; rw [fold_W I]; exact f) (fun l k => grows2 T M l k)
theorem kci_three {prog : Program} {w : World} {A : Around} {h₀ : Heap} {L : Addr} {m : Str → Option Value} {env : Env} {ct elt : PySem.Expr} {x : Str} {scope : Scope} {cl : List (Str × Addr)} {s : Shared} {S : List (Addr × Obj) → Prop} {Fin : List Value → List (Addr × Obj) → Prop} {news : List (Addr × Obj)} {T : Str} (hT : TextIs T)
    (turn : ∀ k t I oI C oC D m₂ ys l h tk (E' : Value → Shared → Prop), 0 ≤ k → k < (T.length : Int) → IntsAre ys l → LCg.NsObj oC m₂ → m₂ x = some (.int k t) → Fr h₀ L h m → News h₀ L h ((I, oI) :: (C, oC) :: (D, LCg.lst ys) :: news) → LCg.Off3 I C D news → ((@Ne Nat I C) ∧ (@Ne Nat I D) ∧ (@Ne Nat C D)) → KPfMark →
      wpAny (model prog w) A (isTrue ct (compEnvC scope cl C env) (eval ct (compEnvC scope cl C env))) (fun b s' => if b = true then wpAny (model prog w) A (eval elt (compEnvC scope cl C env)) (LCg.CompEnd h₀ L m { s with heap := h, toks := tk } I oI C oC D (LCg.lst ys) S (fun y news' => KCiEl news l l y news')) E' s'
        else LCg.CompEnd h₀ L m { s with heap := h, toks := tk } I oI C oC D (LCg.lst ys) S (fun _ news' => KCiNo news l l news') Value.none s') E' { s with heap := h, toks := tk })
    (fin : KPfDone (∀ ys, IntsAre ys [] → ys.length ≤ T.length → Fin ys news)) : LCt.CompRestT prog w A h₀ L m env ct elt x scope cl s S (fun i v => ∃ t, v = .int (0 + (i : Int)) t) Fin T.length 0 [] news :=
  kci_range (fun l _ => l) (fun k t I' oI C oC D m₂ ys l h tk E' h1 h2 => turn k t I' oI C oC D m₂ ys l h tk E' h1 (by omega)) (by have f := fin; unfold KPfDone at f ⊢; rw [foldl_same]; exact f) (fun l k => Nat.le_succ _)
local macro_rules | `(tactic| walk_at "CompSrcT") => `(tactic| (k_here; (with_reducible show LCt.CompSrcT _ _ _ _ _ _ _ (PySem.Expr.Compare _ _ _ _) _ (PySem.Str.ofString "k") _ _ _ _ _); (rename Inv _ _ _ _ _ _ => hJ9); (rename TextIs _ => hT9); k_dflt (refine LCt.CompSrcT.range (by rfl) (by k_asm) (by k_asm) (by assumption) (small_len hT9) (rs_len _) (size_len hT9) ?_; intro g'; (refine' kci_two hJ9 (fun k' t' I' oI' C' oC' D' m' ys' l' h' tk' E' hk1' hk2' hI' hC' hx' F' N' off' ne' hMark' => ?_) ?_); kcf_last)))
local macro_rules | `(tactic| walk_at "CompSrcT") => `(tactic| (k_here; (with_reducible show LCt.CompSrcT _ _ _ _ _ _ _ (PySem.Expr.BoolOp _ _ _) _ (PySem.Str.ofString "k") _ _ _ _ _); (rename TextIs _ => hT9); k_dflt (refine LCt.CompSrcT.range (by rfl) (by k_asm) (by k_asm) (by assumption) (small_len hT9) (rs_len _) (size_len hT9) ?_; intro g'; (refine' kci_three hT9 (fun k' t' I' oI' C' oC' D' m' ys' l' h' tk' E' hk1' hk2' hI' hC' hx' F' N' off' ne' hMark' => ?_) ?_); kcf_last)))
theorem G2_pos {T : Str} {M l : List Int} {k : Int} (h : 0 < num (hid T M k)) : G2 T M l k = l ++ [k] := if_pos h
theorem G2_neg {T : Str} {M l : List Int} {k : Int} (h : ¬ 0 < num (hid T M k)) : G2 T M l k = l := if_neg h
local macro_rules | `(tactic| walk_at "KCiEl") => `(tactic| (kpf_tidy; (refine kci_el ?kce (by with_unfolding_all rfl) (by with_unfolding_all rfl)); (case kce => exact G2_pos (by omega))))
local macro_rules | `(tactic| walk_at "KCiNo") => `(tactic| (kpf_tidy; (refine kci_no ?kce (by with_unfolding_all rfl)); (case kce => first | rfl | exact G2_neg (by omega))))
theorem ne_ints_same {prog : Program} {w : World} {A : Around} {E : Value → Shared → Prop} {s : Shared} {a b : Addr} {vs us : List Value} {W : List Int} {Q : Value → Shared → Prop} (hl : s.heap.IsList a vs.toArray) (hi : IntsAre vs W) (hl' : s.heap.IsList b us.toArray) (hi' : IntsAre us W) (hu : A.units + 64 < cLine)
    (h : Q (.bool false) s) : wpAny (model prog w) A (compareOp .NotEq (.ref a) (.ref b)) Q E s :=
  ne_intsK hl hi hl' hi' hu (by rw [decide_eq_true rfl]; exact h)
theorem eq_ints_nil {prog : Program} {w : World} {A : Around} {E : Value → Shared → Prop} {s : Shared} {a b : Addr} {vs : List Value} {Q : Value → Shared → Prop} (hl : s.heap.IsList a vs.toArray) (hi : IntsAre vs []) (hl' : s.heap.IsList b (#[] : Array Value)) (hu : A.units + 64 < cLine)
    (h : Q (.bool true) s) : wpAny (model prog w) A (compareOp .Eq (.ref a) (.ref b)) Q E s :=
  eq_intsK hl hi (us := []) hl' .nil hu h
local macro_rules | `(tactic| walk_at "compareOp NotEq ref ref") => `(tactic| (k_here; (with_reducible show wpAny _ _ (compareOp CmpOp.NotEq (Value.ref _) (Value.ref _)) _ _ _); k_dflt (refine ne_ints_same (by is_list) (by assumption) (by is_list) (by assumption) (by units_room) ?_)))
local macro_rules | `(tactic| walk_at "compareOp Eq ref ref") => `(tactic| (k_here; (with_reducible show wpAny _ _ (compareOp CmpOp.Eq (Value.ref _) (Value.ref _)) _ _ _); k_dflt (refine eq_ints_nil (by is_list) (by assumption) (by is_list) (by units_room) ?_)))
theorem add_small2 {prog : Program} {w : World} {A : Around} {E : Value → Shared → Prop} {s : Shared} {T : Str} {k : Int} {t u : Tok} {Q : Value → Shared → Prop} (h : ∀ t' k', Q (.str (Str.ofString "!" ++ Txt.item T k) t') { s with toks := k' }) : wpAny (model prog w) A (binaryOp .Add (.str (Str.ofString "!") t) (.str (Txt.item T k) u)) Q E s :=
  add_str h (by rw [PySem.sizeLine_eq]; have h1 : (Str.ofString "!").length = 1 := by decide +kernel
                have h2 : (Txt.item T k).length = 1 := rfl
                omega)
local macro_rules | `(tactic| walk_at "binaryOp Add str str") => `(tactic| (k_here; (with_reducible show wpAny _ _ (binaryOp Operator.Add (Value.str (Str.ofString "!") _) (Value.str (Txt.item _ _) _)) _ _ _); (refine add_small2 ?_); intro t' k'))
theorem ne_self {prog : Program} {w : World} {A : Around} {E : Value → Shared → Prop} {s : Shared} {x : Str} {t u : Tok} {Q : Value → Shared → Prop} (h : Q (.bool false) s) : wpAny (model prog w) A (compareOp .NotEq (.str x t) (.str x u)) Q E s := by
  refine ne_str ?_
  have e2 : (x != x) = false := by simp
  rw [e2]
  exact h
local macro_rules | `(tactic| walk_at "compareOp NotEq str str") => `(tactic| (k_here; (with_reducible show wpAny _ _ (compareOp CmpOp.NotEq (Value.str (Str.ofString "!" ++ _) _) (Value.str (Str.ofString "!" ++ _) _)) _ _ _); (refine ne_self ?_)))
local macro_rules | `(tactic| walk_at "call ref") => `(tactic| (k_here; (with_reducible show wpAny _ _ (call (Value.ref 98) [Value.str _ _]) _ _ _); k_dflt (refine' Cl.use (unctrl_h  _ _ _ _ _ _ (by assumption) (by assumption)) ?k1 ?k2 ?k3 ?k4 ?k5 ?kK ?kd ?ku ?_; (case k1 => k_asm); (case k2 => k_asm); (case k3 => k_asm); (case k4 => k_asm); (case k5 => k_asm); (case kK => first | exact rfl | assumption); (case kd => ktr_room); (case ku => ktr_units); (intro t9 h9 tk9 F9 N9; (try dsimp only); (try k_fold)))))

theorem main : PySem.Challenge.rw_mj0142_01.Holds := by
  refine hd ?_
  k_go0
  all_goals try k_fold
  k_steps
end Mine
theorem PySem.Challenge.cw_mj0142_01_holds : PySem.Challenge.rw_mj0142_01.Holds := by
  exact Mine.main
