import PyProof.Rows.All
import Wide.All
import OpenK.AllK
import Wide.FinOn
import PySem.Challenge.RW_pd0151_01
set_option Elab.async false
set_option maxRecDepth 100000
set_option maxHeartbeats 8000000
set_option linter.unusedVariables false
set_option linter.unusedSimpArgs false
section
open PySem PySem.W PyProof.Rows
set_option Elab.async false
set_option maxRecDepth 100000
set_option maxHeartbeats 8000000
namespace Mine
/-- the statements of the text that the head keeps in view -/
def keepL : List Nat := [0, 2, 3, 4, 5, 6, 8, 10, 12, 13, 15, 17, 19, 20, 21, 23, 24, 25, 26, 27, 28, 29, 30, 31, 32, 33, 34, 35, 36, 37, 38, 39, 40, 41, 42, 43, 44, 45, 46, 48, 49, 50, 51, 52, 53, 54, 55]
def view : Program := { PySem.Challenge.pw_pd0151_01 with main := { PySem.Challenge.pw_pd0151_01.main with body := keepL.filterMap fun i => PySem.Challenge.pw_pd0151_01.main.body[i]? } }
def wBit (b : Int) (c : String) : WData := .tuple [.int b, .str (Str.ofString c)]
def tabs : List (Str × WData) := [(Str.ofString "_filemode_table", .tuple [
  .tuple [wBit 40960 "l", wBit 49152 "s", wBit 32768 "-", wBit 24576 "b", wBit 16384 "d", wBit 8192 "c", wBit 4096 "p"],
  .tuple [wBit 256 "r"], .tuple [wBit 128 "w"], .tuple [wBit 2112 "s", wBit 2048 "S", wBit 64 "x"],
  .tuple [wBit 32 "r"], .tuple [wBit 16 "w"], .tuple [wBit 1032 "s", wBit 1024 "S", wBit 8 "x"],
  .tuple [wBit 4 "r"], .tuple [wBit 2 "w"], .tuple [wBit 513 "t", wBit 512 "T", wBit 1 "x"]])]
/-- the law's own look, in small checks -/
theorem law_said : OpenLaw.wellSaid PySem.Challenge.rw_pd0151_01 = true := by
  repeat' (first | with_reducible refine look_both ?_ ?_ | unfold OpenLaw.wellSaid | unfold OpenRow.wellSaid | unfold OpenRow.partSaid | unfold looksOpen | unfold OpenScript.wellSaid)
  all_goals decide +kernel
local macro_rules | `(tactic| o_law) => `(tactic| (refine holds_law law_said ?law; intro said))
local macro_rules | `(tactic| o_head $H) => `(tactic| (
  refine holds_open (q := view) (loose := [Str.ofString "_filemode_table"]) (Xt := fun s => xlAt view tabs s && recOk (RowW.records (OpenRow.toRowW PySem.Challenge.rw_pd0151_01.row)) s) (XP := XL view tabs) (Yf := Hook.obs $H) (Ya := Hook.val $H) (YP := Hook.says $H) (N := 3510)
    ?hl (Hook.of $H) (Hook.keeps $H) (fun s e => xl_of s (Bool.and_eq_true_iff.mp e).1) XL.keeps (by rfl) (by rfl) (by rfl) (fun s e => recFacts_of (Bool.and_eq_true_iff.mp e).2) (by rfl) (by first | assumption | decide +kernel) (by decide +kernel) ⟨rfl, rfl, rfl, rfl, rfl, by decide +kernel⟩ ?hw ?hc
  all_goals (rename_i said; clear said)
  case hl => (intro w; kernel_rfl)))
open_top hd for PySem.Challenge.rw_pd0151_01
end Mine
end
section
namespace Mine
/-- what _siftdown(heap, 0, pos) makes of the list, newitem in hand -/
def sdGo {α : Type} (lt : α → α → Bool) (x : α) (l : List α) (pos : Nat) : List α :=
  if h : 0 < pos then
    match l[(pos - 1) / 2]? with
    | some p => if lt x p then sdGo lt x (l.set pos p) ((pos - 1) / 2) else l.set pos x
    | none => l
  else l.set pos x
termination_by pos
decreasing_by lia

/-- what the while of _siftup does: the list and the place where newitem goes -/
def suGo {α : Type} (lt : α → α → Bool) (l : List α) (pos : Nat) : List α × Nat :=
  if h : 2 * pos + 1 < l.length then
    let a := l[2 * pos + 1]
    match l[2 * pos + 2]? with
    | some b => if lt a b then suGo lt (l.set pos a) (2 * pos + 1) else suGo lt (l.set pos b) (2 * pos + 2)
    | none => suGo lt (l.set pos a) (2 * pos + 1)
  else (l, pos)
termination_by l.length - pos
decreasing_by all_goals (simp only [List.length_set]; lia)
theorem sd_step {α : Type} {lt : α → α → Bool} {x y : α} {l : List α} {i : Nat} (hi : 0 < i) (hy : l[(i - 1) / 2]? = some y) (h : lt x y = true) : sdGo lt x l i = sdGo lt x (l.set i y) ((i - 1) / 2) := by
  rw [sdGo]; simp [hi, hy, h]
theorem sd_break {α : Type} {lt : α → α → Bool} {x y : α} {l : List α} {i : Nat} (hi : 0 < i) (hy : l[(i - 1) / 2]? = some y) (h : lt x y = false) : sdGo lt x l i = l.set i x := by
  rw [sdGo]; simp [hi, hy, h]
theorem sd_zero {α : Type} {lt : α → α → Bool} {x : α} {l : List α} {i : Nat} (hi : ¬ 0 < i) : sdGo lt x l i = l.set i x := by
  rw [sdGo]; simp [hi]
theorem su_left {α : Type} {lt : α → α → Bool} {a b : α} {l : List α} {i : Nat} (ha : l[2 * i + 1]? = some a) (hb : l[2 * i + 2]? = some b) (h : lt a b = true) : suGo lt l i = suGo lt (l.set i a) (2 * i + 1) := by
  obtain ⟨h1, e1⟩ := List.getElem?_eq_some_iff.mp ha
  rw [suGo]; simp [h1, hb, e1, h]
theorem su_right {α : Type} {lt : α → α → Bool} {a b : α} {l : List α} {i : Nat} (ha : l[2 * i + 1]? = some a) (hb : l[2 * i + 2]? = some b) (h : lt a b = false) : suGo lt l i = suGo lt (l.set i b) (2 * i + 2) := by
  obtain ⟨h1, e1⟩ := List.getElem?_eq_some_iff.mp ha
  rw [suGo]; simp [h1, hb, e1, h]
theorem su_one {α : Type} {lt : α → α → Bool} {a : α} {l : List α} {i : Nat} (ha : l[2 * i + 1]? = some a) (h : l.length ≤ 2 * i + 2) : suGo lt l i = suGo lt (l.set i a) (2 * i + 1) := by
  obtain ⟨h1, e1⟩ := List.getElem?_eq_some_iff.mp ha
  have hb : l[2 * i + 2]? = none := List.getElem?_eq_none h
  rw [suGo]; simp [h1, hb, e1]
theorem su_end {α : Type} {lt : α → α → Bool} {l : List α} {i : Nat} (h : l.length ≤ 2 * i + 1) : suGo lt l i = (l, i) := by
  rw [suGo]; simp [Nat.not_lt.mpr h]
end Mine
end
section
namespace Mine
section
variable {α : Type} {lt : α → α → Bool}
/-- a strict weak order, as its negation: le a b := lt b a = false -/
structure WO (lt : α → α → Bool) : Prop where
  asymm : ∀ {a b}, lt a b = true → lt b a = false
  trans : ∀ {a b c}, lt b a = false → lt c b = false → lt c a = false
def Hp (lt : α → α → Bool) (l : List α) : Prop := ∀ i a b, 0 < i → l[i]? = some a → l[(i - 1) / 2]? = some b → lt a b = false
theorem sd_heap (W : WO lt) {x : α} : ∀ (pos : Nat) (l : List α), pos < l.length →
    (∀ i a b, 0 < i → i ≠ pos → (i - 1) / 2 ≠ pos → l[i]? = some a → l[(i - 1) / 2]? = some b → lt a b = false) →
    (∀ i a, 0 < i → (i - 1) / 2 = pos → l[i]? = some a → lt a x = false) →
    (∀ i a b, 0 < i → (i - 1) / 2 = pos → 0 < pos → l[i]? = some a → l[(pos - 1) / 2]? = some b → lt a b = false) → Hp lt (sdGo lt x l pos) := by
  intro pos
  induction pos using Nat.strongRecOn with
  | ind pos ih =>
  intro l hlt h1 h2 h3
  by_cases h0 : 0 < pos
  · have hpl : (pos - 1) / 2 < l.length := by lia
    have hy := List.getElem?_eq_getElem hpl
    generalize l[(pos - 1) / 2] = y at hy
    cases hxy : lt x y with
    | true =>
      rw [sd_step h0 hy hxy]
      refine ih _ (by lia) _ (by rw [List.length_set]; exact hpl) ?_ ?_ ?_
      · intro i a b hi hne hnp ha hb
        rw [List.getElem?_set] at ha hb
        rw [if_neg (by lia)] at ha
        by_cases e : pos = (i - 1) / 2
        · rw [if_pos e, if_pos hlt] at hb
          cases hb
          exact h3 i a y hi e.symm h0 ha hy
        · rw [if_neg e] at hb
          exact h1 i a b hi (by rintro rfl; exact hnp rfl) (Ne.symm e) ha hb
      · intro i a hi hp ha
        rw [List.getElem?_set] at ha
        by_cases e : pos = i
        · rw [if_pos e, if_pos hlt] at ha
          cases ha
          exact W.asymm hxy
        · rw [if_neg e] at ha
          exact W.trans (W.asymm hxy) (h1 i a y hi (Ne.symm e) (by lia) ha (by rw [hp]; exact hy))
      · intro i a b hi hp hq ha hb
        rw [List.getElem?_set] at ha hb
        rw [if_neg (by lia)] at hb
        have hyb : lt y b = false := h1 _ y b hq (by lia) (by lia) hy hb
        by_cases e : pos = i
        · rw [if_pos e, if_pos hlt] at ha
          cases ha
          exact hyb
        · rw [if_neg e] at ha
          exact W.trans hyb (h1 i a y hi (Ne.symm e) (by lia) ha (by rw [hp]; exact hy))
    | false =>
      rw [sd_break h0 hy hxy]
      intro i a b hi ha hb
      rw [List.getElem?_set] at ha hb
      by_cases e : pos = i
      · rw [if_pos e, if_pos hlt] at ha
        rw [if_neg (by lia), ← e, hy] at hb
        cases ha; cases hb; exact hxy
      · rw [if_neg e] at ha
        by_cases e2 : pos = (i - 1) / 2
        · rw [if_pos e2, if_pos hlt] at hb
          cases hb
          exact h2 i a hi e2.symm ha
        · rw [if_neg e2] at hb
          exact h1 i a b hi (Ne.symm e) (Ne.symm e2) ha hb
  · rw [sd_zero h0]
    intro i a b hi ha hb
    rw [List.getElem?_set] at ha hb
    rw [if_neg (by lia)] at ha
    by_cases e2 : pos = (i - 1) / 2
    · rw [if_pos e2, if_pos hlt] at hb
      cases hb
      exact h2 i a hi e2.symm ha
    · rw [if_neg e2] at hb
      exact h1 i a b hi (by lia) (Ne.symm e2) ha hb
theorem set_swap_perm {l : List α} {i j : Nat} {x y : α} (hi : i < l.length) (hij : i ≠ j) (hy : l[j]? = some y) : ((l.set i y).set j x).Perm (l.set i x) := by
  obtain ⟨hj, e⟩ := List.getElem?_eq_some_iff.mp hy
  have h := List.set_set_perm (as := l.set i x) (i := i) (j := j) (by simpa using hi) (by simpa using hj)
  have e1 : (l.set i x)[j]'(by simpa using hj) = y := by rw [List.getElem_set_ne hij]; exact e
  have e2 : (l.set i x)[i]'(by simpa using hi) = x := by simp
  rw [e1, e2, List.set_set] at h
  exact h
theorem sd_perm {x : α} : ∀ (pos : Nat) (l : List α), pos < l.length → (sdGo lt x l pos).Perm (l.set pos x) := by
  intro pos
  induction pos using Nat.strongRecOn with
  | ind pos ih =>
  intro l hlt
  by_cases h0 : 0 < pos
  · have hpl : (pos - 1) / 2 < l.length := by lia
    have hy := List.getElem?_eq_getElem hpl
    generalize l[(pos - 1) / 2] = y at hy
    cases hxy : lt x y with
    | true =>
      rw [sd_step h0 hy hxy]
      exact (ih _ (by lia) _ (by simpa using hpl)).trans (set_swap_perm hlt (by lia) hy)
    | false => rw [sd_break h0 hy hxy]
  · rw [sd_zero h0]
theorem su_all (W : WO lt) (x : α) : ∀ (k : Nat) (pos : Nat) (l : List α), l.length ≤ pos + k → pos < l.length →
    (∀ i a b, 0 < i → i ≠ pos → (i - 1) / 2 ≠ pos → l[i]? = some a → l[(i - 1) / 2]? = some b → lt a b = false) →
    (∀ i a b, 0 < i → (i - 1) / 2 = pos → 0 < pos → l[i]? = some a → l[(pos - 1) / 2]? = some b → lt a b = false) →
    Hp lt (sdGo lt x ((suGo lt l pos).1.set (suGo lt l pos).2 x) (suGo lt l pos).2) ∧ (sdGo lt x ((suGo lt l pos).1.set (suGo lt l pos).2 x) (suGo lt l pos).2).Perm (l.set pos x) := by
  intro k
  induction k with
  | zero => intro pos l h hlt; lia
  | succ k ih =>
  intro pos l hk hlt h1 h3
  by_cases hc : 2 * pos + 1 < l.length
  · have ha := List.getElem?_eq_getElem hc
    generalize l[2 * pos + 1] = a at ha
    have go : ∀ (c : Nat) (z : α), (c = 2 * pos + 1 ∨ c = 2 * pos + 2) → l[c]? = some z → (∀ i b, 0 < i → (i - 1) / 2 = pos → l[i]? = some b → i ≠ c → lt b z = false) →
        Hp lt (sdGo lt x ((suGo lt (l.set pos z) c).1.set (suGo lt (l.set pos z) c).2 x) (suGo lt (l.set pos z) c).2) ∧ (sdGo lt x ((suGo lt (l.set pos z) c).1.set (suGo lt (l.set pos z) c).2 x) (suGo lt (l.set pos z) c).2).Perm (l.set pos x) := by
      intro c z hcz hz hmin
      have hcl : c < l.length := (List.getElem?_eq_some_iff.mp hz).1
      have r := ih c (l.set pos z) (by rw [List.length_set]; lia) (by rw [List.length_set]; exact hcl) ?_ ?_
      · exact ⟨r.1, r.2.trans (set_swap_perm hlt (by lia) hz)⟩
      · intro i u v hi hne hnp hu hv
        rw [List.getElem?_set] at hu hv
        by_cases e : pos = i
        · rw [if_pos e, if_pos hlt] at hu
          rw [if_neg (by lia)] at hv
          cases hu
          exact h3 c z v (by lia) (by lia) (by lia) hz (by rw [e]; exact hv)
        · rw [if_neg e] at hu
          by_cases e2 : pos = (i - 1) / 2
          · rw [if_pos e2, if_pos hlt] at hv
            cases hv
            exact hmin i u hi e2.symm hu hne
          · rw [if_neg e2] at hv
            exact h1 i u v hi (Ne.symm e) (Ne.symm e2) hu hv
      · intro i u v hi hp hc0 hu hv
        rw [List.getElem?_set] at hu hv
        rw [if_neg (by lia)] at hu
        rw [if_pos (by lia), if_pos hlt] at hv
        cases hv
        exact h1 i u z hi (by lia) (by lia) hu (by rw [hp]; exact hz)
    by_cases hc2 : 2 * pos + 2 < l.length
    · have hb := List.getElem?_eq_getElem hc2
      generalize l[2 * pos + 2] = b at hb
      cases hab : lt a b with
      | true =>
        rw [su_left ha hb hab]
        refine go _ a (.inl rfl) ha ?_
        intro i u hi hp hu hne
        obtain rfl : i = 2 * pos + 2 := by lia
        rw [hb] at hu; cases hu
        exact W.asymm hab
      | false =>
        rw [su_right ha hb hab]
        refine go _ b (.inr rfl) hb ?_
        intro i u hi hp hu hne
        obtain rfl : i = 2 * pos + 1 := by lia
        rw [ha] at hu; cases hu
        exact hab
    · rw [su_one ha (by lia)]
      refine go _ a (.inl rfl) ha ?_
      intro i u hi hp hu hne
      have := (List.getElem?_eq_some_iff.mp hu).1
      lia
  · rw [su_end (by lia)]
    have hp : (sdGo lt x (l.set pos x) pos).Perm (l.set pos x) := by
      have := sd_perm (lt := lt) (x := x) pos (l.set pos x) (by simpa using hlt)
      simpa using this
    refine ⟨sd_heap W pos _ (by simpa using hlt) ?_ ?_ ?_, hp⟩
    · intro i u v hi hne hnp hu hv
      rw [List.getElem?_set_ne (by lia)] at hu
      rw [List.getElem?_set_ne (by lia)] at hv
      exact h1 i u v hi hne hnp hu hv
    · intro i u hi hp hu
      have := (List.getElem?_eq_some_iff.mp hu).1
      rw [List.length_set] at this
      dsimp only at this
      lia
    · intro i u v hi hp h0 hu hv
      have := (List.getElem?_eq_some_iff.mp hu).1
      rw [List.length_set] at this
      dsimp only at this
      lia
theorem heap_min (W : WO lt) (hirr : ∀ a, lt a a = false) {l : List α} (h : Hp lt l) {x : α} (hx : l[0]? = some x) : ∀ (i : Nat) (a : α), l[i]? = some a → lt a x = false := by
  intro i
  induction i using Nat.strongRecOn with
  | ind i ih =>
  intro a ha
  by_cases h0 : 0 < i
  · have hl := (List.getElem?_eq_some_iff.mp ha).1
    have hp := List.getElem?_eq_getElem (l := l) (i := (i - 1) / 2) (by lia)
    exact W.trans (ih _ (by lia) _ hp) (h i a _ h0 ha hp)
  · obtain rfl : i = 0 := by lia
    rw [hx] at ha; cases ha; exact hirr _
end
end Mine
end
section
open PySem PySem.W PySem.Spec PySem.Calls PyProof.Rows
set_option Elab.async false
set_option maxRecDepth 100000
set_option maxHeartbeats 4000000
namespace Mine

/-- two tuples' items compared by < -/
inductive LtIs : List Value → List Value → Bool → Prop
  | nil : LtIs [] [] false
  | intEq {i : Int} {t u : Tok} {xs ys : List Value} {b : Bool} : LtIs xs ys b → LtIs (.int i t :: xs) (.int i u :: ys) b
  | intNe {i j : Int} {t u : Tok} {xs ys : List Value} : i ≠ j → LtIs (.int i t :: xs) (.int j u :: ys) (decide (i < j))
  | strEq {x : Str} {t u : Tok} {xs ys : List Value} {b : Bool} : LtIs xs ys b → LtIs (.str x t :: xs) (.str x u :: ys) b
  | strNe {x y : Str} {t u : Tok} {xs ys : List Value} : x ≠ y → LtIs (.str x t :: xs) (.str y u :: ys) (decide (x.cps.toList < y.cps.toList))

abbrev tupObj (vs : List Value) (n : Nat) : Obj := { cls := .type "tuple", data := .seq vs.toArray n }

section
variable {prog : Program} {w : World} {A : Around} {E : Value → Shared → Prop} {s : Shared}

theorem tup_lt_tree {a b : Addr} {xs ys : List Value} {n k : Nat} {c : Bool} {P : PySem.Fin → Shared → Prop} (ha : s.heap.get? a = some (tupObj xs n)) (hb : s.heap.get? b = some (tupObj ys k))
    (hc : LtIs xs ys c) (h : P (.done (.ret (.bool c))) s) :
    wpAny (model prog w) A (Builtin.«tuple.__lt__» ⟨[.ref a, .ref b], []⟩) P E s := by
  have hTb : s.TypeIs (.ref b) "tuple" := ⟨_, hb, rfl⟩
  show wpAny _ _ (isInstance (.ref b) (.type "tuple") >>= _) _ _ s
  refine wpAny_bind (wpAny_isInstance hTb isSubtype_tuple_tuple ?_)
  simp only [Bool.not_true, Bool.false_eq_true, if_false]
  refine wpAny_bind (wpAny_tupleItemsOf ha rfl ?_)
  refine wpAny_bind (wpAny_tupleItemsOf hb rfl ?_)
  refine wpAny_bind ?_
  refine wpAny_forIn_list _
    (fun rest r s' => r.1 = none ∧ s' = s ∧ ∃ xs' ys', rest = List.zip xs' ys' ∧ LtIs xs' ys' c ∧ (decide (xs'.length < ys'.length) = decide (xs.length < ys.length)))
    _ ?_ ?_ _ _ ⟨rfl, rfl, xs, ys, rfl, hc, rfl⟩
  · rintro ⟨u, v⟩ rest r s' ⟨hr, rfl, xs', ys', hz, hx', hlen⟩
    cases hx' with
    | nil => simp at hz
    | @intEq i t u' xs'' ys'' _ h2 =>
      simp only [List.zip_cons_cons, List.cons.injEq, Prod.mk.injEq] at hz
      obtain ⟨⟨rfl, rfl⟩, rfl⟩ := hz
      refine wpAny_bind (wpAny_eqBool_int ?_)
      simp only [beq_self_eq_true, Bool.not_true, Bool.false_eq_true, if_false]
      exact wpAny_pure ⟨rfl, rfl, xs'', ys'', rfl, h2, by simpa using hlen⟩
    | @intNe i j t u' xs'' ys'' h2 =>
      simp only [List.zip_cons_cons, List.cons.injEq, Prod.mk.injEq] at hz
      obtain ⟨⟨rfl, rfl⟩, rfl⟩ := hz
      refine wpAny_bind (wpAny_eqBool_int ?_)
      rw [beq_eq_false_iff_ne.mpr h2]
      simp only [Bool.not_false, if_true]
      refine wpAny_bind (wpAny_rule (wpAny_bind (PyProof.Rows.lt_int ?_)))
      exact wpAny_bind (wpAny_pure (wpAny_pure (wpAny_pure h)))
    | @strEq x t u' xs'' ys'' _ h2 =>
      simp only [List.zip_cons_cons, List.cons.injEq, Prod.mk.injEq] at hz
      obtain ⟨⟨rfl, rfl⟩, rfl⟩ := hz
      refine wpAny_bind (wpAny_eqBool_str ?_)
      simp only [decide_true, Bool.not_true, Bool.false_eq_true, if_false]
      exact wpAny_pure ⟨rfl, rfl, xs'', ys'', rfl, h2, by simpa using hlen⟩
    | @strNe x y t u' xs'' ys'' h2 =>
      simp only [List.zip_cons_cons, List.cons.injEq, Prod.mk.injEq] at hz
      obtain ⟨⟨rfl, rfl⟩, rfl⟩ := hz
      refine wpAny_bind (wpAny_eqBool_str ?_)
      rw [decide_eq_false h2]
      simp only [Bool.not_false, if_true]
      refine wpAny_bind (wpAny_rule (wpAny_bind (PyProof.Rows.lt_str ?_)))
      exact wpAny_bind (wpAny_pure (wpAny_pure (wpAny_pure h)))
  · rintro ⟨r1, r2⟩ s' ⟨hr, rfl, xs', ys', hz, hx', hlen⟩
    simp only at hr
    subst hr
    refine wpAny_pure ?_
    have hfin : decide (xs.length < ys.length) = c := by
      rw [← hlen]
      cases hx' <;> first | rfl | (simp at hz)
    show P (.done (.ret (.bool (decide (xs.toArray.size < ys.toArray.size))))) s'
    rw [List.size_toArray, List.size_toArray, hfin]; exact h

theorem tup_lt {a b : Addr} {xs ys : List Value} {n k : Nat} {c : Bool} {Q : Value → Shared → Prop} (ha : s.heap.get? a = some (tupObj xs n)) (hb : s.heap.get? b = some (tupObj ys k))
    (hc : LtIs xs ys c) (hu : A.units < cLine) (h : Q (.bool c) s) : wpAny (model prog w) A (compareOp .Lt (.ref a) (.ref b)) Q E s := by
  have hTa : s.TypeIs (.ref a) "tuple" := ⟨_, ha, rfl⟩
  have hTb : s.TypeIs (.ref b) "tuple" := ⟨_, hb, rfl⟩
  exact wpAny_richCompare_same_room (op := .Lt) hTa hTb F.slot_tuple_lt
    (wpAny_call_entry F.slot_tuple_lt hTa F.entry_tuple_lt (tup_lt_tree ha hb hc ⟨_, rfl, (fun e => nomatch e), h⟩) (F.args_tuple_lt_2 _ _)) hu
end

theorem sc {α : Type} {a : α} {R S : List α} (ha : a ∈ S) (hR : ∀ p ∈ R, p ∈ S) : ∀ p ∈ a :: R, p ∈ S := fun p hp => (List.mem_cons.mp hp).elim (fun e => e ▸ ha) (hR p)
theorem dlt {d a k K lim : Nat} (h : d + K < lim) (e : Nat.ble (a + k) K = true) : d + a + k < lim := by
  rw [Nat.add_assoc]; exact Nat.lt_of_le_of_lt (Nat.add_le_add_left (Nat.le_of_ble_eq_true e) d) h
theorem news_drop2 {h₀ h : Heap} {L : Addr} {a b : Addr × Obj} {R : List (Addr × Obj)} (N : News h₀ L h (a :: b :: R)) : News h₀ L h (a :: R) := fun p hp => N p (by
  rcases List.mem_cons.mp hp with e | hp
  · rw [e]; exact .head _
  · exact .tail _ (.tail _ hp))
theorem allLt_mem {d : Nat} {l : List (Addr × Obj)} (h : AllLt d l) : ∀ p ∈ l, p.1 < d := by
  induction l with
  | nil => intro p hp; exact nomatch hp
  | cons x l ih =>
    intro p hp
    have h1 : x.1 < d ∧ AllLt d l := h
    rcases List.mem_cons.mp hp with e | hp
    · rw [e]; exact h1.1
    · exact ih h1.2 p hp
def Stop (P : Prop) : Prop := P
theorem Stop.of {P : Prop} (h : Stop P) : P := h
theorem Stop.mk {P : Prop} (h : P) : Stop P := h
abbrev tp (dp un : Nat) (gd : Option (List Code)) (env : Env) (outer : List Env) : Around := { handled := none, depth := dp, frames := some (env :: outer), guards := gd, units := un }
abbrev Key := Int × Str
abbrev It := Addr × Key
def kLt (a b : Key) : Bool := if a.1 = b.1 then decide (a.2.cps.toList < b.2.cps.toList) else decide (a.1 < b.1)
def iLt (a b : It) : Bool := kLt a.2 b.2
def ItsIn (R : List (Addr × Obj)) (ps : List It) : Prop := ∀ q ∈ ps, ∃ n t u, (q.1, tupObj [.int q.2.1 t, .str q.2.2 u] n) ∈ R
abbrev refs (ps : List It) : Array Value := (ps.map fun q => Value.ref q.1).toArray
theorem ItsIn.set {R : List (Addr × Obj)} {ps : List It} {x : It} {i : Nat} (h : ItsIn R ps) (hx : ∃ n t u, (x.1, tupObj [.int x.2.1 t, .str x.2.2 u] n) ∈ R) : ItsIn R (ps.set i x) := by
  intro q hq
  rcases List.mem_or_eq_of_mem_set hq with h1 | h1
  · exact h q h1
  · subst h1; exact hx
theorem refs_get {ps : List It} {k : Nat} {x : It} (h : ps[k]? = some x) : (refs ps)[k]? = some (Value.ref x.1) := by
  simp [refs, h]
section
variable {prog : Program} {w : World} {A : Around} {E : Value → Shared → Prop} {s : Shared} {h₀ : Heap} {L l : Addr} {m : Str → Option Value} {R : List (Addr × Obj)} {ps : List It} {n : Nat}
theorem hp_sub {value slice : PySem.Expr} {k : Int} {u : Tok} {Q : Value → Shared → Prop} (N : News h₀ L s.heap ((l, listOf (refs ps) n) :: R)) (hI : ItsIn R ps)
    (h0 : 0 ≤ k) (h1 : k < (ps.length : Int)) (hfit : ps.length ≤ 1000) (h : ∀ x n t u, ps[k.toNat]? = some x → (x.1, tupObj [.int x.2.1 t, .str x.2.2 u] n) ∈ R → Q (.ref x.1) s)
    (hs : subscripted slice false (.ref l) (.int k u) = operate [.ref l, .int k u] (getItem (.ref l) (.int k u)) := by with_unfolding_all rfl) :
    wpAny (model prog w) A (subscriptTail value slice (.ref l) (.int k u)) Q E s := by
  have hl : s.heap.IsList l (refs ps) := ⟨_, (N _ (.head _)).1, rfl, n, rfl⟩
  have hk : k.toNat < ps.length := by lia
  have hx := List.getElem?_eq_getElem hk
  obtain ⟨n', t, u', hm⟩ := hI _ (List.getElem_mem hk)
  exact tail_any hl.typeIs slot_list_getitem.lookup (wpAny_getItem_list hl h0 (by lia) (refs_get hx) (h _ _ _ _ hx hm)) hs
theorem hp_len {Q : Value → Shared → Prop} (N : News h₀ L s.heap ((l, listOf (refs ps) n) :: R)) (hfit : ps.length ≤ 1000) (h : ∀ t tk, Q (.int (ps.length : Int) t) { s with toks := tk }) :
    wpAny (model prog w) A (call (.builtin "len") [.ref l]) Q E s := by
  have hl : s.heap.IsList l (refs ps) := ⟨_, (N _ (.head _)).1, rfl, n, rfl⟩
  have e : (refs ps).size = ps.length := by simp [refs]
  exact len_list hl (by rw [e]; lia) (by rw [e]; exact h _ _)
theorem hp_append {x : It} {Q : Value → Shared → Prop} (F : Fr h₀ L s.heap m) (N : News h₀ L s.heap ((l, listOf (refs ps) n) :: R)) (hR : ∀ q ∈ R, q.1 ≠ l) (hfit : ps.length ≤ 1000)
    (h : ∀ h', Fr h₀ L h' m → News h₀ L h' ((l, listOf (refs (ps ++ [x])) (n + 1)) :: R) → Q .none { s with heap := h' }) : wpAny (model prog w) A (call (.builtin "list.append") [.ref l, .ref x.1]) Q E s := by
  have e : (refs ps).push (.ref x.1) = refs (ps ++ [x]) := by simp [refs]
  exact append_K F N (.head hR) (fun h' F' N' => h h' F' (e ▸ N')) (by rw [sizeLine_eq]; simp [refs]; lia)
theorem hp_pop {qs : List It} {y : It} {Q : Value → Shared → Prop} (F : Fr h₀ L s.heap m) (N : News h₀ L s.heap ((l, listOf (refs (qs ++ [y])) n) :: R)) (hR : ∀ q ∈ R, q.1 ≠ l) (hfit : qs.length ≤ 1000)
    (h : ∀ h', Fr h₀ L h' m → News h₀ L h' ((l, listOf (refs qs) (n + 1)) :: R) → Q (.ref y.1) { s with heap := h' }) : wpAny (model prog w) A (call (.builtin "list.pop") [.ref l]) Q E s := by
  refine kl_pop (p := qs.map fun q => Value.ref q.1) (y := .ref y.1) F N ?_ (.head hR) ?_ h
  · have e := kpa_last (.ref y.1) (qs.map fun q => Value.ref q.1)
    simpa [refs] using e
  · rw [sizeLine_eq]; simp [refs]; lia
theorem hp_truthy {Q : Bool → Shared → Prop} (N : News h₀ L s.heap ((l, listOf (refs ps) n) :: R)) (hfit : ps.length ≤ 1000) (h : ∀ tk, Q (!ps.isEmpty) { s with toks := tk }) :
    wpAny (model prog w) A (truthy (.ref l)) Q E s := by
  have hl : s.heap.IsList l (refs ps) := ⟨_, (N _ (.head _)).1, rfl, n, rfl⟩
  refine wpAny_truthy_list hl (by simp [refs]; lia) ?_
  have e : (refs ps).isEmpty = ps.isEmpty := by simp [refs]
  rw [e]; exact h _
theorem half_rule {i : Nat} {t u : Tok} {Q : Value → Shared → Prop} (hi : 0 < i) (h : ∀ t tk, Q (.int (((i - 1) / 2 : Nat) : Int) t) { s with toks := tk }) :
    wpAny (model prog w) A (binaryOp .RShift (.int ((i : Int) - 1) t) (.int 1 u)) Q E s := by
  refine rshift_int (by decide) ?_
  have e : ((i : Int) - 1).fdiv (2 ^ Int.toNat 1) = (((i - 1) / 2 : Nat) : Int) := by
    rw [show (2 : Int) ^ Int.toNat 1 = 2 from rfl, Int.fdiv_eq_ediv_of_nonneg _ (by decide)]
    lia
  rw [e]
  exact h _ _
theorem hp_lt {a b : It} {na nb : Nat} {ta ua tb ub : Tok} {Q : Value → Shared → Prop} {o : Addr × Obj} (N : News h₀ L s.heap (o :: R)) (ha : (a.1, tupObj [.int a.2.1 ta, .str a.2.2 ua] na) ∈ R) (hb : (b.1, tupObj [.int b.2.1 tb, .str b.2.2 ub] nb) ∈ R)
    (hu : A.units < cLine) (h : Q (.bool (iLt a b)) s) : wpAny (model prog w) A (compareOp .Lt (.ref a.1) (.ref b.1)) Q E s := by
  refine tup_lt (N _ (.tail _ ha)).1 (N _ (.tail _ hb)).1 ?_ hu h
  unfold iLt kLt
  by_cases h1 : a.2.1 = b.2.1
  · rw [if_pos h1, h1]
    refine .intEq ?_
    by_cases h2 : a.2.2 = b.2.2
    · rw [h2, decide_eq_false (List.lt_irrefl _)]
      exact .strEq .nil
    · exact .strNe h2
  · rw [if_neg h1]
    exact .intNe h1
theorem hp_set {k : Int} {t : Tok} {x : It} {Q : Unit → Shared → Prop} (F : Fr h₀ L s.heap m) (N : News h₀ L s.heap ((l, listOf (refs ps) n) :: R)) (hR : ∀ q ∈ R, q.1 ≠ l)
    (h0 : 0 ≤ k) (h1 : k < (ps.length : Int)) (hfit : ps.length ≤ 1000) (h : ∀ h', Fr h₀ L h' m → News h₀ L h' ((l, listOf (refs (ps.set k.toNat x)) n) :: R) → Q () { s with heap := h' }) :
    wpAny (model prog w) A (setItem (.ref l) (.int k t) (.ref x.1)) Q E s := by
  have z := N (l, listOf (refs ps) n) (.head _)
  refine ki_setAt z.1 h0 (by lia) (by simp [refs]; lia) (h _ (F.change (Heap.SameBut.update ..) z.2.1 z.2.2) (ki_turn (pre := []) _ N (fun _ h => nomatch h) hR ?_ ?_))
  · show (refs ps).setIfInBounds k.toNat (.ref x.1) = refs (ps.set k.toNat x)
    apply Array.toList_inj.mp
    simp [refs, List.map_set]
  · simp [refs]
end
section
variable {prog : Program} {w : World} {A : Around} {E : Value → Shared → Prop} {s : Shared}
theorem pow2_mod {e k : Int} {t u : Tok} {Q : Value → Shared → Prop} (hk : 0 < k) (hk2 : k ≤ 1000) (h : Q (.int (2 ^ (e.fmod k).toNat) s.toks) { s with toks := s.toks + 1 }) :
    wpAny (model prog w) A (binaryOp .Pow (.int 2 t) (.int (e.fmod k) u)) Q E s := by
  have h0 := Int.fmod_nonneg_of_pos e hk
  have h1 := Int.fmod_lt_of_pos e hk
  exact pow_int_small h0 (by lia) (by decide) h
theorem meta_str : typeOf (.type "str") = pure (.type "type") := kitMeta_of (by decide +kernel)
theorem sub_str : isSubtype (.type "str") (.type "str") = pure true := by rw [isSubtype_type]; kernel_rfl
theorem issub_inner {k : Value} {dep : Int} {tk : Tok} {Q : PySem.Fin → Shared → Prop} (hk : k = .int dep tk) (hq : Q (.done (.ret (.bool true))) s) :
    wpAny (model prog w) A (Builtin.«issubclass.nested» ⟨[.type "str", .type "str", k], []⟩) Q E s := by
  subst hk
  have hm := meta_str
  have hself := sub_str
  unfold Builtin.«issubclass.nested»
  dsimp only
  rw [hm]
  refine wpAny_bind (wpAny_pure ?_)
  rw [if_pos (by decide)]
  refine wpAny_bind ?_
  k_delta "plainIsSubclass"
  refine wpAny_bind (wpAny_pure (wpAny_bind (wpAny_pure ?_)))
  rw [if_pos (by decide), hself]
  first | exact wpAny_pure (wpAny_pure hq) | exact wpAny_pure (wpAny_pure (wpAny_pure hq)) | exact wpAny_pure hq
theorem issub_call {Q : Value → Shared → Prop} (hq : Q (.bool true) s) : wpAny (model prog w) A (call (.builtin "issubclass.nested") [.type "str", .type "str", rawInt 1]) Q E s := by
  refine Calls.call_function_entry (by decide +kernel) (by decide +kernel) F.entry_issubclass_nested (by unfold argsOk; kernel_rfl) ?_
  exact issub_inner rfl ⟨_, rfl, hq⟩
theorem issub_str {D : Addr} {n : Nat} {Q : Value → Shared → Prop} (hD : s.heap.get? D = some (tupObj [.type "str", .type "bytes"] n)) (h : Q (.bool true) s) :
    wpAny (model prog w) A (call (.builtin "issubclass") [.type "str", .ref D]) Q E s := by
  refine call_issubclass (S := fun _ R s => s.heap.get? D = some (tupObj [.type "str", .type "bytes"] n) ∧ R (.ok (.ret (.bool true))) s) ?_ ⟨hD, h⟩
  intro prog w A R s hs
  obtain ⟨hD, hR⟩ := hs
  refine issubclass_outer ?_
  unfold Builtin.«issubclass.nested»
  dsimp only
  have hT : s.TypeIs (.ref D) "tuple" := ⟨_, hD, rfl⟩
  refine wpAny_bind (Looks.here (show Looks (model prog w) s.heap (typeOf (.ref D)) (Value.type "tuple") from (Looks.ld hD).andThen .now) ?_)
  rw [if_neg (by decide)]
  refine wpAny_bind ?_
  unfold Builtin.Builtins.unionMembers
  refine wpAny_bind (Looks.here (show Looks (model prog w) s.heap (typeOf (.ref D)) (Value.type "tuple") from (Looks.ld hD).andThen .now) ?_)
  rw [if_neg (by decide)]
  refine wpAny_pure ?_
  refine wpAny_bind (wpAny_isInstance hT isSubtype_tuple_tuple ?_)
  simp only [if_true]
  rw [if_neg (by decide)]
  refine wpAny_bind (wpAny_seqItems hD rfl ?_)
  refine wpAny_bind ?_
  simp only [Option.getD_some]
  rw [← Array.forIn_toList]
  show wpAny _ _ (forIn [Value.type "str", Value.type "bytes"] _ _) _ _ _
  rw [List.forIn_cons]
  refine wpAny_bind (wpAny_bind (issub_call (wpAny_bind (wpAny_truthy_bool ?_))))
  simp only [if_true]
  first | exact wpAny_bind (wpAny_pure (wpAny_pure (wpAny_pure (wpAny_pure hR)))) | exact wpAny_bind (wpAny_pure (wpAny_pure (wpAny_pure hR))) | exact wpAny_pure (wpAny_pure (wpAny_pure hR)) | skip
end
end Mine
end
section
open PySem PySem.W PySem.Spec PySem.Calls PyProof.Rows
set_option Elab.async false
set_option maxRecDepth 100000
set_option maxHeartbeats 4000000
set_option linter.unusedVariables false
namespace Mine

def ForPost (h₀ : Heap) (L : Addr) (s : Shared) (I : Addr) (oI : Obj) (S : List (Addr × Obj) → Prop) (rest : (Str → Option Value) → List (Addr × Obj) → Prop) (Q : Flow → Shared → Prop) (f : Flow) (s₂ : Shared) : Prop :=
  match f with
  | .brk => Q .next s₂
  | .ret v => Q (.ret v) s₂
  | _ => ∃ h' tk m' news', s₂ = { s with heap := h', toks := tk } ∧ Fr h₀ L h' m' ∧ News h₀ L h' ((I, oI) :: news') ∧ (∀ p ∈ news', p.1 ≠ I) ∧ S news' ∧ rest m' news'

def ForRest (prog : Program) (w : World) (A : Around) (h₀ : Heap) (env : Env) (target : PySem.Expr) (body orelse : List Stmt) (s : Shared) (I : Addr) (S : List (Addr × Obj) → Prop) (P : Nat → Value → Prop) (Q : Flow → Shared → Prop) :
    Nat → Nat → (Str → Option Value) → List (Addr × Obj) → Prop
  | 0, _, m, news => ∀ h tk, Fr h₀ env.locals h m → News h₀ env.locals h news → wpAny (model prog w) A (execs orelse env) Q (fun _ _ => False) { s with heap := h, toks := tk }
  | k + 1, i, m, news => ∀ v oI h tk, P i v → Fr h₀ env.locals h m → News h₀ env.locals h ((I, oI) :: news) → (∀ p ∈ news, p.1 ≠ I) →
      wpAny (model prog w) A (assign target env v) (fun _ s₂ => wpAny (model prog w) A (execs body env)
        (ForPost h₀ env.locals s I oI S (fun m' news' => ForRest prog w A h₀ env target body orelse s I S P Q k (i + 1) m' news') Q) (fun _ _ => False) s₂) (fun _ _ => False) { s with heap := h, toks := tk }

def ForGo (prog : Program) (w : World) (A : Around) (env : Env) (target : PySem.Expr) (body orelse : List Stmt) (Q : Flow → Shared → Prop) (it : Value) (s₂ : Shared) : Prop :=
  codeAny (model prog w) A (.forLoop target it body orelse env) (fun r s' => match r with | .ok f => Q f s' | .error _ => False) s₂

section
variable {prog : Program} {w : World} {A : Around} {E : Value → Shared → Prop} {s : Shared} {h₀ : Heap} {env : Env} {target iter : PySem.Expr} {body orelse : List Stmt} {pos : Pos} {Q : Flow → Shared → Prop} {m : Str → Option Value} {news : List (Addr × Obj)}

theorem for_in (h : wpAny (model prog w) A (eval iter env) (fun xv s₁ => wpAny (model prog w) A (pyIter xv) (ForGo prog w A env target body orelse Q) (fun _ _ => False) s₁) (fun _ _ => False) s)
    (hs : ∀ x, foldedSetIterable iter env x = pure x := by intro _; rfl) : wpAny (model prog w) A (exec (.For target iter body orelse pos) env) Q E s := by
  refine wpAny_noRaise (wpAny_For (wpAny_mono h (fun xv s₁ h₁ => wpAny_mono h₁ (fun it s₂ h₂ => codeAny_mono h₂ fun r s' hr => ?_) fun _ _ e => e) fun _ _ e => e) hs)
  cases r with
  | ok f => exact hr
  | error e => exact hr.elim

theorem for_U {I : Addr} {fp : List Addr} {n : Nat} {P : Nat → Value → Prop} {St : Nat → Heap → Prop} {S : List (Addr × Obj) → Prop}
    (W : Walks prog w A I fp [I] n P St) (hIo : ∀ i h, St i h → ∃ o, h.get? I = some o)
    (hSt : ∀ i h h' o nw, St i h → h.get? I = some o → h'.get? I = some o → (∀ b o, h₀.get? b = some o → h'.get? b = some o) → News h₀ env.locals h' nw → S nw → St i h')
    (hlet : ∀ i v (s : Shared) (R : Unit → Shared → Prop), P i v → St (i + 1) s.heap → R () s → wpAny (model prog w) A (letOwnedTupleGo target (.ref I) v) R (fun _ _ => False) s)
    (hIL : env.locals ≠ I) (hI₀ : h₀.get? I = none) : ∀ (k i : Nat) (h : Heap) (tk : Nat) (m : Str → Option Value) (news : List (Addr × Obj)), i + k = n → St i h → Fr h₀ env.locals h m → News h₀ env.locals h news → (∀ p ∈ news, p.1 ≠ I) → S news →
      ForRest prog w A h₀ env target body orelse s I S P Q k i m news →
      codeAny (model prog w) A (.forLoop target (.ref I) body orelse env) (fun r s' => match r with | .ok f => Q f s' | .error _ => False) { s with heap := h, toks := tk } := by
  intro k
  induction k with
  | zero =>
    intro i h tk m news hik hst F N off hS R
    obtain rfl : i = n := by lia
    refine codeAny_of_tree ?_
    show wpAny _ A ((forTurn target (.ref I) body orelse env).onRaise (fun x => do noteFrame x env; theTreesLotGoes x)) _ _ _
    refine wpAny_onRaise (wpAny_noRaise ?_)
    simp only [forTurn]
    refine wpAny_bind (wpAny_standAt (wpAny_bind (wpAny_onRaise (wpAny_noRaise (W.done _ _ _ hst fun h₂ tk₂ hk₂ => ?_)))))
    refine wpAny_pure ⟨rfl, ?_⟩
    have F₂ : Fr h₀ env.locals h₂ m := LCg.fr_but F hk₂ hIL hI₀
    have N₂ : News h₀ env.locals h₂ news := LCg.news_but N hk₂ off
    refine codeAny_of_tree ?_
    show wpAny _ A (do return PySem.Fin.done (← (execs orelse env).onRaise (fun x => do noteFrame x env; theTreesLotGoes x))) _ _ _
    refine wpAny_bind (wpAny_onRaise (wpAny_noRaise (wpAny_mono (R h₂ tk₂ F₂ N₂) (fun f s' hf => wpAny_pure hf) fun _ _ e => e)))
  | succ k ih =>
    intro i h tk m news hik hst F N off hS R
    refine codeAny_of_tree ?_
    show wpAny _ A ((forTurn target (.ref I) body orelse env).onRaise (fun x => do noteFrame x env; theTreesLotGoes x)) _ _ _
    refine wpAny_onRaise (wpAny_noRaise ?_)
    simp only [forTurn]
    refine wpAny_bind (wpAny_standAt (wpAny_bind (wpAny_onRaise (wpAny_noRaise (W.item i _ _ _ (by lia) hst fun v h₂ tk₂ hPv hst₂ hk₂ => ?_)))))
    have F₂ : Fr h₀ env.locals h₂ m := LCg.fr_but F hk₂ hIL hI₀
    have N₂ : News h₀ env.locals h₂ news := LCg.news_but N hk₂ off
    obtain ⟨oI, heI⟩ := hIo _ _ hst₂
    refine wpAny_bind (hlet i v _ _ hPv hst₂ ?_)
    have N₃ : News h₀ env.locals h₂ ((I, oI) :: news) := fun p hp => by
      rcases List.mem_cons.mp hp with rfl | hp
      · exact ⟨heI, Ne.symm hIL, hI₀⟩
      · exact N₂ p hp
    refine wpAny_bind (wpAny_mono (R v oI h₂ tk₂ hPv F₂ N₃ off) (fun _ s₂ h₃ => wpAny_bind (wpAny_mono h₃ (fun f s₃ h₄ => ?_) fun _ _ e => e)) fun _ _ e => e)
    have fin : (∃ h' tk m' news', s₃ = { s with heap := h', toks := tk } ∧ Fr h₀ env.locals h' m' ∧ News h₀ env.locals h' ((I, oI) :: news') ∧ (∀ p ∈ news', p.1 ≠ I) ∧ S news' ∧ ForRest prog w A h₀ env target body orelse s I S P Q k (i + 1) m' news') →
        codeAny (model prog w) A (.forLoop target (.ref I) body orelse env) (fun r s' => match r with | .ok f => Q f s' | .error _ => False) s₃ := by
      rintro ⟨h', tk', m', news', rfl, F', N', off', hS', R'⟩
      have N'' : News h₀ env.locals h' news' := fun p hp => N' p (.tail _ hp)
      exact ih (i + 1) h' tk' m' news' (by lia) (hSt _ _ _ _ _ hst₂ heI (N' _ (.head _)).1 F'.keep N'' hS') F' N'' off' hS' R'
    cases f with
    | next => exact wpAny_pure ⟨rfl, fin h₄⟩
    | cont => exact wpAny_pure ⟨rfl, fin h₄⟩
    | brk => exact wpAny_pure h₄
    | ret v => exact wpAny_pure h₄

theorem let_name {x : Str} {px : Pos} {it v : Value} {R : Unit → Shared → Prop} (h : R () s) : wpAny (model prog w) A (letOwnedTupleGo (.Name x px) it v) R E s := wpAny_pure h

theorem go_list {ax : Addr} {its : Array Value} {n : Nat} (hh : A.handled = none) (F : Fr h₀ env.locals s.heap m) (N : News h₀ env.locals s.heap news) (hm : (ax, listOf its n) ∈ news)
    (hlet : ∀ I i v (s : Shared) (R : Unit → Shared → Prop), s.heap.IsListIter I ax (i + 1) → R () s → wpAny (model prog w) A (letOwnedTupleGo target (.ref I) v) R (fun _ _ => False) s)
    (h : ∀ I h, (∀ p ∈ news, p.1 < I) → ForRest prog w A h₀ env target body orelse { s with heap := h } I (fun nw => (ax, listOf its n) ∈ nw) (fun i v => its[i]? = some v) Q its.size 0 m news) :
    wpAny (model prog w) A (pyIter (.ref ax)) (ForGo prog w A env target body orelse Q) E s := by
  have hol : s.heap.get? ax = some (listOf its n) := (N _ hm).1
  have hls : s.heap.IsList ax its := ⟨_, hol, rfl, n, rfl⟩
  have hlt : ax < s.heap.objs.size := Heap.lt_size hol
  refine wpAny_pyIter_list hls ?_
  refine for_U (s := { s with heap := _ }) (fp := [s.heap.objs.size, ax]) (St := fun i h => h.IsListIter s.heap.objs.size ax i ∧ h.IsList ax its) (Walks.list hh s.heap.objs.size ax (Nat.ne_of_lt hlt) its) (fun i h st => by obtain ⟨o, e, _⟩ := st.1; exact ⟨o, e⟩) ?_
    (fun i v s R _ st q => hlet _ i v s R st.1 q) (Nat.ne_of_lt F.ns.lt) (next_is_new F) its.size 0 _ _ m news (Nat.zero_add _) ⟨⟨_, Heap.get?_push_size _ rfl, rfl, rfl⟩, hls.push _⟩ (F.push _) (N.grown fun _ _ e => Heap.get?_push_of_some _ e)
    (fun p hp => Nat.ne_of_lt (Heap.lt_size (N p hp).1)) hm (h _ _ fun p hp => Heap.lt_size (N p hp).1)
  intro i h h' o nw st e e' k N' S'
  exact ⟨by obtain ⟨o', q, r⟩ := st.1; rw [e] at q; cases q; exact ⟨o, e', r⟩, ⟨_, (N' _ S').1, rfl, n, rfl⟩⟩

theorem go_tuple {ax : Addr} {its : Array Value} {n : Nat} (hh : A.handled = none) (F : Fr h₀ env.locals s.heap m) (N : News h₀ env.locals s.heap news) (hm : (ax, ({ cls := .type "tuple", data := .seq its n } : Obj)) ∈ news)
    (hlet : ∀ I i v (s : Shared) (R : Unit → Shared → Prop), s.heap.IsTupleIter I ax (i + 1) → R () s → wpAny (model prog w) A (letOwnedTupleGo target (.ref I) v) R (fun _ _ => False) s)
    (h : ∀ I h, (∀ p ∈ news, p.1 < I) → ForRest prog w A h₀ env target body orelse { s with heap := h } I (fun nw => (ax, ({ cls := .type "tuple", data := .seq its n } : Obj)) ∈ nw) (fun i v => its[i]? = some v) Q its.size 0 m news) :
    wpAny (model prog w) A (pyIter (.ref ax)) (ForGo prog w A env target body orelse Q) E s := by
  have hol : s.heap.get? ax = some { cls := .type "tuple", data := .seq its n } := (N _ hm).1
  have hls : s.heap.IsTuple ax its := ⟨_, hol, rfl, n, rfl⟩
  have hlt : ax < s.heap.objs.size := Heap.lt_size hol
  refine wpAny_pyIter_tuple hls ?_
  refine for_U (s := { s with heap := _ }) (fp := [s.heap.objs.size, ax]) (St := fun i h => h.IsTupleIter s.heap.objs.size ax i ∧ h.IsTuple ax its) (Walks.tuple hh s.heap.objs.size ax (Nat.ne_of_lt hlt) its) (fun i h st => by obtain ⟨o, e, _⟩ := st.1; exact ⟨o, e⟩) ?_
    (fun i v s R _ st q => hlet _ i v s R st.1 q) (Nat.ne_of_lt F.ns.lt) (next_is_new F) its.size 0 _ _ m news (Nat.zero_add _) ⟨⟨_, Heap.get?_push_size _ rfl, rfl, rfl⟩, ⟨_, Heap.get?_push_of_some _ hol, rfl, n, rfl⟩⟩ (F.push _) (N.grown fun _ _ e => Heap.get?_push_of_some _ e)
    (fun p hp => Nat.ne_of_lt (Heap.lt_size (N p hp).1)) hm (h _ _ fun p hp => Heap.lt_size (N p hp).1)
  intro i h h' o nw st e e' k N' S'
  exact ⟨by obtain ⟨o', q, r⟩ := st.1; rw [e] at q; cases q; exact ⟨o, e', r⟩, ⟨_, (N' _ S').1, rfl, n, rfl⟩⟩

theorem go_range {r : Addr} {a b : Int} {t u v : Tok} {n : Nat} (hh : A.handled = none) (F : Fr h₀ env.locals s.heap m) (N : News h₀ env.locals s.heap news) (hr : IsRange s.heap r a b 1 t u v) (hsm : Builtin.Range.small a b 1 = true) (hn : Builtin.Range.rangeSize a b 1 = ((n : Nat) : Int))
    (hlet : ∀ (it v : Value) (s : Shared) (R : Unit → Shared → Prop), R () s → wpAny (model prog w) A (letOwnedTupleGo target it v) R (fun _ _ => False) s)
    (h : ∀ I h, (∀ p ∈ news, p.1 < I) → ForRest prog w A h₀ env target body orelse { s with heap := h } I (fun _ => True) (fun i v => ∃ t, v = .int (a + (i : Int)) t) Q n 0 m news) :
    wpAny (model prog w) A (pyIter (.ref r)) (ForGo prog w A env target body orelse Q) E s := by
  refine wpAny_pyIter_range hr hsm ?_
  refine for_U (s := { s with heap := _ }) (fp := [s.heap.objs.size]) (St := fun i h => IsRangeIter h s.heap.objs.size (a + (i : Nat) * 1) ((n : Int) - (i : Nat)) 1) (LCg.range_walks hh a n) (fun i h st => ⟨_, st⟩) LCg.range_st
    (fun i v s R _ st q => hlet _ v s R q) (Nat.ne_of_lt F.ns.lt) (next_is_new F) n 0 _ _ m news (Nat.zero_add _) (by show IsRangeIter _ _ _ _ _; rw [hn]; simpa using Heap.get?_push_size _ rfl) (F.push _) (N.grown fun _ _ e => Heap.get?_push_of_some _ e)
    (fun p hp => Nat.ne_of_lt (Heap.lt_size (N p hp).1)) trivial (h _ _ fun p hp => Heap.lt_size (N p hp).1)
theorem sub_tup {D : Addr} {vs : List Value} {n : Nat} {k : Int} {u : Tok} {value slice : PySem.Expr} {R : Value → Shared → Prop} (hm : s.heap.get? D = some (tupObj vs n)) (h0 : 0 ≤ k) (h1 : k < (vs.length : Int)) (hfit : vs.length ≤ 1000) (h : ∀ v, vs[k.toNat]? = some v → R v s)
    (hs : subscripted slice false (.ref D) (.int k u) = operate [.ref D, .int k u] (getItem (.ref D) (.int k u)) := by with_unfolding_all rfl) :
    wpAny (model prog w) A (subscriptTail value slice (.ref D) (.int k u)) R E s := by
  have hk : k.toNat < vs.length := by lia
  have hx := List.getElem?_eq_getElem hk
  refine item_tupleT (s := s) (l := vs) (j := k.toNat) ⟨_, hm, rfl, n, rfl⟩ (by lia) (by lia) ?_ hx (h _ hx) hs
  unfold seqIndex?
  have e : ¬ k < 0 := by lia
  simp [e]; lia
theorem ForRest.inv {I : Addr} {S : List (Addr × Obj) → Prop} {P : Nat → Value → Prop} {n : Nat} (J : Nat → (Str → Option Value) → List (Addr × Obj) → Prop)
    (turn : ∀ i m news v oI h tk, i < n → J i m news → P i v → Fr h₀ env.locals h m → News h₀ env.locals h ((I, oI) :: news) → (∀ p ∈ news, p.1 ≠ I) →
      wpAny (model prog w) A (assign target env v) (fun _ s₂ => wpAny (model prog w) A (execs body env) (ForPost h₀ env.locals s I oI S (fun m' news' => J (i + 1) m' news') Q) (fun _ _ => False) s₂) (fun _ _ => False) { s with heap := h, toks := tk })
    (done : ∀ m news h tk, J n m news → Fr h₀ env.locals h m → News h₀ env.locals h news → wpAny (model prog w) A (execs orelse env) Q (fun _ _ => False) { s with heap := h, toks := tk }) :
    ∀ k i m news, i + k = n → J i m news → ForRest prog w A h₀ env target body orelse s I S P Q k i m news := by
  intro k
  induction k with
  | zero =>
    intro i m news hik hJ h tk F N
    obtain rfl : i = n := by lia
    exact done m news h tk hJ F N
  | succ k ih =>
    intro i m news hik hJ v oI h tk hP F N off
    refine wpAny_mono (turn i m news v oI h tk (by lia) hJ hP F N off) (fun _ s₂ h₂ => wpAny_mono h₂ (fun f s₃ h₃ => ?_) fun _ _ e => e) fun _ _ e => e
    have up : (∃ h' tk m' news', s₃ = { s with heap := h', toks := tk } ∧ Fr h₀ env.locals h' m' ∧ News h₀ env.locals h' ((I, oI) :: news') ∧ (∀ p ∈ news', p.1 ≠ I) ∧ S news' ∧ J (i + 1) m' news') →
        (∃ h' tk m' news', s₃ = { s with heap := h', toks := tk } ∧ Fr h₀ env.locals h' m' ∧ News h₀ env.locals h' ((I, oI) :: news') ∧ (∀ p ∈ news', p.1 ≠ I) ∧ S news' ∧ ForRest prog w A h₀ env target body orelse s I S P Q k (i + 1) m' news') := by
      rintro ⟨h', tk', m', news', e, F', N', o', S', J'⟩
      exact ⟨h', tk', m', news', e, F', N', o', S', ih _ _ _ (by lia) J'⟩
    cases f with
    | next => exact up h₃
    | cont => exact up h₃
    | brk => exact h₃
    | ret v => exact h₃
theorem str_add {a b : Str} {t u : Tok} {R : Value → Shared → Prop} (hl : a.length + b.length ≤ 100000) (h : ∀ t tk, R (.str (a ++ b) t) { s with toks := tk }) : wpAny (model prog w) A (binaryOp .Add (.str a t) (.str b u)) R E s :=
  PyProof.Rows.add_str h (by rw [sizeLine_eq]; lia)
theorem rwx_item {k : Int} {j : Nat} {t u : Tok} {value slice : PySem.Expr} {R : Value → Shared → Prop} (h0 : 0 ≤ k) (h1 : k < 3) (hj : k.toNat = j) (h : ∀ g t' tk, g = [Str.ofString "r", Str.ofString "w", Str.ofString "x"].getD j Str.empty → g.length ≤ 1 → R (.str g t') { s with toks := tk })
    (hs : subscripted slice false (.str (Str.ofString "rwx") t) (.int k u) = operate [.str (Str.ofString "rwx") t, .int k u] (getItem (.str (Str.ofString "rwx") t) (.int k u)) := by with_unfolding_all rfl) :
    wpAny (model prog w) A (subscriptTail value slice (.str (Str.ofString "rwx") t) (.int k u)) R E s := by
  have e : k = 0 ∨ k = 1 ∨ k = 2 := by lia
  refine tail_any (typeIs_str s _ t) F.slot_str_getitem.lookup ?_ hs
  subst hj
  rcases e with rfl | rfl | rfl
  · exact P.getItem_str (c := 114) (by decide) (by decide +kernel) (h _ _ _ (by decide +kernel) (by decide +kernel))
  · exact P.getItem_str (c := 119) (by decide) (by decide +kernel) (h _ _ _ (by decide +kernel) (by decide +kernel))
  · exact P.getItem_str (c := 120) (by decide) (by decide +kernel) (h _ _ _ (by decide +kernel) (by decide +kernel))
end
end Mine
end
section
open PySem PySem.W PySem.Spec PySem.Calls PyProof.Rows
open AutoSeq1 (wpAny_loadPart')
set_option Elab.async false
set_option maxRecDepth 100000
set_option maxHeartbeats 4000000
set_option linter.unusedVariables false
namespace Mine
theorem meets_enumT (l : Addr) (items : Array Value) (n : Nat) (dct : Option Addr) (sl : Array (Option Value)) :
    Meets (Builtin.«enumerate.__new__» ⟨[.type "enumerate", .ref l], []⟩) (fun _ R s => s.heap.get? l = some { cls := .type "tuple", dict := dct, data := .seq items n, slots := sl } ∧
      R (.ok (.ret (.ref (s.heap.push { cls := .type "tuple_iterator", data := .fields #[.ref l, .int 0 0] }).objs.size)))
        { s with heap := (s.heap.push { cls := .type "tuple_iterator", data := .fields #[.ref l, .int 0 0] }).push { cls := .type "enumerate", data := .fields #[.none, .bool false, .ref s.heap.objs.size, rawInt 0, .none, .none] } }) :=
  .of_wp fun prog w A R s h => by
    obtain ⟨hp, g, d, tk, os⟩ := s; obtain ⟨hl, h⟩ := h
    have hsub := sub_enumerate
    have hL : Heap.IsTuple (Shared.heap ⟨hp, g, d, tk, os⟩) l items := ⟨_, hl, rfl, n, rfl⟩
    wp_walk using wpAny_loadPart' hl
    refine wpAny_stack_any fun st => wpAny_pure ?_
    split
    · rename_i c _ _ _ _ _
      cases (c == Value.type "enumerate")
      · wp_walk using wpAny_loadPart' hl, wpAny_pyIter_tuple hL
        exact ⟨_, rfl, h⟩
      · wp_walk using wpAny_loadPart' hl, wpAny_pyIter_tuple hL
        exact ⟨_, rfl, h⟩
    · wp_walk using wpAny_loadPart' hl, wpAny_pyIter_tuple hL
      exact ⟨_, rfl, h⟩

section
variable {prog : Program} {w : World} {A : Around} {E : Value → Shared → Prop} {s : Shared}
theorem nextOfT_item {it l : Addr} {i : Nat} {items} {x : Value} {Q : Value → Shared → Prop} (hit : s.heap.IsTupleIter it l i)
    (hl : s.heap.IsTuple l items) (hx : items[i]? = some x)
    (hQ : ∀ h', h'.IsTupleIter it l (i + 1) → Heap.SameBut it s.heap h' → Q x { s with heap := h' }) :
    wpAny (model prog w) A (Builtin.SmallTypes.nextOf (.ref it)) Q E s := by
  obtain ⟨o, ho, hc, hd⟩ := id hit
  obtain ⟨ol, hol, _, nl, hdl⟩ := hl
  unfold Builtin.SmallTypes.nextOf
  refine wpAny_bind (wpAny_callSpecial?_slot (name := Str.ofString "__next__") hit.typeIs F.slot_tuple_iterator_next
    (wpAny_call_entry F.slot_tuple_iterator_next hit.typeIs F.entry_tuple_iterator_next ?_ (F.args_tuple_iterator_next_1 _)))
  show wpAny _ _ (field (.ref it) 0 >>= _) _ _ s
  refine wpAny_bind (wpAny_field ho hd (x := .ref l) rfl ?_)
  show wpAny _ _ (if (Value.ref l == Value.none) = true then _ else _) _ _ s
  rw [if_neg (show ¬ ((Value.ref l == Value.none) = true) from Bool.false_ne_true)]
  show wpAny _ _ (field (.ref it) 1 >>= _) _ _ s
  refine wpAny_bind (wpAny_field ho hd (x := .int i 0) rfl ?_)
  show wpAny _ _ (seqItems? (.ref l) >>= _) _ _ s
  refine wpAny_bind (wpAny_seqItems hol hdl ?_)
  simp only [Int.toNat_natCast, hx]
  refine wpAny_bind (wpAny_setField ho hd (by simp) (wpAny_pure ⟨x, rfl, wpAny_pure (hQ _ ?_ (Heap.SameBut.update ..))⟩))
  exact ⟨_, Heap.get?_update_self _ ho (Obj.isFreed_of_fields (Obj.data_mapFields hd _)), (Obj.cls_mapFields ..).trans hc, by
    rw [Obj.data_mapFields hd]; simp [rawInt]⟩

theorem nextOfT_end {it l : Addr} {i : Nat} {items} {Q : Value → Shared → Prop} (hh : A.handled = none)
    (hit : s.heap.IsTupleIter it l i) (hl : s.heap.IsTuple l items) (hx : items[i]? = none)
    (hE : ∀ h' e, Heap.ExtBut it s.heap h' → (∃ o, h'.get? e = some o ∧ o.cls = .type "StopIteration") → E (.ref e) { s with heap := h' }) :
    wpAny (model prog w) A (Builtin.SmallTypes.nextOf (.ref it)) Q E s := by
  obtain ⟨o, ho, hc, hd⟩ := id hit
  obtain ⟨ol, hol, _, nl, hdl⟩ := hl
  unfold Builtin.SmallTypes.nextOf
  refine wpAny_bind (wpAny_callSpecial?_slot (name := Str.ofString "__next__") hit.typeIs F.slot_tuple_iterator_next
    (wpAny_call_entry F.slot_tuple_iterator_next hit.typeIs F.entry_tuple_iterator_next ?_ (F.args_tuple_iterator_next_1 _)))
  show wpAny _ _ (field (.ref it) 0 >>= _) _ _ s
  refine wpAny_bind (wpAny_field ho hd (x := .ref l) rfl ?_)
  show wpAny _ _ (if (Value.ref l == Value.none) = true then _ else _) _ _ s
  rw [if_neg (show ¬ ((Value.ref l == Value.none) = true) from Bool.false_ne_true)]
  show wpAny _ _ (field (.ref it) 1 >>= _) _ _ s
  refine wpAny_bind (wpAny_field ho hd (x := .int i 0) rfl ?_)
  show wpAny _ _ (seqItems? (.ref l) >>= _) _ _ s
  refine wpAny_bind (wpAny_seqItems hol hdl ?_)
  simp only [Int.toNat_natCast, hx]
  refine wpAny_bind (wpAny_rule (wpAny_bind (wpAny_setField ho hd (by simp) ?_)))
  show wpAny _ _ (newExc (.type "StopIteration") [] >>= _) _ _ _
  refine wpAny_bind ?_
  simp only [newExc, newTuple]
  refine wpAny_bind (wpAny_newObj_type ?_ (by size_fits))
  refine wpAny_bind (m := firstArgMember _ _) (wpAny_of_eq (a := Value.none) (by first | rfl | (simp only [firstArgMember]; rfl)) ?_)
  refine wpAny_newObj_type ?_ (by size_fits)
  simp only [raiseNew]
  refine wpAny_bind (wpAny_handled ?_)
  first | rw [show A.in1.handled = none from hh] | rw [hh]
  refine wpAny_bind (wpAny_pure (wpAny_throw ?_))
  exact hE _ _ (((Heap.SameBut.update ..).extBut.push _).push _) ⟨_, Heap.get?_push_size _ rfl, rfl⟩

theorem enumT_next {e it l : Addr} {i : Nat} {items : Array Value} {x old : Value} {Q : Value → Shared → Prop}
    (he : IsEnum s.heap e it i old) (hit : s.heap.IsTupleIter it l i) (hl : s.heap.IsTuple l items) (hx : items[i]? = some x) (hne : e ≠ it)
    (hQ : ∀ h', IsEnumOut h' e it ((i : Int) + 1) x s.heap.objs.size → h'.IsTupleIter it l (i + 1) →
      h'.get? s.heap.objs.size = some { cls := .type "tuple", data := .seq #[.int i s.toks, x] } → h'.objs.size = s.heap.objs.size + 1 →
      (∀ b o, b ≠ e → b ≠ it → s.heap.get? b = some o → h'.get? b = some o) → Q (.ref s.heap.objs.size) { s with heap := h', toks := s.toks + 1 }) :
    wpAny (model prog w) A (Builtin.«enumerate.__next__» ⟨[.ref e], []⟩) (fun fin s' => ∃ v, fin = .done (.ret v) ∧ Q v s') E s := by
  obtain ⟨hp, g, d, tk, os⟩ := s
  show wpAny _ _ (field (.ref e) 2 >>= _) _ _ _
  refine wpAny_bind (wpAny_field he rfl (x := .ref it) rfl ?_)
  refine wpAny_bind (nextOfT_item hit hl hx fun h₁ hit₁ hs₁ => ?_)
  replace hs₁ : Heap.SameBut it hp h₁ := hs₁
  have he₁ : IsEnum h₁ e it i old := (hs₁.2 e hne).trans he
  show wpAny _ _ (field (.ref e) 3 >>= _) _ _ ⟨h₁, g, d, tk, os⟩
  refine wpAny_bind (wpAny_field he₁ rfl (x := rawInt i) rfl ?_)
  show wpAny _ _ (field (.ref e) 4 >>= _) _ _ ⟨h₁, g, d, tk, os⟩
  refine wpAny_bind (wpAny_field he₁ rfl (x := .none) rfl ?_)
  show wpAny _ _ (mkInt i >>= _) _ _ ⟨h₁, g, d, tk, os⟩
  refine wpAny_bind (wpAny_mkInt ?_)
  show wpAny _ _ (setField (.ref e) 3 (rawInt ((i : Int) + 1)) >>= _) _ _ ⟨h₁, g, d, tk + 1, os⟩
  refine wpAny_bind (wpAny_setField_rec he₁ (by simp) fun h₂ he₂ hs₂ => ?_)
  replace hs₂ : Heap.SameBut e h₁ h₂ := hs₂
  replace he₂ : IsEnum h₂ e it ((i : Int) + 1) old := he₂
  show wpAny _ _ (setField (.ref e) 4 .none >>= _) _ _ ⟨h₂, g, d, tk + 1, os⟩
  refine wpAny_bind (wpAny_setField_rec he₂ (by simp) fun h₃ he₃ hs₃ => ?_)
  replace hs₃ : Heap.SameBut e h₂ h₃ := hs₃
  replace he₃ : IsEnum h₃ e it ((i : Int) + 1) old := he₃
  show wpAny _ _ (newTuple [.int i tk, x] >>= _) _ _ ⟨h₃, g, d, tk + 1, os⟩
  refine wpAny_bind (wpAny_newTuple ?_)
  have he₄ : IsEnum (h₃.push { cls := .type "tuple", data := .seq #[.int i tk, x] }) e it ((i : Int) + 1) old := Heap.get?_push_of_some _ he₃
  generalize hh₄ : h₃.push { cls := .type "tuple", data := .seq #[.int i tk, x] } = h₄ at he₄
  have hsz : h₃.objs.size = hp.objs.size := by rw [hs₃.1, hs₂.1, hs₁.1]
  have hel : e < hp.objs.size := Heap.lt_size he
  have ht₄ : h₄.get? hp.objs.size = some { cls := .type "tuple", data := .seq #[.int i tk, x] } := by rw [← hh₄, ← hsz]; exact Heap.get?_push_size _ rfl
  have hz₄ : h₄.objs.size = hp.objs.size + 1 := by rw [← hh₄, Heap.size_push, hsz]
  have hk₄ : ∀ b o, b ≠ e → b ≠ it → hp.get? b = some o → h₄.get? b = some o := fun b o hbe hbi hb => by
    rw [← hh₄]; exact Heap.get?_push_of_some _ (hs₃.extBut b o hbe (hs₂.extBut b o hbe (hs₁.extBut b o hbi hb)))
  have hit₄ : h₄.IsTupleIter it l (i + 1) := by
    rw [← hh₄]; obtain ⟨o, ho, r⟩ := (hit₁.extBut hs₂.extBut (Ne.symm hne)).extBut hs₃.extBut (Ne.symm hne); exact ⟨o, Heap.get?_push_of_some _ ho, r⟩
  show wpAny _ _ (Builtin.SmallTypes.ownedTupleIsFree (.ref e) >>= _) _ _ ⟨h₄, g, d, tk + 1, os⟩
  rw [hsz]
  clear hh₄ he₃ hs₃ he₂ hs₂ he₁ hs₁ hit₁ hsz h₃ h₂ h₁
  refine wpAny_bind ?_
  · unfold Builtin.SmallTypes.ownedTupleIsFree
    refine wpAny_bind (wpAny_field he₄ rfl (x := .none) rfl (wpAny_pure ?_))
    simp only [if_true]
    refine wpAny_bind (wpAny_rule ?_)
    refine wpAny_bind (wpAny_field he₄ rfl (x := old) rfl ?_)
    refine wpAny_bind (wpAny_setField_rec he₄ (by simp) fun h₅ he₅ hs₅ => ?_)
    replace hs₅ : Heap.SameBut e h₄ h₅ := hs₅
    replace he₅ : IsEnum h₅ e it ((i : Int) + 1) x := he₅
    show wpAny _ _ (Builtin.SmallTypes.ownedTupleHandOut (.ref e) (.ref hp.objs.size) >>= _) _ _ ⟨h₅, g, d, tk + 1, os⟩
    refine wpAny_bind ?_
    · unfold Builtin.SmallTypes.ownedTupleHandOut
      refine wpAny_bind (wpAny_setField_rec he₅ (by simp) fun h₆ he₆ hs₆ => ?_)
      replace hs₆ : Heap.SameBut e h₅ h₆ := hs₆
      replace he₆ : IsEnumOut h₆ e it ((i : Int) + 1) x hp.objs.size := he₆
      refine wpAny_setField_rec he₆ (by simp) fun h₇ he₇ hs₇ => ?_
      replace hs₇ : Heap.SameBut e h₆ h₇ := hs₇
      replace he₇ : IsEnumOut h₇ e it ((i : Int) + 1) x hp.objs.size := he₇
      refine wpAny_bind (wpAny_letGo (wpAny_pure ⟨_, rfl, hQ h₇ he₇ ?_ ?_ ?_ ?_⟩))
      · exact ((hit₄.extBut hs₅.extBut (Ne.symm hne)).extBut hs₆.extBut (Ne.symm hne)).extBut hs₇.extBut (Ne.symm hne)
      · exact hs₇.extBut _ _ (Nat.ne_of_gt hel) (hs₆.extBut _ _ (Nat.ne_of_gt hel) (hs₅.extBut _ _ (Nat.ne_of_gt hel) ht₄))
      · rw [hs₇.1, hs₆.1, hs₅.1, hz₄]
      · exact fun b o hbe hbi hb => hs₇.extBut b o hbe (hs₆.extBut b o hbe (hs₅.extBut b o hbe (hk₄ b o hbe hbi hb)))

theorem enumT_item {e it l : Addr} {i : Nat} {items : Array Value} {x old : Value} {Q : Option Value → Shared → Prop}
    (he : IsEnum s.heap e it i old) (hit : s.heap.IsTupleIter it l i) (hl : s.heap.IsTuple l items) (hx : items[i]? = some x) (hne : e ≠ it)
    (hQ : ∀ h', IsEnumOut h' e it ((i : Int) + 1) x s.heap.objs.size → h'.IsTupleIter it l (i + 1) →
      h'.get? s.heap.objs.size = some { cls := .type "tuple", data := .seq #[.int i s.toks, x] } → h'.objs.size = s.heap.objs.size + 1 →
      (∀ b o, b ≠ e → b ≠ it → s.heap.get? b = some o → h'.get? b = some o) → Q (some (.ref s.heap.objs.size)) { s with heap := h', toks := s.toks + 1 }) :
    wpAny (model prog w) A (pyNext (.ref e)) Q E s := by
  have hT : s.TypeIs (.ref e) "enumerate" := ⟨_, he, rfl⟩
  unfold pyNext
  exact wpAny_bind (wpAny_attempt (wpAny_callSpecial?_slot (name := Str.ofString "__next__") hT F.slot_enumerate_next
    (wpAny_call_entry F.slot_enumerate_next hT F.entry_enumerate_next
      (enumT_next he hit hl hx hne fun h' a b c d k => wpAny_pure (hQ h' a b c d k)) (F.args_enumerate_next_1 _))))

theorem enumT_end {e it l : Addr} {i : Nat} {items : Array Value} {old : Value} {Q : Option Value → Shared → Prop} (hh : A.handled = none)
    (he : IsEnum s.heap e it i old) (hit : s.heap.IsTupleIter it l i) (hl : s.heap.IsTuple l items) (hx : items[i]? = none)
    (hQ : ∀ h', Heap.ExtBut it s.heap h' → Q none { s with heap := h' }) : wpAny (model prog w) A (pyNext (.ref e)) Q E s := by
  have hT : s.TypeIs (.ref e) "enumerate" := ⟨_, he, rfl⟩
  unfold pyNext
  refine wpAny_bind (wpAny_attempt (wpAny_callSpecial?_slot (name := Str.ofString "__next__") hT F.slot_enumerate_next
    (wpAny_call_entry F.slot_enumerate_next hT F.entry_enumerate_next ?_ (F.args_enumerate_next_1 _))))
  show wpAny _ _ (field (.ref e) 2 >>= _) _ _ _
  refine wpAny_bind (wpAny_field he rfl (x := .ref it) rfl ?_)
  refine wpAny_bind (nextOfT_end hh hit hl hx fun h' x he' hx' => ?_)
  obtain ⟨o, ho, hc⟩ := hx'
  refine wpAny_bind (wpAny_isInstance (T := "StopIteration") (b := true) ⟨o, ho, hc⟩ isSubtype_stop ?_)
  exact wpAny_pure (hQ _ he')
theorem call_enumT {l : Addr} {items : Array Value} {Q : Value → Shared → Prop} (hL : s.heap.IsTuple l items)
    (h : ∀ h', IsEnum h' (s.heap.objs.size + 1) s.heap.objs.size 0 .none → h'.IsTupleIter s.heap.objs.size l 0 → h'.objs.size = s.heap.objs.size + 2 →
      (∀ b o, s.heap.get? b = some o → h'.get? b = some o) → Q (.ref (s.heap.objs.size + 1)) { s with heap := h' }) :
    wpAny (model prog w) A (call (.type "enumerate") [.ref l]) Q E s := by
  obtain ⟨⟨c, dct, dt, sl⟩, hl, hc, n, hd⟩ := hL
  replace hc : c = .type "tuple" := hc
  replace hd : dt = .seq items n := hd
  subst hc hd
  refine callType_new F.called_enumerate (by decide) (F.typeCall_enumerate_1 _) (F.newCall_enumerate_1 _) (fun obj => F.args_object_init_2 obj _) F.entry_enumerate_new
    (meets_enumT l items n dct sl) ⟨hl, ?_⟩
  have hz : (s.heap.push { cls := .type "tuple_iterator", data := .fields #[.ref l, .int 0 0] }).objs.size = s.heap.objs.size + 1 := Heap.size_push ..
  show _ ∧ _
  rw [hz]
  have he : IsEnum ((s.heap.push { cls := .type "tuple_iterator", data := .fields #[.ref l, .int 0 0] }).push
      { cls := .type "enumerate", data := .fields #[.none, .bool false, .ref s.heap.objs.size, rawInt 0, .none, .none] }) (s.heap.objs.size + 1) s.heap.objs.size 0 .none := by
    have := Heap.get?_push_size (s.heap.push { cls := .type "tuple_iterator", data := .fields #[.ref l, .int 0 0] })
      (o := { cls := .type "enumerate", data := .fields #[.none, .bool false, .ref s.heap.objs.size, rawInt 0, .none, .none] }) rfl
    rw [hz] at this; exact this
  refine ⟨⟨_, he, rfl⟩, h _ he ⟨_, Heap.get?_push_of_some _ (Heap.get?_push_size _ rfl), rfl, rfl⟩ (by rw [Heap.size_push, hz]) fun b o x => Heap.get?_push_of_some _ (Heap.get?_push_of_some _ x)⟩

end

def ForPostE (h₀ : Heap) (L : Addr) (s : Shared) (own : List (Addr × Obj)) (rest : (Str → Option Value) → List (Addr × Obj) → Prop) (Q : Flow → Shared → Prop) (f : Flow) (s₂ : Shared) : Prop :=
  match f with
  | .brk => Q .next s₂
  | .ret v => Q (.ret v) s₂
  | _ => ∃ h' tk m' news', s₂ = { s with heap := h', toks := tk } ∧ Fr h₀ L h' m' ∧ News h₀ L h' (own ++ news') ∧ (∀ p ∈ own, ∀ q ∈ news', q.1 ≠ p.1) ∧ rest m' news'

def ForRestE (prog : Program) (w : World) (A : Around) (h₀ : Heap) (env : Env) (xi xv : Str) (body orelse : List Stmt) (s : Shared) (e it : Addr) (its : Array Value) (Q : Flow → Shared → Prop) :
    Nat → Nat → (Str → Option Value) → List (Addr × Obj) → Prop
  | 0, _, m, news => ∀ h tk, Fr h₀ env.locals h m → News h₀ env.locals h news → wpAny (model prog w) A (execs orelse env) Q (fun _ _ => False) { s with heap := h, toks := tk }
  | k + 1, i, m, news => ∀ v t oe oi h tk, its[i]? = some v → Fr h₀ env.locals h (fun y => if y = xv then some v else if y = xi then some (.int (i : Int) t) else m y) → News h₀ env.locals h ((e, oe) :: (it, oi) :: news) →
      (∀ q ∈ news, q.1 ≠ e ∧ q.1 ≠ it) →
      wpAny (model prog w) A (execs body env) (ForPostE h₀ env.locals s [(e, oe), (it, oi)] (fun m' news' => ForRestE prog w A h₀ env xi xv body orelse s e it its Q k (i + 1) m' news') Q) (fun _ _ => False) { s with heap := h, toks := tk }

section
variable {prog : Program} {w : World} {A : Around} {E : Value → Shared → Prop} {s : Shared} {h₀ : Heap} {env : Env} {xi xv : Str} {pi pv pt : Pos} {x1 : Nat} {iter : PySem.Expr} {body orelse : List Stmt} {pos : Pos} {Q : Flow → Shared → Prop} {m : Str → Option Value} {news : List (Addr × Obj)}

theorem forE_U {e it ax : Addr} {its : Array Value} (hh : A.handled = none) (hsrc : h₀.IsTuple ax its) (hxi : env.kindOf xi = some .local) (hxv : env.kindOf xv = some .local)
    (hp : (env.scope.kind == .class || (env.scope.kind == .module && env.locals != env.globals)) = false)
    (hei : e ≠ it) (heL : e ≠ env.locals) (hiL : it ≠ env.locals) (he₀ : h₀.get? e = none) (hi₀ : h₀.get? it = none) :
    ∀ (k i : Nat) (h : Heap) (tk : Nat) (old : Value) (m : Str → Option Value) (news : List (Addr × Obj)), i + k = its.size → IsEnum h e it (i : Int) old → h.IsTupleIter it ax i → Fr h₀ env.locals h m → News h₀ env.locals h news → (∀ q ∈ news, q.1 ≠ e ∧ q.1 ≠ it) →
      ForRestE prog w A h₀ env xi xv body orelse s e it its Q k i m news →
      codeAny (model prog w) A (.forLoop (.Tuple [.Name xi pi, .Name xv pv] x1 pt) (.ref e) body orelse env) (fun r s' => match r with | .ok f => Q f s' | .error _ => False) { s with heap := h, toks := tk } := by
  intro k
  induction k with
  | zero =>
    intro i h tk old m news hik he hit F N off R
    obtain rfl : i = its.size := by lia
    have hl : h.IsTuple ax its := let ⟨o, ho, r⟩ := hsrc; ⟨o, F.keep _ _ ho, r⟩
    refine codeAny_of_tree ?_
    show wpAny _ A ((forTurn (.Tuple [.Name xi pi, .Name xv pv] x1 pt) (.ref e) body orelse env).onRaise (fun x => do noteFrame x env; theTreesLotGoes x)) _ _ _
    refine wpAny_onRaise (wpAny_noRaise ?_)
    simp only [forTurn]
    refine wpAny_bind (wpAny_standAt (wpAny_bind (wpAny_onRaise (wpAny_noRaise (enumT_end (s := { s with heap := h, toks := tk }) hh he hit hl (by simp) fun h₂ hk₂ => ?_)))))
    refine wpAny_pure ⟨rfl, ?_⟩
    have hk₃ : ∀ b o, b ∉ [it] → h.get? b = some o → h₂.get? b = some o := fun b o hb q => hk₂ b o (by simpa using hb) q
    have F₂ : Fr h₀ env.locals h₂ m := LCg.fr_but F hk₃ (Ne.symm hiL) hi₀
    have N₂ : News h₀ env.locals h₂ news := LCg.news_but N hk₃ fun p hp => (off p hp).2
    refine codeAny_of_tree ?_
    show wpAny _ A (do return PySem.Fin.done (← (execs orelse env).onRaise (fun x => do noteFrame x env; theTreesLotGoes x))) _ _ _
    refine wpAny_bind (wpAny_onRaise (wpAny_noRaise (wpAny_mono (R h₂ tk F₂ N₂) (fun f s' hf => wpAny_pure hf) fun _ _ e => e)))
  | succ k ih =>
    intro i H tk old m news hik he hit F N off R
    have hlt : i < its.size := by lia
    have hv : its[i]? = some its[i] := by simp [hlt]
    have hl : H.IsTuple ax its := let ⟨o, ho, r⟩ := hsrc; ⟨o, F.keep _ _ ho, r⟩
    have heH : e < H.objs.size := Heap.lt_size he
    have hLH : env.locals < H.objs.size := F.ns.lt
    have hiH : it < H.objs.size := by obtain ⟨oi, hoi, _⟩ := id hit; exact Heap.lt_size hoi
    refine codeAny_of_tree ?_
    show wpAny _ A ((forTurn (.Tuple [.Name xi pi, .Name xv pv] x1 pt) (.ref e) body orelse env).onRaise (fun x => do noteFrame x env; theTreesLotGoes x)) _ _ _
    refine wpAny_onRaise (wpAny_noRaise ?_)
    simp only [forTurn]
    refine wpAny_bind (wpAny_standAt (wpAny_bind (wpAny_onRaise (wpAny_noRaise (enumT_item (s := { s with heap := H, toks := tk }) he hit hl hv hei fun h₁ heo hit₁ ht₁ hz₁ hk₁ => ?_)))))
    dsimp only at hz₁ ht₁ heo
    refine wpAny_bind (wpAny_letOwnedTupleGo_enum heo fun h₂ he₂ hs₂ => ?_)
    replace hs₂ : Heap.SameBut e h₁ h₂ := hs₂
    have ht₂ : h₂.IsTuple H.objs.size #[.int i tk, its[i]] := ⟨_, (hs₂.2 _ (Nat.ne_of_gt heH)).trans ht₁, rfl, _, rfl⟩
    have hz₂ : h₂.objs.size = H.objs.size + 1 := hs₂.1.trans hz₁
    refine wpAny_bind (wpAny_assign_Tuple hh ht₂ rfl rfl fun h₃ hx₃ => ?_)
    replace hx₃ : Heap.ExtBut h₂.objs.size h₂ h₃ := hx₃
    have old₃ : ∀ b o, b < H.objs.size → h₂.get? b = some o → h₃.get? b = some o := fun b o hb x => hx₃ b o (by rw [hz₂]; exact Nat.ne_of_lt (Nat.lt_succ_of_lt hb)) x
    have keep₃ : ∀ b o, b ≠ e → b ≠ it → H.get? b = some o → h₃.get? b = some o := fun b o hbe hbi q => old₃ b o (Heap.lt_size q) (hs₂.extBut b o hbe (hk₁ b o hbe hbi q))
    have F₃ : Fr h₀ env.locals h₃ m := ⟨F.ns.at' fun o q => keep₃ _ o (Ne.symm heL) (Ne.symm hiL) q, fun b o q => keep₃ b o (fun z => by rw [z, he₀] at q; cases q) (fun z => by rw [z, hi₀] at q; cases q) (F.keep b o q), F.above⟩
    show wpAny _ A (do holding [its[i]] (assign (.Name xi pi) env (.int i tk)); do holding [] (assign (.Name xv pv) env its[i]); pure ()) _ _ _
    refine wpAny_bind (wpAny_holding (wpAny_assign_Name (wpAny_storeName_local hxi F₃.ns (fun h₄ hn₄ hs₄ => ?_) hp)))
    replace hs₄ : Heap.SameBut env.locals h₃ h₄ := hs₄
    refine wpAny_bind (wpAny_holding (wpAny_assign_Name (wpAny_storeName_local hxv hn₄ (fun h₅ hn₅ hs₅ => wpAny_pure ?_) hp)))
    replace hs₅ : Heap.SameBut env.locals h₄ h₅ := hs₅
    have up : ∀ b o, b ≠ env.locals → h₃.get? b = some o → h₅.get? b = some o := fun b o hbL q => hs₅.extBut b o hbL (hs₄.extBut b o hbL q)
    have F₅ : Fr h₀ env.locals h₅ (fun y => if y = xv then some its[i] else if y = xi then some (.int (i : Int) tk) else m y) := (F₃.set hn₄ hs₄).set hn₅ hs₅
    have he₅ : IsEnum h₅ e it ((i : Int) + 1) its[i] := up e _ heL (old₃ e _ heH he₂)
    have hit₅ : h₅.IsTupleIter it ax (i + 1) := by
      obtain ⟨o, ho, r⟩ := hit₁.extBut hs₂.extBut (Ne.symm hei)
      exact ⟨o, up it o hiL (old₃ it o hiH ho), r⟩
    obtain ⟨oi, hoi, hri⟩ := hit₅
    obtain ⟨oe, hoe, hre⟩ : ∃ oe, h₅.get? e = some oe ∧ ∀ h' : Heap, h'.get? e = some oe → IsEnum h' e it (((i + 1 : Nat)) : Int) its[i] := ⟨_, he₅, fun _ q => q⟩
    have N₅ : News h₀ env.locals h₅ ((e, oe) :: (it, oi) :: news) := fun p hp => by
      rcases List.mem_cons.mp hp with rfl | hp
      · exact ⟨hoe, heL, he₀⟩
      · rcases List.mem_cons.mp hp with rfl | hp
        · exact ⟨hoi, hiL, hi₀⟩
        · exact ⟨up _ _ (N p hp).2.1 (keep₃ _ _ (off p hp).1 (off p hp).2 (N p hp).1), (N p hp).2⟩
    refine wpAny_bind (wpAny_mono (R its[i] tk oe oi h₅ _ hv F₅ N₅ off) (fun f s₃ h₄' => ?_) fun _ _ e => e)
    have fin : (∃ h' tk m' news', s₃ = { s with heap := h', toks := tk } ∧ Fr h₀ env.locals h' m' ∧ News h₀ env.locals h' ([(e, oe), (it, oi)] ++ news') ∧ (∀ p ∈ [(e, oe), (it, oi)], ∀ q ∈ news', q.1 ≠ p.1) ∧ ForRestE prog w A h₀ env xi xv body orelse s e it its Q k (i + 1) m' news') →
        codeAny (model prog w) A (.forLoop (.Tuple [.Name xi pi, .Name xv pv] x1 pt) (.ref e) body orelse env) (fun r s' => match r with | .ok f => Q f s' | .error _ => False) s₃ := by
      rintro ⟨h', tk', m', news', rfl, F', N', off', R'⟩
      have ze : h'.get? e = some oe := (N' (e, oe) (.head _)).1
      have zi : h'.get? it = some oi := (N' (it, oi) (.tail _ (.head _))).1
      refine ih (i + 1) h' tk' its[i] m' news' (by lia) (hre h' ze) ⟨oi, zi, hri⟩ F' (fun p hp => N' p (.tail _ (.tail _ hp))) (fun q hq => ⟨off' _ (.head _) q hq, off' _ (.tail _ (.head _)) q hq⟩) R'
    cases f with
    | next => exact wpAny_pure ⟨rfl, fin h₄'⟩
    | cont => exact wpAny_pure ⟨rfl, fin h₄'⟩
    | brk => exact wpAny_pure h₄'
    | ret v => exact wpAny_pure h₄'

theorem go_enumT {ax : Addr} {its : Array Value} (hh : A.handled = none) (F : Fr h₀ env.locals s.heap m) (N : News h₀ env.locals s.heap news) (hsrc : h₀.IsTuple ax its) (hxi : env.kindOf xi = some .local) (hxv : env.kindOf xv = some .local)
    (hp : (env.scope.kind == .class || (env.scope.kind == .module && env.locals != env.globals)) = false)
    (h : ∀ I h, (∀ p ∈ news, p.1 < I) → ForRestE prog w A h₀ env xi xv body orelse { s with heap := h } (I + 1) I its Q its.size 0 m news) :
    wpAny (model prog w) A (call (.type "enumerate") [.ref ax]) (fun xv' s₁ => wpAny (model prog w) A (pyIter xv') (ForGo prog w A env (.Tuple [.Name xi pi, .Name xv pv] x1 pt) body orelse Q) (fun _ _ => False) s₁) (fun _ _ => False) s := by
  have hl : s.heap.IsTuple ax its := let ⟨o, ho, r⟩ := hsrc; ⟨o, F.keep _ _ ho, r⟩
  refine call_enumT hl fun h' hE hI hsz hk => ?_
  refine wpAny_pyIter_enum hE ?_
  have hL : env.locals < s.heap.objs.size := F.ns.lt
  have new : ∀ b, s.heap.objs.size ≤ b → h₀.get? b = none := fun b hb => by
    cases q : h₀.get? b with
    | none => rfl
    | some o => exact absurd (Heap.lt_size (F.keep b o q)) (Nat.not_lt.mpr hb)
  refine forE_U (s := { s with heap := h' }) hh hsrc hxi hxv hp (Nat.succ_ne_self _) (Nat.ne_of_gt (Nat.lt_succ_of_lt hL)) (Nat.ne_of_gt hL) (new _ (Nat.le_succ _)) (new _ (Nat.le_refl _)) its.size 0 h' _ .none m news (Nat.zero_add _) hE hI ?_ (fun p hp => ⟨hk _ _ (N p hp).1, (N p hp).2⟩)
    (fun q hq => ⟨Nat.ne_of_lt (Nat.lt_succ_of_lt (Heap.lt_size (N q hq).1)), Nat.ne_of_lt (Heap.lt_size (N q hq).1)⟩) (h _ _ fun p hp => Heap.lt_size (N p hp).1)
  exact ⟨F.ns.at' fun o q => hk _ _ q, fun b o q => hk _ _ (F.keep b o q), F.above⟩
theorem let_tupleiter {elts : List PySem.Expr} {I ax : Addr} {i : Nat} {v : Value} {R : Unit → Shared → Prop} (hit : s.heap.IsTupleIter I ax i) (h : R () s) : wpAny (model prog w) A (letOwnedTupleGo (.Tuple elts x1 pt) (.ref I) v) R E s := by
  obtain ⟨o, ho, hc, hd⟩ := hit
  unfold letOwnedTupleGo
  cases v <;> first
    | exact wpAny_pure h
    | (refine wpAny_bind (wpAny_load ho ?_)
       rw [hc, hd]
       dsimp only
       rw [if_neg (by simp)]
       exact wpAny_pure h)
end
end Mine
end
section
open PySem PySem.W PySem.Spec PySem.Calls PyProof.Rows
set_option Elab.async false
set_option maxRecDepth 100000
set_option maxHeartbeats 4000000
set_option linter.unusedVariables false
namespace Mine
section
variable {prog : Program} {w : World} {A : Around} {E : Value → Shared → Prop} {s : Shared} {h₀ : Heap} {env : Env} {target : PySem.Expr} {xi xv : Str} {pi pv pt : Pos} {x1 : Nat} {body orelse : List Stmt} {pos : Pos} {Q : Flow → Shared → Prop} {m : Str → Option Value} {news : List (Addr × Obj)}

theorem assign_two {a : Addr} {x y : Value} {R : Unit → Shared → Prop} (hh : A.handled = none) (F : Fr h₀ env.locals s.heap m) (N : News h₀ env.locals s.heap news) (ht : s.heap.IsTuple a #[x, y])
    (hxi : env.kindOf xi = some .local) (hxv : env.kindOf xv = some .local) (hp : (env.scope.kind == .class || (env.scope.kind == .module && env.locals != env.globals)) = false)
    (h : ∀ h' tk, Fr h₀ env.locals h' (fun z => if z = xv then some y else if z = xi then some x else m z) → News h₀ env.locals h' news → R () { s with heap := h', toks := tk }) :
    wpAny (model prog w) A (assign (.Tuple [.Name xi pi, .Name xv pv] x1 pt) env (.ref a)) R E s := by
  refine wpAny_assign_Tuple hh ht rfl rfl fun h₃ hx₃ => ?_
  have keep : ∀ b o, s.heap.get? b = some o → h₃.get? b = some o := fun b o q => hx₃ b o (Nat.ne_of_lt (Heap.lt_size q)) q
  have F₃ : Fr h₀ env.locals h₃ m := ⟨F.ns.at' fun o q => keep _ o q, fun b o q => keep b o (F.keep b o q), F.above⟩
  have N₃ : News h₀ env.locals h₃ news := fun p hp => ⟨keep _ _ (N p hp).1, (N p hp).2⟩
  show wpAny _ A (do holding [y] (assign (.Name xi pi) env x); do holding [] (assign (.Name xv pv) env y); pure ()) _ _ _
  refine wpAny_bind (wpAny_holding (wpAny_assign_Name (wpAny_storeName_local hxi F₃.ns (fun h₄ hn₄ hs₄ => ?_) hp)))
  refine wpAny_bind (wpAny_holding (wpAny_assign_Name (wpAny_storeName_local hxv hn₄ (fun h₅ hn₅ hs₅ => wpAny_pure ?_) hp)))
  exact h h₅ _ ((F₃.set hn₄ hs₄).set hn₅ hs₅) ((N₃.set hs₄).set hs₅)

theorem go_tupleB {ax : Addr} {its : Array Value} (hh : A.handled = none) (F : Fr h₀ env.locals s.heap m) (N : News h₀ env.locals s.heap news) (hsrc : h₀.IsTuple ax its)
    (hlet : ∀ I i v (s : Shared) (R : Unit → Shared → Prop), s.heap.IsTupleIter I ax (i + 1) → R () s → wpAny (model prog w) A (letOwnedTupleGo target (.ref I) v) R (fun _ _ => False) s)
    (h : ∀ I h, (∀ p ∈ news, p.1 < I) → ForRest prog w A h₀ env target body orelse { s with heap := h } I (fun _ => True) (fun i v => its[i]? = some v) Q its.size 0 m news) :
    wpAny (model prog w) A (pyIter (.ref ax)) (ForGo prog w A env target body orelse Q) E s := by
  have hls : s.heap.IsTuple ax its := let ⟨o, ho, r⟩ := hsrc; ⟨o, F.keep _ _ ho, r⟩
  have hlt : ax < s.heap.objs.size := by obtain ⟨o, ho, _⟩ := hls; exact Heap.lt_size ho
  refine wpAny_pyIter_tuple hls ?_
  refine for_U (s := { s with heap := _ }) (fp := [s.heap.objs.size, ax]) (St := fun i h => h.IsTupleIter s.heap.objs.size ax i ∧ h.IsTuple ax its) (Walks.tuple hh s.heap.objs.size ax (Nat.ne_of_lt hlt) its) (fun i h st => by obtain ⟨o, e, _⟩ := st.1; exact ⟨o, e⟩) ?_
    (fun i v s R _ st q => hlet _ i v s R st.1 q) (Nat.ne_of_lt F.ns.lt) (next_is_new F) its.size 0 _ _ m news (Nat.zero_add _) ⟨⟨_, Heap.get?_push_size _ rfl, rfl, rfl⟩, hls.push _⟩ (F.push _) (N.grown fun _ _ e => Heap.get?_push_of_some _ e)
    (fun p hp => Nat.ne_of_lt (Heap.lt_size (N p hp).1)) trivial (h _ _ fun p hp => Heap.lt_size (N p hp).1)
  intro i h h' o nw st e e' k N' S'
  exact ⟨by obtain ⟨o', q, r⟩ := st.1; rw [e] at q; cases q; exact ⟨o, e', r⟩, let ⟨o, ho, r⟩ := hsrc; ⟨o, k _ _ ho, r⟩⟩

theorem ForRestE.inv {e it : Addr} {its : Array Value} (J : Nat → (Str → Option Value) → List (Addr × Obj) → Prop)
    (turn : ∀ i m news v t oe oi h tk, its[i]? = some v → J i m news → Fr h₀ env.locals h (fun y => if y = xv then some v else if y = xi then some (.int (i : Int) t) else m y) → News h₀ env.locals h ((e, oe) :: (it, oi) :: news) → (∀ q ∈ news, q.1 ≠ e ∧ q.1 ≠ it) →
      wpAny (model prog w) A (execs body env) (ForPostE h₀ env.locals s [(e, oe), (it, oi)] (fun m' news' => J (i + 1) m' news') Q) (fun _ _ => False) { s with heap := h, toks := tk })
    (done : ∀ m news h tk, J its.size m news → Fr h₀ env.locals h m → News h₀ env.locals h news → wpAny (model prog w) A (execs orelse env) Q (fun _ _ => False) { s with heap := h, toks := tk }) :
    ∀ k i m news, i + k = its.size → J i m news → ForRestE prog w A h₀ env xi xv body orelse s e it its Q k i m news := by
  intro k
  induction k with
  | zero =>
    intro i m news hik hJ h tk F N
    obtain rfl : i = its.size := by lia
    exact done m news h tk hJ F N
  | succ k ih =>
    intro i m news hik hJ v t oe oi h tk hv F N off
    refine wpAny_mono (turn i m news v t oe oi h tk hv hJ F N off) (fun f s₃ h₃ => ?_) fun _ _ e => e
    have up : (∃ h' tk m' news', s₃ = { s with heap := h', toks := tk } ∧ Fr h₀ env.locals h' m' ∧ News h₀ env.locals h' ([(e, oe), (it, oi)] ++ news') ∧ (∀ p ∈ [(e, oe), (it, oi)], ∀ q ∈ news', q.1 ≠ p.1) ∧ J (i + 1) m' news') →
        (∃ h' tk m' news', s₃ = { s with heap := h', toks := tk } ∧ Fr h₀ env.locals h' m' ∧ News h₀ env.locals h' ([(e, oe), (it, oi)] ++ news') ∧ (∀ p ∈ [(e, oe), (it, oi)], ∀ q ∈ news', q.1 ≠ p.1) ∧ ForRestE prog w A h₀ env xi xv body orelse s e it its Q k (i + 1) m' news') := by
      rintro ⟨h', tk', m', news', e', F', N', o', J'⟩
      exact ⟨h', tk', m', news', e', F', N', o', ih _ _ _ (by lia) J'⟩
    cases f with
    | next => exact up h₃
    | cont => exact up h₃
    | brk => exact h₃
    | ret v => exact h₃

theorem StrsAre.snoc {vs : List Value} {ys : List Str} {y : Str} {t : Tok} (h : StrsAre vs ys) : StrsAre (vs ++ [.str y t]) (ys ++ [y]) := by
  induction h with
  | nil => exact .cons y t .nil
  | cons z u _ ih => exact .cons z u ih
theorem ls_append {l : Addr} {L : Addr} {vs : List Value} {n : Nat} {R : List (Addr × Obj)} {x : Value} {K : Value → Shared → Prop} (F : Fr h₀ L s.heap m) (N : News h₀ L s.heap ((l, listOf vs.toArray n) :: R)) (hR : ∀ q ∈ R, q.1 ≠ l) (hfit : vs.length ≤ 1000)
    (h : ∀ h', Fr h₀ L h' m → News h₀ L h' ((l, listOf (vs ++ [x]).toArray (n + 1)) :: R) → K .none { s with heap := h' }) : wpAny (model prog w) A (call (.builtin "list.append") [.ref l, x]) K E s := by
  have e : vs.toArray.push x = (vs ++ [x]).toArray := by simp
  exact append_K F N (.head hR) (fun h' F' N' => h h' F' (e ▸ N')) (by rw [sizeLine_eq]; simp; lia)
end
end Mine
end
section
open PySem PySem.W PySem.Spec PySem.Calls PyProof.Rows
set_option Elab.async false
set_option maxRecDepth 100000
set_option maxHeartbeats 4000000
set_option linter.unusedVariables false
namespace Mine
section
variable {prog : Program} {w : World} {A : Around} {s : Shared} {h₀ : Heap} {L : Addr} {m : Str → Option Value} {env : Env} {elt : PySem.Expr} {x : Str} {scope : Scope} {cl : List (Str × Addr)} {S : List (Addr × Obj) → Prop} {P : Nat → Value → Prop} {Fin : List Value → List (Addr × Obj) → Prop} {n : Nat}
theorem comp_inv (J : Nat → List Value → List (Addr × Obj) → Prop)
    (turn : ∀ i ys news v I oI C oC D m₂ h tk (E' : Value → Shared → Prop), i < n → J i ys news → P i v → LCg.NsObj oC m₂ → m₂ x = some v → Fr h₀ L h m → News h₀ L h ((I, oI) :: (C, oC) :: (D, LCg.lst ys) :: news) → LCg.Off3 I C D news → ((@Ne Nat I C) ∧ (@Ne Nat I D) ∧ (@Ne Nat C D)) →
      wpAny (model prog w) A (eval elt (compEnvC scope cl C env)) (LCg.CompEnd h₀ L m { s with heap := h, toks := tk } I oI C oC D (LCg.lst ys) S (fun y news' => J (i + 1) (ys ++ [y]) news')) E' { s with heap := h, toks := tk })
    (done : ∀ ys news, J n ys news → Fin ys news) :
    ∀ k i ys news, i + k = n → J i ys news → LCg.CompRest prog w A h₀ L m env elt x scope cl s S P Fin k i ys news := by
  intro k
  induction k with
  | zero =>
    intro i ys news hik hJ
    obtain rfl : i = n := by lia
    exact done ys news hJ
  | succ k ih =>
    intro i ys news hik hJ
    refine LCg.CompRest.succ ?_
    intro v I oI C oC D m₂ h tk E' hP hC hx F N off ne
    refine wpAny_mono (turn i ys news v I oI C oC D m₂ h tk E' (by lia) hJ hP hC hx F N off ne) (fun y s₂ h₂ => ?_) fun _ _ e => e
    obtain ⟨h', tk', news', e, F', N', off', hS', hJ'⟩ := h₂
    exact ⟨h', tk', news', e, F', N', off', hS', ih _ _ _ (by lia) hJ'⟩
end
theorem ints_snoc {vs : List Value} {ns : List Int} {x : Int} {t : Tok} (h : IntsAre vs ns) : IntsAre (vs ++ [.int x t]) (ns ++ [x]) := by
  induction h with
  | nil => exact .cons x t .nil
  | cons z u _ ih => exact .cons z u ih
theorem ints_app {vs ws : List Value} {ns ms : List Int} (h : IntsAre vs ns) (k : IntsAre ws ms) : IntsAre (vs ++ ws) (ns ++ ms) := by
  induction h with
  | nil => exact k
  | cons z u _ ih => exact .cons z u ih
theorem off1_mem {D : Addr} : ∀ {l : List (Addr × Obj)}, LCg.Off1 D l → ∀ p ∈ l, p.1 ≠ D
  | [], _, _, h => nomatch h
  | _ :: _, x, p, h => by
    rcases List.mem_cons.mp h with rfl | h
    · exact x.1
    · exact off1_mem x.2 p h
theorem take_snoc_map {α β : Type} (l : List α) (f : α → β) (i : Nat) (hi : i < l.length) : (l.take i).map f ++ [f l[i]] = (l.take (i + 1)).map f := by
  rw [List.take_add_one, List.getElem?_eq_getElem hi, List.map_append]; rfl
end Mine
end
section
open PySem PySem.W PySem.Spec PySem.Calls PyProof.Rows
set_option Elab.async false
set_option maxRecDepth 100000
set_option maxHeartbeats 4000000
set_option linter.unusedVariables false
namespace Mine
theorem news_swap {h₀ h : Heap} {L : Addr} {a b : Addr × Obj} {R : List (Addr × Obj)} (N : News h₀ L h (a :: b :: R)) : News h₀ L h (b :: a :: R) := fun p hp => N p (by
  rcases List.mem_cons.mp hp with e | hp
  · rw [e]; exact .tail _ (.head _)
  · rcases List.mem_cons.mp hp with e | hp
    · rw [e]; exact .head _
    · exact .tail _ (.tail _ hp))
section
variable {prog : Program} {w : World} {A : Around} {E : Value → Shared → Prop} {s : Shared} {h₀ : Heap} {L d : Addr} {m : Str → Option Value} {news R : List (Addr × Obj)} {o : Obj} {kvs : List (Str × Value)} {k : Str} {t : Tok} {v : Value}
theorem dict_set {Q : Unit → Shared → Prop} (F : Fr h₀ L s.heap m) (N : News h₀ L s.heap ((d, o) :: R)) (hR : ∀ q ∈ R, q.1 ≠ d) (hd : o.IsDictOf (strKind prog w) kvs) (hsz : kvs.length ≤ 1000)
    (h : ∀ h' o', Fr h₀ L h' m → News h₀ L h' ((d, o') :: R) → o'.IsDictOf (strKind prog w) (stored kvs k v) → Q () { s with heap := h', toks := s.toks + 1 }) :
    wpAny (model prog w) A (setItem (.ref d) (.str k t) v) Q E s := by
  have z := N (d, o) (.head _)
  refine wpAny_setItem_pairs (strKind_is prog w k t) (Heap.dictOf_iff.mpr ⟨o, z.1, hd⟩) (fun h' hd' hs => ?_) (by rw [sizeLine_eq]; lia)
  obtain ⟨o', ho', hd''⟩ := Heap.dictOf_iff.mp hd'
  exact h h' o' (F.change hs z.2.1 z.2.2) (news_set (pre := []) N (fun _ h => nomatch h) hR hs ho') hd''
theorem dict_get {value slice : PySem.Expr} {Q : Value → Shared → Prop} (N : News h₀ L s.heap news) (hm : (d, o) ∈ news) (hd : o.IsDictOf (strKind prog w) kvs) (hv : valueAt kvs k = some v) (h : ∀ tk, Q v { s with toks := tk })
    (hs : subscripted slice false (.ref d) (.str k t) = operate [.ref d, .str k t] (getItem (.ref d) (.str k t)) := by with_unfolding_all rfl) :
    wpAny (model prog w) A (subscriptTail value slice (.ref d) (.str k t)) Q E s := by
  have hD : s.heap.DictOf (strKind prog w) d kvs := Heap.dictOf_iff.mpr ⟨o, (N _ hm).1, hd⟩
  exact tail_any hD.typeIs slot_dict_getitem.lookup (wpAny_getItem_of (strKind_is prog w k t) hD.mapOf hv (h _)) hs
theorem stored_new {v : Value} (hk : k ∉ kvs.map (·.1)) : stored kvs k v = kvs ++ [(k, v)] := by
  unfold stored
  rw [if_neg]
  intro h
  obtain ⟨q, hq, e⟩ := List.any_eq_true.mp h
  exact hk (List.mem_map.mpr ⟨q, hq, by simpa using e⟩)
end
end Mine
end
section
open PySem PySem.W PySem.Spec PySem.Calls PyProof.Rows
set_option Elab.async false
set_option maxRecDepth 100000
set_option maxHeartbeats 8000000
set_option linter.unusedVariables false
namespace Mine
local macro_rules | `(tactic| walk_at "exec While Compare cons nil") => `(tactic| (k_here; refine Stop.of ?_))
local macro_rules | `(tactic| walk_at "KswEnd") => `(tactic| (k_here; refine Stop.of ?_))
local macro_rules | `(tactic| walk_at "subscriptTail") => `(tactic| (k_here; (with_reducible show wpAny _ _ (subscriptTail _ _ (Value.ref _) (Value.int _ _)) _ _ _); (with_unfolding_all refine' hp_sub ?k1 ?k2 ?k3 ?k4 ?k5 ?_ ?k7; (case k1 => k_asm); (case k2 => assumption); (case k3 => lia); (case k4 => lia); (case k5 => lia); (case k7 => with_unfolding_all rfl); k_whole); intro x' n' t' u' hx' hm'))
local macro_rules | `(tactic| walk_at "compareOp Lt ref ref") => `(tactic| (k_here; (refine' hp_lt ?k1 ?k2 ?k3 ?k4 ?_; (case k1 => k_asm); (case k2 => assumption); (case k3 => assumption); (case k4 => ktr_units); k_whole)))
local macro_rules | `(tactic| walk_at "binaryOp RShift int int") => `(tactic| (k_here; (refine' half_rule ?k1 ?_; (case k1 => lia); k_whole); intro t' tk'))
local macro_rules | `(tactic| walk_at "setItem ref int ref") => `(tactic| (k_here; (refine' hp_set ?k1 ?k2 ?k3 ?k4 ?k5 ?k6 ?_; (case k1 => k_asm); (case k2 => k_asm); (case k3 => assumption); (case k4 => lia); (case k5 => lia); (case k6 => lia); k_whole); intro h' F' N'; (try k_sweep)))
local macro_rules | `(tactic| walk_at "setItem ref") => `(tactic| (k_here; (dsimp only); (refine' hp_set ?k1 ?k2 ?k3 ?k4 ?k5 ?k6 ?_; (case k1 => k_asm); (case k2 => k_asm); (case k3 => assumption); (case k4 => lia); (case k5 => lia); (case k6 => lia); k_whole); intro h' F' N'; (try k_sweep)))

theorem siftdown_c {w : World} {p : Program} {loose : List Str} {mean : ExcName → Option Value} {mg mb : Str → Option Value}
    {dp un : Nat} {gd : Option (List Code)} {env : Env} {outer : List Env} {A₀ : Around} {base h₀ : Heap} {L : Addr} {m : Str → Option Value} {s : Shared} {Q E : Value → Shared → Prop}
    {l : Addr} {ps : List It} {n : Nat} {R : List (Addr × Obj)} {pos : Nat} {x : It} {t0 t1 : Tok}
    (B : Below A₀ base outer h₀) (F : Fr h₀ L s.heap m) (X : (hd.heap_1 w.params).In h₀) (T : Top p loose mean mg mb h₀)
    (hf : env.frame = some L) (hk : env.scope.kind = .function) (hd1 : dp + 2 < recursionLimit) (hu1 : un + 16 < cLine) (N : News h₀ L s.heap ((l, listOf (refs ps) n) :: R))
    (hR : ∀ q ∈ R, q.1 ≠ l) (hI : ItsIn R ps) (hx : ps[pos]? = some x) (hlt : pos < ps.length) (hsz : ps.length ≤ 1000)
    (hret : ∀ (h' : Heap) (tk' : Nat), Fr h₀ L h' m → News h₀ L h' ((l, listOf (refs (sdGo iLt x ps pos)) n) :: R) → Q .none { s with heap := h', toks := tk' }) :
    wpAny (model PySem.Challenge.rw_pd0151_01.row.prog w) (tp dp un gd env outer) (call (.ref 49) [.ref l, .int 0 t0, .int pos t1]) Q E s := by
  w_top off
  revert X; k_fill; intro X
  refine wpAny_call ?_
  k_dflt (refine' code_def (binds := [(Str.ofString "heap", .ref l), (Str.ofString "startpos", .int 0 t0), (Str.ofString "pos", .int pos t1)]) ?k1 ?k2 ?k3 ?k4 ?k5 ?kA ?kF ?kK ?k6 ?k7 ?k8 ?k9 ?kB ?_ ?c2 ?c3 ?c4 ?c5; (case kA => exact rfl); (case kF => first | assumption | exact rfl); (case kK => first | assumption | exact rfl); (case k1 => k_asm); (case k2 => k_asm); (case k3 => k_asm); (case k4 => k_asm); (case k5 => k_asm); (case k6 => k_is); (case k7 => k_is); (case k8 => ktr_room); (case k9 => exact BindsTo.of_eq rfl); (case c5 => decide); (case kB => exact locs rfl); (case c2 => exact rfl); (case c3 => exact rfl); (case c4 => exact rfl); k_whole; intro g' L' h' FG' F' N' B' X' T'; (try dsimp only); (try k_lift B'); (refine wpAny_noRaise ?_); (try k_fold))
  k_steps
  rename_i x' n1 ta ua hx' hm' h1 F1 N1
  obtain rfl : x = x' := by simpa [hx] using hx'
  refine Stop.mk ?_
  refine ksw_while (σ := List It × Nat × Tok) (fun c => (l, listOf (refs c.1) n) :: R) (fun c => [(Str.ofString "pos", .int (c.2.1 : Int) c.2.2)]) (fun c => ItsIn R c.1) [Str.ofString "parentpos", Str.ofString "parent"]
    (fun c => c.1.length = ps.length ∧ c.2.1 < ps.length ∧ sdGo iLt x c.1 c.2.1 = sdGo iLt x ps pos) (fun c => c.2.1) (ps, pos, t1) F1 N1 hI (by intro p hp; simp only [List.mem_singleton] at hp; subst hp; rfl) ⟨rfl, hlt, rfl⟩ ?_ PassesOwn.never
  rintro ⟨qs, i, ti⟩ u h2 tk2 hI2 ⟨hl2, hi2, he2⟩ F2 N2
  dsimp only at hI2 hl2 hi2 he2 F2 N2
  k_steps
  · rename_i hi3 t3 tk3 h3 x3 n3 ta3 ua3 hx3 hm3 h4 hlt3 h5 h6 F6 N6
    refine Stop.mk ?_
    simp only [Int.toNat_natCast] at hx3 N6
    refine ksw_end (qs.set i x3, (i - 1) / 2, t3) F6 N6 (fun _ h => h) (hI2.set ⟨_, _, _, hm3⟩) ?_ ?_ ⟨by simp [hl2], by show (i - 1) / 2 < ps.length; lia, by rw [← he2]; exact (sd_step (by lia) hx3 hlt3).symm⟩ (by show (i - 1) / 2 < i; lia)
    · intro p hp; simp only [List.mem_singleton] at hp; subst hp; rfl
    · intro z hz hs
      simp only [List.mem_singleton, forall_eq] at hz
      simp only [List.contains_cons, List.contains_nil, Bool.or_false, Bool.or_eq_false_iff, beq_eq_false_iff_ne] at hs
      simp [kstB, hz, hs.1, hs.2]
  · rename_i hi3 t3 tk3 h3 x3 n3 ta3 ua3 hx3 hm3 h4 hlt3 h5 F6 N6 F7 N7 T7 X7
    simp only [Int.toNat_natCast] at hx3 N7
    rw [← sd_break (by lia) hx3 hlt3, he2] at N7
    exact hret _ _ F7 N7
  · rename_i hi3 h3 F6 N6 F7 N7 T7 X7
    simp only [Int.toNat_natCast] at N7
    rw [← sd_zero (lt := iLt) (by lia), he2] at N7
    exact hret _ _ F7 N7
end Mine
end
section
open PySem PySem.W PySem.Spec PySem.Calls PyProof.Rows
set_option Elab.async false
set_option maxRecDepth 100000
set_option maxHeartbeats 8000000
set_option linter.unusedVariables false
namespace Mine
local macro_rules | `(tactic| walk_at "no such key C3 0") => `(tactic| fail)
local macro_rules | `(tactic| walk_at "exec While Compare cons nil") => `(tactic| (k_here; refine Stop.of ?_))
local macro_rules | `(tactic| walk_at "KswEnd") => `(tactic| (k_here; refine Stop.of ?_))
local macro_rules | `(tactic| walk_at "call ref") => `(tactic| (k_here; refine Stop.of ?_))
local macro_rules | `(tactic| walk_at "subscriptTail") => `(tactic| (k_here; (with_reducible show wpAny _ _ (subscriptTail _ _ (Value.ref _) (Value.int _ _)) _ _ _); (with_unfolding_all refine' hp_sub ?k1 ?k2 ?k3 ?k4 ?k5 ?_ ?k7; (case k1 => k_asm); (case k2 => assumption); (case k3 => lia); (case k4 => lia); (case k5 => lia); (case k7 => with_unfolding_all rfl); k_whole); intro x' n' t' u' hx' hm'))
local macro_rules | `(tactic| walk_at "compareOp Lt ref ref") => `(tactic| (k_here; (refine' hp_lt ?k1 ?k2 ?k3 ?k4 ?_; (case k1 => k_asm); (case k2 => assumption); (case k3 => assumption); (case k4 => ktr_units); k_whole)))
local macro_rules | `(tactic| walk_at "setItem ref int ref") => `(tactic| (k_here; (refine' hp_set ?k1 ?k2 ?k3 ?k4 ?k5 ?k6 ?_; (case k1 => k_asm); (case k2 => k_asm); (case k3 => assumption); (case k4 => lia); (case k5 => lia); (case k6 => lia); k_whole); intro h' F' N'; (try k_sweep)))
local macro_rules | `(tactic| walk_at "call builtin:len") => `(tactic| (k_here; (with_reducible show wpAny _ _ (call (Value.builtin "len") [Value.ref _]) _ _ _); (refine' hp_len ?k1 ?k2 ?_; (case k1 => k_asm); (case k2 => lia); k_whole); intro t' tk'))

theorem siftup_c {w : World} {p : Program} {loose : List Str} {mean : ExcName → Option Value} {mg mb : Str → Option Value}
    {dp un : Nat} {gd : Option (List Code)} {env : Env} {outer : List Env} {A₀ : Around} {base h₀ : Heap} {L : Addr} {m : Str → Option Value} {s : Shared} {Q E : Value → Shared → Prop}
    {l : Addr} {ps : List It} {n : Nat} {R : List (Addr × Obj)} {x : It} {t0 : Tok}
    (B : Below A₀ base outer h₀) (F : Fr h₀ L s.heap m) (X : (hd.heap_1 w.params).In h₀) (T : Top p loose mean mg mb h₀)
    (hf : env.frame = some L) (hk : env.scope.kind = .function) (hd1 : dp + 3 < recursionLimit) (hu1 : un + 32 < cLine) (N : News h₀ L s.heap ((l, listOf (refs ps) n) :: R))
    (hR : ∀ q ∈ R, q.1 ≠ l) (hI : ItsIn R ps) (hx : ps[0]? = some x) (hlt : 0 < ps.length) (hsz : ps.length ≤ 1000)
    (hret : ∀ (h' : Heap) (tk' : Nat), Fr h₀ L h' m → News h₀ L h' ((l, listOf (refs (sdGo iLt x ((suGo iLt ps 0).1.set (suGo iLt ps 0).2 x) (suGo iLt ps 0).2)) n) :: R) → Q .none { s with heap := h', toks := tk' }) :
    wpAny (model PySem.Challenge.rw_pd0151_01.row.prog w) (tp dp un gd env outer) (call (.ref 56) [.ref l, .int 0 t0]) Q E s := by
  w_top off
  revert X; k_fill; intro X
  refine wpAny_call ?_
  k_dflt (refine' code_def (binds := [(Str.ofString "heap", .ref l), (Str.ofString "pos", .int 0 t0)]) ?k1 ?k2 ?k3 ?k4 ?k5 ?kA ?kF ?kK ?k6 ?k7 ?k8 ?k9 ?kB ?_ ?c2 ?c3 ?c4 ?c5; (case kA => exact rfl); (case kF => first | assumption | exact rfl); (case kK => first | assumption | exact rfl); (case k1 => k_asm); (case k2 => k_asm); (case k3 => k_asm); (case k4 => k_asm); (case k5 => k_asm); (case k6 => k_is); (case k7 => k_is); (case k8 => ktr_room); (case k9 => exact BindsTo.of_eq rfl); (case c5 => decide); (case kB => exact locs rfl); (case c2 => exact rfl); (case c3 => exact rfl); (case c4 => exact rfl); k_whole; intro g' L' h' FG' F' N' B' X' T'; (try dsimp only); (try k_lift B'); (refine wpAny_noRaise ?_); (try k_fold))
  k_steps
  rename_i tk8 tl8 tk9 h9 h8 x' n1 ta ua hx' hm' h7 h1 F1 N1
  obtain rfl : x = x' := by simpa [hx] using hx'
  refine Stop.mk ?_
  dsimp only at F1
  refine ksw_while (σ := List It × Nat × Tok × Tok) (fun c => (l, listOf (refs c.1) n) :: R) (fun c => [(Str.ofString "pos", .int (c.2.1 : Int) c.2.2.1), (Str.ofString "childpos", .int (2 * (c.2.1 : Int) + 1) c.2.2.2)]) (fun c => ItsIn R c.1) [Str.ofString "rightpos"]
    (fun c => c.1.length = ps.length ∧ c.2.1 < ps.length ∧ suGo iLt c.1 c.2.1 = suGo iLt ps 0) (fun c => ps.length - c.2.1) (ps, 0, t0, _) F1 N1 hI (by intro p hp; rcases List.mem_cons.mp hp with rfl | hp; rfl; rw [List.mem_singleton.mp hp]; rfl) ⟨rfl, hlt, rfl⟩ ?_ PassesOwn.never
  rintro ⟨qs, i, ti, tc⟩ u h2 tk2 hI2 ⟨hl2, hi2, he2⟩ F2 N2
  dsimp only at hI2 hl2 hi2 he2 F2 N2
  k_steps
  · rename_i c1 h3 c2 x2 n2 t2 u2 hx2 hm2 x1 n1 t1 u1 hx1 hm1 clt x0 n0 t0' u0 hx0 hm0 h5 h6 h7 F6 N6
    refine Stop.mk ?_
    simp only [show (2 * (i : Int) + 1).toNat = 2 * i + 1 by lia, show (2 * (i : Int) + 1 + 1).toNat = 2 * i + 2 by lia, Int.toNat_natCast] at hx0 hx1 hx2 N6
    obtain rfl : x0 = x2 := by simpa [hx2] using hx0.symm
    refine' ksw_end (qs.set i x0, 2 * i + 1, _, _) F6 N6 (fun _ h => h) (hI2.set ⟨_, _, _, hm0⟩) ?hk ?hr ⟨by simp [hl2], by show 2 * i + 1 < ps.length; lia, by rw [← he2]; exact (su_left hx2 hx1 clt).symm⟩ (by show ps.length - (2 * i + 1) < ps.length - i; lia)
    case hk =>
      intro p hp
      rcases List.mem_cons.mp hp with rfl | hp
      · rw [show ((2 * i + 1 : Nat) : Int) = 2 * (i : Int) + 1 by lia]; rfl
      · rw [List.mem_singleton.mp hp, show ((2 * i + 1 : Nat) : Int) = 2 * (i : Int) + 1 by lia]; rfl
    case hr =>
      intro z hz hs
      simp only [List.mem_cons, List.mem_singleton, forall_eq_or_imp, forall_eq, List.not_mem_nil, false_implies, implies_true, and_true] at hz
      simp only [List.contains_cons, List.contains_nil, Bool.or_false, beq_eq_false_iff_ne] at hs
      simp [kstB, hz.1, hz.2, hs]
  · rename_i c1 h3 c2 x2 n2 t2 u2 hx2 hm2 x1 n1 t1 u1 hx1 hm1 clt h4 x0 n0 t0' u0 hx0 hm0 h5 h6 h7 F6 N6
    refine Stop.mk ?_
    simp only [show (2 * (i : Int) + 1).toNat = 2 * i + 1 by lia, show (2 * (i : Int) + 1 + 1).toNat = 2 * i + 2 by lia, Int.toNat_natCast] at hx0 hx1 hx2 N6
    obtain rfl : x0 = x1 := by simpa [hx1] using hx0.symm
    refine' ksw_end (qs.set i x0, 2 * i + 2, _, _) F6 N6 (fun _ h => h) (hI2.set ⟨_, _, _, hm0⟩) ?hk ?hr ⟨by simp [hl2], by show 2 * i + 2 < ps.length; lia, by rw [← he2]; exact (su_right hx2 hx1 clt).symm⟩ (by show ps.length - (2 * i + 2) < ps.length - i; lia)
    case hk =>
      intro p hp
      rcases List.mem_cons.mp hp with rfl | hp
      · rw [show ((2 * i + 2 : Nat) : Int) = 2 * (i : Int) + 1 + 1 by lia]; rfl
      · rw [List.mem_singleton.mp hp, show ((2 * i + 2 : Nat) : Int) = 2 * (i : Int) + 1 + 1 by lia]; rfl
    case hr =>
      intro z hz hs
      simp only [List.mem_cons, List.mem_singleton, forall_eq_or_imp, forall_eq, List.not_mem_nil, false_implies, implies_true, and_true] at hz
      simp only [List.contains_cons, List.contains_nil, Bool.or_false, beq_eq_false_iff_ne] at hs
      simp [kstB, hz.1, hz.2, hs]
  · rename_i c1 h3 c2 x0 n0 t0' u0 hx0 hm0 h5 h6 h7 F6 N6
    refine Stop.mk ?_
    simp only [show (2 * (i : Int) + 1).toNat = 2 * i + 1 by lia, Int.toNat_natCast] at hx0 N6
    refine' ksw_end (qs.set i x0, 2 * i + 1, _, _) F6 N6 (fun _ h => h) (hI2.set ⟨_, _, _, hm0⟩) ?hk ?hr ⟨by simp [hl2], by show 2 * i + 1 < ps.length; lia, by rw [← he2]; exact (su_one hx0 (by lia)).symm⟩ (by show ps.length - (2 * i + 1) < ps.length - i; lia)
    case hk =>
      intro p hp
      rcases List.mem_cons.mp hp with rfl | hp
      · rw [show ((2 * i + 1 : Nat) : Int) = 2 * (i : Int) + 1 by lia]; rfl
      · rw [List.mem_singleton.mp hp, show ((2 * i + 1 : Nat) : Int) = 2 * (i : Int) + 1 by lia]; rfl
    case hr =>
      intro z hz hs
      simp only [List.mem_cons, List.mem_singleton, forall_eq_or_imp, forall_eq, List.not_mem_nil, false_implies, implies_true, and_true] at hz
      simp only [List.contains_cons, List.contains_nil, Bool.or_false, beq_eq_false_iff_ne] at hs
      simp [kstB, hz.1, hz.2, hs]
  · rename_i c1 h3 F6 N6
    refine Stop.mk ?_
    simp only [Int.toNat_natCast] at N6
    have es : suGo iLt ps 0 = (qs, i) := by rw [← he2]; exact su_end (by lia)
    rw [es] at hret
    dsimp only at hret
    refine siftdown_c (x := x) (ps := qs.set i x) (pos := i) B' F6 X' T' rfl rfl ?_ ?_ N6 hR (hI2.set ⟨_, _, _, hm'⟩) (List.getElem?_set_self (by lia)) (by rw [List.length_set]; lia) (by rw [List.length_set]; lia) ?_
    · simp only [depth_deeper]; exact dlt hd1 rfl
    · simp only [units_deeper]; exact dlt hu1 rfl
    intro h8 tk8' F8 N8
    k_steps
    rename_i F9 N9 T9 X9
    exact hret _ _ F9 N9
end Mine
end
section
open PySem PySem.W PySem.Spec PySem.Calls PyProof.Rows
set_option Elab.async false
set_option maxRecDepth 100000
set_option maxHeartbeats 8000000
set_option linter.unusedVariables false
namespace Mine
local macro_rules | `(tactic| walk_at "call ref") => `(tactic| (k_here; refine Stop.of ?_))
local macro_rules | `(tactic| walk_at "subscriptTail") => `(tactic| (k_here; (with_reducible show wpAny _ _ (subscriptTail _ _ (Value.ref _) (Value.int _ _)) _ _ _); (with_unfolding_all refine' hp_sub ?k1 ?k2 ?k3 ?k4 ?k5 ?_ ?k7; (case k1 => k_asm); (case k2 => assumption); (case k3 => lia); (case k4 => lia); (case k5 => lia); (case k7 => with_unfolding_all rfl); k_whole); intro x' n' t' u' hx' hm'))
local macro_rules | `(tactic| walk_at "setItem ref int ref") => `(tactic| (k_here; (refine' hp_set ?k1 ?k2 ?k3 ?k4 ?k5 ?k6 ?_; (case k1 => k_asm); (case k2 => k_asm); (case k3 => assumption); (case k4 => lia); (case k5 => lia); (case k6 => lia); k_whole); intro h' F' N'; (try k_sweep)))
local macro_rules | `(tactic| walk_at "call builtin:len") => `(tactic| (k_here; (with_reducible show wpAny _ _ (call (Value.builtin "len") [Value.ref _]) _ _ _); (refine' hp_len ?k1 ?k2 ?_; (case k1 => k_asm); (case k2 => (simp only [List.length_append, List.length_singleton]; lia)); k_whole); intro t' tk'))
local macro_rules | `(tactic| walk_at "call builtin:list.append") => `(tactic| (k_here; (with_reducible show wpAny _ _ (call (Value.builtin _) [Value.ref _, Value.ref _]) _ _ _); (refine' hp_append ?k1 ?k2 ?k3 ?k4 ?_; (case k1 => k_asm); (case k2 => k_asm); (case k3 => assumption); (case k4 => lia); k_whole); intro h' F' N'; (try k_sweep)))
local macro_rules | `(tactic| walk_at "call builtin:list.pop") => `(tactic| (k_here; (with_reducible show wpAny _ _ (call (Value.builtin _) [Value.ref _]) _ _ _); (refine' hp_pop ?k1 ?k2 ?k3 ?k4 ?_; (case k1 => k_asm); (case k2 => k_asm); (case k3 => assumption); (case k4 => lia); k_whole); intro h' F' N'; (try k_sweep)))
local macro_rules | `(tactic| walk_at "truthy ref") => `(tactic| (k_here; (refine' hp_truthy ?k1 ?k2 ?_; (case k1 => k_asm); (case k2 => lia); k_whole); intro tk'))

/-- what _siftup(heap, 0) makes of the list whose first is x -/
def suRes (ps : List It) (x : It) : List It := sdGo iLt x ((suGo iLt ps 0).1.set (suGo iLt ps 0).2 x) (suGo iLt ps 0).2

theorem heappush_c {w : World} {p : Program} {loose : List Str} {mean : ExcName → Option Value} {mg mb : Str → Option Value}
    {dp un : Nat} {gd : Option (List Code)} {env : Env} {outer : List Env} {A₀ : Around} {base h₀ : Heap} {L : Addr} {m : Str → Option Value} {s : Shared} {Q E : Value → Shared → Prop}
    {l : Addr} {ps : List It} {n : Nat} {R : List (Addr × Obj)} {x : It}
    (B : Below A₀ base outer h₀) (F : Fr h₀ L s.heap m) (X : (hd.heap_1 w.params).In h₀) (T : Top p loose mean mg mb h₀)
    (hf : env.frame = some L) (hk : env.scope.kind = .function) (hd1 : dp + 4 < recursionLimit) (hu1 : un + 48 < cLine) (N : News h₀ L s.heap ((l, listOf (refs ps) n) :: R))
    (hR : ∀ q ∈ R, q.1 ≠ l) (hI : ItsIn R ps) (hx : ∃ n t u, (x.1, tupObj [.int x.2.1 t, .str x.2.2 u] n) ∈ R) (hsz : ps.length ≤ 900)
    (hret : ∀ (h' : Heap) (tk' : Nat), Fr h₀ L h' m → News h₀ L h' ((l, listOf (refs (sdGo iLt x (ps ++ [x]) ps.length)) (n + 1)) :: R) → Q .none { s with heap := h', toks := tk' }) :
    wpAny (model PySem.Challenge.rw_pd0151_01.row.prog w) (tp dp un gd env outer) (call (.ref 28) [.ref l, .ref x.1]) Q E s := by
  w_top off
  revert X; k_fill; intro X
  refine wpAny_call ?_
  k_dflt (refine' code_def (binds := [(Str.ofString "heap", .ref l), (Str.ofString "item", .ref x.1)]) ?k1 ?k2 ?k3 ?k4 ?k5 ?kA ?kF ?kK ?k6 ?k7 ?k8 ?k9 ?kB ?_ ?c2 ?c3 ?c4 ?c5; (case kA => exact rfl); (case kF => first | assumption | exact rfl); (case kK => first | assumption | exact rfl); (case k1 => k_asm); (case k2 => k_asm); (case k3 => k_asm); (case k4 => k_asm); (case k5 => k_asm); (case k6 => k_is); (case k7 => k_is); (case k8 => ktr_room); (case k9 => exact BindsTo.of_eq rfl); (case c5 => decide); (case kB => exact locs rfl); (case c2 => exact rfl); (case c3 => exact rfl); (case c4 => exact rfl); k_whole; intro g' L' h' FG' F' N' B' X' T'; (try dsimp only); (try k_lift B'); (refine wpAny_noRaise ?_); (try k_fold))
  k_steps
  rename_i h1 F1 N1 tl1 tk1
  refine Stop.mk ?_
  rw [show ((ps ++ [x]).length : Int) - 1 = (ps.length : Int) by simp]
  refine siftdown_c (x := x) (ps := ps ++ [x]) (pos := ps.length) B' F1 X' T' rfl rfl ?_ ?_ N1 hR ?_ (by simp) (by simp) (by simp; lia) ?_
  · simp only [depth_deeper]; exact dlt hd1 rfl
  · simp only [units_deeper]; exact dlt hu1 rfl
  · intro q hq
    rcases List.mem_append.mp hq with h | h
    · exact hI q h
    · rw [List.mem_singleton.mp h]; exact hx
  intro h8 tk8' F8 N8
  k_steps
  rename_i F9 N9 T9 X9
  exact hret _ _ F9 N9
theorem heapreplace_c {w : World} {p : Program} {loose : List Str} {mean : ExcName → Option Value} {mg mb : Str → Option Value}
    {dp un : Nat} {gd : Option (List Code)} {env : Env} {outer : List Env} {A₀ : Around} {base h₀ : Heap} {L : Addr} {m : Str → Option Value} {s : Shared} {Q E : Value → Shared → Prop}
    {l : Addr} {ps : List It} {n : Nat} {R : List (Addr × Obj)} {x y : It}
    (B : Below A₀ base outer h₀) (F : Fr h₀ L s.heap m) (X : (hd.heap_1 w.params).In h₀) (T : Top p loose mean mg mb h₀)
    (hf : env.frame = some L) (hk : env.scope.kind = .function) (hd1 : dp + 4 < recursionLimit) (hu1 : un + 48 < cLine) (N : News h₀ L s.heap ((l, listOf (refs (y :: ps)) n) :: R))
    (hR : ∀ q ∈ R, q.1 ≠ l) (hI : ItsIn R (y :: ps)) (hx : ∃ n t u, (x.1, tupObj [.int x.2.1 t, .str x.2.2 u] n) ∈ R) (hsz : (y :: ps).length ≤ 900)
    (hret : ∀ (h' : Heap) (tk' : Nat), Fr h₀ L h' m → News h₀ L h' ((l, listOf (refs (suRes (x :: ps) x)) n) :: R) → Q (.ref y.1) { s with heap := h', toks := tk' }) :
    wpAny (model PySem.Challenge.rw_pd0151_01.row.prog w) (tp dp un gd env outer) (call (.ref 42) [.ref l, .ref x.1]) Q E s := by
  have hlen : (y :: ps).length = ps.length + 1 := rfl
  w_top off
  revert X; k_fill; intro X
  refine wpAny_call ?_
  k_dflt (refine' code_def (binds := [(Str.ofString "heap", .ref l), (Str.ofString "item", .ref x.1)]) ?k1 ?k2 ?k3 ?k4 ?k5 ?kA ?kF ?kK ?k6 ?k7 ?k8 ?k9 ?kB ?_ ?c2 ?c3 ?c4 ?c5; (case kA => exact rfl); (case kF => first | assumption | exact rfl); (case kK => first | assumption | exact rfl); (case k1 => k_asm); (case k2 => k_asm); (case k3 => k_asm); (case k4 => k_asm); (case k5 => k_asm); (case k6 => k_is); (case k7 => k_is); (case k8 => ktr_room); (case k9 => exact BindsTo.of_eq rfl); (case c5 => decide); (case kB => exact locs rfl); (case c2 => exact rfl); (case c3 => exact rfl); (case c4 => exact rfl); k_whole; intro g' L' h' FG' F' N' B' X' T'; (try dsimp only); (try k_lift B'); (refine wpAny_noRaise ?_); (try k_fold))
  k_steps
  rename_i z n1 ta ua hz hm h1 h2 F1 N1
  obtain rfl : y = z := by simpa using hz
  refine Stop.mk ?_
  have e0 : ((y :: ps).set (Int.toNat 0) x) = x :: ps := rfl
  rw [e0] at N1
  refine siftup_c (x := x) (ps := x :: ps) B' F1 X' T' rfl rfl ?_ ?_ N1 hR ?_ rfl (by simp) (by simp; lia) ?_
  · simp only [depth_deeper]; exact dlt hd1 rfl
  · simp only [units_deeper]; exact dlt hu1 rfl
  · intro q hq
    rcases List.mem_cons.mp hq with h | h
    · rw [h]; exact hx
    · exact hI q (List.mem_cons_of_mem _ h)
  intro h8 tk8' F8 N8
  k_steps
  rename_i F9 N9 T9 X9
  exact hret _ _ F9 N9
theorem heappop_c {w : World} {p : Program} {loose : List Str} {mean : ExcName → Option Value} {mg mb : Str → Option Value}
    {dp un : Nat} {gd : Option (List Code)} {env : Env} {outer : List Env} {A₀ : Around} {base h₀ : Heap} {L : Addr} {m : Str → Option Value} {s : Shared} {Q E : Value → Shared → Prop}
    {l : Addr} {ps : List It} {n : Nat} {R : List (Addr × Obj)} {y : It}
    (B : Below A₀ base outer h₀) (F : Fr h₀ L s.heap m) (X : (hd.heap_1 w.params).In h₀) (T : Top p loose mean mg mb h₀)
    (hf : env.frame = some L) (hk : env.scope.kind = .function) (hd1 : dp + 4 < recursionLimit) (hu1 : un + 48 < cLine) (N : News h₀ L s.heap ((l, listOf (refs (ps ++ [y])) n) :: R))
    (hR : ∀ q ∈ R, q.1 ≠ l) (hI : ItsIn R ps) (hy : ∃ n t u, (y.1, tupObj [.int y.2.1 t, .str y.2.2 u] n) ∈ R) (hsz : ps.length ≤ 900)
    (hret : ∀ (h' : Heap) (tk' n' : Nat) (r : It) (qs : List It), Fr h₀ L h' m → News h₀ L h' ((l, listOf (refs qs) n') :: R) →
      ((ps = [] ∧ r = y ∧ qs = []) ∨ (∃ rest, ps = r :: rest ∧ qs = suRes (y :: rest) y)) → Q (.ref r.1) { s with heap := h', toks := tk' }) :
    wpAny (model PySem.Challenge.rw_pd0151_01.row.prog w) (tp dp un gd env outer) (call (.ref 35) [.ref l]) Q E s := by
  w_top off
  revert X; k_fill; intro X
  refine wpAny_call ?_
  k_dflt (refine' code_def (binds := [(Str.ofString "heap", .ref l)]) ?k1 ?k2 ?k3 ?k4 ?k5 ?kA ?kF ?kK ?k6 ?k7 ?k8 ?k9 ?kB ?_ ?c2 ?c3 ?c4 ?c5; (case kA => exact rfl); (case kF => first | assumption | exact rfl); (case kK => first | assumption | exact rfl); (case k1 => k_asm); (case k2 => k_asm); (case k3 => k_asm); (case k4 => k_asm); (case k5 => k_asm); (case k6 => k_is); (case k7 => k_is); (case k8 => ktr_room); (case k9 => exact BindsTo.of_eq rfl); (case c5 => decide); (case kB => exact locs rfl); (case c2 => exact rfl); (case c3 => exact rfl); (case c4 => exact rfl); k_whole; intro g' L' h' FG' F' N' B' X' T'; (try dsimp only); (try k_lift B'); (refine wpAny_noRaise ?_); (try k_fold))
  k_steps
  · rename_i h1 h2 F1 N1 tk1 he F9 N9 T9 X9
    obtain rfl : ps = [] := by simpa using he
    exact hret _ _ _ _ _ F9 N9 (.inl ⟨rfl, rfl, rfl⟩)
  · rename_i h1 h2 F1 N1 tk1 he
    obtain ⟨r, rest, rfl⟩ : ∃ r rest, ps = r :: rest := by
      cases ps with
      | nil => simp at he
      | cons r rest => exact ⟨r, rest, rfl⟩
    have hlen : (r :: rest).length = rest.length + 1 := rfl
    k_steps
    rename_i z n1 ta ua hz hm h3 h4 F2 N2
    obtain rfl : r = z := by simpa using hz
    refine Stop.mk ?_
    have e0 : ((r :: rest).set (Int.toNat 0) y) = y :: rest := rfl
    rw [e0] at N2
    refine siftup_c (x := y) (ps := y :: rest) B' F2 X' T' rfl rfl ?_ ?_ N2 hR ?_ rfl (by simp) (by simp; lia) ?_
    · simp only [depth_deeper]; exact dlt hd1 rfl
    · simp only [units_deeper]; exact dlt hu1 rfl
    · intro q hq
      rcases List.mem_cons.mp hq with h | h
      · rw [h]; exact hy
      · exact hI q (List.mem_cons_of_mem _ h)
    intro h8 tk8' F8 N8
    k_steps
    rename_i F9 N9 T9 X9
    exact hret _ _ _ _ _ F9 N9 (.inr ⟨rest, rfl, rfl⟩)
end Mine
end
section
open PySem PySem.W PySem.Spec PySem.Calls PyProof.Rows
set_option Elab.async false
set_option maxRecDepth 100000
set_option maxHeartbeats 8000000
set_option linter.unusedVariables false
namespace Mine
local macro_rules | `(tactic| walk_at "call ref") => `(tactic| (k_here; refine Stop.of ?_))
local macro_rules | `(tactic| walk_at "call builtin:issubclass") => `(tactic| (k_here; (refine' issub_str ?k1 ?_; (case k1 => exact News.get (by k_asm) (List.Mem.head _)); k_whole)))
local macro_rules | `(tactic| walk_at "binaryOp Pow int int") => `(tactic| (k_here; (refine' pow2_mod ?k1 ?k2 ?_; (case k1 => decide); (case k2 => decide); k_whole)))
theorem ownlack_c {w : World} {p : Program} {loose : List Str} {mean : ExcName → Option Value} {mg mb : Str → Option Value}
    {dp un : Nat} {gd : Option (List Code)} {env : Env} {outer : List Env} {A₀ : Around} {base h₀ : Heap} {L : Addr} {m : Str → Option Value} {s : Shared} {Q E : Value → Shared → Prop}
    {news : List (Addr × Obj)} {x : Int} {tx : Tok}
    (B : Below A₀ base outer h₀) (F : Fr h₀ L s.heap m) (X : (hd.heap_1 w.params).In h₀) (T : Top p loose mean mg mb h₀)
    (hf : env.frame = some L) (hk : env.scope.kind = .function) (hd1 : dp + 2 < recursionLimit) (hu1 : un + 16 < cLine) (N : News h₀ L s.heap news) (hx0 : 0 ≤ x) (hx1 : x < 1000000)
    (hret : ∀ (t : Tok) (h' : Heap) (tk' : Nat), Fr h₀ L h' m → News h₀ L h' news → Q (.int (Builtin.bitOr (2 ^ ((x.fdiv 10).fmod 9).toNat) (2 ^ ((x.fdiv 90).fmod 9).toNat)) t) { s with heap := h', toks := tk' }) :
    wpAny (model PySem.Challenge.rw_pd0151_01.row.prog w) (tp dp un gd env outer) (call (.ref 237) [.int x tx]) Q E s := by
  w_top off
  revert X; k_fill; intro X
  refine wpAny_call ?_
  k_dflt (refine' code_def (binds := [(Str.ofString "number", .int x tx)]) ?k1 ?k2 ?k3 ?k4 ?k5 ?kA ?kF ?kK ?k6 ?k7 ?k8 ?k9 ?kB ?_ ?c2 ?c3 ?c4 ?c5; (case kA => exact rfl); (case kF => first | assumption | exact rfl); (case kK => first | assumption | exact rfl); (case k1 => k_asm); (case k2 => k_asm); (case k3 => k_asm); (case k4 => k_asm); (case k5 => k_asm); (case k6 => k_is); (case k7 => k_is); (case k8 => ktr_room); (case k9 => exact BindsTo.of_eq rfl); (case c5 => decide); (case kB => exact locs rfl); (case c2 => exact rfl); (case c3 => exact rfl); (case c4 => exact rfl); k_whole; intro g' L' h' FG' F' N' B' X' T'; (try dsimp only); (try k_lift B'); (refine wpAny_noRaise ?_); (try k_fold))
  k_steps
  rename_i F9 N9 T9 X9
  exact hret _ _ _ F9 N9
theorem simode_c {w : World} {p : Program} {loose : List Str} {mean : ExcName → Option Value} {mg mb : Str → Option Value}
    {dp un : Nat} {gd : Option (List Code)} {env : Env} {outer : List Env} {A₀ : Around} {base h₀ : Heap} {L : Addr} {m : Str → Option Value} {s : Shared} {Q E : Value → Shared → Prop}
    {news : List (Addr × Obj)} {x : Int} {tx : Tok}
    (B : Below A₀ base outer h₀) (F : Fr h₀ L s.heap m) (X : (hd.heap_1 w.params).In h₀) (T : Top p loose mean mg mb h₀)
    (hf : env.frame = some L) (hk : env.scope.kind = .function) (hd1 : dp + 2 < recursionLimit) (hu1 : un + 16 < cLine) (N : News h₀ L s.heap news)
    (hret : ∀ (t : Tok) (h' : Heap) (tk' : Nat), Fr h₀ L h' m → News h₀ L h' news → Q (.int (Builtin.bitAnd x 4095) t) { s with heap := h', toks := tk' }) :
    wpAny (model PySem.Challenge.rw_pd0151_01.row.prog w) (tp dp un gd env outer) (call (.ref 164) [.int x tx]) Q E s := by
  w_top off
  revert X; k_fill; intro X
  refine wpAny_call ?_
  k_dflt (refine' code_def (binds := [(Str.ofString "mode", .int x tx)]) ?k1 ?k2 ?k3 ?k4 ?k5 ?kA ?kF ?kK ?k6 ?k7 ?k8 ?k9 ?kB ?_ ?c2 ?c3 ?c4 ?c5; (case kA => exact rfl); (case kF => first | assumption | exact rfl); (case kK => first | assumption | exact rfl); (case k1 => k_asm); (case k2 => k_asm); (case k3 => k_asm); (case k4 => k_asm); (case k5 => k_asm); (case k6 => k_is); (case k7 => k_is); (case k8 => ktr_room); (case k9 => exact BindsTo.of_eq rfl); (case c5 => decide); (case kB => exact locs rfl); (case c2 => exact rfl); (case c3 => exact rfl); (case c4 => exact rfl); k_whole; intro g' L' h' FG' F' N' B' X' T'; (try dsimp only); (try k_lift B'); (refine wpAny_noRaise ?_); (try k_fold))
  k_steps
  rename_i F9 N9 T9 X9
  exact hret _ _ _ F9 N9
theorem sifmt_c {w : World} {p : Program} {loose : List Str} {mean : ExcName → Option Value} {mg mb : Str → Option Value}
    {dp un : Nat} {gd : Option (List Code)} {env : Env} {outer : List Env} {A₀ : Around} {base h₀ : Heap} {L : Addr} {m : Str → Option Value} {s : Shared} {Q E : Value → Shared → Prop}
    {news : List (Addr × Obj)} {x : Int} {tx : Tok}
    (B : Below A₀ base outer h₀) (F : Fr h₀ L s.heap m) (X : (hd.heap_1 w.params).In h₀) (T : Top p loose mean mg mb h₀)
    (hf : env.frame = some L) (hk : env.scope.kind = .function) (hd1 : dp + 2 < recursionLimit) (hu1 : un + 16 < cLine) (N : News h₀ L s.heap news)
    (hret : ∀ (t : Tok) (h' : Heap) (tk' : Nat), Fr h₀ L h' m → News h₀ L h' news → Q (.int (Builtin.bitAnd x 61440) t) { s with heap := h', toks := tk' }) :
    wpAny (model PySem.Challenge.rw_pd0151_01.row.prog w) (tp dp un gd env outer) (call (.ref 171) [.int x tx]) Q E s := by
  w_top off
  revert X; k_fill; intro X
  refine wpAny_call ?_
  k_dflt (refine' code_def (binds := [(Str.ofString "mode", .int x tx)]) ?k1 ?k2 ?k3 ?k4 ?k5 ?kA ?kF ?kK ?k6 ?k7 ?k8 ?k9 ?kB ?_ ?c2 ?c3 ?c4 ?c5; (case kA => exact rfl); (case kF => first | assumption | exact rfl); (case kK => first | assumption | exact rfl); (case k1 => k_asm); (case k2 => k_asm); (case k3 => k_asm); (case k4 => k_asm); (case k5 => k_asm); (case k6 => k_is); (case k7 => k_is); (case k8 => ktr_room); (case k9 => exact BindsTo.of_eq rfl); (case c5 => decide); (case kB => exact locs rfl); (case c2 => exact rfl); (case c3 => exact rfl); (case c4 => exact rfl); k_whole; intro g' L' h' FG' F' N' B' X' T'; (try dsimp only); (try k_lift B'); (refine wpAny_noRaise ?_); (try k_fold))
  k_steps
  rename_i F9 N9 T9 X9
  exact hret _ _ _ F9 N9
theorem sisdir_c {w : World} {p : Program} {loose : List Str} {mean : ExcName → Option Value} {mg mb : Str → Option Value}
    {dp un : Nat} {gd : Option (List Code)} {env : Env} {outer : List Env} {A₀ : Around} {base h₀ : Heap} {L : Addr} {m : Str → Option Value} {s : Shared} {Q E : Value → Shared → Prop}
    {news : List (Addr × Obj)} {x : Int} {tx : Tok}
    (B : Below A₀ base outer h₀) (F : Fr h₀ L s.heap m) (X : (hd.heap_1 w.params).In h₀) (T : Top p loose mean mg mb h₀)
    (hf : env.frame = some L) (hk : env.scope.kind = .function) (hd1 : dp + 4 < recursionLimit) (hu1 : un + 32 < cLine) (N : News h₀ L s.heap news)
    (hret : ∀ (h' : Heap) (tk' : Nat), Fr h₀ L h' m → News h₀ L h' news → Q (.bool (Builtin.bitAnd x 61440 == 16384)) { s with heap := h', toks := tk' }) :
    wpAny (model PySem.Challenge.rw_pd0151_01.row.prog w) (tp dp un gd env outer) (call (.ref 178) [.int x tx]) Q E s := by
  w_top off
  revert X; k_fill; intro X
  refine wpAny_call ?_
  k_dflt (refine' code_def (binds := [(Str.ofString "mode", .int x tx)]) ?k1 ?k2 ?k3 ?k4 ?k5 ?kA ?kF ?kK ?k6 ?k7 ?k8 ?k9 ?kB ?_ ?c2 ?c3 ?c4 ?c5; (case kA => exact rfl); (case kF => first | assumption | exact rfl); (case kK => first | assumption | exact rfl); (case k1 => k_asm); (case k2 => k_asm); (case k3 => k_asm); (case k4 => k_asm); (case k5 => k_asm); (case k6 => k_is); (case k7 => k_is); (case k8 => ktr_room); (case k9 => exact BindsTo.of_eq rfl); (case c5 => decide); (case kB => exact locs rfl); (case c2 => exact rfl); (case c3 => exact rfl); (case c4 => exact rfl); k_whole; intro g' L' h' FG' F' N' B' X' T'; (try dsimp only); (try k_lift B'); (refine wpAny_noRaise ?_); (try k_fold))
  k_steps
  refine Stop.mk ?_
  refine sifmt_c B' F' X' T' rfl rfl ?_ ?_ N' ?_
  · simp only [depth_deeper]; exact dlt hd1 rfl
  · simp only [units_deeper]; exact dlt hu1 rfl
  intro t1 h1 tk1 F1 N1
  k_steps
  rename_i F9 N9 T9 X9
  exact hret _ _ F9 N9
theorem getsep_c {w : World} {p : Program} {loose : List Str} {mean : ExcName → Option Value} {mg mb : Str → Option Value}
    {dp un : Nat} {gd : Option (List Code)} {env : Env} {outer : List Env} {A₀ : Around} {base h₀ : Heap} {L : Addr} {m : Str → Option Value} {s : Shared} {Q E : Value → Shared → Prop}
    {news : List (Addr × Obj)} {x : Str} {tx : Tok}
    (B : Below A₀ base outer h₀) (F : Fr h₀ L s.heap m) (X : (hd.heap_1 w.params).In h₀) (T : Top p loose mean mg mb h₀)
    (hf : env.frame = some L) (hk : env.scope.kind = .function) (hd1 : dp + 2 < recursionLimit) (hu1 : un + 16 < cLine) (N : News h₀ L s.heap news)
    (hret : ∀ (t : Tok) (h' : Heap) (tk' : Nat), Fr h₀ L h' m → News h₀ L h' news → Q (.str (Str.ofString "/") t) { s with heap := h', toks := tk' }) :
    wpAny (model PySem.Challenge.rw_pd0151_01.row.prog w) (tp dp un gd env outer) (call (.ref 143) [.str x tx]) Q E s := by
  w_top off
  revert X; k_fill; intro X
  refine wpAny_call ?_
  k_dflt (refine' code_def (binds := [(Str.ofString "path", .str x tx)]) ?k1 ?k2 ?k3 ?k4 ?k5 ?kA ?kF ?kK ?k6 ?k7 ?k8 ?k9 ?kB ?_ ?c2 ?c3 ?c4 ?c5; (case kA => exact rfl); (case kF => first | assumption | exact rfl); (case kK => first | assumption | exact rfl); (case k1 => k_asm); (case k2 => k_asm); (case k3 => k_asm); (case k4 => k_asm); (case k5 => k_asm); (case k6 => k_is); (case k7 => k_is); (case k8 => ktr_room); (case k9 => exact BindsTo.of_eq rfl); (case c5 => decide); (case kB => exact locs rfl); (case c2 => exact rfl); (case c3 => exact rfl); (case c4 => exact rfl); k_whole; intro g' L' h' FG' F' N' B' X' T'; (try dsimp only); (try k_lift B'); (refine wpAny_noRaise ?_); (try k_fold))
  k_steps
  rename_i F9 N9 T9 X9
  exact hret _ _ _ F9 N9
theorem fspath_c {w : World} {p : Program} {loose : List Str} {mean : ExcName → Option Value} {mg mb : Str → Option Value}
    {dp un : Nat} {gd : Option (List Code)} {env : Env} {outer : List Env} {A₀ : Around} {base h₀ : Heap} {L : Addr} {m : Str → Option Value} {s : Shared} {Q E : Value → Shared → Prop}
    {news : List (Addr × Obj)} {x : Str} {tx : Tok}
    (B : Below A₀ base outer h₀) (F : Fr h₀ L s.heap m) (X : (hd.heap_1 w.params).In h₀) (T : Top p loose mean mg mb h₀)
    (hf : env.frame = some L) (hk : env.scope.kind = .function) (hd1 : dp + 2 < recursionLimit) (hu1 : un + 16 < cLine) (N : News h₀ L s.heap news)
    (hret : ∀ (h' : Heap) (tk' : Nat), Fr h₀ L h' m → News h₀ L h' news → Q (.str x tx) { s with heap := h', toks := tk' }) :
    wpAny (model PySem.Challenge.rw_pd0151_01.row.prog w) (tp dp un gd env outer) (call (.ref 129) [.str x tx]) Q E s := by
  w_top off
  revert X; k_fill; intro X
  refine wpAny_call ?_
  k_dflt (refine' code_def (binds := [(Str.ofString "path", .str x tx)]) ?k1 ?k2 ?k3 ?k4 ?k5 ?kA ?kF ?kK ?k6 ?k7 ?k8 ?k9 ?kB ?_ ?c2 ?c3 ?c4 ?c5; (case kA => exact rfl); (case kF => first | assumption | exact rfl); (case kK => first | assumption | exact rfl); (case k1 => k_asm); (case k2 => k_asm); (case k3 => k_asm); (case k4 => k_asm); (case k5 => k_asm); (case k6 => k_is); (case k7 => k_is); (case k8 => ktr_room); (case k9 => exact BindsTo.of_eq rfl); (case c5 => decide); (case kB => exact locs rfl); (case c2 => exact rfl); (case c3 => exact rfl); (case c4 => exact rfl); k_whole; intro g' L' h' FG' F' N' B' X' T'; (try dsimp only); (try k_lift B'); (refine wpAny_noRaise ?_); (try k_fold))
  k_steps
  rename_i F9 N9 T9 X9
  exact hret _ _ F9 fun p hp => N9 p (.tail _ hp)
end Mine
end
section
open PySem PySem.W PySem.Spec PySem.Calls PyProof.Rows
set_option Elab.async false
set_option maxRecDepth 100000
set_option maxHeartbeats 8000000
set_option linter.unusedVariables false
namespace Mine
local macro_rules | `(tactic| walk_at "call ref") => `(tactic| (k_here; refine Stop.of ?_))
def splitHead (x : Str) : Str :=
  if (Txt.slice x none (some (Txt.rfind x (Str.ofString "/") + 1))).length ≠ 0 ∧ (Txt.slice x none (some (Txt.rfind x (Str.ofString "/") + 1)) != Txt.mul (Str.ofString "/") (Txt.slice x none (some (Txt.rfind x (Str.ofString "/") + 1))).length) = true then
    Txt.rstripChars (Txt.slice x none (some (Txt.rfind x (Str.ofString "/") + 1))) (Str.ofString "/")
  else Txt.slice x none (some (Txt.rfind x (Str.ofString "/") + 1))
def splitTail (x : Str) : Str := Txt.slice x (some (Txt.rfind x (Str.ofString "/") + 1)) none
theorem split_c {w : World} {p : Program} {loose : List Str} {mean : ExcName → Option Value} {mg mb : Str → Option Value}
    {dp un : Nat} {gd : Option (List Code)} {env : Env} {outer : List Env} {A₀ : Around} {base h₀ : Heap} {L : Addr} {m : Str → Option Value} {s : Shared} {Q E : Value → Shared → Prop}
    {news : List (Addr × Obj)} {x : Str} {tx : Tok}
    (B : Below A₀ base outer h₀) (F : Fr h₀ L s.heap m) (X : (hd.heap_1 w.params).In h₀) (T : Top p loose mean mg mb h₀)
    (hf : env.frame = some L) (hk : env.scope.kind = .function) (hd1 : dp + 4 < recursionLimit) (hu1 : un + 32 < cLine) (N : News h₀ L s.heap news) (hx : x.length ≤ 1000)
    (hret : ∀ (D : Addr) (t u : Tok) (h' : Heap) (tk' : Nat), Fr h₀ L h' m → News h₀ L h' ((D, tupObj [.str (splitHead x) t, .str (splitTail x) u] 0) :: news) → (∀ q ∈ news, q.1 < D) → Q (.ref D) { s with heap := h', toks := tk' }) :
    wpAny (model PySem.Challenge.rw_pd0151_01.row.prog w) (tp dp un gd env outer) (call (.ref 157) [.str x tx]) Q E s := by
  w_top off
  revert X; k_fill; intro X
  refine wpAny_call ?_
  k_dflt (refine' code_def (binds := [(Str.ofString "p", .str x tx)]) ?k1 ?k2 ?k3 ?k4 ?k5 ?kA ?kF ?kK ?k6 ?k7 ?k8 ?k9 ?kB ?_ ?c2 ?c3 ?c4 ?c5; (case kA => exact rfl); (case kF => first | assumption | exact rfl); (case kK => first | assumption | exact rfl); (case k1 => k_asm); (case k2 => k_asm); (case k3 => k_asm); (case k4 => k_asm); (case k5 => k_asm); (case k6 => k_is); (case k7 => k_is); (case k8 => ktr_room); (case k9 => exact BindsTo.of_eq rfl); (case c5 => decide); (case kB => exact locs rfl); (case c2 => exact rfl); (case c3 => exact rfl); (case c4 => exact rfl); k_whole; intro g' L' h' FG' F' N' B' X' T'; (try dsimp only); (try k_lift B'); (refine wpAny_noRaise ?_); (try k_fold))
  k_steps
  refine Stop.mk ?_
  refine fspath_c B' F' X' T' rfl rfl ?_ ?_ N' ?_
  · simp only [depth_deeper]; exact dlt hd1 rfl
  · simp only [units_deeper]; exact dlt hu1 rfl
  intro h1 tk1 F1 N1
  k_steps
  rename_i h2 F2 N2
  refine Stop.mk ?_
  refine getsep_c B' F2 X' T' rfl rfl ?_ ?_ N2 ?_
  · simp only [depth_deeper]; exact dlt hd1 rfl
  · simp only [units_deeper]; exact dlt hu1 rfl
  intro t3 h3 tk3 F3 N3
  k_steps
  · rename_i c1 c2 c3 c4 c5 l1 c6 c7 c8 c9 hne c10 c11 c12 c13 hmul c14 c15 c16 c17 D1 h9 F8 N8 l2 F9 N9 T9 X9
    have N10 := news_drop2 N9
    rw [← (show splitHead x = _ from if_pos ⟨by lia, hmul⟩)] at N10
    exact hret D1 _ _ _ _ F9 N10 (allLt_mem l2.2)
  · rename_i c5 l1 c6 c7 c8 hne c10 c11 c12 c13 hmul D1 h9 F8 N8 l2 F9 N9 T9 X9
    have N10 := news_drop2 N9
    rw [← (show splitHead x = _ from if_neg (fun h => by rw [h.2] at hmul; cases hmul))] at N10
    exact hret D1 _ _ _ _ F9 N10 (allLt_mem l2.2)
  · rename_i c5 l1 c6 c7 c8 hne D1 h9 F8 N8 l2 F9 N9 T9 X9
    have N10 := news_drop2 N9
    rw [← (show splitHead x = _ from if_neg (fun h => by have := h.1; lia))] at N10
    exact hret D1 _ _ _ _ F9 N10 (allLt_mem l2.2)
end Mine
end
section
open PySem PySem.W PySem.Spec PySem.Calls PyProof.Rows
set_option Elab.async false
set_option maxRecDepth 100000
set_option maxHeartbeats 8000000
set_option linter.unusedVariables false
namespace Mine
local macro_rules | `(tactic| walk_at "call ref") => `(tactic| (k_here; refine Stop.of ?_))
local macro_rules | `(tactic| walk_at "exec For Name Name cons nil") => `(tactic| (k_here; refine Stop.of ?_))
local macro_rules | `(tactic| walk_at "pyIter ref") => `(tactic| (k_here; refine Stop.of ?_))
local macro_rules | `(tactic| walk_at "ForPost") => `(tactic| (k_here; refine Stop.of ?_))
def joinS (x y : Str) : Str := if Txt.endswith x (Str.ofString "/") = true then x ++ y else x ++ (Str.ofString "/" ++ y)
theorem join_c {w : World} {p : Program} {loose : List Str} {mean : ExcName → Option Value} {mg mb : Str → Option Value}
    {dp un : Nat} {gd : Option (List Code)} {env : Env} {outer : List Env} {A₀ : Around} {base h₀ : Heap} {L : Addr} {m : Str → Option Value} {s : Shared} {Q E : Value → Shared → Prop}
    {news : List (Addr × Obj)} {x y : Str} {tx ty : Tok}
    (B : Below A₀ base outer h₀) (F : Fr h₀ L s.heap m) (X : (hd.heap_1 w.params).In h₀) (T : Top p loose mean mg mb h₀)
    (hf : env.frame = some L) (hk : env.scope.kind = .function) (hd1 : dp + 4 < recursionLimit) (hu1 : un + 32 < cLine) (N : News h₀ L s.heap news) (hx : x.length ≤ 1000) (hy : y.length ≤ 1000) (hys : Txt.startswith y (Str.ofString "/") = false) (hx0 : x.length ≠ 0)
    (hret : ∀ (t : Tok) (h' : Heap) (tk' : Nat), Fr h₀ L h' m → News h₀ L h' news → Q (.str (joinS x y) t) { s with heap := h', toks := tk' }) :
    wpAny (model PySem.Challenge.rw_pd0151_01.row.prog w) (tp dp un gd env outer) (call (.ref 150) [.str x tx, .str y ty]) Q E s := by
  w_top off
  revert X; k_fill; intro X
  refine wpAny_call ?_
  k_dflt (refine' kp_rest ?k1 ?k2 ?k3 ?k4 ?k5 ?kA ?kF ?kK ?k6 ?k7 ?k8 ?kV ?kP ?kG ?kB ?_ ?c2 ?c3 ?c4 ?c5; (case kA => exact rfl); (case kF => assumption); (case kK => assumption); (case k1 => k_asm); (case k2 => k_asm); (case k3 => k_asm); (case k4 => k_asm); (case k5 => k_asm); (case k6 => k_is); (case k7 => k_is); (case k8 => ktr_room); (case kV => kl_lit); (case kP => exact rfl); (case kG => exact fun _ => rfl); (case kB => exact fun _ => locs rfl); (case c5 => decide); (case c2 => exact rfl); (case c3 => exact rfl); (case c4 => exact rfl); k_whole; intro D' g' L' h' l1 FG' F' N' B' X' T'; (try dsimp only); (try k_lift B'); (refine wpAny_noRaise ?_); (try k_fold))
  k_steps
  refine Stop.mk ?_
  refine fspath_c B' F' X' T' rfl rfl ?_ ?_ N' ?_
  · simp only [depth_deeper]; exact dlt hd1 rfl
  · simp only [units_deeper]; exact dlt hu1 rfl
  intro h1 tk1 F1 N1
  k_steps
  rename_i h2 F2 N2
  refine Stop.mk ?_
  refine getsep_c B' F2 X' T' rfl rfl ?_ ?_ N2 ?_
  · simp only [depth_deeper]; exact dlt hd1 rfl
  · simp only [units_deeper]; exact dlt hu1 rfl
  intro t3 h3 tk3 F3 N3
  k_steps
  refine Stop.mk ?_
  refine wpAny_noRaise ?_
  rename_i h4 tk4 h5 F5 N5
  refine for_in ?_
  k_steps
  refine Stop.mk ?_
  refine go_tuple (its := #[Value.str y ty]) rfl F5 N5 (.head _) (fun _ _ _ _ _ _ q => let_name q) ?_
  intro I h6 hlt6
  intro v oI h7 tk7 hv F7 N7 off7
  obtain rfl : v = .str y ty := by simpa using hv.symm
  k_steps
  refine Stop.mk ?_
  rename_i h8 F8 N8
  refine fspath_c B' F8 X' T' rfl rfl ?_ ?_ N8 ?_
  · simp only [depth_deeper]; exact dlt hd1 rfl
  · simp only [units_deeper]; exact dlt hu1 rfl
  intro h9 tk9 F9 N9
  k_steps
  all_goals (first | (exfalso; simp_all; done) | (exfalso; rename (Txt.startswith y _ = true) => hc; rw [hys] at hc; cases hc) | (exfalso; lia) | skip)
  · rename_i c1 c2 c3 hend c4 c5 c6 h10 F10 N10
    refine Stop.mk ?_
    refine ⟨_, _, _, _, rfl, F10, N10, off7, .head _, ?_⟩
    intro h11 tk11 F11 N11
    k_steps
    rename_i F12 N12 T12 X12
    rw [← show joinS x y = x ++ y from if_pos hend]
    exact hret _ _ _ F12 fun p hp => N12 p (.tail _ hp)
  · rename_i c1 c2 c3 hend c4 c5 c6 c7 c8 c9 h10 F10 N10
    refine Stop.mk ?_
    refine ⟨_, _, _, _, rfl, F10, N10, off7, .head _, ?_⟩
    intro h11 tk11 F11 N11
    k_steps
    rename_i F12 N12 T12 X12
    rw [← show joinS x y = x ++ (Str.ofString "/" ++ y) from if_neg (by rw [hend]; exact Bool.false_ne_true)]
    exact hret _ _ _ F12 fun p hp => N12 p (.tail _ hp)
end Mine
end
section
open PySem PySem.W PySem.Spec PySem.Calls PyProof.Rows
set_option Elab.async false
set_option maxRecDepth 100000
set_option maxHeartbeats 8000000
set_option linter.unusedVariables false
namespace Mine
local macro_rules | `(tactic| walk_at "call ref") => `(tactic| (k_here; refine Stop.of ?_))
local macro_rules | `(tactic| walk_at "exec For Name Call cons nil") => `(tactic| (k_here; refine Stop.of ?_))
local macro_rules | `(tactic| walk_at "pyIter ref") => `(tactic| (k_here; refine Stop.of ?_))
local macro_rules | `(tactic| walk_at "ForPost") => `(tactic| (k_here; refine Stop.of ?_))
local macro_rules | `(tactic| walk_at "subscriptTail Tuple") => `(tactic| (k_here; refine Stop.of ?_))
local macro_rules | `(tactic| walk_at "subscriptTail") => `(tactic| (k_here; refine Stop.of ?_))
local macro_rules | `(tactic| walk_at "binaryOp Pow int int") => `(tactic| (k_here; (refine' pow_int_small ?k1 ?k2 ?k3 ?_; (case k1 => lia); (case k2 => lia); (case k3 => decide); k_whole)))
def kindSign (x : Int) : Str := [Str.ofString "-", Str.ofString "p", Str.ofString "s"].getD ((x.fdiv 810).fmod 3).toNat Str.empty
def signAt (y : Int) (i : Nat) : Str := if (y.fdiv (2 ^ (8 - i))).fmod 2 = 1 then Str.ofString "-" else [Str.ofString "r", Str.ofString "w", Str.ofString "x"].getD (i % 3) Str.empty
def signsUp (x y : Int) : Nat → Str
  | 0 => kindSign x
  | i + 1 => signsUp x y i ++ signAt y i
theorem signsUp_len (x y : Int) : ∀ i : Nat, (signsUp x y i).length ≤ 1 + i
  | 0 => by
    unfold signsUp kindSign
    generalize ((x.fdiv 810).fmod 3).toNat = e
    rcases e with _ | _ | _ | e <;> first | decide | exact Nat.zero_le _
  | i + 1 => by
    have h := signsUp_len x y i
    have h2 : (signAt y i).length ≤ 1 := by
      unfold signAt
      split
      · decide
      · generalize i % 3 = e
        rcases e with _ | _ | _ | e <;> first | decide | exact Nat.zero_le _
    unfold signsUp
    rw [Str.length_append]
    lia
local macro_rules | `(tactic| walk_at "binaryOp Add str str") => `(tactic| (k_here; (refine' str_add ?k1 ?_; (case k1 => lia); k_whole); intro t' tk'))
theorem signs_c {w : World} {p : Program} {loose : List Str} {mean : ExcName → Option Value} {mg mb : Str → Option Value}
    {dp un : Nat} {gd : Option (List Code)} {env : Env} {outer : List Env} {A₀ : Around} {base h₀ : Heap} {L : Addr} {m : Str → Option Value} {s : Shared} {Q E : Value → Shared → Prop}
    {news : List (Addr × Obj)} {x y : Int} {tx ty : Tok}
    (B : Below A₀ base outer h₀) (F : Fr h₀ L s.heap m) (X : (hd.heap_1 w.params).In h₀) (T : Top p loose mean mg mb h₀)
    (hf : env.frame = some L) (hk : env.scope.kind = .function) (hd1 : dp + 4 < recursionLimit) (hu1 : un + 32 < cLine) (N : News h₀ L s.heap news) (hx : 0 ≤ x) (hy : 0 ≤ y)
    (hret : ∀ (t : Tok) (h' : Heap) (tk' : Nat), Fr h₀ L h' m → News h₀ L h' news → Q (.str (signsUp x y 9) t) { s with heap := h', toks := tk' }) :
    wpAny (model PySem.Challenge.rw_pd0151_01.row.prog w) (tp dp un gd env outer) (call (.ref 256) [.int x tx, .int y ty]) Q E s := by
  w_top off
  revert X; k_fill; intro X
  refine wpAny_call ?_
  k_dflt (refine' code_def (binds := [(Str.ofString "number", .int x tx), (Str.ofString "lack", .int y ty)]) ?k1 ?k2 ?k3 ?k4 ?k5 ?kA ?kF ?kK ?k6 ?k7 ?k8 ?k9 ?kB ?_ ?c2 ?c3 ?c4 ?c5; (case kA => exact rfl); (case kF => first | assumption | exact rfl); (case kK => first | assumption | exact rfl); (case k1 => k_asm); (case k2 => k_asm); (case k3 => k_asm); (case k4 => k_asm); (case k5 => k_asm); (case k6 => k_is); (case k7 => k_is); (case k8 => ktr_room); (case k9 => exact BindsTo.of_eq rfl); (case c5 => decide); (case kB => exact locs rfl); (case c2 => exact rfl); (case c3 => exact rfl); (case c4 => exact rfl); k_whole; intro g' L' h' FG' F' N' B' X' T'; (try dsimp only); (try k_lift B'); (refine wpAny_noRaise ?_); (try k_fold))
  k_steps
  rename_i D1 h1 F1 N1 l1
  refine Stop.mk ?_
  refine sub_tup (vs := [_, _, _]) (N1 _ (.head _)).1 (Int.fmod_nonneg_of_pos _ (by decide)) (Int.fmod_lt_of_pos _ (by decide)) (Nat.le_of_ble_eq_true rfl) ?_ (by with_unfolding_all rfl)
  intro v hv
  obtain ⟨t1, rfl⟩ : ∃ t, v = .str (kindSign x) t := by
    have h0 := Int.fmod_nonneg_of_pos (x.fdiv 810) (b := 3) (by decide)
    have h1 := Int.fmod_lt_of_pos (x.fdiv 810) (b := 3) (by decide)
    unfold kindSign
    generalize (x.fdiv 810).fmod 3 = e at *
    have : e = 0 ∨ e = 1 ∨ e = 2 := by lia
    rcases this with rfl | rfl | rfl <;> exact ⟨_, (Option.some.inj hv).symm⟩
  k_steps
  refine Stop.mk ?_
  refine for_in ?_
  k_steps
  rename_i h2 F2 N2 h3 tk3 t3 u3 v3 hrg F3 N3 hk3
  refine Stop.mk ?_
  refine go_range (n := 9) rfl F3 N3 hrg (by decide) (by decide) (fun _ _ _ _ q => let_name q) ?_
  intro I h4 hlt4
  refine ForRest.inv (n := 9) (fun i m nw => ∃ t u, m = (fun z => if z = Str.ofString "signs" then some (.str (signsUp x y i) t) else if z = Str.ofString "spot" then u else List.lookup z [(Str.ofString "number", Value.int x tx), (Str.ofString "lack", Value.int y ty)].reverse) ∧ nw = (D1, _) :: news) ?_ ?_ 9 0 _ _ rfl ⟨t1, none, ?_, rfl⟩
  · rintro i m nw v oI h5 tk5 hi ⟨t5, u5, rfl, rfl⟩ ⟨tv, rfl⟩ F5 N5 off5
    have hl5 := signsUp_len x y i
    have hl6 : (Str.ofString "-").length = 1 := by decide
    have e5 : (8 - (0 + (i : Int))).toNat = 8 - i := by lia
    have eN : ∀ (T : Tok) (u : Option Value), (fun z => if z = Str.ofString "signs" then some (Value.str (signsUp x y (i + 1)) T) else if z = Str.ofString "spot" then some (Value.int (0 + (i : Int)) tv) else if z = Str.ofString "signs" then some (Value.str (signsUp x y i) t5) else if z = Str.ofString "spot" then u else List.lookup z [(Str.ofString "number", Value.int x tx), (Str.ofString "lack", Value.int y ty)].reverse) =
        (fun z => if z = Str.ofString "signs" then some (Value.str (signsUp x y (i + 1)) T) else if z = Str.ofString "spot" then some (Value.int (0 + (i : Int)) tv) else List.lookup z [(Str.ofString "number", Value.int x tx), (Str.ofString "lack", Value.int y ty)].reverse) := by
      intro T u
      funext z
      by_cases h1 : z = Str.ofString "signs"
      · simp [h1]
      · by_cases h2 : z = Str.ofString "spot"
        · simp [h2]
        · simp [h1, h2]
    k_steps
    · rename_i h6 hc t6 tk6 h7 F7 N7
      refine Stop.mk ?_
      rw [e5] at hc
      have es : signsUp x y i ++ Str.ofString "-" = signsUp x y (i + 1) := by show _ = signsUp x y i ++ signAt y i; unfold signAt; rw [if_pos hc]
      rw [es, eN] at F7
      exact ⟨_, _, _, _, rfl, F7, N7, off5, trivial, _, _, rfl, rfl⟩
    · rename_i h6 F6 N6 hc
      refine Stop.mk ?_
      rw [e5] at hc
      have e6 : ((0 + (i : Int)).fmod 3).toNat = i % 3 := by
        rw [Int.fmod_eq_emod_of_nonneg _ (by decide)]; lia
      refine rwx_item (Int.fmod_nonneg_of_pos _ (by decide)) (Int.fmod_lt_of_pos _ (by decide)) e6 ?_ (by with_unfolding_all rfl)
      intro g6 t6 tk6 hg hl7
      have es : signsUp x y i ++ g6 = signsUp x y (i + 1) := by
        show _ = signsUp x y i ++ signAt y i
        unfold signAt; rw [if_neg hc, hg]
      k_steps
      rename_i t8 tk8 h8 F8 N8
      refine Stop.mk ?_
      rw [es, eN] at F8
      exact ⟨_, _, _, _, rfl, F8, N8, off5, trivial, _, _, rfl, rfl⟩
  · rintro m nw h5 tk5 ⟨t5, u5, rfl, rfl⟩ F5 N5
    k_steps
    rename_i F12 N12 T12 X12
    exact hret _ _ _ F12 fun p hp => N12 p (.tail _ hp)
  · funext z
    by_cases h1 : z = Str.ofString "signs"
    · simp [h1, signsUp]
    · by_cases h2 : z = Str.ofString "spot"
      · subst h2; rfl
      · simp [h1, h2]
end Mine
end
section
open PySem PySem.W PySem.Spec PySem.Calls PyProof.Rows
set_option Elab.async false
set_option maxRecDepth 100000
set_option maxHeartbeats 8000000
set_option linter.unusedVariables false
namespace Mine
local macro_rules | `(tactic| walk_at "call ref") => `(tactic| (k_here; refine Stop.of ?_))
local macro_rules | `(tactic| walk_at "exec For Tuple Call cons nil") => `(tactic| (k_here; refine Stop.of ?_))
local macro_rules | `(tactic| walk_at "exec For Tuple Call") => `(tactic| (k_here; refine Stop.of ?_))
local macro_rules | `(tactic| walk_at "exec For Tuple Name") => `(tactic| (k_here; refine Stop.of ?_))
local macro_rules | `(tactic| walk_at "pyIter ref") => `(tactic| (k_here; refine Stop.of ?_))
local macro_rules | `(tactic| walk_at "ForPost") => `(tactic| (k_here; refine Stop.of ?_))
local macro_rules | `(tactic| walk_at "ForPostE") => `(tactic| (k_here; refine Stop.of ?_))
local macro_rules | `(tactic| walk_at "call type:enumerate") => `(tactic| (k_here; refine Stop.of ?_))
local macro_rules | `(tactic| walk_at "assign Tuple") => `(tactic| (k_here; refine Stop.of ?_))
local macro_rules | `(tactic| walk_at "call builtin:str.join") => `(tactic| (k_here; refine Stop.of ?_))
local macro_rules | `(tactic| k_upd) => `(tactic| first | (refine' Upd.head ?a; (case a => assumption)) | (refine' Upd.tail ?a ?b; (case a => first | assumption | k_ne); (case b => k_upd)))
local macro_rules | `(tactic| walk_at "call builtin:list.append") => `(tactic| (k_here; (with_reducible show wpAny _ _ (call (Value.builtin _) [Value.ref _, _]) _ _ _); k_dflt (refine' append_K ?k1 ?k2 ?k3 ?_ ?z; (case k1 => k_asm); (case k2 => k_asm); (case k3 => k_upd); (case z => (rw [sizeLine_eq, List.size_toArray]; lia)); k_whole); intro h' F' N'; (try k_sweep)))

def MTab (h : Heap) (its : Array Value) (bcs : List (Int × Str)) : Prop := its.size = bcs.length ∧ ∀ (i : Nat) (v : Value), its[i]? = some v → ∃ a n t u b c, bcs[i]? = some (b, c) ∧ v = .ref a ∧ h.get? a = some (tupObj [.int b t, .str c u] n)
def pickC (test : Int → Bool) (d : Str) (bcs : List (Int × Str)) : Str := ((bcs.find? fun q => test q.1).map (·.2)).getD d
def fmTest (x : Int) (i : Nat) (b : Int) : Bool := if i = 0 then Builtin.bitAnd x 61440 == b else Builtin.bitAnd x b == b
def fmDflt (i : Nat) : Str := if i = 0 then Str.ofString "?" else Str.ofString "-"
def fmTabs : List (List (Int × Str)) :=
  [[(40960, Str.ofString "l"), (49152, Str.ofString "s"), (32768, Str.ofString "-"), (24576, Str.ofString "b"), (16384, Str.ofString "d"), (8192, Str.ofString "c"), (4096, Str.ofString "p")],
   [(256, Str.ofString "r")], [(128, Str.ofString "w")], [(2112, Str.ofString "s"), (2048, Str.ofString "S"), (64, Str.ofString "x")],
   [(32, Str.ofString "r")], [(16, Str.ofString "w")], [(1032, Str.ofString "s"), (1024, Str.ofString "S"), (8, Str.ofString "x")],
   [(4, Str.ofString "r")], [(2, Str.ofString "w")], [(513, Str.ofString "t"), (512, Str.ofString "T"), (1, Str.ofString "x")]]
def permUp (x : Int) (i : Nat) : List Str := (fmTabs.take i).zipIdx.map fun q => pickC (fmTest x q.2) (fmDflt q.2) q.1

theorem fm_tabs {w : World} {g : Heap} (X : PySem.Challenge.rw_pd0151_01 = PySem.Challenge.rw_pd0151_01 → (hd.heap_1 w.params).In g) : ∀ (i : Nat) (v : Value), (#[Value.ref 186, Value.ref 188, Value.ref 190, Value.ref 194, Value.ref 196, Value.ref 198, Value.ref 202, Value.ref 204, Value.ref 206, Value.ref 210] : Array Value)[i]? = some v →
    ∃ a its, v = .ref a ∧ g.IsTuple a its ∧ MTab g its (fmTabs.getD i []) := by
  revert X; k_fill; intro X'
  have X := X' rfl
  intro i v hv
  match i, hv with
  | 0, hv =>
    refine ⟨186, _, (Option.some.inj hv).symm, ⟨_, X 186 _ (by k_dflt k_is), rfl, _, rfl⟩, rfl, fun j w hw => ?_⟩
    match j, hw with
    | 0, hw => exact ⟨179, _, _, _, _, _, rfl, (Option.some.inj hw).symm, X 179 _ (by k_dflt k_is)⟩
    | 1, hw => exact ⟨180, _, _, _, _, _, rfl, (Option.some.inj hw).symm, X 180 _ (by k_dflt k_is)⟩
    | 2, hw => exact ⟨181, _, _, _, _, _, rfl, (Option.some.inj hw).symm, X 181 _ (by k_dflt k_is)⟩
    | 3, hw => exact ⟨182, _, _, _, _, _, rfl, (Option.some.inj hw).symm, X 182 _ (by k_dflt k_is)⟩
    | 4, hw => exact ⟨183, _, _, _, _, _, rfl, (Option.some.inj hw).symm, X 183 _ (by k_dflt k_is)⟩
    | 5, hw => exact ⟨184, _, _, _, _, _, rfl, (Option.some.inj hw).symm, X 184 _ (by k_dflt k_is)⟩
    | 6, hw => exact ⟨185, _, _, _, _, _, rfl, (Option.some.inj hw).symm, X 185 _ (by k_dflt k_is)⟩
    | j + 7, hw => simp at hw
  | 1, hv =>
    refine ⟨188, _, (Option.some.inj hv).symm, ⟨_, X 188 _ (by k_dflt k_is), rfl, _, rfl⟩, rfl, fun j w hw => ?_⟩
    match j, hw with
    | 0, hw => exact ⟨187, _, _, _, _, _, rfl, (Option.some.inj hw).symm, X 187 _ (by k_dflt k_is)⟩
    | j + 1, hw => simp at hw
  | 2, hv =>
    refine ⟨190, _, (Option.some.inj hv).symm, ⟨_, X 190 _ (by k_dflt k_is), rfl, _, rfl⟩, rfl, fun j w hw => ?_⟩
    match j, hw with
    | 0, hw => exact ⟨189, _, _, _, _, _, rfl, (Option.some.inj hw).symm, X 189 _ (by k_dflt k_is)⟩
    | j + 1, hw => simp at hw
  | 3, hv =>
    refine ⟨194, _, (Option.some.inj hv).symm, ⟨_, X 194 _ (by k_dflt k_is), rfl, _, rfl⟩, rfl, fun j w hw => ?_⟩
    match j, hw with
    | 0, hw => exact ⟨191, _, _, _, _, _, rfl, (Option.some.inj hw).symm, X 191 _ (by k_dflt k_is)⟩
    | 1, hw => exact ⟨192, _, _, _, _, _, rfl, (Option.some.inj hw).symm, X 192 _ (by k_dflt k_is)⟩
    | 2, hw => exact ⟨193, _, _, _, _, _, rfl, (Option.some.inj hw).symm, X 193 _ (by k_dflt k_is)⟩
    | j + 3, hw => simp at hw
  | 4, hv =>
    refine ⟨196, _, (Option.some.inj hv).symm, ⟨_, X 196 _ (by k_dflt k_is), rfl, _, rfl⟩, rfl, fun j w hw => ?_⟩
    match j, hw with
    | 0, hw => exact ⟨195, _, _, _, _, _, rfl, (Option.some.inj hw).symm, X 195 _ (by k_dflt k_is)⟩
    | j + 1, hw => simp at hw
  | 5, hv =>
    refine ⟨198, _, (Option.some.inj hv).symm, ⟨_, X 198 _ (by k_dflt k_is), rfl, _, rfl⟩, rfl, fun j w hw => ?_⟩
    match j, hw with
    | 0, hw => exact ⟨197, _, _, _, _, _, rfl, (Option.some.inj hw).symm, X 197 _ (by k_dflt k_is)⟩
    | j + 1, hw => simp at hw
  | 6, hv =>
    refine ⟨202, _, (Option.some.inj hv).symm, ⟨_, X 202 _ (by k_dflt k_is), rfl, _, rfl⟩, rfl, fun j w hw => ?_⟩
    match j, hw with
    | 0, hw => exact ⟨199, _, _, _, _, _, rfl, (Option.some.inj hw).symm, X 199 _ (by k_dflt k_is)⟩
    | 1, hw => exact ⟨200, _, _, _, _, _, rfl, (Option.some.inj hw).symm, X 200 _ (by k_dflt k_is)⟩
    | 2, hw => exact ⟨201, _, _, _, _, _, rfl, (Option.some.inj hw).symm, X 201 _ (by k_dflt k_is)⟩
    | j + 3, hw => simp at hw
  | 7, hv =>
    refine ⟨204, _, (Option.some.inj hv).symm, ⟨_, X 204 _ (by k_dflt k_is), rfl, _, rfl⟩, rfl, fun j w hw => ?_⟩
    match j, hw with
    | 0, hw => exact ⟨203, _, _, _, _, _, rfl, (Option.some.inj hw).symm, X 203 _ (by k_dflt k_is)⟩
    | j + 1, hw => simp at hw
  | 8, hv =>
    refine ⟨206, _, (Option.some.inj hv).symm, ⟨_, X 206 _ (by k_dflt k_is), rfl, _, rfl⟩, rfl, fun j w hw => ?_⟩
    match j, hw with
    | 0, hw => exact ⟨205, _, _, _, _, _, rfl, (Option.some.inj hw).symm, X 205 _ (by k_dflt k_is)⟩
    | j + 1, hw => simp at hw
  | 9, hv =>
    refine ⟨210, _, (Option.some.inj hv).symm, ⟨_, X 210 _ (by k_dflt k_is), rfl, _, rfl⟩, rfl, fun j w hw => ?_⟩
    match j, hw with
    | 0, hw => exact ⟨207, _, _, _, _, _, rfl, (Option.some.inj hw).symm, X 207 _ (by k_dflt k_is)⟩
    | 1, hw => exact ⟨208, _, _, _, _, _, rfl, (Option.some.inj hw).symm, X 208 _ (by k_dflt k_is)⟩
    | 2, hw => exact ⟨209, _, _, _, _, _, rfl, (Option.some.inj hw).symm, X 209 _ (by k_dflt k_is)⟩
    | j + 3, hw => simp at hw
  | i + 10, hv => simp at hv

theorem pick_some {test : Int → Bool} {d : Str} {bcs : List (Int × Str)} {j : Nat} {b : Int} {c : Str} (hno : ∀ q ∈ bcs.take j, test q.1 = false) (h : bcs[j]? = some (b, c)) (ht : test b = true) : pickC test d bcs = c := by
  have e : bcs = bcs.take j ++ (b, c) :: bcs.drop (j + 1) := by
    obtain ⟨h1, h2⟩ := List.getElem?_eq_some_iff.mp h
    rw [← h2, List.getElem_cons_drop h1, List.take_append_drop]
  unfold pickC
  rw [e, List.find?_append, List.find?_eq_none.mpr (fun q hq => by rw [hno q hq]; exact Bool.false_ne_true)]
  simp [ht]
theorem pick_none {test : Int → Bool} {d : Str} {bcs : List (Int × Str)} (hno : ∀ q ∈ bcs, test q.1 = false) : pickC test d bcs = d := by
  unfold pickC
  rw [List.find?_eq_none.mpr (fun q hq => by rw [hno q hq]; exact Bool.false_ne_true)]
  rfl
theorem permUp_succ (x : Int) (i : Nat) (hi : i < 10) : permUp x (i + 1) = permUp x i ++ [pickC (fmTest x i) (fmDflt i) (fmTabs.getD i [])] := by
  match i, hi with
  | 0, _ | 1, _ | 2, _ | 3, _ | 4, _ | 5, _ | 6, _ | 7, _ | 8, _ | 9, _ => rfl
  | i + 10, h => lia
theorem no_more {test : Int → Bool} {bcs : List (Int × Str)} {j : Nat} {b : Int} {c : Str} (hno : ∀ q ∈ bcs.take j, test q.1 = false) (h : bcs[j]? = some (b, c)) (ht : test b = false) : ∀ q ∈ bcs.take (j + 1), test q.1 = false := by
  rw [List.take_add_one, h]
  intro q hq
  rcases List.mem_append.mp hq with hq | hq
  · exact hno q hq
  · simp at hq; rw [hq]; exact ht

theorem pick_len {test : Int → Bool} {d : Str} {bcs : List (Int × Str)} (hb : ∀ q ∈ bcs, q.2.length ≤ 1) (hd : d.length ≤ 1) : (pickC test d bcs).length ≤ 1 := by
  unfold pickC
  cases e : bcs.find? fun q => test q.1 with
  | none => exact hd
  | some q => exact hb q (List.mem_of_find?_eq_some e)
theorem permUp_len (x : Int) : ∀ i, i ≤ 10 → ((permUp x i).map (·.length)).sum ≤ i
  | 0, _ => Nat.le_refl _
  | i + 1, h => by
    have ih := permUp_len x i (by lia)
    rw [permUp_succ x i (by lia), List.map_append, List.sum_append]
    have hp : (pickC (fmTest x i) (fmDflt i) (fmTabs.getD i [])).length ≤ 1 := by
      refine pick_len ?_ ?_
      · match i, h with
        | 0, _ | 1, _ | 2, _ | 3, _ | 4, _ | 5, _ | 6, _ | 7, _ | 8, _ | 9, _ => decide
        | i + 10, h => lia
      · unfold fmDflt; split <;> decide
    simp only [List.map_cons, List.map_nil, List.sum_cons, List.sum_nil]
    lia
theorem filemode_c {w : World} {p : Program} {loose : List Str} {mean : ExcName → Option Value} {mg mb : Str → Option Value}
    {dp un : Nat} {gd : Option (List Code)} {env : Env} {outer : List Env} {A₀ : Around} {base h₀ : Heap} {L : Addr} {m : Str → Option Value} {s : Shared} {Q E : Value → Shared → Prop}
    {news : List (Addr × Obj)} {x : Int} {tx : Tok}
    (B : Below A₀ base outer h₀) (F : Fr h₀ L s.heap m) (X : (hd.heap_1 w.params).In h₀) (T : Top p loose mean mg mb h₀)
    (hf : env.frame = some L) (hk : env.scope.kind = .function) (hd1 : dp + 6 < recursionLimit) (hu1 : un + 64 < cLine) (N : News h₀ L s.heap news)
    (hret : ∀ (t : Tok) (h' : Heap) (tk' : Nat), Fr h₀ L h' m → News h₀ L h' news → Q (.str (Txt.join (Str.ofString "") (permUp x 10)) t) { s with heap := h', toks := tk' }) :
    wpAny (model PySem.Challenge.rw_pd0151_01.row.prog w) (tp dp un gd env outer) (call (.ref 218) [.int x tx]) Q E s := by
  w_top off
  revert X; k_fill; intro X
  refine wpAny_call ?_
  k_dflt (refine' code_def (binds := [(Str.ofString "mode", .int x tx)]) ?k1 ?k2 ?k3 ?k4 ?k5 ?kA ?kF ?kK ?k6 ?k7 ?k8 ?k9 ?kB ?_ ?c2 ?c3 ?c4 ?c5; (case kA => exact rfl); (case kF => first | assumption | exact rfl); (case kK => first | assumption | exact rfl); (case k1 => k_asm); (case k2 => k_asm); (case k3 => k_asm); (case k4 => k_asm); (case k5 => k_asm); (case k6 => k_is); (case k7 => k_is); (case k8 => ktr_room); (case k9 => exact BindsTo.of_eq rfl); (case c5 => decide); (case kB => exact locs rfl); (case c2 => exact rfl); (case c3 => exact rfl); (case c4 => exact rfl); k_whole; intro g' L' h' FG' F' N' B' X' T'; (try dsimp only); (try k_lift B'); (refine wpAny_noRaise ?_); (try k_fold))
  k_steps
  refine Stop.mk ?_
  refine for_in ?_
  k_steps
  have h211 := X' 211 _ (by k_dflt k_is)
  rename_i lp h1 l1 h2 F2 N2
  have l2 : ∀ q ∈ news, q.1 ≠ lp := fun q hq => Nat.ne_of_lt (l1 q hq)
  refine Stop.mk ?_
  refine go_enumT (its := #[Value.ref 186, Value.ref 188, Value.ref 190, Value.ref 194, Value.ref 196, Value.ref 198, Value.ref 202, Value.ref 204, Value.ref 206, Value.ref 210]) rfl F2 N2 ⟨_, h211, rfl, _, rfl⟩ rfl rfl rfl ?_
  intro I h3 l3
  refine ForRestE.inv (fun i m nw => ∃ vs n ua ub uc ud, m = (fun z => if z = Str.ofString "table" then ua else if z = Str.ofString "index" then ub else if z = Str.ofString "bit" then uc else if z = Str.ofString "char" then ud else if z = Str.ofString "perm" then some (Value.ref lp) else List.lookup z [(Str.ofString "mode", Value.int x tx)].reverse) ∧ nw = (lp, listOf vs.toArray n) :: news ∧ StrsAre vs (permUp x i) ∧ vs.length = i) ?_ ?_ 10 0 _ _ rfl ⟨[], 0, none, none, none, none, ?_, rfl, .nil, rfl⟩
  · rintro i m nw v t oe oi h4 tk4 hv ⟨vs, n4, ua, ub, uc, ud, rfl, rfl, hs4, hl4⟩ F4 N4 off4
    obtain ⟨a5, its5, rfl, ht5, hm5⟩ := fm_tabs (fun _ => X') i v hv
    have hi : i < 10 := by have := (Array.getElem?_eq_some_iff.mp hv).1; simpa using this
    k_steps
    refine Stop.mk ?_
    refine for_in ?_
    k_steps
    refine Stop.mk ?_
    refine go_tupleB rfl F4 N4 ht5 (fun _ _ _ _ _ st q => let_tupleiter st q) ?_
    intro I6 h6 l6
    have o1 : I + 1 ≠ lp := Ne.symm (off4 _ (.head _)).1
    have o2 : I ≠ lp := Ne.symm (off4 _ (.head _)).2
    have finN : ∀ (L9 : Addr) (h : Heap) (c : Str) (u : Tok), News g' L9 h ((I + 1, oe) :: (I, oi) :: (lp, listOf (vs.toArray.push (.str c u)) (n4 + 1)) :: news) → News g' L9 h ([(I + 1, oe), (I, oi)] ++ ((lp, listOf (vs ++ [Value.str c u]).toArray (n4 + 1)) :: news)) := by
      intro L9 h c u N9
      rw [show vs.toArray.push (Value.str c u) = (vs ++ [Value.str c u]).toArray by simp] at N9
      exact N9
    have finO : ∀ (o : Obj), ∀ p ∈ [(I + 1, oe), (I, oi)], ∀ q ∈ (lp, o) :: news, q.1 ≠ p.1 := by
      intro o p hp q hq
      have h1 : q.1 ≠ I + 1 ∧ q.1 ≠ I := by
        rcases List.mem_cons.mp hq with e | hq
        · rw [e]; exact ⟨Ne.symm o1, Ne.symm o2⟩
        · exact off4 q (.tail _ hq)
      rcases List.mem_cons.mp hp with e | hp
      · rw [e]; exact h1.1
      · rw [List.mem_singleton.mp hp]; exact h1.2
    have finS : ∀ (c : Str) (u : Tok), pickC (fmTest x i) (fmDflt i) (fmTabs.getD i []) = c → StrsAre (vs ++ [Value.str c u]) (permUp x (i + 1)) := by
      intro c u e
      rw [permUp_succ x i hi, e]
      exact Mine.StrsAre.snoc hs4
    have finL : ∀ v : Value, (vs ++ [v]).length = i + 1 := by intro v; simp [hl4]
    refine ForRest.inv (n := its5.size) (fun j m nw => ∃ uc ud, m = (fun z => if z = Str.ofString "bit" then uc else if z = Str.ofString "char" then ud else if z = Str.ofString "table" then some (Value.ref a5) else if z = Str.ofString "index" then some (Value.int (i : Int) t) else if z = Str.ofString "perm" then some (Value.ref lp) else List.lookup z [(Str.ofString "mode", Value.int x tx)].reverse) ∧ nw = (I + 1, oe) :: (I, oi) :: (lp, listOf vs.toArray n4) :: news ∧ ∀ q ∈ (fmTabs.getD i []).take j, fmTest x i q.1 = false) ?_ ?_ its5.size 0 _ _ (Nat.zero_add _) ⟨uc, ud, ?_, rfl, ?_⟩
    · rintro j m nw v oI h7 tk7 hj ⟨uc', ud', rfl, rfl, hno⟩ hv7 F7 N7 off7
      obtain ⟨a8, n8, t8, u8, b8, c8, hbc, rfl, hget⟩ := hm5.2 j v hv7
      have o3 : I6 ≠ lp := Ne.symm (off7 _ (.tail _ (.tail _ (.head _))))
      k_steps
      refine Stop.mk ?_
      refine assign_two rfl F7 N7 ⟨_, F7.keep _ _ hget, rfl, _, rfl⟩ rfl rfl rfl ?_
      intro h9 tk9 F9 N9
      have eM : (fun z => if z = Str.ofString "char" then some (Value.str c8 u8) else if z = Str.ofString "bit" then some (Value.int b8 t8) else if z = Str.ofString "bit" then uc' else if z = Str.ofString "char" then ud' else if z = Str.ofString "table" then some (Value.ref a5) else if z = Str.ofString "index" then some (Value.int (i : Int) t) else if z = Str.ofString "perm" then some (Value.ref lp) else List.lookup z [(Str.ofString "mode", Value.int x tx)].reverse) = (fun z => if z = Str.ofString "bit" then some (Value.int b8 t8) else if z = Str.ofString "char" then some (Value.str c8 u8) else if z = Str.ofString "table" then some (Value.ref a5) else if z = Str.ofString "index" then some (Value.int (i : Int) t) else if z = Str.ofString "perm" then some (Value.ref lp) else List.lookup z [(Str.ofString "mode", Value.int x tx)].reverse) := (funext fun z => by
          by_cases e0 : z = Str.ofString "char"
          · rw [e0]; rfl
          by_cases e1 : z = Str.ofString "bit"
          · rw [e1]; rfl
          by_cases e2 : z = Str.ofString "table"
          · rw [e2]; rfl
          by_cases e3 : z = Str.ofString "index"
          · rw [e3]; rfl
          simp only [e0, e1, e2, e3, if_false])
      rw [eM] at F9
      have eN : (fun z => if z = Str.ofString "bit" then some (Value.int b8 t8) else if z = Str.ofString "char" then some (Value.str c8 u8) else if z = Str.ofString "table" then some (Value.ref a5) else if z = Str.ofString "index" then some (Value.int (i : Int) t) else if z = Str.ofString "perm" then some (Value.ref lp) else List.lookup z [(Str.ofString "mode", Value.int x tx)].reverse) = (fun z => if z = Str.ofString "table" then some (Value.ref a5) else if z = Str.ofString "index" then some (Value.int (i : Int) t) else if z = Str.ofString "bit" then some (Value.int b8 t8) else if z = Str.ofString "char" then some (Value.str c8 u8) else if z = Str.ofString "perm" then some (Value.ref lp) else List.lookup z [(Str.ofString "mode", Value.int x tx)].reverse) := (funext fun z => by
          by_cases e0 : z = Str.ofString "char"
          · rw [e0]; rfl
          by_cases e1 : z = Str.ofString "bit"
          · rw [e1]; rfl
          by_cases e2 : z = Str.ofString "table"
          · rw [e2]; rfl
          by_cases e3 : z = Str.ofString "index"
          · rw [e3]; rfl
          simp only [e0, e1, e2, e3, if_false])
      k_steps
      · rename_i hc0
        have hc1 : i = 0 := by lia
        refine Stop.mk ?_
        refine sifmt_c B' F9 X' T' rfl rfl ?_ ?_ N9 ?_
        · simp only [depth_deeper]; exact dlt hd1 rfl
        · simp only [units_deeper]; exact dlt hu1 rfl
        intro t10 h10 tk10 F10 N10
        k_steps
        · rename_i hc h11 F11 N11
          have htest : fmTest x i b8 = true := by unfold fmTest; rw [if_pos hc1]; simp [hc]
          refine Stop.mk ?_
          dsimp only [ForPost]
          k_steps
          refine Stop.mk ?_
          rw [eN] at F11
          exact ⟨_, _, _, _, rfl, F11, finN _ _ _ _ (fun p hp => N11 p (.tail _ hp)), finO _, _, _, _, _, _, _, rfl, rfl, finS _ _ (pick_some hno hbc htest), finL _⟩
        · rename_i hc
          have htest : fmTest x i b8 = false := by unfold fmTest; rw [if_pos hc1]; simp [hc]
          refine Stop.mk ?_
          exact ⟨_, _, _, _, rfl, F10, N10, off7, trivial, _, _, rfl, rfl, no_more hno hbc htest⟩
      · rename_i hc0 tkA hc tkB h11 F11 N11
        have hc1 : ¬ i = 0 := by lia
        have htest : fmTest x i b8 = true := by unfold fmTest; rw [if_neg hc1]; simp [hc]
        refine Stop.mk ?_
        dsimp only [ForPost]
        k_steps
        refine Stop.mk ?_
        rw [eN] at F11
        exact ⟨_, _, _, _, rfl, F11, finN _ _ _ _ (fun p hp => N11 p (.tail _ hp)), finO _, _, _, _, _, _, _, rfl, rfl, finS _ _ (pick_some hno hbc htest), finL _⟩
      · rename_i hc0 hc
        have hc1 : ¬ i = 0 := by lia
        have htest : fmTest x i b8 = false := by unfold fmTest; rw [if_neg hc1]; simp [hc]
        refine Stop.mk ?_
        exact ⟨_, _, _, _, rfl, F9, N9, off7, trivial, _, _, rfl, rfl, no_more hno hbc htest⟩
    · rintro m nw h7 tk7 ⟨uc', ud', rfl, rfl, hno⟩ F7 N7
      rw [hm5.1, List.take_length] at hno
      have eN : (fun z => if z = Str.ofString "bit" then uc' else if z = Str.ofString "char" then ud' else if z = Str.ofString "table" then some (Value.ref a5) else if z = Str.ofString "index" then some (Value.int (i : Int) t) else if z = Str.ofString "perm" then some (Value.ref lp) else List.lookup z [(Str.ofString "mode", Value.int x tx)].reverse) = (fun z => if z = Str.ofString "table" then some (Value.ref a5) else if z = Str.ofString "index" then some (Value.int (i : Int) t) else if z = Str.ofString "bit" then uc' else if z = Str.ofString "char" then ud' else if z = Str.ofString "perm" then some (Value.ref lp) else List.lookup z [(Str.ofString "mode", Value.int x tx)].reverse) := (funext fun z => by
          by_cases e0 : z = Str.ofString "char"
          · rw [e0]; rfl
          by_cases e1 : z = Str.ofString "bit"
          · rw [e1]; rfl
          by_cases e2 : z = Str.ofString "table"
          · rw [e2]; rfl
          by_cases e3 : z = Str.ofString "index"
          · rw [e3]; rfl
          simp only [e0, e1, e2, e3, if_false])
      k_steps
      · rename_i hc0 h11 F11 N11
        have hd : fmDflt i = Str.ofString "?" := if_pos (by lia)
        refine Stop.mk ?_
        rw [eN] at F11
        exact ⟨_, _, _, _, rfl, F11, finN _ _ _ _ N11, finO _, _, _, _, _, _, _, rfl, rfl, finS _ _ ((pick_none hno).trans hd), finL _⟩
      · rename_i hc0 h11 F11 N11
        have hd : fmDflt i = Str.ofString "-" := if_neg (by lia)
        refine Stop.mk ?_
        rw [eN] at F11
        exact ⟨_, _, _, _, rfl, F11, finN _ _ _ _ N11, finO _, _, _, _, _, _, _, rfl, rfl, finS _ _ ((pick_none hno).trans hd), finL _⟩
    · exact (funext fun z => by
          by_cases e0 : z = Str.ofString "table"
          · rw [e0]; rfl
          by_cases e1 : z = Str.ofString "index"
          · rw [e1]; rfl
          by_cases e2 : z = Str.ofString "bit"
          · rw [e2]; rfl
          by_cases e3 : z = Str.ofString "char"
          · rw [e3]; rfl
          simp only [e0, e1, e2, e3, if_false])
    · intro q hq; simp at hq
  · rintro m nw h4 tk4 ⟨vs, n4, ua, ub, uc, ud, rfl, rfl, hs4, hl4⟩ F4 N4
    have hlen : ((permUp x 10).map (·.length)).sum + (permUp x 10).length * (Str.ofString "").length ≤ 16777216 := by
      have h1 := permUp_len x 10 (Nat.le_refl _)
      have h2 : (Str.ofString "").length = 0 := by decide
      rw [h2]; lia
    k_steps
    refine Stop.mk ?_
    refine join_list (items := vs.toArray) (ys := permUp x 10) ⟨_, (N4 _ (.head _)).1, rfl, _, rfl⟩ (by simpa using hs4) hlen ?_
    intro t5 tk5
    k_steps
    rename_i F9 N9 T9 X9
    exact hret _ _ _ F9 fun p hp => N9 p (.tail _ hp)
  · funext z
    by_cases e1 : z = Str.ofString "table"
    · subst e1; rfl
    by_cases e2 : z = Str.ofString "index"
    · subst e2; rfl
    by_cases e3 : z = Str.ofString "bit"
    · subst e3; rfl
    by_cases e4 : z = Str.ofString "char"
    · subst e4; rfl
    simp [e1, e2, e3, e4]
end Mine
end
section
open PySem PySem.W PySem.Spec PySem.Calls PyProof.Rows
set_option Elab.async false
set_option maxRecDepth 100000
set_option maxHeartbeats 8000000
set_option linter.unusedVariables false
namespace Mine
local macro_rules | `(tactic| walk_at "call ref") => `(tactic| (k_here; refine Stop.of ?_))
local macro_rules | `(tactic| walk_at "CompSrc") => `(tactic| (k_here; refine Stop.of ?_))
local macro_rules | `(tactic| walk_at "CompEnd") => `(tactic| (k_here; refine Stop.of ?_))
local macro_rules | `(tactic| walk_at "FinA") => `(tactic| (k_here; refine Stop.of ?_))
local macro_rules | `(tactic| walk_at "exec Assign cons ListComp") => `(tactic| (k_here; k_dflt (refine LCg.Assign_ListComp_U (F₀ := by k_asm) (by rfl) (by with_unfolding_all rfl) (by rfl) (by decide) (by rfl) (by decide) (by rfl) (by rfl) (by rfl) ?_)))
local macro_rules | `(tactic| walk_at "subscriptTail Name Slice ref ref") => `(tactic| (k_here; refine Stop.of ?_))
def lawNums (ns : List Int) : List Int := (ns.take 7).map (fun z => z.fmod 1000000) ++ [300, 100, 401, 913, 302, 1825, 406].drop (ns.take 7).length
theorem numbers_c {w : World} {p : Program} {loose : List Str} {mean : ExcName → Option Value} {mg mb : Str → Option Value}
    {dp un : Nat} {gd : Option (List Code)} {env : Env} {outer : List Env} {A₀ : Around} {base h₀ : Heap} {L : Addr} {m : Str → Option Value} {s : Shared} {Q E : Value → Shared → Prop}
    {news : List (Addr × Obj)} {l : Addr} {vs : List Value} {ns : List Int}
    (B : Below A₀ base outer h₀) (F : Fr h₀ L s.heap m) (X : (hd.heap_1 w.params).In h₀) (T : Top p loose mean mg mb h₀)
    (hf : env.frame = some L) (hk : env.scope.kind = .function) (hd1 : dp + 6 < recursionLimit) (hu1 : un + 64 < cLine) (N : News h₀ L s.heap news) (hl : base.IsList l vs.toArray) (hI : IntsAre vs ns) (hlen : ns.length ≤ 63)
    (hret : ∀ (D : Addr) (ws : List Value) (h' : Heap) (tk' : Nat), Fr h₀ L h' m → News h₀ L h' ((D, listOf ws.toArray 0) :: news) → IntsAre ws (lawNums ns) → (∀ q ∈ news, q.1 < D) → Q (.ref D) { s with heap := h', toks := tk' }) :
    wpAny (model PySem.Challenge.rw_pd0151_01.row.prog w) (tp dp un gd env outer) (call (.ref 223) [.ref l]) Q E s := by
  w_top off
  revert X; k_fill; intro X
  refine wpAny_call ?_
  k_dflt (refine' code_def (binds := [(Str.ofString "script", .ref l)]) ?k1 ?k2 ?k3 ?k4 ?k5 ?kA ?kF ?kK ?k6 ?k7 ?k8 ?k9 ?kB ?_ ?c2 ?c3 ?c4 ?c5; (case kA => exact rfl); (case kF => first | assumption | exact rfl); (case kK => first | assumption | exact rfl); (case k1 => k_asm); (case k2 => k_asm); (case k3 => k_asm); (case k4 => k_asm); (case k5 => k_asm); (case k6 => k_is); (case k7 => k_is); (case k8 => ktr_room); (case k9 => exact BindsTo.of_eq rfl); (case c5 => decide); (case kB => exact locs rfl); (case c2 => exact rfl); (case c3 => exact rfl); (case c4 => exact rfl); k_whole; intro g' L' h' FG' F' N' B' X' T'; (try dsimp only); (try k_lift B'); (refine wpAny_noRaise ?_); (try k_fold))
  k_steps
  refine Stop.mk ?_
  have hl1 : h'.IsList l vs.toArray := let ⟨o, ho, r⟩ := hl; ⟨o, F'.keep _ _ (B'.stays _ _ ho), r⟩
  refine kmk_slice_ints F' N' hl1 .none (.int 7 _) hI (kmk_upto hI (by decide)) rfl ?_ (by with_unfolding_all rfl) (by intro _; with_unfolding_all rfl) (by rw [sizeLine_eq, List.size_toArray, hI.length]; lia)
  intro D1 ws h1 F1 N1 l1 hI1 hC1 hL1
  replace hI1 : IntsAre ws (ns.take 7) := hI1
  have hC2 : (ns.take 7).length ≤ 7 := by rw [List.length_take]; lia
  k_steps
  refine Stop.mk ?_
  have hsz1 : ws.length ≤ 7 := by rw [hI1.length]; exact hC2
  refine LCg.CompSrc.ledger rfl F1 N1 (.head _) (by rw [sizeLine_eq, List.size_toArray]; lia) ?_
  intro g2
  refine comp_inv (n := ws.toArray.size) (fun i ys nw => ∃ zs, IntsAre ys zs ∧ zs = ((ns.take 7).take i).map (fun z => z.fmod 1000000) ∧ nw = (D1, listOf ws.toArray 0) :: news) ?_ ?_ ws.toArray.size 0 _ _ (Nat.zero_add _) ⟨[], .nil, by simp, rfl⟩
  · rintro i ys nw v I oI C oC D m2 h2 tk2 E2 hi ⟨zs, hz, rfl, rfl⟩ hv hC hm F2 N2 off ne
    have hi2 : i < (ns.take 7).length := by rw [← hI1.length]; simpa using hi
    obtain ⟨t3, ht3⟩ := hI1.get i _ (List.getElem?_eq_getElem hi2)
    have hv3 : ws[i]? = some v := by simpa using hv
    obtain rfl : v = .int (ns.take 7)[i] t3 := by rw [ht3] at hv3; exact (Option.some.inj hv3).symm
    k_steps
    refine Stop.mk ?_
    exact ⟨_, _, _, rfl, F2, N2, off, .inr ⟨_, .head _, rfl, _, rfl⟩, _, ints_snoc hz, (by rw [show (10 : Int) ^ Int.toNat 6 = 1000000 by decide]; exact take_snoc_map (ns.take 7) (fun z => z.fmod 1000000) i hi2), rfl⟩
  · rintro ys nw ⟨zs, hz, hzs, rfl⟩
    have hzl : zs.length ≤ 7 := by rw [hzs]; simp; lia
    have hyl : ys.length = zs.length := hz.length
    intro D3 h3 tk3 F3 N3 o3
    k_steps
    refine Stop.mk ?_
    rename_i l4 h4 F4 N4 lt4
    refine kmk_slice_ints (vs := [_, _, _, _, _, _, _]) (ns := [300, 100, 401, 913, 302, 1825, 406]) F4 N4 ⟨_, (N4 _ (.head _)).1, rfl, _, rfl⟩ (.int _ _) .none (.cons _ _ (.cons _ _ (.cons _ _ (.cons _ _ (.cons _ _ (.cons _ _ (.cons _ _ .nil))))))) (kmk_from (.cons _ _ (.cons _ _ (.cons _ _ (.cons _ _ (.cons _ _ (.cons _ _ (.cons _ _ .nil))))))) (by lia)) rfl ?_ (by with_unfolding_all rfl) (by intro _; with_unfolding_all rfl) (by rw [sizeLine_eq]; exact Nat.le_of_ble_eq_true rfl)
    intro D5 ws5 h5 F5 N5 l5 hI5 hC5 hL5
    k_steps
    rename_i D6 ws6 h6 F6 N6 hI6 l6 F7 N7 T7 X7
    have ez : zs = (ns.take 7).map (fun z => z.fmod 1000000) := by
      rw [hzs, List.size_toArray, hI1.length, List.take_length]
    have e6 : zs ++ List.drop ((zs.length : Int)).toNat [300, 100, 401, 913, 302, 1825, 406] = lawNums ns := by
      unfold lawNums
      rw [Int.toNat_natCast, ez, List.length_map]
    rw [e6] at hI6
    refine hret D6 ws6 _ _ F7 (fun p hp => N7 p ?_) hI6 (allLt_mem l6.2.2.2.2)
    rcases List.mem_cons.mp hp with e | hp
    · rw [e]; exact .head _
    · exact .tail _ (.tail _ (.tail _ (.tail _ (.tail _ hp))))
end Mine
end
section
open PySem PySem.W PySem.Spec PySem.Calls PyProof.Rows
set_option Elab.async false
set_option maxRecDepth 100000
set_option maxHeartbeats 8000000
set_option linter.unusedVariables false
namespace Mine
local macro_rules | `(tactic| walk_at "call ref") => `(tactic| (k_here; refine Stop.of ?_))
local macro_rules | `(tactic| walk_at "exec For Name Call cons nil") => `(tactic| (k_here; refine Stop.of ?_))
local macro_rules | `(tactic| walk_at "pyIter ref") => `(tactic| (k_here; refine Stop.of ?_))
local macro_rules | `(tactic| walk_at "ForPost") => `(tactic| (k_here; refine Stop.of ?_))
local macro_rules | `(tactic| walk_at "subscriptTail Name Name ref int") => `(tactic| (k_here; refine Stop.of ?_))
local macro_rules | `(tactic| walk_at "subscriptTail Name Subscript ref int") => `(tactic| (k_here; refine Stop.of ?_))
local macro_rules | `(tactic| walk_at "subscriptTail Tuple") => `(tactic| (k_here; refine Stop.of ?_))
local macro_rules | `(tactic| walk_at "subscriptTail Name Slice ref ref") => `(tactic| (k_here; refine Stop.of ?_))
local macro_rules | `(tactic| walk_at "binaryOp Add ref ref") => `(tactic| (k_here; refine Stop.of ?_))
local macro_rules | `(tactic| k_upd) => `(tactic| first | (refine' Upd.head ?a; (case a => assumption)) | (refine' Upd.tail ?a ?b; (case a => first | assumption | k_ne); (case b => k_upd)))
local macro_rules | `(tactic| walk_at "call builtin:list.append") => `(tactic| (k_here; (with_reducible show wpAny _ _ (call (Value.builtin _) [Value.ref _, _]) _ _ _); k_dflt (refine' append_K ?k1 ?k2 ?k3 ?_ ?z; (case k1 => k_asm); (case k2 => k_asm); (case k3 => k_upd); (case z => (rw [sizeLine_eq, List.size_toArray]; lia)); k_whole); intro h' F' N'; (try k_sweep)))
local macro_rules | `(tactic| walk_at "binaryOp Add str str") => `(tactic| (k_here; (refine' str_add ?k1 ?_; (case k1 => lia); k_whole); intro t' tk'))

def lawNames : List Str := [Str.ofString "b", Str.ofString "a", Str.ofString "c", Str.ofString "a-", Str.ofString "ab", Str.ofString "a.", Str.ofString "d"]
def textsUp (ov : List Int) : Nat → List Str
  | 0 => [Str.ofString ""]
  | k + 1 => textsUp ov k ++ [(textsUp ov k).getD (ov.getD k 0).toNat Str.empty ++ Str.ofString "/" ++ lawNames.getD k Str.empty]
def lawTexts (ov : List Int) : List Str := Str.ofString "/" :: (textsUp ov 7).drop 1
theorem textsUp_length (ov : List Int) : ∀ i, (textsUp ov i).length = i + 1
  | 0 => rfl
  | i + 1 => by unfold textsUp; rw [List.length_append, textsUp_length ov i]; rfl
theorem strs_len {vs : List Value} {ys : List Str} (h : StrsAre vs ys) : vs.length = ys.length := by
  induction h with
  | nil => rfl
  | cons _ _ _ ih => simp [ih]
theorem textsUp_len (ov : List Int) : ∀ i, ∀ x ∈ textsUp ov i, x.length ≤ 10 * i
  | 0, x, hx => by rw [List.mem_singleton.mp hx]; decide
  | i + 1, x, hx => by
    unfold textsUp at hx
    rcases List.mem_append.mp hx with h | h
    · have := textsUp_len ov i x h; lia
    · rw [List.mem_singleton.mp h, Str.length_append, Str.length_append]
      have h1 : ((textsUp ov i).getD (ov.getD i 0).toNat Str.empty).length ≤ 10 * i := by
        rw [List.getD_eq_getElem?_getD]
        cases e : (textsUp ov i)[(ov.getD i 0).toNat]? with
        | none => exact Nat.zero_le _
        | some y => exact textsUp_len ov i y (List.mem_of_getElem? e)
      have h2 : (Str.ofString "/").length = 1 := by decide
      have h3 : (lawNames.getD i Str.empty).length ≤ 2 := by
        match i with
        | 0 | 1 | 2 | 3 | 4 | 5 | 6 => decide
        | i + 7 => exact Nat.zero_le _
      lia

theorem lawNames_len (i : Nat) : (lawNames.getD i Str.empty).length ≤ 2 := by
  match i with
  | 0 | 1 | 2 | 3 | 4 | 5 | 6 => decide
  | i + 7 => exact Nat.zero_le _
theorem strs_get {vs : List Value} {ys : List Str} (h : StrsAre vs ys) : ∀ (i : Nat) (v : Value), vs[i]? = some v → ∃ t, v = .str (ys.getD i Str.empty) t := by
  induction h with
  | nil => intro i v hv; simp at hv
  | cons y t _ ih =>
    intro i v hv
    cases i with
    | zero => exact ⟨t, (Option.some.inj hv).symm⟩
    | succ i => exact ih i v hv

theorem StrsAre.drop1 {vs : List Value} {ys : List Str} (h : StrsAre vs ys) : StrsAre (vs.drop 1) (ys.drop 1) := by
  cases h with
  | nil => exact .nil
  | cons _ _ h => exact h
theorem pick_from1 (vs : List Value) (h : 1 ≤ vs.length) : kms_pick vs (some 1) none = vs.drop 1 := by
  show List.take (vs.length - min 1 vs.length) (List.drop (min 1 vs.length) vs) = _
  rw [show min 1 vs.length = 1 by lia]
  exact List.take_of_length_le (by rw [List.length_drop]; exact Nat.le_refl _)

theorem texts_c {w : World} {p : Program} {loose : List Str} {mean : ExcName → Option Value} {mg mb : Str → Option Value}
    {dp un : Nat} {gd : Option (List Code)} {env : Env} {outer : List Env} {A₀ : Around} {base h₀ : Heap} {L : Addr} {m : Str → Option Value} {s : Shared} {Q E : Value → Shared → Prop}
    {news : List (Addr × Obj)} {lo : Addr} {ovs : List Value} {ov : List Int} {no : Nat}
    (B : Below A₀ base outer h₀) (F : Fr h₀ L s.heap m) (X : (hd.heap_1 w.params).In h₀) (T : Top p loose mean mg mb h₀)
    (hf : env.frame = some L) (hk : env.scope.kind = .function) (hd1 : dp + 6 < recursionLimit) (hu1 : un + 64 < cLine) (N : News h₀ L s.heap news) (hm : (lo, listOf ovs.toArray no) ∈ news) (hI : IntsAre ovs ov) (hlen : ov.length = 7) (hb : ∀ k, 0 ≤ ov.getD k 0 ∧ ov.getD k 0 ≤ (k : Int))
    (hret : ∀ (D : Addr) (ws : List Value) (n : Nat) (h' : Heap) (tk' : Nat), Fr h₀ L h' m → News h₀ L h' ((D, listOf ws.toArray n) :: news) → StrsAre ws (lawTexts ov) → (∀ q ∈ news, q.1 < D) → Q (.ref D) { s with heap := h', toks := tk' }) :
    wpAny (model PySem.Challenge.rw_pd0151_01.row.prog w) (tp dp un gd env outer) (call (.ref 230) [.ref lo]) Q E s := by
  w_top off
  revert X; k_fill; intro X
  refine wpAny_call ?_
  k_dflt (refine' code_def (binds := [(Str.ofString "overs", .ref lo)]) ?k1 ?k2 ?k3 ?k4 ?k5 ?kA ?kF ?kK ?k6 ?k7 ?k8 ?k9 ?kB ?_ ?c2 ?c3 ?c4 ?c5; (case kA => exact rfl); (case kF => first | assumption | exact rfl); (case kK => first | assumption | exact rfl); (case k1 => k_asm); (case k2 => k_asm); (case k3 => k_asm); (case k4 => k_asm); (case k5 => k_asm); (case k6 => k_is); (case k7 => k_is); (case k8 => ktr_room); (case k9 => exact BindsTo.of_eq rfl); (case c5 => decide); (case kB => exact locs rfl); (case c2 => exact rfl); (case c3 => exact rfl); (case c4 => exact rfl); k_whole; intro g' L' h' FG' F' N' B' X' T'; (try dsimp only); (try k_lift B'); (refine wpAny_noRaise ?_); (try k_fold))
  k_steps
  refine Stop.mk ?_
  refine for_in ?_
  k_steps
  refine Stop.mk ?_
  rename_i tk0 lt h1 l1 h2 F2 N2 h3 tk3 t3 u3 v3 hrg F3 N3 hk3
  have l2 : ∀ q ∈ news, q.1 ≠ lt := fun q hq => Nat.ne_of_lt (l1 q hq)
  refine go_range (n := 7) rfl F3 N3 hrg (by decide) (by decide) (fun _ _ _ _ q => let_name q) ?_
  intro I h4 l4
  refine ForRest.inv (n := 7) (fun i m nw => ∃ vs n u, m = (fun z => if z = Str.ofString "k" then u else if z = Str.ofString "texts" then some (Value.ref lt) else List.lookup z [(Str.ofString "overs", Value.ref lo)].reverse) ∧ nw = (lt, listOf vs.toArray n) :: news ∧ StrsAre vs (textsUp ov i)) ?_ ?_ 7 0 _ _ rfl ⟨[_], 0, none, (funext fun z => by
          by_cases e0 : z = Str.ofString "k"
          · rw [e0]; rfl
          by_cases e1 : z = Str.ofString "texts"
          · rw [e1]; rfl
          simp only [e0, e1, if_false]), rfl, .cons _ _ .nil⟩
  · rintro i m nw v oI h5 tk5 hi ⟨vs, n5, u5, rfl, rfl, hs5⟩ ⟨tv, rfl⟩ F5 N5 off5
    have o1 : I ≠ lt := Ne.symm (off5 _ (.head _))
    have hvl : vs.length = i + 1 := by rw [strs_len hs5, textsUp_length]
    have hb5 := hb i
    have e5 : (0 + (i : Int)).toNat = i := by lia
    k_steps
    refine Stop.mk ?_
    rename_i h6 F6 N6
    refine ksa_sub N6 (.tail _ (.tail _ hm)) hI (by lia) (by lia) (by lia) ?_ (by with_unfolding_all rfl)
    intro t7
    rw [e5]
    k_steps
    refine Stop.mk ?_
    refine item_strsA (s := { s with heap := h6, toks := _ }) ⟨_, (N6 _ (.tail _ (.head _))).1, rfl, _, rfl⟩ hs5 hb5.1 (by rw [textsUp_length]; lia) (by lia) ?_ (by with_unfolding_all rfl) (by intro _; with_unfolding_all rfl)
    intro t8
    have hx : ∃ g, g = (textsUp ov i).getD (ov.getD i 0).toNat Str.empty ∧ g.length ≤ 100 := ⟨_, rfl, by
      rw [List.getD_eq_getElem?_getD]
      cases e : (textsUp ov i)[(ov.getD i 0).toNat]? with
      | none => exact Nat.zero_le _
      | some y => have := textsUp_len ov i y (List.mem_of_getElem? e); show y.length ≤ 100; lia⟩
    obtain ⟨g, hg, hgl⟩ := hx
    rw [← hg]
    have hs1 : (Str.ofString "/").length = 1 := by decide
    k_steps
    refine Stop.mk ?_
    rename_i t9 tk9 D9 h9 F9 N9 l9
    have hn : StrsAre [Value.str (Str.ofString "b") tk9, Value.str (Str.ofString "a") (tk9 + 1), Value.str (Str.ofString "c") (tk9 + 1 + 1), Value.str (Str.ofString "a-") (tk9 + 1 + 1 + 1), Value.str (Str.ofString "ab") (tk9 + 1 + 1 + 1 + 1), Value.str (Str.ofString "a.") (tk9 + 1 + 1 + 1 + 1 + 1), Value.str (Str.ofString "d") (tk9 + 1 + 1 + 1 + 1 + 1 + 1)] lawNames := .cons _ _ (.cons _ _ (.cons _ _ (.cons _ _ (.cons _ _ (.cons _ _ (.cons _ _ .nil))))))
    refine sub_tup (vs := [_, _, _, _, _, _, _]) (N9 _ (.head _)).1 (by lia) (by show 0 + (i : Int) < 7; lia) (Nat.le_of_ble_eq_true rfl) ?_ (by with_unfolding_all rfl)
    intro v10 hv10
    obtain ⟨t10, rfl⟩ : ∃ t, v10 = .str (lawNames.getD i Str.empty) t := by
      rw [e5] at hv10
      exact strs_get hn i v10 hv10
    have hy : ∃ g2, g2 = lawNames.getD i Str.empty ∧ g2.length ≤ 2 := ⟨_, rfl, lawNames_len i⟩
    obtain ⟨g2, hg2, hgl2⟩ := hy
    rw [← hg2]
    have hgl3 : (g ++ Str.ofString "/").length ≤ 101 := by rw [Str.length_append]; lia
    have hln : 0 + (i : Int) < 7 := by lia
    have o2 : D9 ≠ lt := Nat.ne_of_gt l9.2.1
    k_steps
    refine Stop.mk ?_
    rename_i t11 tk11 h11 F11 N11
    have es : textsUp ov (i + 1) = textsUp ov i ++ [g ++ Str.ofString "/" ++ g2] := by rw [hg, hg2]; rfl
    refine ⟨_, _, _, (lt, listOf (vs ++ [Value.str (g ++ Str.ofString "/" ++ g2) t11]).toArray (n5 + 1)) :: news, rfl, F11, ?_, ?_, trivial, vs ++ [Value.str (g ++ Str.ofString "/" ++ g2) t11], n5 + 1, some (Value.int (0 + (i : Int)) tv), (funext fun z => by
          by_cases e0 : z = Str.ofString "k"
          · rw [e0]; rfl
          by_cases e1 : z = Str.ofString "texts"
          · rw [e1]; rfl
          simp only [e0, e1, if_false]), rfl, by rw [es]; exact Mine.StrsAre.snoc hs5⟩
    · rw [show vs.toArray.push (Value.str (g ++ Str.ofString "/" ++ g2) t11) = (vs ++ [Value.str (g ++ Str.ofString "/" ++ g2) t11]).toArray by simp] at N11
      exact fun p hp => N11 p (.tail _ hp)
    · intro p hp
      rcases List.mem_cons.mp hp with e | hp
      · rw [e]; exact Ne.symm o1
      · exact off5 p (.tail _ hp)
  · rintro m nw h5 tk5 ⟨vs, n5, u5, rfl, rfl, hs5⟩ F5 N5
    have hvl : vs.length = 8 := by rw [strs_len hs5, textsUp_length]
    k_steps
    refine Stop.mk ?_
    rename_i D7 h7 F7 N7 l7
    refine kms_slice_lit (its := vs.toArray) F7 N7 ⟨_, (N7 _ (.tail _ (.head _))).1, rfl, _, rfl⟩ (.int 1 _) .none (pick_from1 vs (by lia)) ?_ (by with_unfolding_all rfl) (by intro _; with_unfolding_all rfl) (by rw [sizeLine_eq, List.size_toArray]; lia)
    intro D8 h8 F8 N8 l8
    k_steps
    refine Stop.mk ?_
    refine kmk_add_lit F8 N8 ⟨_, (N8 _ (.tail _ (.head _))).1, rfl, _, rfl⟩ ⟨_, (N8 _ (.head _)).1, rfl, _, rfl⟩ rfl ?_ (by rw [sizeLine_eq]; show 1 + (vs.drop 1).length ≤ _; rw [List.length_drop]; lia)
    intro D9 h9 F9 N9 l9
    k_steps
    rename_i F10 N10 T10 X10
    have N11 : News h₀ L h9 ((D9, listOf (Value.str (Str.ofString "/") tk5 :: vs.drop 1).toArray 0) :: (D8, listOf (vs.drop 1).toArray 0) :: (D7, listOf #[Value.str (Str.ofString "/") tk5] 0) :: (lt, listOf vs.toArray n5) :: news) := N10
    refine hret D9 (Value.str (Str.ofString "/") tk5 :: vs.drop 1) 0 _ _ F10 (fun p hp => N11 p ?_) (.cons _ _ (Mine.StrsAre.drop1 hs5)) (fun q hq => l9 q (.tail _ (.tail _ (.tail _ hq))))
    rcases List.mem_cons.mp hp with e | hp
    · rw [e]; exact .head _
    · exact .tail _ (.tail _ (.tail _ (.tail _ hp)))
end Mine
end
section
open PySem PySem.W PySem.Spec PySem.Calls PyProof.Rows
set_option Elab.async false
set_option maxRecDepth 100000
set_option maxHeartbeats 8000000
set_option linter.unusedVariables false
namespace Mine
local macro_rules | `(tactic| walk_at "no such key D3 0") => `(tactic| fail)
local macro_rules | `(tactic| walk_at "call ref") => `(tactic| (k_here; refine Stop.of ?_))
local macro_rules | `(tactic| walk_at "exec For Name Call cons nil") => `(tactic| (k_here; refine Stop.of ?_))
local macro_rules | `(tactic| walk_at "pyIter ref") => `(tactic| (k_here; refine Stop.of ?_))
local macro_rules | `(tactic| walk_at "ForPost") => `(tactic| (k_here; refine Stop.of ?_))
local macro_rules | `(tactic| walk_at "subscriptTail Name Name ref int") => `(tactic| (k_here; refine Stop.of ?_))
local macro_rules | `(tactic| walk_at "subscriptTail Name BinOp ref int") => `(tactic| (k_here; refine Stop.of ?_))
local macro_rules | `(tactic| walk_at "subscriptTail Tuple") => `(tactic| (k_here; refine Stop.of ?_))
local macro_rules | `(tactic| walk_at "compareOp In int ref") => `(tactic| (k_here; refine Stop.of ?_))
local macro_rules | `(tactic| walk_at "setItem ref str int") => `(tactic| (k_here; refine Stop.of ?_))
local macro_rules | `(tactic| walk_at "setItem ref") => `(tactic| (k_here; refine Stop.of ?_))
local macro_rules | `(tactic| walk_at "exec Assign cons IfExp") => `(tactic| (k_here; refine Stop.of ?_))

def ownLack (x : Int) : Int := Builtin.bitOr (2 ^ ((x.fdiv 10).fmod 9).toNat) (2 ^ ((x.fdiv 90).fmod 9).toNat)
def kindNo (ns ov : List Int) (k : Nat) : Int := if ov.any (fun z => z == (k : Int) + 1) = true then 4 else [8, 1, 12].getD (((ns.getD k 0).fdiv 810).fmod 3).toNat 0
def modeNo (ns ov : List Int) (k : Nat) : Int := kindNo ns ov k * 4096 + 511 - ownLack (ns.getD k 0)
def modesUp (ns ov : List Int) (ts : List Str) (i : Nat) : List (Str × Int) := (Str.ofString "/", 16895) :: (List.range i).map fun k => (ts.getD (k + 1) Str.empty, modeNo ns ov k)
def MIs (kvs : List (Str × Value)) (ms : List (Str × Int)) : Prop := kvs.map (·.1) = ms.map (·.1) ∧ ∀ (i : Nat) (k : Str) (v : Value), kvs[i]? = some (k, v) → ∃ x t, ms[i]? = some (k, x) ∧ v = .int x t
theorem MIs.snoc {kvs : List (Str × Value)} {ms : List (Str × Int)} {k : Str} {x : Int} {t : Tok} (h : MIs kvs ms) : MIs (kvs ++ [(k, .int x t)]) (ms ++ [(k, x)]) := by
  have hl : kvs.length = ms.length := by have := congrArg List.length h.1; simpa using this
  refine ⟨by simp [h.1], ?_⟩
  intro i k' v hv
  by_cases hi : i < kvs.length
  · rw [List.getElem?_append_left hi] at hv
    rw [List.getElem?_append_left (by lia)]
    exact h.2 i k' v hv
  · rw [List.getElem?_append_right (by lia)] at hv
    rw [List.getElem?_append_right (by lia), ← hl]
    have e : i - kvs.length = 0 := by
      have := (List.getElem?_eq_some_iff.mp hv).1
      simpa using this
    rw [e] at hv ⊢
    simp at hv
    exact ⟨x, t, by simp [hv.1], hv.2.symm⟩

theorem pick3 {a b c : Tok} {e : Int} {v : Value} (hv : [Value.int 8 a, Value.int 1 b, Value.int 12 c][e.toNat]? = some v) (h0 : 0 ≤ e) (h1 : e < 3) : ∃ t, v = .int ([8, 1, 12].getD e.toNat 0) t := by
  have : e = 0 ∨ e = 1 ∨ e = 2 := by lia
  rcases this with rfl | rfl | rfl <;> exact ⟨_, (Option.some.inj hv).symm⟩

theorem modesUp_succ (ns ov : List Int) (ts : List Str) (i : Nat) : modesUp ns ov ts (i + 1) = modesUp ns ov ts i ++ [(ts.getD (i + 1) Str.empty, modeNo ns ov i)] := by
  unfold modesUp
  rw [List.range_succ, List.map_append]
  rfl
theorem modesUp_keys (ns ov : List Int) (ts : List Str) (h0 : ts.getD 0 Str.empty = Str.ofString "/") : ∀ i, i < ts.length → (modesUp ns ov ts i).map (·.1) = ts.take (i + 1)
  | 0, h => by
    rw [List.take_add_one, List.getElem?_eq_getElem h]
    have e : ts[0] = Str.ofString "/" := by rw [← h0, List.getD_eq_getElem?_getD, List.getElem?_eq_getElem h]; rfl
    rw [e]; rfl
  | i + 1, h => by
    rw [modesUp_succ, List.map_append, modesUp_keys ns ov ts h0 i (by lia), List.take_add_one (l := ts) (i := i + 1), List.getElem?_eq_getElem h]
    simp [List.getD_eq_getElem?_getD, List.getElem?_eq_getElem h]
theorem not_taken {ts : List Str} (hnd : ts.Nodup) {i : Nat} (h : i < ts.length) : ts.getD i Str.empty ∉ ts.take i := by
  intro hm
  have e : ts = ts.take i ++ ts[i] :: ts.drop (i + 1) := by rw [List.getElem_cons_drop h, List.take_append_drop]
  have e2 : ts.getD i Str.empty = ts[i] := by rw [List.getD_eq_getElem?_getD, List.getElem?_eq_getElem h]; rfl
  rw [e2] at hm
  rw [e] at hnd
  exact (List.nodup_append.mp hnd).2.2 _ hm _ (List.mem_cons_self) rfl

theorem modes_c {w : World} {p : Program} {loose : List Str} {mean : ExcName → Option Value} {mg mb : Str → Option Value}
    {dp un : Nat} {gd : Option (List Code)} {env : Env} {outer : List Env} {A₀ : Around} {base h₀ : Heap} {L : Addr} {m : Str → Option Value} {s : Shared} {Q E : Value → Shared → Prop}
    {news : List (Addr × Obj)} {ln lo lt : Addr} {nvs ovs tvs : List Value} {ns ov : List Int} {ts : List Str} {nn no nt : Nat}
    (B : Below A₀ base outer h₀) (F : Fr h₀ L s.heap m) (X : (hd.heap_1 w.params).In h₀) (T : Top p loose mean mg mb h₀)
    (hf : env.frame = some L) (hk : env.scope.kind = .function) (hd1 : dp + 6 < recursionLimit) (hu1 : un + 64 < cLine) (N : News h₀ L s.heap news) (hmn : (ln, listOf nvs.toArray nn) ∈ news) (hmo : (lo, listOf ovs.toArray no) ∈ news) (hmt : (lt, listOf tvs.toArray nt) ∈ news)
    (hIn : IntsAre nvs ns) (hIo : IntsAre ovs ov) (hIt : StrsAre tvs ts) (hln : ns.length = 7) (hlo : ov.length = 7) (hlt : ts.length = 8)
    (hb : ∀ k, 0 ≤ ns.getD k 0 ∧ ns.getD k 0 < 1000000) (hnd : ts.Nodup) (h0 : ts.getD 0 Str.empty = Str.ofString "/")
    (hret : ∀ (D : Addr) (o : Obj) (kvs : List (Str × Value)) (h' : Heap) (tk' : Nat), Fr h₀ L h' m → News h₀ L h' ((D, o) :: news) → o.IsDictOf (strKind PySem.Challenge.rw_pd0151_01.row.prog w) kvs → MIs kvs (modesUp ns ov ts 7) → (∀ q ∈ news, q.1 < D) → Q (.ref D) { s with heap := h', toks := tk' }) :
    wpAny (model PySem.Challenge.rw_pd0151_01.row.prog w) (tp dp un gd env outer) (call (.ref 244) [.ref ln, .ref lo, .ref lt]) Q E s := by
  w_top off
  revert X; k_fill; intro X
  refine wpAny_call ?_
  k_dflt (refine' code_def (binds := [(Str.ofString "numbers", .ref ln), (Str.ofString "overs", .ref lo), (Str.ofString "texts", .ref lt)]) ?k1 ?k2 ?k3 ?k4 ?k5 ?kA ?kF ?kK ?k6 ?k7 ?k8 ?k9 ?kB ?_ ?c2 ?c3 ?c4 ?c5; (case kA => exact rfl); (case kF => first | assumption | exact rfl); (case kK => first | assumption | exact rfl); (case k1 => k_asm); (case k2 => k_asm); (case k3 => k_asm); (case k4 => k_asm); (case k5 => k_asm); (case k6 => k_is); (case k7 => k_is); (case k8 => ktr_room); (case k9 => exact BindsTo.of_eq rfl); (case c5 => decide); (case kB => exact locs rfl); (case c2 => exact rfl); (case c3 => exact rfl); (case c4 => exact rfl); k_whole; intro g' L' h' FG' F' N' B' X' T'; (try dsimp only); (try k_lift B'); (refine wpAny_noRaise ?_); (try k_fold))
  k_steps
  rename_i h1 o1 l1 lo1 hd1' hf1 ap1 h2 F2 N2
  generalize hD : h'.objs.size = D at *
  refine Stop.mk ?_
  refine for_in ?_
  k_steps
  refine Stop.mk ?_
  rename_i h3 tk3 t3 u3 v3 hrg F3 N3 hk3
  refine go_range (n := 7) rfl F3 N3 hrg (by decide) (by decide) (fun _ _ _ _ q => let_name q) ?_
  intro I h4 l4
  refine ForRest.inv (n := 7) (fun i m nw => ∃ o kvs u u2, m = (fun z => if z = Str.ofString "k" then u else if z = Str.ofString "kind" then u2 else if z = Str.ofString "modes" then some (Value.ref D) else List.lookup z [(Str.ofString "numbers", Value.ref ln), (Str.ofString "overs", Value.ref lo), (Str.ofString "texts", Value.ref lt)].reverse) ∧ nw = (D, o) :: news ∧ o.IsDictOf (strKind PySem.Challenge.rw_pd0151_01.row.prog w) kvs ∧ MIs kvs (modesUp ns ov ts i)) ?_ ?_ 7 0 _ _ rfl ⟨o1, _, none, none, (funext fun z => by
          by_cases e0 : z = Str.ofString "k"
          · rw [e0]; rfl
          by_cases e1 : z = Str.ofString "kind"
          · rw [e1]; rfl
          by_cases e2 : z = Str.ofString "modes"
          · rw [e2]; rfl
          simp only [e0, e1, e2, if_false]), rfl, hd1', ?_⟩
  · rintro i m nw v oI h5 tk5 hi ⟨o5, kvs, u5, v5, rfl, rfl, hd5, hM5⟩ ⟨tv, rfl⟩ F5 N5 off5
    have o1 : I ≠ D := Ne.symm (off5 _ (.head _))
    have hb5 := hb i
    have e5 : (0 + (i : Int)).toNat = i := by lia
    have eM : ∀ (x : Int) (T : Tok), (fun z => if z = Str.ofString "kind" then some (Value.int x T) else if z = Str.ofString "k" then some (Value.int (0 + (i : Int)) tv) else if z = Str.ofString "k" then u5 else if z = Str.ofString "kind" then v5 else if z = Str.ofString "modes" then some (Value.ref D) else List.lookup z [(Str.ofString "numbers", Value.ref ln), (Str.ofString "overs", Value.ref lo), (Str.ofString "texts", Value.ref lt)].reverse) = (fun z => if z = Str.ofString "k" then some (Value.int (0 + (i : Int)) tv) else if z = Str.ofString "kind" then some (Value.int x T) else if z = Str.ofString "modes" then some (Value.ref D) else List.lookup z [(Str.ofString "numbers", Value.ref ln), (Str.ofString "overs", Value.ref lo), (Str.ofString "texts", Value.ref lt)].reverse) := fun x T => (funext fun z => by
          by_cases e0 : z = Str.ofString "k"
          · rw [e0]; rfl
          by_cases e1 : z = Str.ofString "kind"
          · rw [e1]; rfl
          by_cases e2 : z = Str.ofString "modes"
          · rw [e2]; rfl
          simp only [e0, e1, e2, if_false])
    k_steps
    refine Stop.mk ?_
    rename_i h6 F6 N6
    refine wpAny_mono (Q := fun f s₂ => Stop (f = Flow.next ∧ ∃ h tk t, s₂ = { s with heap := h, toks := tk } ∧ Fr g' L' h (fun z => if z = Str.ofString "k" then some (Value.int (0 + (i : Int)) tv) else if z = Str.ofString "kind" then some (Value.int (kindNo ns ov i) t) else if z = Str.ofString "modes" then some (Value.ref D) else List.lookup z [(Str.ofString "numbers", Value.ref ln), (Str.ofString "overs", Value.ref lo), (Str.ofString "texts", Value.ref lt)].reverse) ∧ News g' L' h ((I, oI) :: (D, o5) :: news))) ?_ ?_ fun _ _ e => e
    · refine wpAny_Assign_Name ?_
      k_steps
      refine Stop.mk ?_
      refine in_list_ints (vs := ovs) ⟨_, (N6 _ (.tail _ (.tail _ hmo))).1, rfl, _, rfl⟩ hIo ?_
      k_steps
      · rename_i hc h7 F7 N7
        have ek : kindNo ns ov i = 4 := if_pos (by rw [show (i : Int) + 1 = 0 + (i : Int) + 1 by lia]; exact hc)
        rw [eM, ← ek] at F7
        exact Stop.mk ⟨by first | exact rfl | exact trivial, _, _, _, rfl, F7, N7⟩
      · rename_i hc h8 F8 N8 hk8 nm8
        have ek : kindNo ns ov i = [8, 1, 12].getD (((ns.getD i 0).fdiv 810).fmod 3).toNat 0 := if_neg (by rw [show (i : Int) + 1 = 0 + (i : Int) + 1 by lia, hc]; exact Bool.false_ne_true)
        refine Stop.mk ?_
        refine ksa_sub N8 (.tail _ (.tail _ (.tail _ hmn))) hIn (by lia) (by lia) (by lia) ?_ (by with_unfolding_all rfl)
        intro t9
        rw [e5]
        k_steps
        refine Stop.mk ?_
        refine sub_tup (vs := [_, _, _]) (N8 _ (.head _)).1 (Int.fmod_nonneg_of_pos _ (by decide)) (Int.fmod_lt_of_pos _ (by decide)) (Nat.le_of_ble_eq_true rfl) ?_ (by with_unfolding_all rfl)
        intro v10 hv10
        obtain ⟨t10, rfl⟩ := pick3 hv10 (Int.fmod_nonneg_of_pos _ (by decide)) (Int.fmod_lt_of_pos _ (by decide))
        rw [← ek]
        k_steps
        rename_i h11 F11 N11
        rw [eM] at F11
        exact Stop.mk ⟨by first | exact rfl | exact trivial, _, _, _, rfl, F11, fun p hp => N11 p (.tail _ hp)⟩
    · rintro f s₂ hs
      obtain ⟨rfl, h7, tk7, t7, rfl, F7, N7⟩ := Stop.of hs
      dsimp only
      k_steps
      refine Stop.mk ?_
      refine ksa_sub N7 (.tail _ (.tail _ hmn)) hIn (by lia) (by lia) (by lia) ?_ (by with_unfolding_all rfl)
      intro t8
      rw [e5]
      k_steps
      refine Stop.mk ?_
      refine ownlack_c B' F7 X' T' rfl rfl ?_ ?_ N7 hb5.1 hb5.2 ?_
      · simp only [depth_deeper]; exact dlt hd1 rfl
      · simp only [units_deeper]; exact dlt hu1 rfl
      intro t9 h9 tk9 F9 N9
      k_steps
      refine Stop.mk ?_
      refine item_strsA (s := { s with heap := h9, toks := _ }) ⟨_, (N9 _ (.tail _ (.tail _ hmt))).1, rfl, _, rfl⟩ hIt (by lia) (by lia) (by lia) ?_ (by with_unfolding_all rfl) (by intro _; with_unfolding_all rfl)
      intro t10
      rw [show (0 + (i : Int) + 1).toNat = i + 1 by lia]
      k_steps
      refine Stop.mk ?_
      have hkl : kvs.length ≤ 8 := by have := congrArg List.length hM5.1; simp [modesUp] at this; lia
      have hnew : ts.getD (i + 1) Str.empty ∉ kvs.map (·.1) := by
        rw [hM5.1, modesUp_keys ns ov ts h0 i (by lia)]
        exact not_taken hnd (by lia)
      refine dict_set F9 (news_swap N9) ?_ hd5 (by lia) ?_
      · intro q hq
        rcases List.mem_cons.mp hq with e | hq
        · rw [e]; exact o1
        · exact Nat.ne_of_lt (l1 q hq)
      intro h11 o11 F11 N11 hd11
      rw [stored_new hnew] at hd11
      k_steps
      refine Stop.mk ?_
      refine ⟨_, _, _, _, rfl, F11, news_swap N11, ?_, trivial, o11, _, _, _, rfl, rfl, hd11, ?_⟩
      · intro p hp
        rcases List.mem_cons.mp hp with e | hp
        · rw [e]; exact Ne.symm o1
        · exact off5 p (.tail _ hp)
      · rw [modesUp_succ]; exact hM5.snoc
  · rintro m nw h5 tk5 ⟨o5, kvs, u5, v5, rfl, rfl, hd5, hM5⟩ F5 N5
    k_steps
    rename_i F9 N9 T9 X9
    exact hret D _ _ _ _ F9 N9 hd5 hM5 l1
  · refine ⟨rfl, ?_⟩
    intro j k v hv
    cases j with
    | zero => have e := Option.some.inj hv; exact ⟨16895, _, by rw [← (Prod.mk.inj e).1]; rfl, (Prod.mk.inj e).2.symm⟩
    | succ j => simp [strPairs] at hv
end Mine
end
section
open PySem PySem.W PySem.Spec PySem.Calls PyProof.Rows
set_option Elab.async false
set_option maxRecDepth 100000
set_option maxHeartbeats 4000000
set_option linter.unusedVariables false
namespace Mine
def NL (ls : List Addr) : List (Addr × Obj) := ls.map fun l => (l, LCg.lst [])
def NK (kvs : List (Str × Value)) (ls : List Addr) : List (Str × Value) := List.zipWith (fun q l => (q.1, Value.ref l)) kvs ls
theorem NK_snoc {l : Addr} {k : Str} {x : Value} : ∀ {kvs : List (Str × Value)} {ls : List Addr}, kvs[ls.length]? = some (k, x) → NK kvs (ls ++ [l]) = NK kvs ls ++ [(k, .ref l)]
  | [], ls, h => by simp at h
  | q :: kvs, [], h => by simp at h; subst h; simp [NK]
  | q :: kvs, a :: ls, h => by
    have := NK_snoc (l := l) (kvs := kvs) (ls := ls) (by simpa using h)
    show (q.1, Value.ref a) :: NK kvs (ls ++ [l]) = _
    rw [this]; rfl
theorem NK_keys : ∀ {kvs : List (Str × Value)} {ls : List Addr}, (NK kvs ls).map (·.1) = (kvs.take ls.length).map (·.1)
  | [], ls => by simp [NK]
  | q :: kvs, [] => by simp [NK]
  | q :: kvs, a :: ls => by
    show q.1 :: (NK kvs ls).map (·.1) = _
    rw [NK_keys]; rfl
theorem key_new {k : Str} {x : Value} {kvs : List (Str × Value)} {i : Nat} (hn : (kvs.map (·.1)).Nodup) (h : kvs[i]? = some (k, x)) : k ∉ (kvs.take i).map (·.1) := by
  intro hm
  obtain ⟨hi, he⟩ := List.getElem?_eq_some_iff.mp h
  have e : kvs.take i ++ kvs.drop i = kvs := List.take_append_drop _ _
  have hd : (k, x) ∈ kvs.drop i := by
    rw [List.drop_eq_getElem_cons hi, he]; exact .head _
  rw [← e, List.map_append] at hn
  exact (List.nodup_append.mp hn).2.2 k hm k (List.mem_map.mpr ⟨_, hd, rfl⟩) rfl
theorem NK_len {kvs : List (Str × Value)} {ls : List Addr} : (NK kvs ls).length ≤ kvs.length := by
  unfold NK; rw [List.length_zipWith]; lia
theorem NL_mem {ls : List Addr} {q : Addr × Obj} (h : q ∈ NL ls) : q.1 ∈ ls ∧ q.2 = LCg.lst [] := by
  obtain ⟨l, hl, rfl⟩ := List.mem_map.mp h; exact ⟨hl, rfl⟩
section
variable {prog : Program} {w : World} {A : Around} {E : Value → Shared → Prop} {s : Shared} {h₀ : Heap} {L : Addr} {m : Str → Option Value} {env : Env}
theorem dictcomp_lists {kx vx iter : PySem.Expr} {x y : Str} {px py : Pos} {scope : Scope} {cl : List (Str × Addr)} {pos spos : Pos} {Q : Flow → Shared → Prop} {kvs : List (Str × Value)} (F₀ : Fr h₀ L s.heap m) (hLe : env.locals = L)
    (hsw : swapsWith (.DictComp kx vx [⟨.Name x px, iter, [], 0⟩] scope pos) (some (.Name y py)) spos.line env = pure true)
    (hclos : closureFor scope env = pure cl) (hcell : ∀ z ∈ scope.names, z.2 ≠ .cell) (hkind : scope.kind = .function)
    (hnames : ∀ z ∈ scope.names, z.2 = .local → scope.names.lookup z.1 = some .local) (hx : scope.names.lookup x = some .local)
    (hy : env.kindOf y = some .local) (hp : (env.scope.kind == .class || (env.scope.kind == .module && env.locals != env.globals)) = false)
    (hkey : ∀ C (s' : Shared) m₂ v (E' R : Value → Shared → Prop), s'.heap.Ns C m₂ → m₂ x = some v → R v s' → wpAny (model prog w) A (eval kx (compEnvC scope cl C env)) R E' s')
    (hval : ∀ C (s' : Shared) (E' R : Value → Shared → Prop), R (.ref s'.heap.objs.size) { s' with heap := s'.heap.push (LCg.lst []) } → wpAny (model prog w) A (eval vx (compEnvC scope cl C env)) R E' s')
    (h : wpAny (model prog w) A (eval iter env) (fun xv s₁ => Stop (∃ dm om news, xv = .ref dm ∧ A.handled = none ∧ Fr h₀ L s₁.heap m ∧ News h₀ L s₁.heap news ∧ (dm, om) ∈ news ∧ om.IsDictOf (strKind prog w) kvs ∧ (dm == sysModules) = false ∧ kvs.length ≤ 1000 ∧
      ∀ (D : Addr) oD h' tk (ls : List Addr), Fr h₀ L h' (fun z => if z = y then some (.ref D) else m z) → News h₀ L h' ((D, oD) :: (NL ls ++ news)) → oD.IsDictOf (strKind prog w) (NK kvs ls) → ls.length = kvs.length → ls.Nodup → (∀ l ∈ ls, ∀ q ∈ news, q.1 < l) → (∀ q ∈ news, q.1 < D) →
        (∀ q ∈ NL ls ++ news, q.1 ≠ D) → Q .next { s₁ with heap := h', toks := tk })) E s)
    (hs : ∀ x, foldedSetIterable iter env x = pure x := by intro _; rfl) :
    wpAny (model prog w) A (exec (.Assign [.Name y py] (.DictComp kx vx [⟨.Name x px, iter, [], 0⟩] scope pos) spos) env) Q E s := by
  subst hLe
  rw [exec_Assign_Name_used _ _ _ _ hsw]
  refine wpAny_bind (wpAny_standAt (wpAny_bind ?_))
  show wpAny _ A (do let _ ← comprehension (.DictComp kx vx [⟨.Name x px, iter, [], 0⟩] scope pos) scope env _ newDict false (eval iter env) (some (assign (.Name y py) env))) _ _ s
  refine wpAny_bind (wpAny_mono (wpAny_comprehension_free (use := some (assign (.Name y py) env)) (Q := fun _ s' => Q .next s') rfl hs hclos hkind hnames
    (wpAny_mono h (fun xv s₁ h₁ => ?_) fun _ _ e => e)) (fun _ s' hq => wpAny_pure (wpAny_pure hq)) fun _ _ e => e)
  replace h₁ := Stop.of h₁
  obtain ⟨dm, om, news, rfl, hh, F, N, hm, hd, hsys, hsz, fin⟩ := h₁
  obtain ⟨ep, ha⟩ := KdkAt.of hd
  have hnd : (kvs.map (·.1)).Nodup := let ⟨_, _, _, _, _, r⟩ := ha; r
  refine wpAny_pyIter_dict hsys (ha.dictAt (N _ hm).1) ?_
  have hdlt : dm < s₁.heap.objs.size := Heap.lt_size (N _ hm).1
  have W := Walks.dictKeys (knd := strKind prog w) hh s₁.heap.objs.size dm (Nat.ne_of_lt hdlt) kvs ep
  generalize hI : s₁.heap.objs.size = I at W ⊢
  generalize hio : ({ cls := .type "dict_keyiterator", data := .fields #[.ref dm, .int 0 0, .int kvs.length 0, .int ep 0] } : Obj) = io
  have hIt : (s₁.heap.push io).get? I = some io := by rw [← hI]; exact Heap.get?_push_size _ (by rw [← hio]; rfl)
  have hit₀ : (s₁.heap.push io).IsKeyIter I dm 0 kvs.length ep := ⟨io, hIt, by rw [← hio], by rw [← hio]; rfl⟩
  have F₁ : Fr h₀ env.locals (s₁.heap.push io) m := F.push _
  have N₁ : News h₀ env.locals (s₁.heap.push io) news := N.grown fun _ _ e => Heap.get?_push_of_some _ e
  have hIL : env.locals ≠ I := by rw [← hI]; exact Nat.ne_of_lt F.ns.lt
  have hI₀ : h₀.get? I = none := by rw [← hI]; exact next_is_new F
  have off : ∀ p ∈ news, p.1 ≠ I := fun p hp => by rw [← hI]; exact Nat.ne_of_lt (Heap.lt_size (N p hp).1)
  generalize s₁.heap.push io = H1 at hIt hit₀ F₁ N₁ ⊢
  clear F N hio hI hdlt
  refine wpAny_newObj_type (wpAny_newFunctionEnv hcell (by intro y hy; simp at hy) (fun h₁ hns₁ hsb₁ => ?_) hkind)
  dsimp only at hns₁ hsb₁ ⊢
  have hnew : (H1.push { cls := .type "dict", dict := none, data := .dict #[] }).DictOf (strKind prog w) H1.objs.size [] := Heap.DictOf.new H1
  generalize hH2 : H1.push { cls := .type "dict", dict := none, data := .dict #[] } = H2 at hns₁ hsb₁ hnew ⊢
  have hC : H2.objs.size = H1.objs.size + 1 := by rw [← hH2, Heap.size_push]
  have hDC : H1.objs.size ≠ H2.objs.size := by rw [hC]; exact Nat.ne_of_lt (Nat.lt_succ_self _)
  have below : ∀ b, b < H1.objs.size → b ≠ H2.objs.size ∧ b ≠ H1.objs.size := fun b hb => ⟨by rw [hC]; exact Nat.ne_of_lt (Nat.lt_succ_of_lt hb), Nat.ne_of_lt hb⟩
  have hIlt : I < H1.objs.size := Heap.lt_size hIt
  have old : ∀ b o, H1.get? b = some o → h₁.get? b = some o := fun b o e => hsb₁.extBut b o (below b (Heap.lt_size e)).1 (Heap.get?_push_of_some _ (hH2 ▸ Heap.get?_push_of_some _ e))
  obtain ⟨oD₀, hD₁, hdD₀⟩ := Heap.dictOf_iff.mp hnew
  have hacc : h₁.get? H1.objs.size = some oD₀ := hsb₁.extBut _ _ hDC (Heap.get?_push_of_some _ hD₁)
  have fresh : ∀ a, H1.objs.size ≤ a → H1.get? a = none := fun a ha => by
    cases e : H1.get? a with
    | none => rfl
    | some o' => exact absurd (Heap.lt_size e) (Nat.not_lt.mpr ha)
  have fresh₀ : ∀ a, H1.objs.size ≤ a → h₀.get? a = none := fun a ha => by
    cases e : h₀.get? a with
    | none => rfl
    | some o' => have := F₁.keep a o' e; rw [fresh a ha] at this; cases this
  have hD₀ : h₀.get? H1.objs.size = none := fresh₀ _ (Nat.le_refl _)
  have hC₀ : h₀.get? H2.objs.size = none := fresh₀ _ (by rw [hC]; exact Nat.le_succ _)
  have hDL : H1.objs.size ≠ env.locals := Ne.symm (below _ F₁.ns.lt).2
  have hCL : H2.objs.size ≠ env.locals := Ne.symm (below _ F₁.ns.lt).1
  have hCI : I ≠ H2.objs.size := (below I hIlt).1
  have hDI : I ≠ H1.objs.size := (below I hIlt).2
  have off₀ : ∀ q ∈ news, q.1 ≠ I ∧ q.1 ≠ H2.objs.size ∧ q.1 ≠ H1.objs.size := fun p hp => ⟨off p hp, (below _ (Heap.lt_size (N₁ p hp).1)).1, (below _ (Heap.lt_size (N₁ p hp).1)).2⟩
  have ltD₀ : ∀ q ∈ news, q.1 < H1.objs.size := fun p hp => Heap.lt_size (N₁ p hp).1
  have hit₁ : h₁.IsKeyIter I dm 0 kvs.length ep := hit₀.at fun o e => old I o e
  have F₂ : Fr h₀ env.locals h₁ m := F₁.keeps old
  have N₂ : News h₀ env.locals h₁ ((H1.objs.size, oD₀) :: (NL [] ++ news)) := fun p hp => by
    rcases List.mem_cons.mp hp with rfl | hp
    · exact ⟨hacc, hDL, hD₀⟩
    · have hp : p ∈ news := hp
      exact ⟨old _ _ (N₁ p hp).1, (N₁ p hp).2⟩
  generalize H1.objs.size = D at hacc hDC hD₀ hDL hDI off₀ ltD₀ N₂ ⊢
  generalize H2.objs.size = C at hDC hC₀ hCL hCI off₀ hns₁ hsb₁ ⊢
  clear hC below fresh fresh₀ old hD₁ hnew hH2 hit₀ F₁ N₁ hIlt hIt
  have loop : ∀ s₃ : Shared, (∃ tk, s₃ = { s₁ with heap := h₁, toks := tk }) →
      codeAny (model prog w) A (.compLoop (.DictComp kx vx [⟨.Name x px, iter, [], 0⟩] scope pos) 0 (.ref I) (.ref D) (compEnvC scope cl C env))
        (compPost (model prog w) A E (some (assign (.Name y py) env)) (fun _ s' => Q .next s') (.ref D) C) s₃ := by
    rintro s₃ ⟨tk₃, rfl⟩
    refine codeAny_compLoop_testsD
      (fun k s' => ∃ h' tk i ls oD m', s' = { s₁ with heap := h', toks := tk } ∧ i ≤ kvs.length ∧ k = kvs.length + 1 - i ∧ ls.length = i ∧ h'.IsKeyIter I dm i kvs.length ep ∧ Fr h₀ env.locals h' m ∧ h'.Ns C m' ∧
        News h₀ env.locals h' ((D, oD) :: (NL ls ++ news)) ∧ oD.IsDictOf (strKind prog w) (NK kvs ls) ∧ (∀ l ∈ ls, l ≠ I ∧ l ≠ C ∧ l ≠ D) ∧ ls.Nodup ∧ (∀ l ∈ ls, ∀ q ∈ news, q.1 < l)) ?_ (kvs.length + 1)
      ⟨h₁, _, 0, [], oD₀, _, rfl, Nat.zero_le _, rfl, rfl, hit₁, F₂, hns₁, N₂, (by have e : NK kvs [] = [] := by cases kvs <;> rfl
                                                                                   rw [e]; exact hdD₀), (fun _ h => nomatch h), List.nodup_nil, (fun _ h => nomatch h)⟩
    rintro k s' ⟨h', tk, i, ls, oD, m', rfl, hi, rfl, hyl, hit', F', hn', N', hdD, offl, nd, offn⟩
    have offs : ∀ q ∈ NL ls ++ news, q.1 ≠ I ∧ q.1 ≠ C ∧ q.1 ≠ D := fun q hq => by
      rcases List.mem_append.mp hq with hq | hq
      · exact offl _ (NL_mem hq).1
      · exact off₀ q hq
    have hmN : (dm, om) ∈ (D, oD) :: (NL ls ++ news) := .tail _ (List.mem_append_right _ hm)
    by_cases hlt : i < kvs.length
    · refine W.item i _ _ _ hlt ⟨hit', ha.dictAt (N' _ hmN).1⟩ fun v h₂ tk₂ hPv hst₂ hk₂ => ?_
      obtain ⟨kk, xx, hkx, hkv⟩ := hPv
      refine wpAny_assign_Name (wpAny_storeName_local (lookup_relabel_local hx) (hn'.at' fun o e => hk₂ _ o (by simpa using Ne.symm hCI) e) (fun h₃ hn₃ hs₃ => ?_) (by simp [compEnvC, relabel, hkind]))
      refine wpAny_tests_nil ?_
      simp only [if_true]
      refine hkey C _ _ v _ _ hn₃ (by simp) (hval C _ _ _ ?_)
      dsimp only
      have F₃ : Fr h₀ env.locals h₃ m := (LCg.fr_but F' hk₂ hIL hI₀).change hs₃ hCL hC₀
      have N₃ : News h₀ env.locals h₃ ((D, oD) :: (NL ls ++ news)) := fun p hp => by
        have z := N' p hp
        refine ⟨hs₃.extBut _ _ ?_ (hk₂ _ _ ?_ z.1), z.2⟩
        · rcases List.mem_cons.mp hp with rfl | hp
          · exact hDC
          · exact (offs p hp).2.1
        · rcases List.mem_cons.mp hp with rfl | hp
          · simpa using Ne.symm hDI
          · simpa using (offs p hp).1
      have hit₃ : h₃.IsKeyIter I dm (i + 1) kvs.length ep := hst₂.1.extBut hs₃.extBut hCI
      have F₄ : Fr h₀ env.locals (h₃.push (LCg.lst [])) m := F₃.push _
      have N₄ : News h₀ env.locals (h₃.push (LCg.lst [])) ((h₃.objs.size, LCg.lst []) :: (D, oD) :: (NL ls ++ news)) := News.push F₃ N₃ _ rfl
      have hit₄ : (h₃.push (LCg.lst [])).IsKeyIter I dm (i + 1) kvs.length ep := hit₃.at fun o e => Heap.get?_push_of_some _ e
      have hn₄ : (h₃.push (LCg.lst [])).Ns C _ := hn₃.at' fun o e => Heap.get?_push_of_some _ e
      have ltD : D < h₃.objs.size := Heap.lt_size (N₃ _ (.head _)).1
      have ltI : I < h₃.objs.size := let ⟨_, e, _⟩ := hit₃; Heap.lt_size e
      have ltC : C < h₃.objs.size := hn₃.lt
      have ltN : ∀ q ∈ NL ls ++ news, q.1 < h₃.objs.size := fun q hq => Heap.lt_size (N₃ q (.tail _ hq)).1
      generalize h₃.push (LCg.lst []) = h₄ at F₄ N₄ hit₄ hn₄ ⊢
      generalize h₃.objs.size = l at N₄ ltD ltI ltC ltN ⊢
      have zD := (N₄ (D, oD) (.tail _ (.head _))).1
      refine wpAny_dictSet_pairs (hsz := by have := NK_len (kvs := kvs) (ls := ls); rw [sizeLine_eq]; lia) hkv (Heap.dictOf_iff.mpr ⟨oD, zD, hdD⟩) fun h₅ hl₅ hs₅ => ?_
      obtain ⟨oD', hoD', hdD'⟩ := Heap.dictOf_iff.mp hl₅
      rw [stored_new (by rw [NK_keys, hyl]; exact key_new hnd hkx), ← NK_snoc (l := l) (by rw [hyl]; exact hkx)] at hdD'
      refine ⟨kvs.length + 1 - (i + 1), by lia, h₅, _, i + 1, ls ++ [l], oD', _, rfl, hlt, rfl, by rw [List.length_append, List.length_singleton, hyl], hit₄.extBut hs₅.extBut hDI, F₄.change hs₅ hDL hD₀, hn₄.sameBut hs₅ (Ne.symm hDC),
        fun p hp => ?_, hdD', fun a ha => ?_, ?_, fun a ha q hq => ?_⟩
      · rcases List.mem_cons.mp hp with rfl | hp
        · exact ⟨hoD', hDL, hD₀⟩
        · have hq : p ∈ (l, LCg.lst []) :: (NL ls ++ news) := by
            rw [NL, List.map_append] at hp
            rcases List.mem_append.mp hp with hp | hp
            · rcases List.mem_append.mp hp with hp | hp
              · exact .tail _ (List.mem_append_left _ hp)
              · rw [List.mem_singleton.mp hp]; exact .head _
            · exact .tail _ (List.mem_append_right _ hp)
          have hz : p ∈ (l, LCg.lst []) :: (D, oD) :: (NL ls ++ news) := by
            rcases List.mem_cons.mp hq with e | hq
            · rw [e]; exact .head _
            · exact .tail _ (.tail _ hq)
          have hpD : p.1 ≠ D := by
            rcases List.mem_cons.mp hq with e | hq
            · rw [e]; exact Ne.symm (Nat.ne_of_lt ltD)
            · exact (offs p hq).2.2
          exact ⟨hs₅.extBut _ _ hpD (N₄ p hz).1, (N₄ p hz).2⟩
      · rcases List.mem_append.mp ha with ha | ha
        · exact offl a ha
        · rw [List.mem_singleton.mp ha]; exact ⟨Ne.symm (Nat.ne_of_lt ltI), Ne.symm (Nat.ne_of_lt ltC), Ne.symm (Nat.ne_of_lt ltD)⟩
      · refine List.nodup_append.mpr ⟨nd, by simp, fun a ha b hb => ?_⟩
        rw [List.mem_singleton.mp hb]
        exact Nat.ne_of_lt (ltN (a, LCg.lst []) (List.mem_append_left _ (List.mem_map.mpr ⟨a, ha, rfl⟩)))
      · rcases List.mem_append.mp ha with ha | ha
        · exact offn a ha q hq
        · rw [List.mem_singleton.mp ha]; exact ltN q (List.mem_append_right _ hq)
    · obtain rfl : i = kvs.length := Nat.le_antisymm hi (Nat.not_lt.mp hlt)
      refine W.done _ _ _ ⟨hit', ha.dictAt (N' _ hmN).1⟩ fun h₂ tk₂ hk₂ => ?_
      have F₃ : Fr h₀ env.locals h₂ m := LCg.fr_but F' hk₂ hIL hI₀
      have N₃ : News h₀ env.locals h₂ ((D, oD) :: (NL ls ++ news)) := LCg.news_but N' hk₂ fun p hp => by
        rcases List.mem_cons.mp hp with rfl | hp
        · exact Ne.symm hDI
        · exact (offs p hp).1
      have hn₃ : h₂.Ns C m' := hn'.at' fun o e => hk₂ _ o (by simpa using Ne.symm hCI) e
      show wpAny _ A (assign (.Name y py) env (.ref D)) _ _ _
      refine wpAny_assign_Name (wpAny_storeName_local hy F₃.ns (fun h₄ hn₄ hs₄ => ?_) hp)
      refine ⟨m', hn₃.sameBut hs₄ hCL, fun h'' hs'' => fin D oD h'' _ ls ((F₃.set hn₄ hs₄).change hs'' hCL hC₀) (fun p hp => ?_) hdD hyl nd offn ltD₀ fun q hq => (offs q hq).2.2⟩
      have z : h₄.get? p.1 = some p.2 := hs₄.extBut _ _ (N₃ p hp).2.1 (N₃ p hp).1
      refine ⟨hs''.extBut _ _ ?_ z, (N₃ p hp).2⟩
      rcases List.mem_cons.mp hp with rfl | hp
      · exact hDC
      · exact (offs p hp).2.1
  exact codeAny_compStart_dict (loop _ ⟨_, rfl⟩) (wpAny_pyIter_keyiter hit₁ (loop _ ⟨_, rfl⟩))

theorem go_dict {target : PySem.Expr} {body orelse : List Stmt} {Q : Flow → Shared → Prop} {d : Addr} {od : Obj} {kvs : List (Str × Value)} {news : List (Addr × Obj)} (hh : A.handled = none) (F : Fr h₀ env.locals s.heap m) (N : News h₀ env.locals s.heap news) (hm : (d, od) ∈ news)
    (hd : od.IsDictOf (strKind prog w) kvs) (hsys : (d == sysModules) = false)
    (hlet : ∀ (it v : Value) (s : Shared) (R : Unit → Shared → Prop), R () s → wpAny (model prog w) A (letOwnedTupleGo target it v) R (fun _ _ => False) s)
    (h : ∀ I h, (∀ p ∈ news, p.1 < I) → ForRest prog w A h₀ env target body orelse { s with heap := h } I (fun nw => (d, od) ∈ nw) (fun i v => ∃ k x t, kvs[i]? = some (k, x) ∧ v = .str k t) Q kvs.length 0 m news) :
    wpAny (model prog w) A (pyIter (.ref d)) (ForGo prog w A env target body orelse Q) E s := by
  obtain ⟨ep, ha⟩ := KdkAt.of hd
  have hlt : d < s.heap.objs.size := Heap.lt_size (N _ hm).1
  refine wpAny_pyIter_dict hsys (ha.dictAt (N _ hm).1) ?_
  have W := Walks.dictKeys (knd := strKind prog w) hh s.heap.objs.size d (Nat.ne_of_lt hlt) kvs ep
  have W' : Walks prog w A s.heap.objs.size [s.heap.objs.size, d] [s.heap.objs.size] kvs.length (fun i v => ∃ k x t, kvs[i]? = some (k, x) ∧ v = .str k t) (fun i h => h.IsKeyIter s.heap.objs.size d i kvs.length ep ∧ h.DictAt (strKind prog w) d kvs ep) :=
    { sub := W.sub, frame := W.frame, done := W.done, self := W.self,
      item := fun i s Q E hi st hQ => W.item i s Q E hi st fun v h' tk hP => hQ v h' tk (by
        obtain ⟨k, x, e, hk⟩ := hP
        obtain ⟨t, rfl⟩ := PySem.Value.isStrOf_shape hk
        exact ⟨k, x, t, e, rfl⟩) }
  refine for_U (s := { s with heap := _ }) (St := fun i h => h.IsKeyIter s.heap.objs.size d i kvs.length ep ∧ h.DictAt (strKind prog w) d kvs ep) W' (fun i h st => by obtain ⟨o, e, _⟩ := st.1; exact ⟨o, e⟩) ?_
    (fun i v s R _ st q => hlet _ v s R q) (Nat.ne_of_lt F.ns.lt) (next_is_new F) kvs.length 0 _ _ m news (Nat.zero_add _) ⟨⟨_, Heap.get?_push_size _ rfl, rfl, rfl⟩, (ha.dictAt (N _ hm).1).push _⟩ (F.push _) (N.grown fun _ _ e => Heap.get?_push_of_some _ e)
    (fun p hp => Nat.ne_of_lt (Heap.lt_size (N p hp).1)) hm (h _ _ fun p hp => Heap.lt_size (N p hp).1)
  intro i h h' o nw st e e' k N' S'
  exact ⟨by obtain ⟨o', q, r⟩ := st.1; rw [e] at q; cases q; exact ⟨o, e', r⟩, ha.dictAt (N' _ S').1⟩
end
end Mine
end
section
open PySem PySem.W PySem.Spec PySem.Calls PyProof.Rows
set_option Elab.async false
set_option maxRecDepth 100000
set_option maxHeartbeats 4000000
set_option linter.unusedVariables false
namespace Mine
/-- a table of the names: key, the list's address, what it holds -/
abbrev Tb := List (Str × Addr × List Value)
def tbK (tb : Tb) : List (Str × Value) := tb.map fun e => (e.1, .ref e.2.1)
def tbL (tb : Tb) : List (Addr × Obj) := tb.map fun e => (e.2.1, LCg.lst e.2.2)
def tbAdd (tb : Tb) (k : Str) (x : Value) : Tb := tb.map fun e => if e.1 = k then (e.1, e.2.1, e.2.2 ++ [x]) else e
def tbNew (kvs : List (Str × Value)) (ls : List Addr) : Tb := List.zipWith (fun q l => (q.1, l, [])) kvs ls
theorem tbNew_K : ∀ (kvs : List (Str × Value)) (ls : List Addr), tbK (tbNew kvs ls) = NK kvs ls
  | [], ls => by simp [tbK, tbNew, NK]
  | q :: kvs, [] => by simp [tbK, tbNew, NK]
  | q :: kvs, l :: ls => by show _ :: tbK (tbNew kvs ls) = _ :: NK kvs ls; rw [tbNew_K]
theorem tbNew_L : ∀ (kvs : List (Str × Value)) (ls : List Addr), ls.length = kvs.length → tbL (tbNew kvs ls) = NL ls
  | [], [], _ => rfl
  | q :: kvs, l :: ls, h => by show _ :: tbL (tbNew kvs ls) = _ :: NL ls; rw [tbNew_L _ _ (by simpa using h)]
theorem tbNew_keys : ∀ (kvs : List (Str × Value)) (ls : List Addr), ls.length = kvs.length → (tbNew kvs ls).map (·.1) = kvs.map (·.1)
  | [], [], _ => rfl
  | q :: kvs, l :: ls, h => by show _ :: (tbNew kvs ls).map (·.1) = _ :: kvs.map (·.1); rw [tbNew_keys _ _ (by simpa using h)]
theorem tbNew_addr : ∀ (kvs : List (Str × Value)) (ls : List Addr), ls.length = kvs.length → (tbNew kvs ls).map (·.2.1) = ls
  | [], [], _ => rfl
  | q :: kvs, l :: ls, h => by show _ :: (tbNew kvs ls).map (·.2.1) = _ :: ls; rw [tbNew_addr _ _ (by simpa using h)]
theorem tbNew_nil : ∀ {kvs : List (Str × Value)} {ls : List Addr} {e}, e ∈ tbNew kvs ls → e.2.2 = []
  | [], ls, e, h => by simp [tbNew] at h
  | q :: kvs, [], e, h => by simp [tbNew] at h
  | q :: kvs, l :: ls, e, h => by
    rcases List.mem_cons.mp (show e ∈ (q.1, l, []) :: tbNew kvs ls from h) with rfl | h
    · rfl
    · exact tbNew_nil h
theorem tbAdd_K (tb : Tb) (k : Str) (x : Value) : tbK (tbAdd tb k x) = tbK tb := by
  unfold tbK tbAdd; rw [List.map_map]; congr 1; funext e; simp only [Function.comp]; split <;> rfl
theorem tbAdd_keys (tb : Tb) (k : Str) (x : Value) : (tbAdd tb k x).map (·.1) = tb.map (·.1) := by
  unfold tbAdd; rw [List.map_map]; congr 1; funext e; simp only [Function.comp]; split <;> rfl
theorem tbAdd_addr (tb : Tb) (k : Str) (x : Value) : (tbAdd tb k x).map (·.2.1) = tb.map (·.2.1) := by
  unfold tbAdd; rw [List.map_map]; congr 1; funext e; simp only [Function.comp]; split <;> rfl
theorem tbAdd_skip {tb : Tb} {k : Str} {x : Value} (h : k ∉ tb.map (·.1)) : tbAdd tb k x = tb := by
  unfold tbAdd
  refine (List.map_congr_left fun e he => ?_).trans (List.map_id' tb)
  rw [if_neg]; rintro rfl; exact h (List.mem_map.mpr ⟨e, he, rfl⟩)
theorem tb_get : ∀ {tb : Tb} {e}, (tb.map (·.1)).Nodup → e ∈ tb → valueAt (tbK tb) e.1 = some (.ref e.2.1)
  | f :: tb, e, hn, he => by
    have hn' := List.nodup_cons.mp hn
    rcases List.mem_cons.mp he with rfl | he
    · simp [valueAt, tbK]
    · have hne : f.1 ≠ e.1 := fun q => hn'.1 (List.mem_map.mpr ⟨e, he, q.symm⟩)
      have := tb_get hn'.2 he
      simpa [valueAt, tbK, hne] using this
theorem tbL_addr {tb : Tb} {q : Addr × Obj} (h : q ∈ tbL tb) : q.1 ∈ tb.map (·.2.1) := by
  obtain ⟨e, he, rfl⟩ := List.mem_map.mp h; exact List.mem_map.mpr ⟨e, he, rfl⟩
theorem tb_upd {x : Value} {rest : List (Addr × Obj)} : ∀ {tb : Tb} {e}, (tb.map (·.1)).Nodup → (tb.map (·.2.1)).Nodup → e ∈ tb → (∀ q ∈ rest, q.1 ≠ e.2.1) →
    Upd e.2.1 (LCg.lst e.2.2) (LCg.lst (e.2.2 ++ [x])) (tbL tb ++ rest) (tbL (tbAdd tb e.1 x) ++ rest)
  | f :: tb, e, hk, ha, he, hr => by
    have hk' := List.nodup_cons.mp hk
    have ha' := List.nodup_cons.mp ha
    rcases List.mem_cons.mp he with rfl | he
    · have e1 : tbAdd (e :: tb) e.1 x = (e.1, e.2.1, e.2.2 ++ [x]) :: tb := by
        show (if e.1 = e.1 then _ else _) :: tbAdd tb e.1 x = _
        rw [tbAdd_skip hk'.1, if_pos rfl]
      rw [e1]
      refine Upd.head fun p hp => ?_
      rcases List.mem_append.mp hp with hp | hp
      · intro q; have z := tbL_addr hp; rw [q] at z; exact ha'.1 z
      · exact hr p hp
    · have hne : f.1 ≠ e.1 := fun q => hk'.1 (List.mem_map.mpr ⟨e, he, q.symm⟩)
      have e1 : tbAdd (f :: tb) e.1 x = f :: tbAdd tb e.1 x := by
        show (if f.1 = e.1 then _ else _) :: tbAdd tb e.1 x = _
        rw [if_neg hne]
      rw [e1]
      refine Upd.tail ?_ (tb_upd hk'.2 ha'.2 he hr)
      intro q; exact ha'.1 (List.mem_map.mpr ⟨e, he, q.symm⟩)
theorem upd_pre {d : Addr} {o o' : Obj} {r r' : List (Addr × Obj)} : ∀ {pre : List (Addr × Obj)}, (∀ q ∈ pre, q.1 ≠ d) → Upd d o o' r r' → Upd d o o' (pre ++ r) (pre ++ r')
  | [], _, u => u
  | a :: pre, h, u => .tail (h a (.head _)) (upd_pre (fun q hq => h q (.tail _ hq)) u)
/-- the names that lie in p, told from the first texts -/
def namesOf (done : List Str) (p : Str) : List Str := (done.filter fun k => splitHead k = p ∧ splitTail k ≠ Str.empty).map splitTail
def TbIs (tb : Tb) (done : List Str) : Prop := ∀ e ∈ tb, StrsAre e.2.2 (namesOf done e.1)
theorem TbIs.skip {tb : Tb} {done : List Str} {k : Str} (h : TbIs tb done) (hk : splitTail k = Str.empty) : TbIs tb (done ++ [k]) := fun e he => by
  have e1 : namesOf (done ++ [k]) e.1 = namesOf done e.1 := by simp [namesOf, hk]
  rw [e1]; exact h e he
theorem TbIs.add {tb : Tb} {done : List Str} {k : Str} {t : Tok} (h : TbIs tb done) (hk : splitTail k ≠ Str.empty) : TbIs (tbAdd tb (splitHead k) (.str (splitTail k) t)) (done ++ [k]) := fun e he => by
  obtain ⟨f, hf, rfl⟩ := List.mem_map.mp he
  by_cases q : f.1 = splitHead k
  · simp only [q, if_true]
    have e1 : namesOf (done ++ [k]) (splitHead k) = namesOf done (splitHead k) ++ [splitTail k] := by simp [namesOf, hk]
    rw [e1, ← q]; exact StrsAre.snoc (h f hf)
  · simp only [q, if_false]
    have e1 : namesOf (done ++ [k]) f.1 = namesOf done f.1 := by simp [namesOf, Ne.symm q]
    rw [e1]; exact h f hf
section
variable {prog : Program} {w : World} {A : Around} {E : Value → Shared → Prop} {s : Shared} {h₀ : Heap} {L : Addr} {m : Str → Option Value}
theorem tb_append {tb : Tb} {pre rest : List (Addr × Obj)} {e : Str × Addr × List Value} {x : Value} {Q : Value → Shared → Prop} (F : Fr h₀ L s.heap m) (N : News h₀ L s.heap (pre ++ (tbL tb ++ rest)))
    (hk : (tb.map (·.1)).Nodup) (ha : (tb.map (·.2.1)).Nodup) (he : e ∈ tb) (hp : ∀ q ∈ pre, q.1 ∉ tb.map (·.2.1)) (hr : ∀ q ∈ rest, q.1 ∉ tb.map (·.2.1)) (hsz : e.2.2.length ≤ 1000)
    (h : ∀ h', Fr h₀ L h' m → News h₀ L h' (pre ++ (tbL (tbAdd tb e.1 x) ++ rest)) → Q .none { s with heap := h' }) : wpAny (model prog w) A (call (.builtin "list.append") [.ref e.2.1, x]) Q E s := by
  have hm : e.2.1 ∈ tb.map (·.2.1) := List.mem_map.mpr ⟨e, he, rfl⟩
  have U := upd_pre (fun q hq z => hp q hq (z ▸ hm)) (tb_upd (x := x) hk ha he (rest := rest) (fun q hq z => hr q hq (z ▸ hm)))
  rw [← LCg.lst_snoc] at U
  exact append_K F N U h (by rw [sizeLine_eq]; simpa using Nat.le_trans hsz (by decide))
theorem cell_set {a : Addr} {cn : Str} {cs : Scope} {ccd : Value} {cl : List (Str × Addr)} {x : Str} {px : Pos} {v : Value} {Q : Unit → Shared → Prop} {R : List (Addr × Obj)} {c : Addr} {o : Obj} {v₀ : Option Value}
    (F : Fr h₀ L s.heap m) (N : News h₀ L s.heap ((c, o) :: R)) (hR : ∀ q ∈ R, q.1 ≠ c) (hd : o.data = .cell v₀) (hc : cl.lookup x = some c)
    (h : ∀ h' o', Fr h₀ L h' m → News h₀ L h' ((c, o') :: R) → o'.data = .cell (some v) → Q () { s with heap := h' })
    (hk : cs.kind = .function := by rfl) (hx : (envX cn cs L a ccd cl).kindOf x = some .cell := by rfl) : wpAny (model prog w) A (assign (.Name x px) (envX cn cs L a ccd cl) v) Q E s :=
  wpAny_assign_Name (storeX_C F N hc (.head hR) hd h hk hx)
end
end Mine
namespace Mine
open PySem PySem.W PySem.Spec PySem.Calls PyProof.Rows
theorem news_ord {h₀ h : Heap} {L : Addr} {a b c d : Addr × Obj} {X R : List (Addr × Obj)} (N : News h₀ L h (a :: (X ++ b :: c :: d :: R))) : News h₀ L h (c :: b :: d :: a :: (X ++ R)) := fun p hp => N p (by
  simp only [List.mem_cons, List.mem_append] at hp ⊢
  rcases hp with h | h | h | h | h | h
  · exact .inr (.inr (.inr (.inl h)))
  · exact .inr (.inr (.inl h))
  · exact .inr (.inr (.inr (.inr (.inl h))))
  · exact .inl h
  · exact .inr (.inl h)
  · exact .inr (.inr (.inr (.inr (.inr h)))))
/-- where the cells, the dict and the lists lie -/
structure ToldOff (L D : Addr) (as : List Addr) (news : List (Addr × Obj)) : Prop where
  d : L + 3 < D
  n : ∀ q ∈ news, q.1 < L
  a : ∀ l ∈ as, L + 3 < l ∧ l ≠ D
theorem ad1 (L : Nat) : L + 1 + 1 + 1 ≠ L + 1 + 1 := by lia
theorem ad2 (L : Nat) : L + 1 ≠ L + 1 + 1 := by lia
theorem ad3 {L D : Nat} (h : L + 3 < D) : D ≠ L + 1 + 1 := by lia
theorem ad4 {L D : Nat} (h : D < L) : D ≠ L + 1 + 1 := by lia
theorem ToldOff.path {L D : Addr} {as : List Addr} {news : List (Addr × Obj)} {tb : Tb} {oa oc oD : Obj} (o : ToldOff L D as news) (ha : tb.map (·.2.1) = as) : ∀ q ∈ (L + 1 + 1 + 1, oa) :: (L + 1, oc) :: (D, oD) :: (tbL tb ++ news), q.1 ≠ L + 1 + 1 := fun q hq => by
  have hd := o.d
  simp only [List.mem_cons, List.mem_append] at hq
  rcases hq with rfl | rfl | rfl | h | h
  · exact ad1 L
  · exact ad2 L
  · exact ad3 hd
  · exact ad3 (o.a q.1 (ha ▸ tbL_addr h)).1
  · exact ad4 (o.n q h)
end Mine
namespace Mine
theorem ad5 {L D : Nat} (h : L + 1 + 1 + 1 < D) : L + 3 < D := h
end Mine
namespace Mine
open PySem PySem.W PySem.Spec PySem.Calls PyProof.Rows
theorem tb_find {tb : Tb} {k : Str} (h : k ∈ tb.map (·.1)) : ∃ l vs, (k, l, vs) ∈ tb := by
  obtain ⟨⟨k', l, vs⟩, he, rfl⟩ := List.mem_map.mp h; exact ⟨l, vs, he⟩
theorem tb_mem {tb : Tb} {k : Str} {l : Addr} {vs : List Value} (h : (k, l, vs) ∈ tb) : (l, LCg.lst vs) ∈ tbL tb := List.mem_map.mpr ⟨_, h, rfl⟩
theorem news_add {h₀ h : Heap} {L : Addr} {a : Addr × Obj} {R : List (Addr × Obj)} (N : News h₀ L h R) (hm : a ∈ R) : News h₀ L h (a :: R) := fun p hp => by
  rcases List.mem_cons.mp hp with e | hp
  · rw [e]; exact N a hm
  · exact N p hp
theorem namesOf_len (done : List Str) (p : Str) : (namesOf done p).length ≤ done.length := by
  unfold namesOf; rw [List.length_map]; exact List.length_filter_le _ _
end Mine
namespace Mine
open PySem PySem.W PySem.Spec PySem.Calls PyProof.Rows
theorem ad6 {L l : Nat} (h : L + 3 < l) : L + 1 ≠ l ∧ L + 1 + 1 ≠ l ∧ L + 1 + 1 + 1 ≠ l := by lia
theorem ad7 {L l q : Nat} (h : L + 3 < l) (k : q < L) : q ≠ l := by lia
theorem ToldOff.pre {L D D7 I : Addr} {as : List Addr} {news : List (Addr × Obj)} {tb : Tb} {x1 x2 x3 x4 x5 x6 : Obj} (o : ToldOff L D as news) (ta : tb.map (·.2.1) = as) (h7 : ∀ q ∈ tbL tb, q.1 < D7) (hI : ∀ q ∈ tbL tb, q.1 ≠ I) :
    ∀ q ∈ [(D7, x1), (L + 1 + 1, x2), (I, x3), (L + 1 + 1 + 1, x4), (L + 1, x5), (D, x6)], q.1 ∉ tb.map (·.2.1) := fun q hq hm => by
  obtain ⟨e, he, hqe⟩ := List.mem_map.mp hm
  have z := o.a q.1 (ta ▸ hm)
  have a7 := h7 (e.2.1, LCg.lst e.2.2) (List.mem_map.mpr ⟨e, he, rfl⟩)
  have aI := hI (e.2.1, LCg.lst e.2.2) (List.mem_map.mpr ⟨e, he, rfl⟩)
  have zz := ad6 z.1
  simp only [List.mem_cons, List.not_mem_nil, or_false] at hq
  rcases hq with rfl | rfl | rfl | rfl | rfl | rfl
  · exact Nat.lt_irrefl _ (hqe ▸ a7)
  · exact zz.2.1 rfl
  · exact aI hqe
  · exact zz.2.2 rfl
  · exact zz.1 rfl
  · exact z.2 rfl
theorem ToldOff.rest {L D : Addr} {as : List Addr} {news : List (Addr × Obj)} {tb : Tb} (o : ToldOff L D as news) (ta : tb.map (·.2.1) = as) : ∀ q ∈ news, q.1 ∉ tb.map (·.2.1) := fun q hq hm =>
  ad7 (o.a q.1 (ta ▸ hm)).1 (o.n q hq) rfl
theorem TbIs.small {tb : Tb} {ks : List Str} {i n : Nat} {e} (h : TbIs tb (ks.take i)) (he : e ∈ tb) (hn : ks.length ≤ n) : e.2.2.length ≤ n := by
  have a := strs_len (h e he)
  have b := namesOf_len (ks.take i) e.1
  have c : (ks.take i).length ≤ ks.length := by rw [List.length_take]; lia
  lia
end Mine
end
section
open PySem PySem.W PySem.Spec PySem.Calls PyProof.Rows
set_option Elab.async false
set_option maxRecDepth 100000
set_option maxHeartbeats 4000000
set_option linter.unusedVariables false
namespace Mine
def rowOf (mo : Str → Int) (x : It) (q : Str) : Int × Str := (Builtin.bitOr x.2.1 (511 - Builtin.bitAnd (mo (joinS x.2.2 q)) 4095), joinS x.2.2 q)
def pushAll (ps : List It) : List It → List It
  | [] => ps
  | x :: xs => pushAll (sdGo iLt x (ps ++ [x]) ps.length) xs
def fileText (mo : Str → Int) (r : It) : Str := Txt.join (Str.ofString "") (permUp (Builtin.bitAnd (mo r.2.2) 61440 + 511 - r.2.1) 10)
/-- what the search must keep: a measured state of heap, told and opened -/
structure Sys (keys : List Str) (mo : Str → Int) (wish : Int) (Inv : List It → List (Str × Str) → List It → Nat → Prop) : Prop where
  len : ∀ {ps t os n}, Inv ps t os n → ps.length ≤ 400 ∧ t.length ≤ 400 ∧ os.length ≤ 400
  key : ∀ {x ps t os n}, Inv (x :: ps) t os n → x.2.2 ∈ keys
  dir : ∀ {x ps t os n}, Inv (x :: ps) t os n → (t.length : Int) < wish → Builtin.bitAnd (mo x.2.2) 61440 = 16384 →
    ∃ q qs, namesOf keys x.2.2 = q :: qs ∧ (∀ z ∈ q :: qs, joinS x.2.2 z ∈ keys) ∧ ∀ (a : Addr) (as : List Addr), as.length = qs.length →
      ∃ n', n' < n ∧ Inv (pushAll (suRes ((a, rowOf mo x q) :: ps) (a, rowOf mo x q)) (List.zipWith (fun b z => (b, rowOf mo x z)) as qs)) t (os ++ [x]) n'
  file : ∀ {ps y t os n r qs}, Inv (ps ++ [y]) t os n → (t.length : Int) < wish → ((ps = [] ∧ r = y ∧ qs = []) ∨ (∃ rest, ps = r :: rest ∧ qs = suRes (y :: rest) y)) → Builtin.bitAnd (mo r.2.2) 61440 ≠ 16384 →
      ∃ n', n' < n ∧ Inv qs (t ++ [(r.2.2, fileText mo r)]) os n'
inductive ToldIn (X : List (Addr × Obj)) : List Value → List (Str × Str) → Prop
  | nil : ToldIn X [] []
  | cons {a n t u vs told} {p : Str × Str} : (a, tupObj [.str p.1 t, .str p.2 u] n) ∈ X → ToldIn X vs told → ToldIn X (.ref a :: vs) (p :: told)
theorem ToldIn.snoc {X : List (Addr × Obj)} {a n t u vs told} {p : Str × Str} (hm : (a, tupObj [.str p.1 t, .str p.2 u] n) ∈ X) (h : ToldIn X vs told) : ToldIn X (vs ++ [.ref a]) (told ++ [p]) := by
  induction h with
  | nil => exact .cons hm .nil
  | cons hm' _ ih => exact .cons hm' ih
theorem ToldIn.mono {X Y : List (Addr × Obj)} {vs told} (h : ToldIn X vs told) (hXY : ∀ q ∈ X, q ∈ Y) : ToldIn Y vs told := by
  induction h with
  | nil => exact .nil
  | cons hm _ ih => exact .cons (hXY _ hm) ih
theorem ToldIn.length {X : List (Addr × Obj)} {vs told} (h : ToldIn X vs told) : vs.length = told.length := by
  induction h with
  | nil => rfl
  | cons _ _ ih => simp [ih]
theorem ItsIn.mono {X Y : List (Addr × Obj)} {ps : List It} (h : ItsIn X ps) (hXY : ∀ q ∈ X, q ∈ Y) : ItsIn Y ps := fun q hq => let ⟨n, t, u, hm⟩ := h q hq; ⟨n, t, u, hXY _ hm⟩
theorem news_ord2 {h₀ h : Heap} {L : Addr} {a b c d e f g i j : Addr × Obj} {X : List (Addr × Obj)} (N : News h₀ L h (a :: b :: c :: d :: e :: f :: g :: i :: j :: X)) : News h₀ L h (f :: g :: d :: c :: b :: i :: j :: e :: X) := fun p hp => N p ((sc (.tail _ (.tail _ (.tail _ (.tail _ (.tail _ (.head _)))))) (sc (.tail _ (.tail _ (.tail _ (.tail _ (.tail _ (.tail _ (.head _))))))) (sc (.tail _ (.tail _ (.tail _ (.head _)))) (sc (.tail _ (.tail _ (.head _))) (sc (.tail _ (.head _)) (sc (.tail _ (.tail _ (.tail _ (.tail _ (.tail _ (.tail _ (.tail _ (.head _)))))))) (sc (.tail _ (.tail _ (.tail _ (.tail _ (.tail _ (.tail _ (.tail _ (.tail _ (.head _))))))))) (sc (.tail _ (.tail _ (.tail _ (.tail _ (.head _))))) (fun _ h => .tail _ (.tail _ (.tail _ (.tail _ (.tail _ (.tail _ (.tail _ (.tail _ (.tail _ h)))))))))))))))) : ∀ p ∈ f :: g :: d :: c :: b :: i :: j :: e :: X, p ∈ a :: b :: c :: d :: e :: f :: g :: i :: j :: X) p hp)
theorem ne_nil {prog : Program} {w : World} {A : Around} {E Q : Value → Shared → Prop} {s : Shared} {l b : Addr} {its : Array Value} {n k : Nat} (hl : s.heap.get? l = some (listOf its n)) (hb : s.heap.get? b = some (listOf #[] k)) (hu : A.units < cLine)
    (h : Q (.bool (its.size != 0)) s) : wpAny (model prog w) A (compareOp .NotEq (.ref l) (.ref b)) Q E s := by
  have hl' : s.heap.IsList l its := ⟨_, hl, rfl, n, rfl⟩
  have hb' : s.heap.IsList b #[] := ⟨_, hb, rfl, k, rfl⟩
  by_cases hz : its.size = 0
  · have e := PySem.SeqAt.RcNeAt.lists (e := fun _ => true) hl' hb' (by simpa using hz) hu (fun j h1 h2 => absurd h2 (Nat.not_lt_zero _))
    refine e prog w E Q ?_
    simpa [hz] using h
  · have hs : (its.size != (#[] : Array Value).size) = true := by simpa using hz
    refine PySem.SeqAt.RcNeAt.lists_lengths hl' hb' hs hu prog w E Q ?_
    have e : (its.size != 0) = true := by simpa using hz
    rw [e] at h; exact h
theorem ls_len {prog : Program} {w : World} {A : Around} {E Q : Value → Shared → Prop} {s : Shared} {l : Addr} {vs : List Value} {n : Nat} (hl : s.heap.get? l = some (listOf vs.toArray n)) (hfit : vs.length ≤ 1000) (h : ∀ t tk, Q (.int (vs.length : Int) t) { s with toks := tk }) :
    wpAny (model prog w) A (call (.builtin "len") [.ref l]) Q E s := by
  have hl' : s.heap.IsList l vs.toArray := ⟨_, hl, rfl, n, rfl⟩
  have e : vs.toArray.size = vs.length := by simp
  exact len_list hl' (by rw [e]; omega) (by rw [e]; exact h _ _)
end Mine
end
section
open PySem PySem.W PySem.Spec PySem.Calls PyProof.Rows
set_option Elab.async false
set_option maxRecDepth 100000
set_option maxHeartbeats 4000000
set_option linter.unusedVariables false
namespace Mine
/-- where the named things of the search lie -/
structure Apart (L D lh lt lo : Nat) : Prop where
  d : L + 3 < D
  h : D < lh
  t : lh < lt
  o : lt < lo
def OffY (L D lh lt lo : Addr) (Y : List (Addr × Obj)) : Prop := ∀ q ∈ Y, q.1 ≠ L + 1 + 1 ∧ q.1 ≠ L + 1 + 1 + 1 ∧ q.1 ≠ lh ∧ q.1 ≠ lt ∧ q.1 ≠ lo ∧ q.1 ≠ L + 1 ∧ q.1 ≠ D
theorem Apart.ne {L D lh lt lo : Nat} (a : Apart L D lh lt lo) : L + 1 + 1 ≠ L + 1 + 1 + 1 ∧ L + 1 + 1 ≠ lh ∧ L + 1 + 1 ≠ lt ∧ L + 1 + 1 ≠ lo ∧ L + 1 + 1 ≠ L + 1 ∧ L + 1 + 1 ≠ D ∧
    L + 1 + 1 + 1 ≠ lh ∧ L + 1 + 1 + 1 ≠ lt ∧ L + 1 + 1 + 1 ≠ lo ∧ L + 1 + 1 + 1 ≠ L + 1 ∧ L + 1 + 1 + 1 ≠ D ∧ lh ≠ lt ∧ lh ≠ lo ∧ lh ≠ L + 1 ∧ lh ≠ D ∧ lt ≠ lo ∧ lt ≠ L + 1 ∧ lt ≠ D ∧ lo ≠ L + 1 ∧ lo ≠ D := by
  have := a.d; have := a.h; have := a.t; have := a.o
  omega
section
variable {L D lh lt lo : Addr} {op oa o1 o2 o3 oc oD e : Obj} {Y : List (Addr × Obj)} {I : Addr}
theorem lg_path (a : Apart L D lh lt lo) (ho : OffY L D lh lt lo Y) : ∀ q ∈ (L + 1 + 1 + 1, oa) :: (lh, o1) :: (lt, o2) :: (lo, o3) :: (L + 1, oc) :: (D, oD) :: Y, q.1 ≠ L + 1 + 1 := fun q hq => by
  have z := a.ne
  simp only [List.mem_cons] at hq
  rcases hq with rfl | rfl | rfl | rfl | rfl | rfl | h
  · exact fun e => z.1 e.symm
  · exact fun e => z.2.1 e.symm
  · exact fun e => z.2.2.1 e.symm
  · exact fun e => z.2.2.2.1 e.symm
  · exact fun e => z.2.2.2.2.1 e.symm
  · exact fun e => z.2.2.2.2.2.1 e.symm
  · exact (ho q h).1
theorem lg_lack (a : Apart L D lh lt lo) (ho : OffY L D lh lt lo Y) : ∀ q ∈ (L + 1 + 1, op) :: (lh, o1) :: (lt, o2) :: (lo, o3) :: (L + 1, oc) :: (D, oD) :: Y, q.1 ≠ L + 1 + 1 + 1 := fun q hq => by
  have z := a.ne
  simp only [List.mem_cons] at hq
  rcases hq with rfl | rfl | rfl | rfl | rfl | rfl | h
  · exact fun e => z.1 e
  · exact fun e => z.2.2.2.2.2.2.1 e.symm
  · exact fun e => z.2.2.2.2.2.2.2.1 e.symm
  · exact fun e => z.2.2.2.2.2.2.2.2.1 e.symm
  · exact fun e => z.2.2.2.2.2.2.2.2.2.1 e.symm
  · exact fun e => z.2.2.2.2.2.2.2.2.2.2.1 e.symm
  · exact (ho q h).2.1
theorem lg_heap (a : Apart L D lh lt lo) (ho : OffY L D lh lt lo Y) : ∀ q ∈ (L + 1 + 1, op) :: (L + 1 + 1 + 1, oa) :: (lt, o2) :: (lo, o3) :: (L + 1, oc) :: (D, oD) :: Y, q.1 ≠ lh := fun q hq => by
  have z := a.ne
  simp only [List.mem_cons] at hq
  rcases hq with rfl | rfl | rfl | rfl | rfl | rfl | h
  · exact z.2.1
  · exact z.2.2.2.2.2.2.1
  · exact fun e => z.2.2.2.2.2.2.2.2.2.2.2.1 e.symm
  · exact fun e => z.2.2.2.2.2.2.2.2.2.2.2.2.1 e.symm
  · exact fun e => z.2.2.2.2.2.2.2.2.2.2.2.2.2.1 e.symm
  · exact fun e => z.2.2.2.2.2.2.2.2.2.2.2.2.2.2.1 e.symm
  · exact (ho q h).2.2.1
theorem lg_told (a : Apart L D lh lt lo) (ho : OffY L D lh lt lo Y) : ∀ q ∈ (L + 1 + 1, op) :: (L + 1 + 1 + 1, oa) :: (lh, o1) :: (lo, o3) :: (L + 1, oc) :: (D, oD) :: Y, q.1 ≠ lt := fun q hq => by
  have z := a.ne
  simp only [List.mem_cons] at hq
  rcases hq with rfl | rfl | rfl | rfl | rfl | rfl | h
  · exact z.2.2.1
  · exact z.2.2.2.2.2.2.2.1
  · exact z.2.2.2.2.2.2.2.2.2.2.2.1
  · exact fun e => z.2.2.2.2.2.2.2.2.2.2.2.2.2.2.2.1 e.symm
  · exact fun e => z.2.2.2.2.2.2.2.2.2.2.2.2.2.2.2.2.1 e.symm
  · exact fun e => z.2.2.2.2.2.2.2.2.2.2.2.2.2.2.2.2.2.1 e.symm
  · exact (ho q h).2.2.2.1
theorem lg_open (a : Apart L D lh lt lo) (ho : OffY L D lh lt lo Y) : ∀ q ∈ (L + 1 + 1, op) :: (L + 1 + 1 + 1, oa) :: (lh, o1) :: (lt, o2) :: (L + 1, oc) :: (D, oD) :: Y, q.1 ≠ lo := fun q hq => by
  have z := a.ne
  simp only [List.mem_cons] at hq
  rcases hq with rfl | rfl | rfl | rfl | rfl | rfl | h
  · exact z.2.2.2.1
  · exact z.2.2.2.2.2.2.2.2.1
  · exact z.2.2.2.2.2.2.2.2.2.2.2.2.1
  · exact z.2.2.2.2.2.2.2.2.2.2.2.2.2.2.2.1
  · exact fun e => z.2.2.2.2.2.2.2.2.2.2.2.2.2.2.2.2.2.2.1 e.symm
  · exact fun e => z.2.2.2.2.2.2.2.2.2.2.2.2.2.2.2.2.2.2.2 e.symm
  · exact (ho q h).2.2.2.2.1
theorem news_mem {h₀ h : Heap} {M : Addr} {R R' : List (Addr × Obj)} (N : News h₀ M h R) (hs : ∀ p ∈ R', p ∈ R) : News h₀ M h R' := fun p hp => N p (hs p hp)
theorem mv3 {a b c : Addr × Obj} {R : List (Addr × Obj)} : ∀ p ∈ c :: a :: b :: R, p ∈ a :: b :: c :: R :=
  sc (.tail _ (.tail _ (.head _))) (sc (.head _) (sc (.tail _ (.head _)) (fun _ h => .tail _ (.tail _ (.tail _ h)))))
/-- push the first to the end of seven, ahead of Y -/
theorem mv8 {x a b c d e f g : Addr × Obj} {R : List (Addr × Obj)} : ∀ p ∈ a :: b :: c :: d :: e :: f :: g :: x :: R, p ∈ x :: a :: b :: c :: d :: e :: f :: g :: R :=
  sc (.tail _ (.head _)) (sc (.tail _ (.tail _ (.head _))) (sc (.tail _ (.tail _ (.tail _ (.head _)))) (sc (.tail _ (.tail _ (.tail _ (.tail _ (.head _))))) (sc (.tail _ (.tail _ (.tail _ (.tail _ (.tail _ (.head _)))))) (sc (.tail _ (.tail _ (.tail _ (.tail _ (.tail _ (.tail _ (.head _))))))) (sc (.tail _ (.tail _ (.tail _ (.tail _ (.tail _ (.tail _ (.tail _ (.head _)))))))) (sc (.head _) (fun _ h => .tail _ (.tail _ (.tail _ (.tail _ (.tail _ (.tail _ (.tail _ (.tail _ h)))))))))))))))
theorem OffY.cons {x : Addr} {o : Obj} (ho : OffY L D lh lt lo Y) (hx : x ≠ L + 1 + 1 ∧ x ≠ L + 1 + 1 + 1 ∧ x ≠ lh ∧ x ≠ lt ∧ x ≠ lo ∧ x ≠ L + 1 ∧ x ≠ D) : OffY L D lh lt lo ((x, o) :: Y) := fun q hq => by
  rcases List.mem_cons.mp hq with rfl | hq
  · exact hx
  · exact ho q hq
theorem OffY.add {x : Addr} {o : Obj} (ho : OffY L D lh lt lo Y) (hx : L + 1 + 1 < x ∧ L + 1 + 1 + 1 < x ∧ lh < x ∧ lt < x ∧ lo < x ∧ L + 1 < x ∧ D < x) : OffY L D lh lt lo ((x, o) :: Y) := fun q hq => by
  rcases List.mem_cons.mp hq with rfl | hq
  · obtain ⟨h1, h2, h3, h4, h5, h6, h7⟩ := hx
    exact ⟨Nat.ne_of_gt h1, Nat.ne_of_gt h2, Nat.ne_of_gt h3, Nat.ne_of_gt h4, Nat.ne_of_gt h5, Nat.ne_of_gt h6, Nat.ne_of_gt h7⟩
  · exact ho q hq
end
theorem ap8 {L D x lh lt lo : Nat} (h1 : L + 3 < D) (h2 : D < x) (h3 : x < lh) (h4 : lh < lt) (h5 : lt < lo) : x ≠ L + 1 + 1 ∧ x ≠ L + 1 + 1 + 1 ∧ x ≠ lh ∧ x ≠ lt ∧ x ≠ lo ∧ x ≠ L + 1 ∧ x ≠ D := by lia
theorem ap9 {L D x lh lt lo : Nat} (a : Apart L D lh lt lo) (h : x < L) : x ≠ L + 1 + 1 ∧ x ≠ L + 1 + 1 + 1 ∧ x ≠ lh ∧ x ≠ lt ∧ x ≠ lo ∧ x ≠ L + 1 ∧ x ≠ D := by
  have := a.d; have := a.h; have := a.t; have := a.o; lia
theorem mvA {x a b : Addr × Obj} {R : List (Addr × Obj)} : ∀ p ∈ b :: a :: R, p ∈ x :: a :: b :: R :=
  sc (.tail _ (.tail _ (.head _))) (sc (.tail _ (.head _)) (fun _ h => .tail _ (.tail _ (.tail _ h))))
theorem mvB {a b : Addr × Obj} {R : List (Addr × Obj)} : ∀ p ∈ b :: a :: R, p ∈ a :: b :: R :=
  sc (.tail _ (.head _)) (sc (.head _) (fun _ h => .tail _ (.tail _ h)))
theorem names_at {tb : Tb} {ks : List Str} {e} {n : Nat} {l : List Str} (h : TbIs tb (ks.take n)) (he : e ∈ tb) (hn : ks.length ≤ n) (hl : namesOf ks e.1 = l) : StrsAre e.2.2 l := by
  have := h e he
  rw [List.take_of_length_le hn] at this
  rw [← hl]; exact this
theorem strs_at {vs : List Value} {ys : List Str} {i : Nat} {v : Value} (h : StrsAre vs ys) (hv : vs.toArray[i]? = some v) : ∃ z t, ys[i]? = some z ∧ v = .str z t := by
  have hv' : vs[i]? = some v := by simpa using hv
  clear hv
  induction h generalizing i with
  | nil => simp at hv'
  | cons y t _ ih =>
    cases i with
    | zero => exact ⟨y, t, rfl, (Option.some.inj hv').symm⟩
    | succ i => exact ih hv'
theorem namesOf_mem {ks : List Str} {p z : Str} (h : ∀ k ∈ ks, k.length ≠ 0 ∧ (splitTail k).length ≤ 1000 ∧ Txt.startswith (splitTail k) (Str.ofString "/") = false) (hz : z ∈ namesOf ks p) : z.length ≤ 1000 ∧ Txt.startswith z (Str.ofString "/") = false := by
  obtain ⟨k, hk, rfl⟩ := List.mem_map.mp hz
  exact (h k (List.mem_filter.mp hk).1).2
theorem take_snoc_strs {ys : List Value} {l : List Str} {f : Str → Str} {i : Nat} {z : Str} {t : Tok} (h : StrsAre ys ((l.take i).map f)) (hz : l[i]? = some z) : StrsAre (ys ++ [.str (f z) t]) ((l.take (i + 1)).map f) := by
  rw [List.take_add_one, hz, List.map_append]; exact StrsAre.snoc h
theorem OffY.off1 {L D lh lt lo x : Addr} {o op oa o1 o2 o3 oc oD : Obj} {Y : List (Addr × Obj)} (ho : OffY L D lh lt lo Y) (h : ∀ p ∈ (L + 1 + 1, op) :: (L + 1 + 1 + 1, oa) :: (lh, o1) :: (lt, o2) :: (lo, o3) :: (L + 1, oc) :: (D, oD) :: Y, p.1 ≠ x) : OffY L D lh lt lo ((x, o) :: Y) :=
  ho.cons ⟨fun e => h _ (.head _) e.symm, fun e => h _ (.tail _ (.head _)) e.symm, fun e => h _ (.tail _ (.tail _ (.head _))) e.symm, fun e => h _ (.tail _ (.tail _ (.tail _ (.head _)))) e.symm, fun e => h _ (.tail _ (.tail _ (.tail _ (.tail _ (.head _))))) e.symm,
    fun e => h _ (.tail _ (.tail _ (.tail _ (.tail _ (.tail _ (.head _)))))) e.symm, fun e => h _ (.tail _ (.tail _ (.tail _ (.tail _ (.tail _ (.tail _ (.head _))))))) e.symm⟩
theorem map_at {α β : Type} {f : α → β} {l : List α} {i : Nat} {z : β} (h : (l.map f)[i]? = some z) : ∃ q, l[i]? = some q ∧ z = f q := by
  rw [List.getElem?_map] at h
  cases e : l[i]? with
  | none => rw [e] at h; cases h
  | some q => rw [e] at h; exact ⟨q, rfl, (Option.some.inj h).symm⟩
theorem mvH {c d e1 e2 h o r t : Addr × Obj} {R : List (Addr × Obj)} : ∀ p ∈ h :: e1 :: e2 :: t :: o :: c :: d :: r :: R, p ∈ r :: e1 :: e2 :: h :: t :: o :: c :: d :: R :=
  sc (.tail _ (.tail _ (.tail _ (.head _)))) (sc (.tail _ (.head _)) (sc (.tail _ (.tail _ (.head _))) (sc (.tail _ (.tail _ (.tail _ (.tail _ (.head _))))) (sc (.tail _ (.tail _ (.tail _ (.tail _ (.tail _ (.head _)))))) (sc (.tail _ (.tail _ (.tail _ (.tail _ (.tail _ (.tail _ (.head _))))))) (sc (.tail _ (.tail _ (.tail _ (.tail _ (.tail _ (.tail _ (.tail _ (.head _)))))))) (sc (.head _) (fun _ h => .tail _ (.tail _ (.tail _ (.tail _ (.tail _ (.tail _ (.tail _ (.tail _ h)))))))))))))))
theorem mvO {c d e1 e2 h o t : Addr × Obj} {R : List (Addr × Obj)} : ∀ p ∈ o :: e1 :: e2 :: h :: t :: c :: d :: R, p ∈ h :: e1 :: e2 :: t :: o :: c :: d :: R :=
  sc (.tail _ (.tail _ (.tail _ (.tail _ (.head _))))) (sc (.tail _ (.head _)) (sc (.tail _ (.tail _ (.head _))) (sc (.head _) (sc (.tail _ (.tail _ (.tail _ (.head _)))) (sc (.tail _ (.tail _ (.tail _ (.tail _ (.tail _ (.head _)))))) (sc (.tail _ (.tail _ (.tail _ (.tail _ (.tail _ (.tail _ (.head _))))))) (fun _ h => .tail _ (.tail _ (.tail _ (.tail _ (.tail _ (.tail _ (.tail _ h)))))))))))))
theorem mvC {c d e1 e2 h o t : Addr × Obj} {R : List (Addr × Obj)} : ∀ p ∈ e1 :: e2 :: h :: t :: o :: c :: d :: R, p ∈ o :: e1 :: e2 :: h :: t :: c :: d :: R :=
  sc (.tail _ (.head _)) (sc (.tail _ (.tail _ (.head _))) (sc (.tail _ (.tail _ (.tail _ (.head _)))) (sc (.tail _ (.tail _ (.tail _ (.tail _ (.head _))))) (sc (.head _) (sc (.tail _ (.tail _ (.tail _ (.tail _ (.tail _ (.head _)))))) (sc (.tail _ (.tail _ (.tail _ (.tail _ (.tail _ (.tail _ (.head _))))))) (fun _ h => .tail _ (.tail _ (.tail _ (.tail _ (.tail _ (.tail _ (.tail _ h)))))))))))))
theorem mvI {c d e1 e2 h i o t : Addr × Obj} {R : List (Addr × Obj)} : ∀ p ∈ h :: i :: e1 :: e2 :: t :: o :: c :: d :: R, p ∈ i :: e1 :: e2 :: h :: t :: o :: c :: d :: R :=
  sc (.tail _ (.tail _ (.tail _ (.head _)))) (sc (.head _) (sc (.tail _ (.head _)) (sc (.tail _ (.tail _ (.head _))) (sc (.tail _ (.tail _ (.tail _ (.tail _ (.head _))))) (sc (.tail _ (.tail _ (.tail _ (.tail _ (.tail _ (.head _)))))) (sc (.tail _ (.tail _ (.tail _ (.tail _ (.tail _ (.tail _ (.head _))))))) (sc (.tail _ (.tail _ (.tail _ (.tail _ (.tail _ (.tail _ (.tail _ (.head _)))))))) (fun _ h => .tail _ (.tail _ (.tail _ (.tail _ (.tail _ (.tail _ (.tail _ (.tail _ h)))))))))))))))
theorem mvJ {c d e1 e2 h i o t : Addr × Obj} {R : List (Addr × Obj)} : ∀ p ∈ i :: e1 :: e2 :: h :: t :: o :: c :: d :: R, p ∈ h :: i :: e1 :: e2 :: t :: o :: c :: d :: R :=
  sc (.tail _ (.head _)) (sc (.tail _ (.tail _ (.head _))) (sc (.tail _ (.tail _ (.tail _ (.head _)))) (sc (.head _) (sc (.tail _ (.tail _ (.tail _ (.tail _ (.head _))))) (sc (.tail _ (.tail _ (.tail _ (.tail _ (.tail _ (.head _)))))) (sc (.tail _ (.tail _ (.tail _ (.tail _ (.tail _ (.tail _ (.head _))))))) (sc (.tail _ (.tail _ (.tail _ (.tail _ (.tail _ (.tail _ (.tail _ (.head _)))))))) (fun _ h => .tail _ (.tail _ (.tail _ (.tail _ (.tail _ (.tail _ (.tail _ (.tail _ h)))))))))))))))
theorem mvR {c d e1 e2 h i j k o t x : Addr × Obj} {R : List (Addr × Obj)} : ∀ p ∈ i :: j :: k :: e1 :: e2 :: h :: t :: o :: c :: d :: x :: R, p ∈ x :: i :: j :: k :: e1 :: e2 :: h :: t :: o :: c :: d :: R :=
  sc (.tail _ (.head _)) (sc (.tail _ (.tail _ (.head _))) (sc (.tail _ (.tail _ (.tail _ (.head _)))) (sc (.tail _ (.tail _ (.tail _ (.tail _ (.head _))))) (sc (.tail _ (.tail _ (.tail _ (.tail _ (.tail _ (.head _)))))) (sc (.tail _ (.tail _ (.tail _ (.tail _ (.tail _ (.tail _ (.head _))))))) (sc (.tail _ (.tail _ (.tail _ (.tail _ (.tail _ (.tail _ (.tail _ (.head _)))))))) (sc (.tail _ (.tail _ (.tail _ (.tail _ (.tail _ (.tail _ (.tail _ (.tail _ (.head _))))))))) (sc (.tail _ (.tail _ (.tail _ (.tail _ (.tail _ (.tail _ (.tail _ (.tail _ (.tail _ (.head _)))))))))) (sc (.tail _ (.tail _ (.tail _ (.tail _ (.tail _ (.tail _ (.tail _ (.tail _ (.tail _ (.tail _ (.head _))))))))))) (sc (.head _) (fun _ h => .tail _ (.tail _ (.tail _ (.tail _ (.tail _ (.tail _ (.tail _ (.tail _ (.tail _ (.tail _ (.tail _ h)))))))))))))))))))))
theorem mvV {c d e1 e2 h o t : Addr × Obj} {R : List (Addr × Obj)} : ∀ p ∈ e1 :: e2 :: h :: t :: o :: c :: d :: R, p ∈ t :: e1 :: e2 :: h :: o :: c :: d :: R :=
  sc (.tail _ (.head _)) (sc (.tail _ (.tail _ (.head _))) (sc (.tail _ (.tail _ (.tail _ (.head _)))) (sc (.head _) (sc (.tail _ (.tail _ (.tail _ (.tail _ (.head _))))) (sc (.tail _ (.tail _ (.tail _ (.tail _ (.tail _ (.head _)))))) (sc (.tail _ (.tail _ (.tail _ (.tail _ (.tail _ (.tail _ (.head _))))))) (fun _ h => .tail _ (.tail _ (.tail _ (.tail _ (.tail _ (.tail _ (.tail _ h)))))))))))))
theorem sd_len {α : Type} {lt : α → α → Bool} {x : α} : ∀ (pos : Nat) (l : List α), (sdGo lt x l pos).length = l.length := by
  intro pos
  induction pos using Nat.strongRecOn with
  | ind pos ih =>
  intro l
  rw [sdGo]
  split
  · split
    · split
      · rw [ih _ (by lia), List.length_set]
      · rw [List.length_set]
    · rfl
  · rw [List.length_set]
theorem su_len {α : Type} {lt : α → α → Bool} : ∀ (k pos : Nat) (l : List α), l.length ≤ pos + k → (suGo lt l pos).1.length = l.length := by
  intro k
  induction k with
  | zero => intro pos l h; rw [su_end (by lia)]
  | succ k ih =>
    intro pos l h
    rw [suGo]
    split
    · dsimp only
      split
      · split
        · rw [ih _ _ (by rw [List.length_set]; lia), List.length_set]
        · rw [ih _ _ (by rw [List.length_set]; lia), List.length_set]
      · rw [ih _ _ (by rw [List.length_set]; lia), List.length_set]
    · rfl
theorem suRes_len (ps : List It) (x : It) : (suRes ps x).length = ps.length := by
  unfold suRes
  rw [sd_len, List.length_set, su_len _ 0 ps (Nat.le_of_eq (Nat.zero_add _).symm)]
theorem pushAll_len : ∀ (xs ps : List It), (pushAll ps xs).length = ps.length + xs.length
  | [], ps => rfl
  | x :: xs, ps => by rw [pushAll, pushAll_len, sd_len, List.length_append, List.length_singleton, List.length_cons]; lia
theorem pushAll_snoc : ∀ (xs ps : List It) (x : It), pushAll ps (xs ++ [x]) = sdGo iLt x (pushAll ps xs ++ [x]) (pushAll ps xs).length
  | [], ps, x => rfl
  | y :: xs, ps, x => by show pushAll _ (xs ++ [x]) = _; rw [pushAll_snoc xs]; rfl
theorem take_snoc_at {α : Type} {l : List α} {i : Nat} {z : α} (h : l[i]? = some z) : l.take (i + 1) = l.take i ++ [z] := by rw [List.take_add_one, h]; rfl
theorem its_split {mo : Str → Int} {x : It} {q0 : Str} {qs0 : List Str} {its : List It} (h : its.map (·.2) = (q0 :: qs0).map (rowOf mo x)) : ∃ a0 its', its = (a0, rowOf mo x q0) :: its' ∧ its' = List.zipWith (fun b z => (b, rowOf mo x z)) (its'.map (·.1)) qs0 ∧ its'.length = qs0.length := by
  cases its with
  | nil => cases h
  | cons e its' =>
    simp only [List.map_cons, List.cons.injEq] at h
    refine ⟨e.1, its', by rw [← h.1], ?_, by have := congrArg List.length h.2; simpa using this⟩
    have h2 := h.2
    clear h
    induction its' generalizing qs0 with
    | nil => rfl
    | cons f its' ih =>
      cases qs0 with
      | nil => cases h2
      | cons q qs0 =>
        simp only [List.map_cons, List.cons.injEq] at h2
        simp only [List.map_cons, List.zipWith_cons_cons, List.cons.injEq]
        exact ⟨by rw [← h2.1], ih h2.2⟩
theorem off3_add {I C D x : Addr} {o : Obj} {a b c d e f g : Addr × Obj} {Y : List (Addr × Obj)} (h : LCg.Off3 I C D (a :: b :: c :: d :: e :: f :: g :: Y)) (h1 : I < x) (h2 : C < x) (h3 : D < x) : LCg.Off3 I C D (a :: b :: c :: d :: e :: f :: g :: (x, o) :: Y) :=
  ⟨h.1, h.2.1, h.2.2.1, h.2.2.2.1, h.2.2.2.2.1, h.2.2.2.2.2.1, h.2.2.2.2.2.2.1, ⟨Nat.ne_of_gt h1, Nat.ne_of_gt h2, Nat.ne_of_gt h3⟩, h.2.2.2.2.2.2.2⟩
theorem ItsIn.snoc {X : List (Addr × Obj)} {its : List It} {x : It} {n : Nat} {t u : Tok} (h : ItsIn X its) : ItsIn ((x.1, tupObj [.int x.2.1 t, .str x.2.2 u] n) :: X) (its ++ [x]) := fun q hq => by
  rcases List.mem_append.mp hq with hq | hq
  · obtain ⟨n, t, u, hm⟩ := h q hq; exact ⟨n, t, u, .tail _ hm⟩
  · rw [List.mem_singleton.mp hq]; exact ⟨_, _, _, .head _⟩
theorem AllLt.ap {a b c d e f g x : Nat} {Y : List (Addr × Obj)} (h : a < x ∧ b < x ∧ c < x ∧ d < x ∧ e < x ∧ f < x ∧ g < x ∧ AllLt x Y) : a < x ∧ b < x ∧ c < x ∧ d < x ∧ e < x ∧ f < x ∧ g < x := ⟨h.1, h.2.1, h.2.2.1, h.2.2.2.1, h.2.2.2.2.1, h.2.2.2.2.2.1, h.2.2.2.2.2.2.1⟩
theorem OffY.addAll {L D lh lt lo x : Addr} {o op oa o1 o2 o3 oc oD : Obj} {Y : List (Addr × Obj)} (ho : OffY L D lh lt lo Y) (h : ∀ p ∈ (L + 1 + 1, op) :: (L + 1 + 1 + 1, oa) :: (lh, o1) :: (lt, o2) :: (lo, o3) :: (L + 1, oc) :: (D, oD) :: Y, p.1 < x) : OffY L D lh lt lo ((x, o) :: Y) :=
  ho.off1 (op := op) (oa := oa) (o1 := o1) (o2 := o2) (o3 := o3) (oc := oc) (oD := oD) fun p hp => Nat.ne_of_lt (h p hp)
theorem ap10 {L D x lh lt lo : Nat} (a : Apart L D lh lt lo) (h : L + 3 < x) (h2 : x ≠ D) (h3 : x < lh) : x ≠ L + 1 + 1 ∧ x ≠ L + 1 + 1 + 1 ∧ x ≠ lh ∧ x ≠ lt ∧ x ≠ lo ∧ x ≠ L + 1 ∧ x ≠ D := by
  have := a.d; have := a.h; have := a.t; have := a.o; lia
theorem told_end {D lh lt lo L1 L2 L3 D0 b : Addr} {o1 o2 o3 o4 o5 o6 o7 o8 o9 : Obj} {Y : List (Addr × Obj)} {p : Addr × Obj} (hp : p ∈ (D, o1) :: (lt, o2) :: (lo, o3) :: Y) : p ∈ (D, o1) :: (b, o4) :: (L2, o5) :: (L3, o6) :: (lh, o7) :: (lt, o2) :: (lo, o3) :: (L1, o8) :: (D0, o9) :: Y :=
  (sc (.head _) (sc (.tail _ (.tail _ (.tail _ (.tail _ (.tail _ (.head _)))))) (sc (.tail _ (.tail _ (.tail _ (.tail _ (.tail _ (.tail _ (.head _))))))) (fun _ h => .tail _ (.tail _ (.tail _ (.tail _ (.tail _ (.tail _ (.tail _ (.tail _ (.tail _ h))))))))))) : ∀ p ∈ (D, o1) :: (lt, o2) :: (lo, o3) :: Y, p ∈ (D, o1) :: (b, o4) :: (L2, o5) :: (L3, o6) :: (lh, o7) :: (lt, o2) :: (lo, o3) :: (L1, o8) :: (D0, o9) :: Y) p hp
theorem refs_cons {ps : List It} (h : ((refs ps).size != 0) = true) : ∃ x ps', ps = x :: ps' := by
  cases ps with
  | nil => simp [refs] at h
  | cons x ps' => exact ⟨x, ps', rfl⟩
theorem refs_nil {ps : List It} (h : ((refs ps).size != 0) = false) : ps = [] := by
  cases ps with
  | nil => rfl
  | cons x ps' => simp [refs] at h
theorem hp_sub0 {prog : Program} {w : World} {A : Around} {E Q : Value → Shared → Prop} {s : Shared} {l : Addr} {x : It} {ps : List It} {n : Nat} {value slice : PySem.Expr} {u : Tok} (hl : s.heap.get? l = some (listOf (refs (x :: ps)) n)) (hfit : (x :: ps).length ≤ 1000)
    (h : Q (.ref x.1) s) (hs : subscripted slice false (.ref l) (.int 0 u) = operate [.ref l, .int 0 u] (getItem (.ref l) (.int 0 u)) := by with_unfolding_all rfl) :
    wpAny (model prog w) A (subscriptTail value slice (.ref l) (.int 0 u)) Q E s := by
  have hl' : s.heap.IsList l (refs (x :: ps)) := ⟨_, hl, rfl, n, rfl⟩
  exact tail_any hl'.typeIs slot_list_getitem.lookup (wpAny_getItem_list hl' (Int.le_refl 0) (by decide) (refs_get (k := 0) rfl) h) hs
theorem ToldOff.offY {L D lh lt lo : Addr} {as : List Addr} {news : List (Addr × Obj)} {tb : Tb} (o : ToldOff L D as news) (ha : tb.map (·.2.1) = as) (a : Apart L D lh lt lo) (hl : ∀ q ∈ tbL tb ++ news, q.1 < lh) : OffY L D lh lt lo (tbL tb ++ news) := fun q hq => by
  have h1 := hl q hq
  rcases List.mem_append.mp hq with h | h
  · have z := o.a q.1 (ha ▸ tbL_addr h)
    exact ap10 a z.1 z.2 h1
  · exact ap9 a (o.n q h)
theorem ref_at {its : List It} {i : Nat} {v : Value} (h : (its.map fun q => Value.ref q.1).toArray[i]? = some v) : ∃ z : It, its[i]? = some z ∧ v = .ref z.1 := by
  have h' : (its.map fun q => Value.ref q.1)[i]? = some v := by simpa using h
  exact map_at h'
theorem sd_mem {α : Type} {lt : α → α → Bool} {x q : α} : ∀ (pos : Nat) (l : List α), q ∈ sdGo lt x l pos → q ∈ l ∨ q = x := by
  intro pos
  induction pos using Nat.strongRecOn with
  | ind pos ih =>
  intro l h
  rw [sdGo] at h
  split at h
  · split at h
    · rename_i p hp
      split at h
      · rcases ih _ (by lia) _ h with h | h
        · rcases List.mem_or_eq_of_mem_set h with h | h
          · exact .inl h
          · exact .inl (h ▸ List.mem_of_getElem? hp)
        · exact .inr h
      · rcases List.mem_or_eq_of_mem_set h with h | h
        · exact .inl h
        · exact .inr h
    · exact .inl h
  · rcases List.mem_or_eq_of_mem_set h with h | h
    · exact .inl h
    · exact .inr h
theorem su_mem {α : Type} {lt : α → α → Bool} {q : α} : ∀ (k pos : Nat) (l : List α), l.length ≤ pos + k → q ∈ (suGo lt l pos).1 → q ∈ l := by
  intro k
  induction k with
  | zero => intro pos l h hq; rw [su_end (by lia)] at hq; exact hq
  | succ k ih =>
    intro pos l h hq
    have aux : ∀ (z : α) (c : Nat), z ∈ l → (pos < c) → q ∈ (suGo lt (l.set pos z) c).1 → q ∈ l := by
      intro z c hz hc hq
      rcases List.mem_or_eq_of_mem_set (ih _ _ (by rw [List.length_set]; lia) hq) with h | h
      · exact h
      · exact h ▸ hz
    rw [suGo] at hq
    split at hq
    · rename_i hlt
      dsimp only at hq
      split at hq
      · rename_i b hb
        split at hq
        · exact aux _ _ (List.getElem_mem _) (by lia) hq
        · exact aux _ _ (List.mem_of_getElem? hb) (by lia) hq
      · exact aux _ _ (List.getElem_mem _) (by lia) hq
    · exact hq
theorem suRes_mem {ps : List It} {x q : It} (h : q ∈ suRes ps x) : q ∈ ps ∨ q = x := by
  unfold suRes at h
  rcases sd_mem _ _ h with h | h
  · rcases List.mem_or_eq_of_mem_set h with h | h
    · exact .inl (su_mem _ 0 ps (Nat.le_of_eq (Nat.zero_add _).symm) h)
    · exact .inr h
  · exact .inr h
theorem ItsIn.suRes {X : List (Addr × Obj)} {ps : List It} {x : It} (h : ItsIn X (x :: ps)) : ItsIn X (Mine.suRes (x :: ps) x) := fun q hq => by
  rcases suRes_mem hq with hq | hq
  · exact h q hq
  · rw [hq]; exact h x (.head _)
theorem ItsIn.sd {X : List (Addr × Obj)} {ps : List It} {x : It} (h : ItsIn X ps) (hx : ∃ n t u, (x.1, tupObj [.int x.2.1 t, .str x.2.2 u] n) ∈ X) : ItsIn X (sdGo iLt x (ps ++ [x]) ps.length) := fun q hq => by
  rcases sd_mem _ _ hq with hq | hq
  · rcases List.mem_append.mp hq with hq | hq
    · exact h q hq
    · rw [List.mem_singleton.mp hq]; exact hx
  · rw [hq]; exact hx
theorem ItsIn.push {X : List (Addr × Obj)} {ps : List It} {x : It} (h : ItsIn X ps) (hx : ∃ n t u, (x.1, tupObj [.int x.2.1 t, .str x.2.2 u] n) ∈ X) : ItsIn X (ps ++ [x]) := fun q hq => by
  rcases List.mem_append.mp hq with hq | hq
  · exact h q hq
  · rw [List.mem_singleton.mp hq]; exact hx
theorem lg_heapI {L D lh lt lo I : Addr} {op oa o1 o2 o3 oc oD oI : Obj} {Y : List (Addr × Obj)} (a : Apart L D lh lt lo) (ho : OffY L D lh lt lo Y) (hI : I ≠ lh) : ∀ q ∈ (I, oI) :: (L + 1 + 1, op) :: (L + 1 + 1 + 1, oa) :: (lt, o2) :: (lo, o3) :: (L + 1, oc) :: (D, oD) :: Y, q.1 ≠ lh := fun q hq => by
  rcases List.mem_cons.mp hq with rfl | hq
  · exact hI
  · exact lg_heap a ho q hq
theorem mem6 {a b c d e f : Addr × Obj} {Y : List (Addr × Obj)} {p : Addr × Obj} (h : p ∈ Y) : p ∈ a :: b :: c :: d :: e :: f :: Y := .tail _ (.tail _ (.tail _ (.tail _ (.tail _ (.tail _ h)))))
theorem mem7 {a b c d e f i : Addr × Obj} {Y : List (Addr × Obj)} {p : Addr × Obj} (h : p ∈ Y) : p ∈ i :: a :: b :: c :: d :: e :: f :: Y := .tail _ (mem6 h)
theorem ItsIn.mem7 {a b c d e f i : Addr × Obj} {Y : List (Addr × Obj)} {ps : List It} (h : ItsIn Y ps) : ItsIn (i :: a :: b :: c :: d :: e :: f :: Y) ps := h.mono fun _ hq => Mine.mem7 hq
theorem list_snoc {α : Type} : ∀ (x : α) (l : List α), ∃ ps y, x :: l = ps ++ [y]
  | x, [] => ⟨[], x, rfl⟩
  | x, z :: l => let ⟨ps, y, h⟩ := list_snoc z l; ⟨x :: ps, y, by rw [h]; rfl⟩
theorem pop_head {x y r : It} {ps' ps qs : List It} (he : x :: ps' = ps ++ [y]) (h : (ps = [] ∧ r = y ∧ qs = []) ∨ (∃ rest, ps = r :: rest ∧ qs = suRes (y :: rest) y)) : r = x := by
  rcases h with ⟨rfl, rfl, _⟩ | ⟨rest, rfl, _⟩
  · simp at he; exact he.1.symm
  · simp at he; exact he.1.symm
theorem pop_its {X : List (Addr × Obj)} {x y r : It} {ps' ps qs : List It} (hI : ItsIn X (x :: ps')) (he : x :: ps' = ps ++ [y]) (h : (ps = [] ∧ r = y ∧ qs = []) ∨ (∃ rest, ps = r :: rest ∧ qs = suRes (y :: rest) y)) : ItsIn X qs := by
  rw [he] at hI
  rcases h with ⟨rfl, rfl, rfl⟩ | ⟨rest, rfl, rfl⟩
  · exact fun _ h => nomatch h
  · refine ItsIn.suRes fun q hq => hI q ?_
    rcases List.mem_cons.mp hq with rfl | hq
    · exact List.mem_append_right _ (.head _)
    · exact List.mem_append_left _ (.tail _ hq)
theorem mvW {e1 e2 h x : Addr × Obj} {R : List (Addr × Obj)} : ∀ p ∈ e2 :: e1 :: h :: R, p ∈ x :: h :: e1 :: e2 :: R :=
  sc (.tail _ (.tail _ (.tail _ (.head _)))) (sc (.tail _ (.tail _ (.head _))) (sc (.tail _ (.head _)) (fun _ h => .tail _ (.tail _ (.tail _ (.tail _ h))))))
theorem mvX {c d e1 e2 h o t x : Addr × Obj} {R : List (Addr × Obj)} : ∀ p ∈ t :: e1 :: e2 :: h :: o :: c :: d :: x :: R, p ∈ x :: e1 :: e2 :: h :: t :: o :: c :: d :: R :=
  sc (.tail _ (.tail _ (.tail _ (.tail _ (.head _))))) (sc (.tail _ (.head _)) (sc (.tail _ (.tail _ (.head _))) (sc (.tail _ (.tail _ (.tail _ (.head _)))) (sc (.tail _ (.tail _ (.tail _ (.tail _ (.tail _ (.head _)))))) (sc (.tail _ (.tail _ (.tail _ (.tail _ (.tail _ (.tail _ (.head _))))))) (sc (.tail _ (.tail _ (.tail _ (.tail _ (.tail _ (.tail _ (.tail _ (.head _)))))))) (sc (.head _) (fun _ h => .tail _ (.tail _ (.tail _ (.tail _ (.tail _ (.tail _ (.tail _ (.tail _ h)))))))))))))))
theorem off_h {I : Addr} {e1 e2 : Addr × Obj} {l : Addr} {o o' : Obj} {R : List (Addr × Obj)} (h : ∀ p ∈ e1 :: e2 :: (l, o) :: R, p.1 ≠ I) : ∀ p ∈ e1 :: e2 :: (l, o') :: R, p.1 ≠ I := fun p hp => by
  rcases List.mem_cons.mp hp with e | hp
  · exact e ▸ h _ (.head _)
  · rcases List.mem_cons.mp hp with e | hp
    · exact e ▸ h _ (.tail _ (.head _))
    · rcases List.mem_cons.mp hp with e | hp
      · rw [e]; exact h (l, o) (.tail _ (.tail _ (.head _)))
      · exact h p (.tail _ (.tail _ (.tail _ hp)))
end Mine
end
section
open PySem PySem.W PySem.Spec PySem.Calls PyProof.Rows
set_option Elab.async false
set_option maxRecDepth 100000
set_option maxHeartbeats 4000000
set_option linter.unusedVariables false
namespace Mine
/-- a strict linear order on the places 0 .. N-1 -/
structure LO (N : Nat) (lt : Nat → Nat → Bool) : Prop where
  asymm : ∀ {i j}, i < N → j < N → lt i j = true → lt j i = false
  trans : ∀ {i j k}, i < N → j < N → k < N → lt i j = true → lt j k = true → lt i k = true
  total : ∀ {i j}, i < N → j < N → i ≠ j → lt i j = false → lt j i = true
abbrev Cmp := Nat → Nat → (Bool → Shared → Prop) → Shared → Prop
/-- the questions are answered by lt -/
def Answers (N : Nat) (lt : Nat → Nat → Bool) (cmp : Cmp) (s : Shared) : Prop := ∀ i j C, i < N → j < N → i ≠ j → C (lt i j) s → cmp i j C s
/-- p is a row of all places -/
structure Full (N : Nat) (p : Array Nat) : Prop where
  sz : p.size = N
  lt : ∀ i, i < N → p.getD i 0 < N
  inj : ∀ i j, i < N → j < N → p.getD i 0 = p.getD j 0 → i = j
def Asc (lt : Nat → Nat → Bool) (p : Array Nat) (k : Nat) : Prop := ∀ i j, i < j → j < k → lt (p.getD i 0) (p.getD j 0) = true
def Dsc (lt : Nat → Nat → Bool) (p : Array Nat) (k : Nat) : Prop := ∀ i j, i < j → j < k → lt (p.getD j 0) (p.getD i 0) = true
section
variable {N : Nat} {lt : Nat → Nat → Bool} {cmp : Cmp} {s : Shared}
theorem asc_more (O : LO N lt) {p : Array Nat} (P : Full N p) {n : Nat} (h1 : 1 ≤ n) (hn : n < N) (h : Asc lt p n) (hc : lt (p.getD (n - 1) 0) (p.getD n 0) = true) : Asc lt p (n + 1) := by
  intro i j hij hj
  by_cases e : j = n
  · subst e
    by_cases e2 : i = j - 1
    · rw [e2]; exact hc
    · exact O.trans (P.lt _ (by lia)) (P.lt _ (by lia)) (P.lt _ hn) (h i (j - 1) (by lia) (by lia)) hc
  · exact h i j hij (by lia)
theorem dsc_more (O : LO N lt) {p : Array Nat} (P : Full N p) {n : Nat} (h1 : 1 ≤ n) (hn : n < N) (h : Dsc lt p n) (hc : lt (p.getD n 0) (p.getD (n - 1) 0) = true) : Dsc lt p (n + 1) := by
  intro i j hij hj
  by_cases e : j = n
  · subst e
    by_cases e2 : i = j - 1
    · rw [e2]; exact hc
    · exact O.trans (P.lt _ hn) (P.lt _ (by lia)) (P.lt _ (by lia)) hc (h i (j - 1) (by lia) (by lia))
  · exact h i j hij (by lia)
theorem go_asc (O : LO N lt) (A : Answers N lt cmp s) {p : Array Nat} (P : Full N p) : ∀ (f n : Nat) {Q : Nat → Shared → Prop}, 1 ≤ n → n + f = N → Asc lt p n →
    (∀ m, n ≤ m → m ≤ N → Asc lt p m → (m = N ∨ lt (p.getD m 0) (p.getD (m - 1) 0) = true) → Q m s) → (kas_asc p f n).kasWp cmp Q s
  | 0, n, Q, h1, hn, ha, h => h n (Nat.le_refl _) (by lia) ha (.inl (by lia))
  | f + 1, n, Q, h1, hn, ha, h => by
    show cmp (p.getD n 0) (p.getD (n - 1) 0) _ s
    refine A _ _ _ (P.lt _ (by lia)) (P.lt _ (by lia)) (fun e => ?_) ?_
    · have := P.inj _ _ (by lia) (by lia) e; lia
    cases hc : lt (p.getD n 0) (p.getD (n - 1) 0) with
    | true => exact h n (Nat.le_refl _) (by lia) ha (.inr hc)
    | false =>
      refine go_asc O A P f (n + 1) (by lia) (by lia) (asc_more O P h1 (by lia) ha ?_) fun m hm => h m (by lia)
      exact O.total (P.lt _ (by lia)) (P.lt _ (by lia)) (fun e => by have := P.inj _ _ (by lia) (by lia) e; lia) hc
theorem go_desc (O : LO N lt) (A : Answers N lt cmp s) {p : Array Nat} (P : Full N p) : ∀ (f n : Nat) {Q : Array Nat × Nat × Nat → Shared → Prop}, 1 ≤ n → n + f = N → Dsc lt p n →
    (∀ m, n ≤ m → m ≤ N → Dsc lt p m → Q (p, m, 0) s) → (kas_desc f p n 0).kasWp cmp Q s
  | 0, n, Q, h1, hn, ha, h => h n (Nat.le_refl _) (by lia) ha
  | f + 1, n, Q, h1, hn, ha, h => by
    show cmp (p.getD n 0) (p.getD (n - 1) 0) _ s
    have hne : p.getD n 0 ≠ p.getD (n - 1) 0 := fun e => by have := P.inj _ _ (by lia) (by lia) e; lia
    refine A _ _ _ (P.lt _ (by lia)) (P.lt _ (by lia)) hne ?_
    cases hc : lt (p.getD n 0) (p.getD (n - 1) 0) with
    | true => exact go_desc O A P f (n + 1) (by lia) (by lia) (dsc_more O P h1 (by lia) ha hc) fun m hm => h m (by lia)
    | false =>
      show cmp (p.getD (n - 1) 0) (p.getD n 0) _ s
      refine A _ _ _ (P.lt _ (by lia)) (P.lt _ (by lia)) (Ne.symm hne) ?_
      rw [O.total (P.lt _ (by lia)) (P.lt _ (by lia)) hne hc]
      exact h n (Nat.le_refl _) (by lia) ha
theorem getD_eq {p : Array Nat} {i : Nat} : p.getD i 0 = (p[i]?).getD 0 := by simp [Array.getD_eq_getD_getElem?]
theorem rev_get {p : Array Nat} {n : Nat} (hn : n ≤ p.size) (k : Nat) : (kas_rev p 0 n).getD k 0 = if k < n then p.getD (n - 1 - k) 0 else p.getD k 0 := by
  rw [getD_eq, kas_rev, getElem?_mirror_all hn]
  by_cases h : k < n
  · rw [if_pos ⟨by lia, h⟩, if_pos h, getD_eq]; congr 2; lia
  · rw [if_neg (by lia), if_neg h, getD_eq]
theorem rev_full {p : Array Nat} (P : Full N p) {n : Nat} (hn : n ≤ N) : Full N (kas_rev p 0 n) where
  sz := by rw [kas_rev_size]; exact P.sz
  lt := fun i hi => by
    rw [rev_get (by rw [P.sz]; exact hn)]; split
    · exact P.lt _ (by lia)
    · exact P.lt _ hi
  inj := fun i j hi hj e => by
    rw [rev_get (by rw [P.sz]; exact hn), rev_get (by rw [P.sz]; exact hn)] at e
    split at e <;> split at e
    all_goals (have := P.inj _ _ (by lia) (by lia) e; lia)
theorem rev_asc {p : Array Nat} (P : Full N p) {n : Nat} (hn : n ≤ N) (h : Dsc lt p n) : Asc lt (kas_rev p 0 n) n := by
  intro i j hij hj
  rw [rev_get (by rw [P.sz]; exact hn), rev_get (by rw [P.sz]; exact hn), if_pos (by lia), if_pos hj]
  exact h _ _ (by lia) (by lia)
theorem go_tail3 (O : LO N lt) (A : Answers N lt cmp s) {p : Array Nat} (P : Full N p) {n : Nat} {Q : Nat × Array Nat → Shared → Prop} (h1 : 1 ≤ n) (hn : n ≤ N) (hd : Dsc lt p n)
    (h : ∀ m q, 1 ≤ m → m ≤ N → Full N q → q.Perm p → Asc lt q m → Q (m, q) s) : (kas_tail3 n N p).kasWp cmp Q s := by
  unfold kas_tail3
  rw [KasT.kasWp_bind]
  refine go_asc O A (rev_full P hn) (N - n) n h1 (by lia) (rev_asc P hn hd) fun m hm hmN ha _ => ?_
  exact h m _ (by lia) hmN (rev_full P hn) (mirror_perm _ _ _ _) ha
theorem go_count (O : LO N lt) (A : Answers N lt cmp s) {p : Array Nat} (P : Full N p) (hN : 2 ≤ N) {Q : Nat × Array Nat → Shared → Prop}
    (h : ∀ m q, 1 ≤ m → m ≤ N → Full N q → q.Perm p → Asc lt q m → Q (m, q) s) : (kas_count N p).kasWp cmp Q s := by
  unfold kas_count
  rw [KasT.kasWp_bind]
  refine go_asc O A P (N - 1) 1 (Nat.le_refl _) (by lia) (fun i j h1 h2 => by lia) fun m hm hmN ha hstop => ?_
  by_cases e : m = N
  · rw [if_pos (by simp [e])]
    exact h m p hm hmN P (Array.Perm.refl _) ha
  · rw [if_neg (by simp [e])]
    rcases hstop with hstop | hstop
    · exact absurd hstop e
    by_cases e1 : m > 1
    · rw [if_pos e1]
      show cmp (p.getD 0 0) (p.getD (m - 1) 0) _ s
      refine A _ _ _ (P.lt _ (by lia)) (P.lt _ (by lia)) (fun e => by have := P.inj _ _ (by lia) (by lia) e; lia) ?_
      rw [ha 0 (m - 1) (by lia) (by lia)]
      exact h m p hm hmN P (Array.Perm.refl _) ha
    · rw [if_neg e1]
      obtain rfl : m = 1 := by lia
      unfold kas_descPart
      rw [KasT.kasWp_bind]
      refine go_desc O A P (N - (1 + 1)) (1 + 1) (by lia) (by lia) ?_ fun m' hm' hmN' hd => ?_
      · intro i j h1 h2
        obtain rfl : i = 0 := by lia
        obtain rfl : j = 1 := by lia
        exact hstop
      · dsimp only
        rw [if_neg (by lia)]
        exact go_tail3 O A P (by lia) hmN' hd h
theorem go_place (O : LO N lt) (A : Answers N lt cmp s) {p : Array Nat} (P : Full N p) {k : Nat} (hk : k < N) (ha : Asc lt p k) : ∀ (f l r : Nat) {Q : Nat → Shared → Prop}, l ≤ r → r ≤ k → r - l ≤ f →
    (∀ i, i < l → lt (p.getD i 0) (p.getD k 0) = true) → (∀ i, r ≤ i → i < k → lt (p.getD k 0) (p.getD i 0) = true) →
    (∀ m, m ≤ k → (∀ i, i < m → lt (p.getD i 0) (p.getD k 0) = true) → (∀ i, m ≤ i → i < k → lt (p.getD k 0) (p.getD i 0) = true) → Q m s) → (kas_place p k f l r).kasWp cmp Q s
  | 0, l, r, Q, hlr, hrk, hf, h1, h2, h => h l (by lia) h1 fun i hi => h2 i (by lia)
  | f + 1, l, r, Q, hlr, hrk, hf, h1, h2, h => by
    unfold kas_place
    by_cases e : l ≥ r
    · rw [if_pos e]; exact h l (by lia) h1 fun i hi => h2 i (by lia)
    · rw [if_neg e]
      show cmp (p.getD k 0) (p.getD ((l + r) / 2) 0) _ s
      have hne : p.getD k 0 ≠ p.getD ((l + r) / 2) 0 := fun e => by have := P.inj _ _ hk (by lia) e; lia
      refine A _ _ _ (P.lt _ hk) (P.lt _ (by lia)) hne ?_
      cases hc : lt (p.getD k 0) (p.getD ((l + r) / 2) 0) with
      | true =>
        refine go_place O A P hk ha f l ((l + r) / 2) (by lia) (by lia) (by lia) h1 (fun i hi hik => ?_) h
        by_cases e2 : i = (l + r) / 2
        · rw [e2]; exact hc
        · exact O.trans (P.lt _ hk) (P.lt _ (by lia)) (P.lt _ (by lia)) hc (ha _ i (by lia) hik)
      | false =>
        have hc' := O.total (P.lt _ hk) (P.lt _ (by lia)) hne hc
        refine go_place O A P hk ha f ((l + r) / 2 + 1) r (by lia) (by lia) (by lia) (fun i hi => ?_) h2 h
        by_cases e2 : i = (l + r) / 2
        · rw [e2]; exact hc'
        · exact O.trans (P.lt _ (by lia)) (P.lt _ (by lia)) (P.lt _ hk) (ha i _ (by lia) (by lia)) hc'
theorem bub_get {p : Array Nat} {k l : Nat} (hk : k < p.size) (hl : l ≤ k) (i : Nat) : (i = l ∧ (bubble p k (k - l)).getD i 0 = p.getD k 0) ∨ (l < i ∧ i ≤ k ∧ (bubble p k (k - l)).getD i 0 = p.getD (i - 1) 0) ∨ ((i < l ∨ k < i) ∧ (bubble p k (k - l)).getD i 0 = p.getD i 0) := by
  rw [getD_eq (p := bubble p k (k - l)), getElem?_bubble hk _ (by lia), show k - (k - l) = l by lia]
  by_cases h1 : i = l
  · rw [if_pos h1]; exact .inl ⟨h1, getD_eq.symm⟩
  · rw [if_neg h1]
    by_cases h2 : l < i ∧ i ≤ k
    · rw [if_pos h2]; exact .inr (.inl ⟨h2.1, h2.2, getD_eq.symm⟩)
    · rw [if_neg h2]; exact .inr (.inr ⟨by lia, getD_eq.symm⟩)
theorem bub_full {p : Array Nat} (P : Full N p) {k l : Nat} (hk : k < N) (hl : l ≤ k) : Full N (bubble p k (k - l)) where
  sz := by rw [bubble_size]; exact P.sz
  lt := fun i hi => by
    rcases bub_get (p := p) (by rw [P.sz]; exact hk) hl i with ⟨_, e⟩ | ⟨_, _, e⟩ | ⟨_, e⟩ <;> rw [e]
    · exact P.lt _ hk
    · exact P.lt _ (by lia)
    · exact P.lt _ hi
  inj := fun i j hi hj e => by
    rcases bub_get (p := p) (by rw [P.sz]; exact hk) hl i with ⟨_, e1⟩ | ⟨_, _, e1⟩ | ⟨_, e1⟩ <;> rcases bub_get (p := p) (by rw [P.sz]; exact hk) hl j with ⟨_, e2⟩ | ⟨_, _, e2⟩ | ⟨_, e2⟩ <;> rw [e1, e2] at e
    all_goals (have := P.inj _ _ (by lia) (by lia) e; lia)
theorem go_bin (O : LO N lt) (A : Answers N lt cmp s) : ∀ (f : Nat) (p : Array Nat) (k : Nat) {Q : Array Nat → Shared → Prop}, Full N p → k + f = N → Asc lt p k →
    (∀ q, Full N q → q.Perm p → Asc lt q N → Q q s) → (kas_bin f p k).kasWp cmp Q s
  | 0, p, k, Q, P, hk, ha, h => h p P (Array.Perm.refl _) (by rw [show N = k by lia]; exact ha)
  | f + 1, p, k, Q, P, hk, ha, h => by
    unfold kas_bin
    rw [KasT.kasWp_bind]
    refine go_place O A P (by lia) ha k 0 k (by lia) (Nat.le_refl _) (by lia) (fun i hi => by lia) (fun i h1 h2 => by lia) fun m hm h1 h2 => ?_
    refine go_bin O A f _ (k + 1) (bub_full P (by lia) hm) (by lia) ?_ fun q Fq hq aq => h q Fq (hq.trans (bubble_perm _ _ _)) aq
    intro i j hij hj
    have hks : k < p.size := by rw [P.sz]; lia
    rcases bub_get hks hm i with ⟨_, e1⟩ | ⟨_, _, e1⟩ | ⟨_, e1⟩ <;> rcases bub_get hks hm j with ⟨_, e2⟩ | ⟨_, _, e2⟩ | ⟨_, e2⟩ <;> rw [e1, e2]
    · lia
    · exact h2 _ (by lia) (by lia)
    · lia
    · lia
    · exact ha _ _ (by lia) (by lia)
    · lia
    · exact h1 _ (by lia)
    · exact ha _ _ (by lia) (by lia)
    · exact ha _ _ (by lia) (by lia)
theorem go_sort (O : LO N lt) (A : Answers N lt cmp s) (hN : 2 ≤ N) {Q : Array Nat → Shared → Prop}
    (h : ∀ q, q.size = N → q.Perm (List.range N).toArray → Asc lt q N → Q q s) : (kas_sort N).kasWp cmp Q s := by
  have P : Full N (List.range N).toArray := ⟨by simp, fun i hi => by simp [getD_eq, hi], fun i j hi hj e => by simpa [getD_eq, hi, hj] using e⟩
  unfold kas_sort
  rw [KasT.kasWp_bind]
  refine go_count O A P hN fun m q h1 hm Pq hq ha => ?_
  dsimp only
  by_cases e : m < N
  · rw [if_pos e, show max m 1 = m by lia]
    exact go_bin O A _ q m Pq (by lia) ha fun r Pr hr ar => h r Pr.sz (hr.trans hq) ar
  · rw [if_neg e]
    exact h q Pq.sz hq (by rw [show N = m by lia]; exact ha)
end
end Mine
end
section
open PySem PySem.W PySem.Spec PySem.Calls PyProof.Rows
set_option Elab.async false
set_option maxRecDepth 100000
set_option maxHeartbeats 4000000
set_option linter.unusedVariables false
namespace Mine
abbrev Tri := Int × Str × Int
inductive TriIn (X : List (Addr × Obj)) : List Value → List Tri → Prop
  | nil : TriIn X [] []
  | cons {a n t u v vs ps} {p : Tri} : (a, tupObj [.int p.1 t, .str p.2.1 u, .int p.2.2 v] n) ∈ X → TriIn X vs ps → TriIn X (.ref a :: vs) (p :: ps)
theorem TriIn.snoc {X : List (Addr × Obj)} {a n t u v vs ps} {p : Tri} (hm : (a, tupObj [.int p.1 t, .str p.2.1 u, .int p.2.2 v] n) ∈ X) (h : TriIn X vs ps) : TriIn X (vs ++ [.ref a]) (ps ++ [p]) := by
  induction h with
  | nil => exact .cons hm .nil
  | cons hm' _ ih => exact .cons hm' ih
theorem TriIn.mono {X Y : List (Addr × Obj)} {vs ps} (h : TriIn X vs ps) (hXY : ∀ q ∈ X, q ∈ Y) : TriIn Y vs ps := by
  induction h with
  | nil => exact .nil
  | cons hm _ ih => exact .cons (hXY _ hm) ih
theorem TriIn.length {X : List (Addr × Obj)} {vs ps} (h : TriIn X vs ps) : vs.length = ps.length := by
  induction h with
  | nil => rfl
  | cons _ _ ih => simp [ih]
theorem TriIn.get {X : List (Addr × Obj)} {vs ps} (h : TriIn X vs ps) : ∀ (i : Nat) (v : Value), vs[i]? = some v → ∃ (p : Tri) (a : Addr) (n : Nat) (t u w : Tok), ps[i]? = some p ∧ v = .ref a ∧ (a, tupObj [.int p.1 t, .str p.2.1 u, .int p.2.2 w] n) ∈ X := by
  induction h with
  | nil => intro i v hv; simp at hv
  | @cons a n t u v vs ps p hm _ ih =>
    intro i x hx
    cases i with
    | zero => exact ⟨p, a, n, t, u, v, rfl, (Option.some.inj hx).symm, hm⟩
    | succ i => exact ih i x hx
theorem TriIn.pick {X : List (Addr × Obj)} {vs ps} (h : TriIn X vs ps) (d : Tri) : ∀ (q : List Nat), (∀ i ∈ q, i < ps.length) → TriIn X (q.map fun i => vs.getD i Value.none) (q.map fun i => ps.getD i d)
  | [], _ => .nil
  | i :: q, hq => by
    have hi : i < ps.length := hq i (.head _)
    have hv : i < vs.length := by rw [h.length]; exact hi
    obtain ⟨p, a, n, t, u, w, hp, e, hm⟩ := h.get i _ (List.getElem?_eq_getElem hv)
    have e1 : vs.getD i Value.none = .ref a := by rw [List.getD_eq_getElem?_getD, List.getElem?_eq_getElem hv]; exact e
    have e2 : ps.getD i d = p := by rw [List.getD_eq_getElem?_getD, hp]; rfl
    show TriIn X (vs.getD i Value.none :: _) (ps.getD i d :: _)
    rw [e1, e2]
    exact .cons hm (h.pick d q fun j hj => hq j (.tail _ hj))
def sLt (a b : Str) : Bool := decide (a.cps.toList < b.cps.toList)
def lt3 (p q : Tri) : Bool := if p.1 = q.1 then (if p.2.1 = q.2.1 then decide (p.2.2 < q.2.2) else sLt p.2.1 q.2.1) else decide (p.1 < q.1)
theorem sLt_irrefl (a : Str) : sLt a a = false := decide_eq_false (List.lt_irrefl _)
theorem sLt_asymm {a b : Str} (h : sLt a b = true) : sLt b a = false := decide_eq_false (List.lt_asymm (of_decide_eq_true h))
theorem sLt_trans {a b c : Str} (h : sLt a b = true) (k : sLt b c = true) : sLt a c = true := decide_eq_true (List.lt_trans (of_decide_eq_true h) (of_decide_eq_true k))
theorem Str.ext' {a b : Str} (h : a.cps.toList = b.cps.toList) : a = b := by
  cases a; cases b; simp only [Str.mk.injEq]; exact Array.toList_inj.mp h
theorem sLt_total {a b : Str} (hne : a ≠ b) (h : sLt a b = false) : sLt b a = true := by
  cases k : sLt b a with
  | true => rfl
  | false => exact absurd (Str.ext' (List.le_antisymm (show a.cps.toList ≤ b.cps.toList from List.not_lt.mp (of_decide_eq_false k)) (List.not_lt.mp (of_decide_eq_false h)))) hne
theorem lt3_asymm {p q : Tri} (h : lt3 p q = true) : lt3 q p = false := by
  unfold lt3 at h ⊢
  by_cases h1 : p.1 = q.1
  · rw [if_pos h1] at h; rw [if_pos h1.symm]
    by_cases h2 : p.2.1 = q.2.1
    · rw [if_pos h2] at h; rw [if_pos h2.symm]
      have := of_decide_eq_true h
      exact decide_eq_false (by lia)
    · rw [if_neg h2] at h; rw [if_neg (Ne.symm h2)]; exact sLt_asymm h
  · rw [if_neg h1] at h; rw [if_neg (Ne.symm h1)]
    have := of_decide_eq_true h
    exact decide_eq_false (by lia)
theorem lt3_trans {p q r : Tri} (h : lt3 p q = true) (k : lt3 q r = true) : lt3 p r = true := by
  unfold lt3 at h k ⊢
  by_cases h1 : p.1 = q.1
  · rw [if_pos h1] at h
    by_cases k1 : q.1 = r.1
    · rw [if_pos k1] at k; rw [if_pos (h1.trans k1)]
      by_cases h2 : p.2.1 = q.2.1
      · rw [if_pos h2] at h
        by_cases k2 : q.2.1 = r.2.1
        · rw [if_pos k2] at k; rw [if_pos (h2.trans k2)]
          have := of_decide_eq_true h; have := of_decide_eq_true k
          exact decide_eq_true (by lia)
        · rw [if_neg k2] at k; rw [if_neg (by rw [h2]; exact k2), h2]; exact k
      · rw [if_neg h2] at h
        by_cases k2 : q.2.1 = r.2.1
        · rw [if_neg (by rw [← k2]; exact h2), ← k2]; exact h
        · rw [if_neg k2] at k
          have z := sLt_trans h k
          rw [if_neg (fun e => by rw [e, sLt_irrefl] at z; cases z)]; exact z
    · rw [if_neg k1] at k; rw [if_neg (by rw [h1]; exact k1), h1]; exact k
  · rw [if_neg h1] at h
    by_cases k1 : q.1 = r.1
    · rw [if_neg (by rw [← k1]; exact h1), ← k1]; exact h
    · rw [if_neg k1] at k
      have := of_decide_eq_true h; have := of_decide_eq_true k
      rw [if_neg (by lia)]; exact decide_eq_true (by lia)
theorem lt3_total {p q : Tri} (hne : p ≠ q) (h : lt3 p q = false) : lt3 q p = true := by
  unfold lt3 at h ⊢
  by_cases h1 : p.1 = q.1
  · rw [if_pos h1] at h; rw [if_pos h1.symm]
    by_cases h2 : p.2.1 = q.2.1
    · rw [if_pos h2] at h; rw [if_pos h2.symm]
      have := of_decide_eq_false h
      refine decide_eq_true ?_
      have h3 : p.2.2 ≠ q.2.2 := fun e => hne (Prod.ext h1 (Prod.ext h2 e))
      lia
    · rw [if_neg h2] at h; rw [if_neg (Ne.symm h2)]; exact sLt_total h2 h
  · rw [if_neg h1] at h; rw [if_neg (Ne.symm h1)]
    have := of_decide_eq_false h
    exact decide_eq_true (by lia)
section
variable {prog : Program} {w : World} {A : Around} {E : Value → Shared → Prop} {s : Shared}
theorem tri_key {x y : Addr} {p q : Tri} {t u v t' u' v' : Tok} {n k : Nat} {Q : Bool → Shared → Prop} (hx : s.heap.get? x = some (tupObj [.int p.1 t, .str p.2.1 u, .int p.2.2 v] n)) (hy : s.heap.get? y = some (tupObj [.int q.1 t', .str q.2.1 u', .int q.2.2 v'] k))
    (h : Q (lt3 p q) s) : wpAny (model prog w) A (keyLt' (tuples' true) (.ref x) (.ref y)) Q E s := by
  refine kat_lt hx rfl hy rfl ?_
  show KatLex prog w A true false Q [(.int p.1 t, .int q.1 t'), (.str p.2.1 u, .str q.2.1 u'), (.int p.2.2 v, .int q.2.2 v')] 0 s
  unfold lt3 at h
  refine kat_cons (wpAny_eqBool_int ?_)
  by_cases h1 : p.1 = q.1
  · rw [if_pos h1] at h
    rw [beq_iff_eq.mpr h1]
    refine kat_yes (kat_cons (wpAny_eqBool_str ?_))
    by_cases h2 : p.2.1 = q.2.1
    · rw [if_pos h2] at h
      rw [decide_eq_true h2]
      refine kat_yes (kat_cons (wpAny_eqBool_int ?_))
      by_cases h3 : p.2.2 = q.2.2
      · rw [beq_iff_eq.mpr h3]
        rw [decide_eq_false (by lia)] at h
        exact kat_yes (kat_nil h)
      · rw [beq_eq_false_iff_ne.mpr h3]
        exact kat_no (kat_one _ _ (PyProof.Rows.lt_int h))
    · rw [if_neg h2] at h
      rw [decide_eq_false h2]
      exact kat_no (kat_one _ _ (PyProof.Rows.lt_str h))
  · rw [if_neg h1] at h
    rw [beq_eq_false_iff_ne.mpr h1]
    exact kat_no (oneLt_int h)
theorem TriIn.tups {g : Heap} {h₀ : Heap} {L : Addr} {X : List (Addr × Obj)} {vs ps} (h : TriIn X vs ps) (N : News h₀ L g X) : ∃ fs, KatTups g vs fs ∧ fs.length = ps.length ∧ ∀ v ∈ fs, ∃ i t, v = Value.int i t := by
  induction h with
  | nil => exact ⟨[], KatTups.nil, rfl, fun _ h => nomatch h⟩
  | @cons a n t u v vs ps p hm _ ih =>
    obtain ⟨fs, k, l, hv⟩ := ih
    refine ⟨.int p.1 t :: fs, KatTups.cons (N _ hm).1 rfl rfl rfl k, by simp [l], fun x hx => ?_⟩
    rcases List.mem_cons.mp hx with e | hx
    · exact ⟨_, _, e⟩
    · exact hv x hx
theorem sorted_tris {h₀ : Heap} {L : Addr} {m : Str → Option Value} {news : List (Addr × Obj)} {l : Addr} {vs : List Value} {ps : List Tri} {n : Nat} {Q : Value → Shared → Prop} (F : Fr h₀ L s.heap m) (N : News h₀ L s.heap news) (hl : (l, listOf vs.toArray n) ∈ news)
    (hT : TriIn news vs ps) (h2 : 2 ≤ ps.length) (h64 : ps.length < 64) (hnd : ∀ i j, i < ps.length → j < ps.length → i ≠ j → ps.getD i default ≠ ps.getD j default)
    (h : ∀ (D : Addr) (q : List Nat) (c : Nat) (h' : Heap), Fr h₀ L h' m → News h₀ L h' ((D, listOf (q.map fun i => vs.getD i Value.none).toArray c) :: news) → (∀ p ∈ news, p.1 < D) → q.Perm (List.range ps.length) →
      q.Pairwise (fun i j => lt3 (ps.getD i default) (ps.getD j default) = true) → Q (.ref D) { s with heap := h' }) :
    wpAny (model prog w) A (call (.builtin "sorted") [.ref l]) Q E s := by
  have hvl := hT.length
  refine kat_sorted (vs := vs) F N ⟨_, (N _ hl).1, rfl, _, rfl⟩ (by lia) (by lia) ?_
  intro D e1 h' F' N' lD
  have N2 : News h₀ L h' news := fun p hp => N' p (.tail _ hp)
  obtain ⟨fs, k1, k2, k3⟩ := hT.tups N2
  refine kat_kind (s := { s with heap := h' }) (T := .type "int") k1 (by lia) (fun v hv => ?_) rfl ?_
  · obtain ⟨i, t, rfl⟩ := k3 v hv
    exact Looks.of_pure rfl
  rw [show ((Value.type "int") != Value.type "tuple") = true from rfl, hvl]
  have O : LO ps.length (fun i j => lt3 (ps.getD i default) (ps.getD j default)) :=
    ⟨fun _ _ h => lt3_asymm h, fun _ _ _ h k => lt3_trans h k, fun hi hj hne h => lt3_total (hnd _ _ hi hj hne) h⟩
  refine go_sort O ?_ h2 ?_
  · intro i j C hi hj _ hC
    obtain ⟨p, a, n, t, u, w', hp, e, hm⟩ := hT.get i _ (List.getElem?_eq_getElem (by lia))
    obtain ⟨p2, a2, n2, t2, u2, w2, hp2, e2, hm2⟩ := hT.get j _ (List.getElem?_eq_getElem (by lia))
    unfold kas_ask
    have f1 : vs.getD i Value.none = .ref a := by rw [List.getD_eq_getElem?_getD, List.getElem?_eq_getElem (by lia)]; exact e
    have f2 : vs.getD j Value.none = .ref a2 := by rw [List.getD_eq_getElem?_getD, List.getElem?_eq_getElem (by lia)]; exact e2
    have g1 : ps.getD i default = p := by rw [List.getD_eq_getElem?_getD, hp]; rfl
    have g2 : ps.getD j default = p2 := by rw [List.getD_eq_getElem?_getD, hp2]; rfl
    rw [f1, f2]
    dsimp only at hC
    rw [g1, g2] at hC
    exact tri_key (s := { s with heap := h' }) (N2 _ hm).1 (N2 _ hm2).1 hC
  · intro q hq hp ha
    refine KasFin.intro F' N' (.head fun p hp => Nat.ne_of_lt (lD p hp)) ?_
    intro h'' c F'' N''
    refine h D q.toList c h'' F'' N'' lD (Array.perm_iff_toList_perm.mp hp) ?_
    rw [List.pairwise_iff_getElem]
    intro i j hi hj hij
    have := ha i j hij (by rw [← hq]; simpa using hj)
    simp only [getD_eq] at this
    have hi' : i < q.size := by simpa using hi
    have hj' : j < q.size := by simpa using hj
    rw [getElem?_pos q i hi', getElem?_pos q j hj'] at this
    simpa using this
end
end Mine
end
section
open PySem PySem.W PySem.Spec PySem.Calls PyProof.Rows
set_option Elab.async false
set_option maxRecDepth 100000
set_option maxHeartbeats 4000000
set_option linter.unusedVariables false
namespace Mine
theorem kn1 (L : Nat) : L + 1 + 1 + 1 + 1 + 1 ≠ L + 1 + 1 + 1 + 1 ∧ L + 1 + 1 + 1 ≠ L + 1 + 1 + 1 + 1 ∧ L + 1 + 1 ≠ L + 1 + 1 + 1 + 1 ∧ L + 1 ≠ L + 1 + 1 + 1 + 1 := by lia
theorem kn2 (L : Nat) : L + 1 + 1 + 1 + 1 ≠ L + 1 + 1 + 1 + 1 + 1 ∧ L + 1 + 1 + 1 ≠ L + 1 + 1 + 1 + 1 + 1 ∧ L + 1 + 1 ≠ L + 1 + 1 + 1 + 1 + 1 ∧ L + 1 ≠ L + 1 + 1 + 1 + 1 + 1 := by lia
theorem kn3 {L q : Nat} (h : q < L) : q ≠ L + 1 + 1 + 1 + 1 ∧ q ≠ L + 1 + 1 + 1 + 1 + 1 := by lia
theorem kn4 {L l : Nat} (h : L + 1 + 1 + 1 + 1 + 1 < l) : l ≠ L + 1 + 1 + 1 + 1 ∧ l ≠ L + 1 + 1 + 1 + 1 + 1 := by lia
theorem kn_lacks {L ll : Addr} {o1 o2 o3 o4 o5 : Obj} {news : List (Addr × Obj)} (l1 : ∀ p ∈ news, p.1 < L) (h : L + 1 + 1 + 1 + 1 + 1 < ll) :
    ∀ q ∈ (ll, o1) :: (L + 1 + 1 + 1 + 1 + 1, o2) :: (L + 1 + 1 + 1, o3) :: (L + 1 + 1, o4) :: (L + 1, o5) :: news, q.1 ≠ L + 1 + 1 + 1 + 1 := fun q hq => by
  have z := kn1 L
  simp only [List.mem_cons] at hq
  rcases hq with rfl | rfl | rfl | rfl | rfl | hq
  · exact (kn4 h).1
  · exact z.1
  · exact z.2.1
  · exact z.2.2.1
  · exact z.2.2.2
  · exact (kn3 (l1 q hq)).1
theorem kn5 {L l : Nat} (h : L + 1 + 1 + 1 + 1 + 1 < l) : L + 1 + 1 + 1 + 1 ≠ l ∧ L + 1 + 1 + 1 + 1 + 1 ≠ l ∧ L + 1 + 1 + 1 ≠ l ∧ L + 1 + 1 ≠ l ∧ L + 1 ≠ l := by lia
theorem kn6 {L l q : Nat} (h : L + 1 + 1 + 1 + 1 + 1 < l) (k : q < L) : q ≠ l := by lia
theorem kn_list {L ll : Addr} {o2 o3 o4 o5 o6 : Obj} {news : List (Addr × Obj)} (l1 : ∀ p ∈ news, p.1 < L) (h : L + 1 + 1 + 1 + 1 + 1 < ll) :
    ∀ q ∈ (L + 1 + 1 + 1 + 1, o6) :: (L + 1 + 1 + 1 + 1 + 1, o2) :: (L + 1 + 1 + 1, o3) :: (L + 1 + 1, o4) :: (L + 1, o5) :: news, q.1 ≠ ll := fun q hq => by
  have z := kn5 h
  simp only [List.mem_cons] at hq
  rcases hq with rfl | rfl | rfl | rfl | rfl | hq
  · exact z.1
  · exact z.2.1
  · exact z.2.2.1
  · exact z.2.2.2.1
  · exact z.2.2.2.2
  · exact kn6 h (l1 q hq)
theorem mvK {a b c d e f i j k x : Addr × Obj} {R : List (Addr × Obj)} : ∀ p ∈ i :: j :: k :: a :: b :: c :: d :: e :: f :: x :: R, p ∈ x :: i :: j :: k :: a :: b :: c :: d :: e :: f :: R :=
  sc (.tail _ (.head _)) (sc (.tail _ (.tail _ (.head _))) (sc (.tail _ (.tail _ (.tail _ (.head _)))) (sc (.tail _ (.tail _ (.tail _ (.tail _ (.head _))))) (sc (.tail _ (.tail _ (.tail _ (.tail _ (.tail _ (.head _)))))) (sc (.tail _ (.tail _ (.tail _ (.tail _ (.tail _ (.tail _ (.head _))))))) (sc (.tail _ (.tail _ (.tail _ (.tail _ (.tail _ (.tail _ (.tail _ (.head _)))))))) (sc (.tail _ (.tail _ (.tail _ (.tail _ (.tail _ (.tail _ (.tail _ (.tail _ (.head _))))))))) (sc (.tail _ (.tail _ (.tail _ (.tail _ (.tail _ (.tail _ (.tail _ (.tail _ (.tail _ (.head _)))))))))) (sc (.head _) (fun _ h => .tail _ (.tail _ (.tail _ (.tail _ (.tail _ (.tail _ (.tail _ (.tail _ (.tail _ (.tail _ h)))))))))))))))))))
theorem off3_add6 {I C D x : Addr} {o : Obj} {a b c d e f : Addr × Obj} {Y : List (Addr × Obj)} (h : LCg.Off3 I C D (a :: b :: c :: d :: e :: f :: Y)) (h1 : I < x) (h2 : C < x) (h3 : D < x) : LCg.Off3 I C D (a :: b :: c :: d :: e :: f :: (x, o) :: Y) :=
  ⟨h.1, h.2.1, h.2.2.1, h.2.2.2.1, h.2.2.2.2.1, h.2.2.2.2.2.1, ⟨Nat.ne_of_gt h1, Nat.ne_of_gt h2, Nat.ne_of_gt h3⟩, h.2.2.2.2.2.2⟩
def lacksUp (ns ov : List Int) : Nat → List Int
  | 0 => [0]
  | k + 1 => lacksUp ns ov k ++ [Builtin.bitOr ((lacksUp ns ov k).getD (ov.getD k 0).toNat 0) (ownLack (ns.getD k 0))]
theorem lacksUp_length (ns ov : List Int) : ∀ i, (lacksUp ns ov i).length = i + 1
  | 0 => rfl
  | i + 1 => by unfold lacksUp; rw [List.length_append, lacksUp_length ns ov i]; rfl
def triAt (ns ov : List Int) (ts : List Str) (p : Nat) : Tri := ((lacksUp ns ov 7).getD p 0, ts.getD p Str.empty, (p : Int))
theorem tri_range (ns ov : List Int) (ts : List Str) (i : Nat) (h : i < 8) : ((List.range 8).map (triAt ns ov ts)).getD i default = triAt ns ov ts i := by
  rw [List.getD_eq_getElem?_getD, List.getElem?_map, List.getElem?_range h]; rfl
theorem tri_apart (ns ov : List Int) (ts : List Str) (i j : Nat) (hi : i < 8) (hj : j < 8) (h : i ≠ j) : ((List.range 8).map (triAt ns ov ts)).getD i default ≠ ((List.range 8).map (triAt ns ov ts)).getD j default := by
  rw [tri_range _ _ _ _ hi, tri_range _ _ _ _ hj]
  intro e
  have := congrArg (fun t : Tri => t.2.2) e
  simp only [triAt] at this
  lia
section
variable {prog : Program} {w : World} {A : Around} {s : Shared} {h₀ : Heap} {L : Addr} {m : Str → Option Value} {env : Env} {ct elt : PySem.Expr} {x : Str} {scope : Scope} {cl : List (Str × Addr)} {S : List (Addr × Obj) → Prop} {P : Nat → Value → Prop} {Fin : List Value → List (Addr × Obj) → Prop} {n : Nat}
theorem comp_invT (J : Nat → List Value → List (Addr × Obj) → Prop)
    (turn : ∀ i ys news v I oI C oC D m₂ h tk (E' : Value → Shared → Prop), i < n → J i ys news → P i v → LCg.NsObj oC m₂ → m₂ x = some v → Fr h₀ L h m → News h₀ L h ((I, oI) :: (C, oC) :: (D, LCg.lst ys) :: news) → LCg.Off3 I C D news → ((@Ne Nat I C) ∧ (@Ne Nat I D) ∧ (@Ne Nat C D)) →
      wpAny (model prog w) A (isTrue ct (compEnvC scope cl C env) (eval ct (compEnvC scope cl C env))) (fun ok s' => if ok = true then
        wpAny (model prog w) A (eval elt (compEnvC scope cl C env)) (LCg.CompEnd h₀ L m { s with heap := h, toks := tk } I oI C oC D (LCg.lst ys) S (fun y news' => J (i + 1) (ys ++ [y]) news')) E' s'
        else LCg.CompEnd h₀ L m { s with heap := h, toks := tk } I oI C oC D (LCg.lst ys) S (fun _ news' => J (i + 1) ys news') Value.none s') E' { s with heap := h, toks := tk })
    (done : ∀ ys news, J n ys news → Fin ys news) :
    ∀ k i ys news, i + k = n → J i ys news → LCt.CompRestT prog w A h₀ L m env ct elt x scope cl s S P Fin k i ys news := by
  intro k
  induction k with
  | zero =>
    intro i ys news hik hJ
    obtain rfl : i = n := by lia
    exact done ys news hJ
  | succ k ih =>
    intro i ys news hik hJ
    refine LCt.CompRestT.succ ?_
    intro v I oI C oC D m₂ h tk E' hP hC hx F N off ne
    refine wpAny_mono (turn i ys news v I oI C oC D m₂ h tk E' (by lia) hJ hP hC hx F N off ne) (fun ok s₂ h₂ => ?_) fun _ _ e => e
    cases ok with
    | true =>
      simp only [if_true] at h₂ ⊢
      refine wpAny_mono h₂ (fun y s₂ h₂ => ?_) fun _ _ e => e
      obtain ⟨h', tk', news', e, F', N', off', hS', hJ'⟩ := h₂
      exact ⟨h', tk', news', e, F', N', off', hS', ih _ _ _ (by lia) hJ'⟩
    | false =>
      simp only [Bool.false_eq_true, if_false] at h₂ ⊢
      obtain ⟨h', tk', news', e, F', N', off', hS', hJ'⟩ := h₂
      exact ⟨h', tk', news', e, F', N', off', hS', ih _ _ _ (by lia) hJ'⟩
end
theorem pick_row (ns ov : List Int) (ts : List Str) (q : List Nat) (h : ∀ i ∈ q, i < 8) : (q.map fun i => ((List.range 8).map (triAt ns ov ts)).getD i default) = q.map (triAt ns ov ts) :=
  List.map_congr_left fun i hi => tri_range _ _ _ _ (h i hi)
def isFile (ov : List Int) (p : Nat) : Bool := !(ov.any fun z => z == (p : Int))
theorem filter_take_yes {α : Type} {f : α → Bool} {l : List α} {i : Nat} {z : α} (h : l[i]? = some z) (hf : f z = true) : (l.take (i + 1)).filter f = (l.take i).filter f ++ [z] := by
  rw [take_snoc_at h, List.filter_append]; simp [hf]
theorem filter_take_no {α : Type} {f : α → Bool} {l : List α} {i : Nat} {z : α} (h : l[i]? = some z) (hf : f z = false) : (l.take (i + 1)).filter f = (l.take i).filter f := by
  rw [take_snoc_at h, List.filter_append]; simp [hf]
theorem pick_upto (vs : List Value) (y : Int) (h : 0 ≤ y) : kms_pick vs none (some y) = vs.take y.toNat := by
  unfold kms_pick
  have e1 : kms_lo none vs.length = 0 := rfl
  have e2 : kms_hi (some y) vs.length = min y.toNat vs.length := by
    unfold kms_hi
    simp only []
    rw [if_neg (by lia)]
  rw [e1, e2, List.drop_zero, Nat.sub_zero]
  by_cases h1 : y.toNat ≤ vs.length
  · rw [Nat.min_eq_left h1]
  · rw [Nat.min_eq_right (by lia), List.take_length, List.take_of_length_le (by lia)]
theorem TriIn.take {X : List (Addr × Obj)} {vs ps} (h : TriIn X vs ps) : ∀ k : Nat, TriIn X (vs.take k) (ps.take k) := by
  induction h with
  | nil => intro k; rw [List.take_nil, List.take_nil]; exact .nil
  | cons hm _ ih =>
    intro k
    cases k with
    | zero => exact .nil
    | succ k => exact .cons hm (ih k)
theorem mvF {d20 d17 d12 d10 l c1 c2 c3 c4 c5 : Addr × Obj} {R : List (Addr × Obj)} : ∀ p ∈ c5 :: d20 :: d12 :: c2 :: c1 :: R, p ∈ d20 :: d17 :: d12 :: d10 :: l :: c4 :: c5 :: c3 :: c2 :: c1 :: R :=
  sc (.tail _ (.tail _ (.tail _ (.tail _ (.tail _ (.tail _ (.head _))))))) (sc (.head _) (sc (.tail _ (.tail _ (.head _))) (sc (.tail _ (.tail _ (.tail _ (.tail _ (.tail _ (.tail _ (.tail _ (.tail _ (.head _))))))))) (sc (.tail _ (.tail _ (.tail _ (.tail _ (.tail _ (.tail _ (.tail _ (.tail _ (.tail _ (.head _)))))))))) (fun _ h => .tail _ (.tail _ (.tail _ (.tail _ (.tail _ (.tail _ (.tail _ (.tail _ (.tail _ (.tail _ h))))))))))))))
theorem kn_files {L d20 d12 : Addr} {o1 o2 o3 o4 : Obj} {Y : List (Addr × Obj)} (h : ∀ q ∈ Y, q.1 ≠ L + 1 + 1 + 1 + 1 + 1) (h1 : L + 1 + 1 + 1 + 1 + 1 < d20) (h2 : L + 1 + 1 + 1 + 1 + 1 < d12) :
    ∀ q ∈ (d20, o1) :: (d12, o2) :: (L + 1 + 1, o3) :: (L + 1, o4) :: Y, q.1 ≠ L + 1 + 1 + 1 + 1 + 1 := fun q hq => by
  have z := kn2 L
  simp only [List.mem_cons] at hq
  rcases hq with rfl | rfl | rfl | rfl | hq
  · exact Nat.ne_of_gt h1
  · exact Nat.ne_of_gt h2
  · exact z.2.2.1
  · exact z.2.2.2
  · exact h q hq
end Mine
end
section
open PySem PySem.W PySem.Spec PySem.Calls PyProof.Rows
set_option Elab.async false
set_option maxRecDepth 100000
set_option maxHeartbeats 4000000
set_option linter.unusedVariables false
namespace Mine
/-- the loop rules with the turn's end held under one name R: the walk's terms stay small -/
theorem While_invH {prog : Program} {w : World} {A : Around} {E : Value → Shared → Prop} {Q : Flow → Shared → Prop} {s : Shared} {env : Env} {h₀ : Heap} {L : Addr} {test : PySem.Expr} {body : List Stmt} {pos : Pos} {m : Str → Option Value}
    {news : List (Addr × Obj)} (J : Nat → (Str → Option Value) → List (Addr × Obj) → Prop) {n₀ : Nat}
    (F : Fr h₀ L s.heap m) (N : News h₀ L s.heap news) (hJ : J n₀ m news)
    (turn : ∀ (R : Flow → Shared → Prop) (R' : Shared → Prop) n m₁ news₁ h₁ tk₁, (∀ f s₂, WhileStep2 h₀ L s J Q n f s₂ → R f s₂) → (∀ s₂, Q .next s₂ → R' s₂) → Fr h₀ L h₁ m₁ → News h₀ L h₁ news₁ → J n m₁ news₁ →
      wpAny (model prog w) A (isTrue test env (eval test env)) (fun b s₂ =>
        if b = true then wpAny (model prog w) A (execs body env) R E s₂ else R' s₂) E { s with heap := h₁, toks := tk₁ })
    (hE : PassesOwn (model prog w) A env E) :
    wpAny (model prog w) A (exec (.While test body [] pos) env) Q E s :=
  While_inv2 J F N hJ (fun n m₁ news₁ h₁ tk₁ F₁ N₁ J₁ => turn _ _ n m₁ news₁ h₁ tk₁ (fun _ _ h => h) (fun _ h => h) F₁ N₁ J₁) hE
theorem ForRest.invH {prog : Program} {w : World} {A : Around} {s : Shared} {h₀ : Heap} {env : Env} {target : PySem.Expr} {body orelse : List Stmt} {Q : Flow → Shared → Prop}
    {I : Addr} {S : List (Addr × Obj) → Prop} {P : Nat → Value → Prop} {n : Nat} (J : Nat → (Str → Option Value) → List (Addr × Obj) → Prop)
    (turn : ∀ (R : Flow → Shared → Prop) i m news v oI h tk, (∀ f s₂, ForPost h₀ env.locals s I oI S (fun m' news' => J (i + 1) m' news') Q f s₂ → R f s₂) → i < n → J i m news → P i v → Fr h₀ env.locals h m → News h₀ env.locals h ((I, oI) :: news) → (∀ p ∈ news, p.1 ≠ I) →
      wpAny (model prog w) A (assign target env v) (fun _ s₂ => wpAny (model prog w) A (execs body env) R (fun _ _ => False) s₂) (fun _ _ => False) { s with heap := h, toks := tk })
    (done : ∀ m news h tk, J n m news → Fr h₀ env.locals h m → News h₀ env.locals h news → wpAny (model prog w) A (execs orelse env) Q (fun _ _ => False) { s with heap := h, toks := tk }) :
    ∀ k i m news, i + k = n → J i m news → ForRest prog w A h₀ env target body orelse s I S P Q k i m news :=
  ForRest.inv J (fun i m news v oI h tk a b c d e f => turn _ i m news v oI h tk (fun _ _ h => h) a b c d e f) done
theorem comp_invH {prog : Program} {w : World} {A : Around} {s : Shared} {h₀ : Heap} {L : Addr} {m : Str → Option Value} {env : Env} {elt : PySem.Expr} {x : Str} {scope : Scope} {cl : List (Str × Addr)} {S : List (Addr × Obj) → Prop} {P : Nat → Value → Prop} {Fin : List Value → List (Addr × Obj) → Prop} {n : Nat}
    (J : Nat → List Value → List (Addr × Obj) → Prop)
    (turn : ∀ (R : Value → Shared → Prop) i ys news v I oI C oC D m₂ h tk (E' : Value → Shared → Prop), (∀ y s₂, LCg.CompEnd h₀ L m { s with heap := h, toks := tk } I oI C oC D (LCg.lst ys) S (fun y news' => J (i + 1) (ys ++ [y]) news') y s₂ → R y s₂) → i < n → J i ys news → P i v → LCg.NsObj oC m₂ → m₂ x = some v → Fr h₀ L h m → News h₀ L h ((I, oI) :: (C, oC) :: (D, LCg.lst ys) :: news) → LCg.Off3 I C D news → ((@Ne Nat I C) ∧ (@Ne Nat I D) ∧ (@Ne Nat C D)) →
      wpAny (model prog w) A (eval elt (compEnvC scope cl C env)) R E' { s with heap := h, toks := tk })
    (done : ∀ ys news, J n ys news → Fin ys news) :
    ∀ k i ys news, i + k = n → J i ys news → LCg.CompRest prog w A h₀ L m env elt x scope cl s S P Fin k i ys news :=
  comp_inv J (fun i ys news v I oI C oC D m₂ h tk E' a b c d e f g o ne => turn _ i ys news v I oI C oC D m₂ h tk E' (fun _ _ h => h) a b c d e f g o ne) done
theorem comp_invTH {prog : Program} {w : World} {A : Around} {s : Shared} {h₀ : Heap} {L : Addr} {m : Str → Option Value} {env : Env} {ct elt : PySem.Expr} {x : Str} {scope : Scope} {cl : List (Str × Addr)} {S : List (Addr × Obj) → Prop} {P : Nat → Value → Prop} {Fin : List Value → List (Addr × Obj) → Prop} {n : Nat}
    (J : Nat → List Value → List (Addr × Obj) → Prop)
    (turn : ∀ (R R' : Value → Shared → Prop) i ys news v I oI C oC D m₂ h tk (E' : Value → Shared → Prop), (∀ y s₂, LCg.CompEnd h₀ L m { s with heap := h, toks := tk } I oI C oC D (LCg.lst ys) S (fun y news' => J (i + 1) (ys ++ [y]) news') y s₂ → R y s₂) → (∀ y s₂, LCg.CompEnd h₀ L m { s with heap := h, toks := tk } I oI C oC D (LCg.lst ys) S (fun _ news' => J (i + 1) ys news') y s₂ → R' y s₂) → i < n → J i ys news → P i v → LCg.NsObj oC m₂ → m₂ x = some v → Fr h₀ L h m → News h₀ L h ((I, oI) :: (C, oC) :: (D, LCg.lst ys) :: news) → LCg.Off3 I C D news → ((@Ne Nat I C) ∧ (@Ne Nat I D) ∧ (@Ne Nat C D)) →
      wpAny (model prog w) A (isTrue ct (compEnvC scope cl C env) (eval ct (compEnvC scope cl C env))) (fun ok s' => if ok = true then
        wpAny (model prog w) A (eval elt (compEnvC scope cl C env)) R E' s'
        else R' Value.none s') E' { s with heap := h, toks := tk })
    (done : ∀ ys news, J n ys news → Fin ys news) :
    ∀ k i ys news, i + k = n → J i ys news → LCt.CompRestT prog w A h₀ L m env ct elt x scope cl s S P Fin k i ys news :=
  comp_invT J (fun i ys news v I oI C oC D m₂ h tk E' a b c d e f g o ne => turn _ _ i ys news v I oI C oC D m₂ h tk E' (fun _ _ h => h) (fun _ _ h => h) a b c d e f g o ne) done
end Mine
end
section
open PySem PySem.W PySem.Spec PySem.Calls PyProof.Rows
open LCg (lst lst_snoc NsObj Off1 Off3 CompEnd FinE FinA fr_but news_but ns_obj)
set_option Elab.async false
set_option maxRecDepth 100000
set_option maxHeartbeats 4000000
set_option linter.unusedVariables false
namespace Mine
/-- the tests of a comprehension, one after the other -/
abbrev testsOf (ifs : List PySem.Expr) (env : Env) : Sem Bool :=
  forIn ifs true fun c r => if r = true then do let ok ← isTrue c env (eval c env); pure (ForInStep.yield ok) else pure (ForInStep.yield r)
section
variable {prog : Program} {w : World} {A : Around} {E : Value → Shared → Prop} {s : Shared} {h₀ : Heap} {L : Addr} {m : Str → Option Value} {env : Env}
theorem loop_any {elt target iter : PySem.Expr} {ifs : List PySem.Expr} {scope : Scope} {pos : Pos} {it acc : Value} {env : Env} {R : Result → Shared → Prop} (I : Nat → Shared → Prop)
    (turn : ∀ n s, I n s → wpAny (model prog w) A (pyNext it) (fun r s₁ => match r with
      | none => R (.ok .next) s₁
      | some v => wpAny (model prog w) A (letOwnedTupleGo target it v) (fun _ s₀ => wpAny (model prog w) A (assign target env v) (fun _ s₂ =>
          wpAny (model prog w) A (testsOf ifs env) (fun ok s₃ =>
            if ok = true then wpAny (model prog w) A (eval elt env) (fun x s₄ =>
              wpAny (model prog w) A (call (.builtin "list.append") [acc, x]) (fun _ s₅ => ∃ m, m < n ∧ I m s₅) (notedBy (model prog w) A env fun e s' => R (.error e) s') s₄) (notedBy (model prog w) A env fun e s' => R (.error e) s') s₃
            else ∃ m, m < n ∧ I m s₃) (notedBy (model prog w) A env fun e s' => R (.error e) s') s₂) (notedBy (model prog w) A env fun e s' => R (.error e) s') s₀) (notedBy (model prog w) A env fun e s' => R (.error e) s') s₁) (notedBy (model prog w) A env fun e s' => R (.error e) s') s)
    (n : Nat) (h : I n s) : codeAny (model prog w) A (.compLoop (.ListComp elt [⟨target, iter, ifs, 0⟩] scope pos) 0 it acc env) R s := by
  refine codeAny_loop rfl I (fun n s hI => ?_) n h
  show wpAny _ A ((compTurn (.ListComp elt [⟨target, iter, ifs, 0⟩] scope pos) 0 it acc env).onRaise (fun x => do noteFrame x env; theTreesLotGoes x)) _ _ s
  refine wpAny_noted ?_
  rw [compTurn_list]
  refine wpAny_bind (wpAny_standAt (wpAny_bind (wpAny_mono (turn n s hI) (fun r s₁ h₁ => ?_) fun _ _ h' => h')))
  cases r with
  | none => exact wpAny_pure h₁
  | some v =>
    refine wpAny_bind (wpAny_mono h₁ (fun _ s₀ h₀ => ?_) fun _ _ h' => h')
    refine wpAny_bind (wpAny_mono h₀ (fun _ s₂ h₂ => wpAny_bind (wpAny_mono h₂ (fun ok s₃ h₃ => ?_) fun _ _ h' => h')) fun _ _ h' => h')
    cases ok with
    | false => exact wpAny_pure ⟨rfl, h₃⟩
    | true =>
      exact wpAny_bind (wpAny_bind (wpAny_mono h₃ (fun x s₄ h₄ => wpAny_bind (wpAny_mono h₄ (fun _ s₅ h₅ => wpAny_pure (wpAny_pure ⟨rfl, h₅⟩)) fun _ _ h' => h')) fun _ _ h' => h'))

/-- a turn of a comprehension whose target is three names -/
def Turn3 (prog : Program) (w : World) (A : Around) (h₀ : Heap) (L : Addr) (m : Str → Option Value) (env : Env) (ifs : List PySem.Expr) (elt : PySem.Expr) (x₁ x₂ x₃ : Str) (scope : Scope) (cl : List (Str × Addr)) (s : Shared) (its : Array Value)
    (J : Nat → List Value → List (Addr × Obj) → Prop) : Prop :=
  ∀ i ys nw v, its[i]? = some v → J i ys nw → ∃ (t : Addr) (v₁ v₂ v₃ : Value) (nt : Nat), v = .ref t ∧ (t, tupObj [v₁, v₂, v₃] nt) ∈ nw ∧
    ∀ I oI C oC D m₂ h tk (E' : Value → Shared → Prop), NsObj oC m₂ → m₂ x₁ = some v₁ → m₂ x₂ = some v₂ → m₂ x₃ = some v₃ → Fr h₀ L h m → News h₀ L h ((I, oI) :: (C, oC) :: (D, lst ys) :: nw) → Off3 I C D nw → ((@Ne Nat I C) ∧ (@Ne Nat I D) ∧ (@Ne Nat C D)) →
      wpAny (model prog w) A (testsOf ifs (compEnvC scope cl C env)) (fun ok s' => if ok = true then
        wpAny (model prog w) A (eval elt (compEnvC scope cl C env)) (CompEnd h₀ L m { s with heap := h, toks := tk } I oI C oC D (lst ys) (fun _ => True) (fun y nw' => J (i + 1) (ys ++ [y]) nw')) E' s'
        else CompEnd h₀ L m { s with heap := h, toks := tk } I oI C oC D (lst ys) (fun _ => True) (fun _ nw' => J (i + 1) ys nw') Value.none s') E' { s with heap := h, toks := tk }

theorem block3 {elt iter : PySem.Expr} {ifs : List PySem.Expr} {x₁ x₂ x₃ : Str} {p₁ p₂ p₃ tp : Pos} {tk₀} {scope : Scope} {cl : List (Str × Addr)} {pos : Pos} {I ax : Addr} {its : Array Value} {k₀ : Nat} {nw₀ : List (Addr × Obj)}
    {J : Nat → List Value → List (Addr × Obj) → Prop} {RR : Value → Addr → Result → Shared → Prop}
    (hh : A.handled = none) (hsz : its.size ≤ sizeLine) (hax : ax ≠ I) (hS : ∀ i ys nw, J i ys nw → (ax, listOf its k₀) ∈ nw) (hit : s.heap.IsListIter I ax 0)
    (hcell : ∀ y ∈ scope.names, y.2 ≠ .cell) (hkind : scope.kind = .function) (hx₁ : scope.names.lookup x₁ = some .local) (hx₂ : scope.names.lookup x₂ = some .local) (hx₃ : scope.names.lookup x₃ = some .local) (h12 : x₁ ≠ x₂) (h13 : x₁ ≠ x₃) (h23 : x₂ ≠ x₃)
    (F : Fr h₀ L s.heap m) (N : News h₀ L s.heap nw₀) (hIL : L ≠ I) (hI₀ : h₀.get? I = none) (off : ∀ p ∈ nw₀, p.1 ≠ I) (hJ : J 0 [] nw₀)
    (T : Turn3 prog w A h₀ L m env ifs elt x₁ x₂ x₃ scope cl s its J)
    (hRR : ∀ D C h tk m' ys nw, Fr h₀ L h m → News h₀ L h ((D, lst ys) :: nw) → Off1 D nw → h.Ns C m' → h₀.get? C = none → h₀.get? D = none → C ≠ L → D ≠ L → C ≠ D → (∀ p ∈ nw, p.1 ≠ C) → J its.size ys nw → RR (.ref D) C (.ok .next) { s with heap := h, toks := tk }) :
    wpAny (model prog w) A (newList []) (fun acc s₃ => wpAny (model prog w) A (newFunctionEnv scope env.globals cl [] env.qual none .none (some env)) (fun cenv s₄ =>
      codeAny (model prog w) A (.compStart (.ListComp elt [⟨.Tuple [.Name x₁ p₁, .Name x₂ p₂, .Name x₃ p₃] tk₀ tp, iter, ifs, 0⟩] scope pos) 0 (.ref I) acc { cenv with scope := relabel scope env }) (RR acc cenv.locals) s₄) E s₃) E s := by
  have W := Walks.list (prog := prog) (w := w) (A := A) hh I ax hax its
  have hS0 := hS 0 [] nw₀ hJ
  have hlist : ∀ {g : Heap} {nw : List (Addr × Obj)} {i : Nat} {ys : List Value}, J i ys nw → News h₀ L g nw → g.IsList ax its := fun hJ N => ⟨_, (N _ (hS _ _ _ hJ)).1, rfl, _, rfl⟩
  refine wpAny_newObj_type (wpAny_newFunctionEnv hcell (by intro y hy; simp at hy) (fun h₁ hns₁ hsb₁ => ?_) hkind)
  dsimp only at hns₁ hsb₁ ⊢
  generalize hH2 : s.heap.push { cls := .type "list", dict := none, data := .seq ([] : List Value).toArray } = H2 at hns₁ hsb₁ ⊢
  have hC : H2.objs.size = s.heap.objs.size + 1 := by rw [← hH2, Heap.size_push]
  have hDC : s.heap.objs.size ≠ H2.objs.size := by rw [hC]; exact Nat.ne_of_lt (Nat.lt_succ_self _)
  have below : ∀ b, b < s.heap.objs.size → b ≠ H2.objs.size ∧ b ≠ s.heap.objs.size := fun b hb => ⟨by rw [hC]; exact Nat.ne_of_lt (Nat.lt_succ_of_lt hb), Nat.ne_of_lt hb⟩
  have hIlt : I < s.heap.objs.size := by obtain ⟨_, e, _⟩ := hit; exact Heap.lt_size e
  have old : ∀ b o, s.heap.get? b = some o → h₁.get? b = some o := fun b o e => hsb₁.extBut b o (below b (Heap.lt_size e)).1 (Heap.get?_push_of_some _ (hH2 ▸ Heap.get?_push_of_some _ e))
  have hacc : h₁.get? s.heap.objs.size = some (lst []) := hsb₁.extBut _ _ hDC (Heap.get?_push_of_some _ (hH2 ▸ Heap.get?_push_size _ rfl))
  have fresh₀ : ∀ a, s.heap.objs.size ≤ a → h₀.get? a = none := fun a ha => by
    cases e : h₀.get? a with
    | none => rfl
    | some o' => exact absurd (Heap.lt_size (F.keep a o' e)) (Nat.not_lt.mpr ha)
  have hD₀ : h₀.get? s.heap.objs.size = none := fresh₀ _ (Nat.le_refl _)
  have hC₀ : h₀.get? H2.objs.size = none := fresh₀ _ (by rw [hC]; exact Nat.le_succ _)
  have hDL : s.heap.objs.size ≠ L := Ne.symm (below L F.ns.lt).2
  have hCL : H2.objs.size ≠ L := Ne.symm (below L F.ns.lt).1
  have hCI : I ≠ H2.objs.size := (below I hIlt).1
  have hDI : I ≠ s.heap.objs.size := (below I hIlt).2
  have off₀ : ∀ p ∈ nw₀, p.1 ≠ I ∧ p.1 ≠ H2.objs.size ∧ p.1 ≠ s.heap.objs.size := fun p hp => ⟨off p hp, (below _ (Heap.lt_size (N p hp).1)).1, (below _ (Heap.lt_size (N p hp).1)).2⟩
  have hit₁ : h₁.IsListIter I ax 0 := let ⟨o, e, r⟩ := hit; ⟨o, old _ _ e, r⟩
  have F₁ : Fr h₀ L h₁ m := F.keeps old
  have N₁ : News h₀ L h₁ ((s.heap.objs.size, lst []) :: nw₀) := fun p hp => by
    rcases List.mem_cons.mp hp with rfl | hp
    · exact ⟨hacc, hDL, hD₀⟩
    · exact ⟨old _ _ (N p hp).1, (N p hp).2⟩
  generalize s.heap.objs.size = D at hacc hDC hD₀ hDL hDI off₀ N₁ ⊢
  generalize H2.objs.size = C at hDC hC₀ hCL hCI off₀ hns₁ hsb₁ ⊢
  clear hC below fresh₀ old hH2 hIlt
  have loop : ∀ s₃ : Shared, (∃ tk, s₃ = { s with heap := h₁, toks := tk }) →
      codeAny (model prog w) A (.compLoop (.ListComp elt [⟨.Tuple [.Name x₁ p₁, .Name x₂ p₂, .Name x₃ p₃] tk₀ tp, iter, ifs, 0⟩] scope pos) 0 (.ref I) (.ref D) (compEnvC scope cl C env)) (RR (.ref D) C) s₃ := by
    rintro s₃ ⟨tk₃, rfl⟩
    refine loop_any
      (fun k s' => ∃ h' tk i ys m' nw, s' = { s with heap := h', toks := tk } ∧ i ≤ its.size ∧ k = its.size + 1 - i ∧ ys.length ≤ i ∧ h'.IsListIter I ax i ∧ Fr h₀ L h' m ∧ h'.Ns C m' ∧ News h₀ L h' ((D, lst ys) :: nw) ∧
        (∀ p ∈ nw, p.1 ≠ I ∧ p.1 ≠ C ∧ p.1 ≠ D) ∧ J i ys nw) ?_ (its.size + 1)
      ⟨h₁, _, 0, [], _, nw₀, rfl, Nat.zero_le _, rfl, Nat.le_refl _, hit₁, F₁, hns₁, N₁, off₀, hJ⟩
    rintro k s' ⟨h', tk, i, ys, m', nw, rfl, hi, rfl, hyl, hit', F', hn', N', off', hJ'⟩
    have hls := hlist hJ' (fun p hp => N' p (.tail _ hp))
    by_cases hlt : i < its.size
    · refine W.item i _ _ _ hlt ⟨hit', hls⟩ fun v h₂ tk₂ hPv hst₂ hk₂ => ?_
      obtain ⟨t, v₁, v₂, v₃, nt, rfl, hmt, R⟩ := T i ys nw v hPv hJ'
      have N₂ : News h₀ L h₂ ((D, lst ys) :: nw) := news_but N' hk₂ fun p hp => by
        rcases List.mem_cons.mp hp with rfl | hp
        · exact Ne.symm hDI
        · exact (off' p hp).1
      refine wpAny_letOwnedTupleGo_listiter hst₂.1 ?_
      refine wpAny_assign_Tuple (items := #[v₁, v₂, v₃]) hh ⟨_, (N₂ _ (.tail _ hmt)).1, rfl, nt, rfl⟩ rfl rfl fun h₃ hext => ?_
      have up₃ : ∀ b o, h₂.get? b = some o → h₃.get? b = some o := fun b o q => hext b o (Nat.ne_of_lt (Heap.lt_size q)) q
      have hn₃ : h₃.Ns C m' := (hn'.at' fun o e => hk₂ _ o (by simpa using Ne.symm hCI) e).at' fun o e => up₃ _ o e
      show wpAny _ A (do holding [v₂, v₃] (assign (.Name x₁ p₁) (compEnvC scope cl C env) v₁); do holding [v₃] (assign (.Name x₂ p₂) (compEnvC scope cl C env) v₂); do holding [] (assign (.Name x₃ p₃) (compEnvC scope cl C env) v₃); pure ()) _ _ _
      refine wpAny_bind (wpAny_holding (wpAny_assign_Name (wpAny_storeName_local (lookup_relabel_local hx₁) hn₃ (fun h₄ hn₄ hs₄ => ?_) (by simp [compEnvC, relabel, hkind]))))
      refine wpAny_bind (wpAny_holding (wpAny_assign_Name (wpAny_storeName_local (lookup_relabel_local hx₂) hn₄ (fun h₅ hn₅ hs₅ => ?_) (by simp [compEnvC, relabel, hkind]))))
      refine wpAny_bind (wpAny_holding (wpAny_assign_Name (wpAny_storeName_local (lookup_relabel_local hx₃) hn₅ (fun h₆ hn₆ hs₆ => wpAny_pure ?_) (by simp [compEnvC, relabel, hkind]))))
      have up₆ : ∀ b o, b ≠ C → h₂.get? b = some o → h₆.get? b = some o := fun b o hb q => hs₆.extBut b o hb (hs₅.extBut b o hb (hs₄.extBut b o hb (up₃ b o q)))
      have hit₆ : h₆.IsListIter I ax (i + 1) := let ⟨o, e, r⟩ := hst₂.1; ⟨o, up₆ _ _ hCI e, r⟩
      obtain ⟨oI, heI, hrI⟩ := id hit₆
      obtain ⟨oC, heC, hoC⟩ := ns_obj hn₆
      have F₆ : Fr h₀ L h₆ m := ((((fr_but F' hk₂ hIL hI₀).keeps up₃).change hs₄ hCL hC₀).change hs₅ hCL hC₀).change hs₆ hCL hC₀
      have N₆ : News h₀ L h₆ ((I, oI) :: (C, oC) :: (D, lst ys) :: nw) := fun p hp => by
        rcases List.mem_cons.mp hp with rfl | hp
        · exact ⟨heI, Ne.symm hIL, hI₀⟩
        · rcases List.mem_cons.mp hp with rfl | hp
          · exact ⟨heC, hCL, hC₀⟩
          · refine ⟨up₆ _ _ ?_ (N₂ p hp).1, (N₂ p hp).2⟩
            rcases List.mem_cons.mp hp with rfl | hp
            · exact hDC
            · exact (off' p hp).2.1
      refine wpAny_mono (R I oI C oC D _ h₆ _ _ hoC (by simp [h12, h13]) (by simp [h23]) (by simp) F₆ N₆ (Off3.of off') ⟨hCI, hDI, Ne.symm hDC⟩) (fun ok s₄ h₄ => ?_) fun _ _ e => e
      cases ok with
      | true =>
        simp only [if_true] at h₄ ⊢
        refine wpAny_mono h₄ (fun y s₅ h₅ => ?_) fun _ _ e => e
        obtain ⟨h₇, tk₇, nw₇, rfl, F₇, N₇, off₇, _, J₇⟩ := h₅
        have zI := (N₇ (I, oI) (.head _)).1
        have zC := (N₇ (C, oC) (.tail _ (.head _))).1
        have zD := (N₇ (D, lst ys) (.tail _ (.tail _ (.head _)))).1
        have N₇' : News h₀ L h₇ nw₇ := fun p hp => N₇ p (.tail _ (.tail _ (.tail _ hp)))
        have off8 := off₇.mem
        refine append_at (hsz := by show ys.toArray.size ≤ sizeLine; rw [List.size_toArray]; exact Nat.le_trans (Nat.le_trans hyl hi) hsz) zD fun h₈ hs₈ hD₈ => ?_
        refine ⟨its.size + 1 - (i + 1), by lia, h₈, tk₇, i + 1, ys ++ [y], _, nw₇, rfl, hlt, rfl, by rw [List.length_append, List.length_singleton]; exact Nat.succ_le_succ hyl, ⟨oI, hs₈.extBut _ _ hDI zI, hrI⟩, F₇.change hs₈ hDL hD₀,
          (hoC.ns zC).sameBut hs₈ (Ne.symm hDC), fun p hp => ?_, off8, J₇⟩
        rcases List.mem_cons.mp hp with rfl | hp
        · exact ⟨hD₈.trans (congrArg some (lst_snoc ys y)), hDL, hD₀⟩
        · exact ⟨hs₈.extBut _ _ (off8 p hp).2.2 (N₇' p hp).1, (N₇' p hp).2⟩
      | false =>
        simp only [Bool.false_eq_true, if_false] at h₄ ⊢
        obtain ⟨h₇, tk₇, nw₇, rfl, F₇, N₇, off₇, _, J₇⟩ := h₄
        have zI := (N₇ (I, oI) (.head _)).1
        have zC := (N₇ (C, oC) (.tail _ (.head _))).1
        exact ⟨its.size + 1 - (i + 1), by lia, h₇, tk₇, i + 1, ys, _, nw₇, rfl, hlt, rfl, Nat.le_succ_of_le hyl, ⟨oI, zI, hrI⟩, F₇, hoC.ns zC, fun p hp => N₇ p (.tail _ (.tail _ hp)), off₇.mem, J₇⟩
    · obtain rfl : i = its.size := Nat.le_antisymm hi (Nat.not_lt.mp hlt)
      refine W.done _ _ _ ⟨hit', hls⟩ fun h₂ tk₂ hk₂ => ?_
      exact hRR _ _ h₂ tk₂ _ ys nw (fr_but F' hk₂ hIL hI₀) (news_but N' hk₂ fun p hp => by
        rcases List.mem_cons.mp hp with rfl | hp
        · exact Ne.symm hDI
        · exact (off' p hp).1) (Off3.one (Off3.of off')) (hn'.at' fun o e => hk₂ _ o (by simpa using Ne.symm hCI) e) hC₀ hD₀ hCL hDL (Ne.symm hDC) (fun p hp => (off' p hp).2.1) hJ'
  exact codeAny_compStart_list (loop _ ⟨_, rfl⟩) (W.self 0 _ _ _ ⟨hit₁, hlist hJ (fun p hp => N₁ p (.tail _ hp))⟩ (loop _ ⟨_, rfl⟩))

/-- the source of such a comprehension: a list of the ledger -/
def Src3 (prog : Program) (w : World) (A : Around) (h₀ : Heap) (L : Addr) (m : Str → Option Value) (env : Env) (ifs : List PySem.Expr) (elt : PySem.Expr) (x₁ x₂ x₃ : Str) (scope : Scope) (cl : List (Str × Addr)) (Fin : Shared → List Value → List (Addr × Obj) → Prop) (xv : Value) (s₁ : Shared) : Prop :=
  ∃ (ax : Addr) (its : Array Value) (k₀ : Nat) (nw : List (Addr × Obj)) (J : Nat → List Value → List (Addr × Obj) → Prop), xv = .ref ax ∧ A.handled = none ∧ Fr h₀ L s₁.heap m ∧ News h₀ L s₁.heap nw ∧ its.size ≤ sizeLine ∧ J 0 [] nw ∧ (∀ i ys nw, J i ys nw → (ax, listOf its k₀) ∈ nw) ∧
    Turn3 prog w A h₀ L m env ifs elt x₁ x₂ x₃ scope cl s₁ its J ∧ ∀ ys nw, J its.size ys nw → Fin s₁ ys nw
theorem ListComp_3 {elt iter : PySem.Expr} {ifs : List PySem.Expr} {x₁ x₂ x₃ : Str} {p₁ p₂ p₃ tp : Pos} {tk₀} {scope : Scope} {cl : List (Str × Addr)} {pos : Pos} {Q : Value → Shared → Prop} (F₀ : Fr h₀ L s.heap m)
    (hclos : closureFor scope env = pure cl) (hcell : ∀ y ∈ scope.names, y.2 ≠ .cell) (hkind : scope.kind = .function)
    (hnames : ∀ y ∈ scope.names, y.2 = .local → scope.names.lookup y.1 = some .local) (hx₁ : scope.names.lookup x₁ = some .local) (hx₂ : scope.names.lookup x₂ = some .local) (hx₃ : scope.names.lookup x₃ = some .local) (h12 : x₁ ≠ x₂) (h13 : x₁ ≠ x₃) (h23 : x₂ ≠ x₃)
    (h : wpAny (model prog w) A (eval iter env) (fun xv s₁ => Stop (Src3 prog w A h₀ L m env ifs elt x₁ x₂ x₃ scope cl (fun s₂ => FinE h₀ L m s₂ Q) xv s₁)) E s)
    (hs : ∀ x, foldedSetIterable iter env x = pure x := by intro _; rfl) :
    wpAny (model prog w) A (eval (.ListComp elt [⟨.Tuple [.Name x₁ p₁, .Name x₂ p₂, .Name x₃ p₃] tk₀ tp, iter, ifs, 0⟩] scope pos) env) Q E s := by
  rw [eval_ListComp]
  refine wpAny_comprehension_free (use := none) rfl hs hclos hkind hnames (wpAny_mono h (fun xv s₁ h₁ => ?_) fun _ _ e => e)
  obtain ⟨ax, its, k₀, nw, J, rfl, hh, F, N, hsz, hJ, hS, T, fin⟩ := Stop.of h₁
  have hl : s₁.heap.IsList ax its := ⟨_, (N _ (hS _ _ _ hJ)).1, rfl, _, rfl⟩
  have hlt : ax < s₁.heap.objs.size := Heap.lt_size (N _ (hS _ _ _ hJ)).1
  refine wpAny_pyIter_list hl ?_
  have up : ∀ b o, s₁.heap.get? b = some o → (s₁.heap.push { cls := .type "list_iterator", data := .fields #[.ref ax, .int 0 0] }).get? b = some o := fun b o e => Heap.get?_push_of_some _ e
  refine block3 (s := { s₁ with heap := _ }) hh hsz (Nat.ne_of_lt hlt) hS ⟨_, Heap.get?_push_size _ rfl, rfl, rfl⟩ hcell hkind hx₁ hx₂ hx₃ h12 h13 h23 (F.keeps up) (N.grown up) (Nat.ne_of_lt F.ns.lt) (next_is_new F) (fun p hp => Nat.ne_of_lt (Heap.lt_size (N p hp).1)) hJ T ?_
  intro D C h tk m' ys nw' F' N' o1 hn hC₀ hD₀ hCL hDL hCD offC hJ'
  refine ⟨m', hn, fun h'' hs'' => fin ys nw' hJ' D h'' tk (F'.change hs'' hCL hC₀) (fun p hp => ?_) o1⟩
  refine ⟨hs''.extBut _ _ ?_ (N' p hp).1, (N' p hp).2⟩
  rcases List.mem_cons.mp hp with rfl | hp
  · exact Ne.symm hCD
  · exact offC p hp
theorem Assign_ListComp_3 {elt iter : PySem.Expr} {ifs : List PySem.Expr} {x₁ x₂ x₃ y : Str} {p₁ p₂ p₃ tp py : Pos} {tk₀} {scope : Scope} {cl : List (Str × Addr)} {pos spos : Pos} {Q : Flow → Shared → Prop} (F₀ : Fr h₀ L s.heap m) (hLe : env.locals = L)
    (hsw : swapsWith (.ListComp elt [⟨.Tuple [.Name x₁ p₁, .Name x₂ p₂, .Name x₃ p₃] tk₀ tp, iter, ifs, 0⟩] scope pos) (some (.Name y py)) spos.line env = pure true)
    (hclos : closureFor scope env = pure cl) (hcell : ∀ z ∈ scope.names, z.2 ≠ .cell) (hkind : scope.kind = .function)
    (hnames : ∀ z ∈ scope.names, z.2 = .local → scope.names.lookup z.1 = some .local) (hx₁ : scope.names.lookup x₁ = some .local) (hx₂ : scope.names.lookup x₂ = some .local) (hx₃ : scope.names.lookup x₃ = some .local) (h12 : x₁ ≠ x₂) (h13 : x₁ ≠ x₃) (h23 : x₂ ≠ x₃)
    (hy : env.kindOf y = some .local) (hp : (env.scope.kind == .class || (env.scope.kind == .module && env.locals != env.globals)) = false)
    (h : wpAny (model prog w) A (eval iter env) (fun xv s₁ => Stop (Src3 prog w A h₀ L m env ifs elt x₁ x₂ x₃ scope cl (fun s₂ => FinA h₀ L m s₂ y Q) xv s₁)) E s)
    (hs : ∀ x, foldedSetIterable iter env x = pure x := by intro _; rfl) :
    wpAny (model prog w) A (exec (.Assign [.Name y py] (.ListComp elt [⟨.Tuple [.Name x₁ p₁, .Name x₂ p₂, .Name x₃ p₃] tk₀ tp, iter, ifs, 0⟩] scope pos) spos) env) Q E s := by
  subst hLe
  rw [exec_Assign_Name_used _ _ _ _ hsw]
  refine wpAny_bind (wpAny_standAt (wpAny_bind ?_))
  show wpAny _ A (do let _ ← comprehension (.ListComp elt [⟨.Tuple [.Name x₁ p₁, .Name x₂ p₂, .Name x₃ p₃] tk₀ tp, iter, ifs, 0⟩] scope pos) scope env _ (newList []) false (eval iter env) (some (assign (.Name y py) env))) _ _ s
  refine wpAny_bind (wpAny_mono (wpAny_comprehension_free (use := some (assign (.Name y py) env)) (Q := fun _ s' => Q .next s') rfl hs hclos hkind hnames
    (wpAny_mono h (fun xv s₁ h₁ => ?_) fun _ _ e => e)) (fun _ s' hq => wpAny_pure (wpAny_pure hq)) fun _ _ e => e)
  obtain ⟨ax, its, k₀, nw, J, rfl, hh, F, N, hsz, hJ, hS, T, fin⟩ := Stop.of h₁
  have hl : s₁.heap.IsList ax its := ⟨_, (N _ (hS _ _ _ hJ)).1, rfl, _, rfl⟩
  have hlt : ax < s₁.heap.objs.size := Heap.lt_size (N _ (hS _ _ _ hJ)).1
  refine wpAny_pyIter_list hl ?_
  have up : ∀ b o, s₁.heap.get? b = some o → (s₁.heap.push { cls := .type "list_iterator", data := .fields #[.ref ax, .int 0 0] }).get? b = some o := fun b o e => Heap.get?_push_of_some _ e
  refine block3 (s := { s₁ with heap := _ }) hh hsz (Nat.ne_of_lt hlt) hS ⟨_, Heap.get?_push_size _ rfl, rfl, rfl⟩ hcell hkind hx₁ hx₂ hx₃ h12 h13 h23 (F.keeps up) (N.grown up) (Nat.ne_of_lt F.ns.lt) (next_is_new F) (fun p hp => Nat.ne_of_lt (Heap.lt_size (N p hp).1)) hJ T ?_
  intro D C h' tk m' ys nw' F' N' o1 hn hC₀ hD₀ hCL hDL hCD offC hJ'
  show wpAny _ A (assign (.Name y py) env (.ref D)) _ _ _
  refine wpAny_assign_Name (wpAny_storeName_local hy F'.ns (fun h₂ hn₂ hs₂ => ?_) hp)
  have F₂ : Fr h₀ env.locals h₂ (fun z => if z = y then some (.ref D) else m z) := F'.set hn₂ hs₂
  refine ⟨m', hn.sameBut hs₂ hCL, fun h'' hs'' => fin ys nw' hJ' D h'' _ (F₂.change hs'' hCL hC₀) (fun p hp => ?_) o1⟩
  have z : h₂.get? p.1 = some p.2 := hs₂.extBut _ _ (N' p hp).2.1 (N' p hp).1
  refine ⟨hs''.extBut _ _ ?_ z, (N' p hp).2⟩
  rcases List.mem_cons.mp hp with rfl | hp
  · exact Ne.symm hCD
  · exact offC p hp
end
end Mine
end
section
open PySem PySem.W PySem.Spec PySem.Calls PyProof.Rows
set_option Elab.async false
set_option maxRecDepth 100000
set_option maxHeartbeats 4000000
set_option linter.unusedVariables false
namespace Mine
theorem bitOr_nat (a b : Nat) : Builtin.bitOr (a : Int) (b : Int) = ((a ||| b : Nat) : Int) := by
  have h1 : decide (0 ≤ Builtin.bitNot (a : Int)) = false := decide_eq_false (by show ¬ (0 ≤ -(a : Int) - 1); lia)
  have h2 : decide (0 ≤ Builtin.bitNot (b : Int)) = false := decide_eq_false (by show ¬ (0 ≤ -(b : Int) - 1); lia)
  show Builtin.bitNot (Builtin.bitAnd (Builtin.bitNot a) (Builtin.bitNot b)) = _
  unfold Builtin.bitAnd
  rw [h1, h2]
  show -(-(((-(-(a : Int) - 1) - 1).toNat ||| (-(-(b : Int) - 1) - 1).toNat : Nat) : Int) - 1) - 1 = _
  rw [show (-(-(a : Int) - 1) - 1).toNat = a by lia, show (-(-(b : Int) - 1) - 1).toNat = b by lia]
  lia
theorem ownLack_nat (x : Int) : ∃ n : Nat, ownLack x = (n : Int) ∧ n < 512 ∧ 0 < n := by
  have h1 := Int.fmod_nonneg_of_pos (x.fdiv 10) (b := 9) (by decide)
  have h2 := Int.fmod_lt_of_pos (x.fdiv 10) (b := 9) (by decide)
  have h3 := Int.fmod_nonneg_of_pos (x.fdiv 90) (b := 9) (by decide)
  have h4 := Int.fmod_lt_of_pos (x.fdiv 90) (b := 9) (by decide)
  refine ⟨2 ^ ((x.fdiv 10).fmod 9).toNat ||| 2 ^ ((x.fdiv 90).fmod 9).toNat, ?_, ?_, ?_⟩
  · unfold ownLack
    rw [← bitOr_nat, kbt_cast, kbt_cast]
  · refine Nat.or_lt_two_pow (n := 9) ?_ ?_ <;> exact Nat.pow_lt_pow_right (by decide) (by lia)
  · have := Nat.left_le_or (n := 2 ^ ((x.fdiv 10).fmod 9).toNat) (m := 2 ^ ((x.fdiv 90).fmod 9).toNat)
    have := Nat.pow_pos (n := ((x.fdiv 10).fmod 9).toNat) (show 0 < 2 by decide)
    lia
theorem lacksUp_nat (ns ov : List Int) : ∀ i, ∀ x ∈ lacksUp ns ov i, ∃ n : Nat, x = (n : Int) ∧ n < 512
  | 0, x, hx => ⟨0, by rw [List.mem_singleton.mp hx]; rfl, by decide⟩
  | i + 1, x, hx => by
    unfold lacksUp at hx
    rcases List.mem_append.mp hx with h | h
    · exact lacksUp_nat ns ov i x h
    · rw [List.mem_singleton.mp h]
      obtain ⟨n, e, hn, _⟩ := ownLack_nat (ns.getD i 0)
      have : ∃ k : Nat, (lacksUp ns ov i).getD (ov.getD i 0).toNat 0 = (k : Int) ∧ k < 512 := by
        rw [List.getD_eq_getElem?_getD]
        cases e : (lacksUp ns ov i)[(ov.getD i 0).toNat]? with
        | none => exact ⟨0, rfl, by decide⟩
        | some y => obtain ⟨k, e1, h1⟩ := lacksUp_nat ns ov i y (List.mem_of_getElem? e); exact ⟨k, e1, h1⟩
      obtain ⟨k, e2, hk⟩ := this
      refine ⟨k ||| n, by rw [e, e2, bitOr_nat], Nat.or_lt_two_pow (n := 9) hk hn⟩
theorem lack_nat (ns ov : List Int) (p : Nat) : ∃ n : Nat, (lacksUp ns ov 7).getD p 0 = (n : Int) ∧ n < 512 := by
  rw [List.getD_eq_getElem?_getD]
  cases e : (lacksUp ns ov 7)[p]? with
  | none => exact ⟨0, rfl, by decide⟩
  | some y => obtain ⟨k, e1, h1⟩ := lacksUp_nat ns ov 7 y (List.mem_of_getElem? e); exact ⟨k, e1, h1⟩
theorem lack_nonneg (ns ov : List Int) (p : Nat) : 0 ≤ (lacksUp ns ov 7).getD p 0 := by
  obtain ⟨n, e, _⟩ := lack_nat ns ov p
  rw [e]; exact Int.natCast_nonneg n
theorem tri_get {X : List (Addr × Obj)} {vs : List Value} {ns ov : List Int} {ts : List Str} {q : List Nat} (h : TriIn X vs (q.map (triAt ns ov ts))) {i : Nat} {v : Value} (hv : vs.toArray[i]? = some v) :
    ∃ (p : Nat) (a : Addr) (n : Nat) (t u w : Tok), q[i]? = some p ∧ v = .ref a ∧ (a, tupObj [.int (triAt ns ov ts p).1 t, .str (triAt ns ov ts p).2.1 u, .int (triAt ns ov ts p).2.2 w] n) ∈ X := by
  obtain ⟨x, a, n, t, u, w, hx, rfl, hm⟩ := h.get i v (by simpa using hv)
  obtain ⟨p, hp, rfl⟩ := map_at hx
  exact ⟨p, a, n, t, u, w, hp, rfl, hm⟩
theorem file_pos {ov : List Int} (h0 : ov.length = 7) (hb : ∀ k, 0 ≤ ov.getD k 0 ∧ ov.getD k 0 ≤ (k : Int)) {p : Nat} (h : isFile ov p = true) : 1 ≤ p := by
  by_cases e : p = 0
  · subst e
    have h1 := hb 0
    have hl : 0 < ov.length := by lia
    have h2 : ov.getD 0 0 = ov[0] := by rw [List.getD_eq_getElem?_getD, List.getElem?_eq_getElem hl]; rfl
    rw [h2] at h1
    have h3 : ov[0] = 0 := by lia
    unfold isFile at h
    have h4 : (ov.any fun z => z == ((0 : Nat) : Int)) = true := List.any_eq_true.mpr ⟨ov[0], List.getElem_mem hl, by rw [h3]; rfl⟩
    rw [h4] at h; cases h
  · lia
inductive KeyIn (X : List (Addr × Obj)) : List Value → List (Int × Str) → Prop
  | nil : KeyIn X [] []
  | cons {a n t u vs ks} {p : Int × Str} : (a, tupObj [.int p.1 t, .str p.2 u] n) ∈ X → KeyIn X vs ks → KeyIn X (.ref a :: vs) (p :: ks)
theorem KeyIn.snoc {X : List (Addr × Obj)} {a n t u vs ks} {p : Int × Str} (hm : (a, tupObj [.int p.1 t, .str p.2 u] n) ∈ X) (h : KeyIn X vs ks) : KeyIn X (vs ++ [.ref a]) (ks ++ [p]) := by
  induction h with
  | nil => exact .cons hm .nil
  | cons hm' _ ih => exact .cons hm' ih
theorem KeyIn.mono {X Y : List (Addr × Obj)} {vs ks} (h : KeyIn X vs ks) (hXY : ∀ q ∈ X, q ∈ Y) : KeyIn Y vs ks := by
  induction h with
  | nil => exact .nil
  | cons hm _ ih => exact .cons (hXY _ hm) ih
theorem KeyIn.length {X : List (Addr × Obj)} {vs ks} (h : KeyIn X vs ks) : vs.length = ks.length := by
  induction h with
  | nil => rfl
  | cons _ _ ih => simp [ih]
/-- what _law_known tells of a file -/
def toldAt (ns ov : List Int) (ts : List Str) (p : Nat) : Str × Str := (ts.getD p Str.empty, signsUp (ns.getD (p - 1) 0) ((lacksUp ns ov 7).getD p 0) 9)
def keyAt (ns ov : List Int) (ts : List Str) (p : Nat) : Int × Str := ((lacksUp ns ov 7).getD p 0, ts.getD p Str.empty)
def isOpen (ns ov : List Int) (ts : List Str) (last : Nat) (p : Nat) : Bool := (ov.any fun z => z == (p : Int)) && lt3 (triAt ns ov ts p) (triAt ns ov ts last)
theorem lt3_is {p q : Tri} {t u v t' u' v' : Tok} : LtIs [.int p.1 t, .str p.2.1 u, .int p.2.2 v] [.int q.1 t', .str q.2.1 u', .int q.2.2 v'] (lt3 p q) := by
  unfold lt3
  by_cases h1 : p.1 = q.1
  · rw [if_pos h1, h1]
    refine .intEq ?_
    by_cases h2 : p.2.1 = q.2.1
    · rw [if_pos h2, h2]
      refine .strEq ?_
      by_cases h3 : p.2.2 = q.2.2
      · rw [h3, decide_eq_false (by lia)]; exact .intEq .nil
      · exact .intNe h3
    · rw [if_neg h2]; exact .strNe h2
  · rw [if_neg h1]; exact .intNe h1
theorem mvP {i j k a b c d e x : Addr × Obj} {R : List (Addr × Obj)} : ∀ p ∈ i :: j :: k :: a :: b :: c :: d :: e :: x :: R, p ∈ x :: i :: j :: k :: a :: b :: c :: d :: e :: R :=
  sc (.tail _ (.head _)) (sc (.tail _ (.tail _ (.head _))) (sc (.tail _ (.tail _ (.tail _ (.head _)))) (sc (.tail _ (.tail _ (.tail _ (.tail _ (.head _))))) (sc (.tail _ (.tail _ (.tail _ (.tail _ (.tail _ (.head _)))))) (sc (.tail _ (.tail _ (.tail _ (.tail _ (.tail _ (.tail _ (.head _))))))) (sc (.tail _ (.tail _ (.tail _ (.tail _ (.tail _ (.tail _ (.tail _ (.head _)))))))) (sc (.tail _ (.tail _ (.tail _ (.tail _ (.tail _ (.tail _ (.tail _ (.tail _ (.head _))))))))) (sc (.head _) (fun _ h => .tail _ (.tail _ (.tail _ (.tail _ (.tail _ (.tail _ (.tail _ (.tail _ (.tail _ h)))))))))))))))))
theorem off3_add5 {I C D x : Addr} {o : Obj} {a b c d e : Addr × Obj} {Y : List (Addr × Obj)} (h : LCg.Off3 I C D (a :: b :: c :: d :: e :: Y)) (h1 : I < x) (h2 : C < x) (h3 : D < x) : LCg.Off3 I C D (a :: b :: c :: d :: e :: (x, o) :: Y) :=
  ⟨h.1, h.2.1, h.2.2.1, h.2.2.2.1, h.2.2.2.2.1, ⟨Nat.ne_of_gt h1, Nat.ne_of_gt h2, Nat.ne_of_gt h3⟩, h.2.2.2.2.2⟩
theorem mem5 {a b c d e : Addr × Obj} {Y : List (Addr × Obj)} {p : Addr × Obj} (h : p ∈ Y) : p ∈ a :: b :: c :: d :: e :: Y := .tail _ (.tail _ (.tail _ (.tail _ (.tail _ h))))
theorem file_seven {ov : List Int} (h0 : ov.length = 7) (hb : ∀ k, 0 ≤ ov.getD k 0 ∧ ov.getD k 0 ≤ (k : Int)) : isFile ov 7 = true := by
  unfold isFile
  have : (ov.any fun z => z == ((7 : Nat) : Int)) = false := by
    rw [List.any_eq_false]
    intro z hz
    obtain ⟨k, hk, rfl⟩ := List.mem_iff_getElem.mp hz
    have h1 := hb k
    have h2 : ov.getD k 0 = ov[k] := by rw [List.getD_eq_getElem?_getD, List.getElem?_eq_getElem hk]; rfl
    rw [h2] at h1
    simp only [beq_iff_eq]
    lia
  rw [this]; rfl
theorem files_ne {ov : List Int} (h0 : ov.length = 7) (hb : ∀ k, 0 ≤ ov.getD k 0 ∧ ov.getD k 0 ≤ (k : Int)) {q : List Nat} (hq : q.Perm (List.range 8)) {n : Nat} (hn : 1 ≤ n) : 1 ≤ ((q.filter (isFile ov)).take n).length := by
  have h7 : 7 ∈ q.filter (isFile ov) := List.mem_filter.mpr ⟨hq.mem_iff.mpr (List.mem_range.mpr (by decide)), file_seven h0 hb⟩
  rw [List.length_take]
  have := List.length_pos_of_mem h7
  lia
theorem mvL {i j k a b c d e f x : Addr × Obj} {R : List (Addr × Obj)} : ∀ p ∈ i :: j :: k :: a :: b :: c :: d :: e :: f :: x :: R, p ∈ x :: i :: j :: k :: a :: b :: c :: d :: e :: f :: R :=
  sc (.tail _ (.head _)) (sc (.tail _ (.tail _ (.head _))) (sc (.tail _ (.tail _ (.tail _ (.head _)))) (sc (.tail _ (.tail _ (.tail _ (.tail _ (.head _))))) (sc (.tail _ (.tail _ (.tail _ (.tail _ (.tail _ (.head _)))))) (sc (.tail _ (.tail _ (.tail _ (.tail _ (.tail _ (.tail _ (.head _))))))) (sc (.tail _ (.tail _ (.tail _ (.tail _ (.tail _ (.tail _ (.tail _ (.head _)))))))) (sc (.tail _ (.tail _ (.tail _ (.tail _ (.tail _ (.tail _ (.tail _ (.tail _ (.head _))))))))) (sc (.tail _ (.tail _ (.tail _ (.tail _ (.tail _ (.tail _ (.tail _ (.tail _ (.tail _ (.head _)))))))))) (sc (.head _) (fun _ h => .tail _ (.tail _ (.tail _ (.tail _ (.tail _ (.tail _ (.tail _ (.tail _ (.tail _ (.tail _ h)))))))))))))))))))
theorem row_pairs {ns ov : List Int} {ts : List Str} {q : List Nat} (h8 : ∀ i ∈ q, i < 8) (h : q.Pairwise (fun i j => lt3 (((List.range 8).map (triAt ns ov ts)).getD i default) (((List.range 8).map (triAt ns ov ts)).getD j default) = true)) :
    q.Pairwise (fun i j => lt3 (triAt ns ov ts i) (triAt ns ov ts j) = true) :=
  h.imp_of_mem fun {i j} hi hj hr => by rw [tri_range _ _ _ _ (h8 i hi), tri_range _ _ _ _ (h8 j hj)] at hr; exact hr
theorem known_end {a b c d e f g i : Addr × Obj} {R : List (Addr × Obj)} {p : Addr × Obj} (hp : p ∈ a :: c :: b :: R) : p ∈ a :: b :: c :: d :: e :: f :: g :: i :: R :=
  (sc (.head _) (sc (.tail _ (.tail _ (.head _))) (sc (.tail _ (.head _)) (fun _ h => .tail _ (.tail _ (.tail _ (.tail _ (.tail _ (.tail _ (.tail _ (.tail _ h)))))))))) : ∀ p ∈ a :: c :: b :: R, p ∈ a :: b :: c :: d :: e :: f :: g :: i :: R) p hp
end Mine
end
section
open PySem PySem.W PySem.Spec PySem.Calls PyProof.Rows PySem.Builtin.Str
set_option Elab.async false
set_option maxRecDepth 100000
set_option maxHeartbeats 4000000
set_option linter.unusedVariables false
namespace Mine
abbrev cl (x : Str) : List Nat := x.cps.toList
theorem cl_inj {x y : Str} (h : cl x = cl y) : x = y := by
  cases x; cases y; simp only [Str.mk.injEq]; exact Array.toList_inj.mp h
theorem cl_app (x y : Str) : cl (x ++ y) = cl x ++ cl y := by
  show (x.cps ++ y.cps).toList = _
  exact Array.toList_append
theorem cl_len (x : Str) : x.length = (cl x).length := rfl
theorem cl_slash : Str.ofString "/" = ⟨#[47]⟩ := by decide +kernel
theorem cl_slash' : cl (Str.ofString "/") = [47] := by decide +kernel
theorem cl_empty : cl (Str.ofString "") = [] := by decide +kernel
theorem cl_mk (l : List Nat) : cl ⟨l.toArray⟩ = l := rfl
/-- the last sign / of a text -/
theorem rfind_at {x : Str} {a b : List Nat} (hx : cl x = a ++ 47 :: b) (hb : 47 ∉ b) : Txt.rfind x (Str.ofString "/") = (a.length : Int) := by
  rw [cl_slash]
  have at_iff : ∀ i, StrLaws.At x ⟨#[47]⟩ x.length i ↔ (cl x)[i]? = some 47 := fun i => StrLaws.subAt_one x 47 i
  have hin : (cl x)[a.length]? = some 47 := by rw [hx]; simp
  have hout : ∀ i, a.length < i → (cl x)[i]? ≠ some 47 := by
    intro i hi h
    rw [hx, List.getElem?_append_right (by lia)] at h
    obtain ⟨k, hk⟩ : ∃ k, i - a.length = k + 1 := ⟨i - a.length - 1, by lia⟩
    rw [hk, List.getElem?_cons_succ] at h
    exact hb (List.mem_of_getElem? h)
  rcases rfind_whole x ⟨#[47]⟩ with ⟨_, hn⟩ | ⟨i, e, hi, hn⟩
  · exact absurd ((at_iff _).mpr hin) (hn _)
  · rw [e]
    have h1 := (at_iff i).mp hi
    by_cases h : i < a.length
    · exact absurd ((at_iff _).mpr hin) (hn _ h)
    · by_cases h' : a.length < i
      · exact absurd h1 (hout i h')
      · congr 1; lia
theorem slice_head {x : Str} {a b : List Nat} (hx : cl x = a ++ 47 :: b) : Txt.slice x none (some ((a.length : Int) + 1)) = ⟨(a ++ [47]).toArray⟩ := by
  have h := slice_closes_to (x := x) (j := (a.length : Int) + 1) ⟨by lia, by rw [show x.cps.toList = cl x from rfl, hx]; simp; lia⟩
  rw [eq_of_beq h]
  have e : x.cps.toList = (a ++ [47]) ++ b := by rw [show x.cps.toList = cl x from rfl, hx]; simp
  rw [e, show ((a.length : Int) + 1 - 0).toNat = (a ++ [47]).length by simp, show (0 : Int).toNat = 0 from rfl, List.drop_zero, List.take_left]
theorem slice_tail {x : Str} {a b : List Nat} (hx : cl x = a ++ 47 :: b) : Txt.slice x (some ((a.length : Int) + 1)) none = ⟨b.toArray⟩ := by
  have hl : x.length = a.length + 1 + b.length := by rw [cl_len, hx]; simp; lia
  rw [slice_from_eq (by lia) (by lia) rfl]
  have e : x.cps.toList = (a ++ [47]) ++ b := by rw [show x.cps.toList = cl x from rfl, hx]; simp
  rw [e, show ((a.length : Int) + 1).toNat = (a ++ [47]).length by simp, List.drop_left, List.take_of_length_le (by lia)]
theorem splitTail_at {x : Str} {a b : List Nat} (hx : cl x = a ++ 47 :: b) (hb : 47 ∉ b) : splitTail x = ⟨b.toArray⟩ := by
  unfold splitTail; rw [rfind_at hx hb, slice_tail hx]
theorem splitHead_root {x : Str} {b : List Nat} (hx : cl x = 47 :: b) (hb : 47 ∉ b) : splitHead x = Str.ofString "/" := by
  have hx' : cl x = [] ++ 47 :: b := hx
  unfold splitHead
  rw [rfind_at hx' hb, slice_head hx']
  decide +kernel
theorem splitHead_at {x : Str} {a b : List Nat} {c : Nat} (hx : cl x = (a ++ [c]) ++ 47 :: b) (hc : c ≠ 47) (hb : 47 ∉ b) : splitHead x = ⟨(a ++ [c]).toArray⟩ := by
  unfold splitHead
  rw [rfind_at hx hb, slice_head hx]
  have hl : (⟨(a ++ [c] ++ [47]).toArray⟩ : Str).length = a.length + 2 := by rw [cl_len, cl_mk]; simp
  rw [if_pos]
  · show Txt.stripBy (Str.ofString "/").cps.contains false true _ = _
    rw [PyProof.Rows.stripBy_eq]
    have hlo : stripLo (Str.ofString "/").cps.contains false ⟨(a ++ [c] ++ [47]).toArray⟩ = 0 := rfl
    have hg1 : (Str.ofString "/").cps.contains 47 = true := by decide +kernel
    have hg2 : (Str.ofString "/").cps.contains c = false := by
      rw [cl_slash]; simpa using hc
    have hhi : stripHi (Str.ofString "/").cps.contains true ⟨(a ++ [c] ++ [47]).toArray⟩ 0 = a.length + 1 := by
      unfold stripHi
      rw [if_pos rfl, hl]
      have e : ((⟨(a ++ [c] ++ [47]).toArray⟩ : Str).cps.toList.drop 0).reverse = 47 :: c :: a.reverse := by
        show (List.drop 0 (a ++ [c] ++ [47])).reverse = _
        simp
      rw [e, List.takeWhile_cons, if_pos hg1, List.takeWhile_cons, if_neg (by rw [hg2]; exact Bool.false_ne_true)]
      simp
    rw [hlo, hhi, strSub_mk]
    show (⟨((List.drop 0 (a ++ [c] ++ [47])).take (a.length + 1 - 0)).toArray⟩ : Str) = _
    rw [List.drop_zero, Nat.sub_zero, show a.length + 1 = (a ++ [c]).length by simp, List.take_left]
  · refine ⟨by rw [hl]; lia, ?_⟩
    rw [bne_iff_ne]
    intro e
    have e2 := congrArg cl e
    rw [cl_mk] at e2
    have hm : c ∈ cl (Txt.mul (Str.ofString "/") ((⟨(a ++ [c] ++ [47]).toArray⟩ : Str).length : Int)) := by rw [← e2]; simp
    rw [cl_slash] at hm
    have hm' : c ∈ List.replicate ((⟨(a ++ [c] ++ [47]).toArray⟩ : Str).length : Int).toNat 47 := by rw [← mul_one_list]; exact hm
    exact hc (List.eq_of_mem_replicate hm')
/-- the text of place k, "" for the root -/
def tx (ov : List Int) (k : Nat) : Str := (textsUp ov 7).getD k Str.empty
def nm (k : Nat) : Str := lawNames.getD k Str.empty
theorem texts_keep (ov : List Int) : ∀ i j k, k ≤ i → i ≤ j → (textsUp ov j).getD k Str.empty = (textsUp ov i).getD k Str.empty := by
  intro i j k hk hij
  induction j with
  | zero => obtain rfl : i = 0 := by lia
            rfl
  | succ j ih =>
    by_cases e : i = j + 1
    · rw [e]
    · rw [← ih (by lia)]
      show (textsUp ov j ++ [_]).getD k Str.empty = _
      rw [List.getD_eq_getElem?_getD, List.getElem?_append_left (by rw [textsUp_length]; lia), List.getD_eq_getElem?_getD]
theorem tx_zero (ov : List Int) : tx ov 0 = Str.ofString "" := by
  unfold tx; rw [texts_keep ov 0 7 0 (Nat.le_refl _) (by decide)]; rfl
theorem tx_succ {ov : List Int} (hb : ∀ k, 0 ≤ ov.getD k 0 ∧ ov.getD k 0 ≤ (k : Int)) {k : Nat} (hk : k < 7) : tx ov (k + 1) = tx ov (ov.getD k 0).toNat ++ Str.ofString "/" ++ nm k := by
  unfold tx
  have h := hb k
  rw [texts_keep ov (k + 1) 7 (k + 1) (Nat.le_refl _) (by lia), texts_keep ov k 7 (ov.getD k 0).toNat (by lia) (by lia)]
  show (textsUp ov k ++ [_]).getD (k + 1) Str.empty = _
  rw [List.getD_eq_getElem?_getD, List.getElem?_append_right (by rw [textsUp_length]; lia), textsUp_length, Nat.sub_self]
  rfl
theorem ts_zero (ov : List Int) : (lawTexts ov).getD 0 Str.empty = Str.ofString "/" := rfl
theorem ts_succ (ov : List Int) (k : Nat) : (lawTexts ov).getD (k + 1) Str.empty = tx ov (k + 1) := by
  unfold lawTexts tx
  rw [List.getD_eq_getElem?_getD, List.getElem?_cons_succ, List.getElem?_drop, List.getD_eq_getElem?_getD, Nat.add_comm 1 k]
theorem ts_length (ov : List Int) : (lawTexts ov).length = 8 := by
  unfold lawTexts; rw [List.length_cons, List.length_drop, textsUp_length]
theorem nm_facts {k : Nat} (hk : k < 7) : 47 ∉ cl (nm k) ∧ (∃ a c, cl (nm k) = a ++ [c] ∧ c ≠ 47) := by
  match k, hk with
  | 0, _ => exact ⟨by decide +kernel, [], 98, by decide +kernel, by decide⟩
  | 1, _ => exact ⟨by decide +kernel, [], 97, by decide +kernel, by decide⟩
  | 2, _ => exact ⟨by decide +kernel, [], 99, by decide +kernel, by decide⟩
  | 3, _ => exact ⟨by decide +kernel, [97], 45, by decide +kernel, by decide⟩
  | 4, _ => exact ⟨by decide +kernel, [97], 98, by decide +kernel, by decide⟩
  | 5, _ => exact ⟨by decide +kernel, [97], 46, by decide +kernel, by decide⟩
  | 6, _ => exact ⟨by decide +kernel, [], 100, by decide +kernel, by decide⟩
  | k + 7, h => lia
theorem nm_inj {i j : Nat} (hi : i < 7) (hj : j < 7) (h : nm i = nm j) : i = j := by
  have key : ∀ i : Fin 7, ∀ j : Fin 7, nm i.1 = nm j.1 → i = j := by decide +kernel
  exact congrArg Fin.val (key ⟨i, hi⟩ ⟨j, hj⟩ h)
theorem tx_list {ov : List Int} (hb : ∀ k, 0 ≤ ov.getD k 0 ∧ ov.getD k 0 ≤ (k : Int)) {k : Nat} (hk : k < 7) : cl (tx ov (k + 1)) = cl (tx ov (ov.getD k 0).toNat) ++ 47 :: cl (nm k) := by
  rw [tx_succ hb hk, cl_app, cl_app, cl_slash']; simp
theorem tx_end {ov : List Int} (hb : ∀ k, 0 ≤ ov.getD k 0 ∧ ov.getD k 0 ≤ (k : Int)) {k : Nat} (hk : k < 7) : ∃ a c, cl (tx ov (k + 1)) = a ++ [c] ∧ c ≠ 47 := by
  obtain ⟨_, a, c, e, hc⟩ := nm_facts hk
  exact ⟨cl (tx ov (ov.getD k 0).toNat) ++ 47 :: a, c, by rw [tx_list hb hk, e]; simp, hc⟩
theorem tail_succ {ov : List Int} (hb : ∀ k, 0 ≤ ov.getD k 0 ∧ ov.getD k 0 ≤ (k : Int)) {k : Nat} (hk : k < 7) : splitTail ((lawTexts ov).getD (k + 1) Str.empty) = nm k := by
  rw [ts_succ, splitTail_at (tx_list hb hk) (nm_facts hk).1]
theorem tail_zero (ov : List Int) : splitTail ((lawTexts ov).getD 0 Str.empty) = Str.empty := by
  rw [ts_zero, splitTail_at (a := []) (b := []) cl_slash' (by simp)]; rfl
theorem head_succ {ov : List Int} (hb : ∀ k, 0 ≤ ov.getD k 0 ∧ ov.getD k 0 ≤ (k : Int)) {k : Nat} (hk : k < 7) : splitHead ((lawTexts ov).getD (k + 1) Str.empty) = (lawTexts ov).getD (ov.getD k 0).toNat Str.empty := by
  rw [ts_succ]
  have h := tx_list hb hk
  have hbk := hb k
  obtain ⟨j, hj⟩ : ∃ j, j = (ov.getD k 0).toNat := ⟨_, rfl⟩
  rw [← hj] at h ⊢
  cases j with
  | zero =>
    rw [tx_zero, cl_empty] at h
    rw [ts_zero]; exact splitHead_root h (nm_facts hk).1
  | succ j =>
    obtain ⟨a, c, e, hc⟩ := tx_end hb (k := j) (by lia)
    rw [e] at h
    rw [ts_succ, splitHead_at h hc (nm_facts hk).1]
    exact cl_inj (by rw [cl_mk, e])
theorem nm_ne (k : Nat) (hk : k < 7) : nm k ≠ Str.empty := by
  obtain ⟨_, a, c, e, _⟩ := nm_facts hk
  intro h
  rw [h] at e
  have := congrArg List.length e
  simp [cl, Str.empty] at this
theorem ts_inj {ov : List Int} (hb : ∀ k, 0 ≤ ov.getD k 0 ∧ ov.getD k 0 ≤ (k : Int)) {i j : Nat} (hi : i < 8) (hj : j < 8) (h : (lawTexts ov).getD i Str.empty = (lawTexts ov).getD j Str.empty) : i = j := by
  have h' := congrArg splitTail h
  cases i with
  | zero =>
    cases j with
    | zero => rfl
    | succ j => rw [tail_zero, tail_succ hb (by lia)] at h'; exact absurd h'.symm (nm_ne j (by lia))
  | succ i =>
    cases j with
    | zero => rw [tail_zero, tail_succ hb (by lia)] at h'; exact absurd h' (nm_ne i (by lia))
    | succ j =>
      rw [tail_succ hb (by lia), tail_succ hb (by lia)] at h'
      have := nm_inj (by lia) (by lia) h'
      lia
theorem ts_get (ov : List Int) {i : Nat} (hi : i < 8) : (lawTexts ov)[i]? = some ((lawTexts ov).getD i Str.empty) := by
  have h : i < (lawTexts ov).length := by rw [ts_length]; exact hi
  rw [List.getD_eq_getElem?_getD, List.getElem?_eq_getElem h]; rfl
theorem ts_nodup {ov : List Int} (hb : ∀ k, 0 ≤ ov.getD k 0 ∧ ov.getD k 0 ≤ (k : Int)) : (lawTexts ov).Nodup := by
  unfold List.Nodup
  rw [List.pairwise_iff_getElem]
  intro i j hi hj hij e
  rw [ts_length] at hi hj
  have h1 := ts_get ov hi
  have h2 := ts_get ov hj
  rw [List.getElem?_eq_getElem (by rw [ts_length]; exact hi)] at h1
  rw [List.getElem?_eq_getElem (by rw [ts_length]; exact hj)] at h2
  have := ts_inj hb hi hj (by rw [← Option.some.inj h1, ← Option.some.inj h2]; exact e)
  lia
theorem ts_eq_map (ov : List Int) : lawTexts ov = (List.range 8).map fun p => (lawTexts ov).getD p Str.empty := by
  apply List.ext_getElem?
  intro i
  by_cases h : i < 8
  · rw [ts_get ov h, List.getElem?_map, List.getElem?_range h]; rfl
  · rw [List.getElem?_eq_none (by rw [ts_length]; lia), List.getElem?_eq_none (by simp; lia)]
end Mine
end
section
open PySem PySem.W PySem.Spec PySem.Calls PyProof.Rows
set_option Elab.async false
set_option maxRecDepth 100000
set_option maxHeartbeats 4000000
set_option linter.unusedVariables false
namespace Mine
theorem bitAnd_nat (a b : Nat) : Builtin.bitAnd (a : Int) (b : Int) = ((a &&& b : Nat) : Int) := by
  unfold Builtin.bitAnd
  rw [decide_eq_true (by lia : 0 ≤ (a : Int)), decide_eq_true (by lia : 0 ≤ (b : Int))]
  rfl
theorem land_high (k r : Nat) (hk : k < 16) (hr : r < 4096) : (k * 4096 + r) &&& 61440 = k * 4096 := by
  apply Nat.eq_of_testBit_eq
  intro i
  have e1 : k * 4096 + r = 2 ^ 12 * k + r := by lia
  have e2 : k * 4096 = 2 ^ 12 * k + 0 := by lia
  have e3 : (61440 : Nat) = 2 ^ 12 * 15 + 0 := by decide
  rw [Nat.testBit_and, e1, e2, e3, Nat.testBit_two_pow_mul_add k (by lia : r < 2 ^ 12), Nat.testBit_two_pow_mul_add k (by decide : 0 < 2 ^ 12), Nat.testBit_two_pow_mul_add 15 (by decide : 0 < 2 ^ 12)]
  by_cases h : i < 12
  · rw [if_pos h, if_pos h, if_pos h]; simp
  · rw [if_neg h, if_neg h, if_neg h]
    by_cases h4 : i - 12 < 4
    · have : Nat.testBit 15 (i - 12) = true := by
        have : i - 12 = 0 ∨ i - 12 = 1 ∨ i - 12 = 2 ∨ i - 12 = 3 := by lia
        rcases this with e | e | e | e <;> rw [e] <;> decide
      rw [this, Bool.and_true]
    · have : k.testBit (i - 12) = false := Nat.testBit_lt_two_pow (Nat.lt_of_lt_of_le hk (Nat.pow_le_pow_right (n := 2) (by decide) (by lia : 4 ≤ i - 12)))
      rw [this, Bool.false_and]
theorem high_of (k r : Nat) (hk : k < 16) (hr : r < 4096) : Builtin.bitAnd ((k : Int) * 4096 + (r : Int)) 61440 = (k : Int) * 4096 := by
  have := bitAnd_nat (k * 4096 + r) 61440
  rw [land_high k r hk hr, Int.natCast_add, Int.natCast_mul] at this
  exact this
theorem low_of (k r : Nat) (hr : r < 4096) : Builtin.bitAnd ((k : Int) * 4096 + (r : Int)) 4095 = (r : Int) := by
  have := kbt_mask ((k : Int) * 4096 + (r : Int)) 12
  rw [show ((2 : Int) ^ 12 - 1) = 4095 by decide, show ((2 : Int) ^ 12) = 4096 by decide] at this
  rw [this]; lia
/-- the kind and the lack of a place's mode -/
theorem kind_cases (ns ov : List Int) (k : Nat) : (isFile ov (k + 1) = false ∧ kindNo ns ov k = 4) ∨ (isFile ov (k + 1) = true ∧ kindNo ns ov k = [8, 1, 12].getD (((ns.getD k 0).fdiv 810).fmod 3).toNat 0) := by
  unfold isFile kindNo
  rw [show (((k + 1 : Nat)) : Int) = (k : Int) + 1 by lia]
  cases h : (ov.any fun z => z == (k : Int) + 1) with
  | true => exact .inl ⟨rfl, if_pos rfl⟩
  | false => exact .inr ⟨rfl, if_neg Bool.false_ne_true⟩
theorem third (x : Int) : (x.fmod 3).toNat = 0 ∨ (x.fmod 3).toNat = 1 ∨ (x.fmod 3).toNat = 2 := by
  have h1 := Int.fmod_nonneg_of_pos x (b := 3) (by decide)
  have h2 := Int.fmod_lt_of_pos x (b := 3) (by decide)
  lia
theorem kind_nat (ns ov : List Int) (k : Nat) : ∃ q : Nat, kindNo ns ov k = (q : Int) ∧ q < 16 ∧ ((q = 4 ∧ isFile ov (k + 1) = false) ∨ (isFile ov (k + 1) = true ∧ q = [8, 1, 12].getD (((ns.getD k 0).fdiv 810).fmod 3).toNat 0 ∧ q ≠ 4)) := by
  rcases kind_cases ns ov k with ⟨h, e⟩ | ⟨h, e⟩
  · exact ⟨4, e, by decide, .inl ⟨rfl, h⟩⟩
  · rcases third ((ns.getD k 0).fdiv 810) with e3 | e3 | e3 <;> rw [e3] at e ⊢
    · exact ⟨8, e, by decide, .inr ⟨h, rfl, by decide⟩⟩
    · exact ⟨1, e, by decide, .inr ⟨h, rfl, by decide⟩⟩
    · exact ⟨12, e, by decide, .inr ⟨h, rfl, by decide⟩⟩
theorem mode_is (ns ov : List Int) (k : Nat) : ∃ q r : Nat, modeNo ns ov k = (q : Int) * 4096 + (r : Int) ∧ kindNo ns ov k = (q : Int) ∧ q < 16 ∧ r < 512 ∧ (r : Int) = 511 - ownLack (ns.getD k 0) := by
  obtain ⟨q, hq, hq2, _⟩ := kind_nat ns ov k
  obtain ⟨n, hn, h1, h2⟩ := ownLack_nat (ns.getD k 0)
  refine ⟨q, 511 - n, ?_, hq, hq2, by lia, by rw [hn]; lia⟩
  unfold modeNo
  rw [hq, hn]; lia
theorem mode_low (ns ov : List Int) (k : Nat) : 511 - Builtin.bitAnd (modeNo ns ov k) 4095 = ownLack (ns.getD k 0) := by
  obtain ⟨q, r, e, _, _, hr, hr2⟩ := mode_is ns ov k
  rw [e, low_of q r (by lia)]; lia
theorem mode_high (ns ov : List Int) (k : Nat) : Builtin.bitAnd (modeNo ns ov k) 61440 = kindNo ns ov k * 4096 := by
  obtain ⟨q, r, e, hq, hq2, hr, hr2⟩ := mode_is ns ov k
  rw [e, high_of q r hq2 (by lia), hq]
theorem root_low : 511 - Builtin.bitAnd 16895 4095 = 0 := by decide
theorem root_high : Builtin.bitAnd 16895 61440 = 16384 := by decide
theorem mode_dir (ns ov : List Int) (k : Nat) : Builtin.bitAnd (modeNo ns ov k) 61440 = 16384 ↔ isFile ov (k + 1) = false := by
  rw [mode_high]
  obtain ⟨q, hq, hq2, h⟩ := kind_nat ns ov k
  rw [hq]
  rcases h with ⟨e, h⟩ | ⟨h, _, e⟩
  · rw [e, h]; simp
  · rw [h]
    constructor
    · intro h2; exfalso; apply e; lia
    · intro h2; cases h2
theorem pick1 (test : Int → Bool) (d : Str) (b : Int) (c : Str) : pickC test d [(b, c)] = if test b = true then c else d := by
  unfold pickC
  cases h : test b with
  | true => simp [List.find?, h]
  | false => simp [List.find?, h]
theorem pick3_last (test : Int → Bool) (d : Str) (b₁ b₂ b₃ : Int) (c₁ c₂ c₃ : Str) (h1 : test b₁ = false) (h2 : test b₂ = false) : pickC test d [(b₁, c₁), (b₂, c₂), (b₃, c₃)] = if test b₃ = true then c₃ else d := by
  unfold pickC
  cases h : test b₃ with
  | true => simp [List.find?, h, h1, h2]
  | false => simp [List.find?, h, h1, h2]
theorem test_bit (x : Int) (j : Nat) (i : Nat) (hi : i ≠ 0) (b : Int) (hb : b = 2 ^ j) : fmTest x i b = decide (x / 2 ^ j % 2 = 1) := by
  unfold fmTest
  rw [if_neg hi, hb, kbt_bit]
  have hp : (0 : Int) < 2 ^ j := kbt_pos j
  have h2 : x / 2 ^ j % 2 = 0 ∨ x / 2 ^ j % 2 = 1 := by lia
  rcases h2 with e | e <;> rw [e]
  · rw [Int.zero_mul]
    rw [beq_eq_false_iff_ne.mpr (by lia)]; rfl
  · rw [Int.one_mul]; simp
theorem test_two (x : Nat) (i : Nat) (hi : i ≠ 0) (b : Nat) (j : Nat) (hb : b.testBit j = true) (hx : x / 2 ^ j % 2 = 0) : fmTest (x : Int) i (b : Int) = false := by
  unfold fmTest
  rw [if_neg hi, bitAnd_nat, beq_eq_false_iff_ne]
  intro e
  have e' : x &&& b = b := Int.ofNat.inj e
  have h1 : (x &&& b).testBit j = b.testBit j := by rw [e']
  rw [Nat.testBit_and, hb, Bool.and_true, Nat.testBit_eq_decide_div_mod_eq, decide_eq_true_eq] at h1
  lia
theorem sign_bit (n : Nat) (j : Nat) : ((n : Int).fdiv (2 ^ j)).fmod 2 = ((n / 2 ^ j % 2 : Nat) : Int) := by
  rw [Int.fdiv_eq_ediv_of_nonneg _ (Int.le_of_lt (kbt_pos j)), Int.fmod_eq_emod_of_nonneg _ (by decide)]
  rw [← kbt_cast]; rfl
theorem right_nat (q n j : Nat) (hn : n < 512) (hj : j ≤ 8) : ((q * 4096 + (511 - n)) / 2 ^ j % 2 = 1) ↔ ¬ (n / 2 ^ j % 2 = 1) := by
  have e : q * 4096 + (511 - n) = 2 ^ 9 * (q * 8) + (2 ^ 9 - (n + 1)) := by lia
  have h1 := Nat.testBit_two_pow_mul_add (q * 8) (b := 2 ^ 9 - (n + 1)) (i := 9) (Nat.sub_lt (by decide) (Nat.succ_pos n)) j
  rw [← e, if_pos (Nat.lt_of_le_of_lt hj (by decide)), Nat.testBit_two_pow_sub_succ hn, decide_eq_true (Nat.lt_of_le_of_lt hj (by decide)), Bool.true_and, Nat.testBit_eq_decide_div_mod_eq, Nat.testBit_eq_decide_div_mod_eq] at h1
  exact decide_eq_decide.mp (h1.trans decide_not.symm)
/-- one sign of the rights -/
theorem right_at (q n : Nat) (hn : n < 512) (j : Nat) (hj : j ≤ 8) (c : Str) (hc : [Str.ofString "r", Str.ofString "w", Str.ofString "x"].getD ((8 - j) % 3) Str.empty = c) :
    (if ((((q : Int) * 4096 + 511 - (n : Int)) / 2 ^ j % 2 = 1)) then c else Str.ofString "-") = signAt (n : Int) (8 - j) := by
  unfold signAt
  rw [show 8 - (8 - j) = j by lia, sign_bit, hc]
  have key : (((q : Int) * 4096 + 511 - (n : Int)) / 2 ^ j % 2 = 1) ↔ ¬ (((n / 2 ^ j % 2 : Nat) : Int) = 1) := by
    rw [show (q : Int) * 4096 + 511 - (n : Int) = ((q * 4096 + (511 - n) : Nat) : Int) by lia, show (2 : Int) ^ j = ((2 ^ j : Nat) : Int) by rw [Int.natCast_pow]; rfl]
    have := right_nat q n j hn hj
    exact_mod_cast this
  by_cases h : (((n / 2 ^ j % 2 : Nat) : Int) = 1)
  · rw [if_pos h, if_neg (fun z => key.mp z h)]
  · rw [if_neg h, if_pos (key.mpr h)]
theorem plain_right (q n : Nat) (hn : n < 512) (i : Nat) (hi : i ≠ 0) (j : Nat) (hj : j ≤ 8) (b : Int) (hb : b = 2 ^ j) (c : Str) (hc : [Str.ofString "r", Str.ofString "w", Str.ofString "x"].getD ((8 - j) % 3) Str.empty = c) :
    pickC (fmTest ((q : Int) * 4096 + 511 - (n : Int)) i) (fmDflt i) [(b, c)] = signAt (n : Int) (8 - j) := by
  rw [pick1, test_bit _ j i hi b hb, show fmDflt i = Str.ofString "-" from if_neg hi]
  simp only [decide_eq_true_eq]
  exact right_at q n hn j hj c hc
theorem odd_right (q n : Nat) (hn : n < 512) (i : Nat) (hi : i ≠ 0) (j : Nat) (hj : j ≤ 8) (h : Nat) (b₁ b₂ : Nat) (h1 : b₁.testBit h = true) (h2 : b₂.testBit h = true) (hh : (q * 4096 + (511 - n)) / 2 ^ h % 2 = 0) (b : Int) (hb : b = 2 ^ j) (c₁ c₂ c : Str) (hc : [Str.ofString "r", Str.ofString "w", Str.ofString "x"].getD ((8 - j) % 3) Str.empty = c) :
    pickC (fmTest ((q : Int) * 4096 + 511 - (n : Int)) i) (fmDflt i) [((b₁ : Int), c₁), ((b₂ : Int), c₂), (b, c)] = signAt (n : Int) (8 - j) := by
  have ex : (q : Int) * 4096 + 511 - (n : Int) = ((q * 4096 + (511 - n) : Nat) : Int) := by lia
  rw [pick3_last _ _ _ _ _ _ _ _ (by rw [ex]; exact test_two _ i hi b₁ h h1 hh) (by rw [ex]; exact test_two _ i hi b₂ h h2 hh), test_bit _ j i hi b hb, show fmDflt i = Str.ofString "-" from if_neg hi]
  simp only [decide_eq_true_eq]
  exact right_at q n hn j hj c hc
theorem glue_cl : ∀ (l : List Str) (x : Str), cl (Str.join (Str.ofString "") (x :: l)) = cl x ++ (l.map cl).flatten
  | [], x => by rw [← StrLaws.glued_eq_join]; simp [Builtin.Str.glued]
  | y :: l, x => by
    rw [← StrLaws.glued_eq_join]
    have ih := glue_cl l (x ++ y)
    rw [← StrLaws.glued_eq_join] at ih
    have e : Builtin.Str.glued (Str.ofString "") (x :: y :: l) = Builtin.Str.glued (Str.ofString "") ((x ++ y) :: l) := by
      unfold Builtin.Str.glued
      have hs : (Str.ofString "").cps = #[] := by decide +kernel
      rw [hs]
      show (⟨l.foldl _ (x.cps ++ #[] ++ y.cps)⟩ : Str) = ⟨l.foldl _ (x ++ y).cps⟩
      rw [Array.append_empty]; rfl
    rw [e, ih, cl_app]; simp
theorem join_cl (x : Str) (l : List Str) : cl (Txt.join (Str.ofString "") (x :: l)) = cl x ++ (l.map cl).flatten := by
  have : Txt.join (Str.ofString "") (x :: l) = Str.join (Str.ofString "") (x :: l) := StrLaws.glued_eq_join _ _
  rw [this, glue_cl]
theorem file_signs (x : Int) (q n : Nat) (hq : q = [8, 1, 12].getD ((x.fdiv 810).fmod 3).toNat 0) (hn : n < 512) :
    Txt.join (Str.ofString "") (permUp ((q : Int) * 4096 + 511 - (n : Int)) 10) = signsUp x (n : Int) 9 := by
  have hq16 : q < 16 := by rcases third (x.fdiv 810) with e | e | e <;> rw [e] at hq <;> rw [hq] <;> decide
  have e0 : pickC (fmTest ((q : Int) * 4096 + 511 - (n : Int)) 0) (fmDflt 0) (fmTabs.getD 0 []) = kindSign x := by
    have ht : ∀ b : Int, fmTest ((q : Int) * 4096 + 511 - (n : Int)) 0 b = ((q : Int) * 4096 == b) := by
      intro b
      unfold fmTest
      rw [if_pos rfl, show (q : Int) * 4096 + 511 - (n : Int) = (q : Int) * 4096 + ((511 - n : Nat) : Int) by lia, high_of q (511 - n) hq16 (by lia)]
    unfold pickC kindSign
    simp only [ht]
    rcases third (x.fdiv 810) with e | e | e <;> rw [e] at hq ⊢ <;> subst hq <;> decide +kernel
  have hp : permUp ((q : Int) * 4096 + 511 - (n : Int)) 10 = kindSign x :: [signAt n 0, signAt n 1, signAt n 2, signAt n 3, signAt n 4, signAt n 5, signAt n 6, signAt n 7, signAt n 8] := by
    show [pickC (fmTest _ 0) (fmDflt 0) (fmTabs.getD 0 []), pickC (fmTest _ 1) (fmDflt 1) [(256, Str.ofString "r")], pickC (fmTest _ 2) (fmDflt 2) [(128, Str.ofString "w")],
      pickC (fmTest _ 3) (fmDflt 3) [(((2112 : Nat) : Int), Str.ofString "s"), (((2048 : Nat) : Int), Str.ofString "S"), (64, Str.ofString "x")], pickC (fmTest _ 4) (fmDflt 4) [(32, Str.ofString "r")], pickC (fmTest _ 5) (fmDflt 5) [(16, Str.ofString "w")],
      pickC (fmTest _ 6) (fmDflt 6) [(((1032 : Nat) : Int), Str.ofString "s"), (((1024 : Nat) : Int), Str.ofString "S"), (8, Str.ofString "x")], pickC (fmTest _ 7) (fmDflt 7) [(4, Str.ofString "r")], pickC (fmTest _ 8) (fmDflt 8) [(2, Str.ofString "w")],
      pickC (fmTest _ 9) (fmDflt 9) [(((513 : Nat) : Int), Str.ofString "t"), (((512 : Nat) : Int), Str.ofString "T"), (1, Str.ofString "x")]] = _
    rw [e0, plain_right q n hn 1 (by decide) 8 (by decide) 256 (by decide) (Str.ofString "r") rfl, plain_right q n hn 2 (by decide) 7 (by decide) 128 (by decide) (Str.ofString "w") rfl,
      odd_right q n hn 3 (by decide) 6 (by decide) 11 2112 2048 (by decide) (by decide) (by lia) 64 (by decide) _ _ (Str.ofString "x") rfl,
      plain_right q n hn 4 (by decide) 5 (by decide) 32 (by decide) (Str.ofString "r") rfl, plain_right q n hn 5 (by decide) 4 (by decide) 16 (by decide) (Str.ofString "w") rfl,
      odd_right q n hn 6 (by decide) 3 (by decide) 10 1032 1024 (by decide) (by decide) (by lia) 8 (by decide) _ _ (Str.ofString "x") rfl,
      plain_right q n hn 7 (by decide) 2 (by decide) 4 (by decide) (Str.ofString "r") rfl, plain_right q n hn 8 (by decide) 1 (by decide) 2 (by decide) (Str.ofString "w") rfl,
      odd_right q n hn 9 (by decide) 0 (by decide) 9 513 512 (by decide) (by decide) (by lia) 1 (by decide) _ _ (Str.ofString "x") rfl]
  rw [hp]
  apply cl_inj
  rw [join_cl]
  show _ = cl (kindSign x ++ signAt n 0 ++ signAt n 1 ++ signAt n 2 ++ signAt n 3 ++ signAt n 4 ++ signAt n 5 ++ signAt n 6 ++ signAt n 7 ++ signAt n 8)
  simp only [cl_app, List.map_cons, List.map_nil, List.flatten_cons, List.flatten_nil, List.append_nil, List.append_assoc]
end Mine
end
section
open PySem
set_option Elab.async false
set_option maxRecDepth 100000
set_option maxHeartbeats 4000000
set_option linter.unusedVariables false
namespace Mine
theorem kLt_lt3 (a b : Key) : kLt a b = lt3 (a.1, a.2, 0) (b.1, b.2, 0) := by
  unfold kLt lt3
  by_cases h : a.1 = b.1
  · rw [if_pos h, if_pos h]
    by_cases h2 : a.2 = b.2
    · rw [if_pos h2, h2, decide_eq_false (List.lt_irrefl _)]; rfl
    · rw [if_neg h2]; rfl
  · rw [if_neg h, if_neg h]
theorem kLt_irrefl (a : Key) : kLt a a = false := by
  rw [kLt_lt3]
  cases h : lt3 (a.1, a.2, 0) (a.1, a.2, 0) with
  | false => rfl
  | true => have := lt3_asymm h; rw [h] at this; exact this
theorem kLt_asymm {a b : Key} (h : kLt a b = true) : kLt b a = false := by rw [kLt_lt3] at h ⊢; exact lt3_asymm h
theorem kLt_trans {a b c : Key} (h : kLt a b = true) (k : kLt b c = true) : kLt a c = true := by rw [kLt_lt3] at h k ⊢; exact lt3_trans h k
theorem kLt_total {a b : Key} (hne : a ≠ b) (h : kLt a b = false) : kLt b a = true := by
  rw [kLt_lt3] at h ⊢
  exact lt3_total (fun e => hne (by simp only [Prod.mk.injEq] at e; exact Prod.ext e.1 e.2.1)) h
theorem iLt_wo : WO iLt where
  asymm := fun h => kLt_asymm h
  trans := by
    intro a b c h k
    show kLt c.2 a.2 = false
    cases e : kLt c.2 a.2 with
    | false => rfl
    | true =>
      have h' : kLt b.2 a.2 = false := h
      have k' : kLt c.2 b.2 = false := k
      by_cases e1 : c.2 = b.2
      · rw [e1] at e; rw [e] at h'; exact h'
      · have := kLt_trans (kLt_total e1 k') e
        rw [this] at h'; exact h'
theorem Hp.tail_of {x y : It} {ps : List It} (h : Hp iLt (y :: ps)) : ∀ i a b, 0 < i → i ≠ 0 → (i - 1) / 2 ≠ 0 → (x :: ps)[i]? = some a → (x :: ps)[(i - 1) / 2]? = some b → iLt a b = false := by
  intro i a b h0 _ h1 ha hb
  refine h i a b h0 ?_ ?_
  · obtain ⟨j, rfl⟩ : ∃ j, i = j + 1 := ⟨i - 1, by lia⟩
    exact ha
  · obtain ⟨j, e⟩ : ∃ j, (i - 1) / 2 = j + 1 := ⟨(i - 1) / 2 - 1, by lia⟩
    rw [e] at hb ⊢; exact hb
theorem suRes_ok {x y : It} {ps : List It} (h : Hp iLt (y :: ps)) : Hp iLt (suRes (x :: ps) x) ∧ (suRes (x :: ps) x).Perm (x :: ps) := by
  have := su_all iLt_wo x (x :: ps).length 0 (x :: ps) (Nat.le_of_eq (Nat.zero_add _).symm) (by simp) (h.tail_of) (fun i a b _ _ h0 => by lia)
  exact this
theorem Hp.init {ps : List It} {y : It} (h : Hp iLt (ps ++ [y])) : Hp iLt ps := by
  intro i a b h0 ha hb
  have h1 := (List.getElem?_eq_some_iff.mp ha).1
  exact h i a b h0 (by rw [List.getElem?_append_left h1]; exact ha) (by rw [List.getElem?_append_left (by lia)]; exact hb)
theorem push_ok {ps : List It} {x : It} (h : Hp iLt ps) : Hp iLt (sdGo iLt x (ps ++ [x]) ps.length) ∧ (sdGo iLt x (ps ++ [x]) ps.length).Perm (ps ++ [x]) := by
  have hl : (ps ++ [x]).length = ps.length + 1 := by simp
  refine ⟨sd_heap iLt_wo ps.length (ps ++ [x]) (by lia) ?_ ?_ ?_, ?_⟩
  · intro i a b h0 hne hnp ha hb
    have h1 := (List.getElem?_eq_some_iff.mp ha).1
    rw [List.getElem?_append_left (by lia)] at ha hb
    exact h i a b h0 ha hb
  · intro i a h0 hp ha
    have h1 := (List.getElem?_eq_some_iff.mp ha).1
    lia
  · intro i a b h0 hp hpos ha
    have h1 := (List.getElem?_eq_some_iff.mp ha).1
    lia
  · have := sd_perm (lt := iLt) (x := x) ps.length (ps ++ [x]) (by lia)
    rwa [show (ps ++ [x]).set ps.length x = ps ++ [x] by simp] at this
theorem pushAll_ok : ∀ (xs ps : List It), Hp iLt ps → Hp iLt (pushAll ps xs) ∧ (pushAll ps xs).Perm (ps ++ xs)
  | [], ps, h => ⟨h, by rw [List.append_nil]; exact List.Perm.refl _⟩
  | x :: xs, ps, h => by
    have h1 := push_ok (x := x) h
    have h2 := pushAll_ok xs _ h1.1
    refine ⟨h2.1, h2.2.trans ?_⟩
    have := h1.2.append_right xs
    simpa using this
/-- the places as the search meets them -/
structure Places (key : Nat → Key) (par : Nat → Nat) (file : Nat → Bool) (R : List Nat) : Prop where
  below : ∀ p, 1 ≤ p → p < 8 → par p < p
  less : ∀ p, 1 ≤ p → p < 8 → kLt (key (par p)) (key p) = true
  perm : R.Perm (List.range 8)
  sort : R.Pairwise fun p q => kLt (key p) (key q) = true
  fold : ∀ p, p < 8 → (file p = false ↔ ∃ k, 1 ≤ k ∧ k < 8 ∧ par k = p)
def front (par : Nat → Nat) (R : List Nat) (i : Nat) : List Nat := (List.range 8).filter fun p => !(R.take i).contains p && (p == 0 || (R.take i).contains (par p))
section
variable {key : Nat → Key} {par : Nat → Nat} {file : Nat → Bool} {R : List Nat}
theorem Places.len (P : Places key par file R) : R.length = 8 := by rw [P.perm.length_eq]; rfl
theorem Places.mem (P : Places key par file R) {p : Nat} : p ∈ R ↔ p < 8 := by rw [P.perm.mem_iff, List.mem_range]
theorem Places.nodup (P : Places key par file R) : R.Nodup := P.perm.nodup_iff.mpr List.nodup_range
theorem mem_front {p i : Nat} : p ∈ front par R i ↔ p < 8 ∧ p ∉ R.take i ∧ (p = 0 ∨ par p ∈ R.take i) := by
  unfold front
  simp [List.mem_filter]
theorem front_nodup {i : Nat} : (front par R i).Nodup := List.nodup_range.filter _
theorem Places.idx (P : Places key par file R) {p : Nat} (hp : p < 8) : ∃ j, R[j]? = some p ∧ j < 8 := by
  obtain ⟨j, hj, e⟩ := List.mem_iff_getElem.mp (P.mem.mpr hp)
  exact ⟨j, by rw [List.getElem?_eq_getElem hj, e], by rw [P.len] at hj; exact hj⟩
theorem Places.before (P : Places key par file R) {i j p q : Nat} (hp : R[i]? = some p) (hq : R[j]? = some q) (h : i < j) : kLt (key p) (key q) = true := by
  obtain ⟨h1, e1⟩ := List.getElem?_eq_some_iff.mp hp
  obtain ⟨h2, e2⟩ := List.getElem?_eq_some_iff.mp hq
  have := List.pairwise_iff_getElem.mp P.sort i j h1 h2 h
  rwa [e1, e2] at this
theorem Places.after (P : Places key par file R) {i j p q : Nat} (hp : R[i]? = some p) (hq : R[j]? = some q) (h : kLt (key p) (key q) = true) : i < j := by
  by_cases h1 : i < j
  · exact h1
  · by_cases h2 : i = j
    · subst h2; rw [hp] at hq; cases hq; rw [kLt_irrefl] at h; cases h
    · have := kLt_asymm (P.before hq hp (by lia)); rw [h] at this; cases this
theorem take_idx {i j p : Nat} (hp : R[j]? = some p) (h : j < i) : p ∈ R.take i := List.mem_of_getElem? (i := j) (by rw [List.getElem?_take, if_pos h]; exact hp)
theorem Places.not_take (P : Places key par file R) {i j p : Nat} (hp : R[j]? = some p) (h : i ≤ j) : p ∉ R.take i := by
  intro hm
  obtain ⟨k, hk, e⟩ := List.mem_iff_getElem.mp hm
  have hk2 : (R.take i)[k]? = some p := by rw [List.getElem?_eq_getElem hk, e]
  rw [List.getElem?_take] at hk2
  split at hk2
  · rename_i hki
    obtain ⟨h1, e1⟩ := List.getElem?_eq_some_iff.mp hk2
    obtain ⟨h2, e2⟩ := List.getElem?_eq_some_iff.mp hp
    have hne := List.pairwise_iff_getElem.mp P.nodup k j h1 h2 (by lia)
    exact hne (by rw [e1, e2])
  · cases hk2
theorem Places.next_front (P : Places key par file R) {i r : Nat} (hr : R[i]? = some r) : r ∈ front par R i := by
  have h8 : r < 8 := P.mem.mp (List.mem_of_getElem? hr)
  refine mem_front.mpr ⟨h8, P.not_take hr (Nat.le_refl _), ?_⟩
  by_cases h0 : r = 0
  · exact .inl h0
  · have hb := P.below r (by lia) h8
    obtain ⟨j, hj, _⟩ := P.idx (p := par r) (by lia)
    exact .inr (take_idx hj (P.after hj hr (P.less r (by lia) h8)))
/-- the top of the heap is the next place of the row -/
theorem Places.top (P : Places key par file R) {i : Nat} {x : It} {ps : List It} (hh : Hp iLt (x :: ps)) (hp : ((x :: ps).map (·.2)).Perm ((front par R i).map key)) : ∃ r, R[i]? = some r ∧ x.2 = key r := by
  obtain ⟨p, hpf, hpx⟩ := List.mem_map.mp (hp.mem_iff.mp (show x.2 ∈ (x :: ps).map (·.2) from .head _))
  obtain ⟨h8, hnt, _⟩ := mem_front.mp hpf
  obtain ⟨j, hj, hj8⟩ := P.idx h8
  have hij : i ≤ j := by
    by_cases h : j < i
    · exact absurd (take_idx hj h) hnt
    · lia
  have hi : i < R.length := by rw [P.len]; lia
  obtain ⟨r, hr⟩ : ∃ r, R[i]? = some r := ⟨R[i], List.getElem?_eq_getElem hi⟩
  refine ⟨r, hr, ?_⟩
  by_cases e : i = j
  · rw [← e, hr] at hj; cases hj; exact hpx.symm
  · have h1 := P.before hr hj (by lia)
    obtain ⟨a, ha, hax⟩ := List.mem_map.mp (hp.mem_iff.mpr (List.mem_map.mpr ⟨r, P.next_front hr, rfl⟩))
    obtain ⟨k, hk, e2⟩ := List.mem_iff_getElem.mp ha
    have h2 := heap_min iLt_wo (fun a => kLt_irrefl a.2) hh (x := x) rfl k a (by rw [List.getElem?_eq_getElem hk, e2])
    have h3 : kLt a.2 x.2 = false := h2
    rw [hax, ← hpx, h1] at h3; cases h3
theorem take_next {i r : Nat} (hr : R[i]? = some r) : R.take (i + 1) = R.take i ++ [r] := by rw [List.take_add_one, hr]; rfl
/-- the next front: the place taken out, its children added -/
theorem Places.front_next (P : Places key par file R) {i r : Nat} (hr : R[i]? = some r) : (front par R (i + 1)).Perm ((front par R i).erase r ++ ((List.range 7).filter fun k => par (k + 1) == r).map (· + 1)) := by
  have hn1 : ((front par R i).erase r).Nodup := front_nodup.erase _
  have hn2 : (((List.range 7).filter fun k => par (k + 1) == r).map (· + 1)).Nodup := by
    unfold List.Nodup
    rw [List.pairwise_map]
    exact (List.Pairwise.filter _ List.nodup_range).imp fun h e => h (by lia)
  have hnr := P.not_take hr (Nat.le_refl _)
  rw [List.perm_ext_iff_of_nodup front_nodup ?_]
  · intro p
    rw [mem_front, List.mem_append, front_nodup.mem_erase_iff, mem_front, List.mem_map, take_next hr]
    simp only [List.mem_append, List.mem_singleton, List.mem_filter, List.mem_range, beq_iff_eq]
    constructor
    · rintro ⟨h8, hnt, h0⟩
      have hnt' : p ∉ R.take i ∧ p ≠ r := ⟨fun h => hnt (.inl h), fun h => hnt (.inr h)⟩
      rcases h0 with h0 | h0 | h0
      · exact .inl ⟨hnt'.2, h8, hnt'.1, .inl h0⟩
      · exact .inl ⟨hnt'.2, h8, hnt'.1, .inr h0⟩
      · by_cases hz : p = 0
        · exact .inl ⟨hnt'.2, h8, hnt'.1, .inl hz⟩
        · exact .inr ⟨p - 1, ⟨by lia, by rw [show p - 1 + 1 = p by lia]; exact h0⟩, by lia⟩
    · rintro (⟨hne, h8, hnt, h0⟩ | ⟨k, ⟨hk, hpk⟩, rfl⟩)
      · refine ⟨h8, fun h => h.elim hnt hne, ?_⟩
        rcases h0 with h0 | h0
        · exact .inl h0
        · exact .inr (.inl h0)
      · refine ⟨by lia, ?_, .inr (.inr hpk)⟩
        obtain ⟨j, hj, _⟩ := P.idx (p := k + 1) (by lia)
        have hless := P.less (k + 1) (by lia) (by lia)
        rw [hpk] at hless
        have := P.after hr hj hless
        rintro (h | h)
        · exact P.not_take hj (by lia) h
        · rw [h, kLt_irrefl] at hless; cases hless
  · refine List.nodup_append.mpr ⟨hn1, hn2, fun a ha b hb e => ?_⟩
    subst e
    obtain ⟨k, hk, rfl⟩ := List.mem_map.mp hb
    have hk2 := (List.mem_filter.mp hk).2
    have h3 := (front_nodup.mem_erase_iff.mp ha).2
    obtain ⟨_, _, h0⟩ := mem_front.mp h3
    rcases h0 with h0 | h0
    · lia
    · rw [show par (k + 1) = r by simpa using hk2] at h0; exact hnr h0
/-- what the search must keep -/
def Kept (key : Nat → Key) (par : Nat → Nat) (file : Nat → Bool) (R : List Nat) (say : Nat → Str × Str) (wish : Nat) (ps : List It) (told : List (Str × Str)) (os : List It) (n : Nat) : Prop :=
  ∃ i, i ≤ 8 ∧ n = 8 - i ∧ Hp iLt ps ∧ (ps.map (·.2)).Perm ((front par R i).map key) ∧ told = ((R.take i).filter file).map say ∧ os.map (·.2) = ((R.take i).filter fun p => !file p).map key ∧
    (told.length < wish ∨ (told.length = wish ∧ ∃ r, R[i - 1]? = some r ∧ file r = true ∧ 0 < i))
theorem Kept.lens (P : Places key par file R) {say : Nat → Str × Str} {wish : Nat} {ps : List It} {told : List (Str × Str)} {os : List It} {n : Nat} (h : Kept key par file R say wish ps told os n) : ps.length ≤ 8 ∧ told.length ≤ 8 ∧ os.length ≤ 8 := by
  obtain ⟨i, hi, _, _, hp, ht, ho, _⟩ := h
  have l := P.len
  refine ⟨?_, ?_, ?_⟩
  · have := hp.length_eq
    rw [List.length_map, List.length_map] at this
    have h2 : (front par R i).length ≤ 8 := by unfold front; exact Nat.le_trans (List.length_filter_le _ _) (by simp)
    lia
  · rw [ht, List.length_map]
    have := List.length_filter_le file (R.take i)
    rw [List.length_take] at this; lia
  · have := congrArg List.length ho
    rw [List.length_map, List.length_map] at this
    have h2 := List.length_filter_le (fun p => !file p) (R.take i)
    rw [List.length_take] at h2; lia
theorem Kept.start (P : Places key par file R) {say : Nat → Str × Str} {wish : Nat} (hw : 1 ≤ wish) {a : Addr} {k : Key} (hk : k = key 0) : Kept key par file R say wish [(a, k)] [] [] 8 := by
  refine ⟨0, by lia, rfl, ?_, ?_, rfl, rfl, .inl hw⟩
  · intro i x y h0 hx
    obtain ⟨j, rfl⟩ : ∃ j, i = j + 1 := ⟨i - 1, by lia⟩
    simp at hx
  · have : front par R 0 = [0] := by unfold front; rw [List.take_zero]; rfl
    rw [this, hk]; exact List.Perm.refl _
theorem erase_keys {i r : Nat} (hr : r ∈ front par R i) {k : Key} {ks : List Key} (hk : k = key r) (h : (k :: ks).Perm ((front par R i).map key)) : ks.Perm (((front par R i).erase r).map key) := by
  have h1 := (List.perm_cons_erase hr).map key
  rw [List.map_cons] at h1
  rw [hk] at h
  exact (h.trans h1).cons_inv
theorem Kept.dir (P : Places key par file R) {say : Nat → Str × Str} {wish : Nat} {x : It} {ps : List It} {told : List (Str × Str)} {os : List It} {n : Nat} (h : Kept key par file R say wish (x :: ps) told os n) (hw : told.length < wish) {r : Nat} (hr8 : r < 8) (hx : x.2 = key r) (hinj : ∀ p q, p < 8 → q < 8 → key p = key q → p = q)
    (hf : file r = false) {c : It} {cs : List It} (hc : (c :: cs).map (·.2) = ((List.range 7).filter fun k => par (k + 1) == r).map fun k => key (k + 1)) :
    ∃ n', n' < n ∧ Kept key par file R say wish (pushAll (suRes (c :: ps) c) cs) told (os ++ [x]) n' := by
  obtain ⟨i, hi, rfl, hh, hp, ht, ho, _⟩ := h
  obtain ⟨r', hr, hx'⟩ := P.top hh hp
  obtain rfl : r = r' := hinj _ _ hr8 (P.mem.mp (List.mem_of_getElem? hr)) (hx.symm.trans hx')
  have hi8 : i < 8 := by have := (List.getElem?_eq_some_iff.mp hr).1; rw [P.len] at this; exact this
  have s := suRes_ok (x := c) hh
  have u := pushAll_ok cs _ s.1
  refine ⟨8 - (i + 1), by lia, i + 1, by lia, rfl, u.1, ?_, ?_, ?_, .inl hw⟩
  · have h1 : ((pushAll (suRes (c :: ps) c) cs).map (·.2)).Perm (((c :: ps) ++ cs).map (·.2)) := (u.2.trans (s.2.append_right cs)).map _
    have h2 : (((c :: ps) ++ cs).map (·.2)).Perm (ps.map (·.2) ++ (c :: cs).map (·.2)) := by
      simp only [List.cons_append, List.map_cons, List.map_append]
      exact (List.perm_middle (a := c.2)).symm
    have h3 := erase_keys (P.next_front hr) hx hp
    have h4 := (P.front_next hr).map key
    rw [List.map_append, List.map_map] at h4
    refine h1.trans (h2.trans ?_)
    rw [hc]
    exact (h3.append_right _).trans h4.symm
  · rw [take_next hr, List.filter_append, ht]; simp [hf]
  · rw [take_next hr, List.filter_append, List.map_append, List.map_append, ho]; simp [hf, hx]
theorem Kept.pop (P : Places key par file R) {say : Nat → Str × Str} {wish : Nat} {y x : It} {ps qs : List It} {told : List (Str × Str)} {os : List It} {n : Nat} (h : Kept key par file R say wish (ps ++ [y]) told os n) (hw : told.length < wish) (hpop : (ps = [] ∧ x = y ∧ qs = []) ∨ (∃ rest, ps = x :: rest ∧ qs = suRes (y :: rest) y))
    {r : Nat} (hr8 : r < 8) (hx : x.2 = key r) (hinj : ∀ p q, p < 8 → q < 8 → key p = key q → p = q) (hf : file r = true) {t : Str × Str} (hs : t = say r) : ∃ n', n' < n ∧ Kept key par file R say wish qs (told ++ [t]) os n' := by
  obtain ⟨i, hi, rfl, hh, hp, ht, ho, _⟩ := h
  obtain ⟨tl, hxl⟩ : ∃ tl, ps ++ [y] = x :: tl ∧ Hp iLt qs ∧ (qs.map (·.2)).Perm (tl.map (·.2)) := by
    rcases hpop with ⟨rfl, rfl, rfl⟩ | ⟨rest, rfl, rfl⟩
    · exact ⟨[], rfl, fun i a b _ ha => by simp at ha, List.Perm.refl _⟩
    · have s := suRes_ok (x := y) (Hp.init hh)
      refine ⟨rest ++ [y], rfl, s.1, (s.2.map _).trans ?_⟩
      simp only [List.map_cons, List.map_append, List.map_nil]
      exact List.perm_append_comm (l₁ := [y.2])
  rw [hxl.1] at hh hp
  obtain ⟨r', hr, hx'⟩ := P.top hh hp
  obtain rfl : r = r' := hinj _ _ hr8 (P.mem.mp (List.mem_of_getElem? hr)) (hx.symm.trans hx')
  have hi8 : i < 8 := by have := (List.getElem?_eq_some_iff.mp hr).1; rw [P.len] at this; exact this
  have hno : ((List.range 7).filter fun k => par (k + 1) == r) = [] := by
    rw [List.filter_eq_nil_iff]
    intro k hk hpk
    have : file r = false := (P.fold r hr8).mpr ⟨k + 1, by lia, by have := List.mem_range.mp hk; lia, by simpa using hpk⟩
    rw [hf] at this; cases this
  have hlen : (told ++ [t]).length = told.length + 1 := by simp
  refine ⟨8 - (i + 1), by lia, i + 1, by lia, rfl, hxl.2.1, ?_, ?_, ?_, ?_⟩
  · have h3 := erase_keys (P.next_front hr) hx hp
    have h4 := (P.front_next hr).map key
    rw [hno, List.map_nil, List.append_nil] at h4
    exact hxl.2.2.trans (h3.trans h4.symm)
  · rw [take_next hr, List.filter_append, List.map_append, ht, hs]; simp [hf]
  · rw [take_next hr, List.filter_append, ho]; simp [hf]
  · by_cases h : (told ++ [t]).length < wish
    · exact .inl h
    · exact .inr ⟨by lia, r, by simpa using hr, hf, by lia⟩
/-- the end of the search -/
theorem Kept.fin (P : Places key par file R) {say : Nat → Str × Str} {wish : Nat} {ps : List It} {told : List (Str × Str)} {os : List It} {n : Nat} (h : Kept key par file R say wish ps told os n) (hend : ps = [] ∨ ¬ told.length < wish) {fs : List Nat} {last : Nat}
    (hfs : fs = (R.filter file).take wish) (hlast : fs[fs.length - 1]? = some last) : told = fs.map say ∧ os.map (·.2) = (R.filter fun p => !file p && kLt (key p) (key last)).map key := by
  obtain ⟨i, hi, rfl, hh, hp, ht, ho, hc⟩ := h
  have l := P.len
  have core : ∃ r, R[i - 1]? = some r ∧ file r = true ∧ 0 < i ∧ fs = (R.take i).filter file := by
    have split : R.filter file = (R.take i).filter file ++ (R.drop i).filter file := by rw [← List.filter_append, List.take_append_drop]
    have htl : told.length = ((R.take i).filter file).length := by rw [ht, List.length_map]
    rcases hc with hc | ⟨hc, r, hr, hf, h0⟩
    · have hps : ps = [] := hend.resolve_right (fun h => h hc)
      have hi8 : i = 8 := by
        by_cases h : i < 8
        · have hil : i < R.length := by lia
          have := P.next_front (List.getElem?_eq_getElem hil)
          rw [hps] at hp
          have := (hp.mem_iff (a := key R[i])).mpr (List.mem_map.mpr ⟨_, this, rfl⟩)
          simp at this
        · lia
      subst hi8
      have h7 : 7 < R.length := by lia
      have hr7 := List.getElem?_eq_getElem h7
      generalize R[7] = r at hr7
      have hr8 : r < 8 := P.mem.mp (List.mem_of_getElem? hr7)
      refine ⟨r, hr7, ?_, by lia, ?_⟩
      · cases hf : file r with
        | true => rfl
        | false =>
          obtain ⟨k, h1, h2, h3⟩ := (P.fold r hr8).mp hf
          obtain ⟨j, hj, hj8⟩ := P.idx h2
          have := P.after hr7 hj (by rw [← h3]; exact P.less k h1 h2)
          lia
      · rw [List.take_of_length_le (by lia : R.length ≤ 8)] at htl ⊢
        rw [hfs, List.take_of_length_le (by lia)]
    · refine ⟨r, hr, hf, h0, ?_⟩
      rw [hfs, split, ← hc, htl, List.take_left]
  obtain ⟨r, hr, hf, h0, hfe⟩ := core
  have htk : R.take i = R.take (i - 1) ++ [r] := by have := take_next hr; rwa [show i - 1 + 1 = i by lia] at this
  have hdr : R = R.take (i - 1) ++ r :: R.drop i := by
    have e := (List.take_append_drop i R).symm
    rw [htk] at e
    simpa using e
  have hlr : last = r := by
    rw [hfe, htk, List.filter_append] at hlast
    simp [hf] at hlast
    exact hlast.symm
  subst hlr
  refine ⟨by rw [ht, hfe], ?_⟩
  rw [ho, htk]
  conv => rhs; rw [hdr]
  rw [List.filter_append, List.filter_append]
  have hil : i - 1 < R.length := (List.getElem?_eq_some_iff.mp hr).1
  have e1 : (R.take (i - 1)).filter (fun p => !file p && kLt (key p) (key last)) = (R.take (i - 1)).filter fun p => !file p := by
    apply List.filter_congr
    intro p hp
    obtain ⟨j, hj, e⟩ := List.mem_iff_getElem.mp hp
    have hj2 : (R.take (i - 1))[j]? = some p := by rw [List.getElem?_eq_getElem hj, e]
    rw [List.getElem?_take] at hj2
    split at hj2
    · rename_i hji
      rw [P.before hj2 hr hji, Bool.and_true]
    · cases hj2
  have e2 : (R.drop i).filter (fun p => !file p && kLt (key p) (key last)) = [] := by
    rw [List.filter_eq_nil_iff]
    intro p hp
    obtain ⟨j, hj, e⟩ := List.mem_iff_getElem.mp hp
    have hj2 : (R.drop i)[j]? = some p := by rw [List.getElem?_eq_getElem hj, e]
    rw [List.getElem?_drop] at hj2
    have := kLt_asymm (P.before hr hj2 (by lia))
    simp [this]
  have e3 : (last :: R.drop i).filter (fun p => !file p && kLt (key p) (key last)) = [] := by
    rw [List.filter_cons_of_neg (by simp [hf]), e2]
  have e4 : [last].filter (fun p => !file p) = [] := by simp [hf]
  rw [e1, e3, e4]
end
end Mine
end
section
open PySem PySem.W PySem.Spec PySem.Calls PyProof.Rows PySem.Builtin.Str
set_option Elab.async false
set_option maxRecDepth 100000
set_option maxHeartbeats 4000000
set_option linter.unusedVariables false
namespace Mine
theorem Kept.head {key : Nat → Key} {par : Nat → Nat} {file : Nat → Bool} {R : List Nat} (P : Places key par file R) {say : Nat → Str × Str} {wish : Nat} {x : It} {ps : List It} {told : List (Str × Str)} {os : List It} {n : Nat} (h : Kept key par file R say wish (x :: ps) told os n) : ∃ r, r < 8 ∧ x.2 = key r := by
  obtain ⟨i, _, _, hh, hp, _⟩ := h
  obtain ⟨r, hr, hx⟩ := P.top hh hp
  exact ⟨r, P.mem.mp (List.mem_of_getElem? hr), hx⟩
theorem lacks_keep (ns ov : List Int) : ∀ i j k, k ≤ i → i ≤ j → (lacksUp ns ov j).getD k 0 = (lacksUp ns ov i).getD k 0 := by
  intro i j k hk hij
  induction j with
  | zero => obtain rfl : i = 0 := by lia
            rfl
  | succ j ih =>
    by_cases e : i = j + 1
    · rw [e]
    · rw [← ih (by lia)]
      show (lacksUp ns ov j ++ [_]).getD k 0 = _
      rw [List.getD_eq_getElem?_getD, List.getElem?_append_left (by rw [lacksUp_length]; lia), List.getD_eq_getElem?_getD]
def lack (ns ov : List Int) (k : Nat) : Int := (lacksUp ns ov 7).getD k 0
theorem lack_zero (ns ov : List Int) : lack ns ov 0 = 0 := by
  unfold lack; rw [lacks_keep ns ov 0 7 0 (Nat.le_refl _) (by decide)]; rfl
def par (ov : List Int) (p : Nat) : Nat := (ov.getD (p - 1) 0).toNat
section
variable {ns ov : List Int} (hb : ∀ k, 0 ≤ ov.getD k 0 ∧ ov.getD k 0 ≤ (k : Int))
include hb
theorem lack_succ {k : Nat} (hk : k < 7) : lack ns ov (k + 1) = Builtin.bitOr (lack ns ov (par ov (k + 1))) (ownLack (ns.getD k 0)) := by
  have h := hb k
  have hp : par ov (k + 1) ≤ k := by unfold par; rw [Nat.add_sub_cancel]; lia
  unfold lack
  rw [lacks_keep ns ov (k + 1) 7 (k + 1) (Nat.le_refl _) (by lia), lacks_keep ns ov k 7 (par ov (k + 1)) hp (by lia)]
  show (lacksUp ns ov k ++ [_]).getD (k + 1) 0 = _
  rw [List.getD_eq_getElem?_getD, List.getElem?_append_right (by rw [lacksUp_length]; lia), lacksUp_length, Nat.sub_self]
  rfl
theorem par_below {p : Nat} (h1 : 1 ≤ p) : par ov p < p := by
  have h := hb (p - 1)
  unfold par; lia
end
theorem lt_append : ∀ (l : List Nat) (c : Nat) (r : List Nat), l < l ++ c :: r
  | [], c, r => List.nil_lt_cons _ _
  | a :: l, c, r => List.cons_lt_cons_iff.mpr (.inr ⟨rfl, lt_append l c r⟩)
abbrev tsf (ov : List Int) (p : Nat) : Str := (lawTexts ov).getD p Str.empty
section
variable {ns ov : List Int} (hl : ov.length = 7) (hb : ∀ k, 0 ≤ ov.getD k 0 ∧ ov.getD k 0 ≤ (k : Int))
include hb
theorem text_grows {k : Nat} (hk : k < 7) : ∃ c r, cl (tsf ov (k + 1)) = cl (tsf ov (par ov (k + 1))) ++ c :: r := by
  have h := tx_list hb hk
  have hp : (ov.getD k 0).toNat = par ov (k + 1) := by unfold par; rw [Nat.add_sub_cancel]
  rw [hp] at h
  have hpb := par_below hb (p := k + 1) (by lia)
  obtain ⟨j, hj⟩ : ∃ j, j = par ov (k + 1) := ⟨_, rfl⟩
  rw [← hj] at h ⊢
  unfold tsf
  rw [ts_succ, h]
  cases j with
  | zero =>
    rw [tx_zero, cl_empty, ts_zero, cl_slash']
    obtain ⟨_, a, c, e, _⟩ := nm_facts hk
    rw [e]
    cases a with
    | nil => exact ⟨c, [], rfl⟩
    | cons a0 a => exact ⟨a0, a ++ [c], rfl⟩
  | succ j => rw [ts_succ]; exact ⟨47, cl (nm k), rfl⟩
theorem key_less {p : Nat} (h1 : 1 ≤ p) (h8 : p < 8) : kLt (keyAt ns ov (lawTexts ov) (par ov p)) (keyAt ns ov (lawTexts ov) p) = true := by
  obtain ⟨k, rfl⟩ : ∃ k, p = k + 1 := ⟨p - 1, by lia⟩
  have hs := lack_succ (ns := ns) hb (k := k) (by lia)
  obtain ⟨n, hn, _⟩ := lack_nat ns ov (par ov (k + 1))
  obtain ⟨m, hm, _⟩ := ownLack_nat (ns.getD k 0)
  obtain ⟨c, r, ht⟩ := text_grows hb (k := k) (by lia)
  have hn' : lack ns ov (par ov (k + 1)) = (n : Int) := hn
  rw [hn', hm, bitOr_nat] at hs
  have hle : n ≤ n ||| m := Nat.left_le_or
  unfold kLt keyAt
  show (if lack ns ov (par ov (k + 1)) = lack ns ov (k + 1) then decide (cl (tsf ov (par ov (k + 1))) < cl (tsf ov (k + 1))) else decide (lack ns ov (par ov (k + 1)) < lack ns ov (k + 1))) = true
  rw [hn', hs]
  by_cases e : ((n : Nat) : Int) = ((n ||| m : Nat) : Int)
  · rw [if_pos e, ht]; exact decide_eq_true (lt_append _ _ _)
  · rw [if_neg e]; exact decide_eq_true (by lia)
theorem tri_key_lt {i j : Nat} (hi : i < 8) (hj : j < 8) : lt3 (triAt ns ov (lawTexts ov) i) (triAt ns ov (lawTexts ov) j) = kLt (keyAt ns ov (lawTexts ov) i) (keyAt ns ov (lawTexts ov) j) := by
  by_cases e : i = j
  · subst e
    rw [kLt_irrefl]
    cases h : lt3 (triAt ns ov (lawTexts ov) i) (triAt ns ov (lawTexts ov) i) with
    | false => rfl
    | true => have := lt3_asymm h; rw [h] at this; exact this
  · have hne : tsf ov i ≠ tsf ov j := fun h => e (ts_inj hb hi hj h)
    unfold lt3 kLt triAt keyAt
    dsimp only
    by_cases h1 : (lacksUp ns ov 7).getD i 0 = (lacksUp ns ov 7).getD j 0
    · rw [if_pos h1, if_pos h1, if_neg hne]; rfl
    · rw [if_neg h1, if_neg h1]
theorem key_inj : ∀ p q, p < 8 → q < 8 → keyAt ns ov (lawTexts ov) p = keyAt ns ov (lawTexts ov) q → p = q := fun p q hp hq h => ts_inj hb hp hq (congrArg Prod.snd h)
include hl
theorem fold_iff {p : Nat} (hp : p < 8) : isFile ov p = false ↔ ∃ k, 1 ≤ k ∧ k < 8 ∧ par ov k = p := by
  unfold isFile
  rw [Bool.not_eq_false', List.any_eq_true]
  constructor
  · rintro ⟨z, hz, e⟩
    obtain ⟨k, hk, rfl⟩ := List.mem_iff_getElem.mp hz
    refine ⟨k + 1, by lia, by lia, ?_⟩
    unfold par
    rw [Nat.add_sub_cancel, List.getD_eq_getElem?_getD, List.getElem?_eq_getElem hk]
    have : ov[k] = (p : Int) := by simpa using e
    show (ov[k]).toNat = p
    lia
  · rintro ⟨k, h1, h8, rfl⟩
    have hk : k - 1 < ov.length := by lia
    have h := hb (k - 1)
    refine ⟨ov[k - 1], List.getElem_mem hk, ?_⟩
    unfold par
    rw [List.getD_eq_getElem?_getD, List.getElem?_eq_getElem hk] at h ⊢
    simp only [Option.getD_some] at h ⊢
    rw [beq_iff_eq]; lia
theorem places {R : List Nat} (hq : R.Perm (List.range 8)) (hs : R.Pairwise fun i j => lt3 (triAt ns ov (lawTexts ov) i) (triAt ns ov (lawTexts ov) j) = true) : Places (keyAt ns ov (lawTexts ov)) (par ov) (isFile ov) R where
  below := fun p h1 _ => par_below hb h1
  less := fun p h1 h8 => key_less hb h1 h8
  perm := hq
  sort := hs.imp_of_mem fun {i j} hi hj h => by
    rw [tri_key_lt hb (List.mem_range.mp (hq.mem_iff.mp hi)) (List.mem_range.mp (hq.mem_iff.mp hj))] at h; exact h
  fold := fun p hp => fold_iff hl hb hp
end
section
variable {ns ov : List Int} (hb : ∀ k, 0 ≤ ov.getD k 0 ∧ ov.getD k 0 ≤ (k : Int))
include hb
theorem names_of {r : Nat} (hr : r < 8) : namesOf (lawTexts ov) (tsf ov r) = ((List.range 7).filter fun k => par ov (k + 1) == r).map nm := by
  unfold namesOf
  rw [ts_eq_map ov, List.filter_map, List.range_succ_eq_map (n := 7), List.filter_cons]
  have h0 : ((fun k => decide (splitHead k = tsf ov r ∧ splitTail k ≠ Str.empty)) ∘ fun p => (lawTexts ov).getD p Str.empty) 0 = false := by
    show decide (splitHead ((lawTexts ov).getD 0 Str.empty) = _ ∧ splitTail ((lawTexts ov).getD 0 Str.empty) ≠ Str.empty) = false
    rw [tail_zero]; simp
  rw [h0, if_neg Bool.false_ne_true, List.filter_map, List.map_map, List.map_map]
  have e1 : (List.range 7).filter (((fun k => decide (splitHead k = tsf ov r ∧ splitTail k ≠ Str.empty)) ∘ fun p => (lawTexts ov).getD p Str.empty) ∘ Nat.succ) = (List.range 7).filter fun k => par ov (k + 1) == r := by
    apply List.filter_congr
    intro k hk
    have hk7 := List.mem_range.mp hk
    show decide (splitHead ((lawTexts ov).getD (k + 1) Str.empty) = _ ∧ splitTail ((lawTexts ov).getD (k + 1) Str.empty) ≠ Str.empty) = _
    rw [tail_succ hb hk7, head_succ hb hk7]
    have hp : (ov.getD k 0).toNat = par ov (k + 1) := by unfold par; rw [Nat.add_sub_cancel]
    rw [hp]
    have hpb := par_below hb (p := k + 1) (by lia)
    by_cases e : par ov (k + 1) = r
    · rw [e]; simp [nm_ne k hk7]
    · have : ¬ tsf ov (par ov (k + 1)) = tsf ov r := fun h => e (ts_inj hb (by lia) hr h)
      rw [beq_eq_false_iff_ne.mpr e]
      exact decide_eq_false fun h => this h.1
  rw [e1]
  apply List.map_congr_left
  intro k hk
  exact tail_succ hb (List.mem_range.mp (List.mem_filter.mp hk).1)
theorem ends_slash (x : Str) : Txt.endswith x (Str.ofString "/") = true ↔ ∃ a, cl x = a ++ [47] := by
  unfold Txt.endswith
  rw [cl_slash]
  have h1 : (⟨#[47]⟩ : Str).length = 1 := rfl
  rw [h1, Bool.and_eq_true, decide_eq_true_iff, Nat.zero_add]
  constructor
  · rintro ⟨hl, hs⟩
    have := (StrLaws.subAt_one x 47 (x.length - 1)).mp ⟨by rw [h1]; lia, hs⟩
    refine ⟨(cl x).dropLast, ?_⟩
    have hne : cl x ≠ [] := fun e => by rw [cl_len, e] at hl; simp at hl
    have hlast : (cl x).getLast hne = 47 := by
      rw [List.getLast_eq_getElem]
      have hlt : (cl x).length - 1 < (cl x).length := by rw [cl_len] at hl; lia
      have h2 : (cl x)[(cl x).length - 1]? = some 47 := this
      rw [List.getElem?_eq_getElem hlt] at h2
      exact Option.some.inj h2
    have e := List.dropLast_concat_getLast hne
    rw [hlast] at e
    exact e.symm
  · rintro ⟨a, e⟩
    have hl : x.length = a.length + 1 := by rw [cl_len, e]; simp
    refine ⟨by lia, ?_⟩
    refine ((StrLaws.subAt_one x 47 (x.length - 1)).mpr ?_).2
    show (cl x)[x.length - 1]? = some 47
    rw [hl, e]; simp
theorem join_child {k : Nat} (hk : k < 7) : joinS (tsf ov (par ov (k + 1))) (nm k) = tsf ov (k + 1) := by
  have h := tx_list hb hk
  have hp : (ov.getD k 0).toNat = par ov (k + 1) := by unfold par; rw [Nat.add_sub_cancel]
  rw [hp] at h
  have hpb := par_below hb (p := k + 1) (by lia)
  obtain ⟨j, hj⟩ : ∃ j, j = par ov (k + 1) := ⟨_, rfl⟩
  rw [← hj] at h ⊢
  unfold tsf joinS
  apply cl_inj
  rw [ts_succ, h]
  cases j with
  | zero =>
    rw [ts_zero, if_pos ((ends_slash hb _).mpr ⟨[], cl_slash'⟩), cl_app, cl_slash', tx_zero, cl_empty]; rfl
  | succ j =>
    obtain ⟨a, c, e, hc⟩ := tx_end hb (k := j) (by lia)
    rw [ts_succ, if_neg, cl_app, cl_app, cl_slash']
    · rfl
    · intro h2
      obtain ⟨b, e2⟩ := (ends_slash hb _).mp h2
      rw [e] at e2
      have := (List.append_inj' e2 rfl).2
      simp at this
      exact hc this
end
end Mine
end
section
open PySem PySem.W PySem.Spec PySem.Calls PyProof.Rows PySem.Builtin.Str
set_option Elab.async false
set_option maxRecDepth 100000
set_option maxHeartbeats 4000000
set_option linter.unusedVariables false
namespace Mine
/-- the mode of a path -/
def moOf (ms : List (Str × Int)) (s : Str) : Int := ((ms.find? fun e => decide (e.1 = s)).map (·.2)).getD 0
theorem find_nodup {α : Type} {ms : List (Str × α)} {k : Str} {x : α} (hn : (ms.map (·.1)).Nodup) (h : (k, x) ∈ ms) : ms.find? (fun e => decide (e.1 = k)) = some (k, x) := by
  induction ms with
  | nil => cases h
  | cons e ms ih =>
    have hn' := List.nodup_cons.mp hn
    rcases List.mem_cons.mp h with rfl | h
    · simp
    · have hne : e.1 ≠ k := fun q => hn'.1 (List.mem_map.mpr ⟨(k, x), h, q.symm⟩)
      rw [List.find?_cons, decide_eq_false hne]
      exact ih hn'.2 h
theorem value_mo {kvs : List (Str × Value)} {ms : List (Str × Int)} (h : MIs kvs ms) (hn : (ms.map (·.1)).Nodup) {k : Str} (hk : k ∈ kvs.map (·.1)) : ∃ t, valueAt kvs k = some (.int (moOf ms k) t) := by
  obtain ⟨⟨k', v⟩, hm, rfl⟩ := List.mem_map.mp hk
  obtain ⟨i, hi, e⟩ := List.mem_iff_getElem.mp hm
  obtain ⟨x, t, hx, rfl⟩ := h.2 i k' v (by rw [List.getElem?_eq_getElem hi, e])
  refine ⟨t, ?_⟩
  unfold valueAt moOf
  rw [find_nodup (by rw [h.1]; exact hn) hm, find_nodup hn (List.mem_of_getElem? hx)]
  rfl
section
variable {ns ov : List Int} (hb : ∀ k, 0 ≤ ov.getD k 0 ∧ ov.getD k 0 ≤ (k : Int))
include hb
theorem modes_keys : (modesUp ns ov (lawTexts ov) 7).map (·.1) = lawTexts ov := by
  rw [modesUp_keys ns ov (lawTexts ov) rfl 7 (by rw [ts_length]; decide), List.take_of_length_le (by rw [ts_length]; decide)]
theorem mo_root : moOf (modesUp ns ov (lawTexts ov) 7) (Str.ofString "/") = 16895 := by
  unfold moOf
  rw [find_nodup (ms := modesUp ns ov (lawTexts ov) 7) (k := Str.ofString "/") (x := 16895) (by rw [modes_keys hb]; exact ts_nodup hb) (.head _)]
  rfl
theorem mo_succ {k : Nat} (hk : k < 7) : moOf (modesUp ns ov (lawTexts ov) 7) (tsf ov (k + 1)) = modeNo ns ov k := by
  unfold moOf
  rw [find_nodup (ms := modesUp ns ov (lawTexts ov) 7) (k := tsf ov (k + 1)) (x := modeNo ns ov k) (by rw [modes_keys hb]; exact ts_nodup hb) (.tail _ (List.mem_map.mpr ⟨k, List.mem_range.mpr hk, rfl⟩))]
  rfl
theorem ts_mem {p : Nat} (hp : p < 8) : tsf ov p ∈ lawTexts ov := List.mem_of_getElem? (ts_get ov hp)
theorem mem_ts {s : Str} (h : s ∈ lawTexts ov) : ∃ p, p < 8 ∧ s = tsf ov p := by
  rw [ts_eq_map ov] at h
  obtain ⟨p, hp, rfl⟩ := List.mem_map.mp h
  exact ⟨p, List.mem_range.mp hp, rfl⟩
theorem dir_iff {r : Nat} (hr : r < 8) (hl : ov.length = 7) : Builtin.bitAnd (moOf (modesUp ns ov (lawTexts ov) 7) (tsf ov r)) 61440 = 16384 ↔ isFile ov r = false := by
  cases r with
  | zero =>
    rw [show tsf ov 0 = Str.ofString "/" from rfl, mo_root hb, root_high]
    constructor
    · intro _
      cases h : isFile ov 0 with
      | false => rfl
      | true => have := file_pos hl hb h; lia
    · intro _; rfl
  | succ k => rw [mo_succ hb (by lia), mode_dir]
theorem row_child {a : Addr} {x : It} {k : Nat} (hk : k < 7) (hx : x.2 = keyAt ns ov (lawTexts ov) (par ov (k + 1))) : rowOf (moOf (modesUp ns ov (lawTexts ov) 7)) x (nm k) = keyAt ns ov (lawTexts ov) (k + 1) := by
  unfold rowOf
  rw [hx]
  show (Builtin.bitOr (lack ns ov (par ov (k + 1))) (511 - Builtin.bitAnd (moOf _ (joinS (tsf ov (par ov (k + 1))) (nm k))) 4095), joinS (tsf ov (par ov (k + 1))) (nm k)) = (lack ns ov (k + 1), tsf ov (k + 1))
  rw [join_child hb hk, mo_succ hb hk, mode_low, lack_succ hb hk]
theorem told_child {x : It} {r : Nat} (hr : r < 8) (hl : ov.length = 7) (hx : x.2 = keyAt ns ov (lawTexts ov) r) (hf : isFile ov r = true) : (x.2.2, fileText (moOf (modesUp ns ov (lawTexts ov) 7)) x) = toldAt ns ov (lawTexts ov) r := by
  have h1 := file_pos hl hb hf
  obtain ⟨k, rfl⟩ : ∃ k, r = k + 1 := ⟨r - 1, by lia⟩
  obtain ⟨q, hq, hq16, hc⟩ := kind_nat ns ov k
  obtain ⟨n, hn, hn5⟩ := lack_nat ns ov (k + 1)
  rcases hc with ⟨_, h⟩ | ⟨_, h, _⟩
  · rw [hf] at h; cases h
  unfold fileText toldAt
  rw [hx]
  show (tsf ov (k + 1), Txt.join (Str.ofString "") (permUp (Builtin.bitAnd (moOf _ (tsf ov (k + 1))) 61440 + 511 - (lacksUp ns ov 7).getD (k + 1) 0) 10)) = (tsf ov (k + 1), signsUp (ns.getD k 0) ((lacksUp ns ov 7).getD (k + 1) 0) 9)
  rw [mo_succ hb (by lia), mode_high, hq, hn, file_signs (ns.getD k 0) q n h hn5]
/-- the search keeps -/
theorem sys_is (hl : ov.length = 7) {R : List Nat} (P : Places (keyAt ns ov (lawTexts ov)) (par ov) (isFile ov) R) {wish : Int} (hw : 1 ≤ wish) :
    Sys (lawTexts ov) (moOf (modesUp ns ov (lawTexts ov) 7)) wish (Kept (keyAt ns ov (lawTexts ov)) (par ov) (isFile ov) R (toldAt ns ov (lawTexts ov)) wish.toNat) where
  len := fun h => by have := h.lens P; lia
  key := fun h => by
    obtain ⟨r, hr, hx⟩ := h.head P
    rw [hx]; exact ts_mem hb hr
  dir := by
    intro x ps t os n h hlt hd
    obtain ⟨r, hr, hx⟩ := h.head P
    have hx2 : x.2.2 = tsf ov r := by rw [hx]; rfl
    rw [hx2] at hd ⊢
    have hf := (dir_iff hb hr hl).mp hd
    obtain ⟨k1, h1, h8, hp1⟩ := (fold_iff hl hb hr).mp hf
    obtain ⟨c0, cs, hcs⟩ : ∃ c0 cs, ((List.range 7).filter fun k => par ov (k + 1) == r) = c0 :: cs := by
      cases e : ((List.range 7).filter fun k => par ov (k + 1) == r) with
      | nil =>
        rw [List.filter_eq_nil_iff] at e
        exact absurd (by simpa [show k1 - 1 + 1 = k1 by lia] using hp1) (e (k1 - 1) (List.mem_range.mpr (by lia)))
      | cons c0 cs => exact ⟨c0, cs, rfl⟩
    have hmem : ∀ k ∈ c0 :: cs, k < 7 ∧ par ov (k + 1) = r := fun k hk => by
      rw [← hcs] at hk
      have := List.mem_filter.mp hk
      exact ⟨List.mem_range.mp this.1, by simpa using this.2⟩
    have hnames := names_of hb hr
    rw [hcs] at hnames
    refine ⟨nm c0, cs.map nm, hnames, ?_, ?_⟩
    · intro z hz
      obtain ⟨k, hk, rfl⟩ := List.mem_map.mp (show z ∈ (c0 :: cs).map nm from hz)
      obtain ⟨h7, hpr⟩ := hmem k hk
      rw [← hpr, join_child hb h7]
      exact ts_mem hb (by lia)
    · intro a as has
      have hrow : ∀ k ∈ c0 :: cs, rowOf (moOf (modesUp ns ov (lawTexts ov) 7)) x (nm k) = keyAt ns ov (lawTexts ov) (k + 1) := fun k hk => by
        obtain ⟨h7, hpr⟩ := hmem k hk
        exact row_child (a := a) hb h7 (by rw [hpr]; exact hx)
      refine h.dir P (by lia) hr hx (key_inj hb) hf ?_
      rw [hcs, List.map_cons, List.map_cons]
      congr 1
      · exact hrow c0 (.head _)
      · rw [List.length_map] at has
        clear hcs hnames
        have hrow' : ∀ k ∈ cs, rowOf (moOf (modesUp ns ov (lawTexts ov) 7)) x (nm k) = keyAt ns ov (lawTexts ov) (k + 1) := fun k hk => hrow k (.tail _ hk)
        clear hrow hmem
        induction cs generalizing as with
        | nil =>
          cases as with
          | nil => rfl
          | cons _ _ => simp at has
        | cons k cs ih =>
          cases as with
          | nil => simp at has
          | cons b as =>
            simp only [List.map_cons, List.zipWith_cons_cons]
            congr 1
            · exact hrow' k (.head _)
            · exact ih as (by simpa using has) fun k hk => hrow' k (.tail _ hk)
  file := by
    intro ps y t os n x qs h hlt hpop hd
    obtain ⟨tl, htl⟩ : ∃ tl, ps ++ [y] = x :: tl := by
      rcases hpop with ⟨rfl, rfl, _⟩ | ⟨rest, rfl, _⟩
      · exact ⟨[], rfl⟩
      · exact ⟨rest ++ [y], rfl⟩
    obtain ⟨r, hr, hx⟩ := (show Kept _ _ _ _ _ _ (x :: tl) t os n from htl ▸ h).head P
    have hx2 : x.2.2 = tsf ov r := by rw [hx]; rfl
    have hf : isFile ov r = true := by
      cases e : isFile ov r with
      | true => rfl
      | false => rw [hx2] at hd; exact absurd ((dir_iff hb hr hl).mpr e) hd
    exact h.pop P (by lia) hpop hr hx (key_inj hb) hf (told_child hb hr hl hx hf)
theorem sys_start {R : List Nat} (P : Places (keyAt ns ov (lawTexts ov)) (par ov) (isFile ov) R) {wish : Int} (hw : 1 ≤ wish) (a : Addr) :
    Kept (keyAt ns ov (lawTexts ov)) (par ov) (isFile ov) R (toldAt ns ov (lawTexts ov)) wish.toNat [(a, 511 - Builtin.bitAnd (moOf (modesUp ns ov (lawTexts ov) 7) (Str.ofString "/")) 4095, Str.ofString "/")] [] [] 8 := by
  refine Kept.start P (by lia) ?_
  rw [mo_root hb, root_low]
  show _ = (lack ns ov 0, tsf ov 0)
  rw [lack_zero]; rfl
theorem ts_len {s : Str} (h : s ∈ lawTexts ov) : s.length ≤ 1000 := by
  obtain ⟨p, hp, rfl⟩ := mem_ts hb h
  cases p with
  | zero => rw [show tsf ov 0 = Str.ofString "/" from rfl]; decide
  | succ k =>
    unfold tsf
    rw [ts_succ]
    unfold tx
    rw [List.getD_eq_getElem?_getD]
    cases e : (textsUp ov 7)[k + 1]? with
    | none => exact Nat.zero_le _
    | some y => have := textsUp_len ov 7 y (List.mem_of_getElem? e); show y.length ≤ 1000; lia
theorem ts_heads {s : Str} (h : s ∈ lawTexts ov) (ht : splitTail s ≠ Str.empty) : splitHead s ∈ lawTexts ov := by
  obtain ⟨p, hp, rfl⟩ := mem_ts hb h
  cases p with
  | zero => exact absurd (tail_zero ov) ht
  | succ k =>
    unfold tsf
    rw [head_succ hb (by lia)]
    exact ts_mem hb (by have := hb k; lia)
theorem no_slash {x : Str} (h : 47 ∉ cl x) : Txt.startswith x (Str.ofString "/") = false := by
  cases e : Txt.startswith x (Str.ofString "/") with
  | false => rfl
  | true =>
    exfalso
    unfold Txt.startswith at e
    rw [cl_slash] at e
    have h1 : (⟨#[47]⟩ : Str).length = 1 := rfl
    rw [h1, Bool.and_eq_true, decide_eq_true_iff] at e
    have := (StrLaws.subAt_one x 47 0).mp ⟨e.1, e.2⟩
    exact h (List.mem_of_getElem? this)
theorem ts_tails {s : Str} (h : s ∈ lawTexts ov) : s.length ≠ 0 ∧ (splitTail s).length ≤ 1000 ∧ Txt.startswith (splitTail s) (Str.ofString "/") = false := by
  obtain ⟨p, hp, rfl⟩ := mem_ts hb h
  cases p with
  | zero =>
    rw [show tsf ov 0 = (lawTexts ov).getD 0 Str.empty from rfl, tail_zero]
    exact ⟨by rw [ts_zero]; decide, by decide, by decide⟩
  | succ k =>
    rw [show tsf ov (k + 1) = (lawTexts ov).getD (k + 1) Str.empty from rfl, tail_succ hb (by lia)]
    refine ⟨?_, ?_, no_slash hb (nm_facts (by lia)).1⟩
    · rw [ts_succ, cl_len, tx_list hb (by lia)]; simp
    · have := lawNames_len k; show (lawNames.getD k Str.empty).length ≤ 1000; lia
theorem sys_end (hl : ov.length = 7) {R : List Nat} (P : Places (keyAt ns ov (lawTexts ov)) (par ov) (isFile ov) R) {wish : Int} {ps os : List It} {told : List (Str × Str)} {n : Nat}
    (h : Kept (keyAt ns ov (lawTexts ov)) (par ov) (isFile ov) R (toldAt ns ov (lawTexts ov)) wish.toNat ps told os n) (hend : ps = [] ∨ ¬ (told.length : Int) < wish) {fs : List Nat} {last : Nat} (hfs : fs = (R.filter (isFile ov)).take wish.toNat) (hlast : fs[fs.length - 1]? = some last) :
    told = fs.map (toldAt ns ov (lawTexts ov)) ∧ os.map (·.2) = (R.filter (isOpen ns ov (lawTexts ov) last)).map (keyAt ns ov (lawTexts ov)) := by
  have h1 := h.fin P (hend.imp_right fun h => by lia) hfs hlast
  refine ⟨h1.1, h1.2.trans ?_⟩
  congr 1
  apply List.filter_congr
  intro p hp
  have hl8 : last < 8 := by
    have hm := List.mem_of_getElem? hlast
    rw [hfs] at hm
    exact P.mem.mp (List.mem_filter.mp (List.mem_of_mem_take hm)).1
  unfold isOpen isFile
  rw [tri_key_lt hb (P.mem.mp hp) hl8, Bool.not_not]
end
end Mine
end
section
open PySem PySem.W PySem.Spec PySem.Calls PyProof.Rows PySem.SeqAt
set_option Elab.async false
set_option maxRecDepth 100000
set_option maxHeartbeats 4000000
set_option linter.unusedVariables false
namespace Mine
def strPair (p : Str × Str) : PyData := .tuple [.str p.1, .str p.2]
def keyPair (p : Int × Str) : PyData := .tuple [.int p.1, .str p.2]
def ansOf (told : List (Str × Str)) (ks : List (Int × Str)) : PyData := .tuple [.list (told.map strPair), .list (ks.map keyPair)]
theorem told_reads {h₀ h : Heap} {L : Addr} {X : List (Addr × Obj)} {vs told} (T : ToldIn X vs told) (N : News h₀ L h X) : ∃ as, ReadsAll h vs (told.map strPair) as := by
  induction T with
  | nil => exact ⟨_, .nil⟩
  | @cons a n t u vs told p hm _ ih =>
    obtain ⟨as, r⟩ := ih
    exact ⟨_, .cons (.tuple (N _ hm).1 rfl rfl (.cons (.str p.1 t) (.cons (.str p.2 u) .nil))) r⟩
theorem key_reads {h₀ h : Heap} {L : Addr} {X : List (Addr × Obj)} {vs ks} (T : KeyIn X vs ks) (N : News h₀ L h X) : ∃ as, ReadsAll h vs (ks.map keyPair) as := by
  induction T with
  | nil => exact ⟨_, .nil⟩
  | @cons a n t u vs ks p hm _ ih =>
    obtain ⟨as, r⟩ := ih
    exact ⟨_, .cons (.tuple (N _ hm).1 rfl rfl (.cons (.int p.1 t) (.cons (.str p.2 u) .nil))) r⟩
theorem its_key {X : List (Addr × Obj)} : ∀ {os : List It}, ItsIn X os → KeyIn X (os.map fun q => Value.ref q.1) (os.map (·.2))
  | [], _ => .nil
  | q :: os, h => by
    obtain ⟨n, t, u, hm⟩ := h q (.head _)
    exact .cons hm (its_key fun z hz => h z (.tail _ hz))
theorem ans_reads {h₀ h : Heap} {L D lt lo : Addr} {ws us : List Value} {n nt no : Nat} {X Y : List (Addr × Obj)} {told ks} (N : News h₀ L h X) (h1 : (D, tupObj [.ref lt, .ref lo] n) ∈ X) (h2 : (lt, listOf ws.toArray nt) ∈ X) (h3 : (lo, listOf us.toArray no) ∈ X) (hY : ∀ q ∈ Y, q ∈ X)
    (hT : ToldIn Y ws told) (hK : KeyIn Y us ks) : ∃ as, Reads h (.ref D) (ansOf told ks) as := by
  obtain ⟨a1, r1⟩ := told_reads (hT.mono hY) N
  obtain ⟨a2, r2⟩ := key_reads (hK.mono hY) N
  exact ⟨_, .tuple (N _ h1).1 rfl rfl (.cons (.list (N _ h2).1 rfl rfl r1) (.cons (.list (N _ h3).1 rfl rfl r2) .nil))⟩
theorem eqv_strs : ∀ l : List (Str × Str), PyData.eqvAll (l.map strPair) (l.map strPair) = true
  | [] => by simp [PyData.eqvAll]
  | p :: l => by
    rw [List.map_cons, PyData.eqvAll, eqv_strs l]
    simp [strPair, PyData.eqv, PyData.eqvAll]
theorem eqv_keys : ∀ l : List (Int × Str), PyData.eqvAll (l.map keyPair) (l.map keyPair) = true
  | [] => by simp [PyData.eqvAll]
  | p :: l => by
    rw [List.map_cons, PyData.eqvAll, eqv_keys l]
    simp [keyPair, PyData.eqv, PyData.eqvAll]
theorem ans_eqv (t k) : PyData.eqv (ansOf t k) (ansOf t k) = true := by
  unfold ansOf
  simp only [PyData.eqv, PyData.eqvAll, eqv_strs, eqv_keys, Bool.and_true]
theorem lay_strs : ∀ l : List (Str × Str), (∀ p ∈ l, PyData.strOk p.1 = true ∧ PyData.strOk p.2 = true) → PyData.canLayAll0 (l.map strPair) = true ∧ PyData.depthAll (l.map strPair) ≤ 1
  | [], _ => by simp [PyData.canLayAll0, PyData.depthAll]
  | p :: l, h => by
    have h1 := h p (.head _)
    have h2 := lay_strs l fun q hq => h q (.tail _ hq)
    rw [List.map_cons]
    simp only [strPair, PyData.canLayAll0, PyData.canLay0, PyData.depthAll, PyData.depth, h1.1, h1.2, h2.1, Bool.and_true, true_and]
    lia
theorem lay_keys : ∀ l : List (Int × Str), (∀ p ∈ l, PyData.strOk p.2 = true) → PyData.canLayAll0 (l.map keyPair) = true ∧ PyData.depthAll (l.map keyPair) ≤ 1
  | [], _ => by simp [PyData.canLayAll0, PyData.depthAll]
  | p :: l, h => by
    have h1 := h p (.head _)
    have h2 := lay_keys l fun q hq => h q (.tail _ hq)
    rw [List.map_cons]
    simp only [keyPair, PyData.canLayAll0, PyData.canLay0, PyData.depthAll, PyData.depth, h1, h2.1, Bool.and_true, true_and]
    lia
theorem ans_shaped {t : List (Str × Str)} {k : List (Int × Str)} (ht : ∀ p ∈ t, PyData.strOk p.1 = true ∧ PyData.strOk p.2 = true) (hk : ∀ p ∈ k, PyData.strOk p.2 = true) : shaped (ansOf t k) = true := by
  have h1 := lay_strs t ht
  have h2 := lay_keys k hk
  unfold shaped ansOf
  rw [Bool.and_eq_true, decide_eq_true_iff]
  constructor
  · simp [PyData.canLay0, PyData.canLayAll0, h1.1, h2.1]
  · simp only [PyData.depth, PyData.depthAll]
    lia
theorem ok_app {a b : Str} (ha : PyData.strOk a = true) (hb : PyData.strOk b = true) : PyData.strOk (a ++ b) = true := by
  unfold PyData.strOk at *
  show (a.cps ++ b.cps).all _ = true
  rw [Array.all_append, ha, hb]; rfl
theorem ok_nm (k : Nat) : PyData.strOk (nm k) = true := by
  match k with
  | 0 | 1 | 2 | 3 | 4 | 5 | 6 => decide +kernel
  | k + 7 => show PyData.strOk Str.empty = true; decide +kernel
theorem ok_tx {ov : List Int} (hb : ∀ k, 0 ≤ ov.getD k 0 ∧ ov.getD k 0 ≤ (k : Int)) : ∀ k, k < 8 → PyData.strOk (tx ov k) = true := by
  intro k
  induction k using Nat.strongRecOn with
  | ind k ih =>
    intro hk
    cases k with
    | zero => rw [tx_zero]; decide +kernel
    | succ k =>
      have h := hb k
      rw [tx_succ hb (by lia)]
      exact ok_app (ok_app (ih _ (by lia) (by lia)) (by decide +kernel)) (ok_nm k)
theorem ok_ts {ov : List Int} (hb : ∀ k, 0 ≤ ov.getD k 0 ∧ ov.getD k 0 ≤ (k : Int)) {p : Nat} (hp : p < 8) : PyData.strOk ((lawTexts ov).getD p Str.empty) = true := by
  cases p with
  | zero => rw [ts_zero]; decide +kernel
  | succ k => rw [ts_succ]; exact ok_tx hb _ hp
theorem ok_signs (x y : Int) : ∀ i, PyData.strOk (signsUp x y i) = true
  | 0 => by
    unfold signsUp kindSign
    rcases third (x.fdiv 810) with e | e | e <;> rw [e] <;> decide +kernel
  | i + 1 => by
    unfold signsUp
    refine ok_app (ok_signs x y i) ?_
    unfold signAt
    split
    · decide +kernel
    · have : i % 3 = 0 ∨ i % 3 = 1 ∨ i % 3 = 2 := by lia
      rcases this with e | e | e <;> rw [e] <;> decide +kernel
/-- the two answers are one -/
theorem ans_ok {ns ov : List Int} (hb : ∀ k, 0 ≤ ov.getD k 0 ∧ ov.getD k 0 ≤ (k : Int)) {R fs : List Nat} (hR : ∀ p ∈ R, p < 8) (hfs : ∀ p ∈ fs, p < 8) (f : Nat → Bool) : shaped (ansOf (fs.map (toldAt ns ov (lawTexts ov))) ((R.filter f).map (keyAt ns ov (lawTexts ov)))) = true := by
  refine ans_shaped ?_ ?_
  · intro q hq
    obtain ⟨p, hp, rfl⟩ := List.mem_map.mp hq
    exact ⟨ok_ts hb (hfs p hp), ok_signs _ _ _⟩
  · intro q hq
    obtain ⟨p, hp, rfl⟩ := List.mem_map.mp hq
    exact ok_ts hb (hR p (List.mem_filter.mp hp).1)
theorem nums_len (ns : List Int) : (lawNums ns).length = 7 := by
  unfold lawNums
  rw [List.length_append, List.length_map, List.length_drop]
  have : (ns.take 7).length ≤ 7 := by rw [List.length_take]; lia
  simp only [List.length_cons, List.length_nil]
  lia
theorem nums_bound (ns : List Int) (k : Nat) : 0 ≤ (lawNums ns).getD k 0 ∧ (lawNums ns).getD k 0 < 1000000 := by
  have key : ∀ x ∈ lawNums ns, 0 ≤ x ∧ x < 1000000 := by
    intro x hx
    unfold lawNums at hx
    rcases List.mem_append.mp hx with h | h
    · obtain ⟨z, _, rfl⟩ := List.mem_map.mp h
      exact ⟨Int.fmod_nonneg_of_pos _ (by decide), Int.fmod_lt_of_pos _ (by decide)⟩
    · have h2 := List.mem_of_mem_drop h
      simp only [List.mem_cons, List.not_mem_nil, or_false] at h2
      rcases h2 with rfl | rfl | rfl | rfl | rfl | rfl | rfl <;> decide
  rw [List.getD_eq_getElem?_getD]
  cases e : (lawNums ns)[k]? with
  | none => exact ⟨by decide, by decide⟩
  | some y => exact key y (List.mem_of_getElem? e)
def lawOv (ns : List Int) : List Int := (List.range 7).map fun k => (ns.getD k 0).fmod ((k : Int) + 1)
theorem ov_len (ns : List Int) : (lawOv ns).length = 7 := by unfold lawOv; simp
theorem ov_bound (ns : List Int) (k : Nat) : 0 ≤ (lawOv ns).getD k 0 ∧ (lawOv ns).getD k 0 ≤ (k : Int) := by
  rw [List.getD_eq_getElem?_getD]
  unfold lawOv
  rw [List.getElem?_map]
  by_cases h : k < 7
  · rw [List.getElem?_range h]
    have h1 := Int.fmod_nonneg_of_pos (ns.getD k 0) (b := (k : Int) + 1) (by lia)
    have h2 := Int.fmod_lt_of_pos (ns.getD k 0) (b := (k : Int) + 1) (by lia)
    exact ⟨h1, by show (ns.getD k 0).fmod ((k : Int) + 1) ≤ (k : Int); lia⟩
  · rw [List.getElem?_eq_none (by simp; lia)]
    exact ⟨Int.le_refl 0, by show (0 : Int) ≤ (k : Int); lia⟩
theorem law_off {L D : Nat} (h : L + 1 < D) : D ≠ L + 1 := by lia
theorem sorted_uniq {lt : Nat → Nat → Bool} (ha : ∀ {a b}, lt a b = true → lt b a = false) : ∀ {a b : List Nat}, a.Perm b → a.Pairwise (fun x y => lt x y = true) → b.Pairwise (fun x y => lt x y = true) → a = b
  | [], b, h, _, _ => (List.nil_perm.mp h).symm
  | x :: a, [], h, _, _ => absurd h.symm (by simp)
  | x :: a, y :: b, h, pa, pb => by
    have e : x = y := by
      by_cases e : x = y
      · exact e
      · have h1 : x ∈ b := (List.mem_cons.mp (h.mem_iff.mp (.head _))).resolve_left e
        have h2 : y ∈ a := (List.mem_cons.mp (h.mem_iff.mpr (.head _))).resolve_left (Ne.symm e)
        have h3 := (List.pairwise_cons.mp pa).1 y h2
        have h4 := (List.pairwise_cons.mp pb).1 x h1
        rw [ha h3] at h4; cases h4
    subst e
    rw [sorted_uniq ha h.cons_inv (List.pairwise_cons.mp pa).2 (List.pairwise_cons.mp pb).2]
theorem row_exists {ns ov : List Int} (hb : ∀ k, 0 ≤ ov.getD k 0 ∧ ov.getD k 0 ≤ (k : Int)) : ∃ R : List Nat, R.Perm (List.range 8) ∧ R.Pairwise fun i j => lt3 (triAt ns ov (lawTexts ov) i) (triAt ns ov (lawTexts ov) j) = true := by
  let le : Nat → Nat → Bool := fun i j => !(lt3 (triAt ns ov (lawTexts ov) j) (triAt ns ov (lawTexts ov) i))
  have hp := List.mergeSort_perm (List.range 8) le
  refine ⟨(List.range 8).mergeSort le, hp, ?_⟩
  have hinj : ∀ i j, i ≠ j → triAt ns ov (lawTexts ov) i ≠ triAt ns ov (lawTexts ov) j := fun i j hij e => by
    have := congrArg (fun t : Tri => t.2.2) e
    simp only [triAt] at this
    lia
  have htot : ∀ i j, (le i j || le j i) = true := fun i j => by
    show (!(lt3 _ _) || !(lt3 _ _)) = true
    cases h : lt3 (triAt ns ov (lawTexts ov) j) (triAt ns ov (lawTexts ov) i) with
    | false => rfl
    | true => rw [lt3_asymm h]; rfl
  have htr : ∀ i j k, le i j = true → le j k = true → le i k = true := fun i j k h1 h2 => by
    have h1' : lt3 (triAt ns ov (lawTexts ov) j) (triAt ns ov (lawTexts ov) i) = false := by simpa [le] using h1
    have h2' : lt3 (triAt ns ov (lawTexts ov) k) (triAt ns ov (lawTexts ov) j) = false := by simpa [le] using h2
    show (!(lt3 (triAt ns ov (lawTexts ov) k) (triAt ns ov (lawTexts ov) i))) = true
    cases h : lt3 (triAt ns ov (lawTexts ov) k) (triAt ns ov (lawTexts ov) i) with
    | false => rfl
    | true =>
      by_cases e : i = j
      · subst e; rw [h] at h2'; cases h2'
      · have := lt3_trans h (lt3_total (hinj j i (Ne.symm e)) h1')
        rw [this] at h2'; cases h2'
  have hs := List.pairwise_mergeSort htr htot (List.range 8)
  have hnd : ((List.range 8).mergeSort le).Nodup := hp.nodup_iff.mpr List.nodup_range
  exact (hs.and hnd).imp fun {i j} h => by
    have h1 : lt3 (triAt ns ov (lawTexts ov) j) (triAt ns ov (lawTexts ov) i) = false := by simpa [le] using h.1
    exact lt3_total (hinj j i (Ne.symm h.2)) h1
theorem wish_bound (x : Int) : 1 ≤ x.fmod 3 + 1 ∧ x.fmod 3 + 1 ≤ 3 := by
  have h1 := Int.fmod_nonneg_of_pos x (b := 3) (by decide)
  have h2 := Int.fmod_lt_of_pos x (b := 3) (by decide)
  lia
theorem not_sys {D k : Nat} (h : k < D) (hk : 1 < k) : ((D : Addr) == sysModules) = false := by
  show (D == 1) = false
  rw [beq_eq_false_iff_ne]; lia
end Mine
end
section
open PySem PySem.W PySem.Spec PySem.Calls PyProof.Rows
set_option Elab.async false
set_option maxRecDepth 100000
set_option maxHeartbeats 8000000
set_option linter.unusedVariables false
namespace Mine
local macro_rules | `(tactic| walk_at "call ref") => `(tactic| (k_here; refine Stop.of ?_))
local macro_rules | `(tactic| walk_at "exec Assign cons DictComp") => `(tactic| (k_here; refine Stop.of ?_))
local macro_rules | `(tactic| walk_at "exec For Name Name cons nil") => `(tactic| (k_here; refine Stop.of ?_))
local macro_rules | `(tactic| walk_at "exec While BoolOp cons nil") => `(tactic| (k_here; refine Stop.of ?_))
local macro_rules | `(tactic| walk_at "pyIter ref") => `(tactic| (k_here; refine Stop.of ?_))
local macro_rules | `(tactic| walk_at "subscriptTail Name Constant ref int") => `(tactic| (k_here; refine Stop.of ?_))
local macro_rules | `(tactic| walk_at "compareOp NotEq ref ref") => `(tactic| (k_here; refine Stop.of ?_))
local macro_rules | `(tactic| walk_at "compareOp NotEq") => `(tactic| (k_here; refine Stop.of ?_))
local macro_rules | `(tactic| walk_at "call builtin:len") => `(tactic| (k_here; refine Stop.of ?_))
local macro_rules | `(tactic| walk_at "subscriptTail Name Name ref str") => `(tactic| (k_here; refine Stop.of ?_))
local macro_rules | `(tactic| walk_at "subscriptTail Name Constant ref str") => `(tactic| (k_here; refine Stop.of ?_))
local macro_rules | `(tactic| walk_at "call builtin:list.append") => `(tactic| (k_here; refine Stop.of ?_))
local macro_rules | `(tactic| walk_at "ForPost") => `(tactic| (k_here; refine Stop.of ?_))
local macro_rules | `(tactic| walk_at "storeName") => `(tactic| (k_here; (first | (with_reducible show wpAny _ _ (storeName _ (Str.ofString "lack") _) _ _ _) | (with_reducible show wpAny _ _ (storeName _ (Str.ofString "path") _) _ _ _)); refine Stop.of ?_))
local macro_rules | `(tactic| walk_at "CompSrc") => `(tactic| (k_here; refine Stop.of ?_))
local macro_rules | `(tactic| walk_at "exec Assign cons ListComp") => `(tactic| (k_here; refine Stop.of ?_))
local macro_rules | `(tactic| walk_at "CompEnd") => `(tactic| (k_here; refine Stop.of ?_))
local macro_rules | `(tactic| walk_at "FinA") => `(tactic| (k_here; refine Stop.of ?_))
local macro_rules | `(tactic| walk_at "WhileStep2") => `(tactic| (k_here; refine Stop.of ?_))
local macro_rules | `(tactic| walk_at "subscriptTail Name Slice ref ref") => `(tactic| (k_here; refine Stop.of ?_))
local macro_rules | `(tactic| walk_at "exec For Name Subscript cons nil") => `(tactic| (k_here; refine Stop.of ?_))
theorem told_c {w : World} {p : Program} {loose : List Str} {mean : ExcName → Option Value} {mg mb : Str → Option Value}
    {dp un : Nat} {gd : Option (List Code)} {env : Env} {outer : List Env} {A₀ : Around} {base h₀ : Heap} {L : Addr} {m : Str → Option Value} {s : Shared} {Q E : Value → Shared → Prop}
    {news : List (Addr × Obj)} {dm : Addr} {om : Obj} {kvs : List (Str × Value)} {wish : Int} {tw : Tok}
    (B : Below A₀ base outer h₀) (F : Fr h₀ L s.heap m) (X : (hd.heap_1 w.params).In h₀) (T : Top p loose mean mg mb h₀)
    (hf : env.frame = some L) (hk : env.scope.kind = .function) (hd1 : dp + 12 < recursionLimit) (hu1 : un + 200 < cLine) (N : News h₀ L s.heap news) (hmm : (dm, om) ∈ news) (hdm : om.IsDictOf (strKind PySem.Challenge.rw_pd0151_01.row.prog w) kvs) (hsys : (dm == sysModules) = false) (hlen : kvs.length ≤ 1000) {mo : Str → Int} {Inv : List It → List (Str × Str) → List It → Nat → Prop} {n₀ : Nat} (S : Sys (kvs.map (·.1)) mo wish Inv) (hini : ∀ a : Addr, Inv [(a, 511 - Builtin.bitAnd (mo (Str.ofString "/")) 4095, Str.ofString "/")] [] [] n₀) (hmo : ∀ k ∈ kvs.map (·.1), ∃ t, valueAt kvs k = some (.int (mo k) t)) (hroot : Str.ofString "/" ∈ kvs.map (·.1)) (hkl : ∀ k ∈ kvs.map (·.1), k.length ≤ 1000) (hkh : ∀ k ∈ kvs.map (·.1), splitTail k ≠ Str.empty → splitHead k ∈ kvs.map (·.1))
    (hks : ∀ k ∈ kvs.map (·.1), k.length ≠ 0 ∧ (splitTail k).length ≤ 1000 ∧ Txt.startswith (splitTail k) (Str.ofString "/") = false)
    (hret : ∀ (D lt lo : Addr) (ps os : List It) (tvs : List Value) (told : List (Str × Str)) (n nt no : Nat) (Y : List (Addr × Obj)) (h' : Heap) (tk' : Nat), Fr h₀ L h' m → News h₀ L h' ((D, tupObj [.ref lt, .ref lo] 0) :: (lt, listOf tvs.toArray nt) :: (lo, listOf (refs os) no) :: Y) →
      ToldIn Y tvs told → ItsIn Y os → (∀ q ∈ news, q ∈ Y) → Inv ps told os n → (ps = [] ∨ ¬ (told.length : Int) < wish) → Q (.ref D) { s with heap := h', toks := tk' }) :
    wpAny (model PySem.Challenge.rw_pd0151_01.row.prog w) (tp dp un gd env outer) (call (.ref 249) [.ref dm, .int wish tw]) Q E s := by
  w_top off
  revert X; k_fill; intro X
  refine wpAny_call ?_
  k_dflt (refine' code_defC ?k1 ?k2 ?k3 ?k4 ?k5 ?kA ?kF ?kK ?k6 ?k7 ?k8 ?k9 ?kB ?kD ?_ ?c2 ?c3 ?c4; (case kA => exact rfl); (case kF => first | assumption | exact rfl); (case kK => first | assumption | exact rfl); (case k1 => k_asm); (case k2 => k_asm); (case k3 => k_asm); (case k4 => k_asm); (case k5 => k_asm); (case k6 => k_is); (case k7 => k_is); (case k8 => ktr_room); (case k9 => exact BindsTo.of_eq rfl); (case kB => exact rfl); (case kD => decide +kernel); (case c2 => exact rfl); (case c3 => exact rfl); (case c4 => exact rfl); k_whole; intro g' L' h' tk' cells' FG' F' N' Y' B' X' T' l1; (try k_lt l1); k_cells Y'; (try simp only [List.cons_append, List.nil_append] at N'); (try dsimp only); (try k_lift B'); (refine wpAny_noRaise ?_); (try k_fold))
  rename_i oa ob oc da db dc
  replace da : oa.data = .cell none := da
  replace db : ob.data = .cell none := db
  replace dc : oc.data = .cell (some (.ref dm)) := dc
  have F1 : Fr g' L' h' (fun z => if z = Str.ofString "wish" then some (.int wish tw) else none) := Eq.mp (congrArg (Fr g' L' h') (by with_unfolding_all rfl)) F'
  clear F'
  k_steps
  refine Stop.mk ?_
  refine dictcomp_lists (kvs := kvs) F1 rfl (by with_unfolding_all rfl) (by with_unfolding_all rfl) (by decide) (by rfl) (by decide) (by rfl) (by rfl) (by rfl) ?hk ?hv ?_
  case hk =>
    intro C s' m₂ v E' R hn hv hr
    exact wpAny_Name (wpAny_loadName_local (by rfl) (by rfl) hn hv hr)
  case hv =>
    intro C s' E' R hr
    exact wpAny_List_spliced (wpAny_pure ⟨Nat.zero_le _, hr⟩)
  k_steps
  refine Stop.mk ⟨dm, om, _, rfl, rfl, F1, N', .tail _ (.tail _ (.tail _ hmm)), hdm, hsys, hlen, ?_⟩
  intro D oD h2 tk2 ls F2 N2 hdD hls nd offl ltD offD
  clear F1 N'
  have TO : ToldOff L' D ls news := ⟨ad5 (ltD _ (.head _)), l1, fun l hl => ⟨ad5 (offl l hl _ (.head _)), fun e => offD (l, LCg.lst []) (List.mem_append_left _ (List.mem_map.mpr ⟨l, hl, rfl⟩)) e⟩⟩
  have hnk : (kvs.map (·.1)).Nodup := let ⟨_, _, _, _, _, _, r⟩ := hdm; r
  have N3 := news_ord N2
  rw [← tbNew_L kvs ls hls] at N3
  rw [← tbNew_K] at hdD
  clear N2 offl ltD offD
  k_steps
  refine Stop.mk ?_
  refine for_in ?_
  k_steps
  refine Stop.mk ?_
  refine go_dict (kvs := kvs) (od := om) rfl F2 N3 (.tail _ (.tail _ (.tail _ (.tail _ (List.mem_append_right _ hmm))))) hdm hsys (fun _ _ _ _ q => let_name q) ?_
  intro I h4 l4
  refine ForRest.invH (n := kvs.length) (fun i m nw => ∃ (ob' : Obj) (cv : Option Value) (tb : Tb) (u1 u2 : Option Value), m = (fun z => if z = Str.ofString "tail" then u1 else if z = Str.ofString "head" then u2 else if z = Str.ofString "names" then some (Value.ref D) else if z = Str.ofString "wish" then some (Value.int wish tw) else none) ∧
    nw = (L' + 1 + 1, ob') :: (L' + 1 + 1 + 1, oa) :: (L' + 1, oc) :: (D, oD) :: (tbL tb ++ news) ∧ ob'.data = .cell cv ∧ tb.map (·.1) = kvs.map (·.1) ∧ tb.map (·.2.1) = ls ∧ TbIs tb ((kvs.map (·.1)).take i) ∧ oD.IsDictOf (strKind PySem.Challenge.rw_pd0151_01.row.prog w) (tbK tb)) ?_ ?_ kvs.length 0 _ _ (Nat.zero_add _) ?_
  · rintro R1 i m nw v oI h5 tk5 hR1 hi ⟨ob5, cv5, tb, u1, u2, rfl, rfl, dob5, tk_, ta_, hT, hdD5⟩ ⟨k5, x5, t5, hk5, rfl⟩ F5 N5 off5
    refine cell_set F5 (news_swap N5) ?_ dob5 rfl ?_
    · intro q hq
      rcases List.mem_cons.mp hq with e | hq
      · rw [e]; exact Ne.symm (off5 _ (.head _))
      · exact TO.path ta_ q hq
    intro h6 ob6 F6 N6 dob6
    k_steps
    refine Stop.mk ?_
    refine split_c B' F6 X' T' rfl rfl ?_ ?_ N6 ?_ ?_
    · simp only [depth_deeper]; exact dlt hd1 rfl
    · simp only [units_deeper]; exact dlt hu1 rfl
    · exact hkl k5 (List.mem_map.mpr ⟨_, List.mem_of_getElem? hk5, rfl⟩)
    intro D7 t7 u7 h7 tk7 F7 N7 l7
    have l8 : (k5 ∈ kvs.map (·.1)) := List.mem_map.mpr ⟨_, List.mem_of_getElem? hk5, rfl⟩
    have eD : ((kvs.map (·.1)).take i) ++ [k5] = (kvs.map (·.1)).take (i + 1) := by
      rw [List.take_add_one, List.getElem?_map, hk5]; rfl
    have eM : (fun y => if y = Str.ofString "tail" then some (Value.str (splitTail k5) u7) else if y = Str.ofString "head" then some (Value.str (splitHead k5) t7) else if y = Str.ofString "tail" then u1 else if y = Str.ofString "head" then u2 else if y = Str.ofString "names" then some (Value.ref D) else if y = Str.ofString "wish" then some (Value.int wish tw) else none)
      = (fun z => if z = Str.ofString "tail" then some (Value.str (splitTail k5) u7) else if z = Str.ofString "head" then some (Value.str (splitHead k5) t7) else if z = Str.ofString "names" then some (Value.ref D) else if z = Str.ofString "wish" then some (Value.int wish tw) else none) := (funext fun z => by
          by_cases e0 : z = Str.ofString "tail"
          · rw [e0]; rfl
          by_cases e1 : z = Str.ofString "head"
          · rw [e1]; rfl
          simp only [e0, e1, if_false])
    k_steps
    · rename_i h8 F8 N8 tk8 hne8
      have hne : splitTail k5 ≠ Str.empty := fun e => by rw [e] at hne8; exact absurd hne8 (by decide +kernel)
      obtain ⟨l, vs, he⟩ := tb_find (tk_ ▸ hkh k5 l8 hne)
      refine Stop.mk ?_
      refine dict_get N8 (.tail _ (.tail _ (.tail _ (.tail _ (.tail _ (.head _)))))) hdD5 (tb_get (tk_ ▸ hnk) he) ?_ (by with_unfolding_all rfl)
      intro tk9
      have N9 := news_add (a := (l, LCg.lst vs)) N8 (.tail _ (.tail _ (.tail _ (.tail _ (.tail _ (.tail _ (List.mem_append_left _ (tb_mem he))))))))
      k_steps
      refine Stop.mk ?_
      refine tb_append (tb := tb) (e := (splitHead k5, l, vs)) (pre := [(D7, _), (L' + 1 + 1, _), (I, _), (L' + 1 + 1 + 1, _), (L' + 1, _), (D, _)]) (rest := news) F8 N8 (tk_ ▸ hnk) (ta_ ▸ nd) he (TO.pre ta_ ?_ ?_) (TO.rest ta_) (hT.small he (by simpa using hlen)) ?_
      · exact fun q hq => l7 q (.tail _ (.tail _ (.tail _ (.tail _ (.tail _ (List.mem_append_left _ hq))))))
      · exact fun q hq => off5 q (.tail _ (.tail _ (.tail _ (.tail _ (List.mem_append_left _ hq)))))
      intro h10 F10 N10
      clear N9 N8 F8
      k_steps
      refine hR1 _ _ ?_
      rw [eM] at F10
      refine ⟨_, _, _, (L' + 1 + 1, ob6) :: (L' + 1 + 1 + 1, oa) :: (L' + 1, oc) :: (D, oD) :: (tbL (tbAdd tb (splitHead k5) (.str (splitTail k5) u7)) ++ news), rfl, F10, news_swap (fun p hp => N10 p (.tail _ hp)), ?_, ?_, ob6, _, tbAdd tb (splitHead k5) (.str (splitTail k5) u7), _, _, rfl, rfl, dob6, (tbAdd_keys _ _ _).trans tk_, (tbAdd_addr _ _ _).trans ta_, eD ▸ hT.add hne, (tbAdd_K tb _ _).symm ▸ hdD5⟩
      · intro p hp
        rcases List.mem_cons.mp hp with e | hp
        · rw [e]; exact off5 (L' + 1 + 1, ob5) (.head _)
        · rcases List.mem_cons.mp hp with e | hp
          · rw [e]; exact off5 (L' + 1 + 1 + 1, oa) (.tail _ (.head _))
          · rcases List.mem_cons.mp hp with e | hp
            · rw [e]; exact off5 (L' + 1, oc) (.tail _ (.tail _ (.head _)))
            · rcases List.mem_cons.mp hp with e | hp
              · rw [e]; exact off5 (D, oD) (.tail _ (.tail _ (.tail _ (.head _))))
              · rcases List.mem_append.mp hp with hp | hp
                · have z := tbL_addr hp
                  rw [tbAdd_addr] at z
                  obtain ⟨e, he, hz⟩ := List.mem_map.mp z
                  exact hz ▸ off5 (e.2.1, LCg.lst e.2.2) (.tail _ (.tail _ (.tail _ (.tail _ (List.mem_append_left _ (List.mem_map.mpr ⟨e, he, rfl⟩))))))
                · exact off5 p (.tail _ (.tail _ (.tail _ (.tail _ (List.mem_append_right _ hp)))))
      · exact .tail _ (.tail _ (.tail _ (.tail _ (List.mem_append_right _ hmm))))
    · rename_i h8 F8 N8 tk8 hne8
      have hne : splitTail k5 = Str.ofString "" := by simpa using hne8
      rw [show Str.ofString "" = Str.empty by decide +kernel] at hne
      refine hR1 _ _ ?_
      rw [eM] at F8
      refine ⟨_, _, _, (L' + 1 + 1, ob6) :: (L' + 1 + 1 + 1, oa) :: (L' + 1, oc) :: (D, oD) :: (tbL tb ++ news), rfl, F8, news_swap (fun p hp => N8 p (.tail _ hp)), ?_, ?_, ob6, _, tb, _, _, rfl, rfl, dob6, tk_, ta_, eD ▸ hT.skip hne, hdD5⟩
      · intro p hp
        rcases List.mem_cons.mp hp with e | hp
        · rw [e]; exact off5 (L' + 1 + 1, ob5) (.head _)
        · exact off5 p (.tail _ hp)
      · exact .tail _ (.tail _ (.tail _ (.tail _ (List.mem_append_right _ hmm))))
  · rintro m nw h5 tk5 ⟨ob5, cv5, tb, u1, u2, rfl, rfl, dob5, tk_, ta_, hT, hdD5⟩ F5 N5
    change Fr g' L' h5 _ at F5
    change News g' L' h5 _ at N5
    k_steps
    refine Stop.mk ?_
    obtain ⟨t6, hv6⟩ := hmo _ hroot
    refine dict_get N5 (.tail _ (.tail _ (.tail _ (.tail _ (List.mem_append_right _ hmm))))) hdm hv6 ?_ (by with_unfolding_all rfl)
    intro tk6
    k_steps
    refine Stop.mk ?_
    refine simode_c B' F5 X' T' rfl rfl ?_ ?_ N5 ?_
    · simp only [depth_deeper]; exact dlt hd1 rfl
    · simp only [units_deeper]; exact dlt hu1 rfl
    intro t7 h7 tk7 F7 N7
    k_steps
    refine Stop.mk ?_
    rename_i D8 h8a lA lh h8b lB lt h8c lC lo h8d lD D9 h8e lE h8f h8g h8h h8 F8 N8
    have AP : Apart L' D lh lt lo := ⟨TO.d, lB.2.2.2.2.1, lC.1, lD.1⟩
    have AP8 := ap8 TO.d lA.2.2.2.1 lB.1 lC.1 lD.1
    refine While_invH (fun n m nw => ∃ (op oa' : Obj) (cp ca : Option Value) (ps os : List It) (tvs : List Value) (told : List (Str × Str)) (nh nt no : Nat) (Y : List (Addr × Obj)) (u1 u2 u3 u4 u5 : Option Value),
      m = (fun z => if z = Str.ofString "row" then u1 else if z = Str.ofString "rows" then u2 else if z = Str.ofString "spots" then u3 else if z = Str.ofString "heap" then some (Value.ref lh) else if z = Str.ofString "told" then some (Value.ref lt) else if z = Str.ofString "opened" then some (Value.ref lo) else if z = Str.ofString "tail" then u4 else if z = Str.ofString "head" then u5 else if z = Str.ofString "names" then some (Value.ref D) else if z = Str.ofString "wish" then some (Value.int wish tw) else none) ∧
      nw = (L' + 1 + 1, op) :: (L' + 1 + 1 + 1, oa') :: (lh, listOf (refs ps) nh) :: (lt, listOf tvs.toArray nt) :: (lo, listOf (refs os) no) :: (L' + 1, oc) :: (D, oD) :: Y ∧ op.data = .cell cp ∧ oa'.data = .cell ca ∧
      ItsIn Y ps ∧ ItsIn Y os ∧ ToldIn Y tvs told ∧ (∀ q ∈ tbL tb ++ news, q ∈ Y) ∧ OffY L' D lh lt lo Y ∧ Inv ps told os n) F8 (news_ord2 N8) (n₀ := n₀) ?_ ?_ PassesOwn.never
    · refine ⟨ob5, oa, _, _, [(D8, 511 - Builtin.bitAnd (mo (Str.ofString "/")) 4095, Str.ofString "/")], [], [], [], 0, 0, 0, _, none, none, none, u1, u2, (funext fun z => by
          by_cases e0 : z = Str.ofString "row"
          · rw [e0]; rfl
          by_cases e1 : z = Str.ofString "rows"
          · rw [e1]; rfl
          by_cases e2 : z = Str.ofString "spots"
          · rw [e2]; rfl
          simp only [e0, e1, e2, if_false]), rfl, dob5, da, ?_, fun _ h => (nomatch h), .nil, fun q hq => .tail _ hq, ?_, hini D8⟩
      · intro q hq
        rw [List.mem_singleton.mp hq]; exact ⟨_, _, _, .head _⟩
      · exact (TO.offY ta_ AP (allLt_mem lB.2.2.2.2.2)).cons AP8
    rintro R R' n m nw h9 tk9 hR hR' F9 N9 ⟨op, oa', cp, ca, ps, os, tvs, told, nh, nt, no, Y, u1, u2, u3, u4, u5, rfl, rfl, dop, doa, hIp, hIo, hTo, hsub, hoff, hInv⟩
    k_steps
    refine Stop.mk ?_
    rename_i b10 h10 F10 N10 l10
    refine ne_nil (N10 _ (.tail _ (.tail _ (.tail _ (.head _))))).1 (N10 _ (.head _)).1 ?_ ?_
    · simp only [units_deeper]; lia
    k_steps
    · refine Stop.mk ?_
      have hl11 := hTo.length
      refine ls_len (N10 _ (.tail _ (.tail _ (.tail _ (.tail _ (.head _)))))).1 (by have := S.len hInv; lia) ?_
      intro t11 tk11
      rw [hl11]
      k_steps
      · refine Stop.mk ?_
        rename_i hne11 hwish
        obtain ⟨x, ps', rfl⟩ := refs_cons hne11
        obtain ⟨nx, tx, ux, hmx⟩ := hIp x (.head _)
        have N11 : News g' L' h10 ((x.1, tupObj [.int x.2.1 tx, .str x.2.2 ux] nx) :: (L' + 1 + 1, op) :: (L' + 1 + 1 + 1, oa') :: (lh, listOf (refs (x :: ps')) nh) :: (lt, listOf tvs.toArray nt) :: (lo, listOf (refs os) no) :: (L' + 1, oc) :: (D, oD) :: Y) := news_add (fun p hp => N10 p (.tail _ hp)) (.tail _ (.tail _ (.tail _ (.tail _ (.tail _ (.tail _ (.tail _ hmx)))))))
        clear N10
        refine hp_sub0 (N11 _ (.tail _ (.tail _ (.tail _ (.head _))))).1 (by have := S.len hInv; lia) ?_ (by with_unfolding_all rfl)
        k_steps
        rename_i h12 F12 N12
        refine Stop.mk ?_
        refine storeX_C F12 (news_mem N12 (mvA (x := (x.1, _)))) (by rfl) (.head (lg_lack AP hoff)) doa ?_
        intro h13 oa13 F13 N13 doa13
        clear N12 F12
        k_steps
        refine Stop.mk ?_
        refine storeX_C F13 (news_mem N13 mvB) (by rfl) (.head (lg_path AP hoff)) dop ?_
        intro h14 op14 F14 N14 dop14
        clear N13 F13
        have hkx := S.key hInv
        obtain ⟨t15, hv15⟩ := hmo _ hkx
        have hmd : (dm, om) ∈ Y := hsub _ (List.mem_append_right _ hmm)
        k_steps
        refine Stop.mk ?_
        refine dict_get N14 (.tail _ (.tail _ (.tail _ (.tail _ (.tail _ (.tail _ (.tail _ hmd))))))) hdm hv15 ?_ (by with_unfolding_all rfl)
        intro tk15
        k_steps
        refine Stop.mk ?_
        refine sisdir_c B' F14 X' T' rfl rfl ?_ ?_ N14 ?_
        · simp only [depth_deeper]; exact dlt hd1 rfl
        · simp only [units_deeper]; exact dlt hu1 rfl
        intro h16 tk16 F16 N16
        clear N14 F14
        k_steps
        · rename_i hdir
          refine Stop.mk ?_
          obtain ⟨q0, qs0, hnm, hjk, hnext⟩ := S.dir hInv hwish hdir
          refine LCg.Assign_ListComp_U (F₀ := F16) (by rfl) (by with_unfolding_all rfl) (by with_unfolding_all rfl) (by decide) (by rfl) (by decide) (by rfl) (by rfl) (by rfl) ?_
          k_steps
          refine Stop.mk ?_
          obtain ⟨ln, vsn, hen⟩ := tb_find (tk_ ▸ hkx)
          have hTn : StrsAre vsn (q0 :: qs0) := names_at hT hen (by simp) hnm
          have hTl : vsn.length ≤ 1000 := by have := hT.small hen (n := 1000) (by simpa using hlen); exact this
          refine dict_get N16 (.tail _ (.tail _ (.tail _ (.tail _ (.tail _ (.tail _ (.head _))))))) hdD5 (tb_get (tk_ ▸ hnk) hen) ?_ (by with_unfolding_all rfl)
          intro tk17
          k_steps
          refine Stop.mk ?_
          have hmn : (ln, LCg.lst vsn) ∈ Y := hsub _ (List.mem_append_left _ (tb_mem hen))
          refine LCg.CompSrc.ledger rfl F16 N16 (.tail _ (.tail _ (.tail _ (.tail _ (.tail _ (.tail _ (.tail _ hmn))))))) (by rw [sizeLine_eq, List.size_toArray]; lia) ?_
          intro g18
          refine comp_invH (n := vsn.toArray.size) (fun i ys nw => StrsAre ys (((q0 :: qs0).take i).map (joinS x.2.2)) ∧ nw = (L' + 1 + 1, op14) :: (L' + 1 + 1 + 1, oa13) :: (lh, listOf (refs (x :: ps')) nh) :: (lt, listOf tvs.toArray nt) :: (lo, listOf (refs os) no) :: (L' + 1, oc) :: (D, oD) :: Y) ?_ ?_ vsn.toArray.size 0 _ _ (Nat.zero_add _) ⟨.nil, rfl⟩
          · rintro R3 i ys nw v I18 oI18 C18 oC18 D18 m18 h18 tk18 E18 hR3 hi ⟨hys, rfl⟩ hv hC18 hm18 F18 N18 off18 ne18
            obtain ⟨z18, t18, hz18, rfl⟩ := strs_at hTn hv
            have hz := namesOf_mem hks (p := x.2.2) (z := z18) (by rw [hnm]; exact List.mem_of_getElem? hz18)
            k_steps
            refine Stop.mk ?_
            refine join_c B' F18 X' T' rfl rfl ?_ ?_ N18 (hkl _ hkx) hz.1 hz.2 (hks _ hkx).1 ?_
            · simp only [depth_deeper]; exact dlt hd1 rfl
            · simp only [units_deeper]; exact dlt hu1 rfl
            intro t19 h19 tk19 F19 N19
            k_steps
            refine hR3 _ _ ?_
            exact ⟨_, _, _, rfl, F19, N19, off18, .inr ⟨_, .tail _ (.tail _ (.tail _ (.tail _ (.tail _ (.tail _ (.tail _ hmn)))))), rfl, _, rfl⟩, take_snoc_strs hys hz18, rfl⟩
          · rintro ys nw ⟨hys, rfl⟩
            intro D20 h20 tk20 F20 N20 o20
            have hyl : ys.length = (q0 :: qs0).length := by have e1 := strs_len hys; have e2 := strs_len hTn; rw [List.size_toArray, e2, List.take_length, List.length_map] at e1; exact e1
            have hys' : StrsAre ys ((q0 :: qs0).map (joinS x.2.2)) := by have e2 := strs_len hTn; rw [List.size_toArray, e2, List.take_length] at hys; exact hys
            have hTl' : (q0 :: qs0).length ≤ 1000 := by rw [← strs_len hTn]; exact hTl
            have hoff20 : OffY L' D lh lt lo ((D20, LCg.lst ys) :: Y) := hoff.off1 (off1_mem o20)
            k_steps
            refine Stop.mk ?_
            refine LCg.Assign_ListComp_U (F₀ := F20) (by rfl) (by with_unfolding_all rfl) (by with_unfolding_all rfl) (by decide) (by rfl) (by decide) (by rfl) (by rfl) (by rfl) ?_
            k_steps
            refine Stop.mk ?_
            refine LCg.CompSrc.ledger rfl F20 (news_mem N20 mv8) (.tail _ (.tail _ (.tail _ (.tail _ (.tail _ (.tail _ (.tail _ (.head _)))))))) (by rw [sizeLine_eq, List.size_toArray]; lia) ?_
            intro g21
            refine comp_invH (n := ys.toArray.size) (fun i zs nw => ∃ (its : List It) (Y' : List (Addr × Obj)), zs = its.map (fun q => Value.ref q.1) ∧ its.map (·.2) = ((q0 :: qs0).take i).map (rowOf mo x) ∧ nw = (L' + 1 + 1, op14) :: (L' + 1 + 1 + 1, oa13) :: (lh, listOf (refs (x :: ps')) nh) :: (lt, listOf tvs.toArray nt) :: (lo, listOf (refs os) no) :: (L' + 1, oc) :: (D, oD) :: Y' ∧
              (∀ q ∈ (D20, LCg.lst ys) :: Y, q ∈ Y') ∧ OffY L' D lh lt lo Y' ∧ ItsIn Y' its) ?_ ?_ ys.toArray.size 0 _ _ (Nat.zero_add _) ⟨[], _, rfl, rfl, rfl, fun _ h => h, hoff20, fun _ h => nomatch h⟩
            · rintro R4 i zs nw v I22 oI22 C22 oC22 D22 m22 h22 tk22 E22 hR4 hi ⟨its, Y', rfl, hits, rfl, hsub22, hoff22, hIt22⟩ hv hC22 hm22 F22 N22 off22 ne22
              obtain ⟨z22, t22, hz22, rfl⟩ := strs_at hys' hv
              obtain ⟨q22, hq22, rfl⟩ := map_at hz22
              obtain ⟨t23, hv23⟩ := hmo _ (hjk q22 (List.mem_of_getElem? hq22))
              have hmd22 : (dm, om) ∈ Y' := hsub22 _ (.tail _ hmd)
              k_steps
              refine Stop.mk ?_
              refine dict_get N22 (.tail _ (.tail _ (.tail _ (.tail _ (.tail _ (.tail _ (.tail _ (.tail _ (.tail _ (.tail _ hmd22)))))))))) hdm hv23 ?_ (by with_unfolding_all rfl)
              intro tk23
              k_steps
              refine Stop.mk ?_
              refine simode_c B' F22 X' T' rfl rfl ?_ ?_ N22 ?_
              · simp only [depth_deeper]; exact dlt hd1 rfl
              · simp only [units_deeper]; exact dlt hu1 rfl
              intro t24 h24 tk24 F24 N24
              clear N22 F22
              k_steps
              refine hR4 _ _ ?_
              rename_i D26 h26 F26 N26 l26
              refine ⟨_, _, (L' + 1 + 1, op14) :: (L' + 1 + 1 + 1, oa13) :: (lh, listOf (refs (x :: ps')) nh) :: (lt, listOf tvs.toArray nt) :: (lo, listOf (refs os) no) :: (L' + 1, oc) :: (D, oD) :: (D26, tupObj [Value.int (Builtin.bitOr x.2.1 (511 - Builtin.bitAnd (mo (joinS x.2.2 q22)) 4095)) (tk24 + 1), Value.str (joinS x.2.2 q22) t22] 0) :: Y', rfl, F26, news_mem N26 mvR, off3_add off22 l26.1 l26.2.1 l26.2.2.1, ?_, its ++ [(D26, rowOf mo x q22)], _, ?_, ?_, rfl, fun q hq => .tail _ (hsub22 q hq), hoff22.add (AllLt.ap l26.2.2.2), ItsIn.snoc (x := (D26, rowOf mo x q22)) hIt22⟩
              · exact .inr ⟨_, .tail _ (.tail _ (.tail _ (.tail _ (.tail _ (.tail _ (.tail _ (.tail _ (hsub22 _ (.head _))))))))), rfl, _, rfl⟩
              · rw [List.map_append]; rfl
              · rw [List.map_append, hits, take_snoc_at hq22, List.map_append]; rfl
            · rintro zs nw ⟨its, Y', rfl, hits, rfl, hsub22, hoff22, hIt22⟩
              intro D25 h25 tk25 F25 N25 o25
              have hoff25 : OffY L' D lh lt lo ((D25, LCg.lst (its.map fun q => Value.ref q.1)) :: Y') := hoff22.off1 (off1_mem o25)
              rw [List.size_toArray, hyl, List.take_length] at hits
              obtain ⟨a0, its', rfl, hits', hitl⟩ := its_split hits
              obtain ⟨n26, hn26, hInv26⟩ := hnext a0 (its'.map (·.1)) (by rw [List.length_map]; exact hitl)
              rw [← hits'] at hInv26
              have hlen26 := S.len hInv26
              have hlen0 := S.len hInv
              rw [pushAll_len, suRes_len] at hlen26
              simp only [List.length_cons] at hlen26 hlen0
              have hsubY : ∀ q ∈ Y, q ∈ Y' := fun q hq => hsub22 q (.tail _ hq)
              k_steps
              refine Stop.mk ?_
              refine hp_sub0 (x := (a0, rowOf mo x q0)) (ps := its') (N25 _ (.head _)).1 (by simp only [List.length_cons]; lia) ?_ (by with_unfolding_all rfl)
              k_steps
              refine Stop.mk ?_
              refine heapreplace_c (x := (a0, rowOf mo x q0)) (y := x) (ps := ps') (l := lh) B' F25 X' T' rfl rfl ?_ ?_ (news_mem N25 mvH) (lg_heap AP hoff25) ?_ ?_ ?_ ?_
              · simp only [depth_deeper]; exact dlt hd1 rfl
              · simp only [units_deeper]; exact dlt hu1 rfl
              · exact hIp.mono fun q hq => .tail _ (.tail _ (.tail _ (.tail _ (.tail _ (.tail _ (.tail _ (hsubY q hq)))))))
              · obtain ⟨n', t', u', hm'⟩ := hIt22 (a0, rowOf mo x q0) (.head _)
                exact ⟨n', t', u', .tail _ (.tail _ (.tail _ (.tail _ (.tail _ (.tail _ (.tail _ hm'))))))⟩
              · simp only [List.length_cons]; lia
              intro h27 tk27 F27 N27
              clear N25
              k_steps
              refine Stop.mk ?_
              refine hp_append (l := lo) (ps := os) (x := x) F27 (news_mem N27 mvO) (lg_open AP hoff25) (by lia) ?_
              intro h28 F28 N28
              have N29 := news_mem N28 mvC
              clear N27 F27 N28
              k_steps
              refine Stop.mk ?_
              refine for_in ?_
              k_steps
              refine Stop.mk ?_
              refine kms_slice_lit (its := (((a0, rowOf mo x q0) :: its').map fun q => Value.ref q.1).toArray) F28 N29 ⟨_, (N29 _ (.tail _ (.tail _ (.tail _ (.tail _ (.tail _ (.tail _ (.tail _ (.head _)))))))) ).1, rfl, _, rfl⟩ (.int 1 _) .none (pick_from1 (((a0, rowOf mo x q0) :: its').map fun q => Value.ref q.1) (by simp)) ?_ (by with_unfolding_all rfl) (by intro _; with_unfolding_all rfl) (by rw [sizeLine_eq, List.size_toArray, List.length_map, List.length_cons]; lia)
              intro D30 h30 F30 N30 l30
              clear N29 F28
              have hoff30 := OffY.addAll (o := listOf (its'.map fun q => Value.ref q.1).toArray 0) hoff25 l30
              k_steps
              refine Stop.mk ?_
              refine go_list (its := (its'.map fun q => Value.ref q.1).toArray) (n := 0) rfl F30 (news_mem N30 mv8) (.tail _ (.tail _ (.tail _ (.tail _ (.tail _ (.tail _ (.tail _ (.head _)))))))) (fun _ _ _ _ _ _ q => let_name q) ?_
              intro I31 h31 l31
              refine ForRest.invH (n := (its'.map fun q => Value.ref q.1).toArray.size) (fun i m nw => ∃ (hs : List It) (nh' : Nat) (u : Option Value), m = (fun z => if z = Str.ofString "row" then u else if z = Str.ofString "rows" then some (Value.ref D25) else if z = Str.ofString "spots" then some (Value.ref D20) else if z = Str.ofString "heap" then some (Value.ref lh) else if z = Str.ofString "told" then some (Value.ref lt) else if z = Str.ofString "opened" then some (Value.ref lo) else if z = Str.ofString "tail" then u4 else if z = Str.ofString "head" then u5 else if z = Str.ofString "names" then some (Value.ref D) else if z = Str.ofString "wish" then some (Value.int wish tw) else none) ∧
                nw = (L' + 1 + 1, op14) :: (L' + 1 + 1 + 1, oa13) :: (lh, listOf (refs hs) nh') :: (lt, listOf tvs.toArray nt) :: (lo, listOf (refs (os ++ [x])) (no + 1)) :: (L' + 1, oc) :: (D, oD) :: (D30, listOf (its'.map fun q => Value.ref q.1).toArray 0) :: (D25, LCg.lst (((a0, rowOf mo x q0) :: its').map fun q => Value.ref q.1)) :: Y' ∧ hs = pushAll (suRes ((a0, rowOf mo x q0) :: ps') (a0, rowOf mo x q0)) (its'.take i) ∧ ItsIn ((D30, listOf (its'.map fun q => Value.ref q.1).toArray 0) :: (D25, LCg.lst (((a0, rowOf mo x q0) :: its').map fun q => Value.ref q.1)) :: Y') hs) ?_ ?_ _ 0 _ _ (Nat.zero_add _) ⟨_, nh, u1, (funext fun z => by
          by_cases e0 : z = Str.ofString "row"
          · rw [e0]; rfl
          by_cases e1 : z = Str.ofString "rows"
          · rw [e1]; rfl
          by_cases e2 : z = Str.ofString "spots"
          · rw [e2]; rfl
          simp only [e0, e1, e2, if_false]), rfl, rfl, ?_⟩
              · rintro R5 i m nw v oI h32 tk32 hR5 hi ⟨hs, nh', u, rfl, rfl, hhs, hI32⟩ hv F32 N32 off32
                change Fr g' L' h32 _ at F32
                change News g' L' h32 _ at N32
                obtain ⟨z33, hz33, rfl⟩ := ref_at hv
                have hz33m : z33 ∈ its' := List.mem_of_getElem? hz33
                have hz33X : ∃ n t u, (z33.1, tupObj [.int z33.2.1 t, .str z33.2.2 u] n) ∈ Y' := hIt22 z33 (.tail _ hz33m)
                have hIlh : I31 ≠ lh := Ne.symm (off32 _ (.tail _ (.tail _ (.head _))))
                k_steps
                refine Stop.mk ?_
                rename_i h33 F33 N33
                refine heappush_c (x := z33) (ps := hs) (l := lh) B' F33 X' T' rfl rfl ?_ ?_ (news_mem N33 mvI) (lg_heapI (o1 := op14) AP hoff30 hIlh) hI32.mem7 ?_ ?_ ?_
                · simp only [depth_deeper]; exact dlt hd1 rfl
                · simp only [units_deeper]; exact dlt hu1 rfl
                · obtain ⟨n', t', u', hm'⟩ := hz33X
                  exact ⟨n', t', u', mem7 (.tail _ (.tail _ hm'))⟩
                · rw [hhs, pushAll_len, suRes_len, List.length_take]; simp only [List.length_cons]; lia
                intro h34 tk34 F34 N34
                clear N33 F33
                k_steps
                refine hR5 _ _ ?_
                refine ⟨_, _, _, (L' + 1 + 1, op14) :: (L' + 1 + 1 + 1, oa13) :: (lh, listOf (refs (sdGo iLt z33 (hs ++ [z33]) hs.length)) (nh' + 1)) :: (lt, listOf tvs.toArray nt) :: (lo, listOf (refs (os ++ [x])) (no + 1)) :: (L' + 1, oc) :: (D, oD) :: (D30, listOf (its'.map fun q => Value.ref q.1).toArray 0) :: (D25, LCg.lst (((a0, rowOf mo x q0) :: its').map fun q => Value.ref q.1)) :: Y', rfl, F34, news_mem N34 mvJ, ?_, mem7 (.head _), sdGo iLt z33 (hs ++ [z33]) hs.length, nh' + 1, some (Value.ref z33.1), (funext fun z => by
          by_cases e0 : z = Str.ofString "row"
          · rw [e0]; rfl
          simp only [e0, if_false]), rfl, ?_, ?_⟩
                · exact off_h off32
                · rw [take_snoc_at hz33, pushAll_snoc, ← hhs]
                · exact ItsIn.sd hI32 (let ⟨n', t', u', hm'⟩ := hz33X; ⟨n', t', u', .tail _ (.tail _ hm')⟩)
              · rintro m nw h32 tk32 ⟨hs, nh', u, rfl, rfl, hhs, hI32⟩ F32 N32
                change Fr g' L' h32 _ at F32
                change News g' L' h32 _ at N32
                k_steps
                refine hR _ _ ?_
                rw [List.size_toArray, List.length_map, List.take_length] at hhs
                refine ⟨_, _, _, _, n26, rfl, F32, N32, hn26, op14, oa13, _, _, hs, os ++ [x], tvs, told, nh', nt, no + 1, _, u, _, _, u4, u5, rfl, rfl, dop14, doa13, hI32, ?_, ?_, ?_, hoff30, ?_⟩
                · exact ItsIn.push (hIo.mono fun q hq => .tail _ (.tail _ (hsubY q hq))) ⟨nx, tx, ux, .tail _ (.tail _ (hsubY _ hmx))⟩
                · exact hTo.mono fun q hq => .tail _ (.tail _ (hsubY q hq))
                · exact fun q hq => .tail _ (.tail _ (hsubY q (hsub q hq)))
                · rw [hhs]; exact hInv26
              · refine ItsIn.suRes fun q hq => ?_
                rcases List.mem_cons.mp hq with rfl | hq
                · obtain ⟨n', t', u', hm'⟩ := hIt22 (a0, rowOf mo x q0) (.head _)
                  exact ⟨n', t', u', .tail _ (.tail _ hm')⟩
                · obtain ⟨n', t', u', hm'⟩ := hIp q (.tail _ hq)
                  exact ⟨n', t', u', .tail _ (.tail _ (hsubY _ hm'))⟩
        · rename_i hdir
          refine Stop.mk ?_
          obtain ⟨ps0, y0, he0⟩ := list_snoc x ps'
          have hIp0 := hIp
          have hInv0 := hInv
          rw [he0] at N16 hInv0
          refine heappop_c (ps := ps0) (y := y0) (l := lh) B' F16 X' T' rfl rfl ?_ ?_ (news_mem N16 mv3) (lg_heap AP hoff) ?_ ?_ ?_ ?_
          · simp only [depth_deeper]; exact dlt hd1 rfl
          · simp only [units_deeper]; exact dlt hu1 rfl
          · rw [he0] at hIp0
            exact fun q hq => let ⟨n', t', u', hm'⟩ := hIp0 q (List.mem_append_left _ hq); ⟨n', t', u', mem6 hm'⟩
          · rw [he0] at hIp0
            exact let ⟨n', t', u', hm'⟩ := hIp0 y0 (List.mem_append_right _ (.head _)); ⟨n', t', u', mem6 hm'⟩
          · have h1 := S.len hInv0
            have h2 := congrArg List.length he0
            rw [List.length_append, List.length_singleton] at h1
            lia
          intro h17 tk17 n17 r qs F17 N17 hpop
          obtain rfl : x = r := (pop_head he0 hpop).symm
          have N18 : News g' L' h17 ((x.1, tupObj [.int x.2.1 tx, .str x.2.2 ux] nx) :: (lh, listOf (refs qs) n17) :: (L' + 1 + 1, op14) :: (L' + 1 + 1 + 1, oa13) :: (lt, listOf tvs.toArray nt) :: (lo, listOf (refs os) no) :: (L' + 1, oc) :: (D, oD) :: Y) := news_add N17 (.tail _ (mem6 hmx))
          clear N17 N16 F16
          k_steps
          rename_i h19 F19 N19
          refine Stop.mk ?_
          refine storeX_C F19 (news_mem N19 mvW) (by rfl) (.head (lg_lack AP hoff)) doa13 ?_
          intro h20 oa20 F20 N20 doa20
          clear N19 F19
          k_steps
          refine Stop.mk ?_
          refine storeX_C F20 (news_mem N20 mvB) (by rfl) (.head (lg_path AP hoff)) dop14 ?_
          intro h21 op21 F21 N21 dop21
          clear N20 F20
          k_steps
          refine Stop.mk ?_
          refine dict_get N21 (.tail _ (.tail _ (.tail _ (.tail _ (.tail _ (.tail _ (.tail _ hmd))))))) hdm hv15 ?_ (by with_unfolding_all rfl)
          intro tk22
          k_steps
          refine Stop.mk ?_
          refine sifmt_c B' F21 X' T' rfl rfl ?_ ?_ N21 ?_
          · simp only [depth_deeper]; exact dlt hd1 rfl
          · simp only [units_deeper]; exact dlt hu1 rfl
          intro t23 h23 tk23 F23 N23
          clear N21 F21
          k_steps
          refine Stop.mk ?_
          refine filemode_c B' F23 X' T' rfl rfl ?_ ?_ N23 ?_
          · simp only [depth_deeper]; exact dlt hd1 rfl
          · simp only [units_deeper]; exact dlt hu1 rfl
          intro t24 h24 tk24 F24 N24
          clear N23 F23
          k_steps
          refine Stop.mk ?_
          rename_i D25 h25 F25 N25 l25
          have hoff25 := hoff.add (o := tupObj [.str x.2.2 ux, .str (fileText mo x) t24] 0) (AllLt.ap l25)
          have hlen25 := S.len hInv0
          refine ls_append (l := lt) (vs := tvs) F25 (news_mem N25 mvX) (lg_told AP hoff25) (by lia) ?_
          intro h26 F26 N26
          clear N25 F25
          k_steps
          refine hR _ _ ?_
          obtain ⟨n27, hn27, hInv27⟩ := S.file hInv0 hwish hpop hdir
          refine ⟨_, _, _, (L' + 1 + 1, op21) :: (L' + 1 + 1 + 1, oa20) :: (lh, listOf (refs qs) n17) :: (lt, listOf (tvs ++ [Value.ref D25]).toArray (nt + 1)) :: (lo, listOf (refs os) no) :: (L' + 1, oc) :: (D, oD) :: (D25, tupObj [.str x.2.2 ux, .str (fileText mo x) t24] 0) :: Y, n27, rfl, F26, news_mem N26 mvV, hn27, op21, oa20, _, _, qs, os, tvs ++ [Value.ref D25], told ++ [(x.2.2, fileText mo x)], n17, nt + 1, no, (D25, tupObj [.str x.2.2 ux, .str (fileText mo x) t24] 0) :: Y, u1, u2, u3, u4, u5, rfl, rfl, dop21, doa20, ?_, ?_, ?_, ?_, hoff25, hInv27⟩
          · exact (pop_its hIp he0 hpop).mono fun q hq => .tail _ hq
          · exact hIo.mono fun q hq => .tail _ hq
          · exact ToldIn.snoc (p := (x.2.2, fileText mo x)) (.head _) (hTo.mono fun q hq => .tail _ hq)
          · exact fun q hq => .tail _ (hsub q hq)
      · refine hR' _ ?_
        k_steps
        rename_i hne11 hwish D12 h12 F12 N12 l12 F13 N13 T13 X13
        refine hret D12 lt lo ps os tvs told n nt no Y _ _ F13 (fun p hp => N13 p ?_) hTo hIo (fun q hq => hsub q (List.mem_append_right _ hq)) hInv (.inr hwish)
        exact told_end hp
    · refine hR' _ ?_
      k_steps
      rename_i hne11 D12 h12 F12 N12 l12 F13 N13 T13 X13
      refine hret D12 lt lo ps os tvs told n nt no Y _ _ F13 (fun p hp => N13 p ?_) hTo hIo (fun q hq => hsub q (List.mem_append_right _ hq)) hInv (.inl (refs_nil hne11))
      exact told_end hp
  · refine ⟨ob, _, tbNew kvs ls, none, none, (funext fun z => by
          by_cases e0 : z = Str.ofString "tail"
          · rw [e0]; rfl
          by_cases e1 : z = Str.ofString "head"
          · rw [e1]; rfl
          by_cases e2 : z = Str.ofString "names"
          · rw [e2]; rfl
          by_cases e3 : z = Str.ofString "wish"
          · rw [e3]; rfl
          simp only [e0, e1, e2, e3, if_false]), rfl, db, tbNew_keys _ _ hls, tbNew_addr _ _ hls, fun e he => ?_, hdD⟩
    rw [tbNew_nil he]; exact .nil
end Mine
end
section
open PySem PySem.W PySem.Spec PySem.Calls PyProof.Rows
set_option Elab.async false
set_option maxRecDepth 100000
set_option maxHeartbeats 8000000
set_option linter.unusedVariables false
namespace Mine
local macro_rules | `(tactic| walk_at "call ref") => `(tactic| (k_here; refine Stop.of ?_))
local macro_rules | `(tactic| walk_at "exec For Name Call cons nil") => `(tactic| (k_here; refine Stop.of ?_))
local macro_rules | `(tactic| walk_at "pyIter ref") => `(tactic| (k_here; refine Stop.of ?_))
local macro_rules | `(tactic| walk_at "ForPost") => `(tactic| (k_here; refine Stop.of ?_))
local macro_rules | `(tactic| walk_at "subscriptTail Name Name ref int") => `(tactic| (k_here; refine Stop.of ?_))
local macro_rules | `(tactic| walk_at "subscriptTail Name Subscript ref int") => `(tactic| (k_here; refine Stop.of ?_))
local macro_rules | `(tactic| walk_at "subscriptTail Name Constant ref int") => `(tactic| (k_here; refine Stop.of ?_))
local macro_rules | `(tactic| walk_at "subscriptTail") => `(tactic| (k_here; refine Stop.of ?_))
local macro_rules | `(tactic| walk_at "compareOp In int ref") => `(tactic| (k_here; refine Stop.of ?_))
local macro_rules | `(tactic| walk_at "compareOp NotIn int ref") => `(tactic| (k_here; refine Stop.of ?_))
local macro_rules | `(tactic| walk_at "compareOp Lt ref ref") => `(tactic| (k_here; refine Stop.of ?_))
local macro_rules | `(tactic| walk_at "call builtin:list.append") => `(tactic| (k_here; refine Stop.of ?_))
local macro_rules | `(tactic| walk_at "call builtin:sorted") => `(tactic| (k_here; refine Stop.of ?_))
local macro_rules | `(tactic| walk_at "storeName") => `(tactic| (k_here; (first | (with_reducible show wpAny _ _ (storeName _ (Str.ofString "lacks") _) _ _ _) | (with_reducible show wpAny _ _ (storeName _ (Str.ofString "files") _) _ _ _)); refine Stop.of ?_))
local macro_rules | `(tactic| k_upd) => `(tactic| first | (refine' Upd.head ?a; (case a => assumption)) | (refine' Upd.tail ?a ?b; (case a => first | assumption | k_ne); (case b => k_upd)))
local macro_rules | `(tactic| walk_at "CompSrc") => `(tactic| (k_here; refine Stop.of ?_))
local macro_rules | `(tactic| walk_at "CompSrcT") => `(tactic| (k_here; refine Stop.of ?_))
local macro_rules | `(tactic| walk_at "exec Assign cons ListComp") => `(tactic| (k_here; refine Stop.of ?_))
local macro_rules | `(tactic| walk_at "eval ListComp") => `(tactic| (k_here; refine Stop.of ?_))
local macro_rules | `(tactic| walk_at "subscriptTail Name BinOp ref int") => `(tactic| (k_here; refine Stop.of ?_))
local macro_rules | `(tactic| walk_at "subscriptTail Name UnaryOp ref int") => `(tactic| (k_here; refine Stop.of ?_))
local macro_rules | `(tactic| walk_at "CompEnd") => `(tactic| (k_here; refine Stop.of ?_))
local macro_rules | `(tactic| walk_at "FinA") => `(tactic| (k_here; refine Stop.of ?_))
local macro_rules | `(tactic| walk_at "FinE") => `(tactic| (k_here; refine Stop.of ?_))
theorem known_c {w : World} {p : Program} {loose : List Str} {mean : ExcName → Option Value} {mg mb : Str → Option Value}
    {dp un : Nat} {gd : Option (List Code)} {env : Env} {outer : List Env} {A₀ : Around} {base h₀ : Heap} {L : Addr} {m : Str → Option Value} {s : Shared} {Q E : Value → Shared → Prop}
    {news : List (Addr × Obj)} {ln lo lt : Addr} {nvs ovs tvs : List Value} {ns ov : List Int} {ts : List Str} {nn no nt : Nat} {wish : Int} {tw : Tok}
    (B : Below A₀ base outer h₀) (F : Fr h₀ L s.heap m) (X : (hd.heap_1 w.params).In h₀) (T : Top p loose mean mg mb h₀)
    (hf : env.frame = some L) (hk : env.scope.kind = .function) (hd1 : dp + 10 < recursionLimit) (hu1 : un + 128 < cLine) (N : News h₀ L s.heap news) (hmn : (ln, listOf nvs.toArray nn) ∈ news) (hmo : (lo, listOf ovs.toArray no) ∈ news) (hmt : (lt, listOf tvs.toArray nt) ∈ news)
    (hIn : IntsAre nvs ns) (hIo : IntsAre ovs ov) (hIt : StrsAre tvs ts) (hln : ns.length = 7) (hlo : ov.length = 7) (hlt : ts.length = 8)
    (hb : ∀ k, 0 ≤ ns.getD k 0 ∧ ns.getD k 0 < 1000000) (hbo : ∀ k, 0 ≤ ov.getD k 0 ∧ ov.getD k 0 ≤ (k : Int)) (hw : 1 ≤ wish ∧ wish ≤ 3)
    (hret : ∀ (D lt' lo' : Addr) (q fs : List Nat) (last : Nat) (ws us : List Value) (nt' no' : Nat) (Y : List (Addr × Obj)) (h' : Heap) (tk' : Nat), Fr h₀ L h' m → News h₀ L h' ((D, tupObj [.ref lt', .ref lo'] 0) :: (lt', listOf ws.toArray nt') :: (lo', listOf us.toArray no') :: Y) →
      ToldIn Y ws (fs.map (toldAt ns ov ts)) → KeyIn Y us ((q.filter (isOpen ns ov ts last)).map (keyAt ns ov ts)) → q.Perm (List.range 8) → q.Pairwise (fun i j => lt3 (triAt ns ov ts i) (triAt ns ov ts j) = true) →
      fs = (q.filter (isFile ov)).take wish.toNat → fs[fs.length - 1]? = some last → (∀ q ∈ news, q ∈ Y) → Q (.ref D) { s with heap := h', toks := tk' }) :
    wpAny (model PySem.Challenge.rw_pd0151_01.row.prog w) (tp dp un gd env outer) (call (.ref 261) [.ref ln, .ref lo, .ref lt, .int wish tw]) Q E s := by
  w_top off
  revert X; k_fill; intro X
  refine wpAny_call ?_
  k_dflt (refine' code_defC ?k1 ?k2 ?k3 ?k4 ?k5 ?kA ?kF ?kK ?k6 ?k7 ?k8 ?k9 ?kB ?kD ?_ ?c2 ?c3 ?c4; (case kA => exact rfl); (case kF => first | assumption | exact rfl); (case kK => first | assumption | exact rfl); (case k1 => k_asm); (case k2 => k_asm); (case k3 => k_asm); (case k4 => k_asm); (case k5 => k_asm); (case k6 => k_is); (case k7 => k_is); (case k8 => ktr_room); (case k9 => exact BindsTo.of_eq rfl); (case kB => exact rfl); (case kD => decide +kernel); (case c2 => exact rfl); (case c3 => exact rfl); (case c4 => exact rfl); k_whole; intro g' L' h' tk' cells' FG' F' N' Y' B' X' T' l1; (try k_lt l1); k_cells Y'; (try simp only [List.cons_append, List.nil_append] at N'); (try dsimp only); (try k_lift B'); (refine wpAny_noRaise ?_); (try k_fold))
  rename_i oF oK oT oO oN dF dK dT dO dN
  replace dF : oF.data = .cell none := dF
  replace dK : oK.data = .cell none := dK
  replace dT : oT.data = .cell (some (.ref lt)) := dT
  replace dO : oO.data = .cell (some (.ref lo)) := dO
  replace dN : oN.data = .cell (some (.ref ln)) := dN
  have F1 : Fr g' L' h' (fun z => if z = Str.ofString "wish" then some (.int wish tw) else none) := Eq.mp (congrArg (Fr g' L' h') (by with_unfolding_all rfl)) F'
  clear F'
  k_steps
  refine Stop.mk ?_
  rename_i ll h2 F2 N2 l2
  have hll : L' + 1 + 1 + 1 + 1 + 1 < ll := l2.1
  refine storeX_C F2 (news_mem N2 mv3) (by rfl) (.head (kn_lacks l1 hll)) dK ?_
  intro h3 oK3 F3 N3 dK3
  clear N2 F2
  replace N3 := news_swap N3
  k_steps
  refine Stop.mk ?_
  refine for_in ?_
  k_steps
  refine Stop.mk ?_
  rename_i h4 tk4 t4 u4 v4 hrg F4 N4 hk4
  refine go_range (n := 7) rfl F4 N4 hrg (by decide) (by decide) (fun _ _ _ _ q => let_name q) ?_
  intro I h5 l5
  refine ForRest.invH (n := 7) (fun i m nw => ∃ vs n u, m = (fun z => if z = Str.ofString "k" then u else if z = Str.ofString "wish" then some (Value.int wish tw) else none) ∧ nw = (ll, listOf vs.toArray n) :: (L' + 1 + 1 + 1 + 1, oK3) :: (L' + 1 + 1 + 1 + 1 + 1, oF) :: (L' + 1 + 1 + 1, oT) :: (L' + 1 + 1, oO) :: (L' + 1, oN) :: news ∧ IntsAre vs (lacksUp ns ov i)) ?_ ?_ 7 0 _ _ rfl ⟨[_], 0, none, (funext fun z => by
          by_cases e0 : z = Str.ofString "k"
          · rw [e0]; rfl
          simp only [e0, if_false]), rfl, .cons _ _ .nil⟩
  · rintro R1 i m nw v oI h6 tk6 hR1 hi ⟨vs, n6, u6, rfl, rfl, hs6⟩ ⟨tv, rfl⟩ F6 N6 off6
    have o1 : I ≠ ll := Ne.symm (off6 _ (.head _))
    have hvl : vs.length = i + 1 := by rw [hs6.length, lacksUp_length]
    have hb6 := hb i
    have hbo6 := hbo i
    have e6 : (0 + (i : Int)).toNat = i := by lia
    k_steps
    refine Stop.mk ?_
    rename_i h7 F7 N7
    refine ksa_sub N7 (.tail _ (.tail _ (.tail _ (.tail _ (.tail _ (.tail _ (.tail _ hmo))))))) hIo (by lia) (by lia) (by lia) ?_ (by with_unfolding_all rfl)
    intro t8
    rw [e6]
    k_steps
    refine Stop.mk ?_
    refine ksa_sub N7 (.tail _ (.head _)) hs6 hbo6.1 (by rw [lacksUp_length]; lia) (by lia) ?_ (by with_unfolding_all rfl)
    intro t9
    k_steps
    refine Stop.mk ?_
    refine ksa_sub N7 (.tail _ (.tail _ (.tail _ (.tail _ (.tail _ (.tail _ (.tail _ hmn))))))) hIn (by lia) (by lia) (by lia) ?_ (by with_unfolding_all rfl)
    intro t10
    rw [e6]
    k_steps
    refine Stop.mk ?_
    refine ownlack_c B' F7 X' T' rfl rfl ?_ ?_ N7 hb6.1 hb6.2 ?_
    · simp only [depth_deeper]; exact dlt hd1 rfl
    · simp only [units_deeper]; exact dlt hu1 rfl
    intro t11 h11 tk11 F11 N11
    clear N7 F7
    k_steps
    refine Stop.mk ?_
    refine ls_append (l := ll) (vs := vs) F11 (news_swap N11) ?_ (by lia) ?_
    · intro q hq
      rcases List.mem_cons.mp hq with e | hq
      · rw [e]; exact o1
      · exact kn_list l1 hll q hq
    intro h12 F12 N12
    clear N11 F11
    k_steps
    refine hR1 _ _ ?_
    refine ⟨_, _, _, (ll, listOf (vs ++ [Value.int (Builtin.bitOr ((lacksUp ns ov i).getD (ov.getD i 0).toNat 0) (ownLack (ns.getD i 0))) _]).toArray (n6 + 1)) :: (L' + 1 + 1 + 1 + 1, oK3) :: (L' + 1 + 1 + 1 + 1 + 1, oF) :: (L' + 1 + 1 + 1, oT) :: (L' + 1 + 1, oO) :: (L' + 1, oN) :: news, rfl, F12, news_swap N12, ?_, trivial, _, n6 + 1, some (Value.int (0 + (i : Int)) tv), (funext fun z => by
          by_cases e0 : z = Str.ofString "k"
          · rw [e0]; rfl
          simp only [e0, if_false]), rfl, ints_snoc hs6⟩
    intro p hp
    rcases List.mem_cons.mp hp with e | hp
    · rw [e]; exact Ne.symm o1
    · exact off6 p (.tail _ hp)
  · rintro m nw h6 tk6 ⟨vs, n6, u6, rfl, rfl, hs6⟩ F6 N6
    change Fr g' L' h6 _ at F6
    change News g' L' h6 _ at N6
    have hvl : vs.length = 8 := by rw [hs6.length, lacksUp_length]
    k_steps
    refine Stop.mk ?_
    refine LCg.ListComp_U (F₀ := F6) (by with_unfolding_all rfl) (by decide) (by rfl) (by decide) (by rfl) ?_
    k_steps
    refine Stop.mk ?_
    rename_i h7 tk7 t7 u7 v7 hrg7 F7 N7 hk7
    refine LCg.CompSrc.range (n := 8) rfl F7 N7 hrg7 (by decide) (by decide) (by decide) ?_
    intro g8
    refine comp_invH (n := 8) (fun i ys nw => ∃ Y, nw = (ll, listOf vs.toArray n6) :: (L' + 1 + 1 + 1 + 1, oK3) :: (L' + 1 + 1 + 1 + 1 + 1, oF) :: (L' + 1 + 1 + 1, oT) :: (L' + 1 + 1, oO) :: (L' + 1, oN) :: Y ∧ (∀ q ∈ news, q ∈ Y) ∧ (∀ q ∈ Y, q.1 ≠ L' + 1 + 1 + 1 + 1 + 1) ∧ TriIn Y ys ((List.range i).map (triAt ns ov ts))) ?_ ?_ 8 0 _ _ (Nat.zero_add _) ⟨news, rfl, fun _ h => h, fun q hq => (kn3 (l1 q hq)).2, .nil⟩
    · rintro R2 i ys nw v I9 oI9 C9 oC9 D9 m9 h9 tk9 E9 hR2 hi ⟨Y, rfl, hY, hoY, hT9⟩ ⟨t9, rfl⟩ hC9 hm9 F9 N9 off9 ne9
      have e9 : (0 + (i : Int)).toNat = i := by lia
      k_steps
      refine Stop.mk ?_
      refine ksa_sub N9 (.tail _ (.tail _ (.tail _ (.head _)))) hs6 (by lia) (by rw [lacksUp_length]; lia) (by lia) ?_ (by with_unfolding_all rfl)
      intro t10
      rw [e9]
      k_steps
      refine Stop.mk ?_
      refine item_strsA (s := { s with heap := h9, toks := _ }) ⟨_, (N9 _ (.tail _ (.tail _ (.tail _ (.tail _ (.tail _ (.tail _ (.tail _ (.tail _ (.tail _ (hY _ hmt)))))))))) ).1, rfl, _, rfl⟩ hIt (by lia) (by lia) (by lia) ?_ (by with_unfolding_all rfl) (by intro _; with_unfolding_all rfl)
      intro t11
      rw [e9]
      k_steps
      refine hR2 _ _ ?_
      rename_i D12 h12 F12 N12 l12
      rw [Int.zero_add] at N12
      refine ⟨_, _, (ll, listOf vs.toArray n6) :: (L' + 1 + 1 + 1 + 1, oK3) :: (L' + 1 + 1 + 1 + 1 + 1, oF) :: (L' + 1 + 1 + 1, oT) :: (L' + 1 + 1, oO) :: (L' + 1, oN) :: (D12, tupObj [.int ((lacksUp ns ov 7).getD i 0) t10, .str (ts.getD i Str.empty) t11, .int (i : Int) t9] 0) :: Y, rfl, F12, news_mem N12 mvK, off3_add6 off9 l12.1 l12.2.1 l12.2.2.1, trivial, _, rfl, fun q hq => .tail _ (hY q hq), ?_, ?_⟩
      · intro q hq
        rcases List.mem_cons.mp hq with e | hq
        · rw [e]; exact Nat.ne_of_gt l12.2.2.2.2.2.1
        · exact hoY q hq
      · rw [List.range_succ, List.map_append]
        exact TriIn.snoc (p := triAt ns ov ts i) (.head _) (hT9.mono fun q hq => .tail _ hq)
    · rintro ys nw ⟨Y, rfl, hY, hoY, hT9⟩
      intro D10 h10 tk10 F10 N10 o10
      k_steps
      refine Stop.mk ?_
      have hlY : ((List.range 8).map (triAt ns ov ts)).length = 8 := rfl
      refine sorted_tris F10 N10 (.head _) (hT9.mono fun q hq => .tail _ (mem6 hq)) (by rw [hlY]; decide) (by rw [hlY]; decide) (by rw [hlY]; exact tri_apart ns ov ts) ?_
      intro D12 q12 c12 h12 F12 N12 l12 hq12 hs12
      rw [hlY] at hq12
      have hql : q12.length = 8 := by rw [hq12.length_eq]; rfl
      have hq8 : ∀ i ∈ q12, i < 8 := fun i hi => List.mem_range.mp (hq12.mem_iff.mp hi)
      have hT12 := hT9.pick default q12 (by rw [hlY]; exact hq8)
      rw [pick_row ns ov ts q12 hq8] at hT12
      generalize hrv : (q12.map fun i => ys.getD i Value.none) = rv at N12 hT12
      have hrl : rv.length = 8 := by rw [← hrv, List.length_map, hql]
      k_steps
      refine Stop.mk ?_
      rename_i h13 F13 N13
      refine LCt.ListComp_T (F₀ := F13) (by with_unfolding_all rfl) (by decide) (by rfl) (by decide) (by rfl) ?_
      k_steps
      refine Stop.mk ?_
      refine LCt.CompSrcT.ledger rfl F13 N13 (.head _) (by rw [sizeLine_eq, List.size_toArray]; lia) ?_
      intro g15
      refine comp_invTH (n := rv.toArray.size) (fun i zs nw => TriIn Y zs (((q12.take i).filter (isFile ov)).map (triAt ns ov ts)) ∧ nw = (D12, listOf rv.toArray c12) :: (D10, LCg.lst ys) :: (ll, listOf vs.toArray n6) :: (L' + 1 + 1 + 1 + 1, oK3) :: (L' + 1 + 1 + 1 + 1 + 1, oF) :: (L' + 1 + 1 + 1, oT) :: (L' + 1 + 1, oO) :: (L' + 1, oN) :: Y) ?_ ?_ rv.toArray.size 0 _ _ (Nat.zero_add _) ⟨.nil, rfl⟩
      · rintro R3 R4 i zs nw v I16 oI16 C16 oC16 D16 m16 h16 tk16 E16 hR3 hR4 hi ⟨hT16, rfl⟩ hv hC16 hm16 F16 N16 off16 ne16
        obtain ⟨p16, a16, n16, t16, u16, w16, hp16, rfl, hmm16⟩ := hT12.get i v (by simpa using hv)
        obtain ⟨p, hp, rfl⟩ := map_at hp16
        k_steps
        refine Stop.mk ?_
        refine sub_tup (vs := [Value.int (triAt ns ov ts p).1 t16, Value.str (triAt ns ov ts p).2.1 u16, Value.int (triAt ns ov ts p).2.2 w16]) (n := n16) (N16 _ (.tail _ (.tail _ (.tail _ (.tail _ (.tail _ (mem6 hmm16))))))).1 (by decide) (by show (2 : Int) < 3; decide) (Nat.le_of_ble_eq_true rfl) ?_ (by with_unfolding_all rfl)
        intro v17 hv17
        obtain rfl : v17 = Value.int (p : Int) w16 := (Option.some.inj hv17).symm
        k_steps
        refine Stop.mk ?_
        refine notin_list_ints (vs := ovs) ⟨_, (N16 _ (.tail _ (.tail _ (.tail _ (.tail _ (.tail _ (.tail _ (.tail _ (.tail _ (.tail _ (.tail _ (.tail _ (hY _ hmo)))))))))))) ).1, rfl, _, rfl⟩ hIo ?_
        k_steps
        · rename_i hfile
          refine hR4 _ _ ?_
          refine ⟨_, _, _, rfl, F16, N16, off16, .inr ⟨_, .head _, rfl, _, rfl⟩, ?_, rfl⟩
          rw [filter_take_no hp (by unfold isFile; rw [hfile]; rfl)]
          exact hT16
        · rename_i hfile
          refine hR3 _ _ ?_
          refine ⟨_, _, _, rfl, F16, N16, off16, .inr ⟨_, .head _, rfl, _, rfl⟩, ?_, rfl⟩
          rw [filter_take_yes hp (by unfold isFile; rw [hfile]; rfl), List.map_append]
          exact TriIn.snoc (p := triAt ns ov ts p) hmm16 hT16
      · rintro zs nw ⟨hT16, rfl⟩
        intro D17 h17 tk17 F17 N17 o17
        have hzl : zs.length ≤ 8 := by
          have e1 := hT16.length
          rw [List.length_map] at e1
          have e2 := List.length_filter_le (isFile ov) (q12.take rv.toArray.size)
          rw [List.length_take, hql] at e2
          lia
        rw [List.size_toArray, hrl, show q12.take 8 = q12 from List.take_of_length_le (by lia)] at hT16
        k_steps
        refine Stop.mk ?_
        refine kba_turn (value' := PySem.Expr.Name (PySem.Str.ofString "_") ⟨0, 0, 0, 0⟩) (fun _ => rfl) ?_
        refine kms_slice_lit (its := zs.toArray) F17 N17 ⟨_, (N17 _ (.head _)).1, rfl, _, rfl⟩ .none (.int wish _) (pick_upto zs wish (by lia)) ?_ (by with_unfolding_all rfl) (by intro _; with_unfolding_all rfl) (by rw [sizeLine_eq, List.size_toArray]; lia)
        intro D20 h20 F20 N20 l20
        k_steps
        refine Stop.mk ?_
        refine storeX_C F20 (news_mem N20 mvF) (by rfl) (.head (kn_files hoY (l20 _ (.tail _ (.tail _ (.tail _ (.tail _ (.tail _ (.head _))))))) (l12 _ (.tail _ (.tail _ (.tail _ (.head _))))))) dF ?_
        intro h21 oF21 F21 N21 dF21
        clear N20 F20
        k_steps
        refine Stop.mk ?_
        have hTf := hT16.take wish.toNat
        rw [← List.map_take] at hTf
        generalize hfs : (q12.filter (isFile ov)).take wish.toNat = fs at hTf
        have hfm : ∀ p ∈ fs, isFile ov p = true ∧ p < 8 := fun p hp => by
          rw [← hfs] at hp
          have hp2 := List.mem_filter.mp (List.mem_of_mem_take hp)
          exact ⟨hp2.2, hq8 p hp2.1⟩
        have hfl : (zs.take wish.toNat).length = fs.length := by rw [hTf.length, List.length_map]
        have hfl8 : (zs.take wish.toNat).length ≤ 8 := by rw [List.length_take]; lia
        refine Assign_ListComp_3 (F₀ := F21) (by rfl) (by with_unfolding_all rfl) (by with_unfolding_all rfl) (by decide) (by rfl) (by decide) (by rfl) (by rfl) (by rfl) (by decide) (by decide) (by decide) (by rfl) (by rfl) ?_
        k_steps
        refine Stop.mk ⟨D20, (zs.take wish.toNat).toArray, 0, _, fun i ws nw => ∃ Z, nw = (L' + 1 + 1 + 1 + 1 + 1, oF21) :: (D20, listOf (zs.take wish.toNat).toArray 0) :: (D12, listOf rv.toArray c12) :: (L' + 1 + 1, oO) :: (L' + 1, oN) :: Z ∧ (∀ q ∈ Y, q ∈ Z) ∧ ToldIn Z ws ((fs.take i).map (toldAt ns ov ts)), rfl, rfl, F21, N21, by rw [sizeLine_eq, List.size_toArray]; lia, ⟨Y, rfl, fun _ h => h, .nil⟩, ?_, ?_, ?_⟩
        · rintro i ws nw ⟨Z, rfl, _, _⟩
          exact .tail _ (.head _)
        · rintro i ws nw v hv ⟨Z, rfl, hZ, hW⟩
          obtain ⟨p, a, n, t, u, w', hp, rfl, hm⟩ := tri_get hTf hv
          refine ⟨a, _, _, _, n, rfl, mem5 (hZ _ hm), ?_⟩
          intro I22 oI22 C22 oC22 D22 m22 h22 tk22 E22 hC22 hm1 hm2 hm3 F22 N22 off22 ne22
          refine wpAny_tests_nil ?_
          rw [if_pos rfl]
          have hpf := hfm p (List.mem_of_getElem? hp)
          have hp1 := file_pos hlo hbo hpf.1
          dsimp only [triAt] at hm1 hm2 hm3
          k_steps
          refine Stop.mk ?_
          refine ksa_sub N22 (.tail _ (.tail _ (.tail _ (mem5 (hZ _ (hY _ hmn)))))) hIn (by lia) (by lia) (by lia) ?_ (by with_unfolding_all rfl)
          intro t23
          rw [show ((p : Int) - 1).toNat = p - 1 by lia]
          k_steps
          refine Stop.mk ?_
          refine signs_c B' F22 X' T' rfl rfl ?_ ?_ N22 (hb (p - 1)).1 (lack_nonneg ns ov p) ?_
          · simp only [depth_deeper]; exact dlt hd1 rfl
          · simp only [units_deeper]; exact dlt hu1 rfl
          intro t24 h24 tk24 F24 N24
          clear N22 F22
          k_steps
          refine Stop.mk ?_
          rename_i D25 h25 F25 N25 l25
          refine ⟨_, _, (L' + 1 + 1 + 1 + 1 + 1, oF21) :: (D20, listOf (zs.take wish.toNat).toArray 0) :: (D12, listOf rv.toArray c12) :: (L' + 1 + 1, oO) :: (L' + 1, oN) :: (D25, tupObj [.str (ts.getD p Str.empty) u, .str (signsUp (ns.getD (p - 1) 0) ((lacksUp ns ov 7).getD p 0) 9) t24] 0) :: Z, rfl, F25, news_mem N25 mvP, off3_add5 off22 l25.1 l25.2.1 l25.2.2.1, trivial, _, rfl, fun q hq => .tail _ (hZ q hq), ?_⟩
          rw [take_snoc_at hp, List.map_append]
          exact ToldIn.snoc (p := toldAt ns ov ts p) (.head _) (hW.mono fun q hq => .tail _ hq)
        · rintro ws nw ⟨Z, rfl, hZ, hW⟩
          intro D25 h25 tk25 F25 N25 o25
          rw [List.size_toArray, hfl, List.take_length] at hW
          have hfne : 1 ≤ fs.length := by rw [← hfs]; exact files_ne hlo hbo hq12 (by lia)
          have hil : fs.length - 1 < (zs.take wish.toNat).length := by lia
          obtain ⟨last, al, nl, tl, ul, wl, hlast, hvl', hml⟩ := tri_get hTf (i := fs.length - 1) (v := (zs.take wish.toNat)[fs.length - 1]) (by rw [List.getElem?_toArray]; exact List.getElem?_eq_getElem hil)
          k_steps
          refine Stop.mk ?_
          refine ListComp_3 (F₀ := F25) (by with_unfolding_all rfl) (by decide) (by rfl) (by decide) (by rfl) (by rfl) (by rfl) (by decide) (by decide) (by decide) ?_
          k_steps
          refine Stop.mk ⟨D12, rv.toArray, c12, _, fun i us nw => ∃ Z', nw = (D25, LCg.lst ws) :: (L' + 1 + 1 + 1 + 1 + 1, oF21) :: (D20, listOf (zs.take wish.toNat).toArray 0) :: (D12, listOf rv.toArray c12) :: (L' + 1 + 1, oO) :: (L' + 1, oN) :: Z' ∧ (∀ q ∈ Z, q ∈ Z') ∧ KeyIn Z' us (((q12.take i).filter (isOpen ns ov ts last)).map (keyAt ns ov ts)), rfl, rfl, F25, N25, by rw [sizeLine_eq, List.size_toArray]; lia, ⟨Z, rfl, fun _ h => h, .nil⟩, ?_, ?_, ?_⟩
          · rintro i us nw ⟨Z', rfl, _, _⟩
            exact .tail _ (.tail _ (.tail _ (.head _)))
          · rintro i us nw v hv ⟨Z', rfl, hZ', hU⟩
            obtain ⟨p, a, n, t, u, w', hp, rfl, hm⟩ := tri_get hT12 hv
            refine ⟨a, _, _, _, n, rfl, mem6 (hZ' _ (hZ _ hm)), ?_⟩
            intro I26 oI26 C26 oC26 D26 m26 h26 tk26 E26 hC26 hm1 hm2 hm3 F26 N26 off26 ne26
            dsimp only [triAt] at hm1 hm2 hm3
            refine wpAny_tests_one ?_
            k_steps
            refine Stop.mk ?_
            refine in_list_ints (vs := ovs) ⟨_, (N26 _ (.tail _ (.tail _ (.tail _ (mem6 (hZ' _ (hZ _ (hY _ hmo)))))))).1, rfl, _, rfl⟩ hIo ?_
            k_steps
            · rename_i hin D27 h27 F27 N27 l27
              refine Stop.mk ?_
              refine kim_back (x := Value.ref al) (l := zs.take wish.toNat) (n := 0) N27 (.tail _ (.tail _ (.tail _ (.tail _ (.tail _ (.tail _ (.head _))))))) rfl rfl (by decide) (by lia) (by decide) ?_ ?_ (by with_unfolding_all rfl) (by intro _; with_unfolding_all rfl)
              · rw [show ((-1 : Int) + ((zs.take wish.toNat).length : Int)).toNat = fs.length - 1 by lia, List.getElem?_eq_getElem hil, hvl']
              k_steps
              refine Stop.mk ?_
              refine tup_lt (N27 _ (.head _)).1 (N27 _ (.tail _ (.tail _ (.tail _ (.tail _ (mem6 (hZ' _ (hZ _ hml)))))))).1 (lt3_is (p := triAt ns ov ts p) (q := triAt ns ov ts last)) ?_ ?_
              · simp only [units_deeper]; lia
              have hN28 := news_mem N27 (R' := (I26, oI26) :: (C26, oC26) :: (D26, LCg.lst us) :: (D25, LCg.lst ws) :: (L' + 1 + 1 + 1 + 1 + 1, oF21) :: (D20, listOf (zs.take wish.toNat).toArray 0) :: (D12, listOf rv.toArray c12) :: (L' + 1 + 1, oO) :: (L' + 1, oN) :: Z') (fun q hq => .tail _ hq)
              clear N27 l27
              k_steps
              · rename_i hlt D29 h29 F29 N29 l29
                refine Stop.mk ?_
                refine ⟨_, _, (D25, LCg.lst ws) :: (L' + 1 + 1 + 1 + 1 + 1, oF21) :: (D20, listOf (zs.take wish.toNat).toArray 0) :: (D12, listOf rv.toArray c12) :: (L' + 1 + 1, oO) :: (L' + 1, oN) :: (D29, tupObj [.int ((lacksUp ns ov 7).getD p 0) t, .str (ts.getD p Str.empty) u] 0) :: Z', rfl, F29, news_mem N29 mvL, off3_add6 off26 l29.1 l29.2.1 l29.2.2.1, trivial, _, rfl, fun q hq => .tail _ (hZ' q hq), ?_⟩
                rw [filter_take_yes hp (by unfold isOpen; rw [hin, hlt]; rfl), List.map_append]
                exact KeyIn.snoc (p := keyAt ns ov ts p) (.head _) (hU.mono fun q hq => .tail _ hq)
              · rename_i hlt
                refine Stop.mk ?_
                refine ⟨_, _, _, rfl, F27, hN28, off26, trivial, Z', rfl, hZ', ?_⟩
                rw [filter_take_no hp (by unfold isOpen; rw [hin, hlt]; rfl)]
                exact hU
            · rename_i hin
              refine Stop.mk ?_
              refine ⟨_, _, _, rfl, F26, N26, off26, trivial, Z', rfl, hZ', ?_⟩
              rw [filter_take_no hp (by unfold isOpen; rw [hin]; rfl)]
              exact hU
          · rintro us nw ⟨Z', rfl, hZ', hU⟩
            intro D27 h27 tk27 F27 N27 o27
            rw [List.size_toArray, hrl, show q12.take 8 = q12 from List.take_of_length_le (by lia)] at hU
            k_steps
            rename_i D28 h28 F28 N28 l28 F29 N29 T29 X29
            refine hret D28 D25 D27 q12 fs last ws us ws.length us.length Z' _ _ F29 (fun p hp => N29 p ?_) (hW.mono hZ') hU hq12 (row_pairs hq8 hs12) hfs.symm hlast (fun q hq => hZ' _ (hZ _ (hY _ hq)))
            exact known_end hp
end Mine
end
section
open PySem PySem.W PySem.Spec PySem.Calls PyProof.Rows
set_option Elab.async false
set_option maxRecDepth 100000
set_option maxHeartbeats 8000000
set_option linter.unusedVariables false
namespace Mine
local macro_rules | `(tactic| walk_at "call ref") => `(tactic| (k_here; refine Stop.of ?_))
local macro_rules | `(tactic| walk_at "exec Assign cons ListComp") => `(tactic| (k_here; refine Stop.of ?_))
local macro_rules | `(tactic| walk_at "CompSrc") => `(tactic| (k_here; refine Stop.of ?_))
local macro_rules | `(tactic| walk_at "CompEnd") => `(tactic| (k_here; refine Stop.of ?_))
local macro_rules | `(tactic| walk_at "FinA") => `(tactic| (k_here; refine Stop.of ?_))
local macro_rules | `(tactic| walk_at "subscriptTail Name Name ref int") => `(tactic| (k_here; refine Stop.of ?_))
local macro_rules | `(tactic| walk_at "compareOp Eq ref ref") => `(tactic| (k_here; refine Stop.of ?_))
local macro_rules | `(tactic| walk_at "storeName") => `(tactic| (k_here; (with_reducible show wpAny _ _ (storeName _ (Str.ofString "numbers") _) _ _ _); refine Stop.of ?_))
theorem law_it : PySem.Challenge.rw_pd0151_01.Holds := hd (by
  k_go0
  all_goals try k_fold
  k_steps
  refine Stop.mk ?_
  rename_i w s0 s1 mg mb G Y fa o pm doc ho hg KX X V GL T B TE TW a10 o9 M c8 c7 hcd ns hs hlay0 hL1 hr1 hl2 l5 l4 al vs l1 hLl ra w1 r0 hI hr hc1 hc0 K0 hD h1 tk1 F oN dN N0 X0
  replace dN : oN.data = .cell none := dN
  have F1 : Fr s1.heap s1.heap.objs.size h1 (fun z => if z = Str.ofString "script" then some (.ref al) else none) := Eq.mp (congrArg (Fr s1.heap s1.heap.objs.size h1) (by with_unfolding_all rfl)) F
  clear F X0 hD hcd
  refine numbers_c (A₀ := callerA) (base := s1.heap) (h₀ := s1.heap) (L := s1.heap.objs.size) K0 F1 KX T rfl rfl ?_ ?_ N0 hLl hI ?_ ?_
  · decide +kernel
  · decide +kernel
  · lia
  intro D2 ws2 h2 tk2 F2 N2 hI2 l2
  k_steps
  refine Stop.mk ?_
  refine storeX_C F2 (news_swap N2) (by rfl) (.head ?_) dN ?_
  · intro q hq
    rw [List.mem_singleton.mp hq]
    exact law_off (l2 _ (.head _))
  intro h3 oN3 F3 N3 dN3
  clear N2 F2
  have hnl := nums_len ns
  have hnb := nums_bound ns
  generalize lawNums ns = nu at hI2 hnl hnb
  k_steps
  refine Stop.mk ?_
  refine LCg.Assign_ListComp_U (F₀ := F3) (by rfl) (by with_unfolding_all rfl) (by with_unfolding_all rfl) (by decide) (by rfl) (by decide) (by rfl) (by rfl) (by rfl) ?_
  k_steps
  refine Stop.mk ?_
  rename_i h4 tk4 t4 u4 v4 hrg4 F4 N4 hk4
  refine LCg.CompSrc.range (n := 7) rfl F4 N4 hrg4 (by decide) (by decide) (by decide) ?_
  intro g5
  refine comp_inv (n := 7) (fun i ys nw => IntsAre ys ((List.range i).map fun k => (nu.getD k 0).fmod ((k : Int) + 1)) ∧ nw = [(s1.heap.objs.size + 1, oN3), (D2, listOf ws2.toArray 0)]) ?_ ?_ 7 0 _ _ (Nat.zero_add _) ⟨.nil, rfl⟩
  · rintro i ys nw v I6 oI6 C6 oC6 D6 m6 h6 tk6 E6 hi ⟨hys, rfl⟩ ⟨t6, rfl⟩ hC6 hm6 F6 N6 off6 ne6
    have e6 : (0 + (i : Int)).toNat = i := by lia
    k_steps
    refine Stop.mk ?_
    refine ksa_sub N6 (.tail _ (.tail _ (.tail _ (.tail _ (.head _))))) hI2 (by lia) (by lia) (by lia) ?_ (by with_unfolding_all rfl)
    intro t7
    rw [e6]
    k_steps
    refine Stop.mk ?_
    refine ⟨_, _, _, rfl, F6, N6, off6, trivial, ?_, rfl⟩
    rw [List.range_succ, List.map_append]
    simp only [Int.zero_add]
    exact ints_snoc hys
  · rintro ys nw ⟨hys, rfl⟩
    intro D7 h7 tk7 F7 N7 o7
    replace hys : IntsAre ys (lawOv nu) := hys
    have hol := ov_len nu
    have hob := ov_bound nu
    generalize lawOv nu = ov at hys hol hob
    k_steps
    refine Stop.mk ?_
    refine texts_c (A₀ := callerA) (base := s1.heap) (h₀ := s1.heap) (L := s1.heap.objs.size) (no := ys.length) K0 F7 KX T rfl rfl ?_ ?_ N7 (.head _) hys hol hob ?_
    · decide +kernel
    · decide +kernel
    intro D9 ws9 n9 h9 tk9 F9 N9 hT9 l9
    clear N7 F7
    k_steps
    refine Stop.mk ?_
    rename_i h9a tk9a h9b tk9b t9b h10 F10 N10
    have hw := wish_bound nu.sum
    generalize nu.sum.fmod 3 + 1 = wish at hw F10
    refine modes_c (A₀ := callerA) (base := s1.heap) (h₀ := s1.heap) (L := s1.heap.objs.size) (nn := 0) (no := ys.length) (nt := n9) K0 F10 KX T rfl rfl ?_ ?_ N10 (.tail _ (.tail _ (.tail _ (.head _)))) (.tail _ (.head _)) (.head _) hI2 hys hT9 hnl hol (ts_length ov) hnb (ts_nodup hob) (ts_zero ov) ?_
    · decide +kernel
    · decide +kernel
    intro D11 o11 kvs h11 tk11 F11 N11 hd11 hM11 l11
    clear N10 F10
    have hkk : kvs.map (·.1) = lawTexts ov := hM11.1.trans (modes_keys hob)
    have hkn : ((modesUp nu ov (lawTexts ov) 7).map (·.1)).Nodup := by rw [modes_keys hob]; exact ts_nodup hob
    obtain ⟨R, hRp, hRs⟩ := row_exists (ns := nu) hob
    have P := places hol hob hRp hRs
    have hsys : (D11 == sysModules) = false := not_sys (l11 _ (.tail _ (.tail _ (.head _)))) (by
      have h1 : (211 : Nat) < s1.heap.objs.size := Heap.lt_size (KX 211 _ (by k_dflt k_is))
      lia)
    k_steps
    refine Stop.mk ?_
    have S : Sys (kvs.map (·.1)) (moOf (modesUp nu ov (lawTexts ov) 7)) wish (Kept (keyAt nu ov (lawTexts ov)) (par ov) (isFile ov) R (toldAt nu ov (lawTexts ov)) wish.toNat) := by rw [hkk]; exact sys_is hob hol P hw.1
    have hini := sys_start hob P hw.1
    have hmo : ∀ k ∈ kvs.map (·.1), ∃ t, valueAt kvs k = some (.int (moOf (modesUp nu ov (lawTexts ov) 7) k) t) := fun k hk => value_mo hM11 hkn hk
    have hroot : Str.ofString "/" ∈ kvs.map (·.1) := by rw [hkk]; exact ts_mem hob (p := 0) (by decide)
    have hkl : ∀ k ∈ kvs.map (·.1), k.length ≤ 1000 := by rw [hkk]; exact fun k hk => ts_len hob hk
    have hkh : ∀ k ∈ kvs.map (·.1), splitTail k ≠ Str.empty → splitHead k ∈ kvs.map (·.1) := by rw [hkk]; exact fun k hk ht => ts_heads hob hk ht
    have hks : ∀ k ∈ kvs.map (·.1), k.length ≠ 0 ∧ (splitTail k).length ≤ 1000 ∧ Txt.startswith (splitTail k) (Str.ofString "/") = false := by rw [hkk]; exact fun k hk => ts_tails hob hk
    have hlen : kvs.length ≤ 1000 := by
      have := congrArg List.length hkk
      rw [List.length_map, ts_length] at this
      lia
    generalize hInv : Kept (keyAt nu ov (lawTexts ov)) (par ov) (isFile ov) R (toldAt nu ov (lawTexts ov)) wish.toNat = Inv at S hini
    generalize hmo' : moOf (modesUp nu ov (lawTexts ov) 7) = mo at S hini hmo
    refine told_c (A₀ := callerA) (base := s1.heap) (h₀ := s1.heap) (L := s1.heap.objs.size) (Inv := Inv) (mo := mo) (n₀ := 8) K0 F11 KX T rfl rfl ?_ ?_ N11 (.head _) hd11 hsys hlen S hini hmo hroot hkl hkh hks ?_
    · decide +kernel
    · decide +kernel
    intro D12 lt12 lo12 ps12 os12 tvs12 told12 n12 nt12 no12 Y12 h12 tk12 F12 N12 hT12 hO12 hY12 hK12 hend12
    have N13 : News s1.heap s1.heap.objs.size h12 ((D12, tupObj [.ref lt12, .ref lo12] 0) :: (s1.heap.objs.size + 1, oN3) :: (lt12, listOf tvs12.toArray nt12) :: (lo12, listOf (refs os12) no12) :: Y12) := fun q hq => by
      rcases List.mem_cons.mp hq with e | hq
      · rw [e]; exact N12 _ (.head _)
      · rcases List.mem_cons.mp hq with e | hq
        · rw [e]; exact N12 _ (.tail _ (.tail _ (.tail _ (hY12 _ (.tail _ (.tail _ (.tail _ (.head _))))))))
        · exact N12 q (.tail _ hq)
    clear N11 F11 N12
    k_steps
    refine Stop.mk ?_
    refine known_c (A₀ := callerA) (base := s1.heap) (h₀ := s1.heap) (L := s1.heap.objs.size) (nn := 0) (no := ys.length) (nt := n9) K0 F12 KX T rfl rfl ?_ ?_ N13 (.tail _ (.tail _ (.tail _ (.tail _ (hY12 _ (.tail _ (.tail _ (.tail _ (.tail _ (.head _)))))))))) (.tail _ (.tail _ (.tail _ (.tail _ (hY12 _ (.tail _ (.tail _ (.head _)))))))) (.tail _ (.tail _ (.tail _ (.tail _ (hY12 _ (.tail _ (.head _))))))) hI2 hys hT9 hnl hol (ts_length ov) hnb hob hw ?_
    · decide +kernel
    · decide +kernel
    intro D14 lt14 lo14 q14 fs14 last14 ws14 us14 nt14 no14 Y14 h14 tk14 F14 N14 hT14 hU14 hq14 hs14 hfs14 hla14 hY14
    have hRq : R = q14 := sorted_uniq (lt := fun i j => lt3 (triAt nu ov (lawTexts ov) i) (triAt nu ov (lawTexts ov) j)) (fun h => lt3_asymm h) (hRp.trans hq14.symm) hRs hs14
    rw [← hRq] at hfs14 hU14
    rw [← hInv] at hK12
    obtain ⟨e1, e2⟩ := sys_end hob hol P hK12 hend12 hfs14 hla14
    obtain ⟨a1, ra⟩ := ans_reads N14 (.tail _ (.tail _ (.tail _ (hY14 _ (.head _))))) (.tail _ (.tail _ (.tail _ (hY14 _ (.tail _ (.tail _ (.head _))))))) (.tail _ (.tail _ (.tail _ (hY14 _ (.tail _ (.tail _ (.tail _ (.head _)))))))) (fun q hq => .tail _ (.tail _ (.tail _ (hY14 _ (.tail _ (.tail _ (.tail _ (.tail _ hq)))))))) hT12 (its_key hO12)
    obtain ⟨a2, rb⟩ := ans_reads N14 (.head _) (.tail _ (.head _)) (.tail _ (.tail _ (.head _))) (fun q hq => .tail _ (.tail _ (.tail _ hq))) hT14 hU14
    rw [e1, e2] at ra
    have hR8 : ∀ p ∈ R, p < 8 := fun p hp => P.mem.mp hp
    have hf8 : ∀ p ∈ fs14, p < 8 := fun p hp => by
      rw [hfs14] at hp
      exact hR8 p (List.mem_filter.mp (List.mem_of_mem_take hp)).1
    have hsh := ans_ok (ns := nu) hob hR8 hf8 (isOpen nu ov (lawTexts ov) last14)
    k_steps
    refine Stop.mk ?_
    refine eq_dataH ra rb hsh hsh ?_ ?_
    · simp only [units_deeper]; decide +kernel
    rw [ans_eqv]
    k_steps)
end Mine
end
set_option maxRecDepth 100000 in
set_option maxHeartbeats 8000000 in
theorem PySem.Challenge.cw_pd0151_01_holds : PySem.Challenge.rw_pd0151_01.Holds := by
  exact Mine.law_it
