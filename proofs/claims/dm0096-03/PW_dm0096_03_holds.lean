import PyProof.Rows.All
import Wide.All
import OpenK.AllK
import Wide.FinOn
import Lean
import PySem.Challenge.RW_dm0096_03
set_option Elab.async false
namespace Mine

/-- what _max_append makes of the lines (texts as lists of numbers) -/
def app (room : Nat) (ls : List (List Nat)) (x : List Nat) : List (List Nat) :=
  match ls.getLast? with
  | none => [x]
  | some y => if y.length + x.length ≤ room then ls.dropLast ++ [y ++ x] else ls ++ [x]

def linesOf (room : Nat) (xs : List (List Nat)) : List (List Nat) := xs.foldl (app room) []

theorem app_ne (room : Nat) (ls x) : app room ls x ≠ [] := by
  unfold app; split
  · simp
  · split <;> simp

theorem app_pre (room : Nat) (d ls : List (List Nat)) (x : List Nat) (h : ls ≠ []) : app room (d ++ ls) x = d ++ app room ls x := by
  unfold app
  have hg : (d ++ ls).getLast? = ls.getLast? := by rw [List.getLast?_append]; cases hl : ls.getLast? with
    | none => exact absurd (List.getLast?_eq_none_iff.mp hl) h
    | some y => rfl
  rw [hg]
  cases hl : ls.getLast? with
  | none => exact absurd (List.getLast?_eq_none_iff.mp hl) h
  | some y =>
    dsimp only
    rw [List.dropLast_append_of_ne_nil h]
    split <;> simp

theorem foldl_pre (room : Nat) (d : List (List Nat)) : ∀ (xs ls : List (List Nat)), ls ≠ [] → xs.foldl (app room) (d ++ ls) = d ++ xs.foldl (app room) ls
  | [], _, _ => rfl
  | x :: r, ls, h => by
    rw [List.foldl_cons, List.foldl_cons, app_pre room d ls x h]
    exact foldl_pre room d r _ (app_ne room ls x)

/-- how many more go in behind t signs -/
def more (room : Nat) : Nat → List (List Nat) → Nat
  | _, [] => 0
  | t, x :: r => if t + x.length ≤ room then 1 + more room (t + x.length) r else 0

theorem more_le (room : Nat) : ∀ (xs : List (List Nat)) (t : Nat), more room t xs ≤ xs.length
  | [], _ => Nat.le_refl _
  | x :: r, t => by
    unfold more
    split
    · have := more_le room r (t + x.length); simp only [List.length_cons]; omega
    · exact Nat.zero_le _

theorem foldl_run (room : Nat) : ∀ (xs : List (List Nat)) (cur : List Nat),
    xs.foldl (app room) [cur] = (cur ++ (xs.take (more room cur.length xs)).flatten) :: linesOf room (xs.drop (more room cur.length xs))
  | [], cur => by simp [more, linesOf]
  | x :: r, cur => by
    rw [List.foldl_cons]
    unfold more
    by_cases h : cur.length + x.length ≤ room
    · rw [if_pos h]
      have e : app room [cur] x = [cur ++ x] := by simp [app, h]
      rw [e, foldl_run room r (cur ++ x), List.length_append, Nat.add_comm 1, List.take_succ_cons, List.drop_succ_cons, List.flatten_cons, List.append_assoc]
    · rw [if_neg h]
      have e : app room [cur] x = [cur] ++ [x] := by simp [app, h]
      rw [e, foldl_pre room [cur] r [x] (by simp)]
      simp [linesOf, app]

theorem linesOf_cons (room : Nat) (x : List Nat) (r : List (List Nat)) :
    linesOf room (x :: r) = (x ++ (r.take (more room x.length r)).flatten) :: linesOf room (r.drop (more room x.length r)) := by
  show r.foldl (app room) (app room [] x) = _
  exact foldl_run room r x

theorem linesOf_nil (room : Nat) : linesOf room [] = [] := rfl

/-- count and the last line's length -/
def cstep (room : Nat) (p : Nat × Nat) (x : Nat) : Nat × Nat :=
  if p.1 = 0 then (1, x) else if p.2 + x ≤ room then (p.1, p.2 + x) else (p.1 + 1, x)
def cnt (room : Nat) (zs : List Nat) : Nat × Nat := zs.foldl (cstep room) (0, 0)

theorem cnt_snoc (room : Nat) (zs : List Nat) (x : Nat) : cnt room (zs ++ [x]) = cstep room (cnt room zs) x := by
  unfold cnt; rw [List.foldl_append]; rfl

theorem cstep_fst_le (room : Nat) (p x) : p.1 ≤ (cstep room p x).1 := by
  unfold cstep; split
  · simp; omega
  · split <;> simp
theorem cstep_fst_pos (room : Nat) (p x) : 0 < (cstep room p x).1 := by
  unfold cstep; split
  · simp
  · split
    · simp; omega
    · simp

theorem linesOf_snoc (room : Nat) (xs : List (List Nat)) (x : List Nat) : linesOf room (xs ++ [x]) = app room (linesOf room xs) x := by
  unfold linesOf; rw [List.foldl_append]; rfl

theorem lines_cnt (room : Nat) (xs : List (List Nat)) :
    (linesOf room xs).length = (cnt room (xs.map List.length)).1 ∧ ∀ y, (linesOf room xs).getLast? = some y → y.length = (cnt room (xs.map List.length)).2 := by
  suffices H : ∀ (r xs : List (List Nat)), xs.reverse = r → (linesOf room xs).length = (cnt room (xs.map List.length)).1 ∧ ∀ y, (linesOf room xs).getLast? = some y → y.length = (cnt room (xs.map List.length)).2 from H _ xs rfl
  intro r
  induction r with
  | nil => intro xs h; rw [List.reverse_eq_nil_iff] at h; subst h; exact ⟨rfl, fun y hy => by simp [linesOf] at hy⟩
  | cons x r ih =>
    intro xs h
    have hx : xs = r.reverse ++ [x] := by rw [← List.reverse_reverse xs, h]; simp
    subst hx
    obtain ⟨i1, i2⟩ := ih r.reverse (by simp)
    rw [linesOf_snoc, List.map_append, List.map_cons, List.map_nil, cnt_snoc]
    generalize linesOf room r.reverse = ls at i1 i2
    generalize cnt room (r.reverse.map List.length) = p at i1 i2
    unfold app cstep
    cases hl : ls.getLast? with
    | none =>
      have := List.getLast?_eq_none_iff.mp hl
      subst this
      have : p.1 = 0 := by simpa using i1.symm
      simp [this]
    | some y =>
      have hne : ls ≠ [] := by intro e; subst e; simp at hl
      have hp : ¬ p.1 = 0 := by rw [← i1]; intro e; exact hne (List.length_eq_zero_iff.mp e)
      have hy := i2 y hl
      dsimp only
      rw [if_neg hp, ← hy]
      by_cases hc : y.length + x.length ≤ room
      · rw [if_pos hc, if_pos hc]
        refine ⟨?_, fun z hz => ?_⟩
        · have := List.length_pos_iff.mpr hne; simp; omega
        · simp at hz; subst hz; simp
      · rw [if_neg hc, if_neg hc]
        refine ⟨by simp [i1], fun z hz => ?_⟩
        simp at hz; subst hz; rfl

theorem cnt_mono (room : Nat) (zs : List Nat) (x : Nat) : (cnt room zs).1 ≤ (cnt room (zs ++ [x])).1 := by
  rw [cnt_snoc]; exact cstep_fst_le _ _ _

theorem noBreak (room : Nat) : ∀ (l : List Nat) (c t : Nat), 0 < c → t + l.sum ≤ room ∨ l = [] → (l.foldl (cstep room) (c, t)).1 = c
  | [], _, _, _, _ => rfl
  | x :: r, c, t, hc, h => by
    have h' : t + (x + r.sum) ≤ room := by rcases h with h | h; · simpa using h
                                           · cases h
    have e : cstep room (c, t) x = (c, t + x) := by unfold cstep; rw [if_neg (by simp; omega), if_pos (by simp; omega)]
    rw [List.foldl_cons, e]
    exact noBreak room r c (t + x) hc (.inl (by omega))

theorem oneBreak (room : Nat) : ∀ (l : List Nat) (c t : Nat), 0 < c → l ≠ [] → room < t + l.sum → (l.sum ≤ room ∨ l.length = 1) → (l.foldl (cstep room) (c, t)).1 = c + 1
  | [], _, t, _, hn, h, h2 => absurd rfl hn
  | x :: r, c, t, hc, _, h, h2 => by
    rw [List.foldl_cons]
    by_cases hx : t + x ≤ room
    · have e : cstep room (c, t) x = (c, t + x) := by unfold cstep; rw [if_neg (by simp; omega), if_pos (by simp; omega)]
      rw [e]
      simp only [List.sum_cons] at h h2
      refine oneBreak room r c (t + x) hc (by intro e; subst e; simp at h; omega) (by omega) ?_
      rcases h2 with h2 | h2
      · exact .inl (by omega)
      · have : r = [] := by simpa using h2
        subst this; simp at h; omega
    · have e : cstep room (c, t) x = (c + 1, x) := by unfold cstep; rw [if_neg (by simp; omega), if_neg (by simp; omega)]
      rw [e]
      refine noBreak room r (c + 1) x (by omega) ?_
      rcases h2 with h2 | h2
      · exact .inl (by simpa using h2)
      · exact .inr (by simpa using h2)

/-- the last run's length is at least the last size -/
theorem cnt_last (room : Nat) (zs : List Nat) (x : Nat) : x ≤ (cnt room (zs ++ [x])).2 := by
  rw [cnt_snoc]; unfold cstep; split
  · exact Nat.le_refl _
  · split <;> simp

/-- the table's step: sizes zs ++ l, the first place at l's head -/
theorem fewest_step (room : Nat) (zs l : List Nat) (hl : l ≠ []) (h : l.sum ≤ room ∨ l.length = 1)
    (hz : ∀ z zs', zs = zs' ++ [z] → room < z + l.sum) : (cnt room (zs ++ l)).1 = (cnt room zs).1 + 1 := by
  unfold cnt
  rw [List.foldl_append]
  show (l.foldl (cstep room) (cnt room zs)).1 = (cnt room zs).1 + 1
  rcases List.eq_nil_or_concat zs with e | ⟨zs', z, e⟩
  · subst e
    cases l with
    | nil => exact absurd rfl hl
    | cons x r =>
      show (r.foldl (cstep room) (1, x)).1 = 1
      refine noBreak room r 1 x (by omega) ?_
      rcases h with h | h
      · exact .inl (by simpa using h)
      · exact .inr (by simpa using h)
  · rw [List.concat_eq_append] at e
    have h1 := cnt_last room zs' z
    have h2 : 0 < (cnt room (zs' ++ [z])).1 := by rw [cnt_snoc]; exact cstep_fst_pos _ _ _
    rw [← e] at h1 h2
    have := hz z zs' e
    exact oneBreak room l (cnt room zs).1 (cnt room zs).2 h2 hl (by omega) h

end Mine

namespace Mine
/-- a piece: one sign, or = and two figures -/
def OkP (p : List Nat) : Prop := (∃ c, p = [c] ∧ c ≠ 61) ∨ (∃ a b, p = [61, a, b] ∧ a ≠ 61 ∧ b ≠ 61)
theorem OkP.len {p : List Nat} (h : OkP p) : p.length = 1 ∨ p.length = 3 := by
  rcases h with ⟨c, rfl, _⟩ | ⟨a, b, rfl, _⟩ <;> simp
/-- where = stands, a piece of three begins -/
theorem eq_at : ∀ (q : List (List Nat)), (∀ p ∈ q, OkP p) → ∀ i, q.flatten[i]? = some 61 → ∃ j, (q.take j).flatten.length = i ∧ ∃ p, q[j]? = some p ∧ p.length = 3
  | [], _, i, h => by simp at h
  | p :: r, hq, i, h => by
    have hp := hq p (by simp)
    have hr := eq_at r fun x hx => hq x (by simp [hx])
    rw [List.flatten_cons] at h
    rcases Nat.lt_or_ge i p.length with hi | hi
    · rw [List.getElem?_append_left hi] at h
      rcases hp with ⟨c, rfl, hc⟩ | ⟨a, b, rfl, ha, hb⟩
      · have : i = 0 := by simp at hi; omega
        subst this
        simp at h
        exact absurd h hc
      · have : i = 0 ∨ i = 1 ∨ i = 2 := by simp at hi; omega
        rcases this with rfl | rfl | rfl
        · exact ⟨0, by simp, _, rfl, rfl⟩
        · simp at h; exact absurd h ha
        · simp at h; exact absurd h hb
    · rw [List.getElem?_append_right hi] at h
      obtain ⟨j, e, p', e1, e2⟩ := hr _ h
      refine ⟨j + 1, ?_, p', by simpa using e1, e2⟩
      rw [List.take_succ_cons, List.flatten_cons, List.length_append, e]
      omega
/-- a piece of three begins with = -/
theorem at_eq : ∀ (q : List (List Nat)), (∀ p ∈ q, OkP p) → ∀ j p, q[j]? = some p → p.length = 3 → q.flatten[(q.take j).flatten.length]? = some 61
  | [], _, j, p, h, _ => by simp at h
  | p :: r, hq, 0, p', h, h3 => by
    simp at h
    subst h
    rcases hq p (by simp) with ⟨c, rfl, hc⟩ | ⟨a, b, rfl, ha, hb⟩
    · simp at h3
    · simp
  | p :: r, hq, j + 1, p', h, h3 => by
    have := at_eq r (fun x hx => hq x (by simp [hx])) j p' (by simpa using h) h3
    rw [List.take_succ_cons, List.flatten_cons, List.flatten_cons, List.length_append, List.getElem?_append_right (by omega), Nat.add_sub_cancel_left]
    exact this
theorem flen_mono (q : List (List Nat)) {i j : Nat} (h : i ≤ j) : (q.take i).flatten.length ≤ (q.take j).flatten.length := by
  have : q.take j = q.take i ++ (q.drop i).take (j - i) := by
    rw [show j = i + (j - i) from by omega, List.take_add]; congr 2; omega
  rw [this, List.flatten_append, List.length_append]
  omega
theorem flen_succ (q : List (List Nat)) {j : Nat} {p : List Nat} (h : q[j]? = some p) : (q.take (j + 1)).flatten.length = (q.take j).flatten.length + p.length := by
  obtain ⟨hj, e⟩ := List.getElem?_eq_some_iff.mp h
  rw [List.take_succ_eq_append_getElem hj, e]
  simp
/-- what the first row takes -/
theorem more_spec (room : Nat) : ∀ (q : List (List Nat)) (t : Nat), t ≤ room → t + ((q.take (more room t q)).flatten).length ≤ room ∧ (∀ p, q[more room t q]? = some p → room < t + ((q.take (more room t q)).flatten).length + p.length)
  | [], t, ht => by simp [more]; exact ht
  | x :: r, t, ht => by
    unfold more
    by_cases h : t + x.length ≤ room
    · rw [if_pos h]
      obtain ⟨a, b⟩ := more_spec room r (t + x.length) h
      rw [Nat.add_comm 1, List.take_succ_cons, List.flatten_cons, List.length_append]
      refine ⟨by omega, fun p hp => ?_⟩
      have := b p (by simpa using hp)
      omega
    · rw [if_neg h]
      refine ⟨by simp; exact ht, fun p hp => ?_⟩
      simp at hp
      subst hp
      simp
      omega
/-- the boundary that the code's two looks find -/
theorem cut_at (n : Nat) (hn : 4 ≤ n) (q : List (List Nat)) (hq : ∀ p ∈ q, OkP p) (hlen : n < q.flatten.length) :
    (((q.take (more (n - 1) 0 q)).flatten).length = if q.flatten[n - 3]? = some 61 then n - 3 else if q.flatten[n - 2]? = some 61 then n - 2 else n - 1) := by
  obtain ⟨h1, h2⟩ := more_spec (n - 1) q 0 (by omega)
  generalize hk : more (n - 1) 0 q = k at *
  rw [Nat.zero_add] at h1 h2
  have hkl : k < q.length := by
    rcases Nat.lt_or_ge k q.length with h | h
    · exact h
    · rw [List.take_of_length_le h] at h1; omega
  have hb := h2 q[k] (by rw [List.getElem?_eq_getElem hkl])
  have hok := (hq q[k] (by simp)).len
  -- no = at a place that is not k's own boundary
  have key : ∀ i, q.flatten[i]? = some 61 → n - 3 ≤ i → i ≤ n - 1 → i = (q.take k).flatten.length ∨ i ≠ i ∨ (q.take k).flatten.length < i ∨ i < (q.take k).flatten.length := fun i _ _ _ => by omega
  have noeq : ∀ i, q.flatten[i]? = some 61 → i < (q.take k).flatten.length → i + 3 ≤ (q.take k).flatten.length := by
    intro i hi hlt
    obtain ⟨j, e, p, e1, e2⟩ := eq_at q hq i hi
    have hjk : j < k := by
      rcases Nat.lt_or_ge j k with h | h
      · exact h
      · have := flen_mono q h; omega
    have a := flen_succ q e1
    have b := flen_mono q (show j + 1 ≤ k from hjk)
    omega
  have at3 : q[k].length = 3 → q.flatten[(q.take k).flatten.length]? = some 61 := fun h => at_eq q hq k q[k] (by rw [List.getElem?_eq_getElem hkl]) h
  have inside : ∀ i, q.flatten[i]? = some 61 → (q.take k).flatten.length < i → (q.take k).flatten.length + q[k].length ≤ i := by
    intro i hi hlt
    obtain ⟨j, e, p, e1, e2⟩ := eq_at q hq i hi
    have hkj : k < j := by
      rcases Nat.lt_or_ge k j with h | h
      · exact h
      · have := flen_mono q h; omega
    have a := flen_succ q (show q[k]? = some q[k] by rw [List.getElem?_eq_getElem hkl])
    have b := flen_mono q (show k + 1 ≤ j from hkj)
    omega
  rcases hok with h | h
  · -- a piece of one: the row is full
    have e : (q.take k).flatten.length = n - 1 := by omega
    rw [if_neg (fun h61 => by have := noeq _ h61 (by omega); omega), if_neg (fun h61 => by have := noeq _ h61 (by omega); omega), e]
  · have h61 := at3 h
    by_cases e3 : (q.take k).flatten.length = n - 3
    · rw [if_pos (by rw [← e3]; exact h61), e3]
    · rw [if_neg (fun h' => by have := noeq _ h' (by omega); omega)]
      by_cases e2 : (q.take k).flatten.length = n - 2
      · rw [if_pos (by rw [← e2]; exact h61), e2]
      · rw [if_neg (fun h' => by have := noeq _ h' (by omega); omega)]
        omega
theorem more_all (room : Nat) : ∀ (r : List (List Nat)) (t : Nat), t + r.flatten.length ≤ room → more room t r = r.length
  | [], _, _ => rfl
  | x :: r, t, h => by
    rw [List.flatten_cons, List.length_append] at h
    unfold more
    rw [if_pos (by omega), more_all room r (t + x.length) (by omega), List.length_cons]
    omega
theorem lines_one (room : Nat) {q : List (List Nat)} (hne : q ≠ []) (h : q.flatten.length ≤ room) : linesOf room q = [q.flatten] := by
  cases q with
  | nil => exact absurd rfl hne
  | cons x r =>
    rw [List.flatten_cons, List.length_append] at h
    rw [linesOf_cons, more_all room r x.length h, List.take_length, List.drop_length, linesOf_nil, List.flatten_cons]
theorem lines_two (room : Nat) {q : List (List Nat)} (hp : ∀ p ∈ q, 0 < p.length ∧ p.length ≤ room) (h : q.flatten.length = room + 1) :
    ∃ a b, linesOf room q = [a, b] ∧ a ++ b = q.flatten ∧ a ≠ [] ∧ b ≠ [] ∧ a.length ≤ room ∧ b = (q.drop (more room 0 q)).flatten := by
  cases q with
  | nil => simp at h
  | cons x r =>
    have hx := hp x (by simp)
    have hm0 : more room 0 (x :: r) = 1 + more room x.length r := by
      show (if 0 + x.length ≤ room then 1 + more room (0 + x.length) r else 0) = _
      rw [Nat.zero_add, if_pos hx.2]
    obtain ⟨h1, h2⟩ := more_spec room r x.length hx.2
    rw [linesOf_cons]
    generalize hk : more room x.length r = k at *
    have hrest : r.take k ++ r.drop k = r := List.take_append_drop k r
    have hfl : (r.take k).flatten.length + (r.drop k).flatten.length = r.flatten.length := by
      rw [← List.length_append, ← List.flatten_append, hrest]
    rw [List.flatten_cons, List.length_append] at h
    have hdne : r.drop k ≠ [] := by intro e; rw [e, List.flatten_nil, List.length_nil] at hfl; omega
    rw [lines_one room hdne (by omega)]
    refine ⟨_, _, rfl, ?_, ?_, ?_, ?_, ?_⟩
    · rw [List.append_assoc, ← List.flatten_append, hrest, List.flatten_cons]
    · intro e
      have := congrArg List.length e
      rw [List.length_append, List.length_nil] at this
      omega
    · intro e
      have := congrArg List.length e
      rw [List.length_nil] at this
      omega
    · rw [List.length_append]; omega
    · rw [hm0, Nat.add_comm 1 k, List.drop_succ_cons]
def joinL (e : List Nat) : List (List Nat) → List Nat
  | [] => []
  | [x] => x
  | x :: y :: r => x ++ e ++ joinL e (y :: r)
theorem joinL_cons (e x : List Nat) {r : List (List Nat)} (h : r ≠ []) : joinL e (x :: r) = x ++ e ++ joinL e r := by
  cases r with
  | nil => exact absurd rfl h
  | cons y r => rfl
theorem joinL_two (e x y : List Nat) : ∀ (B : List (List Nat)), joinL e ((x ++ e ++ y) :: B) = joinL e (x :: y :: B)
  | [] => by simp [joinL]
  | b :: B => by simp [joinL, List.append_assoc]
theorem joinL_split (e x y : List Nat) (B : List (List Nat)) : ∀ (A : List (List Nat)), joinL e (A ++ (x ++ e ++ y) :: B) = joinL e (A ++ x :: y :: B)
  | [] => joinL_two e x y B
  | a :: A => by
    rw [List.cons_append, List.cons_append, joinL_cons e a (by simp), joinL_cons e a (by simp), joinL_split e x y B A]
def mark (rows : List (List Nat)) : List (List Nat) := rows.dropLast.map (· ++ [61]) ++ rows.drop (rows.length - 1)
theorem mark_snoc (R : List (List Nat)) (x : List Nat) : mark (R ++ [x]) = R.map (· ++ [61]) ++ [x] := by
  simp [mark]
/-- what _law_rows makes of its rows at the end; bl: what stands for a last blank -/
def lawFin (n : Nat) (bl : Option (List Nat)) (rows : List (List Nat)) : List (List Nat) :=
  match bl with
  | some qt => if (rows.getLast?.getD []).length + 2 ≤ n then rows.dropLast ++ [(rows.getLast?.getD []).dropLast ++ qt] else rows ++ [[]]
  | none => if 1 < rows.length ∧ (rows.dropLast.getLast?.getD []).length + (rows.getLast?.getD []).length ≤ n then rows.dropLast.dropLast ++ [rows.dropLast.getLast?.getD [] ++ rows.getLast?.getD []] else rows
def bodyLast (n : Nat) (bl : Option (List Nat)) (t e : List Nat) : List Nat :=
  match bl with
  | none => t
  | some qt => if t.length + 2 ≤ n then t.dropLast ++ qt else if t.length + 1 = n then t ++ [61] ++ e else t.dropLast ++ ([61] ++ e ++ qt)
theorem fin_none (n : Nat) (hn : 4 ≤ n) (R q : List (List Nat)) (hq : ∀ p ∈ q, OkP p) (hne : q ≠ []) (hrem : q.flatten.length ≤ n) (hR : ∀ x, R.getLast? = some x → n < x.length + q.flatten.length) (e : List Nat) :
    mark (lawFin n none (R ++ linesOf (n - 1) q)) = R.map (· ++ [61]) ++ [bodyLast n none q.flatten e] := by
  rcases Nat.lt_or_ge q.flatten.length n with h | h
  · rw [lines_one (n - 1) hne (by omega)]
    have : lawFin n none (R ++ [q.flatten]) = R ++ [q.flatten] := by
      unfold lawFin
      simp only [List.dropLast_concat, List.getLast?_concat, Option.getD_some]
      rcases List.eq_nil_or_concat R with e' | ⟨R', x, e'⟩
      · subst e'; simp
      · rw [List.concat_eq_append] at e'
        subst e'
        have := hR x (by simp)
        rw [if_neg (by rintro ⟨_, h9⟩; simp only [List.getLast?_concat, Option.getD_some] at h9; omega)]
    rw [this, mark_snoc]
    rfl
  · obtain ⟨a, b, e1, e2, e3, e4, e5, e6⟩ := lines_two (n - 1) (q := q) (fun p hp => by have := (hq p hp).len; omega) (by omega)
    rw [e1]
    have hl : a.length + b.length = n := by
      have := congrArg List.length e2
      rw [List.length_append] at this
      omega
    have : lawFin n none (R ++ [a, b]) = R ++ [q.flatten] := by
      unfold lawFin
      rw [show R ++ [a, b] = R ++ [a] ++ [b] from by simp]
      simp only [List.dropLast_concat, List.getLast?_concat, Option.getD_some]
      rw [if_pos ⟨by simp, by omega⟩, e2]
    rw [this, mark_snoc]
    rfl
theorem fin_some (n : Nat) (hn : 4 ≤ n) (R q : List (List Nat)) (c : Nat) (qt e : List Nat) (hqt : qt.length = 3) (hrem : (q ++ [[c]]).flatten.length ≤ n) (A B : List (List Nat)) :
    joinL e (A ++ mark (lawFin n (some qt) (R ++ linesOf (n - 1) (q ++ [[c]]))) ++ B) = joinL e (A ++ (R.map (· ++ [61]) ++ [bodyLast n (some qt) (q ++ [[c]]).flatten e]) ++ B) := by
  have hfl : (q ++ [[c]]).flatten = q.flatten ++ [c] := by simp
  have hll : (q ++ [[c]]).flatten.length = q.flatten.length + 1 := by rw [hfl]; simp
  rcases Nat.lt_or_ge (q ++ [[c]]).flatten.length n with h | h
  · rw [lines_one (n - 1) (by simp) (by omega)]
    unfold lawFin bodyLast
    simp only [List.dropLast_concat, List.getLast?_concat, Option.getD_some]
    by_cases h2 : (q ++ [[c]]).flatten.length + 2 ≤ n
    · rw [if_pos h2, if_pos h2, mark_snoc]
    · rw [if_neg h2, if_neg h2, if_pos (by omega), mark_snoc]
      have := joinL_split e ((q ++ [[c]]).flatten ++ [61]) [] B (A ++ R.map (· ++ [61]))
      simp only [List.append_nil] at this
      generalize (q ++ [[c]]).flatten = tt at this ⊢
      simp only [List.map_append, List.map_cons, List.map_nil, List.append_assoc, List.cons_append, List.nil_append] at this ⊢
      exact this.symm
  · have hq0 : q ≠ [] := by rintro rfl; simp at h; omega
    have e1 : linesOf (n - 1) (q ++ [[c]]) = [q.flatten, [c]] := by
      rw [linesOf_snoc, lines_one (n - 1) hq0 (by omega)]
      unfold app
      simp only [List.getLast?_singleton]
      rw [if_neg (by rw [List.length_singleton]; omega)]
      rfl
    rw [e1]
    unfold lawFin bodyLast
    rw [show R ++ [q.flatten, [c]] = R ++ [q.flatten] ++ [[c]] from by simp]
    simp only [List.dropLast_concat, List.getLast?_concat, Option.getD_some]
    rw [if_pos (by simp; omega), if_neg (by omega), if_neg (by omega), mark_snoc, hfl, List.dropLast_concat]
    have := joinL_split e (q.flatten ++ [61]) qt B (A ++ R.map (· ++ [61]))
    rw [show ([c] : List Nat).dropLast = [] from rfl]
    generalize q.flatten = tt at this ⊢
    simp only [List.map_append, List.map_cons, List.map_nil, List.append_assoc, List.cons_append, List.nil_append] at this ⊢
    exact this.symm
end Mine

open PySem PyProof.Rows
set_option Elab.async false
set_option maxRecDepth 100000
set_option maxHeartbeats 1000000
namespace Mine
def isB (c : Nat) : Bool := c == 10 || c == 13 || c == 8232 || c == 8233
def prepH (p : List Nat) : List (List Nat) → List (List Nat)
  | [] => [p]
  | h :: t => (p ++ h) :: t
def spl (d : Nat) : List Nat → List (List Nat)
  | [] => [[]]
  | c :: r => if c = d then [] :: spl d r else prepH [c] (spl d r)
def rep1 : List Nat → List Nat
  | [] => []
  | c :: r => if c = 13 ∧ r.head? = some 10 then rep1 r else c :: rep1 r
def sub1 (c d k : Nat) : Nat := if k = c then d else k
def nl (k : Nat) : Nat := sub1 8233 10 (sub1 8232 10 (sub1 13 10 k))
def cutL (l : List Nat) : List (List Nat) := spl 10 ((rep1 l).map nl)
theorem spl_ne (d : Nat) : ∀ l, spl d l ≠ []
  | [] => by simp [spl]
  | c :: r => by
    unfold spl
    split
    · simp
    · cases h : spl d r <;> simp [prepH]
theorem nl_b {c : Nat} (h : isB c = true) : nl c = 10 := by
  unfold isB at h
  simp at h
  rcases h with ((rfl | rfl) | rfl) | rfl <;> decide
theorem nl_n {c : Nat} (h : isB c = false) : nl c = c := by
  unfold isB at h
  simp at h
  simp [nl, sub1, h]
theorem cutL_cons (c : Nat) (r : List Nat) : cutL (c :: r) = if c = 13 ∧ r.head? = some 10 then cutL r else if isB c = true then [] :: cutL r else prepH [c] (cutL r) := by
  unfold cutL
  rw [rep1]
  split
  · rfl
  · rw [List.map_cons, spl]
    cases hb : isB c
    · have : c ≠ 10 := by rintro rfl; simp [isB] at hb
      rw [nl_n hb, if_neg this]; rfl
    · rw [nl_b hb, if_pos rfl]; rfl
theorem cutL_nil : cutL [] = [[]] := rfl
theorem cutL_ne (l) : cutL l ≠ [] := spl_ne _ _
theorem prepH_nil {l : List (List Nat)} (h : l ≠ []) : prepH [] l = l := by
  cases l with
  | nil => exact absurd rfl h
  | cons a r => rfl
theorem prepH_prepH (p q : List Nat) {l : List (List Nat)} (h : l ≠ []) : prepH p (prepH q l) = prepH (p ++ q) l := by
  cases l with
  | nil => exact absurd rfl h
  | cons a r => simp [prepH]
/-- a stretch without line ends -/
theorem cutL_pre : ∀ (p r : List Nat), (∀ c ∈ p, isB c = false) → cutL (p ++ r) = prepH p (cutL r)
  | [], r, _ => by rw [List.nil_append, prepH_nil (cutL_ne r)]
  | c :: p, r, h => by
    have hc := h c (by simp)
    rw [List.cons_append, cutL_cons, if_neg (by rintro ⟨rfl, _⟩; simp [isB] at hc), if_neg (by simp [hc]), cutL_pre p r fun d hd => h d (by simp [hd]), prepH_prepH _ _ (cutL_ne r)]
    rfl
/-- splitting at one sign, known by its parts -/
theorem spl_pre (d : Nat) : ∀ (p r : List Nat), d ∉ p → spl d (p ++ r) = prepH p (spl d r)
  | [], r, _ => by rw [List.nil_append, prepH_nil (spl_ne d r)]
  | c :: p, r, h => by
    rw [List.cons_append, spl, if_neg (by rintro rfl; simp at h), spl_pre d p r (by intro h'; exact h (by simp [h'])), prepH_prepH _ _ (spl_ne d r)]
    rfl
theorem spl_join (d : Nat) : ∀ parts : List (List Nat), parts ≠ [] → (∀ p ∈ parts, d ∉ p) → spl d (joinL [d] parts) = parts
  | [], h, _ => absurd rfl h
  | [x], _, h => by
    have := spl_pre d x [] (h x (by simp))
    rw [List.append_nil] at this
    show spl d x = _
    rw [this]
    simp [spl, prepH]
  | x :: y :: r, _, h => by
    have ih := spl_join d (y :: r) (by simp) fun p hp => h p (by simp [List.mem_cons.mp hp])
    show spl d (x ++ [d] ++ joinL [d] (y :: r)) = _
    rw [List.append_assoc, spl_pre d x _ (h x (by simp)), List.singleton_append, spl, if_pos rfl, ih]
    simp [prepH]
theorem join_toL (sep : Str) : ∀ parts : List Str, (Str.join sep parts).cps.toList = joinL sep.cps.toList (parts.map (·.cps.toList))
  | [] => rfl
  | [x] => rfl
  | x :: y :: r => by
    have ih := join_toL sep (y :: r)
    show (x ++ sep ++ Str.join sep (y :: r)).cps.toList = x.cps.toList ++ sep.cps.toList ++ joinL sep.cps.toList ((y :: r).map (·.cps.toList))
    rw [← ih]
    simp [Str.cps_append]
theorem split_toL (x : Str) (d : Nat) : (Txt.split x ⟨#[d]⟩).map (·.cps.toList) = spl d x.cps.toList := by
  have h1 := StrLaws.join_split x ⟨#[d]⟩
  have h2 := StrLaws.split_free x d
  have h3 := join_toL ⟨#[d]⟩ (Txt.split x ⟨#[d]⟩)
  rw [h1] at h3
  rw [h3]
  refine (spl_join d _ ?_ ?_).symm
  · intro e
    have e' : Txt.split x ⟨#[d]⟩ = [] := by simpa using e
    unfold Txt.split at e'
    split at e'
    · simp at e'
    · split at e'
      · simp at e'
      · rw [StrLaws.partsBetween_eq] at e'
        obtain ⟨p, r, e2⟩ := StrLaws.partsFrom_ne x (⟨#[d]⟩ : Str).length 0 (Builtin.Str.occurrences x ⟨#[d]⟩ 0 x.length (x.length + 1))
        rw [e2] at e'
        simp at e'
  · intro p hp
    obtain ⟨a, ha, rfl⟩ := List.mem_map.mp hp
    exact h2 a ha
theorem join_spl (c d : Nat) : ∀ l : List Nat, joinL [d] (spl c l) = l.map (sub1 c d)
  | [] => rfl
  | k :: r => by
    have ih := join_spl c d r
    rw [spl]
    split
    · rename_i h
      rw [joinL_cons _ _ (spl_ne c r), ih]
      simp [sub1, h]
    · rename_i h
      rw [List.map_cons, ← ih, show sub1 c d k = k from if_neg h]
      cases hs : spl c r with
      | nil => exact absurd hs (spl_ne c r)
      | cons a t =>
        cases t with
        | nil => rfl
        | cons b t => rfl
theorem replace_toL (x : Str) (c d : Nat) : (Txt.replace x ⟨#[c]⟩ ⟨#[d]⟩).cps.toList = x.cps.toList.map (sub1 c d) := by
  rw [StrLaws.replace_one, join_toL, split_toL]
  exact join_spl c d _
/-- CRLF -/
theorem rep1_pre : ∀ (p r : List Nat), (∀ k, k < p.length → ¬ ((p ++ r)[k]? = some 13 ∧ (p ++ r)[k + 1]? = some 10)) → rep1 (p ++ r) = p ++ rep1 r
  | [], r, _ => rfl
  | c :: p, r, h => by
    have h0 := h 0 (by simp)
    rw [List.cons_append] at h0 ⊢
    rw [rep1, if_neg (by
      rintro ⟨rfl, e⟩
      refine h0 ⟨rfl, ?_⟩
      rw [← e]
      cases p ++ r <;> rfl), rep1_pre p r fun k hk => by
        have := h (k + 1) (by simp; omega)
        simpa using this]
    rfl
theorem at_crlf (x : Str) (k : Nat) : StrLaws.At x ⟨#[13, 10]⟩ x.length k ↔ (x.cps.toList[k]? = some 13 ∧ x.cps.toList[k + 1]? = some 10) := by
  unfold StrLaws.At
  rw [StrLaws.subAt_eq]
  have hl : x.length = x.cps.toList.length := by simp [Str.length]
  rw [hl]
  generalize x.cps.toList = l
  show k + 2 ≤ l.length ∧ ((l.drop k).take 2 == [13, 10]) = true ↔ _
  rw [beq_iff_eq]
  constructor
  · rintro ⟨h, e⟩
    have e0 := congrArg (fun z : List Nat => z[0]?) e
    have e1 := congrArg (fun z : List Nat => z[1]?) e
    simp [List.getElem?_drop] at e0 e1
    exact ⟨e0, e1⟩
  · rintro ⟨a, b⟩
    obtain ⟨hk, _⟩ := List.getElem?_eq_some_iff.mp a
    obtain ⟨hk1, _⟩ := List.getElem?_eq_some_iff.mp b
    refine ⟨by omega, ?_⟩
    rw [List.drop_eq_getElem_cons hk, List.drop_eq_getElem_cons hk1]
    rw [List.getElem?_eq_getElem hk] at a
    rw [List.getElem?_eq_getElem hk1] at b
    simp [Option.some.inj a, Option.some.inj b]
theorem parts_crlf (x : Str) : ∀ (cuts : List Nat) (a f : Nat), StrLaws.ChainG x ⟨#[13, 10]⟩ x.length a cuts f → (∀ k, f ≤ k → ¬ StrLaws.At x ⟨#[13, 10]⟩ x.length k) →
    (Str.join ⟨#[10]⟩ (StrLaws.partsFrom x 2 a cuts)).cps.toList = rep1 (x.cps.toList.drop a)
  | [], a, f, hG, hn => by
    have ef : f = a := hG
    subst ef
    have hl : x.length = x.cps.toList.length := by simp [Str.length]
    show (Builtin.Str.strSub x f x.length).cps.toList = _
    rw [StrLaws.strSub_toList, hl, List.take_of_length_le (by simp)]
    have := rep1_pre (x.cps.toList.drop f) [] (fun k hk h => by
      rw [List.append_nil, List.getElem?_drop, List.getElem?_drop] at h
      exact hn (f + k) (by omega) ((at_crlf x (f + k)).mpr h))
    rw [List.append_nil] at this
    rw [this]
    simp [rep1]
  | c :: r, a, f, hG, hn => by
    obtain ⟨hac, hA, hno, hG'⟩ := hG
    have ih := parts_crlf x r (c + 2) f hG' hn
    obtain ⟨e13, e10⟩ := (at_crlf x c).mp hA
    obtain ⟨p, rr, ep⟩ := StrLaws.partsFrom_ne x 2 (c + 2) r
    show (Str.join ⟨#[10]⟩ (Builtin.Str.strSub x a c :: StrLaws.partsFrom x 2 (c + 2) r)).cps.toList = _
    rw [join_toL, List.map_cons, joinL_cons _ _ (by rw [ep]; simp), ← join_toL, ih, StrLaws.strSub_toList]
    have hno' : ∀ k, a ≤ k → k < c → ¬ (x.cps.toList[k]? = some 13 ∧ x.cps.toList[k + 1]? = some 10) := fun k h1 h2 h => hno k h1 h2 ((at_crlf x k).mpr h)
    generalize x.cps.toList = l at *
    obtain ⟨hk, h13⟩ := List.getElem?_eq_some_iff.mp e13
    obtain ⟨hk1, h10⟩ := List.getElem?_eq_some_iff.mp e10
    have e2 : l.drop a = (l.drop a).take (c - a) ++ (13 :: 10 :: l.drop (c + 2)) := by
      have : l.drop c = 13 :: 10 :: l.drop (c + 2) := by rw [List.drop_eq_getElem_cons hk, List.drop_eq_getElem_cons hk1, h13, h10]
      rw [← this]
      have h3 : l.drop c = (l.drop a).drop (c - a) := by rw [List.drop_drop]; congr 1; omega
      rw [h3, List.take_append_drop]
    have e3 := rep1_pre ((l.drop a).take (c - a)) (13 :: 10 :: l.drop (c + 2)) (fun k hk h => by
      rw [← e2, List.getElem?_drop, List.getElem?_drop] at h
      rw [List.length_take] at hk
      exact hno' (a + k) (by omega) (by omega) h)
    have e4 := congrArg rep1 e2
    rw [e4, e3]
    simp [rep1]
theorem replace_crlf (x : Str) : (Txt.replace x ⟨#[13, 10]⟩ ⟨#[10]⟩).cps.toList = rep1 x.cps.toList := by
  obtain ⟨f, hG, hn⟩ := StrLaws.occ_tight x ⟨#[13, 10]⟩ (by decide)
  have key := parts_crlf x _ 0 f hG hn
  rw [List.drop_zero] at key
  rw [← key]
  unfold Txt.replace
  have h10 : ((⟨#[13, 10]⟩ : Str).length == 0) = false := rfl
  rw [h10, Bool.false_and, Bool.or_false]
  cases he : (Builtin.Str.occurrences x ⟨#[13, 10]⟩ 0 x.length (x.length + 1)).isEmpty
  · rw [if_neg Bool.false_ne_true, StrLaws.glued_eq_join, StrLaws.partsBetween_eq]
    rfl
  · rw [if_pos rfl, List.isEmpty_iff.mp he]
    show _ = (Builtin.Str.strSub x 0 x.length).cps.toList
    rw [StrLaws.sub_whole]
/-- the lines that splitlines finds -/
def dle (l : List (List Nat)) : List (List Nat) := if l.getLast? = some [] then l.dropLast else l
theorem dle_cons (p : List Nat) {l : List (List Nat)} (h : l ≠ []) : dle (p :: l) = p :: dle l := by
  cases l with
  | nil => exact absurd rfl h
  | cons a r =>
    unfold dle
    rw [show (p :: a :: r).getLast? = (a :: r).getLast? from by simp [List.getLast?_cons_cons]]
    split <;> rfl
def spanL (l : List Nat) (p : Nat × Nat × Nat) : List Nat := (l.drop p.1).take (p.2.1 - p.1)
theorem ls_cut (s : Str) (hb : ∀ c ∈ s.cps.toList, Unicode.isLineBreak c = isB c) : ∀ (m cur : Nat) (lines : Array (Nat × Nat × Nat)) (start : Nat), cur + m = s.length → (start ≤ cur ∨ (start = cur + 1 ∧ s.cps.toList[cur]? = some 10)) →
    (StrLaws.lsEnd s (Id.run (forIn (m := Id) (List.range' cur m) ((lines, start) : StrLaws.LsSt) (StrLaws.lsBody s)))).map (spanL s.cps.toList) =
      lines.toList.map (spanL s.cps.toList) ++ (if start ≤ cur then dle (prepH ((s.cps.toList.drop start).take (cur - start)) (cutL (s.cps.toList.drop cur))) else dle (cutL (s.cps.toList.drop (cur + 1))))
  | 0, cur, lines, start, hm, hor => by
    have hl : s.length = s.cps.toList.length := by simp [Str.length]
    have hs : start ≤ cur := by
      rcases hor with h | ⟨_, h⟩
      · exact h
      · obtain ⟨h', _⟩ := List.getElem?_eq_some_iff.mp h
        omega
    rw [if_pos hs]
    show (StrLaws.lsEnd s (lines, start)).map _ = _
    unfold StrLaws.lsEnd
    rw [List.drop_eq_nil_of_le (as := s.cps.toList) (i := cur) (by omega), cutL_nil]
    show _ = _ ++ dle [_ ++ []]
    rw [List.append_nil]
    by_cases h : start < s.length
    · simp only [h, if_true]
      rw [Array.toList_push, List.map_append]
      congr 1
      have : (s.cps.toList.drop start).take (cur - start) ≠ [] := by
        intro e
        have := congrArg List.length e
        rw [List.length_take, List.length_drop, List.length_nil] at this
        omega
      unfold dle
      rw [if_neg (by simpa using this)]
      simp [spanL, show cur = s.length from by omega]
    · simp only [h, if_false]
      have : (s.cps.toList.drop start).take (cur - start) = [] := by
        rw [show cur - start = 0 from by omega]; simp
      rw [this]
      simp [dle]
  | m + 1, cur, lines, start, hm, hor => by
    have hl : s.length = s.cps.toList.length := by simp [Str.length]
    have hcl : cur < s.cps.toList.length := by omega
    rw [List.range'_succ, List.forIn_cons]
    have hgd : s.cps.getD cur 0 = s.cps.toList[cur] := by
      have : cur < s.cps.size := by simpa using hcl
      simp [Array.getD, this]
    have hdc := List.drop_eq_getElem_cons hcl
    have hbc := hb s.cps.toList[cur] (by simp)
    unfold StrLaws.lsBody
    by_cases hs : start ≤ cur
    · rw [if_pos hs]
      cases hB : isB s.cps.toList[cur]
      · have hc : ¬ (decide (start ≤ cur) && Unicode.isLineBreak (s.cps.getD cur 0)) = true := by rw [hgd, hbc, hB]; simp
        simp only [hc, if_false, Bool.false_eq_true]
        have ih := ls_cut s hb m (cur + 1) lines start (by omega) (.inl (by omega))
        rw [if_pos (by omega)] at ih
        refine Eq.trans ih ?_
        rw [hdc, cutL_cons, if_neg (by rintro ⟨e, _⟩; rw [e] at hB; simp [isB] at hB), if_neg (by rw [hB]; exact Bool.false_ne_true), prepH_prepH _ _ (cutL_ne _)]
        congr 4
        have e1 : cur - start < (s.cps.toList.drop start).length := by rw [List.length_drop]; omega
        rw [show cur + 1 - start = (cur - start) + 1 from by omega, List.take_succ_eq_append_getElem e1]
        simp [show start + (cur - start) = cur from by omega]
      · have hc : (decide (start ≤ cur) && Unicode.isLineBreak (s.cps.getD cur 0)) = true := by rw [hgd, hbc, hB]; simp [hs]
        simp only [hc, if_true]
        have hpe : ∀ L, cutL L ≠ [] := cutL_ne
        by_cases hcr : s.cps.toList[cur] = 13 ∧ s.cps.toList[cur + 1]? = some 10
        · have hn : StrLaws.lsNext s cur = cur + 2 := by
            unfold StrLaws.lsNext
            rw [hgd, hcr.1, if_pos]
            have := hcr.2
            simp at this ⊢
            exact this
          have ih := ls_cut s hb m (cur + 1) (lines.push (start, cur, StrLaws.lsNext s cur)) (StrLaws.lsNext s cur) (by omega) (.inr ⟨by omega, hcr.2⟩)
          rw [if_neg (by omega)] at ih
          refine Eq.trans ih ?_
          obtain ⟨h2, h10⟩ := List.getElem?_eq_some_iff.mp hcr.2
          rw [hdc, List.drop_eq_getElem_cons h2, hcr.1, h10, cutL_cons, if_pos ⟨rfl, rfl⟩, cutL_cons, if_neg (by rintro ⟨h9, _⟩; exact absurd h9 (by decide)), if_pos (by decide)]
          show _ = _ ++ dle ((_ ++ []) :: _)
          rw [List.append_nil, dle_cons _ (hpe _), Array.toList_push, List.map_append, List.append_assoc]
          rfl
        · have hn : StrLaws.lsNext s cur = cur + 1 := by
            unfold StrLaws.lsNext
            rw [hgd, if_neg]
            intro h
            apply hcr
            simp at h
            simpa using h
          have ih := ls_cut s hb m (cur + 1) (lines.push (start, cur, StrLaws.lsNext s cur)) (StrLaws.lsNext s cur) (by omega) (.inl (by omega))
          rw [if_pos (by omega), hn, Nat.sub_self, List.take_zero, prepH_nil (hpe _)] at ih
          rw [hn]
          refine Eq.trans ih ?_
          rw [hdc, cutL_cons, if_neg (by
            rintro ⟨e, e'⟩
            exact hcr ⟨e, by rw [← e', List.head?_drop]⟩), if_pos hB]
          show _ = _ ++ dle ((_ ++ []) :: _)
          rw [List.append_nil, dle_cons _ (hpe _), Array.toList_push, List.map_append, List.append_assoc]
          rfl
    · rw [if_neg hs]
      have hc : ¬ (decide (start ≤ cur) && Unicode.isLineBreak (s.cps.getD cur 0)) = true := by simp [hs]
      simp only [hc, if_false, Bool.false_eq_true]
      rcases hor with h | ⟨rfl, _⟩
      · exact absurd h hs
      have ih := ls_cut s hb m (cur + 1) lines (cur + 1) (by omega) (.inl (Nat.le_refl _))
      rw [if_pos (Nat.le_refl _), Nat.sub_self, List.take_zero, prepH_nil (cutL_ne _)] at ih
      exact ih
theorem lines_toL (x : Str) (hb : ∀ c ∈ x.cps.toList, Unicode.isLineBreak c = isB c) : (Txt.lines x).map (·.cps.toList) = dle (cutL x.cps.toList) := by
  have h1 := ls_cut x hb x.length 0 #[] 0 (by omega) (.inl (Nat.le_refl _))
  rw [← StrLaws.ls_eq, if_pos (Nat.le_refl _), List.drop_zero, Nat.sub_self, List.take_zero, prepH_nil (cutL_ne _)] at h1
  have h2 : (PySem.linesOf x).map (·.cps.toList) = (Builtin.Str.lineSpans x).map (spanL x.cps.toList) := by
    unfold PySem.linesOf lineCuts
    rw [List.map_map, List.map_map]
    apply List.map_congr_left
    intro ⟨i, j, k⟩ _
    exact StrLaws.strSub_toList x i j
  rw [h1] at h2
  have h3 : Txt.lines x = PySem.linesOf x := by
    unfold Txt.lines
    split
    · rename_i h
      unfold PySem.linesOf
      rw [eq_of_beq h]
      show [x] = [Builtin.Str.strSub x 0 x.length]
      rw [StrLaws.sub_whole]
    · rfl
  rw [h3, h2]
  simp
end Mine

open PySem PyProof.Rows
set_option Elab.async false
set_option maxRecDepth 100000
set_option maxHeartbeats 1000000
namespace Mine
structure PcOk (T : Nat → List Nat) : Prop where
  ok : ∀ c, OkP (T c)
  brk : ∀ c, isB c = true → T c = [c]
  nob : ∀ c, isB c = false → ∀ d ∈ T c, isB d = false
  lb : ∀ c, ∀ d ∈ T c, Unicode.isLineBreak d = isB d
  bl : ∀ c, (c = 32 ∨ c = 9) → T c = [c]
  nbl : ∀ c, c ≠ 32 → c ≠ 9 → ∀ d, (T c).getLast? = some d → d ≠ 32 ∧ d ≠ 9
section
variable {T : Nat → List Nat} (K : PcOk T)
include K
theorem PcOk.ne (c : Nat) : T c ≠ [] := by
  intro e
  have := (K.ok c).len
  rw [e] at this
  simp at this
theorem head_flat (r : List Nat) : (r.flatMap T).head? = some 10 ↔ r.head? = some 10 := by
  cases r with
  | nil => simp
  | cons c r =>
    rw [List.flatMap_cons]
    cases hT : T c with
    | nil => exact absurd hT (K.ne c)
    | cons a t =>
      simp only [List.cons_append, List.head?_cons, Option.some.injEq]
      cases hB : isB c
      · have h1 := K.nob c hB a (by rw [hT]; simp)
        constructor
        · rintro rfl; simp [isB] at h1
        · rintro rfl; simp [isB] at hB
      · have := K.brk c hB
        rw [hT] at this
        simp at this
        rw [this.1]
theorem cut_flat : ∀ l : List Nat, cutL (l.flatMap T) = (cutL l).map (·.flatMap T)
  | [] => rfl
  | c :: r => by
    have ih := cut_flat r
    rw [List.flatMap_cons]
    cases hB : isB c
    · rw [cutL_pre _ _ (K.nob c hB), ih, cutL_cons, if_neg (by rintro ⟨rfl, _⟩; simp [isB] at hB), if_neg (by rw [hB]; exact Bool.false_ne_true)]
      cases hc : cutL r with
      | nil => exact absurd hc (cutL_ne r)
      | cons a t => simp [prepH]
    · rw [K.brk c hB, List.singleton_append, cutL_cons, cutL_cons]
      by_cases h : c = 13 ∧ r.head? = some 10
      · rw [if_pos ⟨h.1, (head_flat K r).mpr h.2⟩, if_pos h, ih]
      · rw [if_neg (fun h' => h ⟨h'.1, (head_flat K r).mp h'.2⟩), if_neg h, if_pos hB, if_pos hB, ih]
        rfl
theorem flat_nil (l : List Nat) : l.flatMap T = [] ↔ l = [] := by
  cases l with
  | nil => simp
  | cons c r =>
    simp [K.ne c]
theorem dle_flat (L : List (List Nat)) : dle (L.map (·.flatMap T)) = (dle L).map (·.flatMap T) := by
  unfold dle
  rw [List.getLast?_map]
  cases h : L.getLast? with
  | none => simp
  | some z =>
    simp only [Option.map_some, Option.some.injEq, flat_nil K]
    split
    · rw [List.map_dropLast]
    · rfl
theorem last_flat (l : List Nat) (c : Nat) : ((l ++ [c]).flatMap T).getLast? = (T c).getLast? := by
  rw [List.flatMap_append, List.getLast?_append]
  have : [c].flatMap T = T c := by simp
  rw [this]
  cases h : (T c).getLast? with
  | none => exact absurd (List.getLast?_eq_none_iff.mp h) (K.ne c)
  | some z => rfl
theorem last_crlf (c d : Nat) (hd : (T c).getLast? = some d) : (d = 10 ∨ d = 13) ↔ (c = 10 ∨ c = 13) := by
  have hm : d ∈ T c := List.mem_of_getLast? hd
  cases hB : isB c
  · have := K.nob c hB d hm
    constructor
    · rintro (rfl | rfl) <;> simp [isB] at this
    · rintro (rfl | rfl) <;> simp [isB] at hB
  · rw [K.brk c hB] at hd
    simp at hd
    rw [hd]
end
theorem cut_last : ∀ (t : List Nat) (c : Nat), (isB c = true → ∃ L, L ≠ [] ∧ cutL (t ++ [c]) = L ++ [[]]) ∧ (isB c = false → ∃ L h, h ≠ [] ∧ cutL (t ++ [c]) = L ++ [h])
  | [], c => by
    refine ⟨fun h => ⟨[[]], by simp, ?_⟩, fun h => ⟨[], [c], by simp, ?_⟩⟩
    · rw [List.nil_append, cutL_cons, if_neg (by simp), if_pos h]; rfl
    · rw [List.nil_append, cutL_cons, if_neg (by simp), if_neg (by rw [h]; exact Bool.false_ne_true)]; rfl
  | a :: t, c => by
    obtain ⟨i1, i2⟩ := cut_last t c
    rw [List.cons_append, cutL_cons]
    constructor
    · intro h
      obtain ⟨L, hL, e⟩ := i1 h
      rw [e]
      split
      · exact ⟨L, hL, rfl⟩
      · split
        · exact ⟨[] :: L, by simp, rfl⟩
        · cases L with
          | nil => exact absurd rfl hL
          | cons x L => exact ⟨([a] ++ x) :: L, by simp, rfl⟩
    · intro h
      obtain ⟨L, z, hz, e⟩ := i2 h
      rw [e]
      split
      · exact ⟨L, z, hz, rfl⟩
      · split
        · exact ⟨[] :: L, z, hz, rfl⟩
        · cases L with
          | nil => exact ⟨[], [a] ++ z, by simp, rfl⟩
          | cons x L => exact ⟨([a] ++ x) :: L, z, hz, rfl⟩
def lawLn (text : List Nat) : List (List Nat) := if text.getLast? = some 8232 ∨ text.getLast? = some 8233 then (cutL text).dropLast else cutL text
theorem law_body (t : List Nat) (c : Nat) : dle (cutL (t ++ [c])) ++ (if c = 10 ∨ c = 13 then [[]] else []) = lawLn (t ++ [c]) := by
  obtain ⟨i1, i2⟩ := cut_last t c
  unfold lawLn
  rw [List.getLast?_concat]
  simp only [Option.some.injEq]
  cases hB : isB c
  · obtain ⟨L, z, hz, e⟩ := i2 hB
    have h1 : ¬ (c = 10 ∨ c = 13) := by rintro (rfl | rfl) <;> simp [isB] at hB
    have h2 : ¬ (c = 8232 ∨ c = 8233) := by rintro (rfl | rfl) <;> simp [isB] at hB
    rw [if_neg h1, if_neg h2, e, List.append_nil]
    unfold dle
    rw [List.getLast?_concat, if_neg (by simpa using hz)]
  · obtain ⟨L, hL, e⟩ := i1 hB
    have hd : dle (L ++ [[]]) = L := by
      unfold dle
      rw [List.getLast?_concat, if_pos rfl, List.dropLast_concat]
    rw [e, hd, List.dropLast_concat]
    unfold isB at hB
    simp at hB
    rcases hB with ((rfl | rfl) | rfl) | rfl <;> simp
/-- the rows of one line -/
def blk (l : List Nat) : Option (List Nat) := if l.getLast? = some 32 then some [61, 50, 48] else if l.getLast? = some 9 then some [61, 48, 57] else none
def rowsP (T : Nat → List Nat) (n : Nat) (l : List Nat) : List (List Nat) := mark (lawFin n (blk l) ((l.map T).foldl (app (n - 1)) [[]]))
theorem fold_lines (room : Nat) {q : List (List Nat)} (hne : q ≠ []) (h : ∀ p ∈ q, p.length ≤ room) : q.foldl (app room) [[]] = linesOf room q := by
  cases q with
  | nil => exact absurd rfl hne
  | cons x r =>
    show r.foldl (app room) (app room [[]] x) = r.foldl (app room) (app room [] x)
    have := h x (by simp)
    simp [app, this]
structure St (n : Nat) (q0 R q : List (List Nat)) (st : Nat) : Prop where
  suf : ∃ k, q = q0.drop k
  sum : R ++ linesOf (n - 1) q = linesOf (n - 1) q0
  ne : q0 ≠ [] → q ≠ []
  last : ∀ x, R.getLast? = some x → n < x.length + q.flatten.length
  pos : q0.flatten.drop st = q.flatten
  len : st + q.flatten.length = q0.flatten.length
  cnt : R.length ≤ st
  rows : ∀ x ∈ R, x.length ≤ q0.flatten.length
theorem St.init (n : Nat) (q0 : List (List Nat)) : St n q0 [] q0 0 := ⟨⟨0, rfl⟩, rfl, id, by simp, rfl, by simp, by simp, by simp⟩
theorem OkP.le3 {p : List Nat} (h : OkP p) : 0 < p.length ∧ p.length ≤ 3 := by have := h.len; omega
theorem St.step {n : Nat} (hn : 4 ≤ n) {q0 R q : List (List Nat)} {st : Nat} (S : St n q0 R q st) (hq : ∀ p ∈ q0, OkP p) (hlen : n < q.flatten.length) :
    ∃ q' m, m = (if q.flatten[n - 3]? = some 61 then n - 3 else if q.flatten[n - 2]? = some 61 then n - 2 else n - 1) ∧ St n q0 (R ++ [q.flatten.take m]) q' (st + m) ∧ 0 < m ∧ m < n := by
  have hqq : ∀ p ∈ q, OkP p := by
    obtain ⟨k, e⟩ := S.suf
    intro p hp
    rw [e] at hp
    exact hq p (List.mem_of_mem_drop hp)
  have hc := cut_at n hn q hqq hlen
  refine ⟨q.drop (more (n - 1) 0 q), _, rfl, ?_, by split <;> (try split) <;> omega, by split <;> (try split) <;> omega⟩
  rw [← hc]
  have hm0 : 0 < (q.take (more (n - 1) 0 q)).flatten.length := by rw [hc]; split <;> (try split) <;> omega
  have hmn : (q.take (more (n - 1) 0 q)).flatten.length ≤ n - 1 := by rw [hc]; split <;> (try split) <;> omega
  have hsplit : q.flatten = (q.take (more (n - 1) 0 q)).flatten ++ (q.drop (more (n - 1) 0 q)).flatten := by rw [← List.flatten_append, List.take_append_drop]
  have hlines : linesOf (n - 1) q = (q.take (more (n - 1) 0 q)).flatten :: linesOf (n - 1) (q.drop (more (n - 1) 0 q)) := by
    cases q with
    | nil => simp at hlen
    | cons x r =>
      have hx := (hqq x (by simp)).le3
      have hm : more (n - 1) 0 (x :: r) = more (n - 1) x.length r + 1 := by
        show (if 0 + x.length ≤ n - 1 then 1 + more (n - 1) (0 + x.length) r else 0) = _
        rw [Nat.zero_add, if_pos (by omega), Nat.add_comm]
      rw [linesOf_cons, hm, List.take_succ_cons, List.drop_succ_cons, List.flatten_cons]
  generalize more (n - 1) 0 q = k at *
  generalize hm : (q.take k).flatten = row at *
  have htk : q.flatten.take row.length = row := by rw [hsplit, List.take_left]
  have hdr : q.flatten.drop row.length = (q.drop k).flatten := by
    conv => lhs; rw [hsplit]
    rw [List.drop_left]
  have hll : q.flatten.length = row.length + (q.drop k).flatten.length := by
    conv => lhs; rw [hsplit]
    rw [List.length_append]
  rw [htk]
  have hpos : q0.flatten.drop (st + row.length) = (q.drop k).flatten := by rw [← List.drop_drop, S.pos, hdr]
  have hlen2 := S.len
  refine ⟨?_, ?_, ?_, ?_, hpos, ?_, ?_, ?_⟩
  · obtain ⟨j, e⟩ := S.suf
    exact ⟨j + k, by rw [e, List.drop_drop]⟩
  · rw [List.append_assoc, List.singleton_append, ← hlines, S.sum]
  · intro _ e
    rw [e, List.flatten_nil, List.length_nil] at hll
    omega
  · intro x hx
    rw [List.getLast?_concat] at hx
    obtain rfl := Option.some.inj hx
    omega
  · omega
  · have := S.cnt
    rw [List.length_append, List.length_singleton]
    omega
  · intro x hx
    rcases List.mem_append.mp hx with h | h
    · exact S.rows x h
    · rw [List.mem_singleton.mp h]
      omega
theorem line_rows {T : Nat → List Nat} (K : PcOk T) {n : Nat} (hn : 4 ≤ n) (l : List Nat) {R q : List (List Nat)} {st : Nat} (S : St n (l.map T) R q st) (hrem : q.flatten.length ≤ n) (e : List Nat) (A B : List (List Nat)) :
    joinL e (A ++ (R.map (· ++ [61]) ++ [bodyLast n (blk l) q.flatten e]) ++ B) = joinL e (A ++ rowsP T n l ++ B) := by
  have hok : ∀ p ∈ l.map T, OkP p := by
    intro p hp
    obtain ⟨c, _, rfl⟩ := List.mem_map.mp hp
    exact K.ok c
  have hqok : ∀ p ∈ q, OkP p := by
    obtain ⟨k, e⟩ := S.suf
    intro p hp
    rw [e] at hp
    exact hok p (List.mem_of_mem_drop hp)
  rcases List.eq_nil_or_concat l with rfl | ⟨l', c, e'⟩
  · have hs := S.sum
    obtain ⟨k, hk⟩ := S.suf
    simp at hk
    subst hk
    have hR : R = [] := by simpa [linesOf] using hs
    subst hR
    rfl
  · rw [List.concat_eq_append] at e'
    have hl : l ≠ [] := by rw [e']; simp
    have hlm : l.map T ≠ [] := by simpa using hl
    unfold rowsP
    rw [fold_lines (n - 1) hlm (fun p hp => by have := (hok p hp).le3; omega), ← S.sum]
    have hqne := S.ne hlm
    cases hb : blk l with
    | none =>
      rw [fin_none n hn R q hqok hqne hrem S.last e]
    | some qt =>
      have hc : (c = 32 ∨ c = 9) ∧ qt.length = 3 := by
        rw [e'] at hb
        unfold blk at hb
        rw [List.getLast?_concat] at hb
        simp only [Option.some.injEq] at hb
        split at hb
        · exact ⟨.inl (by assumption), by rw [← Option.some.inj hb]; rfl⟩
        · split at hb
          · exact ⟨.inr (by assumption), by rw [← Option.some.inj hb]; rfl⟩
          · simp at hb
      have hT := K.bl c hc.1
      obtain ⟨k, hk⟩ := S.suf
      have hlm2 : l.map T = l'.map T ++ [[c]] := by rw [e', List.map_append]; simp [hT]
      have hkl : k ≤ (l'.map T).length := by
        rcases Nat.lt_or_ge (l'.map T).length k with h | h
        · exact absurd (by rw [hk, hlm2]; exact List.drop_eq_nil_of_le (by simp at h ⊢; omega)) hqne
        · exact h
      have hq2 : q = (l'.map T).drop k ++ [[c]] := by rw [hk, hlm2, List.drop_append_of_le_length hkl]
      rw [hq2] at hrem ⊢
      exact (fin_some n hn R ((l'.map T).drop k) c qt e hc.2 hrem A B).symm
end Mine

open PySem PySem.W PyProof.Rows PySem.Calls
set_option Elab.async false
set_option maxRecDepth 100000
set_option maxHeartbeats 2000000
namespace Mine
open Builtin
theorem latin_loop (b : Array UInt8) (f : Nat → (Nat × Array Nat × _codecs.Faults) → Sem (ForInStep (Nat × Array Nat × _codecs.Faults)))
    (hf : ∀ x p out st, p < b.size → out.size ≤ sizeLine → f x (p, out, st) = pure (.yield (p + 1, out ++ [(b.getD p 0).toNat].toArray, st))) :
    ∀ (k a p : Nat) (out : Array Nat) (st : _codecs.Faults), p + k = b.size → out.size + k ≤ sizeLine →
      forIn (List.range' a k) (p, out, st) f = pure (b.size, out ++ ((b.toList.drop p).map (·.toNat)).toArray, st)
  | 0, a, p, out, st, h1, _ => by
    have e : b.toList.drop p = [] := List.drop_eq_nil_of_le (by simp; omega)
    have e2 : p = b.size := by omega
    rw [e, e2]; simp
  | k + 1, a, p, out, st, h1, h2 => by
    rw [List.range'_succ, List.forIn_cons, hf a p out st (by omega) (by omega)]
    show forIn (List.range' (a + 1) k) (p + 1, out ++ [(b.getD p 0).toNat].toArray, st) f = _
    rw [latin_loop b f hf k (a + 1) (p + 1) _ st (by omega) (by simp; omega)]
    have hlt : p < b.toList.length := by simp; omega
    rw [List.drop_eq_getElem_cons hlt, List.map_cons]
    congr 3
    rw [show b.getD p 0 = b.toList[p] from by rw [Array.getD_eq_getD_getElem?]; simp [show p < b.size by omega]]
    simp
theorem latin_run {id : String} (b : Array UInt8) (hb : b.size ≤ sizeLine) : _codecs.runDecoder id _codecs.latin1Decoder none true b 0 [] = pure ((b.toList.map (·.toNat)).toArray, b.size) := by
  unfold _codecs.runDecoder
  simp only [Std.Legacy.Range.forIn_eq_forIn_range']
  rw [latin_loop b _ ?_ _ 0 0 #[] _ ?_ ?_]
  · show (pure (#[] ++ ((b.toList.drop 0).map (·.toNat)).toArray, b.size) : Sem _) = _
    simp
  · intro x p out st hp ho
    dsimp only
    rw [if_neg (by omega), if_neg (by omega)]
    rfl
  · show 0 + (b.size - 0 + 1 - 1) / 1 = b.size
    simp
  · show 0 + (b.size - 0 + 1 - 1) / 1 ≤ sizeLine
    simpa using hb
section
variable {b : Array UInt8} {c : UInt8} {cs : List UInt8} {t : Tok}
theorem road_latin {id : String} : _codecs.decodeRoad id b (PySem.Str.ofString "latin1") none [] = (_codecs.runDecoder id _codecs.latin1Decoder none true b 0 [] >>= fun r => mkStr ⟨r.1⟩) := by kernel_rfl
theorem meets_latin {t1 t2 : Tok} {d : PySem.Str} (hb : b.size ≤ sizeLine) :
    Meets («_codecs.decode.text» ⟨[.bytes b t, .str (PySem.Str.ofString "latin1") t1, .none, .str d t2], []⟩) (fun _ R s => R (.ok (.ret (.str ⟨(b.toList.map (·.toNat)).toArray⟩ s.toks))) { s with toks := s.toks + 1 }) := by
  refine .of_wp fun prog w A R s h => ?_
  show wpAny _ _ (Bytes.bytesLike _ (.bytes b t) >>= fun r => _) _ _ s
  refine wpAny_bind (wpAny_of_eq KBd.like_eq ?_)
  refine wpAny_bind (wpAny_of_eq KBd.held_eq ?_)
  show wpAny _ _ (_codecs.decodeRoad _ b (PySem.Str.ofString "latin1") none [] >>= fun v => _) _ _ s
  rw [road_latin, latin_run b hb]
  refine wpAny_bind (wpAny_bind (wpAny_pure ?_))
  exact wpAny_mkStr (wpAny_pure ⟨_, rfl, h⟩) (by show (List.map (fun x : UInt8 => x.toNat) b.toList).toArray.size ≤ sizeLine; simpa using hb)
theorem args_decode2 (a b : Value) : argsOk "bytes.decode" ⟨[a, b], []⟩ := by
  unfold argsOk; kernel_rfl
theorem entry_latin {u : Tok} : «bytes.decode» ⟨[.bytes (c :: cs).toArray t, .str (PySem.Str.ofString "latin1") u], []⟩ = (mkStr (PySem.Str.ofString "utf-8") >>= fun _ => mkStr (PySem.Str.ofString "latin1") >>= fun e => mkStr (PySem.Str.ofString "bytes.decode") >>= fun d =>
    call (.builtin "_codecs.decode.text") [.bytes (c :: cs).toArray t, e, .none, d] >>= fun v => ret v) := by kernel_rfl
end
section
variable {prog : Program} {w : World} {A : Around} {E : Value → Shared → Prop} {s : Shared} {b : Array UInt8} {t u : Tok}
theorem decode_latin {Q : Value → Shared → Prop} (hne : b ≠ #[]) (hsz : b.size ≤ sizeLine) (h : ∀ t' k, Q (.str ⟨(b.toList.map (·.toNat)).toArray⟩ t') { s with toks := k }) :
    wpAny (model prog w) A (call (.builtin "bytes.decode") [.bytes b t, .str (PySem.Str.ofString "latin1") u]) Q E s := by
  obtain ⟨l⟩ := b
  cases l with
  | nil => exact absurd rfl hne
  | cons c cs =>
    refine call_meets (S := fun _ R s => ∀ t' k, R (.ok (.ret (.str ⟨((c :: cs).map (·.toNat)).toArray⟩ t'))) { s with toks := k }) FB.slot_bytes_decode (typeIs_bytes _ _ _) FB.entry_bytes_decode (args_decode2 _ _) ?_ h
    refine .of_wp fun prog w A R s hS => ?_
    show wpAny _ _ («bytes.decode» ⟨[.bytes (c :: cs).toArray t, .str (PySem.Str.ofString "latin1") u], []⟩) _ _ _
    rw [entry_latin]
    refine wpAny_bind (wpAny_mkStr ?_ (by decide))
    refine wpAny_bind (wpAny_mkStr ?_ (by decide))
    refine wpAny_bind (wpAny_mkStr ?_ (by decide))
    exact wpAny_bind (call_function_meets KBd.kind_text KBd.plain_text KBd.entry_text (KBd.args_text _ _ _ _) (meets_latin hsz) (wpAny_pure ⟨_, rfl, hS _ _⟩))
end
end Mine

open PySem PySem.W PyProof.Rows PySem.Calls
set_option Elab.async false
set_option maxRecDepth 100000
set_option maxHeartbeats 2000000
namespace Mine
open Builtin
def tr (f : Nat → Str) (c : Nat) : List Nat := if c < 256 then (f c).cps.toList else [c]
def TabL (f : Nat → Str) (items : Array Value) : Prop := items.size = 256 ∧ ∀ c, c < 256 → ∃ tok, items[c]? = some (.str (f c) tok)
theorem lookup_sub : isSubtype (.type "IndexError") (.type "LookupError") = pure true := by rw [isSubtype_type]; kernel_rfl
section
variable {prog : Program} {w : World} {A : Around} {E : Value → Shared → Prop} {s : Shared} {a : Addr} {items : Array Value} {f : Nat → Str}
theorem tableLookup_ok {c : Nat} {Q : Builtin.Str.Mapped → Shared → Prop} (hh : A.handled = none) (hl : s.heap.IsList a items) (ht : TabL f items) (hc : c < 1114112)
    (h1 : c < 256 → ∀ tk, Q (.text (f c)) { s with toks := tk })
    (h2 : 256 ≤ c → ∀ h' tk, (∀ b o, s.heap.get? b = some o → h'.get? b = some o) → Q .keep { s with heap := h', toks := tk }) :
    wpAny (model prog w) A (Builtin.Str.tableLookup (.ref a) c) Q E s := by
  unfold Builtin.Str.tableLookup
  by_cases h : c < 256
  · obtain ⟨tok, hx⟩ := ht.2 c h
    refine wpAny_bind (wpAny_attempt (wpAny_bind (wpAny_mkInt ?_)))
    refine wpAny_getItem_list (x := .str (f c) tok) hl (by omega) (by omega) (by simpa using hx) ?_
    show wpAny _ _ (pure none >>= fun r => _) _ _ _
    refine wpAny_bind (wpAny_pure ?_)
    show wpAny _ _ (pure (some (f c)) >>= fun r => _) _ _ _
    exact wpAny_bind (wpAny_pure (wpAny_pure (h1 h _)))
  · refine wpAny_bind (wpAny_attempt (wpAny_bind (wpAny_mkInt ?_)))
    refine wpAny_getItem_list_out hh hl (.inr (by have := ht.1; omega)) (by omega) (by omega) fun h' tk e ne => ?_
    obtain ⟨ob, t, g, gc, gd⟩ := ne.there
    show wpAny _ _ (isInstance (.ref e) (.type "LookupError") >>= fun r => _) _ _ _
    refine wpAny_bind (wpAny_isInstance (T := "IndexError") ⟨ob, g, gc⟩ lookup_sub ?_)
    exact wpAny_bind (wpAny_rule (wpAny_pure (h2 (by omega) h' tk ne.keeps)))
end
theorem tr_len {f : Nat → Str} (hf : ∀ c, (f c).cps.size ≤ 3) : ∀ l : List Nat, (l.flatMap (tr f)).length ≤ 3 * l.length
  | [] => by simp
  | c :: r => by
    have := tr_len hf r
    have h1 : (tr f c).length ≤ 3 := by unfold tr; split; · simpa using hf c
                                        · simp
    simp only [List.flatMap_cons, List.length_append, List.length_cons]; omega
theorem foldl_cps : ∀ (l : List Str) (acc : Array Nat), (l.foldl (fun acc p => acc ++ p.cps) acc).toList = acc.toList ++ l.flatMap (fun p => p.cps.toList)
  | [], acc => by simp
  | p :: r, acc => by rw [List.foldl_cons, foldl_cps r]; simp
theorem translate_meets {f : Nat → Str} {items : Array Value} {x : Str} {t : Tok} {a : Addr} (ht : TabL f items) (hf : ∀ c, (f c).cps.size ≤ 3) (hx : ∀ c ∈ x.cps.toList, c < 1114112) (hn : x.cps ≠ #[]) (hsz : x.cps.size ≤ 1000000) :
    Meets («str.translate» ⟨[.str x t, .ref a], []⟩) (fun A R s => A.handled = none ∧ s.heap.IsList a items ∧
      ∀ h' t' tk, (∀ b o, s.heap.get? b = some o → h'.get? b = some o) → R (.ok (.ret (.str ⟨(x.cps.toList.flatMap (tr f)).toArray⟩ t'))) { s with heap := h', toks := tk }) := by
  refine .of_wp fun prog w A R s hS => ?_
  obtain ⟨hh, hl, hR⟩ := hS
  unfold «str.translate»
  refine wpAny_bind (m := Builtin.Str.strOneArg "translate" _) (wpAny_of_eq (a := (Value.str x t, x, Value.ref a)) (by kernel_rfl) ?_)
  dsimp only
  have hlen : ¬ ((x.length == 0) = true) := by
    intro e
    have : x.cps.size = 0 := by simpa [Str.length] using e
    exact hn (Array.size_eq_zero_iff.mp this)
  rw [if_neg hlen]
  have hsl := sizeLine_eq
  refine wpAny_bind ?_
  refine MeetsSeq2.wpAny_forIn_array _ (fun rest b s' => ∃ pre h' tk, x.cps.toList = pre ++ rest ∧ s' = { s with heap := h', toks := tk } ∧ (∀ b o, s.heap.get? b = some o → h'.get? b = some o) ∧
      b.1.reverse.flatMap (fun p => p.cps.toList) = pre.flatMap (tr f) ∧ b.2.1 = (pre.flatMap (tr f)).length ∧ b.2.2.2.2 = false ∧ (b.2.2.1 = true → ∀ c ∈ rest, c < 128) ∧
      ∀ c v, b.2.2.2.1.lookup c = some v → c < 256 ∧ ∃ d, v = some d ∧ (f c).cps.toList = [d]) _ ?_ ?_ _ _ ?_
  · rintro c rest ⟨pieces, total, fast, known, ad⟩ s' ⟨pre, h', tk, hpre, rfl, hk, hp, htot, had, hfast, hkn⟩
    dsimp only at hp htot had hfast hkn ⊢
    subst had
    have hb1 : (pre.flatMap (tr f)).length ≤ 3 * pre.length := tr_len hf pre
    have hb2 : pre.length ≤ x.cps.toList.length := by rw [hpre]; simp
    have hb3 : x.cps.toList.length = x.cps.size := by simp
    have hcx : c < 1114112 := hx c (by rw [hpre]; simp)
    rw [if_neg (by unfold Builtin.Str.tooLong; simp; omega)]
    have hl' : h'.IsList a items := hl.at fun o e => hk _ o e
    have next : ∀ (pieces' : List Str) (total' : Nat) (fast' : Bool) (known' : List (Nat × Option Nat)) (h'' : Heap) (tk' : Nat), (∀ b o, h'.get? b = some o → h''.get? b = some o) →
        pieces'.reverse.flatMap (fun p => p.cps.toList) = pre.flatMap (tr f) ++ tr f c → total' = total + (tr f c).length → (fast' = true → fast = true) →
        (∀ c v, known'.lookup c = some v → c < 256 ∧ ∃ d, v = some d ∧ (f c).cps.toList = [d]) →
        ∃ pre h' tk, x.cps.toList = pre ++ rest ∧ ({ s with heap := h'', toks := tk' } : Shared) = { s with heap := h', toks := tk } ∧ (∀ b o, s.heap.get? b = some o → h'.get? b = some o) ∧
          pieces'.reverse.flatMap (fun p => p.cps.toList) = pre.flatMap (tr f) ∧ total' = (pre.flatMap (tr f)).length ∧ false = false ∧ (fast' = true → ∀ c ∈ rest, c < 128) ∧
          ∀ c v, known'.lookup c = some v → c < 256 ∧ ∃ d, v = some d ∧ (f c).cps.toList = [d] := by
      intro pieces' total' fast' known' h'' tk' hk' hp' ht' hf' hkn'
      refine ⟨pre ++ [c], h'', tk', by rw [hpre]; simp, rfl, fun b o e => hk' b o (hk b o e), by rw [hp']; simp, by rw [ht', htot]; simp, rfl, fun e c' hc' => hfast (hf' e) c' (List.mem_cons_of_mem _ hc'), hkn'⟩
    have slow : ∀ (fast' : Bool) (known' : List (Nat × Option Nat)) (tk' : Nat), (fast' = true → fast = true) → (∀ c v, known'.lookup c = some v → c < 256 ∧ ∃ d, v = some d ∧ (f c).cps.toList = [d]) →
        ∀ D : (List Str × Nat × Bool × List (Nat × Option Nat) × Bool) → Shared → Prop, wpAny (model prog w) A.in1 (do
          let __do_lift ← Builtin.Str.tableLookup (.ref a) c
          match __do_lift with
            | Builtin.Str.Mapped.keep => pure (ForInStep.yield ((⟨#[c]⟩ : Str) :: pieces, total + 1, fast', known', false))
            | Builtin.Str.Mapped.drop => pure (ForInStep.yield (pieces, total, fast', known', true))
            | Builtin.Str.Mapped.char d => pure (ForInStep.yield ((⟨#[d]⟩ : Str) :: pieces, total + 1, fast', known', false))
            | Builtin.Str.Mapped.text t => pure (ForInStep.yield (t :: pieces, total + t.length, fast', known', false)))
          (fun r s' => match r with
            | .yield b => ∃ pre h' tk, x.cps.toList = pre ++ rest ∧ s' = { s with heap := h', toks := tk } ∧ (∀ b o, s.heap.get? b = some o → h'.get? b = some o) ∧
                b.1.reverse.flatMap (fun p => p.cps.toList) = pre.flatMap (tr f) ∧ b.2.1 = (pre.flatMap (tr f)).length ∧ b.2.2.2.2 = false ∧ (b.2.2.1 = true → ∀ c ∈ rest, c < 128) ∧
                ∀ c v, b.2.2.2.1.lookup c = some v → c < 256 ∧ ∃ d, v = some d ∧ (f c).cps.toList = [d]
            | .done b => D b s') (fun e s' => R (.error e) s') { s with heap := h', toks := tk' } := by
      intro fast' known' tk' hf' hkn' D
      refine wpAny_bind (tableLookup_ok (by exact hh) hl' ht hcx (fun h tk => ?_) (fun h h'' tk hk'' => ?_))
      · refine wpAny_pure (next _ _ _ _ _ _ (fun _ _ e => e) ?_ ?_ hf' hkn')
        · simp [hp, tr, h]
        · simp [tr, h, Str.length]
      · refine wpAny_pure (next _ _ _ _ _ _ hk'' ?_ ?_ hf' hkn')
        · simp [hp, tr, show ¬ c < 256 by omega]
        · simp [tr, show ¬ c < 256 by omega]
    cases fast with
    | false =>
      rw [if_neg Bool.false_ne_true, if_neg Bool.false_ne_true]
      exact wpAny_mono (slow false known _ (fun h => h) hkn (fun _ _ => False)) (fun r s' h => by cases r with | yield b => exact h | done b => exact h.elim) (fun _ _ h => h)
    | true =>
      have hc128 : c < 128 := hfast rfl c (by simp)
      rw [if_pos rfl]
      cases hlk : known.lookup c with
      | some v =>
        obtain ⟨hc2, d, rfl, hd⟩ := hkn c v hlk
        refine wpAny_bind (wpAny_pure (wpAny_pure ?_))
        refine next _ _ _ _ _ _ (fun _ _ e => e) ?_ ?_ (fun h => h) hkn
        · simp [hp, tr, hc2, hd]
        · simp [tr, hc2, hd]
      | none =>
        refine wpAny_bind (tableLookup_ok (by exact hh) hl' ht hcx (fun h tk => ?_) (fun h h'' tk hk'' => by omega))
        dsimp only
        by_cases h1 : ((f c).length == 1 && (f c).cps.all fun x => decide (x < 128)) = true
        · rw [if_pos h1]
          have hsz1 : (f c).cps.size = 1 := by simp only [Bool.and_eq_true] at h1; simpa [Str.length] using h1.1
          obtain ⟨d, hd⟩ : ∃ d, (f c).cps.toList = [d] := List.length_eq_one_iff.mp (by simpa using hsz1)
          have hd0 : (f c).cps[0]? = some d := by rw [← Array.getElem?_toList, hd]; rfl
          rw [hd0]
          refine wpAny_bind (wpAny_pure (wpAny_pure ?_))
          refine next _ _ _ _ _ _ (fun _ _ e => e) ?_ ?_ (fun h => h) ?_
          · simp [hp, tr, h, hd]
          · simp [tr, h, hd]
          · intro c' v' e'
            rw [List.lookup_cons] at e'
            by_cases hcc : (c' == c) = true
            · rw [hcc] at e'
              have : c' = c := by simpa using hcc
              subst this
              exact ⟨h, d, (Option.some.inj e').symm, hd⟩
            · rw [Bool.eq_false_iff.mpr hcc] at e'
              exact hkn c' v' e'
        · rw [if_neg h1]
          refine wpAny_bind (wpAny_pure ?_)
          refine wpAny_bind (wpAny_rule ?_)
          rw [if_neg Bool.false_ne_true]
          exact wpAny_mono (slow false known _ (fun h => by cases h) hkn (fun _ _ => False)) (fun r s' h => by cases r with | yield b => exact h | done b => exact h.elim) (fun _ _ h => h)
  · rintro ⟨pieces, total, fast, known, ad⟩ s' ⟨pre, h', tk, hpre, rfl, hk, hp, htot, had, hfast, hkn⟩
    dsimp only at hp htot had hfast hkn ⊢
    have hpx : x.cps.toList = pre := by simpa using hpre
    have hb1 : (pre.flatMap (tr f)).length ≤ 3 * pre.length := tr_len hf pre
    have hb3 : x.cps.toList.length = x.cps.size := by simp
    rw [if_neg (by unfold Builtin.Str.tooLong; simp; rw [hpx] at hb3; omega)]
    have e : (pieces.reverse.foldl (fun acc p => acc ++ p.cps) #[]) = (x.cps.toList.flatMap (tr f)).toArray := by
      apply Array.toList_inj.mp
      rw [foldl_cps, hp, hpx]; simp
    rw [e]
    refine wpAny_bind (wpAny_mkStr (wpAny_pure ⟨_, rfl, hR _ _ _ hk⟩) ?_)
    show (x.cps.toList.flatMap (tr f)).toArray.size ≤ sizeLine
    rw [hpx] at hb3 ⊢
    simp only [List.size_toArray]
    omega
  · exact ⟨[], s.heap, s.toks, by simp, rfl, fun _ _ e => e, rfl, rfl, rfl, fun e c hc => by simpa using (Array.all_eq_true_iff_forall_mem.mp e) c (by simpa using hc), fun c v e => by simp at e⟩
section
variable {prog : Program} {w : World} {A : Around} {E : Value → Shared → Prop} {s : Shared} {a : Addr} {items : Array Value} {f : Nat → Str} {x : Str} {t : Tok}
theorem translate_ok {Q : Value → Shared → Prop} (hh : A.handled = none) (hl : s.heap.IsList a items) (ht : TabL f items) (hf : ∀ c, (f c).cps.size ≤ 3) (hx : ∀ c ∈ x.cps.toList, c < 1114112) (hn : x.cps ≠ #[]) (hsz : x.cps.size ≤ 1000000)
    (h : ∀ h' t' tk, (∀ b o, s.heap.get? b = some o → h'.get? b = some o) → Q (.str ⟨(x.cps.toList.flatMap (tr f)).toArray⟩ t') { s with heap := h', toks := tk }) :
    wpAny (model prog w) A (call (.builtin "str.translate") [.str x t, .ref a]) Q E s :=
  call_meets F.slot_str_translate (typeIs_str _ _ _) F.entry_str_translate (F.args_str_translate_2 _ _) (translate_meets ht hf hx hn hsz) ⟨hh, hl, h⟩
theorem grownF {h₀ h h' : Heap} {L : Addr} {m : Str → Option Value} (F : Fr h₀ L h m) (hk : ∀ b o, h.get? b = some o → h'.get? b = some o) : Fr h₀ L h' m := ⟨F.ns.keeps hk, fun b o e => hk b o (F.keep b o e), F.above⟩
theorem grownN {h₀ h h' : Heap} {L : Addr} {news : List (Addr × Obj)} (N : News h₀ L h news) (hk : ∀ b o, h.get? b = some o → h'.get? b = some o) : News h₀ L h' news := fun p hp => ⟨hk _ _ (N p hp).1, (N p hp).2⟩
theorem method_translate {M : Model} {pl : Sem Bool} {Q : Value × List Value → Shared → Prop} (h : Q (.builtin "str.translate", [.str x t]) s) : wpAny M A (getMethod (.str x t) "translate" pl) Q E s := by
  with_reducible exact GM.of (.str x t) (typeIs_str _ _ _) F.slot_str_translate F.type_str_translate GM.noRef h
end
end Mine

open PySem PySem.W PyProof.Rows PySem.Calls
set_option Elab.async false
set_option maxRecDepth 100000
set_option maxHeartbeats 2000000
namespace Mine
abbrev lobj (vs : List Value) (n : Nat) : Obj := { cls := .type "list", data := .seq vs.toArray n }
section
variable {prog : Program} {w : World} {A : Around} {E : Value → Shared → Prop} {s : Shared} {h₀ : Heap} {L l : Addr} {m : Str → Option Value} {news news' : List (Addr × Obj)} {vs vi : List Value} {v v' : Value} {n : Nat} {u : Tok}
theorem isl_of (N : News h₀ L s.heap news) (hm : (l, lobj vs n) ∈ news) : s.heap.IsList l vs.toArray := ⟨_, (N _ hm).1, rfl, n, rfl⟩
theorem append_own {x : Value} {Q : Value → Shared → Prop} (F : Fr h₀ L s.heap m) (N : News h₀ L s.heap news) (U : Upd l (lobj vs n) (lobj (vs ++ [x]) (n + 1)) news news') (hsz : vs.length ≤ 100000)
    (h : ∀ h', Fr h₀ L h' m → News h₀ L h' news' → Q .none { s with heap := h' }) : wpAny (model prog w) A (call (.builtin "list.append") [.ref l, x]) Q E s := by
  have e : (vs.toArray.push x) = (vs ++ [x]).toArray := by simp
  refine append_K F N (its := vs.toArray) (n := n) (news' := news') ?_ h (by rw [sizeLine_eq]; simp; omega)
  rw [e]; exact U
theorem truthy_own {Q : Bool → Shared → Prop} (N : News h₀ L s.heap news) (hm : (l, lobj vs n) ∈ news) (hsz : vs.length ≤ 100000) (h : ∀ tk, Q (!vs.isEmpty) { s with toks := tk }) : wpAny (model prog w) A (truthy (.ref l)) Q E s := by
  refine wpAny_truthy_list (isl_of N hm) (by simp; omega) ?_
  cases vs with
  | nil => exact h _
  | cons a r => simpa using h _
theorem truthy_snoc {Q : Bool → Shared → Prop} (N : News h₀ L s.heap news) (hm : (l, lobj (vi ++ [v]) n) ∈ news) (hsz : vi.length ≤ 99999) (h : ∀ tk, Q true { s with toks := tk }) : wpAny (model prog w) A (truthy (.ref l)) Q E s :=
  truthy_own N hm (by simp; omega) fun tk => by
    have e : (!(vi ++ [v]).isEmpty) = true := by simp
    rw [e]; exact h tk
theorem truthy_nil {Q : Bool → Shared → Prop} (N : News h₀ L s.heap news) (hm : (l, lobj [] n) ∈ news) (h : ∀ tk, Q false { s with toks := tk }) : wpAny (model prog w) A (truthy (.ref l)) Q E s :=
  truthy_own N hm (by decide) h
theorem get_last {Q : Value → Shared → Prop} (N : News h₀ L s.heap news) (hm : (l, lobj (vi ++ [v]) n) ∈ news) (h : Q v s) : wpAny (model prog w) A (getItem (.ref l) (.int (-1) u)) Q E s := by
  refine wpAny_getItem_list_neg (isl_of N hm) (by decide) (by simp; omega) (by decide) ?_ h
  have e : ((-1 : Int) + (((vi ++ [v]).toArray.size : Nat) : Int)).toNat = vi.length := by simp; omega
  rw [e]; simp
theorem sub_last {value slice : Expr} {Q : Value → Shared → Prop} (N : News h₀ L s.heap news) (hm : (l, lobj (vi ++ [v]) n) ∈ news) (h : Q v s)
    (hs : subscripted slice false (.ref l) (.int (-1) u) = operate [.ref l, .int (-1) u] (getItem (.ref l) (.int (-1) u)) := by with_unfolding_all rfl) : wpAny (model prog w) A (subscriptTail value slice (.ref l) (.int (-1) u)) Q E s :=
  tail_any (isl_of N hm).typeIs slot_list_getitem.lookup (get_last N hm h) hs
theorem set_last {Q : Unit → Shared → Prop} (F : Fr h₀ L s.heap m) (N : News h₀ L s.heap news) (U : Upd l (lobj (vi ++ [v]) n) (lobj (vi ++ [v']) n) news news')
    (h : ∀ h', Fr h₀ L h' m → News h₀ L h' news' → Q () { s with heap := h' }) : wpAny (model prog w) A (setItem (.ref l) (.int (-1) u) v') Q E s := by
  obtain ⟨pre, post, rfl, rfl, a, b⟩ := U.split
  have z := N (l, lobj (vi ++ [v]) n) (List.mem_append.mpr (.inr (.head _)))
  have hl : s.heap.IsList l (vi ++ [v]).toArray := ⟨_, z.1, rfl, n, rfl⟩
  unfold setItem
  try with_reducible refine wpAny_holding ?_
  first | refine wpAny_bind (wpAny_pure ?_) | skip
  refine wpAny_bind (wpAny_sequenceKey hl.typeIs (by decide) ?_)
  refine wpAny_bind (wpAny_callSpecial?_slot (name := Str.ofString "__setitem__") hl.typeIs slot_list_setitem
    (wpAny_call_entry slot_list_setitem hl.typeIs entry_list_setitem ?_ (args_list_setitem _ _ _)))
  show wpAny _ _ (Builtin.List.listSubscript? (.int (-1) u) >>= _) _ _ s
  refine wpAny_bind (wpAny_listSubscript_int (fitsIndex_neg (by decide) (by decide)) ?_)
  show wpAny _ _ ((Builtin.List.listItems (.ref l) >>= fun xs => pure ((seqIndex? (Int.negSucc 0) xs.size).bind fun i => xs[i]?.map (i, ·))) >>= _) _ _ s
  refine wpAny_bind (wpAny_bind ?_)
  show wpAny _ _ (seqItems? (.ref l) >>= _) _ _ s
  refine wpAny_bind (wpAny_seqItems z.1 rfl (wpAny_pure (wpAny_pure ?_)))
  rw [seqIndex_neg (k := Int.negSucc 0) (by decide) (by simp; omega)]
  have e : ((Int.negSucc 0 : Int) + (((vi ++ [v]).toArray.size : Nat) : Int)).toNat = vi.length := by
    have : (Int.negSucc 0 : Int) = -1 := rfl
    simp; omega
  rw [e]
  have hx : (vi ++ [v]).toArray[vi.length]? = some v := by simp
  simp only [Option.bind_some, hx, Option.map_some]
  show wpAny _ _ (setSeqItemAt l vi.length v' >>= _) _ _ s
  refine wpAny_bind (wpAny_setSeqItemAt z.1 rfl ?_)
  have fin := h _ (F.change (Heap.SameBut.update s.heap l (Obj.mapSeq (·.setIfInBounds vi.length v'))) z.2.1 z.2.2) (ki_turn (n' := n) (its' := (vi ++ [v']).toArray) _ N a b (by
    apply Array.toList_inj.mp
    simp) (by simp))
  first
    | exact wpAny_bind (wpAny_pure (wpAny_pure ⟨.none, rfl, wpAny_pure fin⟩))
    | exact wpAny_pure ⟨.none, rfl, wpAny_pure fin⟩
end
end Mine

open PySem PySem.W PyProof.Rows PySem.Calls
set_option Elab.async false
set_option maxRecDepth 100000
set_option maxHeartbeats 2000000
namespace Mine
open Builtin
section
variable {b : Array UInt8} {k : Int} {t u : Tok}
theorem contains_eq (h0 : 0 ≤ k) (h1 : k < 256) : «bytes.__contains__» ⟨[.bytes b u, .int k t], []⟩ = ret (.bool (b.contains k.toNat.toUInt8)) := by
  show (Bytes.containsIn "bytes.__contains__" (.bytes b u) (.int k t) >>= fun r => ret (.bool r)) = _
  unfold Bytes.containsIn
  rw [KBy.buffer_eq]
  show ((if (decide (k < 0) || decide (k ≥ 256)) = true then _ else pure (b.contains k.toNat.toUInt8)) >>= fun r => ret (.bool r)) = _
  rw [if_neg (by simp; omega)]
  rfl
variable {prog : Program} {w : World} {A : Around} {E : Value → Shared → Prop} {s : Shared}
theorem in_bytes {Q : Value → Shared → Prop} (h0 : 0 ≤ k) (h1 : k < 256) (h : Q (.bool (b.contains k.toNat.toUInt8)) s) : wpAny (model prog w) A (compareOp .In (.int k t) (.bytes b u)) Q E s :=
  in_gives (typeIs_bytes _ _ _) FB.slot_bytes_contains FB.entry_bytes_contains (FB.args_bytes_contains_2 _ _) (.of_eq (contains_eq h0 h1)) h
end
section
variable {prog : Program} {w : World} {A : Around} {E : Value → Shared → Prop} {s : Shared} {h₀ : Heap} {L : Addr} {m : Str → Option Value} {env : Env} {elt : Expr} {x : Str} {scope : Scope} {cl : List (Str × Addr)} {S : List (Addr × Obj) → Prop} {P : Nat → Value → Prop} {Fin : List Value → List (Addr × Obj) → Prop} {n : Nat} {news : List (Addr × Obj)}
/-- a comprehension of any length, by what holds of the items so far and the ledger -/
theorem rest_inv (J : Nat → List Value → List (Addr × Obj) → Prop) (h0 : J 0 [] news)
    (turn : ∀ i v I oI C oC D ys nw m₂ h tk (E' : Value → Shared → Prop), i < n → P i v → J i ys nw → LCg.NsObj oC m₂ → m₂ x = some v → Fr h₀ L h m → News h₀ L h ((I, oI) :: (C, oC) :: (D, LCg.lst ys) :: nw) → LCg.Off3 I C D nw → ((@Ne Nat I C) ∧ (@Ne Nat I D) ∧ (@Ne Nat C D)) →
      wpAny (model prog w) A (eval elt (compEnvC scope cl C env)) (LCg.CompEnd h₀ L m { s with heap := h, toks := tk } I oI C oC D (LCg.lst ys) S (fun y nw' => J (i + 1) (ys ++ [y]) nw')) E' { s with heap := h, toks := tk })
    (fin : ∀ ys nw, J n ys nw → Fin ys nw) : LCg.CompRest prog w A h₀ L m env elt x scope cl s S P Fin n 0 [] news := by
  suffices H : ∀ k i ys nw, i + k = n → J i ys nw → LCg.CompRest prog w A h₀ L m env elt x scope cl s S P Fin k i ys nw from H n 0 [] news (by omega) h0
  intro k
  induction k with
  | zero => intro i ys nw hi hJ; obtain rfl : i = n := by omega
            exact fin ys nw hJ
  | succ k ih =>
    intro i ys nw hi hJ
    refine .succ fun v I oI C oC D m₂ h tk E' hP hC hx F N off hne => ?_
    refine wpAny_mono (turn i v I oI C oC D ys nw m₂ h tk E' (by omega) hP hJ hC hx F N off hne) (fun y s₂ h₂ => ?_) fun _ _ e => e
    obtain ⟨h', tk', nw', e, F', N', off', hS', hJ'⟩ := h₂
    exact ⟨h', tk', nw', e, F', N', off', hS', ih (i + 1) _ _ (by omega) hJ'⟩
def PureEnd (h₀ : Heap) (L : Addr) (m : Str → Option Value) (s : Shared) (nw : List (Addr × Obj)) (G : Value → Prop) (y : Value) (s₂ : Shared) : Prop :=
  G y ∧ ∃ h' tk', s₂ = { s with heap := h', toks := tk' } ∧ Fr h₀ L h' m ∧ News h₀ L h' nw
theorem PureEnd.intro {s : Shared} {nw : List (Addr × Obj)} {G : Value → Prop} {y : Value} {h' : Heap} {tk' : Nat} (hg : G y) (F : Fr h₀ L h' m) (N : News h₀ L h' nw) : PureEnd h₀ L m s nw G y { s with heap := h', toks := tk' } := ⟨hg, h', tk', rfl, F, N⟩
/-- the same where the element makes nothing that stays -/
theorem rest_pure (G : Nat → Value → Prop) (hS : S news)
    (turn : ∀ i v I oI C oC D ys m₂ h tk (E' : Value → Shared → Prop), i < n → P i v → LCg.NsObj oC m₂ → m₂ x = some v → Fr h₀ L h m → News h₀ L h ((I, oI) :: (C, oC) :: (D, LCg.lst ys) :: news) →
      wpAny (model prog w) A (eval elt (compEnvC scope cl C env)) (PureEnd h₀ L m s ((I, oI) :: (C, oC) :: (D, LCg.lst ys) :: news) (G i)) E' { s with heap := h, toks := tk })
    (fin : ∀ ys, ys.length = n → (∀ j y, ys[j]? = some y → G j y) → Fin ys news) : LCg.CompRest prog w A h₀ L m env elt x scope cl s S P Fin n 0 [] news := by
  suffices H : ∀ k i ys, i + k = n → ys.length = i → (∀ j y, ys[j]? = some y → G j y) → LCg.CompRest prog w A h₀ L m env elt x scope cl s S P Fin k i ys news from H n 0 [] (by omega) rfl (fun j y e => by simp at e)
  intro k
  induction k with
  | zero => intro i ys hi hl hG; exact fin ys (by omega) hG
  | succ k ih =>
    intro i ys hi hl hG
    refine .succ fun v I oI C oC D m₂ h tk E' hP hC hx F N off hne => ?_
    refine wpAny_mono (turn i v I oI C oC D ys m₂ h tk E' (by omega) hP hC hx F N) (fun y s₂ h₂ => ?_) fun _ _ e => e
    obtain ⟨hg, h', tk', e, F', N'⟩ := h₂
    refine ⟨h', tk', news, e, F', N', off, hS, ih (i + 1) _ (by omega) (by simp [hl]) fun j z hz => ?_⟩
    rw [List.getElem?_append] at hz
    split at hz
    · exact hG j z hz
    · rename_i hj
      have : j - ys.length = 0 := by
        cases hh : j - ys.length with
        | zero => rfl
        | succ q => rw [hh] at hz; simp at hz
      rw [this] at hz
      simp at hz
      subst hz
      have : j = i := by omega
      subst this
      exact hg
def Src (prog : Program) (w : World) (A : Around) (h₀ : Heap) (L : Addr) (m : Str → Option Value) (env : Env) (elt : Expr) (x : Str) (scope : Scope) (cl : List (Str × Addr)) (Fin : Shared → List Value → List (Addr × Obj) → Prop) (xv : Value) (s₁ : Shared) : Prop := LCg.CompSrc prog w A h₀ L m env elt x scope cl Fin xv s₁
theorem toSrc {M : Model} {t : Sem Value} {Fin : Shared → List Value → List (Addr × Obj) → Prop} (h : wpAny M A t (Src prog w A h₀ L m env elt x scope cl Fin) E s) : wpAny M A t (LCg.CompSrc prog w A h₀ L m env elt x scope cl Fin) E s := h
end
end Mine

open PySem PySem.W PyProof.Rows PySem.Calls
set_option Elab.async false
set_option maxRecDepth 100000
set_option maxHeartbeats 2000000
namespace Mine
/-- a turn's end: it goes on with J, leaves or breaks -/
def TurnEnd (h₀ : Heap) (L : Addr) (b : Nat) (own : List (Addr × Obj)) (J : (Str → Option Value) → List (Addr × Obj) → Prop) (s₁ : Shared) (Q : Flow → Shared → Prop) (f : Flow) (s₂ : Shared) : Prop :=
  match f with
  | .ret v => Q (.ret v) s₂
  | .brk => Q .next s₂
  | _ => ∃ h' tk m₂ nw, s₂ = { s₁ with heap := h', toks := tk } ∧ Fr h₀ L h' m₂ ∧ News h₀ L h' (own ++ nw) ∧ (∀ p ∈ nw, p.1 < b) ∧ J m₂ nw
theorem TurnEnd.next {h₀ h' : Heap} {L : Addr} {b : Nat} {own nw : List (Addr × Obj)} {J : (Str → Option Value) → List (Addr × Obj) → Prop} {s₁ : Shared} {Q : Flow → Shared → Prop} {m₂ : Str → Option Value} {tk : Nat}
    (F : Fr h₀ L h' m₂) (N : News h₀ L h' (own ++ nw)) (hb : ∀ p ∈ nw, p.1 < b) (hJ : J m₂ nw) : TurnEnd h₀ L b own J s₁ Q .next { s₁ with heap := h', toks := tk } := ⟨h', tk, m₂, nw, rfl, F, N, hb, hJ⟩
theorem TurnEnd.toV {h₀ : Heap} {L : Addr} {b : Nat} {wr : List Addr} {own : List (Addr × Obj)} {J : (Str → Option Value) → List (Addr × Obj) → Prop} {s₁ : Shared} {Q : Flow → Shared → Prop} {f : Flow} {s₂ : Shared}
    (hwr : ∀ a ∈ wr, b ≤ a) (h : TurnEnd h₀ L b own J s₁ Q f s₂) : LoopStepV h₀ L wr own J s₁ (fun v s' => Q (.ret v) s') (fun s' => Q .next s') f s₂ := by
  have fin : (∃ h' tk m₂ nw, s₂ = { s₁ with heap := h', toks := tk } ∧ Fr h₀ L h' m₂ ∧ News h₀ L h' (own ++ nw) ∧ (∀ p ∈ nw, p.1 < b) ∧ J m₂ nw) → LoopStepU h₀ L wr own J s₁ .next s₂ := by
    rintro ⟨h', tk, m₂, nw, e, F, N, hb, hJ⟩
    exact ⟨rfl, h', tk, m₂, nw, e, F, N, fun p hp hm => absurd (hwr _ hm) (Nat.not_le.mpr (hb p hp)), hJ⟩
  cases f with
  | ret v => exact .ret h
  | brk => exact .brk h
  | next => exact .next (fin h)
  | cont => exact .cont (fin h)
section
variable {prog : Program} {w : World} {A : Around} {E : Value → Shared → Prop} {s : Shared} {env : Env} {h₀ : Heap} {target : Expr} {body : List Stmt} {Q : Flow → Shared → Prop} {m₀ : Str → Option Value} {news : List (Addr × Obj)}
theorem fresh_at (F : Fr h₀ env.locals s.heap m₀) {a : Addr} (ha : s.heap.objs.size ≤ a) : h₀.get? a = none := by
  cases e : h₀.get? a with
  | none => rfl
  | some o => exact absurd (Heap.lt_size (F.keep a o e)) (Nat.not_lt.mpr ha)
/-- over a list that the call has made -/
theorem list_turns {ax : Addr} {vs : List Value} {n : Nat} (J : Nat → (Str → Option Value) → List (Addr × Obj) → Prop) (hh : A.handled = none) (F : Fr h₀ env.locals s.heap m₀) (N : News h₀ env.locals s.heap news) (hm : (ax, lobj vs n) ∈ news) (h0 : J 0 m₀ news)
    (hgo : ∀ v (s : Shared) (Q : Unit → Shared → Prop) (E : Value → Shared → Prop) (I : Addr) (i : Nat), s.heap.IsListIter I ax i → Q () s → wpAny (model prog w) A (letOwnedTupleGo target (.ref I) v) Q E s)
    (turn : ∀ i v m₁ nw h₁ tk₁ own, (∀ p ∈ own, s.heap.objs.size ≤ p.1 ∨ p.1 = ax) → vs[i]? = some v → J i m₁ nw → Fr h₀ env.locals h₁ m₁ → News h₀ env.locals h₁ (own ++ nw) →
      wpAny (model prog w) A (assign target env v) (fun _ s₃ => wpAny (model prog w) A (execs body env) (TurnEnd h₀ env.locals s.heap.objs.size own (J (i + 1)) { s with heap := h₁, toks := tk₁ } Q) E s₃) E { s with heap := h₁, toks := tk₁ })
    (done : ∀ h' tk m' nw, Fr h₀ env.locals h' m' → News h₀ env.locals h' nw → J vs.length m' nw → Q .next { s with heap := h', toks := tk }) :
    wpAny (model prog w) A (pyIter (.ref ax)) (fun it s₂ => TurnsAt prog w A h₀ env target body Q E it s₂) E s := by
  have hax := N _ hm
  have hl : s.heap.IsList ax vs.toArray := ⟨_, hax.1, rfl, n, rfl⟩
  have hlt : ax < s.heap.objs.size := Heap.lt_size hax.1
  have hLs : env.locals < s.heap.objs.size := F.ns.lt
  refine wpAny_pyIter_list hl ?_
  have up : ∀ b o, s.heap.get? b = some o → (s.heap.push { cls := .type "list_iterator", data := .fields #[.ref ax, .int 0 0] }).get? b = some o := fun b o e => Heap.get?_push_of_some _ e
  refine ⟨s.heap.objs.size, [s.heap.objs.size, ax], [s.heap.objs.size], vs.toArray.size, _, _, _, m₀, news, J, rfl, KTurns.ofWalks (Walks.list hh s.heap.objs.size ax (Nat.ne_of_lt hlt) vs.toArray) (fun i v s' Q' E' st hQ => hgo v s' Q' E' _ i st.1 hQ), ?_, ?_, ?_,
    ⟨⟨_, Heap.get?_push_size _ rfl, rfl, rfl⟩, hl.push _⟩, F.keeps up, N.grown up, h0, ?_, ?_⟩
  · intro hI
    rcases List.mem_cons.mp hI with e | e
    · exact Nat.ne_of_lt hLs e
    · exact hax.2.1 (List.mem_singleton.mp e).symm
  · intro b hb
    rw [List.mem_singleton.mp hb]
    exact fresh_at F (Nat.le_refl _)
  · intro p hp hI
    exact absurd (Heap.lt_size (N p hp).1) (by rw [List.mem_singleton.mp hI]; exact Nat.lt_irrefl _)
  · intro i v m₁ nw h₁ tk₁ own hi hP hJ _ hfp _ _ _ F₁ N₁
    refine wpAny_mono (turn i v m₁ nw h₁ tk₁ own (fun p hp => ?_) (by simpa using hP) hJ F₁ N₁) (fun _ s₃ h₃ => wpAny_mono h₃ (fun f s₄ h₄ => h₄.toV ?_) fun _ _ e => e) fun _ _ e => e
    · rcases List.mem_cons.mp (hfp p hp) with e | e
      · exact .inl (Nat.le_of_eq e.symm)
      · exact .inr (List.mem_singleton.mp e)
    · intro a ha
      rw [List.mem_singleton.mp ha]
      exact Nat.le_refl _
  · intro h' tk m' nw F' N' _ hJ
    exact done h' tk m' nw F' N' (by simpa using hJ)
/-- over a range that counts up by ones from nought -/
theorem range_turns {r : Addr} {n : Nat} {t u v : Tok} (J : Nat → (Str → Option Value) → List (Addr × Obj) → Prop) (hh : A.handled = none) (F : Fr h₀ env.locals s.heap m₀) (N : News h₀ env.locals s.heap news) (hr : IsRange s.heap r 0 (n : Int) 1 t u v) (hn : n ≤ 100000) (h0 : J 0 m₀ news)
    (hgo : ∀ v (s : Shared) (Q : Unit → Shared → Prop) (E : Value → Shared → Prop) (I : Addr) (a b : Int), IsRangeIter s.heap I a b 1 → Q () s → wpAny (model prog w) A (letOwnedTupleGo target (.ref I) v) Q E s)
    (turn : ∀ (i : Nat) t' m₁ nw h₁ tk₁ own, i < n → (∀ p ∈ own, s.heap.objs.size ≤ p.1) → J i m₁ nw → Fr h₀ env.locals h₁ m₁ → News h₀ env.locals h₁ (own ++ nw) →
      wpAny (model prog w) A (assign target env (.int (i : Int) t')) (fun _ s₃ => wpAny (model prog w) A (execs body env) (TurnEnd h₀ env.locals s.heap.objs.size own (J (i + 1)) { s with heap := h₁, toks := tk₁ } Q) E s₃) E { s with heap := h₁, toks := tk₁ })
    (done : ∀ h' tk m' nw, Fr h₀ env.locals h' m' → News h₀ env.locals h' nw → J n m' nw → Q .next { s with heap := h', toks := tk }) :
    wpAny (model prog w) A (pyIter (.ref r)) (fun it s₂ => TurnsAt prog w A h₀ env target body Q E it s₂) E s := by
  have hLs : env.locals < s.heap.objs.size := F.ns.lt
  refine wpAny_pyIter_range hr (small_one (by decide) (by decide) (by omega) (by omega)) ?_
  have up : ∀ o b o', s.heap.get? b = some o' → (s.heap.push o).get? b = some o' := fun o b o' e => Heap.get?_push_of_some _ e
  have hrs : Builtin.Range.rangeSize 0 (n : Int) 1 = (n : Int) := by unfold Builtin.Range.rangeSize; split <;> simp_all <;> omega
  refine ⟨s.heap.objs.size, [s.heap.objs.size], [s.heap.objs.size], n, _, _, _, m₀, news, J, rfl, KTurns.ofWalks (Walks.range hh s.heap.objs.size 0 1 n) (fun i v s' Q' E' st hQ => hgo v s' Q' E' _ _ _ st hQ), ?_, ?_, ?_,
    ?_, F.keeps (up _), N.grown (up _), h0, ?_, ?_⟩
  · intro hI
    exact Nat.ne_of_lt hLs (List.mem_singleton.mp hI)
  · intro b hb
    rw [List.mem_singleton.mp hb]
    exact fresh_at F (Nat.le_refl _)
  · intro p hp hI
    exact absurd (Heap.lt_size (N p hp).1) (by rw [List.mem_singleton.mp hI]; exact Nat.lt_irrefl _)
  · show IsRangeIter _ _ _ _ _
    rw [hrs]
    simpa using Heap.get?_push_size _ rfl
  · rintro i v m₁ nw h₁ tk₁ own hi ⟨t', rfl⟩ hJ _ hfp _ _ _ F₁ N₁
    have e : (0 : Int) + (i : Int) * 1 = (i : Int) := by omega
    rw [e]
    refine wpAny_mono (turn i t' m₁ nw h₁ tk₁ own hi (fun p hp => Nat.le_of_eq (List.mem_singleton.mp (hfp p hp)).symm) hJ F₁ N₁) (fun _ s₃ h₃ => wpAny_mono h₃ (fun f s₄ h₄ => h₄.toV ?_) fun _ _ e => e) fun _ _ e => e
    intro a ha
    rw [List.mem_singleton.mp ha]
    exact Nat.le_refl _
  · intro h' tk m' nw F' N' _ hJ
    exact done h' tk m' nw F' N' hJ
/-- over zip of two lists that the call has made -/
theorem zip_turns {elts : List Expr} {k : Nat} {pos : Pos} {l1 l2 : Addr} {xs ys : List Value} {n1 n2 : Nat} (J : Nat → (Str → Option Value) → List (Addr × Obj) → Prop) (hh : A.handled = none) (F : Fr h₀ env.locals s.heap m₀) (N : News h₀ env.locals s.heap news) (hm1 : (l1, lobj xs n1) ∈ news) (hm2 : (l2, lobj ys n2) ∈ news) (hlen : xs.length = ys.length) (h0 : J 0 m₀ news)
    (turn : ∀ i x y T m₁ nw h₁ tk₁ own, (∀ p ∈ own, s.heap.objs.size ≤ p.1 ∨ p.1 = l1 ∨ p.1 = l2) → xs[i]? = some x → ys[i]? = some y → h₁.IsTuple T #[x, y] → J i m₁ nw → Fr h₀ env.locals h₁ m₁ → News h₀ env.locals h₁ (own ++ nw) →
      wpAny (model prog w) A (assign (.Tuple elts k pos) env (.ref T)) (fun _ s₃ => wpAny (model prog w) A (execs body env) (TurnEnd h₀ env.locals s.heap.objs.size own (J (i + 1)) { s with heap := h₁, toks := tk₁ } Q) E s₃) E { s with heap := h₁, toks := tk₁ })
    (done : ∀ h' tk m' nw, Fr h₀ env.locals h' m' → News h₀ env.locals h' nw → J xs.length m' nw → Q .next { s with heap := h', toks := tk }) :
    wpAny (model prog w) A (call (.type "zip") [.ref l1, .ref l2]) (fun xv s₁ => wpAny (model prog w) A (pyIter xv) (fun it s₂ => TurnsAt prog w A h₀ env (.Tuple elts k pos) body Q E it s₂) E s₁) E s := by
  have hax1 := N _ hm1
  have hax2 := N _ hm2
  have hl1 : s.heap.IsList l1 xs.toArray := ⟨_, hax1.1, rfl, n1, rfl⟩
  have hl2 : s.heap.IsList l2 ys.toArray := ⟨_, hax2.1, rfl, n2, rfl⟩
  have hlt1 : l1 < s.heap.objs.size := Heap.lt_size hax1.1
  have hlt2 : l2 < s.heap.objs.size := Heap.lt_size hax2.1
  have hLs : env.locals < s.heap.objs.size := F.ns.lt
  have D : ZipApart (s.heap.objs.size + 4) (s.heap.objs.size + 2) (s.heap.objs.size + 3) s.heap.objs.size (s.heap.objs.size + 1) l1 l2 := zipApart_new hlt1 hlt2
  refine call_zip_2 hl1 hl2 fun h' hz hTI hTO hi1 hi2 hsz hk => ?_
  refine wpAny_pyIter_zip hz ?_
  have hwr : ∀ a ∈ [s.heap.objs.size + 4, s.heap.objs.size + 3, s.heap.objs.size, s.heap.objs.size + 1], s.heap.objs.size ≤ a := by
    intro a ha
    simp at ha
    rcases ha with e | e | e | e <;> (rw [e]; first | exact Nat.le_add_right _ _ | exact Nat.le_refl _)
  refine ⟨_, _, [s.heap.objs.size + 4, s.heap.objs.size + 3, s.heap.objs.size, s.heap.objs.size + 1], _, _, _, _, m₀, news, J, rfl, KTurns.ofWalksU (WalksT.zip2 hh _ _ _ _ _ _ _ D xs.toArray ys.toArray).toU, ?_, ?_, ?_,
    ⟨hz, hTI, ⟨_, _, hTO⟩, hi1, hi2, hl1.at fun o e => hk l1 o e, hl2.at fun o e => hk l2 o e⟩, F.keeps hk, N.grown hk, h0, ?_, ?_⟩
  · intro hI
    have up : ∀ k, env.locals ≠ s.heap.objs.size + k := fun k e => Nat.ne_of_lt (Nat.lt_of_lt_of_le hLs (Nat.le_add_right _ k)) e
    simp only [List.mem_cons, List.not_mem_nil, or_false] at hI
    rcases hI with e | e | e | e | e | e | e
    · exact up 4 e
    · exact up 2 e
    · exact up 3 e
    · exact up 0 e
    · exact up 1 e
    · exact hax1.2.1 e.symm
    · exact hax2.2.1 e.symm
  · intro b hb
    exact fresh_at F (hwr b hb)
  · intro p hp hI
    exact absurd (hwr _ hI) (Nat.not_le.mpr (Heap.lt_size (N p hp).1))
  · rintro i v m₁ nw h₁ tk₁ own hi ⟨T, vals, rfl, ⟨x, y, hx, hy, rfl⟩, hT⟩ hJ _ hfp _ _ _ F₁ N₁
    refine wpAny_mono (turn i x y T m₁ nw h₁ tk₁ own (fun p hp => ?_) (by simpa using hx) (by simpa using hy) hT hJ F₁ N₁) (fun _ s₃ h₃ => wpAny_mono h₃ (fun f s₄ h₄ => h₄.toV hwr) fun _ _ e => e) fun _ _ e => e
    have := hfp p hp
    simp only [List.mem_cons, List.not_mem_nil, or_false] at this
    rcases this with e | e | e | e | e | e | e
    · exact .inl (by rw [e]; exact Nat.le_add_right _ _)
    · exact .inl (by rw [e]; exact Nat.le_add_right _ _)
    · exact .inl (by rw [e]; exact Nat.le_add_right _ _)
    · exact .inl (by rw [e]; exact Nat.le_refl _)
    · exact .inl (by rw [e]; exact Nat.le_add_right _ _)
    · exact .inr (.inl e)
    · exact .inr (.inr e)
  · intro h' tk m' nw F' N' _ hJ
    exact done h' tk m' nw F' N' (by simpa [hlen] using hJ)
end
end Mine

open PySem PySem.W PyProof.Rows PySem.Calls
set_option Elab.async false
set_option maxRecDepth 100000
set_option maxHeartbeats 2000000
namespace Mine
section
variable {prog : Program} {w : World} {A : Around} {E : Value → Shared → Prop} {s : Shared} {h₀ : Heap} {L l : Addr} {m : Str → Option Value} {news : List (Addr × Obj)} {vs : List Value} {n : Nat}
theorem len_own {Q : Value → Shared → Prop} (N : News h₀ L s.heap news) (hm : (l, lobj vs n) ∈ news) (hsz : vs.length ≤ 100000) (h : ∀ t k, Q (.int (vs.length : Int) t) { s with toks := k }) :
    wpAny (model prog w) A (call (.builtin "len") [.ref l]) Q E s := by
  refine len_list (isl_of N hm) (by simp; omega) ?_
  simpa using h _ _
theorem slice_own {value slice : Expr} {i k : Int} {ti tk : Tok} {a b : Nat} {Q : Value → Shared → Prop} (F : Fr h₀ L s.heap m) (N : News h₀ L s.heap news) (hm : (l, lobj vs n) ∈ news) (ha : i = (a : Int)) (hb : k = (b : Int)) (hab : a ≤ b) (hbl : b ≤ vs.length) (hz : vs.length ≤ 100000)
    (h : ∀ D h', Fr h₀ L h' m → News h₀ L h' ((D, lobj ((vs.drop a).take (b - a)) 0) :: news) → (∀ p ∈ news, p.1 < D) → Q (.ref D) { s with heap := h' })
    (hs : subscripted slice false (.ref l) (.ref s.heap.objs.size) = operate [.ref s.heap.objs.size, .ref l] (getItem (.ref l) (.ref s.heap.objs.size))) (ht : ∀ r, letTemporaryGo value (.ref l) r = pure ()) :
    wpAny (model prog w) A (subscriptTail value slice (.ref l) (.ref s.heap.objs.size)) Q E { s with heap := s.heap.push { cls := .type "slice", data := .fields #[.int i ti, .int k tk, .none] } } := by
  subst ha hb
  have e : sliceBounds (some (a : Int)) (some (b : Int)) none vs.toArray.size = ((a : Int), (b : Int), 1) := by
    unfold sliceBounds
    simp only [Option.getD_none, show (1 : Int) > 0 by decide, if_true, List.size_toArray]
    rw [if_neg (by omega), if_neg (by omega)]
    have e1 : max 0 (min (a : Int) (vs.length : Int)) = a := by omega
    have e2 : max 0 (min (b : Int) (vs.length : Int)) = b := by omega
    rw [e1, e2]
  refine kmk_slice F N (isl_of N hm) (IsPart.int _ _) (IsPart.int _ _) (fun D h' F' N' l1 => h D h' F' ?_ l1) hs ht (by rw [sizeLine_eq]; simp; omega)
  rw [kmk_pick_nat _ e] at N'
  exact N'
theorem item_own {value slice : Expr} {k : Int} {u : Tok} {x : Value} {Q : Value → Shared → Prop} (N : News h₀ L s.heap news) (hm : (l, lobj vs n) ∈ news) (h0 : 0 ≤ k) (hfit : k < 100000) (hx : vs[k.toNat]? = some x) (h : Q x s)
    (hs : subscripted slice false (.ref l) (.int k u) = operate [.ref l, .int k u] (getItem (.ref l) (.int k u)) := by with_unfolding_all rfl) (hg : ∀ r, letTemporaryGo value (.ref l) r = pure () := by intro _; with_unfolding_all rfl) :
    wpAny (model prog w) A (subscriptTail value slice (.ref l) (.int k u)) Q E s :=
  item_list (isl_of N hm) h0 (by omega) (by simpa using hx) h hs hg
theorem ints_drop : ∀ {vs : List Value} {ns : List Int}, IntsAre vs ns → ∀ a : Nat, IntsAre (vs.drop a) (ns.drop a)
  | _, _, h, 0 => by simpa using h
  | _, _, .nil, _ + 1 => by simpa using IntsAre.nil
  | _, _, .cons n t h, a + 1 => by simpa using ints_drop h a
theorem ints_take : ∀ {vs : List Value} {ns : List Int}, IntsAre vs ns → ∀ a : Nat, IntsAre (vs.take a) (ns.take a)
  | _, _, h, 0 => by simpa using IntsAre.nil
  | _, _, .nil, _ + 1 => by simpa using IntsAre.nil
  | _, _, .cons n t h, a + 1 => by simpa using IntsAre.cons n t (ints_take h a)
theorem ints_slice {ns : List Int} (hi : IntsAre vs ns) (a c : Nat) : IntsAre ((vs.drop a).take c) ((ns.drop a).take c) := by
  exact ints_take (ints_drop hi a) c
end
end Mine

open PySem PySem.W PyProof.Rows PySem.Calls
set_option Elab.async false
set_option maxRecDepth 100000
set_option maxHeartbeats 8000000
set_option linter.unusedVariables false
namespace Mine
/-- encoded_body.append, bound -/
def bmO (l : Addr) : Obj := { cls := .type "builtin_function_or_method", data := .fields #[.builtin "list.append", .ref l] }
theorem entry_lga : entryFor table "list.__getattribute__" = some Builtin.«object.__getattribute__» :=
  entryFor_alias (id' := "object.__getattribute__") (by kernel_rfl) (by decide +kernel) (by decide +kernel) (by kernel_rfl)
theorem slot_mdg : Slot "method_descriptor" "__get__" "method_descriptor.__get__" :=
  .of (owner := "method_descriptor") (n := "__get__") (by rw [typeLookup_type, builtinLookup_eq_fast]; kernel_rfl) (by decide +kernel) (by decide +kernel) (by decide +kernel)
    (by first | exact .inl (by decide +kernel) | exact .inr (by decide +kernel)) (by rw [isSubtype_type]; kernel_rfl)
theorem entry_mdg : entryFor table "method_descriptor.__get__" = some Builtin.«method_descriptor.__get__» := entryFor_of_tree (by kernel_rfl)
theorem args_mdg (a b c : Value) : argsOk "method_descriptor.__get__" ⟨[a, b, c], []⟩ := by unfold argsOk; kernel_rfl
theorem type_la : typeOf (.builtin "list.append") = pure (.type "method_descriptor") := by show builtinType _ = _; rw [builtinType_eq_fast]; kernel_rfl
theorem md_noset : typeLookup (.type "method_descriptor") "__set__" = pure none := am_miss_of_fast (by decide +kernel)
theorem md_nodel : typeLookup (.type "method_descriptor") "__delete__" = pure none := am_miss_of_fast (by decide +kernel)
theorem list_nohook : typeLookup (.type "list") "__getattr__" = pure none := am_miss_of_fast (by decide +kernel)
theorem owner_la : (kfb_private% "ownerAndName") "list.append" = ("list", "append") := by first | decide +kernel | kernel_rfl
theorem sub_list : isSubtype (.type "list") (.type "list") = pure true := by rw [isSubtype_type]; kernel_rfl
theorem told_la : Manifest.toldItsClass.contains "list.append" = false := by decide +kernel
section
variable {prog : Program} {w : World} {M : Model} {A : Around} {E : Value → Shared → Prop} {s : Shared} {h₀ : Heap} {L l : Addr} {m : Str → Option Value} {news news' : List (Addr × Obj)} {vs : List Value} {n : Nat}
theorem run_mdg {P : Fin → Shared → Prop} (hT : s.TypeIs (.ref l) "list") (h : P (.done (.ret (.ref s.heap.objs.size))) { s with heap := s.heap.push (bmO l) }) :
    wpAny M A (Builtin.«method_descriptor.__get__» ⟨[.builtin "list.append", .ref l, .type "list"], []⟩) P E s := by
  unfold Builtin.«method_descriptor.__get__»
  refine wpAny_bind (wpAny_of_eq (a := (.builtin "list.append", some (.ref l), some (.type "list"))) (by first | rfl | kernel_rfl) ?_)
  dsimp only
  rw [told_la]
  refine KFB.if_not rfl ?_
  show wpAny _ _ ((kfb_private% "checkInstance") (.builtin "list.append") (.ref l) >>= fun _ => newFields "builtin_function_or_method" [.builtin "list.append", .ref l] >>= ret) _ _ _
  refine wpAny_bind ?_
  show wpAny _ _ ((kfb_private% "nameAndClass") (.builtin "list.append") >>= _) _ _ _
  refine wpAny_bind (wpAny_of_eq (a := (Str.ofString "append", .type "list")) (by show pure (Str.ofString ((kfb_private% "ownerAndName") "list.append").2, Value.type ((kfb_private% "ownerAndName") "list.append").1) = _; rw [owner_la]) ?_)
  dsimp only
  refine wpAny_bind (wpAny_isInstance hT sub_list ?_)
  refine KFB.if_not rfl (wpAny_pure ?_)
  exact wpAny_bind (wpAny_newObj_type (wpAny_pure h))
theorem run_lga {P : Fin → Shared → Prop} {u : Tok} {items : Array Value} (ho : s.heap.get? l = some { cls := .type "list", data := .seq items n }) (h : P (.done (.ret (.ref s.heap.objs.size))) { s with heap := s.heap.push (bmO l) }) :
    wpAny (model prog w) A (Builtin.«object.__getattribute__» ⟨[.ref l, .str (Str.ofString "append") u], []⟩) P E s := by
  have hT : s.TypeIs (.ref l) "list" := ⟨_, ho, rfl⟩
  unfold Builtin.«object.__getattribute__»
  refine wpAny_bind (wpAny_of_eq (a := (.ref l, [.str (Str.ofString "append") u])) (by first | rfl | kernel_rfl) ?_)
  dsimp only
  refine wpAny_bind (wpAny_of_eq (a := Str.ofString "append") (by first | rfl | kernel_rfl) ?_)
  refine wpAny_bind (wpAny_typeOf hT ?_)
  refine wpAny_bind ?_
  unfold Builtin.ObjectAttr.find
  refine wpAny_bind (wpAny_of_eq slot_list_append.lookup ?_)
  refine wpAny_bind (m := Builtin.ObjectAttr.getOf _) ?_
  show wpAny _ _ (specialOf (.builtin "list.append") "__get__") _ _ _
  unfold specialOf
  refine wpAny_bind (wpAny_of_eq type_la ?_)
  refine wpAny_of_eq slot_mdg.lookup ?_
  refine wpAny_bind ?_
  show wpAny _ _ (Builtin.ObjectAttr.takesStores (.builtin "list.append") >>= _) _ _ _
  unfold Builtin.ObjectAttr.takesStores specialOf
  refine wpAny_bind (wpAny_bind (wpAny_bind (wpAny_of_eq type_la (wpAny_of_eq md_noset ?_))))
  refine KFB.if_not rfl ?_
  refine wpAny_bind (wpAny_bind (wpAny_of_eq type_la (wpAny_of_eq md_nodel (wpAny_pure ?_))))
  refine KFB.if_not rfl (wpAny_pure ?_)
  show wpAny _ _ (Builtin.ObjectAttr.ownThenClass _ _ _ _) _ _ _
  unfold Builtin.ObjectAttr.ownThenClass
  refine wpAny_bind ?_
  show wpAny _ _ (Builtin.ObjectAttr.ownDict l >>= _) _ _ _
  unfold Builtin.ObjectAttr.ownDict
  obtain ⟨hp, g, d, t, os⟩ := s
  refine wpAny_bind (wpAny_bind (wpAny_loadPart_at ho ?_))
  show wpAny _ _ (instanceDict l false) _ _ _
  unfold instanceDict
  refine wpAny_bind (wpAny_loadPart_at ho ?_)
  dsimp only
  refine KFB.if_so rfl (wpAny_pure ?_)
  refine wpAny_pure ?_
  show wpAny _ _ (Builtin.ObjectAttr.copiedAttributeGuard _ _ >>= fun _ => Builtin.ObjectAttr.byTheClass _ _) _ _ _
  refine wpAny_bind ?_
  unfold Builtin.ObjectAttr.copiedAttributeGuard
  refine KFB.if_not (by decide +kernel) (wpAny_pure ?_)
  show wpAny _ _ (rule _ >>= fun _ => pure _) _ _ _
  refine wpAny_bind (wpAny_rule (wpAny_pure ?_))
  show wpAny _ _ (Builtin.ObjectAttr.bindTo _ _ _ _) _ _ _
  unfold Builtin.ObjectAttr.bindTo
  show wpAny _ _ (holding [.builtin "list.append"] (call (.builtin "method_descriptor.__get__") [.builtin "list.append", .ref l, .type "list"]) >>= ret) _ _ _
  exact wpAny_bind (wpAny_holding (wpAny_call_entry slot_mdg type_la entry_mdg (run_mdg hT ⟨_, rfl, wpAny_pure h⟩) (args_mdg _ _ _)))
theorem attr_append {Q : Value → Shared → Prop} {expr : Bool} (F : Fr h₀ L s.heap m) (N : News h₀ L s.heap news) (hm : (l, lobj vs n) ∈ news)
    (h : ∀ q h', Fr h₀ L h' m → News h₀ L h' ((q, bmO l) :: news) → (∀ p ∈ news, p.1 < q) → Q (.ref q) { s with heap := h', toks := s.toks + 1 }) :
    wpAny (model prog w) A (getAttr (.ref l) (Str.ofString "append") expr) Q E s := by
  have ho := (N _ hm).1
  have hq := h s.heap.objs.size _ (F.push (bmO l)) (N.push F (bmO l)) fun p hp => Heap.lt_size (N p hp).1
  obtain ⟨hp, g, d, t, os⟩ := s
  have hT : ∀ t', (⟨hp, g, d, t', os⟩ : Shared).TypeIs (.ref l) "list" := fun _ => ⟨_, ho, rfl⟩
  unfold getAttr getAttrBy
  refine wpAny_bind (wpAny_mkText (wpAny_holding (wpAny_bind (wpAny_typeOf (hT _) (wpAny_bind (wpAny_of_eq PySem.F.slot_list_getattribute.lookup ?_))))))
  show wpAny _ _ (getAttrByItsOwn (.ref l) (.str (Str.ofString "append") t) (.type "list") (.builtin "list.__getattribute__") true expr) _ _ _
  unfold getAttrByItsOwn hookBefore callGetattribute boundAndCalled
  refine wpAny_bind (wpAny_of_eq (show (if onTheHeap (.type "list") then typeLookup (.type "list") "__getattr__" else pure none) = pure none from rfl) ?_)
  refine wpAny_bind (wpAny_attempt (wpAny_holding ?_))
  have hx : (expr && onTheHeap (.builtin "list.__getattribute__")) = false := by cases expr <;> rfl
  refine KFB.if_not hx ?_
  refine wpAny_bind (wpAny_of_eq (PySem.F.slot_list_getattribute.bind _) ?_)
  refine wpAny_call_entry PySem.F.slot_list_getattribute (hT _) entry_lga (run_lga ho ⟨_, rfl, ?_⟩) (PySem.F.args_list_getattribute_2 _ _)
  exact wpAny_pure hq
def StandsB (x l : Addr) (h : Heap) : Prop := h.get? x = some (bmO l)
theorem bm_at {x : Addr} {h : Heap} (N : News h₀ L h news) (hm : (x, bmO l) ∈ news) : StandsB x l h := N.get hm
theorem callWith_bmF {pos : Pos} {u : Addr} {first : List Value} {args : List (Bool × Sem Value)} {Q : Value → Shared → Prop} (hplain : args.any (·.1) = false)
    (h : wpAny M A (evalArgs (.ref u) true args []) (fun x s₁ => StandsB u l s₁.heap ∧ wpAny M A (call (.ref u) (first ++ x.pos) x.kw) Q E s₁) E s) : wpAny M A (callWith pos (.ref u) first args []) Q E s := by
  unfold callWith
  refine wpAny_bind (wpAny_holding (wpAny_mono h (fun x s₁ h₁ => wpAny_bind (wpAny_standAt ?_)) fun _ _ x => x))
  obtain ⟨ho, hcall⟩ := h₁
  simp only [hplain, List.any_nil, Bool.or_false]
  refine wpAny_bind (m := keeperOf (.ref u)) ?_
  unfold keeperOf
  refine wpAny_bind (wpAny_load ho ?_)
  simp only [bmO, show (Value.type "builtin_function_or_method" != Value.type "method") = true by decide, show (Value.type "builtin_function_or_method" == Value.type "builtin_function_or_method" || Value.type "builtin_function_or_method" == Value.type "method-wrapper") = true by decide, if_true]
  refine wpAny_pure ?_
  exact wpAny_bind (wpAny_mono hcall (fun r s₂ hr => wpAny_bind (wpAny_holding (wpAny_point (wpAny_pure hr)))) fun _ _ x => x)
theorem callWith_bm {pos : Pos} {u : Addr} {first : List Value} {env : Env} {e : Expr} {rest : List Expr} {Q : Value → Shared → Prop} (_N : News h₀ L s.heap news) (_hm : (u, bmO l) ∈ news)
    (h : wpAny M A (spliced (backTo pos (starEach (e :: rest) env))) (fun vs s₁ => StandsB u l s₁.heap ∧ wpAny M A (call (.ref u) (first ++ vs)) Q E s₁) E s)
    (he : starEach (e :: rest) env = (false, eval e env) :: starEach rest env := by rfl) (hplain : (backTo pos (starEach rest env)).any (·.1) = false := by rfl) :
    wpAny M A (callWith pos (.ref u) first (backTo pos (starEach (e :: rest) env)) []) Q E s := by
  rw [he] at h ⊢
  refine callWith_bmF (l := l) (by show (false || (backTo pos (starEach rest env)).any (·.1)) = false; rw [hplain]; rfl) ?_
  exact Calls.evalArgs_plain h
theorem quiet_la {as : Args} : (Code.builtin "list.append" as).quiet = true := Code.quiet_builtin _ (by decide +kernel)
theorem sub_mod : isSubtype (.type "list") (.type "module") = pure false := by rw [isSubtype_type]; kernel_rfl
theorem kind_la : builtinKind "list.append" = some .method := by decide +kernel
theorem sig_la : Manifest.signature? "list.append" = some ⟨.oneArg, "list.append", "append", .self, [⟨"object", .posOnly, true⟩]⟩ := by
  rw [signature?_of (id := "list.append") (n := ['d', 'n', 'e', 'p', 'p', 'a']) (o := ['t', 's', 'i', 'l']) (by kernel_rfl) PySem.F.owner_list]
  kernel_rfl
theorem check_args (l : Addr) (x : Value) : Bind.checkArgs "list.append" ⟨.oneArg, toString (Bind.lastOf "list") ++ toString "." ++ toString (Bind.lastOf "list.append"), "append", .self, [⟨"object", .posOnly, true⟩]⟩ ⟨[.ref l, x], []⟩ = pure () := by kernel_rfl
theorem check_la {x : Value} {items : Array Value} {Q : Unit → Shared → Prop} (ho : s.heap.get? l = some { cls := .type "list", data := .seq items n }) (h : Q () s) : wpAny M A (checkBoundCall "list.append" ⟨[.ref l, x], []⟩) Q E s := by
  have hT : s.TypeIs (.ref l) "list" := ⟨_, ho, rfl⟩
  unfold checkBoundCall
  rw [sig_la, kind_la]
  dsimp only
  refine KFB.if_not (by decide) ?_
  refine wpAny_bind (wpAny_isInstance hT sub_mod ?_)
  refine KFB.if_not (by decide +kernel) ?_
  refine wpAny_bind ?_
  show wpAny _ _ (loadHead l >>= _) _ _ _
  obtain ⟨hp, g, d, t, os⟩ := s
  refine wpAny_bind (wpAny_loadPart_at ho (wpAny_pure ?_))
  refine KFB.if_not rfl ?_
  refine wpAny_bind (wpAny_typeOf hT ?_)
  exact wpAny_of_eq (check_args l x) h
theorem call_bm {q : Addr} {x : Value} {Q : Value → Shared → Prop} (F : Fr h₀ L s.heap m) (N : News h₀ L s.heap news) (hq : (q, bmO l) ∈ news) (U : Upd l (lobj vs n) (lobj (vs ++ [x]) (n + 1)) news news') (hsz : vs.length ≤ 100000)
    (h : ∀ h', Fr h₀ L h' m → News h₀ L h' news' → Q .none { s with heap := h' }) : wpAny (model prog w) A (call (.ref q) [x]) Q E s := by
  have hb : s.heap.get? q = some (bmO l) := (N _ hq).1
  obtain ⟨pre, post, rfl, rfl, a, b⟩ := U.split
  have z := N (l, lobj vs n) (List.mem_append.mpr (.inr (.head _)))
  refine wpAny_call (codeAny_of_tree ?_)
  show wpAny _ A.in1 (callAny (.ref q) ⟨[x], []⟩) _ _ s
  simp only [callAny]
  refine wpAny_bind (wpAny_load hb ?_)
  simp only [bmO, show (Value.type "builtin_function_or_method" == Value.type "method" || Value.type "builtin_function_or_method" == Value.type "builtin_function_or_method" || Value.type "builtin_function_or_method" == Value.type "method-wrapper") = true by decide, if_true]
  refine KFB.if_so (by decide) ?_
  refine wpAny_bind (check_la z.1 ?_)
  refine wpAny_bind (wpAny_pure (wpAny_pure ?_))
  refine ⟨quiet_la, codeAny_builtin entry_list_append ?_⟩
  show wpAny _ _ (updateSeq l (·.push x) >>= fun _ => ret .none) _ _ s
  refine wpAny_bind ?_
  refine wpAny_updateSeq z.1 rfl (wpAny_pure ?_)
  refine h _ (F.change (Heap.SameBut.update ..) z.2.1 z.2.2) (news_set N a b (Heap.SameBut.update ..) ?_)
  rw [Heap.get?_update_self _ z.1 (by rw [mapSeq_push]; rfl), mapSeq_push]
  simp
end
end Mine

open PySem PyProof.Rows
set_option Elab.async false
set_option maxRecDepth 100000
namespace Mine
theorem slice_eq (x : Str) (l u : Option Int) : Txt.slice x l u = StrLaws.sliceText x l u := rfl
theorem slice_ab {x : Str} {i j : Int} {a b : Nat} (hi : i = (a : Int)) (hj : j = (b : Int)) (hab : a ≤ b) (hb : b ≤ x.length) : (Txt.slice x (some i) (some j)).cps.toList = (x.cps.toList.drop a).take (b - a) := by
  subst hi hj
  have hl : x.length = x.cps.toList.length := by simp [Str.length]
  rw [slice_eq, StrLaws.sliceText_plain ⟨by omega, by omega, by omega⟩]
  show (x.cps.toList.drop a).take _ = _
  congr 1
  omega
theorem slice_fr {x : Str} {i : Int} {a : Nat} (hi : i = (a : Int)) (ha : a ≤ x.length) : (Txt.slice x (some i) none).cps.toList = x.cps.toList.drop a := by
  subst hi
  have hl : x.length = x.cps.toList.length := by simp [Str.length]
  rw [slice_eq, StrLaws.sliceText_from ⟨by omega, by omega⟩]
  show (x.cps.toList.drop a).take _ = _
  rw [List.take_of_length_le]
  rw [List.length_drop]
  omega
theorem slice_am {x : Str} {i : Int} {a : Nat} (hi : i = (a : Int)) (ha : a + 1 ≤ x.length) : (Txt.slice x (some i) (some (-1))).cps.toList = (x.cps.toList.drop a).dropLast := by
  subst hi
  have hl : x.length = x.cps.toList.length := by simp [Str.length]
  rw [slice_eq, StrLaws.sliceText_neg_hi x _ (by decide) (by omega), StrLaws.sliceText_plain ⟨by omega, by omega, by omega⟩]
  show (x.cps.toList.drop a).take _ = _
  rw [List.dropLast_eq_take, List.length_drop]
  congr 1
  omega
theorem slice_m1 (x : Str) : (Txt.slice x none (some (-1))).cps.toList = x.cps.toList.dropLast := by
  have hl : x.length = x.cps.toList.length := by simp [Str.length]
  rcases Nat.eq_zero_or_pos x.length with h | h
  · have e : x = Str.empty := Str.ext' (by
      have : x.cps.size = 0 := h
      exact Array.size_eq_zero_iff.mp this)
    rw [e]
    decide +kernel
  · rw [slice_eq, StrLaws.sliceText_to_neg (by decide) (by omega)]
    show ((x.cps.toList.drop 0).take _) = _
    rw [List.drop_zero, List.dropLast_eq_take]
    congr 1
    omega
theorem item_at {x : Str} {k : Int} {a c : Nat} (hk : k = (a : Int)) (h : x.cps.toList[a]? = some c) : Txt.item x k = ⟨#[c]⟩ := by
  subst hk
  unfold Txt.item Txt.charAt
  rw [StrLaws.at_nonneg (n := c) (by omega)]
  · rfl
  · rw [← Array.getElem?_toList]
    simpa using h
end Mine

open PySem PySem.W PyProof.Rows
set_option Elab.async false
set_option maxRecDepth 100000
set_option maxHeartbeats 8000000
set_option linter.unusedVariables false
namespace Mine
/-- the twins of the program are laid -/
theorem laid : (fun (_ : Program) => true) PySem.Challenge.pw_dm0096_03 = true := by k_qdec
noncomputable abbrev qw : Program := PySem.W.Fast.tw18123395481247862948
noncomputable abbrev tSeg := @PySem.W.Fast.tw10295753902157049106
noncomputable abbrev tRun := @PySem.W.Fast.tw10110043849684766642
noncomputable abbrev tTb := PySem.W.Fast.tw14364793385576792824
def hexd (n : Nat) : Nat := bif Nat.blt n 10 then 48 + n else 55 + n
def tx (l : List Nat) : Str := ⟨⟨l⟩⟩
/-- the table's item: =XX -/
def hexv (i : Nat) : Value := .str (tx [61, hexd (i / 16), hexd (i % 16)]) (197 + 4 * i)
def els (f : Nat → Value) : Nat → Nat → List Value
  | _, 0 => []
  | i, n + 1 => f i :: els f (i + 1) n
def put (f : Nat → Value) (a : Nat) (v : Value) (i : Nat) : Value := bif Nat.beq i a then v else f i
def atN (i : Nat) : List Nat → Nat → Option Nat
  | [], _ => none
  | x :: r, n => bif Nat.beq x i then some n else atN i r (n + 1)
def turnEl (l : List Nat) (th j i : Nat) : Value := match atN i l 0 with
  | some t => bif Nat.blt t j then .str (tx [i]) (th + 3 * t) else hexv i
  | none => hexv i
def hB : List Nat := [45, 33, 42, 43, 47, 97, 98, 99, 100, 101, 102, 103, 104, 105, 106, 107, 108, 109, 110, 111, 112, 113, 114, 115, 116, 117, 118, 119, 120, 121, 122, 65, 66, 67, 68, 69, 70, 71, 72, 73, 74, 75, 76, 77, 78, 79, 80, 81, 82, 83, 84, 85, 86, 87, 88, 89, 90, 48, 49, 50, 51, 52, 53, 54, 55, 56, 57]
def bB : List Nat := [32, 33, 34, 35, 36, 37, 38, 39, 40, 41, 42, 43, 44, 45, 46, 47, 48, 49, 50, 51, 52, 53, 54, 55, 56, 57, 58, 59, 60, 62, 63, 64, 65, 66, 67, 68, 69, 70, 71, 72, 73, 74, 75, 76, 77, 78, 79, 80, 81, 82, 83, 84, 85, 86, 87, 88, 89, 90, 91, 92, 93, 94, 95, 96, 97, 98, 99, 100, 101, 102, 103, 104, 105, 106, 107, 108, 109, 110, 111, 112, 113, 114, 115, 116, 117, 118, 119, 120, 121, 122, 123, 124, 125, 126, 9]
def hel (j i : Nat) : Value := turnEl hB 1240 j i
def bel (j i : Nat) : Value := turnEl bB 1445 j i
def oL (l : List Value) (ep : Nat) : Obj := ⟨.type "list", none, .seq ⟨l⟩ ep, ⟨[]⟩⟩
def oI (k : Nat) : Obj := ⟨.type "range_iterator", none, .fields ⟨[.int (Int.ofNat k) 0, .int (Int.ofNat (256 - k)) 0, .int 1 0]⟩, ⟨[]⟩⟩
def ent (P : Params) (x : Str) (t : Nat) (v : Value) : DictEntry := ⟨PyData.keyHash P x, .str x t, v⟩
noncomputable def oD (P : Params) : Nat → Obj
  | 0 => ⟨.type "dict", none, .dict ⟨[]⟩ 0, ⟨[]⟩⟩
  | k + 1 => ⟨.type "dict", none, .dict ⟨[ent P (tx [99]) 195 (.int (Int.ofNat k) (194 + 4 * k))]⟩ 1, ⟨[]⟩⟩
def cvH (j : Nat) : Value := .int (Int.ofNat (hB.getD (j - 1) 0)) (1238 + 3 * (j - 1))
def cvB (j : Nat) : Value := .int (Int.ofNat (bB.getD (j - 1) 0)) (1443 + 3 * (j - 1))
noncomputable def stL (i n : Nat) : List Stmt := ((behindTheImports qw).drop i).take n
def isNamed (n : Str) : Stmt → Bool
  | .FunctionDef m .. => m == n
  | _ => false
def fdOf (st : Option Stmt) (n : Str) (g : Addr) (dv kv doc pm : Value) (an : Option Addr) (cd ct : Value) (bl : Addr) : FuncData := match st with
  | some (.FunctionDef _ a b _ _ _ sc _ _ _) => ⟨n, n, a, .stmts b, sc, g, [], dv, kv, doc, pm, an, cd, ct, bl⟩
  | _ => default
noncomputable def o3H (P : Params) (j : Nat) : Obj := ⟨(.type "dict"), none, (.dict ⟨[ent P (tx [95, 95, 110, 97, 109, 101, 95, 95]) 165 (.str (tx [99, 112, 121, 51, 49, 51, 46, 101, 109, 97, 105, 108, 46, 113, 117, 111, 112, 114, 105, 109, 105, 109, 101]) 1229), ent P (tx [95, 95, 100, 111, 99, 95, 95]) 166 .none, ent P (tx [95, 95, 112, 97, 99, 107, 97, 103, 101, 95, 95]) 167 .none, ent P (tx [95, 95, 108, 111, 97, 100, 101, 114, 95, 95]) 168 (.builtin "__main__.__loader__#opaque"), ent P (tx [95, 95, 115, 112, 101, 99, 95, 95]) 169 .none, ent P (tx [95, 95, 97, 110, 110, 111, 116, 97, 116, 105, 111, 110, 115, 95, 95]) 170 (.ref 6), ent P (tx [95, 95, 98, 117, 105, 108, 116, 105, 110, 115, 95, 95]) 171 (.ref 4), ent P (tx [95, 95, 102, 105, 108, 101, 95, 95]) 173 (.str (tx [47, 99, 108, 97, 105, 109, 47, 99, 117, 116, 46, 112, 121]) 172), ent P (tx [95, 95, 99, 97, 99, 104, 101, 100, 95, 95]) 174 .none, ent P (tx [67, 82, 76, 70]) 188 (.str (tx [13, 10]) 187), ent P (tx [78, 76]) 190 (.str (tx [10]) 189), ent P (tx [95, 81, 85, 79, 80, 82, 73, 95, 77, 65, 80]) 1218 (.ref 17), ent P (tx [95, 81, 85, 79, 80, 82, 73, 95, 72, 69, 65, 68, 69, 82, 95, 77, 65, 80]) 1219 (.ref 22), ent P (tx [95, 81, 85, 79, 80, 82, 73, 95, 66, 79, 68, 89, 95, 77, 65, 80]) 1220 (.ref 24), ent P (tx [97, 115, 99, 105, 105, 95, 108, 111, 119, 101, 114, 99, 97, 115, 101]) 1222 (.str (tx [97, 98, 99, 100, 101, 102, 103, 104, 105, 106, 107, 108, 109, 110, 111, 112, 113, 114, 115, 116, 117, 118, 119, 120, 121, 122]) 1221), ent P (tx [97, 115, 99, 105, 105, 95, 117, 112, 112, 101, 114, 99, 97, 115, 101]) 1224 (.str (tx [65, 66, 67, 68, 69, 70, 71, 72, 73, 74, 75, 76, 77, 78, 79, 80, 81, 82, 83, 84, 85, 86, 87, 88, 89, 90]) 1223), ent P (tx [97, 115, 99, 105, 105, 95, 108, 101, 116, 116, 101, 114, 115]) 1226 (.str (tx [97, 98, 99, 100, 101, 102, 103, 104, 105, 106, 107, 108, 109, 110, 111, 112, 113, 114, 115, 116, 117, 118, 119, 120, 121, 122, 65, 66, 67, 68, 69, 70, 71, 72, 73, 74, 75, 76, 77, 78, 79, 80, 81, 82, 83, 84, 85, 86, 87, 88, 89, 90]) 1225), ent P (tx [100, 105, 103, 105, 116, 115]) 1228 (.str (tx [48, 49, 50, 51, 52, 53, 54, 55, 56, 57]) 1227), ent P (tx [99]) 1239 (cvH j)]⟩ 19), ⟨[]⟩⟩
noncomputable def o3B (P : Params) (j : Nat) : Obj := ⟨(.type "dict"), none, (.dict ⟨[ent P (tx [95, 95, 110, 97, 109, 101, 95, 95]) 165 (.str (tx [99, 112, 121, 51, 49, 51, 46, 101, 109, 97, 105, 108, 46, 113, 117, 111, 112, 114, 105, 109, 105, 109, 101]) 1229), ent P (tx [95, 95, 100, 111, 99, 95, 95]) 166 .none, ent P (tx [95, 95, 112, 97, 99, 107, 97, 103, 101, 95, 95]) 167 .none, ent P (tx [95, 95, 108, 111, 97, 100, 101, 114, 95, 95]) 168 (.builtin "__main__.__loader__#opaque"), ent P (tx [95, 95, 115, 112, 101, 99, 95, 95]) 169 .none, ent P (tx [95, 95, 97, 110, 110, 111, 116, 97, 116, 105, 111, 110, 115, 95, 95]) 170 (.ref 6), ent P (tx [95, 95, 98, 117, 105, 108, 116, 105, 110, 115, 95, 95]) 171 (.ref 4), ent P (tx [95, 95, 102, 105, 108, 101, 95, 95]) 173 (.str (tx [47, 99, 108, 97, 105, 109, 47, 99, 117, 116, 46, 112, 121]) 172), ent P (tx [95, 95, 99, 97, 99, 104, 101, 100, 95, 95]) 174 .none, ent P (tx [67, 82, 76, 70]) 188 (.str (tx [13, 10]) 187), ent P (tx [78, 76]) 190 (.str (tx [10]) 189), ent P (tx [95, 81, 85, 79, 80, 82, 73, 95, 77, 65, 80]) 1218 (.ref 17), ent P (tx [95, 81, 85, 79, 80, 82, 73, 95, 72, 69, 65, 68, 69, 82, 95, 77, 65, 80]) 1219 (.ref 22), ent P (tx [95, 81, 85, 79, 80, 82, 73, 95, 66, 79, 68, 89, 95, 77, 65, 80]) 1220 (.ref 24), ent P (tx [97, 115, 99, 105, 105, 95, 108, 111, 119, 101, 114, 99, 97, 115, 101]) 1222 (.str (tx [97, 98, 99, 100, 101, 102, 103, 104, 105, 106, 107, 108, 109, 110, 111, 112, 113, 114, 115, 116, 117, 118, 119, 120, 121, 122]) 1221), ent P (tx [97, 115, 99, 105, 105, 95, 117, 112, 112, 101, 114, 99, 97, 115, 101]) 1224 (.str (tx [65, 66, 67, 68, 69, 70, 71, 72, 73, 74, 75, 76, 77, 78, 79, 80, 81, 82, 83, 84, 85, 86, 87, 88, 89, 90]) 1223), ent P (tx [97, 115, 99, 105, 105, 95, 108, 101, 116, 116, 101, 114, 115]) 1226 (.str (tx [97, 98, 99, 100, 101, 102, 103, 104, 105, 106, 107, 108, 109, 110, 111, 112, 113, 114, 115, 116, 117, 118, 119, 120, 121, 122, 65, 66, 67, 68, 69, 70, 71, 72, 73, 74, 75, 76, 77, 78, 79, 80, 81, 82, 83, 84, 85, 86, 87, 88, 89, 90]) 1225), ent P (tx [100, 105, 103, 105, 116, 115]) 1228 (.str (tx [48, 49, 50, 51, 52, 53, 54, 55, 56, 57]) 1227), ent P (tx [99]) 1239 (cvB j)]⟩ 19), ⟨[]⟩⟩
def o25H (j : Nat) : Obj := ⟨(.type "bytes_iterator"), none, (.fields ⟨[(.bytes ⟨[45, 33, 42, 43, 47, 97, 98, 99, 100, 101, 102, 103, 104, 105, 106, 107, 108, 109, 110, 111, 112, 113, 114, 115, 116, 117, 118, 119, 120, 121, 122, 65, 66, 67, 68, 69, 70, 71, 72, 73, 74, 75, 76, 77, 78, 79, 80, 81, 82, 83, 84, 85, 86, 87, 88, 89, 90, 48, 49, 50, 51, 52, 53, 54, 55, 56, 57]⟩ 1237), (.int (Int.ofNat j) 0)]⟩), ⟨[]⟩⟩
def o28B (j : Nat) : Obj := ⟨(.type "bytes_iterator"), none, (.fields ⟨[(.bytes ⟨[32, 33, 34, 35, 36, 37, 38, 39, 40, 41, 42, 43, 44, 45, 46, 47, 48, 49, 50, 51, 52, 53, 54, 55, 56, 57, 58, 59, 60, 62, 63, 64, 65, 66, 67, 68, 69, 70, 71, 72, 73, 74, 75, 76, 77, 78, 79, 80, 81, 82, 83, 84, 85, 86, 87, 88, 89, 90, 91, 92, 93, 94, 95, 96, 97, 98, 99, 100, 101, 102, 103, 104, 105, 106, 107, 108, 109, 110, 111, 112, 113, 114, 115, 116, 117, 118, 119, 120, 121, 122, 123, 124, 125, 126, 9]⟩ 1442), (.int (Int.ofNat j) 0)]⟩), ⟨[]⟩⟩
noncomputable def o11_block (P : Params) : Obj := ⟨(.type "tuple"), none, (.seq ⟨[]⟩ 0), ⟨[]⟩⟩
noncomputable def o12_block (P : Params) : Obj := ⟨.none, none, (.fields ⟨[]⟩), ⟨[]⟩⟩
noncomputable def o13_block (P : Params) : Obj := ⟨(.type "code"), none, (.fields ⟨[(.str (tx [60, 109, 111, 100, 117, 108, 101, 62]) 182), (.str (tx [60, 109, 111, 100, 117, 108, 101, 62]) 183), (.str (tx [47, 99, 108, 97, 105, 109, 47, 99, 117, 116, 46, 112, 121]) 184), (.int (1) 0), (.int (0) 0), (.int (0) 0), (.int (0) 0), (.int (0) 0), (.ref 11), (.bool false), (.int (181) 0), (.ref 12), .none, .none, .none, .none, (.int (185) 0), (.int (1) 0), (.str (tx [47, 99, 108, 97, 105, 109, 47, 99, 117, 116, 46, 112, 121]) 186)]⟩), ⟨[]⟩⟩
noncomputable def o14_block (P : Params) : Obj := ⟨(.type "frame"), none, .plain, ⟨[(some (.ref 13)), (some (.ref 3)), (some (.ref 3)), none, (some (.str (tx [95, 95, 109, 97, 105, 110, 95, 95]) 164)), none, (some (.ref 0))]⟩⟩
noncomputable def o3_p2 (P : Params) : Obj := ⟨(.type "dict"), none, (.dict ⟨[ent P (tx [95, 95, 110, 97, 109, 101, 95, 95]) 165 (.str (tx [95, 95, 109, 97, 105, 110, 95, 95]) 164), ent P (tx [95, 95, 100, 111, 99, 95, 95]) 166 .none, ent P (tx [95, 95, 112, 97, 99, 107, 97, 103, 101, 95, 95]) 167 .none, ent P (tx [95, 95, 108, 111, 97, 100, 101, 114, 95, 95]) 168 (.builtin "__main__.__loader__#opaque"), ent P (tx [95, 95, 115, 112, 101, 99, 95, 95]) 169 .none, ent P (tx [95, 95, 97, 110, 110, 111, 116, 97, 116, 105, 111, 110, 115, 95, 95]) 170 (.ref 6), ent P (tx [95, 95, 98, 117, 105, 108, 116, 105, 110, 115, 95, 95]) 171 (.ref 4), ent P (tx [95, 95, 102, 105, 108, 101, 95, 95]) 173 (.str (tx [47, 99, 108, 97, 105, 109, 47, 99, 117, 116, 46, 112, 121]) 172), ent P (tx [95, 95, 99, 97, 99, 104, 101, 100, 95, 95]) 174 .none, ent P (tx [67, 82, 76, 70]) 188 (.str (tx [13, 10]) 187), ent P (tx [78, 76]) 190 (.str (tx [10]) 189), ent P (tx [95, 81, 85, 79, 80, 82, 73, 95, 77, 65, 80]) 1218 (.ref 17)]⟩ 12), ⟨[]⟩⟩
noncomputable def o15_p2 (P : Params) : Obj := ⟨(.type "range"), none, (.fields ⟨[(.int (0) 192), (.int (256) 191), (.int (1) 193)]⟩), ⟨[]⟩⟩
noncomputable def o16_p2 (P : Params) : Obj := ⟨(.type "range_iterator"), none, (.fields ⟨[(.int (256) 0), (.int (0) 0), (.int (1) 0)]⟩), ⟨[]⟩⟩
noncomputable def o17_p2 (P : Params) : Obj := (oL (els hexv 0 256) 256)
noncomputable def o18_p2 (P : Params) : Obj := ⟨(.type "dict"), none, (.dict ⟨[]⟩ 2), ⟨[]⟩⟩
noncomputable def o20_p2 (P : Params) : Obj := ⟨(.type "StopIteration"), none, (.fields ⟨[(.ref 19), .none, .none, .none, (.bool false), .none]⟩), ⟨[]⟩⟩
noncomputable def o3_p9 (P : Params) : Obj := ⟨(.type "dict"), none, (.dict ⟨[ent P (tx [95, 95, 110, 97, 109, 101, 95, 95]) 165 (.str (tx [99, 112, 121, 51, 49, 51, 46, 101, 109, 97, 105, 108, 46, 113, 117, 111, 112, 114, 105, 109, 105, 109, 101]) 1229), ent P (tx [95, 95, 100, 111, 99, 95, 95]) 166 .none, ent P (tx [95, 95, 112, 97, 99, 107, 97, 103, 101, 95, 95]) 167 .none, ent P (tx [95, 95, 108, 111, 97, 100, 101, 114, 95, 95]) 168 (.builtin "__main__.__loader__#opaque"), ent P (tx [95, 95, 115, 112, 101, 99, 95, 95]) 169 .none, ent P (tx [95, 95, 97, 110, 110, 111, 116, 97, 116, 105, 111, 110, 115, 95, 95]) 170 (.ref 6), ent P (tx [95, 95, 98, 117, 105, 108, 116, 105, 110, 115, 95, 95]) 171 (.ref 4), ent P (tx [95, 95, 102, 105, 108, 101, 95, 95]) 173 (.str (tx [47, 99, 108, 97, 105, 109, 47, 99, 117, 116, 46, 112, 121]) 172), ent P (tx [95, 95, 99, 97, 99, 104, 101, 100, 95, 95]) 174 .none, ent P (tx [67, 82, 76, 70]) 188 (.str (tx [13, 10]) 187), ent P (tx [78, 76]) 190 (.str (tx [10]) 189), ent P (tx [95, 81, 85, 79, 80, 82, 73, 95, 77, 65, 80]) 1218 (.ref 17), ent P (tx [95, 81, 85, 79, 80, 82, 73, 95, 72, 69, 65, 68, 69, 82, 95, 77, 65, 80]) 1219 (.ref 22), ent P (tx [95, 81, 85, 79, 80, 82, 73, 95, 66, 79, 68, 89, 95, 77, 65, 80]) 1220 (.ref 24), ent P (tx [97, 115, 99, 105, 105, 95, 108, 111, 119, 101, 114, 99, 97, 115, 101]) 1222 (.str (tx [97, 98, 99, 100, 101, 102, 103, 104, 105, 106, 107, 108, 109, 110, 111, 112, 113, 114, 115, 116, 117, 118, 119, 120, 121, 122]) 1221), ent P (tx [97, 115, 99, 105, 105, 95, 117, 112, 112, 101, 114, 99, 97, 115, 101]) 1224 (.str (tx [65, 66, 67, 68, 69, 70, 71, 72, 73, 74, 75, 76, 77, 78, 79, 80, 81, 82, 83, 84, 85, 86, 87, 88, 89, 90]) 1223), ent P (tx [97, 115, 99, 105, 105, 95, 108, 101, 116, 116, 101, 114, 115]) 1226 (.str (tx [97, 98, 99, 100, 101, 102, 103, 104, 105, 106, 107, 108, 109, 110, 111, 112, 113, 114, 115, 116, 117, 118, 119, 120, 121, 122, 65, 66, 67, 68, 69, 70, 71, 72, 73, 74, 75, 76, 77, 78, 79, 80, 81, 82, 83, 84, 85, 86, 87, 88, 89, 90]) 1225), ent P (tx [100, 105, 103, 105, 116, 115]) 1228 (.str (tx [48, 49, 50, 51, 52, 53, 54, 55, 56, 57]) 1227)]⟩ 18), ⟨[]⟩⟩
noncomputable def o21_p9 (P : Params) : Obj := ⟨(.type "slice"), none, (.fields ⟨[.none, .none, .none]⟩), ⟨[]⟩⟩
noncomputable def o22_p9 (P : Params) : Obj := (oL (els hexv 0 256) 0)
noncomputable def o3_p10 (P : Params) : Obj := ⟨(.type "dict"), none, (.dict ⟨[ent P (tx [95, 95, 110, 97, 109, 101, 95, 95]) 165 (.str (tx [99, 112, 121, 51, 49, 51, 46, 101, 109, 97, 105, 108, 46, 113, 117, 111, 112, 114, 105, 109, 105, 109, 101]) 1229), ent P (tx [95, 95, 100, 111, 99, 95, 95]) 166 .none, ent P (tx [95, 95, 112, 97, 99, 107, 97, 103, 101, 95, 95]) 167 .none, ent P (tx [95, 95, 108, 111, 97, 100, 101, 114, 95, 95]) 168 (.builtin "__main__.__loader__#opaque"), ent P (tx [95, 95, 115, 112, 101, 99, 95, 95]) 169 .none, ent P (tx [95, 95, 97, 110, 110, 111, 116, 97, 116, 105, 111, 110, 115, 95, 95]) 170 (.ref 6), ent P (tx [95, 95, 98, 117, 105, 108, 116, 105, 110, 115, 95, 95]) 171 (.ref 4), ent P (tx [95, 95, 102, 105, 108, 101, 95, 95]) 173 (.str (tx [47, 99, 108, 97, 105, 109, 47, 99, 117, 116, 46, 112, 121]) 172), ent P (tx [95, 95, 99, 97, 99, 104, 101, 100, 95, 95]) 174 .none, ent P (tx [67, 82, 76, 70]) 188 (.str (tx [13, 10]) 187), ent P (tx [78, 76]) 190 (.str (tx [10]) 189), ent P (tx [95, 81, 85, 79, 80, 82, 73, 95, 77, 65, 80]) 1218 (.ref 17), ent P (tx [95, 81, 85, 79, 80, 82, 73, 95, 72, 69, 65, 68, 69, 82, 95, 77, 65, 80]) 1219 (.ref 22), ent P (tx [95, 81, 85, 79, 80, 82, 73, 95, 66, 79, 68, 89, 95, 77, 65, 80]) 1220 (.ref 24), ent P (tx [97, 115, 99, 105, 105, 95, 108, 111, 119, 101, 114, 99, 97, 115, 101]) 1222 (.str (tx [97, 98, 99, 100, 101, 102, 103, 104, 105, 106, 107, 108, 109, 110, 111, 112, 113, 114, 115, 116, 117, 118, 119, 120, 121, 122]) 1221), ent P (tx [97, 115, 99, 105, 105, 95, 117, 112, 112, 101, 114, 99, 97, 115, 101]) 1224 (.str (tx [65, 66, 67, 68, 69, 70, 71, 72, 73, 74, 75, 76, 77, 78, 79, 80, 81, 82, 83, 84, 85, 86, 87, 88, 89, 90]) 1223), ent P (tx [97, 115, 99, 105, 105, 95, 108, 101, 116, 116, 101, 114, 115]) 1226 (.str (tx [97, 98, 99, 100, 101, 102, 103, 104, 105, 106, 107, 108, 109, 110, 111, 112, 113, 114, 115, 116, 117, 118, 119, 120, 121, 122, 65, 66, 67, 68, 69, 70, 71, 72, 73, 74, 75, 76, 77, 78, 79, 80, 81, 82, 83, 84, 85, 86, 87, 88, 89, 90]) 1225), ent P (tx [100, 105, 103, 105, 116, 115]) 1228 (.str (tx [48, 49, 50, 51, 52, 53, 54, 55, 56, 57]) 1227), ent P (tx [99]) 1239 (.int (57) 1436)]⟩ 19), ⟨[]⟩⟩
noncomputable def o22_p10 (P : Params) : Obj := (oL (els (hel 67) 0 256) 0)
noncomputable def o25_p10 (P : Params) : Obj := ⟨(.type "bytes_iterator"), none, (.fields ⟨[.none, (.int (67) 0)]⟩), ⟨[]⟩⟩
noncomputable def o27_p10 (P : Params) : Obj := ⟨(.type "StopIteration"), none, (.fields ⟨[(.ref 26), .none, .none, .none, (.bool false), .none]⟩), ⟨[]⟩⟩
noncomputable def o22_p11 (P : Params) : Obj := (oL (els (put (hel 67) 32 (.str (tx [95]) 1439)) 0 256) 0)
noncomputable def o3_p12 (P : Params) : Obj := ⟨(.type "dict"), none, (.dict ⟨[ent P (tx [95, 95, 110, 97, 109, 101, 95, 95]) 165 (.str (tx [99, 112, 121, 51, 49, 51, 46, 101, 109, 97, 105, 108, 46, 113, 117, 111, 112, 114, 105, 109, 105, 109, 101]) 1229), ent P (tx [95, 95, 100, 111, 99, 95, 95]) 166 .none, ent P (tx [95, 95, 112, 97, 99, 107, 97, 103, 101, 95, 95]) 167 .none, ent P (tx [95, 95, 108, 111, 97, 100, 101, 114, 95, 95]) 168 (.builtin "__main__.__loader__#opaque"), ent P (tx [95, 95, 115, 112, 101, 99, 95, 95]) 169 .none, ent P (tx [95, 95, 97, 110, 110, 111, 116, 97, 116, 105, 111, 110, 115, 95, 95]) 170 (.ref 6), ent P (tx [95, 95, 98, 117, 105, 108, 116, 105, 110, 115, 95, 95]) 171 (.ref 4), ent P (tx [95, 95, 102, 105, 108, 101, 95, 95]) 173 (.str (tx [47, 99, 108, 97, 105, 109, 47, 99, 117, 116, 46, 112, 121]) 172), ent P (tx [95, 95, 99, 97, 99, 104, 101, 100, 95, 95]) 174 .none, ent P (tx [67, 82, 76, 70]) 188 (.str (tx [13, 10]) 187), ent P (tx [78, 76]) 190 (.str (tx [10]) 189), ent P (tx [95, 81, 85, 79, 80, 82, 73, 95, 77, 65, 80]) 1218 (.ref 17), ent P (tx [95, 81, 85, 79, 80, 82, 73, 95, 72, 69, 65, 68, 69, 82, 95, 77, 65, 80]) 1219 (.ref 22), ent P (tx [95, 81, 85, 79, 80, 82, 73, 95, 66, 79, 68, 89, 95, 77, 65, 80]) 1220 (.ref 24), ent P (tx [97, 115, 99, 105, 105, 95, 108, 111, 119, 101, 114, 99, 97, 115, 101]) 1222 (.str (tx [97, 98, 99, 100, 101, 102, 103, 104, 105, 106, 107, 108, 109, 110, 111, 112, 113, 114, 115, 116, 117, 118, 119, 120, 121, 122]) 1221), ent P (tx [97, 115, 99, 105, 105, 95, 117, 112, 112, 101, 114, 99, 97, 115, 101]) 1224 (.str (tx [65, 66, 67, 68, 69, 70, 71, 72, 73, 74, 75, 76, 77, 78, 79, 80, 81, 82, 83, 84, 85, 86, 87, 88, 89, 90]) 1223), ent P (tx [97, 115, 99, 105, 105, 95, 108, 101, 116, 116, 101, 114, 115]) 1226 (.str (tx [97, 98, 99, 100, 101, 102, 103, 104, 105, 106, 107, 108, 109, 110, 111, 112, 113, 114, 115, 116, 117, 118, 119, 120, 121, 122, 65, 66, 67, 68, 69, 70, 71, 72, 73, 74, 75, 76, 77, 78, 79, 80, 81, 82, 83, 84, 85, 86, 87, 88, 89, 90]) 1225), ent P (tx [100, 105, 103, 105, 116, 115]) 1228 (.str (tx [48, 49, 50, 51, 52, 53, 54, 55, 56, 57]) 1227), ent P (tx [99]) 1239 (.int (9) 1725)]⟩ 19), ⟨[]⟩⟩
noncomputable def o24_p12 (P : Params) : Obj := (oL (els (bel 95) 0 256) 0)
noncomputable def o28_p12 (P : Params) : Obj := ⟨(.type "bytes_iterator"), none, (.fields ⟨[.none, (.int (95) 0)]⟩), ⟨[]⟩⟩
noncomputable def o30_p12 (P : Params) : Obj := ⟨(.type "StopIteration"), none, (.fields ⟨[(.ref 29), .none, .none, .none, (.bool false), .none]⟩), ⟨[]⟩⟩
noncomputable def o3_fin (P : Params) : Obj := ⟨(.type "dict"), none, (.dict ⟨[ent P (tx [95, 95, 110, 97, 109, 101, 95, 95]) 165 (.str (tx [108, 97, 119, 95, 100, 109, 48, 48, 57, 54, 95, 48, 51]) 1763), ent P (tx [95, 95, 100, 111, 99, 95, 95]) 166 .none, ent P (tx [95, 95, 112, 97, 99, 107, 97, 103, 101, 95, 95]) 167 .none, ent P (tx [95, 95, 108, 111, 97, 100, 101, 114, 95, 95]) 168 (.builtin "__main__.__loader__#opaque"), ent P (tx [95, 95, 115, 112, 101, 99, 95, 95]) 169 .none, ent P (tx [95, 95, 97, 110, 110, 111, 116, 97, 116, 105, 111, 110, 115, 95, 95]) 170 (.ref 6), ent P (tx [95, 95, 98, 117, 105, 108, 116, 105, 110, 115, 95, 95]) 171 (.ref 4), ent P (tx [95, 95, 102, 105, 108, 101, 95, 95]) 173 (.str (tx [47, 99, 108, 97, 105, 109, 47, 99, 117, 116, 46, 112, 121]) 172), ent P (tx [95, 95, 99, 97, 99, 104, 101, 100, 95, 95]) 174 .none, ent P (tx [67, 82, 76, 70]) 188 (.str (tx [13, 10]) 187), ent P (tx [78, 76]) 190 (.str (tx [10]) 189), ent P (tx [95, 81, 85, 79, 80, 82, 73, 95, 77, 65, 80]) 1218 (.ref 17), ent P (tx [95, 81, 85, 79, 80, 82, 73, 95, 72, 69, 65, 68, 69, 82, 95, 77, 65, 80]) 1219 (.ref 22), ent P (tx [95, 81, 85, 79, 80, 82, 73, 95, 66, 79, 68, 89, 95, 77, 65, 80]) 1220 (.ref 24), ent P (tx [97, 115, 99, 105, 105, 95, 108, 111, 119, 101, 114, 99, 97, 115, 101]) 1222 (.str (tx [97, 98, 99, 100, 101, 102, 103, 104, 105, 106, 107, 108, 109, 110, 111, 112, 113, 114, 115, 116, 117, 118, 119, 120, 121, 122]) 1221), ent P (tx [97, 115, 99, 105, 105, 95, 117, 112, 112, 101, 114, 99, 97, 115, 101]) 1224 (.str (tx [65, 66, 67, 68, 69, 70, 71, 72, 73, 74, 75, 76, 77, 78, 79, 80, 81, 82, 83, 84, 85, 86, 87, 88, 89, 90]) 1223), ent P (tx [97, 115, 99, 105, 105, 95, 108, 101, 116, 116, 101, 114, 115]) 1226 (.str (tx [97, 98, 99, 100, 101, 102, 103, 104, 105, 106, 107, 108, 109, 110, 111, 112, 113, 114, 115, 116, 117, 118, 119, 120, 121, 122, 65, 66, 67, 68, 69, 70, 71, 72, 73, 74, 75, 76, 77, 78, 79, 80, 81, 82, 83, 84, 85, 86, 87, 88, 89, 90]) 1225), ent P (tx [100, 105, 103, 105, 116, 115]) 1228 (.str (tx [48, 49, 50, 51, 52, 53, 54, 55, 56, 57]) 1227), ent P (tx [113, 117, 111, 116, 101]) 1734 (.ref 37), ent P (tx [95, 81, 85, 79, 80, 82, 73, 95, 66, 79, 68, 89, 95, 69, 78, 67, 79, 68, 69, 95, 77, 65, 80]) 1735 (.ref 39), ent P (tx [98, 111, 100, 121, 95, 101, 110, 99, 111, 100, 101]) 1762 (.ref 50), ent P (tx [95, 108, 97, 119, 95, 116, 101, 120, 116]) 1774 (.ref 57), ent P (tx [95, 108, 97, 119, 95, 108, 105, 110, 101, 115]) 1783 (.ref 64), ent P (tx [95, 108, 97, 119, 95, 112, 105, 101, 99, 101]) 1791 (.ref 71), ent P (tx [95, 108, 97, 119, 95, 114, 111, 119, 115]) 1797 (.ref 76), ent P (tx [108, 97, 119]) 1803 (.ref 81)]⟩ 28), ⟨[]⟩⟩
noncomputable def o12_fin (P : Params) : Obj := ⟨.none, none, (.fields ⟨[(.int (16) 0), (.int (0) 0), (.ref 36), (.int (22) 0), (.int (0) 0), (.ref 49), (.int (61) 0), (.int (0) 0), (.ref 56), (.int (71) 0), (.int (0) 0), (.ref 63), (.int (77) 0), (.int (0) 0), (.ref 70), (.int (82) 0), (.int (0) 0), (.ref 75), (.int (99) 0), (.int (0) 0), (.ref 80)]⟩), ⟨[]⟩⟩
noncomputable def o33_fin (P : Params) : Obj := ⟨(.type "tuple"), none, (.seq ⟨[(.str (tx [99]) 1731)]⟩ 0), ⟨[]⟩⟩
noncomputable def o35_fin (P : Params) : Obj := ⟨.none, none, (.func (fdOf (stL 13 1).head? (tx [113, 117, 111, 116, 101]) 0 .none .none .none .none none .none .none 0)), ⟨[]⟩⟩
noncomputable def o36_fin (P : Params) : Obj := ⟨(.type "code"), none, (.fields ⟨[(.str (tx [113, 117, 111, 116, 101]) 1728), (.str (tx [113, 117, 111, 116, 101]) 1729), (.str (tx [47, 99, 108, 97, 105, 109, 47, 99, 117, 116, 46, 112, 121]) 1730), (.int (16) 0), (.int (1) 0), (.int (0) 0), (.int (0) 0), (.int (3) 0), (.ref 31), (.bool true), (.int (181) 0), (.ref 32), .none, (.ref 33), (.ref 34), (.ref 35), (.int (1732) 0), (.int (16) 0), (.str (tx [47, 99, 108, 97, 105, 109, 47, 99, 117, 116, 46, 112, 121]) 1733)]⟩), ⟨[]⟩⟩
noncomputable def o37_fin (P : Params) : Obj := ⟨(.type "function"), none, (.func (fdOf (stL 13 1).head? (tx [113, 117, 111, 116, 101]) 3 .none .none .none (.str (tx [99, 112, 121, 51, 49, 51, 46, 101, 109, 97, 105, 108, 46, 113, 117, 111, 112, 114, 105, 109, 105, 109, 101]) 1229) none (.ref 36) .none 0)), ⟨[]⟩⟩
noncomputable def o39_fin (P : Params) : Obj := (oL (els (put (put (bel 95) 10 (.str (tx [10]) 1742)) 13 (.str (tx [13]) 1739)) 0 256) 0)
noncomputable def o40_fin (P : Params) : Obj := ⟨(.type "bytes_iterator"), none, (.fields ⟨[.none, (.int (2) 0)]⟩), ⟨[]⟩⟩
noncomputable def o42_fin (P : Params) : Obj := ⟨(.type "StopIteration"), none, (.fields ⟨[(.ref 41), .none, .none, .none, (.bool false), .none]⟩), ⟨[]⟩⟩
noncomputable def o43_fin (P : Params) : Obj := ⟨(.type "tuple"), none, (.seq ⟨[(.int (76) 1743), (.str (tx [10]) 189)]⟩ 0), ⟨[]⟩⟩
noncomputable def o46_fin (P : Params) : Obj := ⟨(.type "tuple"), none, (.seq ⟨[(.str (tx [98, 111, 100, 121]) 1747), (.str (tx [109, 97, 120, 108, 105, 110, 101, 108, 101, 110]) 1748), (.str (tx [101, 111, 108]) 1749), (.str (tx [115, 111, 102, 116, 95, 98, 114, 101, 97, 107]) 1750), (.str (tx [109, 97, 120, 108, 105, 110, 101, 108, 101, 110, 49]) 1751), (.str (tx [101, 110, 99, 111, 100, 101, 100, 95, 98, 111, 100, 121]) 1752), (.str (tx [97, 112, 112, 101, 110, 100]) 1753), (.str (tx [108, 105, 110, 101]) 1754), (.str (tx [115, 116, 97, 114, 116]) 1755), (.str (tx [108, 97, 115, 116, 115, 116, 97, 114, 116]) 1756), (.str (tx [115, 116, 111, 112]) 1757), (.str (tx [114, 111, 111, 109]) 1758), (.str (tx [113]) 1759)]⟩ 0), ⟨[]⟩⟩
noncomputable def o48_fin (P : Params) : Obj := ⟨.none, none, (.func (fdOf (stL 17 1).head? (tx [98, 111, 100, 121, 95, 101, 110, 99, 111, 100, 101]) 0 .none .none .none .none none .none .none 0)), ⟨[]⟩⟩
noncomputable def o49_fin (P : Params) : Obj := ⟨(.type "code"), none, (.fields ⟨[(.str (tx [98, 111, 100, 121, 95, 101, 110, 99, 111, 100, 101]) 1744), (.str (tx [98, 111, 100, 121, 95, 101, 110, 99, 111, 100, 101]) 1745), (.str (tx [47, 99, 108, 97, 105, 109, 47, 99, 117, 116, 46, 112, 121]) 1746), (.int (22) 0), (.int (3) 0), (.int (0) 0), (.int (0) 0), (.int (3) 0), (.ref 44), (.bool true), (.int (181) 0), (.ref 45), .none, (.ref 46), (.ref 47), (.ref 48), (.int (1760) 0), (.int (22) 0), (.str (tx [47, 99, 108, 97, 105, 109, 47, 99, 117, 116, 46, 112, 121]) 1761)]⟩), ⟨[]⟩⟩
noncomputable def o50_fin (P : Params) : Obj := ⟨(.type "function"), none, (.func (fdOf (stL 17 1).head? (tx [98, 111, 100, 121, 95, 101, 110, 99, 111, 100, 101]) 3 (.ref 43) .none .none (.str (tx [99, 112, 121, 51, 49, 51, 46, 101, 109, 97, 105, 108, 46, 113, 117, 111, 112, 114, 105, 109, 105, 109, 101]) 1229) none (.ref 49) .none 0)), ⟨[]⟩⟩
noncomputable def o53_fin (P : Params) : Obj := ⟨(.type "tuple"), none, (.seq ⟨[(.str (tx [110, 117, 109, 98, 101, 114]) 1768), (.str (tx [115, 105, 103, 110, 115]) 1769), (.str (tx [114, 101, 115, 116]) 1770), (.str (tx [102, 105, 103, 117, 114, 101]) 1771)]⟩ 0), ⟨[]⟩⟩
noncomputable def o55_fin (P : Params) : Obj := ⟨.none, none, (.func (fdOf (stL 19 1).head? (tx [95, 108, 97, 119, 95, 116, 101, 120, 116]) 0 .none .none .none .none none .none .none 0)), ⟨[]⟩⟩
noncomputable def o56_fin (P : Params) : Obj := ⟨(.type "code"), none, (.fields ⟨[(.str (tx [95, 108, 97, 119, 95, 116, 101, 120, 116]) 1765), (.str (tx [95, 108, 97, 119, 95, 116, 101, 120, 116]) 1766), (.str (tx [47, 99, 108, 97, 105, 109, 47, 99, 117, 116, 46, 112, 121]) 1767), (.int (61) 0), (.int (1) 0), (.int (0) 0), (.int (0) 0), (.int (3) 0), (.ref 51), (.bool true), (.int (181) 0), (.ref 52), .none, (.ref 53), (.ref 54), (.ref 55), (.int (1772) 0), (.int (61) 0), (.str (tx [47, 99, 108, 97, 105, 109, 47, 99, 117, 116, 46, 112, 121]) 1773)]⟩), ⟨[]⟩⟩
noncomputable def o57_fin (P : Params) : Obj := ⟨(.type "function"), none, (.func (fdOf (stL 19 1).head? (tx [95, 108, 97, 119, 95, 116, 101, 120, 116]) 3 .none .none .none (.str (tx [108, 97, 119, 95, 100, 109, 48, 48, 57, 54, 95, 48, 51]) 1763) none (.ref 56) .none 0)), ⟨[]⟩⟩
noncomputable def o60_fin (P : Params) : Obj := ⟨(.type "tuple"), none, (.seq ⟨[(.str (tx [116, 101, 120, 116]) 1778), (.str (tx [112, 108, 97, 105, 110]) 1779), (.str (tx [108, 105, 110, 101, 115]) 1780)]⟩ 0), ⟨[]⟩⟩
noncomputable def o62_fin (P : Params) : Obj := ⟨.none, none, (.func (fdOf (stL 20 1).head? (tx [95, 108, 97, 119, 95, 108, 105, 110, 101, 115]) 0 .none .none .none .none none .none .none 0)), ⟨[]⟩⟩
noncomputable def o63_fin (P : Params) : Obj := ⟨(.type "code"), none, (.fields ⟨[(.str (tx [95, 108, 97, 119, 95, 108, 105, 110, 101, 115]) 1775), (.str (tx [95, 108, 97, 119, 95, 108, 105, 110, 101, 115]) 1776), (.str (tx [47, 99, 108, 97, 105, 109, 47, 99, 117, 116, 46, 112, 121]) 1777), (.int (71) 0), (.int (1) 0), (.int (0) 0), (.int (0) 0), (.int (3) 0), (.ref 58), (.bool true), (.int (181) 0), (.ref 59), .none, (.ref 60), (.ref 61), (.ref 62), (.int (1781) 0), (.int (71) 0), (.str (tx [47, 99, 108, 97, 105, 109, 47, 99, 117, 116, 46, 112, 121]) 1782)]⟩), ⟨[]⟩⟩
noncomputable def o64_fin (P : Params) : Obj := ⟨(.type "function"), none, (.func (fdOf (stL 20 1).head? (tx [95, 108, 97, 119, 95, 108, 105, 110, 101, 115]) 3 .none .none .none (.str (tx [108, 97, 119, 95, 100, 109, 48, 48, 57, 54, 95, 48, 51]) 1763) none (.ref 63) .none 0)), ⟨[]⟩⟩
noncomputable def o67_fin (P : Params) : Obj := ⟨(.type "tuple"), none, (.seq ⟨[(.str (tx [115, 105, 103, 110]) 1787), (.str (tx [110, 117, 109, 98, 101, 114]) 1788)]⟩ 0), ⟨[]⟩⟩
noncomputable def o69_fin (P : Params) : Obj := ⟨.none, none, (.func (fdOf (stL 21 1).head? (tx [95, 108, 97, 119, 95, 112, 105, 101, 99, 101]) 0 .none .none .none .none none .none .none 0)), ⟨[]⟩⟩
noncomputable def o70_fin (P : Params) : Obj := ⟨(.type "code"), none, (.fields ⟨[(.str (tx [95, 108, 97, 119, 95, 112, 105, 101, 99, 101]) 1784), (.str (tx [95, 108, 97, 119, 95, 112, 105, 101, 99, 101]) 1785), (.str (tx [47, 99, 108, 97, 105, 109, 47, 99, 117, 116, 46, 112, 121]) 1786), (.int (77) 0), (.int (1) 0), (.int (0) 0), (.int (0) 0), (.int (3) 0), (.ref 65), (.bool true), (.int (181) 0), (.ref 66), .none, (.ref 67), (.ref 68), (.ref 69), (.int (1789) 0), (.int (77) 0), (.str (tx [47, 99, 108, 97, 105, 109, 47, 99, 117, 116, 46, 112, 121]) 1790)]⟩), ⟨[]⟩⟩
noncomputable def o71_fin (P : Params) : Obj := ⟨(.type "function"), none, (.func (fdOf (stL 21 1).head? (tx [95, 108, 97, 119, 95, 112, 105, 101, 99, 101]) 3 .none .none .none (.str (tx [108, 97, 119, 95, 100, 109, 48, 48, 57, 54, 95, 48, 51]) 1763) none (.ref 70) .none 0)), ⟨[]⟩⟩
noncomputable def o74_fin (P : Params) : Obj := ⟨.none, none, (.func (fdOf (stL 22 1).head? (tx [95, 108, 97, 119, 95, 114, 111, 119, 115]) 0 .none .none .none .none none .none .none 0)), ⟨[]⟩⟩
noncomputable def o75_fin (P : Params) : Obj := ⟨(.type "code"), none, (.fields ⟨[(.str (tx [95, 108, 97, 119, 95, 114, 111, 119, 115]) 1792), (.str (tx [95, 108, 97, 119, 95, 114, 111, 119, 115]) 1793), (.str (tx [47, 99, 108, 97, 105, 109, 47, 99, 117, 116, 46, 112, 121]) 1794), (.int (82) 0), (.int (2) 0), (.int (0) 0), (.int (0) 0), (.int (3) 0), (.ref 72), (.bool true), (.int (181) 0), (.ref 73), .none, .none, .none, (.ref 74), (.int (1795) 0), (.int (82) 0), (.str (tx [47, 99, 108, 97, 105, 109, 47, 99, 117, 116, 46, 112, 121]) 1796)]⟩), ⟨[]⟩⟩
noncomputable def o76_fin (P : Params) : Obj := ⟨(.type "function"), none, (.func (fdOf (stL 22 1).head? (tx [95, 108, 97, 119, 95, 114, 111, 119, 115]) 3 .none .none .none (.str (tx [108, 97, 119, 95, 100, 109, 48, 48, 57, 54, 95, 48, 51]) 1763) none (.ref 75) .none 0)), ⟨[]⟩⟩
noncomputable def o79_fin (P : Params) : Obj := ⟨.none, none, (.func (fdOf (stL 23 1).head? (tx [108, 97, 119]) 0 .none .none .none .none none .none .none 0)), ⟨[]⟩⟩
noncomputable def o80_fin (P : Params) : Obj := ⟨(.type "code"), none, (.fields ⟨[(.str (tx [108, 97, 119]) 1798), (.str (tx [108, 97, 119]) 1799), (.str (tx [47, 99, 108, 97, 105, 109, 47, 99, 117, 116, 46, 112, 121]) 1800), (.int (99) 0), (.int (1) 0), (.int (0) 0), (.int (0) 0), (.int (3) 0), (.ref 77), (.bool true), (.int (181) 0), (.ref 78), .none, .none, .none, (.ref 79), (.int (1801) 0), (.int (99) 0), (.str (tx [47, 99, 108, 97, 105, 109, 47, 99, 117, 116, 46, 112, 121]) 1802)]⟩), ⟨[]⟩⟩
noncomputable def o81_fin (P : Params) : Obj := ⟨(.type "function"), none, (.func (fdOf (stL 23 1).head? (tx [108, 97, 119]) 3 .none .none .none (.str (tx [108, 97, 119, 95, 100, 109, 48, 48, 57, 54, 95, 48, 51]) 1763) none (.ref 80) .none 0)), ⟨[]⟩⟩
noncomputable def o3_p1 (P : Params) : Obj := ⟨(.type "dict"), none, (.dict ⟨[ent P (tx [95, 95, 110, 97, 109, 101, 95, 95]) 165 (.str (tx [95, 95, 109, 97, 105, 110, 95, 95]) 164), ent P (tx [95, 95, 100, 111, 99, 95, 95]) 166 .none, ent P (tx [95, 95, 112, 97, 99, 107, 97, 103, 101, 95, 95]) 167 .none, ent P (tx [95, 95, 108, 111, 97, 100, 101, 114, 95, 95]) 168 (.builtin "__main__.__loader__#opaque"), ent P (tx [95, 95, 115, 112, 101, 99, 95, 95]) 169 .none, ent P (tx [95, 95, 97, 110, 110, 111, 116, 97, 116, 105, 111, 110, 115, 95, 95]) 170 (.ref 6), ent P (tx [95, 95, 98, 117, 105, 108, 116, 105, 110, 115, 95, 95]) 171 (.ref 4), ent P (tx [95, 95, 102, 105, 108, 101, 95, 95]) 173 (.str (tx [47, 99, 108, 97, 105, 109, 47, 99, 117, 116, 46, 112, 121]) 172), ent P (tx [95, 95, 99, 97, 99, 104, 101, 100, 95, 95]) 174 .none, ent P (tx [67, 82, 76, 70]) 188 (.str (tx [13, 10]) 187), ent P (tx [78, 76]) 190 (.str (tx [10]) 189)]⟩ 11), ⟨[]⟩⟩
noncomputable def treeSb (P : Params) : BT := (.node (boot_o_0 P) (.node (boot_o_1 P) (.node (boot_o_3 P) (.node (boot_o_7 P) .nil .nil) (.node (o11_block P) .nil .nil)) (.node (boot_o_5 P) (.node (boot_o_9 P) .nil .nil) (.node (o13_block P) .nil .nil))) (.node (boot_o_2 P) (.node (boot_o_4 P) (.node (boot_o_8 P) .nil .nil) (.node (o12_block P) .nil .nil)) (.node (boot_o_6 P) (.node (boot_o_10 P) .nil .nil) (.node (o14_block P) .nil .nil))))
noncomputable def treeS0 (P : Params) : BT := (.node (boot_o_0 P) (.node (boot_o_1 P) (.node (o3_p2 P) (.node (boot_o_7 P) (.node (o15_p2 P) .nil .nil) .nil) (.node (o11_block P) (.node (o11_block P) .nil .nil) .nil)) (.node (boot_o_5 P) (.node (boot_o_9 P) (.node (o17_p2 P) .nil .nil) .nil) (.node (o13_block P) .nil .nil))) (.node (boot_o_2 P) (.node (boot_o_4 P) (.node (boot_o_8 P) (.node (o16_p2 P) .nil .nil) .nil) (.node (o12_block P) (.node (o20_p2 P) .nil .nil) .nil)) (.node (boot_o_6 P) (.node (boot_o_10 P) (.node (o18_p2 P) .nil .nil) .nil) (.node (o14_block P) .nil .nil))))
noncomputable def treeS7 (P : Params) : BT := (.node (boot_o_0 P) (.node (boot_o_1 P) (.node (o3_p9 P) (.node (boot_o_7 P) (.node (o15_p2 P) .nil .nil) (.node (o21_p9 P) .nil .nil)) (.node (o11_block P) (.node (o11_block P) .nil .nil) .nil)) (.node (boot_o_5 P) (.node (boot_o_9 P) (.node (o17_p2 P) .nil .nil) .nil) (.node (o13_block P) (.node (o21_p9 P) .nil .nil) .nil))) (.node (boot_o_2 P) (.node (boot_o_4 P) (.node (boot_o_8 P) (.node (o16_p2 P) .nil .nil) (.node (o22_p9 P) .nil .nil)) (.node (o12_block P) (.node (o20_p2 P) .nil .nil) .nil)) (.node (boot_o_6 P) (.node (boot_o_10 P) (.node (o18_p2 P) .nil .nil) .nil) (.node (o14_block P) (.node (o22_p9 P) .nil .nil) .nil))))
noncomputable def treeS8 (P : Params) : BT := (.node (boot_o_0 P) (.node (boot_o_1 P) (.node (o3_p10 P) (.node (boot_o_7 P) (.node (o15_p2 P) .nil .nil) (.node (o21_p9 P) .nil .nil)) (.node (o11_block P) (.node (o11_block P) .nil .nil) (.node (o27_p10 P) .nil .nil))) (.node (boot_o_5 P) (.node (boot_o_9 P) (.node (o17_p2 P) .nil .nil) (.node (o25_p10 P) .nil .nil)) (.node (o13_block P) (.node (o21_p9 P) .nil .nil) .nil))) (.node (boot_o_2 P) (.node (boot_o_4 P) (.node (boot_o_8 P) (.node (o16_p2 P) .nil .nil) (.node (o22_p9 P) .nil .nil)) (.node (o12_block P) (.node (o20_p2 P) .nil .nil) .nil)) (.node (boot_o_6 P) (.node (boot_o_10 P) (.node (o18_p2 P) .nil .nil) (.node (o11_block P) .nil .nil)) (.node (o14_block P) (.node (o22_p10 P) .nil .nil) .nil))))
noncomputable def treeS9 (P : Params) : BT := (.node (boot_o_0 P) (.node (boot_o_1 P) (.node (o3_p10 P) (.node (boot_o_7 P) (.node (o15_p2 P) .nil .nil) (.node (o21_p9 P) .nil .nil)) (.node (o11_block P) (.node (o11_block P) .nil .nil) (.node (o27_p10 P) .nil .nil))) (.node (boot_o_5 P) (.node (boot_o_9 P) (.node (o17_p2 P) .nil .nil) (.node (o25_p10 P) .nil .nil)) (.node (o13_block P) (.node (o21_p9 P) .nil .nil) .nil))) (.node (boot_o_2 P) (.node (boot_o_4 P) (.node (boot_o_8 P) (.node (o16_p2 P) .nil .nil) (.node (o22_p9 P) .nil .nil)) (.node (o12_block P) (.node (o20_p2 P) .nil .nil) .nil)) (.node (boot_o_6 P) (.node (boot_o_10 P) (.node (o18_p2 P) .nil .nil) (.node (o11_block P) .nil .nil)) (.node (o14_block P) (.node (o22_p11 P) .nil .nil) .nil))))
noncomputable def treeS10 (P : Params) : BT := (.node (boot_o_0 P) (.node (boot_o_1 P) (.node (o3_p12 P) (.node (boot_o_7 P) (.node (o15_p2 P) .nil .nil) (.node (o21_p9 P) .nil .nil)) (.node (o11_block P) (.node (o11_block P) .nil .nil) (.node (o27_p10 P) .nil .nil))) (.node (boot_o_5 P) (.node (boot_o_9 P) (.node (o17_p2 P) .nil .nil) (.node (o25_p10 P) .nil .nil)) (.node (o13_block P) (.node (o21_p9 P) .nil .nil) (.node (o11_block P) .nil .nil)))) (.node (boot_o_2 P) (.node (boot_o_4 P) (.node (boot_o_8 P) (.node (o16_p2 P) .nil .nil) (.node (o24_p12 P) .nil .nil)) (.node (o12_block P) (.node (o20_p2 P) .nil .nil) (.node (o28_p12 P) .nil .nil))) (.node (boot_o_6 P) (.node (boot_o_10 P) (.node (o18_p2 P) .nil .nil) (.node (o11_block P) .nil .nil)) (.node (o14_block P) (.node (o22_p11 P) .nil .nil) (.node (o30_p12 P) .nil .nil)))))
noncomputable def treeSF (P : Params) : BT := (.node (boot_o_0 P) (.node (boot_o_1 P) (.node (o3_fin P) (.node (boot_o_7 P) (.node (o15_p2 P) (.node (o11_block P) (.node (o63_fin P) .nil .nil) .nil) (.node (o11_block P) (.node (o79_fin P) .nil .nil) .nil)) (.node (o21_p9 P) (.node (o39_fin P) (.node (o71_fin P) .nil .nil) .nil) (.node (o55_fin P) .nil .nil))) (.node (o11_block P) (.node (o11_block P) (.node (o35_fin P) (.node (o67_fin P) .nil .nil) .nil) (.node (o11_block P) .nil .nil)) (.node (o27_p10 P) (.node (o43_fin P) (.node (o75_fin P) .nil .nil) .nil) (.node (o12_block P) .nil .nil)))) (.node (boot_o_5 P) (.node (boot_o_9 P) (.node (o17_p2 P) (.node (o33_fin P) (.node (o11_block P) .nil .nil) .nil) (.node (o49_fin P) (.node (o81_fin P) .nil .nil) .nil)) (.node (o25_p10 P) (.node (o11_block P) (.node (o12_block P) .nil .nil) .nil) (.node (o57_fin P) .nil .nil))) (.node (o13_block P) (.node (o21_p9 P) (.node (o37_fin P) (.node (o69_fin P) .nil .nil) .nil) (.node (o53_fin P) .nil .nil)) (.node (o11_block P) (.node (o12_block P) (.node (o11_block P) .nil .nil) .nil) (.node (o11_block P) .nil .nil))))) (.node (boot_o_2 P) (.node (boot_o_4 P) (.node (boot_o_8 P) (.node (o16_p2 P) (.node (o12_block P) (.node (o64_fin P) .nil .nil) .nil) (.node (o48_fin P) (.node (o80_fin P) .nil .nil) .nil)) (.node (o24_p12 P) (.node (o40_fin P) (.node (o11_block P) .nil .nil) .nil) (.node (o56_fin P) .nil .nil))) (.node (o12_fin P) (.node (o20_p2 P) (.node (o36_fin P) (.node (o11_block P) .nil .nil) .nil) (.node (o12_block P) .nil .nil)) (.node (o28_p12 P) (.node (o11_block P) (.node (o76_fin P) .nil .nil) .nil) (.node (o60_fin P) .nil .nil)))) (.node (boot_o_6 P) (.node (boot_o_10 P) (.node (o18_p2 P) (.node (o11_block P) (.node (o12_block P) .nil .nil) .nil) (.node (o50_fin P) .nil .nil)) (.node (o11_block P) (.node (o42_fin P) (.node (o74_fin P) .nil .nil) .nil) (.node (o11_block P) .nil .nil))) (.node (o14_block P) (.node (o22_p11 P) (.node (o21_p9 P) (.node (o70_fin P) .nil .nil) .nil) (.node (o11_block P) .nil .nil)) (.node (o30_p12 P) (.node (o46_fin P) (.node (o12_block P) .nil .nil) .nil) (.node (o62_fin P) .nil .nil))))))
noncomputable def treeSa (P : Params) : BT := (.node (boot_o_0 P) (.node (boot_o_1 P) (.node (o3_p1 P) (.node (boot_o_7 P) .nil .nil) (.node (o11_block P) .nil .nil)) (.node (boot_o_5 P) (.node (boot_o_9 P) .nil .nil) (.node (o13_block P) .nil .nil))) (.node (boot_o_2 P) (.node (boot_o_4 P) (.node (boot_o_8 P) .nil .nil) (.node (o12_block P) .nil .nil)) (.node (boot_o_6 P) (.node (boot_o_10 P) .nil .nil) (.node (o14_block P) .nil .nil))))
noncomputable def treeC (P : Params) (k : Nat) : BT := (.node (boot_o_0 P) (.node (boot_o_1 P) (.node (o3_p1 P) (.node (boot_o_7 P) (.node (o15_p2 P) .nil .nil) .nil) (.node (o11_block P) .nil .nil)) (.node (boot_o_5 P) (.node (boot_o_9 P) (.node (oL (els hexv 0 k) k) .nil .nil) .nil) (.node (o13_block P) .nil .nil))) (.node (boot_o_2 P) (.node (boot_o_4 P) (.node (boot_o_8 P) (.node (oI k) .nil .nil) .nil) (.node (o12_block P) .nil .nil)) (.node (boot_o_6 P) (.node (boot_o_10 P) (.node (oD P k) .nil .nil) .nil) (.node (o14_block P) .nil .nil))))
noncomputable def treeH (P : Params) (j : Nat) : BT := (.node (boot_o_0 P) (.node (boot_o_1 P) (.node (o3H P j) (.node (boot_o_7 P) (.node (o15_p2 P) .nil .nil) (.node (o21_p9 P) .nil .nil)) (.node (o11_block P) (.node (o11_block P) .nil .nil) .nil)) (.node (boot_o_5 P) (.node (boot_o_9 P) (.node (o17_p2 P) .nil .nil) (.node (o25H j) .nil .nil)) (.node (o13_block P) (.node (o21_p9 P) .nil .nil) .nil))) (.node (boot_o_2 P) (.node (boot_o_4 P) (.node (boot_o_8 P) (.node (o16_p2 P) .nil .nil) (.node (o22_p9 P) .nil .nil)) (.node (o12_block P) (.node (o20_p2 P) .nil .nil) .nil)) (.node (boot_o_6 P) (.node (boot_o_10 P) (.node (o18_p2 P) .nil .nil) .nil) (.node (o14_block P) (.node (oL (els (hel j) 0 256) 0) .nil .nil) .nil))))
noncomputable def treeT (P : Params) (j : Nat) : BT := (.node (boot_o_0 P) (.node (boot_o_1 P) (.node (o3B P j) (.node (boot_o_7 P) (.node (o15_p2 P) .nil .nil) (.node (o21_p9 P) .nil .nil)) (.node (o11_block P) (.node (o11_block P) .nil .nil) (.node (o27_p10 P) .nil .nil))) (.node (boot_o_5 P) (.node (boot_o_9 P) (.node (o17_p2 P) .nil .nil) (.node (o25_p10 P) .nil .nil)) (.node (o13_block P) (.node (o21_p9 P) .nil .nil) .nil))) (.node (boot_o_2 P) (.node (boot_o_4 P) (.node (boot_o_8 P) (.node (o16_p2 P) .nil .nil) (.node (oL (els (bel j) 0 256) 0) .nil .nil)) (.node (o12_block P) (.node (o20_p2 P) .nil .nil) (.node (o28B j) .nil .nil))) (.node (boot_o_6 P) (.node (boot_o_10 P) (.node (o18_p2 P) .nil .nil) (.node (o11_block P) .nil .nil)) (.node (o14_block P) (.node (o22_p11 P) .nil .nil) .nil))))
noncomputable def Sb (w : World) (os : OsState) : SharedT := ⟨treeSb w.params, 15, {}, ⟨[]⟩, boot_drawn, 187, os⟩
noncomputable def S0 (w : World) (os : OsState) : SharedT := ⟨treeS0 w.params, 21, {}, ⟨[]⟩, boot_drawn, 1219, os⟩
noncomputable def S7 (w : World) (os : OsState) : SharedT := ⟨treeS7 w.params, 25, {}, ⟨[]⟩, boot_drawn, 1231, os⟩
noncomputable def S8 (w : World) (os : OsState) : SharedT := ⟨treeS8 w.params, 28, {}, ⟨[]⟩, boot_drawn, 1439, os⟩
noncomputable def S9 (w : World) (os : OsState) : SharedT := ⟨treeS9 w.params, 28, {}, ⟨[]⟩, boot_drawn, 1442, os⟩
noncomputable def S10 (w : World) (os : OsState) : SharedT := ⟨treeS10 w.params, 31, {}, ⟨[]⟩, boot_drawn, 1728, os⟩
noncomputable def SF (w : World) (os : OsState) : SharedT := ⟨treeSF w.params, 82, {}, ⟨[]⟩, boot_drawn, 1804, os⟩
noncomputable def Sa (w : World) (os : OsState) : SharedT := ⟨treeSa w.params, 15, {}, ⟨[]⟩, boot_drawn, 191, os⟩
noncomputable def SC (k : Nat) (w : World) (os : OsState) : SharedT := ⟨treeC w.params k, 19, {}, ⟨[]⟩, boot_drawn, 194 + 4 * k, os⟩
noncomputable def SH (j : Nat) (w : World) (os : OsState) : SharedT := ⟨treeH w.params j, 26, {}, ⟨[]⟩, boot_drawn, 1238 + 3 * j, os⟩
noncomputable def ST (j : Nat) (w : World) (os : OsState) : SharedT := ⟨treeT w.params j, 29, {}, ⟨[]⟩, boot_drawn, 1443 + 3 * j, os⟩
noncomputable def env : Env := { scope := qw.main.scope, locals := mainNs, globals := mainNs, cells := [], code := .ref 13, frame := some 14 }
noncomputable def cB : Code := .body (behindTheImports qw) env
noncomputable def bF : List Frame := [topFrame ⟨0, 0, 0, 0⟩]
noncomputable def pc (i n : Nat) (pos : Pos) : Thread := piecesOf (stL i n) env cB pos bF
def thr (d : Thread) (x : Option (SharedT × Thread)) : Thread := match x with | some (_, t) => t | none => d
abbrev ann : Option Value := some (.ref 6)
noncomputable def fixW (w : World) : World := (w.withFollow "special-get-raises" false).withFollow "comprehension-iter-twice" true
noncomputable def wC : Thread := pc 2 1 ⟨2, 0, 2, 2⟩
noncomputable def wH : Thread := pc 10 1 ⟨10, 0, 10, 8⟩
noncomputable def wT : Thread := pc 12 1 ⟨13, 0, 13, 28⟩
noncomputable def TC (w : World) (os : OsState) : Thread := thr wC (tSeg tTb qw (fixW w) 11 ann 1 79 (Sa (fixW w) os) wC)
noncomputable def TH (w : World) (os : OsState) : Thread := thr wH (tSeg tTb qw (fixW w) 11 ann 1 89 (S7 (fixW w) os) wH)
noncomputable def TT (w : World) (os : OsState) : Thread := thr wT (tSeg tTb qw (fixW w) 11 ann 1 55 (S9 (fixW w) os) wT)
theorem cs_false_false (w : World) (os : OsState) : tSeg tTb qw ((w.withFollow "special-get-raises" false).withFollow "comprehension-iter-twice" false) 11 ann 1 89 (Sa ((w.withFollow "special-get-raises" false).withFollow "comprehension-iter-twice" false) os) wC = some (SC 1 ((w.withFollow "special-get-raises" false).withFollow "comprehension-iter-twice" false) os, TC ((w.withFollow "special-get-raises" false).withFollow "comprehension-iter-twice" false) os) := by kernel_rfl
theorem cs_false_true (w : World) (os : OsState) : tSeg tTb qw ((w.withFollow "special-get-raises" false).withFollow "comprehension-iter-twice" true) 11 ann 1 79 (Sa ((w.withFollow "special-get-raises" false).withFollow "comprehension-iter-twice" true) os) wC = some (SC 1 ((w.withFollow "special-get-raises" false).withFollow "comprehension-iter-twice" true) os, TC ((w.withFollow "special-get-raises" false).withFollow "comprehension-iter-twice" true) os) := by kernel_rfl
theorem cs_true_false (w : World) (os : OsState) : tSeg tTb qw ((w.withFollow "special-get-raises" true).withFollow "comprehension-iter-twice" false) 11 ann 1 89 (Sa ((w.withFollow "special-get-raises" true).withFollow "comprehension-iter-twice" false) os) wC = some (SC 1 ((w.withFollow "special-get-raises" true).withFollow "comprehension-iter-twice" false) os, TC ((w.withFollow "special-get-raises" true).withFollow "comprehension-iter-twice" false) os) := by kernel_rfl
theorem cs_true_true (w : World) (os : OsState) : tSeg tTb qw ((w.withFollow "special-get-raises" true).withFollow "comprehension-iter-twice" true) 11 ann 1 79 (Sa ((w.withFollow "special-get-raises" true).withFollow "comprehension-iter-twice" true) os) wC = some (SC 1 ((w.withFollow "special-get-raises" true).withFollow "comprehension-iter-twice" true) os, TC ((w.withFollow "special-get-raises" true).withFollow "comprehension-iter-twice" true) os) := by kernel_rfl
theorem hs_false (w : World) (os : OsState) : tSeg tTb qw (w.withFollow "special-get-raises" false) 11 ann 1 89 (S7 (w.withFollow "special-get-raises" false) os) wH = some (SH 1 (w.withFollow "special-get-raises" false) os, TH (w.withFollow "special-get-raises" false) os) := by kernel_rfl
theorem ts_false (w : World) (os : OsState) : tSeg tTb qw (w.withFollow "special-get-raises" false) 11 ann 1 55 (S9 (w.withFollow "special-get-raises" false) os) wT = some (ST 1 (w.withFollow "special-get-raises" false) os, TT (w.withFollow "special-get-raises" false) os) := by kernel_rfl
theorem fs_false (w : World) (os : OsState) : tRun tTb qw (w.withFollow "special-get-raises" false) 11 ann 1 379 (S10 (w.withFollow "special-get-raises" false) os) (pc 13 11 ⟨14, 9, 14, 110⟩) = some (.next, SF (w.withFollow "special-get-raises" false) os, cB, ⟨99, 0, 112, 49⟩) := by kernel_rfl
theorem hs_true (w : World) (os : OsState) : tSeg tTb qw (w.withFollow "special-get-raises" true) 11 ann 1 89 (S7 (w.withFollow "special-get-raises" true) os) wH = some (SH 1 (w.withFollow "special-get-raises" true) os, TH (w.withFollow "special-get-raises" true) os) := by kernel_rfl
theorem ts_true (w : World) (os : OsState) : tSeg tTb qw (w.withFollow "special-get-raises" true) 11 ann 1 55 (S9 (w.withFollow "special-get-raises" true) os) wT = some (ST 1 (w.withFollow "special-get-raises" true) os, TT (w.withFollow "special-get-raises" true) os) := by kernel_rfl
theorem fs_true (w : World) (os : OsState) : tRun tTb qw (w.withFollow "special-get-raises" true) 11 ann 1 379 (S10 (w.withFollow "special-get-raises" true) os) (pc 13 11 ⟨14, 9, 14, 110⟩) = some (.next, SF (w.withFollow "special-get-raises" true) os, cB, ⟨99, 0, 112, 49⟩) := by kernel_rfl
theorem as_ (w : World) (os : OsState) : tRun tTb qw w 11 ann 1 19 (Sb w os) (pc 0 2 ⟨0, 0, 0, 0⟩) = some (.next, Sa w os, cB, ⟨2, 0, 2, 2⟩) := by kernel_rfl
theorem g1 (w : World) (os : OsState) : tRun tTb qw w 11 ann 1 109 (S0 w os) (pc 3 7 ⟨3, 0, 3, 11⟩) = some (.next, S7 w os, cB, ⟨10, 0, 10, 8⟩) := by kernel_rfl
theorem g3 (w : World) (os : OsState) : tRun tTb qw w 11 ann 1 25 (S8 w os) (pc 11 1 ⟨11, 9, 11, 74⟩) = some (.next, S9 w os, cB, ⟨13, 0, 13, 28⟩) := by kernel_rfl
theorem ce (w : World) (os : OsState) : tRun tTb qw w 11 ann 1 28 (SC 256 w os) (TC w os) = some (.next, S0 w os, cB, ⟨3, 0, 3, 11⟩) := by kernel_rfl
theorem he (w : World) (os : OsState) : tRun tTb qw w 11 ann 1 18 (SH 67 w os) (TH w os) = some (.next, S8 w os, cB, ⟨11, 9, 11, 74⟩) := by kernel_rfl
theorem te (w : World) (os : OsState) : tRun tTb qw w 11 ann 1 18 (ST 95 w os) (TT w os) = some (.next, S10 w os, cB, ⟨14, 9, 14, 110⟩) := by kernel_rfl
end Mine

open PySem PySem.W PyProof.Rows
set_option Elab.async false
set_option maxRecDepth 100000
set_option maxHeartbeats 8000000
set_option linter.unusedVariables false
namespace Mine
theorem c0 (w : World) (os : OsState) : tSeg tTb qw w 11 ann 1 370 (SC 1 w os) (TC w os) = some (SC 11 w os, TC w os) := by kernel_rfl
theorem c1 (w : World) (os : OsState) : tSeg tTb qw w 11 ann 1 370 (SC 11 w os) (TC w os) = some (SC 21 w os, TC w os) := by kernel_rfl
theorem c2 (w : World) (os : OsState) : tSeg tTb qw w 11 ann 1 370 (SC 21 w os) (TC w os) = some (SC 31 w os, TC w os) := by kernel_rfl
theorem c3 (w : World) (os : OsState) : tSeg tTb qw w 11 ann 1 370 (SC 31 w os) (TC w os) = some (SC 41 w os, TC w os) := by kernel_rfl
theorem c4 (w : World) (os : OsState) : tSeg tTb qw w 11 ann 1 370 (SC 41 w os) (TC w os) = some (SC 51 w os, TC w os) := by kernel_rfl
theorem c5 (w : World) (os : OsState) : tSeg tTb qw w 11 ann 1 370 (SC 51 w os) (TC w os) = some (SC 61 w os, TC w os) := by kernel_rfl
theorem c6 (w : World) (os : OsState) : tSeg tTb qw w 11 ann 1 370 (SC 61 w os) (TC w os) = some (SC 71 w os, TC w os) := by kernel_rfl
theorem c7 (w : World) (os : OsState) : tSeg tTb qw w 11 ann 1 370 (SC 71 w os) (TC w os) = some (SC 81 w os, TC w os) := by kernel_rfl
theorem c8 (w : World) (os : OsState) : tSeg tTb qw w 11 ann 1 370 (SC 81 w os) (TC w os) = some (SC 91 w os, TC w os) := by kernel_rfl
theorem c9 (w : World) (os : OsState) : tSeg tTb qw w 11 ann 1 370 (SC 91 w os) (TC w os) = some (SC 101 w os, TC w os) := by kernel_rfl
theorem c10 (w : World) (os : OsState) : tSeg tTb qw w 11 ann 1 370 (SC 101 w os) (TC w os) = some (SC 111 w os, TC w os) := by kernel_rfl
theorem c11 (w : World) (os : OsState) : tSeg tTb qw w 11 ann 1 370 (SC 111 w os) (TC w os) = some (SC 121 w os, TC w os) := by kernel_rfl
theorem c12 (w : World) (os : OsState) : tSeg tTb qw w 11 ann 1 370 (SC 121 w os) (TC w os) = some (SC 131 w os, TC w os) := by kernel_rfl
theorem c13 (w : World) (os : OsState) : tSeg tTb qw w 11 ann 1 370 (SC 131 w os) (TC w os) = some (SC 141 w os, TC w os) := by kernel_rfl
theorem c14 (w : World) (os : OsState) : tSeg tTb qw w 11 ann 1 370 (SC 141 w os) (TC w os) = some (SC 151 w os, TC w os) := by kernel_rfl
theorem c15 (w : World) (os : OsState) : tSeg tTb qw w 11 ann 1 370 (SC 151 w os) (TC w os) = some (SC 161 w os, TC w os) := by kernel_rfl
theorem c16 (w : World) (os : OsState) : tSeg tTb qw w 11 ann 1 370 (SC 161 w os) (TC w os) = some (SC 171 w os, TC w os) := by kernel_rfl
theorem c17 (w : World) (os : OsState) : tSeg tTb qw w 11 ann 1 370 (SC 171 w os) (TC w os) = some (SC 181 w os, TC w os) := by kernel_rfl
theorem c18 (w : World) (os : OsState) : tSeg tTb qw w 11 ann 1 370 (SC 181 w os) (TC w os) = some (SC 191 w os, TC w os) := by kernel_rfl
theorem c19 (w : World) (os : OsState) : tSeg tTb qw w 11 ann 1 370 (SC 191 w os) (TC w os) = some (SC 201 w os, TC w os) := by kernel_rfl
theorem c20 (w : World) (os : OsState) : tSeg tTb qw w 11 ann 1 370 (SC 201 w os) (TC w os) = some (SC 211 w os, TC w os) := by kernel_rfl
theorem c21 (w : World) (os : OsState) : tSeg tTb qw w 11 ann 1 370 (SC 211 w os) (TC w os) = some (SC 221 w os, TC w os) := by kernel_rfl
theorem c22 (w : World) (os : OsState) : tSeg tTb qw w 11 ann 1 370 (SC 221 w os) (TC w os) = some (SC 231 w os, TC w os) := by kernel_rfl
theorem c23 (w : World) (os : OsState) : tSeg tTb qw w 11 ann 1 370 (SC 231 w os) (TC w os) = some (SC 241 w os, TC w os) := by kernel_rfl
theorem c24 (w : World) (os : OsState) : tSeg tTb qw w 11 ann 1 370 (SC 241 w os) (TC w os) = some (SC 251 w os, TC w os) := by kernel_rfl
theorem c25 (w : World) (os : OsState) : tSeg tTb qw w 11 ann 1 185 (SC 251 w os) (TC w os) = some (SC 256 w os, TC w os) := by kernel_rfl
theorem h0 (w : World) (os : OsState) : tSeg tTb qw w 11 ann 1 405 (SH 1 w os) (TH w os) = some (SH 10 w os, TH w os) := by kernel_rfl
theorem h1 (w : World) (os : OsState) : tSeg tTb qw w 11 ann 1 405 (SH 10 w os) (TH w os) = some (SH 19 w os, TH w os) := by kernel_rfl
theorem h2 (w : World) (os : OsState) : tSeg tTb qw w 11 ann 1 405 (SH 19 w os) (TH w os) = some (SH 28 w os, TH w os) := by kernel_rfl
theorem h3 (w : World) (os : OsState) : tSeg tTb qw w 11 ann 1 405 (SH 28 w os) (TH w os) = some (SH 37 w os, TH w os) := by kernel_rfl
theorem h4 (w : World) (os : OsState) : tSeg tTb qw w 11 ann 1 405 (SH 37 w os) (TH w os) = some (SH 46 w os, TH w os) := by kernel_rfl
theorem h5 (w : World) (os : OsState) : tSeg tTb qw w 11 ann 1 405 (SH 46 w os) (TH w os) = some (SH 55 w os, TH w os) := by kernel_rfl
theorem h6 (w : World) (os : OsState) : tSeg tTb qw w 11 ann 1 405 (SH 55 w os) (TH w os) = some (SH 64 w os, TH w os) := by kernel_rfl
theorem h7 (w : World) (os : OsState) : tSeg tTb qw w 11 ann 1 135 (SH 64 w os) (TH w os) = some (SH 67 w os, TH w os) := by kernel_rfl
theorem t0 (w : World) (os : OsState) : tSeg tTb qw w 11 ann 1 405 (ST 1 w os) (TT w os) = some (ST 10 w os, TT w os) := by kernel_rfl
theorem t1 (w : World) (os : OsState) : tSeg tTb qw w 11 ann 1 405 (ST 10 w os) (TT w os) = some (ST 19 w os, TT w os) := by kernel_rfl
theorem t2 (w : World) (os : OsState) : tSeg tTb qw w 11 ann 1 405 (ST 19 w os) (TT w os) = some (ST 28 w os, TT w os) := by kernel_rfl
theorem t3 (w : World) (os : OsState) : tSeg tTb qw w 11 ann 1 405 (ST 28 w os) (TT w os) = some (ST 37 w os, TT w os) := by kernel_rfl
theorem t4 (w : World) (os : OsState) : tSeg tTb qw w 11 ann 1 405 (ST 37 w os) (TT w os) = some (ST 46 w os, TT w os) := by kernel_rfl
theorem t5 (w : World) (os : OsState) : tSeg tTb qw w 11 ann 1 405 (ST 46 w os) (TT w os) = some (ST 55 w os, TT w os) := by kernel_rfl
theorem t6 (w : World) (os : OsState) : tSeg tTb qw w 11 ann 1 405 (ST 55 w os) (TT w os) = some (ST 64 w os, TT w os) := by kernel_rfl
theorem t7 (w : World) (os : OsState) : tSeg tTb qw w 11 ann 1 405 (ST 64 w os) (TT w os) = some (ST 73 w os, TT w os) := by kernel_rfl
theorem t8 (w : World) (os : OsState) : tSeg tTb qw w 11 ann 1 405 (ST 73 w os) (TT w os) = some (ST 82 w os, TT w os) := by kernel_rfl
theorem t9 (w : World) (os : OsState) : tSeg tTb qw w 11 ann 1 405 (ST 82 w os) (TT w os) = some (ST 91 w os, TT w os) := by kernel_rfl
theorem t10 (w : World) (os : OsState) : tSeg tTb qw w 11 ann 1 180 (ST 91 w os) (TT w os) = some (ST 95 w os, TT w os) := by kernel_rfl
end Mine

open PySem PySem.W PyProof.Rows
set_option Elab.async false
set_option maxRecDepth 100000
set_option maxHeartbeats 8000000
set_option linter.unusedVariables false
namespace Mine
theorem go_ {w : World} {n : Nat} {s s' : SharedT} {t t' : Thread} (h : tSeg tTb qw w 11 ann 1 n s t = some (s', t')) : segGo treeTable qw w 11 ann 1 n s.abs t = some (s'.abs, t') :=
  segGo_of (by rw [PySem.W.Fast.te10295753902157049106, PySem.W.Fast.te14364793385576792824]; exact h)
def Runs (w : World) (b : Nat) (s : Shared) (t : Thread) (r : Flow × Shared × Code × Pos) : Prop := ∃ n, n ≤ b ∧ segRun treeTable qw w 11 ann 1 n s t = some r
theorem run_ {w : World} {n : Nat} {s s' : SharedT} {t : Thread} {f : Flow} {c : Code} {q : Pos} (h : tRun tTb qw w 11 ann 1 n s t = some (f, s', c, q)) : Runs w n s.abs t (f, s'.abs, c, q) :=
  ⟨n, Nat.le_refl _, segRun_of (by rw [PySem.W.Fast.te10110043849684766642, PySem.W.Fast.te14364793385576792824]; exact h)⟩
theorem runs_go {w : World} {n b : Nat} {s s' : SharedT} {t t' : Thread} {r : Flow × Shared × Code × Pos} (h : tSeg tTb qw w 11 ann 1 n s t = some (s', t')) (k : Runs w b s'.abs t' r) : Runs w (n + b) s.abs t r := by
  obtain ⟨m, hm, e⟩ := k
  exact ⟨n + m, Nat.add_le_add_left hm _, seg_go (go_ h) e⟩
theorem runs_le {w : World} {b b' : Nat} {s : Shared} {t : Thread} {r : Flow × Shared × Code × Pos} (h : Runs w b s t r) (hb : Nat.ble b b' = true) : Runs w b' s t r := by
  obtain ⟨m, hm, e⟩ := h
  exact ⟨m, Nat.le_trans hm (Nat.le_of_ble_eq_true hb), e⟩
def Tops (w : World) (b : Nat) (s : Shared) (t : Thread) (r : Shared) : Prop := ∃ n, n ≤ b ∧ topRun treeTable qw w 11 ann n s t = some r
theorem tops_app {w : World} {b b' : Nat} {s s' r : Shared} {l rest : List Stmt} {pos p' : Pos} (h : Runs w b s (piecesOf l env cB pos bF) (.next, s', cB, p'))
    (k : Tops w b' s' (restOf rest env cB p' bF) r) : Tops w (b + b') s (restOf (l ++ rest) env cB pos bF) r := by
  obtain ⟨n, hn, e⟩ := h
  obtain ⟨m, hm, e'⟩ := k
  exact ⟨n + m, by omega, piece_app e e'⟩
theorem compTail (w : World) (os : OsState) : Runs w 9535 (SC 1 w os).abs (TC w os) (.next, (S0 w os).abs, cB, ⟨3, 0, 3, 11⟩) := runs_le (runs_go (c0 w os) (runs_go (c1 w os) (runs_go (c2 w os) (runs_go (c3 w os) (runs_go (c4 w os) (runs_go (c5 w os) (runs_go (c6 w os) (runs_go (c7 w os) (runs_go (c8 w os) (runs_go (c9 w os) (runs_go (c10 w os) (runs_go (c11 w os) (runs_go (c12 w os) (runs_go (c13 w os) (runs_go (c14 w os) (runs_go (c15 w os) (runs_go (c16 w os) (runs_go (c17 w os) (runs_go (c18 w os) (runs_go (c19 w os) (runs_go (c20 w os) (runs_go (c21 w os) (runs_go (c22 w os) (runs_go (c23 w os) (runs_go (c24 w os) (runs_go (c25 w os) (run_ (ce w os)))))))))))))))))))))))))))) (by rfl)
theorem headTail (w : World) (os : OsState) : Runs w 3070 (SH 1 w os).abs (TH w os) (.next, (S8 w os).abs, cB, ⟨11, 9, 11, 74⟩) := runs_le (runs_go (h0 w os) (runs_go (h1 w os) (runs_go (h2 w os) (runs_go (h3 w os) (runs_go (h4 w os) (runs_go (h5 w os) (runs_go (h6 w os) (runs_go (h7 w os) (run_ (he w os)))))))))) (by rfl)
theorem bodyTail (w : World) (os : OsState) : Runs w 4330 (ST 1 w os).abs (TT w os) (.next, (S10 w os).abs, cB, ⟨14, 9, 14, 110⟩) := runs_le (runs_go (t0 w os) (runs_go (t1 w os) (runs_go (t2 w os) (runs_go (t3 w os) (runs_go (t4 w os) (runs_go (t5 w os) (runs_go (t6 w os) (runs_go (t7 w os) (runs_go (t8 w os) (runs_go (t9 w os) (runs_go (t10 w os) (run_ (te w os))))))))))))) (by rfl)
theorem runC (os : OsState) : ∀ w : World, Runs w 10000 (Sa w os).abs wC (.next, (S0 w os).abs, cB, ⟨3, 0, 3, 11⟩) :=
  byRow2 "comprehension-iter-twice"
    (byRow2 (P := fun w => Runs (w.withFollow "comprehension-iter-twice" false) 10000 (Sa (w.withFollow "comprehension-iter-twice" false) os).abs wC (.next, (S0 (w.withFollow "comprehension-iter-twice" false) os).abs, cB, ⟨3, 0, 3, 11⟩)) "special-get-raises"
      (fun w => runs_le (runs_go (cs_false_false w os) (compTail _ os)) (by rfl)) (fun w => runs_le (runs_go (cs_true_false w os) (compTail _ os)) (by rfl)))
    (byRow2 (P := fun w => Runs (w.withFollow "comprehension-iter-twice" true) 10000 (Sa (w.withFollow "comprehension-iter-twice" true) os).abs wC (.next, (S0 (w.withFollow "comprehension-iter-twice" true) os).abs, cB, ⟨3, 0, 3, 11⟩)) "special-get-raises"
      (fun w => runs_le (runs_go (cs_false_true w os) (compTail _ os)) (by rfl)) (fun w => runs_le (runs_go (cs_true_true w os) (compTail _ os)) (by rfl)))
theorem runH (os : OsState) : ∀ w : World, Runs w 4000 (S7 w os).abs wH (.next, (S8 w os).abs, cB, ⟨11, 9, 11, 74⟩) :=
  byRow2 "special-get-raises" (fun w => runs_le (runs_go (hs_false w os) (headTail _ os)) (by rfl)) (fun w => runs_le (runs_go (hs_true w os) (headTail _ os)) (by rfl))
theorem runT (os : OsState) : ∀ w : World, Runs w 5000 (S9 w os).abs wT (.next, (S10 w os).abs, cB, ⟨14, 9, 14, 110⟩) :=
  byRow2 "special-get-raises" (fun w => runs_le (runs_go (ts_false w os) (bodyTail _ os)) (by rfl)) (fun w => runs_le (runs_go (ts_true w os) (bodyTail _ os)) (by rfl))
theorem runF (os : OsState) : ∀ w : World, Runs w 1000 (S10 w os).abs (pc 13 11 ⟨14, 9, 14, 110⟩) (.next, (SF w os).abs, cB, ⟨99, 0, 112, 49⟩) :=
  byRow2 "special-get-raises" (fun w => runs_le (run_ (fs_false w os)) (by rfl)) (fun w => runs_le (run_ (fs_true w os)) (by rfl))
theorem fin_ (w : World) (os : OsState) : Tops w 2 (SF w os).abs (restOf [] env cB ⟨99, 0, 112, 49⟩ bF) (SF w os).abs := ⟨2, Nat.le_refl _, by kernel_rfl⟩
theorem pre_ (w : World) (os : OsState) : topGo treeTable qw w 11 ann 12 ⟨boot_heap w.params, ⟨[]⟩, boot_drawn, boot_toks, os⟩ (topStub qw) = some ((Sb w os).abs, ⟨denote treeTable cB, cB, ⟨0, 0, 0, 0⟩, bF⟩) := by
  rw [PySem.W.Fast.te15667345088766844465, PySem.W.Fast.te14364793385576792824, PySem.W.Fast.te11892475500146522536]
  kernel_rfl
theorem block_ (w : World) (os : OsState) : segRun treeTable qw w 11 ann 1 1 (Sb w os).abs (blockOf (behindTheImports qw) env cB ⟨0, 0, 0, 0⟩ bF) = some (.next, (Sb w os).abs, cB, ⟨0, 0, 0, 0⟩) := by
  rw [PySem.W.Fast.te14374325043358763698, PySem.W.Fast.te14364793385576792824]
  kernel_rfl
theorem body_ : behindTheImports qw = stL 0 2 ++ (stL 2 1 ++ (stL 3 7 ++ (stL 10 1 ++ (stL 11 1 ++ (stL 12 1 ++ (stL 13 11 ++ [])))))) := by kernel_rfl
theorem tops_body (w : World) (os : OsState) : Tops w 25000 (Sb w os).abs (restOf (behindTheImports qw) env cB ⟨0, 0, 0, 0⟩ bF) (SF w os).abs := by
  rw [body_]
  obtain ⟨n, hn, e⟩ := tops_app (run_ (as_ w os)) (tops_app (runC os w) (tops_app (run_ (g1 w os)) (tops_app (runH os w) (tops_app (run_ (g3 w os)) (tops_app (runT os w) (tops_app (runF os w) (fin_ w os)))))))
  exact ⟨n, Nat.le_trans hn (Nat.le_of_ble_eq_true rfl), e⟩
theorem run_all (w : World) (os : OsState) : topRun treeTable qw w 11 ann 25013 ⟨boot_heap w.params, ⟨[]⟩, boot_drawn, boot_toks, os⟩ (topStub qw) = some (SF w os).abs := by
  obtain ⟨n, hn, e⟩ := tops_body w os
  have h1 := go_top (pre_ w os) (piece_block (block_ w os) e)
  have h2 := topRun_mono (25013 - (12 + (1 + n))) _ _ _ _ h1
  rwa [show 12 + (1 + n) + (25013 - (12 + (1 + n))) = 25013 by omega] at h2
end Mine

open PySem PySem.W PyProof.Rows
set_option Elab.async false
set_option maxRecDepth 100000
set_option maxHeartbeats 8000000
set_option linter.unusedVariables false
namespace Mine
noncomputable def stP (i : Nat) : Option Stmt := (PySem.Challenge.pw_dm0096_03.main.body)[i]?
def entK (P : Params) (x : Str) (t : Nat) (v : Value) : DictEntry := ⟨PyData.keyHash P x, .str x t, v⟩
def fnK (st : Option Stmt) (n : Str) (dv kv doc pm cd : Value) : FuncData := match st with
  | some (.FunctionDef _ a b _ _ _ sc _ _ _) => fnOf n n a b sc dv kv doc pm none cd .none
  | _ => default
noncomputable def k2 (P : Params) : Obj := ⟨.none, none, (.dict ⟨[]⟩ 0), ⟨[]⟩⟩
noncomputable def k3 (P : Params) : Obj := ⟨(.type "dict"), none, (.dict ⟨[entK P (Str.ofString "__name__") 165 (.str (Str.ofString "law_dm0096_03") 1763), entK P (Str.ofString "__doc__") 166 .none, entK P (Str.ofString "__package__") 167 .none, entK P (Str.ofString "__loader__") 168 (.builtin "__main__.__loader__#opaque"), entK P (Str.ofString "__spec__") 169 .none, entK P (Str.ofString "__annotations__") 170 (.ref 6), entK P (Str.ofString "__builtins__") 171 (.ref 4), entK P (Str.ofString "__file__") 173 (.str (Str.ofString "/claim/cut.py") 172), entK P (Str.ofString "__cached__") 174 .none, entK P (Str.ofString "CRLF") 188 (.str (Str.ofString "\r\n") 187), entK P (Str.ofString "NL") 190 (.str (Str.ofString "\n") 189), entK P (Str.ofString "_QUOPRI_MAP") 1218 (.ref 17), entK P (Str.ofString "_QUOPRI_HEADER_MAP") 1219 (.ref 22), entK P (Str.ofString "_QUOPRI_BODY_MAP") 1220 (.ref 24), entK P (Str.ofString "ascii_lowercase") 1222 (.str (Str.ofString "abcdefghijklmnopqrstuvwxyz") 1221), entK P (Str.ofString "ascii_uppercase") 1224 (.str (Str.ofString "ABCDEFGHIJKLMNOPQRSTUVWXYZ") 1223), entK P (Str.ofString "ascii_letters") 1226 (.str (Str.ofString "abcdefghijklmnopqrstuvwxyzABCDEFGHIJKLMNOPQRSTUVWXYZ") 1225), entK P (Str.ofString "digits") 1228 (.str (Str.ofString "0123456789") 1227), entK P (Str.ofString "quote") 1734 (.ref 37), entK P (Str.ofString "_QUOPRI_BODY_ENCODE_MAP") 1735 (.ref 39), entK P (Str.ofString "body_encode") 1762 (.ref 50), entK P (Str.ofString "_law_text") 1774 (.ref 57), entK P (Str.ofString "_law_lines") 1783 (.ref 64), entK P (Str.ofString "_law_piece") 1791 (.ref 71), entK P (Str.ofString "_law_rows") 1797 (.ref 76), entK P (Str.ofString "law") 1803 (.ref 81)]⟩ 28), ⟨[]⟩⟩
noncomputable def k6 (P : Params) : Obj := ⟨(.type "dict"), none, (.dict ⟨[]⟩ 0), ⟨[]⟩⟩
noncomputable def k17 (P : Params) : Obj := (oL (els hexv 0 256) 256)
noncomputable def k22 (P : Params) : Obj := (oL (els (put (hel 67) 32 (.str (tx [95]) 1439)) 0 256) 0)
noncomputable def k24 (P : Params) : Obj := (oL (els (bel 95) 0 256) 0)
noncomputable def k31 (P : Params) : Obj := ⟨(.type "tuple"), none, (.seq ⟨[]⟩ 0), ⟨[]⟩⟩
noncomputable def k33 (P : Params) : Obj := ⟨(.type "tuple"), none, (.seq ⟨[(.str (Str.ofString "c") 1731)]⟩ 0), ⟨[]⟩⟩
noncomputable def k34 (P : Params) : Obj := ⟨(.type "tuple"), none, (.seq ⟨[]⟩ 0), ⟨[]⟩⟩
noncomputable def k36 (P : Params) : Obj := ⟨(.type "code"), none, (.fields ⟨[(.str (Str.ofString "quote") 1728), (.str (Str.ofString "quote") 1729), (.str (Str.ofString "/claim/cut.py") 1730), (.int (16) 0), (.int (1) 0), (.int (0) 0), (.int (0) 0), (.int (3) 0), (.ref 31), (.bool true), (.int (181) 0), (.ref 32), .none, (.ref 33), (.ref 34), (.ref 35), (.int (1732) 0), (.int (16) 0), (.str (Str.ofString "/claim/cut.py") 1733)]⟩), ⟨[]⟩⟩
noncomputable def k37 (P : Params) : Obj := ⟨(.type "function"), none, (.func (fnK (stP 13) (Str.ofString "quote") .none .none .none (.str (Str.ofString "cpy313.email.quoprimime") 1229) (.ref 36))), ⟨[]⟩⟩
noncomputable def k39 (P : Params) : Obj := (oL (els (put (put (bel 95) 10 (.str (tx [10]) 1742)) 13 (.str (tx [13]) 1739)) 0 256) 0)
noncomputable def k41 (P : Params) : Obj := ⟨(.type "tuple"), none, (.seq ⟨[]⟩ 0), ⟨[]⟩⟩
noncomputable def k43 (P : Params) : Obj := ⟨(.type "tuple"), none, (.seq ⟨[(.int (76) 1743), (.str (Str.ofString "\n") 189)]⟩ 0), ⟨[]⟩⟩
noncomputable def k44 (P : Params) : Obj := ⟨(.type "tuple"), none, (.seq ⟨[]⟩ 0), ⟨[]⟩⟩
noncomputable def k46 (P : Params) : Obj := ⟨(.type "tuple"), none, (.seq ⟨[(.str (Str.ofString "body") 1747), (.str (Str.ofString "maxlinelen") 1748), (.str (Str.ofString "eol") 1749), (.str (Str.ofString "soft_break") 1750), (.str (Str.ofString "maxlinelen1") 1751), (.str (Str.ofString "encoded_body") 1752), (.str (Str.ofString "append") 1753), (.str (Str.ofString "line") 1754), (.str (Str.ofString "start") 1755), (.str (Str.ofString "laststart") 1756), (.str (Str.ofString "stop") 1757), (.str (Str.ofString "room") 1758), (.str (Str.ofString "q") 1759)]⟩ 0), ⟨[]⟩⟩
noncomputable def k47 (P : Params) : Obj := ⟨(.type "tuple"), none, (.seq ⟨[]⟩ 0), ⟨[]⟩⟩
noncomputable def k49 (P : Params) : Obj := ⟨(.type "code"), none, (.fields ⟨[(.str (Str.ofString "body_encode") 1744), (.str (Str.ofString "body_encode") 1745), (.str (Str.ofString "/claim/cut.py") 1746), (.int (22) 0), (.int (3) 0), (.int (0) 0), (.int (0) 0), (.int (3) 0), (.ref 44), (.bool true), (.int (181) 0), (.ref 45), .none, (.ref 46), (.ref 47), (.ref 48), (.int (1760) 0), (.int (22) 0), (.str (Str.ofString "/claim/cut.py") 1761)]⟩), ⟨[]⟩⟩
noncomputable def k50 (P : Params) : Obj := ⟨(.type "function"), none, (.func (fnK (stP 17) (Str.ofString "body_encode") (.ref 43) .none .none (.str (Str.ofString "cpy313.email.quoprimime") 1229) (.ref 49))), ⟨[]⟩⟩
noncomputable def k51 (P : Params) : Obj := ⟨(.type "tuple"), none, (.seq ⟨[]⟩ 0), ⟨[]⟩⟩
noncomputable def k53 (P : Params) : Obj := ⟨(.type "tuple"), none, (.seq ⟨[(.str (Str.ofString "number") 1768), (.str (Str.ofString "signs") 1769), (.str (Str.ofString "rest") 1770), (.str (Str.ofString "figure") 1771)]⟩ 0), ⟨[]⟩⟩
noncomputable def k54 (P : Params) : Obj := ⟨(.type "tuple"), none, (.seq ⟨[]⟩ 0), ⟨[]⟩⟩
noncomputable def k56 (P : Params) : Obj := ⟨(.type "code"), none, (.fields ⟨[(.str (Str.ofString "_law_text") 1765), (.str (Str.ofString "_law_text") 1766), (.str (Str.ofString "/claim/cut.py") 1767), (.int (61) 0), (.int (1) 0), (.int (0) 0), (.int (0) 0), (.int (3) 0), (.ref 51), (.bool true), (.int (181) 0), (.ref 52), .none, (.ref 53), (.ref 54), (.ref 55), (.int (1772) 0), (.int (61) 0), (.str (Str.ofString "/claim/cut.py") 1773)]⟩), ⟨[]⟩⟩
noncomputable def k57 (P : Params) : Obj := ⟨(.type "function"), none, (.func (fnK (stP 19) (Str.ofString "_law_text") .none .none .none (.str (Str.ofString "law_dm0096_03") 1763) (.ref 56))), ⟨[]⟩⟩
noncomputable def k58 (P : Params) : Obj := ⟨(.type "tuple"), none, (.seq ⟨[]⟩ 0), ⟨[]⟩⟩
noncomputable def k60 (P : Params) : Obj := ⟨(.type "tuple"), none, (.seq ⟨[(.str (Str.ofString "text") 1778), (.str (Str.ofString "plain") 1779), (.str (Str.ofString "lines") 1780)]⟩ 0), ⟨[]⟩⟩
noncomputable def k61 (P : Params) : Obj := ⟨(.type "tuple"), none, (.seq ⟨[]⟩ 0), ⟨[]⟩⟩
noncomputable def k63 (P : Params) : Obj := ⟨(.type "code"), none, (.fields ⟨[(.str (Str.ofString "_law_lines") 1775), (.str (Str.ofString "_law_lines") 1776), (.str (Str.ofString "/claim/cut.py") 1777), (.int (71) 0), (.int (1) 0), (.int (0) 0), (.int (0) 0), (.int (3) 0), (.ref 58), (.bool true), (.int (181) 0), (.ref 59), .none, (.ref 60), (.ref 61), (.ref 62), (.int (1781) 0), (.int (71) 0), (.str (Str.ofString "/claim/cut.py") 1782)]⟩), ⟨[]⟩⟩
noncomputable def k64 (P : Params) : Obj := ⟨(.type "function"), none, (.func (fnK (stP 20) (Str.ofString "_law_lines") .none .none .none (.str (Str.ofString "law_dm0096_03") 1763) (.ref 63))), ⟨[]⟩⟩
noncomputable def k65 (P : Params) : Obj := ⟨(.type "tuple"), none, (.seq ⟨[]⟩ 0), ⟨[]⟩⟩
noncomputable def k67 (P : Params) : Obj := ⟨(.type "tuple"), none, (.seq ⟨[(.str (Str.ofString "sign") 1787), (.str (Str.ofString "number") 1788)]⟩ 0), ⟨[]⟩⟩
noncomputable def k68 (P : Params) : Obj := ⟨(.type "tuple"), none, (.seq ⟨[]⟩ 0), ⟨[]⟩⟩
noncomputable def k70 (P : Params) : Obj := ⟨(.type "code"), none, (.fields ⟨[(.str (Str.ofString "_law_piece") 1784), (.str (Str.ofString "_law_piece") 1785), (.str (Str.ofString "/claim/cut.py") 1786), (.int (77) 0), (.int (1) 0), (.int (0) 0), (.int (0) 0), (.int (3) 0), (.ref 65), (.bool true), (.int (181) 0), (.ref 66), .none, (.ref 67), (.ref 68), (.ref 69), (.int (1789) 0), (.int (77) 0), (.str (Str.ofString "/claim/cut.py") 1790)]⟩), ⟨[]⟩⟩
noncomputable def k71 (P : Params) : Obj := ⟨(.type "function"), none, (.func (fnK (stP 21) (Str.ofString "_law_piece") .none .none .none (.str (Str.ofString "law_dm0096_03") 1763) (.ref 70))), ⟨[]⟩⟩
noncomputable def k72 (P : Params) : Obj := ⟨(.type "tuple"), none, (.seq ⟨[]⟩ 0), ⟨[]⟩⟩
noncomputable def k75 (P : Params) : Obj := ⟨(.type "code"), none, (.fields ⟨[(.str (Str.ofString "_law_rows") 1792), (.str (Str.ofString "_law_rows") 1793), (.str (Str.ofString "/claim/cut.py") 1794), (.int (82) 0), (.int (2) 0), (.int (0) 0), (.int (0) 0), (.int (3) 0), (.ref 72), (.bool true), (.int (181) 0), (.ref 73), .none, .none, .none, (.ref 74), (.int (1795) 0), (.int (82) 0), (.str (Str.ofString "/claim/cut.py") 1796)]⟩), ⟨[]⟩⟩
noncomputable def k76 (P : Params) : Obj := ⟨(.type "function"), none, (.func (fnK (stP 22) (Str.ofString "_law_rows") .none .none .none (.str (Str.ofString "law_dm0096_03") 1763) (.ref 75))), ⟨[]⟩⟩
noncomputable def k77 (P : Params) : Obj := ⟨(.type "tuple"), none, (.seq ⟨[]⟩ 0), ⟨[]⟩⟩
noncomputable def k80 (P : Params) : Obj := ⟨(.type "code"), none, (.fields ⟨[(.str (Str.ofString "law") 1798), (.str (Str.ofString "law") 1799), (.str (Str.ofString "/claim/cut.py") 1800), (.int (99) 0), (.int (1) 0), (.int (0) 0), (.int (0) 0), (.int (3) 0), (.ref 77), (.bool true), (.int (181) 0), (.ref 78), .none, .none, .none, (.ref 79), (.int (1801) 0), (.int (99) 0), (.str (Str.ofString "/claim/cut.py") 1802)]⟩), ⟨[]⟩⟩
noncomputable def k81 (P : Params) : Obj := ⟨(.type "function"), none, (.func (fnK (stP 23) (Str.ofString "law") .none .none .none (.str (Str.ofString "law_dm0096_03") 1763) (.ref 80))), ⟨[]⟩⟩
noncomputable def KK : Params → Frag := fun P => (nat_lit 2, k2 P) :: (nat_lit 3, k3 P) :: (nat_lit 6, k6 P) :: (nat_lit 17, k17 P) :: (nat_lit 22, k22 P) :: (nat_lit 24, k24 P) :: (nat_lit 31, k31 P) :: (nat_lit 33, k33 P) :: (nat_lit 34, k34 P) :: (nat_lit 36, k36 P) :: (nat_lit 37, k37 P) :: (nat_lit 39, k39 P) :: (nat_lit 41, k41 P) :: (nat_lit 43, k43 P) :: (nat_lit 44, k44 P) :: (nat_lit 46, k46 P) :: (nat_lit 47, k47 P) :: (nat_lit 49, k49 P) :: (nat_lit 50, k50 P) :: (nat_lit 51, k51 P) :: (nat_lit 53, k53 P) :: (nat_lit 54, k54 P) :: (nat_lit 56, k56 P) :: (nat_lit 57, k57 P) :: (nat_lit 58, k58 P) :: (nat_lit 60, k60 P) :: (nat_lit 61, k61 P) :: (nat_lit 63, k63 P) :: (nat_lit 64, k64 P) :: (nat_lit 65, k65 P) :: (nat_lit 67, k67 P) :: (nat_lit 68, k68 P) :: (nat_lit 70, k70 P) :: (nat_lit 71, k71 P) :: (nat_lit 72, k72 P) :: (nat_lit 75, k75 P) :: (nat_lit 76, k76 P) :: (nat_lit 77, k77 P) :: (nat_lit 80, k80 P) :: (nat_lit 81, k81 P) :: []
noncomputable def qv : Program := { PySem.Challenge.pw_dm0096_03 with main := { PySem.Challenge.pw_dm0096_03.main with body := PySem.Challenge.pw_dm0096_03.main.body.drop 23 } }
noncomputable def loose : List Str := [Str.ofString "CRLF", Str.ofString "NL", Str.ofString "_QUOPRI_MAP", Str.ofString "_QUOPRI_HEADER_MAP", Str.ofString "_QUOPRI_BODY_MAP", Str.ofString "ascii_lowercase", Str.ofString "ascii_uppercase", Str.ofString "ascii_letters", Str.ofString "digits", Str.ofString "quote", Str.ofString "_QUOPRI_BODY_ENCODE_MAP", Str.ofString "body_encode", Str.ofString "_law_text", Str.ofString "_law_lines", Str.ofString "_law_piece", Str.ofString "_law_rows"]
theorem laidq : (fun (_ : Program) (_ : List Str) (_ : Params → Frag) => true) qv loose KK = true := by k_qdec
noncomputable abbrev HK : Hook := kHook KK [2, 3, 6, 17, 22, 24, 31, 33, 34, 36, 37, 39, 41, 43, 44, 46, 47, 49, 50, 51, 53, 54, 56, 57, 58, 60, 61, 63, 64, 65, 67, 68, 70, 71, 72, 75, 76, 77, 80, 81] (fun _ => by kernel_rfl)
theorem obsK (w : World) (os : OsState) : HK.obs (SF w os).abs = HK.val w := by kernel_rfl
noncomputable abbrev Xt (s : Shared) : Bool := xlAt qv [] s && recOk (RowW.records PySem.Challenge.rw_dm0096_03.row.toRowW) s
theorem look1 (w : World) (os : OsState) : (staticsOk (importedModules qw.main.body) (boot_heap w.params) (SF w os).abs.heap && namesBound qw (SF w os).abs.heap && gensDone (SF w os).abs && laidKept (boot_heap w.params) (SF w os).abs.heap) = true := by kernel_rfl
theorem look2 (w : World) (os : OsState) : openSeen qv loose (importedModules qw.main.body) Xt true (SF w os).abs = openGood qv loose := by kernel_rfl
theorem size_ (w : World) : ((boot_heap w.params).isNs mainGlobals && (⟨[]⟩ : Array GenState).size == 0, (boot_heap w.params).objs.size, (boot_heap w.params).nsMap mainGlobals "__annotations__") = (true, 11, ann) := by kernel_rfl
theorem eqP : PySem.Challenge.pw_dm0096_03 = qw := PySem.W.Fast.te18123395481247862948
theorem open0 (w : World) : (importEnds treeTable (opening qw) w 600 (start (opening qw)).1 (start (opening qw)).2).map (fun s => (s.heap, s.gens, s.drawn, s.toks)) = some (boot_heap w.params, Array.mk [], boot_drawn, boot_toks) := by kernel_rfl
theorem fence_ (s : Shared) : fenceModules? qw s = some s := by kernel_rfl
theorem open_ (w : World) : (fencedOpening treeTable qw w 30000).map (fun s => (s.heap, s.gens, s.drawn, s.toks)) = some (boot_heap w.params, Array.mk [], boot_drawn, boot_toks) := by
  obtain ⟨s, hs, hv⟩ := Option.map_eq_some_iff.mp (open0 w)
  have m : importEnds treeTable (opening qw) w 30000 (start (opening qw)).1 (start (opening qw)).2 = some s := importEnds_mono 29400 600 _ _ _ hs
  unfold fencedOpening
  rw [m]
  show (fenceModules? qw s).map _ = _
  rw [fence_ s]
  exact congrArg some hv
theorem left : LeftO PySem.Challenge.pw_dm0096_03 qv loose Xt HK.obs HK.val 30000 := by
  have h : LeftO qw qv loose Xt HK.obs HK.val 30000 := LeftO.of_pieces (H₀ := boot_heap) (H₁ := fun P => absHeap (treeSF P) 82 {}) (gs₀ := ⟨[]⟩) (gs₁ := ⟨[]⟩) (d₀ := boot_drawn) (d₁ := boot_drawn) (k₀ := boot_toks) (k₁ := 1804) (m₀ := 11) (ann := ann) (M := 25013)
    open_ size_ run_all (by rfl) (fun w => funext fun os => Prod.ext (look1 w os) (Prod.ext (look2 w os) (obsK w os)))
  exact eqP ▸ h
theorem asK : ∀ P, [2, 3, 6, 17, 22, 24, 31, 33, 34, 36, 37, 39, 41, 43, 44, 46, 47, 49, 50, 51, 53, 54, 56, 57, 58, 60, 61, 63, 64, 65, 67, 68, 70, 71, 72, 75, 76, 77, 80, 81] = (KK P).map (·.1) := fun _ => by kernel_rfl
theorem hd {d : DefRec} {kwd : List (Str × Expr)} (hdef : defOf qv PySem.Challenge.rw_dm0096_03.row.name = some (d, kwd)) (hp : PySem.Challenge.rw_dm0096_03.row.prog.theDef PySem.Challenge.rw_dm0096_03.row.name = some (d.params, d.body, d.scope))
    (hk : kwWritten? d.params.kwonlyargs d.params.kw_defaults = some kwd)
    (walk : WalkO qv loose (XL qv []) (kHook KK [2, 3, 6, 17, 22, 24, 31, 33, 34, 36, 37, 39, 41, 43, 44, 46, 47, 49, 50, 51, 53, 54, 56, 57, 58, 60, 61, 63, 64, 65, 67, 68, 70, 71, 72, 75, 76, 77, 80, 81] asK).says PySem.Challenge.rw_dm0096_03.row.toRowW d kwd fun f vs => PySem.call f vs) : PySem.Challenge.rw_dm0096_03.Holds := by
  w_on
  o_law
  refine holds_open (q := qv) (loose := loose) (Xt := Xt) (XP := XL qv []) (Yf := HK.obs) (Ya := HK.val) (YP := HK.says) (N := 30000) left HK.of HK.keeps (fun s e => xl_of s (Bool.and_eq_true_iff.mp e).1) XL.keeps
    hdef hp hk (fun s e => recFacts_of (Bool.and_eq_true_iff.mp e).2) (by rfl) (by assumption) (by decide +kernel) ⟨rfl, rfl, rfl, rfl, rfl, by decide +kernel⟩ ?hw walk
  w_witness2
end Mine

open PySem PySem.W PyProof.Rows PySem.Calls
set_option Elab.async false
set_option maxRecDepth 100000
set_option maxHeartbeats 8000000
set_option linter.unusedVariables false
namespace Mine
def strOf : Value → Str
  | .str x _ => x
  | _ => ⟨#[]⟩
theorem els_get (f : Nat → Value) : ∀ (n i k : Nat), k < n → (els f i n)[k]? = some (f (i + k))
  | 0, _, _, h => by omega
  | n + 1, i, 0, _ => rfl
  | n + 1, i, k + 1, h => by
    show (els f (i + 1) n)[k]? = _
    rw [els_get f n (i + 1) k (by omega)]
    congr 2; omega
theorem els_len (f : Nat → Value) : ∀ (n i : Nat), (els f i n).length = n
  | 0, _ => rfl
  | n + 1, i => by show (els f (i + 1) n).length + 1 = _; rw [els_len f n (i + 1)]
/-- the body map's items -/
def eItem : Nat → Value := put (put (bel 95) 10 (.str (tx [10]) 1742)) 13 (.str (tx [13]) 1739)
def fE (c : Nat) : Str := strOf (eItem c)
theorem turnEl_str (l : List Nat) (th j i : Nat) : ∃ x t, turnEl l th j i = .str x t := by
  unfold turnEl
  split
  · cases Nat.blt _ j
    · exact ⟨_, _, rfl⟩
    · exact ⟨_, _, rfl⟩
  · exact ⟨_, _, rfl⟩
theorem eItem_str (i : Nat) : ∃ t, eItem i = .str (fE i) t := by
  unfold fE
  have : ∃ x t, eItem i = .str x t := by
    unfold eItem put
    cases Nat.beq i 13
    · cases Nat.beq i 10
      · exact turnEl_str _ _ _ _
      · exact ⟨_, _, rfl⟩
    · exact ⟨_, _, rfl⟩
  obtain ⟨x, t, e⟩ := this
  exact ⟨t, by rw [e]; rfl⟩
theorem tabE : TabL fE (els eItem 0 256).toArray := by
  refine ⟨by simp [els_len], fun c hc => ?_⟩
  obtain ⟨t, e⟩ := eItem_str c
  refine ⟨t, ?_⟩
  rw [List.getElem?_toArray, els_get _ _ _ _ hc, Nat.zero_add, e]
theorem turnEl_len (l : List Nat) (th j i : Nat) : (strOf (turnEl l th j i)).cps.size ≤ 3 := by
  unfold turnEl
  split
  · cases Nat.blt _ j
    · exact Nat.le_refl _
    · exact Nat.le_of_ble_eq_true rfl
  · exact Nat.le_refl _
theorem fE_len (c : Nat) : (fE c).cps.size ≤ 3 := by
  unfold fE eItem put
  cases Nat.beq c 13
  · cases Nat.beq c 10
    · exact turnEl_len _ _ _ _
    · exact Nat.le_of_ble_eq_true rfl
  · exact Nat.le_of_ble_eq_true rfl
theorem listIn39 {w : World} {h : Heap} (X : (KK w.params).In h) : h.IsList 39 (els eItem 0 256).toArray := ⟨_, X 39 (k39 w.params) rfl, rfl, 0, rfl⟩
theorem listIn17 {w : World} {h : Heap} (X : (KK w.params).In h) : h.IsList 17 (els hexv 0 256).toArray := ⟨_, X 17 (k17 w.params) rfl, rfl, 256, rfl⟩
def TE (c : Nat) : List Nat := tr fE c
def hxd (k : Nat) : Nat := if k < 10 then 48 + k else 55 + k
def pieceP (c : Nat) : List Nat := if 255 < c ∨ c = 9 ∨ (32 ≤ c ∧ c ≤ 126 ∧ c ≠ 61) then [c] else [61, hxd (c / 16), hxd (c % 16)]
theorem TE_small : ∀ c : Fin 256, (fE c.val).cps.toList = if c.val = 10 ∨ c.val = 13 then [c.val] else pieceP c.val := by decide +kernel
theorem TE_piece {c : Nat} (h1 : c ≠ 10) (h2 : c ≠ 13) : TE c = pieceP c := by
  unfold TE tr
  by_cases h : c < 256
  · rw [if_pos h]
    have := TE_small ⟨c, h⟩
    rw [if_neg (by rintro (h | h); exact h1 h; exact h2 h)] at this
    exact this
  · rw [if_neg h]
    unfold pieceP
    rw [if_pos (.inl (by omega))]
theorem TE_crlf {c : Nat} (h : c = 10 ∨ c = 13) : TE c = [c] := by
  rcases h with rfl | rfl <;> decide +kernel
theorem lb_far {c : Nat} (h : 256 ≤ c) : Unicode.isLineBreak c = isB c := by
  show Unicode.within [(0xA, 0xD), (0x1C, 0x1E), (0x85, 0x85), (0x2028, 0x2029)] c = _
  simp only [Unicode.within, isB]
  rw [if_neg (by omega), if_neg (by omega), if_neg (by omega)]
  apply Bool.eq_iff_iff.mpr
  split
  · rename_i h9
    simp
    omega
  · rename_i h9
    simp
    omega
theorem hx_lt {k : Nat} (h : k < 16) : 48 ≤ hxd k ∧ hxd k ≤ 70 ∧ hxd k ≠ 61 := by
  unfold hxd; split <;> omega
theorem piece_len {c : Nat} (h : c < 256) : hxd (c / 16) ≠ 61 ∧ hxd (c % 16) ≠ 61 := ⟨(hx_lt (by omega)).2.2, (hx_lt (by omega)).2.2⟩
theorem lb_small : ∀ c : Fin 256, ∀ d ∈ (fE c.val).cps.toList, Unicode.isLineBreak d = isB d := by decide +kernel
theorem pcTE : PcOk TE where
  ok c := by
    by_cases hc : c = 10 ∨ c = 13
    · rw [TE_crlf hc]
      exact .inl ⟨c, rfl, by omega⟩
    · rw [TE_piece (by omega) (by omega)]
      unfold pieceP
      split
      · exact .inl ⟨c, rfl, by omega⟩
      · have := piece_len (c := c) (by omega)
        exact .inr ⟨_, _, rfl, this.1, this.2⟩
  brk c h := by
    unfold isB at h
    simp at h
    rcases h with ((rfl | rfl) | rfl) | rfl <;> decide +kernel
  nob c h := by
    have hc : c ≠ 10 ∧ c ≠ 13 := by constructor <;> (rintro rfl; simp [isB] at h)
    rw [TE_piece hc.1 hc.2]
    unfold pieceP
    split
    · intro d hd
      rw [List.mem_singleton.mp hd]; exact h
    · have h1 := hx_lt (k := c / 16) (by omega)
      have h2 := hx_lt (k := c % 16) (by omega)
      intro d hd
      simp at hd
      unfold isB
      rcases hd with rfl | rfl | rfl
      · decide
      · simp; omega
      · simp; omega
  lb c := by
    by_cases h : c < 256
    · intro d hd
      unfold TE tr at hd
      rw [if_pos h] at hd
      exact lb_small ⟨c, h⟩ d hd
    · intro d hd
      unfold TE tr at hd
      rw [if_neg h] at hd
      rw [List.mem_singleton.mp hd]
      exact lb_far (by omega)
  bl c h := by rcases h with rfl | rfl <;> decide +kernel
  nbl c h1 h2 d hd := by
    by_cases hc : c = 10 ∨ c = 13
    · rw [TE_crlf hc] at hd
      simp at hd
      omega
    · rw [TE_piece (by omega) (by omega)] at hd
      unfold pieceP at hd
      split at hd
      · simp at hd
        omega
      · have h2 := hx_lt (k := c % 16) (by omega)
        simp at hd
        omega
theorem translate_y {prog : Program} {w : World} {A : Around} {E : Value → Shared → Prop} {s : Shared} {a : Addr} {items : Array Value} {f : Nat → Str} {x : Str} {t : Tok} {Q : Value → Shared → Prop} (hh : A.handled = none) (hl : s.heap.IsList a items) (ht : TabL f items) (hf : ∀ c, (f c).cps.size ≤ 3) (hx : ∀ c ∈ x.cps.toList, c < 1114112) (hn : x.cps ≠ #[]) (hsz : x.length ≤ 1000000)
    (h : ∀ (y : Str) h' t' tk, y.cps.toList = x.cps.toList.flatMap (tr f) → y.length ≤ 3 * x.length → (∀ b o, s.heap.get? b = some o → h'.get? b = some o) → Q (.str y t') { s with heap := h', toks := tk }) :
    wpAny (model prog w) A (call (.builtin "str.translate") [.str x t, .ref a]) Q E s :=
  translate_ok hh hl ht hf hx hn hsz fun h' t' tk hk => h _ h' t' tk (by simp) (by have := tr_len hf x.cps.toList; simpa [Str.length] using this) hk
/-- texts with their tokens: as values, as lists of numbers -/
def tv (ts : List (Str × Tok)) : List Value := ts.map fun p => .str p.1 p.2
def tl (ts : List (Str × Tok)) : List (List Nat) := ts.map fun p => p.1.cps.toList
theorem tv_snoc (ts : List (Str × Tok)) (y : Str) (t : Tok) : tv (ts ++ [(y, t)]) = tv ts ++ [.str y t] := by simp [tv]
theorem tl_snoc (ts : List (Str × Tok)) (y : Str) (t : Tok) : tl (ts ++ [(y, t)]) = tl ts ++ [y.cps.toList] := by simp [tl]
theorem str_eq_of {x y : Str} (h : x.cps.toList = y.cps.toList) : x = y := Str.ext' (Array.toList_inj.mp h)
def bodyOf : Option Stmt → List Stmt
  | some (.FunctionDef _ _ b ..) => b
  | _ => []
def scopeOf : Option Stmt → Scope
  | some (.FunctionDef _ _ _ _ _ _ sc ..) => sc
  | _ => default
theorem execs_wp {M : Model} {E : Value → Shared → Prop} {env : Env} {Q : Flow → Shared → Prop} (b : List Stmt) (Γ : Ctx) : ∀ (a : List Stmt) (p : Pos) (s : Shared),
    Sem.wp M Γ (execs a env) (fun f p' s' => match f with | .next => Sem.wp M Γ (execs b env) (fun f _ s => Q f s) (fun e _ s => E e s) p' s' | f => Q f s') (fun e _ s => E e s) p s →
    Sem.wp M Γ (execs (a ++ b) env) (fun f _ s => Q f s) (fun e _ s => E e s) p s
  | [], p, s, h => h
  | st :: r, p, s, h => by
    rw [List.cons_append, execs_cons, Sem.wp_bind']
    rw [execs_cons, Sem.wp_bind'] at h
    refine Sem.wp_mono _ _ _ (fun f p' s' hf => ?_) (fun _ _ _ e => e) p s h
    cases f with
    | next => exact execs_wp b Γ r p' s' hf
    | ret v => exact hf
    | brk => exact hf
    | cont => exact hf
def Then (M : Model) (A : Around) (b : List Stmt) (env : Env) (Q : Flow → Shared → Prop) (E : Value → Shared → Prop) (f : Flow) (s' : Shared) : Prop :=
  match f with | .next => wpAny M A (execs b env) Q E s' | f => Q f s'
theorem execs_app {M : Model} {A : Around} {E : Value → Shared → Prop} {env : Env} {Q : Flow → Shared → Prop} (a b : List Stmt) (s : Shared)
    (h : wpAny M A (execs a env) (Then M A b env Q E) E s) : wpAny M A (execs (a ++ b) env) Q E s := fun Γ p hΓ => by
  refine execs_wp b Γ a p s (Sem.wp_mono _ _ _ (fun f p' s' hf => ?_) (fun _ _ _ e => e) p s (h Γ p hΓ))
  cases f with
  | next => exact hf Γ p' hΓ
  | ret v => exact hf
  | brk => exact hf
  | cont => exact hf
end Mine

open PySem PySem.W PyProof.Rows PySem.Calls
set_option Elab.async false
set_option maxRecDepth 100000
set_option maxHeartbeats 8000000
set_option linter.unusedVariables false
namespace Mine
def forB : Option Stmt → List Stmt
  | some (.For _ _ b ..) => b
  | some (.While _ b ..) => b
  | _ => []
def Hid (p : Prop) : Prop := p
theorem hid {α : Type} {M : Model} {A : Around} {t : Sem α} {P : α → Shared → Prop} {E : Value → Shared → Prop} {s : Shared} (h : wpAny M A t (fun v s => Hid (P v s)) E s) : wpAny M A t P E s := h
theorem swap_in {h₀ h : Heap} {L : Addr} {own base : List (Addr × Obj)} {q : Addr × Obj} (N : News h₀ L h (own ++ q :: base)) : News h₀ L h (q :: (own ++ base)) := fun p hp => N p (by
  rcases List.mem_cons.mp hp with rfl | hp
  · exact List.mem_append.mpr (.inr (.head _))
  · rcases List.mem_append.mp hp with hp | hp
    · exact List.mem_append.mpr (.inl hp)
    · exact List.mem_append.mpr (.inr (.tail _ hp)))
theorem swap_out {h₀ h : Heap} {L : Addr} {own base : List (Addr × Obj)} {q : Addr × Obj} (N : News h₀ L h (q :: (own ++ base))) : News h₀ L h (own ++ q :: base) := fun p hp => N p (by
  rcases List.mem_append.mp hp with hp | hp
  · exact .tail _ (List.mem_append.mpr (.inl hp))
  · rcases List.mem_cons.mp hp with rfl | hp
    · exact .head _
    · exact .tail _ (List.mem_append.mpr (.inr hp)))
def KeepOn (ks : List Str) (m m' : Str → Option Value) : Prop := ∀ y ∈ ks, m' y = m y
section
variable {prog : Program} {w : World} {A : Around} {E : Value → Shared → Prop} {s : Shared} {env : Env} {h₀ : Heap} {target : Expr} {body : List Stmt} {Q : Flow → Shared → Prop} {m₀ : Str → Option Value} {news : List (Addr × Obj)}
/-- over a text's signs -/
theorem str_turns {x : Str} {t : Tok} (J : Nat → (Str → Option Value) → List (Addr × Obj) → Prop) (hh : A.handled = none) (F : Fr h₀ env.locals s.heap m₀) (N : News h₀ env.locals s.heap news) (h0 : J 0 m₀ news)
    (hgo : ∀ v (s : Shared) (Q : Unit → Shared → Prop) (E : Value → Shared → Prop) (I : Addr), Q () s → wpAny (model prog w) A (letOwnedTupleGo target (.ref I) v) Q E s)
    (turn : ∀ i c t' m₁ nw h₁ tk₁ own, (∀ p ∈ own, s.heap.objs.size ≤ p.1) → x.cps.toList[i]? = some c → J i m₁ nw → Fr h₀ env.locals h₁ m₁ → News h₀ env.locals h₁ (own ++ nw) →
      wpAny (model prog w) A (assign target env (.str ⟨#[c]⟩ t')) (fun _ s₃ => wpAny (model prog w) A (execs body env) (TurnEnd h₀ env.locals s.heap.objs.size own (J (i + 1)) { s with heap := h₁, toks := tk₁ } Q) E s₃) E { s with heap := h₁, toks := tk₁ })
    (done : ∀ h' tk m' nw, Fr h₀ env.locals h' m' → News h₀ env.locals h' nw → J x.cps.toList.length m' nw → Q .next { s with heap := h', toks := tk }) :
    wpAny (model prog w) A (pyIter (.str x t)) (fun it s₂ => TurnsAt prog w A h₀ env target body Q E it s₂) E s := by
  have hLs : env.locals < s.heap.objs.size := F.ns.lt
  refine wpAny_pyIter_str fun o St W st0 => ?_
  have up : ∀ b o', s.heap.get? b = some o' → (s.heap.push o).get? b = some o' := fun b o' e => Heap.get?_push_of_some _ e
  refine ⟨s.heap.objs.size, [s.heap.objs.size], [s.heap.objs.size], x.cps.size, _, _, _, m₀, news, J, rfl, KTurns.ofWalks (W A hh) (fun i v s' Q' E' st hQ => hgo v s' Q' E' _ hQ), ?_, ?_, ?_,
    st0, F.keeps up, N.grown up, h0, ?_, ?_⟩
  · intro hI
    exact Nat.ne_of_lt hLs (List.mem_singleton.mp hI)
  · intro b hb
    rw [List.mem_singleton.mp hb]
    exact fresh_at F (Nat.le_refl _)
  · intro p hp hI
    exact absurd (Heap.lt_size (N p hp).1) (by rw [List.mem_singleton.mp hI]; exact Nat.lt_irrefl _)
  · rintro i v m₁ nw h₁ tk₁ own hi ⟨c, t', hc, rfl⟩ hJ _ hfp _ _ _ F₁ N₁
    refine wpAny_mono (turn i c t' m₁ nw h₁ tk₁ own (fun p hp => Nat.le_of_eq (List.mem_singleton.mp (hfp p hp)).symm) (by simpa using hc) hJ F₁ N₁) (fun _ s₃ h₃ => wpAny_mono h₃ (fun f s₄ h₄ => h₄.toV ?_) fun _ _ e => e) fun _ _ e => e
    intro a ha
    rw [List.mem_singleton.mp ha]
    exact Nat.le_refl _
  · intro h' tk m' nw F' N' _ hJ
    exact done h' tk m' nw F' N' (by simpa using hJ)
end
end Mine

open PySem PySem.W PyProof.Rows PySem.Calls
set_option Elab.async false
set_option maxRecDepth 100000
set_option maxHeartbeats 8000000
set_option linter.unusedVariables false
namespace Mine
theorem hex_item : ∀ k : Fin 16, (Txt.item (Str.ofString "0123456789ABCDEF") ((k.val : Nat) : Int)).cps.toList = [hxd k.val] := by decide +kernel
theorem piece_one {c : Nat} (h : 255 < c ∨ c = 9 ∨ (32 ≤ c ∧ c ≤ 126 ∧ c ≠ 61)) : (⟨#[c]⟩ : Str).cps.toList = pieceP c := by
  unfold pieceP
  rw [if_pos h]
theorem piece_hex {c : Nat} (h : ¬ (255 < c ∨ c = 9 ∨ (32 ≤ c ∧ c ≤ 126 ∧ c ≠ 61))) :
    (Str.ofString "=" ++ Txt.item (Str.ofString "0123456789ABCDEF") ((c : Int).fdiv 16) ++ Txt.item (Str.ofString "0123456789ABCDEF") ((c : Int).fmod 16)).cps.toList = pieceP c := by
  unfold pieceP
  rw [if_neg h]
  have e1 : (c : Int).fdiv 16 = ((c / 16 : Nat) : Int) := by rw [Int.fdiv_eq_ediv_of_nonneg _ (by decide)]; omega
  have e2 : (c : Int).fmod 16 = ((c % 16 : Nat) : Int) := by rw [Int.fmod_eq_emod_of_nonneg _ (by decide)]; omega
  have h1 := hex_item ⟨c / 16, by omega⟩
  have h2 := hex_item ⟨c % 16, by omega⟩
  rw [e1, e2]
  simp only [Str.cps_append, Array.toList_append]
  rw [h1, h2, show (Str.ofString "=").cps.toList = [61] from by decide +kernel]
  rfl
theorem lp_call : ∀ (w : World) (A A₀ : Around) (base h₀ : Heap) (env : Env) (outer : List Env) (L : Addr) (m mg mb : Str → Option Value) (mean : ExcName → Option Value) (lo : List Str) (news : List (Addr × Obj)) (s : Shared) (Q E : Value → Shared → Prop)
    (_ : Below A₀ base outer h₀) (_ : Fr h₀ L s.heap m) (_ : (KK w.params).In h₀) (_ : News h₀ L s.heap news) (_ : Top qv lo mean mg mb h₀)
    (_ : A.frames = some (env :: outer)) (_ : env.frame = some L) (_ : env.scope.kind = .function) (_ : A.depth < 900) (_ : A.units < 100) (_ : A.handled = none)
    (c : Nat) (t : Tok) (_ : c < 1114112)
    (_ : ∀ y t' tk h', y.cps.toList = pieceP c → Fr h₀ L h' m → News h₀ L h' news → Q (.str y t') { s with heap := h', toks := tk }),
    wpAny (model PySem.Challenge.rw_dm0096_03.row.prog w) A (call (.ref 71) [.str ⟨#[c]⟩ t]) Q E s := by
  k_fill
  intro w A A₀ base h₀ env outer L m mg mb mean lo news s Q E B F X N T hA hf hke hd hu hh c t hc hret
  obtain ⟨ah, dp, fr, gd, un⟩ := A
  dsimp only at hA hd hu hh
  subst hh
  subst hA
  refine wpAny_call ?_
  refine' code_def B F X N T rfl hf hke ?k6 ?k7 ?k8 ?k9 ?kB ?_ ?c2 ?c3 ?c4 ?c5
  case k6 => k_is
  case k7 => k_is
  case k8 => exact Nat.lt_of_lt_of_le hd (by decide)
  case k9 => k_dflt (exact BindsTo.of_eq rfl)
  case c5 => decide
  case kB => k_dflt (exact locs rfl)
  case c2 => exact rfl
  case c3 => exact rfl
  case c4 => exact rfl
  intro g' L' h' FG' F' N' B' X' T'
  (try dsimp only); (try k_fold)
  k_steps
  · exact hret _ _ _ _ (piece_one (by omega)) (by k_asm) (by k_asm)
  · exact hret _ _ _ _ (piece_one (by omega)) (by k_asm) (by k_asm)
  · exact hret _ _ _ _ (piece_one (by omega)) (by k_asm) (by k_asm)
  · exact hret _ _ _ _ (piece_hex (by omega)) (by k_asm) (by k_asm)
  · exact hret _ _ _ _ (piece_hex (by omega)) (by k_asm) (by k_asm)
  · exact hret _ _ _ _ (piece_hex (by omega)) (by k_asm) (by k_asm)
theorem item17 {w : World} {A : Around} {E : Value → Shared → Prop} {s : Shared} {h₀ : Heap} {L : Addr} {m : Str → Option Value} {value slice : Expr} {k : Nat} {u : Tok} {Q : Value → Shared → Prop}
    (X : (KK w.params).In h₀) (F : Fr h₀ L s.heap m) (hk : k < 256) (h : ∀ t, Q (.str (tx [61, hexd (k / 16), hexd (k % 16)]) t) s)
    (hs : subscripted slice false (.ref 17) (.int (k : Int) u) = operate [.ref 17, .int (k : Int) u] (getItem (.ref 17) (.int (k : Int) u))) (hg : ∀ r, letTemporaryGo value (.ref 17) r = pure ()) :
    wpAny (model PySem.Challenge.rw_dm0096_03.row.prog w) A (subscriptTail value slice (.ref 17) (.int (k : Int) u)) Q E s := by
  refine item_list (listIn17 (X.keeps F.keep)) (by omega) (by omega) (x := hexv k) ?_ (h _) hs hg
  rw [List.getElem?_toArray]
  have := els_get hexv 256 0 k hk
  rw [Nat.zero_add] at this
  simpa using this
local macro_rules | `(tactic| walk_at "subscriptTail") => `(tactic| (k_here; (with_reducible show wpAny _ _ (subscriptTail _ _ (Value.ref 17) _) _ _ _); k_dflt (refine' item17 ?X ?F ?k ?_ ?s ?g; (case X => assumption); (case F => k_asm); (case k => omega); (case s => with_unfolding_all rfl); (case g => intro _; with_unfolding_all rfl)); intro _))
theorem qu_call : ∀ (w : World) (A A₀ : Around) (base h₀ : Heap) (env : Env) (outer : List Env) (L : Addr) (m mg mb : Str → Option Value) (mean : ExcName → Option Value) (lo : List Str) (news : List (Addr × Obj)) (s : Shared) (Q E : Value → Shared → Prop)
    (_ : Below A₀ base outer h₀) (_ : Fr h₀ L s.heap m) (_ : (KK w.params).In h₀) (_ : News h₀ L s.heap news) (_ : Top qv lo mean mg mb h₀)
    (_ : A.frames = some (env :: outer)) (_ : env.frame = some L) (_ : env.scope.kind = .function) (_ : A.depth < 900) (_ : A.units < 100) (_ : A.handled = none)
    (c : Nat) (t : Tok) (_ : c = 32 ∨ c = 9)
    (_ : ∀ y t' tk h', y.cps.toList = (if c = 32 then [61, 50, 48] else [61, 48, 57]) → Fr h₀ L h' m → News h₀ L h' news → Q (.str y t') { s with heap := h', toks := tk }),
    wpAny (model PySem.Challenge.rw_dm0096_03.row.prog w) A (call (.ref 37) [.str ⟨#[c]⟩ t]) Q E s := by
  k_fill
  intro w A A₀ base h₀ env outer L m mg mb mean lo news s Q E B F X N T hA hf hke hd hu hh c t hc hret
  obtain ⟨ah, dp, fr, gd, un⟩ := A
  dsimp only at hA hd hu hh
  subst hh
  subst hA
  refine wpAny_call ?_
  refine' code_def B F X N T rfl hf hke ?k6 ?k7 ?k8 ?k9 ?kB ?_ ?c2 ?c3 ?c4 ?c5
  case k6 => k_is
  case k7 => k_is
  case k8 => exact Nat.lt_of_lt_of_le hd (by decide)
  case k9 => k_dflt (exact BindsTo.of_eq rfl)
  case c5 => decide
  case kB => k_dflt (exact locs rfl)
  case c2 => exact rfl
  case c3 => exact rfl
  case c4 => exact rfl
  intro g' L' h' FG' F' N' B' X' T'
  (try dsimp only); (try k_fold)
  k_steps
  refine hret _ _ _ _ ?_ (by k_asm) (by k_asm)
  rcases hc with rfl | rfl <;> decide +kernel
end Mine

open PySem PySem.W PyProof.Rows PySem.Calls
set_option Elab.async false
set_option maxRecDepth 100000
set_option maxHeartbeats 8000000
set_option linter.unusedVariables false
namespace Mine
noncomputable def ltB : List Stmt := bodyOf (stP 19)
noncomputable def ltSc : Scope := scopeOf (stP 19)
noncomputable abbrev ltEnv (L fa : Addr) (cd : Value) : Env := envOf (Str.ofString "_law_text") ltSc L fa cd
theorem lt_next {x y : Str} {q : Nat} (hx : x.length ≤ 4) (hq : q < 55360 ^ (4 - x.length)) (hp : 0 < q ∨ x.length = 0) (hy : y.length = 1) : x.length < 4 ∧ (x ++ y).length = x.length + 1 ∧ q / 55360 < 55360 ^ (4 - (x ++ y).length) := by
  have h4 : x.length < 4 := by
    rcases Nat.lt_or_ge x.length 4 with h | h
    · exact h
    · have e : x.length = 4 := by omega
      rw [e] at hq
      simp at hq
      omega
  have hl : (x ++ y).length = x.length + 1 := by rw [Str.length_append, hy]
  refine ⟨h4, hl, ?_⟩
  rw [hl]
  apply Nat.div_lt_of_lt_mul
  have e : 4 - x.length = (4 - (x.length + 1)) + 1 := by omega
  rw [e, Nat.pow_succ, Nat.mul_comm] at hq
  exact hq
theorem lt_menu : ∀ k : Fin 16, ∀ c ∈ (Txt.item (Str.ofString " \t\x0d\n=a.\u2028\u3000\u0100\u0085\x0c\u00e9\x00~b") ((k.val : Nat) : Int)).cps.toList, c < 1114112 := by decide +kernel
theorem lt_menuq (q : Nat) : ∀ c ∈ (Txt.item (Str.ofString " \t\x0d\n=a.\u2028\u3000\u0100\u0085\x0c\u00e9\x00~b") (((q : Int).fmod 55360).fmod 16)).cps.toList, c < 1114112 := by
  have e1 : (q : Int).fmod 55360 = ((q % 55360 : Nat) : Int) := by rw [Int.fmod_eq_emod_of_nonneg _ (by decide)]; omega
  have e2 : ((q % 55360 : Nat) : Int).fmod 16 = ((q % 55360 % 16 : Nat) : Int) := by rw [Int.fmod_eq_emod_of_nonneg _ (by decide)]; omega
  rw [e1, e2]
  exact lt_menu ⟨q % 55360 % 16, by omega⟩
theorem lt_all {x y : Str} (h1 : ∀ c ∈ x.cps.toList, c < 1114112) (h2 : ∀ c ∈ y.cps.toList, c < 1114112) : ∀ c ∈ (x ++ y).cps.toList, c < 1114112 := by
  intro c hc
  rw [Str.cps_append, Array.toList_append] at hc
  rcases List.mem_append.mp hc with h | h
  · exact h1 c h
  · exact h2 c h
theorem lt_one {k : Nat} (h : k < 1114112) : ∀ c ∈ (⟨#[k]⟩ : Str).cps.toList, c < 1114112 := by
  intro c hc
  rw [List.mem_singleton.mp hc]
  exact h
theorem lt_div (q : Nat) : (q : Int).fdiv 55360 = ((q / 55360 : Nat) : Int) := by rw [Int.fdiv_eq_ediv_of_nonneg _ (by decide)]; omega
theorem ne_empty {x : Str} (h : (x == Str.ofString "") = false) : x.cps ≠ #[] := by
  intro e
  have : x = Str.ofString "" := Str.ext' (by rw [e]; decide +kernel)
  rw [this] at h
  exact absurd h (by decide +kernel)
local macro_rules | `(tactic| walk_at "loadName") => `(tactic| (k_here; k_dflt (refine wpAny_loadName_local (env := envOf _ _ _ _ _) rfl rfl (Fr.ns (by k_asm)) (by first | rfl | assumption) ?_)))
local macro_rules | `(tactic| walk_at "eval Name") => `(tactic| (k_here; k_dflt (refine' nameX_L ?F ?v ?_ ?a ?b; (case F => k_asm); (case a => rfl); (case b => rfl); (case v => first | rfl | assumption); k_whole)))
theorem ltW : ∀ (w : World) (dp un : Nat) (gd : Option (List Code)) (A₀ : Around) (base h₀ : Heap) (outer : List Env) (L fa : Addr) (cd : Value) (m mg mb : Str → Option Value) (mean : ExcName → Option Value) (lo : List Str) (news : List (Addr × Obj)) (s : Shared) (Q : Flow → Shared → Prop)
    (_ : Below A₀ base outer h₀) (_ : Fr h₀ L s.heap m) (_ : (KK w.params).In h₀) (_ : News h₀ L s.heap news) (_ : Top qv lo mean mg mb h₀) (_ : dp < 850) (_ : un < 95) (r : Nat) (t1 t2 : Tok)
    (_ : m (Str.ofString "signs") = some (.str (Str.ofString "") t1)) (_ : m (Str.ofString "rest") = some (.int (r : Int) t2)) (_ : r < 55360 ^ 4)
    (_ : ∀ h' tk m' x t, Fr h₀ L h' m' → News h₀ L h' news → m' (Str.ofString "signs") = some (.str x t) → x.length ≤ 4 → x.cps ≠ #[] → (∀ c ∈ x.cps.toList, c < 1114112) → Q .next { s with heap := h', toks := tk }),
    wpAny (model PySem.Challenge.rw_dm0096_03.row.prog w) ⟨none, dp, some (ltEnv L fa cd :: outer), gd, un⟩ (execs ((ltB.drop 2).take 1) (ltEnv L fa cd)) Q (fun _ _ => False) s := by
  k_fill
  intro w dp un gd A₀ base h₀ outer L fa cd m mg mb mean lo news s Q B F X N T hd hu r t1 t2 hs hr hb hret
  rw [show (ltB.drop 2).take 1 = [_] from rfl]
  unfold ltEnv
  rw [show ltSc = Scope.mk _ _ _ _ _ from rfl]
  refine wpAny_execs_cons ?_
  refine While_inv (fun c m' nw => nw = news ∧ ∃ (x : Str) (q : Nat) (u1 u2 : Tok), m' (Str.ofString "signs") = some (.str x u1) ∧ m' (Str.ofString "rest") = some (.int (q : Int) u2) ∧ x.length ≤ 4 ∧ q < 55360 ^ (4 - x.length) ∧ (∀ c ∈ x.cps.toList, c < 1114112) ∧ c = 4 - x.length) (n₀ := 4) F N ⟨rfl, _, _, _, _, hs, hr, by decide +kernel, hb, fun c hc => absurd hc (by decide +kernel +revert), by decide +kernel⟩ ?_
  rintro c m₁ nw h₁ tk₁ F₁ N₁ ⟨rfl, x, q, u1, u2, h1, h2, hx, hq, hc, rfl⟩
  clear hs hr F N
  k_steps
  · obtain ⟨n1, n2, n3⟩ := lt_next hx hq (.inl (by omega)) (show (Txt.item _ (((q : Int).fmod 55360).fmod 16)).length = 1 by assumption)
    refine WhileStep.intro (n' := 4 - (x.length + 1)) (by assumption) (cb_drop (by assumption) (fun p hp => .tail _ hp)) (by omega) ⟨rfl, _, q / 55360, _, _, rfl, by show some (Value.int ((q : Int).fdiv 55360) _) = _; rw [lt_div], by omega, n3, lt_all hc (lt_menuq q), by rw [n2]⟩
  · obtain ⟨n1, n2, n3⟩ := lt_next hx hq (.inl (by omega)) (show (⟨#[((q : Int).fmod 55360 - 64).toNat]⟩ : Str).length = 1 from rfl)
    have hf := Int.fmod_lt_of_pos (q : Int) (show (0 : Int) < 55360 by decide)
    refine WhileStep.intro (n' := 4 - (x.length + 1)) (by assumption) (cb_drop (by assumption) (fun p hp => .tail _ hp)) (by omega) ⟨rfl, _, q / 55360, _, _, rfl, by show some (Value.int ((q : Int).fdiv 55360) _) = _; rw [lt_div], by omega, n3, lt_all hc (lt_one (by omega)), by rw [n2]⟩
  · have hx0 : x.length = 0 := by rw [eq_of_beq (show (x == Str.ofString "") = true by assumption)]; decide +kernel
    obtain ⟨n1, n2, n3⟩ := lt_next hx hq (.inr hx0) (show (Txt.item _ (((q : Int).fmod 55360).fmod 16)).length = 1 by assumption)
    refine WhileStep.intro (n' := 4 - (x.length + 1)) (by assumption) (cb_drop (by assumption) (fun p hp => .tail _ hp)) (by omega) ⟨rfl, _, q / 55360, _, _, rfl, by show some (Value.int ((q : Int).fdiv 55360) _) = _; rw [lt_div], by omega, n3, lt_all hc (lt_menuq q), by rw [n2]⟩
  · exact hret _ _ _ _ _ (by assumption) (by assumption) h1 hx (ne_empty (by assumption)) hc
theorem lt_call : ∀ (w : World) (A A₀ : Around) (base h₀ : Heap) (env : Env) (outer : List Env) (L : Addr) (m mg mb : Str → Option Value) (mean : ExcName → Option Value) (lo : List Str) (news : List (Addr × Obj)) (s : Shared) (Q E : Value → Shared → Prop)
    (_ : Below A₀ base outer h₀) (_ : Fr h₀ L s.heap m) (_ : (KK w.params).In h₀) (_ : News h₀ L s.heap news) (_ : Top qv lo mean mg mb h₀)
    (_ : A.frames = some (env :: outer)) (_ : env.frame = some L) (_ : env.scope.kind = .function) (_ : A.depth < 800) (_ : A.units < 80) (_ : A.handled = none)
    (n : Int) (t : Tok)
    (_ : ∀ x t' tk h', x.length ≤ 4 → x.cps ≠ #[] → (∀ c ∈ x.cps.toList, c < 1114112) → Fr h₀ L h' m → News h₀ L h' news → Q (.str x t') { s with heap := h', toks := tk }),
    wpAny (model PySem.Challenge.rw_dm0096_03.row.prog w) A (call (.ref 57) [.int n t]) Q E s := by
  k_fill
  intro w A A₀ base h₀ env outer L m mg mb mean lo news s Q E B F X N T hA hf hke hd hu hh n t hret
  obtain ⟨ah, dp, fr, gd, un⟩ := A
  dsimp only at hA hd hu hh
  subst hh
  subst hA
  refine wpAny_call ?_
  refine' code_def B F X N T rfl hf hke ?k6 ?k7 ?k8 ?k9 ?kB ?_ ?c2 ?c3 ?c4 ?c5
  case k6 => k_is
  case k7 => k_is
  case k8 => exact Nat.lt_of_lt_of_le hd (by decide)
  case k9 => k_dflt (exact BindsTo.of_eq rfl)
  case c5 => decide
  case kB => k_dflt (exact locs rfl)
  case c2 => exact rfl
  case c3 => exact rfl
  case c4 => exact rfl
  intro g' L' h' FG' F' N' B' X' T'
  (try dsimp only); (try k_fold)
  show wpAny _ _ (execs ltB (ltEnv L' 57 (.ref 56))) _ _ _
  rw [show ltB = (ltB.drop 0).take 2 ++ ((ltB.drop 2).take 1 ++ (ltB.drop 3).take 1) from rfl]
  refine execs_app _ _ _ ?_
  rw [show (ltB.drop 0).take 2 = [_, _] from rfl]
  unfold ltEnv
  rw [show ltSc = Scope.mk _ _ _ _ _ from rfl]
  k_steps
  have r0 := Int.fmod_nonneg_of_pos (if n < 0 then -n else n) (show (0 : Int) < 55360 ^ Int.toNat 4 by decide)
  have r1 := Int.fmod_lt_of_pos (if n < 0 then -n else n) (show (0 : Int) < 55360 ^ Int.toNat 4 by decide)
  show wpAny _ _ (execs (_ ++ _) _) _ _ _
  refine execs_app _ _ _ ?_
  refine wpAny_mono (E := fun _ _ => False) (ltW w _ _ _ _ _ _ _ _ _ _ _ _ _ _ _ _ _ _ B' (by assumption) X' (by k_asm) T' (by show dp + 1 < 850; omega) (by show un + 3 < 95; omega) ((if n < 0 then -n else n).fmod (55360 ^ Int.toNat 4)).toNat _ _ rfl (by show some (Value.int ((if n < 0 then -n else n).fmod (55360 ^ Int.toNat 4)) _) = _; rw [Int.toNat_of_nonneg r0]) ?_ fun h9 tk9 m9 x t9 F9 N9 hx1 hx2 hx3 hx4 => ?_) (fun _ _ h => h) (fun _ _ h => h.elim)
  · have e4 : (55360 : Int) ^ Int.toNat 4 = ((55360 ^ 4 : Nat) : Int) := by decide
    rw [e4] at r0 r1
    rw [e4]
    omega
  show wpAny _ _ (execs ((ltB.drop 3).take 1) _) _ _ _
  rw [show (ltB.drop 3).take 1 = [_] from rfl]
  k_steps
  exact hret _ _ _ _ hx2 hx3 hx4 (by k_asm) (by k_asm)
end Mine

open PySem PySem.W PyProof.Rows PySem.Calls
set_option Elab.async false
set_option maxRecDepth 100000
set_option maxHeartbeats 8000000
set_option linter.unusedVariables false
namespace Mine
section
open Builtin Builtin.Str
variable {prog : Program} {w : World} {A : Around} {E : Value → Shared → Prop} {s : Shared} {x y z : Str} {t u v : Tok} {Q : Value → Shared → Prop}
theorem replaceP (hu : 0 < u) (hv : 0 < v) (huv : u ≠ v) (hyz : (y == z) = false) (hx : x.length ≤ 1048576) (hz : z.length ≤ 14) (hs : 0 < s.toks)
    (hq : ∀ t' k, 0 < k → Q (.str (Txt.replace x y z) t') { s with toks := k }) : wpAny (model prog w) A (call (.builtin "str.replace") [.str x t, .str y u, .str z v]) Q E s := by
  have hb : x.length + (x.length + 1) * z.length ≤ 16777216 := by
    have h1 : (x.length + 1) * z.length ≤ (x.length + 1) * 14 := Nat.mul_le_mul_left _ hz
    omega
  have e : (2 : Nat) ^ 24 = 16777216 := by decide
  have hl : tooLong (x.length + (occurrences x y 0 x.length (x.length + 1)).length * z.length) = false := by
    have h1 := StrLaws.occ_length_le x y 0 x.length (x.length + 1)
    have h2 : (occurrences x y 0 x.length (x.length + 1)).length * z.length ≤ (x.length + 1) * z.length := Nat.mul_le_mul_right _ h1
    unfold tooLong sizeLine
    exact decide_eq_false (by omega)
  have hu' : u ≠ 0 := Nat.ne_of_gt hu
  have hv' : v ≠ 0 := Nat.ne_of_gt hv
  refine call_gives F.slot_str_replace (typeIs_str _ _ _) F.entry_str_replace (F.args_str_replace_3 _ _ _)
    (gives_str_replace x y z t u v fun _ => ⟨by simp [hu', hv'], by simp [huv], hyz, hl⟩) ?_
  have hq' := hq
  unfold Txt.replace at hq'
  cases hc : ((occurrences x y 0 x.length (x.length + 1)).isEmpty || (y.length == 0 && z.length == 0))
  · rw [hc] at hq'
    simp only [Bool.false_eq_true, if_false] at hq' ⊢
    exact ⟨fits_replaced y hb, hq' _ _ (Nat.succ_pos _)⟩
  · rw [hc] at hq'
    simp only [if_true] at hq' ⊢
    exact hq' t s.toks hs
theorem rep1_len : ∀ l : List Nat, (rep1 l).length ≤ l.length
  | [] => Nat.le_refl _
  | c :: r => by
    have := rep1_len r
    rw [rep1]
    split <;> simp <;> omega
theorem len_toL (x : Str) : x.length = x.cps.toList.length := by simp [Str.length]
theorem replaceC (hu : 0 < u) (hv : 0 < v) (huv : u ≠ v) (hx : x.length ≤ 1048576) (hs : 0 < s.toks)
    (hq : ∀ y' t' k, y'.cps.toList = rep1 x.cps.toList → y'.length ≤ x.length → 0 < k → Q (.str y' t') { s with toks := k }) : wpAny (model prog w) A (call (.builtin "str.replace") [.str x t, .str (Str.ofString "\x0d\n") u, .str (Str.ofString "\n") v]) Q E s := by
  refine replaceP hu hv huv (by decide +kernel) hx (by decide +kernel) hs fun t' k hk => ?_
  have e1 : (Txt.replace x (Str.ofString "\x0d\n") (Str.ofString "\n")).cps.toList = rep1 x.cps.toList := by
    rw [show Str.ofString "\x0d\n" = ⟨#[13, 10]⟩ from by decide +kernel, show Str.ofString "\n" = ⟨#[10]⟩ from by decide +kernel]
    exact replace_crlf x
  refine hq _ _ _ e1 ?_ hk
  rw [len_toL, len_toL x, e1]
  exact rep1_len _
theorem replaceO (c d : Nat) (hy : y = ⟨#[c]⟩) (hz : z = ⟨#[d]⟩) (hu : 0 < u) (hv : 0 < v) (huv : u ≠ v) (hcd : c ≠ d) (hx : x.length ≤ 1048576) (hs : 0 < s.toks)
    (hq : ∀ y' t' k, y'.cps.toList = x.cps.toList.map (sub1 c d) → y'.length = x.length → 0 < k → Q (.str y' t') { s with toks := k }) : wpAny (model prog w) A (call (.builtin "str.replace") [.str x t, .str y u, .str z v]) Q E s := by
  subst hy hz
  have hyz : ((⟨#[c]⟩ : Str) == ⟨#[d]⟩) = false := by
    cases h : ((⟨#[c]⟩ : Str) == ⟨#[d]⟩)
    · rfl
    · have := congrArg (fun s : Str => s.cps.toList) (eq_of_beq h)
      simp at this
      exact absurd this hcd
  refine replaceP hu hv huv hyz hx (by show (1 : Nat) ≤ 14; decide) hs fun t' k hk => ?_
  have e1 := replace_toL x c d
  refine hq _ _ _ e1 ?_ hk
  rw [len_toL, len_toL x, e1]
  simp
theorem split_own {h₀ : Heap} {L : Addr} {m : Str → Option Value} {news : List (Addr × Obj)} (F : Fr h₀ L s.heap m) (N : News h₀ L s.heap news) (d : Nat) (hy : y = ⟨#[d]⟩) (hx : x.length ≤ 100000)
    (h : ∀ D ts h' k, tl ts = spl d x.cps.toList → (∀ p ∈ news, p.1 < D) → (∀ p ∈ news, p.1 ≠ D) → Fr h₀ L h' m → News h₀ L h' ((D, lobj (tv ts) 0) :: news) → Q (.ref D) { s with heap := h', toks := k }) :
    wpAny (model prog w) A (call (.builtin "str.split") [.str x t, .str y u]) Q E s := by
  subst hy
  refine splitN1 F N (by rfl) (fun l h' k e F' N' => h _ l h' k ?_ (fun p hp => Heap.lt_size (N p hp).1) (fun p hp => Nat.ne_of_lt (Heap.lt_size (N p hp).1)) F' N') (by rw [sizeLine_eq]; omega)
  rw [← split_toL, ← e]
  simp [tl]
theorem tv_ne {ts : List (Str × Tok)} (h : ts ≠ []) : ∃ y t, tv ts = tv ts.dropLast ++ [Value.str y t] := by
  rcases List.eq_nil_or_concat ts with e | ⟨ti, ⟨y, t⟩, e⟩
  · exact absurd e h
  · rw [List.concat_eq_append] at e
    subst e
    exact ⟨y, t, by rw [tv_snoc, List.dropLast_concat]⟩
theorem pop_own {h₀ : Heap} {L D : Addr} {m : Str → Option Value} {rest : List (Addr × Obj)} {ts : List (Str × Tok)} {n : Nat} (F : Fr h₀ L s.heap m) (N : News h₀ L s.heap ((D, lobj (tv ts) n) :: rest)) (hne : ∀ p ∈ rest, p.1 ≠ D) (hts : ts ≠ []) (hz : ts.length ≤ 100000)
    (h : ∀ y t' h', Fr h₀ L h' m → News h₀ L h' ((D, lobj (tv ts.dropLast) (n + 1)) :: rest) → Q (.str y t') { s with heap := h' }) : wpAny (model prog w) A (call (.builtin "list.pop") [.ref D]) Q E s := by
  obtain ⟨y, t', e⟩ := tv_ne hts
  have hz2 : (tv ts).length ≤ 100000 := by simpa [tv] using hz
  rw [e] at hz2
  rw [e] at N
  have z := N (D, lobj (tv ts.dropLast ++ [Value.str y t']) n) (.head _)
  have hk : (tv ts.dropLast ++ [Value.str y t']).toArray.size - 1 = (tv ts.dropLast).length := by rw [List.size_toArray, List.length_append]; rfl
  refine call_meets PySem.F.slot_list_pop ⟨_, z.1, rfl⟩ PySem.F.entry_list_pop (PySem.F.args_list_pop_1 _) (PySem.MeetsSeq.list_pop_last D _ n (.str y t') (by rw [hk]; simp) (by rw [sizeLine_eq]; simp at hz2 ⊢; omega)) ⟨z.1, h y t' _ (F.change (Heap.SameBut.update ..) z.2.1 z.2.2) (kl_turn (pre := []) _ N (fun p hp => nomatch hp) hne ?_ ?_)⟩
  · show (tv ts.dropLast ++ [Value.str y t']).toArray.eraseIdxIfInBounds ((tv ts.dropLast ++ [Value.str y t']).toArray.size - 1) = (tv ts.dropLast).toArray
    rw [hk, kl_erase, List.append_nil]
  · rw [List.size_toArray, List.size_toArray, List.length_append]
    simp
theorem item_lastS {x : Str} {l : List Nat} {c : Nat} (h : x.cps.toList = l ++ [c]) : Txt.item x (-1) = ⟨#[c]⟩ := by
  have hl : x.length = l.length + 1 := by rw [len_toL, h]; simp
  unfold Txt.item Txt.charAt
  rw [StrLaws.at_neg (x := x) (i := -1) (n := c) (by decide) (by omega)]
  · rfl
  · have e : (-1 + (x.length : Int)).toNat = l.length := by omega
    rw [e, ← Array.getElem?_toList, h]
    simp
theorem in_lit (lit : Str) (c : Nat) : (occurrences lit ⟨#[c]⟩ 0 lit.length 1).isEmpty = !decide (c ∈ lit.cps.toList) := by
  rw [← StrLaws.found_one, Bool.not_not]
theorem nonempty_last {x : Str} (h : 1 ≤ x.length) : ∃ l c, x.cps.toList = l ++ [c] := by
  rcases List.eq_nil_or_concat x.cps.toList with e | ⟨l, c, e⟩
  · rw [len_toL, e] at h
    simp at h
  · exact ⟨l, c, by rw [e, List.concat_eq_append]⟩
theorem cut_of {x y1 y2 y3 y4 : Str} (h1 : y1.cps.toList = rep1 x.cps.toList) (h2 : y2.cps.toList = y1.cps.toList.map (sub1 13 10)) (h3 : y3.cps.toList = y2.cps.toList.map (sub1 8232 10)) (h4 : y4.cps.toList = y3.cps.toList.map (sub1 8233 10)) :
    spl 10 y4.cps.toList = cutL x.cps.toList := by
  rw [h4, h3, h2, h1, List.map_map, List.map_map]
  rfl
theorem spl_len (d : Nat) : ∀ l : List Nat, (spl d l).length ≤ l.length + 1
  | [] => Nat.le_refl _
  | c :: r => by
    have := spl_len d r
    rw [spl]
    split
    · simp; omega
    · cases h : spl d r with
      | nil => simp [prepH]
      | cons a b => rw [h] at this; simp [prepH] at this ⊢; omega
theorem tl_len (ts : List (Str × Tok)) : (tl ts).length = ts.length := by simp [tl]
theorem tl_ne {ts : List (Str × Tok)} {d : Nat} {l : List Nat} (h : tl ts = spl d l) : ts ≠ [] := by
  rintro rfl
  exact spl_ne d l h.symm
theorem tl_le {ts : List (Str × Tok)} {d : Nat} {y : Str} (h : tl ts = spl d y.cps.toList) : ts.length ≤ y.length + 1 := by
  have := spl_len d y.cps.toList
  rw [← h, tl_len] at this
  rw [len_toL]
  exact this
theorem tl_drop (ts : List (Str × Tok)) : tl ts.dropLast = (tl ts).dropLast := by simp [tl]
theorem far_in {x : Str} {l : List Nat} {c : Nat} (h : x.cps.toList = l ++ [c]) {b : Bool} (hb : (occurrences (Str.ofString "\u2028\u2029") (Txt.item x (-1)) 0 (Str.ofString "\u2028\u2029").length 1).isEmpty = b) : b = !decide (c = 8232 ∨ c = 8233) := by
  rw [← hb, item_lastS h, in_lit, show decide (c ∈ (Str.ofString "\u2028\u2029").cps.toList) = decide (c = 8232 ∨ c = 8233) from by rw [show (Str.ofString "\u2028\u2029").cps.toList = [8232, 8233] from by decide +kernel]; simp]
theorem lawLn_nil : lawLn [] = cutL [] := rfl
theorem lawLn_no {x : Str} {l : List Nat} {c : Nat} (h : x.cps.toList = l ++ [c]) (hc : c ≠ 8232 ∧ c ≠ 8233) : lawLn x.cps.toList = cutL x.cps.toList := by
  unfold lawLn
  rw [h, List.getLast?_concat, if_neg (by simp; omega)]
theorem lawLn_yes {x : Str} {l : List Nat} {c : Nat} (h : x.cps.toList = l ++ [c]) (hc : c = 8232 ∨ c = 8233) : lawLn x.cps.toList = (cutL x.cps.toList).dropLast := by
  unfold lawLn
  rw [h, List.getLast?_concat, if_pos (by simp; omega)]
end
local macro_rules | `(tactic| walk_at "call builtin:str.split") => `(tactic| (k_here; refine split_own (by k_asm) (by k_asm) 10 (by decide +kernel) (by omega) ?_; intro _ _ _ _ _ _ _ _ _))
local macro_rules | `(tactic| walk_at "call builtin:list.pop") => `(tactic| (k_here; refine pop_own (by k_asm) (by k_asm) (by assumption) (tl_ne (by assumption)) (Nat.le_trans (tl_le (by assumption)) (by omega)) ?_; intro y9 t9 h9 F9 N9))
local macro_rules | `(tactic| walk_at "call builtin:str.replace") => `(tactic| (k_here; (try dsimp only [List.cons_append, List.nil_append]); (with_reducible first
  | refine replaceC (by first | assumption | exact Nat.succ_pos _) (Nat.succ_pos _) (Nat.ne_of_lt (Nat.lt_succ_self _)) (by omega) (Nat.succ_pos _) ?_
  | refine replaceO 13 10 (by decide +kernel) (by decide +kernel) (by first | assumption | exact Nat.succ_pos _) (Nat.succ_pos _) (Nat.ne_of_lt (Nat.lt_succ_self _)) (by decide) (by omega) (Nat.succ_pos _) ?_
  | refine replaceO 8232 10 (by decide +kernel) (by decide +kernel) (by first | assumption | exact Nat.succ_pos _) (Nat.succ_pos _) (Nat.ne_of_lt (Nat.lt_succ_self _)) (by decide) (by omega) (Nat.succ_pos _) ?_
  | refine replaceO 8233 10 (by decide +kernel) (by decide +kernel) (by first | assumption | exact Nat.succ_pos _) (Nat.succ_pos _) (Nat.ne_of_lt (Nat.lt_succ_self _)) (by decide) (by omega) (Nat.succ_pos _) ?_); intro _ _ _ _ _ _))
noncomputable def llB : List Stmt := bodyOf (stP 20)
noncomputable def llSc : Scope := scopeOf (stP 20)
noncomputable abbrev llEnv (L fa : Addr) (cd : Value) : Env := envOf (Str.ofString "_law_lines") llSc L fa cd
local macro_rules | `(tactic| walk_at "execs nil") => `(tactic| (k_here; with_reducible refine wpAny_execs_nil ?_))
local macro_rules | `(tactic| walk_at "execs cons") => `(tactic| (k_here; with_reducible refine wpAny_execs_cons ?_))
theorem ll_call : ∀ (w : World) (A A₀ : Around) (base h₀ : Heap) (env : Env) (outer : List Env) (L : Addr) (m mg mb : Str → Option Value) (mean : ExcName → Option Value) (lo : List Str) (news : List (Addr × Obj)) (s : Shared) (Q E : Value → Shared → Prop)
    (_ : Below A₀ base outer h₀) (_ : Fr h₀ L s.heap m) (_ : (KK w.params).In h₀) (_ : News h₀ L s.heap news) (_ : Top qv lo mean mg mb h₀)
    (_ : A.frames = some (env :: outer)) (_ : env.frame = some L) (_ : env.scope.kind = .function) (_ : A.depth < 900) (_ : A.units < 100) (_ : A.handled = none)
    (x : Str) (t : Tok) (_ : x.length ≤ 1000)
    (_ : ∀ D ts n tk h', tl ts = lawLn x.cps.toList → Fr h₀ L h' m → News h₀ L h' ((D, lobj (tv ts) n) :: news) → (∀ p ∈ news, p.1 < D) → Q (.ref D) { s with heap := h', toks := tk }),
    wpAny (model PySem.Challenge.rw_dm0096_03.row.prog w) A (call (.ref 64) [.str x t]) Q E s := by
  k_fill
  intro w A A₀ base h₀ env outer L m mg mb mean lo news s Q E B F X N T hA hf hke hd hu hh x t hx hret
  obtain ⟨ah, dp, fr, gd, un⟩ := A
  dsimp only at hA hd hu hh
  subst hh
  subst hA
  refine wpAny_call ?_
  refine' code_def B F X N T rfl hf hke ?k6 ?k7 ?k8 ?k9 ?kB ?_ ?c2 ?c3 ?c4 ?c5
  case k6 => k_is
  case k7 => k_is
  case k8 => exact Nat.lt_of_lt_of_le hd (by decide)
  case k9 => k_dflt (exact BindsTo.of_eq rfl)
  case c5 => decide
  case kB => k_dflt (exact locs rfl)
  case c2 => exact rfl
  case c3 => exact rfl
  case c4 => exact rfl
  intro g' L' h' FG' F' N' B' X' T'
  (try dsimp only); (try k_fold)
  have htk : 0 < s.toks + 1 := Nat.succ_pos _
  show wpAny _ _ _ _ _ { s with heap := h', toks := s.toks + 1 }
  generalize s.toks + 1 = tk0 at htk ⊢
  show wpAny _ _ (execs llB (llEnv L' 64 (.ref 63))) _ _ _
  rw [show llB = (llB.drop 0).take 1 ++ (llB.drop 1).take 3 from rfl]
  refine execs_app _ _ _ ?_
  rw [show (llB.drop 0).take 1 = [_] from rfl]
  unfold llEnv
  rw [show llSc = Scope.mk _ _ _ _ _ from rfl]
  refine wpAny_execs_cons ?_
  k_steps
  show wpAny _ _ (execs ((llB.drop 1).take 3) _) _ _ _
  rw [show (llB.drop 1).take 3 = [_, _, _] from rfl]
  refine wpAny_execs_cons ?_
  dsimp only
  k_steps
  · obtain ⟨l9, c9, hlc⟩ := nonempty_last (by assumption : 1 ≤ x.length)
    have hb := far_in hlc (by assumption)
    have hc : ¬ (c9 = 8232 ∨ c9 = 8233) := by simpa using hb
    refine hret _ _ _ _ _ ?_ (by k_asm) (by k_asm) (by assumption)
    rw [lawLn_no hlc (by omega), ← cut_of (by assumption) (by assumption) (by assumption) (by assumption)]
    assumption
  · obtain ⟨l9, c9, hlc⟩ := nonempty_last (by assumption : 1 ≤ x.length)
    have hb := far_in hlc (by assumption)
    have hc : c9 = 8232 ∨ c9 = 8233 := by simp at hb; omega
    refine hret _ _ _ _ _ ?_ (by k_asm) (by k_asm) (by assumption)
    rw [lawLn_yes hlc hc, ← cut_of (by assumption) (by assumption) (by assumption) (by assumption), tl_drop]
    congr 1
  · have hx0 : x = Str.ofString "" := by
      have h0 : (x != Str.ofString "") = false := by assumption
      simpa using h0
    refine hret _ _ _ _ _ ?_ (by k_asm) (by k_asm) (by assumption)
    have hc : lawLn x.cps.toList = cutL x.cps.toList := by rw [hx0]; decide +kernel
    rw [hc, ← cut_of (by assumption) (by assumption) (by assumption) (by assumption)]
    assumption
end Mine

open PySem PySem.W PyProof.Rows PySem.Calls
set_option Elab.async false
set_option maxRecDepth 100000
set_option maxHeartbeats 8000000
set_option linter.unusedVariables false
namespace Mine
noncomputable def lrB : List Stmt := bodyOf (stP 22)
noncomputable def lrSc : Scope := scopeOf (stP 22)
noncomputable abbrev lrEnv (L fa : Addr) (cd : Value) : Env := envOf (Str.ofString "_law_rows") lrSc L fa cd
theorem app_snoc (room : Nat) (ti : List (Str × Tok)) (y : Str) (ty : Tok) (x : List Nat) : app room (tl (ti ++ [(y, ty)])) x = if y.length + x.length ≤ room then tl ti ++ [y.cps.toList ++ x] else tl (ti ++ [(y, ty)]) ++ [x] := by
  rw [tl_snoc]
  simp [app, Str.length]
local macro_rules | `(tactic| walk_at "loadName") => `(tactic| (k_here; k_dflt (refine wpAny_loadName_local (env := envOf _ _ _ _ _) rfl rfl (Fr.ns (by k_asm)) (by first | rfl | assumption) ?_)))
local macro_rules | `(tactic| walk_at "eval Name") => `(tactic| (k_here; k_dflt (refine' nameX_L ?F ?v ?_ ?a ?b; (case F => k_asm); (case a => rfl); (case b => rfl); (case v => first | rfl | assumption); k_whole)))
local macro_rules | `(tactic| k_upd) => `(tactic| exact Upd.head (by assumption))
local macro_rules | `(tactic| walk_at "call builtin:list.append") => `(tactic| (k_here; refine append_own (by k_asm) (by k_asm) (by k_upd) (by first | decide | assumption | (simp only [List.length_append, List.length_cons, List.length_nil]; omega)) ?_; intro h' F' N'; (try k_sweep)))
local macro_rules | `(tactic| walk_at "getItem ref int") => `(tactic| (k_here; refine get_last (by k_asm) (by k_mem) ?_))
local macro_rules | `(tactic| walk_at "setItem ref int") => `(tactic| (k_here; refine set_last (by k_asm) (by k_asm) (by k_upd) ?_; intro h' F' N'; (try k_sweep)))
local macro_rules | `(tactic| walk_at "subscriptTail") => `(tactic| (k_here; (with_reducible show wpAny _ _ (subscriptTail _ _ (Value.ref _) (Value.int _ _)) _ _ _); with_unfolding_all refine sub_last (by k_asm) (by k_mem) ?_))
theorem turnR : ∀ (w : World) (dp un : Nat) (gd : Option (List Code)) (A₀ : Around) (base h₀ : Heap) (outer : List Env) (L fa : Addr) (cd : Value) (m mg mb : Str → Option Value) (mean : ExcName → Option Value) (lo : List Str) (news : List (Addr × Obj)) (s : Shared) (Q : Flow → Shared → Prop)
    (_ : Below A₀ base outer h₀) (_ : Fr h₀ L s.heap m) (_ : (KK w.params).In h₀) (_ : News h₀ L s.heap news) (_ : Top qv lo mean mg mb h₀) (_ : dp < 850) (_ : un < 95) (c n : Nat) (t1 t2 : Tok) (D : Addr) (ti : List (Str × Tok)) (y : Str) (ty : Tok) (q : Nat) (rest : List (Addr × Obj))
    (_ : m (Str.ofString "sign") = some (.str ⟨#[c]⟩ t1)) (_ : m (Str.ofString "length") = some (.int (n : Int) t2)) (_ : m (Str.ofString "rows") = some (.ref D)) (_ : c < 1114112) (_ : 4 ≤ n)
    (_ : news = (D, lobj (tv (ti ++ [(y, ty)])) q) :: rest) (_ : ∀ p ∈ rest, p.1 ≠ D) (_ : ti.length ≤ 90000) (_ : y.length ≤ 100000)
    (_ : ∀ h' tk m' ts' q', tl ts' = app (n - 1) (tl (ti ++ [(y, ty)])) (pieceP c) → Fr h₀ L h' m' → News h₀ L h' ((D, lobj (tv ts') q') :: rest) → (∀ y, y ≠ Str.ofString "piece" → m' y = m y) → Q .next { s with heap := h', toks := tk }),
    wpAny (model PySem.Challenge.rw_dm0096_03.row.prog w) ⟨none, dp, some (lrEnv L fa cd :: outer), gd, un⟩ (execs (forB lrB[1]?) (lrEnv L fa cd)) Q (fun _ _ => False) s := by
  k_fill
  intro w dp un gd A₀ base h₀ outer L fa cd m mg mb mean lo news s Q B F X N T hd hu c n t1 t2 D ti y ty q rest hms hml hmr hc hn hnews hne hti hy hret
  subst hnews
  rw [tv_snoc] at N
  have hvi : (tv ti).length ≤ 90000 := by simpa [tv] using hti
  rw [show forB lrB[1]? = [_, _] from rfl]
  unfold lrEnv
  rw [show lrSc = Scope.mk _ _ _ _ _ from rfl]
  k_steps
  refine lp_call _ _ _ _ _ _ _ _ _ _ _ _ _ _ _ _ _ (by k_asm) (by k_asm) (by k_asm) (by k_asm) (by k_asm) rfl rfl rfl (by dsimp only; omega) (by dsimp only; omega) rfl c _ hc fun p t' tk h' hp F' N' => ?_
  have hpl : p.length ≤ 3 := by rw [show p.length = p.cps.toList.length from by simp [Str.length], hp]; unfold pieceP; split <;> simp
  k_steps
  · refine hret _ _ _ (ti ++ [(y ++ p, _)]) _ ?_ (by assumption) (by rw [tv_snoc]; assumption) (fun z hz => if_neg hz)
    rw [app_snoc, ← hp, if_pos (by have : p.length = p.cps.toList.length := by simp [Str.length]
                                   omega), tl_snoc, Str.cps_append, Array.toList_append]
  · refine hret _ _ _ (ti ++ [(y, ty)] ++ [(p, _)]) _ ?_ (by assumption) (by rw [tv_snoc, tv_snoc]; assumption) (fun z hz => if_neg hz)
    rw [app_snoc, ← hp, if_neg (by have : p.length = p.cps.toList.length := by simp [Str.length]
                                   omega), tl_snoc]
end Mine

open PySem PySem.W PyProof.Rows PySem.Calls
set_option Elab.async false
set_option maxRecDepth 100000
set_option maxHeartbeats 8000000
set_option linter.unusedVariables false
namespace Mine
theorem app_flat (room : Nat) (ls : List (List Nat)) (x : List Nat) : (app room ls x).flatten = ls.flatten ++ x := by
  unfold app
  split
  · rename_i h
    rw [List.getLast?_eq_none_iff.mp h]
    simp
  · rename_i y h
    split
    · have e : ls = ls.dropLast ++ [y] := by
        obtain ⟨l, e⟩ := List.getLast?_eq_some_iff.mp h
        rw [e]; simp
      conv => rhs; rw [e]
      simp
    · simp
theorem app_len (room : Nat) (ls : List (List Nat)) (x : List Nat) : (app room ls x).length ≤ ls.length + 1 := by
  unfold app
  split
  · simp
  · split
    · simp
    · simp
theorem fold_flat (room : Nat) : ∀ (xs ls : List (List Nat)), (xs.foldl (app room) ls).flatten = ls.flatten ++ xs.flatten
  | [], ls => by simp
  | x :: r, ls => by rw [List.foldl_cons, fold_flat room r, app_flat]; simp
theorem fold_len (room : Nat) : ∀ (xs ls : List (List Nat)), (xs.foldl (app room) ls).length ≤ ls.length + xs.length
  | [], ls => by simp
  | x :: r, ls => by
    rw [List.foldl_cons]
    have := fold_len room r (app room ls x)
    have := app_len room ls x
    simp only [List.length_cons]
    omega
theorem fold_ne (room : Nat) : ∀ (xs ls : List (List Nat)), ls ≠ [] → xs.foldl (app room) ls ≠ []
  | [], ls, h => h
  | x :: r, ls, h => by rw [List.foldl_cons]; exact fold_ne room r _ (app_ne room ls x)
theorem mem_flat {x : List Nat} : ∀ {ls : List (List Nat)}, x ∈ ls → x.length ≤ ls.flatten.length
  | a :: r, h => by
    rw [List.flatten_cons, List.length_append]
    rcases List.mem_cons.mp h with rfl | h
    · omega
    · have := mem_flat h
      omega
theorem piece_le (c : Nat) : (pieceP c).length ≤ 3 := by unfold pieceP; split <;> simp
theorem pieces_len : ∀ l : List Nat, (l.map pieceP).flatten.length ≤ 3 * l.length
  | [] => by simp
  | c :: r => by
    have := pieces_len r
    have := piece_le c
    rw [List.map_cons, List.flatten_cons, List.length_append, List.length_cons]
    omega
def rowsF (n : Nat) (l : List Nat) : List (List Nat) := (l.map pieceP).foldl (app (n - 1)) [[]]
theorem rowsF_len (n : Nat) (l : List Nat) : (rowsF n l).length ≤ l.length + 1 := by
  have := fold_len (n - 1) (l.map pieceP) [[]]
  simp at this
  unfold rowsF
  omega
theorem rowsF_mem (n : Nat) (l : List Nat) {x : List Nat} (h : x ∈ rowsF n l) : x.length ≤ 3 * l.length := by
  have h1 := mem_flat h
  unfold rowsF at h1
  rw [fold_flat] at h1
  have h2 := pieces_len l
  simp only [List.flatten_cons, List.flatten_nil, List.append_nil, List.nil_append] at h1
  omega
theorem rowsF_ne (n : Nat) (l : List Nat) : rowsF n l ≠ [] := fold_ne _ _ _ (by simp)
theorem rowsF_step (n : Nat) (l : List Nat) (i c : Nat) (h : l[i]? = some c) : rowsF n (l.take (i + 1)) = app (n - 1) (rowsF n (l.take i)) (pieceP c) := by
  obtain ⟨hi, e⟩ := List.getElem?_eq_some_iff.mp h
  unfold rowsF
  rw [List.take_succ_eq_append_getElem hi, e, List.map_append, List.foldl_append]
  rfl
theorem ts_last {ts : List (Str × Tok)} (h : tl ts ≠ []) : ∃ ti y ty, ts = ti ++ [(y, ty)] := by
  rcases List.eq_nil_or_concat ts with e | ⟨ti, ⟨y, t⟩, e⟩
  · rw [e] at h; exact absurd rfl h
  · exact ⟨ti, y, t, by rw [e, List.concat_eq_append]⟩
theorem tl_mem {ts : List (Str × Tok)} {p : Str × Tok} (h : p ∈ ts) : p.1.cps.toList ∈ tl ts := List.mem_map.mpr ⟨p, h, rfl⟩
theorem tl_length (ts : List (Str × Tok)) : (tl ts).length = ts.length := by simp [tl]
theorem tl_init (t : Tok) : tl [(Str.ofString "", t)] = [[]] := by
  show [(Str.ofString "").cps.toList] = [[]]
  decide +kernel
local macro_rules | `(tactic| walk_at "loadName") => `(tactic| (k_here; k_dflt (refine wpAny_loadName_local (env := envOf _ _ _ _ _) rfl rfl (Fr.ns (by k_asm)) (by first | rfl | assumption) ?_)))
local macro_rules | `(tactic| walk_at "eval Name") => `(tactic| (k_here; k_dflt (refine' nameX_L ?F ?v ?_ ?a ?b; (case F => k_asm); (case a => rfl); (case b => rfl); (case v => first | rfl | assumption); k_whole)))
theorem loopR : ∀ (w : World) (dp un : Nat) (gd : Option (List Code)) (A₀ : Around) (base h₀ : Heap) (outer : List Env) (L fa : Addr) (cd : Value) (m mg mb : Str → Option Value) (mean : ExcName → Option Value) (lo : List Str) (news : List (Addr × Obj)) (s : Shared) (Q : Flow → Shared → Prop)
    (_ : Below A₀ base outer h₀) (_ : Fr h₀ L s.heap m) (_ : (KK w.params).In h₀) (_ : News h₀ L s.heap news) (_ : Top qv lo mean mg mb h₀) (_ : dp < 850) (_ : un < 95) (x : Str) (n : Nat) (t1 t2 t3 : Tok) (D : Addr) (q : Nat) (rest : List (Addr × Obj))
    (_ : m (Str.ofString "line") = some (.str x t1)) (_ : m (Str.ofString "length") = some (.int (n : Int) t2)) (_ : m (Str.ofString "rows") = some (.ref D)) (_ : ∀ c ∈ x.cps.toList, c < 1114112) (_ : 4 ≤ n) (_ : x.length ≤ 1000)
    (_ : news = (D, lobj [.str (Str.ofString "") t3] q) :: rest) (_ : ∀ p ∈ rest, p.1 < D)
    (_ : ∀ h' tk m' ts' q', tl ts' = rowsF n x.cps.toList → Fr h₀ L h' m' → News h₀ L h' ((D, lobj (tv ts') q') :: rest) → KeepOn [Str.ofString "line", Str.ofString "length", Str.ofString "rows"] m m' → Q .next { s with heap := h', toks := tk }),
    wpAny (model PySem.Challenge.rw_dm0096_03.row.prog w) ⟨none, dp, some (lrEnv L fa cd :: outer), gd, un⟩ (execs ((lrB.drop 1).take 1) (lrEnv L fa cd)) Q (fun _ _ => False) s := by
  k_fill
  intro w dp un gd A₀ base h₀ outer L fa cd m mg mb mean lo news s Q B F X N T hd hu x n t1 t2 t3 D q rest hmx hml hmr hxc hn hx hnews hne hret
  subst hnews
  rw [show (lrB.drop 1).take 1 = [_] from rfl]
  unfold lrEnv
  rw [show lrSc = Scope.mk _ _ _ _ _ from rfl]
  refine wpAny_execs_cons ?_
  refine For_turns F ?_
  k_steps
  have hlts : ∀ p ∈ (D, lobj [.str (Str.ofString "") t3] q) :: rest, p.1 < s.heap.objs.size := fun p hp => Heap.lt_size (N p hp).1
  have hDs : D < s.heap.objs.size := hlts _ (.head _)
  have hxl : x.length = x.cps.toList.length := by simp [Str.length]
  refine str_turns (fun i m' nw => ∃ ts q', nw = (D, lobj (tv ts) q') :: rest ∧ tl ts = rowsF n (x.cps.toList.take i) ∧ KeepOn [Str.ofString "line", Str.ofString "length", Str.ofString "rows"] m m')
    rfl F N ⟨[(Str.ofString "", t3)], q, rfl, tl_init t3, fun y _ => rfl⟩ (fun v s Q E I hQ => wpAny_pure hQ) ?_ ?_
  · rintro i c t' m₁ nw h₁ tk₁ own hown hci ⟨ts, q', rfl, hts, hkeep⟩ F₁ N₁
    refine hid ?_
    obtain ⟨hic, _⟩ := List.getElem?_eq_some_iff.mp hci
    obtain ⟨ti, y, ty, rfl⟩ := ts_last (by rw [hts]; exact rowsF_ne _ _)
    k_steps
    rename_i h3 F3 N3
    show wpAny _ _ _ _ _ _
    generalize hm3 : (fun z => if z = Str.ofString "sign" then some (Value.str ⟨#[c]⟩ t') else m₁ z) = m3 at F3
    have cc : ∀ y, y ≠ Str.ofString "sign" → m3 y = m₁ y := fun y hy => by rw [← hm3]; exact if_neg hy
    have hb1 := rowsF_len n (x.cps.toList.take i)
    rw [← hts, tl_length, List.length_append, List.length_singleton, List.length_take] at hb1
    have hb2 := rowsF_mem n (x.cps.toList.take i) (x := y.cps.toList) (by rw [← hts]; exact tl_mem (p := (y, ty)) (by simp))
    rw [List.length_take] at hb2
    have hyl : y.length = y.cps.toList.length := by simp [Str.length]
    refine turnR w dp un gd A₀ base h₀ outer L fa cd m3 mg mb mean lo _ _ _ B F3 X (swap_in N3) T hd hu c n t' t2 D ti y ty q' (own ++ rest)
      (by rw [← hm3]; exact if_pos rfl) ((cc _ (by decide +kernel)).trans ((hkeep _ (by decide +kernel)).trans hml)) ((cc _ (by decide +kernel)).trans ((hkeep _ (by decide +kernel)).trans hmr)) (hxc c (List.mem_of_getElem? hci)) hn rfl ?_ (by omega) (by omega) ?_
    · intro p hp
      rcases List.mem_append.mp hp with hp | hp
      · exact fun e => absurd (e ▸ hown p hp) (Nat.not_le.mpr hDs)
      · exact Nat.ne_of_lt (hne p hp)
    · intro h' tk m' ts' q9 htl F' N' ho'
      refine TurnEnd.next F' (swap_out N') (fun p hp => ?_) ⟨ts', q9, rfl, ?_, fun y hy => ?_⟩
      · rcases List.mem_cons.mp hp with rfl | hp
        · exact hDs
        · exact hlts p (.tail _ hp)
      · rw [htl, hts, rowsF_step n _ i c hci]
      · rw [ho' y (by rintro rfl; revert hy; decide +kernel), cc y (by rintro rfl; revert hy; decide +kernel)]
        exact hkeep y hy
  · rintro h' tk m' nw F' N' ⟨ts, q', rfl, hts, hkeep⟩
    k_steps
    rw [List.take_length] at hts
    exact hret _ _ _ _ _ hts F' N' hkeep
end Mine

open PySem PySem.W PyProof.Rows PySem.Calls
set_option Elab.async false
set_option maxRecDepth 100000
set_option maxHeartbeats 8000000
set_option linter.unusedVariables false
namespace Mine
section
variable {prog : Program} {w : World} {A : Around} {E : Value → Shared → Prop} {s : Shared} {h₀ : Heap} {L l : Addr} {m : Str → Option Value} {news : List (Addr × Obj)} {vi : List Value} {v v2 : Value} {n : Nat} {u : Tok}
theorem pop_snoc {Q : Value → Shared → Prop} {rest : List (Addr × Obj)} (F : Fr h₀ L s.heap m) (N : News h₀ L s.heap ((l, lobj (vi ++ [v]) n) :: rest)) (hne : ∀ p ∈ rest, p.1 ≠ l) (hz : vi.length ≤ 100000)
    (h : ∀ h', Fr h₀ L h' m → News h₀ L h' ((l, lobj vi (n + 1)) :: rest) → Q v { s with heap := h' }) : wpAny (model prog w) A (call (.builtin "list.pop") [.ref l]) Q E s := by
  have z := N (l, lobj (vi ++ [v]) n) (.head _)
  have hk : (vi ++ [v]).toArray.size - 1 = vi.length := by rw [List.size_toArray, List.length_append]; rfl
  refine call_meets PySem.F.slot_list_pop ⟨_, z.1, rfl⟩ PySem.F.entry_list_pop (PySem.F.args_list_pop_1 _) (PySem.MeetsSeq.list_pop_last l _ n v (by rw [hk]; simp) (by rw [sizeLine_eq]; simp; omega)) ⟨z.1, h _ (F.change (Heap.SameBut.update ..) z.2.1 z.2.2) (kl_turn (pre := []) _ N (fun p hp => nomatch hp) hne ?_ ?_)⟩
  · show (vi ++ [v]).toArray.eraseIdxIfInBounds ((vi ++ [v]).toArray.size - 1) = vi.toArray
    rw [hk, kl_erase, List.append_nil]
  · rw [List.size_toArray, List.size_toArray, List.length_append]
    simp
theorem get_last2 {Q : Value → Shared → Prop} (N : News h₀ L s.heap news) (hm : (l, lobj (vi ++ [v2] ++ [v]) n) ∈ news) (h : Q v2 s) : wpAny (model prog w) A (getItem (.ref l) (.int (-2) u)) Q E s := by
  refine wpAny_getItem_list_neg (isl_of N hm) (by decide) (by simp; omega) (by decide) ?_ h
  have e : ((-2 : Int) + (((vi ++ [v2] ++ [v]).toArray.size : Nat) : Int)).toNat = vi.length := by simp; omega
  rw [e]; simp
theorem sub_last2 {value slice : Expr} {Q : Value → Shared → Prop} (N : News h₀ L s.heap news) (hm : (l, lobj (vi ++ [v2] ++ [v]) n) ∈ news) (h : Q v2 s)
    (hs : subscripted slice false (.ref l) (.int (-2) u) = operate [.ref l, .int (-2) u] (getItem (.ref l) (.int (-2) u)) := by with_unfolding_all rfl) : wpAny (model prog w) A (subscriptTail value slice (.ref l) (.int (-2) u)) Q E s :=
  tail_any (isl_of N hm).typeIs slot_list_getitem.lookup (get_last2 N hm h) hs
end
theorem blank_in {x : Str} {l : List Nat} {c : Nat} (h : x.cps.toList = l ++ [c]) {b : Bool} (hb : (Builtin.Str.occurrences (Str.ofString " \t") (Txt.item x (-1)) 0 (Str.ofString " \t").length 1).isEmpty = b) : b = !decide (c = 32 ∨ c = 9) := by
  rw [← hb, item_lastS h, in_lit, show decide (c ∈ (Str.ofString " \t").cps.toList) = decide (c = 32 ∨ c = 9) from by rw [show (Str.ofString " \t").cps.toList = [32, 9] from by decide +kernel]; simp]
theorem blank_sp {x : Str} {l : List Nat} {c : Nat} (h : x.cps.toList = l ++ [c]) {b : Bool} (hb : (Txt.item x (-1) == Str.ofString " ") = b) : b = decide (c = 32) := by
  rw [← hb, item_lastS h, show Str.ofString " " = ⟨#[32]⟩ from by decide +kernel]
  apply Bool.eq_iff_iff.mpr
  rw [decide_eq_true_eq, beq_iff_eq]
  constructor
  · intro e
    have := congrArg (fun s : Str => s.cps.toList) e
    simpa using this
  · rintro rfl; rfl
theorem blk_of {x : List Nat} {l : List Nat} {c : Nat} (h : x = l ++ [c]) : blk x = if c = 32 then some [61, 50, 48] else if c = 9 then some [61, 48, 57] else none := by
  unfold blk
  rw [h, List.getLast?_concat]
  simp
theorem lawFin_A (n : Nat) (qt : List Nat) (ti : List (Str × Tok)) (y : Str) (ty : Tok) : lawFin n (some qt) (tl (ti ++ [(y, ty)])) = if y.length + 2 ≤ n then tl ti ++ [y.cps.toList.dropLast ++ qt] else tl (ti ++ [(y, ty)]) ++ [[]] := by
  rw [tl_snoc]
  unfold lawFin
  simp [Str.length]
theorem ne_of {x : Str} {l : List Nat} {c : Nat} (h : x.cps.toList = l ++ [c]) : (x != Str.ofString "") ≠ false := by
  intro e
  have h0 : x = Str.ofString "" := by simpa using e
  rw [h0, show (Str.ofString "").cps.toList = [] from by decide +kernel] at h
  simp at h
theorem blk_some {x : Str} (h : 1 ≤ x.length) (hb : (Builtin.Str.occurrences (Str.ofString " \t") (Txt.item x (-1)) 0 (Str.ofString " \t").length 1).isEmpty = false) : ¬ blk x.cps.toList = none := by
  obtain ⟨l, c, hlc⟩ := nonempty_last h
  have h1 := blank_in hlc hb
  have hc : c = 32 ∨ c = 9 := by simp at h1; omega
  rw [blk_of hlc]
  rcases hc with rfl | rfl <;> simp
local macro_rules | `(tactic| walk_at "loadName") => `(tactic| (k_here; k_dflt (refine wpAny_loadName_local (env := envOf _ _ _ _ _) rfl rfl (Fr.ns (by k_asm)) (by first | rfl | assumption) ?_)))
local macro_rules | `(tactic| walk_at "eval Name") => `(tactic| (k_here; k_dflt (refine' nameX_L ?F ?v ?_ ?a ?b; (case F => k_asm); (case a => rfl); (case b => rfl); (case v => first | rfl | assumption); k_whole)))
local macro_rules | `(tactic| k_upd) => `(tactic| exact Upd.head (by assumption))
local macro_rules | `(tactic| walk_at "call builtin:list.append") => `(tactic| (k_here; refine append_own (by k_asm) (by k_asm) (by k_upd) (by first | decide | assumption | (simp only [List.length_append, List.length_cons, List.length_nil]; omega)) ?_; intro h' F' N'; (try k_sweep)))
local macro_rules | `(tactic| walk_at "getItem ref int") => `(tactic| (k_here; refine get_last (by k_asm) (by k_mem) ?_))
local macro_rules | `(tactic| walk_at "setItem ref int") => `(tactic| (k_here; refine set_last (by k_asm) (by k_asm) (by k_upd) ?_; intro h' F' N'; (try k_sweep)))
local macro_rules | `(tactic| walk_at "subscriptTail") => `(tactic| (k_here; (with_reducible show wpAny _ _ (subscriptTail _ _ (Value.ref _) (Value.int _ _)) _ _ _); with_unfolding_all refine sub_last (by k_asm) (by k_mem) ?_))
theorem finA : ∀ (w : World) (dp un : Nat) (gd : Option (List Code)) (A₀ : Around) (base h₀ : Heap) (outer : List Env) (L fa : Addr) (cd : Value) (m mg mb : Str → Option Value) (mean : ExcName → Option Value) (lo : List Str) (news : List (Addr × Obj)) (s : Shared) (Q : Flow → Shared → Prop)
    (_ : Below A₀ base outer h₀) (_ : Fr h₀ L s.heap m) (_ : (KK w.params).In h₀) (_ : News h₀ L s.heap news) (_ : Top qv lo mean mg mb h₀) (_ : dp < 850) (_ : un < 95) (x : Str) (l : List Nat) (c n : Nat) (t1 t2 : Tok) (D : Addr) (ti : List (Str × Tok)) (y : Str) (ty : Tok) (q : Nat) (rest : List (Addr × Obj))
    (_ : m (Str.ofString "line") = some (.str x t1)) (_ : m (Str.ofString "length") = some (.int (n : Int) t2)) (_ : m (Str.ofString "rows") = some (.ref D)) (_ : 4 ≤ n) (_ : x.length ≤ 1000) (_ : x.cps.toList = l ++ [c]) (_ : c = 32 ∨ c = 9)
    (_ : news = (D, lobj (tv (ti ++ [(y, ty)])) q) :: rest) (_ : ∀ p ∈ rest, p.1 ≠ D) (_ : ti.length ≤ 90000) (_ : y.length ≤ 100000)
    (_ : ∀ h' tk m' ts' q', tl ts' = lawFin n (blk x.cps.toList) (tl (ti ++ [(y, ty)])) → ts'.length ≤ ti.length + 2 → Fr h₀ L h' m' → News h₀ L h' ((D, lobj (tv ts') q') :: rest) → m' (Str.ofString "rows") = some (.ref D) → Q .next { s with heap := h', toks := tk }),
    wpAny (model PySem.Challenge.rw_dm0096_03.row.prog w) ⟨none, dp, some (lrEnv L fa cd :: outer), gd, un⟩ (execs ((lrB.drop 2).take 1) (lrEnv L fa cd)) Q (fun _ _ => False) s := by
  k_fill
  intro w dp un gd A₀ base h₀ outer L fa cd m mg mb mean lo news s Q B F X N T hd hu x l c n t1 t2 D ti y ty q rest hml hmn hmr hn hx hxl hc hnews hne hti hy hret
  subst hnews
  rw [tv_snoc] at N
  have hvi : (tv ti).length ≤ 90000 := by simpa [tv] using hti
  rw [show (lrB.drop 2).take 1 = [_] from rfl]
  unfold lrEnv
  rw [show lrSc = Scope.mk _ _ _ _ _ from rfl]
  k_steps
  · have hb := blank_in hxl (by assumption)
    simp [hc] at hb
  · have hb := blank_sp hxl (by assumption)
    have hc : c = 32 := by simpa using hb
    refine hret _ _ _ (ti ++ [(Txt.slice y none (some (-1)) ++ Str.ofString "=20", _)]) _ ?_ (by simp) (by assumption) (by rw [tv_snoc]; assumption) hmr
    rw [blk_of hxl, if_pos hc, lawFin_A, if_pos (by omega), tl_snoc, Str.cps_append, Array.toList_append, slice_m1, show (Str.ofString "=20").cps.toList = [61, 50, 48] from by decide +kernel]
  · have hb := blank_sp hxl (by assumption)
    have hc9 : c = 9 := by simp at hb; omega
    refine hret _ _ _ (ti ++ [(Txt.slice y none (some (-1)) ++ Str.ofString "=09", _)]) _ ?_ (by simp) (by assumption) (by rw [tv_snoc]; assumption) hmr
    rw [blk_of hxl, if_neg (by omega), if_pos hc9, lawFin_A, if_pos (by omega), tl_snoc, Str.cps_append, Array.toList_append, slice_m1, show (Str.ofString "=09").cps.toList = [61, 48, 57] from by decide +kernel]
  · refine hret _ _ _ (ti ++ [(y, ty)] ++ [(Str.ofString "", _)]) _ ?_ (by simp) (by assumption) (by rw [tv_snoc, tv_snoc]; assumption) hmr
    obtain ⟨qt, hqt⟩ : ∃ qt, blk x.cps.toList = some qt := by
      rw [blk_of hxl]
      rcases hc with rfl | rfl
      · exact ⟨_, rfl⟩
      · exact ⟨_, rfl⟩
    rw [hqt, lawFin_A, if_neg (by omega), tl_snoc (ti ++ [(y, ty)]), show (Str.ofString "").cps.toList = [] from by decide +kernel]
  · exact absurd (by assumption) (ne_of hxl)
theorem lawFin_B1 (n : Nat) (y : List Nat) : lawFin n none [y] = [y] := by
  unfold lawFin
  simp
theorem lawFin_B2 (n : Nat) (tj : List (Str × Tok)) (z : Str) (tz : Tok) (y : Str) (ty : Tok) : lawFin n none (tl (tj ++ [(z, tz)] ++ [(y, ty)])) = if z.length + y.length ≤ n then tl tj ++ [z.cps.toList ++ y.cps.toList] else tl (tj ++ [(z, tz)] ++ [(y, ty)]) := by
  rw [tl_snoc, tl_snoc]
  unfold lawFin
  simp only [List.dropLast_concat, List.getLast?_concat, Option.getD_some]
  by_cases h : z.length + y.length ≤ n
  · rw [if_pos ⟨by simp, by simpa [Str.length] using h⟩, if_pos h]
  · rw [if_neg (by rintro ⟨_, h'⟩; exact h (by simpa [Str.length] using h')), if_neg h]
local macro_rules | `(tactic| walk_at "subscriptTail") => `(tactic| (k_here; (with_reducible show wpAny _ _ (subscriptTail _ _ (Value.ref _) (Value.int (-2) _)) _ _ _); with_unfolding_all refine sub_last2 (by k_asm) (by k_mem) ?_))
local macro_rules | `(tactic| walk_at "call builtin:list.pop") => `(tactic| (k_here; refine pop_snoc (by k_asm) (by k_asm) (by assumption) (by first | assumption | (simp only [List.length_append, List.length_cons, List.length_nil]; omega)) ?_; intro h' F' N'; (try k_sweep)))
local macro_rules | `(tactic| walk_at "call builtin:len") => `(tactic| (k_here; refine len_own (by k_asm) (by k_mem) (by first | assumption | (simp only [List.length_append, List.length_cons, List.length_nil]; omega)) ?_; intro _ _))
theorem finB2 : ∀ (w : World) (dp un : Nat) (gd : Option (List Code)) (A₀ : Around) (base h₀ : Heap) (outer : List Env) (L fa : Addr) (cd : Value) (m mg mb : Str → Option Value) (mean : ExcName → Option Value) (lo : List Str) (news : List (Addr × Obj)) (s : Shared) (Q : Flow → Shared → Prop)
    (_ : Below A₀ base outer h₀) (_ : Fr h₀ L s.heap m) (_ : (KK w.params).In h₀) (_ : News h₀ L s.heap news) (_ : Top qv lo mean mg mb h₀) (_ : dp < 850) (_ : un < 95) (x : Str) (n : Nat) (t1 t2 : Tok) (D : Addr) (tj : List (Str × Tok)) (z : Str) (tz : Tok) (y : Str) (ty : Tok) (q : Nat) (rest : List (Addr × Obj))
    (_ : m (Str.ofString "line") = some (.str x t1)) (_ : m (Str.ofString "length") = some (.int (n : Int) t2)) (_ : m (Str.ofString "rows") = some (.ref D)) (_ : 4 ≤ n) (_ : x.length ≤ 1000) (_ : blk x.cps.toList = none)
    (_ : news = (D, lobj (tv (tj ++ [(z, tz)] ++ [(y, ty)])) q) :: rest) (_ : ∀ p ∈ rest, p.1 ≠ D) (_ : tj.length ≤ 90000) (_ : y.length ≤ 100000) (_ : z.length ≤ 100000)
    (_ : ∀ h' tk m' ts' q', tl ts' = lawFin n none (tl (tj ++ [(z, tz)] ++ [(y, ty)])) → ts'.length ≤ tj.length + 2 → Fr h₀ L h' m' → News h₀ L h' ((D, lobj (tv ts') q') :: rest) → m' (Str.ofString "rows") = some (.ref D) → Q .next { s with heap := h', toks := tk }),
    wpAny (model PySem.Challenge.rw_dm0096_03.row.prog w) ⟨none, dp, some (lrEnv L fa cd :: outer), gd, un⟩ (execs ((lrB.drop 2).take 1) (lrEnv L fa cd)) Q (fun _ _ => False) s := by
  k_fill
  intro w dp un gd A₀ base h₀ outer L fa cd m mg mb mean lo news s Q B F X N T hd hu x n t1 t2 D tj z tz y ty q rest hml hmn hmr hn hx hb hnews hne hti hy hz hret
  subst hnews
  rw [tv_snoc, tv_snoc] at N
  have hvi : (tv tj).length ≤ 90000 := by simpa [tv] using hti
  rw [show (lrB.drop 2).take 1 = [_] from rfl]
  unfold lrEnv
  rw [show lrSc = Scope.mk _ _ _ _ _ from rfl]
  k_steps
  all_goals first
    | (refine absurd (show (1 : Int) < ((tv tj ++ [Value.str z tz] ++ [Value.str y ty]).length : Int) from ?_) (by assumption)
       simp only [List.length_append, List.length_cons, List.length_nil]; omega)
    | exact absurd hb (blk_some (by assumption) (by assumption))
    | (refine hret _ _ _ (tj ++ [(z ++ y, _)]) _ ?_ (by simp) (by assumption) (by rw [tv_snoc]; assumption) (by exact (if_neg (by decide +kernel)).trans hmr)
       rw [lawFin_B2, if_pos (by omega), tl_snoc, Str.cps_append, Array.toList_append])
    | (refine hret _ _ _ (tj ++ [(z, tz)] ++ [(y, ty)]) _ ?_ (by simp) (by assumption) (by rw [tv_snoc, tv_snoc]; assumption) hmr
       rw [lawFin_B2, if_neg (by omega)])
theorem finB1 : ∀ (w : World) (dp un : Nat) (gd : Option (List Code)) (A₀ : Around) (base h₀ : Heap) (outer : List Env) (L fa : Addr) (cd : Value) (m mg mb : Str → Option Value) (mean : ExcName → Option Value) (lo : List Str) (news : List (Addr × Obj)) (s : Shared) (Q : Flow → Shared → Prop)
    (_ : Below A₀ base outer h₀) (_ : Fr h₀ L s.heap m) (_ : (KK w.params).In h₀) (_ : News h₀ L s.heap news) (_ : Top qv lo mean mg mb h₀) (_ : dp < 850) (_ : un < 95) (x : Str) (n : Nat) (t1 t2 : Tok) (D : Addr) (y : Str) (ty : Tok) (q : Nat) (rest : List (Addr × Obj))
    (_ : m (Str.ofString "line") = some (.str x t1)) (_ : m (Str.ofString "length") = some (.int (n : Int) t2)) (_ : m (Str.ofString "rows") = some (.ref D)) (_ : 4 ≤ n) (_ : x.length ≤ 1000) (_ : blk x.cps.toList = none)
    (_ : news = (D, lobj ([] ++ [.str y ty]) q) :: rest) (_ : ∀ p ∈ rest, p.1 ≠ D) (_ : y.length ≤ 100000)
    (_ : ∀ h' tk m' ts' q', tl ts' = lawFin n none [y.cps.toList] → ts'.length ≤ 1 → Fr h₀ L h' m' → News h₀ L h' ((D, lobj (tv ts') q') :: rest) → m' (Str.ofString "rows") = some (.ref D) → Q .next { s with heap := h', toks := tk }),
    wpAny (model PySem.Challenge.rw_dm0096_03.row.prog w) ⟨none, dp, some (lrEnv L fa cd :: outer), gd, un⟩ (execs ((lrB.drop 2).take 1) (lrEnv L fa cd)) Q (fun _ _ => False) s := by
  k_fill
  intro w dp un gd A₀ base h₀ outer L fa cd m mg mb mean lo news s Q B F X N T hd hu x n t1 t2 D y ty q rest hml hmn hmr hn hx hb hnews hne hy hret
  subst hnews
  rw [show (lrB.drop 2).take 1 = [_] from rfl]
  unfold lrEnv
  rw [show lrSc = Scope.mk _ _ _ _ _ from rfl]
  k_steps
  all_goals first
    | exact absurd (show (1 : Int) < (([] ++ [Value.str y ty]).length : Int) by assumption) (by simp)
    | exact absurd hb (blk_some (by assumption) (by assumption))
    | exact hret _ _ _ [(y, ty)] _ (lawFin_B1 n _).symm (by simp) (by assumption) (by assumption) hmr
    | trace_state
end Mine

open PySem PySem.W PyProof.Rows PySem.Calls
set_option Elab.async false
set_option maxRecDepth 100000
set_option maxHeartbeats 8000000
set_option linter.unusedVariables false
namespace Mine
section
variable {prog : Program} {w : World} {A : Around} {E : Value → Shared → Prop} {s : Shared} {h₀ : Heap} {L l : Addr} {m : Str → Option Value} {news : List (Addr × Obj)} {vi : List Value} {v : Value} {n : Nat} {t : Tok}
theorem slice_init {value slice : Expr} {Q : Value → Shared → Prop} (F : Fr h₀ L s.heap m) (N : News h₀ L s.heap news) (hm : (l, lobj (vi ++ [v]) n) ∈ news) (hz : vi.length ≤ 100000)
    (h : ∀ D h', Fr h₀ L h' m → News h₀ L h' ((D, lobj vi 0) :: news) → (∀ p ∈ news, p.1 < D) → Q (.ref D) { s with heap := h' })
    (hs : subscripted slice false (.ref l) (.ref s.heap.objs.size) = operate [.ref s.heap.objs.size, .ref l] (getItem (.ref l) (.ref s.heap.objs.size))) (ht : ∀ r, letTemporaryGo value (.ref l) r = pure ()) :
    wpAny (model prog w) A (subscriptTail value slice (.ref l) (.ref s.heap.objs.size)) Q E { s with heap := s.heap.push { cls := .type "slice", data := .fields #[.none, .int (-1) t, .none] } } := by
  have e : sliceBounds none (some (-1)) none (vi ++ [v]).toArray.size = (((0 : Nat) : Int), (vi.length : Int), 1) := by
    unfold sliceBounds
    simp only [Option.getD_none, show (1 : Int) > 0 by decide, if_true, List.size_toArray, List.length_append, List.length_cons, List.length_nil, show (-1 : Int) < 0 by decide]
    have e2 : max 0 (min (-1 + ((vi.length + (0 + 1) : Nat) : Int)) ((vi.length + (0 + 1) : Nat) : Int)) = (vi.length : Int) := by omega
    first | rw [e2]; rfl | rw [e2] | simp [e2]
  refine kmk_slice F N (isl_of N hm) .none (IsPart.int _ _) (fun D h' F' N' l1 => h D h' F' ?_ l1) hs ht (by rw [sizeLine_eq]; simp; omega)
  rw [kmk_pick_nat _ e] at N'
  simpa using N'
theorem slice_lastone {value slice : Expr} {Q : Value → Shared → Prop} (F : Fr h₀ L s.heap m) (N : News h₀ L s.heap news) (hm : (l, lobj (vi ++ [v]) n) ∈ news) (hz : vi.length ≤ 100000)
    (h : ∀ D h', Fr h₀ L h' m → News h₀ L h' ((D, lobj [v] 0) :: news) → (∀ p ∈ news, p.1 < D) → Q (.ref D) { s with heap := h' })
    (hs : subscripted slice false (.ref l) (.ref s.heap.objs.size) = operate [.ref s.heap.objs.size, .ref l] (getItem (.ref l) (.ref s.heap.objs.size))) (ht : ∀ r, letTemporaryGo value (.ref l) r = pure ()) :
    wpAny (model prog w) A (subscriptTail value slice (.ref l) (.ref s.heap.objs.size)) Q E { s with heap := s.heap.push { cls := .type "slice", data := .fields #[.int (-1) t, .none, .none] } } := by
  have e : sliceBounds (some (-1)) none none (vi ++ [v]).toArray.size = ((vi.length : Int), ((vi.length + 1 : Nat) : Int), 1) := by
    unfold sliceBounds
    simp only [Option.getD_none, show (1 : Int) > 0 by decide, if_true, List.size_toArray, List.length_append, List.length_cons, List.length_nil, show (-1 : Int) < 0 by decide]
    have e2 : max 0 (min (-1 + ((vi.length + (0 + 1) : Nat) : Int)) ((vi.length + (0 + 1) : Nat) : Int)) = (vi.length : Int) := by omega
    first | rw [e2]; rfl | rw [e2] | simp [e2]
  refine kmk_slice F N (isl_of N hm) (IsPart.int _ _) .none (fun D h' F' N' l1 => h D h' F' ?_ l1) hs ht (by rw [sizeLine_eq]; simp; omega)
  rw [kmk_pick_nat _ e] at N'
  simpa using N'
theorem add_own {xs ys : List Value} {a b : Addr} {n1 n2 : Nat} {Q : Value → Shared → Prop} (F : Fr h₀ L s.heap m) (N : News h₀ L s.heap news) (ha : (a, lobj xs n1) ∈ news) (hb : (b, lobj ys n2) ∈ news) (hz : xs.length + ys.length ≤ 200000)
    (h : ∀ D h', Fr h₀ L h' m → News h₀ L h' ((D, lobj (xs ++ ys) 0) :: news) → (∀ p ∈ news, p.1 < D) → Q (.ref D) { s with heap := h' }) : wpAny (model prog w) A (binaryOp .Add (.ref a) (.ref b)) Q E s := by
  refine kmk_add_lit F N (isl_of N ha) (isl_of N hb) (by simp) h (by rw [sizeLine_eq]; simp; omega)
theorem strs_tl : ∀ (ys : List Value) (M : List (List Nat)), ys.length = M.length → (∀ (j : Nat) (y : Value), ys[j]? = some y → ∃ (z : Str) (t : Tok), y = Value.str z t ∧ some z.cps.toList = M[j]?) → ∃ tj, ys = tv tj ∧ tl tj = M
  | [], [], _, _ => ⟨[], rfl, rfl⟩
  | y :: r, a :: M, hl, h => by
    obtain ⟨z, t, rfl, hz⟩ := h 0 y rfl
    obtain ⟨tj, rfl, e⟩ := strs_tl r M (by simpa using hl) fun j y hj => h (j + 1) y hj
    refine ⟨(z, t) :: tj, rfl, ?_⟩
    have : z.cps.toList = a := by simpa using hz
    show z.cps.toList :: tl tj = _
    rw [this, e]
end
local macro_rules | `(tactic| walk_at "loadName") => `(tactic| (k_here; k_dflt (refine wpAny_loadName_local (env := envOf _ _ _ _ _) rfl rfl (Fr.ns (by k_asm)) (by first | rfl | assumption) ?_)))
local macro_rules | `(tactic| walk_at "eval Name") => `(tactic| (k_here; k_dflt (refine' nameX_L ?F ?v ?_ ?a ?b; (case F => k_asm); (case a => rfl); (case b => rfl); (case v => first | rfl | assumption); k_whole)))
local macro_rules | `(tactic| walk_at "eval ListComp") => `(tactic| (k_here; k_dflt (refine LCg.ListComp_U (F₀ := by k_asm) (by with_unfolding_all rfl) (by decide) (by rfl) (by decide) (by rfl) (toSrc ?_))))
local macro_rules | `(tactic| walk_at "exec Assign cons ListComp") => `(tactic| (k_here; k_dflt (refine LCg.Assign_ListComp_U (F₀ := by k_asm) (by rfl) (by with_unfolding_all rfl) (by with_unfolding_all rfl) (by decide) (by rfl) (by decide) (by rfl) (by rfl) (by rfl) (toSrc ?_))))
local macro_rules | `(tactic| walk_at "subscriptTail Name Slice ref ref") => `(tactic| (k_here; k_dflt (first
  | (refine' slice_init ?F ?N ?hm ?hz ?_ ?s ?t; (case F => k_asm); (case N => k_asm); (case hm => k_mem); (case hz => omega); (case s => with_unfolding_all rfl); (case t => intro _; with_unfolding_all rfl))
  | (refine' slice_lastone ?F ?N ?hm ?hz ?_ ?s ?t; (case F => k_asm); (case N => k_asm); (case hm => k_mem); (case hz => omega); (case s => with_unfolding_all rfl); (case t => intro _; with_unfolding_all rfl))); intro D' h' F' N' l1'))
local macro_rules | `(tactic| walk_at "binaryOp Add ref ref") => `(tactic| (k_here; refine add_own (by k_asm) (by k_asm) (List.mem_cons_of_mem _ (List.mem_cons_self ..)) (List.mem_cons_self ..) (by simp only [List.length_cons, List.length_nil]; omega) ?_; intro D' h' F' N' l1'))
theorem retR : ∀ (w : World) (dp un : Nat) (gd : Option (List Code)) (A₀ : Around) (base h₀ : Heap) (outer : List Env) (L fa : Addr) (cd : Value) (m mg mb : Str → Option Value) (mean : ExcName → Option Value) (lo : List Str) (news : List (Addr × Obj)) (s : Shared) (Q : Flow → Shared → Prop)
    (_ : Below A₀ base outer h₀) (_ : Fr h₀ L s.heap m) (_ : (KK w.params).In h₀) (_ : News h₀ L s.heap news) (_ : Top qv lo mean mg mb h₀) (_ : dp < 850) (_ : un < 95) (D : Addr) (ti : List (Str × Tok)) (y : Str) (ty : Tok) (q : Nat) (rest : List (Addr × Obj))
    (_ : m (Str.ofString "rows") = some (.ref D)) (_ : news = (D, lobj (tv (ti ++ [(y, ty)])) q) :: rest) (_ : ∀ p ∈ rest, p.1 ≠ D) (_ : ti.length ≤ 90000) (_ : ∀ p ∈ ti, p.1.length ≤ 100000)
    (_ : ∀ h' tk D' ts' q', tl ts' = mark (tl (ti ++ [(y, ty)])) → ts'.length = ti.length + 1 → Fr h₀ L h' m → News h₀ L h' ((D', lobj (tv ts') q') :: rest) → (∀ p ∈ rest, p.1 < D') → Q (.ret (.ref D')) { s with heap := h', toks := tk }),
    wpAny (model PySem.Challenge.rw_dm0096_03.row.prog w) ⟨none, dp, some (lrEnv L fa cd :: outer), gd, un⟩ (execs ((lrB.drop 3).take 1) (lrEnv L fa cd)) Q (fun _ _ => False) s := by
  k_fill
  intro w dp un gd A₀ base h₀ outer L fa cd m mg mb mean lo news s Q B F X N T hd hu D ti y ty q rest hmr hnews hne hti hlen hret
  subst hnews
  rw [tv_snoc] at N
  have hvi : (tv ti).length ≤ 90000 := by simpa [tv] using hti
  rw [show (lrB.drop 3).take 1 = [_] from rfl]
  unfold lrEnv
  rw [show lrSc = Scope.mk _ _ _ _ _ from rfl]
  k_steps
  rename_i D1 h1 F1 N1 l1
  unfold Src
  refine LCg.CompSrc.ledger rfl (by k_asm) (by k_asm) (List.mem_cons_self ..) (by rw [sizeLine_eq]; simp; omega) (fun gg => ?_)
  rw [List.size_toArray]
  refine rest_pure (G := fun i y => ∃ (z : Str) (t : Tok), y = Value.str z t ∧ some z.cps.toList = (tl ti)[i]?.map (· ++ [61])) (.inr ⟨_, List.mem_cons_self .., rfl, _, rfl⟩) ?_ ?_
  · intro i v I oI C oC D2 ys m₂ h9 tk E' hi9 hP hC hx F9 N9
    have hv : ∃ p, ti[i]? = some p ∧ v = .str p.1 p.2 := by
      have hvi : (tv ti)[i]? = some v := by simpa using hP
      rw [tv, List.getElem?_map] at hvi
      cases hp : ti[i]? with
      | none => rw [hp] at hvi; cases hvi
      | some p => rw [hp] at hvi; exact ⟨p, rfl, (Option.some.inj hvi).symm⟩
    obtain ⟨p, hp, rfl⟩ := hv
    have hpl := hlen p (List.mem_of_getElem? hp)
    k_steps
    refine PureEnd.intro ⟨_, _, rfl, ?_⟩ (by k_asm) (by k_asm)
    rw [tl, List.getElem?_map, hp, Str.cps_append, Array.toList_append, show (Str.ofString "=").cps.toList = [61] from by decide +kernel]
    rfl
  · intro ys hyl hG D2 h9 tk9 F9 N9 off9
    k_steps
    rename_i D3 h3 F3 N3 l3 D4 h4 F4 N4 l4
    obtain ⟨tj, hys, htj⟩ := strs_tl ys ((tl ti).map (· ++ [61])) (by rw [hyl]; simp [tv, tl]) (fun j y hj => by
      obtain ⟨z, t, e1, e2⟩ := hG j y hj
      exact ⟨z, t, e1, by rw [e2, List.getElem?_map]⟩)
    subst hys
    show Q (.ret (.ref D4)) _
    refine hret _ _ D4 (tj ++ [(y, ty)]) _ ?_ ?_ (by assumption) (by
      rw [tv_snoc]
      exact cb_drop (by assumption) (fun p hp => by
        rcases List.mem_cons.mp hp with rfl | hp
        · exact .head _
        · exact .tail _ (.tail _ (.tail _ (.tail _ (.tail _ hp))))))
      (fun p hp => l4 p (.tail _ (.tail _ (.tail _ (.tail _ hp)))))
    · rw [tl_snoc, tl_snoc, mark_snoc, htj]
    · have := congrArg List.length htj
      rw [tl_length, List.length_map, tl_length] at this
      simp [this]
end Mine

open PySem PySem.W PyProof.Rows PySem.Calls
set_option Elab.async false
set_option maxRecDepth 100000
set_option maxHeartbeats 8000000
set_option linter.unusedVariables false
namespace Mine
theorem mem_drop_last {M : Nat} {rs : List (List Nat)} (h : ∀ r ∈ rs, r.length ≤ M) : (rs.getLast?.getD []).length ≤ M := by
  cases e : rs.getLast? with
  | none => simp
  | some y => exact h y (List.mem_of_getLast? e)
theorem lawFin_len (n : Nat) (b : Option (List Nat)) (hb : ∀ q, b = some q → q.length ≤ 3) (rs : List (List Nat)) (M : Nat) (h : ∀ r ∈ rs, r.length ≤ M) : ∀ r ∈ lawFin n b rs, r.length ≤ 2 * M + 3 := by
  have hd : ∀ r ∈ rs.dropLast, r.length ≤ M := fun r hr => h r (List.dropLast_subset _ hr)
  have hdd : ∀ r ∈ rs.dropLast.dropLast, r.length ≤ M := fun r hr => hd r (List.dropLast_subset _ hr)
  have h1 := mem_drop_last h
  have h2 := mem_drop_last hd
  intro r hr
  unfold lawFin at hr
  split at hr
  · rename_i qt
    have := hb qt rfl
    split at hr
    · rcases List.mem_append.mp hr with hr | hr
      · have := hd r hr; omega
      · rw [List.mem_singleton.mp hr, List.length_append, List.length_dropLast]
        omega
    · rcases List.mem_append.mp hr with hr | hr
      · have := h r hr; omega
      · rw [List.mem_singleton.mp hr]; simp
  · split at hr
    · rcases List.mem_append.mp hr with hr | hr
      · have := hdd r hr; omega
      · rw [List.mem_singleton.mp hr, List.length_append]
        omega
    · have := h r hr; omega
theorem mark_len (rs : List (List Nat)) (M : Nat) (h : ∀ r ∈ rs, r.length ≤ M) : ∀ r ∈ mark rs, r.length ≤ M + 1 := by
  intro r hr
  unfold mark at hr
  rcases List.mem_append.mp hr with hr | hr
  · obtain ⟨a, ha, rfl⟩ := List.mem_map.mp hr
    have := h a (List.dropLast_subset _ ha)
    simp; omega
  · have := h r (List.mem_of_mem_drop hr); omega
theorem blk_len (l : List Nat) : ∀ q, blk l = some q → q.length ≤ 3 := by
  intro q h
  unfold blk at h
  split at h
  · rw [← Option.some.inj h]; simp
  · split at h
    · rw [← Option.some.inj h]; simp
    · simp at h
def rowsQ (n : Nat) (l : List Nat) : List (List Nat) := mark (lawFin n (blk l) (rowsF n l))
theorem rowsQ_mem (n : Nat) (l : List Nat) : ∀ r ∈ rowsQ n l, r.length ≤ 6 * l.length + 4 := by
  intro r hr
  have := mark_len _ (2 * (3 * l.length) + 3) (lawFin_len n (blk l) (blk_len l) (rowsF n l) (3 * l.length) fun r hr => rowsF_mem n l hr) r hr
  omega
theorem lawFin_ne (n : Nat) (b : Option (List Nat)) (rs : List (List Nat)) (h : rs ≠ []) : lawFin n b rs ≠ [] := by
  unfold lawFin
  split
  · split <;> simp
  · split <;> simp [h]
theorem mark_ne (rs : List (List Nat)) (h : rs ≠ []) : mark rs ≠ [] := by
  rcases List.eq_nil_or_concat rs with e | ⟨l, c, e⟩
  · exact absurd e h
  · rw [e, List.concat_eq_append, mark_snoc]; simp
theorem rowsQ_ne (n : Nat) (l : List Nat) : rowsQ n l ≠ [] := mark_ne _ (lawFin_ne _ _ _ (rowsF_ne n l))
theorem rowsQ_P {n : Nat} {l : List Nat} (h : ∀ c ∈ l, c ≠ 10 ∧ c ≠ 13) : rowsQ n l = rowsP TE n l := by
  unfold rowsQ rowsP rowsF
  rw [List.map_congr_left fun c hc => TE_piece (h c hc).1 (h c hc).2]
theorem tl_split {n : Nat} {l : List Nat} {ts : List (Str × Tok)} (h : tl ts = rowsF n l) : (ts.length ≤ l.length + 1) ∧ ∀ p ∈ ts, p.1.length ≤ 3 * l.length := by
  refine ⟨by rw [← tl_length, h]; exact rowsF_len n l, fun p hp => ?_⟩
  have := rowsF_mem n l (x := p.1.cps.toList) (by rw [← h]; exact tl_mem hp)
  simpa [Str.length] using this
theorem lr_call : ∀ (w : World) (A A₀ : Around) (base h₀ : Heap) (env : Env) (outer : List Env) (L : Addr) (m mg mb : Str → Option Value) (mean : ExcName → Option Value) (lo : List Str) (news : List (Addr × Obj)) (s : Shared) (Q E : Value → Shared → Prop)
    (_ : Below A₀ base outer h₀) (_ : Fr h₀ L s.heap m) (_ : (KK w.params).In h₀) (_ : News h₀ L s.heap news) (_ : Top qv lo mean mg mb h₀)
    (_ : A.frames = some (env :: outer)) (_ : env.frame = some L) (_ : env.scope.kind = .function) (_ : A.depth < 800) (_ : A.units < 80) (_ : A.handled = none)
    (x : Str) (t : Tok) (n : Nat) (t2 : Tok) (_ : ∀ c ∈ x.cps.toList, c < 1114112) (_ : 4 ≤ n) (_ : x.length ≤ 1000)
    (_ : ∀ D ts q tk h', tl ts = rowsQ n x.cps.toList → ts.length ≤ x.length + 3 → Fr h₀ L h' m → News h₀ L h' ((D, lobj (tv ts) q) :: news) → (∀ p ∈ news, p.1 < D) → Q (.ref D) { s with heap := h', toks := tk }),
    wpAny (model PySem.Challenge.rw_dm0096_03.row.prog w) A (call (.ref 76) [.str x t, .int (n : Int) t2]) Q E s := by
  k_fill
  intro w A A₀ base h₀ env outer L m mg mb mean lo news s Q E B F X N T hA hf hke hd hu hh x t n t2 hxc hn hx hret
  obtain ⟨ah, dp, fr, gd, un⟩ := A
  dsimp only at hA hd hu hh
  subst hh
  subst hA
  refine wpAny_call ?_
  refine' code_def B F X N T rfl hf hke ?k6 ?k7 ?k8 ?k9 ?kB ?_ ?c2 ?c3 ?c4 ?c5
  case k6 => k_is
  case k7 => k_is
  case k8 => exact Nat.lt_of_lt_of_le hd (by decide)
  case k9 => k_dflt (exact BindsTo.of_eq rfl)
  case c5 => decide
  case kB => k_dflt (exact locs rfl)
  case c2 => exact rfl
  case c3 => exact rfl
  case c4 => exact rfl
  intro g' L' h' FG' F' N' B' X' T'
  (try dsimp only); (try k_fold)
  show wpAny _ _ (execs lrB (lrEnv L' 76 (.ref 75))) _ _ _
  rw [show lrB = (lrB.drop 0).take 1 ++ ((lrB.drop 1).take 1 ++ ((lrB.drop 2).take 1 ++ (lrB.drop 3).take 1)) from rfl]
  refine execs_app _ _ _ ?_
  rw [show (lrB.drop 0).take 1 = [_] from rfl]
  unfold lrEnv
  rw [show lrSc = Scope.mk _ _ _ _ _ from rfl]
  k_steps
  rename_i D0 _ l1 _ F1 N1
  show wpAny _ _ (execs (_ ++ _) _) _ _ _
  refine wpAny_mono (E := fun _ _ => False) ?_ (fun _ _ h => h) (fun _ _ h => h.elim)
  have hd' : dp + 1 < 850 := by omega
  have hu' : un + 3 < 95 := by omega
  have hxl : x.length = x.cps.toList.length := by simp [Str.length]
  refine execs_app _ _ _ ?_
  refine loopR w _ _ _ _ _ _ _ _ _ _ _ _ _ _ _ _ _ _ B' F1 X' N1 T' hd' hu' x n _ _ _ D0 0 news rfl rfl rfl hxc hn hx rfl l1 fun h2 tk2 m2 ts2 q2 htl2 F2 N2 hk2 => ?_
  show wpAny _ _ (execs (_ ++ _) _) _ _ _
  refine execs_app _ _ _ ?_
  obtain ⟨hb1, hb2⟩ := tl_split htl2
  obtain ⟨ti, y, ty, rfl⟩ := ts_last (by rw [htl2]; exact rowsF_ne _ _)
  rw [List.length_append, List.length_singleton] at hb1
  have hy := hb2 (y, ty) (by simp)
  have hne : ∀ p ∈ news, p.1 ≠ D0 := fun p hp => Nat.ne_of_lt (l1 p hp)
  have hml : m2 (Str.ofString "line") = some (.str x t) := hk2 _ (by decide +kernel)
  have hmn : m2 (Str.ofString "length") = some (.int (n : Int) t2) := hk2 _ (by decide +kernel)
  have hmr : m2 (Str.ofString "rows") = some (.ref D0) := hk2 _ (by decide +kernel)
  have fin : ∀ (h3 : Heap) (tk3 : Nat) (m3 : Str → Option Value) (ts3 : List (Str × Tok)) (q3 : Nat), tl ts3 = lawFin n (blk x.cps.toList) (rowsF n x.cps.toList) → ts3.length ≤ ti.length + 2 → Fr g' L' h3 m3 → News g' L' h3 ((D0, lobj (tv ts3) q3) :: news) → m3 (Str.ofString "rows") = some (.ref D0) →
      wpAny (model PySem.Challenge.rw_dm0096_03.row.prog w) (Around.deeper ⟨none, dp, some (env :: outer), gd, un⟩ (lrEnv L' 76 (.ref 75))) (execs ((lrB.drop 3).take 1) (lrEnv L' 76 (.ref 75))) qk (fun _ _ => False) { s with heap := h3, toks := tk3 } := by
    intro h3 tk3 m3 ts3 q3 htl3 hl3 F3 N3 hm3
    have hmem := lawFin_len n (blk x.cps.toList) (blk_len _) _ _ (fun r hr => rowsF_mem n x.cps.toList hr)
    have hne3 : tl ts3 ≠ [] := by
      intro e
      have h1 := rowsQ_ne n x.cps.toList
      unfold rowsQ at h1
      rw [← htl3, e] at h1
      exact h1 rfl
    obtain ⟨tj, z, tz, rfl⟩ := ts_last hne3
    rw [List.length_append, List.length_singleton] at hl3
    refine retR w _ _ _ _ _ _ _ _ _ _ _ _ _ _ _ _ _ _ B' F3 X' N3 T' hd' hu' D0 tj z tz q3 news hm3 rfl hne (by omega) (fun p hp => ?_) fun h4 tk4 D4 ts4 q4 htl4 hl4 F4 N4 l4 => ?_
    · have := hmem p.1.cps.toList (by rw [← htl3]; exact tl_mem (by simp [hp]))
      have e : p.1.length = p.1.cps.toList.length := by simp [Str.length]
      omega
    · k_steps
      exact hret D4 ts4 q4 _ _ (by rw [htl4, htl3]; rfl) (by omega) (by k_asm) (by k_asm) l4
  cases hb : blk x.cps.toList with
  | some qt =>
    obtain ⟨l, c, hlc, hc⟩ : ∃ l c, x.cps.toList = l ++ [c] ∧ (c = 32 ∨ c = 9) := by
      rcases List.eq_nil_or_concat x.cps.toList with e | ⟨l, c, e⟩
      · rw [e] at hb; simp [blk] at hb
      · rw [List.concat_eq_append] at e
        refine ⟨l, c, e, ?_⟩
        rw [blk_of e] at hb
        split at hb
        · left; assumption
        · split at hb
          · right; assumption
          · simp at hb
    refine finA w _ _ _ _ _ _ _ _ _ _ _ _ _ _ _ _ _ _ B' F2 X' N2 T' hd' hu' x l c n t t2 D0 ti y ty q2 news hml hmn hmr hn hx hlc hc rfl hne (by omega) (by dsimp only at hy; omega) fun h3 tk3 m3 ts3 q3 htl3 hl3 F3 N3 hm3 => ?_
    rw [htl2] at htl3
    exact fin h3 tk3 m3 ts3 q3 htl3 hl3 F3 N3 hm3
  | none =>
    rcases List.eq_nil_or_concat ti with e | ⟨tj, ⟨z, tz⟩, e⟩
    · subst e
      refine finB1 w _ _ _ _ _ _ _ _ _ _ _ _ _ _ _ _ _ _ B' F2 X' N2 T' hd' hu' x n t t2 D0 y ty q2 news hml hmn hmr hn hx hb rfl hne (by dsimp only at hy; omega) fun h3 tk3 m3 ts3 q3 htl3 hl3 F3 N3 hm3 => ?_
      refine fin h3 tk3 m3 ts3 q3 ?_ (by omega) F3 N3 hm3
      rw [htl3, hb, ← htl2]
      rfl
    · rw [List.concat_eq_append] at e
      subst e
      have hz := hb2 (z, tz) (by simp)
      rw [List.length_append, List.length_singleton] at hb1
      refine finB2 w _ _ _ _ _ _ _ _ _ _ _ _ _ _ _ _ _ _ B' F2 X' N2 T' hd' hu' x n t t2 D0 tj z tz y ty q2 news hml hmn hmr hn hx hb rfl hne (by omega) (by dsimp only at hy; omega) (by dsimp only at hz; omega) fun h3 tk3 m3 ts3 q3 htl3 hl3 F3 N3 hm3 => ?_
      rw [htl2] at htl3
      exact fin h3 tk3 m3 ts3 q3 (by rw [hb]; exact htl3) (by simp; omega) F3 N3 hm3
end Mine

open PySem PySem.W PyProof.Rows PySem.Calls
set_option Elab.async false
set_option maxRecDepth 100000
set_option maxHeartbeats 8000000
set_option linter.unusedVariables false
namespace Mine
noncomputable def beB : List Stmt := bodyOf (stP 17)
noncomputable def beSc : Scope := scopeOf (stP 17)
noncomputable abbrev beEnv (L fa : Addr) (cd : Value) : Env := envOf (Str.ofString "body_encode") beSc L fa cd
local macro_rules | `(tactic| walk_at "loadName") => `(tactic| (k_here; k_dflt (refine wpAny_loadName_local (env := envOf _ _ _ _ _) rfl rfl (Fr.ns (by k_asm)) (by first | rfl | assumption) ?_)))
local macro_rules | `(tactic| walk_at "eval Name") => `(tactic| (k_here; k_dflt (refine' nameX_L ?F ?v ?_ ?a ?b; (case F => k_asm); (case a => rfl); (case b => rfl); (case v => first | rfl | assumption); k_whole)))
local macro_rules | `(tactic| walk_at "getMethod str") => `(tactic| (with_reducible refine method_translate ?_))
local macro_rules | `(tactic| walk_at "call builtin:str.translate") => `(tactic| (k_here; refine translate_y rfl (listIn39 (by k_in)) tabE fE_len (by assumption) (by assumption) (by omega) ?_; intro z h' t' tk' hz hzl hkeep; (have F9 := grownF (by k_asm) hkeep); (have N9 := grownN (by k_asm) hkeep)))
local macro_rules | `(tactic| walk_at "getAttr ref") => `(tactic| (k_here; refine attr_append (by k_asm) (by k_asm) (List.mem_cons_self ..) ?_; intro q' h' F' N' l1'))
theorem bePre : ∀ (w : World) (dp un : Nat) (gd : Option (List Code)) (A₀ : Around) (base h₀ : Heap) (outer : List Env) (L fa : Addr) (cd : Value) (m mg mb : Str → Option Value) (mean : ExcName → Option Value) (lo : List Str) (news : List (Addr × Obj)) (s : Shared) (Q : Flow → Shared → Prop)
    (_ : Below A₀ base outer h₀) (_ : Fr h₀ L s.heap m) (_ : (KK w.params).In h₀) (_ : News h₀ L s.heap news) (_ : Top qv lo mean mg mb h₀) (_ : dp < 850) (_ : un < 95) (x e : Str) (n : Nat) (t1 t2 t3 : Tok)
    (_ : m (Str.ofString "body") = some (.str x t1)) (_ : m (Str.ofString "maxlinelen") = some (.int (n : Int) t2)) (_ : m (Str.ofString "eol") = some (.str e t3)) (_ : ∀ c ∈ x.cps.toList, c < 1114112) (_ : 4 ≤ n) (_ : x.length ≤ 1000) (_ : x.cps ≠ #[]) (_ : e.length ≤ 4)
    (_ : ∀ h' tk m' D q (z sb : Str) u1 u2 u3, Fr h₀ L h' m' → News h₀ L h' ((q, bmO D) :: (D, lobj [] 0) :: news) → (∀ p ∈ news, p.1 < D) → D < q → z.cps.toList = x.cps.toList.flatMap TE → z.length ≤ 3 * x.length → sb.cps.toList = [61] ++ e.cps.toList →
      m' (Str.ofString "body") = some (.str z u1) → m' (Str.ofString "soft_break") = some (.str sb u2) → m' (Str.ofString "maxlinelen1") = some (.int ((n : Int) - 1) u3) → m' (Str.ofString "encoded_body") = some (.ref D) → m' (Str.ofString "append") = some (.ref q) →
      KeepOn [Str.ofString "maxlinelen", Str.ofString "eol"] m m' → Q .next { s with heap := h', toks := tk }),
    wpAny (model PySem.Challenge.rw_dm0096_03.row.prog w) ⟨none, dp, some (beEnv L fa cd :: outer), gd, un⟩ (execs ((beB.drop 0).take 7) (beEnv L fa cd)) Q (fun _ _ => False) s := by
  k_fill
  intro w dp un gd A₀ base h₀ outer L fa cd m mg mb mean lo news s Q B F X N T hd hu x e n t1 t2 t3 hmx hmn hme hxc hn hx hx0 he hret
  have hx1 : 1 ≤ x.length := Nat.one_le_iff_ne_zero.mpr fun h => hx0 (Array.size_eq_zero_iff.mp h)
  rw [show (beB.drop 0).take 7 = [_, _, _, _, _, _, _] from rfl]
  unfold beEnv
  rw [show beSc = Scope.mk _ _ _ _ _ from rfl]
  k_steps
  · rename_i q9 h8 l9 h9 F9 N9
    refine hret _ _ _ _ _ _ _ _ _ _ F9 N9 (by assumption) (l9 _ (.head _)) (by assumption) (by assumption) ?_ (by exact rfl) (by exact rfl) (by exact rfl) (by exact rfl) (by exact rfl) (fun y hy => ?_)
    · rw [Str.cps_append, Array.toList_append, show (Str.ofString "=").cps.toList = [61] from by decide +kernel]
    · rcases List.mem_cons.mp hy with rfl | hy
      · rfl
      · rw [List.mem_singleton.mp hy]; rfl
  · exact absurd (show (x.length : Int) = 0 by assumption) (by omega)
end Mine

open PySem PySem.W PyProof.Rows PySem.Calls
set_option Elab.async false
set_option maxRecDepth 100000
set_option maxHeartbeats 8000000
set_option linter.unusedVariables false
namespace Mine
noncomputable def beL : List Stmt := forB beB[7]?
theorem item_eq {x : Str} {Qf : List Nat} {st i : Nat} {k : Int} {b : Bool} (hpos : x.cps.toList.drop st = Qf) (hk : k = ((st + i : Nat) : Int)) (hi : i < Qf.length) (hb : (Txt.item x k == Str.ofString "=") = b) : b = decide (Qf[i]? = some 61) := by
  have hg : x.cps.toList[st + i]? = some Qf[i] := by rw [← List.getElem?_drop, hpos, List.getElem?_eq_getElem hi]
  rw [← hb, item_at hk hg, show Str.ofString "=" = ⟨#[61]⟩ from by decide +kernel, List.getElem?_eq_getElem hi]
  apply Bool.eq_iff_iff.mpr
  rw [decide_eq_true_eq, beq_iff_eq]
  constructor
  · intro e
    have := congrArg (fun s : Str => s.cps.toList) e
    simpa using this
  · intro e
    rw [Option.some.inj e]
theorem take_snoc {Qf : List Nat} {i c : Nat} (h : Qf[i]? = some c) : Qf.take (i + 1) = Qf.take i ++ [c] := by
  obtain ⟨hi, e⟩ := List.getElem?_eq_some_iff.mp h
  rw [List.take_succ_eq_append_getElem hi, e]
theorem slice_q {x : Str} {Qf : List Nat} {st b : Nat} {j : Int} (hpos : x.cps.toList.drop st = Qf) (hj : j = ((st + b : Nat) : Int)) (hb : st + b ≤ x.length) : (Txt.slice x (some (st : Int)) (some j)).cps.toList = Qf.take b := by
  rw [slice_ab rfl hj (by omega) hb, hpos]
  congr 1
  omega
local macro_rules | `(tactic| walk_at "loadName") => `(tactic| (k_here; k_dflt (refine wpAny_loadName_local (env := envOf _ _ _ _ _) rfl rfl (Fr.ns (by k_asm)) (by first | rfl | assumption) ?_)))
local macro_rules | `(tactic| walk_at "eval Name") => `(tactic| (k_here; k_dflt (refine' nameX_L ?F ?v ?_ ?a ?b; (case F => k_asm); (case a => rfl); (case b => rfl); (case v => first | rfl | assumption); k_whole)))
local macro_rules | `(tactic| k_upd) => `(tactic| exact Upd.head (by assumption))
local macro_rules | `(tactic| walk_at "callWith ref") => `(tactic| (k_here; (with_reducible show wpAny _ _ (callWith _ (Value.ref _) _ (backTo _ (starEach (_ :: _) _)) []) _ _ _); k_dflt (refine' callWith_bm ?bN ?bM ?_; (case bN => k_asm); (case bM => k_mem); k_whole)))
local macro_rules | `(tactic| walk_at "And") => `(tactic| ((with_reducible show StandsB _ _ _ ∧ _); k_dflt (refine ⟨bm_at (by k_asm) (by k_mem), ?_⟩); (try dsimp only [List.nil_append, List.cons_append])))
local macro_rules | `(tactic| walk_at "call ref") => `(tactic| (k_here; refine call_bm (by k_asm) (by k_asm) (by k_mem) (by k_upd) (by first | assumption | omega) ?_; intro h' F' N'; (try k_sweep)))
theorem whileB : ∀ (w : World) (dp un : Nat) (gd : Option (List Code)) (A₀ : Around) (base h₀ : Heap) (outer : List Env) (L fa : Addr) (cd : Value) (m mg mb : Str → Option Value) (mean : ExcName → Option Value) (lo : List Str) (news : List (Addr × Obj)) (s : Shared) (Q : Flow → Shared → Prop)
    (_ : Below A₀ base outer h₀) (_ : Fr h₀ L s.heap m) (_ : (KK w.params).In h₀) (_ : News h₀ L s.heap news) (_ : Top qv lo mean mg mb h₀) (_ : dp < 850) (_ : un < 95) (x : Str) (n : Nat) (t1 t2 t3 t4 : Tok) (D qa : Addr) (ts0 : List (Str × Tok)) (k0 : Nat) (rest : List (Addr × Obj)) (q0 : List (List Nat))
    (_ : m (Str.ofString "line") = some (.str x t1)) (_ : m (Str.ofString "start") = some (.int 0 t2)) (_ : m (Str.ofString "laststart") = some (.int ((x.length : Int) - 1 - (n : Int)) t3)) (_ : m (Str.ofString "maxlinelen1") = some (.int ((n : Int) - 1) t4)) (_ : m (Str.ofString "append") = some (.ref qa))
    (_ : 4 ≤ n) (_ : x.length ≤ 3000) (_ : x.cps.toList = q0.flatten) (_ : ∀ p ∈ q0, OkP p)
    (_ : news = (D, lobj (tv ts0) k0) :: (qa, bmO D) :: rest) (_ : ∀ p ∈ (qa, bmO D) :: rest, p.1 ≠ D) (_ : ts0.length ≤ 50000)
    (_ : ∀ h' tk m' ts k u R q st, Fr h₀ L h' m' → News h₀ L h' ((D, lobj (tv (ts0 ++ ts)) k) :: (qa, bmO D) :: rest) → tl ts = R.map (· ++ [61]) → St n q0 R q st → q.flatten.length ≤ n → m' (Str.ofString "start") = some (.int (st : Int) u) → (∀ y, y ≠ Str.ofString "start" → y ≠ Str.ofString "stop" → m' y = m y) → Q .next { s with heap := h', toks := tk }),
    wpAny (model PySem.Challenge.rw_dm0096_03.row.prog w) ⟨none, dp, some (beEnv L fa cd :: outer), gd, un⟩ (execs ((beL.drop 2).take 1) (beEnv L fa cd)) Q (fun _ _ => False) s := by
  k_fill
  intro w dp un gd A₀ base h₀ outer L fa cd m mg mb mean lo news s Q B F X N T hd hu x n t1 t2 t3 t4 D qa ts0 k0 rest q0 hml hms hmt hm1 hma hn hx hxq hok hnews hne hts hret
  subst hnews
  rw [show (beL.drop 2).take 1 = [_] from rfl]
  unfold beEnv
  rw [show beSc = Scope.mk _ _ _ _ _ from rfl]
  have hxl : x.length = q0.flatten.length := by rw [← hxq]; simp [Str.length]
  refine wpAny_execs_cons ?_
  refine While_inv (fun c m' nw => ∃ (ts : List (Str × Tok)) (k : Nat) (u : Tok) (R q : List (List Nat)) (st : Nat), nw = (D, lobj (tv (ts0 ++ ts)) k) :: (qa, bmO D) :: rest ∧ tl ts = R.map (· ++ [61]) ∧ St n q0 R q st ∧ m' (Str.ofString "start") = some (.int (st : Int) u) ∧ (∀ y, y ≠ Str.ofString "start" → y ≠ Str.ofString "stop" → m' y = m y) ∧ c = q.flatten.length) (n₀ := q0.flatten.length) F N
    ⟨[], k0, t2, [], q0, 0, by simp, rfl, St.init n q0, hms, fun y _ _ => rfl, rfl⟩ ?_
  rintro c m₁ nw h₁ tk₁ F₁ N₁ ⟨ts, k, u, R, q, st, rfl, htl, S, hst, hoth, rfl⟩
  have a1 : m₁ (Str.ofString "line") = some (.str x t1) := (hoth _ (by decide +kernel) (by decide +kernel)).trans hml
  have a2 : m₁ (Str.ofString "laststart") = some (.int ((x.length : Int) - 1 - (n : Int)) t3) := (hoth _ (by decide +kernel) (by decide +kernel)).trans hmt
  have a3 : m₁ (Str.ofString "maxlinelen1") = some (.int ((n : Int) - 1) t4) := (hoth _ (by decide +kernel) (by decide +kernel)).trans hm1
  have a4 : m₁ (Str.ofString "append") = some (.ref qa) := (hoth _ (by decide +kernel) (by decide +kernel)).trans hma
  clear hml hms hmt hm1 hma F N
  have hlen := S.len
  have hcnt := S.cnt
  have htsl : ts.length = R.length := by have := congrArg List.length htl; simpa [tl] using this
  have hvs : (tv (ts0 ++ ts)).length ≤ 100000 := by simp [tv]; omega
  by_cases hend : q.flatten.length ≤ n
  · have g1 : ¬ (st : Int) ≤ (x.length : Int) - 1 - (n : Int) := by omega
    k_steps
    exact hret _ _ _ _ _ _ _ _ _ F₁ N₁ htl S hend hst hoth
  · have g1 : (st : Int) ≤ (x.length : Int) - 1 - (n : Int) := by omega
    obtain ⟨q', m9, hm9, S', hm0, hmn⟩ := S.step hn hok (by omega)
    have hlen' := S'.len
    have hpos : x.cps.toList.drop st = q.flatten := by rw [hxq]; exact S.pos
    k_steps
    · have e1 : q.flatten[n - 3]? = some 61 := by
        have := item_eq (i := n - 3) hpos (by omega) (by omega) (show (Txt.item x ((st : Int) + ((n : Int) - 1) - 2) == Str.ofString "=") = true by assumption)
        simpa using this
      rw [if_pos e1] at hm9
      subst hm9
      have hy := slice_q (b := n - 3 + 1) (j := (st : Int) + ((n : Int) - 1) - 1) hpos (by omega) (by omega)
      rw [take_snoc e1] at hy
      refine WhileStep.intro (n' := q'.flatten.length) (news₂ := (D, lobj (tv (ts0 ++ (ts ++ [(Txt.slice x (some (st : Int)) (some ((st : Int) + ((n : Int) - 1) - 1)), _)]))) (k + 1)) :: (qa, bmO D) :: rest) (by assumption) (by rw [← List.append_assoc, tv_snoc]; assumption) (by omega)
        ⟨_, _, _, R ++ [q.flatten.take (n - 3)], q', st + (n - 3), rfl, by rw [tl_snoc, htl, hy]; simp, S', (by show some (Value.int ((st : Int) + ((n : Int) - 1) - 2) _) = _; rw [show (st : Int) + ((n : Int) - 1) - 2 = ((st + (n - 3) : Nat) : Int) from by omega]), fun y a b => ?_, rfl⟩
      rw [if_neg a, if_neg b]
      exact hoth y a b
    · have e1 : ¬ q.flatten[n - 3]? = some 61 := by
        have := item_eq (i := n - 3) hpos (by omega) (by omega) (show (Txt.item x ((st : Int) + ((n : Int) - 1) - 2) == Str.ofString "=") = false by assumption)
        simpa using this
      have e2 : q.flatten[n - 2]? = some 61 := by
        have := item_eq (i := n - 2) hpos (by omega) (by omega) (show (Txt.item x ((st : Int) + ((n : Int) - 1) - 1) == Str.ofString "=") = true by assumption)
        simpa using this
      rw [if_neg e1, if_pos e2] at hm9
      subst hm9
      have hy := slice_q (b := n - 2 + 1) (j := (st : Int) + ((n : Int) - 1)) hpos (by omega) (by omega)
      rw [take_snoc e2] at hy
      refine WhileStep.intro (n' := q'.flatten.length) (news₂ := (D, lobj (tv (ts0 ++ (ts ++ [(Txt.slice x (some (st : Int)) (some ((st : Int) + ((n : Int) - 1))), _)]))) (k + 1)) :: (qa, bmO D) :: rest) (by assumption) (by rw [← List.append_assoc, tv_snoc]; assumption) (by omega)
        ⟨_, _, _, R ++ [q.flatten.take (n - 2)], q', st + (n - 2), rfl, by rw [tl_snoc, htl, hy]; simp, S', (by show some (Value.int ((st : Int) + ((n : Int) - 1) - 1) _) = _; rw [show (st : Int) + ((n : Int) - 1) - 1 = ((st + (n - 2) : Nat) : Int) from by omega]), fun y a b => ?_, rfl⟩
      rw [if_neg a, if_neg b]
      exact hoth y a b
    · have e1 : ¬ q.flatten[n - 3]? = some 61 := by
        have := item_eq (i := n - 3) hpos (by omega) (by omega) (show (Txt.item x ((st : Int) + ((n : Int) - 1) - 2) == Str.ofString "=") = false by assumption)
        simpa using this
      have e2 : ¬ q.flatten[n - 2]? = some 61 := by
        have := item_eq (i := n - 2) hpos (by omega) (by omega) (show (Txt.item x ((st : Int) + ((n : Int) - 1) - 1) == Str.ofString "=") = false by assumption)
        simpa using this
      rw [if_neg e1, if_neg e2] at hm9
      subst hm9
      have hy := slice_q (b := n - 1) (j := (st : Int) + ((n : Int) - 1)) hpos (by omega) (by omega)
      refine WhileStep.intro (n' := q'.flatten.length) (news₂ := (D, lobj (tv (ts0 ++ (ts ++ [(Txt.slice x (some (st : Int)) (some ((st : Int) + ((n : Int) - 1))) ++ Str.ofString "=", _)]))) (k + 1)) :: (qa, bmO D) :: rest) (by assumption) (by rw [← List.append_assoc, tv_snoc]; assumption) (by omega)
        ⟨_, _, _, R ++ [q.flatten.take (n - 1)], q', st + (n - 1), rfl, by rw [tl_snoc, htl, Str.cps_append, Array.toList_append, hy, show (Str.ofString "=").cps.toList = [61] from by decide +kernel]; simp, S', (by show some (Value.int ((st : Int) + ((n : Int) - 1)) _) = _; rw [show (st : Int) + ((n : Int) - 1) = ((st + (n - 1) : Nat) : Int) from by omega]), fun y a b => ?_, rfl⟩
      rw [if_neg a, if_neg b]
      exact hoth y a b
end Mine

open PySem PySem.W PyProof.Rows PySem.Calls
set_option Elab.async false
set_option maxRecDepth 100000
set_option maxHeartbeats 8000000
set_option linter.unusedVariables false
namespace Mine
theorem qu_callS : ∀ (w : World) (A A₀ : Around) (base h₀ : Heap) (env : Env) (outer : List Env) (L : Addr) (m mg mb : Str → Option Value) (mean : ExcName → Option Value) (lo : List Str) (news : List (Addr × Obj)) (s : Shared) (Q E : Value → Shared → Prop)
    (_ : Below A₀ base outer h₀) (_ : Fr h₀ L s.heap m) (_ : (KK w.params).In h₀) (_ : News h₀ L s.heap news) (_ : Top qv lo mean mg mb h₀)
    (_ : A.frames = some (env :: outer)) (_ : env.frame = some L) (_ : env.scope.kind = .function) (_ : A.depth < 900) (_ : A.units < 100) (_ : A.handled = none)
    (y : Str) (c : Nat) (t : Tok) (_ : y = ⟨#[c]⟩) (_ : c = 32 ∨ c = 9)
    (_ : ∀ z t' tk h', z.cps.toList = (if c = 32 then [61, 50, 48] else [61, 48, 57]) → z.length = 3 → Fr h₀ L h' m → News h₀ L h' news → Q (.str z t') { s with heap := h', toks := tk }),
    wpAny (model PySem.Challenge.rw_dm0096_03.row.prog w) A (call (.ref 37) [.str y t]) Q E s := by
  intro w A A₀ base h₀ env outer L m mg mb mean lo news s Q E B F X N T hA hf hke hd hu hh y c t hy hc hret
  subst hy
  refine qu_call _ _ _ _ _ _ _ _ _ _ _ _ _ _ _ _ _ B F X N T hA hf hke hd hu hh c t hc fun z t' tk h' hz F' N' => hret z t' tk h' hz ?_ F' N'
  rw [show z.length = z.cps.toList.length from by simp [Str.length], hz]
  split <;> rfl
theorem blk_none {x : Str} (h : 1 ≤ x.length) (hb : (Builtin.Str.occurrences (Str.ofString " \t") (Txt.item x (-1)) 0 (Str.ofString " \t").length 1).isEmpty = true) : blk x.cps.toList = none := by
  obtain ⟨l, c, hlc⟩ := nonempty_last h
  have h1 := blank_in hlc hb
  have hc : ¬ (c = 32 ∨ c = 9) := by simpa using h1
  rw [blk_of hlc, if_neg (by omega), if_neg (by omega)]
theorem blk_last {x : Str} (h : 1 ≤ x.length) (hb : (Builtin.Str.occurrences (Str.ofString " \t") (Txt.item x (-1)) 0 (Str.ofString " \t").length 1).isEmpty = false) : ∃ l c, x.cps.toList = l ++ [c] ∧ (c = 32 ∨ c = 9) ∧ blk x.cps.toList = some (if c = 32 then [61, 50, 48] else [61, 48, 57]) := by
  obtain ⟨l, c, hlc⟩ := nonempty_last h
  have h1 := blank_in hlc hb
  have hc : c = 32 ∨ c = 9 := by simp at h1; omega
  refine ⟨l, c, hlc, hc, ?_⟩
  rw [blk_of hlc]
  rcases hc with rfl | rfl <;> simp
theorem drop_last {x : Str} {l : List Nat} {c st : Nat} (h : x.cps.toList = l ++ [c]) (hst : st + 1 ≤ x.length) : x.cps.toList.drop st = (x.cps.toList.drop st).dropLast ++ [c] := by
  have hl : x.length = l.length + 1 := by rw [show x.length = x.cps.toList.length from by simp [Str.length], h]; simp
  rw [h, List.drop_append_of_le_length (by omega), List.dropLast_concat]
theorem drop_len (x : Str) (st : Nat) : (x.cps.toList.drop st).length = x.length - st := by simp [Str.length]
local macro_rules | `(tactic| walk_at "loadName") => `(tactic| (k_here; k_dflt (refine wpAny_loadName_local (env := envOf _ _ _ _ _) rfl rfl (Fr.ns (by k_asm)) (by first | rfl | assumption) ?_)))
local macro_rules | `(tactic| walk_at "eval Name") => `(tactic| (k_here; k_dflt (refine' nameX_L ?F ?v ?_ ?a ?b; (case F => k_asm); (case a => rfl); (case b => rfl); (case v => first | rfl | assumption); k_whole)))
local macro_rules | `(tactic| k_upd) => `(tactic| exact Upd.head (by assumption))
local macro_rules | `(tactic| walk_at "callWith ref") => `(tactic| (k_here; (with_reducible show wpAny _ _ (callWith _ (Value.ref _) _ (backTo _ (starEach (_ :: _) _)) []) _ _ _); k_dflt (refine' callWith_bm ?bN ?bM ?_; (case bN => k_asm); (case bM => k_mem); k_whole)))
local macro_rules | `(tactic| walk_at "And") => `(tactic| ((with_reducible show StandsB _ _ _ ∧ _); k_dflt (refine ⟨bm_at (by k_asm) (by k_mem), ?_⟩); (try dsimp only [List.nil_append, List.cons_append])))
local macro_rules | `(tactic| walk_at "call ref") => `(tactic| (k_here; refine call_bm (by k_asm) (by k_asm) (by k_mem) (by k_upd) (by first | assumption | omega) ?_; intro h' F' N'; (try k_sweep)))
theorem lastB : ∀ (w : World) (dp un : Nat) (gd : Option (List Code)) (A₀ : Around) (base h₀ : Heap) (outer : List Env) (L fa : Addr) (cd : Value) (m mg mb : Str → Option Value) (mean : ExcName → Option Value) (lo : List Str) (news : List (Addr × Obj)) (s : Shared) (Q : Flow → Shared → Prop)
    (_ : Below A₀ base outer h₀) (_ : Fr h₀ L s.heap m) (_ : (KK w.params).In h₀) (_ : News h₀ L s.heap news) (_ : Top qv lo mean mg mb h₀) (_ : dp < 850) (_ : un < 95) (x e sb : Str) (n st : Nat) (t1 t2 t3 t4 : Tok) (D qa : Addr) (ts : List (Str × Tok)) (k : Nat) (rest : List (Addr × Obj))
    (_ : m (Str.ofString "line") = some (.str x t1)) (_ : m (Str.ofString "start") = some (.int (st : Int) t2)) (_ : m (Str.ofString "laststart") = some (.int ((x.length : Int) - 1 - (n : Int)) t3)) (_ : m (Str.ofString "soft_break") = some (.str sb t4)) (_ : m (Str.ofString "append") = some (.ref qa))
    (_ : 4 ≤ n) (_ : x.length ≤ 3000) (_ : st ≤ x.length) (_ : x.length = 0 ∨ st + 1 ≤ x.length) (_ : x.length ≤ st + n) (_ : sb.cps.toList = [61] ++ e.cps.toList) (_ : e.length ≤ 4)
    (_ : news = (D, lobj (tv ts) k) :: (qa, bmO D) :: rest) (_ : ∀ p ∈ (qa, bmO D) :: rest, p.1 ≠ D) (_ : ts.length ≤ 60000)
    (_ : ∀ h' tk m' y u k', Fr h₀ L h' m' → News h₀ L h' ((D, lobj (tv (ts ++ [(y, u)])) k') :: (qa, bmO D) :: rest) → y.cps.toList = bodyLast n (blk x.cps.toList) (x.cps.toList.drop st) e.cps.toList → y.length ≤ x.length + 20 → (∀ y, y ≠ Str.ofString "room" → y ≠ Str.ofString "q" → m' y = m y) → Q .next { s with heap := h', toks := tk }),
    wpAny (model PySem.Challenge.rw_dm0096_03.row.prog w) ⟨none, dp, some (beEnv L fa cd :: outer), gd, un⟩ (execs ((beL.drop 3).take 1) (beEnv L fa cd)) Q (fun _ _ => False) s := by
  k_fill
  intro w dp un gd A₀ base h₀ outer L fa cd m mg mb mean lo news s Q B F X N T hd hu x e sb n st t1 t2 t3 t4 D qa ts k rest hml hms hmt hmb hma hn hx hst hst1 hrem hsb he hnews hne hts hret
  subst hnews
  have hvs : (tv ts).length ≤ 100000 := by simp [tv]; omega
  have hsbl : sb.length = 1 + e.length := by
    rw [show sb.length = sb.cps.toList.length from by simp [Str.length], hsb]
    simp [Str.length]; omega
  rw [show (beL.drop 3).take 1 = [_] from rfl]
  unfold beEnv
  rw [show beSc = Scope.mk _ _ _ _ _ from rfl]
  k_steps
  · refine hret _ _ _ (Txt.slice x (some (st : Int)) none) _ _ (by assumption) (by rw [tv_snoc]; assumption) ?_ (by omega) (fun y a b => rfl)
    rw [blk_none (by omega) (by assumption), slice_fr rfl hst]
    rfl
  · obtain ⟨l, c, hlc, hc, hbl⟩ := blk_last (x := x) (by omega) (by assumption)
    refine qu_callS _ _ _ _ _ _ _ _ _ _ _ _ _ _ _ _ _ (by k_asm) (by k_asm) (by k_asm) (by k_asm) (by k_asm) rfl rfl rfl (by dsimp only; omega) (by dsimp only; omega) rfl _ c _ (item_lastS hlc) hc fun z t' tk h' hz hzl F' N' => ?_
    k_steps
    refine hret _ _ _ (Txt.slice x (some (st : Int)) (some (-1)) ++ z) _ _ (by assumption) (by rw [tv_snoc]; assumption) ?_ (by omega) (fun y a b => (if_neg b).trans (if_neg a))
    rw [hbl, Str.cps_append, Array.toList_append, slice_am rfl (by omega), hz]
    generalize (if c = 32 then ([61, 50, 48] : List Nat) else [61, 48, 57]) = qt9
    unfold bodyLast
    dsimp only
    rw [if_pos (by rw [drop_len]; omega)]
  · obtain ⟨l, c, hlc, hc, hbl⟩ := blk_last (x := x) (by omega) (by assumption)
    refine hret _ _ _ (Txt.slice x (some (st : Int)) (some (-1)) ++ (Txt.item x (-1) ++ sb)) _ _ (by assumption) (by rw [tv_snoc]; assumption) ?_ (by omega) (fun y a b => (if_neg b).trans (if_neg a))
    rw [hbl, Str.cps_append, Str.cps_append, Array.toList_append, Array.toList_append, slice_am rfl (by omega), item_lastS hlc, hsb]
    generalize (if c = 32 then ([61, 50, 48] : List Nat) else [61, 48, 57]) = qt9
    unfold bodyLast
    dsimp only
    rw [if_neg (by rw [drop_len]; omega), if_pos (by rw [drop_len]; omega)]
    conv => rhs; rw [drop_last hlc (by omega)]
    simp
  · obtain ⟨l, c, hlc, hc, hbl⟩ := blk_last (x := x) (by omega) (by assumption)
    refine qu_callS _ _ _ _ _ _ _ _ _ _ _ _ _ _ _ _ _ (by k_asm) (by k_asm) (by k_asm) (by k_asm) (by k_asm) rfl rfl rfl (by dsimp only; omega) (by dsimp only; omega) rfl _ c _ (item_lastS hlc) hc fun z t' tk h' hz hzl F' N' => ?_
    k_steps
    refine hret _ _ _ (Txt.slice x (some (st : Int)) (some (-1)) ++ (sb ++ z)) _ _ (by assumption) (by rw [tv_snoc]; assumption) ?_ (by omega) (fun y a b => (if_neg b).trans (if_neg a))
    rw [hbl, Str.cps_append, Str.cps_append, Array.toList_append, Array.toList_append, slice_am rfl (by omega), hz, hsb]
    generalize (if c = 32 then ([61, 50, 48] : List Nat) else [61, 48, 57]) = qt9
    unfold bodyLast
    dsimp only
    rw [if_neg (by rw [drop_len]; omega), if_neg (by rw [drop_len]; omega)]
  · refine hret _ _ _ (Txt.slice x (some (st : Int)) none) _ _ (by assumption) (by rw [tv_snoc]; assumption) ?_ (by omega) (fun y a b => rfl)
    have h0 : x.cps.toList = [] := by
      have : x.cps.toList.length = 0 := by rw [show x.cps.toList.length = x.length from by simp [Str.length]]; omega
      exact List.length_eq_zero_iff.mp this
    rw [slice_fr rfl hst, h0]
    rfl
end Mine

open PySem PySem.W PyProof.Rows PySem.Calls
set_option Elab.async false
set_option maxRecDepth 100000
set_option maxHeartbeats 8000000
set_option linter.unusedVariables false
namespace Mine
theorem blk_flat (l : List Nat) : blk (l.flatMap TE) = blk l := by
  rcases List.eq_nil_or_concat l with rfl | ⟨l', c, e⟩
  · rfl
  · rw [List.concat_eq_append] at e
    have h1 : (l.flatMap TE).getLast? = (TE c).getLast? := by rw [e]; exact last_flat pcTE l' c
    have h2 : l.getLast? = some c := by rw [e]; simp
    unfold blk
    rw [h1, h2]
    by_cases hc : c = 32 ∨ c = 9
    · rw [pcTE.bl c hc]
      rfl
    · cases hd : (TE c).getLast? with
      | none => exact absurd (List.getLast?_eq_none_iff.mp hd) (pcTE.ne c)
      | some d =>
        have := pcTE.nbl c (by omega) (by omega) d hd
        simp only [Option.some.injEq]
        rw [if_neg this.1, if_neg this.2, if_neg (by omega), if_neg (by omega)]
theorem flat_map (l : List Nat) : l.flatMap TE = (l.map TE).flatten := by simp [List.flatMap]
local macro_rules | `(tactic| walk_at "loadName") => `(tactic| (k_here; k_dflt (refine wpAny_loadName_local (env := envOf _ _ _ _ _) rfl rfl (Fr.ns (by k_asm)) (by first | rfl | assumption) ?_)))
local macro_rules | `(tactic| walk_at "eval Name") => `(tactic| (k_here; k_dflt (refine' nameX_L ?F ?v ?_ ?a ?b; (case F => k_asm); (case a => rfl); (case b => rfl); (case v => first | rfl | assumption); k_whole)))
theorem headB : ∀ (w : World) (dp un : Nat) (gd : Option (List Code)) (A₀ : Around) (base h₀ : Heap) (outer : List Env) (L fa : Addr) (cd : Value) (m mg mb : Str → Option Value) (mean : ExcName → Option Value) (lo : List Str) (news : List (Addr × Obj)) (s : Shared) (Q : Flow → Shared → Prop)
    (_ : Below A₀ base outer h₀) (_ : Fr h₀ L s.heap m) (_ : (KK w.params).In h₀) (_ : News h₀ L s.heap news) (_ : Top qv lo mean mg mb h₀) (_ : dp < 850) (_ : un < 95) (x : Str) (n : Nat) (t1 t2 : Tok)
    (_ : m (Str.ofString "line") = some (.str x t1)) (_ : m (Str.ofString "maxlinelen") = some (.int (n : Int) t2)) (_ : x.length ≤ 3000)
    (_ : ∀ h' tk m' u1 u2, Fr h₀ L h' m' → News h₀ L h' news → m' (Str.ofString "start") = some (.int 0 u1) → m' (Str.ofString "laststart") = some (.int ((x.length : Int) - 1 - (n : Int)) u2) → (∀ y, y ≠ Str.ofString "start" → y ≠ Str.ofString "laststart" → m' y = m y) → Q .next { s with heap := h', toks := tk }),
    wpAny (model PySem.Challenge.rw_dm0096_03.row.prog w) ⟨none, dp, some (beEnv L fa cd :: outer), gd, un⟩ (execs ((beL.drop 0).take 2) (beEnv L fa cd)) Q (fun _ _ => False) s := by
  k_fill
  intro w dp un gd A₀ base h₀ outer L fa cd m mg mb mean lo news s Q B F X N T hd hu x n t1 t2 hml hmn hx hret
  rw [show (beL.drop 0).take 2 = [_, _] from rfl]
  unfold beEnv
  rw [show beSc = Scope.mk _ _ _ _ _ from rfl]
  k_steps
  exact hret _ _ _ _ _ (by assumption) (by assumption) (by exact rfl) (by exact rfl) (fun y a b => (if_neg b).trans (if_neg a))
theorem turnB : ∀ (w : World) (dp un : Nat) (gd : Option (List Code)) (A₀ : Around) (base h₀ : Heap) (outer : List Env) (L fa : Addr) (cd : Value) (m mg mb : Str → Option Value) (mean : ExcName → Option Value) (lo : List Str) (news : List (Addr × Obj)) (s : Shared) (Q : Flow → Shared → Prop)
    (_ : Below A₀ base outer h₀) (_ : Fr h₀ L s.heap m) (_ : (KK w.params).In h₀) (_ : News h₀ L s.heap news) (_ : Top qv lo mean mg mb h₀) (_ : dp < 850) (_ : un < 95) (x e sb : Str) (l : List Nat) (n : Nat) (t1 t2 t3 t4 : Tok) (D qa : Addr) (ts0 : List (Str × Tok)) (k0 : Nat) (rest : List (Addr × Obj))
    (_ : m (Str.ofString "line") = some (.str x t1)) (_ : m (Str.ofString "maxlinelen") = some (.int (n : Int) t2)) (_ : m (Str.ofString "maxlinelen1") = some (.int ((n : Int) - 1) t3)) (_ : m (Str.ofString "soft_break") = some (.str sb t4)) (_ : m (Str.ofString "append") = some (.ref qa))
    (_ : 4 ≤ n) (_ : x.length ≤ 3000) (_ : x.cps.toList = l.flatMap TE) (_ : sb.cps.toList = [61] ++ e.cps.toList) (_ : e.length ≤ 4)
    (_ : news = (D, lobj (tv ts0) k0) :: (qa, bmO D) :: rest) (_ : ∀ p ∈ (qa, bmO D) :: rest, p.1 ≠ D) (_ : ts0.length ≤ 50000)
    (_ : ∀ h' tk m' ts k, Fr h₀ L h' m' → News h₀ L h' ((D, lobj (tv (ts0 ++ ts)) k) :: (qa, bmO D) :: rest) → (∀ A, joinL e.cps.toList (tl (ts0 ++ ts) ++ A) = joinL e.cps.toList (tl ts0 ++ rowsP TE n l ++ A)) → ts.length ≤ x.length + 1 → (∀ p ∈ ts, p.1.length ≤ x.length + 20) →
      KeepOn [Str.ofString "maxlinelen", Str.ofString "maxlinelen1", Str.ofString "soft_break", Str.ofString "append", Str.ofString "eol", Str.ofString "body", Str.ofString "encoded_body"] m m' → Q .next { s with heap := h', toks := tk }),
    wpAny (model PySem.Challenge.rw_dm0096_03.row.prog w) ⟨none, dp, some (beEnv L fa cd :: outer), gd, un⟩ (execs (beL) (beEnv L fa cd)) Q (fun _ _ => False) s := by
  intro w dp un gd A₀ base h₀ outer L fa cd m mg mb mean lo news s Q B F X N T hd hu x e sb l n t1 t2 t3 t4 D qa ts0 k0 rest hml hmn hm1 hmb hma hn hx hxl hsb he hnews hne hts hret
  have hxf : x.cps.toList = (l.map TE).flatten := by rw [hxl, flat_map]
  have hxlen : x.length = (l.map TE).flatten.length := by rw [← hxf]; simp [Str.length]
  have hok : ∀ p ∈ l.map TE, OkP p := by
    intro p hp
    obtain ⟨c, _, rfl⟩ := List.mem_map.mp hp
    exact pcTE.ok c
  rw [show beL = (beL.drop 0).take 2 ++ ((beL.drop 2).take 1 ++ (beL.drop 3).take 1) from rfl]
  refine execs_app _ _ _ ?_
  refine headB w dp un gd A₀ base h₀ outer L fa cd m mg mb mean lo news s _ B F X N T hd hu x n t1 t2 hml hmn hx fun h1 tk1 m1 u1 u2 F1 N1 hs1 hl1 ho1 => ?_
  show wpAny _ _ (execs (_ ++ _) _) _ _ _
  refine execs_app _ _ _ ?_
  subst hnews
  refine whileB w dp un gd A₀ base h₀ outer L fa cd m1 mg mb mean lo _ _ _ B F1 X N1 T hd hu x n t1 u1 u2 t3 D qa ts0 k0 rest (l.map TE) ((ho1 _ (by decide +kernel) (by decide +kernel)).trans hml) hs1 hl1 ((ho1 _ (by decide +kernel) (by decide +kernel)).trans hm1) ((ho1 _ (by decide +kernel) (by decide +kernel)).trans hma)
    hn hx hxf hok rfl hne hts fun h2 tk2 m2 ts k u R q st F2 N2 htl S hend hst ho2 => ?_
  show wpAny _ _ (execs ((beL.drop 3).take 1) _) _ _ _
  have hlen := S.len
  have hcnt := S.cnt
  have htsl : ts.length = R.length := by have := congrArg List.length htl; simpa [tl] using this
  have hst1 : x.length = 0 ∨ st + 1 ≤ x.length := by
    rcases Nat.eq_zero_or_pos x.length with h | h
    · exact .inl h
    · right
      have hne0 : l.map TE ≠ [] := by
        intro e0
        rw [e0] at hxlen
        simp at hxlen
        omega
      have hq := S.ne hne0
      have : 0 < q.flatten.length := by
        cases hq' : q with
        | nil => exact absurd hq' hq
        | cons p r =>
          obtain ⟨j, ej⟩ := S.suf
          have hp : p ∈ l.map TE := List.mem_of_mem_drop (by rw [← ej, hq']; simp)
          have := (hok p hp).le3
          rw [List.flatten_cons, List.length_append]
          omega
      omega
  have hdrop : x.cps.toList.drop st = q.flatten := by rw [hxf]; exact S.pos
  refine lastB w dp un gd A₀ base h₀ outer L fa cd m2 mg mb mean lo _ _ _ B F2 X N2 T hd hu x e sb n st t1 u u2 t4 D qa (ts0 ++ ts) k rest ((ho2 _ (by decide +kernel) (by decide +kernel)).trans ((ho1 _ (by decide +kernel) (by decide +kernel)).trans hml)) hst ((ho2 _ (by decide +kernel) (by decide +kernel)).trans hl1) ((ho2 _ (by decide +kernel) (by decide +kernel)).trans ((ho1 _ (by decide +kernel) (by decide +kernel)).trans hmb)) ((ho2 _ (by decide +kernel) (by decide +kernel)).trans ((ho1 _ (by decide +kernel) (by decide +kernel)).trans hma))
    hn hx (by omega) hst1 (by omega) hsb he rfl hne (by simp; omega) fun h3 tk3 m3 y u3 k3 F3 N3 hy hyl ho3 => ?_
  refine hret _ _ _ (ts ++ [(y, u3)]) k3 F3 (by rw [← List.append_assoc]; exact N3) (fun A => ?_) (by simp; omega) (fun p hp => ?_) (fun z hz => ?_)
  · rw [hxl, blk_flat, ← hxl, hdrop] at hy
    have := line_rows pcTE hn l S hend e.cps.toList (tl ts0) A
    rw [← this, ← hy, ← htl]
    simp [tl]
  · rcases List.mem_append.mp hp with h | h
    · have h9 : p.1.cps.toList ∈ R.map (· ++ [61]) := by rw [← htl]; exact List.mem_map.mpr ⟨p, h, rfl⟩
      obtain ⟨r, hr, er⟩ := List.mem_map.mp h9
      have := S.rows r hr
      have e9 : p.1.length = r.length + 1 := by rw [show p.1.length = p.1.cps.toList.length from by simp [Str.length], ← er]; simp
      omega
    · rw [List.mem_singleton.mp h]; omega
  · rw [ho3 z (by rintro rfl; revert hz; decide +kernel) (by rintro rfl; revert hz; decide +kernel), ho2 z (by rintro rfl; revert hz; decide +kernel) (by rintro rfl; revert hz; decide +kernel), ho1 z (by rintro rfl; revert hz; decide +kernel) (by rintro rfl; revert hz; decide +kernel)]
end Mine

open PySem PySem.W PyProof.Rows PySem.Calls
set_option Elab.async false
set_option maxRecDepth 100000
set_option maxHeartbeats 8000000
set_option linter.unusedVariables false
namespace Mine
theorem lines_own {prog : Program} {w : World} {A : Around} {E : Value → Shared → Prop} {s : Shared} {h₀ : Heap} {L : Addr} {m : Str → Option Value} {news : List (Addr × Obj)} {x : Str} {t : Tok} {Q : Value → Shared → Prop}
    (F : Fr h₀ L s.heap m) (N : News h₀ L s.heap news) (text : List Nat) (hx : x.cps.toList = text.flatMap TE) (hsz : x.length ≤ 30000)
    (h : ∀ D lns h' k, tl lns = (dle (cutL text)).map (·.flatMap TE) → ((tl lns).map fun r => r.length + 1).sum ≤ x.length + 1 → (∀ p ∈ lns, p.1.length ≤ x.length) → (∀ p ∈ news, p.1 < D) → Fr h₀ L h' m → News h₀ L h' ((D, lobj (tv lns) 0) :: news) → Q (.ref D) { s with heap := h', toks := k }) :
    wpAny (model prog w) A (call (.builtin "str.splitlines") [.str x t]) Q E s := by
  refine splitlinesNA F N (fun l h' k e _ hs _ F' N' => h _ l h' k ?_ ?_ (fun p hp => hs p.1 (List.mem_map.mpr ⟨p, hp, rfl⟩)) (fun p hp => Heap.lt_size (N p hp).1) F' N') (by rw [sizeLine_eq]; omega)
  · have h1 : tl l = (Txt.lines x).map (·.cps.toList) := by rw [← e]; simp [tl]
    rw [h1, lines_toL x, hx, cut_flat pcTE, dle_flat pcTE]
    intro c hc
    rw [hx] at hc
    obtain ⟨d, _, hd⟩ := List.mem_flatMap.mp hc
    exact pcTE.lb d c hd
  · have h2 := StrLaws.lines_weight x
    rw [← e] at h2
    have h3 : ∀ l : List (Str × Tok), ((tl l).map fun r => r.length + 1).sum = ((l.map (·.1)).map (·.length)).sum + (l.map (·.1)).length := by
      intro l
      induction l with
      | nil => rfl
      | cons p r ih =>
        simp only [tl, List.map_cons, List.sum_cons, List.length_cons] at ih ⊢
        rw [ih]
        simp [Str.length]
        omega
    rw [h3]
    exact h2
theorem sum_take (f : List Nat → Nat) (i : Nat) : ∀ l : List (List Nat), ((l.take i).map f).sum ≤ (l.map f).sum := by
  intro l
  have : l.map f = (l.take i).map f ++ (l.drop i).map f := by rw [← List.map_append, List.take_append_drop]
  rw [this, List.sum_append]
  omega
theorem sum_step (f : List Nat → Nat) {l : List (List Nat)} {i : Nat} {r : List Nat} (h : l[i]? = some r) : ((l.take (i + 1)).map f).sum = ((l.take i).map f).sum + f r := by
  obtain ⟨hi, e⟩ := List.getElem?_eq_some_iff.mp h
  rw [List.take_succ_eq_append_getElem hi, e]
  simp
local macro_rules | `(tactic| walk_at "loadName") => `(tactic| (k_here; k_dflt (refine wpAny_loadName_local (env := envOf _ _ _ _ _) rfl rfl (Fr.ns (by k_asm)) (by first | rfl | assumption) ?_)))
local macro_rules | `(tactic| walk_at "eval Name") => `(tactic| (k_here; k_dflt (refine' nameX_L ?F ?v ?_ ?a ?b; (case F => k_asm); (case a => rfl); (case b => rfl); (case v => first | rfl | assumption); k_whole)))
local macro_rules | `(tactic| walk_at "call builtin:str.splitlines") => `(tactic| (k_here; refine lines_own (by k_asm) (by k_asm) _ (by assumption) (by omega) ?_; intro D2 lns h2 k2 hlns hW hll hlt2 F2 N2))
theorem loopB : ∀ (w : World) (dp un : Nat) (gd : Option (List Code)) (A₀ : Around) (base h₀ : Heap) (outer : List Env) (L fa : Addr) (cd : Value) (m mg mb : Str → Option Value) (mean : ExcName → Option Value) (lo : List Str) (news : List (Addr × Obj)) (s : Shared) (Q : Flow → Shared → Prop)
    (_ : Below A₀ base outer h₀) (_ : Fr h₀ L s.heap m) (_ : (KK w.params).In h₀) (_ : News h₀ L s.heap news) (_ : Top qv lo mean mg mb h₀) (_ : dp < 850) (_ : un < 95) (z e sb : Str) (text : List Nat) (n : Nat) (t1 t2 t3 t4 : Tok) (D qa : Addr) (k0 : Nat) (rest : List (Addr × Obj))
    (_ : m (Str.ofString "body") = some (.str z t1)) (_ : m (Str.ofString "maxlinelen") = some (.int (n : Int) t2)) (_ : m (Str.ofString "maxlinelen1") = some (.int ((n : Int) - 1) t3)) (_ : m (Str.ofString "soft_break") = some (.str sb t4)) (_ : m (Str.ofString "append") = some (.ref qa))
    (_ : 4 ≤ n) (_ : z.length ≤ 3000) (_ : z.cps.toList = text.flatMap TE) (_ : sb.cps.toList = [61] ++ e.cps.toList) (_ : e.length ≤ 4)
    (_ : news = (D, lobj [] k0) :: (qa, bmO D) :: rest) (_ : ∀ p ∈ (qa, bmO D) :: rest, p.1 ≠ D)
    (_ : ∀ h' tk m' ts k, Fr h₀ L h' m' → News h₀ L h' ((D, lobj (tv ts) k) :: (qa, bmO D) :: rest) → (∀ A, joinL e.cps.toList (tl ts ++ A) = joinL e.cps.toList ((dle (cutL text)).flatMap (rowsP TE n) ++ A)) → ts.length ≤ 3001 → (∀ p ∈ ts, p.1.length ≤ 3020) →
      KeepOn [Str.ofString "maxlinelen", Str.ofString "maxlinelen1", Str.ofString "soft_break", Str.ofString "append", Str.ofString "eol", Str.ofString "body", Str.ofString "encoded_body"] m m' → Q .next { s with heap := h', toks := tk }),
    wpAny (model PySem.Challenge.rw_dm0096_03.row.prog w) ⟨none, dp, some (beEnv L fa cd :: outer), gd, un⟩ (execs ((beB.drop 7).take 1) (beEnv L fa cd)) Q (fun _ _ => False) s := by
  k_fill
  intro w dp un gd A₀ base h₀ outer L fa cd m mg mb mean lo news s Q B F X N T hd hu z e sb text n t1 t2 t3 t4 D qa k0 rest hmz hmn hm1 hmb hma hn hz hzt hsb he hnews hne hret
  subst hnews
  rw [show (beB.drop 7).take 1 = [_] from rfl]
  unfold beEnv
  rw [show beSc = Scope.mk _ _ _ _ _ from rfl]
  refine wpAny_execs_cons ?_
  refine For_turns F ?_
  k_steps
  rename_i D2 lns h2 k2 hlns hW hll hlt2 F2 N2
  have hD2 : D < D2 := hlt2 _ (.head _)
  have hlts : ∀ p ∈ (D2, lobj (tv lns) 0) :: (D, lobj [] k0) :: (qa, bmO D) :: rest, p.1 < h2.objs.size := fun p hp => Heap.lt_size (N2 p hp).1
  have hDs : D < h2.objs.size := hlts _ (.tail _ (.head _))
  refine list_turns (ax := D2) (vs := tv lns) (n := 0) (fun i m' nw => ∃ ts k, nw = (D2, lobj (tv lns) 0) :: (D, lobj (tv ts) k) :: (qa, bmO D) :: rest ∧ (∀ A, joinL e.cps.toList (tl ts ++ A) = joinL e.cps.toList (((dle (cutL text)).take i).flatMap (rowsP TE n) ++ A)) ∧
      ts.length ≤ (((tl lns).take i).map fun r => r.length + 1).sum ∧ (∀ p ∈ ts, p.1.length ≤ 3020) ∧ KeepOn [Str.ofString "maxlinelen", Str.ofString "maxlinelen1", Str.ofString "soft_break", Str.ofString "append", Str.ofString "eol", Str.ofString "body", Str.ofString "encoded_body"] m m')
    rfl F2 N2 (.head _) ⟨[], k0, rfl, fun A => rfl, by simp [tl], by simp, fun y _ => rfl⟩ (fun v s Q E I i _ hQ => wpAny_pure hQ) ?_ ?_
  · rintro i v m₁ nw h₁ tk₁ own hown hvi ⟨ts, k, rfl, hj, hb1, hb2, hkeep⟩ F₁ N₁
    refine hid ?_
    have hv : ∃ p, lns[i]? = some p ∧ v = .str p.1 p.2 := by
      rw [tv, List.getElem?_map] at hvi
      cases hp : lns[i]? with
      | none => rw [hp] at hvi; cases hvi
      | some p => rw [hp] at hvi; exact ⟨p, rfl, (Option.some.inj hvi).symm⟩
    obtain ⟨p, hp, rfl⟩ := hv
    have hpl := hll p (List.mem_of_getElem? hp)
    have htp : (tl lns)[i]? = some p.1.cps.toList := by rw [tl, List.getElem?_map, hp]; rfl
    obtain ⟨l, hl1, hl2⟩ : ∃ l, (dle (cutL text))[i]? = some l ∧ p.1.cps.toList = l.flatMap TE := by
      rw [hlns, List.getElem?_map] at htp
      cases hq : (dle (cutL text))[i]? with
      | none => rw [hq] at htp; cases htp
      | some l => rw [hq] at htp; exact ⟨l, rfl, (Option.some.inj htp).symm⟩
    have hs1 := sum_take (fun r => r.length + 1) (i + 1) (tl lns)
    have hs2 := sum_step (fun r => r.length + 1) htp
    have hpl2 : p.1.length = p.1.cps.toList.length := by simp [Str.length]
    k_steps
    rename_i h3 F3 N3
    show wpAny _ _ _ _ _ _
    generalize hm3 : (fun z => if z = Str.ofString "line" then some (Value.str p.1 p.2) else m₁ z) = m3 at F3
    have cc : ∀ y, y ≠ Str.ofString "line" → m3 y = m₁ y := fun y hy => by rw [← hm3]; exact if_neg hy
    have hN3 : News h₀ L h3 ((D, lobj (tv ts) k) :: (qa, bmO D) :: (own ++ (D2, lobj (tv lns) 0) :: rest)) := fun p hp => N3 p (by
      rcases List.mem_cons.mp hp with rfl | hp
      · exact List.mem_append.mpr (.inr (.tail _ (.head _)))
      rcases List.mem_cons.mp hp with rfl | hp
      · exact List.mem_append.mpr (.inr (.tail _ (.tail _ (.head _))))
      rcases List.mem_append.mp hp with hp | hp
      · exact List.mem_append.mpr (.inl hp)
      rcases List.mem_cons.mp hp with rfl | hp
      · exact List.mem_append.mpr (.inr (.head _))
      · exact List.mem_append.mpr (.inr (.tail _ (.tail _ (.tail _ hp)))))
    refine turnB w dp un gd A₀ base h₀ outer L fa cd m3 mg mb mean lo _ _ _ B F3 X hN3 T hd hu p.1 e sb l n p.2 t2 t3 t4 D qa ts k (own ++ (D2, lobj (tv lns) 0) :: rest)
      (by rw [← hm3]; exact if_pos rfl) ((cc _ (by decide +kernel)).trans ((hkeep _ (by decide +kernel)).trans hmn)) ((cc _ (by decide +kernel)).trans ((hkeep _ (by decide +kernel)).trans hm1)) ((cc _ (by decide +kernel)).trans ((hkeep _ (by decide +kernel)).trans hmb)) ((cc _ (by decide +kernel)).trans ((hkeep _ (by decide +kernel)).trans hma))
      hn (by omega) hl2 hsb he rfl ?_ (by omega) ?_
    · intro p hp
      rcases List.mem_cons.mp hp with rfl | hp
      · exact hne _ (.head _)
      rcases List.mem_append.mp hp with hp | hp
      · intro e9
        rcases hown p hp with h | h
        · exact absurd (e9 ▸ h) (Nat.not_le.mpr hDs)
        · exact absurd (h.symm.trans e9) (Nat.ne_of_gt hD2)
      rcases List.mem_cons.mp hp with rfl | hp
      · exact Nat.ne_of_gt hD2
      · exact hne _ (.tail _ hp)
    · intro h' tk m' ts' k' F' N' hj' hl' hm' ho'
      refine TurnEnd.next F' (nw := (D2, lobj (tv lns) 0) :: (D, lobj (tv (ts ++ ts')) k') :: (qa, bmO D) :: rest) (fun p hp => N' p ?_) (fun p hp => ?_) ⟨ts ++ ts', k', rfl, fun A => ?_, ?_, fun p hp => ?_, fun y hy => ?_⟩
      · rcases List.mem_append.mp hp with hp | hp
        · exact .tail _ (.tail _ (List.mem_append.mpr (.inl hp)))
        rcases List.mem_cons.mp hp with rfl | hp
        · exact .tail _ (.tail _ (List.mem_append.mpr (.inr (.head _))))
        rcases List.mem_cons.mp hp with rfl | hp
        · exact .head _
        rcases List.mem_cons.mp hp with rfl | hp
        · exact .tail _ (.head _)
        · exact .tail _ (.tail _ (List.mem_append.mpr (.inr (.tail _ hp))))
      · rcases List.mem_cons.mp hp with rfl | hp
        · exact hlts _ (.head _)
        rcases List.mem_cons.mp hp with rfl | hp
        · exact hDs
        · exact hlts _ (.tail _ (.tail _ hp))
      · obtain ⟨hi9, e9⟩ := List.getElem?_eq_some_iff.mp hl1
        rw [hj', List.append_assoc, hj, List.take_succ_eq_append_getElem hi9, e9]
        simp
      · rw [List.length_append, hs2]
        omega
      · rcases List.mem_append.mp hp with h | h
        · exact hb2 p h
        · have := hm' p h; omega
      · rw [ho' y hy, cc y (by rintro rfl; revert hy; decide +kernel)]
        exact hkeep y hy
  · rintro h' tk m' nw F' N' ⟨ts, k, rfl, hj, hb1, hb2, hkeep⟩
    have hlen : (tv lns).length = (dle (cutL text)).length := by
      have := congrArg List.length hlns
      simpa [tl, tv] using this
    have hs1 := sum_take (fun r => r.length + 1) (tv lns).length (tl lns)
    rw [hlen, List.take_length] at hj
    k_steps
    exact hret _ _ _ ts k F' (fun p hp => N' p (.tail _ hp)) hj (by omega) hb2 hkeep
end Mine

open PySem PySem.W PyProof.Rows PySem.Calls
set_option Elab.async false
set_option maxRecDepth 100000
set_option maxHeartbeats 8000000
set_option linter.unusedVariables false
namespace Mine
theorem join_tv {prog : Program} {w : World} {A : Around} {E : Value → Shared → Prop} {s : Shared} {h₀ : Heap} {L l : Addr} {news : List (Addr × Obj)} {ts : List (Str × Tok)} {n : Nat} {e : Str} {t : Tok} {Q : Value → Shared → Prop}
    (N : News h₀ L s.heap news) (hm : (l, lobj (tv ts) n) ∈ news) (hts : ts.length ≤ 3100) (hlen : ∀ p ∈ ts, p.1.length ≤ 5000) (he : e.length ≤ 4)
    (hQ : ∀ y t' k, y.cps.toList = joinL e.cps.toList (tl ts) → Q (.str y t') { s with toks := k }) : wpAny (model prog w) A (call (.builtin "str.join") [.str e t, .ref l]) Q E s := by
  refine SC.join (l := ts) (isl_of N hm) rfl ?_ fun t' k => hQ _ _ _ ?_
  · unfold JoinOk
    rw [Bool.not_eq_true']
    refine StrLaws.joinFits (B := 5000) (fun y hy => ?_) ?_
    · obtain ⟨p, hp, rfl⟩ := List.mem_map.mp hy
      exact hlen p hp
    · rw [List.length_map]
      have h1 : ts.length * 5000 ≤ 3100 * 5000 := Nat.mul_le_mul_right _ hts
      have h2 : ts.length * e.length ≤ 3100 * 4 := Nat.mul_le_mul hts he
      omega
  · have e1 : (Builtin.Str.glued e (ts.map (·.1))).cps.toList = joinL e.cps.toList (tl ts) := by
      rw [StrLaws.glued_eq_join, join_toL, List.map_map]
      rfl
    exact e1
theorem crlf_in {x : Str} {l : List Nat} {c : Nat} (h : x.cps.toList = l ++ [c]) {b : Bool} (hb : (Builtin.Str.occurrences (Str.ofString "\x0d\n") (Txt.item x (-1)) 0 (Str.ofString "\x0d\n").length 1).isEmpty = b) : b = !decide (c = 10 ∨ c = 13) := by
  rw [← hb, item_lastS h, in_lit, show decide (c ∈ (Str.ofString "\x0d\n").cps.toList) = decide (c = 10 ∨ c = 13) from by rw [show (Str.ofString "\x0d\n").cps.toList = [13, 10] from by decide +kernel]; simp [or_comm]]
theorem rowsP_nil (n : Nat) : rowsP TE n [] = [[]] := rfl
theorem end_join {e : List Nat} {ts : List (Str × Tok)} {t9 : List Nat} {c n : Nat} (hj : ∀ A, joinL e (tl ts ++ A) = joinL e ((dle (cutL (t9 ++ [c]))).flatMap (rowsP TE n) ++ A)) :
    (c = 10 ∨ c = 13 → joinL e (tl ts ++ [[]]) = joinL e ((lawLn (t9 ++ [c])).flatMap (rowsP TE n))) ∧ (¬ (c = 10 ∨ c = 13) → joinL e (tl ts) = joinL e ((lawLn (t9 ++ [c])).flatMap (rowsP TE n))) := by
  rw [← law_body]
  refine ⟨fun h => ?_, fun h => ?_⟩
  · rw [if_pos h, hj, List.flatMap_append]
    rfl
  · rw [if_neg h, List.append_nil]
    have := hj []
    rwa [List.append_nil, List.append_nil] at this
local macro_rules | `(tactic| walk_at "loadName") => `(tactic| (k_here; k_dflt (refine wpAny_loadName_local (env := envOf _ _ _ _ _) rfl rfl (Fr.ns (by k_asm)) (by first | rfl | assumption) ?_)))
local macro_rules | `(tactic| walk_at "eval Name") => `(tactic| (k_here; k_dflt (refine' nameX_L ?F ?v ?_ ?a ?b; (case F => k_asm); (case a => rfl); (case b => rfl); (case v => first | rfl | assumption); k_whole)))
local macro_rules | `(tactic| k_upd) => `(tactic| exact Upd.head (by assumption))
local macro_rules | `(tactic| walk_at "callWith ref") => `(tactic| (k_here; (with_reducible show wpAny _ _ (callWith _ (Value.ref _) _ (backTo _ (starEach (_ :: _) _)) []) _ _ _); k_dflt (refine' callWith_bm ?bN ?bM ?_; (case bN => k_asm); (case bM => k_mem); k_whole)))
local macro_rules | `(tactic| walk_at "And") => `(tactic| ((with_reducible show StandsB _ _ _ ∧ _); k_dflt (refine ⟨bm_at (by k_asm) (by k_mem), ?_⟩); (try dsimp only [List.nil_append, List.cons_append])))
local macro_rules | `(tactic| walk_at "call ref") => `(tactic| (k_here; refine call_bm (by k_asm) (by k_asm) (by k_mem) (by k_upd) (by first | assumption | omega) ?_; intro h' F' N'; (try k_sweep)))
theorem endB : ∀ (w : World) (dp un : Nat) (gd : Option (List Code)) (A₀ : Around) (base h₀ : Heap) (outer : List Env) (L fa : Addr) (cd : Value) (m mg mb : Str → Option Value) (mean : ExcName → Option Value) (lo : List Str) (news : List (Addr × Obj)) (s : Shared) (Q : Flow → Shared → Prop)
    (_ : Below A₀ base outer h₀) (_ : Fr h₀ L s.heap m) (_ : (KK w.params).In h₀) (_ : News h₀ L s.heap news) (_ : Top qv lo mean mg mb h₀) (_ : dp < 850) (_ : un < 95) (z e : Str) (n : Nat) (t1 t2 : Tok) (D qa : Addr) (ts : List (Str × Tok)) (k : Nat) (rest : List (Addr × Obj))
    (_ : m (Str.ofString "body") = some (.str z t1)) (_ : m (Str.ofString "eol") = some (.str e t2)) (_ : m (Str.ofString "append") = some (.ref qa)) (_ : m (Str.ofString "encoded_body") = some (.ref D))
    (_ : 1 ≤ z.length) (_ : z.length ≤ 3000) (_ : e.length ≤ 4)
    (_ : news = (D, lobj (tv ts) k) :: (qa, bmO D) :: rest) (_ : ∀ p ∈ (qa, bmO D) :: rest, p.1 ≠ D) (_ : ts.length ≤ 3001) (_ : ∀ p ∈ ts, p.1.length ≤ 3020) (t9 : List Nat) (c : Nat) (_ : z.cps.toList = (t9 ++ [c]).flatMap TE) (_ : ∀ A, joinL e.cps.toList (tl ts ++ A) = joinL e.cps.toList ((dle (cutL (t9 ++ [c]))).flatMap (rowsP TE n) ++ A))
    (_ : ∀ h' tk told u, Fr h₀ L h' m → News h₀ L h' rest → told.cps.toList = joinL e.cps.toList ((lawLn (t9 ++ [c])).flatMap (rowsP TE n)) → Q (.ret (.str told u)) { s with heap := h', toks := tk }),
    wpAny (model PySem.Challenge.rw_dm0096_03.row.prog w) ⟨none, dp, some (beEnv L fa cd :: outer), gd, un⟩ (execs ((beB.drop 8).take 2) (beEnv L fa cd)) Q (fun _ _ => False) s := by
  k_fill
  intro w dp un gd A₀ base h₀ outer L fa cd m mg mb mean lo news s Q B F X N T hd hu z e n t1 t2 D qa ts k rest hmz hme hma hmd hz1 hz he hnews hne hts hlen t9 c hzt hj hret
  subst hnews
  have hvs : (tv ts).length ≤ 100000 := by simp [tv]; omega
  rw [show (beB.drop 8).take 2 = [_, _] from rfl]
  unfold beEnv
  rw [show beSc = Scope.mk _ _ _ _ _ from rfl]
  k_steps
  all_goals
    obtain ⟨l9, d, hld⟩ := nonempty_last hz1
    have hgl : (TE c).getLast? = some d := by
      have := last_flat pcTE t9 c
      rw [← hzt, hld, List.getLast?_concat] at this
      exact this.symm
    have hcd := last_crlf pcTE c d hgl
  · have hb := crlf_in hld (by assumption)
    have hc : ¬ (c = 10 ∨ c = 13) := by
      rw [← hcd]
      simpa using hb
    refine join_tv (by k_asm) (List.mem_cons_self ..) (by omega) (fun p hp => Nat.le_trans (hlen p hp) (by decide)) he fun y t' k' hy => ?_
    exact hret _ _ y t' (by k_asm) (cb_drop (by k_asm) (fun p hp => .tail _ (.tail _ hp))) (hy.trans ((end_join hj).2 hc))
  · have hb := crlf_in hld (by assumption)
    have hc : c = 10 ∨ c = 13 := by
      rw [← hcd]
      simp at hb
      omega
    rename_i h9 F9 N9
    refine join_tv (ts := ts ++ [(Str.ofString "", _)]) (n := k + 1) (news := (D, lobj (tv ts ++ [.str (Str.ofString "") _]) (k + 1)) :: (qa, bmO D) :: rest) N9 (by rw [tv_snoc]; exact List.mem_cons_self ..) (by simp; omega) (fun p hp => ?_) he fun y t' k' hy => ?_
    · rcases List.mem_append.mp hp with h | h
      · exact Nat.le_trans (hlen p h) (by decide)
      · rw [List.mem_singleton.mp h]
        show (Str.ofString "").length ≤ 5000
        decide +kernel
    · rw [tl_snoc, show (Str.ofString "").cps.toList = [] from by decide +kernel] at hy
      exact hret _ _ y t' (by k_asm) (cb_drop (by k_asm) (fun p hp => .tail _ (.tail _ hp))) (hy.trans ((end_join hj).1 hc))
end Mine

open PySem PySem.W PyProof.Rows PySem.Calls
set_option Elab.async false
set_option maxRecDepth 100000
set_option maxHeartbeats 8000000
set_option linter.unusedVariables false
namespace Mine
theorem be_raise : ∀ (w : World) (A A₀ : Around) (base h₀ : Heap) (env : Env) (outer : List Env) (L : Addr) (m mg mb : Str → Option Value) (mean : ExcName → Option Value) (lo : List Str) (news : List (Addr × Obj)) (s : Shared) (Q E : Value → Shared → Prop)
    (_ : Below A₀ base outer h₀) (_ : Fr h₀ L s.heap m) (_ : (KK w.params).In h₀) (_ : News h₀ L s.heap news) (_ : Top qv lo mean mg mb h₀)
    (_ : A.frames = some (env :: outer)) (_ : env.frame = some L) (_ : env.scope.kind = .function) (_ : A.depth < 800) (_ : A.units < 80) (_ : A.handled = none)
    (x e : Str) (n : Int) (t1 t2 t3 : Tok) (_ : n < 4)
    (_ : ∀ ex g h' tk, Fr h₀ L g m → RaisedN base (env :: outer) ex (.type "ValueError") news h' → g.UpToSlots h' → E (.ref ex) { s with heap := h', toks := tk }),
    wpAny (model PySem.Challenge.rw_dm0096_03.row.prog w) A (call (.ref 50) [.str x t1, .int n t2, .str e t3]) Q E s := by
  k_fill
  intro w A A₀ base h₀ env outer L m mg mb mean lo news s Q E B F X N T hA hf hke hd hu hh x e n t1 t2 t3 hn hret
  obtain ⟨ah, dp, fr, gd, un⟩ := A
  dsimp only at hA hd hu hh
  subst hh
  subst hA
  refine wpAny_call ?_
  refine' code_def B F X N T rfl hf hke ?k6 ?k7 ?k8 ?k9 ?kB ?_ ?c2 ?c3 ?c4 ?c5
  case k6 => k_is
  case k7 => k_is
  case k8 => exact Nat.lt_of_lt_of_le hd (by decide)
  case k9 => (refine' binds_K (X.keeps F.keep) ?a ?b ?c ?d ?e; (case a => exact rfl); (case b => k_is); (case c => exact rfl); (case d => k_dflt (exact rfl)); (case e => k_dflt (exact rfl)))
  case c5 => decide
  case kB => k_dflt (exact locs rfl)
  case c2 => exact rfl
  case c3 => exact rfl
  case c4 => exact rfl
  intro g' L' h' FG' F' N' B' X' T'
  (try dsimp only); (try k_fold)
  k_steps
  exact hret _ g' _ _ FG' (by assumption) (by assumption)
theorem be_empty : ∀ (w : World) (A A₀ : Around) (base h₀ : Heap) (env : Env) (outer : List Env) (L : Addr) (m mg mb : Str → Option Value) (mean : ExcName → Option Value) (lo : List Str) (news : List (Addr × Obj)) (s : Shared) (Q E : Value → Shared → Prop)
    (_ : Below A₀ base outer h₀) (_ : Fr h₀ L s.heap m) (_ : (KK w.params).In h₀) (_ : News h₀ L s.heap news) (_ : Top qv lo mean mg mb h₀)
    (_ : A.frames = some (env :: outer)) (_ : env.frame = some L) (_ : env.scope.kind = .function) (_ : A.depth < 800) (_ : A.units < 80) (_ : A.handled = none)
    (x e : Str) (n : Int) (t1 t2 t3 : Tok) (_ : 4 ≤ n) (_ : x.length = 0)
    (_ : ∀ h' tk, Fr h₀ L h' m → News h₀ L h' news → Q (.str x t1) { s with heap := h', toks := tk }),
    wpAny (model PySem.Challenge.rw_dm0096_03.row.prog w) A (call (.ref 50) [.str x t1, .int n t2, .str e t3]) Q E s := by
  k_fill
  intro w A A₀ base h₀ env outer L m mg mb mean lo news s Q E B F X N T hA hf hke hd hu hh x e n t1 t2 t3 hn hx hret
  obtain ⟨ah, dp, fr, gd, un⟩ := A
  dsimp only at hA hd hu hh
  subst hh
  subst hA
  refine wpAny_call ?_
  refine' code_def B F X N T rfl hf hke ?k6 ?k7 ?k8 ?k9 ?kB ?_ ?c2 ?c3 ?c4 ?c5
  case k6 => k_is
  case k7 => k_is
  case k8 => exact Nat.lt_of_lt_of_le hd (by decide)
  case k9 => (refine' binds_K (X.keeps F.keep) ?a ?b ?c ?d ?e; (case a => exact rfl); (case b => k_is); (case c => exact rfl); (case d => k_dflt (exact rfl)); (case e => k_dflt (exact rfl)))
  case c5 => decide
  case kB => k_dflt (exact locs rfl)
  case c2 => exact rfl
  case c3 => exact rfl
  case c4 => exact rfl
  intro g' L' h' FG' F' N' B' X' T'
  (try dsimp only); (try k_fold)
  show wpAny _ _ (execs beB (beEnv L' 50 (.ref 49))) _ _ _
  rw [show beB = (beB.drop 0).take 2 ++ beB.drop 2 from rfl]
  refine execs_app _ _ _ ?_
  rw [show (beB.drop 0).take 2 = [_, _] from rfl]
  unfold beEnv
  rw [show beSc = Scope.mk _ _ _ _ _ from rfl]
  k_steps
  · exact absurd (by omega) (show (x.length : Int) ≠ 0 by assumption)
  · show qk (.ret (.str x t1)) _
    k_steps
    exact hret _ _ (by k_asm) (by k_asm)
theorem be_ok : ∀ (w : World) (A A₀ : Around) (base h₀ : Heap) (env : Env) (outer : List Env) (L : Addr) (m mg mb : Str → Option Value) (mean : ExcName → Option Value) (lo : List Str) (news : List (Addr × Obj)) (s : Shared) (Q E : Value → Shared → Prop)
    (_ : Below A₀ base outer h₀) (_ : Fr h₀ L s.heap m) (_ : (KK w.params).In h₀) (_ : News h₀ L s.heap news) (_ : Top qv lo mean mg mb h₀)
    (_ : A.frames = some (env :: outer)) (_ : env.frame = some L) (_ : env.scope.kind = .function) (_ : A.depth < 800) (_ : A.units < 80) (_ : A.handled = none)
    (x e : Str) (n : Nat) (t1 t2 t3 : Tok) (_ : 4 ≤ n) (_ : 1 ≤ x.length) (_ : x.length ≤ 1000) (_ : ∀ c ∈ x.cps.toList, c < 1114112) (_ : e.length ≤ 4)
    (_ : ∀ told u h' tk, told.cps.toList = joinL e.cps.toList ((lawLn x.cps.toList).flatMap (rowsP TE n)) → Fr h₀ L h' m → News h₀ L h' news → Q (.str told u) { s with heap := h', toks := tk }),
    wpAny (model PySem.Challenge.rw_dm0096_03.row.prog w) A (call (.ref 50) [.str x t1, .int (n : Int) t2, .str e t3]) Q E s := by
  k_fill
  intro w A A₀ base h₀ env outer L m mg mb mean lo news s Q E B F X N T hA hf hke hd hu hh x e n t1 t2 t3 hn hx1 hx hxc he hret
  obtain ⟨ah, dp, fr, gd, un⟩ := A
  dsimp only at hA hd hu hh
  subst hh
  subst hA
  refine wpAny_call ?_
  refine' code_def B F X N T rfl hf hke ?k6 ?k7 ?k8 ?k9 ?kB ?_ ?c2 ?c3 ?c4 ?c5
  case k6 => k_is
  case k7 => k_is
  case k8 => exact Nat.lt_of_lt_of_le hd (by decide)
  case k9 => (refine' binds_K (X.keeps F.keep) ?a ?b ?c ?d ?e; (case a => exact rfl); (case b => k_is); (case c => exact rfl); (case d => k_dflt (exact rfl)); (case e => k_dflt (exact rfl)))
  case c5 => decide
  case kB => k_dflt (exact locs rfl)
  case c2 => exact rfl
  case c3 => exact rfl
  case c4 => exact rfl
  intro g' L' h' FG' F' N' B' X' T'
  (try dsimp only); (try k_fold)
  show wpAny _ _ (execs beB (beEnv L' 50 (.ref 49))) _ _ _
  refine wpAny_mono (E := fun _ _ => False) ?_ (fun _ _ h => h) (fun _ _ h => h.elim)
  have hd' : dp + 1 < 850 := by omega
  have hu' : un + 3 < 95 := by omega
  rw [show beB = (beB.drop 0).take 7 ++ ((beB.drop 7).take 1 ++ (beB.drop 8).take 2) from rfl]
  refine execs_app _ _ _ ?_
  have hx0 : x.cps ≠ #[] := by
    intro e0
    have : x.length = 0 := by unfold Str.length; rw [e0]; rfl
    omega
  refine bePre w _ _ _ _ _ _ _ _ _ _ _ _ _ _ _ _ _ _ B' F' X' N' T' hd' hu' x e n _ _ _ rfl rfl rfl hxc hn hx hx0 he fun h1 tk1 m1 D qa z sb u1 u2 u3 F1 N1 hlt1 hDq hz hzl hsb a1 a2 a3 a4 a5 hk1 => ?_
  show wpAny _ _ (execs (_ ++ _) _) _ _ _
  refine execs_app _ _ _ ?_
  have N1' : News g' L' h1 ((D, lobj [] 0) :: (qa, bmO D) :: news) := fun p hp => N1 p (by
    rcases List.mem_cons.mp hp with rfl | hp
    · exact .tail _ (.head _)
    rcases List.mem_cons.mp hp with rfl | hp
    · exact .head _
    · exact .tail _ (.tail _ hp))
  have hne : ∀ p ∈ (qa, bmO D) :: news, p.1 ≠ D := by
    intro p hp
    rcases List.mem_cons.mp hp with rfl | hp
    · exact Nat.ne_of_gt hDq
    · exact Nat.ne_of_lt (hlt1 p hp)
  have b1 : m1 (Str.ofString "maxlinelen") = some (.int (n : Int) t2) := hk1 _ (by decide +kernel)
  have b2 : m1 (Str.ofString "eol") = some (.str e t3) := hk1 _ (by decide +kernel)
  have hz3 : z.length ≤ 3000 := by omega
  refine loopB w _ _ _ _ _ _ _ _ _ _ _ _ _ _ _ _ _ _ B' F1 X' N1' T' hd' hu' z e sb x.cps.toList n u1 t2 u3 u2 D qa 0 news a1 b1 a3 a2 a5 hn hz3 hz hsb he rfl hne fun h2 tk2 m2 ts k F2 N2 hj hts hlen hk2 => ?_
  show wpAny _ _ (execs ((beB.drop 8).take 2) _) _ _ _
  obtain ⟨t9, c, htc⟩ := nonempty_last hx1
  rw [htc] at hz hj
  have hz1 : 1 ≤ z.length := by
    rw [show z.length = z.cps.toList.length from by simp [Str.length], hz]
    have := (flat_nil pcTE (t9 ++ [c])).mp
    rcases Nat.eq_zero_or_pos ((t9 ++ [c]).flatMap TE).length with h | h
    · exact absurd (this (List.length_eq_zero_iff.mp h)) (by simp)
    · exact h
  refine endB w _ _ _ _ _ _ _ _ _ _ _ _ _ _ _ _ _ _ B' F2 X' N2 T' hd' hu' z e n u1 t3 D qa ts k news ((hk2 _ (by decide +kernel)).trans a1) ((hk2 _ (by decide +kernel)).trans b2) ((hk2 _ (by decide +kernel)).trans a5) ((hk2 _ (by decide +kernel)).trans a4) hz1 hz3 he rfl hne hts hlen t9 c hz hj fun h3 tk3 told u F3 N3 htold => ?_
  rw [← htc] at htold
  k_steps
  exact hret told u _ _ htold (by k_asm) (by k_asm)
end Mine

open PySem PySem.W PyProof.Rows PySem.Calls
set_option Elab.async false
set_option maxRecDepth 100000
set_option maxHeartbeats 8000000
set_option linter.unusedVariables false
namespace Mine
noncomputable def lawB : List Stmt := bodyOf (stP 23)
noncomputable def lawSc : Scope := scopeOf (stP 23)
noncomputable abbrev lawEnv (L fa : Addr) (cd : Value) : Env := envOf (Str.ofString "law") lawSc L fa cd
theorem ints_two {ws : List Value} {l : List Int} (h : IntsAre ws l) (hl : l.length = 2) : ∃ f g t u, ws = [.int f t, .int g u] := by
  cases h with
  | nil => simp at hl
  | cons f t h =>
    cases h with
    | nil => simp at hl
    | cons g u h =>
      cases h with
      | nil => exact ⟨_, _, _, _, rfl⟩
      | cons k v h => simp at hl
local macro_rules | `(tactic| walk_at "loadName") => `(tactic| (k_here; k_dflt (refine wpAny_loadName_local (env := envOf _ _ _ _ _) rfl rfl (Fr.ns (by k_asm)) (by first | rfl | assumption) ?_)))
local macro_rules | `(tactic| walk_at "eval Name") => `(tactic| (k_here; k_dflt (refine' nameX_L ?F ?v ?_ ?a ?b; (case F => k_asm); (case a => rfl); (case b => rfl); (case v => first | rfl | assumption); k_whole)))
theorem partA : ∀ (w : World) (dp un : Nat) (gd : Option (List Code)) (A₀ : Around) (base h₀ : Heap) (outer : List Env) (L fa : Addr) (cd : Value) (m mg mb : Str → Option Value) (mean : ExcName → Option Value) (lo : List Str) (news : List (Addr × Obj)) (s : Shared) (Q : Flow → Shared → Prop)
    (_ : Below A₀ base outer h₀) (_ : Fr h₀ L s.heap m) (_ : (KK w.params).In h₀) (_ : News h₀ L s.heap news) (_ : Top qv lo mean mg mb h₀) (_ : dp < 700) (_ : un < 60) (sc : Addr) (vs : List Value) (ns : List Int)
    (_ : m (Str.ofString "script") = some (.ref sc)) (_ : h₀.IsList sc vs.toArray) (_ : IntsAre vs ns) (_ : ns.length ≤ 63)
    (_ : ∀ h' tk m' news' D ws ks f g u1 u2, Fr h₀ L h' m' → News h₀ L h' news' → m' (Str.ofString "script") = some (.ref D) → (D, lobj ws 0) ∈ news' → IntsAre ws ks → ks.length ≤ 63 → m' (Str.ofString "first") = some (.int f u1) → m' (Str.ofString "second") = some (.int g u2) → Q .next { s with heap := h', toks := tk }),
    wpAny (model PySem.Challenge.rw_dm0096_03.row.prog w) ⟨none, dp, some (lawEnv L fa cd :: outer), gd, un⟩ (execs ((lawB.drop 0).take 2) (lawEnv L fa cd)) Q (fun _ _ => False) s := by
  k_fill
  intro w dp un gd A₀ base h₀ outer L fa cd m mg mb mean lo news s Q B F X N T hd hu sc vs ns hsc hl hi hn hret
  rw [show (lawB.drop 0).take 2 = [_, _] from rfl]
  unfold lawEnv
  rw [show lawSc = Scope.mk _ _ _ _ _ from rfl]
  k_steps
  rename_i D1 ws1 h1 l1 hI1 hC1 hL1 l2 h2 ll2 D3 ws3 h3 hI3 ll3 D4 ws4 h4 F4 N4 hI4 hC4 hL4 ll4
  obtain ⟨f, g, u1, u2, rfl⟩ := ints_two hI4 (by rw [hC4]; simp)
  refine kun_list F4 N4 (isl_of N4 (List.mem_cons_self ..)) rfl rfl rfl (fun h' F' N' => ?_)
  k_steps
  exact hret _ _ _ _ _ _ _ f g _ _ (by assumption) (by assumption) (by exact rfl) (by repeat (first | exact List.Mem.head _ | apply List.Mem.tail)) (by assumption) (by omega) (by exact rfl) (by exact rfl)
end Mine

open PySem PySem.W PyProof.Rows PySem.Calls
set_option Elab.async false
set_option maxRecDepth 100000
set_option maxHeartbeats 8000000
set_option linter.unusedVariables false
namespace Mine
theorem item_four {prog : Program} {w : World} {A : Around} {E : Value → Shared → Prop} {s : Shared} {h₀ : Heap} {L l : Addr} {news : List (Addr × Obj)} {a b c d : Str} {ta tb tc td : Tok} {n : Nat} {value slice : Expr} {k : Int} {u : Tok} {Q : Value → Shared → Prop}
    (N : News h₀ L s.heap news) (hm : (l, lobj [.str a ta, .str b tb, .str c tc, .str d td] n) ∈ news) (ha : a.length ≤ 4) (hb : b.length ≤ 4) (hc : c.length ≤ 4) (hd : d.length ≤ 4) (h0 : 0 ≤ k) (h1 : k < 4) (h : ∀ e t, e.length ≤ 4 → Q (.str e t) s)
    (hs : subscripted slice false (.ref l) (.int k u) = operate [.ref l, .int k u] (getItem (.ref l) (.int k u)) := by with_unfolding_all rfl) (hg : ∀ r, letTemporaryGo value (.ref l) r = pure () := by intro _; with_unfolding_all rfl) :
    wpAny (model prog w) A (subscriptTail value slice (.ref l) (.int k u)) Q E s := by
  have hk : k = 0 ∨ k = 1 ∨ k = 2 ∨ k = 3 := by omega
  rcases hk with rfl | rfl | rfl | rfl
  · exact item_own N hm (by decide) (by decide) rfl (h _ _ ha) hs hg
  · exact item_own N hm (by decide) (by decide) rfl (h _ _ hb) hs hg
  · exact item_own N hm (by decide) (by decide) rfl (h _ _ hc) hs hg
  · exact item_own N hm (by decide) (by decide) rfl (h _ _ hd) hs hg
local macro_rules | `(tactic| walk_at "loadName") => `(tactic| (k_here; k_dflt (refine wpAny_loadName_local (env := envOf _ _ _ _ _) rfl rfl (Fr.ns (by k_asm)) (by first | rfl | assumption) ?_)))
local macro_rules | `(tactic| walk_at "eval Name") => `(tactic| (k_here; k_dflt (refine' nameX_L ?F ?v ?_ ?a ?b; (case F => k_asm); (case a => rfl); (case b => rfl); (case v => first | rfl | assumption); k_whole)))
theorem partB1 : ∀ (w : World) (dp un : Nat) (gd : Option (List Code)) (A₀ : Around) (base h₀ : Heap) (outer : List Env) (L fa : Addr) (cd : Value) (m mg mb : Str → Option Value) (mean : ExcName → Option Value) (lo : List Str) (news : List (Addr × Obj)) (s : Shared) (Q : Flow → Shared → Prop)
    (_ : Below A₀ base outer h₀) (_ : Fr h₀ L s.heap m) (_ : (KK w.params).In h₀) (_ : News h₀ L s.heap news) (_ : Top qv lo mean mg mb h₀) (_ : dp < 700) (_ : un < 60) (f : Int) (t1 : Tok)
    (_ : m (Str.ofString "first") = some (.int f t1))
    (_ : ∀ h' tk m' len u1, Fr h₀ L h' m' → News h₀ L h' news → m' (Str.ofString "length") = some (.int len u1) → (∀ y, y ≠ Str.ofString "length" → m' y = m y) → Q .next { s with heap := h', toks := tk }),
    wpAny (model PySem.Challenge.rw_dm0096_03.row.prog w) ⟨none, dp, some (lawEnv L fa cd :: outer), gd, un⟩ (execs ((lawB.drop 2).take 1) (lawEnv L fa cd)) Q (fun _ _ => False) s := by
  k_fill
  intro w dp un gd A₀ base h₀ outer L fa cd m mg mb mean lo news s Q B F X N T hd hu f t1 hmf hret
  rw [show (lawB.drop 2).take 1 = [_] from rfl]
  unfold lawEnv
  rw [show lawSc = Scope.mk _ _ _ _ _ from rfl]
  k_steps
  all_goals exact hret _ _ _ _ _ (by assumption) (by assumption) (by exact rfl) (fun y a => if_neg a)
theorem partB2 : ∀ (w : World) (dp un : Nat) (gd : Option (List Code)) (A₀ : Around) (base h₀ : Heap) (outer : List Env) (L fa : Addr) (cd : Value) (m mg mb : Str → Option Value) (mean : ExcName → Option Value) (lo : List Str) (news : List (Addr × Obj)) (s : Shared) (Q : Flow → Shared → Prop)
    (_ : Below A₀ base outer h₀) (_ : Fr h₀ L s.heap m) (_ : (KK w.params).In h₀) (_ : News h₀ L s.heap news) (_ : Top qv lo mean mg mb h₀) (_ : dp < 700) (_ : un < 60) (g : Int) (t1 : Tok)
    (_ : m (Str.ofString "second") = some (.int g t1))
    (_ : ∀ h' tk m' e u1, Fr h₀ L h' m' → News h₀ L h' news → m' (Str.ofString "eol") = some (.str e u1) → e.length ≤ 4 → (∀ y, y ≠ Str.ofString "eol" → m' y = m y) → Q .next { s with heap := h', toks := tk }),
    wpAny (model PySem.Challenge.rw_dm0096_03.row.prog w) ⟨none, dp, some (lawEnv L fa cd :: outer), gd, un⟩ (execs ((lawB.drop 3).take 1) (lawEnv L fa cd)) Q (fun _ _ => False) s := by
  k_fill
  intro w dp un gd A₀ base h₀ outer L fa cd m mg mb mean lo news s Q B F X N T hd hu g t1 hmg hret
  have c0 := Int.fmod_nonneg_of_pos g (show (0 : Int) < 4 by decide)
  have c1 := Int.fmod_lt_of_pos g (show (0 : Int) < 4 by decide)
  rw [show (lawB.drop 3).take 1 = [_] from rfl]
  unfold lawEnv
  rw [show lawSc = Scope.mk _ _ _ _ _ from rfl]
  k_steps
  refine lt_call _ _ _ _ _ _ _ _ _ _ _ _ _ _ _ _ _ (by k_asm) (by k_asm) (by k_asm) (by k_asm) (by k_asm) rfl rfl rfl (by dsimp only; omega) (by dsimp only; omega) rfl _ _ fun x t' tk h' hx1 hx2 hx3 F' N' => ?_
  k_steps
  refine item_four (by k_asm) (List.mem_cons_self ..) (by decide +kernel) (by decide +kernel) (by decide +kernel) hx1 c0 c1 (fun e u he => ?_) (by with_unfolding_all rfl) (by intro _; with_unfolding_all rfl)
  k_steps
  exact hret _ _ _ e _ (by assumption) (cb_drop (by assumption) (fun p hp => .tail _ hp)) (by exact rfl) he (fun y a => if_neg a)
end Mine

open PySem PySem.W PyProof.Rows PySem.Calls
set_option Elab.async false
set_option maxRecDepth 100000
set_option maxHeartbeats 8000000
set_option linter.unusedVariables false
namespace Mine
theorem joinL_nil : ∀ M : List (List Nat), joinL [] M = M.flatten
  | [] => rfl
  | [x] => by simp [joinL]
  | x :: y :: r => by
    have ih := joinL_nil (y :: r)
    show x ++ [] ++ joinL [] (y :: r) = _
    rw [ih]
    simp
theorem flat_len {M : List (List Nat)} {k : Nat} (h : ∀ r ∈ M, r.length ≤ k) : M.flatten.length ≤ M.length * k := by
  induction M with
  | nil => simp
  | cons a r ih =>
    have h1 := h a (by simp)
    have h2 := ih fun x hx => h x (by simp [hx])
    rw [List.flatten_cons, List.length_append, List.length_cons, Nat.succ_mul]
    omega
theorem strs_are {P : Str → Prop} : ∀ ys : List Value, (∀ (j : Nat) (y : Value), ys[j]? = some y → ∃ (z : Str) (t : Tok), y = Value.str z t ∧ P z) → ∃ tj, ys = tv tj ∧ ∀ p ∈ tj, P p.1
  | [], _ => ⟨[], rfl, by simp⟩
  | y :: r, h => by
    obtain ⟨z, t, rfl, hz⟩ := h 0 y rfl
    obtain ⟨tj, rfl, hl⟩ := strs_are r fun j y hj => h (j + 1) y hj
    refine ⟨(z, t) :: tj, rfl, ?_⟩
    intro p hp
    rcases List.mem_cons.mp hp with rfl | hp
    · exact hz
    · exact hl p hp
local macro_rules | `(tactic| walk_at "loadName") => `(tactic| (k_here; k_dflt (refine wpAny_loadName_local (env := envOf _ _ _ _ _) rfl rfl (Fr.ns (by k_asm)) (by first | rfl | assumption) ?_)))
local macro_rules | `(tactic| walk_at "eval Name") => `(tactic| (k_here; k_dflt (refine' nameX_L ?F ?v ?_ ?a ?b; (case F => k_asm); (case a => rfl); (case b => rfl); (case v => first | rfl | assumption); k_whole)))
local macro_rules | `(tactic| walk_at "eval ListComp") => `(tactic| (k_here; k_dflt (refine LCg.ListComp_U (F₀ := by k_asm) (by with_unfolding_all rfl) (by decide) (by rfl) (by decide) (by rfl) (toSrc ?_))))
local macro_rules | `(tactic| walk_at "exec Assign cons ListComp") => `(tactic| (k_here; k_dflt (refine LCg.Assign_ListComp_U (F₀ := by k_asm) (by rfl) (by with_unfolding_all rfl) (by with_unfolding_all rfl) (by decide) (by rfl) (by decide) (by rfl) (by rfl) (by rfl) (toSrc ?_))))
theorem partC : ∀ (w : World) (dp un : Nat) (gd : Option (List Code)) (A₀ : Around) (base h₀ : Heap) (outer : List Env) (L fa : Addr) (cd : Value) (m mg mb : Str → Option Value) (mean : ExcName → Option Value) (lo : List Str) (news : List (Addr × Obj)) (s : Shared) (Q : Flow → Shared → Prop)
    (_ : Below A₀ base outer h₀) (_ : Fr h₀ L s.heap m) (_ : (KK w.params).In h₀) (_ : News h₀ L s.heap news) (_ : Top qv lo mean mg mb h₀) (_ : dp < 700) (_ : un < 60) (D : Addr) (ws : List Value) (ks : List Int)
    (_ : m (Str.ofString "script") = some (.ref D)) (_ : (D, lobj ws 0) ∈ news) (_ : IntsAre ws ks) (_ : ks.length ≤ 63)
    (_ : ∀ h' tk m' x u, Fr h₀ L h' m' → News h₀ L h' news → m' (Str.ofString "text") = some (.str x u) → x.length ≤ 252 → (∀ c ∈ x.cps.toList, c < 1114112) → (∀ y, y ≠ Str.ofString "text" → m' y = m y) → Q .next { s with heap := h', toks := tk }),
    wpAny (model PySem.Challenge.rw_dm0096_03.row.prog w) ⟨none, dp, some (lawEnv L fa cd :: outer), gd, un⟩ (execs ((lawB.drop 4).take 1) (lawEnv L fa cd)) Q (fun _ _ => False) s := by
  k_fill
  intro w dp un gd A₀ base h₀ outer L fa cd m mg mb mean lo news s Q B F X N T hd hu D ws ks hms hD hi hn hret
  rw [show (lawB.drop 4).take 1 = [_] from rfl]
  unfold lawEnv
  rw [show lawSc = Scope.mk _ _ _ _ _ from rfl]
  have hwl := hi.length
  k_steps
  unfold Src
  refine LCg.CompSrc.ledger rfl (by k_asm) (by k_asm) hD (by rw [sizeLine_eq]; simp; omega) (fun gg => ?_)
  rw [List.size_toArray]
  refine rest_pure (G := fun i y => ∃ (z : Str) (t : Tok), y = Value.str z t ∧ (z.length ≤ 4 ∧ ∀ c ∈ z.cps.toList, c < 1114112)) (.inr ⟨_, hD, rfl, _, rfl⟩) ?_ ?_
  · intro i v I oI C oC D2 ys m₂ h9 tk E' hi9 hP hC hx F9 N9
    have hi9' : i < ks.length := by omega
    obtain ⟨t9, e9⟩ := hi.get i ks[i] (by rw [List.getElem?_eq_getElem hi9'])
    have hv : v = .int ks[i] t9 := by
      have : ws[i]? = some v := by simpa using hP
      rw [e9] at this; exact (Option.some.inj this).symm
    subst hv
    k_steps
    refine lt_call _ _ _ _ _ _ _ _ _ _ _ _ _ _ _ _ _ (by k_asm) (by k_asm) (by k_asm) (by k_asm) (by k_asm) rfl rfl rfl (by dsimp only; omega) (by dsimp only; omega) rfl _ _ fun x t' tk h' hx1 hx2 hx3 F' N' => ?_
    exact PureEnd.intro ⟨_, _, rfl, hx1, hx3⟩ (by k_asm) (by k_asm)
  · intro ys hyl hG D2 h9 tk9 F9 N9 off9
    obtain ⟨tj, rfl, htj⟩ := strs_are ys hG
    have hjl : tj.length ≤ 63 := by simp [tv] at hyl; omega
    k_steps
    refine join_tv (ts := tj) (by k_asm) (List.mem_cons_self ..) (by omega) (fun p hp => Nat.le_trans (htj p hp).1 (by decide)) (by decide +kernel) fun y t' k' hy => ?_
    rw [show (Str.ofString "").cps.toList = [] from by decide +kernel, joinL_nil] at hy
    have hyl2 : y.length ≤ 252 := by
      have h1 : y.length = (tl tj).flatten.length := by rw [← hy]; simp [Str.length]
      have h2 := flat_len (M := tl tj) (k := 4) (fun r hr => by
        obtain ⟨p, hp, rfl⟩ := List.mem_map.mp hr
        have := (htj p hp).1
        simpa [Str.length] using this)
      rw [tl_length] at h2
      omega
    have hyc : ∀ c ∈ y.cps.toList, c < 1114112 := by
      intro c hc
      rw [hy] at hc
      obtain ⟨r, hr, hcr⟩ := List.mem_flatten.mp hc
      obtain ⟨p, hp, rfl⟩ := List.mem_map.mp hr
      exact (htj p hp).2 c hcr
    k_steps
    exact hret _ _ _ y _ (by assumption) (cb_drop (by assumption) (fun p hp => .tail _ hp)) (by exact rfl) hyl2 hyc (fun y a => if_neg a)
end Mine

open PySem PySem.W PyProof.Rows PySem.Calls
set_option Elab.async false
set_option maxRecDepth 100000
set_option maxHeartbeats 8000000
set_option linter.unusedVariables false
namespace Mine
local macro_rules | `(tactic| walk_at "loadName") => `(tactic| (k_here; k_dflt (refine wpAny_loadName_local (env := envOf _ _ _ _ _) rfl rfl (Fr.ns (by k_asm)) (by first | rfl | assumption) ?_)))
local macro_rules | `(tactic| walk_at "eval Name") => `(tactic| (k_here; k_dflt (refine' nameX_L ?F ?v ?_ ?a ?b; (case F => k_asm); (case a => rfl); (case b => rfl); (case v => first | rfl | assumption); k_whole)))
theorem tryOk : ∀ (w : World) (dp un : Nat) (gd : Option (List Code)) (A₀ : Around) (base h₀ : Heap) (outer : List Env) (L fa : Addr) (cd : Value) (m mg mb : Str → Option Value) (mean : ExcName → Option Value) (lo : List Str) (news : List (Addr × Obj)) (s : Shared) (Q : Flow → Shared → Prop)
    (_ : Below A₀ base outer h₀) (_ : Fr h₀ L s.heap m) (_ : (KK w.params).In h₀) (_ : News h₀ L s.heap news) (_ : Top qv lo mean mg mb h₀) (_ : dp < 700) (_ : un < 60) (x e : Str) (n : Nat) (t1 t2 t3 : Tok)
    (_ : m (Str.ofString "text") = some (.str x t1)) (_ : m (Str.ofString "length") = some (.int (n : Int) t2)) (_ : m (Str.ofString "eol") = some (.str e t3)) (_ : 4 ≤ n) (_ : x.length ≤ 252) (_ : ∀ c ∈ x.cps.toList, c < 1114112) (_ : e.length ≤ 4)
    (_ : ∀ h' tk m' told u, Fr h₀ L h' m' → News h₀ L h' news → m' (Str.ofString "told") = some (.str told u) → told.cps.toList = joinL e.cps.toList ((lawLn x.cps.toList).flatMap (rowsP TE n)) → (∀ y, y ≠ Str.ofString "told" → m' y = m y) → Q .next { s with heap := h', toks := tk }),
    wpAny (model PySem.Challenge.rw_dm0096_03.row.prog w) ⟨none, dp, some (lawEnv L fa cd :: outer), gd, un⟩ (execs ((lawB.drop 5).take 1) (lawEnv L fa cd)) Q (fun _ _ => False) s := by
  k_fill
  intro w dp un gd A₀ base h₀ outer L fa cd m mg mb mean lo news s Q B F X N T hd hu x e n t1 t2 t3 hmx hmn hme hn hx hxc he hret
  rw [show (lawB.drop 5).take 1 = [_] from rfl]
  unfold lawEnv
  rw [show lawSc = Scope.mk _ _ _ _ _ from rfl]
  k_steps
  rcases Nat.eq_zero_or_pos x.length with h0 | h1
  · refine be_empty _ _ _ _ _ _ _ _ _ _ _ _ _ _ _ _ _ (by k_asm) (by k_asm) (by k_asm) (by k_asm) (by k_asm) rfl rfl rfl (by dsimp only; omega) (by dsimp only; omega) rfl _ _ _ _ _ _ (by omega) h0 fun h' tk F' N' => ?_
    k_steps
    refine hret _ _ _ x _ (by assumption) (by assumption) (by exact rfl) ?_ (fun y a => if_neg a)
    have h9 : x.cps.toList = [] := List.length_eq_zero_iff.mp (by rw [show x.cps.toList.length = x.length from by simp [Str.length]]; exact h0)
    rw [h9]
    rfl
  · refine be_ok _ _ _ _ _ _ _ _ _ _ _ _ _ _ _ _ _ (by k_asm) (by k_asm) (by k_asm) (by k_asm) (by k_asm) rfl rfl rfl (by dsimp only; omega) (by dsimp only; omega) rfl _ _ _ _ _ _ hn h1 (by omega) hxc he fun told u h' tk htold F' N' => ?_
    k_steps
    exact hret _ _ _ told _ (by assumption) (by assumption) (by exact rfl) htold (fun y a => if_neg a)
theorem tryRaise : ∀ (w : World) (dp un : Nat) (gd : Option (List Code)) (h₀ : Heap) (outer : List Env) (L fa : Addr) (cd : Value) (m mg mb : Str → Option Value) (mean : ExcName → Option Value) (lo : List Str) (news : List (Addr × Obj)) (s : Shared) (Q : Flow → Shared → Prop)
    (_ : Below ⟨none, dp, some outer, gd, un⟩ h₀ outer h₀) (_ : Fr h₀ L s.heap m) (_ : (KK w.params).In h₀) (_ : News h₀ L s.heap news) (_ : Top qv loose mean mg mb h₀) (_ : dp < 600) (_ : un < 50) (x e : Str) (n : Int) (t1 t2 t3 : Tok)
    (_ : m (Str.ofString "text") = some (.str x t1)) (_ : m (Str.ofString "length") = some (.int n t2)) (_ : m (Str.ofString "eol") = some (.str e t3)) (_ : n < 4)
    (_ : ∀ h' tk m' news', Fr h₀ L h' m' → News h₀ L h' news' → Q (.ret (.bool true)) { s with heap := h', toks := tk }),
    wpAny (model PySem.Challenge.rw_dm0096_03.row.prog w) ⟨none, dp + 1, some (lawEnv L fa cd :: outer), gd, un + 3⟩ (execs ((lawB.drop 5).take 1) (lawEnv L fa cd)) Q (fun _ _ => False) s := by
  k_fill
  intro w dp un gd h₀ outer L fa cd m mg mb mean lo news s Q B F X N T hd hu x e n t1 t2 t3 hmx hmn hme hn hret
  rw [show (lawB.drop 5).take 1 = [_] from rfl]
  unfold lawEnv
  rw [show lawSc = Scope.mk _ _ _ _ _ from rfl]
  k_steps
  refine be_raise _ _ _ _ _ _ _ _ _ _ _ _ _ _ _ _ _ (by k_asm) (by k_asm) (by k_asm) (by k_asm) (by k_asm) rfl rfl rfl (by dsimp only; omega) (by dsimp only; omega) rfl _ _ _ _ _ _ hn fun ex g h' tk FG R' U' => ?_
  refine caught_N0 (A₀ := ⟨none, dp, some outer, gd, un⟩) (T' := "ValueError") B FG U' R' (topRead_of T) PyProof.Rows.Boot.«ValueError» PySem.F.isExc_ValueError PySem.F.notTuple_ValueError (by rw [isSubtype_type]; kernel_rfl) ?_
  intro h9 F9 N9
  k_steps
  show Q (.ret (.bool (decide (n < 4)))) _
  rw [decide_eq_true hn]
  exact hret _ _ _ _ F9 N9
end Mine

open PySem PySem.W PyProof.Rows PySem.Calls
set_option Elab.async false
set_option maxRecDepth 100000
set_option maxHeartbeats 8000000
set_option linter.unusedVariables false
namespace Mine
theorem extend_own {prog : Program} {w : World} {A : Around} {E : Value → Shared → Prop} {s : Shared} {h₀ : Heap} {L l b : Addr} {m : Str → Option Value} {news news' : List (Addr × Obj)} {vs ys : List Value} {n n2 : Nat} {Q : Value → Shared → Prop}
    (F : Fr h₀ L s.heap m) (N : News h₀ L s.heap news) (hb : (b, lobj ys n2) ∈ news) (hy : ys.length ≠ 0) (U : Upd l (lobj vs n) (lobj (vs ++ ys) (n + 1)) news news') (hz : vs.length + ys.length ≤ 200000)
    (h : ∀ h', Fr h₀ L h' m → News h₀ L h' news' → Q .none { s with heap := h' }) : wpAny (model prog w) A (call (.builtin "list.extend") [.ref l, .ref b]) Q E s := by
  have hs : vs.toArray.size + ys.toArray.size ≤ sizeLine := by rw [sizeLine_eq]; simp; omega
  exact kl_extend F N hb rfl (by simpa using hy) (by simpa using U) (extend_door hs) (by rw [sizeLine_eq]; simp; omega) (by omega) h
noncomputable def lawL : List Stmt := forB lawB[7]?
local macro_rules | `(tactic| walk_at "loadName") => `(tactic| (k_here; k_dflt (refine wpAny_loadName_local (env := envOf _ _ _ _ _) rfl rfl (Fr.ns (by k_asm)) (by first | rfl | assumption) ?_)))
local macro_rules | `(tactic| walk_at "eval Name") => `(tactic| (k_here; k_dflt (refine' nameX_L ?F ?v ?_ ?a ?b; (case F => k_asm); (case a => rfl); (case b => rfl); (case v => first | rfl | assumption); k_whole)))
local macro_rules | `(tactic| walk_at "call builtin:list.extend") => `(tactic| (k_here; refine extend_own (by k_asm) (by k_asm) (List.mem_cons_self ..) (by assumption) (Upd.tail (by assumption) (Upd.head (by assumption))) (by assumption) ?_; intro h' F' N'))
theorem turnX : ∀ (w : World) (dp un : Nat) (gd : Option (List Code)) (A₀ : Around) (base h₀ : Heap) (outer : List Env) (L fa : Addr) (cd : Value) (m mg mb : Str → Option Value) (mean : ExcName → Option Value) (lo : List Str) (news : List (Addr × Obj)) (s : Shared) (Q : Flow → Shared → Prop)
    (_ : Below A₀ base outer h₀) (_ : Fr h₀ L s.heap m) (_ : (KK w.params).In h₀) (_ : News h₀ L s.heap news) (_ : Top qv lo mean mg mb h₀) (_ : dp < 700) (_ : un < 60) (x : Str) (n : Nat) (t1 t2 : Tok) (R0 : Addr) (ts : List (Str × Tok)) (k : Nat) (rest : List (Addr × Obj))
    (_ : m (Str.ofString "line") = some (.str x t1)) (_ : m (Str.ofString "length") = some (.int (n : Int) t2)) (_ : m (Str.ofString "rows") = some (.ref R0)) (_ : 4 ≤ n) (_ : x.length ≤ 1000) (_ : ∀ c ∈ x.cps.toList, c < 1114112)
    (_ : news = (R0, lobj (tv ts) k) :: rest) (_ : ∀ p ∈ rest, p.1 ≠ R0) (_ : ts.length ≤ 50000)
    (_ : ∀ h' tk ts' k', Fr h₀ L h' m → News h₀ L h' ((R0, lobj (tv (ts ++ ts')) k') :: rest) → tl ts' = rowsQ n x.cps.toList → ts'.length ≤ x.length + 3 → Q .next { s with heap := h', toks := tk }),
    wpAny (model PySem.Challenge.rw_dm0096_03.row.prog w) ⟨none, dp, some (lawEnv L fa cd :: outer), gd, un⟩ (execs (lawL) (lawEnv L fa cd)) Q (fun _ _ => False) s := by
  k_fill
  intro w dp un gd A₀ base h₀ outer L fa cd m mg mb mean lo news s Q B F X N T hd hu x n t1 t2 R0 ts k rest hml hmn hmr hn hx hxc hnews hne hts hret
  subst hnews
  rw [show lawL = [_] from rfl]
  unfold lawEnv
  rw [show lawSc = Scope.mk _ _ _ _ _ from rfl]
  k_steps
  refine lr_call _ _ _ _ _ _ _ _ _ _ _ _ _ _ _ _ _ (by k_asm) (by k_asm) (by k_asm) (by k_asm) (by k_asm) rfl rfl rfl (by dsimp only; omega) (by dsimp only; omega) rfl _ _ _ _ hxc hn hx fun D9 ts9 q9 tk h' htl9 hl9 F' N' l9 => ?_
  have hD9 : D9 ≠ R0 := Nat.ne_of_gt (l9 _ (.head _))
  have hn9 : (tv ts9).length ≠ 0 := by
    intro e0
    have : tl ts9 = [] := by
      have h1 : ts9.length = 0 := by simpa [tv] using e0
      rw [List.length_eq_zero_iff.mp h1]; rfl
    rw [this] at htl9
    exact rowsQ_ne n x.cps.toList htl9.symm
  have hz9 : (tv ts).length + (tv ts9).length ≤ 200000 := by simp [tv]; omega
  k_steps
  exact hret _ _ ts9 _ (by assumption) (by
    rw [show tv (ts ++ ts9) = tv ts ++ tv ts9 from by simp [tv]]
    exact cb_drop (by assumption) (fun p hp => .tail _ hp)) htl9 hl9
theorem lines_sub : ∀ (text : List Nat) {l : List Nat}, l ∈ cutL text → ∀ c ∈ l, c ∈ text ∧ isB c = false
  | [], l, h, c, hc => by
    rw [cutL_nil] at h
    rw [List.mem_singleton.mp h] at hc
    exact absurd hc (by simp)
  | a :: r, l, h, c, hc => by
    have ih := @lines_sub r
    rw [cutL_cons] at h
    split at h
    · have := ih h c hc
      exact ⟨.tail _ this.1, this.2⟩
    · split at h
      · rcases List.mem_cons.mp h with rfl | h
        · exact absurd hc (by simp)
        · have := ih h c hc
          exact ⟨.tail _ this.1, this.2⟩
      · rename_i h1 h2
        cases hq : cutL r with
        | nil => exact absurd hq (cutL_ne r)
        | cons b t =>
          rw [hq] at h ih
          rcases List.mem_cons.mp h with rfl | h
          · rcases List.mem_append.mp hc with hc | hc
            · rw [List.mem_singleton.mp hc]
              exact ⟨.head _, by simpa using h2⟩
            · have := ih (.head _) c hc
              exact ⟨.tail _ this.1, this.2⟩
          · have := ih (.tail _ h) c hc
            exact ⟨.tail _ this.1, this.2⟩
theorem lawLn_sub {text l : List Nat} (h : l ∈ lawLn text) : l ∈ cutL text := by
  unfold lawLn at h
  split at h
  · exact List.dropLast_subset _ h
  · exact h
theorem cutL_weight : ∀ text : List Nat, ((cutL text).map fun r => r.length + 1).sum ≤ text.length + 1
  | [] => by decide
  | a :: r => by
    have ih := cutL_weight r
    rw [cutL_cons]
    split
    · simp only [List.length_cons]; omega
    · split
      · simp only [List.map_cons, List.sum_cons, List.length_cons, List.length_nil]; omega
      · cases hq : cutL r with
        | nil => exact absurd hq (cutL_ne r)
        | cons b t =>
          rw [hq] at ih
          simp only [prepH, List.map_cons, List.sum_cons, List.length_cons, List.length_append, List.length_nil] at ih ⊢
          omega
theorem sum_dropLast (f : List Nat → Nat) (l : List (List Nat)) : (l.dropLast.map f).sum ≤ (l.map f).sum := by
  rcases List.eq_nil_or_concat l with rfl | ⟨t, a, e⟩
  · simp
  · rw [e, List.concat_eq_append, List.dropLast_concat]
    simp
theorem lawLn_weight (text : List Nat) : ((lawLn text).map fun r => r.length + 1).sum ≤ text.length + 1 := by
  have h1 := cutL_weight text
  unfold lawLn
  split
  · have := sum_dropLast (fun r => r.length + 1) (cutL text)
    omega
  · exact h1
end Mine

open PySem PySem.W PyProof.Rows PySem.Calls
set_option Elab.async false
set_option maxRecDepth 100000
set_option maxHeartbeats 8000000
set_option linter.unusedVariables false
namespace Mine
local macro_rules | `(tactic| walk_at "loadName") => `(tactic| (k_here; k_dflt (refine wpAny_loadName_local (env := envOf _ _ _ _ _) rfl rfl (Fr.ns (by k_asm)) (by first | rfl | assumption) ?_)))
local macro_rules | `(tactic| walk_at "eval Name") => `(tactic| (k_here; k_dflt (refine' nameX_L ?F ?v ?_ ?a ?b; (case F => k_asm); (case a => rfl); (case b => rfl); (case v => first | rfl | assumption); k_whole)))
theorem partR : ∀ (w : World) (dp un : Nat) (gd : Option (List Code)) (A₀ : Around) (base h₀ : Heap) (outer : List Env) (L fa : Addr) (cd : Value) (m mg mb : Str → Option Value) (mean : ExcName → Option Value) (lo : List Str) (news : List (Addr × Obj)) (s : Shared) (Q : Flow → Shared → Prop)
    (_ : Below A₀ base outer h₀) (_ : Fr h₀ L s.heap m) (_ : (KK w.params).In h₀) (_ : News h₀ L s.heap news) (_ : Top qv lo mean mg mb h₀) (_ : dp < 700) (_ : un < 60)
    (_ : ∀ h' tk m' R0, Fr h₀ L h' m' → News h₀ L h' ((R0, lobj [] 0) :: news) → (∀ p ∈ news, p.1 < R0) → m' (Str.ofString "rows") = some (.ref R0) → (∀ y, y ≠ Str.ofString "rows" → m' y = m y) → Q .next { s with heap := h', toks := tk }),
    wpAny (model PySem.Challenge.rw_dm0096_03.row.prog w) ⟨none, dp, some (lawEnv L fa cd :: outer), gd, un⟩ (execs ((lawB.drop 6).take 1) (lawEnv L fa cd)) Q (fun _ _ => False) s := by
  k_fill
  intro w dp un gd A₀ base h₀ outer L fa cd m mg mb mean lo news s Q B F X N T hd hu hret
  rw [show (lawB.drop 6).take 1 = [_] from rfl]
  unfold lawEnv
  rw [show lawSc = Scope.mk _ _ _ _ _ from rfl]
  k_steps
  exact hret _ _ _ _ (by assumption) (by assumption) (by assumption) (by exact rfl) (fun y a => if_neg a)
theorem loopX : ∀ (w : World) (dp un : Nat) (gd : Option (List Code)) (A₀ : Around) (base h₀ : Heap) (outer : List Env) (L fa : Addr) (cd : Value) (m mg mb : Str → Option Value) (mean : ExcName → Option Value) (lo : List Str) (news : List (Addr × Obj)) (s : Shared) (Q : Flow → Shared → Prop)
    (_ : Below A₀ base outer h₀) (_ : Fr h₀ L s.heap m) (_ : (KK w.params).In h₀) (_ : News h₀ L s.heap news) (_ : Top qv lo mean mg mb h₀) (_ : dp < 700) (_ : un < 60) (x : Str) (n : Nat) (t1 t2 : Tok) (R0 : Addr) (rest : List (Addr × Obj))
    (_ : m (Str.ofString "text") = some (.str x t1)) (_ : m (Str.ofString "length") = some (.int (n : Int) t2)) (_ : m (Str.ofString "rows") = some (.ref R0)) (_ : 4 ≤ n) (_ : x.length ≤ 252) (_ : ∀ c ∈ x.cps.toList, c < 1114112)
    (_ : news = (R0, lobj [] 0) :: rest) (_ : ∀ p ∈ rest, p.1 ≠ R0)
    (_ : ∀ h' tk m' ts k, Fr h₀ L h' m' → News h₀ L h' ((R0, lobj (tv ts) k) :: rest) → tl ts = (lawLn x.cps.toList).flatMap (rowsQ n) → ts.length ≤ 800 → KeepOn [Str.ofString "length", Str.ofString "eol", Str.ofString "told", Str.ofString "rows"] m m' → Q .next { s with heap := h', toks := tk }),
    wpAny (model PySem.Challenge.rw_dm0096_03.row.prog w) ⟨none, dp, some (lawEnv L fa cd :: outer), gd, un⟩ (execs ((lawB.drop 7).take 1) (lawEnv L fa cd)) Q (fun _ _ => False) s := by
  k_fill
  intro w dp un gd A₀ base h₀ outer L fa cd m mg mb mean lo news s Q B F X N T hd hu x n t1 t2 R0 rest hmx hmn hmr hn hx hxc hnews hne hret
  subst hnews
  rw [show (lawB.drop 7).take 1 = [_] from rfl]
  unfold lawEnv
  rw [show lawSc = Scope.mk _ _ _ _ _ from rfl]
  refine wpAny_execs_cons ?_
  refine For_turns F ?_
  k_steps
  refine ll_call _ _ _ _ _ _ _ _ _ _ _ _ _ _ _ _ _ (by k_asm) (by k_asm) (by k_asm) (by k_asm) (by k_asm) rfl rfl rfl (by dsimp only; omega) (by dsimp only; omega) rfl _ _ (by omega) fun D2 lns q2 tk2 h2 hlns F2 N2 hlt2 => ?_
  have hxl : x.length = x.cps.toList.length := by simp [Str.length]
  have hW := lawLn_weight x.cps.toList
  rw [← hlns] at hW
  have hD2 : R0 < D2 := hlt2 _ (.head _)
  have hlts : ∀ p ∈ (D2, lobj (tv lns) q2) :: (R0, lobj [] 0) :: rest, p.1 < h2.objs.size := fun p hp => Heap.lt_size (N2 p hp).1
  have hDs : R0 < h2.objs.size := hlts _ (.tail _ (.head _))
  refine list_turns (ax := D2) (vs := tv lns) (n := q2) (fun i m' nw => ∃ ts k, nw = (D2, lobj (tv lns) q2) :: (R0, lobj (tv ts) k) :: rest ∧ tl ts = ((lawLn x.cps.toList).take i).flatMap (rowsQ n) ∧
      ts.length ≤ 3 * (((tl lns).take i).map fun r => r.length + 1).sum ∧ KeepOn [Str.ofString "length", Str.ofString "eol", Str.ofString "told", Str.ofString "rows"] m m')
    rfl F2 N2 (.head _) ⟨[], 0, rfl, rfl, by simp, fun y _ => rfl⟩ (fun v s Q E I i _ hQ => wpAny_pure hQ) ?_ ?_
  · rintro i v m₁ nw h₁ tk₁ own hown hvi ⟨ts, k, rfl, hj, hb1, hkeep⟩ F₁ N₁
    refine hid ?_
    have hv : ∃ p, lns[i]? = some p ∧ v = .str p.1 p.2 := by
      rw [tv, List.getElem?_map] at hvi
      cases hp : lns[i]? with
      | none => rw [hp] at hvi; cases hvi
      | some p => rw [hp] at hvi; exact ⟨p, rfl, (Option.some.inj hvi).symm⟩
    obtain ⟨p, hp, rfl⟩ := hv
    have htp : (tl lns)[i]? = some p.1.cps.toList := by rw [tl, List.getElem?_map, hp]; rfl
    have hl1 : (lawLn x.cps.toList)[i]? = some p.1.cps.toList := by rw [← hlns]; exact htp
    have hs1 := sum_take (fun r => r.length + 1) (i + 1) (tl lns)
    have hs2 := sum_step (fun r => r.length + 1) htp
    have hpl2 : p.1.length = p.1.cps.toList.length := by simp [Str.length]
    have hpc : ∀ c ∈ p.1.cps.toList, c < 1114112 := fun c hc => hxc c (lines_sub _ (lawLn_sub (List.mem_of_getElem? hl1)) c hc).1
    k_steps
    rename_i h3 F3 N3
    show wpAny _ _ _ _ _ _
    generalize hm3 : (fun z => if z = Str.ofString "line" then some (Value.str p.1 p.2) else m₁ z) = m3 at F3
    have cc : ∀ y, y ≠ Str.ofString "line" → m3 y = m₁ y := fun y hy => by rw [← hm3]; exact if_neg hy
    have hN3 : News h₀ L h3 ((R0, lobj (tv ts) k) :: (own ++ (D2, lobj (tv lns) q2) :: rest)) := fun p hp => N3 p (by
      rcases List.mem_cons.mp hp with rfl | hp
      · exact List.mem_append.mpr (.inr (.tail _ (.head _)))
      rcases List.mem_append.mp hp with hp | hp
      · exact List.mem_append.mpr (.inl hp)
      rcases List.mem_cons.mp hp with rfl | hp
      · exact List.mem_append.mpr (.inr (.head _))
      · exact List.mem_append.mpr (.inr (.tail _ (.tail _ hp))))
    refine turnX w dp un gd A₀ base h₀ outer L fa cd m3 mg mb mean lo _ _ _ B F3 X hN3 T hd hu p.1 n p.2 t2 R0 ts k (own ++ (D2, lobj (tv lns) q2) :: rest)
      (by rw [← hm3]; exact if_pos rfl) ((cc _ (by decide +kernel)).trans ((hkeep _ (by decide +kernel)).trans hmn)) ((cc _ (by decide +kernel)).trans ((hkeep _ (by decide +kernel)).trans hmr))
      hn (by omega) hpc rfl ?_ (by omega) ?_
    · intro p hp
      rcases List.mem_append.mp hp with hp | hp
      · intro e9
        rcases hown p hp with h | h
        · exact absurd (e9 ▸ h) (Nat.not_le.mpr hDs)
        · exact absurd (h.symm.trans e9) (Nat.ne_of_gt hD2)
      rcases List.mem_cons.mp hp with rfl | hp
      · exact Nat.ne_of_gt hD2
      · exact hne _ hp
    · intro h' tk ts' k' F' N' hj' hl'
      refine TurnEnd.next F' (nw := (D2, lobj (tv lns) q2) :: (R0, lobj (tv (ts ++ ts')) k') :: rest) (fun p hp => N' p ?_) (fun p hp => ?_) ⟨ts ++ ts', k', rfl, ?_, ?_, fun y hy => ?_⟩
      · rcases List.mem_append.mp hp with hp | hp
        · exact .tail _ (List.mem_append.mpr (.inl hp))
        rcases List.mem_cons.mp hp with rfl | hp
        · exact .tail _ (List.mem_append.mpr (.inr (.head _)))
        rcases List.mem_cons.mp hp with rfl | hp
        · exact .head _
        · exact .tail _ (List.mem_append.mpr (.inr (.tail _ hp)))
      · rcases List.mem_cons.mp hp with rfl | hp
        · exact hlts _ (.head _)
        rcases List.mem_cons.mp hp with rfl | hp
        · exact hDs
        · exact hlts _ (.tail _ (.tail _ hp))
      · obtain ⟨hi9, e9⟩ := List.getElem?_eq_some_iff.mp hl1
        rw [show tl (ts ++ ts') = tl ts ++ tl ts' from by simp [tl], hj, hj', List.take_succ_eq_append_getElem hi9, e9]
        simp
      · rw [List.length_append, hs2]
        omega
      · rw [cc y (by rintro rfl; revert hy; decide +kernel)]
        exact hkeep y hy
  · rintro h' tk m' nw F' N' ⟨ts, k, rfl, hj, hb1, hkeep⟩
    have hlen : (tv lns).length = (lawLn x.cps.toList).length := by
      have := congrArg List.length hlns
      simpa [tl, tv] using this
    have hs1 := sum_take (fun r => r.length + 1) (tv lns).length (tl lns)
    rw [hlen, List.take_length] at hj
    k_steps
    exact hret _ _ _ ts k F' (fun p hp => N' p (.tail _ hp)) hj (by omega) hkeep
theorem endX : ∀ (w : World) (dp un : Nat) (gd : Option (List Code)) (A₀ : Around) (base h₀ : Heap) (outer : List Env) (L fa : Addr) (cd : Value) (m mg mb : Str → Option Value) (mean : ExcName → Option Value) (lo : List Str) (news : List (Addr × Obj)) (s : Shared) (Q : Flow → Shared → Prop)
    (_ : Below A₀ base outer h₀) (_ : Fr h₀ L s.heap m) (_ : (KK w.params).In h₀) (_ : News h₀ L s.heap news) (_ : Top qv lo mean mg mb h₀) (_ : dp < 700) (_ : un < 60) (told e : Str) (n : Nat) (t1 t2 t3 : Tok) (R0 : Addr) (ts : List (Str × Tok)) (k : Nat) (rest : List (Addr × Obj))
    (_ : m (Str.ofString "told") = some (.str told t1)) (_ : m (Str.ofString "length") = some (.int (n : Int) t2)) (_ : m (Str.ofString "eol") = some (.str e t3)) (_ : m (Str.ofString "rows") = some (.ref R0)) (_ : 4 ≤ n) (_ : e.length ≤ 4)
    (_ : news = (R0, lobj (tv ts) k) :: rest) (_ : ts.length ≤ 800) (_ : ∀ p ∈ ts, p.1.length ≤ 5000) (_ : told.cps.toList = joinL e.cps.toList (tl ts))
    (_ : ∀ h' tk, Fr h₀ L h' m → News h₀ L h' news → Q (.ret (.bool true)) { s with heap := h', toks := tk }),
    wpAny (model PySem.Challenge.rw_dm0096_03.row.prog w) ⟨none, dp, some (lawEnv L fa cd :: outer), gd, un⟩ (execs ((lawB.drop 8).take 1) (lawEnv L fa cd)) Q (fun _ _ => False) s := by
  k_fill
  intro w dp un gd A₀ base h₀ outer L fa cd m mg mb mean lo news s Q B F X N T hd hu told e n t1 t2 t3 R0 ts k rest hmt hmn hme hmr hn he hnews hts hlen htold hret
  subst hnews
  rw [show (lawB.drop 8).take 1 = [_] from rfl]
  unfold lawEnv
  rw [show lawSc = Scope.mk _ _ _ _ _ from rfl]
  k_steps
  refine join_tv (by k_asm) (List.mem_cons_self ..) (by omega) hlen he fun y t' k' hy => ?_
  obtain rfl : y = told := str_eq_of (hy.trans htold.symm)
  k_steps
  rw [show (y == y) = true from beq_self_eq_true y]
  exact hret _ _ (by assumption) (by assumption)
end Mine

open PySem PySem.W PyProof.Rows PySem.Calls
set_option Elab.async false
set_option maxRecDepth 100000
set_option maxHeartbeats 8000000
set_option linter.unusedVariables false
namespace Mine
theorem le_sum : ∀ {l : List Nat} {a : Nat}, a ∈ l → a ≤ l.sum
  | x :: r, a, h => by
    rw [List.sum_cons]
    rcases List.mem_cons.mp h with rfl | h
    · omega
    · have := le_sum h
      omega
theorem lawC : ∀ (w : World) (dp un : Nat) (gd : Option (List Code)) (h₀ : Heap) (outer : List Env) (L fa : Addr) (cd : Value) (m mg mb : Str → Option Value) (mean : ExcName → Option Value) (news : List (Addr × Obj)) (s : Shared) (Q : Flow → Shared → Prop)
    (_ : Below ⟨none, dp, some outer, gd, un⟩ h₀ outer h₀) (_ : Fr h₀ L s.heap m) (_ : (KK w.params).In h₀) (_ : News h₀ L s.heap news) (_ : Top qv loose mean mg mb h₀) (_ : dp < 600) (_ : un < 50) (sc : Addr) (vs : List Value) (ns : List Int)
    (_ : m (Str.ofString "script") = some (.ref sc)) (_ : h₀.IsList sc vs.toArray) (_ : IntsAre vs ns) (_ : ns.length ≤ 63)
    (_ : ∀ h' tk m' news', Fr h₀ L h' m' → News h₀ L h' news' → Q (.ret (.bool true)) { s with heap := h', toks := tk }),
    wpAny (model PySem.Challenge.rw_dm0096_03.row.prog w) ⟨none, dp + 1, some (lawEnv L fa cd :: outer), gd, un + 3⟩ (execs lawB (lawEnv L fa cd)) Q (fun _ _ => False) s := by
  intro w dp un gd h₀ outer L fa cd m mg mb mean news s Q B F X N T hd hu sc vs ns hsc hl hi hn hret
  have hd' : dp + 1 < 700 := by omega
  have hu' : un + 3 < 60 := by omega
  rw [show lawB = (lawB.drop 0).take 2 ++ ((lawB.drop 2).take 1 ++ ((lawB.drop 3).take 1 ++ ((lawB.drop 4).take 1 ++ ((lawB.drop 5).take 1 ++ ((lawB.drop 6).take 1 ++ ((lawB.drop 7).take 1 ++ (lawB.drop 8).take 1)))))) from rfl]
  refine execs_app _ _ _ ?_
  refine partA w _ _ gd _ _ h₀ outer L fa cd m mg mb mean _ news s _ B F X N T hd' hu' sc vs ns hsc hl hi hn fun h1 tk1 m1 nw1 D ws ks f g u1 u2 F1 N1 hs1 hD1 hi1 hk1 hf1 hg1 => ?_
  show wpAny _ _ (execs (_ ++ _) _) _ _ _
  refine execs_app _ _ _ ?_
  refine partB1 w _ _ gd _ _ h₀ outer L fa cd m1 mg mb mean _ nw1 _ _ B F1 X N1 T hd' hu' f u1 hf1 fun h2 tk2 m2 len u3 F2 N2 hl2 ho2 => ?_
  show wpAny _ _ (execs (_ ++ _) _) _ _ _
  refine execs_app _ _ _ ?_
  refine partB2 w _ _ gd _ _ h₀ outer L fa cd m2 mg mb mean _ nw1 _ _ B F2 X N2 T hd' hu' g u2 ((ho2 _ (by decide +kernel)).trans hg1) fun h3 tk3 m3 e u4 F3 N3 he3 hel ho3 => ?_
  show wpAny _ _ (execs (_ ++ _) _) _ _ _
  refine execs_app _ _ _ ?_
  refine partC w _ _ gd _ _ h₀ outer L fa cd m3 mg mb mean _ nw1 _ _ B F3 X N3 T hd' hu' D ws ks ((ho3 _ (by decide +kernel)).trans ((ho2 _ (by decide +kernel)).trans hs1)) hD1 hi1 hk1 fun h4 tk4 m4 x u5 F4 N4 hx4 hxl hxc ho4 => ?_
  have l4 : m4 (Str.ofString "length") = some (.int len u3) := (ho4 _ (by decide +kernel)).trans ((ho3 _ (by decide +kernel)).trans hl2)
  have e4 : m4 (Str.ofString "eol") = some (.str e u4) := (ho4 _ (by decide +kernel)).trans he3
  show wpAny _ _ (execs (_ ++ _) _) _ _ _
  refine execs_app _ _ _ ?_
  rcases Int.lt_or_le len 4 with hlen | hlen
  · refine tryRaise w dp un gd h₀ outer L fa cd m4 mg mb mean loose nw1 _ _ B F4 X N4 T hd hu x e len _ _ _ hx4 l4 e4 hlen fun h5 tk5 m5 nw5 F5 N5 => ?_
    exact hret _ _ _ _ F5 N5
  · obtain ⟨n, rfl⟩ := Int.eq_ofNat_of_zero_le (show 0 ≤ len by omega)
    have hn4 : 4 ≤ n := by omega
    refine tryOk w _ _ gd _ _ h₀ outer L fa cd m4 mg mb mean _ nw1 _ _ B F4 X N4 T hd' hu' x e n _ _ _ hx4 l4 e4 hn4 hxl hxc hel fun h5 tk5 m5 told u6 F5 N5 ht5 htold ho5 => ?_
    have x5 := (ho5 (Str.ofString "text") (by decide +kernel)).trans hx4
    have l5 := (ho5 (Str.ofString "length") (by decide +kernel)).trans l4
    have e5 := (ho5 (Str.ofString "eol") (by decide +kernel)).trans e4
    show wpAny _ _ (execs (_ ++ _) _) _ _ _
    refine execs_app _ _ _ ?_
    refine partR w _ _ gd _ _ h₀ outer L fa cd m5 mg mb mean _ nw1 _ _ B F5 X N5 T hd' hu' fun h6 tk6 m6 R0 F6 N6 hlt6 hr6 ho6 => ?_
    show wpAny _ _ (execs (_ ++ _) _) _ _ _
    refine execs_app _ _ _ ?_
    refine loopX w _ _ gd _ _ h₀ outer L fa cd m6 mg mb mean _ _ _ _ B F6 X N6 T hd' hu' x n u5 u3 R0 nw1 ((ho6 _ (by decide +kernel)).trans x5) ((ho6 _ (by decide +kernel)).trans l5) hr6 hn4 hxl hxc rfl (fun p hp => Nat.ne_of_lt (hlt6 p hp)) fun h7 tk7 m7 ts k F7 N7 htl hts hk7 => ?_
    show wpAny _ _ (execs ((lawB.drop 8).take 1) _) _ _ _
    have hxlen : x.length = x.cps.toList.length := by simp [Str.length]
    have hrows : (lawLn x.cps.toList).flatMap (rowsQ n) = (lawLn x.cps.toList).flatMap (rowsP TE n) := by
      have : (lawLn x.cps.toList).map (rowsQ n) = (lawLn x.cps.toList).map (rowsP TE n) := List.map_congr_left fun l hl => rowsQ_P fun c hc => by
        have := (lines_sub _ (lawLn_sub hl) c hc).2
        constructor <;> (rintro rfl; simp [isB] at this)
      rw [List.flatMap_def, List.flatMap_def, this]
    refine endX w _ _ gd _ _ h₀ outer L fa cd m7 mg mb mean _ _ _ _ B F7 X N7 T hd' hu' told e n u6 u3 u4 R0 ts k nw1 ((hk7 _ (by decide +kernel)).trans ((ho6 _ (by decide +kernel)).trans ht5)) ((hk7 _ (by decide +kernel)).trans ((ho6 _ (by decide +kernel)).trans l5)) ((hk7 _ (by decide +kernel)).trans ((ho6 _ (by decide +kernel)).trans e5)) ((hk7 _ (by decide +kernel)).trans hr6) hn4 hel rfl hts (fun p hp => ?_) ?_ fun h8 tk8 F8 N8 => ?_
    · have h9 : p.1.cps.toList ∈ (lawLn x.cps.toList).flatMap (rowsQ n) := by rw [← htl]; exact tl_mem hp
      obtain ⟨l, hl1, hl2⟩ := List.mem_flatMap.mp h9
      have h10 := rowsQ_mem n l _ hl2
      have h11 := lawLn_weight x.cps.toList
      have h12 : l.length + 1 ≤ ((lawLn x.cps.toList).map fun r => r.length + 1).sum := le_sum (List.mem_map.mpr ⟨l, hl1, rfl⟩)
      have h13 : p.1.length = p.1.cps.toList.length := by simp [Str.length]
      omega
    · rw [htold, htl, hrows]
    · exact hret _ _ _ _ F8 N8
theorem main : PySem.Challenge.rw_dm0096_03.Holds := by
  refine hd (by rfl) (by rfl) (by rfl) ?_
  k_go0
  refine wpAny_mono (E := fun _ _ => False) (lawC _ _ _ _ _ _ _ _ _ _ _ _ _ _ _ _ (by assumption) (by assumption) (by assumption) (by assumption) (by assumption) (by decide) (by decide) _ _ _ rfl (by assumption) (by assumption) (by omega) ?_) (fun _ _ h => h) (fun _ _ h => h.elim)
  intro h' tk m' news' F' N'
  k_steps
end Mine

theorem PySem.Challenge.cw_dm0096_03_holds : PySem.Challenge.rw_dm0096_03.Holds :=
  Mine.main
