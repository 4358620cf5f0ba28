import PyProof.Rows.All
import Wide.All
import OpenK.AllK
import Wide.FinOn
import Lean
import PySem.Challenge.RW_dm0096_02
set_option Elab.async false
namespace Mine

/-- what _max_append makes of the lines (texts as lists of numbers) -/
def app (room : Nat) (ls : List (List Nat)) (x : List Nat) : List (List Nat) :=
  match ls.getLast? with
  | none => [x]
  | some y => if y.length + x.length ≤ room then ls.dropLast ++ [y ++ x] else ls ++ [x]

def linesOf (room : Nat) (xs : List (List Nat)) : List (List Nat) := xs.foldl (app room) []

theorem app_ne (room : Nat) (ls x) : app room ls x ≠ [] := by
  unfold app; split
  · simp
  · split <;> simp

theorem app_pre (room : Nat) (d ls : List (List Nat)) (x : List Nat) (h : ls ≠ []) : app room (d ++ ls) x = d ++ app room ls x := by
  unfold app
  have hg : (d ++ ls).getLast? = ls.getLast? := by rw [List.getLast?_append]; cases hl : ls.getLast? with
    | none => exact absurd (List.getLast?_eq_none_iff.mp hl) h
    | some y => rfl
  rw [hg]
  cases hl : ls.getLast? with
  | none => exact absurd (List.getLast?_eq_none_iff.mp hl) h
  | some y =>
    dsimp only
    rw [List.dropLast_append_of_ne_nil h]
    split <;> simp

theorem foldl_pre (room : Nat) (d : List (List Nat)) : ∀ (xs ls : List (List Nat)), ls ≠ [] → xs.foldl (app room) (d ++ ls) = d ++ xs.foldl (app room) ls
  | [], _, _ => rfl
  | x :: r, ls, h => by
    rw [List.foldl_cons, List.foldl_cons, app_pre room d ls x h]
    exact foldl_pre room d r _ (app_ne room ls x)

/-- how many more go in behind t signs -/
def more (room : Nat) : Nat → List (List Nat) → Nat
  | _, [] => 0
  | t, x :: r => if t + x.length ≤ room then 1 + more room (t + x.length) r else 0

theorem more_le (room : Nat) : ∀ (xs : List (List Nat)) (t : Nat), more room t xs ≤ xs.length
  | [], _ => Nat.le_refl _
  | x :: r, t => by
    unfold more
    split
    · have := more_le room r (t + x.length); simp only [List.length_cons]; omega
    · exact Nat.zero_le _

theorem foldl_run (room : Nat) : ∀ (xs : List (List Nat)) (cur : List Nat),
    xs.foldl (app room) [cur] = (cur ++ (xs.take (more room cur.length xs)).flatten) :: linesOf room (xs.drop (more room cur.length xs))
  | [], cur => by simp [more, linesOf]
  | x :: r, cur => by
    rw [List.foldl_cons]
    unfold more
    by_cases h : cur.length + x.length ≤ room
    · rw [if_pos h]
      have e : app room [cur] x = [cur ++ x] := by simp [app, h]
      rw [e, foldl_run room r (cur ++ x), List.length_append, Nat.add_comm 1, List.take_succ_cons, List.drop_succ_cons, List.flatten_cons, List.append_assoc]
    · rw [if_neg h]
      have e : app room [cur] x = [cur] ++ [x] := by simp [app, h]
      rw [e, foldl_pre room [cur] r [x] (by simp)]
      simp [linesOf, app]

theorem linesOf_cons (room : Nat) (x : List Nat) (r : List (List Nat)) :
    linesOf room (x :: r) = (x ++ (r.take (more room x.length r)).flatten) :: linesOf room (r.drop (more room x.length r)) := by
  show r.foldl (app room) (app room [] x) = _
  exact foldl_run room r x

theorem linesOf_nil (room : Nat) : linesOf room [] = [] := rfl

/-- count and the last line's length -/
def cstep (room : Nat) (p : Nat × Nat) (x : Nat) : Nat × Nat :=
  if p.1 = 0 then (1, x) else if p.2 + x ≤ room then (p.1, p.2 + x) else (p.1 + 1, x)
def cnt (room : Nat) (zs : List Nat) : Nat × Nat := zs.foldl (cstep room) (0, 0)

theorem cnt_snoc (room : Nat) (zs : List Nat) (x : Nat) : cnt room (zs ++ [x]) = cstep room (cnt room zs) x := by
  unfold cnt; rw [List.foldl_append]; rfl

theorem cstep_fst_le (room : Nat) (p x) : p.1 ≤ (cstep room p x).1 := by
  unfold cstep; split
  · simp; omega
  · split <;> simp
theorem cstep_fst_pos (room : Nat) (p x) : 0 < (cstep room p x).1 := by
  unfold cstep; split
  · simp
  · split
    · simp; omega
    · simp

theorem linesOf_snoc (room : Nat) (xs : List (List Nat)) (x : List Nat) : linesOf room (xs ++ [x]) = app room (linesOf room xs) x := by
  unfold linesOf; rw [List.foldl_append]; rfl

theorem lines_cnt (room : Nat) (xs : List (List Nat)) :
    (linesOf room xs).length = (cnt room (xs.map List.length)).1 ∧ ∀ y, (linesOf room xs).getLast? = some y → y.length = (cnt room (xs.map List.length)).2 := by
  suffices H : ∀ (r xs : List (List Nat)), xs.reverse = r → (linesOf room xs).length = (cnt room (xs.map List.length)).1 ∧ ∀ y, (linesOf room xs).getLast? = some y → y.length = (cnt room (xs.map List.length)).2 from H _ xs rfl
  intro r
  induction r with
  | nil => intro xs h; rw [List.reverse_eq_nil_iff] at h; subst h; exact ⟨rfl, fun y hy => by simp [linesOf] at hy⟩
  | cons x r ih =>
    intro xs h
    have hx : xs = r.reverse ++ [x] := by rw [← List.reverse_reverse xs, h]; simp
    subst hx
    obtain ⟨i1, i2⟩ := ih r.reverse (by simp)
    rw [linesOf_snoc, List.map_append, List.map_cons, List.map_nil, cnt_snoc]
    generalize linesOf room r.reverse = ls at i1 i2
    generalize cnt room (r.reverse.map List.length) = p at i1 i2
    unfold app cstep
    cases hl : ls.getLast? with
    | none =>
      have := List.getLast?_eq_none_iff.mp hl
      subst this
      have : p.1 = 0 := by simpa using i1.symm
      simp [this]
    | some y =>
      have hne : ls ≠ [] := by intro e; subst e; simp at hl
      have hp : ¬ p.1 = 0 := by rw [← i1]; intro e; exact hne (List.length_eq_zero_iff.mp e)
      have hy := i2 y hl
      dsimp only
      rw [if_neg hp, ← hy]
      by_cases hc : y.length + x.length ≤ room
      · rw [if_pos hc, if_pos hc]
        refine ⟨?_, fun z hz => ?_⟩
        · have := List.length_pos_iff.mpr hne; simp; omega
        · simp at hz; subst hz; simp
      · rw [if_neg hc, if_neg hc]
        refine ⟨by simp [i1], fun z hz => ?_⟩
        simp at hz; subst hz; rfl

theorem cnt_mono (room : Nat) (zs : List Nat) (x : Nat) : (cnt room zs).1 ≤ (cnt room (zs ++ [x])).1 := by
  rw [cnt_snoc]; exact cstep_fst_le _ _ _

theorem noBreak (room : Nat) : ∀ (l : List Nat) (c t : Nat), 0 < c → t + l.sum ≤ room ∨ l = [] → (l.foldl (cstep room) (c, t)).1 = c
  | [], _, _, _, _ => rfl
  | x :: r, c, t, hc, h => by
    have h' : t + (x + r.sum) ≤ room := by rcases h with h | h; · simpa using h
                                           · cases h
    have e : cstep room (c, t) x = (c, t + x) := by unfold cstep; rw [if_neg (by simp; omega), if_pos (by simp; omega)]
    rw [List.foldl_cons, e]
    exact noBreak room r c (t + x) hc (.inl (by omega))

theorem oneBreak (room : Nat) : ∀ (l : List Nat) (c t : Nat), 0 < c → l ≠ [] → room < t + l.sum → (l.sum ≤ room ∨ l.length = 1) → (l.foldl (cstep room) (c, t)).1 = c + 1
  | [], _, t, _, hn, h, h2 => absurd rfl hn
  | x :: r, c, t, hc, _, h, h2 => by
    rw [List.foldl_cons]
    by_cases hx : t + x ≤ room
    · have e : cstep room (c, t) x = (c, t + x) := by unfold cstep; rw [if_neg (by simp; omega), if_pos (by simp; omega)]
      rw [e]
      simp only [List.sum_cons] at h h2
      refine oneBreak room r c (t + x) hc (by intro e; subst e; simp at h; omega) (by omega) ?_
      rcases h2 with h2 | h2
      · exact .inl (by omega)
      · have : r = [] := by simpa using h2
        subst this; simp at h; omega
    · have e : cstep room (c, t) x = (c + 1, x) := by unfold cstep; rw [if_neg (by simp; omega), if_neg (by simp; omega)]
      rw [e]
      refine noBreak room r (c + 1) x (by omega) ?_
      rcases h2 with h2 | h2
      · exact .inl (by simpa using h2)
      · exact .inr (by simpa using h2)

/-- the last run's length is at least the last size -/
theorem cnt_last (room : Nat) (zs : List Nat) (x : Nat) : x ≤ (cnt room (zs ++ [x])).2 := by
  rw [cnt_snoc]; unfold cstep; split
  · exact Nat.le_refl _
  · split <;> simp

/-- the table's step: sizes zs ++ l, the first place at l's head -/
theorem fewest_step (room : Nat) (zs l : List Nat) (hl : l ≠ []) (h : l.sum ≤ room ∨ l.length = 1)
    (hz : ∀ z zs', zs = zs' ++ [z] → room < z + l.sum) : (cnt room (zs ++ l)).1 = (cnt room zs).1 + 1 := by
  unfold cnt
  rw [List.foldl_append]
  show (l.foldl (cstep room) (cnt room zs)).1 = (cnt room zs).1 + 1
  rcases List.eq_nil_or_concat zs with e | ⟨zs', z, e⟩
  · subst e
    cases l with
    | nil => exact absurd rfl hl
    | cons x r =>
      show (r.foldl (cstep room) (1, x)).1 = 1
      refine noBreak room r 1 x (by omega) ?_
      rcases h with h | h
      · exact .inl (by simpa using h)
      · exact .inr (by simpa using h)
  · rw [List.concat_eq_append] at e
    have h1 := cnt_last room zs' z
    have h2 : 0 < (cnt room (zs' ++ [z])).1 := by rw [cnt_snoc]; exact cstep_fst_pos _ _ _
    rw [← e] at h1 h2
    have := hz z zs' e
    exact oneBreak room l (cnt room zs).1 (cnt room zs).2 h2 hl (by omega) h

end Mine

open PySem PySem.W PyProof.Rows PySem.Calls
set_option Elab.async false
set_option maxRecDepth 100000
set_option maxHeartbeats 2000000
namespace Mine
open Builtin
theorem latin_loop (b : Array UInt8) (f : Nat → (Nat × Array Nat × _codecs.Faults) → Sem (ForInStep (Nat × Array Nat × _codecs.Faults)))
    (hf : ∀ x p out st, p < b.size → out.size ≤ sizeLine → f x (p, out, st) = pure (.yield (p + 1, out ++ [(b.getD p 0).toNat].toArray, st))) :
    ∀ (k a p : Nat) (out : Array Nat) (st : _codecs.Faults), p + k = b.size → out.size + k ≤ sizeLine →
      forIn (List.range' a k) (p, out, st) f = pure (b.size, out ++ ((b.toList.drop p).map (·.toNat)).toArray, st)
  | 0, a, p, out, st, h1, _ => by
    have e : b.toList.drop p = [] := List.drop_eq_nil_of_le (by simp; omega)
    have e2 : p = b.size := by omega
    rw [e, e2]; simp
  | k + 1, a, p, out, st, h1, h2 => by
    rw [List.range'_succ, List.forIn_cons, hf a p out st (by omega) (by omega)]
    show forIn (List.range' (a + 1) k) (p + 1, out ++ [(b.getD p 0).toNat].toArray, st) f = _
    rw [latin_loop b f hf k (a + 1) (p + 1) _ st (by omega) (by simp; omega)]
    have hlt : p < b.toList.length := by simp; omega
    rw [List.drop_eq_getElem_cons hlt, List.map_cons]
    congr 3
    rw [show b.getD p 0 = b.toList[p] from by rw [Array.getD_eq_getD_getElem?]; simp [show p < b.size by omega]]
    simp
theorem latin_run {id : String} (b : Array UInt8) (hb : b.size ≤ sizeLine) : _codecs.runDecoder id _codecs.latin1Decoder none true b 0 [] = pure ((b.toList.map (·.toNat)).toArray, b.size) := by
  unfold _codecs.runDecoder
  simp only [Std.Legacy.Range.forIn_eq_forIn_range']
  rw [latin_loop b _ ?_ _ 0 0 #[] _ ?_ ?_]
  · show (pure (#[] ++ ((b.toList.drop 0).map (·.toNat)).toArray, b.size) : Sem _) = _
    simp
  · intro x p out st hp ho
    dsimp only
    rw [if_neg (by omega), if_neg (by omega)]
    rfl
  · show 0 + (b.size - 0 + 1 - 1) / 1 = b.size
    simp
  · show 0 + (b.size - 0 + 1 - 1) / 1 ≤ sizeLine
    simpa using hb
section
variable {b : Array UInt8} {c : UInt8} {cs : List UInt8} {t : Tok}
theorem road_latin {id : String} : _codecs.decodeRoad id b (PySem.Str.ofString "latin1") none [] = (_codecs.runDecoder id _codecs.latin1Decoder none true b 0 [] >>= fun r => mkStr ⟨r.1⟩) := by kernel_rfl
theorem meets_latin {t1 t2 : Tok} {d : PySem.Str} (hb : b.size ≤ sizeLine) :
    Meets («_codecs.decode.text» ⟨[.bytes b t, .str (PySem.Str.ofString "latin1") t1, .none, .str d t2], []⟩) (fun _ R s => R (.ok (.ret (.str ⟨(b.toList.map (·.toNat)).toArray⟩ s.toks))) { s with toks := s.toks + 1 }) := by
  refine .of_wp fun prog w A R s h => ?_
  show wpAny _ _ (Bytes.bytesLike _ (.bytes b t) >>= fun r => _) _ _ s
  refine wpAny_bind (wpAny_of_eq KBd.like_eq ?_)
  refine wpAny_bind (wpAny_of_eq KBd.held_eq ?_)
  show wpAny _ _ (_codecs.decodeRoad _ b (PySem.Str.ofString "latin1") none [] >>= fun v => _) _ _ s
  rw [road_latin, latin_run b hb]
  refine wpAny_bind (wpAny_bind (wpAny_pure ?_))
  exact wpAny_mkStr (wpAny_pure ⟨_, rfl, h⟩) (by show (List.map (fun x : UInt8 => x.toNat) b.toList).toArray.size ≤ sizeLine; simpa using hb)
theorem args_decode2 (a b : Value) : argsOk "bytes.decode" ⟨[a, b], []⟩ := by
  unfold argsOk; kernel_rfl
theorem entry_latin {u : Tok} : «bytes.decode» ⟨[.bytes (c :: cs).toArray t, .str (PySem.Str.ofString "latin1") u], []⟩ = (mkStr (PySem.Str.ofString "utf-8") >>= fun _ => mkStr (PySem.Str.ofString "latin1") >>= fun e => mkStr (PySem.Str.ofString "bytes.decode") >>= fun d =>
    call (.builtin "_codecs.decode.text") [.bytes (c :: cs).toArray t, e, .none, d] >>= fun v => ret v) := by kernel_rfl
end
section
variable {prog : Program} {w : World} {A : Around} {E : Value → Shared → Prop} {s : Shared} {b : Array UInt8} {t u : Tok}
theorem decode_latin {Q : Value → Shared → Prop} (hne : b ≠ #[]) (hsz : b.size ≤ sizeLine) (h : ∀ t' k, Q (.str ⟨(b.toList.map (·.toNat)).toArray⟩ t') { s with toks := k }) :
    wpAny (model prog w) A (call (.builtin "bytes.decode") [.bytes b t, .str (PySem.Str.ofString "latin1") u]) Q E s := by
  obtain ⟨l⟩ := b
  cases l with
  | nil => exact absurd rfl hne
  | cons c cs =>
    refine call_meets (S := fun _ R s => ∀ t' k, R (.ok (.ret (.str ⟨((c :: cs).map (·.toNat)).toArray⟩ t'))) { s with toks := k }) FB.slot_bytes_decode (typeIs_bytes _ _ _) FB.entry_bytes_decode (args_decode2 _ _) ?_ h
    refine .of_wp fun prog w A R s hS => ?_
    show wpAny _ _ («bytes.decode» ⟨[.bytes (c :: cs).toArray t, .str (PySem.Str.ofString "latin1") u], []⟩) _ _ _
    rw [entry_latin]
    refine wpAny_bind (wpAny_mkStr ?_ (by decide))
    refine wpAny_bind (wpAny_mkStr ?_ (by decide))
    refine wpAny_bind (wpAny_mkStr ?_ (by decide))
    exact wpAny_bind (call_function_meets KBd.kind_text KBd.plain_text KBd.entry_text (KBd.args_text _ _ _ _) (meets_latin hsz) (wpAny_pure ⟨_, rfl, hS _ _⟩))
end
end Mine

open PySem PySem.W PyProof.Rows PySem.Calls
set_option Elab.async false
set_option maxRecDepth 100000
set_option maxHeartbeats 2000000
namespace Mine
open Builtin
def tr (f : Nat → Str) (c : Nat) : List Nat := if c < 256 then (f c).cps.toList else [c]
def TabL (f : Nat → Str) (items : Array Value) : Prop := items.size = 256 ∧ ∀ c, c < 256 → ∃ tok, items[c]? = some (.str (f c) tok)
theorem lookup_sub : isSubtype (.type "IndexError") (.type "LookupError") = pure true := by rw [isSubtype_type]; kernel_rfl
section
variable {prog : Program} {w : World} {A : Around} {E : Value → Shared → Prop} {s : Shared} {a : Addr} {items : Array Value} {f : Nat → Str}
theorem tableLookup_ok {c : Nat} {Q : Builtin.Str.Mapped → Shared → Prop} (hh : A.handled = none) (hl : s.heap.IsList a items) (ht : TabL f items) (hc : c < 1114112)
    (h1 : c < 256 → ∀ tk, Q (.text (f c)) { s with toks := tk })
    (h2 : 256 ≤ c → ∀ h' tk, (∀ b o, s.heap.get? b = some o → h'.get? b = some o) → Q .keep { s with heap := h', toks := tk }) :
    wpAny (model prog w) A (Builtin.Str.tableLookup (.ref a) c) Q E s := by
  unfold Builtin.Str.tableLookup
  by_cases h : c < 256
  · obtain ⟨tok, hx⟩ := ht.2 c h
    refine wpAny_bind (wpAny_attempt (wpAny_bind (wpAny_mkInt ?_)))
    refine wpAny_getItem_list (x := .str (f c) tok) hl (by omega) (by omega) (by simpa using hx) ?_
    show wpAny _ _ (pure none >>= fun r => _) _ _ _
    refine wpAny_bind (wpAny_pure ?_)
    show wpAny _ _ (pure (some (f c)) >>= fun r => _) _ _ _
    exact wpAny_bind (wpAny_pure (wpAny_pure (h1 h _)))
  · refine wpAny_bind (wpAny_attempt (wpAny_bind (wpAny_mkInt ?_)))
    refine wpAny_getItem_list_out hh hl (.inr (by have := ht.1; omega)) (by omega) (by omega) fun h' tk e ne => ?_
    obtain ⟨ob, t, g, gc, gd⟩ := ne.there
    show wpAny _ _ (isInstance (.ref e) (.type "LookupError") >>= fun r => _) _ _ _
    refine wpAny_bind (wpAny_isInstance (T := "IndexError") ⟨ob, g, gc⟩ lookup_sub ?_)
    exact wpAny_bind (wpAny_rule (wpAny_pure (h2 (by omega) h' tk ne.keeps)))
end
theorem tr_len {f : Nat → Str} (hf : ∀ c, (f c).cps.size ≤ 3) : ∀ l : List Nat, (l.flatMap (tr f)).length ≤ 3 * l.length
  | [] => by simp
  | c :: r => by
    have := tr_len hf r
    have h1 : (tr f c).length ≤ 3 := by unfold tr; split; · simpa using hf c
                                        · simp
    simp only [List.flatMap_cons, List.length_append, List.length_cons]; omega
theorem foldl_cps : ∀ (l : List Str) (acc : Array Nat), (l.foldl (fun acc p => acc ++ p.cps) acc).toList = acc.toList ++ l.flatMap (fun p => p.cps.toList)
  | [], acc => by simp
  | p :: r, acc => by rw [List.foldl_cons, foldl_cps r]; simp
theorem translate_meets {f : Nat → Str} {items : Array Value} {x : Str} {t : Tok} {a : Addr} (ht : TabL f items) (hf : ∀ c, (f c).cps.size ≤ 3) (hx : ∀ c ∈ x.cps.toList, c < 1114112) (hn : x.cps ≠ #[]) (hsz : x.cps.size ≤ 1000000) :
    Meets («str.translate» ⟨[.str x t, .ref a], []⟩) (fun A R s => A.handled = none ∧ s.heap.IsList a items ∧
      ∀ h' t' tk, (∀ b o, s.heap.get? b = some o → h'.get? b = some o) → R (.ok (.ret (.str ⟨(x.cps.toList.flatMap (tr f)).toArray⟩ t'))) { s with heap := h', toks := tk }) := by
  refine .of_wp fun prog w A R s hS => ?_
  obtain ⟨hh, hl, hR⟩ := hS
  unfold «str.translate»
  refine wpAny_bind (m := Builtin.Str.strOneArg "translate" _) (wpAny_of_eq (a := (Value.str x t, x, Value.ref a)) (by kernel_rfl) ?_)
  dsimp only
  have hlen : ¬ ((x.length == 0) = true) := by
    intro e
    have : x.cps.size = 0 := by simpa [Str.length] using e
    exact hn (Array.size_eq_zero_iff.mp this)
  rw [if_neg hlen]
  have hsl := sizeLine_eq
  refine wpAny_bind ?_
  refine MeetsSeq2.wpAny_forIn_array _ (fun rest b s' => ∃ pre h' tk, x.cps.toList = pre ++ rest ∧ s' = { s with heap := h', toks := tk } ∧ (∀ b o, s.heap.get? b = some o → h'.get? b = some o) ∧
      b.1.reverse.flatMap (fun p => p.cps.toList) = pre.flatMap (tr f) ∧ b.2.1 = (pre.flatMap (tr f)).length ∧ b.2.2.2.2 = false ∧ (b.2.2.1 = true → ∀ c ∈ rest, c < 128) ∧
      ∀ c v, b.2.2.2.1.lookup c = some v → c < 256 ∧ ∃ d, v = some d ∧ (f c).cps.toList = [d]) _ ?_ ?_ _ _ ?_
  · rintro c rest ⟨pieces, total, fast, known, ad⟩ s' ⟨pre, h', tk, hpre, rfl, hk, hp, htot, had, hfast, hkn⟩
    dsimp only at hp htot had hfast hkn ⊢
    subst had
    have hb1 : (pre.flatMap (tr f)).length ≤ 3 * pre.length := tr_len hf pre
    have hb2 : pre.length ≤ x.cps.toList.length := by rw [hpre]; simp
    have hb3 : x.cps.toList.length = x.cps.size := by simp
    have hcx : c < 1114112 := hx c (by rw [hpre]; simp)
    rw [if_neg (by unfold Builtin.Str.tooLong; simp; omega)]
    have hl' : h'.IsList a items := hl.at fun o e => hk _ o e
    have next : ∀ (pieces' : List Str) (total' : Nat) (fast' : Bool) (known' : List (Nat × Option Nat)) (h'' : Heap) (tk' : Nat), (∀ b o, h'.get? b = some o → h''.get? b = some o) →
        pieces'.reverse.flatMap (fun p => p.cps.toList) = pre.flatMap (tr f) ++ tr f c → total' = total + (tr f c).length → (fast' = true → fast = true) →
        (∀ c v, known'.lookup c = some v → c < 256 ∧ ∃ d, v = some d ∧ (f c).cps.toList = [d]) →
        ∃ pre h' tk, x.cps.toList = pre ++ rest ∧ ({ s with heap := h'', toks := tk' } : Shared) = { s with heap := h', toks := tk } ∧ (∀ b o, s.heap.get? b = some o → h'.get? b = some o) ∧
          pieces'.reverse.flatMap (fun p => p.cps.toList) = pre.flatMap (tr f) ∧ total' = (pre.flatMap (tr f)).length ∧ false = false ∧ (fast' = true → ∀ c ∈ rest, c < 128) ∧
          ∀ c v, known'.lookup c = some v → c < 256 ∧ ∃ d, v = some d ∧ (f c).cps.toList = [d] := by
      intro pieces' total' fast' known' h'' tk' hk' hp' ht' hf' hkn'
      refine ⟨pre ++ [c], h'', tk', by rw [hpre]; simp, rfl, fun b o e => hk' b o (hk b o e), by rw [hp']; simp, by rw [ht', htot]; simp, rfl, fun e c' hc' => hfast (hf' e) c' (List.mem_cons_of_mem _ hc'), hkn'⟩
    have slow : ∀ (fast' : Bool) (known' : List (Nat × Option Nat)) (tk' : Nat), (fast' = true → fast = true) → (∀ c v, known'.lookup c = some v → c < 256 ∧ ∃ d, v = some d ∧ (f c).cps.toList = [d]) →
        ∀ D : (List Str × Nat × Bool × List (Nat × Option Nat) × Bool) → Shared → Prop, wpAny (model prog w) A.in1 (do
          let __do_lift ← Builtin.Str.tableLookup (.ref a) c
          match __do_lift with
            | Builtin.Str.Mapped.keep => pure (ForInStep.yield ((⟨#[c]⟩ : Str) :: pieces, total + 1, fast', known', false))
            | Builtin.Str.Mapped.drop => pure (ForInStep.yield (pieces, total, fast', known', true))
            | Builtin.Str.Mapped.char d => pure (ForInStep.yield ((⟨#[d]⟩ : Str) :: pieces, total + 1, fast', known', false))
            | Builtin.Str.Mapped.text t => pure (ForInStep.yield (t :: pieces, total + t.length, fast', known', false)))
          (fun r s' => match r with
            | .yield b => ∃ pre h' tk, x.cps.toList = pre ++ rest ∧ s' = { s with heap := h', toks := tk } ∧ (∀ b o, s.heap.get? b = some o → h'.get? b = some o) ∧
                b.1.reverse.flatMap (fun p => p.cps.toList) = pre.flatMap (tr f) ∧ b.2.1 = (pre.flatMap (tr f)).length ∧ b.2.2.2.2 = false ∧ (b.2.2.1 = true → ∀ c ∈ rest, c < 128) ∧
                ∀ c v, b.2.2.2.1.lookup c = some v → c < 256 ∧ ∃ d, v = some d ∧ (f c).cps.toList = [d]
            | .done b => D b s') (fun e s' => R (.error e) s') { s with heap := h', toks := tk' } := by
      intro fast' known' tk' hf' hkn' D
      refine wpAny_bind (tableLookup_ok (by exact hh) hl' ht hcx (fun h tk => ?_) (fun h h'' tk hk'' => ?_))
      · refine wpAny_pure (next _ _ _ _ _ _ (fun _ _ e => e) ?_ ?_ hf' hkn')
        · simp [hp, tr, h]
        · simp [tr, h, Str.length]
      · refine wpAny_pure (next _ _ _ _ _ _ hk'' ?_ ?_ hf' hkn')
        · simp [hp, tr, show ¬ c < 256 by omega]
        · simp [tr, show ¬ c < 256 by omega]
    cases fast with
    | false =>
      rw [if_neg Bool.false_ne_true, if_neg Bool.false_ne_true]
      exact wpAny_mono (slow false known _ (fun h => h) hkn (fun _ _ => False)) (fun r s' h => by cases r with | yield b => exact h | done b => exact h.elim) (fun _ _ h => h)
    | true =>
      have hc128 : c < 128 := hfast rfl c (by simp)
      rw [if_pos rfl]
      cases hlk : known.lookup c with
      | some v =>
        obtain ⟨hc2, d, rfl, hd⟩ := hkn c v hlk
        refine wpAny_bind (wpAny_pure (wpAny_pure ?_))
        refine next _ _ _ _ _ _ (fun _ _ e => e) ?_ ?_ (fun h => h) hkn
        · simp [hp, tr, hc2, hd]
        · simp [tr, hc2, hd]
      | none =>
        refine wpAny_bind (tableLookup_ok (by exact hh) hl' ht hcx (fun h tk => ?_) (fun h h'' tk hk'' => by omega))
        dsimp only
        by_cases h1 : ((f c).length == 1 && (f c).cps.all fun x => decide (x < 128)) = true
        · rw [if_pos h1]
          have hsz1 : (f c).cps.size = 1 := by simp only [Bool.and_eq_true] at h1; simpa [Str.length] using h1.1
          obtain ⟨d, hd⟩ : ∃ d, (f c).cps.toList = [d] := List.length_eq_one_iff.mp (by simpa using hsz1)
          have hd0 : (f c).cps[0]? = some d := by rw [← Array.getElem?_toList, hd]; rfl
          rw [hd0]
          refine wpAny_bind (wpAny_pure (wpAny_pure ?_))
          refine next _ _ _ _ _ _ (fun _ _ e => e) ?_ ?_ (fun h => h) ?_
          · simp [hp, tr, h, hd]
          · simp [tr, h, hd]
          · intro c' v' e'
            rw [List.lookup_cons] at e'
            by_cases hcc : (c' == c) = true
            · rw [hcc] at e'
              have : c' = c := by simpa using hcc
              subst this
              exact ⟨h, d, (Option.some.inj e').symm, hd⟩
            · rw [Bool.eq_false_iff.mpr hcc] at e'
              exact hkn c' v' e'
        · rw [if_neg h1]
          refine wpAny_bind (wpAny_pure ?_)
          refine wpAny_bind (wpAny_rule ?_)
          rw [if_neg Bool.false_ne_true]
          exact wpAny_mono (slow false known _ (fun h => by cases h) hkn (fun _ _ => False)) (fun r s' h => by cases r with | yield b => exact h | done b => exact h.elim) (fun _ _ h => h)
  · rintro ⟨pieces, total, fast, known, ad⟩ s' ⟨pre, h', tk, hpre, rfl, hk, hp, htot, had, hfast, hkn⟩
    dsimp only at hp htot had hfast hkn ⊢
    have hpx : x.cps.toList = pre := by simpa using hpre
    have hb1 : (pre.flatMap (tr f)).length ≤ 3 * pre.length := tr_len hf pre
    have hb3 : x.cps.toList.length = x.cps.size := by simp
    rw [if_neg (by unfold Builtin.Str.tooLong; simp; rw [hpx] at hb3; omega)]
    have e : (pieces.reverse.foldl (fun acc p => acc ++ p.cps) #[]) = (x.cps.toList.flatMap (tr f)).toArray := by
      apply Array.toList_inj.mp
      rw [foldl_cps, hp, hpx]; simp
    rw [e]
    refine wpAny_bind (wpAny_mkStr (wpAny_pure ⟨_, rfl, hR _ _ _ hk⟩) ?_)
    show (x.cps.toList.flatMap (tr f)).toArray.size ≤ sizeLine
    rw [hpx] at hb3 ⊢
    simp only [List.size_toArray]
    omega
  · exact ⟨[], s.heap, s.toks, by simp, rfl, fun _ _ e => e, rfl, rfl, rfl, fun e c hc => by simpa using (Array.all_eq_true_iff_forall_mem.mp e) c (by simpa using hc), fun c v e => by simp at e⟩
section
variable {prog : Program} {w : World} {A : Around} {E : Value → Shared → Prop} {s : Shared} {a : Addr} {items : Array Value} {f : Nat → Str} {x : Str} {t : Tok}
theorem translate_ok {Q : Value → Shared → Prop} (hh : A.handled = none) (hl : s.heap.IsList a items) (ht : TabL f items) (hf : ∀ c, (f c).cps.size ≤ 3) (hx : ∀ c ∈ x.cps.toList, c < 1114112) (hn : x.cps ≠ #[]) (hsz : x.cps.size ≤ 1000000)
    (h : ∀ h' t' tk, (∀ b o, s.heap.get? b = some o → h'.get? b = some o) → Q (.str ⟨(x.cps.toList.flatMap (tr f)).toArray⟩ t') { s with heap := h', toks := tk }) :
    wpAny (model prog w) A (call (.builtin "str.translate") [.str x t, .ref a]) Q E s :=
  call_meets F.slot_str_translate (typeIs_str _ _ _) F.entry_str_translate (F.args_str_translate_2 _ _) (translate_meets ht hf hx hn hsz) ⟨hh, hl, h⟩
theorem grownF {h₀ h h' : Heap} {L : Addr} {m : Str → Option Value} (F : Fr h₀ L h m) (hk : ∀ b o, h.get? b = some o → h'.get? b = some o) : Fr h₀ L h' m := ⟨F.ns.keeps hk, fun b o e => hk b o (F.keep b o e), F.above⟩
theorem grownN {h₀ h h' : Heap} {L : Addr} {news : List (Addr × Obj)} (N : News h₀ L h news) (hk : ∀ b o, h.get? b = some o → h'.get? b = some o) : News h₀ L h' news := fun p hp => ⟨hk _ _ (N p hp).1, (N p hp).2⟩
theorem method_translate {M : Model} {pl : Sem Bool} {Q : Value × List Value → Shared → Prop} (h : Q (.builtin "str.translate", [.str x t]) s) : wpAny M A (getMethod (.str x t) "translate" pl) Q E s := by
  with_reducible exact GM.of (.str x t) (typeIs_str _ _ _) F.slot_str_translate F.type_str_translate GM.noRef h
end
end Mine

open PySem PySem.W PyProof.Rows PySem.Calls
set_option Elab.async false
set_option maxRecDepth 100000
set_option maxHeartbeats 2000000
namespace Mine
abbrev lobj (vs : List Value) (n : Nat) : Obj := { cls := .type "list", data := .seq vs.toArray n }
section
variable {prog : Program} {w : World} {A : Around} {E : Value → Shared → Prop} {s : Shared} {h₀ : Heap} {L l : Addr} {m : Str → Option Value} {news news' : List (Addr × Obj)} {vs vi : List Value} {v v' : Value} {n : Nat} {u : Tok}
theorem isl_of (N : News h₀ L s.heap news) (hm : (l, lobj vs n) ∈ news) : s.heap.IsList l vs.toArray := ⟨_, (N _ hm).1, rfl, n, rfl⟩
theorem append_own {x : Value} {Q : Value → Shared → Prop} (F : Fr h₀ L s.heap m) (N : News h₀ L s.heap news) (U : Upd l (lobj vs n) (lobj (vs ++ [x]) (n + 1)) news news') (hsz : vs.length ≤ 100000)
    (h : ∀ h', Fr h₀ L h' m → News h₀ L h' news' → Q .none { s with heap := h' }) : wpAny (model prog w) A (call (.builtin "list.append") [.ref l, x]) Q E s := by
  have e : (vs.toArray.push x) = (vs ++ [x]).toArray := by simp
  refine append_K F N (its := vs.toArray) (n := n) (news' := news') ?_ h (by rw [sizeLine_eq]; simp; omega)
  rw [e]; exact U
theorem truthy_own {Q : Bool → Shared → Prop} (N : News h₀ L s.heap news) (hm : (l, lobj vs n) ∈ news) (hsz : vs.length ≤ 100000) (h : ∀ tk, Q (!vs.isEmpty) { s with toks := tk }) : wpAny (model prog w) A (truthy (.ref l)) Q E s := by
  refine wpAny_truthy_list (isl_of N hm) (by simp; omega) ?_
  cases vs with
  | nil => exact h _
  | cons a r => simpa using h _
theorem truthy_snoc {Q : Bool → Shared → Prop} (N : News h₀ L s.heap news) (hm : (l, lobj (vi ++ [v]) n) ∈ news) (hsz : vi.length ≤ 99999) (h : ∀ tk, Q true { s with toks := tk }) : wpAny (model prog w) A (truthy (.ref l)) Q E s :=
  truthy_own N hm (by simp; omega) fun tk => by
    have e : (!(vi ++ [v]).isEmpty) = true := by simp
    rw [e]; exact h tk
theorem truthy_nil {Q : Bool → Shared → Prop} (N : News h₀ L s.heap news) (hm : (l, lobj [] n) ∈ news) (h : ∀ tk, Q false { s with toks := tk }) : wpAny (model prog w) A (truthy (.ref l)) Q E s :=
  truthy_own N hm (by decide) h
theorem get_last {Q : Value → Shared → Prop} (N : News h₀ L s.heap news) (hm : (l, lobj (vi ++ [v]) n) ∈ news) (h : Q v s) : wpAny (model prog w) A (getItem (.ref l) (.int (-1) u)) Q E s := by
  refine wpAny_getItem_list_neg (isl_of N hm) (by decide) (by simp; omega) (by decide) ?_ h
  have e : ((-1 : Int) + (((vi ++ [v]).toArray.size : Nat) : Int)).toNat = vi.length := by simp; omega
  rw [e]; simp
theorem sub_last {value slice : Expr} {Q : Value → Shared → Prop} (N : News h₀ L s.heap news) (hm : (l, lobj (vi ++ [v]) n) ∈ news) (h : Q v s)
    (hs : subscripted slice false (.ref l) (.int (-1) u) = operate [.ref l, .int (-1) u] (getItem (.ref l) (.int (-1) u)) := by with_unfolding_all rfl) : wpAny (model prog w) A (subscriptTail value slice (.ref l) (.int (-1) u)) Q E s :=
  tail_any (isl_of N hm).typeIs slot_list_getitem.lookup (get_last N hm h) hs
theorem set_last {Q : Unit → Shared → Prop} (F : Fr h₀ L s.heap m) (N : News h₀ L s.heap news) (U : Upd l (lobj (vi ++ [v]) n) (lobj (vi ++ [v']) n) news news')
    (h : ∀ h', Fr h₀ L h' m → News h₀ L h' news' → Q () { s with heap := h' }) : wpAny (model prog w) A (setItem (.ref l) (.int (-1) u) v') Q E s := by
  obtain ⟨pre, post, rfl, rfl, a, b⟩ := U.split
  have z := N (l, lobj (vi ++ [v]) n) (List.mem_append.mpr (.inr (.head _)))
  have hl : s.heap.IsList l (vi ++ [v]).toArray := ⟨_, z.1, rfl, n, rfl⟩
  unfold setItem
  try with_reducible refine wpAny_holding ?_
  first | refine wpAny_bind (wpAny_pure ?_) | skip
  refine wpAny_bind (wpAny_sequenceKey hl.typeIs (by decide) ?_)
  refine wpAny_bind (wpAny_callSpecial?_slot (name := Str.ofString "__setitem__") hl.typeIs slot_list_setitem
    (wpAny_call_entry slot_list_setitem hl.typeIs entry_list_setitem ?_ (args_list_setitem _ _ _)))
  show wpAny _ _ (Builtin.List.listSubscript? (.int (-1) u) >>= _) _ _ s
  refine wpAny_bind (wpAny_listSubscript_int (fitsIndex_neg (by decide) (by decide)) ?_)
  show wpAny _ _ ((Builtin.List.listItems (.ref l) >>= fun xs => pure ((seqIndex? (Int.negSucc 0) xs.size).bind fun i => xs[i]?.map (i, ·))) >>= _) _ _ s
  refine wpAny_bind (wpAny_bind ?_)
  show wpAny _ _ (seqItems? (.ref l) >>= _) _ _ s
  refine wpAny_bind (wpAny_seqItems z.1 rfl (wpAny_pure (wpAny_pure ?_)))
  rw [seqIndex_neg (k := Int.negSucc 0) (by decide) (by simp; omega)]
  have e : ((Int.negSucc 0 : Int) + (((vi ++ [v]).toArray.size : Nat) : Int)).toNat = vi.length := by
    have : (Int.negSucc 0 : Int) = -1 := rfl
    simp; omega
  rw [e]
  have hx : (vi ++ [v]).toArray[vi.length]? = some v := by simp
  simp only [Option.bind_some, hx, Option.map_some]
  show wpAny _ _ (setSeqItemAt l vi.length v' >>= _) _ _ s
  refine wpAny_bind (wpAny_setSeqItemAt z.1 rfl ?_)
  have fin := h _ (F.change (Heap.SameBut.update s.heap l (Obj.mapSeq (·.setIfInBounds vi.length v'))) z.2.1 z.2.2) (ki_turn (n' := n) (its' := (vi ++ [v']).toArray) _ N a b (by
    apply Array.toList_inj.mp
    simp) (by simp))
  first
    | exact wpAny_bind (wpAny_pure (wpAny_pure ⟨.none, rfl, wpAny_pure fin⟩))
    | exact wpAny_pure ⟨.none, rfl, wpAny_pure fin⟩
end
end Mine

open PySem PySem.W PyProof.Rows PySem.Calls
set_option Elab.async false
set_option maxRecDepth 100000
set_option maxHeartbeats 2000000
namespace Mine
open Builtin
section
variable {b : Array UInt8} {k : Int} {t u : Tok}
theorem contains_eq (h0 : 0 ≤ k) (h1 : k < 256) : «bytes.__contains__» ⟨[.bytes b u, .int k t], []⟩ = ret (.bool (b.contains k.toNat.toUInt8)) := by
  show (Bytes.containsIn "bytes.__contains__" (.bytes b u) (.int k t) >>= fun r => ret (.bool r)) = _
  unfold Bytes.containsIn
  rw [KBy.buffer_eq]
  show ((if (decide (k < 0) || decide (k ≥ 256)) = true then _ else pure (b.contains k.toNat.toUInt8)) >>= fun r => ret (.bool r)) = _
  rw [if_neg (by simp; omega)]
  rfl
variable {prog : Program} {w : World} {A : Around} {E : Value → Shared → Prop} {s : Shared}
theorem in_bytes {Q : Value → Shared → Prop} (h0 : 0 ≤ k) (h1 : k < 256) (h : Q (.bool (b.contains k.toNat.toUInt8)) s) : wpAny (model prog w) A (compareOp .In (.int k t) (.bytes b u)) Q E s :=
  in_gives (typeIs_bytes _ _ _) FB.slot_bytes_contains FB.entry_bytes_contains (FB.args_bytes_contains_2 _ _) (.of_eq (contains_eq h0 h1)) h
end
section
variable {prog : Program} {w : World} {A : Around} {E : Value → Shared → Prop} {s : Shared} {h₀ : Heap} {L : Addr} {m : Str → Option Value} {env : Env} {elt : Expr} {x : Str} {scope : Scope} {cl : List (Str × Addr)} {S : List (Addr × Obj) → Prop} {P : Nat → Value → Prop} {Fin : List Value → List (Addr × Obj) → Prop} {n : Nat} {news : List (Addr × Obj)}
/-- a comprehension of any length, by what holds of the items so far and the ledger -/
theorem rest_inv (J : Nat → List Value → List (Addr × Obj) → Prop) (h0 : J 0 [] news)
    (turn : ∀ i v I oI C oC D ys nw m₂ h tk (E' : Value → Shared → Prop), i < n → P i v → J i ys nw → LCg.NsObj oC m₂ → m₂ x = some v → Fr h₀ L h m → News h₀ L h ((I, oI) :: (C, oC) :: (D, LCg.lst ys) :: nw) → LCg.Off3 I C D nw → ((@Ne Nat I C) ∧ (@Ne Nat I D) ∧ (@Ne Nat C D)) →
      wpAny (model prog w) A (eval elt (compEnvC scope cl C env)) (LCg.CompEnd h₀ L m { s with heap := h, toks := tk } I oI C oC D (LCg.lst ys) S (fun y nw' => J (i + 1) (ys ++ [y]) nw')) E' { s with heap := h, toks := tk })
    (fin : ∀ ys nw, J n ys nw → Fin ys nw) : LCg.CompRest prog w A h₀ L m env elt x scope cl s S P Fin n 0 [] news := by
  suffices H : ∀ k i ys nw, i + k = n → J i ys nw → LCg.CompRest prog w A h₀ L m env elt x scope cl s S P Fin k i ys nw from H n 0 [] news (by omega) h0
  intro k
  induction k with
  | zero => intro i ys nw hi hJ; obtain rfl : i = n := by omega
            exact fin ys nw hJ
  | succ k ih =>
    intro i ys nw hi hJ
    refine .succ fun v I oI C oC D m₂ h tk E' hP hC hx F N off hne => ?_
    refine wpAny_mono (turn i v I oI C oC D ys nw m₂ h tk E' (by omega) hP hJ hC hx F N off hne) (fun y s₂ h₂ => ?_) fun _ _ e => e
    obtain ⟨h', tk', nw', e, F', N', off', hS', hJ'⟩ := h₂
    exact ⟨h', tk', nw', e, F', N', off', hS', ih (i + 1) _ _ (by omega) hJ'⟩
def PureEnd (h₀ : Heap) (L : Addr) (m : Str → Option Value) (s : Shared) (nw : List (Addr × Obj)) (G : Value → Prop) (y : Value) (s₂ : Shared) : Prop :=
  G y ∧ ∃ h' tk', s₂ = { s with heap := h', toks := tk' } ∧ Fr h₀ L h' m ∧ News h₀ L h' nw
theorem PureEnd.intro {s : Shared} {nw : List (Addr × Obj)} {G : Value → Prop} {y : Value} {h' : Heap} {tk' : Nat} (hg : G y) (F : Fr h₀ L h' m) (N : News h₀ L h' nw) : PureEnd h₀ L m s nw G y { s with heap := h', toks := tk' } := ⟨hg, h', tk', rfl, F, N⟩
/-- the same where the element makes nothing that stays -/
theorem rest_pure (G : Nat → Value → Prop) (hS : S news)
    (turn : ∀ i v I oI C oC D ys m₂ h tk (E' : Value → Shared → Prop), i < n → P i v → LCg.NsObj oC m₂ → m₂ x = some v → Fr h₀ L h m → News h₀ L h ((I, oI) :: (C, oC) :: (D, LCg.lst ys) :: news) →
      wpAny (model prog w) A (eval elt (compEnvC scope cl C env)) (PureEnd h₀ L m s ((I, oI) :: (C, oC) :: (D, LCg.lst ys) :: news) (G i)) E' { s with heap := h, toks := tk })
    (fin : ∀ ys, ys.length = n → (∀ j y, ys[j]? = some y → G j y) → Fin ys news) : LCg.CompRest prog w A h₀ L m env elt x scope cl s S P Fin n 0 [] news := by
  suffices H : ∀ k i ys, i + k = n → ys.length = i → (∀ j y, ys[j]? = some y → G j y) → LCg.CompRest prog w A h₀ L m env elt x scope cl s S P Fin k i ys news from H n 0 [] (by omega) rfl (fun j y e => by simp at e)
  intro k
  induction k with
  | zero => intro i ys hi hl hG; exact fin ys (by omega) hG
  | succ k ih =>
    intro i ys hi hl hG
    refine .succ fun v I oI C oC D m₂ h tk E' hP hC hx F N off hne => ?_
    refine wpAny_mono (turn i v I oI C oC D ys m₂ h tk E' (by omega) hP hC hx F N) (fun y s₂ h₂ => ?_) fun _ _ e => e
    obtain ⟨hg, h', tk', e, F', N'⟩ := h₂
    refine ⟨h', tk', news, e, F', N', off, hS, ih (i + 1) _ (by omega) (by simp [hl]) fun j z hz => ?_⟩
    rw [List.getElem?_append] at hz
    split at hz
    · exact hG j z hz
    · rename_i hj
      have : j - ys.length = 0 := by
        cases hh : j - ys.length with
        | zero => rfl
        | succ q => rw [hh] at hz; simp at hz
      rw [this] at hz
      simp at hz
      subst hz
      have : j = i := by omega
      subst this
      exact hg
def Src (prog : Program) (w : World) (A : Around) (h₀ : Heap) (L : Addr) (m : Str → Option Value) (env : Env) (elt : Expr) (x : Str) (scope : Scope) (cl : List (Str × Addr)) (Fin : Shared → List Value → List (Addr × Obj) → Prop) (xv : Value) (s₁ : Shared) : Prop := LCg.CompSrc prog w A h₀ L m env elt x scope cl Fin xv s₁
theorem toSrc {M : Model} {t : Sem Value} {Fin : Shared → List Value → List (Addr × Obj) → Prop} (h : wpAny M A t (Src prog w A h₀ L m env elt x scope cl Fin) E s) : wpAny M A t (LCg.CompSrc prog w A h₀ L m env elt x scope cl Fin) E s := h
end
end Mine

open PySem PySem.W PyProof.Rows PySem.Calls
set_option Elab.async false
set_option maxRecDepth 100000
set_option maxHeartbeats 2000000
namespace Mine
/-- a turn's end: it goes on with J, leaves or breaks -/
def TurnEnd (h₀ : Heap) (L : Addr) (b : Nat) (own : List (Addr × Obj)) (J : (Str → Option Value) → List (Addr × Obj) → Prop) (s₁ : Shared) (Q : Flow → Shared → Prop) (f : Flow) (s₂ : Shared) : Prop :=
  match f with
  | .ret v => Q (.ret v) s₂
  | .brk => Q .next s₂
  | _ => ∃ h' tk m₂ nw, s₂ = { s₁ with heap := h', toks := tk } ∧ Fr h₀ L h' m₂ ∧ News h₀ L h' (own ++ nw) ∧ (∀ p ∈ nw, p.1 < b) ∧ J m₂ nw
theorem TurnEnd.next {h₀ h' : Heap} {L : Addr} {b : Nat} {own nw : List (Addr × Obj)} {J : (Str → Option Value) → List (Addr × Obj) → Prop} {s₁ : Shared} {Q : Flow → Shared → Prop} {m₂ : Str → Option Value} {tk : Nat}
    (F : Fr h₀ L h' m₂) (N : News h₀ L h' (own ++ nw)) (hb : ∀ p ∈ nw, p.1 < b) (hJ : J m₂ nw) : TurnEnd h₀ L b own J s₁ Q .next { s₁ with heap := h', toks := tk } := ⟨h', tk, m₂, nw, rfl, F, N, hb, hJ⟩
theorem TurnEnd.toV {h₀ : Heap} {L : Addr} {b : Nat} {wr : List Addr} {own : List (Addr × Obj)} {J : (Str → Option Value) → List (Addr × Obj) → Prop} {s₁ : Shared} {Q : Flow → Shared → Prop} {f : Flow} {s₂ : Shared}
    (hwr : ∀ a ∈ wr, b ≤ a) (h : TurnEnd h₀ L b own J s₁ Q f s₂) : LoopStepV h₀ L wr own J s₁ (fun v s' => Q (.ret v) s') (fun s' => Q .next s') f s₂ := by
  have fin : (∃ h' tk m₂ nw, s₂ = { s₁ with heap := h', toks := tk } ∧ Fr h₀ L h' m₂ ∧ News h₀ L h' (own ++ nw) ∧ (∀ p ∈ nw, p.1 < b) ∧ J m₂ nw) → LoopStepU h₀ L wr own J s₁ .next s₂ := by
    rintro ⟨h', tk, m₂, nw, e, F, N, hb, hJ⟩
    exact ⟨rfl, h', tk, m₂, nw, e, F, N, fun p hp hm => absurd (hwr _ hm) (Nat.not_le.mpr (hb p hp)), hJ⟩
  cases f with
  | ret v => exact .ret h
  | brk => exact .brk h
  | next => exact .next (fin h)
  | cont => exact .cont (fin h)
section
variable {prog : Program} {w : World} {A : Around} {E : Value → Shared → Prop} {s : Shared} {env : Env} {h₀ : Heap} {target : Expr} {body : List Stmt} {Q : Flow → Shared → Prop} {m₀ : Str → Option Value} {news : List (Addr × Obj)}
theorem fresh_at (F : Fr h₀ env.locals s.heap m₀) {a : Addr} (ha : s.heap.objs.size ≤ a) : h₀.get? a = none := by
  cases e : h₀.get? a with
  | none => rfl
  | some o => exact absurd (Heap.lt_size (F.keep a o e)) (Nat.not_lt.mpr ha)
/-- over a list that the call has made -/
theorem list_turns {ax : Addr} {vs : List Value} {n : Nat} (J : Nat → (Str → Option Value) → List (Addr × Obj) → Prop) (hh : A.handled = none) (F : Fr h₀ env.locals s.heap m₀) (N : News h₀ env.locals s.heap news) (hm : (ax, lobj vs n) ∈ news) (h0 : J 0 m₀ news)
    (hgo : ∀ v (s : Shared) (Q : Unit → Shared → Prop) (E : Value → Shared → Prop) (I : Addr) (i : Nat), s.heap.IsListIter I ax i → Q () s → wpAny (model prog w) A (letOwnedTupleGo target (.ref I) v) Q E s)
    (turn : ∀ i v m₁ nw h₁ tk₁ own, (∀ p ∈ own, s.heap.objs.size ≤ p.1 ∨ p.1 = ax) → vs[i]? = some v → J i m₁ nw → Fr h₀ env.locals h₁ m₁ → News h₀ env.locals h₁ (own ++ nw) →
      wpAny (model prog w) A (assign target env v) (fun _ s₃ => wpAny (model prog w) A (execs body env) (TurnEnd h₀ env.locals s.heap.objs.size own (J (i + 1)) { s with heap := h₁, toks := tk₁ } Q) E s₃) E { s with heap := h₁, toks := tk₁ })
    (done : ∀ h' tk m' nw, Fr h₀ env.locals h' m' → News h₀ env.locals h' nw → J vs.length m' nw → Q .next { s with heap := h', toks := tk }) :
    wpAny (model prog w) A (pyIter (.ref ax)) (fun it s₂ => TurnsAt prog w A h₀ env target body Q E it s₂) E s := by
  have hax := N _ hm
  have hl : s.heap.IsList ax vs.toArray := ⟨_, hax.1, rfl, n, rfl⟩
  have hlt : ax < s.heap.objs.size := Heap.lt_size hax.1
  have hLs : env.locals < s.heap.objs.size := F.ns.lt
  refine wpAny_pyIter_list hl ?_
  have up : ∀ b o, s.heap.get? b = some o → (s.heap.push { cls := .type "list_iterator", data := .fields #[.ref ax, .int 0 0] }).get? b = some o := fun b o e => Heap.get?_push_of_some _ e
  refine ⟨s.heap.objs.size, [s.heap.objs.size, ax], [s.heap.objs.size], vs.toArray.size, _, _, _, m₀, news, J, rfl, KTurns.ofWalks (Walks.list hh s.heap.objs.size ax (Nat.ne_of_lt hlt) vs.toArray) (fun i v s' Q' E' st hQ => hgo v s' Q' E' _ i st.1 hQ), ?_, ?_, ?_,
    ⟨⟨_, Heap.get?_push_size _ rfl, rfl, rfl⟩, hl.push _⟩, F.keeps up, N.grown up, h0, ?_, ?_⟩
  · intro hI
    rcases List.mem_cons.mp hI with e | e
    · exact Nat.ne_of_lt hLs e
    · exact hax.2.1 (List.mem_singleton.mp e).symm
  · intro b hb
    rw [List.mem_singleton.mp hb]
    exact fresh_at F (Nat.le_refl _)
  · intro p hp hI
    exact absurd (Heap.lt_size (N p hp).1) (by rw [List.mem_singleton.mp hI]; exact Nat.lt_irrefl _)
  · intro i v m₁ nw h₁ tk₁ own hi hP hJ _ hfp _ _ _ F₁ N₁
    refine wpAny_mono (turn i v m₁ nw h₁ tk₁ own (fun p hp => ?_) (by simpa using hP) hJ F₁ N₁) (fun _ s₃ h₃ => wpAny_mono h₃ (fun f s₄ h₄ => h₄.toV ?_) fun _ _ e => e) fun _ _ e => e
    · rcases List.mem_cons.mp (hfp p hp) with e | e
      · exact .inl (Nat.le_of_eq e.symm)
      · exact .inr (List.mem_singleton.mp e)
    · intro a ha
      rw [List.mem_singleton.mp ha]
      exact Nat.le_refl _
  · intro h' tk m' nw F' N' _ hJ
    exact done h' tk m' nw F' N' (by simpa using hJ)
/-- over a range that counts up by ones from nought -/
theorem range_turns {r : Addr} {n : Nat} {t u v : Tok} (J : Nat → (Str → Option Value) → List (Addr × Obj) → Prop) (hh : A.handled = none) (F : Fr h₀ env.locals s.heap m₀) (N : News h₀ env.locals s.heap news) (hr : IsRange s.heap r 0 (n : Int) 1 t u v) (hn : n ≤ 100000) (h0 : J 0 m₀ news)
    (hgo : ∀ v (s : Shared) (Q : Unit → Shared → Prop) (E : Value → Shared → Prop) (I : Addr) (a b : Int), IsRangeIter s.heap I a b 1 → Q () s → wpAny (model prog w) A (letOwnedTupleGo target (.ref I) v) Q E s)
    (turn : ∀ (i : Nat) t' m₁ nw h₁ tk₁ own, i < n → (∀ p ∈ own, s.heap.objs.size ≤ p.1) → J i m₁ nw → Fr h₀ env.locals h₁ m₁ → News h₀ env.locals h₁ (own ++ nw) →
      wpAny (model prog w) A (assign target env (.int (i : Int) t')) (fun _ s₃ => wpAny (model prog w) A (execs body env) (TurnEnd h₀ env.locals s.heap.objs.size own (J (i + 1)) { s with heap := h₁, toks := tk₁ } Q) E s₃) E { s with heap := h₁, toks := tk₁ })
    (done : ∀ h' tk m' nw, Fr h₀ env.locals h' m' → News h₀ env.locals h' nw → J n m' nw → Q .next { s with heap := h', toks := tk }) :
    wpAny (model prog w) A (pyIter (.ref r)) (fun it s₂ => TurnsAt prog w A h₀ env target body Q E it s₂) E s := by
  have hLs : env.locals < s.heap.objs.size := F.ns.lt
  refine wpAny_pyIter_range hr (small_one (by decide) (by decide) (by omega) (by omega)) ?_
  have up : ∀ o b o', s.heap.get? b = some o' → (s.heap.push o).get? b = some o' := fun o b o' e => Heap.get?_push_of_some _ e
  have hrs : Builtin.Range.rangeSize 0 (n : Int) 1 = (n : Int) := by unfold Builtin.Range.rangeSize; split <;> simp_all <;> omega
  refine ⟨s.heap.objs.size, [s.heap.objs.size], [s.heap.objs.size], n, _, _, _, m₀, news, J, rfl, KTurns.ofWalks (Walks.range hh s.heap.objs.size 0 1 n) (fun i v s' Q' E' st hQ => hgo v s' Q' E' _ _ _ st hQ), ?_, ?_, ?_,
    ?_, F.keeps (up _), N.grown (up _), h0, ?_, ?_⟩
  · intro hI
    exact Nat.ne_of_lt hLs (List.mem_singleton.mp hI)
  · intro b hb
    rw [List.mem_singleton.mp hb]
    exact fresh_at F (Nat.le_refl _)
  · intro p hp hI
    exact absurd (Heap.lt_size (N p hp).1) (by rw [List.mem_singleton.mp hI]; exact Nat.lt_irrefl _)
  · show IsRangeIter _ _ _ _ _
    rw [hrs]
    simpa using Heap.get?_push_size _ rfl
  · rintro i v m₁ nw h₁ tk₁ own hi ⟨t', rfl⟩ hJ _ hfp _ _ _ F₁ N₁
    have e : (0 : Int) + (i : Int) * 1 = (i : Int) := by omega
    rw [e]
    refine wpAny_mono (turn i t' m₁ nw h₁ tk₁ own hi (fun p hp => Nat.le_of_eq (List.mem_singleton.mp (hfp p hp)).symm) hJ F₁ N₁) (fun _ s₃ h₃ => wpAny_mono h₃ (fun f s₄ h₄ => h₄.toV ?_) fun _ _ e => e) fun _ _ e => e
    intro a ha
    rw [List.mem_singleton.mp ha]
    exact Nat.le_refl _
  · intro h' tk m' nw F' N' _ hJ
    exact done h' tk m' nw F' N' hJ
/-- over zip of two lists that the call has made -/
theorem zip_turns {elts : List Expr} {k : Nat} {pos : Pos} {l1 l2 : Addr} {xs ys : List Value} {n1 n2 : Nat} (J : Nat → (Str → Option Value) → List (Addr × Obj) → Prop) (hh : A.handled = none) (F : Fr h₀ env.locals s.heap m₀) (N : News h₀ env.locals s.heap news) (hm1 : (l1, lobj xs n1) ∈ news) (hm2 : (l2, lobj ys n2) ∈ news) (hlen : xs.length = ys.length) (h0 : J 0 m₀ news)
    (turn : ∀ i x y T m₁ nw h₁ tk₁ own, (∀ p ∈ own, s.heap.objs.size ≤ p.1 ∨ p.1 = l1 ∨ p.1 = l2) → xs[i]? = some x → ys[i]? = some y → h₁.IsTuple T #[x, y] → J i m₁ nw → Fr h₀ env.locals h₁ m₁ → News h₀ env.locals h₁ (own ++ nw) →
      wpAny (model prog w) A (assign (.Tuple elts k pos) env (.ref T)) (fun _ s₃ => wpAny (model prog w) A (execs body env) (TurnEnd h₀ env.locals s.heap.objs.size own (J (i + 1)) { s with heap := h₁, toks := tk₁ } Q) E s₃) E { s with heap := h₁, toks := tk₁ })
    (done : ∀ h' tk m' nw, Fr h₀ env.locals h' m' → News h₀ env.locals h' nw → J xs.length m' nw → Q .next { s with heap := h', toks := tk }) :
    wpAny (model prog w) A (call (.type "zip") [.ref l1, .ref l2]) (fun xv s₁ => wpAny (model prog w) A (pyIter xv) (fun it s₂ => TurnsAt prog w A h₀ env (.Tuple elts k pos) body Q E it s₂) E s₁) E s := by
  have hax1 := N _ hm1
  have hax2 := N _ hm2
  have hl1 : s.heap.IsList l1 xs.toArray := ⟨_, hax1.1, rfl, n1, rfl⟩
  have hl2 : s.heap.IsList l2 ys.toArray := ⟨_, hax2.1, rfl, n2, rfl⟩
  have hlt1 : l1 < s.heap.objs.size := Heap.lt_size hax1.1
  have hlt2 : l2 < s.heap.objs.size := Heap.lt_size hax2.1
  have hLs : env.locals < s.heap.objs.size := F.ns.lt
  have D : ZipApart (s.heap.objs.size + 4) (s.heap.objs.size + 2) (s.heap.objs.size + 3) s.heap.objs.size (s.heap.objs.size + 1) l1 l2 := zipApart_new hlt1 hlt2
  refine call_zip_2 hl1 hl2 fun h' hz hTI hTO hi1 hi2 hsz hk => ?_
  refine wpAny_pyIter_zip hz ?_
  have hwr : ∀ a ∈ [s.heap.objs.size + 4, s.heap.objs.size + 3, s.heap.objs.size, s.heap.objs.size + 1], s.heap.objs.size ≤ a := by
    intro a ha
    simp at ha
    rcases ha with e | e | e | e <;> (rw [e]; first | exact Nat.le_add_right _ _ | exact Nat.le_refl _)
  refine ⟨_, _, [s.heap.objs.size + 4, s.heap.objs.size + 3, s.heap.objs.size, s.heap.objs.size + 1], _, _, _, _, m₀, news, J, rfl, KTurns.ofWalksU (WalksT.zip2 hh _ _ _ _ _ _ _ D xs.toArray ys.toArray).toU, ?_, ?_, ?_,
    ⟨hz, hTI, ⟨_, _, hTO⟩, hi1, hi2, hl1.at fun o e => hk l1 o e, hl2.at fun o e => hk l2 o e⟩, F.keeps hk, N.grown hk, h0, ?_, ?_⟩
  · intro hI
    have up : ∀ k, env.locals ≠ s.heap.objs.size + k := fun k e => Nat.ne_of_lt (Nat.lt_of_lt_of_le hLs (Nat.le_add_right _ k)) e
    simp only [List.mem_cons, List.not_mem_nil, or_false] at hI
    rcases hI with e | e | e | e | e | e | e
    · exact up 4 e
    · exact up 2 e
    · exact up 3 e
    · exact up 0 e
    · exact up 1 e
    · exact hax1.2.1 e.symm
    · exact hax2.2.1 e.symm
  · intro b hb
    exact fresh_at F (hwr b hb)
  · intro p hp hI
    exact absurd (hwr _ hI) (Nat.not_le.mpr (Heap.lt_size (N p hp).1))
  · rintro i v m₁ nw h₁ tk₁ own hi ⟨T, vals, rfl, ⟨x, y, hx, hy, rfl⟩, hT⟩ hJ _ hfp _ _ _ F₁ N₁
    refine wpAny_mono (turn i x y T m₁ nw h₁ tk₁ own (fun p hp => ?_) (by simpa using hx) (by simpa using hy) hT hJ F₁ N₁) (fun _ s₃ h₃ => wpAny_mono h₃ (fun f s₄ h₄ => h₄.toV hwr) fun _ _ e => e) fun _ _ e => e
    have := hfp p hp
    simp only [List.mem_cons, List.not_mem_nil, or_false] at this
    rcases this with e | e | e | e | e | e | e
    · exact .inl (by rw [e]; exact Nat.le_add_right _ _)
    · exact .inl (by rw [e]; exact Nat.le_add_right _ _)
    · exact .inl (by rw [e]; exact Nat.le_add_right _ _)
    · exact .inl (by rw [e]; exact Nat.le_refl _)
    · exact .inl (by rw [e]; exact Nat.le_add_right _ _)
    · exact .inr (.inl e)
    · exact .inr (.inr e)
  · intro h' tk m' nw F' N' _ hJ
    exact done h' tk m' nw F' N' (by simpa [hlen] using hJ)
end
end Mine

open PySem PySem.W PyProof.Rows PySem.Calls
set_option Elab.async false
set_option maxRecDepth 100000
set_option maxHeartbeats 2000000
namespace Mine
section
variable {prog : Program} {w : World} {A : Around} {E : Value → Shared → Prop} {s : Shared} {h₀ : Heap} {L : Addr} {m : Str → Option Value} {env : Env}
theorem news_same {h h' : Heap} {a : Addr} {nw : List (Addr × Obj)} (N : News h₀ L h nw) (hs : Heap.SameBut a h h') (off : ∀ p ∈ nw, p.1 ≠ a) : News h₀ L h' nw :=
  fun p hp => ⟨hs.extBut _ _ (off p hp) (N p hp).1, (N p hp).2⟩
/-- a turn's end of a comprehension whose name is a cell -/
def CellEnd (h₀ : Heap) (L : Addr) (m : Str → Option Value) (s₁ : Shared) (I : Addr) (oI : Obj) (C : Addr) (oC : Obj) (c : Addr) (oc : Obj) (D : Addr) (oD : Obj) (src : Addr × Obj) (rest : Value → List (Addr × Obj) → Prop) (y : Value) (s₂ : Shared) : Prop :=
  ∃ h' tk nw, s₂ = { s₁ with heap := h', toks := tk } ∧ Fr h₀ L h' m ∧ News h₀ L h' ((I, oI) :: (C, oC) :: (c, oc) :: (D, oD) :: nw) ∧ (∀ p ∈ nw, p.1 ≠ I ∧ p.1 ≠ C ∧ p.1 ≠ c ∧ p.1 ≠ D) ∧ src ∈ nw ∧ rest y nw
theorem cell_block {elt iter : Expr} {x : Str} {px : Pos} {scope : Scope} {pos : Pos} {RR : Value → Addr → Result → Shared → Prop} {s₁ : Shared} {ax : Addr} {vs : List Value} {k : Nat} {news : List (Addr × Obj)} {J : Nat → List Value → List (Addr × Obj) → Prop} (hh : A.handled = none)
    (hkind : scope.kind = .function) (hx : (relabel scope env).names.lookup x = some .cell)
    (hcf : ∀ n, cellsFrom n scope.names [] = [(x, n)]) (hpc : ∀ h : Heap, pushCells h scope.names = h.push { cls := .type "cell", data := .cell none })
    (F : Fr h₀ L s₁.heap m) (N : News h₀ L s₁.heap news) (hm : (ax, lobj vs k) ∈ news) (hsz : vs.length ≤ 100000) (hJ : J 0 [] news)
    (turn : (∀ i v ys nw h tk I oI C oC c oc D (E' : Value → Shared → Prop), vs[i]? = some v → J i ys nw → oc.data = .cell (some v) → Fr h₀ L h m → News h₀ L h ((I, oI) :: (C, oC) :: (c, oc) :: (D, LCg.lst ys) :: nw) → (∀ p ∈ nw, p.1 ≠ I ∧ p.1 ≠ C ∧ p.1 ≠ c ∧ p.1 ≠ D) → (@Ne Nat I C ∧ @Ne Nat I c ∧ @Ne Nat I D ∧ @Ne Nat C c ∧ @Ne Nat C D ∧ @Ne Nat c D) → (ax, lobj vs k) ∈ nw →
      wpAny (model prog w) A (eval elt (compEnvC scope [(x, c)] C env)) (CellEnd h₀ L m { s₁ with heap := h, toks := tk } I oI C oC c oc D (LCg.lst ys) (ax, lobj vs k) (fun y nw' => J (i + 1) (ys ++ [y]) nw')) E' { s₁ with heap := h, toks := tk }))
    (fin : ∀ ys nw D C h tk m', J vs.length ys nw → Fr h₀ L h m → News h₀ L h ((D, LCg.lst ys) :: nw) → (∀ p ∈ nw, p.1 ≠ D) → (∀ p ∈ nw, p.1 ≠ C) → h.Ns C m' → h₀.get? C = none → h₀.get? D = none → C ≠ L → D ≠ L → @Ne Nat C D → RR (.ref D) C (.ok .next) { s₁ with heap := h, toks := tk }) :
    wpAny (model prog w) A (pyIter (.ref ax)) (fun it s₂ => wpAny (model prog w) A (newList []) (fun acc s₃ => wpAny (model prog w) A (newFunctionEnv scope env.globals [] [] env.qual none .none (some env)) (fun cenv s₄ =>
      codeAny (model prog w) A (.compStart (.ListComp elt [⟨.Name x px, iter, [], 0⟩] scope pos) 0 it acc { cenv with scope := relabel scope env }) (RR acc cenv.locals) s₄) E s₃) E s₂) E s₁ := by
  have hl : s₁.heap.IsList ax vs.toArray := isl_of N hm
  have hlt : ax < s₁.heap.objs.size := Heap.lt_size (N _ hm).1
  have hLlt : L < s₁.heap.objs.size := F.ns.lt
  have nlt : ∀ p ∈ news, p.1 < s₁.heap.objs.size := fun p hp => Heap.lt_size (N p hp).1
  have fresh : ∀ a, s₁.heap.objs.size ≤ a → h₀.get? a = none := fun a ha => by
    cases e : h₀.get? a with
    | none => rfl
    | some o => exact absurd (Heap.lt_size (F.keep a o e)) (Nat.not_lt.mpr ha)
  refine wpAny_pyIter_list hl ?_
  refine wpAny_newObj_type ?_
  simp only [newFunctionEnv, Option.isSome_some, if_true]
  refine wpAny_bind (wpAny_alloc ?_)
  refine wpAny_bind (wpAny_layCells _ (fun name kind cells => by cases hkc : kind == NameKind.cell <;> simp [hkc]) _ _ _ _ ?_)
  rw [hcf, hpc]
  rw [List.forIn_nil]
  refine wpAny_bind (wpAny_pure (wpAny_pure ?_))
  dsimp only
  generalize hI : s₁.heap.objs.size = I at *
  have hLlt' : @LT.lt Nat _ L I := hLlt
  generalize hH1 : s₁.heap.push { cls := .type "list_iterator", data := .fields #[.ref ax, .int 0 0] } = H1
  have z1 : H1.objs.size = I + 1 := by rw [← hH1, Heap.size_push, hI]
  generalize hH2 : H1.push { cls := .type "list", dict := none, data := .seq ([] : List Value).toArray } = H2
  have z2 : H2.objs.size = I + 2 := by rw [← hH2, Heap.size_push, z1]
  generalize hH3 : H2.push { cls := .type "dict", data := .dict #[] } = H3
  have z3 : H3.objs.size = I + 3 := by rw [← hH3, Heap.size_push, z2]
  generalize hH4 : H3.push { cls := .type "cell", data := .cell none } = H4
  rw [z1, z2, z3]
  have up1 : ∀ b o, s₁.heap.get? b = some o → H1.get? b = some o := fun b o e => hH1 ▸ Heap.get?_push_of_some _ e
  have up2 : ∀ b o, H1.get? b = some o → H2.get? b = some o := fun b o e => hH2 ▸ Heap.get?_push_of_some _ e
  have up3 : ∀ b o, H2.get? b = some o → H3.get? b = some o := fun b o e => hH3 ▸ Heap.get?_push_of_some _ e
  have up4 : ∀ b o, H3.get? b = some o → H4.get? b = some o := fun b o e => hH4 ▸ Heap.get?_push_of_some _ e
  have old : ∀ b o, s₁.heap.get? b = some o → H4.get? b = some o := fun b o e => up4 b o (up3 b o (up2 b o (up1 b o e)))
  have gI : H4.get? I = some { cls := .type "list_iterator", data := .fields #[.ref ax, .int 0 0] } := up4 _ _ (up3 _ _ (up2 _ _ (by rw [← hH1, ← hI]; exact Heap.get?_push_size _ rfl)))
  have gD : H4.get? (I + 1) = some (LCg.lst []) := up4 _ _ (up3 _ _ (by rw [← hH2, ← z1]; exact Heap.get?_push_size _ rfl))
  have gC : H4.Ns (I + 2) (fun _ => none) := by
    have := (Heap.Ns.new H2 (.type "dict"))
    rw [hH3, z2] at this
    exact this.keeps up4
  have gc : H4.IsCell (I + 3) none := ⟨_, by rw [← hH4, ← z3]; exact Heap.get?_push_size _ rfl, rfl⟩
  have W := Walks.list (prog := prog) (w := w) (A := A) hh I ax (Nat.ne_of_lt hlt) vs.toArray
  have hst : H4.IsListIter I ax 0 ∧ H4.IsList ax vs.toArray := ⟨⟨_, gI, rfl, rfl⟩, hl.at fun o e => old ax o e⟩
  have loop : codeAny (model prog w) A (.compLoop (.ListComp elt [⟨.Name x px, iter, [], 0⟩] scope pos) 0 (.ref I) (.ref (I + 1)) (compEnvC scope [(x, I + 3)] (I + 2) env))
        (RR (.ref (I + 1)) (I + 2)) { s₁ with heap := H4 } := by
    refine codeAny_compLoop_tests
      (fun q s' => ∃ h' tk i ys m' nw, s' = { s₁ with heap := h', toks := tk } ∧ i ≤ vs.length ∧ q = vs.length + 1 - i ∧ ys.length = i ∧ (h'.IsListIter I ax i ∧ h'.IsList ax vs.toArray) ∧ Fr h₀ L h' m ∧ h'.Ns (I + 2) m' ∧ (∃ v₀, h'.IsCell (I + 3) v₀) ∧
        News h₀ L h' ((I + 1, LCg.lst ys) :: nw) ∧ (∀ p ∈ nw, p.1 ≠ I ∧ p.1 ≠ I + 2 ∧ p.1 ≠ I + 3 ∧ p.1 ≠ I + 1) ∧ (ax, lobj vs k) ∈ nw ∧ J i ys nw) ?_ (vs.length + 1)
      ⟨H4, s₁.toks, 0, [], _, news, rfl, Nat.zero_le _, rfl, rfl, hst, F.keeps old, gC, ⟨_, gc⟩, ?_, fun p hp => ?_, hm, hJ⟩
    · rintro q s' ⟨h', tk, i, ys, m', nw, rfl, hi, rfl, hyl, hst', F', hn', ⟨v₀, hc'⟩, N', off, hm', hJ'⟩
      by_cases hlt' : i < vs.length
      · refine W.item i _ _ _ (by simpa using hlt') hst' fun v h₂ tk₂ hPv hst₂ hk₂ => ?_
        have hk₂' : ∀ b o, b ≠ I → h'.get? b = some o → h₂.get? b = some o := fun b o hb e => hk₂ b o (by simpa using hb) e
        have F₂ : Fr h₀ L h₂ m := LCg.fr_but F' hk₂ (Nat.ne_of_lt hLlt') (fresh _ (Nat.le_refl _))
        have N₂ : News h₀ L h₂ ((I + 1, LCg.lst ys) :: nw) := LCg.news_but N' hk₂ fun p hp => by
          rcases List.mem_cons.mp hp with rfl | hp
          · exact Nat.succ_ne_self I
          · exact (off p hp).1
        obtain ⟨oc₀, ec₀, dc₀⟩ := hc'
        refine wpAny_assign_Name (wpAny_storeName_cell hkind hx (c := I + 3) (by simp [compEnvC]) ⟨oc₀, hk₂' _ _ (fun e => absurd (show @Eq Nat (I + 3) I from e) (by omega)) ec₀, dc₀⟩ fun h₃ hc₃ hs₃ => ?_)
        refine wpAny_tests_nil ?_
        simp only [if_true]
        obtain ⟨oc, ec, dc⟩ := hc₃
        have n3 : ∀ a : Nat, a ≠ I + 3 → ∀ o, h₂.get? a = some o → h₃.get? a = some o := fun a ha o e => hs₃.extBut a o ha e
        have hst₃ : h₃.IsListIter I ax (i + 1) ∧ h₃.IsList ax vs.toArray := W.frame _ _ _ hst₂ fun b hb o e => by
          refine n3 b ?_ o e
          have hax : @LT.lt Nat _ ax I := hlt
          rcases List.mem_cons.mp hb with e' | hb
          · intro e2; have q : @Eq Nat b I := e'; omega
          · have q : @Eq Nat b ax := List.mem_singleton.mp hb
            intro e2; omega
        obtain ⟨oI, heI, rI⟩ := hst₃.1
        have hn₃ : h₃.Ns (I + 2) m' := (hn'.at' fun o e => hk₂' _ o (fun e => absurd (show @Eq Nat (I + 2) I from e) (by omega)) e).at' fun o e => n3 _ (by omega) o e
        obtain ⟨oC, heC, hoC⟩ := LCg.ns_obj hn₃
        have F₃ : Fr h₀ L h₃ m := F₂.change hs₃ (fun e => absurd (show @Eq Nat (I + 3) L from e) (by omega)) (fresh _ (by omega))
        have Lne : ∀ q : Nat, I ≤ q → q ≠ L := fun q hq => by omega
        have N₃ : News h₀ L h₃ ((I, oI) :: (I + 2, oC) :: (I + 3, oc) :: (I + 1, LCg.lst ys) :: nw) := fun p hp => by
          rcases List.mem_cons.mp hp with rfl | hp
          · exact ⟨heI, Lne _ (Nat.le_refl _), fresh _ (Nat.le_refl _)⟩
          · rcases List.mem_cons.mp hp with rfl | hp
            · exact ⟨heC, Lne _ (by omega), fresh _ (by omega)⟩
            · rcases List.mem_cons.mp hp with rfl | hp
              · exact ⟨ec, Lne _ (by omega), fresh _ (by omega)⟩
              · have z := N₂ p hp
                refine ⟨n3 _ ?_ _ z.1, z.2⟩
                rcases List.mem_cons.mp hp with rfl | hp
                · intro e; have e' : @Eq Nat (I + 1) (I + 3) := e; omega
                · exact (off p hp).2.2.1
        have hv : vs[i]? = some v := by simpa using hPv
        refine wpAny_mono (turn i v ys nw h₃ _ I oI (I + 2) oC (I + 3) oc (I + 1) _ hv hJ' dc F₃ N₃ off ⟨by omega, by omega, by omega, by omega, by omega, by omega⟩ hm') (fun y s₄ h₄ => ?_) fun _ _ e => e
        obtain ⟨h₄, tk₄, nw₄, rfl, F₄, N₄, off₄, hm₄, R₄⟩ := h₄
        have zI := (N₄ (I, oI) (.head _)).1
        have zC := (N₄ (I + 2, oC) (.tail _ (.head _))).1
        have zc := (N₄ (I + 3, oc) (.tail _ (.tail _ (.head _)))).1
        have zD := (N₄ (I + 1, LCg.lst ys) (.tail _ (.tail _ (.tail _ (.head _))))).1
        have N₄' : News h₀ L h₄ nw₄ := fun p hp => N₄ p (.tail _ (.tail _ (.tail _ (.tail _ hp))))
        refine append_at (hsz := by show ys.toArray.size ≤ sizeLine; rw [List.size_toArray, hyl, sizeLine_eq]; omega) zD fun h₅ hs₅ hD₅ => ?_
        have n5 : ∀ a : Nat, a ≠ I + 1 → ∀ o, h₄.get? a = some o → h₅.get? a = some o := fun a ha o e => hs₅.extBut a o ha e
        refine ⟨vs.length + 1 - (i + 1), by omega, h₅, tk₄, i + 1, ys ++ [y], _, nw₄, rfl, hlt', rfl, by rw [List.length_append, List.length_singleton, hyl],
          ⟨⟨oI, n5 _ (by omega) _ zI, rI⟩, ?_⟩, F₄.change hs₅ (Lne _ (by omega)) (fresh _ (by omega)), (hoC.ns zC).at' fun o e => n5 _ (by omega) o e, ⟨_, oc, n5 _ (by omega) _ zc, dc⟩, ?_, off₄, hm₄, R₄⟩
        · exact ⟨_, n5 _ (off₄ _ hm₄).2.2.2 _ (N₄' _ hm₄).1, rfl, k, rfl⟩
        · intro p hp
          rcases List.mem_cons.mp hp with rfl | hp
          · exact ⟨hD₅.trans (congrArg some (LCg.lst_snoc ys y)), Lne _ (by omega), fresh _ (by omega)⟩
          · exact ⟨n5 _ (off₄ p hp).2.2.2 _ (N₄' p hp).1, (N₄' p hp).2⟩
      · obtain rfl : i = vs.length := Nat.le_antisymm hi (Nat.not_lt.mp hlt')
        refine W.done _ _ _ (by simpa using hst') fun h₂ tk₂ hk₂ => ?_
        have hk₂' : ∀ b o, b ≠ I → h'.get? b = some o → h₂.get? b = some o := fun b o hb e => hk₂ b o (by simpa using hb) e
        have F₂ : Fr h₀ L h₂ m := LCg.fr_but F' hk₂ (Nat.ne_of_lt hLlt') (fresh _ (Nat.le_refl _))
        have N₂ : News h₀ L h₂ ((I + 1, LCg.lst ys) :: nw) := LCg.news_but N' hk₂ fun p hp => by
          rcases List.mem_cons.mp hp with rfl | hp
          · exact Nat.succ_ne_self I
          · exact (off p hp).1
        refine fin ys nw (I + 1) (I + 2) h₂ tk₂ m' hJ' F₂ N₂ (fun p hp => (off p hp).2.2.2) (fun p hp => (off p hp).2.1) (hn'.at' fun o e => hk₂' _ o (fun e => absurd (show @Eq Nat (I + 2) I from e) (by omega)) e) (fresh _ (by omega)) (fresh _ (by omega)) (fun e => absurd (show @Eq Nat (I + 2) L from e) (by omega)) (fun e => absurd (show @Eq Nat (I + 1) L from e) (by omega)) (by omega)
    · intro p hp
      rcases List.mem_cons.mp hp with rfl | hp
      · exact ⟨gD, fun e => by have e' : @Eq Nat (I + 1) L := e; omega, fresh _ (Nat.le_succ _)⟩
      · exact ⟨old _ _ (N p hp).1, (N p hp).2⟩
    · have : @LT.lt Nat _ p.1 I := nlt p hp
      exact ⟨Nat.ne_of_lt this, Nat.ne_of_lt (by omega), Nat.ne_of_lt (by omega), Nat.ne_of_lt (by omega)⟩
  exact codeAny_compStart_list loop (W.self 0 _ _ _ hst loop)
def CellSrc (prog : Program) (w : World) (A : Around) (h₀ : Heap) (L : Addr) (m : Str → Option Value) (env : Env) (elt : Expr) (x : Str) (scope : Scope) (y : Str) (Q : Flow → Shared → Prop) (xv : Value) (s₁ : Shared) : Prop :=
  ∃ ax vs k news, ∃ J : Nat → List Value → List (Addr × Obj) → Prop, xv = .ref ax ∧ Fr h₀ L s₁.heap m ∧ News h₀ L s₁.heap news ∧ (ax, lobj vs k) ∈ news ∧ vs.length ≤ 100000 ∧ J 0 [] news ∧
    (∀ i v ys nw h tk I oI C oC c oc D (E' : Value → Shared → Prop), vs[i]? = some v → J i ys nw → oc.data = .cell (some v) → Fr h₀ L h m → News h₀ L h ((I, oI) :: (C, oC) :: (c, oc) :: (D, LCg.lst ys) :: nw) → (∀ p ∈ nw, p.1 ≠ I ∧ p.1 ≠ C ∧ p.1 ≠ c ∧ p.1 ≠ D) → (@Ne Nat I C ∧ @Ne Nat I c ∧ @Ne Nat I D ∧ @Ne Nat C c ∧ @Ne Nat C D ∧ @Ne Nat c D) → (ax, lobj vs k) ∈ nw →
      wpAny (model prog w) A (eval elt (compEnvC scope [(x, c)] C env)) (CellEnd h₀ L m { s₁ with heap := h, toks := tk } I oI C oC c oc D (LCg.lst ys) (ax, lobj vs k) (fun y nw' => J (i + 1) (ys ++ [y]) nw')) E' { s₁ with heap := h, toks := tk }) ∧
    (∀ ys nw D h tk, J vs.length ys nw → Fr h₀ L h (fun z => if z = y then some (.ref D) else m z) → News h₀ L h ((D, LCg.lst ys) :: nw) → (∀ p ∈ nw, p.1 ≠ D) → Q .next { s₁ with heap := h, toks := tk })
theorem assign_comp_cell {elt iter : Expr} {x y : Str} {px py : Pos} {scope : Scope} {pos spos : Pos} {Q : Flow → Shared → Prop} (hh : A.handled = none) (hL : env.locals = L)
    (hsw : swapsWith (.ListComp elt [⟨.Name x px, iter, [], 0⟩] scope pos) (some (.Name y py)) spos.line env = pure true)
    (hclos : closureFor scope env = pure []) (hkind : scope.kind = .function)
    (hnames : ∀ z ∈ scope.names, z.2 = .local → scope.names.lookup z.1 = some .local) (hx : (relabel scope env).names.lookup x = some .cell)
    (hcf : ∀ n, cellsFrom n scope.names [] = [(x, n)]) (hpc : ∀ h : Heap, pushCells h scope.names = h.push { cls := .type "cell", data := .cell none })
    (hy : env.kindOf y = some .local) (hp : (env.scope.kind == .class || (env.scope.kind == .module && env.locals != env.globals)) = false)
    (h : wpAny (model prog w) A (eval iter env) (CellSrc prog w A h₀ L m env elt x scope y Q) E s)
    (hs : ∀ x, foldedSetIterable iter env x = pure x := by intro _; rfl) :
    wpAny (model prog w) A (exec (.Assign [.Name y py] (.ListComp elt [⟨.Name x px, iter, [], 0⟩] scope pos) spos) env) Q E s := by
  subst hL
  rw [exec_Assign_Name_used _ _ _ _ hsw]
  refine wpAny_bind (wpAny_standAt (wpAny_bind ?_))
  show wpAny _ A (do let _ ← comprehension (.ListComp elt [⟨.Name x px, iter, [], 0⟩] scope pos) scope env _ (newList []) false (eval iter env) (some (assign (.Name y py) env))) _ _ s
  refine wpAny_bind (wpAny_mono (wpAny_comprehension_free (use := some (assign (.Name y py) env)) (Q := fun _ s' => Q .next s') rfl hs hclos hkind hnames
    (wpAny_mono h (fun xv s₁ h₁ => ?_) fun _ _ e => e)) (fun _ s' hq => wpAny_pure (wpAny_pure hq)) fun _ _ e => e)
  obtain ⟨ax, vs, k, news, J, rfl, F, N, hm, hsz, hJ, turn, fin⟩ := h₁
  refine cell_block (RR := fun acc C => compPost (model prog w) A E (some (assign (.Name y py) env)) (fun _ s' => Q .next s') acc C) hh hkind hx hcf hpc F N hm hsz hJ turn ?_
  intro ys nw D C h tk m' hJ' F' N' offD offC hnC hC hD hCL hDL hCD
  show wpAny _ A (assign (.Name y py) env (.ref D)) _ _ _
  refine wpAny_assign_Name (wpAny_storeName_local hy F'.ns (fun h₂ hn₂ hs₂ => ?_) hp)
  refine ⟨m', hnC.sameBut hs₂ hCL, fun h₃ hs₃ => ?_⟩
  have F₂ : Fr h₀ env.locals h₂ (fun z => if z = y then some (.ref D) else m z) := ⟨hn₂, fun b o e => hs₂.extBut b o (fun q => by have := F'.above; subst q; exact absurd (Heap.lt_size e) (Nat.not_lt.mpr F'.above)) (F'.keep b o e), F'.above⟩
  refine fin ys nw D h₃ _ hJ' (F₂.change hs₃ hCL hC) (fun p hp => ?_) offD
  have z := N' p hp
  refine ⟨hs₃.extBut _ _ ?_ (hs₂.extBut _ _ z.2.1 z.1), z.2⟩
  rcases List.mem_cons.mp hp with rfl | hp
  · exact fun e => hCD e.symm
  · exact offC p hp
end
end Mine

open PySem PySem.W PyProof.Rows PySem.Calls
set_option Elab.async false
set_option maxRecDepth 100000
set_option maxHeartbeats 2000000
namespace Mine
section
variable (g o : Str) (pg po pe pi : Pos) (iter : Expr) (scope : Scope) (pos : Pos)
/-- [o for g in iter for o in g] -/
abbrev two : Expr := .ListComp (.Name o pe) [⟨.Name g pg, iter, [], 0⟩, ⟨.Name o po, .Name g pi, [], 0⟩] scope pos
theorem turn1 (it acc : Value) (env : Env) :
    compTurn (two g o pg po pe pi iter scope pos) 1 it acc env = (standAt pi >>= fun _ => pyNext it >>= fun r => match r with
      | none => pure (.done .next)
      | some v => letOwnedTupleGo (.Name o po) it v >>= fun _ => assign (.Name o po) env v >>= fun _ =>
        (eval (.Name o pe) env >>= fun x => call (.builtin "list.append") [acc, x] >>= fun _ => pure ()) >>= fun _ =>
          again (.compLoop (two g o pg po pe pi iter scope pos) 1 it acc env)) := by rfl
theorem turn0 (it acc : Value) (env : Env) :
    compTurn (two g o pg po pe pi iter scope pos) 0 it acc env = (standAt iter.pos >>= fun _ => pyNext it >>= fun r => match r with
      | none => pure (.done .next)
      | some v => letOwnedTupleGo (.Name g pg) it v >>= fun _ => assign (.Name g pg) env v >>= fun _ =>
        eval (.Name g pi) env >>= fun x => standAt pi >>= fun _ => foldedSetIterable (.Name g pi) env x >>= fun x =>
        holding [x] (pyIter x) >>= fun it2 => runOwn (.compStart (two g o pg po pe pi iter scope pos) 1 it2 acc env) env >>= fun _ =>
          again (.compLoop (two g o pg po pe pi iter scope pos) 0 it acc env)) := by rfl
variable {prog : Program} {w : World} {A : Around} {R : Result → Shared → Prop} {s : Shared}
theorem start1 {it acc : Value} {env : Env}
    (h0 : codeAny (model prog w) A (.compLoop (two g o pg po pe pi iter scope pos) 1 it acc env) R s)
    (h : wpAny (model prog w) A (pyIter it) (fun it' s' => codeAny (model prog w) A (.compLoop (two g o pg po pe pi iter scope pos) 1 it' acc env) R s')
      (notedBy (model prog w) A env fun x s' => R (.error x) s') s) :
    codeAny (model prog w) A (.compStart (two g o pg po pe pi iter scope pos) 1 it acc env) R s := by
  refine codeAny_of_tree ?_
  show wpAny _ _ ((compStart (two g o pg po pe pi iter scope pos) 1 it acc env).onRaise (fun x => do noteFrame x env; standAt theWindowsPlace)) _ _ s
  refine wpAny_notedAt ?_
  unfold compStart
  show wpAny _ _ (ask >>= _) _ _ s
  refine wpAny_bind (wpAny_askSetting (wpAny_ite ?_))
  split
  · first
      | exact wpAny_bind (wpAny_pure (wpAny_pure (And.intro rfl h0)))
      | exact wpAny_pure (And.intro rfl h0)
  · first
      | exact wpAny_bind (wpAny_rule (wpAny_bind (wpAny_standAt (wpAny_bind (wpAny_mono h (fun it' s' h' => wpAny_pure (And.intro rfl h')) fun _ _ x => x)))))
      | (refine wpAny_bind (wpAny_rule ?_); show wpAny _ _ (standAt pi >>= _) _ _ s; exact wpAny_bind (wpAny_standAt (wpAny_bind (wpAny_mono h (fun it' s' h' => wpAny_pure (And.intro rfl h')) fun _ _ x => x))))
end
section
variable {g o : Str} {pg po pe pi : Pos} {iter : Expr} {scope : Scope} {pos : Pos} {prog : Program} {w : World} {A : Around} {R : Result → Shared → Prop} {s : Shared} {h₀ : Heap} {L : Addr} {m : Str → Option Value} {env : Env}
/-- the inner clause's turns: all items of the list that the ledger holds go onto the end of D -/
theorem inner_turns {E : Value → Shared → Prop} {C D a2 : Addr} {vs2 ys : List Value} {k2 : Nat} {led : List (Addr × Obj)} {m' : Str → Option Value} (hh : A.handled = none) (hkind : scope.kind = .function)
    (ho : scope.names.lookup o = some .local) (hdb : (o == ("__debug__" : Str)) = false)
    (F : Fr h₀ L s.heap m) (hC : s.heap.Ns C m') (N : News h₀ L s.heap ((D, LCg.lst ys) :: led)) (hm : (a2, lobj vs2 k2) ∈ led) (offD : ∀ p ∈ led, p.1 ≠ D) (offC : ∀ p ∈ led, p.1 ≠ C)
    (hCD : @Ne Nat C D) (hCL : C ≠ L) (hC0 : h₀.get? C = none) (hsz : vs2.length + ys.length ≤ 100000)
    (hret : ∀ h' tk m'', Fr h₀ L h' m → h'.Ns C m'' → News h₀ L h' ((D, LCg.lst (ys ++ vs2)) :: led) → R (.ok .next) { s with heap := h', toks := tk }) :
    wpAny (model prog w) A (pyIter (.ref a2)) (fun it s₂ => codeAny (model prog w) A (.compStart (two g o pg po pe pi iter scope pos) 1 it (.ref D) (compEnvC scope [] C env)) R s₂) E s := by
  have zD := N _ (List.Mem.head _)
  have hl : s.heap.IsList a2 vs2.toArray := isl_of N (.tail _ hm)
  have hlt : a2 < s.heap.objs.size := Heap.lt_size (N _ (.tail _ hm)).1
  have hLlt : L < s.heap.objs.size := F.ns.lt
  have fresh : ∀ a, s.heap.objs.size ≤ a → h₀.get? a = none := fun a ha => fresh_at (env := { env with locals := L }) F ha
  refine wpAny_pyIter_list hl ?_
  generalize hI : s.heap.objs.size = I at *
  generalize hH1 : s.heap.push { cls := .type "list_iterator", data := .fields #[.ref a2, .int 0 0] } = H1
  have up : ∀ b ob, s.heap.get? b = some ob → H1.get? b = some ob := fun b ob e => hH1 ▸ Heap.get?_push_of_some _ e
  have gI : H1.get? I = some { cls := .type "list_iterator", data := .fields #[.ref a2, .int 0 0] } := by rw [← hH1, ← hI]; exact Heap.get?_push_size _ rfl
  have ltI : ∀ p ∈ (D, LCg.lst ys) :: led, p.1 ≠ I := fun p hp => Nat.ne_of_lt (hI ▸ Heap.lt_size (N p hp).1)
  have hDI : D ≠ I := ltI _ (.head _)
  have hCI : C ≠ I := Nat.ne_of_lt (hI ▸ hC.lt)
  have W := Walks.list (prog := prog) (w := w) (A := A) hh I a2 (Nat.ne_of_lt hlt) vs2.toArray
  have hst : H1.IsListIter I a2 0 ∧ H1.IsList a2 vs2.toArray := ⟨⟨_, gI, rfl, rfl⟩, hl.at fun ob e => up a2 ob e⟩
  have loop : codeAny (model prog w) A (.compLoop (two g o pg po pe pi iter scope pos) 1 (.ref I) (.ref D) (compEnvC scope [] C env)) R { s with heap := H1 } := by
    refine codeAny_loop rfl (fun q s' => ∃ h' tk i m'', s' = { s with heap := h', toks := tk } ∧ i ≤ vs2.length ∧ q = vs2.length + 1 - i ∧ (h'.IsListIter I a2 i ∧ h'.IsList a2 vs2.toArray) ∧ Fr h₀ L h' m ∧ h'.Ns C m'' ∧
        News h₀ L h' ((D, LCg.lst (ys ++ vs2.take i)) :: led)) ?_ (vs2.length + 1) ⟨H1, s.toks, 0, m', rfl, Nat.zero_le _, rfl, hst, F.keeps up, hC.keeps up, by simpa using N.grown up⟩
    rintro q s' ⟨h', tk, i, m'', rfl, hi, rfl, hst', F', hC', N'⟩
    show wpAny _ A ((compTurn (two g o pg po pe pi iter scope pos) 1 (.ref I) (.ref D) (compEnvC scope [] C env)).onRaise (fun x => do noteFrame x (compEnvC scope [] C env); theTreesLotGoes x)) _ _ _
    refine wpAny_noted ?_
    rw [turn1]
    refine wpAny_bind (wpAny_standAt (wpAny_bind ?_))
    by_cases hlt' : i < vs2.length
    · refine W.item i _ _ _ (by simpa using hlt') hst' fun v h₂ tk₂ hPv hst₂ hk₂ => ?_
      have hk₂' : ∀ b ob, b ≠ I → h'.get? b = some ob → h₂.get? b = some ob := fun b ob hb e => hk₂ b ob (by simpa using hb) e
      have hv : vs2[i]? = some v := by simpa using hPv
      refine wpAny_bind (wpAny_pure ?_)
      have hC₂ : h₂.Ns C m'' := hC'.at' fun ob e => hk₂' _ ob hCI e
      refine wpAny_bind (wpAny_assign_Name (wpAny_storeName_local (env := compEnvC scope [] C env) (lookup_relabel_local ho) hC₂ (fun h₃ hn₃ hs₃ => ?_) (by simp [compEnvC, relabel, hkind])))
      refine wpAny_bind (wpAny_bind (wpAny_Name (wpAny_loadName_local (env := compEnvC scope [] C env) (v := v) hkind (lookup_relabel_local ho) hn₃ (by simp) ?_) hdb))
      have F₂ : Fr h₀ L h₂ m := LCg.fr_but F' hk₂ (Nat.ne_of_lt hLlt) (fresh _ (Nat.le_refl _))
      have N₂ : News h₀ L h₂ ((D, LCg.lst (ys ++ vs2.take i)) :: led) := LCg.news_but N' hk₂ fun p hp => by
        rcases List.mem_cons.mp hp with rfl | hp
        · exact hDI
        · exact ltI p (.tail _ hp)
      have F₃ : Fr h₀ L h₃ m := F₂.change hs₃ hCL hC0
      have N₃ : News h₀ L h₃ ((D, LCg.lst (ys ++ vs2.take i)) :: led) := news_same N₂ hs₃ fun p hp => by
        rcases List.mem_cons.mp hp with rfl | hp
        · exact fun e => hCD e.symm
        · exact offC p hp
      have hst₃ : h₃.IsListIter I a2 (i + 1) ∧ h₃.IsList a2 vs2.toArray := W.frame _ _ _ hst₂ fun b hb ob e => by
        refine hs₃.extBut b ob ?_ e
        rcases List.mem_cons.mp hb with e' | hb
        · rw [e']; exact fun q => hCI q.symm
        · rw [List.mem_singleton.mp hb]; exact offC _ hm
      refine wpAny_bind (append_at (hsz := by show (ys ++ vs2.take i).toArray.size ≤ sizeLine; rw [List.size_toArray, List.length_append, List.length_take, sizeLine_eq]; omega) (N₃ _ (.head _)).1 fun h₅ hs₅ hD₅ => wpAny_pure (wpAny_pure ?_))
      refine ⟨rfl, vs2.length + 1 - (i + 1), by omega, h₅, _, i + 1, _, rfl, hlt', rfl, ?_, F₃.change hs₅ zD.2.1 zD.2.2, hn₃.sameBut hs₅ hCD, fun p hp => ?_⟩
      · refine W.frame _ _ _ hst₃ fun b hb ob e => ?_
        refine hs₅.extBut b ob ?_ e
        rcases List.mem_cons.mp hb with e' | hb
        · rw [e']; exact fun q => hDI q.symm
        · rw [List.mem_singleton.mp hb]; exact offD _ hm
      · rcases List.mem_cons.mp hp with rfl | hp
        · refine ⟨?_, zD.2⟩
          rw [hD₅, LCg.lst_snoc, List.append_assoc, show List.take i vs2 ++ [v] = List.take (i + 1) vs2 from by
            obtain ⟨hi', e⟩ := List.getElem?_eq_some_iff.mp hv
            rw [List.take_succ_eq_append_getElem hi', e]]
        · exact ⟨hs₅.extBut _ _ (offD p hp) (N₃ p (.tail _ hp)).1, (N₃ p (.tail _ hp)).2⟩
    · obtain rfl : i = vs2.length := Nat.le_antisymm hi (Nat.not_lt.mp hlt')
      refine W.done _ _ _ (by simpa using hst') fun h₂ tk₂ hk₂ => wpAny_pure ?_
      have hk₂' : ∀ b ob, b ≠ I → h'.get? b = some ob → h₂.get? b = some ob := fun b ob hb e => hk₂ b ob (by simpa using hb) e
      rw [List.take_length] at N'
      exact hret h₂ tk₂ m'' (LCg.fr_but F' hk₂ (Nat.ne_of_lt hLlt) (fresh _ (Nat.le_refl _))) (hC'.at' fun ob e => hk₂' _ ob hCI e) (LCg.news_but N' hk₂ fun p hp => by
        rcases List.mem_cons.mp hp with rfl | hp
        · exact hDI
        · exact ltI p (.tail _ hp))
  exact start1 g o pg po pe pi iter scope pos loop (W.self 0 _ _ _ hst loop)
def TwoSrc (h₀ : Heap) (L : Addr) (m : Str → Option Value) (y : Str) (Q : Flow → Shared → Prop) (xv : Value) (s₁ : Shared) : Prop :=
  ∃ ax k news, ∃ iss : List (Addr × List Value × Nat), xv = .ref ax ∧ Fr h₀ L s₁.heap m ∧ News h₀ L s₁.heap news ∧ (ax, lobj (iss.map fun p => Value.ref p.1) k) ∈ news ∧ (∀ p ∈ iss, (p.1, lobj p.2.1 p.2.2) ∈ news) ∧ iss.length ≤ 1000 ∧ (iss.flatMap (·.2.1)).length ≤ 10000 ∧
    (∀ D h tk, Fr h₀ L h (fun z => if z = y then some (.ref D) else m z) → News h₀ L h ((D, LCg.lst (iss.flatMap (·.2.1))) :: news) → (∀ p ∈ news, p.1 ≠ D) → Q .next { s₁ with heap := h, toks := tk })
theorem assign_two {E : Value → Shared → Prop} {y : Str} {py spos : Pos} {Q : Flow → Shared → Prop} (hh : A.handled = none) (hL : env.locals = L)
    (hsw : swapsWith (two g o pg po pe pi iter scope pos) (some (.Name y py)) spos.line env = pure true)
    (hclos : closureFor scope env = pure []) (hcell : ∀ z ∈ scope.names, z.2 ≠ .cell) (hkind : scope.kind = .function)
    (hnames : ∀ z ∈ scope.names, z.2 = .local → scope.names.lookup z.1 = some .local) (hg : scope.names.lookup g = some .local) (ho : scope.names.lookup o = some .local)
    (hdb : (o == ("__debug__" : Str)) = false) (hdg : (g == ("__debug__" : Str)) = false)
    (hy : env.kindOf y = some .local) (hp : (env.scope.kind == .class || (env.scope.kind == .module && env.locals != env.globals)) = false)
    (h : wpAny (model prog w) A (eval iter env) (TwoSrc h₀ L m y Q) E s)
    (hs : ∀ x, foldedSetIterable iter env x = pure x := by intro _; rfl) :
    wpAny (model prog w) A (exec (.Assign [.Name y py] (two g o pg po pe pi iter scope pos) spos) env) Q E s := by
  subst hL
  rw [exec_Assign_Name_used _ _ _ _ hsw]
  refine wpAny_bind (wpAny_standAt (wpAny_bind ?_))
  show wpAny _ A (do let _ ← comprehension (two g o pg po pe pi iter scope pos) scope env _ (newList []) false (eval iter env) (some (assign (.Name y py) env))) _ _ s
  refine wpAny_bind (wpAny_mono (wpAny_comprehension_free (use := some (assign (.Name y py) env)) (Q := fun _ s' => Q .next s') rfl hs hclos hkind hnames
    (wpAny_mono h (fun xv s₁ h₁ => ?_) fun _ _ e => e)) (fun _ s' hq => wpAny_pure (wpAny_pure hq)) fun _ _ e => e)
  obtain ⟨ax, k, news, iss, rfl, F, N, hm, hms, hsz, hsz2, fin⟩ := h₁
  have hl : s₁.heap.IsList ax (iss.map fun p => Value.ref p.1).toArray := isl_of N hm
  have hlt : ax < s₁.heap.objs.size := Heap.lt_size (N _ hm).1
  have hLlt : env.locals < s₁.heap.objs.size := F.ns.lt
  have nlt : ∀ p ∈ news, p.1 < s₁.heap.objs.size := fun p hp => Heap.lt_size (N p hp).1
  have fresh : ∀ a, s₁.heap.objs.size ≤ a → h₀.get? a = none := fun a ha => fresh_at F ha
  refine wpAny_pyIter_list hl ?_
  refine wpAny_newObj_type (wpAny_newFunctionEnv hcell (by intro y hy; simp at hy) (fun h₁ hns₁ hsb₁ => ?_) hkind)
  dsimp only at hns₁ hsb₁ ⊢
  generalize hI : s₁.heap.objs.size = I at *
  have hLlt' : @LT.lt Nat _ env.locals I := hLlt
  generalize hH1 : s₁.heap.push { cls := .type "list_iterator", data := .fields #[.ref ax, .int 0 0] } = H1 at hns₁ hsb₁ ⊢
  have z1 : H1.objs.size = I + 1 := by rw [← hH1, Heap.size_push, hI]
  generalize hH2 : H1.push { cls := .type "list", dict := none, data := .seq ([] : List Value).toArray } = H2 at hns₁ hsb₁ ⊢
  have z2 : H2.objs.size = I + 2 := by rw [← hH2, Heap.size_push, z1]
  rw [z2] at hns₁ hsb₁
  rw [z1, z2]
  have up1 : ∀ b ob, s₁.heap.get? b = some ob → H1.get? b = some ob := fun b ob e => hH1 ▸ Heap.get?_push_of_some _ e
  have up2 : ∀ b ob, H1.get? b = some ob → H2.get? b = some ob := fun b ob e => hH2 ▸ Heap.get?_push_of_some _ e
  have up3 : ∀ b ob, b ≠ I + 2 → H2.get? b = some ob → h₁.get? b = some ob := fun b ob hb e => hsb₁.extBut b ob hb (Heap.get?_push_of_some _ e)
  have old : ∀ b ob, s₁.heap.get? b = some ob → h₁.get? b = some ob := fun b ob e => up3 b ob (by have : @LT.lt Nat _ b I := hI ▸ Heap.lt_size e; exact Nat.ne_of_lt (by omega)) (up2 b ob (up1 b ob e))
  have gI : h₁.get? I = some { cls := .type "list_iterator", data := .fields #[.ref ax, .int 0 0] } := up3 _ _ (fun e => absurd (show @Eq Nat I (I + 2) from e) (by omega)) (up2 _ _ (by rw [← hH1, ← hI]; exact Heap.get?_push_size _ rfl))
  have gD : h₁.get? (I + 1) = some (LCg.lst []) := up3 _ _ (fun e => absurd (show @Eq Nat (I + 1) (I + 2) from e) (by omega)) (by rw [← hH2, ← z1]; exact Heap.get?_push_size _ rfl)
  have W := Walks.list (prog := prog) (w := w) (A := A) hh I ax (Nat.ne_of_lt hlt) (iss.map fun p => Value.ref p.1).toArray
  have hst : h₁.IsListIter I ax 0 ∧ h₁.IsList ax (iss.map fun p => Value.ref p.1).toArray := ⟨⟨_, gI, rfl, rfl⟩, hl.at fun ob e => old ax ob e⟩
  have Lne : ∀ q : Nat, I ≤ q → q ≠ env.locals := fun q hq => by omega
  have nI : ∀ p ∈ news, @Ne Nat p.1 I ∧ @Ne Nat p.1 (I + 1) ∧ @Ne Nat p.1 (I + 2) := fun p hp => by
    have : @LT.lt Nat _ p.1 I := nlt p hp
    exact ⟨by omega, by omega, by omega⟩
  have loop : codeAny (model prog w) A (.compLoop (two g o pg po pe pi iter scope pos) 0 (.ref I) (.ref (I + 1)) (compEnvC scope [] (I + 2) env))
        (compPost (model prog w) A E (some (assign (.Name y py) env)) (fun _ s' => Q .next s') (.ref (I + 1)) (I + 2)) { s₁ with heap := h₁, toks := s₁.toks + ([] : List (Str × Value)).length } := by
    refine codeAny_loop rfl (fun q s' => ∃ h' tk i m', s' = { s₁ with heap := h', toks := tk } ∧ i ≤ iss.length ∧ q = iss.length + 1 - i ∧ (h'.IsListIter I ax i ∧ h'.IsList ax (iss.map fun p => Value.ref p.1).toArray) ∧ Fr h₀ env.locals h' m ∧ h'.Ns (I + 2) m' ∧
        News h₀ env.locals h' ((I + 1, LCg.lst ((iss.take i).flatMap (·.2.1))) :: news)) ?_ (iss.length + 1) ⟨h₁, _, 0, _, rfl, Nat.zero_le _, rfl, hst, F.keeps old, hns₁, fun p hp => ?_⟩
    · rintro q s' ⟨h', tk, i, m', rfl, hi, rfl, hst', F', hC', N'⟩
      show wpAny _ A ((compTurn (two g o pg po pe pi iter scope pos) 0 (.ref I) (.ref (I + 1)) (compEnvC scope [] (I + 2) env)).onRaise (fun x => do noteFrame x (compEnvC scope [] (I + 2) env); theTreesLotGoes x)) _ _ _
      refine wpAny_noted ?_
      rw [turn0]
      refine wpAny_bind (wpAny_standAt (wpAny_bind ?_))
      by_cases hlt' : i < iss.length
      · refine W.item i _ _ _ (by simpa using hlt') hst' fun v h₂ tk₂ hPv hst₂ hk₂ => ?_
        have hk₂' : ∀ b ob, b ≠ I → h'.get? b = some ob → h₂.get? b = some ob := fun b ob hb e => hk₂ b ob (by simpa using hb) e
        have hv : v = Value.ref iss[i].1 := by
          have : (iss.map fun p => Value.ref p.1)[i]? = some v := by simpa using hPv
          rw [List.getElem?_map, List.getElem?_eq_getElem hlt'] at this
          exact (Option.some.inj this).symm
        subst hv
        refine wpAny_bind (wpAny_pure ?_)
        have hC₂ : h₂.Ns (I + 2) m' := hC'.at' fun ob e => hk₂' _ ob (fun e => absurd (show @Eq Nat (I + 2) I from e) (by omega)) e
        refine wpAny_bind (wpAny_assign_Name (wpAny_storeName_local (env := compEnvC scope [] (I + 2) env) (lookup_relabel_local hg) hC₂ (fun h₃ hn₃ hs₃ => ?_) (by simp [compEnvC, relabel, hkind])))
        refine wpAny_bind (wpAny_Name (wpAny_loadName_local (env := compEnvC scope [] (I + 2) env) (v := Value.ref iss[i].1) hkind (lookup_relabel_local hg) hn₃ (by simp) ?_) hdg)
        refine wpAny_bind (wpAny_standAt (wpAny_bind (wpAny_pure (wpAny_bind (wpAny_holding ?_)))))
        have hn₃' : h₃.Ns (I + 2) _ := hn₃
        have hs₃' : Heap.SameBut (I + 2) h₂ h₃ := hs₃
        have F₂ : Fr h₀ env.locals h₂ m := LCg.fr_but F' hk₂ (Nat.ne_of_lt hLlt') (fresh _ (Nat.le_refl _))
        have N₂ : News h₀ env.locals h₂ ((I + 1, LCg.lst ((iss.take i).flatMap (·.2.1))) :: news) := LCg.news_but N' hk₂ fun p hp => by
          rcases List.mem_cons.mp hp with rfl | hp
          · exact Nat.succ_ne_self I
          · exact (nI p hp).1
        have F₃ : Fr h₀ env.locals h₃ m := F₂.change hs₃' (Lne _ (by omega)) (fresh _ (by omega))
        have N₃ : News h₀ env.locals h₃ ((I + 1, LCg.lst ((iss.take i).flatMap (·.2.1))) :: news) := news_same N₂ hs₃ fun p hp => by
          rcases List.mem_cons.mp hp with rfl | hp
          · exact fun e => absurd (show @Eq Nat (I + 1) (I + 2) from e) (by omega)
          · exact (nI p hp).2.2
        have hst₃ : h₃.IsListIter I ax (i + 1) ∧ h₃.IsList ax (iss.map fun p => Value.ref p.1).toArray := W.frame _ _ _ hst₂ fun b hb ob e => by
          refine hs₃.extBut b ob ?_ e
          rcases List.mem_cons.mp hb with e' | hb
          · rw [e']; exact fun q => absurd (show @Eq Nat I (I + 2) from q) (by omega)
          · rw [List.mem_singleton.mp hb]; exact (nI _ hm).2.2
        obtain ⟨oI, heI, rI⟩ := hst₃.1
        have hmem : iss[i] ∈ iss := List.getElem_mem hlt'
        have hflat : ((iss.take i).flatMap (·.2.1)) ++ iss[i].2.1 = (iss.take (i + 1)).flatMap (·.2.1) := by
          rw [List.take_succ_eq_append_getElem hlt', List.flatMap_append]; simp
        have hle : ((iss.take i).flatMap (·.2.1)).length + iss[i].2.1.length ≤ 10000 := by
          have e1 : iss.flatMap (·.2.1) = (iss.take (i + 1)).flatMap (·.2.1) ++ (iss.drop (i + 1)).flatMap (·.2.1) := by rw [← List.flatMap_append, List.take_append_drop]
          have e2 := congrArg List.length e1
          rw [← hflat, List.length_append, List.length_append] at e2
          omega
        refine wpAny_mono (Q := fun it s' => codeAny (model prog w) A (.compStart (two g o pg po pe pi iter scope pos) 1 it (.ref (I + 1)) (compEnvC scope [] (I + 2) env)) (fun r s' => match r with | .ok f => _ | .error e => _) s') ?h (fun it s' hc => wpAny_bind (wpAny_runOwn hc)) (fun _ _ e => e)
        refine inner_turns (s := ⟨h₃, s₁.gens, s₁.drawn, _, s₁.os⟩) (led := (I, oI) :: news) (ys := (iss.take i).flatMap (·.2.1)) (D := I + 1) (C := I + 2) (a2 := iss[i].1) (k2 := iss[i].2.2) (vs2 := iss[i].2.1) (m' := _) hh hkind ho hdb F₃ hn₃' (fun p hp => ?_) (.tail _ (hms _ hmem)) (fun p hp => ?_) (fun p hp => ?_) (by omega) (Lne _ (by omega)) (fresh _ (by omega)) (by omega) ?_
        · rcases List.mem_cons.mp hp with rfl | hp
          · exact N₃ _ (.head _)
          · rcases List.mem_cons.mp hp with rfl | hp
            · exact ⟨heI, Lne _ (Nat.le_refl _), fresh _ (Nat.le_refl _)⟩
            · exact N₃ p (.tail _ hp)
        · rcases List.mem_cons.mp hp with rfl | hp
          · exact fun e => absurd (show @Eq Nat I (I + 1) from e) (by omega)
          · exact (nI p hp).2.1
        · rcases List.mem_cons.mp hp with rfl | hp
          · exact fun e => absurd (show @Eq Nat I (I + 2) from e) (by omega)
          · exact (nI p hp).2.2
        · intro h₅ tk₅ m₅ F₅ C₅ N₅
          rw [hflat] at N₅
          refine wpAny_pure ⟨rfl, iss.length + 1 - (i + 1), by omega, h₅, tk₅, i + 1, m₅, rfl, hlt', rfl, ⟨⟨oI, (N₅ (I, oI) (.tail _ (.head _))).1, rI⟩, ⟨_, (N₅ _ (.tail _ (.tail _ hm))).1, rfl, k, rfl⟩⟩, F₅, C₅, fun p hp => N₅ p ?_⟩
          rcases List.mem_cons.mp hp with rfl | hp
          · exact .head _
          · exact .tail _ (.tail _ hp)
      · obtain rfl : i = iss.length := Nat.le_antisymm hi (Nat.not_lt.mp hlt')
        refine W.done _ _ _ (by simpa using hst') fun h₂ tk₂ hk₂ => wpAny_pure ?_
        have hk₂' : ∀ b ob, b ≠ I → h'.get? b = some ob → h₂.get? b = some ob := fun b ob hb e => hk₂ b ob (by simpa using hb) e
        rw [List.take_length] at N'
        have F₂ : Fr h₀ env.locals h₂ m := LCg.fr_but F' hk₂ (Nat.ne_of_lt hLlt') (fresh _ (Nat.le_refl _))
        have N₂ := LCg.news_but N' hk₂ fun p hp => by
          rcases List.mem_cons.mp hp with rfl | hp
          · exact Nat.succ_ne_self I
          · exact (nI p hp).1
        show wpAny _ A (assign (.Name y py) env (.ref (I + 1))) _ _ _
        refine wpAny_assign_Name (wpAny_storeName_local hy F₂.ns (fun h₃ hn₃ hs₃ => ?_) hp)
        refine ⟨m', (hC'.at' fun ob e => hk₂' _ ob (fun e => absurd (show @Eq Nat (I + 2) I from e) (by omega)) e).sameBut hs₃ (Lne _ (by omega)), fun h₄ hs₄ => ?_⟩
        have F₃ : Fr h₀ env.locals h₃ (fun z => if z = y then some (.ref (I + 1)) else m z) := ⟨hn₃, fun b ob e => hs₃.extBut b ob (fun q => by subst q; exact absurd (Heap.lt_size e) (Nat.not_lt.mpr F₂.above)) (F₂.keep b ob e), F₂.above⟩
        refine fin (I + 1) h₄ _ (F₃.change hs₄ (Lne _ (by omega)) (fresh _ (by omega))) (fun p hp => ?_) fun p hp => (nI p hp).2.1
        have z := N₂ p hp
        refine ⟨hs₄.extBut _ _ ?_ (hs₃.extBut _ _ z.2.1 z.1), z.2⟩
        rcases List.mem_cons.mp hp with rfl | hp
        · exact fun e => absurd (show @Eq Nat (I + 1) (I + 2) from e) (by omega)
        · exact (nI p hp).2.2
    · rcases List.mem_cons.mp hp with rfl | hp
      · exact ⟨gD, Lne _ (by omega), fresh _ (by omega)⟩
      · exact ⟨old _ _ (N p hp).1, (N p hp).2⟩
  exact codeAny_compStart_list loop (W.self 0 _ _ _ hst loop)
end
end Mine

open PySem PySem.W PyProof.Rows PySem.Calls
set_option Elab.async false
set_option maxRecDepth 100000
set_option maxHeartbeats 2000000
namespace Mine
section
variable {prog : Program} {w : World} {A : Around} {E : Value → Shared → Prop} {s : Shared} {h₀ : Heap} {L l : Addr} {m : Str → Option Value} {news : List (Addr × Obj)} {vs : List Value} {n : Nat}
theorem len_own {Q : Value → Shared → Prop} (N : News h₀ L s.heap news) (hm : (l, lobj vs n) ∈ news) (hsz : vs.length ≤ 100000) (h : ∀ t k, Q (.int (vs.length : Int) t) { s with toks := k }) :
    wpAny (model prog w) A (call (.builtin "len") [.ref l]) Q E s := by
  refine len_list (isl_of N hm) (by simp; omega) ?_
  simpa using h _ _
theorem slice_own {value slice : Expr} {i k : Int} {ti tk : Tok} {a b : Nat} {Q : Value → Shared → Prop} (F : Fr h₀ L s.heap m) (N : News h₀ L s.heap news) (hm : (l, lobj vs n) ∈ news) (ha : i = (a : Int)) (hb : k = (b : Int)) (hab : a ≤ b) (hbl : b ≤ vs.length) (hz : vs.length ≤ 100000)
    (h : ∀ D h', Fr h₀ L h' m → News h₀ L h' ((D, lobj ((vs.drop a).take (b - a)) 0) :: news) → (∀ p ∈ news, p.1 < D) → Q (.ref D) { s with heap := h' })
    (hs : subscripted slice false (.ref l) (.ref s.heap.objs.size) = operate [.ref s.heap.objs.size, .ref l] (getItem (.ref l) (.ref s.heap.objs.size))) (ht : ∀ r, letTemporaryGo value (.ref l) r = pure ()) :
    wpAny (model prog w) A (subscriptTail value slice (.ref l) (.ref s.heap.objs.size)) Q E { s with heap := s.heap.push { cls := .type "slice", data := .fields #[.int i ti, .int k tk, .none] } } := by
  subst ha hb
  have e : sliceBounds (some (a : Int)) (some (b : Int)) none vs.toArray.size = ((a : Int), (b : Int), 1) := by
    unfold sliceBounds
    simp only [Option.getD_none, show (1 : Int) > 0 by decide, if_true, List.size_toArray]
    rw [if_neg (by omega), if_neg (by omega)]
    have e1 : max 0 (min (a : Int) (vs.length : Int)) = a := by omega
    have e2 : max 0 (min (b : Int) (vs.length : Int)) = b := by omega
    rw [e1, e2]
  refine kmk_slice F N (isl_of N hm) (IsPart.int _ _) (IsPart.int _ _) (fun D h' F' N' l1 => h D h' F' ?_ l1) hs ht (by rw [sizeLine_eq]; simp; omega)
  rw [kmk_pick_nat _ e] at N'
  exact N'
theorem item_own {value slice : Expr} {k : Int} {u : Tok} {x : Value} {Q : Value → Shared → Prop} (N : News h₀ L s.heap news) (hm : (l, lobj vs n) ∈ news) (h0 : 0 ≤ k) (hfit : k < 100000) (hx : vs[k.toNat]? = some x) (h : Q x s)
    (hs : subscripted slice false (.ref l) (.int k u) = operate [.ref l, .int k u] (getItem (.ref l) (.int k u)) := by with_unfolding_all rfl) (hg : ∀ r, letTemporaryGo value (.ref l) r = pure () := by intro _; with_unfolding_all rfl) :
    wpAny (model prog w) A (subscriptTail value slice (.ref l) (.int k u)) Q E s :=
  item_list (isl_of N hm) h0 (by omega) (by simpa using hx) h hs hg
theorem ints_drop : ∀ {vs : List Value} {ns : List Int}, IntsAre vs ns → ∀ a : Nat, IntsAre (vs.drop a) (ns.drop a)
  | _, _, h, 0 => by simpa using h
  | _, _, .nil, _ + 1 => by simpa using IntsAre.nil
  | _, _, .cons n t h, a + 1 => by simpa using ints_drop h a
theorem ints_take : ∀ {vs : List Value} {ns : List Int}, IntsAre vs ns → ∀ a : Nat, IntsAre (vs.take a) (ns.take a)
  | _, _, h, 0 => by simpa using IntsAre.nil
  | _, _, .nil, _ + 1 => by simpa using IntsAre.nil
  | _, _, .cons n t h, a + 1 => by simpa using IntsAre.cons n t (ints_take h a)
theorem ints_slice {ns : List Int} (hi : IntsAre vs ns) (a c : Nat) : IntsAre ((vs.drop a).take c) ((ns.drop a).take c) := by
  exact ints_take (ints_drop hi a) c
end
end Mine

open PySem PyProof.Rows
set_option Elab.async false
set_option maxRecDepth 100000
namespace Mine
theorem idx_mid (a N : Nat) (h : a + 2 ≤ N) : Builtin.Str.strSliceIndices (some (a : Int)) (some (-2)) 1 N = (List.range (N - 2 - a)).map (a + ·) := by
  unfold Builtin.Str.strSliceIndices sliceRange
  simp only [show (1 : Int) > 0 by decide, if_true, show ((-2 : Int) < 0) from by decide, show ¬ ((a : Int) < 0) from by omega, if_false]
  have e1 : max 0 (min (a : Int) (N : Int)) = a := by omega
  have e2 : max 0 (min (-2 + (N : Int)) (N : Int)) = ((N - 2 : Nat) : Int) := by omega
  rw [e1, e2]
  by_cases hlt : (a : Int) < ((N - 2 : Nat) : Int)
  · rw [if_pos hlt]
    have e3 : ((((N - 2 : Nat) : Int) - a + 1 - 1) / 1).toNat = N - 2 - a := by rw [Int.ediv_one]; omega
    rw [e3]
    exact List.map_congr_left fun k _ => by omega
  · rw [if_neg hlt, show N - 2 - a = 0 from by omega]; rfl
theorem pick_mid {α : Type} : ∀ (mid pre post : List α), ((List.range mid.length).map (pre.length + ·)).filterMap ((pre ++ mid ++ post)[·]?) = mid
  | [], _, _ => rfl
  | x :: r, pre, post => by
    rw [List.length_cons, List.range_succ_eq_map, List.map_cons, List.map_map]
    have e0 : (pre ++ x :: r ++ post)[pre.length + 0]? = some x := by simp
    rw [List.filterMap_cons_some e0]
    have := pick_mid r (pre ++ [x]) post
    have ea : pre ++ [x] ++ r ++ post = pre ++ x :: r ++ post := by simp
    have eb : (fun i => (pre ++ [x]).length + i) = ((fun i => pre.length + i) ∘ Nat.succ) := by funext i; simp; omega
    rw [ea, eb] at this
    rw [this]
theorem slice_mid (pre mid : List Nat) (u v : Nat) (hp : pre ≠ []) : Txt.slice ⟨(pre ++ mid ++ [u, v]).toArray⟩ (some (pre.length : Int)) (some (-2)) = ⟨mid.toArray⟩ := by
  unfold Txt.slice
  have hl : (⟨(pre ++ mid ++ [u, v]).toArray⟩ : Str).length = pre.length + mid.length + 2 := by simp [Str.length]; omega
  have hpl : 0 < pre.length := by cases pre <;> simp_all
  rw [hl, idx_mid _ _ (by omega), show pre.length + mid.length + 2 - 2 - pre.length = mid.length from by omega]
  rw [if_neg (by simp; omega)]
  have := pick_mid mid pre [u, v]
  have e : ((List.range mid.length).map (pre.length + ·)).filterMap (fun x => (pre ++ mid ++ [u, v]).toArray[x]?) = mid := by
    simpa using this
  rw [show (⟨(pre ++ mid ++ [u, v]).toArray⟩ : Str).cps = (pre ++ mid ++ [u, v]).toArray from rfl, e]
end Mine

open PySem PySem.W PyProof.Rows
set_option Elab.async false
set_option maxRecDepth 100000
set_option maxHeartbeats 8000000
namespace Mine
/-- the twins of the program are laid -/
theorem laid : (fun (_ : Program) => true) PySem.Challenge.pw_dm0096_02 = true := by k_qdec
noncomputable abbrev qw : Program := PySem.W.Fast.tw6130304908338502882
noncomputable abbrev tSeg := @PySem.W.Fast.tw10295753902157049106
noncomputable abbrev tRun := @PySem.W.Fast.tw10110043849684766642
noncomputable abbrev tTb := PySem.W.Fast.tw14364793385576792824
def hexd (n : Nat) : Nat := bif Nat.blt n 10 then 48 + n else 55 + n
def tx (l : List Nat) : Str := ⟨⟨l⟩⟩
/-- the table's item: =XX -/
def hexv (i : Nat) : Value := .str (tx [61, hexd (i / 16), hexd (i % 16)]) (193 + 4 * i)
def els (f : Nat → Value) : Nat → Nat → List Value
  | _, 0 => []
  | i, n + 1 => f i :: els f (i + 1) n
def put (f : Nat → Value) (a : Nat) (v : Value) (i : Nat) : Value := bif Nat.beq i a then v else f i
def atN (i : Nat) : List Nat → Nat → Option Nat
  | [], _ => none
  | x :: r, n => bif Nat.beq x i then some n else atN i r (n + 1)
def turnEl (l : List Nat) (th j i : Nat) : Value := match atN i l 0 with
  | some t => bif Nat.blt t j then .str (tx [i]) (th + 3 * t) else hexv i
  | none => hexv i
def hB : List Nat := [45, 33, 42, 43, 47, 97, 98, 99, 100, 101, 102, 103, 104, 105, 106, 107, 108, 109, 110, 111, 112, 113, 114, 115, 116, 117, 118, 119, 120, 121, 122, 65, 66, 67, 68, 69, 70, 71, 72, 73, 74, 75, 76, 77, 78, 79, 80, 81, 82, 83, 84, 85, 86, 87, 88, 89, 90, 48, 49, 50, 51, 52, 53, 54, 55, 56, 57]
def bB : List Nat := [32, 33, 34, 35, 36, 37, 38, 39, 40, 41, 42, 43, 44, 45, 46, 47, 48, 49, 50, 51, 52, 53, 54, 55, 56, 57, 58, 59, 60, 62, 63, 64, 65, 66, 67, 68, 69, 70, 71, 72, 73, 74, 75, 76, 77, 78, 79, 80, 81, 82, 83, 84, 85, 86, 87, 88, 89, 90, 91, 92, 93, 94, 95, 96, 97, 98, 99, 100, 101, 102, 103, 104, 105, 106, 107, 108, 109, 110, 111, 112, 113, 114, 115, 116, 117, 118, 119, 120, 121, 122, 123, 124, 125, 126, 9]
def hel (j i : Nat) : Value := turnEl hB 1236 j i
def bel (j i : Nat) : Value := turnEl bB 1441 j i
def oL (l : List Value) (ep : Nat) : Obj := ⟨.type "list", none, .seq ⟨l⟩ ep, ⟨[]⟩⟩
def oI (k : Nat) : Obj := ⟨.type "range_iterator", none, .fields ⟨[.int (Int.ofNat k) 0, .int (Int.ofNat (256 - k)) 0, .int 1 0]⟩, ⟨[]⟩⟩
def ent (P : Params) (x : Str) (t : Nat) (v : Value) : DictEntry := ⟨PyData.keyHash P x, .str x t, v⟩
noncomputable def oD (P : Params) : Nat → Obj
  | 0 => ⟨.type "dict", none, .dict ⟨[]⟩ 0, ⟨[]⟩⟩
  | k + 1 => ⟨.type "dict", none, .dict ⟨[ent P (tx [99]) 191 (.int (Int.ofNat k) (190 + 4 * k))]⟩ 1, ⟨[]⟩⟩
def cvH (j : Nat) : Value := .int (Int.ofNat (hB.getD (j - 1) 0)) (1234 + 3 * (j - 1))
def cvB (j : Nat) : Value := .int (Int.ofNat (bB.getD (j - 1) 0)) (1439 + 3 * (j - 1))
noncomputable def stL (i n : Nat) : List Stmt := ((behindTheImports qw).drop i).take n
def isNamed (n : Str) : Stmt → Bool
  | .FunctionDef m .. => m == n
  | _ => false
def fdOf (st : Option Stmt) (n : Str) (g : Addr) (dv kv doc pm : Value) (an : Option Addr) (cd ct : Value) (bl : Addr) : FuncData := match st with
  | some (.FunctionDef _ a b _ _ _ sc _ _ _) => ⟨n, n, a, .stmts b, sc, g, [], dv, kv, doc, pm, an, cd, ct, bl⟩
  | _ => default
noncomputable def o3H (P : Params) (j : Nat) : Obj := ⟨(.type "dict"), none, (.dict ⟨[ent P (tx [95, 95, 110, 97, 109, 101, 95, 95]) 165 (.str (tx [99, 112, 121, 51, 49, 51, 46, 101, 109, 97, 105, 108, 46, 113, 117, 111, 112, 114, 105, 109, 105, 109, 101]) 1225), ent P (tx [95, 95, 100, 111, 99, 95, 95]) 166 .none, ent P (tx [95, 95, 112, 97, 99, 107, 97, 103, 101, 95, 95]) 167 .none, ent P (tx [95, 95, 108, 111, 97, 100, 101, 114, 95, 95]) 168 (.builtin "__main__.__loader__#opaque"), ent P (tx [95, 95, 115, 112, 101, 99, 95, 95]) 169 .none, ent P (tx [95, 95, 97, 110, 110, 111, 116, 97, 116, 105, 111, 110, 115, 95, 95]) 170 (.ref 6), ent P (tx [95, 95, 98, 117, 105, 108, 116, 105, 110, 115, 95, 95]) 171 (.ref 4), ent P (tx [95, 95, 102, 105, 108, 101, 95, 95]) 173 (.str (tx [47, 99, 108, 97, 105, 109, 47, 99, 117, 116, 46, 112, 121]) 172), ent P (tx [95, 95, 99, 97, 99, 104, 101, 100, 95, 95]) 174 .none, ent P (tx [95, 81, 85, 79, 80, 82, 73, 95, 77, 65, 80]) 1214 (.ref 17), ent P (tx [95, 81, 85, 79, 80, 82, 73, 95, 72, 69, 65, 68, 69, 82, 95, 77, 65, 80]) 1215 (.ref 22), ent P (tx [95, 81, 85, 79, 80, 82, 73, 95, 66, 79, 68, 89, 95, 77, 65, 80]) 1216 (.ref 24), ent P (tx [97, 115, 99, 105, 105, 95, 108, 111, 119, 101, 114, 99, 97, 115, 101]) 1218 (.str (tx [97, 98, 99, 100, 101, 102, 103, 104, 105, 106, 107, 108, 109, 110, 111, 112, 113, 114, 115, 116, 117, 118, 119, 120, 121, 122]) 1217), ent P (tx [97, 115, 99, 105, 105, 95, 117, 112, 112, 101, 114, 99, 97, 115, 101]) 1220 (.str (tx [65, 66, 67, 68, 69, 70, 71, 72, 73, 74, 75, 76, 77, 78, 79, 80, 81, 82, 83, 84, 85, 86, 87, 88, 89, 90]) 1219), ent P (tx [97, 115, 99, 105, 105, 95, 108, 101, 116, 116, 101, 114, 115]) 1222 (.str (tx [97, 98, 99, 100, 101, 102, 103, 104, 105, 106, 107, 108, 109, 110, 111, 112, 113, 114, 115, 116, 117, 118, 119, 120, 121, 122, 65, 66, 67, 68, 69, 70, 71, 72, 73, 74, 75, 76, 77, 78, 79, 80, 81, 82, 83, 84, 85, 86, 87, 88, 89, 90]) 1221), ent P (tx [100, 105, 103, 105, 116, 115]) 1224 (.str (tx [48, 49, 50, 51, 52, 53, 54, 55, 56, 57]) 1223), ent P (tx [99]) 1235 (cvH j)]⟩ 17), ⟨[]⟩⟩
noncomputable def o3B (P : Params) (j : Nat) : Obj := ⟨(.type "dict"), none, (.dict ⟨[ent P (tx [95, 95, 110, 97, 109, 101, 95, 95]) 165 (.str (tx [99, 112, 121, 51, 49, 51, 46, 101, 109, 97, 105, 108, 46, 113, 117, 111, 112, 114, 105, 109, 105, 109, 101]) 1225), ent P (tx [95, 95, 100, 111, 99, 95, 95]) 166 .none, ent P (tx [95, 95, 112, 97, 99, 107, 97, 103, 101, 95, 95]) 167 .none, ent P (tx [95, 95, 108, 111, 97, 100, 101, 114, 95, 95]) 168 (.builtin "__main__.__loader__#opaque"), ent P (tx [95, 95, 115, 112, 101, 99, 95, 95]) 169 .none, ent P (tx [95, 95, 97, 110, 110, 111, 116, 97, 116, 105, 111, 110, 115, 95, 95]) 170 (.ref 6), ent P (tx [95, 95, 98, 117, 105, 108, 116, 105, 110, 115, 95, 95]) 171 (.ref 4), ent P (tx [95, 95, 102, 105, 108, 101, 95, 95]) 173 (.str (tx [47, 99, 108, 97, 105, 109, 47, 99, 117, 116, 46, 112, 121]) 172), ent P (tx [95, 95, 99, 97, 99, 104, 101, 100, 95, 95]) 174 .none, ent P (tx [95, 81, 85, 79, 80, 82, 73, 95, 77, 65, 80]) 1214 (.ref 17), ent P (tx [95, 81, 85, 79, 80, 82, 73, 95, 72, 69, 65, 68, 69, 82, 95, 77, 65, 80]) 1215 (.ref 22), ent P (tx [95, 81, 85, 79, 80, 82, 73, 95, 66, 79, 68, 89, 95, 77, 65, 80]) 1216 (.ref 24), ent P (tx [97, 115, 99, 105, 105, 95, 108, 111, 119, 101, 114, 99, 97, 115, 101]) 1218 (.str (tx [97, 98, 99, 100, 101, 102, 103, 104, 105, 106, 107, 108, 109, 110, 111, 112, 113, 114, 115, 116, 117, 118, 119, 120, 121, 122]) 1217), ent P (tx [97, 115, 99, 105, 105, 95, 117, 112, 112, 101, 114, 99, 97, 115, 101]) 1220 (.str (tx [65, 66, 67, 68, 69, 70, 71, 72, 73, 74, 75, 76, 77, 78, 79, 80, 81, 82, 83, 84, 85, 86, 87, 88, 89, 90]) 1219), ent P (tx [97, 115, 99, 105, 105, 95, 108, 101, 116, 116, 101, 114, 115]) 1222 (.str (tx [97, 98, 99, 100, 101, 102, 103, 104, 105, 106, 107, 108, 109, 110, 111, 112, 113, 114, 115, 116, 117, 118, 119, 120, 121, 122, 65, 66, 67, 68, 69, 70, 71, 72, 73, 74, 75, 76, 77, 78, 79, 80, 81, 82, 83, 84, 85, 86, 87, 88, 89, 90]) 1221), ent P (tx [100, 105, 103, 105, 116, 115]) 1224 (.str (tx [48, 49, 50, 51, 52, 53, 54, 55, 56, 57]) 1223), ent P (tx [99]) 1235 (cvB j)]⟩ 17), ⟨[]⟩⟩
def o25H (j : Nat) : Obj := ⟨(.type "bytes_iterator"), none, (.fields ⟨[(.bytes ⟨[45, 33, 42, 43, 47, 97, 98, 99, 100, 101, 102, 103, 104, 105, 106, 107, 108, 109, 110, 111, 112, 113, 114, 115, 116, 117, 118, 119, 120, 121, 122, 65, 66, 67, 68, 69, 70, 71, 72, 73, 74, 75, 76, 77, 78, 79, 80, 81, 82, 83, 84, 85, 86, 87, 88, 89, 90, 48, 49, 50, 51, 52, 53, 54, 55, 56, 57]⟩ 1233), (.int (Int.ofNat j) 0)]⟩), ⟨[]⟩⟩
def o28B (j : Nat) : Obj := ⟨(.type "bytes_iterator"), none, (.fields ⟨[(.bytes ⟨[32, 33, 34, 35, 36, 37, 38, 39, 40, 41, 42, 43, 44, 45, 46, 47, 48, 49, 50, 51, 52, 53, 54, 55, 56, 57, 58, 59, 60, 62, 63, 64, 65, 66, 67, 68, 69, 70, 71, 72, 73, 74, 75, 76, 77, 78, 79, 80, 81, 82, 83, 84, 85, 86, 87, 88, 89, 90, 91, 92, 93, 94, 95, 96, 97, 98, 99, 100, 101, 102, 103, 104, 105, 106, 107, 108, 109, 110, 111, 112, 113, 114, 115, 116, 117, 118, 119, 120, 121, 122, 123, 124, 125, 126, 9]⟩ 1438), (.int (Int.ofNat j) 0)]⟩), ⟨[]⟩⟩
noncomputable def o11_block (P : Params) : Obj := ⟨(.type "tuple"), none, (.seq ⟨[]⟩ 0), ⟨[]⟩⟩
noncomputable def o12_block (P : Params) : Obj := ⟨.none, none, (.fields ⟨[]⟩), ⟨[]⟩⟩
noncomputable def o13_block (P : Params) : Obj := ⟨(.type "code"), none, (.fields ⟨[(.str (tx [60, 109, 111, 100, 117, 108, 101, 62]) 182), (.str (tx [60, 109, 111, 100, 117, 108, 101, 62]) 183), (.str (tx [47, 99, 108, 97, 105, 109, 47, 99, 117, 116, 46, 112, 121]) 184), (.int (1) 0), (.int (0) 0), (.int (0) 0), (.int (0) 0), (.int (0) 0), (.ref 11), (.bool false), (.int (181) 0), (.ref 12), .none, .none, .none, .none, (.int (185) 0), (.int (1) 0), (.str (tx [47, 99, 108, 97, 105, 109, 47, 99, 117, 116, 46, 112, 121]) 186)]⟩), ⟨[]⟩⟩
noncomputable def o14_block (P : Params) : Obj := ⟨(.type "frame"), none, .plain, ⟨[(some (.ref 13)), (some (.ref 3)), (some (.ref 3)), none, (some (.str (tx [95, 95, 109, 97, 105, 110, 95, 95]) 164)), none, (some (.ref 0))]⟩⟩
noncomputable def o3_p0 (P : Params) : Obj := ⟨(.type "dict"), none, (.dict ⟨[ent P (tx [95, 95, 110, 97, 109, 101, 95, 95]) 165 (.str (tx [95, 95, 109, 97, 105, 110, 95, 95]) 164), ent P (tx [95, 95, 100, 111, 99, 95, 95]) 166 .none, ent P (tx [95, 95, 112, 97, 99, 107, 97, 103, 101, 95, 95]) 167 .none, ent P (tx [95, 95, 108, 111, 97, 100, 101, 114, 95, 95]) 168 (.builtin "__main__.__loader__#opaque"), ent P (tx [95, 95, 115, 112, 101, 99, 95, 95]) 169 .none, ent P (tx [95, 95, 97, 110, 110, 111, 116, 97, 116, 105, 111, 110, 115, 95, 95]) 170 (.ref 6), ent P (tx [95, 95, 98, 117, 105, 108, 116, 105, 110, 115, 95, 95]) 171 (.ref 4), ent P (tx [95, 95, 102, 105, 108, 101, 95, 95]) 173 (.str (tx [47, 99, 108, 97, 105, 109, 47, 99, 117, 116, 46, 112, 121]) 172), ent P (tx [95, 95, 99, 97, 99, 104, 101, 100, 95, 95]) 174 .none, ent P (tx [95, 81, 85, 79, 80, 82, 73, 95, 77, 65, 80]) 1214 (.ref 17)]⟩ 10), ⟨[]⟩⟩
noncomputable def o15_p0 (P : Params) : Obj := ⟨(.type "range"), none, (.fields ⟨[(.int (0) 188), (.int (256) 187), (.int (1) 189)]⟩), ⟨[]⟩⟩
noncomputable def o16_p0 (P : Params) : Obj := ⟨(.type "range_iterator"), none, (.fields ⟨[(.int (256) 0), (.int (0) 0), (.int (1) 0)]⟩), ⟨[]⟩⟩
noncomputable def o17_p0 (P : Params) : Obj := (oL (els hexv 0 256) 256)
noncomputable def o18_p0 (P : Params) : Obj := ⟨(.type "dict"), none, (.dict ⟨[]⟩ 2), ⟨[]⟩⟩
noncomputable def o20_p0 (P : Params) : Obj := ⟨(.type "StopIteration"), none, (.fields ⟨[(.ref 19), .none, .none, .none, (.bool false), .none]⟩), ⟨[]⟩⟩
noncomputable def o3_p7 (P : Params) : Obj := ⟨(.type "dict"), none, (.dict ⟨[ent P (tx [95, 95, 110, 97, 109, 101, 95, 95]) 165 (.str (tx [99, 112, 121, 51, 49, 51, 46, 101, 109, 97, 105, 108, 46, 113, 117, 111, 112, 114, 105, 109, 105, 109, 101]) 1225), ent P (tx [95, 95, 100, 111, 99, 95, 95]) 166 .none, ent P (tx [95, 95, 112, 97, 99, 107, 97, 103, 101, 95, 95]) 167 .none, ent P (tx [95, 95, 108, 111, 97, 100, 101, 114, 95, 95]) 168 (.builtin "__main__.__loader__#opaque"), ent P (tx [95, 95, 115, 112, 101, 99, 95, 95]) 169 .none, ent P (tx [95, 95, 97, 110, 110, 111, 116, 97, 116, 105, 111, 110, 115, 95, 95]) 170 (.ref 6), ent P (tx [95, 95, 98, 117, 105, 108, 116, 105, 110, 115, 95, 95]) 171 (.ref 4), ent P (tx [95, 95, 102, 105, 108, 101, 95, 95]) 173 (.str (tx [47, 99, 108, 97, 105, 109, 47, 99, 117, 116, 46, 112, 121]) 172), ent P (tx [95, 95, 99, 97, 99, 104, 101, 100, 95, 95]) 174 .none, ent P (tx [95, 81, 85, 79, 80, 82, 73, 95, 77, 65, 80]) 1214 (.ref 17), ent P (tx [95, 81, 85, 79, 80, 82, 73, 95, 72, 69, 65, 68, 69, 82, 95, 77, 65, 80]) 1215 (.ref 22), ent P (tx [95, 81, 85, 79, 80, 82, 73, 95, 66, 79, 68, 89, 95, 77, 65, 80]) 1216 (.ref 24), ent P (tx [97, 115, 99, 105, 105, 95, 108, 111, 119, 101, 114, 99, 97, 115, 101]) 1218 (.str (tx [97, 98, 99, 100, 101, 102, 103, 104, 105, 106, 107, 108, 109, 110, 111, 112, 113, 114, 115, 116, 117, 118, 119, 120, 121, 122]) 1217), ent P (tx [97, 115, 99, 105, 105, 95, 117, 112, 112, 101, 114, 99, 97, 115, 101]) 1220 (.str (tx [65, 66, 67, 68, 69, 70, 71, 72, 73, 74, 75, 76, 77, 78, 79, 80, 81, 82, 83, 84, 85, 86, 87, 88, 89, 90]) 1219), ent P (tx [97, 115, 99, 105, 105, 95, 108, 101, 116, 116, 101, 114, 115]) 1222 (.str (tx [97, 98, 99, 100, 101, 102, 103, 104, 105, 106, 107, 108, 109, 110, 111, 112, 113, 114, 115, 116, 117, 118, 119, 120, 121, 122, 65, 66, 67, 68, 69, 70, 71, 72, 73, 74, 75, 76, 77, 78, 79, 80, 81, 82, 83, 84, 85, 86, 87, 88, 89, 90]) 1221), ent P (tx [100, 105, 103, 105, 116, 115]) 1224 (.str (tx [48, 49, 50, 51, 52, 53, 54, 55, 56, 57]) 1223)]⟩ 16), ⟨[]⟩⟩
noncomputable def o21_p7 (P : Params) : Obj := ⟨(.type "slice"), none, (.fields ⟨[.none, .none, .none]⟩), ⟨[]⟩⟩
noncomputable def o22_p7 (P : Params) : Obj := (oL (els hexv 0 256) 0)
noncomputable def o3_p8 (P : Params) : Obj := ⟨(.type "dict"), none, (.dict ⟨[ent P (tx [95, 95, 110, 97, 109, 101, 95, 95]) 165 (.str (tx [99, 112, 121, 51, 49, 51, 46, 101, 109, 97, 105, 108, 46, 113, 117, 111, 112, 114, 105, 109, 105, 109, 101]) 1225), ent P (tx [95, 95, 100, 111, 99, 95, 95]) 166 .none, ent P (tx [95, 95, 112, 97, 99, 107, 97, 103, 101, 95, 95]) 167 .none, ent P (tx [95, 95, 108, 111, 97, 100, 101, 114, 95, 95]) 168 (.builtin "__main__.__loader__#opaque"), ent P (tx [95, 95, 115, 112, 101, 99, 95, 95]) 169 .none, ent P (tx [95, 95, 97, 110, 110, 111, 116, 97, 116, 105, 111, 110, 115, 95, 95]) 170 (.ref 6), ent P (tx [95, 95, 98, 117, 105, 108, 116, 105, 110, 115, 95, 95]) 171 (.ref 4), ent P (tx [95, 95, 102, 105, 108, 101, 95, 95]) 173 (.str (tx [47, 99, 108, 97, 105, 109, 47, 99, 117, 116, 46, 112, 121]) 172), ent P (tx [95, 95, 99, 97, 99, 104, 101, 100, 95, 95]) 174 .none, ent P (tx [95, 81, 85, 79, 80, 82, 73, 95, 77, 65, 80]) 1214 (.ref 17), ent P (tx [95, 81, 85, 79, 80, 82, 73, 95, 72, 69, 65, 68, 69, 82, 95, 77, 65, 80]) 1215 (.ref 22), ent P (tx [95, 81, 85, 79, 80, 82, 73, 95, 66, 79, 68, 89, 95, 77, 65, 80]) 1216 (.ref 24), ent P (tx [97, 115, 99, 105, 105, 95, 108, 111, 119, 101, 114, 99, 97, 115, 101]) 1218 (.str (tx [97, 98, 99, 100, 101, 102, 103, 104, 105, 106, 107, 108, 109, 110, 111, 112, 113, 114, 115, 116, 117, 118, 119, 120, 121, 122]) 1217), ent P (tx [97, 115, 99, 105, 105, 95, 117, 112, 112, 101, 114, 99, 97, 115, 101]) 1220 (.str (tx [65, 66, 67, 68, 69, 70, 71, 72, 73, 74, 75, 76, 77, 78, 79, 80, 81, 82, 83, 84, 85, 86, 87, 88, 89, 90]) 1219), ent P (tx [97, 115, 99, 105, 105, 95, 108, 101, 116, 116, 101, 114, 115]) 1222 (.str (tx [97, 98, 99, 100, 101, 102, 103, 104, 105, 106, 107, 108, 109, 110, 111, 112, 113, 114, 115, 116, 117, 118, 119, 120, 121, 122, 65, 66, 67, 68, 69, 70, 71, 72, 73, 74, 75, 76, 77, 78, 79, 80, 81, 82, 83, 84, 85, 86, 87, 88, 89, 90]) 1221), ent P (tx [100, 105, 103, 105, 116, 115]) 1224 (.str (tx [48, 49, 50, 51, 52, 53, 54, 55, 56, 57]) 1223), ent P (tx [99]) 1235 (.int (57) 1432)]⟩ 17), ⟨[]⟩⟩
noncomputable def o22_p8 (P : Params) : Obj := (oL (els (hel 67) 0 256) 0)
noncomputable def o25_p8 (P : Params) : Obj := ⟨(.type "bytes_iterator"), none, (.fields ⟨[.none, (.int (67) 0)]⟩), ⟨[]⟩⟩
noncomputable def o27_p8 (P : Params) : Obj := ⟨(.type "StopIteration"), none, (.fields ⟨[(.ref 26), .none, .none, .none, (.bool false), .none]⟩), ⟨[]⟩⟩
noncomputable def o22_p9 (P : Params) : Obj := (oL (els (put (hel 67) 32 (.str (tx [95]) 1435)) 0 256) 0)
noncomputable def o3_p10 (P : Params) : Obj := ⟨(.type "dict"), none, (.dict ⟨[ent P (tx [95, 95, 110, 97, 109, 101, 95, 95]) 165 (.str (tx [99, 112, 121, 51, 49, 51, 46, 101, 109, 97, 105, 108, 46, 113, 117, 111, 112, 114, 105, 109, 105, 109, 101]) 1225), ent P (tx [95, 95, 100, 111, 99, 95, 95]) 166 .none, ent P (tx [95, 95, 112, 97, 99, 107, 97, 103, 101, 95, 95]) 167 .none, ent P (tx [95, 95, 108, 111, 97, 100, 101, 114, 95, 95]) 168 (.builtin "__main__.__loader__#opaque"), ent P (tx [95, 95, 115, 112, 101, 99, 95, 95]) 169 .none, ent P (tx [95, 95, 97, 110, 110, 111, 116, 97, 116, 105, 111, 110, 115, 95, 95]) 170 (.ref 6), ent P (tx [95, 95, 98, 117, 105, 108, 116, 105, 110, 115, 95, 95]) 171 (.ref 4), ent P (tx [95, 95, 102, 105, 108, 101, 95, 95]) 173 (.str (tx [47, 99, 108, 97, 105, 109, 47, 99, 117, 116, 46, 112, 121]) 172), ent P (tx [95, 95, 99, 97, 99, 104, 101, 100, 95, 95]) 174 .none, ent P (tx [95, 81, 85, 79, 80, 82, 73, 95, 77, 65, 80]) 1214 (.ref 17), ent P (tx [95, 81, 85, 79, 80, 82, 73, 95, 72, 69, 65, 68, 69, 82, 95, 77, 65, 80]) 1215 (.ref 22), ent P (tx [95, 81, 85, 79, 80, 82, 73, 95, 66, 79, 68, 89, 95, 77, 65, 80]) 1216 (.ref 24), ent P (tx [97, 115, 99, 105, 105, 95, 108, 111, 119, 101, 114, 99, 97, 115, 101]) 1218 (.str (tx [97, 98, 99, 100, 101, 102, 103, 104, 105, 106, 107, 108, 109, 110, 111, 112, 113, 114, 115, 116, 117, 118, 119, 120, 121, 122]) 1217), ent P (tx [97, 115, 99, 105, 105, 95, 117, 112, 112, 101, 114, 99, 97, 115, 101]) 1220 (.str (tx [65, 66, 67, 68, 69, 70, 71, 72, 73, 74, 75, 76, 77, 78, 79, 80, 81, 82, 83, 84, 85, 86, 87, 88, 89, 90]) 1219), ent P (tx [97, 115, 99, 105, 105, 95, 108, 101, 116, 116, 101, 114, 115]) 1222 (.str (tx [97, 98, 99, 100, 101, 102, 103, 104, 105, 106, 107, 108, 109, 110, 111, 112, 113, 114, 115, 116, 117, 118, 119, 120, 121, 122, 65, 66, 67, 68, 69, 70, 71, 72, 73, 74, 75, 76, 77, 78, 79, 80, 81, 82, 83, 84, 85, 86, 87, 88, 89, 90]) 1221), ent P (tx [100, 105, 103, 105, 116, 115]) 1224 (.str (tx [48, 49, 50, 51, 52, 53, 54, 55, 56, 57]) 1223), ent P (tx [99]) 1235 (.int (9) 1721)]⟩ 17), ⟨[]⟩⟩
noncomputable def o24_p10 (P : Params) : Obj := (oL (els (bel 95) 0 256) 0)
noncomputable def o28_p10 (P : Params) : Obj := ⟨(.type "bytes_iterator"), none, (.fields ⟨[.none, (.int (95) 0)]⟩), ⟨[]⟩⟩
noncomputable def o30_p10 (P : Params) : Obj := ⟨(.type "StopIteration"), none, (.fields ⟨[(.ref 29), .none, .none, .none, (.bool false), .none]⟩), ⟨[]⟩⟩
noncomputable def o3_fin (P : Params) : Obj := ⟨(.type "dict"), none, (.dict ⟨[ent P (tx [95, 95, 110, 97, 109, 101, 95, 95]) 165 (.str (tx [108, 97, 119, 95, 100, 109, 48, 48, 57, 54, 95, 48, 50]) 1753), ent P (tx [95, 95, 100, 111, 99, 95, 95]) 166 .none, ent P (tx [95, 95, 112, 97, 99, 107, 97, 103, 101, 95, 95]) 167 .none, ent P (tx [95, 95, 108, 111, 97, 100, 101, 114, 95, 95]) 168 (.builtin "__main__.__loader__#opaque"), ent P (tx [95, 95, 115, 112, 101, 99, 95, 95]) 169 .none, ent P (tx [95, 95, 97, 110, 110, 111, 116, 97, 116, 105, 111, 110, 115, 95, 95]) 170 (.ref 6), ent P (tx [95, 95, 98, 117, 105, 108, 116, 105, 110, 115, 95, 95]) 171 (.ref 4), ent P (tx [95, 95, 102, 105, 108, 101, 95, 95]) 173 (.str (tx [47, 99, 108, 97, 105, 109, 47, 99, 117, 116, 46, 112, 121]) 172), ent P (tx [95, 95, 99, 97, 99, 104, 101, 100, 95, 95]) 174 .none, ent P (tx [95, 81, 85, 79, 80, 82, 73, 95, 77, 65, 80]) 1214 (.ref 17), ent P (tx [95, 81, 85, 79, 80, 82, 73, 95, 72, 69, 65, 68, 69, 82, 95, 77, 65, 80]) 1215 (.ref 22), ent P (tx [95, 81, 85, 79, 80, 82, 73, 95, 66, 79, 68, 89, 95, 77, 65, 80]) 1216 (.ref 24), ent P (tx [97, 115, 99, 105, 105, 95, 108, 111, 119, 101, 114, 99, 97, 115, 101]) 1218 (.str (tx [97, 98, 99, 100, 101, 102, 103, 104, 105, 106, 107, 108, 109, 110, 111, 112, 113, 114, 115, 116, 117, 118, 119, 120, 121, 122]) 1217), ent P (tx [97, 115, 99, 105, 105, 95, 117, 112, 112, 101, 114, 99, 97, 115, 101]) 1220 (.str (tx [65, 66, 67, 68, 69, 70, 71, 72, 73, 74, 75, 76, 77, 78, 79, 80, 81, 82, 83, 84, 85, 86, 87, 88, 89, 90]) 1219), ent P (tx [97, 115, 99, 105, 105, 95, 108, 101, 116, 116, 101, 114, 115]) 1222 (.str (tx [97, 98, 99, 100, 101, 102, 103, 104, 105, 106, 107, 108, 109, 110, 111, 112, 113, 114, 115, 116, 117, 118, 119, 120, 121, 122, 65, 66, 67, 68, 69, 70, 71, 72, 73, 74, 75, 76, 77, 78, 79, 80, 81, 82, 83, 84, 85, 86, 87, 88, 89, 90]) 1221), ent P (tx [100, 105, 103, 105, 116, 115]) 1224 (.str (tx [48, 49, 50, 51, 52, 53, 54, 55, 56, 57]) 1223), ent P (tx [95, 109, 97, 120, 95, 97, 112, 112, 101, 110, 100]) 1734 (.ref 38), ent P (tx [104, 101, 97, 100, 101, 114, 95, 101, 110, 99, 111, 100, 101]) 1744 (.ref 46), ent P (tx [95, 81, 85, 79, 80, 82, 73, 95, 66, 79, 68, 89, 95, 69, 78, 67, 79, 68, 69, 95, 77, 65, 80]) 1745 (.ref 48), ent P (tx [95, 108, 97, 119, 95, 115, 105, 103, 110, 115]) 1760 (.ref 56), ent P (tx [108, 97, 119]) 1766 (.ref 61)]⟩ 23), ⟨[]⟩⟩
noncomputable def o12_fin (P : Params) : Obj := ⟨.none, none, (.fields ⟨[(.int (14) 0), (.int (0) 0), (.ref 37), (.int (23) 0), (.int (0) 0), (.ref 45), (.int (33) 0), (.int (0) 0), (.ref 55), (.int (36) 0), (.int (0) 0), (.ref 60)]⟩), ⟨[]⟩⟩
noncomputable def o31_fin (P : Params) : Obj := ⟨(.type "tuple"), none, (.seq ⟨[(.str (tx []) 1724)]⟩ 0), ⟨[]⟩⟩
noncomputable def o34_fin (P : Params) : Obj := ⟨(.type "tuple"), none, (.seq ⟨[(.str (tx [76]) 1728), (.str (tx [115]) 1729), (.str (tx [109, 97, 120, 108, 101, 110]) 1730), (.str (tx [101, 120, 116, 114, 97]) 1731)]⟩ 0), ⟨[]⟩⟩
noncomputable def o36_fin (P : Params) : Obj := ⟨.none, none, (.func (fdOf (stL 11 1).head? (tx [95, 109, 97, 120, 95, 97, 112, 112, 101, 110, 100]) 0 .none .none .none .none none .none .none 0)), ⟨[]⟩⟩
noncomputable def o37_fin (P : Params) : Obj := ⟨(.type "code"), none, (.fields ⟨[(.str (tx [95, 109, 97, 120, 95, 97, 112, 112, 101, 110, 100]) 1725), (.str (tx [95, 109, 97, 120, 95, 97, 112, 112, 101, 110, 100]) 1726), (.str (tx [47, 99, 108, 97, 105, 109, 47, 99, 117, 116, 46, 112, 121]) 1727), (.int (14) 0), (.int (4) 0), (.int (0) 0), (.int (0) 0), (.int (3) 0), (.ref 32), (.bool true), (.int (181) 0), (.ref 33), .none, (.ref 34), (.ref 35), (.ref 36), (.int (1732) 0), (.int (14) 0), (.str (tx [47, 99, 108, 97, 105, 109, 47, 99, 117, 116, 46, 112, 121]) 1733)]⟩), ⟨[]⟩⟩
noncomputable def o38_fin (P : Params) : Obj := ⟨(.type "function"), none, (.func (fdOf (stL 11 1).head? (tx [95, 109, 97, 120, 95, 97, 112, 112, 101, 110, 100]) 3 (.ref 31) .none .none (.str (tx [99, 112, 121, 51, 49, 51, 46, 101, 109, 97, 105, 108, 46, 113, 117, 111, 112, 114, 105, 109, 105, 109, 101]) 1225) none (.ref 37) .none 0)), ⟨[]⟩⟩
noncomputable def o39_fin (P : Params) : Obj := ⟨(.type "tuple"), none, (.seq ⟨[(.str (tx [105, 115, 111, 45, 56, 56, 53, 57, 45, 49]) 1735)]⟩ 0), ⟨[]⟩⟩
noncomputable def o42_fin (P : Params) : Obj := ⟨(.type "tuple"), none, (.seq ⟨[(.str (tx [104, 101, 97, 100, 101, 114, 95, 98, 121, 116, 101, 115]) 1739), (.str (tx [99, 104, 97, 114, 115, 101, 116]) 1740), (.str (tx [101, 110, 99, 111, 100, 101, 100]) 1741)]⟩ 0), ⟨[]⟩⟩
noncomputable def o44_fin (P : Params) : Obj := ⟨.none, none, (.func (fdOf (stL 12 1).head? (tx [104, 101, 97, 100, 101, 114, 95, 101, 110, 99, 111, 100, 101]) 0 .none .none .none .none none .none .none 0)), ⟨[]⟩⟩
noncomputable def o45_fin (P : Params) : Obj := ⟨(.type "code"), none, (.fields ⟨[(.str (tx [104, 101, 97, 100, 101, 114, 95, 101, 110, 99, 111, 100, 101]) 1736), (.str (tx [104, 101, 97, 100, 101, 114, 95, 101, 110, 99, 111, 100, 101]) 1737), (.str (tx [47, 99, 108, 97, 105, 109, 47, 99, 117, 116, 46, 112, 121]) 1738), (.int (23) 0), (.int (2) 0), (.int (0) 0), (.int (0) 0), (.int (3) 0), (.ref 40), (.bool true), (.int (181) 0), (.ref 41), .none, (.ref 42), (.ref 43), (.ref 44), (.int (1742) 0), (.int (23) 0), (.str (tx [47, 99, 108, 97, 105, 109, 47, 99, 117, 116, 46, 112, 121]) 1743)]⟩), ⟨[]⟩⟩
noncomputable def o46_fin (P : Params) : Obj := ⟨(.type "function"), none, (.func (fdOf (stL 12 1).head? (tx [104, 101, 97, 100, 101, 114, 95, 101, 110, 99, 111, 100, 101]) 3 (.ref 39) .none .none (.str (tx [99, 112, 121, 51, 49, 51, 46, 101, 109, 97, 105, 108, 46, 113, 117, 111, 112, 114, 105, 109, 105, 109, 101]) 1225) none (.ref 45) .none 0)), ⟨[]⟩⟩
noncomputable def o48_fin (P : Params) : Obj := (oL (els (put (put (bel 95) 10 (.str (tx [10]) 1752)) 13 (.str (tx [13]) 1749)) 0 256) 0)
noncomputable def o49_fin (P : Params) : Obj := ⟨(.type "bytes_iterator"), none, (.fields ⟨[.none, (.int (2) 0)]⟩), ⟨[]⟩⟩
noncomputable def o51_fin (P : Params) : Obj := ⟨(.type "StopIteration"), none, (.fields ⟨[(.ref 50), .none, .none, .none, (.bool false), .none]⟩), ⟨[]⟩⟩
noncomputable def o54_fin (P : Params) : Obj := ⟨.none, none, (.func (fdOf (stL 17 1).head? (tx [95, 108, 97, 119, 95, 115, 105, 103, 110, 115]) 0 .none .none .none .none none .none .none 0)), ⟨[]⟩⟩
noncomputable def o55_fin (P : Params) : Obj := ⟨(.type "code"), none, (.fields ⟨[(.str (tx [95, 108, 97, 119, 95, 115, 105, 103, 110, 115]) 1755), (.str (tx [95, 108, 97, 119, 95, 115, 105, 103, 110, 115]) 1756), (.str (tx [47, 99, 108, 97, 105, 109, 47, 99, 117, 116, 46, 112, 121]) 1757), (.int (33) 0), (.int (1) 0), (.int (0) 0), (.int (0) 0), (.int (3) 0), (.ref 52), (.bool true), (.int (181) 0), (.ref 53), .none, .none, .none, (.ref 54), (.int (1758) 0), (.int (33) 0), (.str (tx [47, 99, 108, 97, 105, 109, 47, 99, 117, 116, 46, 112, 121]) 1759)]⟩), ⟨[]⟩⟩
noncomputable def o56_fin (P : Params) : Obj := ⟨(.type "function"), none, (.func (fdOf (stL 17 1).head? (tx [95, 108, 97, 119, 95, 115, 105, 103, 110, 115]) 3 .none .none .none (.str (tx [108, 97, 119, 95, 100, 109, 48, 48, 57, 54, 95, 48, 50]) 1753) none (.ref 55) .none 0)), ⟨[]⟩⟩
noncomputable def o59_fin (P : Params) : Obj := ⟨.none, none, (.func (fdOf (stL 18 1).head? (tx [108, 97, 119]) 0 .none .none .none .none none .none .none 0)), ⟨[]⟩⟩
noncomputable def o60_fin (P : Params) : Obj := ⟨(.type "code"), none, (.fields ⟨[(.str (tx [108, 97, 119]) 1761), (.str (tx [108, 97, 119]) 1762), (.str (tx [47, 99, 108, 97, 105, 109, 47, 99, 117, 116, 46, 112, 121]) 1763), (.int (36) 0), (.int (1) 0), (.int (0) 0), (.int (0) 0), (.int (3) 0), (.ref 57), (.bool true), (.int (181) 0), (.ref 58), .none, .none, .none, (.ref 59), (.int (1764) 0), (.int (36) 0), (.str (tx [47, 99, 108, 97, 105, 109, 47, 99, 117, 116, 46, 112, 121]) 1765)]⟩), ⟨[]⟩⟩
noncomputable def o61_fin (P : Params) : Obj := ⟨(.type "function"), none, (.func (fdOf (stL 18 1).head? (tx [108, 97, 119]) 3 .none .none .none (.str (tx [108, 97, 119, 95, 100, 109, 48, 48, 57, 54, 95, 48, 50]) 1753) none (.ref 60) .none 0)), ⟨[]⟩⟩
noncomputable def treeSb (P : Params) : BT := (.node (boot_o_0 P) (.node (boot_o_1 P) (.node (boot_o_3 P) (.node (boot_o_7 P) .nil .nil) (.node (o11_block P) .nil .nil)) (.node (boot_o_5 P) (.node (boot_o_9 P) .nil .nil) (.node (o13_block P) .nil .nil))) (.node (boot_o_2 P) (.node (boot_o_4 P) (.node (boot_o_8 P) .nil .nil) (.node (o12_block P) .nil .nil)) (.node (boot_o_6 P) (.node (boot_o_10 P) .nil .nil) (.node (o14_block P) .nil .nil))))
noncomputable def treeS0 (P : Params) : BT := (.node (boot_o_0 P) (.node (boot_o_1 P) (.node (o3_p0 P) (.node (boot_o_7 P) (.node (o15_p0 P) .nil .nil) .nil) (.node (o11_block P) (.node (o11_block P) .nil .nil) .nil)) (.node (boot_o_5 P) (.node (boot_o_9 P) (.node (o17_p0 P) .nil .nil) .nil) (.node (o13_block P) .nil .nil))) (.node (boot_o_2 P) (.node (boot_o_4 P) (.node (boot_o_8 P) (.node (o16_p0 P) .nil .nil) .nil) (.node (o12_block P) (.node (o20_p0 P) .nil .nil) .nil)) (.node (boot_o_6 P) (.node (boot_o_10 P) (.node (o18_p0 P) .nil .nil) .nil) (.node (o14_block P) .nil .nil))))
noncomputable def treeS7 (P : Params) : BT := (.node (boot_o_0 P) (.node (boot_o_1 P) (.node (o3_p7 P) (.node (boot_o_7 P) (.node (o15_p0 P) .nil .nil) (.node (o21_p7 P) .nil .nil)) (.node (o11_block P) (.node (o11_block P) .nil .nil) .nil)) (.node (boot_o_5 P) (.node (boot_o_9 P) (.node (o17_p0 P) .nil .nil) .nil) (.node (o13_block P) (.node (o21_p7 P) .nil .nil) .nil))) (.node (boot_o_2 P) (.node (boot_o_4 P) (.node (boot_o_8 P) (.node (o16_p0 P) .nil .nil) (.node (o22_p7 P) .nil .nil)) (.node (o12_block P) (.node (o20_p0 P) .nil .nil) .nil)) (.node (boot_o_6 P) (.node (boot_o_10 P) (.node (o18_p0 P) .nil .nil) .nil) (.node (o14_block P) (.node (o22_p7 P) .nil .nil) .nil))))
noncomputable def treeS8 (P : Params) : BT := (.node (boot_o_0 P) (.node (boot_o_1 P) (.node (o3_p8 P) (.node (boot_o_7 P) (.node (o15_p0 P) .nil .nil) (.node (o21_p7 P) .nil .nil)) (.node (o11_block P) (.node (o11_block P) .nil .nil) (.node (o27_p8 P) .nil .nil))) (.node (boot_o_5 P) (.node (boot_o_9 P) (.node (o17_p0 P) .nil .nil) (.node (o25_p8 P) .nil .nil)) (.node (o13_block P) (.node (o21_p7 P) .nil .nil) .nil))) (.node (boot_o_2 P) (.node (boot_o_4 P) (.node (boot_o_8 P) (.node (o16_p0 P) .nil .nil) (.node (o22_p7 P) .nil .nil)) (.node (o12_block P) (.node (o20_p0 P) .nil .nil) .nil)) (.node (boot_o_6 P) (.node (boot_o_10 P) (.node (o18_p0 P) .nil .nil) (.node (o11_block P) .nil .nil)) (.node (o14_block P) (.node (o22_p8 P) .nil .nil) .nil))))
noncomputable def treeS9 (P : Params) : BT := (.node (boot_o_0 P) (.node (boot_o_1 P) (.node (o3_p8 P) (.node (boot_o_7 P) (.node (o15_p0 P) .nil .nil) (.node (o21_p7 P) .nil .nil)) (.node (o11_block P) (.node (o11_block P) .nil .nil) (.node (o27_p8 P) .nil .nil))) (.node (boot_o_5 P) (.node (boot_o_9 P) (.node (o17_p0 P) .nil .nil) (.node (o25_p8 P) .nil .nil)) (.node (o13_block P) (.node (o21_p7 P) .nil .nil) .nil))) (.node (boot_o_2 P) (.node (boot_o_4 P) (.node (boot_o_8 P) (.node (o16_p0 P) .nil .nil) (.node (o22_p7 P) .nil .nil)) (.node (o12_block P) (.node (o20_p0 P) .nil .nil) .nil)) (.node (boot_o_6 P) (.node (boot_o_10 P) (.node (o18_p0 P) .nil .nil) (.node (o11_block P) .nil .nil)) (.node (o14_block P) (.node (o22_p9 P) .nil .nil) .nil))))
noncomputable def treeS10 (P : Params) : BT := (.node (boot_o_0 P) (.node (boot_o_1 P) (.node (o3_p10 P) (.node (boot_o_7 P) (.node (o15_p0 P) .nil .nil) (.node (o21_p7 P) .nil .nil)) (.node (o11_block P) (.node (o11_block P) .nil .nil) (.node (o27_p8 P) .nil .nil))) (.node (boot_o_5 P) (.node (boot_o_9 P) (.node (o17_p0 P) .nil .nil) (.node (o25_p8 P) .nil .nil)) (.node (o13_block P) (.node (o21_p7 P) .nil .nil) (.node (o11_block P) .nil .nil)))) (.node (boot_o_2 P) (.node (boot_o_4 P) (.node (boot_o_8 P) (.node (o16_p0 P) .nil .nil) (.node (o24_p10 P) .nil .nil)) (.node (o12_block P) (.node (o20_p0 P) .nil .nil) (.node (o28_p10 P) .nil .nil))) (.node (boot_o_6 P) (.node (boot_o_10 P) (.node (o18_p0 P) .nil .nil) (.node (o11_block P) .nil .nil)) (.node (o14_block P) (.node (o22_p9 P) .nil .nil) (.node (o30_p10 P) .nil .nil)))))
noncomputable def treeSF (P : Params) : BT := (.node (boot_o_0 P) (.node (boot_o_1 P) (.node (o3_fin P) (.node (boot_o_7 P) (.node (o15_p0 P) (.node (o31_fin P) .nil .nil) (.node (o21_p7 P) .nil .nil)) (.node (o21_p7 P) (.node (o39_fin P) .nil .nil) (.node (o55_fin P) .nil .nil))) (.node (o11_block P) (.node (o11_block P) (.node (o11_block P) .nil .nil) (.node (o51_fin P) .nil .nil)) (.node (o27_p8 P) (.node (o11_block P) .nil .nil) (.node (o59_fin P) .nil .nil)))) (.node (boot_o_5 P) (.node (boot_o_9 P) (.node (o17_p0 P) (.node (o12_block P) .nil .nil) (.node (o49_fin P) .nil .nil)) (.node (o25_p8 P) (.node (o12_block P) .nil .nil) (.node (o11_block P) .nil .nil))) (.node (o13_block P) (.node (o21_p7 P) (.node (o37_fin P) .nil .nil) (.node (o12_block P) .nil .nil)) (.node (o11_block P) (.node (o45_fin P) .nil .nil) (.node (o61_fin P) .nil .nil))))) (.node (boot_o_2 P) (.node (boot_o_4 P) (.node (boot_o_8 P) (.node (o16_p0 P) (.node (o11_block P) .nil .nil) (.node (o48_fin P) .nil .nil)) (.node (o24_p10 P) (.node (o11_block P) .nil .nil) (.node (o56_fin P) .nil .nil))) (.node (o12_fin P) (.node (o20_p0 P) (.node (o36_fin P) .nil .nil) (.node (o11_block P) .nil .nil)) (.node (o28_p10 P) (.node (o44_fin P) .nil .nil) (.node (o60_fin P) .nil .nil)))) (.node (boot_o_6 P) (.node (boot_o_10 P) (.node (o18_p0 P) (.node (o34_fin P) .nil .nil) (.node (o11_block P) .nil .nil)) (.node (o11_block P) (.node (o42_fin P) .nil .nil) (.node (o12_block P) .nil .nil))) (.node (o14_block P) (.node (o22_p9 P) (.node (o38_fin P) .nil .nil) (.node (o54_fin P) .nil .nil)) (.node (o30_p10 P) (.node (o46_fin P) .nil .nil) .nil)))))
noncomputable def treeC (P : Params) (k : Nat) : BT := (.node (boot_o_0 P) (.node (boot_o_1 P) (.node (boot_o_3 P) (.node (boot_o_7 P) (.node (o15_p0 P) .nil .nil) .nil) (.node (o11_block P) .nil .nil)) (.node (boot_o_5 P) (.node (boot_o_9 P) (.node (oL (els hexv 0 k) k) .nil .nil) .nil) (.node (o13_block P) .nil .nil))) (.node (boot_o_2 P) (.node (boot_o_4 P) (.node (boot_o_8 P) (.node (oI k) .nil .nil) .nil) (.node (o12_block P) .nil .nil)) (.node (boot_o_6 P) (.node (boot_o_10 P) (.node (oD P k) .nil .nil) .nil) (.node (o14_block P) .nil .nil))))
noncomputable def treeH (P : Params) (j : Nat) : BT := (.node (boot_o_0 P) (.node (boot_o_1 P) (.node (o3H P j) (.node (boot_o_7 P) (.node (o15_p0 P) .nil .nil) (.node (o21_p7 P) .nil .nil)) (.node (o11_block P) (.node (o11_block P) .nil .nil) .nil)) (.node (boot_o_5 P) (.node (boot_o_9 P) (.node (o17_p0 P) .nil .nil) (.node (o25H j) .nil .nil)) (.node (o13_block P) (.node (o21_p7 P) .nil .nil) .nil))) (.node (boot_o_2 P) (.node (boot_o_4 P) (.node (boot_o_8 P) (.node (o16_p0 P) .nil .nil) (.node (o22_p7 P) .nil .nil)) (.node (o12_block P) (.node (o20_p0 P) .nil .nil) .nil)) (.node (boot_o_6 P) (.node (boot_o_10 P) (.node (o18_p0 P) .nil .nil) .nil) (.node (o14_block P) (.node (oL (els (hel j) 0 256) 0) .nil .nil) .nil))))
noncomputable def treeT (P : Params) (j : Nat) : BT := (.node (boot_o_0 P) (.node (boot_o_1 P) (.node (o3B P j) (.node (boot_o_7 P) (.node (o15_p0 P) .nil .nil) (.node (o21_p7 P) .nil .nil)) (.node (o11_block P) (.node (o11_block P) .nil .nil) (.node (o27_p8 P) .nil .nil))) (.node (boot_o_5 P) (.node (boot_o_9 P) (.node (o17_p0 P) .nil .nil) (.node (o25_p8 P) .nil .nil)) (.node (o13_block P) (.node (o21_p7 P) .nil .nil) .nil))) (.node (boot_o_2 P) (.node (boot_o_4 P) (.node (boot_o_8 P) (.node (o16_p0 P) .nil .nil) (.node (oL (els (bel j) 0 256) 0) .nil .nil)) (.node (o12_block P) (.node (o20_p0 P) .nil .nil) (.node (o28B j) .nil .nil))) (.node (boot_o_6 P) (.node (boot_o_10 P) (.node (o18_p0 P) .nil .nil) (.node (o11_block P) .nil .nil)) (.node (o14_block P) (.node (o22_p9 P) .nil .nil) .nil))))
noncomputable def Sb (w : World) (os : OsState) : SharedT := ⟨treeSb w.params, 15, {}, ⟨[]⟩, boot_drawn, 187, os⟩
noncomputable def S0 (w : World) (os : OsState) : SharedT := ⟨treeS0 w.params, 21, {}, ⟨[]⟩, boot_drawn, 1215, os⟩
noncomputable def S7 (w : World) (os : OsState) : SharedT := ⟨treeS7 w.params, 25, {}, ⟨[]⟩, boot_drawn, 1227, os⟩
noncomputable def S8 (w : World) (os : OsState) : SharedT := ⟨treeS8 w.params, 28, {}, ⟨[]⟩, boot_drawn, 1435, os⟩
noncomputable def S9 (w : World) (os : OsState) : SharedT := ⟨treeS9 w.params, 28, {}, ⟨[]⟩, boot_drawn, 1438, os⟩
noncomputable def S10 (w : World) (os : OsState) : SharedT := ⟨treeS10 w.params, 31, {}, ⟨[]⟩, boot_drawn, 1724, os⟩
noncomputable def SF (w : World) (os : OsState) : SharedT := ⟨treeSF w.params, 62, {}, ⟨[]⟩, boot_drawn, 1767, os⟩
noncomputable def SC (k : Nat) (w : World) (os : OsState) : SharedT := ⟨treeC w.params k, 19, {}, ⟨[]⟩, boot_drawn, 190 + 4 * k, os⟩
noncomputable def SH (j : Nat) (w : World) (os : OsState) : SharedT := ⟨treeH w.params j, 26, {}, ⟨[]⟩, boot_drawn, 1234 + 3 * j, os⟩
noncomputable def ST (j : Nat) (w : World) (os : OsState) : SharedT := ⟨treeT w.params j, 29, {}, ⟨[]⟩, boot_drawn, 1439 + 3 * j, os⟩
noncomputable def env : Env := { scope := qw.main.scope, locals := mainNs, globals := mainNs, cells := [], code := .ref 13, frame := some 14 }
noncomputable def cB : Code := .body (behindTheImports qw) env
noncomputable def bF : List Frame := [topFrame ⟨0, 0, 0, 0⟩]
noncomputable def pc (i n : Nat) (pos : Pos) : Thread := piecesOf (stL i n) env cB pos bF
def thr (d : Thread) (x : Option (SharedT × Thread)) : Thread := match x with | some (_, t) => t | none => d
abbrev ann : Option Value := some (.ref 6)
noncomputable def fixW (w : World) : World := (w.withFollow "special-get-raises" false).withFollow "comprehension-iter-twice" true
noncomputable def wC : Thread := pc 0 1 ⟨0, 0, 0, 0⟩
noncomputable def wH : Thread := pc 8 1 ⟨8, 0, 8, 8⟩
noncomputable def wT : Thread := pc 10 1 ⟨11, 0, 11, 28⟩
noncomputable def TC (w : World) (os : OsState) : Thread := thr wC (tSeg tTb qw (fixW w) 11 ann 1 79 (Sb (fixW w) os) wC)
noncomputable def TH (w : World) (os : OsState) : Thread := thr wH (tSeg tTb qw (fixW w) 11 ann 1 89 (S7 (fixW w) os) wH)
noncomputable def TT (w : World) (os : OsState) : Thread := thr wT (tSeg tTb qw (fixW w) 11 ann 1 55 (S9 (fixW w) os) wT)
theorem cs_false_false (w : World) (os : OsState) : tSeg tTb qw ((w.withFollow "special-get-raises" false).withFollow "comprehension-iter-twice" false) 11 ann 1 89 (Sb ((w.withFollow "special-get-raises" false).withFollow "comprehension-iter-twice" false) os) wC = some (SC 1 ((w.withFollow "special-get-raises" false).withFollow "comprehension-iter-twice" false) os, TC ((w.withFollow "special-get-raises" false).withFollow "comprehension-iter-twice" false) os) := by kernel_rfl
theorem cs_false_true (w : World) (os : OsState) : tSeg tTb qw ((w.withFollow "special-get-raises" false).withFollow "comprehension-iter-twice" true) 11 ann 1 79 (Sb ((w.withFollow "special-get-raises" false).withFollow "comprehension-iter-twice" true) os) wC = some (SC 1 ((w.withFollow "special-get-raises" false).withFollow "comprehension-iter-twice" true) os, TC ((w.withFollow "special-get-raises" false).withFollow "comprehension-iter-twice" true) os) := by kernel_rfl
theorem cs_true_false (w : World) (os : OsState) : tSeg tTb qw ((w.withFollow "special-get-raises" true).withFollow "comprehension-iter-twice" false) 11 ann 1 89 (Sb ((w.withFollow "special-get-raises" true).withFollow "comprehension-iter-twice" false) os) wC = some (SC 1 ((w.withFollow "special-get-raises" true).withFollow "comprehension-iter-twice" false) os, TC ((w.withFollow "special-get-raises" true).withFollow "comprehension-iter-twice" false) os) := by kernel_rfl
theorem cs_true_true (w : World) (os : OsState) : tSeg tTb qw ((w.withFollow "special-get-raises" true).withFollow "comprehension-iter-twice" true) 11 ann 1 79 (Sb ((w.withFollow "special-get-raises" true).withFollow "comprehension-iter-twice" true) os) wC = some (SC 1 ((w.withFollow "special-get-raises" true).withFollow "comprehension-iter-twice" true) os, TC ((w.withFollow "special-get-raises" true).withFollow "comprehension-iter-twice" true) os) := by kernel_rfl
theorem hs_false (w : World) (os : OsState) : tSeg tTb qw (w.withFollow "special-get-raises" false) 11 ann 1 89 (S7 (w.withFollow "special-get-raises" false) os) wH = some (SH 1 (w.withFollow "special-get-raises" false) os, TH (w.withFollow "special-get-raises" false) os) := by kernel_rfl
theorem ts_false (w : World) (os : OsState) : tSeg tTb qw (w.withFollow "special-get-raises" false) 11 ann 1 55 (S9 (w.withFollow "special-get-raises" false) os) wT = some (ST 1 (w.withFollow "special-get-raises" false) os, TT (w.withFollow "special-get-raises" false) os) := by kernel_rfl
theorem fs_false (w : World) (os : OsState) : tRun tTb qw (w.withFollow "special-get-raises" false) 11 ann 1 279 (S10 (w.withFollow "special-get-raises" false) os) (pc 11 8 ⟨12, 9, 12, 110⟩) = some (.next, SF (w.withFollow "special-get-raises" false) os, cB, ⟨36, 0, 68, 60⟩) := by kernel_rfl
theorem hs_true (w : World) (os : OsState) : tSeg tTb qw (w.withFollow "special-get-raises" true) 11 ann 1 89 (S7 (w.withFollow "special-get-raises" true) os) wH = some (SH 1 (w.withFollow "special-get-raises" true) os, TH (w.withFollow "special-get-raises" true) os) := by kernel_rfl
theorem ts_true (w : World) (os : OsState) : tSeg tTb qw (w.withFollow "special-get-raises" true) 11 ann 1 55 (S9 (w.withFollow "special-get-raises" true) os) wT = some (ST 1 (w.withFollow "special-get-raises" true) os, TT (w.withFollow "special-get-raises" true) os) := by kernel_rfl
theorem fs_true (w : World) (os : OsState) : tRun tTb qw (w.withFollow "special-get-raises" true) 11 ann 1 279 (S10 (w.withFollow "special-get-raises" true) os) (pc 11 8 ⟨12, 9, 12, 110⟩) = some (.next, SF (w.withFollow "special-get-raises" true) os, cB, ⟨36, 0, 68, 60⟩) := by kernel_rfl
theorem g1 (w : World) (os : OsState) : tRun tTb qw w 11 ann 1 109 (S0 w os) (pc 1 7 ⟨1, 0, 1, 11⟩) = some (.next, S7 w os, cB, ⟨8, 0, 8, 8⟩) := by kernel_rfl
theorem g3 (w : World) (os : OsState) : tRun tTb qw w 11 ann 1 25 (S8 w os) (pc 9 1 ⟨9, 9, 9, 74⟩) = some (.next, S9 w os, cB, ⟨11, 0, 11, 28⟩) := by kernel_rfl
theorem ce (w : World) (os : OsState) : tRun tTb qw w 11 ann 1 28 (SC 256 w os) (TC w os) = some (.next, S0 w os, cB, ⟨1, 0, 1, 11⟩) := by kernel_rfl
theorem he (w : World) (os : OsState) : tRun tTb qw w 11 ann 1 18 (SH 67 w os) (TH w os) = some (.next, S8 w os, cB, ⟨9, 9, 9, 74⟩) := by kernel_rfl
theorem te (w : World) (os : OsState) : tRun tTb qw w 11 ann 1 18 (ST 95 w os) (TT w os) = some (.next, S10 w os, cB, ⟨12, 9, 12, 110⟩) := by kernel_rfl
end Mine

open PySem PySem.W PyProof.Rows
set_option Elab.async false
set_option maxRecDepth 100000
set_option maxHeartbeats 8000000
set_option linter.unusedVariables false
namespace Mine
theorem c0 (w : World) (os : OsState) : tSeg tTb qw w 11 ann 1 370 (SC 1 w os) (TC w os) = some (SC 11 w os, TC w os) := by kernel_rfl
theorem c1 (w : World) (os : OsState) : tSeg tTb qw w 11 ann 1 370 (SC 11 w os) (TC w os) = some (SC 21 w os, TC w os) := by kernel_rfl
theorem c2 (w : World) (os : OsState) : tSeg tTb qw w 11 ann 1 370 (SC 21 w os) (TC w os) = some (SC 31 w os, TC w os) := by kernel_rfl
theorem c3 (w : World) (os : OsState) : tSeg tTb qw w 11 ann 1 370 (SC 31 w os) (TC w os) = some (SC 41 w os, TC w os) := by kernel_rfl
theorem c4 (w : World) (os : OsState) : tSeg tTb qw w 11 ann 1 370 (SC 41 w os) (TC w os) = some (SC 51 w os, TC w os) := by kernel_rfl
theorem c5 (w : World) (os : OsState) : tSeg tTb qw w 11 ann 1 370 (SC 51 w os) (TC w os) = some (SC 61 w os, TC w os) := by kernel_rfl
theorem c6 (w : World) (os : OsState) : tSeg tTb qw w 11 ann 1 370 (SC 61 w os) (TC w os) = some (SC 71 w os, TC w os) := by kernel_rfl
theorem c7 (w : World) (os : OsState) : tSeg tTb qw w 11 ann 1 370 (SC 71 w os) (TC w os) = some (SC 81 w os, TC w os) := by kernel_rfl
theorem c8 (w : World) (os : OsState) : tSeg tTb qw w 11 ann 1 370 (SC 81 w os) (TC w os) = some (SC 91 w os, TC w os) := by kernel_rfl
theorem c9 (w : World) (os : OsState) : tSeg tTb qw w 11 ann 1 370 (SC 91 w os) (TC w os) = some (SC 101 w os, TC w os) := by kernel_rfl
theorem c10 (w : World) (os : OsState) : tSeg tTb qw w 11 ann 1 370 (SC 101 w os) (TC w os) = some (SC 111 w os, TC w os) := by kernel_rfl
theorem c11 (w : World) (os : OsState) : tSeg tTb qw w 11 ann 1 370 (SC 111 w os) (TC w os) = some (SC 121 w os, TC w os) := by kernel_rfl
theorem c12 (w : World) (os : OsState) : tSeg tTb qw w 11 ann 1 370 (SC 121 w os) (TC w os) = some (SC 131 w os, TC w os) := by kernel_rfl
theorem c13 (w : World) (os : OsState) : tSeg tTb qw w 11 ann 1 370 (SC 131 w os) (TC w os) = some (SC 141 w os, TC w os) := by kernel_rfl
theorem c14 (w : World) (os : OsState) : tSeg tTb qw w 11 ann 1 370 (SC 141 w os) (TC w os) = some (SC 151 w os, TC w os) := by kernel_rfl
theorem c15 (w : World) (os : OsState) : tSeg tTb qw w 11 ann 1 370 (SC 151 w os) (TC w os) = some (SC 161 w os, TC w os) := by kernel_rfl
theorem c16 (w : World) (os : OsState) : tSeg tTb qw w 11 ann 1 370 (SC 161 w os) (TC w os) = some (SC 171 w os, TC w os) := by kernel_rfl
theorem c17 (w : World) (os : OsState) : tSeg tTb qw w 11 ann 1 370 (SC 171 w os) (TC w os) = some (SC 181 w os, TC w os) := by kernel_rfl
theorem c18 (w : World) (os : OsState) : tSeg tTb qw w 11 ann 1 370 (SC 181 w os) (TC w os) = some (SC 191 w os, TC w os) := by kernel_rfl
theorem c19 (w : World) (os : OsState) : tSeg tTb qw w 11 ann 1 370 (SC 191 w os) (TC w os) = some (SC 201 w os, TC w os) := by kernel_rfl
theorem c20 (w : World) (os : OsState) : tSeg tTb qw w 11 ann 1 370 (SC 201 w os) (TC w os) = some (SC 211 w os, TC w os) := by kernel_rfl
theorem c21 (w : World) (os : OsState) : tSeg tTb qw w 11 ann 1 370 (SC 211 w os) (TC w os) = some (SC 221 w os, TC w os) := by kernel_rfl
theorem c22 (w : World) (os : OsState) : tSeg tTb qw w 11 ann 1 370 (SC 221 w os) (TC w os) = some (SC 231 w os, TC w os) := by kernel_rfl
theorem c23 (w : World) (os : OsState) : tSeg tTb qw w 11 ann 1 370 (SC 231 w os) (TC w os) = some (SC 241 w os, TC w os) := by kernel_rfl
theorem c24 (w : World) (os : OsState) : tSeg tTb qw w 11 ann 1 370 (SC 241 w os) (TC w os) = some (SC 251 w os, TC w os) := by kernel_rfl
theorem c25 (w : World) (os : OsState) : tSeg tTb qw w 11 ann 1 185 (SC 251 w os) (TC w os) = some (SC 256 w os, TC w os) := by kernel_rfl
theorem h0 (w : World) (os : OsState) : tSeg tTb qw w 11 ann 1 405 (SH 1 w os) (TH w os) = some (SH 10 w os, TH w os) := by kernel_rfl
theorem h1 (w : World) (os : OsState) : tSeg tTb qw w 11 ann 1 405 (SH 10 w os) (TH w os) = some (SH 19 w os, TH w os) := by kernel_rfl
theorem h2 (w : World) (os : OsState) : tSeg tTb qw w 11 ann 1 405 (SH 19 w os) (TH w os) = some (SH 28 w os, TH w os) := by kernel_rfl
theorem h3 (w : World) (os : OsState) : tSeg tTb qw w 11 ann 1 405 (SH 28 w os) (TH w os) = some (SH 37 w os, TH w os) := by kernel_rfl
theorem h4 (w : World) (os : OsState) : tSeg tTb qw w 11 ann 1 405 (SH 37 w os) (TH w os) = some (SH 46 w os, TH w os) := by kernel_rfl
theorem h5 (w : World) (os : OsState) : tSeg tTb qw w 11 ann 1 405 (SH 46 w os) (TH w os) = some (SH 55 w os, TH w os) := by kernel_rfl
theorem h6 (w : World) (os : OsState) : tSeg tTb qw w 11 ann 1 405 (SH 55 w os) (TH w os) = some (SH 64 w os, TH w os) := by kernel_rfl
theorem h7 (w : World) (os : OsState) : tSeg tTb qw w 11 ann 1 135 (SH 64 w os) (TH w os) = some (SH 67 w os, TH w os) := by kernel_rfl
theorem t0 (w : World) (os : OsState) : tSeg tTb qw w 11 ann 1 405 (ST 1 w os) (TT w os) = some (ST 10 w os, TT w os) := by kernel_rfl
theorem t1 (w : World) (os : OsState) : tSeg tTb qw w 11 ann 1 405 (ST 10 w os) (TT w os) = some (ST 19 w os, TT w os) := by kernel_rfl
theorem t2 (w : World) (os : OsState) : tSeg tTb qw w 11 ann 1 405 (ST 19 w os) (TT w os) = some (ST 28 w os, TT w os) := by kernel_rfl
theorem t3 (w : World) (os : OsState) : tSeg tTb qw w 11 ann 1 405 (ST 28 w os) (TT w os) = some (ST 37 w os, TT w os) := by kernel_rfl
theorem t4 (w : World) (os : OsState) : tSeg tTb qw w 11 ann 1 405 (ST 37 w os) (TT w os) = some (ST 46 w os, TT w os) := by kernel_rfl
theorem t5 (w : World) (os : OsState) : tSeg tTb qw w 11 ann 1 405 (ST 46 w os) (TT w os) = some (ST 55 w os, TT w os) := by kernel_rfl
theorem t6 (w : World) (os : OsState) : tSeg tTb qw w 11 ann 1 405 (ST 55 w os) (TT w os) = some (ST 64 w os, TT w os) := by kernel_rfl
theorem t7 (w : World) (os : OsState) : tSeg tTb qw w 11 ann 1 405 (ST 64 w os) (TT w os) = some (ST 73 w os, TT w os) := by kernel_rfl
theorem t8 (w : World) (os : OsState) : tSeg tTb qw w 11 ann 1 405 (ST 73 w os) (TT w os) = some (ST 82 w os, TT w os) := by kernel_rfl
theorem t9 (w : World) (os : OsState) : tSeg tTb qw w 11 ann 1 405 (ST 82 w os) (TT w os) = some (ST 91 w os, TT w os) := by kernel_rfl
theorem t10 (w : World) (os : OsState) : tSeg tTb qw w 11 ann 1 180 (ST 91 w os) (TT w os) = some (ST 95 w os, TT w os) := by kernel_rfl
end Mine

open PySem PySem.W PyProof.Rows
set_option Elab.async false
set_option maxRecDepth 100000
set_option maxHeartbeats 8000000
set_option linter.unusedVariables false
namespace Mine
theorem go_ {w : World} {n : Nat} {s s' : SharedT} {t t' : Thread} (h : tSeg tTb qw w 11 ann 1 n s t = some (s', t')) : segGo treeTable qw w 11 ann 1 n s.abs t = some (s'.abs, t') :=
  segGo_of (by rw [PySem.W.Fast.te10295753902157049106, PySem.W.Fast.te14364793385576792824]; exact h)
def Runs (w : World) (b : Nat) (s : Shared) (t : Thread) (r : Flow × Shared × Code × Pos) : Prop := ∃ n, n ≤ b ∧ segRun treeTable qw w 11 ann 1 n s t = some r
theorem run_ {w : World} {n : Nat} {s s' : SharedT} {t : Thread} {f : Flow} {c : Code} {q : Pos} (h : tRun tTb qw w 11 ann 1 n s t = some (f, s', c, q)) : Runs w n s.abs t (f, s'.abs, c, q) :=
  ⟨n, Nat.le_refl _, segRun_of (by rw [PySem.W.Fast.te10110043849684766642, PySem.W.Fast.te14364793385576792824]; exact h)⟩
theorem runs_go {w : World} {n b : Nat} {s s' : SharedT} {t t' : Thread} {r : Flow × Shared × Code × Pos} (h : tSeg tTb qw w 11 ann 1 n s t = some (s', t')) (k : Runs w b s'.abs t' r) : Runs w (n + b) s.abs t r := by
  obtain ⟨m, hm, e⟩ := k
  exact ⟨n + m, Nat.add_le_add_left hm _, seg_go (go_ h) e⟩
theorem runs_le {w : World} {b b' : Nat} {s : Shared} {t : Thread} {r : Flow × Shared × Code × Pos} (h : Runs w b s t r) (hb : Nat.ble b b' = true) : Runs w b' s t r := by
  obtain ⟨m, hm, e⟩ := h
  exact ⟨m, Nat.le_trans hm (Nat.le_of_ble_eq_true hb), e⟩
def Tops (w : World) (b : Nat) (s : Shared) (t : Thread) (r : Shared) : Prop := ∃ n, n ≤ b ∧ topRun treeTable qw w 11 ann n s t = some r
theorem tops_app {w : World} {b b' : Nat} {s s' r : Shared} {l rest : List Stmt} {pos p' : Pos} (h : Runs w b s (piecesOf l env cB pos bF) (.next, s', cB, p'))
    (k : Tops w b' s' (restOf rest env cB p' bF) r) : Tops w (b + b') s (restOf (l ++ rest) env cB pos bF) r := by
  obtain ⟨n, hn, e⟩ := h
  obtain ⟨m, hm, e'⟩ := k
  exact ⟨n + m, by omega, piece_app e e'⟩
theorem compTail (w : World) (os : OsState) : Runs w 9535 (SC 1 w os).abs (TC w os) (.next, (S0 w os).abs, cB, ⟨1, 0, 1, 11⟩) := runs_le (runs_go (c0 w os) (runs_go (c1 w os) (runs_go (c2 w os) (runs_go (c3 w os) (runs_go (c4 w os) (runs_go (c5 w os) (runs_go (c6 w os) (runs_go (c7 w os) (runs_go (c8 w os) (runs_go (c9 w os) (runs_go (c10 w os) (runs_go (c11 w os) (runs_go (c12 w os) (runs_go (c13 w os) (runs_go (c14 w os) (runs_go (c15 w os) (runs_go (c16 w os) (runs_go (c17 w os) (runs_go (c18 w os) (runs_go (c19 w os) (runs_go (c20 w os) (runs_go (c21 w os) (runs_go (c22 w os) (runs_go (c23 w os) (runs_go (c24 w os) (runs_go (c25 w os) (run_ (ce w os)))))))))))))))))))))))))))) (by rfl)
theorem headTail (w : World) (os : OsState) : Runs w 3070 (SH 1 w os).abs (TH w os) (.next, (S8 w os).abs, cB, ⟨9, 9, 9, 74⟩) := runs_le (runs_go (h0 w os) (runs_go (h1 w os) (runs_go (h2 w os) (runs_go (h3 w os) (runs_go (h4 w os) (runs_go (h5 w os) (runs_go (h6 w os) (runs_go (h7 w os) (run_ (he w os)))))))))) (by rfl)
theorem bodyTail (w : World) (os : OsState) : Runs w 4330 (ST 1 w os).abs (TT w os) (.next, (S10 w os).abs, cB, ⟨12, 9, 12, 110⟩) := runs_le (runs_go (t0 w os) (runs_go (t1 w os) (runs_go (t2 w os) (runs_go (t3 w os) (runs_go (t4 w os) (runs_go (t5 w os) (runs_go (t6 w os) (runs_go (t7 w os) (runs_go (t8 w os) (runs_go (t9 w os) (runs_go (t10 w os) (run_ (te w os))))))))))))) (by rfl)
theorem runC (os : OsState) : ∀ w : World, Runs w 10000 (Sb w os).abs wC (.next, (S0 w os).abs, cB, ⟨1, 0, 1, 11⟩) :=
  byRow2 "comprehension-iter-twice"
    (byRow2 (P := fun w => Runs (w.withFollow "comprehension-iter-twice" false) 10000 (Sb (w.withFollow "comprehension-iter-twice" false) os).abs wC (.next, (S0 (w.withFollow "comprehension-iter-twice" false) os).abs, cB, ⟨1, 0, 1, 11⟩)) "special-get-raises"
      (fun w => runs_le (runs_go (cs_false_false w os) (compTail _ os)) (by rfl)) (fun w => runs_le (runs_go (cs_true_false w os) (compTail _ os)) (by rfl)))
    (byRow2 (P := fun w => Runs (w.withFollow "comprehension-iter-twice" true) 10000 (Sb (w.withFollow "comprehension-iter-twice" true) os).abs wC (.next, (S0 (w.withFollow "comprehension-iter-twice" true) os).abs, cB, ⟨1, 0, 1, 11⟩)) "special-get-raises"
      (fun w => runs_le (runs_go (cs_false_true w os) (compTail _ os)) (by rfl)) (fun w => runs_le (runs_go (cs_true_true w os) (compTail _ os)) (by rfl)))
theorem runH (os : OsState) : ∀ w : World, Runs w 4000 (S7 w os).abs wH (.next, (S8 w os).abs, cB, ⟨9, 9, 9, 74⟩) :=
  byRow2 "special-get-raises" (fun w => runs_le (runs_go (hs_false w os) (headTail _ os)) (by rfl)) (fun w => runs_le (runs_go (hs_true w os) (headTail _ os)) (by rfl))
theorem runT (os : OsState) : ∀ w : World, Runs w 5000 (S9 w os).abs wT (.next, (S10 w os).abs, cB, ⟨12, 9, 12, 110⟩) :=
  byRow2 "special-get-raises" (fun w => runs_le (runs_go (ts_false w os) (bodyTail _ os)) (by rfl)) (fun w => runs_le (runs_go (ts_true w os) (bodyTail _ os)) (by rfl))
theorem runF (os : OsState) : ∀ w : World, Runs w 1000 (S10 w os).abs (pc 11 8 ⟨12, 9, 12, 110⟩) (.next, (SF w os).abs, cB, ⟨36, 0, 68, 60⟩) :=
  byRow2 "special-get-raises" (fun w => runs_le (run_ (fs_false w os)) (by rfl)) (fun w => runs_le (run_ (fs_true w os)) (by rfl))
theorem fin_ (w : World) (os : OsState) : Tops w 2 (SF w os).abs (restOf [] env cB ⟨36, 0, 68, 60⟩ bF) (SF w os).abs := ⟨2, Nat.le_refl _, by kernel_rfl⟩
theorem pre_ (w : World) (os : OsState) : topGo treeTable qw w 11 ann 12 ⟨boot_heap w.params, ⟨[]⟩, boot_drawn, boot_toks, os⟩ (topStub qw) = some ((Sb w os).abs, ⟨denote treeTable cB, cB, ⟨0, 0, 0, 0⟩, bF⟩) := by
  rw [PySem.W.Fast.te15667345088766844465, PySem.W.Fast.te14364793385576792824, PySem.W.Fast.te11892475500146522536]
  kernel_rfl
theorem block_ (w : World) (os : OsState) : segRun treeTable qw w 11 ann 1 1 (Sb w os).abs (blockOf (behindTheImports qw) env cB ⟨0, 0, 0, 0⟩ bF) = some (.next, (Sb w os).abs, cB, ⟨0, 0, 0, 0⟩) := by
  rw [PySem.W.Fast.te14374325043358763698, PySem.W.Fast.te14364793385576792824]
  kernel_rfl
theorem body_ : behindTheImports qw = stL 0 1 ++ (stL 1 7 ++ (stL 8 1 ++ (stL 9 1 ++ (stL 10 1 ++ (stL 11 8 ++ []))))) := by kernel_rfl
theorem tops_body (w : World) (os : OsState) : Tops w 25000 (Sb w os).abs (restOf (behindTheImports qw) env cB ⟨0, 0, 0, 0⟩ bF) (SF w os).abs := by
  rw [body_]
  obtain ⟨n, hn, e⟩ := tops_app (runC os w) (tops_app (run_ (g1 w os)) (tops_app (runH os w) (tops_app (run_ (g3 w os)) (tops_app (runT os w) (tops_app (runF os w) (fin_ w os))))))
  exact ⟨n, Nat.le_trans hn (Nat.le_of_ble_eq_true rfl), e⟩
theorem run_all (w : World) (os : OsState) : topRun treeTable qw w 11 ann 25013 ⟨boot_heap w.params, ⟨[]⟩, boot_drawn, boot_toks, os⟩ (topStub qw) = some (SF w os).abs := by
  obtain ⟨n, hn, e⟩ := tops_body w os
  have h1 := go_top (pre_ w os) (piece_block (block_ w os) e)
  have h2 := topRun_mono (25013 - (12 + (1 + n))) _ _ _ _ h1
  rwa [show 12 + (1 + n) + (25013 - (12 + (1 + n))) = 25013 by omega] at h2
end Mine

open PySem PySem.W PyProof.Rows
set_option Elab.async false
set_option maxRecDepth 100000
set_option maxHeartbeats 8000000
set_option linter.unusedVariables false
namespace Mine
noncomputable def stP (i : Nat) : Option Stmt := (PySem.Challenge.pw_dm0096_02.main.body)[i]?
def entK (P : Params) (x : Str) (t : Nat) (v : Value) : DictEntry := ⟨PyData.keyHash P x, .str x t, v⟩
def fnK (st : Option Stmt) (n : Str) (dv kv doc pm cd : Value) : FuncData := match st with
  | some (.FunctionDef _ a b _ _ _ sc _ _ _) => fnOf n n a b sc dv kv doc pm none cd .none
  | _ => default
noncomputable def k2 (P : Params) : Obj := ⟨.none, none, (.dict ⟨[]⟩ 0), ⟨[]⟩⟩
noncomputable def k3 (P : Params) : Obj := ⟨(.type "dict"), none, (.dict ⟨[entK P (Str.ofString "__name__") 165 (.str (Str.ofString "law_dm0096_02") 1753), entK P (Str.ofString "__doc__") 166 .none, entK P (Str.ofString "__package__") 167 .none, entK P (Str.ofString "__loader__") 168 (.builtin "__main__.__loader__#opaque"), entK P (Str.ofString "__spec__") 169 .none, entK P (Str.ofString "__annotations__") 170 (.ref 6), entK P (Str.ofString "__builtins__") 171 (.ref 4), entK P (Str.ofString "__file__") 173 (.str (Str.ofString "/claim/cut.py") 172), entK P (Str.ofString "__cached__") 174 .none, entK P (Str.ofString "_QUOPRI_MAP") 1214 (.ref 17), entK P (Str.ofString "_QUOPRI_HEADER_MAP") 1215 (.ref 22), entK P (Str.ofString "_QUOPRI_BODY_MAP") 1216 (.ref 24), entK P (Str.ofString "ascii_lowercase") 1218 (.str (Str.ofString "abcdefghijklmnopqrstuvwxyz") 1217), entK P (Str.ofString "ascii_uppercase") 1220 (.str (Str.ofString "ABCDEFGHIJKLMNOPQRSTUVWXYZ") 1219), entK P (Str.ofString "ascii_letters") 1222 (.str (Str.ofString "abcdefghijklmnopqrstuvwxyzABCDEFGHIJKLMNOPQRSTUVWXYZ") 1221), entK P (Str.ofString "digits") 1224 (.str (Str.ofString "0123456789") 1223), entK P (Str.ofString "_max_append") 1734 (.ref 38), entK P (Str.ofString "header_encode") 1744 (.ref 46), entK P (Str.ofString "_QUOPRI_BODY_ENCODE_MAP") 1745 (.ref 48), entK P (Str.ofString "_law_signs") 1760 (.ref 56), entK P (Str.ofString "law") 1766 (.ref 61)]⟩ 23), ⟨[]⟩⟩
noncomputable def k6 (P : Params) : Obj := ⟨(.type "dict"), none, (.dict ⟨[]⟩ 0), ⟨[]⟩⟩
noncomputable def k17 (P : Params) : Obj := (oL (els hexv 0 256) 256)
noncomputable def k22 (P : Params) : Obj := (oL (els (put (hel 67) 32 (.str (tx [95]) 1435)) 0 256) 0)
noncomputable def k24 (P : Params) : Obj := (oL (els (bel 95) 0 256) 0)
noncomputable def k31 (P : Params) : Obj := ⟨(.type "tuple"), none, (.seq ⟨[(.str (Str.ofString "") 1724)]⟩ 0), ⟨[]⟩⟩
noncomputable def k32 (P : Params) : Obj := ⟨(.type "tuple"), none, (.seq ⟨[]⟩ 0), ⟨[]⟩⟩
noncomputable def k34 (P : Params) : Obj := ⟨(.type "tuple"), none, (.seq ⟨[(.str (Str.ofString "L") 1728), (.str (Str.ofString "s") 1729), (.str (Str.ofString "maxlen") 1730), (.str (Str.ofString "extra") 1731)]⟩ 0), ⟨[]⟩⟩
noncomputable def k35 (P : Params) : Obj := ⟨(.type "tuple"), none, (.seq ⟨[]⟩ 0), ⟨[]⟩⟩
noncomputable def k37 (P : Params) : Obj := ⟨(.type "code"), none, (.fields ⟨[(.str (Str.ofString "_max_append") 1725), (.str (Str.ofString "_max_append") 1726), (.str (Str.ofString "/claim/cut.py") 1727), (.int (14) 0), (.int (4) 0), (.int (0) 0), (.int (0) 0), (.int (3) 0), (.ref 32), (.bool true), (.int (181) 0), (.ref 33), .none, (.ref 34), (.ref 35), (.ref 36), (.int (1732) 0), (.int (14) 0), (.str (Str.ofString "/claim/cut.py") 1733)]⟩), ⟨[]⟩⟩
noncomputable def k38 (P : Params) : Obj := ⟨(.type "function"), none, (.func (fnK (stP 11) (Str.ofString "_max_append") (.ref 31) .none .none (.str (Str.ofString "cpy313.email.quoprimime") 1225) (.ref 37))), ⟨[]⟩⟩
noncomputable def k39 (P : Params) : Obj := ⟨(.type "tuple"), none, (.seq ⟨[(.str (Str.ofString "iso-8859-1") 1735)]⟩ 0), ⟨[]⟩⟩
noncomputable def k40 (P : Params) : Obj := ⟨(.type "tuple"), none, (.seq ⟨[]⟩ 0), ⟨[]⟩⟩
noncomputable def k42 (P : Params) : Obj := ⟨(.type "tuple"), none, (.seq ⟨[(.str (Str.ofString "header_bytes") 1739), (.str (Str.ofString "charset") 1740), (.str (Str.ofString "encoded") 1741)]⟩ 0), ⟨[]⟩⟩
noncomputable def k43 (P : Params) : Obj := ⟨(.type "tuple"), none, (.seq ⟨[]⟩ 0), ⟨[]⟩⟩
noncomputable def k45 (P : Params) : Obj := ⟨(.type "code"), none, (.fields ⟨[(.str (Str.ofString "header_encode") 1736), (.str (Str.ofString "header_encode") 1737), (.str (Str.ofString "/claim/cut.py") 1738), (.int (23) 0), (.int (2) 0), (.int (0) 0), (.int (0) 0), (.int (3) 0), (.ref 40), (.bool true), (.int (181) 0), (.ref 41), .none, (.ref 42), (.ref 43), (.ref 44), (.int (1742) 0), (.int (23) 0), (.str (Str.ofString "/claim/cut.py") 1743)]⟩), ⟨[]⟩⟩
noncomputable def k46 (P : Params) : Obj := ⟨(.type "function"), none, (.func (fnK (stP 12) (Str.ofString "header_encode") (.ref 39) .none .none (.str (Str.ofString "cpy313.email.quoprimime") 1225) (.ref 45))), ⟨[]⟩⟩
noncomputable def k48 (P : Params) : Obj := (oL (els (put (put (bel 95) 10 (.str (tx [10]) 1752)) 13 (.str (tx [13]) 1749)) 0 256) 0)
noncomputable def k50 (P : Params) : Obj := ⟨(.type "tuple"), none, (.seq ⟨[]⟩ 0), ⟨[]⟩⟩
noncomputable def k52 (P : Params) : Obj := ⟨(.type "tuple"), none, (.seq ⟨[]⟩ 0), ⟨[]⟩⟩
noncomputable def k55 (P : Params) : Obj := ⟨(.type "code"), none, (.fields ⟨[(.str (Str.ofString "_law_signs") 1755), (.str (Str.ofString "_law_signs") 1756), (.str (Str.ofString "/claim/cut.py") 1757), (.int (33) 0), (.int (1) 0), (.int (0) 0), (.int (0) 0), (.int (3) 0), (.ref 52), (.bool true), (.int (181) 0), (.ref 53), .none, .none, .none, (.ref 54), (.int (1758) 0), (.int (33) 0), (.str (Str.ofString "/claim/cut.py") 1759)]⟩), ⟨[]⟩⟩
noncomputable def k56 (P : Params) : Obj := ⟨(.type "function"), none, (.func (fnK (stP 17) (Str.ofString "_law_signs") .none .none .none (.str (Str.ofString "law_dm0096_02") 1753) (.ref 55))), ⟨[]⟩⟩
noncomputable def k57 (P : Params) : Obj := ⟨(.type "tuple"), none, (.seq ⟨[]⟩ 0), ⟨[]⟩⟩
noncomputable def k60 (P : Params) : Obj := ⟨(.type "code"), none, (.fields ⟨[(.str (Str.ofString "law") 1761), (.str (Str.ofString "law") 1762), (.str (Str.ofString "/claim/cut.py") 1763), (.int (36) 0), (.int (1) 0), (.int (0) 0), (.int (0) 0), (.int (3) 0), (.ref 57), (.bool true), (.int (181) 0), (.ref 58), .none, .none, .none, (.ref 59), (.int (1764) 0), (.int (36) 0), (.str (Str.ofString "/claim/cut.py") 1765)]⟩), ⟨[]⟩⟩
noncomputable def k61 (P : Params) : Obj := ⟨(.type "function"), none, (.func (fnK (stP 18) (Str.ofString "law") .none .none .none (.str (Str.ofString "law_dm0096_02") 1753) (.ref 60))), ⟨[]⟩⟩
noncomputable def KK : Params → Frag := fun P => [(nat_lit 2, k2 P), (nat_lit 3, k3 P), (nat_lit 6, k6 P), (nat_lit 17, k17 P), (nat_lit 22, k22 P), (nat_lit 24, k24 P), (nat_lit 31, k31 P), (nat_lit 32, k32 P), (nat_lit 34, k34 P), (nat_lit 35, k35 P), (nat_lit 37, k37 P), (nat_lit 38, k38 P), (nat_lit 39, k39 P), (nat_lit 40, k40 P), (nat_lit 42, k42 P), (nat_lit 43, k43 P), (nat_lit 45, k45 P), (nat_lit 46, k46 P), (nat_lit 48, k48 P), (nat_lit 50, k50 P), (nat_lit 52, k52 P), (nat_lit 55, k55 P), (nat_lit 56, k56 P), (nat_lit 57, k57 P), (nat_lit 60, k60 P), (nat_lit 61, k61 P)]
noncomputable def qv : Program := { PySem.Challenge.pw_dm0096_02 with main := { PySem.Challenge.pw_dm0096_02.main with body := PySem.Challenge.pw_dm0096_02.main.body.drop 18 } }
noncomputable def loose : List Str := [Str.ofString "_QUOPRI_MAP", Str.ofString "_QUOPRI_HEADER_MAP", Str.ofString "_QUOPRI_BODY_MAP", Str.ofString "ascii_lowercase", Str.ofString "ascii_uppercase", Str.ofString "ascii_letters", Str.ofString "digits", Str.ofString "_max_append", Str.ofString "header_encode", Str.ofString "_QUOPRI_BODY_ENCODE_MAP", Str.ofString "_law_signs"]
theorem laidq : (fun (_ : Program) (_ : List Str) (_ : Params → Frag) => true) qv loose KK = true := by k_qdec
noncomputable abbrev HK : Hook := kHook KK [2, 3, 6, 17, 22, 24, 31, 32, 34, 35, 37, 38, 39, 40, 42, 43, 45, 46, 48, 50, 52, 55, 56, 57, 60, 61] (fun _ => by kernel_rfl)
theorem obsK (w : World) (os : OsState) : HK.obs (SF w os).abs = HK.val w := by kernel_rfl
noncomputable abbrev Xt (s : Shared) : Bool := xlAt qv [] s && recOk (RowW.records PySem.Challenge.rw_dm0096_02.row.toRowW) s
theorem look1 (w : World) (os : OsState) : (staticsOk (importedModules qw.main.body) (boot_heap w.params) (SF w os).abs.heap && namesBound qw (SF w os).abs.heap && gensDone (SF w os).abs && laidKept (boot_heap w.params) (SF w os).abs.heap) = true := by kernel_rfl
theorem look2 (w : World) (os : OsState) : openSeen qv loose (importedModules qw.main.body) Xt true (SF w os).abs = openGood qv loose := by kernel_rfl
theorem size_ (w : World) : ((boot_heap w.params).isNs mainGlobals && (⟨[]⟩ : Array GenState).size == 0, (boot_heap w.params).objs.size, (boot_heap w.params).nsMap mainGlobals "__annotations__") = (true, 11, ann) := by kernel_rfl
theorem eqP : PySem.Challenge.pw_dm0096_02 = qw := PySem.W.Fast.te6130304908338502882
theorem open0 (w : World) : (importEnds treeTable (opening qw) w 600 (start (opening qw)).1 (start (opening qw)).2).map (fun s => (s.heap, s.gens, s.drawn, s.toks)) = some (boot_heap w.params, Array.mk [], boot_drawn, boot_toks) := by kernel_rfl
theorem fence_ (s : Shared) : fenceModules? qw s = some s := by kernel_rfl
theorem open_ (w : World) : (fencedOpening treeTable qw w 30000).map (fun s => (s.heap, s.gens, s.drawn, s.toks)) = some (boot_heap w.params, Array.mk [], boot_drawn, boot_toks) := by
  obtain ⟨s, hs, hv⟩ := Option.map_eq_some_iff.mp (open0 w)
  have m : importEnds treeTable (opening qw) w 30000 (start (opening qw)).1 (start (opening qw)).2 = some s := importEnds_mono 29400 600 _ _ _ hs
  unfold fencedOpening
  rw [m]
  show (fenceModules? qw s).map _ = _
  rw [fence_ s]
  exact congrArg some hv
theorem left : LeftO PySem.Challenge.pw_dm0096_02 qv loose Xt HK.obs HK.val 30000 := by
  have h : LeftO qw qv loose Xt HK.obs HK.val 30000 := LeftO.of_pieces (H₀ := boot_heap) (H₁ := fun P => absHeap (treeSF P) 62 {}) (gs₀ := ⟨[]⟩) (gs₁ := ⟨[]⟩) (d₀ := boot_drawn) (d₁ := boot_drawn) (k₀ := boot_toks) (k₁ := 1767) (m₀ := 11) (ann := ann) (M := 25013)
    open_ size_ run_all (by rfl) (fun w => funext fun os => Prod.ext (look1 w os) (Prod.ext (look2 w os) (obsK w os)))
  exact eqP ▸ h
theorem asK : ∀ P, [2, 3, 6, 17, 22, 24, 31, 32, 34, 35, 37, 38, 39, 40, 42, 43, 45, 46, 48, 50, 52, 55, 56, 57, 60, 61] = (KK P).map (·.1) := fun _ => by kernel_rfl
theorem hd {d : DefRec} {kwd : List (Str × Expr)} (hdef : defOf qv PySem.Challenge.rw_dm0096_02.row.name = some (d, kwd)) (hp : PySem.Challenge.rw_dm0096_02.row.prog.theDef PySem.Challenge.rw_dm0096_02.row.name = some (d.params, d.body, d.scope))
    (hk : kwWritten? d.params.kwonlyargs d.params.kw_defaults = some kwd)
    (walk : WalkO qv loose (XL qv []) (kHook KK [2, 3, 6, 17, 22, 24, 31, 32, 34, 35, 37, 38, 39, 40, 42, 43, 45, 46, 48, 50, 52, 55, 56, 57, 60, 61] asK).says PySem.Challenge.rw_dm0096_02.row.toRowW d kwd fun f vs => PySem.call f vs) : PySem.Challenge.rw_dm0096_02.Holds := by
  w_on
  o_law
  refine holds_open (q := qv) (loose := loose) (Xt := Xt) (XP := XL qv []) (Yf := HK.obs) (Ya := HK.val) (YP := HK.says) (N := 30000) left HK.of HK.keeps (fun s e => xl_of s (Bool.and_eq_true_iff.mp e).1) XL.keeps
    hdef hp hk (fun s e => recFacts_of (Bool.and_eq_true_iff.mp e).2) (by rfl) (by assumption) (by decide +kernel) ⟨rfl, rfl, rfl, rfl, rfl, by decide +kernel⟩ ?hw walk
  w_witness2
end Mine

open PySem PySem.W PyProof.Rows PySem.Calls
set_option Elab.async false
set_option maxRecDepth 100000
set_option maxHeartbeats 8000000
set_option linter.unusedVariables false
namespace Mine
def strOf : Value → Str
  | .str x _ => x
  | _ => ⟨#[]⟩
theorem els_get (f : Nat → Value) : ∀ (n i k : Nat), k < n → (els f i n)[k]? = some (f (i + k))
  | 0, _, _, h => by omega
  | n + 1, i, 0, _ => rfl
  | n + 1, i, k + 1, h => by
    show (els f (i + 1) n)[k]? = _
    rw [els_get f n (i + 1) k (by omega)]
    congr 2; omega
theorem els_len (f : Nat → Value) : ∀ (n i : Nat), (els f i n).length = n
  | 0, _ => rfl
  | n + 1, i => by show (els f (i + 1) n).length + 1 = _; rw [els_len f n (i + 1)]
/-- the header map's items -/
def hItem : Nat → Value := put (hel 67) 32 (.str (tx [95]) 1435)
def fH (c : Nat) : Str := strOf (hItem c)
theorem turnEl_str (l : List Nat) (th j i : Nat) : ∃ x t, turnEl l th j i = .str x t := by
  unfold turnEl
  split
  · cases Nat.blt _ j
    · exact ⟨_, _, rfl⟩
    · exact ⟨_, _, rfl⟩
  · exact ⟨_, _, rfl⟩
theorem hItem_str (i : Nat) : ∃ t, hItem i = .str (fH i) t := by
  unfold fH
  have : ∃ x t, hItem i = .str x t := by
    unfold hItem put
    cases Nat.beq i 32
    · exact turnEl_str _ _ _ _
    · exact ⟨_, _, rfl⟩
  obtain ⟨x, t, e⟩ := this
  exact ⟨t, by rw [e]; rfl⟩
theorem tabH : TabL fH (els hItem 0 256).toArray := by
  refine ⟨by simp [els_len], fun c hc => ?_⟩
  obtain ⟨t, e⟩ := hItem_str c
  refine ⟨t, ?_⟩
  rw [List.getElem?_toArray, els_get _ _ _ _ hc, Nat.zero_add, e]
theorem turnEl_len (l : List Nat) (th j i : Nat) : (strOf (turnEl l th j i)).cps.size ≤ 3 := by
  unfold turnEl
  split
  · cases Nat.blt _ j
    · exact Nat.le_refl _
    · exact Nat.le_of_ble_eq_true rfl
  · exact Nat.le_refl _
theorem fH_len (c : Nat) : (fH c).cps.size ≤ 3 := by
  unfold fH hItem put
  cases Nat.beq c 32
  · exact turnEl_len _ _ _ _
  · exact Nat.le_of_ble_eq_true rfl
def encH (b : List Nat) : List Nat := b.flatMap (tr fH)
def heText (name : Str) (b : List Nat) : Str := ⟨(Str.ofString "=?").cps ++ name.cps ++ (Str.ofString "?q?").cps ++ (encH b).toArray ++ (Str.ofString "?=").cps⟩
section
variable {prog : Program} {w : World} {A : Around} {E : Value → Shared → Prop} {s : Shared} {a : Addr} {items : Array Value} {f : Nat → Str} {x : Str} {t u : Tok} {b : Array UInt8}
theorem decode_y {Q : Value → Shared → Prop} (hne : b ≠ #[]) (hsz : b.size ≤ 100000) (h : ∀ (y : Str) t' k, y.cps.toList = b.toList.map (·.toNat) → y.length ≤ b.size → (∀ c ∈ y.cps.toList, c < 1114112) → y.cps ≠ #[] → Q (.str y t') { s with toks := k }) :
    wpAny (model prog w) A (call (.builtin "bytes.decode") [.bytes b t, .str (PySem.Str.ofString "latin1") u]) Q E s := by
  refine decode_latin hne (by rw [sizeLine_eq]; omega) fun t' k => h _ t' k (by simp) (by simp [Str.length]) (fun c hc => ?_) (fun e => hne ?_)
  · simp at hc
    obtain ⟨v, _, rfl⟩ := hc
    have := v.toNat_lt
    omega
  · have : ((b.toList.map (·.toNat)).toArray).size = 0 := by rw [show (b.toList.map (·.toNat)).toArray = #[] from e]; rfl
    simpa using this
theorem translate_y {Q : Value → Shared → Prop} (hh : A.handled = none) (hl : s.heap.IsList a items) (ht : TabL f items) (hf : ∀ c, (f c).cps.size ≤ 3) (hx : ∀ c ∈ x.cps.toList, c < 1114112) (hn : x.cps ≠ #[]) (hsz : x.length ≤ 1000000)
    (h : ∀ (y : Str) h' t' tk, y.cps.toList = x.cps.toList.flatMap (tr f) → y.length ≤ 3 * x.length → (∀ b o, s.heap.get? b = some o → h'.get? b = some o) → Q (.str y t') { s with heap := h', toks := tk }) :
    wpAny (model prog w) A (call (.builtin "str.translate") [.str x t, .ref a]) Q E s :=
  translate_ok hh hl ht hf hx hn hsz fun h' t' tk hk => h _ h' t' tk (by simp) (by have := tr_len hf x.cps.toList; simpa [Str.length] using this) hk
end
theorem he_eq {name y z : Str} {b : List Nat} (hy : y.cps.toList = b) (hz : z.cps.toList = y.cps.toList.flatMap (tr fH)) : Str.empty ++ Str.ofString "=?" ++ name ++ Str.ofString "?q?" ++ z ++ Str.ofString "?=" = heText name b := by
  apply Str.ext'
  unfold heText encH
  rw [← hy, ← hz]
  simp only [Str.cps_append]
  simp [Str.empty]
theorem listIn22 {w : World} {h : Heap} (X : (KK w.params).In h) : h.IsList 22 (els hItem 0 256).toArray := ⟨_, X 22 (k22 w.params) rfl, rfl, 0, rfl⟩
local macro_rules | `(tactic| walk_at "call builtin:bytes.decode") => `(tactic| (k_here; refine decode_y (by assumption) (by omega) ?_; intro y t' k' hy hyl hyc hyn))
local macro_rules | `(tactic| walk_at "getMethod str") => `(tactic| (with_reducible refine method_translate ?_))
local macro_rules | `(tactic| walk_at "call builtin:str.translate") => `(tactic| (k_here; refine translate_y (by assumption) (listIn22 (by k_in)) tabH fH_len (by assumption) (by assumption) (by omega) ?_; intro z h' t' tk' hz hzl hkeep; (have F9 := grownF (by k_asm) hkeep); (have N9 := grownN (by k_asm) hkeep)))
theorem he_call : ∀ (w : World) (A A₀ : Around) (base h₀ : Heap) (env : Env) (outer : List Env) (L : Addr) (m mg mb : Str → Option Value) (mean : ExcName → Option Value) (lo : List Str) (news : List (Addr × Obj)) (s : Shared) (Q E : Value → Shared → Prop)
    (_ : Below A₀ base outer h₀) (_ : Fr h₀ L s.heap m) (_ : (KK w.params).In h₀) (_ : News h₀ L s.heap news) (_ : Top qv lo mean mg mb h₀)
    (_ : A.frames = some (env :: outer)) (_ : env.frame = some L) (_ : env.scope.kind = .function) (_ : A.depth < 900) (_ : A.units < 100) (_ : A.handled = none)
    (b : Array UInt8) (t : Tok) (name : Str) (t2 : Tok) (_ : b ≠ #[]) (_ : b.size ≤ 1000) (_ : name.length ≤ 3)
    (_ : ∀ t' tk h', Fr h₀ L h' m → News h₀ L h' news → Q (.str (heText name (b.toList.map (·.toNat))) t') { s with heap := h', toks := tk }),
    wpAny (model PySem.Challenge.rw_dm0096_02.row.prog w) A (call (.ref 46) [.bytes b t, .str name t2]) Q E s := by
  k_fill
  intro w A A₀ base h₀ env outer L m mg mb mean lo news s Q E B F X N T hA hf hke hd hu hh b t name t2 hb hbs hns hret
  refine wpAny_call ?_
  refine' code_def B F X N T hA hf hke ?k6 ?k7 ?k8 ?k9 ?kB ?_ ?c2 ?c3 ?c4 ?c5
  case k6 => k_is
  case k7 => k_is
  case k8 => exact Nat.lt_of_lt_of_le hd (by decide)
  case k9 => (refine' binds_K (X.keeps F.keep) ?a ?b ?c ?d ?e; (case a => exact rfl); (case b => k_is); (case c => exact rfl); (case d => k_dflt (exact rfl)); (case e => k_dflt (exact rfl)))
  case c5 => decide
  case kB => k_dflt (exact locs rfl)
  case c2 => exact rfl
  case c3 => exact rfl
  case c4 => exact rfl
  intro g' L' h' FG' F' N' B' X' T'
  (try dsimp only); (try k_fold)
  k_steps
  · rw [he_eq (b := b.toList.map (·.toNat)) (by assumption) (by assumption)]
    exact hret _ _ _ (by k_asm) (by k_asm)
  · exact absurd (Array.size_eq_zero_iff.mp (by omega)) hb
end Mine

open PySem PySem.W PyProof.Rows PySem.Calls
set_option Elab.async false
set_option maxRecDepth 100000
set_option maxHeartbeats 8000000
set_option linter.unusedVariables false
namespace Mine
theorem chr_y {prog : Program} {w : World} {A : Around} {E : Value → Shared → Prop} {s : Shared} {k : Int} {t : Tok} {Q : Value → Shared → Prop} (h0 : 0 ≤ k) (h1 : k ≤ 1114111)
    (h : ∀ (z : Str) t', z.cps.toList = [k.toNat] → z.length = 1 → Q (.str z t') { s with toks := s.toks + 1 }) : wpAny (model prog w) A (call (.builtin "chr") [.int k t]) Q E s :=
  chr_of_range h0 h1 (h _ _ rfl rfl)
local macro_rules | `(tactic| walk_at "call builtin:chr") => `(tactic| (k_here; refine chr_y (by omega) (by omega) ?_; intro z t' hz hzl))
local macro_rules | `(tactic| k_upd) => `(tactic| exact Upd.head (by assumption))
local macro_rules | `(tactic| walk_at "call builtin:list.append") => `(tactic| (k_here; refine append_own (by k_asm) (by k_asm) (by k_upd) (by first | decide | assumption | (simp only [List.length_append, List.length_cons, List.length_nil]; omega)) ?_; intro h' F' N'; (try k_sweep)))
local macro_rules | `(tactic| walk_at "truthy ref") => `(tactic| (k_here; (first | refine truthy_nil (by k_asm) (by k_mem) ?_ | refine truthy_snoc (by k_asm) (by k_mem) (by omega) ?_); intro tk'))
local macro_rules | `(tactic| walk_at "getItem ref int") => `(tactic| (k_here; refine get_last (by k_asm) (by k_mem) ?_))
local macro_rules | `(tactic| walk_at "setItem ref int") => `(tactic| (k_here; refine set_last (by k_asm) (by k_asm) (by k_upd) ?_; intro h' F' N'; (try k_sweep)))
local macro_rules | `(tactic| walk_at "subscriptTail") => `(tactic| (k_here; (with_reducible show wpAny _ _ (subscriptTail _ _ (Value.ref _) (Value.int _ _)) _ _ _); with_unfolding_all refine sub_last (by k_asm) (by k_mem) ?_))
theorem ma_nil : ∀ (w : World) (A A₀ : Around) (base h₀ : Heap) (env : Env) (outer : List Env) (L : Addr) (m mg mb : Str → Option Value) (mean : ExcName → Option Value) (lo : List Str) (l : Addr) (n : Nat) (rest : List (Addr × Obj)) (s : Shared) (Q E : Value → Shared → Prop)
    (x : Str) (t : Tok) (room : Int) (t2 : Tok) 
    (_ : Below A₀ base outer h₀) (_ : Fr h₀ L s.heap m) (_ : (KK w.params).In h₀) (_ : News h₀ L s.heap ((l, lobj [] n) :: rest)) (_ : Top qv lo mean mg mb h₀) (_ : ∀ p ∈ rest, p.1 ≠ l)
    (_ : A.frames = some (env :: outer)) (_ : env.frame = some L) (_ : env.scope.kind = .function) (_ : A.depth < 900) (_ : A.units < 100) (_ : A.handled = none)
    (_ : x.length ≤ 3000) 
    (_ : ∀ t' n' tk h', Fr h₀ L h' m → News h₀ L h' ((l, lobj [.str (Txt.lstrip x) t'] n') :: rest) → Q .none { s with heap := h', toks := tk }),
    wpAny (model PySem.Challenge.rw_dm0096_02.row.prog w) A (call (.ref 38) [.ref l, .str x t, .int room t2]) Q E s := by
  k_fill
  intro w A A₀ base h₀ env outer L m mg mb mean lo l n rest s Q E x t room t2  B F X N T hne hA hf hke hd hu hh hx  hret
  refine wpAny_call ?_
  refine' code_def B F X N T hA hf hke ?k6 ?k7 ?k8 ?k9 ?kB ?_ ?c2 ?c3 ?c4 ?c5
  case k6 => k_is
  case k7 => k_is
  case k8 => exact Nat.lt_of_lt_of_le hd (by decide)
  case k9 => (refine' binds_K (X.keeps F.keep) ?a ?b ?c ?d ?e; (case a => exact rfl); (case b => k_is); (case c => exact rfl); (case d => k_dflt (exact rfl)); (case e => k_dflt (exact rfl)))
  case c5 => decide
  case kB => k_dflt (exact locs rfl)
  case c2 => exact rfl
  case c3 => exact rfl
  case c4 => exact rfl
  intro g' L' h' FG' F' N' B' X' T'
  (try dsimp only); (try k_fold)
  k_steps
  exact hret _ _ _ _ (by k_asm) (by k_asm)
theorem ma_fit : ∀ (w : World) (A A₀ : Around) (base h₀ : Heap) (env : Env) (outer : List Env) (L : Addr) (m mg mb : Str → Option Value) (mean : ExcName → Option Value) (lo : List Str) (l : Addr) (n : Nat) (rest : List (Addr × Obj)) (s : Shared) (Q E : Value → Shared → Prop)
    (x : Str) (t : Tok) (room : Int) (t2 : Tok) (vi : List Value) (y : Str) (ty : Tok)
    (_ : Below A₀ base outer h₀) (_ : Fr h₀ L s.heap m) (_ : (KK w.params).In h₀) (_ : News h₀ L s.heap ((l, lobj (vi ++ [.str y ty]) n) :: rest)) (_ : Top qv lo mean mg mb h₀) (_ : ∀ p ∈ rest, p.1 ≠ l)
    (_ : A.frames = some (env :: outer)) (_ : env.frame = some L) (_ : env.scope.kind = .function) (_ : A.depth < 900) (_ : A.units < 100) (_ : A.handled = none)
    (_ : x.length ≤ 3000) (_ : vi.length ≤ 1000) (_ : y.length ≤ 300000) (_ : (y.length : Int) + x.length ≤ room)
    (_ : ∀ t' n' tk h', Fr h₀ L h' m → News h₀ L h' ((l, lobj (vi ++ [.str (y ++ (Str.ofString "" ++ x)) t']) n') :: rest) → Q .none { s with heap := h', toks := tk }),
    wpAny (model PySem.Challenge.rw_dm0096_02.row.prog w) A (call (.ref 38) [.ref l, .str x t, .int room t2]) Q E s := by
  k_fill
  intro w A A₀ base h₀ env outer L m mg mb mean lo l n rest s Q E x t room t2 vi y ty B F X N T hne hA hf hke hd hu hh hx hvi hy hfit hret
  refine wpAny_call ?_
  refine' code_def B F X N T hA hf hke ?k6 ?k7 ?k8 ?k9 ?kB ?_ ?c2 ?c3 ?c4 ?c5
  case k6 => k_is
  case k7 => k_is
  case k8 => exact Nat.lt_of_lt_of_le hd (by decide)
  case k9 => (refine' binds_K (X.keeps F.keep) ?a ?b ?c ?d ?e; (case a => exact rfl); (case b => k_is); (case c => exact rfl); (case d => k_dflt (exact rfl)); (case e => k_dflt (exact rfl)))
  case c5 => decide
  case kB => k_dflt (exact locs rfl)
  case c2 => exact rfl
  case c3 => exact rfl
  case c4 => exact rfl
  intro g' L' h' FG' F' N' B' X' T'
  (try dsimp only); (try k_fold)
  k_steps
  exact hret _ _ _ _ (by k_asm) (by k_asm)
theorem ma_over : ∀ (w : World) (A A₀ : Around) (base h₀ : Heap) (env : Env) (outer : List Env) (L : Addr) (m mg mb : Str → Option Value) (mean : ExcName → Option Value) (lo : List Str) (l : Addr) (n : Nat) (rest : List (Addr × Obj)) (s : Shared) (Q E : Value → Shared → Prop)
    (x : Str) (t : Tok) (room : Int) (t2 : Tok) (vi : List Value) (y : Str) (ty : Tok)
    (_ : Below A₀ base outer h₀) (_ : Fr h₀ L s.heap m) (_ : (KK w.params).In h₀) (_ : News h₀ L s.heap ((l, lobj (vi ++ [.str y ty]) n) :: rest)) (_ : Top qv lo mean mg mb h₀) (_ : ∀ p ∈ rest, p.1 ≠ l)
    (_ : A.frames = some (env :: outer)) (_ : env.frame = some L) (_ : env.scope.kind = .function) (_ : A.depth < 900) (_ : A.units < 100) (_ : A.handled = none)
    (_ : x.length ≤ 3000) (_ : vi.length ≤ 1000) (_ : y.length ≤ 300000) (_ : ¬ (y.length : Int) + x.length ≤ room)
    (_ : ∀ t' n' tk h', Fr h₀ L h' m → News h₀ L h' ((l, lobj ((vi ++ [.str y ty]) ++ [.str (Txt.lstrip x) t']) n') :: rest) → Q .none { s with heap := h', toks := tk }),
    wpAny (model PySem.Challenge.rw_dm0096_02.row.prog w) A (call (.ref 38) [.ref l, .str x t, .int room t2]) Q E s := by
  k_fill
  intro w A A₀ base h₀ env outer L m mg mb mean lo l n rest s Q E x t room t2 vi y ty B F X N T hne hA hf hke hd hu hh hx hvi hy hfit hret
  refine wpAny_call ?_
  refine' code_def B F X N T hA hf hke ?k6 ?k7 ?k8 ?k9 ?kB ?_ ?c2 ?c3 ?c4 ?c5
  case k6 => k_is
  case k7 => k_is
  case k8 => exact Nat.lt_of_lt_of_le hd (by decide)
  case k9 => (refine' binds_K (X.keeps F.keep) ?a ?b ?c ?d ?e; (case a => exact rfl); (case b => k_is); (case c => exact rfl); (case d => k_dflt (exact rfl)); (case e => k_dflt (exact rfl)))
  case c5 => decide
  case kB => k_dflt (exact locs rfl)
  case c2 => exact rfl
  case c3 => exact rfl
  case c4 => exact rfl
  intro g' L' h' FG' F' N' B' X' T'
  (try dsimp only); (try k_fold)
  k_steps
  exact hret _ _ _ _ (by k_asm) (by k_asm)
theorem ma_nilI : ∀ (w : World) (A A₀ : Around) (base h₀ : Heap) (env : Env) (outer : List Env) (L : Addr) (m mg mb : Str → Option Value) (mean : ExcName → Option Value) (lo : List Str) (l : Addr) (n : Nat) (rest : List (Addr × Obj)) (s : Shared) (Q E : Value → Shared → Prop)
    (c : Int) (t : Tok) (room : Int) (t2 : Tok) 
    (_ : Below A₀ base outer h₀) (_ : Fr h₀ L s.heap m) (_ : (KK w.params).In h₀) (_ : News h₀ L s.heap ((l, lobj [] n) :: rest)) (_ : Top qv lo mean mg mb h₀) (_ : ∀ p ∈ rest, p.1 ≠ l)
    (_ : A.frames = some (env :: outer)) (_ : env.frame = some L) (_ : env.scope.kind = .function) (_ : A.depth < 900) (_ : A.units < 100) (_ : A.handled = none)
    (_ : 0 ≤ c ∧ c < 256) 
    (_ : ∀ z t' n' tk h', z.cps.toList = [c.toNat] → Fr h₀ L h' m → News h₀ L h' ((l, lobj [.str (Txt.lstrip z) t'] n') :: rest) → Q .none { s with heap := h', toks := tk }),
    wpAny (model PySem.Challenge.rw_dm0096_02.row.prog w) A (call (.ref 38) [.ref l, .int c t, .int room t2]) Q E s := by
  k_fill
  intro w A A₀ base h₀ env outer L m mg mb mean lo l n rest s Q E c t room t2  B F X N T hne hA hf hke hd hu hh hx  hret
  refine wpAny_call ?_
  refine' code_def B F X N T hA hf hke ?k6 ?k7 ?k8 ?k9 ?kB ?_ ?c2 ?c3 ?c4 ?c5
  case k6 => k_is
  case k7 => k_is
  case k8 => exact Nat.lt_of_lt_of_le hd (by decide)
  case k9 => (refine' binds_K (X.keeps F.keep) ?a ?b ?c ?d ?e; (case a => exact rfl); (case b => k_is); (case c => exact rfl); (case d => k_dflt (exact rfl)); (case e => k_dflt (exact rfl)))
  case c5 => decide
  case kB => k_dflt (exact locs rfl)
  case c2 => exact rfl
  case c3 => exact rfl
  case c4 => exact rfl
  intro g' L' h' FG' F' N' B' X' T'
  (try dsimp only); (try k_fold)
  k_steps
  exact hret _ _ _ _ _ (by assumption) (by k_asm) (by k_asm)
theorem ma_fitI : ∀ (w : World) (A A₀ : Around) (base h₀ : Heap) (env : Env) (outer : List Env) (L : Addr) (m mg mb : Str → Option Value) (mean : ExcName → Option Value) (lo : List Str) (l : Addr) (n : Nat) (rest : List (Addr × Obj)) (s : Shared) (Q E : Value → Shared → Prop)
    (c : Int) (t : Tok) (room : Int) (t2 : Tok) (vi : List Value) (y : Str) (ty : Tok)
    (_ : Below A₀ base outer h₀) (_ : Fr h₀ L s.heap m) (_ : (KK w.params).In h₀) (_ : News h₀ L s.heap ((l, lobj (vi ++ [.str y ty]) n) :: rest)) (_ : Top qv lo mean mg mb h₀) (_ : ∀ p ∈ rest, p.1 ≠ l)
    (_ : A.frames = some (env :: outer)) (_ : env.frame = some L) (_ : env.scope.kind = .function) (_ : A.depth < 900) (_ : A.units < 100) (_ : A.handled = none)
    (_ : 0 ≤ c ∧ c < 256) (_ : vi.length ≤ 1000) (_ : y.length ≤ 300000) (_ : (y.length : Int) + 1 ≤ room)
    (_ : ∀ z t' n' tk h', z.cps.toList = [c.toNat] → Fr h₀ L h' m → News h₀ L h' ((l, lobj (vi ++ [.str (y ++ (Str.ofString "" ++ z)) t']) n') :: rest) → Q .none { s with heap := h', toks := tk }),
    wpAny (model PySem.Challenge.rw_dm0096_02.row.prog w) A (call (.ref 38) [.ref l, .int c t, .int room t2]) Q E s := by
  k_fill
  intro w A A₀ base h₀ env outer L m mg mb mean lo l n rest s Q E c t room t2 vi y ty B F X N T hne hA hf hke hd hu hh hx hvi hy hfit hret
  refine wpAny_call ?_
  refine' code_def B F X N T hA hf hke ?k6 ?k7 ?k8 ?k9 ?kB ?_ ?c2 ?c3 ?c4 ?c5
  case k6 => k_is
  case k7 => k_is
  case k8 => exact Nat.lt_of_lt_of_le hd (by decide)
  case k9 => (refine' binds_K (X.keeps F.keep) ?a ?b ?c ?d ?e; (case a => exact rfl); (case b => k_is); (case c => exact rfl); (case d => k_dflt (exact rfl)); (case e => k_dflt (exact rfl)))
  case c5 => decide
  case kB => k_dflt (exact locs rfl)
  case c2 => exact rfl
  case c3 => exact rfl
  case c4 => exact rfl
  intro g' L' h' FG' F' N' B' X' T'
  (try dsimp only); (try k_fold)
  k_steps
  exact hret _ _ _ _ _ (by assumption) (by k_asm) (by k_asm)
theorem ma_overI : ∀ (w : World) (A A₀ : Around) (base h₀ : Heap) (env : Env) (outer : List Env) (L : Addr) (m mg mb : Str → Option Value) (mean : ExcName → Option Value) (lo : List Str) (l : Addr) (n : Nat) (rest : List (Addr × Obj)) (s : Shared) (Q E : Value → Shared → Prop)
    (c : Int) (t : Tok) (room : Int) (t2 : Tok) (vi : List Value) (y : Str) (ty : Tok)
    (_ : Below A₀ base outer h₀) (_ : Fr h₀ L s.heap m) (_ : (KK w.params).In h₀) (_ : News h₀ L s.heap ((l, lobj (vi ++ [.str y ty]) n) :: rest)) (_ : Top qv lo mean mg mb h₀) (_ : ∀ p ∈ rest, p.1 ≠ l)
    (_ : A.frames = some (env :: outer)) (_ : env.frame = some L) (_ : env.scope.kind = .function) (_ : A.depth < 900) (_ : A.units < 100) (_ : A.handled = none)
    (_ : 0 ≤ c ∧ c < 256) (_ : vi.length ≤ 1000) (_ : y.length ≤ 300000) (_ : ¬ (y.length : Int) + 1 ≤ room)
    (_ : ∀ z t' n' tk h', z.cps.toList = [c.toNat] → Fr h₀ L h' m → News h₀ L h' ((l, lobj ((vi ++ [.str y ty]) ++ [.str (Txt.lstrip z) t']) n') :: rest) → Q .none { s with heap := h', toks := tk }),
    wpAny (model PySem.Challenge.rw_dm0096_02.row.prog w) A (call (.ref 38) [.ref l, .int c t, .int room t2]) Q E s := by
  k_fill
  intro w A A₀ base h₀ env outer L m mg mb mean lo l n rest s Q E c t room t2 vi y ty B F X N T hne hA hf hke hd hu hh hx hvi hy hfit hret
  refine wpAny_call ?_
  refine' code_def B F X N T hA hf hke ?k6 ?k7 ?k8 ?k9 ?kB ?_ ?c2 ?c3 ?c4 ?c5
  case k6 => k_is
  case k7 => k_is
  case k8 => exact Nat.lt_of_lt_of_le hd (by decide)
  case k9 => (refine' binds_K (X.keeps F.keep) ?a ?b ?c ?d ?e; (case a => exact rfl); (case b => k_is); (case c => exact rfl); (case d => k_dflt (exact rfl)); (case e => k_dflt (exact rfl)))
  case c5 => decide
  case kB => k_dflt (exact locs rfl)
  case c2 => exact rfl
  case c3 => exact rfl
  case c4 => exact rfl
  intro g' L' h' FG' F' N' B' X' T'
  (try dsimp only); (try k_fold)
  k_steps
  exact hret _ _ _ _ _ (by assumption) (by k_asm) (by k_asm)
end Mine

open PySem PySem.W PyProof.Rows PySem.Calls
set_option Elab.async false
set_option maxRecDepth 100000
set_option maxHeartbeats 8000000
set_option linter.unusedVariables false
namespace Mine
/-- texts with their tokens: as values, as lists of numbers -/
def tv (ts : List (Str × Tok)) : List Value := ts.map fun p => .str p.1 p.2
def tl (ts : List (Str × Tok)) : List (List Nat) := ts.map fun p => p.1.cps.toList
theorem tv_snoc (ts : List (Str × Tok)) (y : Str) (t : Tok) : tv (ts ++ [(y, t)]) = tv ts ++ [.str y t] := by simp [tv]
theorem tl_snoc (ts : List (Str × Tok)) (y : Str) (t : Tok) : tl (ts ++ [(y, t)]) = tl ts ++ [y.cps.toList] := by simp [tl]
theorem str_eq_of {x y : Str} (h : x.cps.toList = y.cps.toList) : x = y := Str.ext' (Array.toList_inj.mp h)
theorem ma_call (w : World) (A A₀ : Around) (base h₀ : Heap) (env : Env) (outer : List Env) (L : Addr) (m mg mb : Str → Option Value) (mean : ExcName → Option Value) (lo : List Str) (l : Addr) (n : Nat) (rest : List (Addr × Obj)) (s : Shared) (Q E : Value → Shared → Prop)
    (x : Str) (t : Tok) (room : Nat) (t2 : Tok) (ts : List (Str × Tok)) (a : Value)
    (B : Below A₀ base outer h₀) (F : Fr h₀ L s.heap m) (X : (KK w.params).In h₀) (N : News h₀ L s.heap ((l, lobj (tv ts) n) :: rest)) (T : Top qv lo mean mg mb h₀) (hne : ∀ p ∈ rest, p.1 ≠ l)
    (hA : A.frames = some (env :: outer)) (hf : env.frame = some L) (hke : env.scope.kind = .function) (hd : A.depth < 900) (hu : A.units < 100) (hh : A.handled = none)
    (hx : x.length ≤ 3000) (hls : Txt.lstrip x = x) (hts : ts.length ≤ 1000) (hlen : ∀ p ∈ ts, p.1.length ≤ 300000)
    (ha : a = .str x t ∨ ∃ c : Int, a = .int c t ∧ x.cps.toList = [c.toNat] ∧ 0 ≤ c ∧ c < 256)
    (hret : ∀ ts' n' tk h', tl ts' = app room (tl ts) x.cps.toList → Fr h₀ L h' m → News h₀ L h' ((l, lobj (tv ts') n') :: rest) → Q .none { s with heap := h', toks := tk }) :
    wpAny (model PySem.Challenge.rw_dm0096_02.row.prog w) A (call (.ref 38) [.ref l, a, .int (room : Int) t2]) Q E s := by
  rcases List.eq_nil_or_concat ts with e | ⟨ti, ⟨y, ty⟩, e⟩
  · subst e
    rcases ha with rfl | ⟨c, rfl, hc, hc0, hc1⟩
    · refine ma_nil w A A₀ base h₀ env outer L m mg mb mean lo l n rest s Q E x t room t2 B F X N T hne hA hf hke hd hu hh hx fun t' n' tk h' F' N' => ?_
      rw [hls] at N'
      exact hret [(x, t')] n' tk h' (by simp [tl, app]) F' N'
    · refine ma_nilI w A A₀ base h₀ env outer L m mg mb mean lo l n rest s Q E c t room t2 B F X N T hne hA hf hke hd hu hh ⟨hc0, hc1⟩ fun z t' n' tk h' hz F' N' => ?_
      obtain rfl : z = x := str_eq_of (hz.trans hc.symm)
      rw [hls] at N'
      exact hret [(z, t')] n' tk h' (by simp [tl, app]) F' N'
  · rw [List.concat_eq_append] at e
    subst e
    rw [tv_snoc] at N
    have hti : ti.length ≤ 1000 := by simp at hts; omega
    have hvi : (tv ti).length ≤ 1000 := by simpa [tv] using hti
    have hy : y.length ≤ 300000 := hlen (y, ty) (by simp)
    have hlx : x.length = x.cps.toList.length := by simp [Str.length]
    have hly : y.length = y.cps.toList.length := by simp [Str.length]
    have happ : app room (tl (ti ++ [(y, ty)])) x.cps.toList = if y.length + x.length ≤ room then tl ti ++ [y.cps.toList ++ x.cps.toList] else tl (ti ++ [(y, ty)]) ++ [x.cps.toList] := by
      rw [tl_snoc]
      simp [app, hlx, hly]
    have hcat : (y ++ (Str.ofString "" ++ x)).cps.toList = y.cps.toList ++ x.cps.toList := by
      simp only [Str.cps_append, Array.toList_append]
      rw [show (Str.ofString "").cps.toList = [] from by decide +kernel]; rfl
    rcases ha with rfl | ⟨c, rfl, hc, hc0, hc1⟩
    · by_cases hfit : y.length + x.length ≤ room
      · refine ma_fit w A A₀ base h₀ env outer L m mg mb mean lo l n rest s Q E x t room t2 (tv ti) y ty B F X N T hne hA hf hke hd hu hh hx hvi hy (by omega) fun t' n' tk h' F' N' => ?_
        refine hret (ti ++ [(y ++ (Str.ofString "" ++ x), t')]) n' tk h' ?_ F' (by rw [tv_snoc]; exact N')
        rw [happ, if_pos hfit, tl_snoc, hcat]
      · refine ma_over w A A₀ base h₀ env outer L m mg mb mean lo l n rest s Q E x t room t2 (tv ti) y ty B F X N T hne hA hf hke hd hu hh hx hvi hy (by omega) fun t' n' tk h' F' N' => ?_
        rw [hls] at N'
        refine hret (ti ++ [(y, ty)] ++ [(x, t')]) n' tk h' ?_ F' (by rw [tv_snoc, tv_snoc]; exact N')
        rw [happ, if_neg hfit, tl_snoc]
    · have hx1 : x.length = 1 := by rw [hlx, hc]; rfl
      by_cases hfit : y.length + x.length ≤ room
      · refine ma_fitI w A A₀ base h₀ env outer L m mg mb mean lo l n rest s Q E c t room t2 (tv ti) y ty B F X N T hne hA hf hke hd hu hh ⟨hc0, hc1⟩ hvi hy (by omega) fun z t' n' tk h' hz F' N' => ?_
        obtain rfl : z = x := str_eq_of (hz.trans hc.symm)
        refine hret (ti ++ [(y ++ (Str.ofString "" ++ z), t')]) n' tk h' ?_ F' (by rw [tv_snoc]; exact N')
        rw [happ, if_pos hfit, tl_snoc, hcat]
      · refine ma_overI w A A₀ base h₀ env outer L m mg mb mean lo l n rest s Q E c t room t2 (tv ti) y ty B F X N T hne hA hf hke hd hu hh ⟨hc0, hc1⟩ hvi hy (by omega) fun z t' n' tk h' hz F' N' => ?_
        obtain rfl : z = x := str_eq_of (hz.trans hc.symm)
        rw [hls] at N'
        refine hret (ti ++ [(y, ty)] ++ [(z, t')]) n' tk h' ?_ F' (by rw [tv_snoc, tv_snoc]; exact N')
        rw [happ, if_neg hfit, tl_snoc]
end Mine

open PySem PySem.W PyProof.Rows PySem.Calls
set_option Elab.async false
set_option maxRecDepth 100000
set_option maxHeartbeats 8000000
set_option linter.unusedVariables false
namespace Mine
def bodyOf : Option Stmt → List Stmt
  | some (.FunctionDef _ _ b ..) => b
  | _ => []
def scopeOf : Option Stmt → Scope
  | some (.FunctionDef _ _ _ _ _ _ sc ..) => sc
  | _ => default
noncomputable def lawB : List Stmt := bodyOf (stP 18)
noncomputable def lawSc : Scope := scopeOf (stP 18)
noncomputable abbrev lawEnv (L fa : Addr) (cd : Value) : Env := envOf (Str.ofString "law") lawSc L fa cd
theorem execs_wp {M : Model} {E : Value → Shared → Prop} {env : Env} {Q : Flow → Shared → Prop} (b : List Stmt) (Γ : Ctx) : ∀ (a : List Stmt) (p : Pos) (s : Shared),
    Sem.wp M Γ (execs a env) (fun f p' s' => match f with | .next => Sem.wp M Γ (execs b env) (fun f _ s => Q f s) (fun e _ s => E e s) p' s' | f => Q f s') (fun e _ s => E e s) p s →
    Sem.wp M Γ (execs (a ++ b) env) (fun f _ s => Q f s) (fun e _ s => E e s) p s
  | [], p, s, h => h
  | st :: r, p, s, h => by
    rw [List.cons_append, execs_cons, Sem.wp_bind']
    rw [execs_cons, Sem.wp_bind'] at h
    refine Sem.wp_mono _ _ _ (fun f p' s' hf => ?_) (fun _ _ _ e => e) p s h
    cases f with
    | next => exact execs_wp b Γ r p' s' hf
    | ret v => exact hf
    | brk => exact hf
    | cont => exact hf
def Then (M : Model) (A : Around) (b : List Stmt) (env : Env) (Q : Flow → Shared → Prop) (E : Value → Shared → Prop) (f : Flow) (s' : Shared) : Prop :=
  match f with | .next => wpAny M A (execs b env) Q E s' | f => Q f s'
theorem execs_app {M : Model} {A : Around} {E : Value → Shared → Prop} {env : Env} {Q : Flow → Shared → Prop} (a b : List Stmt) (s : Shared)
    (h : wpAny M A (execs a env) (Then M A b env Q E) E s) : wpAny M A (execs (a ++ b) env) Q E s := fun Γ p hΓ => by
  refine execs_wp b Γ a p s (Sem.wp_mono _ _ _ (fun f p' s' hf => ?_) (fun _ _ _ e => e) p s (h Γ p hΓ))
  cases f with
  | next => exact hf Γ p' hΓ
  | ret v => exact hf
  | brk => exact hf
  | cont => exact hf
local macro_rules | `(tactic| walk_at "eval Name") => `(tactic| (k_here; k_dflt (refine' nameX_L ?F ?v ?_ ?a ?b; (case F => k_asm); (case a => rfl); (case b => rfl); (case v => first | rfl | assumption); k_whole)))
theorem partA : ∀ (w : World) (dp un : Nat) (gd : Option (List Code)) (A₀ : Around) (base h₀ : Heap) (outer : List Env) (L fa : Addr) (cd : Value) (m mg mb : Str → Option Value) (mean : ExcName → Option Value) (lo : List Str) (news : List (Addr × Obj)) (s : Shared) (Q : Flow → Shared → Prop)
    (_ : Below A₀ base outer h₀) (_ : Fr h₀ L s.heap m) (_ : (KK w.params).In h₀) (_ : News h₀ L s.heap news) (_ : Top qv lo mean mg mb h₀) (_ : dp < 800) (_ : un < 80) (sc : Addr) (vs : List Value) (ns : List Int)
    (_ : m (Str.ofString "script") = some (.ref sc)) (_ : h₀.IsList sc vs.toArray) (_ : IntsAre vs ns) (_ : ns.length ≤ 63)
    (_ : ∀ h' tk m' news' (room : Nat) t D ws, Fr h₀ L h' m' → News h₀ L h' news' → m' (Str.ofString "room") = some (.int (room : Int) t) → m' (Str.ofString "rest") = some (.ref D) → room < 24 →
      (D, lobj ws 0) ∈ news' → IntsAre ws (ns.drop 1) → Q .next { s with heap := h', toks := tk }),
    wpAny (model PySem.Challenge.rw_dm0096_02.row.prog w) ⟨none, dp, some (lawEnv L fa cd :: outer), gd, un⟩ (execs ((lawB.drop 0).take 2) (lawEnv L fa cd)) Q (fun _ _ => False) s := by
  k_fill
  intro w dp un gd A₀ base h₀ outer L fa cd m mg mb mean lo news s Q B F X N T hd hu sc vs ns hsc hl hi hn hret
  rw [show (lawB.drop 0).take 2 = [_, _] from rfl]
  unfold lawEnv
  rw [show lawSc = Scope.mk _ _ _ _ _ from rfl]
  cases ns with
  | nil =>
    k_steps
    exact hret _ _ _ _ 0 _ _ _ (by assumption) (by assumption) rfl rfl (by decide) (List.mem_cons_self ..) (by assumption)
  | cons n0 r0 =>
    have e0 : List.take (min 65 (n0 :: r0).length - 1) (List.drop 1 (n0 :: r0)) = r0 := by
      simp only [List.length_cons] at hn ⊢
      rw [List.drop_one, List.tail_cons]
      exact List.take_of_length_le (by omega)
    k_steps
    · exact absurd (show decide (n0 :: r0 = []) = true by assumption) (by simp)
    · have hm : n0.fmod 24 = ((n0.fmod 24).toNat : Int) := by
        have := Int.fmod_nonneg_of_pos n0 (show (0 : Int) < 24 by decide)
        omega
      have hm2 : (n0.fmod 24).toNat < 24 := by
        have := Int.fmod_lt_of_pos n0 (show (0 : Int) < 24 by decide)
        omega
      rw [e0] at *
      exact hret _ _ _ _ (n0.fmod 24).toNat _ _ _ (by assumption) (by assumption) (by show some (Value.int (n0.fmod 24) _) = _; rw [← hm]) rfl hm2 (List.mem_cons_self ..) (by assumption)
end Mine

open PySem PySem.W PyProof.Rows PySem.Calls
set_option Elab.async false
set_option maxRecDepth 100000
set_option maxHeartbeats 8000000
set_option linter.unusedVariables false
namespace Mine
def plainB : Array UInt8 := #[65, 66, 67, 68, 69, 70, 71, 72, 73, 74, 75, 76, 77, 78, 79, 80, 81, 82, 83, 84, 85, 86, 87, 88, 89, 90, 97, 98, 99, 100, 101, 102, 103, 104, 105, 106, 107, 108, 109, 110, 111, 112, 113, 114, 115, 116, 117, 118, 119, 120, 121, 122, 48, 49, 50, 51, 52, 53, 54, 55, 56, 57, 45, 33, 42, 43, 47, 32]
def sgn (k : Int) : Int := ((fH k.toNat).cps.size : Int)
theorem plain_all : ∀ c : Fin 256, (fH c.val).cps.size = bif plainB.contains c.val.toUInt8 then 1 else 3 := by decide +kernel
theorem sgn_plain {k : Int} (h0 : 0 ≤ k) (h1 : k < 256) : sgn k = bif plainB.contains k.toNat.toUInt8 then 1 else 3 := by
  have := plain_all ⟨k.toNat, by omega⟩
  unfold sgn
  rw [this]
  cases plainB.contains k.toNat.toUInt8 <;> rfl
def signsZ (ns : List Int) : Int := (ns.map sgn).sum
theorem ints_of : ∀ (ys : List Value) (ms : List Int), ys.length = ms.length → (∀ j y, ys[j]? = some y → ∃ t, y = Value.int (ms.getD j 0) t) → IntsAre ys ms
  | [], [], _, _ => .nil
  | y :: ys, k :: ms, hl, h => by
    obtain ⟨t, e⟩ := h 0 y rfl
    subst e
    exact .cons _ _ (ints_of ys ms (by simpa using hl) fun j z hz => h (j + 1) z hz)
local macro_rules | `(tactic| k_updF) => `(tactic| exact UpdF.head (by assumption))
local macro_rules | `(tactic| walk_at "compareOp In int bytes") => `(tactic| (k_here; refine in_bytes (by omega) (by omega) ?_))
theorem ls_call : ∀ (w : World) (A A₀ : Around) (base h₀ : Heap) (env : Env) (outer : List Env) (L : Addr) (m mg mb : Str → Option Value) (mean : ExcName → Option Value) (lo : List Str) (g : Addr) (n : Nat) (news : List (Addr × Obj)) (s : Shared) (Q E : Value → Shared → Prop)
    (vs : List Value) (ns : List Int)
    (_ : Below A₀ base outer h₀) (_ : Fr h₀ L s.heap m) (_ : (KK w.params).In h₀) (_ : News h₀ L s.heap news) (_ : Top qv lo mean mg mb h₀) (_ : (g, lobj vs n) ∈ news) (_ : IntsAre vs ns)
    (_ : A.frames = some (env :: outer)) (_ : env.frame = some L) (_ : env.scope.kind = .function) (_ : A.depth < 900) (_ : A.units < 100) (_ : A.handled = none)
    (_ : ns.length ≤ 4) (_ : ∀ k ∈ ns, 0 ≤ k ∧ k < 256)
    (_ : ∀ t' tk h', Fr h₀ L h' m → News h₀ L h' news → Q (.int (signsZ ns) t') { s with heap := h', toks := tk }),
    wpAny (model PySem.Challenge.rw_dm0096_02.row.prog w) A (call (.ref 56) [.ref g]) Q E s := by
  k_fill
  intro w A A₀ base h₀ env outer L m mg mb mean lo g n news s Q E vs ns B F X N T hg hi hA hf hke hd hu hh hn hk hret
  obtain ⟨ah, dp, fr, gd, un⟩ := A
  dsimp only at hA hd hu hh
  subst hh
  subst hA
  refine wpAny_call ?_
  refine' code_defC B F X N T rfl hf hke ?k6 ?k7 ?k8 ?k9 ?kB ?nd ?_ ?c2 ?c3 ?c4
  case k6 => k_is
  case k7 => k_is
  case k8 => exact Nat.lt_of_lt_of_le hd (by decide)
  case k9 => k_dflt (exact BindsTo.of_eq rfl)
  case kB => k_dflt (exact rfl)
  case nd => decide
  case c2 => exact rfl
  case c3 => exact rfl
  case c4 => exact rfl
  intro g' L' h' tk' cells' FG' F' N' Y' B' X' T' l1
  k_cells Y'
  have hcl : ∀ p ∈ news, p.1 ≠ L' + 1 := fun p hp => by have := l1 p hp; exact Nat.ne_of_lt (Nat.lt_succ_of_lt this)
  (try dsimp only [List.cons_append, List.nil_append] at N')
  (try dsimp only); (try k_fold)
  have hlen := hi.length
  k_steps
  refine LCg.CompSrc.ledger rfl (by k_asm) (by k_asm) (List.mem_cons_of_mem _ hg) (by rw [sizeLine_eq]; simp; omega) (fun gg => ?_)
  have hsz : vs.toArray.size = ns.length := by simp [hlen]
  rw [hsz]
  refine rest_pure (G := fun i y => ∃ tk, y = .int ((ns.map sgn).getD i 0) tk) (.inr ⟨_, List.mem_cons_of_mem _ hg, rfl, _, rfl⟩) ?_ ?_
  · intro i v I oI C oC D ys m₂ h9 tk E' hi9 hP hC hx F9 N9
    obtain ⟨t9, e9⟩ := hi.get i ns[i] (by simp [hi9])
    have hv : v = .int ns[i] t9 := by
      have : vs[i]? = some v := by simpa using hP
      rw [e9] at this; exact (Option.some.inj this).symm
    subst hv
    obtain ⟨b0, b1⟩ := hk ns[i] (by simp)
    have hs9 := sgn_plain b0 b1
    have hgd : (ns.map sgn).getD i 0 = sgn ns[i] := by simp [hi9]
    k_steps
    · exact PureEnd.intro ⟨_, by rw [hgd, hs9, show plainB.contains ns[i].toNat.toUInt8 = true from by assumption]; rfl⟩ (by k_asm) (by k_asm)
    · exact PureEnd.intro ⟨_, by rw [hgd, hs9, show plainB.contains ns[i].toNat.toUInt8 = false from by first | assumption | exact Bool.eq_false_iff.mpr (by assumption)]; rfl⟩ (by k_asm) (by k_asm)
  · intro ys hyl hG D h9 tk9 F9 N9 off9
    have hI9 : IntsAre ys (ns.map sgn) := ints_of ys _ (by simpa using hyl) hG
    k_steps
    exact hret _ _ _ (by k_asm) (by (refine' cb_drop ?cN ?cS; (case cN => assumption); (case cS => intro p hp; repeat (first | exact hp | apply List.mem_cons_of_mem))))
end Mine

open PySem PySem.W PyProof.Rows PySem.Calls
set_option Elab.async false
set_option maxRecDepth 100000
set_option maxHeartbeats 8000000
set_option linter.unusedVariables false
namespace Mine
theorem strs_of {P : Str → Prop} : ∀ ys : List Value, (∀ (j : Nat) (y : Value), ys[j]? = some y → ∃ (z : Str) (t : Tok), y = Value.str z t ∧ P z) → ∃ l, ys = strValues l ∧ ∀ z ∈ l.map (·.1), P z
  | [], _ => ⟨[], rfl, by simp⟩
  | y :: r, h => by
    obtain ⟨z, t, rfl, hz⟩ := h 0 y rfl
    obtain ⟨l, rfl, hl⟩ := strs_of r fun j y hj => h (j + 1) y hj
    refine ⟨(z, t) :: l, rfl, ?_⟩
    intro a ha
    rw [List.map_cons] at ha
    rcases List.mem_cons.mp ha with rfl | ha
    · exact hz
    · exact hl a ha
theorem join_own {prog : Program} {w : World} {A : Around} {E : Value → Shared → Prop} {s : Shared} {h₀ : Heap} {L l : Addr} {news : List (Addr × Obj)} {vs : List Value} {n : Nat} {t : Tok} {Q : Value → Shared → Prop}
    (N : News h₀ L s.heap news) (hm : (l, lobj vs n) ∈ news) (h : ∀ (j : Nat) (y : Value), vs[j]? = some y → ∃ (z : Str) (t : Tok), y = Value.str z t ∧ z.length = 1) (hn : vs.length ≤ 3)
    (hQ : ∀ x t' k, x.length ≤ 3 → Q (.str x t') { s with toks := k }) : wpAny (model prog w) A (call (.builtin "str.join") [.str (Str.ofString "") t, .ref l]) Q E s := by
  obtain ⟨ls, rfl, hl⟩ := strs_of vs h
  have hlen : ls.length ≤ 3 := by simpa [strValues] using hn
  refine SC.join (isl_of N hm) rfl ?_ fun t' k => hQ _ _ _ ?_
  · unfold JoinOk
    rw [Bool.not_eq_true']
    exact StrLaws.joinFits (B := 1) (fun y hy => by rw [hl y hy]; exact Nat.le_refl _) (by rw [show (Str.ofString "").length = 0 from by decide]; simp; omega)
  · rw [PySem.W.KT.join_ones _ hl]; simpa using hlen
local macro_rules | `(tactic| walk_at "eval Name") => `(tactic| (k_here; k_dflt (refine' nameX_L ?F ?v ?_ ?a ?b; (case F => k_asm); (case a => rfl); (case b => rfl); (case v => first | rfl | assumption); k_whole)))
local macro_rules | `(tactic| walk_at "eval ListComp") => `(tactic| (k_here; k_dflt (refine LCg.ListComp_U (F₀ := by k_asm) (by with_unfolding_all rfl) (by decide) (by rfl) (by decide) (by rfl) (toSrc ?_))))
local macro_rules | `(tactic| walk_at "exec Assign cons ListComp") => `(tactic| (k_here; k_dflt (refine LCg.Assign_ListComp_U (F₀ := by k_asm) (by rfl) (by with_unfolding_all rfl) (by with_unfolding_all rfl) (by decide) (by rfl) (by decide) (by rfl) (by rfl) (by rfl) (toSrc ?_))))
local macro_rules | `(tactic| walk_at "call builtin:str.join") => `(tactic| (k_here; refine join_own (by k_asm) (List.mem_cons_self ..) (by assumption) (by simp at *; omega) ?_; intro _ _ _ _))
theorem partB : ∀ (w : World) (dp un : Nat) (gd : Option (List Code)) (A₀ : Around) (base h₀ : Heap) (outer : List Env) (L fa : Addr) (cd : Value) (m mg mb : Str → Option Value) (mean : ExcName → Option Value) (lo : List Str) (news : List (Addr × Obj)) (s : Shared) (Q : Flow → Shared → Prop)
    (_ : Below A₀ base outer h₀) (_ : Fr h₀ L s.heap m) (_ : (KK w.params).In h₀) (_ : News h₀ L s.heap news) (_ : Top qv lo mean mg mb h₀) (_ : dp < 800) (_ : un < 80) (D : Addr) (ws : List Value) (rs : List Int)
    (_ : m (Str.ofString "rest") = some (.ref D)) (_ : (D, lobj ws 0) ∈ news) (_ : IntsAre ws rs) (_ : rs.length ≤ 63)
    (_ : ∀ h' tk m' (name : Str) t, Fr h₀ L h' m' → News h₀ L h' news → m' (Str.ofString "name") = some (.str name t) → name.length ≤ 3 → (∀ y, y ≠ Str.ofString "name" → m' y = m y) → Q .next { s with heap := h', toks := tk }),
    wpAny (model PySem.Challenge.rw_dm0096_02.row.prog w) ⟨none, dp, some (lawEnv L fa cd :: outer), gd, un⟩ (execs ((lawB.drop 2).take 1) (lawEnv L fa cd)) Q (fun _ _ => False) s := by
  k_fill
  intro w dp un gd A₀ base h₀ outer L fa cd m mg mb mean lo news s Q B F X N T hd hu D ws rs hm hD hi hn hret
  rw [show (lawB.drop 2).take 1 = [_] from rfl]
  unfold lawEnv
  rw [show lawSc = Scope.mk _ _ _ _ _ from rfl]
  k_steps
  unfold Src
  refine LCg.CompSrc.ledger rfl (by k_asm) (by k_asm) (List.mem_cons_self ..) (by rw [sizeLine_eq]; simp; have := IntsAre.length (by assumption : IntsAre _ (List.take 3 rs)); simp at this; omega) (fun gg => ?_)
  rename_i D' ws' h' F' N' l1 hI' hC' hL'
  have hlen : ws'.length ≤ 3 := by have := hI'.length; simp at this; omega
  refine rest_pure (G := fun i y => ∃ (z : Str) (t : Tok), y = Value.str z t ∧ z.length = 1) (.inr ⟨_, List.mem_cons_self .., rfl, _, rfl⟩) ?_ ?_
  · intro i v I oI C oC D ys m₂ h9 tk E' hi9 hP hC hx F9 N9
    have hi9' : i < (List.take 3 rs).length := by have := hI'.length; simp at this hi9 ⊢; omega
    obtain ⟨t9, e9⟩ := hI'.get i (List.take 3 rs)[i] (by rw [List.getElem?_eq_getElem hi9'])
    have hv : v = .int (List.take 3 rs)[i] t9 := by
      have : ws'[i]? = some v := by simpa using hP
      rw [e9] at this; exact (Option.some.inj this).symm
    subst hv
    generalize (List.take 3 rs)[i] = c at *
    have c0 := Int.fmod_nonneg_of_pos c (show (0 : Int) < 95 by decide)
    have c1 := Int.fmod_lt_of_pos c (show (0 : Int) < 95 by decide)
    k_steps
    exact PureEnd.intro ⟨_, _, rfl, rfl⟩ (by k_asm) (by k_asm)
  · intro ys hyl hG D h9 tk9 F9 N9 off9
    k_steps
    exact hret _ _ _ _ _ (by assumption) (by (refine' cb_drop ?cN ?cS; (case cN => assumption); (case cS => intro p hp; repeat (first | exact hp | apply List.mem_cons_of_mem)))) rfl (by assumption) (fun y hy => if_neg hy)
end Mine

open PySem PySem.W PyProof.Rows PySem.Calls
set_option Elab.async false
set_option maxRecDepth 100000
set_option maxHeartbeats 8000000
set_option linter.unusedVariables false
namespace Mine
def grp (x : Int) : List Int := (List.range (1 + (x.fmod 4).toNat)).map fun k => ((x.fdiv 4).fdiv (256 ^ k)).fmod 256
def GroupsAre (gs : List Value) (rs : List Int) (news : List (Addr × Obj)) : Prop :=
  gs.length = rs.length ∧ ∀ (i : Nat) (g : Value), gs[i]? = some g → ∃ a us n, g = Value.ref a ∧ (a, lobj us n) ∈ news ∧ IntsAre us (grp (rs.getD i 0))
theorem off1_all {D : Addr} : ∀ {l : List (Addr × Obj)}, LCg.Off1 D l → ∀ p ∈ l, p.1 ≠ D
  | [], _, _, h => nomatch h
  | _ :: _, x, p, h => by
    rcases List.mem_cons.mp h with rfl | h
    · exact x.1
    · exact off1_all x.2 p h
local macro_rules | `(tactic| walk_at "eval Name") => `(tactic| (k_here; k_dflt (refine' nameX_L ?F ?v ?_ ?a ?b; (case F => k_asm); (case a => rfl); (case b => rfl); (case v => first | rfl | assumption); k_whole)))
local macro_rules | `(tactic| walk_at "eval ListComp") => `(tactic| (k_here; k_dflt (refine LCg.ListComp_U (F₀ := by k_asm) (by with_unfolding_all rfl) (by decide) (by rfl) (by decide) (by rfl) (toSrc ?_))))
local macro_rules | `(tactic| walk_at "exec Assign cons ListComp") => `(tactic| (k_here; k_dflt (refine LCg.Assign_ListComp_U (F₀ := by k_asm) (by rfl) (by with_unfolding_all rfl) (by with_unfolding_all rfl) (by decide) (by rfl) (by decide) (by rfl) (by rfl) (by rfl) (toSrc ?_))))
local macro_rules | `(tactic| walk_at "binaryOp FloorDiv int int") => `(tactic| (k_here; refine floordiv_int (by assumption) ?_ (Or.inl (by assumption))))
local macro_rules | `(tactic| walk_at "binaryOp Pow int int") => `(tactic| (k_here; refine pow_int_small (by omega) (by omega) (by decide) ?_))
theorem partC : ∀ (w : World) (dp un : Nat) (gd : Option (List Code)) (A₀ : Around) (base h₀ : Heap) (outer : List Env) (L fa : Addr) (cd : Value) (m mg mb : Str → Option Value) (mean : ExcName → Option Value) (lo : List Str) (news : List (Addr × Obj)) (s : Shared) (Q : Flow → Shared → Prop)
    (_ : Below A₀ base outer h₀) (_ : Fr h₀ L s.heap m) (_ : (KK w.params).In h₀) (_ : News h₀ L s.heap news) (_ : Top qv lo mean mg mb h₀) (_ : dp < 800) (_ : un < 80) (D : Addr) (ws : List Value) (rs : List Int)
    (_ : m (Str.ofString "rest") = some (.ref D)) (_ : (D, lobj ws 0) ∈ news) (_ : IntsAre ws rs) (_ : rs.length ≤ 63)
    (_ : ∀ h' tk m' news' G gs n, Fr h₀ L h' m' → News h₀ L h' news' → m' (Str.ofString "groups") = some (.ref G) → (∀ y, y ≠ Str.ofString "groups" → m' y = m y) → (D, lobj ws 0) ∈ news' → (G, lobj gs n) ∈ news' → GroupsAre gs rs news' → Q .next { s with heap := h', toks := tk }),
    wpAny (model PySem.Challenge.rw_dm0096_02.row.prog w) ⟨none, dp, some (lawEnv L fa cd :: outer), gd, un⟩ (execs ((lawB.drop 3).take 1) (lawEnv L fa cd)) Q (fun _ _ => False) s := by
  k_fill
  intro w dp un gd A₀ base h₀ outer L fa cd m mg mb mean lo news s Q B F X N T hd hu D ws rs hm hD hi hn hret
  rw [show (lawB.drop 3).take 1 = [_] from rfl]
  unfold lawEnv
  rw [show lawSc = Scope.mk _ _ _ _ _ from rfl]
  k_steps
  refine assign_comp_cell (h₀ := h₀) (m := m) rfl rfl (by with_unfolding_all rfl) (by with_unfolding_all rfl) rfl (by decide) rfl (fun _ => rfl) (fun _ => rfl) rfl rfl ?_
  k_steps
  have hlen := hi.length
  refine ⟨D, ws, 0, news, fun i ys nw => (∀ p ∈ news, p ∈ nw) ∧ ys.length = i ∧ ∀ (j : Nat) (g : Value), ys[j]? = some g → ∃ a us n, g = Value.ref a ∧ (a, lobj us n) ∈ nw ∧ IntsAre us (grp (rs.getD j 0)), rfl, by k_asm, by k_asm, hD, by omega, ⟨fun p hp => hp, rfl, by simp⟩, ?_, ?_⟩
  · rintro i v ys nw h9 tk I oI C oC c oc D9 E' hv ⟨hsub, hyl, hG⟩ hoc F9 N9 off9 ne9 hD9
    have hi9 : i < rs.length := by
      have := (List.getElem?_eq_some_iff.mp hv).1
      omega
    obtain ⟨t9, e9⟩ := hi.get i rs[i] (by rw [List.getElem?_eq_getElem hi9])
    rw [e9] at hv
    obtain rfl := (Option.some.inj hv).symm
    have hgd : rs.getD i 0 = rs[i] := by simp [hi9]
    generalize rs[i] = x at *
    have c0 := Int.fmod_nonneg_of_pos x (show (0 : Int) < 4 by decide)
    have c1 := Int.fmod_lt_of_pos x (show (0 : Int) < 4 by decide)
    k_steps
    unfold Src
    have hrg : Builtin.Range.rangeSize 0 (1 + x.fmod 4) 1 = (((1 + (x.fmod 4).toNat : Nat)) : Int) := by unfold Builtin.Range.rangeSize; split <;> simp_all <;> omega
    refine LCg.CompSrc.range rfl (by k_asm) (by k_asm) (by assumption) (small_one (by decide) (by decide) (by omega) (by omega)) hrg (by rw [sizeLine_eq]; omega) (fun gg => ?_)
    refine rest_pure (G := fun j y => ∃ t, y = Value.int ((grp x).getD j 0) t) trivial ?_ ?_
    · intro j v I2 oI2 C2 oC2 D2 ys2 m₂ h8 tk8 E8 hj hP hC hx F8 N8
      obtain ⟨t8, rfl⟩ := hP
      have hgj : (grp x).getD j 0 = ((x.fdiv 4).fdiv (256 ^ j)).fmod 256 := by simp [grp, hj]
      have hj4 : j < 4 := by omega
      have hj0 : (0 : Int) + (j : Int) = (j : Int) := by omega
      rw [hj0] at hx
      have hp0 : (256 : Int) ^ (j : Int).toNat ≠ 0 := Int.ne_of_gt (Int.pow_pos (by decide))
      have hp1 : Builtin.divisionGoesByPylong (x.fdiv 4) (256 ^ (j : Int).toNat) = false := by
        refine PyProof.noPylong_small ?_
        rcases j with _ | _ | _ | _ | j <;> first | decide | omega
      have hb0 : (0 : Int) ≤ (j : Int) := by omega
      have hb1 : (j : Int) ≤ 3 := by omega
      k_steps
      exact PureEnd.intro ⟨_, by rw [hgj]; rfl⟩ (by k_asm) (by k_asm)
    · intro ys2 hyl2 hG2 D2 h8 tk8 F8 N8 off8
      obtain ⟨o1, o2, o3, o4, o5⟩ := off8
      have off5 := off1_all o5
      refine ⟨h8, _, (D2, LCg.lst ys2) :: nw, rfl, F8, fun p hp => N8 p ?_, fun p hp => ?_, .tail _ hD9, fun p hp => .tail _ (hsub p hp), by simp [hyl], fun j g hg => ?_⟩
      · rcases List.mem_cons.mp hp with e | hp
        · subst e; exact .tail _ (.head _)
        rcases List.mem_cons.mp hp with e | hp
        · subst e; exact .tail _ (.tail _ (.head _))
        rcases List.mem_cons.mp hp with e | hp
        · subst e; exact .tail _ (.tail _ (.tail _ (.head _)))
        rcases List.mem_cons.mp hp with e | hp
        · subst e; exact .tail _ (.tail _ (.tail _ (.tail _ (.head _))))
        rcases List.mem_cons.mp hp with e | hp
        · subst e; exact .head _
        · exact .tail _ (.tail _ (.tail _ (.tail _ (.tail _ hp))))
      · rcases List.mem_cons.mp hp with e | hp
        · subst e; exact ⟨Ne.symm o1, Ne.symm o2, Ne.symm o3, Ne.symm o4⟩
        · exact off9 p hp
      · rw [List.getElem?_append] at hg
        split at hg
        · obtain ⟨a, us, n, e1, e2, e3⟩ := hG j g hg
          exact ⟨a, us, n, e1, .tail _ e2, e3⟩
        · rename_i hj
          have hj' : j = ys.length := by
            cases hh : j - ys.length with
            | zero => omega
            | succ q => rw [hh] at hg; simp at hg
          subst hj'
          rw [Nat.sub_self] at hg
          obtain rfl := Option.some.inj hg
          subst hyl
          refine ⟨D2, ys2, _, rfl, .head _, ?_⟩
          rw [hgd]
          exact ints_of ys2 _ (by simpa [grp] using hyl2) hG2
  · rintro ys nw D9 h9 tk9 ⟨hsub, hyl, hG⟩ F9 N9 off9
    refine wpAny_execs_nil ?_
    exact hret _ _ _ _ _ ys _ F9 N9 (if_pos rfl) (fun y hy => if_neg hy) (.tail _ (hsub _ hD)) (.head _) ⟨by omega, fun i g hg => by
      obtain ⟨a, us, n, e1, e2, e3⟩ := hG i g hg
      exact ⟨a, us, n, e1, .tail _ e2, e3⟩⟩
end Mine

open PySem PySem.W PyProof.Rows PySem.Calls
set_option Elab.async false
set_option maxRecDepth 100000
set_option maxHeartbeats 8000000
set_option linter.unusedVariables false
namespace Mine
def forB : Option Stmt → List Stmt
  | some (.For _ _ b ..) => b
  | _ => []
def gN (x : Int) : List Nat := (grp x).map Int.toNat
theorem grp_len (x : Int) : 1 ≤ (grp x).length ∧ (grp x).length ≤ 4 := by
  have := Int.fmod_lt_of_pos x (show (0 : Int) < 4 by decide)
  simp [grp]; omega
theorem grp_in (x : Int) : ∀ k ∈ grp x, 0 ≤ k ∧ k < 256 := by
  intro k hk
  obtain ⟨j, _, rfl⟩ := List.mem_map.mp hk
  exact ⟨Int.fmod_nonneg_of_pos _ (by decide), Int.fmod_lt_of_pos _ (by decide)⟩
theorem bytes_nat : ∀ (ns : List Int), (∀ k ∈ ns, 0 ≤ k ∧ k < 256) → ((ns.map fun n => n.toNat.toUInt8).toArray.toList.map (·.toNat)) = ns.map Int.toNat := by
  intro ns h
  simp only [List.map_map]
  refine List.map_congr_left fun k hk => ?_
  have := h k hk
  simp only [Function.comp]
  rw [show k.toNat.toUInt8 = UInt8.ofNat k.toNat from rfl, UInt8.toNat_ofNat']
  omega
theorem enc_len : ∀ l : List Nat, (encH l).length ≤ 3 * l.length := by
  intro l
  induction l with
  | nil => simp [encH]
  | cons c r ih =>
    have : (tr fH c).length ≤ 3 := by
      unfold tr
      split
      · simpa using fH_len c
      · simp
    simp only [encH, List.flatMap_cons, List.length_append, List.length_cons] at ih ⊢
    omega
theorem he_ints (w : World) (A A₀ : Around) (base h₀ : Heap) (env : Env) (outer : List Env) (L : Addr) (m mg mb : Str → Option Value) (mean : ExcName → Option Value) (lo : List Str) (news : List (Addr × Obj)) (s : Shared) (Q E : Value → Shared → Prop)
    (B : Below A₀ base outer h₀) (F : Fr h₀ L s.heap m) (X : (KK w.params).In h₀) (N : News h₀ L s.heap news) (T : Top qv lo mean mg mb h₀)
    (hA : A.frames = some (env :: outer)) (hf : env.frame = some L) (hke : env.scope.kind = .function) (hd : A.depth < 900) (hu : A.units < 100) (hh : A.handled = none)
    (ns : List Int) (t : Tok) (name : Str) (t2 : Tok) (h1 : 1 ≤ ns.length) (h2 : ns.length ≤ 1000) (hr : ∀ k ∈ ns, 0 ≤ k ∧ k < 256) (hn : name.length ≤ 3)
    (h : ∀ z t' tk h', z = heText name (ns.map Int.toNat) → z.length = name.length + 7 + (encH (ns.map Int.toNat)).length → z.length ≤ 4000 → Fr h₀ L h' m → News h₀ L h' news → Q (.str z t') { s with heap := h', toks := tk }) :
    wpAny (model PySem.Challenge.rw_dm0096_02.row.prog w) A (call (.ref 46) [.bytes (ns.map fun n => n.toNat.toUInt8).toArray t, .str name t2]) Q E s := by
  refine he_call w A A₀ base h₀ env outer L m mg mb mean lo news s Q E B F X N T hA hf hke hd hu hh _ t name t2 ?_ (by simpa using h2) hn ?_
  · intro e
    have : ns = [] := by simpa using congrArg Array.size e
    rw [this] at h1; simp at h1
  · intro t' tk h' F' N'
    rw [bytes_nat ns hr]
    have e1 : (Str.ofString "=?").cps.size = 2 := by decide +kernel
    have e2 : (Str.ofString "?q?").cps.size = 3 := by decide +kernel
    have e3 : (Str.ofString "?=").cps.size = 2 := by decide +kernel
    have hlen : (heText name (ns.map Int.toNat)).length = name.length + 7 + (encH (ns.map Int.toNat)).length := by
      simp only [heText, Str.length, Array.size_append, List.size_toArray, e1, e2, e3]
      omega
    exact h _ _ _ _ rfl hlen (by have := enc_len (ns.map Int.toNat); simp at this; omega) F' N'
theorem slice_he (name : Str) (b : List Nat) : Txt.slice (heText name b) (some ((name.length : Int) + 5)) (some (-2)) = ⟨(encH b).toArray⟩ := by
  have e : heText name b = ⟨([61, 63] ++ name.cps.toList ++ [63, 113, 63] ++ encH b ++ [63, 61]).toArray⟩ := by
    apply Str.ext'
    show (Str.ofString "=?").cps ++ name.cps ++ (Str.ofString "?q?").cps ++ (encH b).toArray ++ (Str.ofString "?=").cps = _
    rw [show (Str.ofString "=?").cps = #[61, 63] from by decide +kernel, show (Str.ofString "?q?").cps = #[63, 113, 63] from by decide +kernel, show (Str.ofString "?=").cps = #[63, 61] from by decide +kernel]
    apply Array.ext'
    simp
  rw [e, ← slice_mid ([61, 63] ++ name.cps.toList ++ [63, 113, 63]) (encH b) 63 61 (by simp)]
  congr 1
  simp [Str.length]
  omega
def okHead (l : List Nat) : Bool := match l with | [] => false | c :: _ => !Unicode.isSpace c && decide (c < 256)
theorem fH_head_all : ∀ c : Fin 256, okHead (fH c.val).cps.toList = true := by decide +kernel
theorem enc_head : ∀ (l : List Nat), l ≠ [] → (∀ c ∈ l, c < 256) → okHead (encH l) = true
  | [], h, _ => absurd rfl h
  | c :: r, _, h => by
    have hc : c < 256 := h c (by simp)
    have := fH_head_all ⟨c, hc⟩
    simp only [encH, List.flatMap_cons, tr, hc, if_true]
    revert this
    cases (fH c).cps.toList with
    | nil => intro h; cases h
    | cons d r' => intro h; exact h
theorem lstrip_same {x : Str} (h : okHead x.cps.toList = true) : Txt.lstrip x = x := by
  unfold Txt.lstrip Txt.stripBy
  rw [if_pos]
  unfold stripSame stripLo stripHi
  revert h
  cases x.cps.toList with
  | nil => intro h; cases h
  | cons c r =>
    intro h
    have : Unicode.isSpace c = false := by simp [okHead] at h; exact h.1
    simp [List.takeWhile_cons, this]
theorem ma_callS (w : World) (A A₀ : Around) (base h₀ : Heap) (env : Env) (outer : List Env) (L : Addr) (m mg mb : Str → Option Value) (mean : ExcName → Option Value) (lo : List Str) (l : Addr) (n : Nat) (rest : List (Addr × Obj)) (s : Shared) (Q E : Value → Shared → Prop)
    (x : Str) (t : Tok) (room : Nat) (t2 : Tok) (ts : List (Str × Tok))
    (B : Below A₀ base outer h₀) (F : Fr h₀ L s.heap m) (X : (KK w.params).In h₀) (N : News h₀ L s.heap ((l, lobj (tv ts) n) :: rest)) (T : Top qv lo mean mg mb h₀) (hne : ∀ p ∈ rest, p.1 ≠ l)
    (hA : A.frames = some (env :: outer)) (hf : env.frame = some L) (hke : env.scope.kind = .function) (hd : A.depth < 900) (hu : A.units < 100) (hh : A.handled = none)
    (hx : x.length ≤ 3000) (hls : Txt.lstrip x = x) (hts : ts.length ≤ 1000) (hlen : ∀ p ∈ ts, p.1.length ≤ 300000)
    (hret : ∀ ts' n' tk h', tl ts' = app room (tl ts) x.cps.toList → Fr h₀ L h' m → News h₀ L h' ((l, lobj (tv ts') n') :: rest) → Q .none { s with heap := h', toks := tk }) :
    wpAny (model PySem.Challenge.rw_dm0096_02.row.prog w) A (call (.ref 38) [.ref l, .str x t, .int (room : Int) t2]) Q E s :=
  ma_call w A A₀ base h₀ env outer L m mg mb mean lo l n rest s Q E x t room t2 ts _ B F X N T hne hA hf hke hd hu hh hx hls hts hlen (.inl rfl) hret
theorem ma_callI (w : World) (A A₀ : Around) (base h₀ : Heap) (env : Env) (outer : List Env) (L : Addr) (m mg mb : Str → Option Value) (mean : ExcName → Option Value) (lo : List Str) (l : Addr) (n : Nat) (rest : List (Addr × Obj)) (s : Shared) (Q E : Value → Shared → Prop)
    (x : Str) (t : Tok) (room : Nat) (t2 : Tok) (ts : List (Str × Tok))
    (B : Below A₀ base outer h₀) (F : Fr h₀ L s.heap m) (X : (KK w.params).In h₀) (N : News h₀ L s.heap ((l, lobj (tv ts) n) :: rest)) (T : Top qv lo mean mg mb h₀) (hne : ∀ p ∈ rest, p.1 ≠ l)
    (hA : A.frames = some (env :: outer)) (hf : env.frame = some L) (hke : env.scope.kind = .function) (hd : A.depth < 900) (hu : A.units < 100) (hh : A.handled = none)
    (hx : x.length ≤ 3000) (hls : Txt.lstrip x = x) (hts : ts.length ≤ 1000) (hlen : ∀ p ∈ ts, p.1.length ≤ 300000) (hone : x.length = 1) (hhead : okHead x.cps.toList = true)
    (hret : ∀ ts' n' tk h', tl ts' = app room (tl ts) x.cps.toList → Fr h₀ L h' m → News h₀ L h' ((l, lobj (tv ts') n') :: rest) → Q .none { s with heap := h', toks := tk }) :
    wpAny (model PySem.Challenge.rw_dm0096_02.row.prog w) A (call (.ref 38) [.ref l, .int ((x.cps.getD 0 0 : Nat) : Int) t, .int (room : Int) t2]) Q E s :=
  ma_call w A A₀ base h₀ env outer L m mg mb mean lo l n rest s Q E x t room t2 ts _ B F X N T hne hA hf hke hd hu hh hx hls hts hlen (.inr ⟨_, rfl, by rw [one_sign hone]; simp, by omega, by
    rw [one_sign hone] at hhead ⊢
    simp [okHead] at hhead ⊢
    omega⟩) hret
local macro_rules | `(tactic| walk_at "eval Name") => `(tactic| (k_here; k_dflt (refine' nameX_L ?F ?v ?_ ?a ?b; (case F => k_asm); (case a => rfl); (case b => rfl); (case v => first | rfl | assumption); k_whole)))
local macro_rules | `(tactic| walk_at "call type:bytes") => `(tactic| (k_here; refine bytes_K (by k_asm) (by k_asm) (isl_of (by k_asm) (by assumption)) (by assumption) (by assumption) (by rw [sizeLine_eq]; omega) rfl ?_; intro _ _ _ F' N' _))
theorem turnD : ∀ (w : World) (dp un : Nat) (gd : Option (List Code)) (A₀ : Around) (base h₀ : Heap) (outer : List Env) (L fa : Addr) (cd : Value) (m mg mb : Str → Option Value) (mean : ExcName → Option Value) (lo : List Str) (news : List (Addr × Obj)) (s : Shared) (Q : Flow → Shared → Prop)
    (_ : Below A₀ base outer h₀) (_ : Fr h₀ L s.heap m) (_ : (KK w.params).In h₀) (_ : News h₀ L s.heap news) (_ : Top qv lo mean mg mb h₀) (_ : dp < 800) (_ : un < 80) (x : Int) (t t2 t3 : Tok) (a l : Addr) (us : List Value) (nn n : Nat) (name : Str) (room : Nat) (ts : List (Str × Tok)) (rest : List (Addr × Obj))
    (_ : m (Str.ofString "x") = some (.int x t)) (_ : m (Str.ofString "group") = some (.ref a)) (_ : m (Str.ofString "name") = some (.str name t2)) (_ : m (Str.ofString "lines") = some (.ref l)) (_ : m (Str.ofString "room") = some (.int (room : Int) t3))
    (_ : name.length ≤ 3) (_ : room < 24) (_ : ts.length ≤ 1000) (_ : ∀ p ∈ ts, p.1.length ≤ 300000)
    (_ : news = (l, lobj (tv ts) n) :: rest) (_ : ∀ p ∈ rest, p.1 ≠ l) (_ : (a, lobj us nn) ∈ rest) (_ : IntsAre us (grp x)) (_ : us.length ≤ 4) (_ : ∀ k ∈ grp x, 0 ≤ k ∧ k < 256)
    (_ : ∀ h' tk m' ts' n', tl ts' = app room (tl ts) (encH (gN x)) → Fr h₀ L h' m' → News h₀ L h' ((l, lobj (tv ts') n') :: rest) → (∀ y, y ≠ Str.ofString "signs" → m' y = m y) → Q .next { s with heap := h', toks := tk }),
    wpAny (model PySem.Challenge.rw_dm0096_02.row.prog w) ⟨none, dp, some (lawEnv L fa cd :: outer), gd, un⟩ (execs (forB lawB[5]?) (lawEnv L fa cd)) Q (fun _ _ => False) s := by
  k_fill
  intro w dp un gd A₀ base h₀ outer L fa cd m mg mb mean lo news s Q B F X N T hd hu x t t2 t3 a l us nn n name room ts rest hmx hmg hmn hml hmr hname hroom hts hlen9 hnews hne ha hi hus hin hret
  subst hnews
  have ha' : (a, lobj us nn) ∈ (l, lobj (tv ts) n) :: rest := .tail _ ha
  have hgl := grp_len x
  rw [show forB lawB[5]? = [_, _] from rfl]
  unfold lawEnv
  rw [show lawSc = Scope.mk _ _ _ _ _ from rfl]
  k_steps
  refine he_ints _ _ _ _ _ _ _ _ _ _ _ _ _ _ _ _ _ (by k_asm) (by k_asm) (by k_asm) (by k_asm) (by k_asm) rfl rfl rfl (by dsimp only; omega) (by dsimp only; omega) rfl _ _ _ _ (by omega) (by omega) (by assumption) (by assumption) ?_
  intro z _ _ _ hz hzl hzb F' N'
  have hsl := slice_he name (gN x)
  rw [show heText name (gN x) = z from hz.symm] at hsl
  k_steps
  generalize hsg : Txt.slice z (some ((name.length : Int) + 5)) (some (-2)) = sg at *
  have hcps : sg.cps.toList = encH (gN x) := by rw [hsl]
  have hhead : okHead sg.cps.toList = true := by
    rw [hcps]
    refine enc_head _ (fun e => ?_) (fun c hc => ?_)
    · have : (gN x).length = 0 := by rw [e]; rfl
      simp [gN] at this
      rw [this] at hgl
      simp at hgl
    · obtain ⟨k, hk, rfl⟩ := List.mem_map.mp hc
      have := hin k hk
      omega
  have hls := lstrip_same hhead
  have hsgl : sg.length = (encH (gN x)).length := by rw [← hcps]; simp [Str.length]
  have hsg1 : sg.length ≤ 3000 := by rw [hsgl]; have := enc_len (gN x); simp only [gN, List.length_map] at *; omega
  clear hsl hsg hz
  k_steps
  all_goals first
    | refine ma_callS _ _ _ _ _ _ _ _ _ _ _ _ _ l n rest _ _ _ sg _ room _ ts (by k_asm) (by k_asm) (by k_asm) (by k_asm) (by k_asm) hne rfl rfl rfl (by dsimp only; omega) (by dsimp only; omega) rfl hsg1 hls hts hlen9 ?_
    | refine ma_callI _ _ _ _ _ _ _ _ _ _ _ _ _ l n rest _ _ _ sg _ room _ ts (by k_asm) (by k_asm) (by k_asm) (by k_asm) (by k_asm) hne rfl rfl rfl (by dsimp only; omega) (by dsimp only; omega) rfl hsg1 hls hts hlen9 (by omega) hhead ?_
  all_goals
    (intro ts' n' tk9 h9 htl F9 N9
     rw [hcps] at htl
     k_steps
     exact hret _ _ _ _ _ htl F9 N9 (fun y hy => if_neg hy))
end Mine

open PySem PySem.W PyProof.Rows PySem.Calls
set_option Elab.async false
set_option maxRecDepth 100000
set_option maxHeartbeats 8000000
set_option linter.unusedVariables false
namespace Mine
theorem snoc_ind {α : Type} {P : List α → Prop} (h0 : P []) (h1 : ∀ l x, P l → P (l ++ [x])) (l : List α) : P l := by
  suffices H : ∀ r l : List α, l.reverse = r → P l from H _ l rfl
  intro r
  induction r with
  | nil => intro l e; rw [List.reverse_eq_nil_iff] at e; subst e; exact h0
  | cons x r ih =>
    intro l e
    have : l = r.reverse ++ [x] := by rw [← List.reverse_reverse l, e]; simp
    subst this
    exact h1 _ _ (ih _ (by simp))
theorem app_len (room : Nat) (ls : List (List Nat)) (x : List Nat) : (app room ls x).length ≤ ls.length + 1 := by
  unfold app
  rcases List.eq_nil_or_concat ls with e | ⟨li, y, e⟩
  · subst e; simp
  · rw [List.concat_eq_append] at e; subst e
    simp
    split <;> simp
theorem app_flat (room : Nat) (ls : List (List Nat)) (x : List Nat) : (app room ls x).flatten = ls.flatten ++ x := by
  unfold app
  rcases List.eq_nil_or_concat ls with e | ⟨li, y, e⟩
  · subst e; simp
  · rw [List.concat_eq_append] at e; subst e
    simp
    split <;> simp
theorem lines_len (room : Nat) (xs : List (List Nat)) : (linesOf room xs).length ≤ xs.length := by
  refine snoc_ind (P := fun xs => (linesOf room xs).length ≤ xs.length) (by simp [linesOf]) (fun l x ih => ?_) xs
  · rw [linesOf_snoc]; have := app_len room (linesOf room l) x; simp; omega
theorem lines_flat (room : Nat) (xs : List (List Nat)) : (linesOf room xs).flatten = xs.flatten := by
  refine snoc_ind (P := fun xs => (linesOf room xs).flatten = xs.flatten) (by simp [linesOf]) (fun l x ih => ?_) xs
  · rw [linesOf_snoc, app_flat, ih]; simp
theorem flat_mem {l : List Nat} : ∀ {ls : List (List Nat)}, l ∈ ls → l.length ≤ ls.flatten.length
  | a :: r, h => by
    rw [List.flatten_cons, List.length_append]
    rcases List.mem_cons.mp h with rfl | h
    · omega
    · have := flat_mem h; omega
theorem flat_le (B : Nat) : ∀ (ls : List (List Nat)), (∀ l ∈ ls, l.length ≤ B) → ls.flatten.length ≤ B * ls.length
  | [], _ => by simp
  | a :: r, h => by
    have h1 := h a (by simp)
    have h2 := flat_le B r fun l hl => h l (by simp [hl])
    rw [List.flatten_cons, List.length_append, List.length_cons, Nat.mul_succ]
    omega
def sgOf (rs : List Int) : List (List Nat) := rs.map fun x => encH (gN x)
theorem tl_bounds {room : Nat} {rs : List Int} {ts : List (Str × Tok)} (h : tl ts = linesOf room (sgOf rs)) (hn : rs.length ≤ 63) : ts.length ≤ 1000 ∧ ∀ p ∈ ts, p.1.length ≤ 300000 := by
  have h1 : (sgOf rs).flatten.length ≤ 12 * rs.length := by
    have := flat_le 12 (sgOf rs) (fun l hl => by
      obtain ⟨x, _, rfl⟩ := List.mem_map.mp hl
      have a := enc_len (gN x)
      have b := grp_len x
      simp only [gN, List.length_map] at a ⊢
      omega)
    simpa [sgOf] using this
  constructor
  · have a := lines_len room (sgOf rs)
    rw [← h] at a
    simp [tl, sgOf] at a
    omega
  · intro p hp
    have hm : p.1.cps.toList ∈ tl ts := List.mem_map.mpr ⟨p, hp, rfl⟩
    rw [h] at hm
    have a := flat_mem hm
    rw [lines_flat] at a
    have : p.1.length = p.1.cps.toList.length := by simp [Str.length]
    omega
def Hid (p : Prop) : Prop := p
theorem hid {α : Type} {M : Model} {A : Around} {t : Sem α} {P : α → Shared → Prop} {E : Value → Shared → Prop} {s : Shared} (h : wpAny M A t (fun v s => Hid (P v s)) E s) : wpAny M A t P E s := h
theorem swap_in {h₀ h : Heap} {L : Addr} {own base : List (Addr × Obj)} {q : Addr × Obj} (N : News h₀ L h (own ++ q :: base)) : News h₀ L h (q :: (own ++ base)) := fun p hp => N p (by
  rcases List.mem_cons.mp hp with rfl | hp
  · exact List.mem_append.mpr (.inr (.head _))
  · rcases List.mem_append.mp hp with hp | hp
    · exact List.mem_append.mpr (.inl hp)
    · exact List.mem_append.mpr (.inr (.tail _ hp)))
theorem swap_out {h₀ h : Heap} {L : Addr} {own base : List (Addr × Obj)} {q : Addr × Obj} (N : News h₀ L h (q :: (own ++ base))) : News h₀ L h (own ++ q :: base) := fun p hp => N p (by
  rcases List.mem_append.mp hp with hp | hp
  · exact .tail _ (List.mem_append.mpr (.inl hp))
  · rcases List.mem_cons.mp hp with rfl | hp
    · exact .head _
    · exact .tail _ (List.mem_append.mpr (.inr hp)))
def KeepOn (ks : List Str) (m m' : Str → Option Value) : Prop := ∀ y ∈ ks, m' y = m y
local macro_rules | `(tactic| walk_at "eval Name") => `(tactic| (k_here; k_dflt (refine' nameX_L ?F ?v ?_ ?a ?b; (case F => k_asm); (case a => rfl); (case b => rfl); (case v => first | rfl | assumption); k_whole)))
local macro_rules | `(tactic| walk_at "exec For Tuple Call") => `(tactic| (k_here; k_dflt (refine For_turns (by k_asm) ?_)))
theorem partD : ∀ (w : World) (dp un : Nat) (gd : Option (List Code)) (A₀ : Around) (base h₀ : Heap) (outer : List Env) (L fa : Addr) (cd : Value) (m mg mb : Str → Option Value) (mean : ExcName → Option Value) (lo : List Str) (news : List (Addr × Obj)) (s : Shared) (Q : Flow → Shared → Prop)
    (_ : Below A₀ base outer h₀) (_ : Fr h₀ L s.heap m) (_ : (KK w.params).In h₀) (_ : News h₀ L s.heap news) (_ : Top qv lo mean mg mb h₀) (_ : dp < 800) (_ : un < 80) (D G : Addr) (ws gs : List Value) (rs : List Int) (k t2 t3 : Nat) (name : Str) (room : Nat)
    (_ : m (Str.ofString "rest") = some (.ref D)) (_ : m (Str.ofString "groups") = some (.ref G)) (_ : m (Str.ofString "name") = some (.str name t2)) (_ : m (Str.ofString "room") = some (.int (room : Int) t3))
    (_ : (D, lobj ws 0) ∈ news) (_ : (G, lobj gs k) ∈ news) (_ : IntsAre ws rs) (_ : GroupsAre gs rs news) (_ : rs.length ≤ 63) (_ : name.length ≤ 3) (_ : room < 24)
    (_ : ∀ h' tk m' l ts n, Fr h₀ L h' m' → News h₀ L h' ((l, lobj (tv ts) n) :: news) → (∀ p ∈ news, p.1 ≠ l) → tl ts = linesOf room (sgOf rs) → m' (Str.ofString "lines") = some (.ref l) →
      KeepOn [Str.ofString "rest", Str.ofString "groups", Str.ofString "name", Str.ofString "room"] m m' → Q .next { s with heap := h', toks := tk }),
    wpAny (model PySem.Challenge.rw_dm0096_02.row.prog w) ⟨none, dp, some (lawEnv L fa cd :: outer), gd, un⟩ (execs ((lawB.drop 4).take 2) (lawEnv L fa cd)) Q (fun _ _ => False) s := by
  k_fill
  intro w dp un gd A₀ base h₀ outer L fa cd m mg mb mean lo news s Q B F X N T hd hu D G ws gs rs k t2 t3 name room hmr hmg hmn hmro hD hG hi hgs hn hname hroom hret
  rw [show (lawB.drop 4).take 2 = [_, _] from rfl]
  unfold lawEnv
  rw [show lawSc = Scope.mk _ _ _ _ _ from rfl]
  k_steps
  rename_i l' h1 l1 h2 F2 N2
  have hlen := hi.length
  have hll : ∀ p ∈ news, p.1 ≠ l' := fun p hp => Nat.ne_of_lt (l1 p hp)
  have hsz : l' < h2.objs.size := Heap.lt_size (N2 _ (.head _)).1
  refine zip_turns (news := (l', lobj [] 0) :: news) (fun i m' nw => ∃ ts n, nw = (l', lobj (tv ts) n) :: news ∧ tl ts = linesOf room (sgOf (rs.take i)) ∧ m' (Str.ofString "lines") = some (.ref l') ∧ KeepOn [Str.ofString "rest", Str.ofString "groups", Str.ofString "name", Str.ofString "room"] m m')
    rfl F2 N2 (.tail _ hD) (.tail _ hG) (by have := hgs.1; omega) ⟨[], 0, rfl, rfl, rfl, fun y hy => ?_⟩ ?_ ?_
  · exact if_neg (by rintro rfl; revert hy; decide +kernel)
  · rintro i xv yv T5 m₁ nw h₁ tk₁ own hown hxi hyi hT ⟨ts, n, rfl, htl, hml, hkeep⟩ F₁ N₁
    refine hid ?_
    k_steps
    rename_i h3 F3 N3
    show wpAny _ _ _ _ _ _
    have hi9 : i < rs.length := by have := (List.getElem?_eq_some_iff.mp hxi).1; omega
    obtain ⟨t9, e9⟩ := hi.get i rs[i] (by rw [List.getElem?_eq_getElem hi9])
    rw [e9] at hxi
    obtain rfl := (Option.some.inj hxi).symm
    obtain ⟨a, us, nn, rfl, ha, hus⟩ := hgs.2 i yv hyi
    have hgd : rs.getD i 0 = rs[i] := by simp [hi9]
    rw [hgd] at hus
    have hb := tl_bounds htl (by simp; omega)
    have gl := grp_len rs[i]
    have ul := hus.length
    refine turnD w dp un gd A₀ base h₀ outer L fa cd _ mg mb mean lo _ _ _ B F3 X (swap_in N3) T hd hu rs[i] t9 t2 t3 a l' us nn n name room ts (own ++ news) rfl rfl ?_ hml ?_ hname hroom hb.1 hb.2 rfl ?_ (List.mem_append.mpr (.inr ha)) hus (by omega) (grp_in _) ?_
    · exact (hkeep _ (by decide +kernel)).trans hmn
    · exact (hkeep _ (by decide +kernel)).trans hmro
    · intro p hp
      rcases List.mem_append.mp hp with hp | hp
      · rcases hown p hp with e | e | e
        · exact fun q => absurd (q ▸ e) (Nat.not_le.mpr hsz)
        · rw [e]; exact hll _ hD
        · rw [e]; exact hll _ hG
      · exact hll p hp
    · intro h' tk m' ts' n' htl' F' N' hm'
      refine TurnEnd.next F' (swap_out N') ?_ ⟨ts', n', rfl, ?_, ?_, ?_⟩
      · intro p hp
        rcases List.mem_cons.mp hp with rfl | hp
        · exact hsz
        · exact Nat.lt_trans (l1 p hp) hsz
      · rw [htl', htl, List.take_succ_eq_append_getElem hi9]
        show _ = linesOf room ((rs.take i ++ [rs[i]]).map _)
        rw [List.map_append, List.map_singleton, linesOf_snoc]
        rfl
      · rw [hm' _ (by decide +kernel)]; exact hml
      · intro y hy
        rw [hm' y (by rintro rfl; revert hy; decide +kernel)]
        show (if y = Str.ofString "group" then _ else if y = Str.ofString "x" then _ else m₁ y) = m y
        rw [if_neg (by rintro rfl; revert hy; decide +kernel), if_neg (by rintro rfl; revert hy; decide +kernel)]
        exact hkeep y hy
  · rintro h' tk m' nw F' N' ⟨ts, n, rfl, htl, hml, hkeep⟩
    k_steps
    rw [hlen, List.take_length] at htl
    exact hret _ _ _ _ _ _ F' N' hll htl hml hkeep
end Mine

open PySem PySem.W PyProof.Rows PySem.Calls
set_option Elab.async false
set_option maxRecDepth 100000
set_option maxHeartbeats 8000000
set_option linter.unusedVariables false
namespace Mine
def szOf (rs : List Int) : List Int := rs.map fun x => signsZ (grp x)
local macro_rules | `(tactic| walk_at "eval Name") => `(tactic| (k_here; k_dflt (refine' nameX_L ?F ?v ?_ ?a ?b; (case F => k_asm); (case a => rfl); (case b => rfl); (case v => first | rfl | assumption); k_whole)))
local macro_rules | `(tactic| walk_at "eval ListComp") => `(tactic| (k_here; k_dflt (refine LCg.ListComp_U (F₀ := by k_asm) (by with_unfolding_all rfl) (by decide) (by rfl) (by decide) (by rfl) (toSrc ?_))))
local macro_rules | `(tactic| walk_at "exec Assign cons ListComp") => `(tactic| (k_here; k_dflt (refine LCg.Assign_ListComp_U (F₀ := by k_asm) (by rfl) (by with_unfolding_all rfl) (by with_unfolding_all rfl) (by decide) (by rfl) (by decide) (by rfl) (by rfl) (by rfl) (toSrc ?_))))
theorem partE : ∀ (w : World) (dp un : Nat) (gd : Option (List Code)) (A₀ : Around) (base h₀ : Heap) (outer : List Env) (L fa : Addr) (cd : Value) (m mg mb : Str → Option Value) (mean : ExcName → Option Value) (lo : List Str) (news : List (Addr × Obj)) (s : Shared) (Q : Flow → Shared → Prop)
    (_ : Below A₀ base outer h₀) (_ : Fr h₀ L s.heap m) (_ : (KK w.params).In h₀) (_ : News h₀ L s.heap news) (_ : Top qv lo mean mg mb h₀) (_ : dp < 800) (_ : un < 80) (G : Addr) (gs : List Value) (rs : List Int) (k : Nat)
    (_ : m (Str.ofString "groups") = some (.ref G)) (_ : (G, lobj gs k) ∈ news) (_ : GroupsAre gs rs news) (_ : rs.length ≤ 63)
    (_ : ∀ h' tk m' Z zs n t, Fr h₀ L h' m' → News h₀ L h' ((Z, lobj zs n) :: news) → IntsAre zs (szOf rs) → m' (Str.ofString "sizes") = some (.ref Z) → m' (Str.ofString "start") = some (.int 0 t) →
      (∀ y, y ≠ Str.ofString "sizes" → y ≠ Str.ofString "start" → m' y = m y) → Q .next { s with heap := h', toks := tk }),
    wpAny (model PySem.Challenge.rw_dm0096_02.row.prog w) ⟨none, dp, some (lawEnv L fa cd :: outer), gd, un⟩ (execs ((lawB.drop 6).take 2) (lawEnv L fa cd)) Q (fun _ _ => False) s := by
  k_fill
  intro w dp un gd A₀ base h₀ outer L fa cd m mg mb mean lo news s Q B F X N T hd hu G gs rs k hmg hG hgs hn hret
  rw [show (lawB.drop 6).take 2 = [_, _] from rfl]
  unfold lawEnv
  rw [show lawSc = Scope.mk _ _ _ _ _ from rfl]
  k_steps
  unfold Src
  have hgl := hgs.1
  refine LCg.CompSrc.ledger rfl (by k_asm) (by k_asm) hG (by rw [sizeLine_eq]; simp; omega) (fun gg => ?_)
  refine rest_pure (G := fun i y => ∃ t, y = Value.int ((szOf rs).getD i 0) t) (.inr ⟨_, hG, rfl, _, rfl⟩) ?_ ?_
  · intro i v I oI C oC D ys m₂ h9 tk E' hi9 hP hC hx F9 N9
    have hgi : gs[i]? = some v := by simpa using hP
    obtain ⟨a, us, nn, rfl, ha, hus⟩ := hgs.2 i v hgi
    have hir : i < rs.length := by simp at hi9; omega
    have hgd : rs.getD i 0 = rs[i] := by simp [hir]
    have hsd : (szOf rs).getD i 0 = signsZ (grp rs[i]) := by simp [szOf, hir]
    rw [hgd] at hus
    have ha' : (a, lobj us nn) ∈ (I, oI) :: (C, oC) :: (D, LCg.lst ys) :: news := .tail _ (.tail _ (.tail _ ha))
    k_steps
    refine ls_call _ _ _ _ _ _ _ _ _ _ _ _ _ a nn _ _ _ _ us _ (by k_asm) (by k_asm) (by k_asm) (by k_asm) (by k_asm) ha' hus rfl rfl rfl (by dsimp only; omega) (by dsimp only; omega) rfl (grp_len _).2 (grp_in _) ?_
    intro t' tk8 h8 F8 N8
    exact PureEnd.intro ⟨_, by rw [hsd]⟩ (by k_asm) (by k_asm)
  · intro ys hyl hG9 D h9 tk9 F9 N9 off9
    have hI9 : IntsAre ys (szOf rs) := ints_of ys _ (by simp [szOf] at hyl ⊢; omega) hG9
    k_steps
    exact hret _ _ _ _ ys _ _ (by assumption) (by assumption) hI9 rfl rfl (fun y h1 h2 => by
      show (if y = Str.ofString "start" then _ else if y = Str.ofString "sizes" then _ else m y) = m y
      rw [if_neg h2, if_neg h1])
end Mine

open PySem PySem.W PyProof.Rows PySem.Calls
set_option Elab.async false
set_option maxRecDepth 100000
set_option maxHeartbeats 8000000
set_option linter.unusedVariables false
namespace Mine
theorem signs_len (ns : List Int) (h : ∀ k ∈ ns, 0 ≤ k ∧ k < 256) : signsZ ns = ((encH (ns.map Int.toNat)).length : Int) := by
  induction ns with
  | nil => rfl
  | cons k r ih =>
    have hk := h k (by simp)
    have ihr := ih fun q hq => h q (by simp [hq])
    have e : (tr fH k.toNat).length = (fH k.toNat).cps.size := by unfold tr; rw [if_pos (by omega)]; simp
    simp only [signsZ, List.map_cons, List.sum_cons] at ihr ⊢
    simp only [encH, List.flatMap_cons, List.length_append, e] at ihr ⊢
    rw [ihr]
    simp [sgn]
theorem sz_eq (rs : List Int) : szOf rs = (sgOf rs).map fun l => (l.length : Int) := by
  simp only [szOf, sgOf, List.map_map]
  exact List.map_congr_left fun x _ => signs_len _ (grp_in x)
theorem sum_nat : ∀ l : List (List Nat), (l.map fun l => (l.length : Int)).sum = ((l.map List.length).sum : Nat)
  | [] => rfl
  | a :: r => by simp [sum_nat r]
theorem more_room {room T : Nat} {r : List (List Nat)} {j : Nat} (hj : j < r.length) (h : T + r[j].length ≤ room) : more room T (r.drop j) = 1 + more room (T + r[j].length) (r.drop (j + 1)) := by
  rw [List.drop_eq_getElem_cons hj]
  simp [more, h]
theorem more_full {room T : Nat} {r : List (List Nat)} {j : Nat} (hj : j < r.length) (h : ¬ T + r[j].length ≤ room) : more room T (r.drop j) = 0 := by
  rw [List.drop_eq_getElem_cons hj]
  simp [more, h]
theorem more_end {room T : Nat} {r : List (List Nat)} {j : Nat} (hj : r.length ≤ j) : more room T (r.drop j) = 0 := by
  rw [List.drop_eq_nil_of_le hj]; rfl
/-- the sum that the loop's test takes -/
theorem test_sum (sg : List (List Nat)) (st j : Nat) (hj : st + 1 + j < sg.length) (sz : List Int) (hsz : sz = sg.map fun l => (l.length : Int)) :
    (List.take (min (((st + 1 + j : Nat) : Int) + 1).toNat sz.length - ((st : Nat) : Int).toNat) (List.drop ((st : Nat) : Int).toNat sz)).sum = (((((sg.drop st).take (j + 1)).map List.length).sum + sg[st + 1 + j].length : Nat) : Int) := by
  subst hsz
  have e : min (((st + 1 + j : Nat) : Int) + 1).toNat (sg.map fun l => (l.length : Int)).length - ((st : Nat) : Int).toNat = j + 2 := by
    rw [List.length_map]; omega
  rw [e, show ((st : Nat) : Int).toNat = st from rfl, ← List.map_drop, ← List.map_take, sum_nat]
  have hl : j + 1 < (sg.drop st).length := by simp; omega
  rw [show j + 2 = (j + 1) + 1 from rfl, List.take_succ_eq_append_getElem hl]
  simp [Nat.add_assoc, Nat.add_comm 1 j]
local macro_rules | `(tactic| walk_at "loadName") => `(tactic| (k_here; k_dflt (refine wpAny_loadName_local (env := envOf _ _ _ _ _) rfl rfl (Fr.ns (by k_asm)) (by first | rfl | assumption) ?_)))
local macro_rules | `(tactic| walk_at "eval Name") => `(tactic| (k_here; k_dflt (refine' nameX_L ?F ?v ?_ ?a ?b; (case F => k_asm); (case a => rfl); (case b => rfl); (case v => first | rfl | assumption); k_whole)))
local macro_rules | `(tactic| walk_at "call builtin:len") => `(tactic| (k_here; refine len_own (by k_asm) (by assumption) (by omega) ?_; intro _ _))
local macro_rules | `(tactic| walk_at "subscriptTail Name Slice ref ref") => `(tactic| (k_here; k_dflt (refine' slice_own ?F ?N ?hm ?ha ?hb ?hab ?hbl ?hz ?_ ?s ?t; (case F => k_asm); (case N => k_asm); (case hm => assumption); (case ha => exact rfl); (case hb => first | exact rfl | assumption); (case hab => omega); (case hbl => omega); (case hz => omega); (case s => with_unfolding_all rfl); (case t => intro _; with_unfolding_all rfl)); intro D' h' F' N' l1'))
local macro_rules | `(tactic| walk_at "call builtin:sum") => `(tactic| (k_here; refine sumK rfl (by k_asm) (by k_asm) (isl_of (by k_asm) (List.mem_cons_self ..)) (ints_slice (by assumption) _ _) ?_; intro _ _ _ F' N'))
theorem whileF : ∀ (w : World) (dp un : Nat) (gd : Option (List Code)) (A₀ : Around) (base h₀ : Heap) (outer : List Env) (L fa : Addr) (cd : Value) (m mg mb : Str → Option Value) (mean : ExcName → Option Value) (lo : List Str) (news : List (Addr × Obj)) (s : Shared) (Q : Flow → Shared → Prop)
    (_ : Below A₀ base outer h₀) (_ : Fr h₀ L s.heap m) (_ : (KK w.params).In h₀) (_ : News h₀ L s.heap news) (_ : Top qv lo mean mg mb h₀) (_ : dp < 800) (_ : un < 80) (G Z : Addr) (gs zs : List Value) (rs : List Int) (k n t1 t2 t3 : Nat) (room st : Nat)
    (_ : m (Str.ofString "groups") = some (.ref G)) (_ : m (Str.ofString "sizes") = some (.ref Z)) (_ : m (Str.ofString "room") = some (.int (room : Int) t1)) (_ : m (Str.ofString "start") = some (.int (st : Int) t2)) (_ : m (Str.ofString "stop") = some (.int ((st : Int) + 1) t3))
    (_ : (G, lobj gs k) ∈ news) (_ : gs.length = rs.length) (_ : (Z, lobj zs n) ∈ news) (_ : IntsAre zs (szOf rs)) (_ : rs.length ≤ 63) (hst : st < (sgOf rs).length)
    (_ : ∀ h' tk m' j t, Fr h₀ L h' m' → News h₀ L h' news → j = more room (sgOf rs)[st].length ((sgOf rs).drop (st + 1)) → m' (Str.ofString "stop") = some (.int ((st + 1 + j : Nat) : Int) t) → (∀ y, y ≠ Str.ofString "stop" → m' y = m y) → Q .next { s with heap := h', toks := tk }),
    wpAny (model PySem.Challenge.rw_dm0096_02.row.prog w) ⟨none, dp, some (lawEnv L fa cd :: outer), gd, un⟩ (execs (((forB lawB[8]?).drop 1).take 1) (lawEnv L fa cd)) Q (fun _ _ => False) s := by
  k_fill
  intro w dp un gd A₀ base h₀ outer L fa cd m mg mb mean lo news s Q B F X N T hd hu G Z gs zs rs k n t1 t2 t3 room st hmg hmz hmr hms hmp hG hgl hZ hI hn hst hret
  rw [show ((forB lawB[8]?).drop 1).take 1 = [_] from rfl]
  unfold lawEnv
  rw [show lawSc = Scope.mk _ _ _ _ _ from rfl]
  have hzl := hI.length
  have hsl : (sgOf rs).length = rs.length := by simp [sgOf]
  have hse := sz_eq rs
  generalize hsg : sgOf rs = sg at *
  refine wpAny_execs_cons ?_
  refine While_inv (fun q m' nw => nw = news ∧ ∃ j t, q = rs.length - j ∧ st + 1 + j ≤ rs.length ∧ m' (Str.ofString "stop") = some (.int ((st + 1 + j : Nat) : Int) t) ∧ (∀ y, y ≠ Str.ofString "stop" → m' y = m y) ∧
    j + more room (((sg.drop st).take (j + 1)).map List.length).sum ((sg.drop (st + 1)).drop j) = more room sg[st].length (sg.drop (st + 1))) (n₀ := rs.length) F N ⟨rfl, 0, _, rfl, by omega, hmp, fun y hy => rfl, ?_⟩ ?_
  · have e1 : (sg.drop st).take (0 + 1) = [sg[st]] := by rw [List.drop_eq_getElem_cons hst]; rfl
    rw [e1, List.drop_zero]
    simp
  rintro q m₁ nw h₁ tk₁ F₁ N₁ ⟨rfl, j, t, rfl, hjb, hstop, hoth, hmore⟩
  have a1 : m₁ (Str.ofString "groups") = some (.ref G) := (hoth _ (by decide +kernel)).trans hmg
  have a2 : m₁ (Str.ofString "sizes") = some (.ref Z) := (hoth _ (by decide +kernel)).trans hmz
  have a3 : m₁ (Str.ofString "room") = some (.int (room : Int) t1) := (hoth _ (by decide +kernel)).trans hmr
  have a4 : m₁ (Str.ofString "start") = some (.int (st : Int) t2) := (hoth _ (by decide +kernel)).trans hms
  clear hmg hmz hmr hms hmp F N
  have hzl' : zs.length = rs.length := by rw [hzl]; simp [szOf]
  by_cases hend : st + 1 + j < sg.length
  · have hc9 : ((st + 1 + j : Nat) : Int) + 1 = ((st + 1 + (j + 1) : Nat) : Int) := by omega
    have hts := test_sum sg st j hend _ hse
    have hj' : j < (sg.drop (st + 1)).length := by simp; omega
    have hgj : (sg.drop (st + 1))[j] = sg[st + 1 + j] := by simp
    have hT : (((sg.drop st).take (j + 1 + 1)).map List.length).sum = (((sg.drop st).take (j + 1)).map List.length).sum + sg[st + 1 + j].length := by
      have hl : j + 1 < (sg.drop st).length := by simp; omega
      rw [List.take_succ_eq_append_getElem hl]
      simp [Nat.add_assoc, Nat.add_comm 1 j]
    k_steps
    · refine WhileStep.intro (n' := rs.length - (j + 1)) (by assumption) (cb_drop (by assumption) (fun p hp => .tail _ hp)) (by omega) ⟨rfl, j + 1, _, rfl, by omega, (if_pos rfl).trans (congrArg (fun z => some (Value.int z _)) hc9), ?_, ?_⟩
      · intro y hy
        exact (if_neg hy).trans (hoth y hy)
      · have h9 : (((((sg.drop st).take (j + 1)).map List.length).sum + sg[st + 1 + j].length : Nat) : Int) ≤ (room : Int) := by rw [← hts]; assumption
        have h8 := more_room (room := room) (T := (((sg.drop st).take (j + 1)).map List.length).sum) hj' (by rw [hgj]; omega)
        rw [hgj] at h8
        rw [hT]
        omega
    · have h9 : ¬ (((((sg.drop st).take (j + 1)).map List.length).sum + sg[st + 1 + j].length : Nat) : Int) ≤ (room : Int) := by rw [← hts]; assumption
      have h8 := more_full (room := room) (T := (((sg.drop st).take (j + 1)).map List.length).sum) hj' (by rw [hgj]; omega)
      exact hret _ _ _ j _ (by assumption) (cb_drop (by assumption) (fun p hp => .tail _ hp)) (by omega) hstop hoth
  · have h8 := more_end (room := room) (T := (((sg.drop st).take (j + 1)).map List.length).sum) (r := sg.drop (st + 1)) (j := j) (by simp; omega)
    k_steps
    exact hret _ _ _ j _ (by assumption) (by assumption) (by omega) hstop hoth
end Mine

open PySem PySem.W PyProof.Rows PySem.Calls
set_option Elab.async false
set_option maxRecDepth 100000
set_option maxHeartbeats 8000000
set_option linter.unusedVariables false
namespace Mine
abbrev Iss := List (Addr × List Value × Nat)
def IssAre : Iss → List Int → Prop
  | [], [] => True
  | p :: r, x :: xs => IntsAre p.2.1 (grp x) ∧ IssAre r xs
  | _, _ => False
theorem iss_drop : ∀ {l : Iss} {xs : List Int}, IssAre l xs → ∀ a : Nat, IssAre (l.drop a) (xs.drop a)
  | _, _, h, 0 => by simpa using h
  | [], [], h, _ + 1 => h
  | _ :: _, _ :: _, h, a + 1 => by simpa using iss_drop h.2 a
theorem iss_take : ∀ {l : Iss} {xs : List Int}, IssAre l xs → ∀ a : Nat, IssAre (l.take a) (xs.take a)
  | _, _, h, 0 => trivial
  | [], [], h, _ + 1 => h
  | _ :: _, _ :: _, h, a + 1 => ⟨h.1, iss_take h.2 a⟩
theorem iss_flat : ∀ {l : Iss} {xs : List Int}, IssAre l xs → IntsAre (l.flatMap (·.2.1)) (xs.flatMap grp)
  | [], [], _ => .nil
  | _ :: _, _ :: _, h => by
    rw [List.flatMap_cons, List.flatMap_cons]
    exact h.1.append (iss_flat h.2)
theorem iss_of {news : List (Addr × Obj)} : ∀ (gs : List Value) (rs : List Int), GroupsAre gs rs news → ∃ l : Iss, gs = l.map (fun p => Value.ref p.1) ∧ (∀ p ∈ l, (p.1, lobj p.2.1 p.2.2) ∈ news) ∧ IssAre l rs
  | [], [], _ => ⟨[], rfl, by simp, trivial⟩
  | [], _ :: _, h => by have := h.1; simp at this
  | _ :: _, [], h => by have := h.1; simp at this
  | g :: gs, x :: rs, h => by
    obtain ⟨a, us, n, e1, e2, e3⟩ := h.2 0 g rfl
    obtain ⟨l, q1, q2, q3⟩ := iss_of gs rs ⟨by have := h.1; simpa using this, fun i g hg => by simpa using h.2 (i + 1) g hg⟩
    refine ⟨(a, us, n) :: l, by rw [e1, q1]; rfl, ?_, ?_, q3⟩
    · intro p hp
      rcases List.mem_cons.mp hp with rfl | hp
      · exact e2
      · exact q2 p hp
    · simpa using e3
theorem grps_len : ∀ (xs : List Int), (xs.flatMap grp).length ≤ 4 * xs.length
  | [] => by simp
  | x :: r => by
    have := grps_len r
    have := (grp_len x).2
    rw [List.flatMap_cons, List.length_append, List.length_cons]
    omega
theorem grps_in (xs : List Int) : ∀ k ∈ xs.flatMap grp, 0 ≤ k ∧ k < 256 := by
  intro k hk
  obtain ⟨x, _, hx⟩ := List.mem_flatMap.mp hk
  exact grp_in x k hx
theorem enc_grps (xs : List Int) : encH ((xs.flatMap grp).map Int.toNat) = (sgOf xs).flatten := by
  induction xs with
  | nil => rfl
  | cons x r ih =>
    simp only [sgOf, List.map_cons, List.flatten_cons, List.flatMap_cons, List.map_append] at ih ⊢
    rw [← ih]
    simp [encH, gN]
local macro_rules | `(tactic| walk_at "loadName") => `(tactic| (k_here; k_dflt (refine wpAny_loadName_local (env := envOf _ _ _ _ _) rfl rfl (Fr.ns (by k_asm)) (by first | rfl | assumption) ?_)))
local macro_rules | `(tactic| walk_at "eval Name") => `(tactic| (k_here; k_dflt (refine' nameX_L ?F ?v ?_ ?a ?b; (case F => k_asm); (case a => rfl); (case b => rfl); (case v => first | rfl | assumption); k_whole)))
local macro_rules | `(tactic| walk_at "call type:bytes") => `(tactic| (k_here; refine bytes_K (by k_asm) (by k_asm) (isl_of (by k_asm) (List.mem_cons_self ..)) (by assumption) (by assumption) (by rw [sizeLine_eq]; omega) rfl ?_; intro _ _ _ F' N' _))
local macro_rules | `(tactic| walk_at "subscriptTail Name Slice ref ref") => `(tactic| (k_here; k_dflt (refine' slice_own ?F ?N ?hm ?ha ?hb ?hab ?hbl ?hz ?_ ?s ?t; (case F => k_asm); (case N => k_asm); (case hm => assumption); (case ha => exact rfl); (case hb => exact rfl); (case hab => omega); (case hbl => omega); (case hz => omega); (case s => with_unfolding_all rfl); (case t => intro _; with_unfolding_all rfl)); intro D' h' F' N' l1'))
theorem runG : ∀ (w : World) (dp un : Nat) (gd : Option (List Code)) (A₀ : Around) (base h₀ : Heap) (outer : List Env) (L fa : Addr) (cd : Value) (m mg mb : Str → Option Value) (mean : ExcName → Option Value) (lo : List Str) (news : List (Addr × Obj)) (s : Shared) (Q : Flow → Shared → Prop)
    (_ : Below A₀ base outer h₀) (_ : Fr h₀ L s.heap m) (_ : (KK w.params).In h₀) (_ : News h₀ L s.heap news) (_ : Top qv lo mean mg mb h₀) (_ : dp < 800) (_ : un < 80) (G : Addr) (gs : List Value) (rs : List Int) (k t1 t2 t3 t4 : Nat) (st sp : Nat) (name ln : Str)
    (_ : m (Str.ofString "groups") = some (.ref G)) (_ : m (Str.ofString "name") = some (.str name t1)) (_ : m (Str.ofString "start") = some (.int (st : Int) t2)) (_ : m (Str.ofString "stop") = some (.int (sp : Int) t3)) (_ : m (Str.ofString "line") = some (.str ln t4))
    (_ : (G, lobj gs k) ∈ news) (_ : GroupsAre gs rs news) (_ : rs.length ≤ 63) (_ : st < sp) (_ : sp ≤ rs.length) (_ : name.length ≤ 3) (_ : ln.cps.toList = (sgOf ((rs.drop st).take (sp - st))).flatten)
    (_ : ∀ h' tk m' t, Fr h₀ L h' m' → News h₀ L h' news → m' (Str.ofString "start") = some (.int (sp : Int) t) → (∀ y, y ≠ Str.ofString "run" → y ≠ Str.ofString "start" → m' y = m y) → Q .next { s with heap := h', toks := tk }),
    wpAny (model PySem.Challenge.rw_dm0096_02.row.prog w) ⟨none, dp, some (lawEnv L fa cd :: outer), gd, un⟩ (execs (((forB lawB[8]?).drop 2).take 3) (lawEnv L fa cd)) Q (fun _ _ => False) s := by
  k_fill
  intro w dp un gd A₀ base h₀ outer L fa cd m mg mb mean lo news s Q B F X N T hd hu G gs rs k t1 t2 t3 t4 st sp name ln hmg hmn hms hmp hml hG hgs hn hlt hsp hname hln hret
  rw [show ((forB lawB[8]?).drop 2).take 3 = [_, _, _] from rfl]
  unfold lawEnv
  rw [show lawSc = Scope.mk _ _ _ _ _ from rfl]
  have hgl := hgs.1
  obtain ⟨l, q1, q2, q3⟩ := iss_of gs rs hgs
  k_steps
  refine assign_two (h₀ := h₀) (m := m) rfl rfl (by with_unfolding_all rfl) (by with_unfolding_all rfl) (by decide) rfl (by decide) rfl rfl (by decide) (by decide) rfl rfl ?_
  k_steps
  rename_i D1 h1 F1 N1 l1
  rw [q1, ← List.map_drop, ← List.map_take] at N1
  have q4 := iss_take (iss_drop q3 st) (sp - st)
  have q5 := iss_flat q4
  have hxl : ((rs.drop st).take (sp - st)).length = sp - st := by simp; omega
  have hgn : 1 ≤ (((rs.drop st).take (sp - st)).flatMap grp).length := by
    cases hx : (rs.drop st).take (sp - st) with
    | nil => rw [hx] at hxl; simp at hxl; omega
    | cons a r => rw [List.flatMap_cons, List.length_append]; have := (grp_len a).1; omega
  have hgb := grps_len ((rs.drop st).take (sp - st))
  have hgi := grps_in ((rs.drop st).take (sp - st))
  have henc := enc_grps ((rs.drop st).take (sp - st))
  have hll : l.length = rs.length := by rw [← hgl, q1]; simp
  generalize ((rs.drop st).take (sp - st)) = xs at *
  have q6 := q5.length
  refine ⟨D1, 0, _, (l.drop st).take (sp - st), rfl, F1, N1, .head _, fun p hp => .tail _ (q2 p (List.mem_of_mem_drop (List.mem_of_mem_take hp))), by simp; omega, by omega, ?_⟩
  generalize ((l.drop st).take (sp - st)).flatMap (·.2.1) = vals at *
  intro D2 h2 tk2 F2 N2 off2
  generalize hm2 : (fun z => if z = Str.ofString "run" then some (Value.ref D2) else m z) = m2 at F2
  have b0 : m2 (Str.ofString "run") = some (.ref D2) := by rw [← hm2]; exact if_pos rfl
  have b1 : m2 (Str.ofString "name") = some (.str name t1) := by rw [← hm2]; exact hmn
  have b2 : m2 (Str.ofString "stop") = some (.int (sp : Int) t3) := by rw [← hm2]; exact hmp
  have b3 : m2 (Str.ofString "line") = some (.str ln t4) := by rw [← hm2]; exact hml
  have hlnl : ln.length ≤ 3000 := by
    have e1 : ln.length = ln.cps.toList.length := by simp [Str.length]
    have e2 := enc_len ((xs.flatMap grp).map Int.toNat)
    rw [e1, hln, ← henc]
    rw [List.length_map] at e2
    omega
  k_steps
  refine he_ints _ _ _ _ _ _ _ _ _ _ _ _ _ _ _ _ _ (by k_asm) (by k_asm) (by k_asm) (by k_asm) (by k_asm) rfl rfl rfl (by dsimp only; omega) (by dsimp only; omega) rfl _ _ _ _ (by omega) (by omega) (by assumption) (by assumption) ?_
  intro z _ _ _ hz hzl hzb F' N'
  have hzt : z = Str.ofString "=?" ++ name ++ Str.ofString "?q?" ++ ln ++ Str.ofString "?=" := by
    rw [hz]
    unfold heText
    rw [henc, ← hln]
    apply Str.ext'
    simp only [Str.cps_append]
  k_steps
  · exact absurd (show (z != Str.ofString "=?" ++ name ++ Str.ofString "?q?" ++ ln ++ Str.ofString "?=") = true by assumption) (by rw [← hzt]; simp)
  · refine hret _ _ _ _ (by assumption) (cb_drop (by assumption) (fun p hp => .tail _ (.tail _ hp))) rfl (fun y h1 h2 => ?_)
    subst hm2
    show (if y = Str.ofString "start" then _ else if y = Str.ofString "run" then _ else m y) = m y
    rw [if_neg h2, if_neg h1]
end Mine

open PySem PySem.W PyProof.Rows PySem.Calls
set_option Elab.async false
set_option maxRecDepth 100000
set_option maxHeartbeats 8000000
set_option linter.unusedVariables false
namespace Mine
local macro_rules | `(tactic| walk_at "loadName") => `(tactic| (k_here; k_dflt (refine wpAny_loadName_local (env := envOf _ _ _ _ _) rfl rfl (Fr.ns (by k_asm)) (by first | rfl | assumption) ?_)))
local macro_rules | `(tactic| walk_at "eval Name") => `(tactic| (k_here; k_dflt (refine' nameX_L ?F ?v ?_ ?a ?b; (case F => k_asm); (case a => rfl); (case b => rfl); (case v => first | rfl | assumption); k_whole)))
theorem stopF : ∀ (w : World) (dp un : Nat) (gd : Option (List Code)) (A₀ : Around) (base h₀ : Heap) (outer : List Env) (L fa : Addr) (cd : Value) (m mg mb : Str → Option Value) (mean : ExcName → Option Value) (lo : List Str) (news : List (Addr × Obj)) (s : Shared) (Q : Flow → Shared → Prop)
    (_ : Below A₀ base outer h₀) (_ : Fr h₀ L s.heap m) (_ : (KK w.params).In h₀) (_ : News h₀ L s.heap news) (_ : Top qv lo mean mg mb h₀) (_ : dp < 800) (_ : un < 80) (st t2 : Nat) (_ : m (Str.ofString "start") = some (.int (st : Int) t2))
    (_ : ∀ h' tk m' t, Fr h₀ L h' m' → News h₀ L h' news → m' (Str.ofString "stop") = some (.int ((st : Int) + 1) t) → (∀ y, y ≠ Str.ofString "stop" → m' y = m y) → Q .next { s with heap := h', toks := tk }),
    wpAny (model PySem.Challenge.rw_dm0096_02.row.prog w) ⟨none, dp, some (lawEnv L fa cd :: outer), gd, un⟩ (execs (((forB lawB[8]?).drop 0).take 1) (lawEnv L fa cd)) Q (fun _ _ => False) s := by
  k_fill
  intro w dp un gd A₀ base h₀ outer L fa cd m mg mb mean lo news s Q B F X N T hd hu st t2 hms hret
  rw [show ((forB lawB[8]?).drop 0).take 1 = [_] from rfl]
  unfold lawEnv
  rw [show lawSc = Scope.mk _ _ _ _ _ from rfl]
  k_steps
  exact hret _ _ _ _ (by assumption) (by assumption) rfl (fun y hy => if_neg hy)
theorem turnF : ∀ (w : World) (dp un : Nat) (gd : Option (List Code)) (A₀ : Around) (base h₀ : Heap) (outer : List Env) (L fa : Addr) (cd : Value) (m mg mb : Str → Option Value) (mean : ExcName → Option Value) (lo : List Str) (news : List (Addr × Obj)) (s : Shared) (Q : Flow → Shared → Prop)
    (_ : Below A₀ base outer h₀) (_ : Fr h₀ L s.heap m) (_ : (KK w.params).In h₀) (_ : News h₀ L s.heap news) (_ : Top qv lo mean mg mb h₀) (_ : dp < 800) (_ : un < 80) (G Z : Addr) (gs zs : List Value) (rs : List Int) (k n t1 t2 t3 t4 : Nat) (room st j : Nat) (name ln : Str)
    (_ : m (Str.ofString "groups") = some (.ref G)) (_ : m (Str.ofString "sizes") = some (.ref Z)) (_ : m (Str.ofString "room") = some (.int (room : Int) t1)) (_ : m (Str.ofString "start") = some (.int (st : Int) t2)) (_ : m (Str.ofString "name") = some (.str name t3)) (_ : m (Str.ofString "line") = some (.str ln t4))
    (_ : (G, lobj gs k) ∈ news) (_ : GroupsAre gs rs news) (_ : (Z, lobj zs n) ∈ news) (_ : IntsAre zs (szOf rs)) (_ : rs.length ≤ 63) (_ : name.length ≤ 3) (hst : st < (sgOf rs).length)
    (_ : j = more room (sgOf rs)[st].length ((sgOf rs).drop (st + 1))) (_ : ln.cps.toList = (sgOf rs)[st] ++ (((sgOf rs).drop (st + 1)).take j).flatten)
    (_ : ∀ h' tk m' t, Fr h₀ L h' m' → News h₀ L h' news → m' (Str.ofString "start") = some (.int ((st + 1 + j : Nat) : Int) t) → (∀ y, y ≠ Str.ofString "run" → y ≠ Str.ofString "start" → y ≠ Str.ofString "stop" → m' y = m y) → Q .next { s with heap := h', toks := tk }),
    wpAny (model PySem.Challenge.rw_dm0096_02.row.prog w) ⟨none, dp, some (lawEnv L fa cd :: outer), gd, un⟩ (execs (forB lawB[8]?) (lawEnv L fa cd)) Q (fun _ _ => False) s := by
  intro w dp un gd A₀ base h₀ outer L fa cd m mg mb mean lo news s Q B F X N T hd hu G Z gs zs rs k n t1 t2 t3 t4 room st j name ln hmg hmz hmr hms hmn hml hG hgs hZ hI hn hname hst hj hln hret
  have hsl : (sgOf rs).length = rs.length := by simp [sgOf]
  have hjb := more_le room ((sgOf rs).drop (st + 1)) (sgOf rs)[st].length
  rw [← hj] at hjb
  have hjb' : st + 1 + j ≤ rs.length := by simp at hjb; omega
  rw [show forB lawB[8]? = ((forB lawB[8]?).drop 0).take 1 ++ (((forB lawB[8]?).drop 1).take 1 ++ ((forB lawB[8]?).drop 2).take 3) from rfl]
  refine execs_app _ _ _ ?_
  refine stopF w dp un gd A₀ base h₀ outer L fa cd m mg mb mean lo news s _ B F X N T hd hu st t2 hms fun h1 tk1 m1 u1 F1 N1 hp1 ho1 => ?_
  show wpAny _ _ _ _ _ _
  refine execs_app _ _ _ ?_
  refine whileF w dp un gd A₀ base h₀ outer L fa cd m1 mg mb mean lo news _ _ B F1 X N1 T hd hu G Z gs zs rs k n t1 t2 u1 room st ((ho1 _ (by decide +kernel)).trans hmg) ((ho1 _ (by decide +kernel)).trans hmz) ((ho1 _ (by decide +kernel)).trans hmr) ((ho1 _ (by decide +kernel)).trans hms) hp1 hG hgs.1 hZ hI hn hst fun h2 tk2 m2 j2 u2 F2 N2 hj2 hp2 ho2 => ?_
  rw [← hj] at hj2
  subst hj2
  show wpAny _ _ _ _ _ _
  refine runG w dp un gd A₀ base h₀ outer L fa cd m2 mg mb mean lo news _ _ B F2 X N2 T hd hu G gs rs k t3 t2 u2 t4 st (st + 1 + j2) name ln ((ho2 _ (by decide +kernel)).trans ((ho1 _ (by decide +kernel)).trans hmg)) ((ho2 _ (by decide +kernel)).trans ((ho1 _ (by decide +kernel)).trans hmn)) ((ho2 _ (by decide +kernel)).trans ((ho1 _ (by decide +kernel)).trans hms)) hp2 ((ho2 _ (by decide +kernel)).trans ((ho1 _ (by decide +kernel)).trans hml)) hG hgs hn (by omega) hjb' hname ?_ fun h3 tk3 m3 u3 F3 N3 hs3 ho3 => ?_
  · rw [hln]
    have e : sgOf ((rs.drop st).take (st + 1 + j2 - st)) = ((sgOf rs).drop st).take (j2 + 1) := by
      rw [show st + 1 + j2 - st = j2 + 1 from by omega]
      simp [sgOf, List.map_drop, List.map_take]
    rw [e, List.drop_eq_getElem_cons hst, List.take_succ_cons, List.flatten_cons]
  · refine hret _ _ _ _ F3 N3 hs3 fun y a b c => ?_
    rw [ho3 y a b, ho2 y c, ho1 y c]
theorem partF : ∀ (w : World) (dp un : Nat) (gd : Option (List Code)) (A₀ : Around) (base h₀ : Heap) (outer : List Env) (L fa : Addr) (cd : Value) (m mg mb : Str → Option Value) (mean : ExcName → Option Value) (lo : List Str) (news : List (Addr × Obj)) (s : Shared) (Q : Flow → Shared → Prop)
    (_ : Below A₀ base outer h₀) (_ : Fr h₀ L s.heap m) (_ : (KK w.params).In h₀) (_ : News h₀ L s.heap news) (_ : Top qv lo mean mg mb h₀) (_ : dp < 800) (_ : un < 80) (G Z l : Addr) (gs zs : List Value) (rs : List Int) (ts : List (Str × Tok)) (k n q t1 t2 t3 : Nat) (room : Nat) (name : Str)
    (_ : m (Str.ofString "groups") = some (.ref G)) (_ : m (Str.ofString "sizes") = some (.ref Z)) (_ : m (Str.ofString "room") = some (.int (room : Int) t1)) (_ : m (Str.ofString "start") = some (.int 0 t2)) (_ : m (Str.ofString "name") = some (.str name t3)) (_ : m (Str.ofString "lines") = some (.ref l))
    (_ : (G, lobj gs k) ∈ news) (_ : GroupsAre gs rs news) (_ : (Z, lobj zs n) ∈ news) (_ : (l, lobj (tv ts) q) ∈ news) (_ : IntsAre zs (szOf rs)) (_ : rs.length ≤ 63) (_ : name.length ≤ 3) (_ : tl ts = linesOf room (sgOf rs))
    (_ : ∀ h' tk m' t, Fr h₀ L h' m' → News h₀ L h' news → m' (Str.ofString "start") = some (.int (rs.length : Int) t) → KeepOn [Str.ofString "groups", Str.ofString "sizes", Str.ofString "room", Str.ofString "lines"] m m' → Q .next { s with heap := h', toks := tk }),
    wpAny (model PySem.Challenge.rw_dm0096_02.row.prog w) ⟨none, dp, some (lawEnv L fa cd :: outer), gd, un⟩ (execs ((lawB.drop 8).take 1) (lawEnv L fa cd)) Q (fun _ _ => False) s := by
  k_fill
  intro w dp un gd A₀ base h₀ outer L fa cd m mg mb mean lo news s Q B F X N T hd hu G Z l gs zs rs ts k n q t1 t2 t3 room name hmg hmz hmr hms hmn hml hG hgs hZ hl hI hn hname htl hret
  rw [show (lawB.drop 8).take 1 = [_] from rfl]
  unfold lawEnv
  rw [show lawSc = Scope.mk _ _ _ _ _ from rfl]
  refine wpAny_execs_cons ?_
  refine For_turns F ?_
  k_steps
  have hsl : (sgOf rs).length = rs.length := by simp [sgOf]
  have hlts : ∀ p ∈ news, p.1 < s.heap.objs.size := fun p hp => Heap.lt_size (N p hp).1
  refine list_turns (ax := l) (vs := tv ts) (n := q) (fun i m' nw => nw = news ∧ ∃ st t, m' (Str.ofString "start") = some (.int ((st : Nat) : Int) t) ∧ st ≤ rs.length ∧ (tl ts).drop i = linesOf room ((sgOf rs).drop st) ∧ KeepOn [Str.ofString "groups", Str.ofString "sizes", Str.ofString "room", Str.ofString "lines", Str.ofString "name"] m m')
    rfl F N hl ⟨rfl, 0, t2, hms, by omega, by simpa using htl, fun y _ => rfl⟩ (fun v s Q E I i _ hQ => wpAny_pure hQ) ?_ ?_
  · rintro i v m₁ nw h₁ tk₁ own hown hvi ⟨rfl, st, t, hm1, hst, hdr, hkeep⟩ F₁ N₁
    refine hid ?_
    have hv : ∃ p, ts[i]? = some p ∧ v = .str p.1 p.2 := by
      rw [tv, List.getElem?_map] at hvi
      cases hp : ts[i]? with
      | none => rw [hp] at hvi; cases hvi
      | some p => rw [hp] at hvi; exact ⟨p, rfl, (Option.some.inj hvi).symm⟩
    obtain ⟨p, hp, rfl⟩ := hv
    obtain ⟨hpi, hpe⟩ := List.getElem?_eq_some_iff.mp hp
    have hd1 : (tl ts).drop i = p.1.cps.toList :: (tl ts).drop (i + 1) := by
      rw [List.drop_eq_getElem_cons (by simpa [tl] using hpi)]
      congr 1
      simp [tl, hpe]
    have hst' : st < (sgOf rs).length := by
      rcases Nat.lt_or_ge st (sgOf rs).length with h | h
      · exact h
      · rw [List.drop_eq_nil_of_le h, linesOf_nil, hd1] at hdr; cases hdr
    rw [hd1, List.drop_eq_getElem_cons hst', linesOf_cons] at hdr
    obtain ⟨hln, hrest⟩ := List.cons.inj hdr
    k_steps
    rename_i h3 F3 N3
    show wpAny _ _ _ _ _ _
    generalize hm3 : (fun z => if z = Str.ofString "line" then some (Value.str p.1 p.2) else m₁ z) = m3 at F3
    have c : ∀ y, y ≠ Str.ofString "line" → m3 y = m₁ y := fun y hy => by rw [← hm3]; exact if_neg hy
    refine turnF w dp un gd A₀ base h₀ outer L fa cd m3 mg mb mean lo _ _ _ B F3 X N3 T hd hu G Z gs zs rs k n t1 t t3 p.2 room st _ name p.1
      ((c _ (by decide +kernel)).trans ((hkeep _ (by decide +kernel)).trans hmg)) ((c _ (by decide +kernel)).trans ((hkeep _ (by decide +kernel)).trans hmz)) ((c _ (by decide +kernel)).trans ((hkeep _ (by decide +kernel)).trans hmr)) ((c _ (by decide +kernel)).trans hm1) ((c _ (by decide +kernel)).trans ((hkeep _ (by decide +kernel)).trans hmn)) (by rw [← hm3]; exact if_pos rfl)
      (List.mem_append.mpr (.inr hG)) ⟨hgs.1, fun i g hg => ?_⟩ (List.mem_append.mpr (.inr hZ)) hI hn hname hst' rfl hln ?_
    · obtain ⟨a, us, nn, e1, e2, e3⟩ := hgs.2 i g hg
      exact ⟨a, us, nn, e1, List.mem_append.mpr (.inr e2), e3⟩
    · intro h' tk m' t' F' N' hs' ho'
      refine TurnEnd.next F' N' hlts ⟨rfl, _, t', hs', ?_, ?_, fun y hy => ?_⟩
      · have := more_le room ((sgOf rs).drop (st + 1)) (sgOf rs)[st].length
        simp at this
        omega
      · rw [hrest, List.drop_drop]
      · rw [ho' y (by rintro rfl; revert hy; decide +kernel) (by rintro rfl; revert hy; decide +kernel) (by rintro rfl; revert hy; decide +kernel), c y (by rintro rfl; revert hy; decide +kernel)]
        exact hkeep y hy
  · rintro h' tk m' nw F' N' ⟨rfl, st, t, hm1, hst, hdr, hkeep⟩
    k_steps
    have hst' : st = rs.length := by
      rcases Nat.lt_or_ge st (sgOf rs).length with h | h
      · rw [List.drop_eq_nil_of_le (by simp [tl, tv]), List.drop_eq_getElem_cons h, linesOf_cons] at hdr
        cases hdr
      · omega
    subst hst'
    exact hret _ _ _ _ F' N' hm1 (fun y hy => hkeep y (by revert hy; simp; intro h; rcases h with h | h | h | h <;> simp [h]))
end Mine

open PySem PySem.W PyProof.Rows PySem.Calls
set_option Elab.async false
set_option maxRecDepth 100000
set_option maxHeartbeats 8000000
set_option linter.unusedVariables false
namespace Mine
def cz (room : Nat) (zn : List Nat) (k : Nat) : Int := ((cnt room (zn.take k)).1 : Int)
def fsZ (room : Nat) (zn : List Nat) (i : Nat) : List Int := (List.range (i + 1)).map (cz room zn)
def znOf (rs : List Int) : List Nat := (sgOf rs).map List.length
theorem item_ints {prog : Program} {w : World} {A : Around} {E : Value → Shared → Prop} {s : Shared} {h₀ : Heap} {L l : Addr} {news : List (Addr × Obj)} {vs : List Value} {ns : List Int} {n : Nat} {value slice : Expr} {k : Int} {u : Tok} {Q : Value → Shared → Prop}
    (N : News h₀ L s.heap news) (hm : (l, lobj vs n) ∈ news) (hi : IntsAre vs ns) (h0 : 0 ≤ k) (h1 : k < (ns.length : Int)) (hb : ns.length ≤ 1000) (h : ∀ t, Q (.int (ns.getD k.toNat 0) t) s)
    (hs : subscripted slice false (.ref l) (.int k u) = operate [.ref l, .int k u] (getItem (.ref l) (.int k u)) := by with_unfolding_all rfl) (hg : ∀ r, letTemporaryGo value (.ref l) r = pure () := by intro _; with_unfolding_all rfl) :
    wpAny (model prog w) A (subscriptTail value slice (.ref l) (.int k u)) Q E s := by
  have hk : k.toNat < ns.length := by omega
  obtain ⟨t, e⟩ := hi.get k.toNat ns[k.toNat] (by rw [List.getElem?_eq_getElem hk])
  refine item_own N hm h0 (by omega) e ?_ hs hg
  have := h t
  simpa [hk] using this
theorem fin_step (room : Nat) (zn : List Nat) (i c : Nat) (hi : i < zn.length) (hc : c ≤ i) (h : ((zn.drop c).take (i + 1 - c)).sum ≤ room ∨ c = i) (hz : ∀ d, c = d + 1 → room < zn.getD d 0 + ((zn.drop c).take (i + 1 - c)).sum) : cz room zn (i + 1) = 1 + cz room zn c := by
  have e : zn.take (i + 1) = zn.take c ++ (zn.drop c).take (i + 1 - c) := by
    rw [show i + 1 = c + (i + 1 - c) from by omega, List.take_add]
    congr 2
    omega
  have hlen : ((zn.drop c).take (i + 1 - c)).length = i + 1 - c := by simp; omega
  have := fewest_step room (zn.take c) ((zn.drop c).take (i + 1 - c)) (by intro e'; rw [e'] at hlen; simp at hlen; omega) (by rcases h with h | h; exact .inl h; exact .inr (by omega)) (fun z zs' ez => by
    have hl := congrArg List.length ez
    simp at hl
    have hd : c = (c - 1) + 1 := by omega
    have := hz (c - 1) hd
    have ez2 : zn.getD (c - 1) 0 = z := by
      have h1 : (zn.take c)[c - 1]? = some z := by rw [ez]; simp [show c - 1 = zs'.length from by omega]
      rw [List.getElem?_take_of_lt (by omega)] at h1
      simp [h1]
    rw [ez2] at this
    exact this)
  unfold cz
  rw [e, this]
  omega
theorem cz_mono (room : Nat) (zn : List Nat) (c : Nat) (h : c < zn.length) : cz room zn c ≤ cz room zn (c + 1) := by
  unfold cz
  rw [List.take_succ_eq_append_getElem h]
  have := cnt_mono room (zn.take c) zn[c]
  omega
theorem sum_down (zn : List Nat) (i c : Nat) (hi : i < zn.length) (hc : c + 1 ≤ i) : ((zn.drop c).take (i + 1 - c)).sum = zn.getD c 0 + ((zn.drop (c + 1)).take (i + 1 - (c + 1))).sum := by
  have h : c < zn.length := by omega
  rw [List.drop_eq_getElem_cons h, show i + 1 - c = (i + 1 - (c + 1)) + 1 from by omega, List.take_succ_cons, List.sum_cons]
  simp [h]
local macro_rules | `(tactic| walk_at "loadName") => `(tactic| (k_here; k_dflt (refine wpAny_loadName_local (env := envOf _ _ _ _ _) rfl rfl (Fr.ns (by k_asm)) (by first | rfl | assumption) ?_)))
local macro_rules | `(tactic| walk_at "eval Name") => `(tactic| (k_here; k_dflt (refine' nameX_L ?F ?v ?_ ?a ?b; (case F => k_asm); (case a => rfl); (case b => rfl); (case v => first | rfl | assumption); k_whole)))
local macro_rules | `(tactic| walk_at "subscriptTail Name Name ref int") => `(tactic| (k_here; refine item_ints (by k_asm) (by assumption) (by assumption) (by omega) (by omega) (by omega) ?_; intro _))
local macro_rules | `(tactic| walk_at "subscriptTail Name BinOp ref int") => `(tactic| (k_here; refine item_ints (by k_asm) (by assumption) (by assumption) (by omega) (by omega) (by omega) ?_; intro _))
theorem headH : ∀ (w : World) (dp un : Nat) (gd : Option (List Code)) (A₀ : Around) (base h₀ : Heap) (outer : List Env) (L fa : Addr) (cd : Value) (m mg mb : Str → Option Value) (mean : ExcName → Option Value) (lo : List Str) (news : List (Addr × Obj)) (s : Shared) (Q : Flow → Shared → Prop)
    (_ : Below A₀ base outer h₀) (_ : Fr h₀ L s.heap m) (_ : (KK w.params).In h₀) (_ : News h₀ L s.heap news) (_ : Top qv lo mean mg mb h₀) (_ : dp < 800) (_ : un < 80) (Z W : Addr) (zs fv : List Value) (sz fs : List Int) (n q t1 : Nat) (i : Nat)
    (_ : m (Str.ofString "sizes") = some (.ref Z)) (_ : m (Str.ofString "fewest") = some (.ref W)) (_ : m (Str.ofString "last") = some (.int (i : Int) t1))
    (_ : (Z, lobj zs n) ∈ news) (_ : (W, lobj fv q) ∈ news) (_ : IntsAre zs sz) (_ : IntsAre fv fs) (_ : sz.length ≤ 63) (_ : fs.length ≤ 64) (_ : i < sz.length) (_ : i < fs.length)
    (_ : ∀ h' tk m' u1 u2 u3, Fr h₀ L h' m' → News h₀ L h' news → m' (Str.ofString "least") = some (.int (1 + fs.getD i 0) u1) → m' (Str.ofString "first") = some (.int (i : Int) u2) → m' (Str.ofString "total") = some (.int (sz.getD i 0) u3) →
      (∀ y, y ≠ Str.ofString "least" → y ≠ Str.ofString "first" → y ≠ Str.ofString "total" → m' y = m y) → Q .next { s with heap := h', toks := tk }),
    wpAny (model PySem.Challenge.rw_dm0096_02.row.prog w) ⟨none, dp, some (lawEnv L fa cd :: outer), gd, un⟩ (execs (((forB lawB[10]?).drop 0).take 3) (lawEnv L fa cd)) Q (fun _ _ => False) s := by
  k_fill
  intro w dp un gd A₀ base h₀ outer L fa cd m mg mb mean lo news s Q B F X N T hd hu Z W zs fv sz fs n q t1 i hmz hmf hml hZ hW hI hJ hn hn2 hi hi2 hret
  rw [show ((forB lawB[10]?).drop 0).take 3 = [_, _, _] from rfl]
  unfold lawEnv
  rw [show lawSc = Scope.mk _ _ _ _ _ from rfl]
  k_steps
  exact hret _ _ _ _ _ _ (by assumption) (by assumption) rfl rfl rfl (fun y a b c => by
    show (if y = Str.ofString "total" then _ else if y = Str.ofString "first" then _ else if y = Str.ofString "least" then _ else m y) = m y
    rw [if_neg c, if_neg b, if_neg a])
theorem whileH : ∀ (w : World) (dp un : Nat) (gd : Option (List Code)) (A₀ : Around) (base h₀ : Heap) (outer : List Env) (L fa : Addr) (cd : Value) (m mg mb : Str → Option Value) (mean : ExcName → Option Value) (lo : List Str) (news : List (Addr × Obj)) (s : Shared) (Q : Flow → Shared → Prop)
    (_ : Below A₀ base outer h₀) (_ : Fr h₀ L s.heap m) (_ : (KK w.params).In h₀) (_ : News h₀ L s.heap news) (_ : Top qv lo mean mg mb h₀) (_ : dp < 800) (_ : un < 80) (Z W : Addr) (zs fv : List Value) (zn : List Nat) (sz fs : List Int) (n q t1 t2 t3 t4 : Nat) (room i : Nat)
    (_ : m (Str.ofString "sizes") = some (.ref Z)) (_ : m (Str.ofString "fewest") = some (.ref W)) (_ : m (Str.ofString "room") = some (.int (room : Int) t1)) (_ : m (Str.ofString "first") = some (.int (i : Int) t2)) (_ : m (Str.ofString "total") = some (.int (sz.getD i 0) t3)) (_ : m (Str.ofString "least") = some (.int (1 + cz room zn i) t4))
    (_ : (Z, lobj zs n) ∈ news) (_ : (W, lobj fv q) ∈ news) (_ : IntsAre zs sz) (_ : IntsAre fv fs) (_ : sz = zn.map fun (a : Nat) => (a : Int)) (_ : fs = fsZ room zn i) (_ : zn.length ≤ 63) (_ : i < zn.length)
    (_ : ∀ h' tk m' u1, Fr h₀ L h' m' → News h₀ L h' news → m' (Str.ofString "least") = some (.int (cz room zn (i + 1)) u1) →
      (∀ y, y ≠ Str.ofString "least" → y ≠ Str.ofString "first" → y ≠ Str.ofString "total" → m' y = m y) → Q .next { s with heap := h', toks := tk }),
    wpAny (model PySem.Challenge.rw_dm0096_02.row.prog w) ⟨none, dp, some (lawEnv L fa cd :: outer), gd, un⟩ (execs (((forB lawB[10]?).drop 3).take 1) (lawEnv L fa cd)) Q (fun _ _ => False) s := by
  k_fill
  intro w dp un gd A₀ base h₀ outer L fa cd m mg mb mean lo news s Q B F X N T hd hu Z W zs fv zn sz fs n q t1 t2 t3 t4 room i hmz hmf hmr hm1 hm2 hm3 hZ hW hI hJ hsz hfs hn hi hret
  rw [show ((forB lawB[10]?).drop 3).take 1 = [_] from rfl]
  unfold lawEnv
  rw [show lawSc = Scope.mk _ _ _ _ _ from rfl]
  have hszl : sz.length = zn.length := by rw [hsz]; simp
  have hfsl : fs.length = i + 1 := by rw [hfs]; simp [fsZ]
  have hsg : ∀ k : Nat, k < zn.length → sz.getD k 0 = (zn.getD k 0 : Int) := fun k hk => by rw [hsz]; simp [hk]
  have hfg : ∀ k : Nat, k < i + 1 → fs.getD k 0 = cz room zn k := fun k hk => by rw [hfs]; simp [fsZ, hk]
  refine wpAny_execs_cons ?_
  refine While_inv (fun c m' nw => nw = news ∧ ∃ (tot : Nat) (u1 u2 u3 : Tok), c ≤ i ∧ m' (Str.ofString "first") = some (.int (c : Int) u1) ∧ m' (Str.ofString "total") = some (.int (tot : Int) u2) ∧ m' (Str.ofString "least") = some (.int (1 + cz room zn c) u3) ∧
    (∀ y, y ≠ Str.ofString "least" → y ≠ Str.ofString "first" → y ≠ Str.ofString "total" → m' y = m y) ∧ tot = ((zn.drop c).take (i + 1 - c)).sum ∧ (tot ≤ room ∨ c = i)) (n₀ := i) F N ⟨rfl, zn.getD i 0, t2, t3, t4, Nat.le_refl _, hm1, by rw [← hsg i hi]; exact hm2, hm3, fun y _ _ _ => rfl, ?_, .inr rfl⟩ ?_
  · rw [List.drop_eq_getElem_cons hi, show i + 1 - i = 0 + 1 from by omega, List.take_succ_cons, List.sum_cons]
    simp [hi]
  rintro c m₁ nw h₁ tk₁ F₁ N₁ ⟨rfl, tot, u1, u2, u3, hci, hf, ht, hl, hoth, htot, hor⟩
  have a1 : m₁ (Str.ofString "sizes") = some (.ref Z) := (hoth _ (by decide +kernel) (by decide +kernel) (by decide +kernel)).trans hmz
  have a2 : m₁ (Str.ofString "fewest") = some (.ref W) := (hoth _ (by decide +kernel) (by decide +kernel) (by decide +kernel)).trans hmf
  have a3 : m₁ (Str.ofString "room") = some (.int (room : Int) t1) := (hoth _ (by decide +kernel) (by decide +kernel) (by decide +kernel)).trans hmr
  clear hmz hmf hmr hm1 hm2 hm3 F N
  rcases c with _ | c
  · have hfin := fin_step room zn i 0 hi (by omega) (by rw [← htot]; exact hor) (fun d hd => by omega)
    k_steps
    exact hret _ _ _ _ (by assumption) (by assumption) (by rw [hfin]; exact hl) hoth
  · have p1 : (((c + 1 : Nat) : Int) - 1).toNat = c := by omega
    have p2 : ((c + 1 : Nat) : Int) - 1 = (c : Int) := by omega
    have p3 := hsg c (by omega)
    have p4 := hfg c (by omega)
    have p5 := cz_mono room zn c (by omega)
    have p6 := sum_down zn i c hi hci
    have p7 : (if 1 + cz room zn c < 1 + cz room zn (c + 1) then 1 + cz room zn c else 1 + cz room zn (c + 1)) = 1 + cz room zn c := by split <;> omega
    have p8 : (tot : Int) + ((zn.getD c 0 : Nat) : Int) = ((tot + zn.getD c 0 : Nat) : Int) := by omega
    k_steps
    · have hle : (tot : Int) + sz.getD (((c + 1 : Nat) : Int) - 1).toNat 0 ≤ (room : Int) := by assumption
      rw [p1, p3] at hle
      rename_i F' N'
      simp only [p2, Int.toNat_natCast, p3, p4, p7, p8] at F'
      refine WhileStep.intro (n' := c) F' N' (by omega) ⟨rfl, tot + zn.getD c 0, _, _, _, by omega, rfl, rfl, rfl, fun y a b d => ?_, by omega, .inl (by omega)⟩
      show (if y = Str.ofString "least" then _ else if y = Str.ofString "total" then _ else if y = Str.ofString "first" then _ else m₁ y) = m y
      rw [if_neg a, if_neg d, if_neg b]
      exact hoth y a b d
    · have hle : ¬ (tot : Int) + sz.getD (((c + 1 : Nat) : Int) - 1).toNat 0 ≤ (room : Int) := by assumption
      rw [p1, p3] at hle
      have hfin := fin_step room zn i (c + 1) hi hci (by rw [← htot]; exact hor) (fun d hd => by
        have hdc : d = c := by omega
        rw [hdc, ← htot]
        omega)
      exact hret _ _ _ _ (by assumption) (by assumption) (by rw [hfin]; exact hl) hoth
end Mine

open PySem PySem.W PyProof.Rows PySem.Calls
set_option Elab.async false
set_option maxRecDepth 100000
set_option maxHeartbeats 8000000
set_option linter.unusedVariables false
namespace Mine
local macro_rules | `(tactic| walk_at "loadName") => `(tactic| (k_here; k_dflt (refine wpAny_loadName_local (env := envOf _ _ _ _ _) rfl rfl (Fr.ns (by k_asm)) (by first | rfl | assumption) ?_)))
local macro_rules | `(tactic| walk_at "eval Name") => `(tactic| (k_here; k_dflt (refine' nameX_L ?F ?v ?_ ?a ?b; (case F => k_asm); (case a => rfl); (case b => rfl); (case v => first | rfl | assumption); k_whole)))
local macro_rules | `(tactic| k_upd) => `(tactic| exact Upd.head (by assumption))
local macro_rules | `(tactic| walk_at "call builtin:list.append") => `(tactic| (k_here; refine append_own (by k_asm) (by k_asm) (by k_upd) (by omega) ?_; intro h' F' N'; (try k_sweep)))
theorem tailH : ∀ (w : World) (dp un : Nat) (gd : Option (List Code)) (A₀ : Around) (base h₀ : Heap) (outer : List Env) (L fa : Addr) (cd : Value) (m mg mb : Str → Option Value) (mean : ExcName → Option Value) (lo : List Str) (news : List (Addr × Obj)) (s : Shared) (Q : Flow → Shared → Prop)
    (_ : Below A₀ base outer h₀) (_ : Fr h₀ L s.heap m) (_ : (KK w.params).In h₀) (_ : News h₀ L s.heap news) (_ : Top qv lo mean mg mb h₀) (_ : dp < 800) (_ : un < 80) (W : Addr) (fv : List Value) (rest : List (Addr × Obj)) (v : Value) (q : Nat)
    (_ : m (Str.ofString "fewest") = some (.ref W)) (_ : m (Str.ofString "least") = some v) (_ : news = (W, lobj fv q) :: rest) (_ : ∀ p ∈ rest, p.1 ≠ W) (_ : fv.length ≤ 100)
    (_ : ∀ h' tk, Fr h₀ L h' m → News h₀ L h' ((W, lobj (fv ++ [v]) (q + 1)) :: rest) → Q .next { s with heap := h', toks := tk }),
    wpAny (model PySem.Challenge.rw_dm0096_02.row.prog w) ⟨none, dp, some (lawEnv L fa cd :: outer), gd, un⟩ (execs (((forB lawB[10]?).drop 4).take 1) (lawEnv L fa cd)) Q (fun _ _ => False) s := by
  k_fill
  intro w dp un gd A₀ base h₀ outer L fa cd m mg mb mean lo news s Q B F X N T hd hu W fv rest v q hmf hml hnews hne hlen hret
  subst hnews
  rw [show ((forB lawB[10]?).drop 4).take 1 = [_] from rfl]
  unfold lawEnv
  rw [show lawSc = Scope.mk _ _ _ _ _ from rfl]
  k_steps
  exact hret _ _ (by assumption) (by assumption)
theorem turnH : ∀ (w : World) (dp un : Nat) (gd : Option (List Code)) (A₀ : Around) (base h₀ : Heap) (outer : List Env) (L fa : Addr) (cd : Value) (m mg mb : Str → Option Value) (mean : ExcName → Option Value) (lo : List Str) (news : List (Addr × Obj)) (s : Shared) (Q : Flow → Shared → Prop)
    (_ : Below A₀ base outer h₀) (_ : Fr h₀ L s.heap m) (_ : (KK w.params).In h₀) (_ : News h₀ L s.heap news) (_ : Top qv lo mean mg mb h₀) (_ : dp < 800) (_ : un < 80) (Z W : Addr) (zs fv : List Value) (zn : List Nat) (sz : List Int) (rest : List (Addr × Obj)) (n q t1 t2 : Nat) (room i : Nat)
    (_ : m (Str.ofString "sizes") = some (.ref Z)) (_ : m (Str.ofString "fewest") = some (.ref W)) (_ : m (Str.ofString "room") = some (.int (room : Int) t1)) (_ : m (Str.ofString "last") = some (.int (i : Int) t2))
    (_ : news = (W, lobj fv q) :: rest) (_ : ∀ p ∈ rest, p.1 ≠ W) (_ : (Z, lobj zs n) ∈ rest) (_ : IntsAre zs sz) (_ : IntsAre fv (fsZ room zn i)) (_ : sz = zn.map fun (a : Nat) => (a : Int)) (_ : zn.length ≤ 63) (_ : i < zn.length)
    (_ : ∀ h' tk m' fv' q', Fr h₀ L h' m' → News h₀ L h' ((W, lobj fv' q') :: rest) → IntsAre fv' (fsZ room zn (i + 1)) →
      (∀ y, y ≠ Str.ofString "least" → y ≠ Str.ofString "first" → y ≠ Str.ofString "total" → m' y = m y) → Q .next { s with heap := h', toks := tk }),
    wpAny (model PySem.Challenge.rw_dm0096_02.row.prog w) ⟨none, dp, some (lawEnv L fa cd :: outer), gd, un⟩ (execs (forB lawB[10]?) (lawEnv L fa cd)) Q (fun _ _ => False) s := by
  intro w dp un gd A₀ base h₀ outer L fa cd m mg mb mean lo news s Q B F X N T hd hu Z W zs fv zn sz rest n q t1 t2 room i hmz hmf hmr hml hnews hne hZ hI hJ hsz hn hi hret
  subst hnews
  have hszl : sz.length = zn.length := by rw [hsz]; simp
  have hfsl : (fsZ room zn i).length = i + 1 := by simp [fsZ]
  have hfg : (fsZ room zn i).getD i 0 = cz room zn i := by simp [fsZ]
  have hfvl := hJ.length
  rw [show forB lawB[10]? = ((forB lawB[10]?).drop 0).take 3 ++ (((forB lawB[10]?).drop 3).take 1 ++ ((forB lawB[10]?).drop 4).take 1) from rfl]
  refine execs_app _ _ _ ?_
  refine headH w dp un gd A₀ base h₀ outer L fa cd m mg mb mean lo _ s _ B F X N T hd hu Z W zs fv sz (fsZ room zn i) n q t2 i hmz hmf hml (.tail _ hZ) (.head _) hI hJ (by omega) (by omega) (by omega) (by omega) fun h1 tk1 m1 u1 u2 u3 F1 N1 hle1 hf1 ht1 ho1 => ?_
  rw [hfg] at hle1
  show wpAny _ _ _ _ _ _
  refine execs_app _ _ _ ?_
  refine whileH w dp un gd A₀ base h₀ outer L fa cd m1 mg mb mean lo _ _ _ B F1 X N1 T hd hu Z W zs fv zn sz (fsZ room zn i) n q t1 u2 u3 u1 room i ((ho1 _ (by decide +kernel) (by decide +kernel) (by decide +kernel)).trans hmz) ((ho1 _ (by decide +kernel) (by decide +kernel) (by decide +kernel)).trans hmf) ((ho1 _ (by decide +kernel) (by decide +kernel) (by decide +kernel)).trans hmr) hf1 ht1 hle1 (.tail _ hZ) (.head _) hI hJ hsz rfl hn hi fun h2 tk2 m2 u4 F2 N2 hle2 ho2 => ?_
  show wpAny _ _ _ _ _ _
  refine tailH w dp un gd A₀ base h₀ outer L fa cd m2 mg mb mean lo _ _ _ B F2 X N2 T hd hu W fv rest _ q ((ho2 _ (by decide +kernel) (by decide +kernel) (by decide +kernel)).trans ((ho1 _ (by decide +kernel) (by decide +kernel) (by decide +kernel)).trans hmf)) hle2 rfl hne (by omega) fun h3 tk3 F3 N3 => ?_
  refine hret _ _ _ _ _ F3 N3 ?_ fun y a b c => by rw [ho2 y a b c, ho1 y a b c]
  have e : fsZ room zn (i + 1) = fsZ room zn i ++ [cz room zn (i + 1)] := by
    unfold fsZ
    rw [List.range_succ, List.map_append]
    rfl
  rw [e]
  exact hJ.append (.cons _ _ .nil)
theorem partH1 : ∀ (w : World) (dp un : Nat) (gd : Option (List Code)) (A₀ : Around) (base h₀ : Heap) (outer : List Env) (L fa : Addr) (cd : Value) (m mg mb : Str → Option Value) (mean : ExcName → Option Value) (lo : List Str) (news : List (Addr × Obj)) (s : Shared) (Q : Flow → Shared → Prop)
    (_ : Below A₀ base outer h₀) (_ : Fr h₀ L s.heap m) (_ : (KK w.params).In h₀) (_ : News h₀ L s.heap news) (_ : Top qv lo mean mg mb h₀) (_ : dp < 800) (_ : un < 80) 
    (_ : ∀ h' tk m' W u, Fr h₀ L h' m' → News h₀ L h' ((W, lobj [.int 0 u] 0) :: news) → (∀ p ∈ news, p.1 < W) → m' (Str.ofString "fewest") = some (.ref W) → (∀ y, y ≠ Str.ofString "fewest" → m' y = m y) → Q .next { s with heap := h', toks := tk }),
    wpAny (model PySem.Challenge.rw_dm0096_02.row.prog w) ⟨none, dp, some (lawEnv L fa cd :: outer), gd, un⟩ (execs ((lawB.drop 9).take 1) (lawEnv L fa cd)) Q (fun _ _ => False) s := by
  k_fill
  intro w dp un gd A₀ base h₀ outer L fa cd m mg mb mean lo news s Q B F X N T hd hu hret
  rw [show (lawB.drop 9).take 1 = [_] from rfl]
  unfold lawEnv
  rw [show lawSc = Scope.mk _ _ _ _ _ from rfl]
  k_steps
  exact hret _ _ _ _ _ (by assumption) (by assumption) (by assumption) rfl (fun y hy => if_neg hy)
local macro_rules | `(tactic| walk_at "call builtin:len") => `(tactic| (k_here; refine len_own (by k_asm) (by assumption) (by omega) ?_; intro _ _))
theorem partH2 : ∀ (w : World) (dp un : Nat) (gd : Option (List Code)) (A₀ : Around) (base h₀ : Heap) (outer : List Env) (L fa : Addr) (cd : Value) (m mg mb : Str → Option Value) (mean : ExcName → Option Value) (lo : List Str) (news : List (Addr × Obj)) (s : Shared) (Q : Flow → Shared → Prop)
    (_ : Below A₀ base outer h₀) (_ : Fr h₀ L s.heap m) (_ : (KK w.params).In h₀) (_ : News h₀ L s.heap news) (_ : Top qv lo mean mg mb h₀) (_ : dp < 800) (_ : un < 80) (G Z W : Addr) (gs zs fv : List Value) (zn : List Nat) (sz : List Int) (rest : List (Addr × Obj)) (k n q t1 : Nat) (room : Nat)
    (_ : m (Str.ofString "groups") = some (.ref G)) (_ : m (Str.ofString "sizes") = some (.ref Z)) (_ : m (Str.ofString "fewest") = some (.ref W)) (_ : m (Str.ofString "room") = some (.int (room : Int) t1))
    (_ : news = (W, lobj fv q) :: rest) (_ : ∀ p ∈ rest, p.1 < W) (_ : (G, lobj gs k) ∈ rest) (_ : (Z, lobj zs n) ∈ rest) (_ : IntsAre zs sz) (_ : IntsAre fv (fsZ room zn 0)) (_ : sz = zn.map fun (a : Nat) => (a : Int)) (_ : zn.length ≤ 63) (_ : gs.length = zn.length)
    (_ : ∀ h' tk m' fv q, Fr h₀ L h' m' → News h₀ L h' ((W, lobj fv q) :: rest) → IntsAre fv (fsZ room zn zn.length) → m' (Str.ofString "fewest") = some (.ref W) →
      KeepOn [Str.ofString "start", Str.ofString "groups", Str.ofString "lines"] m m' → Q .next { s with heap := h', toks := tk }),
    wpAny (model PySem.Challenge.rw_dm0096_02.row.prog w) ⟨none, dp, some (lawEnv L fa cd :: outer), gd, un⟩ (execs ((lawB.drop 10).take 1) (lawEnv L fa cd)) Q (fun _ _ => False) s := by
  k_fill
  intro w dp un gd A₀ base h₀ outer L fa cd m mg mb mean lo news s Q B F X N T hd hu G Z W gs zs fv zn sz rest k n q t1 room hmg hmz hmf hmr hnews hlt hG hZ hI hJ hsz hn hgl hret
  subst hnews
  rw [show (lawB.drop 10).take 1 = [_] from rfl]
  unfold lawEnv
  rw [show lawSc = Scope.mk _ _ _ _ _ from rfl]
  have hG' : (G, lobj gs k) ∈ (W, lobj fv q) :: rest := .tail _ hG
  refine wpAny_execs_cons ?_
  refine For_turns F ?_
  k_steps
  rename_i h1 tk1 u1 v1 w1 hR F1 N1 hk1
  have hlts : ∀ p ∈ (W, lobj fv q) :: rest, p.1 < h1.objs.size := fun p hp => Heap.lt_size (N1 p hp).1
  refine range_turns (n := gs.length) (fun i m' nw => ∃ fv q, nw = (W, lobj fv q) :: rest ∧ IntsAre fv (fsZ room zn i) ∧ KeepOn [Str.ofString "start", Str.ofString "groups", Str.ofString "lines", Str.ofString "sizes", Str.ofString "fewest", Str.ofString "room"] m m')
    rfl F1 N1 hR (by omega) ⟨fv, q, rfl, hJ, fun y _ => rfl⟩ (fun v s Q E I a b _ hQ => wpAny_pure hQ) ?_ ?_
  · rintro i t' m₁ nw h₁ tk₁ own hi hown ⟨fv, q, rfl, hJ, hkeep⟩ F₁ N₁
    refine hid ?_
    k_steps
    rename_i h3 F3 N3
    show wpAny _ _ _ _ _ _
    generalize hm3 : (fun z => if z = Str.ofString "last" then some (Value.int (i : Int) t') else m₁ z) = m3 at F3
    have c : ∀ y, y ≠ Str.ofString "last" → m3 y = m₁ y := fun y hy => by rw [← hm3]; exact if_neg hy
    have hsz1 : W < h1.objs.size := hlts _ (.head _)
    refine turnH w dp un gd A₀ base h₀ outer L fa cd m3 mg mb mean lo _ _ _ B F3 X (swap_in N3) T hd hu Z W zs fv zn sz (own ++ rest) n q t1 t' room i
      ((c _ (by decide +kernel)).trans ((hkeep _ (by decide +kernel)).trans hmz)) ((c _ (by decide +kernel)).trans ((hkeep _ (by decide +kernel)).trans hmf)) ((c _ (by decide +kernel)).trans ((hkeep _ (by decide +kernel)).trans hmr)) (by rw [← hm3]; exact if_pos rfl) rfl ?_ (List.mem_append.mpr (.inr hZ)) hI hJ hsz hn (by omega) ?_
    · intro p hp
      rcases List.mem_append.mp hp with hp | hp
      · exact fun e => absurd (e ▸ hown p hp) (Nat.not_le.mpr hsz1)
      · exact Nat.ne_of_lt (hlt p hp)
    · intro h' tk m' fv' q' F' N' hJ' ho'
      refine TurnEnd.next F' (swap_out N') (fun p hp => ?_) ⟨fv', q', rfl, hJ', fun y hy => ?_⟩
      · rcases List.mem_cons.mp hp with rfl | hp
        · exact hsz1
        · exact hlts p (.tail _ hp)
      · rw [ho' y (by rintro rfl; revert hy; decide +kernel) (by rintro rfl; revert hy; decide +kernel) (by rintro rfl; revert hy; decide +kernel), c y (by rintro rfl; revert hy; decide +kernel)]
        exact hkeep y hy
  · rintro h' tk m' nw F' N' ⟨fv, q, rfl, hJ, hkeep⟩
    k_steps
    rw [hgl] at hJ
    exact hret _ _ _ _ _ F' N' hJ ((hkeep _ (by decide +kernel)).trans hmf) (fun y hy => hkeep y (by revert hy; simp; intro h; rcases h with h | h | h <;> simp [h]))
end Mine

open PySem PySem.W PyProof.Rows PySem.Calls
set_option Elab.async false
set_option maxRecDepth 100000
set_option maxHeartbeats 8000000
set_option linter.unusedVariables false
namespace Mine
theorem ints_snoc {x : Int} : ∀ {a : List Int} {vs : List Value}, IntsAre vs (a ++ [x]) → ∃ vi t, vs = vi ++ [Value.int x t]
  | [], _, .cons _ t .nil => ⟨[], t, rfl⟩
  | _ :: r, _, .cons n t h => by
    obtain ⟨vi, u, e⟩ := ints_snoc h
    exact ⟨.int n t :: vi, u, by rw [e]; rfl⟩
local macro_rules | `(tactic| walk_at "loadName") => `(tactic| (k_here; k_dflt (refine wpAny_loadName_local (env := envOf _ _ _ _ _) rfl rfl (Fr.ns (by k_asm)) (by first | rfl | assumption) ?_)))
local macro_rules | `(tactic| walk_at "eval Name") => `(tactic| (k_here; k_dflt (refine' nameX_L ?F ?v ?_ ?a ?b; (case F => k_asm); (case a => rfl); (case b => rfl); (case v => first | rfl | assumption); k_whole)))
local macro_rules | `(tactic| walk_at "call builtin:len") => `(tactic| (k_here; refine len_own (by k_asm) (by assumption) (by omega) ?_; intro _ _))
local macro_rules | `(tactic| walk_at "subscriptTail Name UnaryOp ref int") => `(tactic| (k_here; with_unfolding_all refine sub_last (by k_asm) (by assumption) ?_))
theorem partI : ∀ (w : World) (dp un : Nat) (gd : Option (List Code)) (A₀ : Around) (base h₀ : Heap) (outer : List Env) (L fa : Addr) (cd : Value) (m mg mb : Str → Option Value) (mean : ExcName → Option Value) (lo : List Str) (news : List (Addr × Obj)) (s : Shared) (Q : Flow → Shared → Prop)
    (_ : Below A₀ base outer h₀) (_ : Fr h₀ L s.heap m) (_ : (KK w.params).In h₀) (_ : News h₀ L s.heap news) (_ : Top qv lo mean mg mb h₀) (_ : dp < 800) (_ : un < 80) (G l W : Addr) (gs lv vi : List Value) (k q r t1 t2 : Nat) (c : Int)
    (_ : m (Str.ofString "groups") = some (.ref G)) (_ : m (Str.ofString "lines") = some (.ref l)) (_ : m (Str.ofString "fewest") = some (.ref W)) (_ : m (Str.ofString "start") = some (.int (gs.length : Int) t1))
    (_ : (G, lobj gs k) ∈ news) (_ : (l, lobj lv q) ∈ news) (_ : (W, lobj (vi ++ [.int c t2]) r) ∈ news) (_ : gs.length ≤ 63) (_ : lv.length ≤ 63) (_ : c = (lv.length : Int))
    (_ : ∀ h' tk, Fr h₀ L h' m → News h₀ L h' news → Q (.ret (.bool true)) { s with heap := h', toks := tk }),
    wpAny (model PySem.Challenge.rw_dm0096_02.row.prog w) ⟨none, dp, some (lawEnv L fa cd :: outer), gd, un⟩ (execs ((lawB.drop 11).take 1) (lawEnv L fa cd)) Q (fun _ _ => False) s := by
  k_fill
  intro w dp un gd A₀ base h₀ outer L fa cd m mg mb mean lo news s Q B F X N T hd hu G l W gs lv vi k q r t1 t2 c hmg hml hmf hms hG hl hW hg hlv hc hret
  subst hc
  rw [show (lawB.drop 11).take 1 = [_] from rfl]
  unfold lawEnv
  rw [show lawSc = Scope.mk _ _ _ _ _ from rfl]
  k_steps
  · rw [show ((lv.length : Int) == (lv.length : Int)) = true from by simp]
    exact hret _ _ (by assumption) (by assumption)
  · exact absurd rfl (show (gs.length : Int) ≠ (gs.length : Int) by assumption)
theorem lawC : ∀ (w : World) (dp un : Nat) (gd : Option (List Code)) (A₀ : Around) (base h₀ : Heap) (outer : List Env) (L fa : Addr) (cd : Value) (m mg mb : Str → Option Value) (mean : ExcName → Option Value) (lo : List Str) (news : List (Addr × Obj)) (s : Shared) (Q : Flow → Shared → Prop)
    (_ : Below A₀ base outer h₀) (_ : Fr h₀ L s.heap m) (_ : (KK w.params).In h₀) (_ : News h₀ L s.heap news) (_ : Top qv lo mean mg mb h₀) (_ : dp < 800) (_ : un < 80) (sc : Addr) (vs : List Value) (ns : List Int)
    (_ : m (Str.ofString "script") = some (.ref sc)) (_ : h₀.IsList sc vs.toArray) (_ : IntsAre vs ns) (_ : ns.length ≤ 63)
    (_ : ∀ h' tk m' news', Fr h₀ L h' m' → News h₀ L h' news' → Q (.ret (.bool true)) { s with heap := h', toks := tk }),
    wpAny (model PySem.Challenge.rw_dm0096_02.row.prog w) ⟨none, dp, some (lawEnv L fa cd :: outer), gd, un⟩ (execs lawB (lawEnv L fa cd)) Q (fun _ _ => False) s := by
  intro w dp un gd A₀ base h₀ outer L fa cd m mg mb mean lo news s Q B F X N T hd hu sc vs ns hsc hl hi hn hret
  rw [show lawB = (lawB.drop 0).take 2 ++ ((lawB.drop 2).take 1 ++ ((lawB.drop 3).take 1 ++ ((lawB.drop 4).take 2 ++ ((lawB.drop 6).take 2 ++ ((lawB.drop 8).take 1 ++ ((lawB.drop 9).take 1 ++ ((lawB.drop 10).take 1 ++ (lawB.drop 11).take 1))))))) from rfl]
  refine execs_app _ _ _ ?_
  refine partA w dp un gd A₀ base h₀ outer L fa cd m mg mb mean lo news s _ B F X N T hd hu sc vs ns hsc hl hi hn fun h1 tk1 m1 nw1 room t1 D ws F1 N1 hr1 hs1 hroom hD hws => ?_
  have hrs : (ns.drop 1).length ≤ 63 := by simp; omega
  generalize ns.drop 1 = rs at *
  show wpAny _ _ _ _ _ _
  refine execs_app _ _ _ ?_
  refine partB w dp un gd A₀ base h₀ outer L fa cd m1 mg mb mean lo nw1 _ _ B F1 X N1 T hd hu D ws rs hs1 hD hws hrs fun h2 tk2 m2 name t2 F2 N2 hn2 hname ho2 => ?_
  show wpAny _ _ _ _ _ _
  refine execs_app _ _ _ ?_
  refine partC w dp un gd A₀ base h₀ outer L fa cd m2 mg mb mean lo nw1 _ _ B F2 X N2 T hd hu D ws rs ((ho2 _ (by decide +kernel)).trans hs1) hD hws hrs fun h3 tk3 m3 nw3 G gs gn F3 N3 hg3 ho3 hD3 hG3 hgs3 => ?_
  show wpAny _ _ _ _ _ _
  refine execs_app _ _ _ ?_
  refine partD w dp un gd A₀ base h₀ outer L fa cd m3 mg mb mean lo nw3 _ _ B F3 X N3 T hd hu D G ws gs rs gn t2 t1 name room ((ho3 _ (by decide +kernel)).trans ((ho2 _ (by decide +kernel)).trans hs1)) hg3 ((ho3 _ (by decide +kernel)).trans hn2) ((ho3 _ (by decide +kernel)).trans ((ho2 _ (by decide +kernel)).trans hr1)) hD3 hG3 hws hgs3 hrs hname hroom fun h4 tk4 m4 l ts q F4 N4 hll htl hl4 hk4 => ?_
  have hgs4 : GroupsAre gs rs ((l, lobj (tv ts) q) :: nw3) := ⟨hgs3.1, fun i g hg => by
    obtain ⟨a, us, n, e1, e2, e3⟩ := hgs3.2 i g hg
    exact ⟨a, us, n, e1, .tail _ e2, e3⟩⟩
  show wpAny _ _ _ _ _ _
  refine execs_app _ _ _ ?_
  have g4 : m4 (Str.ofString "groups") = some (.ref G) := (hk4 _ (by decide +kernel)).trans hg3
  have r4 : m4 (Str.ofString "room") = some (.int (room : Int) t1) := (hk4 _ (by decide +kernel)).trans ((ho3 _ (by decide +kernel)).trans ((ho2 _ (by decide +kernel)).trans hr1))
  have n4 : m4 (Str.ofString "name") = some (.str name t2) := (hk4 _ (by decide +kernel)).trans ((ho3 _ (by decide +kernel)).trans hn2)
  refine partE w dp un gd A₀ base h₀ outer L fa cd m4 mg mb mean lo _ _ _ B F4 X N4 T hd hu G gs rs gn g4 (.tail _ hG3) hgs4 hrs fun h5 tk5 m5 Z zs zk t5 F5 N5 hI5 hz5 hs5 ho5 => ?_
  have hgs5 : GroupsAre gs rs ((Z, lobj zs zk) :: (l, lobj (tv ts) q) :: nw3) := ⟨hgs3.1, fun i g hg => by
    obtain ⟨a, us, n, e1, e2, e3⟩ := hgs3.2 i g hg
    exact ⟨a, us, n, e1, .tail _ (.tail _ e2), e3⟩⟩
  show wpAny _ _ _ _ _ _
  refine execs_app _ _ _ ?_
  refine partF w dp un gd A₀ base h₀ outer L fa cd m5 mg mb mean lo _ _ _ B F5 X N5 T hd hu G Z l gs zs rs ts gn zk q t1 t5 t2 room name ((ho5 _ (by decide +kernel) (by decide +kernel)).trans g4) hz5 ((ho5 _ (by decide +kernel) (by decide +kernel)).trans r4) hs5 ((ho5 _ (by decide +kernel) (by decide +kernel)).trans n4) ((ho5 _ (by decide +kernel) (by decide +kernel)).trans hl4) (.tail _ (.tail _ hG3)) hgs5 (.head _) (.tail _ (.head _)) hI5 hrs hname htl fun h6 tk6 m6 t6 F6 N6 hs6 hk6 => ?_
  show wpAny _ _ _ _ _ _
  refine execs_app _ _ _ ?_
  have g6 : m6 (Str.ofString "groups") = some (.ref G) := (hk6 _ (by decide +kernel)).trans ((ho5 _ (by decide +kernel) (by decide +kernel)).trans g4)
  have z6 : m6 (Str.ofString "sizes") = some (.ref Z) := (hk6 _ (by decide +kernel)).trans hz5
  have r6 : m6 (Str.ofString "room") = some (.int (room : Int) t1) := (hk6 _ (by decide +kernel)).trans ((ho5 _ (by decide +kernel) (by decide +kernel)).trans r4)
  have l6 : m6 (Str.ofString "lines") = some (.ref l) := (hk6 _ (by decide +kernel)).trans ((ho5 _ (by decide +kernel) (by decide +kernel)).trans hl4)
  refine partH1 w dp un gd A₀ base h₀ outer L fa cd m6 mg mb mean lo _ _ _ B F6 X N6 T hd hu fun h7 tk7 m7 W u7 F7 N7 hlt7 hw7 ho7 => ?_
  show wpAny _ _ _ _ _ _
  refine execs_app _ _ _ ?_
  have hznl : (znOf rs).length = rs.length := by simp [znOf, sgOf]
  have hszn : szOf rs = (znOf rs).map fun (a : Nat) => (a : Int) := by rw [sz_eq]; simp [znOf]
  refine partH2 w dp un gd A₀ base h₀ outer L fa cd m7 mg mb mean lo _ _ _ B F7 X N7 T hd hu G Z W gs zs _ (znOf rs) (szOf rs) _ gn zk 0 t1 room ((ho7 _ (by decide +kernel)).trans g6) ((ho7 _ (by decide +kernel)).trans z6) hw7 ((ho7 _ (by decide +kernel)).trans r6) rfl hlt7 (.tail _ (.tail _ hG3)) (.head _) hI5 (.cons _ _ .nil) hszn (by omega) (by rw [hgs3.1]; omega) fun h8 tk8 m8 fv fq F8 N8 hJ8 hw8 hk8 => ?_
  show wpAny _ _ _ _ _ _
  have e8 : fsZ room (znOf rs) (znOf rs).length = (List.range (znOf rs).length).map (cz room (znOf rs)) ++ [cz room (znOf rs) (znOf rs).length] := by
    unfold fsZ
    rw [List.range_succ, List.map_append]
    rfl
  rw [e8] at hJ8
  obtain ⟨vi, u8, rfl⟩ := ints_snoc hJ8
  have hlc := (lines_cnt room (sgOf rs)).1
  have hll2 := lines_len room (sgOf rs)
  have htsl : ts.length = (linesOf room (sgOf rs)).length := by rw [← htl]; simp [tl]
  have htv : (tv ts).length = ts.length := by simp [tv]
  have hsgl : (sgOf rs).length = rs.length := by simp [sgOf]
  refine partI w dp un gd A₀ base h₀ outer L fa cd m8 mg mb mean lo _ _ _ B F8 X N8 T hd hu G l W gs (tv ts) vi gn q fq t6 u8 _ ((hk8 _ (by decide +kernel)).trans ((ho7 _ (by decide +kernel)).trans g6)) ((hk8 _ (by decide +kernel)).trans ((ho7 _ (by decide +kernel)).trans l6)) hw8 ?_ (.tail _ (.tail _ (.tail _ hG3))) (.tail _ (.tail _ (.head _))) (.head _) (by rw [hgs3.1]; omega) (by omega) ?_ fun h9 tk9 F9 N9 => hret _ _ _ _ F9 N9
  · rw [hgs3.1]
    exact (hk8 _ (by decide +kernel)).trans ((ho7 _ (by decide +kernel)).trans hs6)
  · unfold cz
    rw [List.take_length]
    show (((cnt room (znOf rs)).1 : Nat) : Int) = _
    unfold znOf
    rw [← hlc]
    omega
theorem main : PySem.Challenge.rw_dm0096_02.Holds := by
  refine hd (by rfl) (by rfl) (by rfl) ?_
  k_go0
  refine wpAny_mono (E := fun _ _ => False) (lawC _ _ _ _ _ _ _ _ _ _ _ _ _ _ _ _ _ _ _ (by assumption) (by assumption) (by assumption) (by assumption) (by assumption) (by decide) (by decide) _ _ _ rfl (by assumption) (by assumption) (by omega) ?_) (fun _ _ h => h) (fun _ _ h => h.elim)
  intro h' tk m' news' F' N'
  k_steps
end Mine

theorem PySem.Challenge.cw_dm0096_02_holds : PySem.Challenge.rw_dm0096_02.Holds :=
  Mine.main
