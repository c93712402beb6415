import PyProof.Rows.All
import Wide.All
import OpenK.AllK
import Wide.FinOn
import PySem.Challenge.RW_oy0516_01
open PySem PySem.W PyProof.Rows
set_option Elab.async false
set_option maxRecDepth 100000
set_option maxHeartbeats 8000000
namespace Mine
section
open_top hd for PySem.Challenge.rw_oy0516_01
end
section
/-- what a call of a def of the text gives back, whoever calls it -/
def Ctr (w : World) (f : Addr) (depth units : Nat) (news : List (Addr × Obj)) (vs : List Value) (R : Value → List (Addr × Obj) → Prop) : Prop :=
  ∀ (mean : ExcName → Option Value) (mg mb : Str → Option Value) (dp un : Nat) (gd : Option (List Code)) (cn : Str) (cs : Scope) (a : Addr) (ccd : Value) (cl : List (Str × Addr)) (outer : List Env) (A₀ : Around) (base h₀ : Heap) (L : Addr) (m : Str → Option Value) (s : Shared) (Q E : Value → Shared → Prop),
    Below A₀ base outer h₀ → Fr h₀ L s.heap m → (hd.heap_39 w.params).In h₀ → News h₀ L s.heap news → Top hd.view_39 (looseW hd.view_39 []) mean mg mb h₀ → cs.kind = .function →
    dp + depth < recursionLimit → un + units < cLine →
    (∀ v tl h' tk', R v tl → (∀ p ∈ news, ∀ q ∈ tl, p.1 < q.1) → Fr h₀ L h' m → News h₀ L h' (tl ++ news) → Q v { s with heap := h', toks := tk' }) →
    wpAny (model PySem.Challenge.rw_oy0516_01.row.prog w) (ktrTop dp un gd cn cs L a ccd cl outer) (call (.ref f) vs) Q E s
theorem Ctr.use {w : World} {f : Addr} {depth units : Nat} {news : List (Addr × Obj)} {vs : List Value} {R : Value → List (Addr × Obj) → Prop} (C : Ctr w f depth units news vs R)
    {mean : ExcName → Option Value} {mg mb : Str → Option Value} {dp un : Nat} {gd : Option (List Code)} {cn : Str} {cs : Scope} {a : Addr} {ccd : Value} {cl : List (Str × Addr)} {outer : List Env} {A₀ : Around} {base h₀ : Heap} {L : Addr} {m : Str → Option Value} {s : Shared} {Q E : Value → Shared → Prop}
    (B : Below A₀ base outer h₀) (F : Fr h₀ L s.heap m) (X : (hd.heap_39 w.params).In h₀) (N : News h₀ L s.heap news) (T : Top hd.view_39 (looseW hd.view_39 []) mean mg mb h₀) (hk : cs.kind = .function)
    (hd : dp + depth < recursionLimit) (hu : un + units < cLine)
    (ret : ∀ v tl h' tk', R v tl → (∀ p ∈ news, ∀ q ∈ tl, p.1 < q.1) → Fr h₀ L h' m → News h₀ L h' (tl ++ news) → Q v { s with heap := h', toks := tk' }) :
    wpAny (model PySem.Challenge.rw_oy0516_01.row.prog w) (ktrTop dp un gd cn cs L a ccd cl outer) (call (.ref f) vs) Q E s :=
  C mean mg mb dp un gd cn cs a ccd cl outer A₀ base h₀ L m s Q E B F X N T hk hd hu ret
theorem allLt_all {d : Addr} : ∀ {l : List (Addr × Obj)}, AllLt d l → ∀ p ∈ l, p.1 < d
  | [], _, _, h => nomatch h
  | q :: r, ⟨a, b⟩, p, h => by
    rcases List.mem_cons.mp h with rfl | h
    · exact a
    · exact allLt_all b p h
theorem dropN {h₀ h : Heap} {L : Addr} {news news' : List (Addr × Obj)} (N : News h₀ L h news') (hs : ∀ p ∈ news, p ∈ news') : News h₀ L h news := fun p hp => N p (hs p hp)
/-- a mark at which the walk halts -/
def Hold (P : Prop) : Prop := P
theorem Hold.out {P : Prop} (h : Hold P) : P := h
theorem Hold.mk {P : Prop} (h : P) : Hold P := h
end
section
open PySem.Calls
theorem sub_strstr : isSubtype (.type "str") (.type "str") = pure true := by with_unfolding_all rfl
theorem sub_tuptup : isSubtype (.type "tuple") (.type "tuple") = pure true := by with_unfolding_all rfl
theorem kind_nested : builtinKind "issubclass.nested" = none := by decide +kernel
theorem plain_nested : plainId "issubclass.nested" = true := by decide +kernel
theorem args_nested (a b c : Value) : argsOk "issubclass.nested" ⟨[a, b, c], []⟩ := by unfold argsOk; kernel_rfl
section
variable {prog : Program} {w : World} {A : Around} {E : Value → Shared → Prop} {s : Shared}
theorem nested1 : Meets (Builtin.«issubclass.nested» ⟨[.type "str", .type "str", rawInt 1], []⟩) (fun _ R s => R (.ok (.ret (.bool true))) s) := by
  intro prog w A R s h
  have hself := sub_strstr
  have hm : (Value.type "type" == Value.type "type") = true := by decide
  have hT : typeOf (.type "str") = pure (.type "type") := by with_unfolding_all rfl
  unfold rawInt
  repeat (any_goals (first | assumption | (rw [if_pos hm]) | (rw [hself]) | wp_step))
theorem nested0 {a : Addr} : Meets (Builtin.«issubclass.nested» ⟨[.type "str", .ref a, rawInt 0], []⟩) (fun _ R s => IsTup s.heap a #[.type "str", .type "bytes"] ∧ R (.ok (.ret (.bool true))) s) := by
  intro prog w A R s ⟨ht, h⟩
  have htup := sub_tuptup
  have hTI : s.TypeIs (.ref a) "tuple" := ht.typeIs
  unfold rawInt
  repeat (any_goals (first | assumption | wp_step))
  obtain ⟨o, ho, _, n, hd⟩ := id ht
  refine wpAny_load ho ?_
  rw [hd]
  refine wpAny_pure ?_
  refine wpAny_bind ?_
  rw [← Array.forIn_toList]
  simp only [Option.getD_some]
  rw [List.forIn_cons]
  refine wpAny_bind (wpAny_bind ?_)
  refine call_function_meets kind_nested plain_nested F.entry_issubclass_nested (args_nested _ _ _) nested1 ?_
  show wpAny _ _ _ _ _ _
  refine wpAny_bind (wpAny_truthy_bool ?_)
  rw [if_pos rfl]
  repeat (any_goals (first | assumption | wp_step))
theorem issub_str {a : Addr} {Q : Value → Shared → Prop} (ht : IsTup s.heap a #[.type "str", .type "bytes"]) (h : Q (.bool true) s) :
    wpAny (model prog w) A (call (.builtin "issubclass") [.type "str", .ref a]) Q E s :=
  call_issubclass (S := fun _ R s => IsTup s.heap a #[.type "str", .type "bytes"] ∧ R (.ok (.ret (.bool true))) s) (fun prog w A R s hs => issubclass_outer (nested0 prog w A R s hs)) ⟨ht, h⟩
end
end
section
open PySem.Calls
/-- one part of a path upon the stack of those kept so far -/
def stepS (free : Bool) (st : List Str) (c : Str) : List Str :=
  if c.length = 0 ∨ c = Str.ofString "." then st
  else if c ≠ Str.ofString ".." ∨ (free = true ∧ st = []) ∨ (st ≠ [] ∧ st.getLastD Str.empty = Str.ofString "..") then st ++ [c]
  else st.dropLast
section
variable {stk : List (Str × Tok)} {c : Str} {t : Tok} {b : Bool} {r : Str}
theorem int_len0 {x : Str} (h : (x.length : Int) = 0) : x.length = 0 := by omega
theorem int_lenN {x : Str} (h : (x.length : Int) ≠ 0) : ¬ x.length = 0 := by omega
theorem nil_of_isEmpty (h : stk.isEmpty = true) : stk = [] := by cases stk with
  | nil => rfl
  | cons _ _ => cases h
theorem ne_of_isEmpty (h : stk.isEmpty = false) : stk.map (·.1) ≠ [] := by cases stk with
  | nil => cases h
  | cons _ _ => simp
theorem mid_ne (h0 : (c.length : Int) ≠ 0) (h1 : (c == Str.ofString ".") = false) : ¬ (c.length = 0 ∨ c = Str.ofString ".") := by
  rintro (h | h)
  · exact int_lenN h0 h
  · rw [h] at h1; exact absurd h1 (by decide)
theorem se1 (h : (c.length : Int) = 0) : stk.map (·.1) = stepS b (stk.map (·.1)) c := by
  unfold stepS; rw [if_pos (.inl (int_len0 h))]
theorem se2 (h : (c == Str.ofString ".") = true) : stk.map (·.1) = stepS b (stk.map (·.1)) c := by
  unfold stepS; rw [if_pos (.inr (eq_of_beq h))]
theorem se3 (h0 : (c.length : Int) ≠ 0) (h1 : (c == Str.ofString ".") = false) (h2 : (c != Str.ofString "..") = true) : (stk ++ [(c, t)]).map (·.1) = stepS b (stk.map (·.1)) c := by
  unfold stepS; rw [if_neg (mid_ne h0 h1), if_pos (.inl (by simpa using h2))]; simp
theorem se4 (h0 : (c.length : Int) ≠ 0) (h1 : (c == Str.ofString ".") = false) (h3 : (r.length : Int) = 0) (h4 : stk.isEmpty = true) : (stk ++ [(c, t)]).map (·.1) = stepS (decide (r.length = 0)) (stk.map (·.1)) c := by
  unfold stepS; rw [if_neg (mid_ne h0 h1), if_pos (.inr (.inl ⟨by simp [int_len0 h3], by rw [nil_of_isEmpty h4]; rfl⟩))]; simp
theorem se5 (h0 : (c.length : Int) ≠ 0) (h1 : (c == Str.ofString ".") = false) (h4 : stk.isEmpty = false) (h5 : ((stk.map (·.1)).getLastD Str.empty == Str.ofString "..") = true) : (stk ++ [(c, t)]).map (·.1) = stepS b (stk.map (·.1)) c := by
  unfold stepS; rw [if_neg (mid_ne h0 h1), if_pos (.inr (.inr ⟨ne_of_isEmpty h4, eq_of_beq h5⟩))]; simp
theorem se6 (h0 : (c.length : Int) ≠ 0) (h1 : (c == Str.ofString ".") = false) (h2 : (c != Str.ofString "..") = false) (h4 : stk.isEmpty = false) (h5 : ((stk.map (·.1)).getLastD Str.empty == Str.ofString "..") = false) : stk.dropLast.map (·.1) = stepS b (stk.map (·.1)) c := by
  unfold stepS; rw [if_neg (mid_ne h0 h1), if_neg ?_, List.map_dropLast]
  rintro (h | ⟨_, h⟩ | ⟨_, h⟩)
  · exact h (by simpa using h2)
  · exact ne_of_isEmpty h4 h
  · rw [h] at h5; exact absurd h5 (by decide)
theorem se7 (h0 : (c.length : Int) ≠ 0) (h1 : (c == Str.ofString ".") = false) (h2 : (c != Str.ofString "..") = false) (h3 : (r.length : Int) ≠ 0) (h4 : stk.isEmpty = true) : stk.map (·.1) = stepS (decide (r.length = 0)) (stk.map (·.1)) c := by
  have e := nil_of_isEmpty h4
  subst e
  unfold stepS; rw [if_neg (mid_ne h0 h1), if_neg ?_]; · rfl
  rintro (h | ⟨h, _⟩ | ⟨h, _⟩)
  · exact h (by simpa using h2)
  · exact int_lenN h3 (of_decide_eq_true h)
  · exact h rfl
end
theorem stepS_len (b : Bool) (st : List Str) (c : Str) : (stepS b st c).length ≤ st.length + 1 := by
  unfold stepS
  split
  · omega
  · split
    · simp
    · simp; omega
theorem stepS_mem {b : Bool} {st : List Str} {c x : Str} (h : x ∈ stepS b st c) : x ∈ st ∨ x = c := by
  unfold stepS at h
  split at h
  · exact .inl h
  · split at h
    · rcases List.mem_append.mp h with h | h
      · exact .inl h
      · exact .inr (List.mem_singleton.mp h)
    · exact .inl (List.dropLast_subset _ h)
theorem steps_len (b : Bool) : ∀ (cs st : List Str), (cs.foldl (stepS b) st).length ≤ st.length + cs.length
  | [], st => by simp
  | c :: r, st => by
    have h1 := steps_len b r (stepS b st c)
    have h2 := stepS_len b st c
    simp only [List.foldl_cons, List.length_cons]
    omega
theorem steps_mem {b : Bool} {x : Str} : ∀ (cs st : List Str), x ∈ cs.foldl (stepS b) st → x ∈ st ∨ x ∈ cs
  | [], _, h => .inl h
  | c :: r, st, h => by
    rw [List.foldl_cons] at h
    rcases steps_mem r _ h with h | h
    · rcases stepS_mem h with h | h
      · exact .inl h
      · exact .inr (h ▸ List.mem_cons_self ..)
    · exact .inr (List.mem_cons_of_mem _ h)
theorem sum_le {B : Nat} : ∀ {l : List Str}, (∀ a ∈ l, a.length ≤ B) → (l.map (·.length)).sum ≤ l.length * B
  | [], _ => by simp
  | x :: r, h => by
    have h1 := h x (List.mem_cons_self ..)
    have h2 := sum_le (fun a ha => h a (List.mem_cons_of_mem _ ha))
    simp only [List.map_cons, List.sum_cons, List.length_cons, Nat.succ_mul]
    omega
/-- what the loop leaves is light -/
theorem steps_light {b : Bool} {x y : Str} {st : List Str} (hx : x.length ≤ 1000) (h : st = (Txt.split x y).foldl (stepS b) []) : st.length ≤ 1002 ∧ (st.map (·.length)).sum ≤ 1002000 := by
  have h1 := steps_len b (Txt.split x y) []
  have h2 := split_le x y
  rw [← h] at h1
  simp only [List.length_nil] at h1
  have h3 : st.length ≤ 1002 := by omega
  have h4 : (st.map (·.length)).sum ≤ st.length * 1000 := sum_le fun a ha => by
    rw [h] at ha
    rcases steps_mem _ _ ha with ha | ha
    · cases ha
    · exact Nat.le_trans (part_short ha) hx
  exact ⟨h3, by omega⟩
theorem join_light {sep : Str} {stk : List (Str × Tok)} (hs : sep.length = 1) (h : stk.length ≤ 1002 ∧ ((stk.map (·.1)).map (·.length)).sum ≤ 1002000) : (Txt.join sep (stk.map (·.1))).length ≤ 1003002 := by
  have h1 := StrLaws.join_length_le sep (stk.map (·.1))
  rw [hs, List.length_map] at h1
  show (Builtin.Str.glued sep (stk.map (·.1))).length ≤ _
  rw [StrLaws.glued_eq_join]
  omega
section
variable {prog : Program} {w : World} {A : Around} {E : Value → Shared → Prop} {s : Shared} {env : Env} {h₀ : Heap} {x : Str} {body : List Stmt} {Q : Flow → Shared → Prop}
def StkEnd (h₀ : Heap) (L : Addr) (x : Str) (m₀ : Str → Option Value) (l' : Addr) (tail : List (Addr × Obj)) (want : List Str) (s₁ s₂ : Shared) : Prop :=
  ∃ h' tk u stk n news, s₂ = { s₁ with heap := h', toks := tk } ∧ Fr h₀ L h' (fun y => if y = x then u else m₀ y) ∧ News h₀ L h' news ∧ (∀ p ∈ ((l', listOf (strValues stk).toArray n) :: tail), p ∈ news) ∧ stk.map (·.1) = want
def StkPost (h₀ : Heap) (L : Addr) (x : Str) (m₀ : Str → Option Value) (l' : Addr) (tail : List (Addr × Obj)) (want : List Str) (s₁ : Shared) (Q : Flow → Shared → Prop) (f : Flow) (s₂ : Shared) : Prop :=
  match f with
  | .ret v => Q (.ret v) s₂
  | .brk => Q .next s₂
  | _ => StkEnd h₀ L x m₀ l' tail want s₁ s₂
theorem StkEnd.intro {L : Addr} {m₀ : Str → Option Value} {l' : Addr} {tail news : List (Addr × Obj)} {want : List Str} {s₁ : Shared} {h' : Heap} {tk : Nat} {u : Option Value} {stk : List (Str × Tok)} {n : Nat}
    (F : Fr h₀ L h' (fun y => if y = x then u else m₀ y)) (N : News h₀ L h' news) (hn : ∀ p ∈ ((l', listOf (strValues stk).toArray n) :: tail), p ∈ news) (hw : stk.map (·.1) = want) : StkEnd h₀ L x m₀ l' tail want s₁ { s₁ with heap := h', toks := tk } :=
  ⟨h', tk, u, stk, n, news, rfl, F, N, hn, hw⟩
theorem stk_loop {lc l' : Addr} {cs : List (Str × Tok)} {nc : Nat} {m₀ : Str → Option Value} {rest : List (Addr × Obj)} {n0 : Nat} (b : Bool)
    (hh : A.handled = none) (F : Fr h₀ env.locals s.heap m₀) (N : News h₀ env.locals s.heap ((l', listOf #[] n0) :: rest)) (hl : (lc, listOf (strValues cs).toArray nc) ∈ rest) (hlt : ∀ p ∈ rest, p.1 < l')
    (turn : ∀ c t (stk : List (Str × Tok)) n h tk own, (c, t) ∈ cs → stk.length ≤ cs.length → (∀ p ∈ rest ++ own, p.1 ≠ l') →
      Fr h₀ env.locals h (fun y => if y = x then some (.str c t) else m₀ y) → News h₀ env.locals h ((l', listOf (strValues stk).toArray n) :: (rest ++ own)) →
      wpAny (model prog w) A (execs body env) (StkPost h₀ env.locals x m₀ l' (rest ++ own) (stepS b (stk.map (·.1)) c) { s with heap := h, toks := tk } Q) E { s with heap := h, toks := tk })
    (done : ∀ (stk : List (Str × Tok)) n (u : Option Value) h tk, stk.map (·.1) = (cs.map (·.1)).foldl (stepS b) [] → Fr h₀ env.locals h (fun y => if y = x then u else m₀ y) → News h₀ env.locals h ((l', listOf (strValues stk).toArray n) :: rest) → Q .next { s with heap := h, toks := tk }) :
    wpAny (model prog w) A (pyIter (.ref lc)) (fun it s₂ => LoopAtV prog w A h₀ env x body Q E it s₂) E s := by
  have fr {v : Option Value} {m₁ : Str → Option Value} {h : Heap} (hm : ∀ z, z ≠ x → m₁ z = m₀ z) (F : Fr h₀ env.locals h (fun y => if y = x then v else m₁ y)) : Fr h₀ env.locals h (fun y => if y = x then v else m₀ y) := by
    have e : (fun y => if y = x then v else m₁ y) = fun y => if y = x then v else m₀ y := by
      funext y
      by_cases hy : y = x
      · simp [hy]
      · simp only [if_neg hy]; exact hm y hy
    rw [← e]; exact F
  refine kdl_iter (fun i m nx => ∃ (stk : List (Str × Tok)) (n : Nat), nx = (l', listOf (strValues stk).toArray n) :: rest ∧ stk.map (·.1) = ((cs.map (·.1)).take i).foldl (stepS b) [] ∧ ∀ z, z ≠ x → m z = m₀ z) hh (List.mem_cons_of_mem _ hl) F N
    ⟨[], n0, rfl, by simp, fun _ _ => rfl⟩ ?_ ?_
  · rintro i v m₁ news₁ h tk own hv hoff _ ⟨stk, n, rfl, hs, hm⟩ F₁ N₁
    obtain ⟨p, hp, rfl⟩ : ∃ p, cs[i]? = some p ∧ Value.str p.1 p.2 = v := by
      have hv' : (cs.map fun p => Value.str p.1 p.2)[i]? = some v := hv
      rw [List.getElem?_map] at hv'
      exact Option.map_eq_some_iff.mp hv'
    have hlen : stk.length ≤ cs.length := by
      have h1 := steps_len b ((cs.map (·.1)).take i) []
      rw [← hs] at h1
      simp only [List.length_map, List.length_nil, List.length_take] at h1
      omega
    have hne : ∀ q ∈ rest ++ own, q.1 ≠ l' := by
      intro q hq
      rcases List.mem_append.mp hq with hq | hq
      · exact Nat.ne_of_lt (hlt q hq)
      · exact hoff q hq l' (by simp)
    have hw : ((cs.map (·.1)).take (i + 1)).foldl (stepS b) [] = stepS b (stk.map (·.1)) p.1 := by
      rw [List.take_add_one, List.getElem?_map, hp, hs]; simp
    refine wpAny_mono (turn p.1 p.2 stk n h tk own (List.mem_of_getElem? hp) hlen hne (fr hm F₁) N₁) (fun f s₂ q => ?_) fun _ _ e => e
    have fin : StkEnd h₀ env.locals x m₀ l' (rest ++ own) (stepS b (stk.map (·.1)) p.1) { s with heap := h, toks := tk } s₂ →
        InvEndG h₀ env.locals (fun m' nx => (lc, listOf (strValues cs).toArray nc) ∈ nx ∧ ∃ (stk : List (Str × Tok)) (n : Nat), nx = (l', listOf (strValues stk).toArray n) :: rest ∧ stk.map (·.1) = ((cs.map (·.1)).take (i + 1)).foldl (stepS b) [] ∧ ∀ z, z ≠ x → m' z = m₀ z) own { s with heap := h, toks := tk } s₂ := by
      rintro ⟨h', tk', u, stk', n', news', rfl, F', N', hn, hw'⟩
      refine InvEndG.intro F' N' (nx := (l', listOf (strValues stk').toArray n') :: rest) ⟨List.mem_cons_of_mem _ hl, stk', n', rfl, by rw [hw, hw'], fun z hz => if_neg hz⟩ ?_ (fun p hp => hn p ?_) fun p hp => hn p (List.mem_cons_of_mem _ (List.mem_append_right _ hp))
      · intro a ha b hb
        exact hoff a ha b (by simpa using hb)
      · rcases List.mem_cons.mp hp with rfl | hp
        · exact .head _
        · exact .tail _ (List.mem_append_left _ hp)
    cases f with
    | ret v => exact q
    | brk => exact q
    | next => exact fin q
    | cont => exact fin q
  · rintro m₁ news₁ h tk ⟨stk, n, rfl, hs, hm⟩ F₁ N₁
    have e : m₁ = fun y => if y = x then m₁ x else m₀ y := by
      funext y
      by_cases hy : y = x
      · simp [hy]
      · simp only [if_neg hy]; exact hm y hy
    have hl' : (strValues cs).length = (cs.map (·.1)).length := by simp [strValues]
    rw [hl', List.take_length] at hs
    exact done stk n (m₁ x) h tk hs (by rw [← e]; exact F₁) N₁
end
end
section
open PySem.Calls
theorem strValues_len (l : List (Str × Tok)) : (strValues l).length = l.length := by simp [strValues]
theorem strValues_app (l : List (Str × Tok)) (c : Str) (t : Tok) : strValues (l ++ [(c, t)]) = strValues l ++ [.str c t] := by simp [strValues]
theorem strValues_drop (l : List (Str × Tok)) : strValues l.dropLast = (strValues l).dropLast := by simp [strValues, List.map_dropLast]
theorem stk_last : ∀ {l : List (Str × Tok)}, l ≠ [] → ∃ p, l = l.dropLast ++ [p] := fun {l} h => ⟨l.getLast h, (List.dropLast_concat_getLast h).symm⟩
section
variable {prog : Program} {w : World} {A : Around} {E : Value → Shared → Prop} {s : Shared} {h₀ : Heap} {L : Addr} {m : Str → Option Value} {l : Addr} {stk : List (Str × Tok)} {n : Nat} {tail news : List (Addr × Obj)}
theorem truthy_stk {Q : Bool → Shared → Prop} (N : News h₀ L s.heap news) (hm : (l, listOf (strValues stk).toArray n) ∈ news) (hfit : stk.length ≤ 100000) (h : Q (!stk.isEmpty) { s with toks := s.toks + 1 + 1 }) :
    wpAny (model prog w) A (truthy (.ref l)) Q E s := by
  refine wpAny_truthy_list (News.isList N hm) (by rw [List.size_toArray, strValues_len]; omega) ?_
  have e : (!(strValues stk).toArray.isEmpty) = !stk.isEmpty := by cases stk <;> simp [strValues]
  rw [e]; exact h
theorem last_stk {value slice : PySem.Expr} {u : Tok} {Q : Value → Shared → Prop} (N : News h₀ L s.heap news) (hm : (l, listOf (strValues stk).toArray n) ∈ news) (hne : stk.isEmpty = false)
    (h : ∀ t, Q (.str ((stk.map (·.1)).getLastD Str.empty) t) s)
    (hs : subscripted slice false (.ref l) (.int (-1) u) = operate [.ref l, .int (-1) u] (getItem (.ref l) (.int (-1) u)) := by with_unfolding_all rfl) :
    wpAny (model prog w) A (subscriptTail value slice (.ref l) (.int (-1) u)) Q E s := by
  have hne' : stk ≠ [] := by intro e; rw [e] at hne; simp at hne
  obtain ⟨p, hp⟩ := stk_last hne'
  have hl := News.isList N hm
  have hsz : (strValues stk).toArray.size = stk.dropLast.length + 1 := by rw [List.size_toArray, strValues_len]; rw [hp]; simp
  refine tail_any hl.typeIs slot_list_getitem.lookup (wpAny_getItem_list_neg (x := .str p.1 p.2) hl (by decide) (by rw [hsz]; omega) (by decide) ?_ ?_) hs
  · have e1 : ((-1 : Int) + ((strValues stk).toArray.size : Nat)).toNat = stk.dropLast.length := by rw [hsz]; omega
    rw [e1, List.getElem?_toArray, strValues, List.getElem?_map]
    have e2 : stk[stk.dropLast.length]? = some p := by
      have e3 : stk[stk.dropLast.length]? = (stk.dropLast ++ [p])[stk.dropLast.length]? := by rw [← hp]
      rw [e3]; simp
    rw [e2]; rfl
  · have e : (stk.map (·.1)).getLastD Str.empty = p.1 := by rw [hp]; simp
    rw [← e]; exact h p.2
theorem append_stk {c : Str} {t : Tok} {Q : Value → Shared → Prop} (F : Fr h₀ L s.heap m) (N : News h₀ L s.heap ((l, listOf (strValues stk).toArray n) :: tail)) (hne : ∀ p ∈ tail, p.1 ≠ l) (hfit : stk.length ≤ 100000)
    (h : ∀ h', Fr h₀ L h' m → News h₀ L h' ((l, listOf (strValues (stk ++ [(c, t)])).toArray (n + 1)) :: tail) → Q .none { s with heap := h' }) :
    wpAny (model prog w) A (call (.builtin "list.append") [.ref l, .str c t]) Q E s := by
  refine append_K F N (.head hne) (fun h' F' N' => h h' F' ?_) (by rw [sizeLine_eq, List.size_toArray, strValues_len]; omega)
  rw [strValues_app]
  simpa using N'
theorem pop_stk {Q : Value → Shared → Prop} (F : Fr h₀ L s.heap m) (N : News h₀ L s.heap ((l, listOf (strValues stk).toArray n) :: tail)) (hne : ∀ p ∈ tail, p.1 ≠ l) (hfit : stk.length ≤ 100000) (h0 : stk.isEmpty = false)
    (h : ∀ v h', Fr h₀ L h' m → News h₀ L h' ((l, listOf (strValues stk.dropLast).toArray (n + 1)) :: tail) → Q v { s with heap := h' }) :
    wpAny (model prog w) A (call (.builtin "list.pop") [.ref l]) Q E s := by
  have hne' : stk ≠ [] := by intro e; rw [e] at h0; simp at h0
  obtain ⟨p, hp⟩ := stk_last hne'
  have e : kl_last (strValues stk).toArray.toList = some (strValues stk.dropLast, .str p.1 p.2) := by
    show kl_last (strValues stk) = _
    have e1 : strValues stk = strValues stk.dropLast ++ [.str p.1 p.2] := by
      conv => lhs; rw [hp]
      rw [show (p : Str × Tok) = (p.1, p.2) from rfl, strValues_app]
    rw [e1]; exact kpa_last _ _
  exact kl_pop F N e (.head hne) (by show (strValues stk).length ≤ _; rw [sizeLine_eq, strValues_len]; omega) fun h' F' N' => h _ h' F' N'
theorem strsAre_values : ∀ l : List (Str × Tok), StrsAre (strValues l) (l.map (·.1))
  | [] => .nil
  | p :: r => .cons p.1 p.2 (strsAre_values r)
theorem join_stk {x : Str} {t : Tok} {Q : Value → Shared → Prop} (N : News h₀ L s.heap news) (hm : (l, listOf (strValues stk).toArray n) ∈ news) (hx : x.length = 1) (hw : stk.length ≤ 1002 ∧ ((stk.map (·.1)).map (·.length)).sum ≤ 1002000)
    (h : ∀ t' k, Q (.str (Txt.join x (stk.map (·.1))) t') { s with toks := k }) : wpAny (model prog w) A (call (.builtin "str.join") [.str x t, .ref l]) Q E s :=
  join_list (News.isList N hm) (strsAre_values stk) (by rw [hx]; simp only [List.length_map]; omega) h
theorem len_vals {vs : List Value} {k : Nat} {Q : Value → Shared → Prop} (N : News h₀ L s.heap news) (hm : (l, listOf vs.toArray n) ∈ news) (hk : vs.length = k) (hfit : k ≤ 100000) (h : Q (.int (k : Int) (s.toks + 1)) { s with toks := s.toks + 1 + 1 }) :
    wpAny (model prog w) A (call (.builtin "len") [.ref l]) Q E s := by
  refine Calls.call_len_list (News.isList N hm) (by rw [List.size_toArray, hk]; omega) ?_
  rw [List.size_toArray, hk]; exact h
theorem item_names {value slice : PySem.Expr} {vs : List Value} {ws : List Str} {i : Int} {u : Tok} {B : Nat} {Q : Value → Shared → Prop} (N : News h₀ L s.heap news) (hm : (l, listOf vs.toArray n) ∈ news) (hw : StrsAre vs ws) (hB : ∀ a ∈ ws, a.length ≤ B) (h0 : 0 ≤ i) (h1 : i < (ws.length : Int)) (hfit : i < 2 ^ 63)
    (h : ∀ t', (ws.getD i.toNat Str.empty).length ≤ B → Q (.str (ws.getD i.toNat Str.empty) t') s)
    (hs : subscripted slice false (.ref l) (.int i u) = operate [.ref l, .int i u] (getItem (.ref l) (.int i u)) := by with_unfolding_all rfl) :
    wpAny (model prog w) A (subscriptTail value slice (.ref l) (.int i u)) Q E s := by
  refine KTb.item_list (News.isList N hm) hw h0 h1 hfit (fun t' hlt => h t' ?_) hs
  rw [List.getD_eq_getElem?_getD, List.getElem?_eq_getElem hlt]
  exact hB _ (List.getElem_mem hlt)
theorem item_nums {value slice : PySem.Expr} {vs : List Value} {ns : List Int} {i : Int} {u : Tok} {Q : Value → Shared → Prop} (N : News h₀ L s.heap news) (hm : (l, listOf vs.toArray n) ∈ news) (hi : IntsAre vs ns) (h0 : 0 ≤ i) (h1 : i < (ns.length : Int)) (hfit : i < 2 ^ 63) (h : ∀ t, Q (.int (ns.getD i.toNat 0) t) s)
    (hs : subscripted slice false (.ref l) (.int i u) = operate [.ref l, .int i u] (getItem (.ref l) (.int i u)) := by with_unfolding_all rfl) :
    wpAny (model prog w) A (subscriptTail value slice (.ref l) (.int i u)) Q E s := by
  have hl := News.isList N hm
  have hlt : i.toNat < ns.length := by omega
  obtain ⟨t, e⟩ := hi.get i.toNat (ns.getD i.toNat 0) (by rw [List.getD_eq_getElem?_getD, List.getElem?_eq_getElem hlt]; rfl)
  exact tail_any hl.typeIs slot_list_getitem.lookup (wpAny_getItem_list hl h0 hfit (x := .int _ t) (by simpa using e) (h t)) hs
theorem item_nums_n {value slice : PySem.Expr} {vs : List Value} {ns : List Int} {i : Nat} {u : Tok} {Q : Value → Shared → Prop} (N : News h₀ L s.heap news) (hm : (l, listOf vs.toArray n) ∈ news) (hi : IntsAre vs ns) (h1 : i < ns.length) (hfit : i ≤ 100000) (h : ∀ t, Q (.int (ns.getD i 0) t) s)
    (hs : subscripted slice false (.ref l) (.int (i : Int) u) = operate [.ref l, .int (i : Int) u] (getItem (.ref l) (.int (i : Int) u)) := by with_unfolding_all rfl) :
    wpAny (model prog w) A (subscriptTail value slice (.ref l) (.int (i : Int) u)) Q E s :=
  item_nums N hm hi (by omega) (by omega) (by omega) (fun t => by rw [Int.toNat_natCast]; exact h t) hs
theorem item_names_m {value slice : PySem.Expr} {vs : List Value} {ws : List Str} {P : List Int} {i : Int} {u : Tok} {B : Nat} {Q : Value → Shared → Prop} (N : News h₀ L s.heap news) (hm : (l, listOf vs.toArray n) ∈ news) (hw : StrsAre vs ws) (hB : ∀ a ∈ ws, a.length ≤ B) (hP : ∀ k ∈ P, 0 ≤ k ∧ k < (ws.length : Int) ∧ k ≤ 4) (hk : i ∈ P)
    (h : ∀ t', (ws.getD i.toNat Str.empty).length ≤ B → Q (.str (ws.getD i.toNat Str.empty) t') s)
    (hs : subscripted slice false (.ref l) (.int i u) = operate [.ref l, .int i u] (getItem (.ref l) (.int i u)) := by with_unfolding_all rfl) :
    wpAny (model prog w) A (subscriptTail value slice (.ref l) (.int i u)) Q E s :=
  item_names N hm hw hB (hP i hk).1 (hP i hk).2.1 (by have := (hP i hk).2.2; omega) h hs
theorem base_list {vs : List Value} (F : Fr h₀ L s.heap m) (hl : h₀.IsList l vs.toArray) : s.heap.IsList l vs.toArray := hl.at fun o e => F.keep l o e
theorem len_base {vs : List Value} {k : Nat} {Q : Value → Shared → Prop} (F : Fr h₀ L s.heap m) (hl : h₀.IsList l vs.toArray) (hk : vs.length = k) (hfit : k ≤ 100000) (h : Q (.int (k : Int) (s.toks + 1)) { s with toks := s.toks + 1 + 1 }) :
    wpAny (model prog w) A (call (.builtin "len") [.ref l]) Q E s := by
  refine Calls.call_len_list (base_list F hl) (by rw [List.size_toArray, hk]; omega) ?_
  rw [List.size_toArray, hk]; exact h
theorem item_names_b {value slice : PySem.Expr} {vs : List Value} {ws : List Str} {P : List Int} {i : Int} {u : Tok} {B : Nat} {Q : Value → Shared → Prop} (F : Fr h₀ L s.heap m) (hl : h₀.IsList l vs.toArray) (hw : StrsAre vs ws) (hB : ∀ a ∈ ws, a.length ≤ B) (hP : ∀ k ∈ P, 0 ≤ k ∧ k < (ws.length : Int) ∧ k ≤ 4) (hk : i ∈ P)
    (h : ∀ t', (ws.getD i.toNat Str.empty).length ≤ B → Q (.str (ws.getD i.toNat Str.empty) t') s)
    (hs : subscripted slice false (.ref l) (.int i u) = operate [.ref l, .int i u] (getItem (.ref l) (.int i u)) := by with_unfolding_all rfl) :
    wpAny (model prog w) A (subscriptTail value slice (.ref l) (.int i u)) Q E s := by
  have h1 := hP i hk
  refine KTb.item_list (base_list F hl) hw h1.1 h1.2.1 (by omega) (fun t' hlt => h t' ?_) hs
  rw [List.getD_eq_getElem?_getD, List.getElem?_eq_getElem hlt]
  exact hB _ (List.getElem_mem hlt)
theorem count_base {vs : List Value} {ys : List Str} {k : Str} {t : Tok} {Q : Value → Shared → Prop} (F : Fr h₀ L s.heap m) (hl : h₀.IsList l vs.toArray) (hi : StrsAre vs ys)
    (h : Q (.int (PySem.Spec.countIn (.str k) (ys.map PyData.str)) s.toks) { s with toks := s.toks + 1 }) : wpAny (model prog w) A (call (.builtin "list.count") [.ref l, .str k t]) Q E s := count_list_strs (base_list F hl) hi h
theorem fold_rep (v : Value) : ∀ (i : Nat) (a : Array Value), List.foldl (fun x1 x2 => x1 ++ x2) a (List.replicate i #[v]) = a ++ (List.replicate i v).toArray
  | 0, a => by simp
  | i + 1, a => by
    rw [List.replicate_succ, List.foldl_cons, fold_rep v i]
    apply Array.toList_inj.mp
    simp [List.replicate_succ]
theorem mul_dots {x : Str} {t u : Tok} {i : Nat} {Q : Value → Shared → Prop} (F : Fr h₀ L s.heap m) (N : News h₀ L s.heap news) (hm : (l, listOf #[.str x t] n) ∈ news) (hi : i ≤ 100)
    (h : ∀ D h' vs, StrsAre vs (List.replicate i x) → Fr h₀ L h' m → News h₀ L h' ((D, listOf vs.toArray 0) :: news) → (∀ p ∈ news, p.1 < D) → Q (.ref D) { s with heap := h' }) :
    wpAny (model prog w) A (binaryOp .Mult (.ref l) (.int (i : Int) u)) Q E s := by
  refine mul_list (k := n) (items := #[.str x t]) F N (N.get hm) (by omega) (by omega) (by rw [Int.toNat_natCast]; show 1 * i ≤ _; omega) fun h' F' N' => h _ h' (strValues (List.replicate i (x, t))) ?_ F' ?_ fun p hp => Heap.lt_size (N p hp).1
  · have e := strsAre_values (List.replicate i (x, t))
    rw [List.map_replicate] at e
    exact e
  · have e : List.foldl (fun x1 x2 => x1 ++ x2) #[] (List.replicate (if (#[Value.str x t] : Array Value).isEmpty = true then 0 else (i : Int).toNat) #[Value.str x t]) = (strValues (List.replicate i (x, t))).toArray := by
      rw [if_neg (by simp), Int.toNat_natCast, fold_rep]
      simp [strValues, List.map_replicate]
    rw [e] at N'
    exact N'
theorem add_texts {b : Addr} {k : Nat} {va vb : List Value} {xs : List Str} {P : List Int} {g : Int → Str} {Q : Value → Shared → Prop} (F : Fr h₀ L s.heap m) (N : News h₀ L s.heap news) (hl : (l, listOf va.toArray n) ∈ news) (hb : (b, listOf vb.toArray k) ∈ news)
    (sx : StrsAre va xs) (sy : CarriedAll vb (P.map fun k => PyData.str (g k))) (hx : va.length ≤ 1000) (hy : P.length ≤ 1000)
    (h : ∀ D h' vs, StrsAre vs (xs ++ P.map g) → Fr h₀ L h' m → News h₀ L h' ((D, listOf vs.toArray 0) :: news) → (∀ p ∈ news, p.1 < D) → Q (.ref D) { s with heap := h' }) :
    wpAny (model prog w) A (binaryOp .Add (.ref l) (.ref b)) Q E s := by
  have sy' : StrsAre vb (P.map g) := StrsAre.ofCarried (by rw [List.map_map]; exact sy)
  have ly : vb.length = P.length := by rw [sy'.length, List.length_map]
  refine add_arrays F N (News.isList N hl) (News.isList N hb) (fun h' F' N' => h _ h' (va ++ vb) (StrsAre.append' sx sy') F' N' fun p hp => Heap.lt_size (N p hp).1) (by rw [sizeLine_eq, List.size_toArray, List.size_toArray]; omega)
theorem text_light {i : Nat} {x : Str} {P : List Int} {g : Int → Str} (hi : i ≤ 4) (hx : x.length ≤ 100) (hP : P.length ≤ 4) (hg : ∀ k, (g k).length ≤ 100) :
    (List.replicate i x ++ P.map g).length ≤ 8 ∧ ((List.replicate i x ++ P.map g).map (·.length)).sum ≤ 800 := by
  have h1 : (List.replicate i x ++ P.map g).length ≤ 8 := by simp only [List.length_append, List.length_replicate, List.length_map]; omega
  have h2 : ∀ l : List Str, (∀ a ∈ l, a.length ≤ 100) → (l.map (·.length)).sum ≤ l.length * 100 := by
    intro l
    induction l with
    | nil => intro _; simp
    | cons y r ih =>
      intro h
      have h3 := h y (List.mem_cons_self ..)
      have h4 := ih (fun a ha => h a (List.mem_cons_of_mem _ ha))
      simp only [List.map_cons, List.sum_cons, List.length_cons, Nat.succ_mul]
      omega
  have h3 := h2 (List.replicate i x ++ P.map g) fun a ha => by
    rcases List.mem_append.mp ha with ha | ha
    · rw [(List.mem_replicate.mp ha).2]; exact hx
    · obtain ⟨k, _, rfl⟩ := List.mem_map.mp ha; exact hg k
  exact ⟨h1, by omega⟩
theorem join_texts {x : Str} {t : Tok} {vs : List Value} {ws : List Str} {Q : Value → Shared → Prop} (N : News h₀ L s.heap news) (hm : (l, listOf vs.toArray n) ∈ news) (hs : StrsAre vs ws) (hx : x.length = 1) (hw : ws.length ≤ 8 ∧ (ws.map (·.length)).sum ≤ 800)
    (h : ∀ t' k, (Txt.join x ws).length ≤ 808 → Q (.str (Txt.join x ws) t') { s with toks := k }) : wpAny (model prog w) A (call (.builtin "str.join") [.str x t, .ref l]) Q E s :=
  join_list (News.isList N hm) hs (by rw [hx]; omega) fun t' k => h t' k (by
    have h1 := StrLaws.join_length_le x ws
    rw [hx] at h1
    show (Builtin.Str.glued x ws).length ≤ _
    rw [StrLaws.glued_eq_join]
    omega)
theorem count_meth {vs : List Value} {pl : Sem Bool} {Q : Value × List Value → Shared → Prop} (F : Fr h₀ L s.heap m) (hl : h₀.get? l = some (listOf vs.toArray n)) (h : Q (.builtin "list.count", [.ref l]) s) : wpAny (model prog w) A (getMethod (.ref l) (Str.ofString "count") pl) Q E s :=
  have ho := F.keep _ _ hl
  getMethod_builtin ⟨_, ho, rfl⟩ PySem.F.plainAttrs_list PySem.F.slot_list_count PySem.F.type_list_count (fun a e => by cases e; exact ⟨_, ho, rfl⟩) h
end
end
section
def chooseS (n k : Int) : Int := if k < 0 then 0 else (List.foldl (fun (σ : Int × Unit) k => ((σ.1 * (n - k)).fdiv (k + 1), ())) (1, ()) (rangeInts 0 1 (k - 0).toNat)).1
def ballotsS (n up : Int) : Int := if (n - up).fmod 2 = 1 then 0 else chooseS n ((n - up).fdiv 2) - chooseS n ((n - up).fdiv 2 - 1)
def placesF (κ n : Nat) : List Int := List.foldl (fun l' k' => if ((κ : Int).fdiv (2 ^ k'.toNat)).fmod 2 = 1 then l' ++ [k'] else l') [] (rangeKs 0 ((n : Int) - 0).toNat)
def endsF (κ n : Nat) : List Int := List.drop 1 (placesF κ n) ++ [(n : Int)]
def gapF (κ n i : Nat) : Int := (endsF κ n).getD i 0 - (placesF κ n).getD i 0 - 1
def worthF (κ n : Nat) : Nat → Int
  | 0 => 1
  | i + 1 => worthF κ n i * ballotsS (gapF κ n i) 0
/-- what the places of a mask are, all at once -/
def okF (κ n : Nat) : Bool :=
  decide ((placesF κ n).length ≤ 4) && decide ((placesF κ n).length ≤ (endsF κ n).length) && (placesF κ n).all (fun k => decide (0 ≤ k) && decide (k < (n : Int)) && decide (k ≤ 4))
  && (List.range (placesF κ n).length).all (fun i => decide (0 ≤ gapF κ n i) && decide (gapF κ n i ≤ 4) && decide (-1000 ≤ ballotsS (gapF κ n i) 0) && decide (ballotsS (gapF κ n i) 0 ≤ 1000))
  && decide (-1000 ≤ worthF κ n (placesF κ n).length) && decide (worthF κ n (placesF κ n).length ≤ 1000)
theorem ok_all : ((List.range 5).all fun n => (List.range (2 ^ n)).all fun κ => okF κ n) = true := by decide +kernel
theorem ok_at {κ n : Nat} (hn : n ≤ 4) (hk : κ < 2 ^ n) : okF κ n = true :=
  List.all_eq_true.mp (List.all_eq_true.mp ok_all n (List.mem_range.mpr (by omega))) κ (List.mem_range.mpr hk)
structure OkF (κ n : Nat) : Prop where
  len4 : (placesF κ n).length ≤ 4
  lenE : (placesF κ n).length ≤ (endsF κ n).length
  mem : ∀ k ∈ placesF κ n, 0 ≤ k ∧ k < (n : Int) ∧ k ≤ 4
  gap : ∀ i, i < (placesF κ n).length → (0 ≤ gapF κ n i ∧ gapF κ n i ≤ 4) ∧ -1000 ≤ ballotsS (gapF κ n i) 0 ∧ ballotsS (gapF κ n i) 0 ≤ 1000
  worth : -1000 ≤ worthF κ n (placesF κ n).length ∧ worthF κ n (placesF κ n).length ≤ 1000
theorem OkF.of {κ n : Nat} (hn : n ≤ 4) (hk : κ < 2 ^ n) : OkF κ n := by
  have h := ok_at hn hk
  simp only [okF, Bool.and_eq_true, decide_eq_true_eq, List.all_eq_true, List.mem_range] at h
  obtain ⟨⟨⟨⟨⟨h1, h2⟩, h3⟩, h4⟩, h5⟩, h6⟩ := h
  exact ⟨h1, h2, fun k hk => ⟨(h3 k hk).1.1, (h3 k hk).1.2, (h3 k hk).2⟩, fun i hi => ⟨⟨(h4 i hi).1.1.1, (h4 i hi).1.1.2⟩, (h4 i hi).1.2, (h4 i hi).2⟩, h5, h6⟩
theorem choose_all : ((List.range 5).all fun n => (List.range 5).all fun k => decide (-1000 ≤ chooseS n k) && decide (chooseS n k ≤ 1000) && decide (-1000 ≤ ballotsS n k) && decide (ballotsS n k ≤ 1000)) = true := by decide +kernel
theorem choose_bd {n k : Int} (hn : 0 ≤ n ∧ n ≤ 4) (hk : 0 ≤ k ∧ k ≤ 4) : (-1000 ≤ chooseS n k ∧ chooseS n k ≤ 1000) ∧ -1000 ≤ ballotsS n k ∧ ballotsS n k ≤ 1000 := by
  obtain ⟨a, rfl⟩ := Int.eq_ofNat_of_zero_le hn.1
  obtain ⟨b, rfl⟩ := Int.eq_ofNat_of_zero_le hk.1
  have h := List.all_eq_true.mp (List.all_eq_true.mp choose_all a (List.mem_range.mpr (by omega))) b (List.mem_range.mpr (by omega))
  simp only [Bool.and_eq_true, decide_eq_true_eq] at h
  exact ⟨⟨h.1.1.1, h.1.1.2⟩, h.1.2, h.2⟩
theorem getD_bd {P : List Int} {n : Int} (hm : ∀ k ∈ P, 0 ≤ k ∧ k < n ∧ k ≤ 4) (i : Nat) : 0 ≤ P.getD i 0 ∧ P.getD i 0 ≤ 4 := by
  rw [List.getD_eq_getElem?_getD]
  by_cases h : i < P.length
  · rw [List.getElem?_eq_getElem h]
    have := hm _ (List.getElem_mem h)
    exact ⟨this.1, this.2.2⟩
  · rw [List.getElem?_eq_none (Nat.not_lt.mp h)]; decide
theorem pow_nat (n : Nat) : ((2 : Int) ^ ((n : Int).toNat)).toNat = 2 ^ n := by
  rw [Int.toNat_natCast]
  have e : (2 : Int) ^ n = ((2 ^ n : Nat) : Int) := by rw [Int.natCast_pow]; rfl
  rw [e, Int.toNat_natCast]
theorem pow_bd {n : Nat} (h : n ≤ 4) : (2 : Int) ^ ((n : Int).toNat) ≤ 16 ∧ 0 ≤ (2 : Int) ^ ((n : Int).toNat) := by
  rw [Int.toNat_natCast]
  have : ∀ n : Nat, n ≤ 4 → (2 : Int) ^ n ≤ 16 ∧ 0 ≤ (2 : Int) ^ n := by decide
  exact this _ h
theorem getD_len {l : List Str} {B : Nat} (h : ∀ a ∈ l, a.length ≤ B) (k : Nat) : (l.getD k Str.empty).length ≤ B := by
  rw [List.getD_eq_getElem?_getD]
  by_cases hk : k < l.length
  · rw [List.getElem?_eq_getElem hk]; exact h _ (List.getElem_mem hk)
  · rw [List.getElem?_eq_none (Nat.not_lt.mp hk)]; exact Nat.zero_le _
theorem fdiv2_bd {x : Int} (h : 0 ≤ x ∧ x ≤ 4) : -1000 ≤ x.fdiv 2 ∧ x.fdiv 2 ≤ 1000 := by
  rw [Int.fdiv_eq_ediv_of_nonneg _ (by decide)]; omega
end
section
open PySem.Calls
theorem small_ok {b : Int} (h0 : 0 ≤ b) (h1 : b ≤ 1000) : Builtin.Range.small 0 b 1 = true := by
  exact small_one (by decide) (by decide) (by omega) (by omega)
theorem size_ok {b : Int} (h0 : 0 ≤ b) : Builtin.Range.rangeSize 0 b 1 = (b.toNat : Int) := by
  unfold Builtin.Range.rangeSize
  rw [if_pos (by decide)]
  by_cases h : 0 < b
  · rw [if_pos h, Int.ediv_one]; omega
  · rw [if_neg h]; omega
section
variable {prog : Program} {w : World} {A : Around} {E : Value → Shared → Prop} {s : Shared} {env : Env} {h₀ : Heap} {x : Str} {body : List Stmt} {Q : Flow → Shared → Prop}
theorem rng_inv {r : Addr} {b : Int} {t₀ u₀ v₀ : Tok} {m₀ : Str → Option Value} {news : List (Addr × Obj)} (J : Nat → (Str → Option Value) → List (Addr × Obj) → Prop)
    (hh : A.handled = none) (hr : IsRange s.heap r 0 b 1 t₀ u₀ v₀) (h0 : 0 ≤ b) (h1 : b ≤ 1000) (F : Fr h₀ env.locals s.heap m₀) (N : News h₀ env.locals s.heap news) (hj : J 0 m₀ news)
    (turn : ∀ (i : Nat) t m₁ nx h tk own, i < b.toNat → nx.map (·.1) = news.map (·.1) → OwnOff own (news.map (·.1)) → J i m₁ nx → Fr h₀ env.locals h (fun y => if y = x then some (.int i t) else m₁ y) → News h₀ env.locals h (nx ++ own) →
      wpAny (model prog w) A (execs body env) (InvPostN h₀ env.locals (J (i + 1)) own (news.map (·.1)) { s with heap := h, toks := tk } Q) E { s with heap := h, toks := tk })
    (done : ∀ m₁ nx h tk, J b.toNat m₁ nx → Fr h₀ env.locals h m₁ → News h₀ env.locals h nx → Q .next { s with heap := h, toks := tk }) :
    wpAny (model prog w) A (pyIter (.ref r)) (fun it s₂ => LoopAtV prog w A h₀ env x body Q E it s₂) E s := by
  refine wpAny_pyIter_range hr (small_ok h0 h1) ?_
  have W : Walks prog w A s.heap.objs.size [s.heap.objs.size] [s.heap.objs.size] b.toNat (fun i v => i < b.toNat ∧ ∃ t, v = .int (0 + i * 1) t)
      (fun i h => IsRangeIter h s.heap.objs.size (0 + (i : Nat) * 1) ((b.toNat : Int) - (i : Nat)) 1) := (Walks.range hh _ 0 1 b.toNat).bound
  refine loop_invN J W ?_ ?_ ?_ ?_ (by show IsRangeIter _ _ _ _ _; rw [size_ok h0]; simpa using Heap.get?_push_size _ rfl) (F.push _) (fun p hp => ⟨Heap.get?_push_of_some _ (N p hp).1, (N p hp).2⟩) hj ?_ ?_
  · exact fun hm => absurd F.ns.lt ((List.mem_singleton.mp hm) ▸ Nat.lt_irrefl _)
  · exact fun c hc => by rw [List.mem_singleton.mp hc]; exact next_is_new F
  · exact fun p hp hI => absurd (Heap.lt_size (N p hp).1) ((List.mem_singleton.mp hI) ▸ Nat.lt_irrefl _)
  · exact fun p hp hI => absurd (Heap.lt_size (N p hp).1) ((List.mem_singleton.mp hI) ▸ Nat.lt_irrefl _)
  · rintro i v m₁ nx h tk own hi ⟨_, t, rfl⟩ ha ho hJ F₁ N₁
    have e1 : (0 : Int) + (i : Int) * 1 = (i : Int) := by omega
    rw [e1] at F₁
    exact turn i t m₁ nx h tk own hi ha ho hJ F₁ N₁
  · exact done
/-- a range's loop that grows a list of texts, the ledger's first, and stores its own name and one more -/
def GrowEnd (h₀ : Heap) (L : Addr) (x y : Str) (m₀ : Str → Option Value) (l' : Addr) (tail : List (Addr × Obj)) (want : List Str) (s₁ s₂ : Shared) : Prop :=
  ∃ h' tk m' stk n news, s₂ = { s₁ with heap := h', toks := tk } ∧ Fr h₀ L h' m' ∧ (∀ z, z ≠ x → z ≠ y → m' z = m₀ z) ∧ News h₀ L h' news ∧ (∀ p ∈ ((l', listOf (strValues stk).toArray n) :: tail), p ∈ news) ∧ stk.map (·.1) = want
def GrowPost (h₀ : Heap) (L : Addr) (x y : Str) (m₀ : Str → Option Value) (l' : Addr) (tail : List (Addr × Obj)) (want : List Str) (s₁ : Shared) (Q : Flow → Shared → Prop) (f : Flow) (s₂ : Shared) : Prop :=
  match f with
  | .ret v => Q (.ret v) s₂
  | .brk => Q .next s₂
  | _ => GrowEnd h₀ L x y m₀ l' tail want s₁ s₂
theorem GrowEnd.intro {L : Addr} {y : Str} {m₀ m' : Str → Option Value} {l' : Addr} {tail news : List (Addr × Obj)} {want : List Str} {s₁ : Shared} {h' : Heap} {tk : Nat} {stk : List (Str × Tok)} {n : Nat}
    (F : Fr h₀ L h' m') (N : News h₀ L h' news) (hm : ∀ z, z ≠ x → z ≠ y → m' z = m₀ z) (hn : ∀ p ∈ ((l', listOf (strValues stk).toArray n) :: tail), p ∈ news) (hw : stk.map (·.1) = want) : GrowEnd h₀ L x y m₀ l' tail want s₁ { s₁ with heap := h', toks := tk } :=
  ⟨h', tk, m', stk, n, news, rfl, F, hm, N, hn, hw⟩
theorem grow_loop {r l' : Addr} {b : Int} {t₀ u₀ v₀ : Tok} {m₀ : Str → Option Value} {rest : List (Addr × Obj)} {n0 : Nat} (y : Str) (g : Nat → Str)
    (hh : A.handled = none) (hr : IsRange s.heap r 0 b 1 t₀ u₀ v₀) (h0 : 0 ≤ b) (h1 : b ≤ 1000) (F : Fr h₀ env.locals s.heap m₀) (N : News h₀ env.locals s.heap ((l', listOf #[] n0) :: rest)) (hlt : ∀ p ∈ rest, p.1 < l')
    (turn : ∀ (i : Nat) t (stk : List (Str × Tok)) n h tk own (u : Option Value), i < b.toNat → stk.length = i → (∀ p ∈ rest ++ own, p.1 ≠ l') → stk.map (·.1) = (List.range i).map g →
      Fr h₀ env.locals h (fun z => if z = x then some (.int i t) else if z = y then u else m₀ z) → News h₀ env.locals h ((l', listOf (strValues stk).toArray n) :: (rest ++ own)) →
      wpAny (model prog w) A (execs body env) (GrowPost h₀ env.locals x y m₀ l' (rest ++ own) ((List.range i).map g ++ [g i]) { s with heap := h, toks := tk } Q) E { s with heap := h, toks := tk })
    (done : ∀ (stk : List (Str × Tok)) n (u v : Option Value) h tk, stk.map (·.1) = (List.range b.toNat).map g → Fr h₀ env.locals h (fun z => if z = x then u else if z = y then v else m₀ z) → News h₀ env.locals h ((l', listOf (strValues stk).toArray n) :: rest) → Q .next { s with heap := h, toks := tk }) :
    wpAny (model prog w) A (pyIter (.ref r)) (fun it s₂ => LoopAtV prog w A h₀ env x body Q E it s₂) E s := by
  refine rng_inv (fun i m nx => ∃ (stk : List (Str × Tok)) (n : Nat), nx = (l', listOf (strValues stk).toArray n) :: rest ∧ stk.map (·.1) = (List.range i).map g ∧ ∀ z, z ≠ x → z ≠ y → m z = m₀ z) hh hr h0 h1 F N
    ⟨[], n0, rfl, by simp, fun _ _ _ => rfl⟩ ?_ ?_
  · rintro i t m₁ nx h tk own hi - hoff ⟨stk, n, rfl, hs, hm⟩ F₁ N₁
    have hlen : stk.length = i := by
      have := congrArg List.length hs
      simpa using this
    have hne : ∀ q ∈ rest ++ own, q.1 ≠ l' := by
      intro q hq
      rcases List.mem_append.mp hq with hq | hq
      · exact Nat.ne_of_lt (hlt q hq)
      · exact hoff q hq l' (by simp)
    have em : (fun z => if z = x then some (Value.int (i : Int) t) else m₁ z) = fun z => if z = x then some (Value.int (i : Int) t) else if z = y then m₁ y else m₀ z := by
      funext z
      by_cases hx : z = x
      · simp [hx]
      · simp only [if_neg hx]
        by_cases hy : z = y
        · simp [hy]
        · simp only [if_neg hy]; exact hm z hx hy
    rw [em] at F₁
    refine wpAny_mono (turn i t stk n h tk own _ hi hlen hne hs F₁ N₁) (fun f s₂ q => ?_) fun _ _ e => e
    have fin : GrowEnd h₀ env.locals x y m₀ l' (rest ++ own) ((List.range i).map g ++ [g i]) { s with heap := h, toks := tk } s₂ →
        InvEndN h₀ env.locals (fun m' nx => ∃ (stk : List (Str × Tok)) (n : Nat), nx = (l', listOf (strValues stk).toArray n) :: rest ∧ stk.map (·.1) = (List.range (i + 1)).map g ∧ ∀ z, z ≠ x → z ≠ y → m' z = m₀ z) own (((l', listOf #[] n0) :: rest).map (·.1)) { s with heap := h, toks := tk } s₂ := by
      rintro ⟨h', tk', m', stk', n', news', rfl, F', hm', N', hn, hw'⟩
      have hw2 : stk'.map (·.1) = (List.range (i + 1)).map g := by rw [hw', List.range_succ, List.map_append]; rfl
      refine InvEndN.intro F' N' (nx := (l', listOf (strValues stk').toArray n') :: rest) (Exists.intro stk' (Exists.intro n' (And.intro rfl (And.intro hw2 hm')))) rfl (fun p hp => hn p ?_) fun p hp => hn p (.tail _ (List.mem_append_right _ hp))
      rcases List.mem_cons.mp hp with hp | hp
      · rw [hp]; exact .head _
      · exact .tail _ (List.mem_append_left _ hp)
    cases f with
    | ret v => exact q
    | brk => exact q
    | next => exact fin q
    | cont => exact fin q
  · rintro m₁ nx h tk ⟨stk, n, rfl, hs, hm⟩ F₁ N₁
    have e : m₁ = fun z => if z = x then m₁ x else if z = y then m₁ y else m₀ z := by
      funext z
      by_cases hx : z = x
      · simp [hx]
      · simp only [if_neg hx]
        by_cases hy : z = y
        · simp [hy]
        · simp only [if_neg hy]; exact hm z hx hy
    exact done stk n (m₁ x) (m₁ y) h tk hs (by rw [← e]; exact F₁) N₁
theorem rng_turns {r : Addr} {b : Int} {t₀ u₀ v₀ : Tok} {m₀ : Str → Option Value} {news : List (Addr × Obj)} {px : Pos} (J : Nat → (Str → Option Value) → List (Addr × Obj) → Prop)
    (hh : A.handled = none) (hr : IsRange s.heap r 0 b 1 t₀ u₀ v₀) (h0 : 0 ≤ b) (h1 : b ≤ 1000) (F : Fr h₀ env.locals s.heap m₀) (N : News h₀ env.locals s.heap news) (hj : J 0 m₀ news)
    (turn : ∀ (i : Nat) t m₁ nx h tk own, i < b.toNat → nx.map (·.1) = news.map (·.1) → OwnOff own (news.map (·.1)) → J i m₁ nx → Fr h₀ env.locals h m₁ → News h₀ env.locals h (nx ++ own) →
      wpAny (model prog w) A (assign (.Name x px) env (.int i t)) (fun _ s₃ => wpAny (model prog w) A (execs body env) (InvPostN h₀ env.locals (J (i + 1)) own (news.map (·.1)) { s with heap := h, toks := tk } Q) E s₃) E { s with heap := h, toks := tk })
    (done : ∀ m₁ nx h tk, J b.toNat m₁ nx → Fr h₀ env.locals h m₁ → News h₀ env.locals h nx → Q .next { s with heap := h, toks := tk }) :
    wpAny (model prog w) A (pyIter (.ref r)) (fun it s₂ => TurnsAt prog w A h₀ env (.Name x px) body Q E it s₂) E s := by
  refine wpAny_pyIter_range hr (small_ok h0 h1) ?_
  have W : Walks prog w A s.heap.objs.size [s.heap.objs.size] [s.heap.objs.size] b.toNat (fun i v => i < b.toNat ∧ ∃ t, v = .int (0 + i * 1) t)
      (fun i h => IsRangeIter h s.heap.objs.size (0 + (i : Nat) * 1) ((b.toNat : Int) - (i : Nat)) 1) := (Walks.range hh _ 0 1 b.toNat).bound
  have W' := KTurns.ofWalks (target := .Name x px) W (fun i v s Q E _ q => wpAny_pure q)
  refine ⟨_, _, _, _, _, _, _, m₀, news, (fun i m nx => nx.map (·.1) = news.map (·.1) ∧ J i m nx), rfl, W', ?_, ?_, ?_, (by show IsRangeIter _ _ _ _ _; rw [size_ok h0]; simpa using Heap.get?_push_size _ rfl), F.push _, (fun p hp => ⟨Heap.get?_push_of_some _ (N p hp).1, (N p hp).2⟩), ⟨rfl, hj⟩, ?_, ?_⟩
  · exact fun hm => absurd F.ns.lt ((List.mem_singleton.mp hm) ▸ Nat.lt_irrefl _)
  · exact fun c hc => by rw [List.mem_singleton.mp hc]; exact next_is_new F
  · exact fun p hp hI => absurd (Heap.lt_size (N p hp).1) ((List.mem_singleton.mp hI) ▸ Nat.lt_irrefl _)
  · rintro i v m₁ nx h tk own hi ⟨_, t, rfl⟩ ⟨ha, hJ⟩ hoff hown - - - F₁ N₁
    have e1 : (0 : Int) + (i : Int) * 1 = (i : Int) := by omega
    rw [e1]
    have hsep : OwnOff own (news.map (·.1)) := by
      intro p hp c hc e
      obtain ⟨q, hq, rfl⟩ := List.mem_map.mp hc
      exact absurd (Heap.lt_size (N q hq).1) (by rw [← e, List.mem_singleton.mp (hown p hp)]; exact Nat.lt_irrefl _)
    have N₂ : News h₀ env.locals h (nx ++ own) := fun p hp => N₁ p ((List.mem_append.mp hp).elim (fun h => List.mem_append.mpr (.inr h)) fun h => List.mem_append.mpr (.inl h))
    refine wpAny_mono (turn i t m₁ nx h tk own hi ha hsep hJ F₁ N₂) (fun _ s₃ q => wpAny_mono q (fun f s₂ p => ?_) fun _ _ e => e) fun _ _ e => e
    have fin : InvEndN h₀ env.locals (J (i + 1)) own (news.map (·.1)) { s with heap := h, toks := tk } s₂ →
        LoopStepU h₀ env.locals [s.heap.objs.size] own (fun m nx => nx.map (·.1) = news.map (·.1) ∧ J (i + 1) m nx) { s with heap := h, toks := tk } .next s₂ := by
      rintro ⟨h', tk', m', news', nx', e, F', N', hn, ho, ha', hm⟩
      refine ⟨rfl, h', tk', m', nx', e, F', fun p hp => N' p ((List.mem_append.mp hp).elim (ho p) (hn p)), fun p hp hq => ?_, ha', hm⟩
      have h1 : p.1 ∈ nx'.map (·.1) := List.mem_map.mpr ⟨p, hp, rfl⟩
      rw [ha', ← ha] at h1
      obtain ⟨q, hq1, hq2⟩ := List.mem_map.mp h1
      exact hoff q hq1 (by rw [hq2]; exact hq)
    cases f with
    | ret v => exact .ret p
    | brk => exact .brk p
    | next => exact .next (fin p)
    | cont => exact .cont (fin p)
  · rintro h' tk m' nx F' N' - ⟨_, hJ⟩
    exact done m' nx h' tk hJ F' N'
/-- a range's loop whose own name is a cell, the ledger's first; it stores some names and leaves the rest -/
def CellEnd (h₀ : Heap) (L : Addr) (stored : List Str) (m₀ : Str → Option Value) (ak : Addr) (tail : List (Addr × Obj)) (s₁ s₂ : Shared) : Prop :=
  ∃ h' tk m' o c news, s₂ = { s₁ with heap := h', toks := tk } ∧ Fr h₀ L h' m' ∧ (∀ z, stored.contains z = false → m' z = m₀ z) ∧ News h₀ L h' news ∧ (∀ p ∈ ((ak, o) :: tail), p ∈ news) ∧ Obj.data o = .cell c
def CellPost (h₀ : Heap) (L : Addr) (stored : List Str) (m₀ : Str → Option Value) (ak : Addr) (tail : List (Addr × Obj)) (s₁ : Shared) (Q : Flow → Shared → Prop) (f : Flow) (s₂ : Shared) : Prop :=
  match f with
  | .ret v => Q (.ret v) s₂
  | .brk => Q .next s₂
  | _ => CellEnd h₀ L stored m₀ ak tail s₁ s₂
theorem CellEnd.intro {L : Addr} {stored : List Str} {m₀ m' : Str → Option Value} {ak : Addr} {tail news : List (Addr × Obj)} {s₁ : Shared} {h' : Heap} {tk : Nat} {o : Obj} {c : Option Value}
    (F : Fr h₀ L h' m') (N : News h₀ L h' news) (hm : ∀ z, stored.contains z = false → m' z = m₀ z) (hn : ∀ p ∈ ((ak, o) :: tail), p ∈ news) (hc : o.data = .cell c) : CellEnd h₀ L stored m₀ ak tail s₁ { s₁ with heap := h', toks := tk } :=
  ⟨h', tk, m', o, c, news, rfl, F, hm, N, hn, hc⟩
theorem cell_loop {r ak : Addr} {b : Int} {t₀ u₀ v₀ : Tok} {m₀ : Str → Option Value} {rest : List (Addr × Obj)} {o₀ : Obj} {c₀ : Option Value} {px : Pos} (stored : List Str)
    (hh : A.handled = none) (hr : IsRange s.heap r 0 b 1 t₀ u₀ v₀) (h0 : 0 ≤ b) (h1 : b ≤ 1000) (F : Fr h₀ env.locals s.heap m₀) (N : News h₀ env.locals s.heap ((ak, o₀) :: rest)) (hc : o₀.data = .cell c₀) (hne : ∀ p ∈ rest, p.1 ≠ ak)
    (turn : ∀ (i : Nat) t h tk own (u : Str → Option Value) o c, i < b.toNat → (∀ p ∈ rest ++ own, p.1 ≠ ak) → Obj.data o = .cell c →
      Fr h₀ env.locals h (fun z => if stored.contains z then u z else m₀ z) → News h₀ env.locals h ((ak, o) :: (rest ++ own)) →
      wpAny (model prog w) A (assign (.Name x px) env (.int i t)) (fun _ s₃ => wpAny (model prog w) A (execs body env) (CellPost h₀ env.locals stored m₀ ak (rest ++ own) { s with heap := h, toks := tk } Q) E s₃) E { s with heap := h, toks := tk })
    (done : ∀ h tk (u : Str → Option Value) o c, Obj.data o = .cell c → Fr h₀ env.locals h (fun z => if stored.contains z then u z else m₀ z) → News h₀ env.locals h ((ak, o) :: rest) → Q .next { s with heap := h, toks := tk }) :
    wpAny (model prog w) A (pyIter (.ref r)) (fun it s₂ => TurnsAt prog w A h₀ env (.Name x px) body Q E it s₂) E s := by
  have em {m₁ : Str → Option Value} (hm : ∀ z, stored.contains z = false → m₁ z = m₀ z) : m₁ = fun z => if stored.contains z then m₁ z else m₀ z := by
    funext z
    by_cases hz : stored.contains z = true
    · rw [if_pos hz]
    · rw [if_neg hz]; exact hm z (by simpa using hz)
  refine rng_turns (fun _ m nx => ∃ (o : Obj) (c : Option Value), nx = (ak, o) :: rest ∧ o.data = .cell c ∧ ∀ z, stored.contains z = false → m z = m₀ z) hh hr h0 h1 F N ⟨o₀, c₀, rfl, hc, fun _ _ => rfl⟩ ?_ ?_
  · rintro i t m₁ nx h tk own hi - hoff ⟨o, c, rfl, ho, hm⟩ F₁ N₁
    have hne' : ∀ q ∈ rest ++ own, q.1 ≠ ak := by
      intro q hq
      rcases List.mem_append.mp hq with hq | hq
      · exact hne q hq
      · exact hoff q hq ak (by simp)
    rw [em hm] at F₁
    refine wpAny_mono (turn i t h tk own m₁ o c hi hne' ho F₁ N₁) (fun _ s₃ q => wpAny_mono q (fun f s₂ q => ?_) fun _ _ e => e) fun _ _ e => e
    have fin : CellEnd h₀ env.locals stored m₀ ak (rest ++ own) { s with heap := h, toks := tk } s₂ →
        InvEndN h₀ env.locals (fun m' nx => ∃ (o : Obj) (c : Option Value), nx = (ak, o) :: rest ∧ o.data = .cell c ∧ ∀ z, stored.contains z = false → m' z = m₀ z) own (((ak, o₀) :: rest).map (·.1)) { s with heap := h, toks := tk } s₂ := by
      rintro ⟨h', tk', m', o', c', news', rfl, F', hm', N', hn, ho'⟩
      refine InvEndN.intro F' N' (nx := (ak, o') :: rest) (Exists.intro o' (Exists.intro c' (And.intro rfl (And.intro ho' hm')))) rfl (fun p hp => hn p ?_) fun p hp => hn p (.tail _ (List.mem_append_right _ hp))
      rcases List.mem_cons.mp hp with hp | hp
      · rw [hp]; exact .head _
      · exact .tail _ (List.mem_append_left _ hp)
    cases f with
    | ret v => exact q
    | brk => exact q
    | next => exact fin q
    | cont => exact fin q
  · rintro m₁ nx h tk ⟨o, c, rfl, ho, hm⟩ F₁ N₁
    exact done h tk m₁ o c ho (by rw [← em hm]; exact F₁) N₁
/-- a range's loop that keeps one int and stores no other name but its own -/
def AccEnd (h₀ : Heap) (L : Addr) (x y : Str) (m₀ : Str → Option Value) (news : List (Addr × Obj)) (want : Int) (s₁ s₂ : Shared) : Prop :=
  ∃ h' tk m' t news', s₂ = { s₁ with heap := h', toks := tk } ∧ Fr h₀ L h' m' ∧ m' y = some (.int want t) ∧ (∀ z, z ≠ x → z ≠ y → m' z = m₀ z) ∧ News h₀ L h' news' ∧ (∀ p ∈ news, p ∈ news')
def AccPost (h₀ : Heap) (L : Addr) (x y : Str) (m₀ : Str → Option Value) (news : List (Addr × Obj)) (want : Int) (s₁ : Shared) (Q : Flow → Shared → Prop) (f : Flow) (s₂ : Shared) : Prop :=
  match f with
  | .ret v => Q (.ret v) s₂
  | .brk => Q .next s₂
  | _ => AccEnd h₀ L x y m₀ news want s₁ s₂
theorem AccEnd.intro {L : Addr} {y : Str} {m₀ m' : Str → Option Value} {news news' : List (Addr × Obj)} {want : Int} {s₁ : Shared} {h' : Heap} {tk : Nat} {t : Tok}
    (F : Fr h₀ L h' m') (N : News h₀ L h' news') (hy : m' y = some (.int want t)) (hm : ∀ z, z ≠ x → z ≠ y → m' z = m₀ z) (hn : ∀ p ∈ news, p ∈ news') : AccEnd h₀ L x y m₀ news want s₁ { s₁ with heap := h', toks := tk } :=
  ⟨h', tk, m', t, news', rfl, F, hy, hm, N, hn⟩
theorem acc_loop {r : Addr} {b : Int} {t₀ u₀ v₀ ta₀ : Tok} {m₀ : Str → Option Value} {news : List (Addr × Obj)} (y : Str) (acc : Nat → Int)
    (hh : A.handled = none) (hr : IsRange s.heap r 0 b 1 t₀ u₀ v₀) (h0 : 0 ≤ b) (h1 : b ≤ 1000) (F : Fr h₀ env.locals s.heap m₀) (N : News h₀ env.locals s.heap news) (hy : m₀ y = some (.int (acc 0) ta₀))
    (turn : ∀ (i : Nat) t ta h tk own, i < b.toNat →
      Fr h₀ env.locals h (fun z => if z = x then some (.int i t) else if z = y then some (.int (acc i) ta) else m₀ z) → News h₀ env.locals h (news ++ own) →
      wpAny (model prog w) A (execs body env) (AccPost h₀ env.locals x y m₀ (news ++ own) (acc (i + 1)) { s with heap := h, toks := tk } Q) E { s with heap := h, toks := tk })
    (done : ∀ h tk (u : Option Value) ta, Fr h₀ env.locals h (fun z => if z = x then u else if z = y then some (.int (acc b.toNat) ta) else m₀ z) → News h₀ env.locals h news → Q .next { s with heap := h, toks := tk }) :
    wpAny (model prog w) A (pyIter (.ref r)) (fun it s₂ => LoopAtV prog w A h₀ env x body Q E it s₂) E s := by
  refine rng_inv (fun i m nx => nx = news ∧ (∃ t, m y = some (.int (acc i) t)) ∧ ∀ z, z ≠ x → z ≠ y → m z = m₀ z) hh hr h0 h1 F N ⟨rfl, ⟨_, hy⟩, fun _ _ _ => rfl⟩ ?_ ?_
  · rintro i t m₁ nx h tk own hi - hoff ⟨rfl, ⟨ta, hta⟩, hm⟩ F₁ N₁
    have em : (fun z => if z = x then some (Value.int (i : Int) t) else m₁ z) = fun z => if z = x then some (Value.int (i : Int) t) else if z = y then some (Value.int (acc i) ta) else m₀ z := by
      funext z
      by_cases hx : z = x
      · simp [hx]
      · simp only [if_neg hx]
        by_cases hy : z = y
        · simp [hy, hta]
        · simp only [if_neg hy]; exact hm z hx hy
    rw [em] at F₁
    refine wpAny_mono (turn i t ta h tk own hi F₁ N₁) (fun f s₂ q => ?_) fun _ _ e => e
    have fin : AccEnd h₀ env.locals x y m₀ (nx ++ own) (acc (i + 1)) { s with heap := h, toks := tk } s₂ →
        InvEndN h₀ env.locals (fun m' nx' => nx' = nx ∧ (∃ t, m' y = some (.int (acc (i + 1)) t)) ∧ ∀ z, z ≠ x → z ≠ y → m' z = m₀ z) own (nx.map (·.1)) { s with heap := h, toks := tk } s₂ := by
      rintro ⟨h', tk', m', t', news', rfl, F', hy', hm', N', hn⟩
      exact InvEndN.intro F' N' (nx := nx) (And.intro rfl (And.intro (Exists.intro t' hy') hm')) rfl (fun p hp => hn p (List.mem_append_left _ hp)) fun p hp => hn p (List.mem_append_right _ hp)
    cases f with
    | ret v => exact q
    | brk => exact q
    | next => exact fin q
    | cont => exact fin q
  · rintro m₁ nx h tk ⟨rfl, ⟨ta, hta⟩, hm⟩ F₁ N₁
    have e : m₁ = fun z => if z = x then m₁ x else if z = y then some (.int (acc b.toNat) ta) else m₀ z := by
      funext z
      by_cases hx : z = x
      · simp [hx]
      · simp only [if_neg hx]
        by_cases hy : z = y
        · simp [hy, hta]
        · simp only [if_neg hy]; exact hm z hx hy
    exact done h tk (m₁ x) ta (by rw [← e]; exact F₁) N₁
/-- a range's loop that keeps nothing: it stores some names, may leave, and forgets them -/
def FreeEnd (h₀ : Heap) (L : Addr) (x : Str) (stored : List Str) (m₀ : Str → Option Value) (news : List (Addr × Obj)) (s₁ s₂ : Shared) : Prop :=
  ∃ h' tk m' news', s₂ = { s₁ with heap := h', toks := tk } ∧ Fr h₀ L h' m' ∧ (∀ z, z ≠ x → stored.contains z = false → m' z = m₀ z) ∧ News h₀ L h' news' ∧ (∀ p ∈ news, p ∈ news')
def FreePost (h₀ : Heap) (L : Addr) (x : Str) (stored : List Str) (m₀ : Str → Option Value) (news : List (Addr × Obj)) (s₁ : Shared) (Q : Flow → Shared → Prop) (f : Flow) (s₂ : Shared) : Prop :=
  match f with
  | .ret v => Q (.ret v) s₂
  | .brk => Q .next s₂
  | _ => FreeEnd h₀ L x stored m₀ news s₁ s₂
theorem FreeEnd.intro {L : Addr} {stored : List Str} {m₀ m' : Str → Option Value} {news news' : List (Addr × Obj)} {s₁ : Shared} {h' : Heap} {tk : Nat}
    (F : Fr h₀ L h' m') (N : News h₀ L h' news') (hm : ∀ z, z ≠ x → stored.contains z = false → m' z = m₀ z) (hn : ∀ p ∈ news, p ∈ news') : FreeEnd h₀ L x stored m₀ news s₁ { s₁ with heap := h', toks := tk } :=
  ⟨h', tk, m', news', rfl, F, hm, N, hn⟩
theorem free_loop {r : Addr} {b : Int} {t₀ u₀ v₀ : Tok} {m₀ : Str → Option Value} {news : List (Addr × Obj)} (stored : List Str)
    (hh : A.handled = none) (hr : IsRange s.heap r 0 b 1 t₀ u₀ v₀) (h0 : 0 ≤ b) (h1 : b ≤ 1000) (F : Fr h₀ env.locals s.heap m₀) (N : News h₀ env.locals s.heap news)
    (turn : ∀ (i : Nat) t h tk own (u : Str → Option Value), i < b.toNat →
      Fr h₀ env.locals h (fun z => if z = x then some (.int i t) else if stored.contains z then u z else m₀ z) → News h₀ env.locals h (news ++ own) →
      wpAny (model prog w) A (execs body env) (FreePost h₀ env.locals x stored m₀ (news ++ own) { s with heap := h, toks := tk } Q) E { s with heap := h, toks := tk })
    (done : ∀ h tk (u : Option Value) (v : Str → Option Value), Fr h₀ env.locals h (fun z => if z = x then u else if stored.contains z then v z else m₀ z) → News h₀ env.locals h news → Q .next { s with heap := h, toks := tk }) :
    wpAny (model prog w) A (pyIter (.ref r)) (fun it s₂ => LoopAtV prog w A h₀ env x body Q E it s₂) E s := by
  have em {m₁ : Str → Option Value} {v : Option Value} (hm : ∀ z, z ≠ x → stored.contains z = false → m₁ z = m₀ z) : (fun z => if z = x then v else m₁ z) = fun z => if z = x then v else if stored.contains z then m₁ z else m₀ z := by
    funext z
    by_cases hx : z = x
    · simp [hx]
    · simp only [if_neg hx]
      by_cases hz : stored.contains z = true
      · rw [if_pos hz]
      · rw [if_neg hz]; exact hm z hx (by simpa using hz)
  refine rng_inv (fun _ m nx => nx = news ∧ ∀ z, z ≠ x → stored.contains z = false → m z = m₀ z) hh hr h0 h1 F N ⟨rfl, fun _ _ _ => rfl⟩ ?_ ?_
  · rintro i t m₁ nx h tk own hi - hoff ⟨rfl, hm⟩ F₁ N₁
    rw [em hm] at F₁
    refine wpAny_mono (turn i t h tk own m₁ hi F₁ N₁) (fun f s₂ q => ?_) fun _ _ e => e
    have fin : FreeEnd h₀ env.locals x stored m₀ (nx ++ own) { s with heap := h, toks := tk } s₂ →
        InvEndN h₀ env.locals (fun m' nx' => nx' = nx ∧ ∀ z, z ≠ x → stored.contains z = false → m' z = m₀ z) own (nx.map (·.1)) { s with heap := h, toks := tk } s₂ := by
      rintro ⟨h', tk', m', news', rfl, F', hm', N', hn⟩
      exact InvEndN.intro F' N' (nx := nx) (And.intro rfl hm') rfl (fun p hp => hn p (List.mem_append_left _ hp)) fun p hp => hn p (List.mem_append_right _ hp)
    cases f with
    | ret v => exact q
    | brk => exact q
    | next => exact fin q
    | cont => exact fin q
  · rintro m₁ nx h tk ⟨rfl, hm⟩ F₁ N₁
    have e : m₁ = fun z => if z = x then m₁ x else m₁ z := by
      funext z
      by_cases hx : z = x
      · simp [hx]
      · simp [hx]
    rw [e, em hm] at F₁
    exact done h tk (m₁ x) m₁ F₁ N₁
theorem comp_end {L I C D : Addr} {m : Str → Option Value} {s₁ : Shared} {oI oC oD : Obj} {S : List (Addr × Obj) → Prop} {R : Value → List (Addr × Obj) → Prop} {y : Value} {h' : Heap} {tk : Nat} {news : List (Addr × Obj)}
    (F : Fr h₀ L h' m) (N : News h₀ L h' ((I, oI) :: (C, oC) :: (D, oD) :: news)) (off : LCg.Off3 I C D news) (hS : S news) (r : R y news) :
    LCg.CompEnd h₀ L m s₁ I oI C oC D oD S R y { s₁ with heap := h', toks := tk } := LCg.CompEnd.intro F N news (fun _ h => h) off hS r
end
end
section
open PySem.Calls
/-- a heap's objects below an address -/
def cut (h : Heap) (L : Addr) : Heap := ⟨h.objs.extract 0 L, h.life⟩
theorem cut_lt {h : Heap} {L b : Nat} (hb : b < L) : (cut h L).get? b = h.get? b := by
  unfold cut Heap.get?
  have e : (h.objs.extract 0 L)[b]? = h.objs[b]? := by
    rw [Array.getElem?_extract]
    split
    · rw [Nat.zero_add]
    · rename_i hn
      have : h.objs.size ≤ b := by omega
      exact (Array.getElem?_eq_none this).symm
  show (match (h.objs.extract 0 L)[b]? with | some ⟨_, _, .freed, _⟩ => none | o => o) = _
  rw [e]; rfl
theorem cut_size {h : Heap} {L : Addr} : (cut h L).objs.size ≤ L := by
  unfold cut
  show (h.objs.extract 0 L).size ≤ L
  rw [Array.size_extract]; omega
theorem cut_ge {h : Heap} {L b : Addr} (hb : L ≤ b) : (cut h L).get? b = none := Heap.get?_none_of_le (Nat.le_trans cut_size hb)
theorem cut_of {h : Heap} {L b : Addr} {o : Obj} (e : (cut h L).get? b = some o) : h.get? b = some o := by
  by_cases hb : b < L
  · rw [← cut_lt hb]; exact e
  · rw [cut_ge (Nat.not_lt.mp hb)] at e; cases e
section
variable {M : Model} {A : Around} {t : Sem Flow} {Q : Flow → Shared → Prop} {E : Value → Shared → Prop} {s : Shared} {g : Heap} {L : Addr} {m : Str → Option Value} {cells news : List (Addr × Obj)}
/-- a body's end that leaves the base as it was -/
def PureEnd (G : Heap) (L : Addr) (s : Shared) (P : Flow → Prop) (fl : Flow) (s' : Shared) : Prop := ∃ h' tk m', s' = { s with heap := h', toks := tk } ∧ Fr G L h' m' ∧ P fl
theorem PureEnd.intro {G : Heap} {P : Flow → Prop} {fl : Flow} {h' : Heap} {tk : Nat} {m' : Str → Option Value} (F : Fr G L h' m') (hP : P fl) : PureEnd G L s P fl { s with heap := h', toks := tk } := ⟨h', tk, m', rfl, F, hP⟩
/-- the ledger goes into the base: what stands below the frame is the base, and only the frame's own cells are told apart -/
theorem ground (P : Flow → Prop) (F : Fr g L s.heap m) (N : News g L s.heap (cells ++ news)) (hc : ∀ p ∈ cells, L ≤ p.1) (hn : ∀ p ∈ news, p.1 < L)
    (h : ∀ G, Fr G L s.heap m → News G L s.heap cells → (∀ b o, g.get? b = some o → G.get? b = some o) → (∀ p ∈ news, G.get? p.1 = some p.2) →
      wpAny M A t (PureEnd G L s P) E s)
    (ret : ∀ fl h' tk m', P fl → Fr g L h' m' → News g L h' news → Q fl { s with heap := h', toks := tk }) : wpAny M A t Q E s := by
  have hsub : ∀ b o, g.get? b = some o → (cut s.heap L).get? b = some o := fun b o e => by
    rw [cut_lt (Nat.lt_of_lt_of_le (Heap.lt_size e) F.above)]; exact F.keep b o e
  have hnew : ∀ p ∈ news, (cut s.heap L).get? p.1 = some p.2 := fun p hp => by
    rw [cut_lt (hn p hp)]; exact (N p (List.mem_append_right _ hp)).1
  have FG : Fr (cut s.heap L) L s.heap m := ⟨F.ns, fun b o e => cut_of e, cut_size⟩
  have NG : News (cut s.heap L) L s.heap cells := fun p hp => ⟨(N p (List.mem_append_left _ hp)).1, (N p (List.mem_append_left _ hp)).2.1, cut_ge (hc p hp)⟩
  refine wpAny_mono (h _ FG NG hsub hnew) (fun fl s' q => ?_) fun _ _ e => e
  obtain ⟨h', tk, m', rfl, F', hP⟩ := q
  exact ret fl h' tk m' hP ⟨F'.ns, fun b o e => F'.keep b o (hsub b o e), F.above⟩ fun p hp => ⟨F'.keep _ _ (hnew p hp), (N p (List.mem_append_right _ hp)).2⟩
end
end
section
local macro_rules | `(tactic| walk_at "call ref") => `(tactic| (k_here; k_dflt (refine wpAny_call ?_; (refine' code_def ?k1 ?k2 ?k3 ?k4 ?k5 ?kA ?kF ?kK ?k6 ?k7 ?k8 ?k9 ?kB ?_ ?c2 ?c3 ?c4 ?c5; (case kA => exact rfl); (case kF => exact rfl); (case kK => first | exact rfl | assumption); (case k1 => k_asm); (case k2 => k_asm); (case k3 => k_asm); (case k4 => k_asm); (case k5 => k_asm); (case k6 => k_is); (case k7 => k_is); (case k8 => ktr_room); (case k9 => exact BindsTo.of_eq rfl); (case c5 => decide); (case kB => exact locs rfl); (case c2 => exact rfl); (case c3 => exact rfl); (case c4 => exact rfl); k_whole; intro g' L' h' FG' F' N' B' X' T'; (try dsimp only); (try k_lift B'); (try k_fold)))))
local macro_rules | `(tactic| walk_at "call builtin:issubclass") => `(tactic| (k_here; (refine' issub_str ?k1 ?_; (case k1 => k_dflt (exact News.isTup (by k_asm) (by k_mem))); k_whole)))
theorem c_fspath {w : World} (news : List (Addr × Obj)) (p : Str) (tp : Tok) :
    Ctr w 94 2 20 news [.str p tp] (fun v tl => v = .str p tp ∧ tl = []) := by
  unfold Ctr
  w_top off
  k_fill
  intros; rename_i hret
  refine wpAny_call ?_
  k_dflt cell_enter
  k_steps
  all_goals exact hret _ [] _ _ ⟨rfl, rfl⟩ (fun _ _ _ h => nomatch h) (by k_asm) (dropN (by assumption) (fun p hp => .tail _ hp))
local macro_rules | `(tactic| walk_at "call ref") => `(tactic| (k_here; (with_reducible show wpAny _ _ (call (Value.ref 94) [Value.str _ _]) _ _ _); k_dflt (refine' Ctr.use (c_fspath _ _ _) ?k1 ?k2 ?k3 ?k4 ?k5 ?kK ?kd ?ku ?_; (case k1 => k_asm); (case k2 => k_asm); (case k3 => k_asm); (case k4 => k_asm); (case k5 => k_asm); (case kK => first | exact rfl | assumption); (case kd => ktr_room); (case ku => ktr_units); k_whole); (rintro v' tl' h' tk' ⟨hv', ht'⟩ - F' N'); subst hv' ht'; (try dsimp only [List.nil_append] at N'); (try k_fold)))
def rootS (p : Str) : Str :=
  if (Txt.slice p none (some 1) != Str.ofString "/") = true then Str.ofString ""
  else if (Txt.slice p (some 1) (some 2) != Str.ofString "/") = true ∨ (Txt.slice p (some 2) (some 3) == Str.ofString "/") = true then Str.ofString "/"
  else Txt.slice p none (some 2)
def restS (p : Str) : Str :=
  if (Txt.slice p none (some 1) != Str.ofString "/") = true then p
  else if (Txt.slice p (some 1) (some 2) != Str.ofString "/") = true ∨ (Txt.slice p (some 2) (some 3) == Str.ofString "/") = true then Txt.slice p (some 1) none
  else Txt.slice p (some 2) none
theorem rootS_len (p : Str) : (rootS p).length ≤ p.length + 1 := by
  unfold rootS
  split
  · exact Nat.zero_le _
  · split
    · exact Nat.le_add_left _ _
    · have := PyProof.Txt.length_slice_le p none (some 2); omega
theorem restS_len (p : Str) : (restS p).length ≤ p.length := by
  unfold restS
  split
  · exact Nat.le_refl _
  · split <;> exact PyProof.Txt.length_slice_le ..
theorem rootS_a {p : Str} (h : (Txt.slice p none (some 1) != Str.ofString "/") = true) : rootS p = Str.ofString "" ∧ restS p = p := by
  unfold rootS restS; rw [if_pos h, if_pos h]; exact ⟨rfl, rfl⟩
theorem rootS_b {p : Str} (h : (Txt.slice p none (some 1) != Str.ofString "/") = false) (h2 : (Txt.slice p (some 1) (some 2) != Str.ofString "/") = true) : rootS p = Str.ofString "/" ∧ restS p = Txt.slice p (some 1) none := by
  have h' : ¬ (Txt.slice p none (some 1) != Str.ofString "/") = true := by rw [h]; exact Bool.false_ne_true
  unfold rootS restS; rw [if_neg h', if_neg h', if_pos (.inl h2), if_pos (.inl h2)]; exact ⟨rfl, rfl⟩
theorem rootS_c {p : Str} (h : (Txt.slice p none (some 1) != Str.ofString "/") = false) (h3 : (Txt.slice p (some 2) (some 3) == Str.ofString "/") = true) : rootS p = Str.ofString "/" ∧ restS p = Txt.slice p (some 1) none := by
  have h' : ¬ (Txt.slice p none (some 1) != Str.ofString "/") = true := by rw [h]; exact Bool.false_ne_true
  unfold rootS restS; rw [if_neg h', if_neg h', if_pos (.inr h3), if_pos (.inr h3)]; exact ⟨rfl, rfl⟩
theorem rootS_d {p : Str} (h : (Txt.slice p none (some 1) != Str.ofString "/") = false) (h2 : (Txt.slice p (some 1) (some 2) != Str.ofString "/") = false) (h3 : (Txt.slice p (some 2) (some 3) == Str.ofString "/") = false) : rootS p = Txt.slice p none (some 2) ∧ restS p = Txt.slice p (some 2) none := by
  have h' : ¬ (Txt.slice p none (some 1) != Str.ofString "/") = true := by rw [h]; exact Bool.false_ne_true
  have h'' : ¬ ((Txt.slice p (some 1) (some 2) != Str.ofString "/") = true ∨ (Txt.slice p (some 2) (some 3) == Str.ofString "/") = true) := by rw [h2, h3]; simp
  unfold rootS restS; rw [if_neg h', if_neg h', if_neg h'', if_neg h'']; exact ⟨rfl, rfl⟩
theorem sp_end {h₀ h' : Heap} {L D : Addr} {m : Str → Option Value} {s : Shared} {Q : Value → Shared → Prop} {news : List (Addr × Obj)} {p x y : Str} {t1 t2 t3 : Tok} {tk' : Nat}
    (hret : ∀ v tl h' tk', (∃ D t1 t2 t3, v = .ref D ∧ tl = [(D, ({ cls := .type "tuple", data := .seq #[.str (Str.ofString "") t1, .str (rootS p) t2, .str (restS p) t3] } : Obj))]) → (∀ p ∈ news, ∀ q ∈ tl, p.1 < q.1) → Fr h₀ L h' m → News h₀ L h' (tl ++ news) → Q v { s with heap := h', toks := tk' })
    (e : rootS p = x ∧ restS p = y) (l1 : ∀ q ∈ news, q.1 < D) (F : Fr h₀ L h' m) (N : News h₀ L h' ((D, { cls := .type "tuple", data := .seq #[.str (Str.ofString "") t1, .str x t2, .str y t3] }) :: news)) : Q (.ref D) { s with heap := h', toks := tk' } := by
  obtain ⟨rfl, rfl⟩ := e
  exact hret _ _ _ _ ⟨_, _, _, _, rfl, rfl⟩ (fun a ha q hq => by rw [List.mem_singleton.mp hq]; exact l1 a ha) F N
theorem c_splitroot {w : World} (news : List (Addr × Obj)) (p : Str) (tp : Tok) (hp : p.length ≤ 1000) :
    Ctr w 101 3 30 news [.str p tp] (fun v tl => ∃ D t1 t2 t3, v = .ref D ∧ tl = [(D, { cls := .type "tuple", data := .seq #[.str (Str.ofString "") t1, .str (rootS p) t2, .str (restS p) t3] })]) := by
  unfold Ctr
  w_top off
  k_fill
  intros; rename_i hret
  refine wpAny_call ?_
  k_dflt cell_enter
  k_steps
  · exact sp_end hret (rootS_a (by assumption)) (by assumption) (by k_asm) (by k_asm)
  · exact sp_end hret (rootS_b (by assumption) (by assumption)) (by assumption) (by k_asm) (by k_asm)
  · exact sp_end hret (rootS_c (by assumption) (by assumption)) (by assumption) (by k_asm) (by k_asm)
  · exact sp_end hret (rootS_d (by assumption) (by assumption) (by assumption)) (by assumption) (by k_asm) (by k_asm)
end
section
local macro_rules | `(tactic| walk_at "call ref") => `(tactic| (k_here; k_dflt (refine wpAny_call ?_; (refine' code_def ?k1 ?k2 ?k3 ?k4 ?k5 ?kA ?kF ?kK ?k6 ?k7 ?k8 ?k9 ?kB ?_ ?c2 ?c3 ?c4 ?c5; (case kA => exact rfl); (case kF => exact rfl); (case kK => first | exact rfl | assumption); (case k1 => k_asm); (case k2 => k_asm); (case k3 => k_asm); (case k4 => k_asm); (case k5 => k_asm); (case k6 => k_is); (case k7 => k_is); (case k8 => ktr_room); (case k9 => exact BindsTo.of_eq rfl); (case c5 => decide); (case kB => exact locs rfl); (case c2 => exact rfl); (case c3 => exact rfl); (case c4 => exact rfl); k_whole; intro g' L' h' FG' F' N' B' X' T'; (try dsimp only); (try k_lift B'); (try k_fold)))))
local macro_rules | `(tactic| walk_at "call builtin:issubclass") => `(tactic| (k_here; (refine' issub_str ?k1 ?_; (case k1 => k_dflt (exact News.isTup (by k_asm) (by k_mem))); k_whole)))
local macro_rules | `(tactic| walk_at "call ref") => `(tactic| (k_here; (with_reducible show wpAny _ _ (call (Value.ref 94) [Value.str _ _]) _ _ _); k_dflt (refine' Ctr.use (c_fspath _ _ _) ?k1 ?k2 ?k3 ?k4 ?k5 ?kK ?kd ?ku ?_; (case k1 => k_asm); (case k2 => k_asm); (case k3 => k_asm); (case k4 => k_asm); (case k5 => k_asm); (case kK => first | exact rfl | assumption); (case kd => ktr_room); (case ku => ktr_units); k_whole); (rintro v' tl' h' tk' ⟨hv', ht'⟩ - F' N'); subst hv' ht'; (try dsimp only [List.nil_append] at N'); (try k_fold)))
local macro_rules | `(tactic| walk_at "call ref") => `(tactic| (k_here; (with_reducible show wpAny _ _ (call (Value.ref 101) [Value.str _ _]) _ _ _); k_dflt (refine' Ctr.use (c_splitroot _ _ _ ?hp) ?k1 ?k2 ?k3 ?k4 ?k5 ?kK ?kd ?ku ?_; (case hp => assumption); (case k1 => k_asm); (case k2 => k_asm); (case k3 => k_asm); (case k4 => k_asm); (case k5 => k_asm); (case kK => first | exact rfl | assumption); (case kd => ktr_room); (case ku => ktr_units); k_whole); (rintro v' tl' h' tk' ⟨D', t1', t2', t3', hv', ht'⟩ l1' F' N'); subst hv' ht'; (replace l1' := fun p hp => l1' p hp _ (List.mem_singleton.mpr rfl)); (try dsimp only [List.cons_append, List.nil_append] at N' l1'); (try k_lt l1'); (try k_fold)))
local macro_rules | `(tactic| walk_at "truthy ref") => `(tactic| (k_here; (refine' truthy_stk ?k1 ?k2 ?k3 ?_; (case k1 => k_asm); (case k2 => k_dflt k_mem); (case k3 => omega); k_whole)))
local macro_rules | `(tactic| walk_at "subscriptTail") => `(tactic| (k_here; (with_reducible show wpAny _ _ (subscriptTail _ _ (Value.ref _) (Value.int _ _)) _ _ _); (with_unfolding_all refine' last_stk ?k1 ?k2 ?k3 ?_; (case k1 => k_asm); (case k2 => k_dflt k_mem); (case k3 => assumption); k_whole); intro _))
local macro_rules | `(tactic| walk_at "call builtin:list.append") => `(tactic| (k_here; (refine' append_stk ?k1 ?k2 ?k3 ?k4 ?_; (case k1 => k_asm); (case k2 => k_asm); (case k3 => assumption); (case k4 => omega); k_whole); intro h' F' N'))
local macro_rules | `(tactic| walk_at "call builtin:list.pop") => `(tactic| (k_here; (refine' pop_stk ?k1 ?k2 ?k3 ?k4 ?k5 ?_; (case k1 => k_asm); (case k2 => k_asm); (case k3 => assumption); (case k4 => omega); (case k5 => assumption); k_whole); intro v' h' F' N'))
local macro_rules | `(tactic| walk_at "exec For Name Name cons nil") => `(tactic| (k_here; (rename Fr _ _ _ _ => lF'); (with_unfolding_all refine' For_invVF lF' ?k1 ?k2 ?_; (case k1 => exact rfl); (case k2 => exact rfl); k_whole)))
local macro_rules | `(tactic| walk_at "call builtin:str.join") => `(tactic| (k_here; (with_reducible show wpAny _ _ (call (Value.builtin _) [Value.str _ _, Value.ref _]) _ _ _); (refine' join_stk ?k1 ?k2 ?k3 ?k4 ?_; (case k1 => k_asm); (case k2 => k_dflt k_mem); (case k3 => rfl); (case k4 => assumption); k_whole); intro _ _; (have hjl := join_light (sep := Str.ofString "/") rfl (by assumption))))
def keptS (p : Str) : List Str := (Txt.split (restS p) (Str.ofString "/")).foldl (stepS (decide ((rootS p).length = 0))) []
def normS (p : Str) : Str :=
  if p.length = 0 then Str.ofString "."
  else if (rootS p ++ Txt.join (Str.ofString "/") (keptS p)).length = 0 then Str.ofString "." else rootS p ++ Txt.join (Str.ofString "/") (keptS p)
theorem normS_0 {p : Str} (h0 : (p.length : Int) = 0) : normS p = Str.ofString "." := by unfold normS; rw [if_pos (int_len0 h0)]
theorem normS_1 {p : Str} {x : List Str} (h0 : (p.length : Int) ≠ 0) (hs : x = keptS p) (h : ((rootS p ++ Txt.join (Str.ofString "/") x).length : Int) ≠ 0) : normS p = rootS p ++ Txt.join (Str.ofString "/") x := by
  subst hs; unfold normS; rw [if_neg (int_lenN h0), if_neg (int_lenN h)]
theorem normS_2 {p : Str} {x : List Str} (h0 : (p.length : Int) ≠ 0) (hs : x = keptS p) (h : ((rootS p ++ Txt.join (Str.ofString "/") x).length : Int) = 0) : normS p = Str.ofString "." := by
  subst hs; unfold normS; rw [if_neg (int_lenN h0), if_pos (int_len0 h)]
theorem c_norm {w : World} (news : List (Addr × Obj)) (p : Str) (tp : Tok) (hp : p.length ≤ 1000) :
    Ctr w 108 4 50 news [.str p tp] (fun v tl => tl = [] ∧ ∃ t, v = .str (normS p) t) := by
  unfold Ctr
  w_top off
  k_fill
  have hr1 : (restS p).length ≤ 1000 := Nat.le_trans (restS_len p) hp
  have hr2 : (rootS p).length ≤ 1001 := Nat.le_trans (rootS_len p) (by omega)
  intros; rename_i hret
  refine wpAny_call ?_
  k_dflt cell_enter
  k_steps
  · (rename Fr _ _ _ _ => lF'); (rename News _ _ _ _ => lN')
    (rename _ = Txt.split _ _ => hq)
    refine' stk_loop (decide ((rootS p).length = 0)) rfl lF' lN' ?k1 ?k2 ?turn ?done
    case k1 => k_mem
    case k2 => exact allLt_all (by assumption)
    case turn =>
      intro c' t' stk' n' h' tk' own' hc' hlen' hne' F' N'
      k_fold
      have hcl : c'.length ≤ 1000 := Nat.le_trans (part_short (by rw [← hq]; exact List.mem_map.mpr ⟨_, hc', rfl⟩)) hr1
      have hsl : stk'.length ≤ 1002 := by have h1 := split_le (restS p) (Str.ofString "/"); rw [← hq, List.length_map] at h1; omega
      clear lF' lN' hq hc' hlen'
      k_steps
      all_goals (try dsimp only)
      all_goals (try (k_unfold; dsimp only))
      all_goals (try dsimp only [StkPost])
      all_goals (refine StkEnd.intro (by k_asm) (by k_asm) (fun _ h => h) ?_)
      all_goals first
        | exact se1 (by assumption)
        | exact se2 (by assumption)
        | exact se3 (by assumption) (by assumption) (by assumption)
        | exact se4 (by assumption) (by assumption) (by assumption) (by assumption)
        | exact se5 (by assumption) (by assumption) (by assumption) (by assumption)
        | exact se6 (by assumption) (by assumption) (by assumption) (by assumption) (by assumption)
        | exact se7 (by assumption) (by assumption) (by assumption) (by assumption) (by assumption)
    case done =>
      intro stk' n' u' h' tk' hs' F' N'
      have hlight := steps_light hr1 (hs'.trans (by rw [hq]))
      simp only [List.length_map] at hlight
      rw [hq] at hs'
      clear lF' lN' hq
      k_steps
      · exact hret _ [] _ _ ⟨rfl, _, congrArg (fun z => Value.str z _) (normS_1 (by assumption) hs' (by assumption)).symm⟩ (fun _ _ _ h => nomatch h) (by k_asm) (dropN (by assumption) (fun p hp => .tail _ (.tail _ (.tail _ hp))))
      · exact hret _ [] _ _ ⟨rfl, _, congrArg (fun z => Value.str z _) (normS_2 (by assumption) hs' (by assumption)).symm⟩ (fun _ _ _ h => nomatch h) (by k_asm) (dropN (by assumption) (fun p hp => .tail _ (.tail _ (.tail _ hp))))
  · exact hret _ [] _ _ ⟨rfl, _, congrArg (fun z => Value.str z _) (normS_0 (by assumption)).symm⟩ (fun _ _ _ h => nomatch h) (by k_asm) (by k_asm)
end
section
local macro_rules | `(tactic| walk_at "call ref") => `(tactic| (k_here; k_dflt (refine wpAny_call ?_; (refine' code_def ?k1 ?k2 ?k3 ?k4 ?k5 ?kA ?kF ?kK ?k6 ?k7 ?k8 ?k9 ?kB ?_ ?c2 ?c3 ?c4 ?c5; (case kA => exact rfl); (case kF => exact rfl); (case kK => first | exact rfl | assumption); (case k1 => k_asm); (case k2 => k_asm); (case k3 => k_asm); (case k4 => k_asm); (case k5 => k_asm); (case k6 => k_is); (case k7 => k_is); (case k8 => ktr_room); (case k9 => exact BindsTo.of_eq rfl); (case c5 => decide); (case kB => exact locs rfl); (case c2 => exact rfl); (case c3 => exact rfl); (case c4 => exact rfl); k_whole; intro g' L' h' FG' F' N' B' X' T'; (try dsimp only); (try k_lift B'); (try k_fold)))))
local macro_rules | `(tactic| walk_at "subscriptTail") => `(tactic| (k_here; (with_reducible show wpAny _ _ (subscriptTail _ _ (Value.ref _) (Value.int (Int.fmod _ 4) _)) _ _ _); (with_unfolding_all refine' KTb.item_tup ?k1 ?k2 ?k3 ?k4 ?k5 ?_; (case k1 => k_dflt (exact News.isTup (by k_asm) (by k_mem))); (case k2 => repeat constructor); (case k3 => exact fmod_lo _ (by decide)); (case k4 => exact fmod_hi _ (by decide)); (case k5 => exact Int.lt_trans (fmod_hi _ (by decide)) (by decide)); k_whole); intro _ _))
def nameS (x k : Int) : Str :=
  [Str.ofString "", Str.ofString ".", Str.ofString "..", Str.ofString "..."].getD (x.fmod 4).toNat Str.empty ++ Txt.item (Str.ofString "aBcD") k ++ [Str.ofString "", Str.ofString ".", Str.ofString "..", Str.ofString " "].getD ((x.fdiv 4).fmod 4).toNat Str.empty
theorem c_name {w : World} (rest : List (Addr × Obj)) (x k : Int) (tx tk : Tok) (hk : 0 ≤ k ∧ k < 4) :
    Ctr w 129 2 30 rest [.int x tx, .int k tk] (fun v tl => tl = [] ∧ ∃ t, v = .str (nameS x k) t) := by
  unfold Ctr
  w_top off
  k_fill
  intros; rename_i hret
  refine wpAny_call ?_
  k_dflt cell_enter
  k_steps
  exact hret _ [] _ _ ⟨rfl, _, rfl⟩ (fun _ _ _ h => nomatch h) (by k_asm) (dropN (by assumption) (fun p hp => .tail _ (.tail _ hp)))
theorem chooseS_neg {n k : Int} (h : k < 0) : chooseS n k = 0 := by unfold chooseS; rw [if_pos h]
theorem chooseS_pos {n k : Int} (h : ¬ k < 0) : chooseS n k = (List.foldl (fun (σ : Int × Unit) k => ((σ.1 * (n - k)).fdiv (k + 1), ())) (1, ()) (rangeInts 0 1 (k - 0).toNat)).1 := by unfold chooseS; rw [if_neg h]
theorem c_choose {w : World} (news : List (Addr × Obj)) (n k : Int) (tn tk : Tok) (hn : 0 ≤ n ∧ n ≤ 4) (hk : -1000 ≤ k ∧ k ≤ 1000) :
    Ctr w 115 2 30 news [.int n tn, .int k tk] (fun v tl => tl = [] ∧ ∃ t, v = .int (chooseS n k) t) := by
  unfold Ctr
  w_top off
  k_fill
  intros; rename_i hret
  refine wpAny_call ?_
  k_dflt cell_enter
  k_steps
  · exact hret _ [] _ _ ⟨rfl, _, congrArg (fun z => Value.int z _) (chooseS_neg (by assumption)).symm⟩ (fun _ _ _ h => nomatch h) (by k_asm) (by k_asm)
  · exact hret _ [] _ _ ⟨rfl, _, congrArg (fun z => Value.int z _) (chooseS_pos (by assumption)).symm⟩ (fun _ _ _ h => nomatch h) (by k_asm) (by k_asm)
local macro_rules | `(tactic| walk_at "call ref") => `(tactic| (k_here; (with_reducible show wpAny _ _ (call (Value.ref 115) [Value.int _ _, Value.int _ _]) _ _ _); k_dflt (refine' Ctr.use (c_choose _ _ _ _ _ ?ha ?hb) ?k1 ?k2 ?k3 ?k4 ?k5 ?kK ?kd ?ku ?_; (case k1 => k_asm); (case k2 => k_asm); (case k3 => k_asm); (case k4 => k_asm); (case k5 => k_asm); (case kK => first | exact rfl | assumption); (case kd => ktr_room); (case ku => ktr_units); (case ha => l_fact); (case hb => constructor <;> l_fact); k_whole); (rintro v' tl' h' tk' ⟨ht', t9, hv'⟩ - F' N'); subst hv' ht'; (try dsimp only [List.nil_append] at N'); (try k_fold)))
theorem ballotsS_odd {n k : Int} (h : (n - k).fmod 2 = 1) : ballotsS n k = 0 := by unfold ballotsS; rw [if_pos h]
theorem ballotsS_even {n k : Int} (h : (n - k).fmod 2 ≠ 1) : ballotsS n k = chooseS n ((n - k).fdiv 2) - chooseS n ((n - k).fdiv 2 - 1) := by unfold ballotsS; rw [if_neg h]
theorem c_ballots {w : World} (news : List (Addr × Obj)) (n k : Int) (tn tk : Tok) (hn : 0 ≤ n ∧ n ≤ 4) (hk : 0 ≤ k ∧ k ≤ 100) :
    Ctr w 122 3 40 news [.int n tn, .int k tk] (fun v tl => tl = [] ∧ ∃ t, v = .int (ballotsS n k) t) := by
  unfold Ctr
  w_top off
  k_fill
  intros; rename_i hret
  refine wpAny_call ?_
  k_dflt cell_enter
  k_steps
  · exact hret _ [] _ _ ⟨rfl, _, congrArg (fun z => Value.int z _) (ballotsS_odd (by assumption)).symm⟩ (fun _ _ _ h => nomatch h) (by k_asm) (by k_asm)
  · exact hret _ [] _ _ ⟨rfl, _, congrArg (fun z => Value.int z _) (ballotsS_even (by assumption)).symm⟩ (fun _ _ _ h => nomatch h) (by k_asm) (by k_asm)
end
section
local macro_rules | `(tactic| walk_at "call ref") => `(tactic| (k_here; k_dflt (refine wpAny_call ?_; (refine' code_def ?k1 ?k2 ?k3 ?k4 ?k5 ?kA ?kF ?kK ?k6 ?k7 ?k8 ?k9 ?kB ?_ ?c2 ?c3 ?c4 ?c5; (case kA => exact rfl); (case kF => exact rfl); (case kK => first | exact rfl | assumption); (case k1 => k_asm); (case k2 => k_asm); (case k3 => k_asm); (case k4 => k_asm); (case k5 => k_asm); (case k6 => k_is); (case k7 => k_is); (case k8 => ktr_room); (case k9 => exact BindsTo.of_eq rfl); (case c5 => decide); (case kB => exact locs rfl); (case c2 => exact rfl); (case c3 => exact rfl); (case c4 => exact rfl); k_whole; intro g' L' h' FG' F' N' B' X' T'; (try dsimp only); (try k_lift B'); (try k_fold)))))
local macro_rules | `(tactic| k_mem) => `(tactic| assumption)
local macro_rules | `(tactic| walk_at "call builtin:len") => `(tactic| (k_here; (with_reducible show wpAny _ _ (call (Value.builtin _) [Value.ref _]) _ _ _); (refine' len_vals ?k1 ?k2 ?k3 ?k4 ?_; (case k1 => k_asm); (case k2 => k_dflt k_mem); (case k3 => assumption); (case k4 => omega); k_whole)))
local macro_rules | `(tactic| walk_at "subscriptTail") => `(tactic| (k_here; (with_reducible show wpAny _ _ (subscriptTail _ _ (Value.ref _) (Value.int (Int.fmod _ 4) _)) _ _ _); (with_unfolding_all refine' KTb.item_tup ?k1 ?k2 ?k3 ?k4 ?k5 ?_; (case k1 => k_dflt (exact News.isTup (by k_asm) (by k_mem))); (case k2 => repeat constructor); (case k3 => exact fmod_lo _ (by decide)); (case k4 => exact fmod_hi _ (by decide)); (case k5 => exact Int.lt_trans (fmod_hi _ (by decide)) (by decide)); k_whole); intro _ _))
local macro_rules | `(tactic| walk_at "subscriptTail Name Name ref int") => `(tactic| (k_here; (with_reducible show wpAny _ _ (subscriptTail _ _ (Value.ref _) (Value.int _ _)) _ _ _); (with_unfolding_all refine' item_names ?k1 ?k2 ?k3 ?k4 ?k5 ?k6 ?k7 ?_; (case k1 => k_asm); (case k2 => k_dflt k_mem); (case k3 => assumption); (case k4 => assumption); (case k5 => omega); (case k6 => omega); (case k7 => omega); k_whole); intro _ _))
local macro_rules | `(tactic| walk_at "subscriptTail Name Name ref int") => `(tactic| (k_here; (with_reducible show wpAny _ _ (subscriptTail _ _ (Value.ref _) (Value.int _ _)) _ _ _); (with_unfolding_all refine' item_nums ?k1 ?k2 ?k3 ?k4 ?k5 ?k6 ?_; (case k1 => k_asm); (case k2 => k_dflt k_mem); (case k3 => assumption); (case k4 => omega); (case k5 => omega); (case k6 => omega); k_whole); intro _))
local macro_rules | `(tactic| walk_at "call builtin:list.append") => `(tactic| (k_here; (with_reducible show wpAny _ _ (call (Value.builtin _) [Value.ref _, Value.str _ _]) _ _ _); (refine' append_stk ?k1 (dropN ?k2 ?k5) ?k3 ?k4 ?_; (case k1 => k_asm); (case k3 => assumption); (case k2 => k_asm); (case k5 => exact fun p hp => by (first | exact hp | exact .tail _ hp)); (case k4 => omega); k_whole); intro h' F' N'))
local macro_rules | `(tactic| walk_at "call builtin:str.join") => `(tactic| (k_here; (with_reducible show wpAny _ _ (call (Value.builtin _) [Value.str _ _, Value.ref _]) _ _ _); (refine' join_stk ?k1 ?k2 ?k3 ?k4 ?_; (case k1 => k_asm); (case k2 => k_dflt k_mem); (case k3 => rfl); (case k4 => assumption); k_whole); intro _ _))
local macro_rules | `(tactic| walk_at "pyIter ref") => `(tactic| ((with_reducible show wpAny _ _ (pyIter (Value.ref _)) _ _ _); refine Hold.out ?_))
def leadS (x : Int) : Str := [Str.ofString "", Str.ofString "./", Str.ofString ".//", Str.ofString "././"].getD ((x.fdiv 16).fmod 4).toNat Str.empty
def partW (ns : List Int) (nms : List Str) (ch : Int) (k : Nat) : Str :=
  leadS (ns.getD k 0) ++ (if (ch.fdiv (2 ^ k)).fmod 2 = 1 then nms.getD k Str.empty else Str.ofString "..")
def walkS (ns : List Int) (nms : List Str) (ch : Int) : Str := Txt.join (Str.ofString "/") ((List.range nms.length).map (partW ns nms ch))
theorem lead_len (x : Int) : (leadS x).length ≤ 4 := by
  unfold leadS
  generalize ((x.fdiv 16).fmod 4).toNat = j
  rcases j with _ | _ | _ | _ | j
  · decide
  · decide
  · decide
  · decide
  · exact Nat.zero_le _
theorem part_len {ns : List Int} {nms : List Str} {ch : Int} (hB : ∀ a ∈ nms, a.length ≤ 100) (k : Nat) : (partW ns nms ch k).length ≤ 200 := by
  unfold partW
  rw [Str.length_append]
  have h1 := lead_len (ns.getD k 0)
  split
  · have h2 := getD_len hB k; omega
  · have h2 : (Str.ofString "..").length = 2 := rfl
    omega
theorem parts_light {ns : List Int} {nms : List Str} {ch : Int} {n : Nat} {stk : List (Str × Tok)} (hB : ∀ a ∈ nms, a.length ≤ 100) (hn : n ≤ 4) (hs : stk.map (·.1) = (List.range n).map (partW ns nms ch)) : stk.length ≤ 1002 ∧ ((stk.map (·.1)).map (·.length)).sum ≤ 1002000 := by
  have h1 : stk.length = n := by have := congrArg List.length hs; simpa using this
  have h2 := sum_le (l := stk.map (·.1)) (B := 200) fun a ha => by
    rw [hs] at ha
    obtain ⟨k, _, rfl⟩ := List.mem_map.mp ha
    exact part_len hB k
  rw [List.length_map, h1] at h2
  omega
theorem part_a {ns : List Int} {nms : List Str} {ch : Int} {i : Nat} (h : (ch.fdiv (2 ^ (i : Int).toNat)).fmod 2 = 1) : [Str.ofString "", Str.ofString "./", Str.ofString ".//", Str.ofString "././"].getD (((ns.getD (i : Int).toNat 0).fdiv 16).fmod 4).toNat Str.empty ++ nms.getD (i : Int).toNat Str.empty = partW ns nms ch i := by
  rw [Int.toNat_natCast] at h ⊢
  unfold partW leadS; rw [if_pos h]
theorem part_b {ns : List Int} {nms : List Str} {ch : Int} {i : Nat} (h : (ch.fdiv (2 ^ (i : Int).toNat)).fmod 2 ≠ 1) : [Str.ofString "", Str.ofString "./", Str.ofString ".//", Str.ofString "././"].getD (((ns.getD (i : Int).toNat 0).fdiv 16).fmod 4).toNat Str.empty ++ Str.ofString ".." = partW ns nms ch i := by
  rw [Int.toNat_natCast] at h ⊢
  unfold partW leadS; rw [if_neg h]
theorem grow_a {stk : List (Str × Tok)} {g : Nat → Str} {i : Nat} {c : Str} {t : Tok} (hs : stk.map (·.1) = (List.range i).map g) (e : c = g i) : (stk ++ [(c, t)]).map (·.1) = (List.range i).map g ++ [g i] := by
  rw [List.map_append, hs, e]; rfl
theorem c_walk {w : World} (news : List (Addr × Obj)) (la ln : Addr) (va vn : List Value) (na nn : Nat) (ns : List Int) (nms : List Str) (ch : Int) (tc : Tok)
    (ha : (la, listOf va.toArray na) ∈ news) (hn : (ln, listOf vn.toArray nn) ∈ news) (hi : IntsAre va ns) (hs : StrsAre vn nms) (hl : ns.length = nms.length) (hl4 : Hold (nms.length ≤ 4)) (hB : ∀ a ∈ nms, a.length ≤ 100) (hc : 0 ≤ ch ∧ ch ≤ 16) :
    Ctr w 136 2 30 news [.ref la, .ref ln, .int ch tc] (fun v tl => tl = [] ∧ ∃ t, v = .str (walkS ns nms ch) t) := by
  unfold Ctr
  w_top off
  k_fill
  have hlv : vn.length = nms.length := hs.length
  have hl1 : nms.length ≤ 1000 := Nat.le_trans hl4.out (by decide)
  intros; rename_i hret
  refine wpAny_call ?_
  k_dflt cell_enter
  k_steps
  refine Hold.mk ?_
  (rename Fr _ _ _ _ => lF'); (rename News _ _ _ _ => lN')
  refine' grow_loop (Str.ofString "lead") (partW ns nms ch) rfl (by assumption) (by omega) (by omega) lF' lN' (by assumption) ?turn ?done
  case turn =>
    intro i' t' stk' n' h' tk' own' u' hi' hlen' hne' hs' F' N'
    k_fold
    clear lF' lN'
    have hi4 : i' < 4 := by have := hl4.out; omega
    have hin : i' < nms.length := by omega
    have ha' := List.mem_append_left own' ha
    have hn' := List.mem_append_left own' hn
    k_steps
    all_goals dsimp only [GrowPost]
    all_goals refine GrowEnd.intro (by k_asm) (by k_asm) (by intro z h1 h2; simp [h1, h2]) (fun _ h => h) ?_
    · exact grow_a hs' (part_a (by assumption))
    · exact grow_a hs' (part_b (by assumption))
  case done =>
    intro stk' n' u' v' h' tk' hs' F' N'
    rw [Int.toNat_natCast] at hs'
    have hlight := parts_light hB hl4.out hs'
    clear lF' lN'
    k_steps
    exact hret _ [] _ _ ⟨rfl, _, congrArg (fun z => Value.str (Txt.join _ z) _) hs'⟩ (fun _ _ _ h => nomatch h) (by k_asm) (dropN (by assumption) (fun p hp => .tail _ hp))
end
section
def textF (top : Str) (nms : List Str) (κ up : Nat) : Str :=
  top ++ Txt.join (Str.ofString "/") (List.replicate up (Str.ofString "..") ++ (placesF κ nms.length).map fun k => nms.getD k.toNat Str.empty)
def aheadF (κ n : Nat) : Int := if 0 < (placesF κ n).length then (placesF κ n).getD 0 0 else (n : Int)
def cntF (as : List Str) (x : Str) : Int := PySem.Spec.countIn (.str x) (as.map PyData.str)
def Told (as : List Str) (top : Str) (nms : List Str) : Prop :=
  ∀ κ up : Nat, κ < 2 ^ nms.length → up < (if top.length = 0 then (aheadF κ nms.length + 1).toNat else 1) →
    cntF as (if (textF top nms κ up).length = 0 then Str.ofString "." else textF top nms κ up) =
      (if top.length = 0 then ballotsS (aheadF κ nms.length) up else chooseS (aheadF κ nms.length) ((aheadF κ nms.length).fdiv 2)) * worthF κ nms.length (placesF κ nms.length).length
section
variable {as : List Str} {top : Str} {nms : List Str} {κ up : Nat}
theorem text_top (ht : (top.length : Int) ≠ 0) : ¬ ((textF top nms κ up).length : Int) = 0 := by
  unfold textF; rw [Str.length_append]; omega
theorem told_top (H : Told as top nms) (hk : κ < 2 ^ nms.length) (ht : (top.length : Int) ≠ 0) (hup : up < Int.toNat 1) {X : Int} (hX : aheadF κ nms.length = X) :
    cntF as (textF top nms κ up) = chooseS X (X.fdiv 2) * worthF κ nms.length (((placesF κ nms.length).length : Int).toNat) := by
  have h1 : ¬ top.length = 0 := by omega
  have h2 : ¬ (textF top nms κ up).length = 0 := by have := text_top (nms := nms) (κ := κ) (up := up) ht; omega
  have h := H κ up hk (by rw [if_neg h1]; exact hup)
  rw [if_neg h1, if_neg h2, hX] at h
  rw [Int.toNat_natCast]; exact h
theorem told_free (H : Told as top nms) (hk : κ < 2 ^ nms.length) (ht : (top.length : Int) = 0) {X : Int} (hX : aheadF κ nms.length = X) (hup : up < (X + 1).toNat) (hx : ((textF top nms κ up).length : Int) ≠ 0) :
    cntF as (textF top nms κ up) = ballotsS X up * worthF κ nms.length (((placesF κ nms.length).length : Int).toNat) := by
  have h1 : top.length = 0 := by omega
  have h2 : ¬ (textF top nms κ up).length = 0 := by omega
  have h := H κ up hk (by rw [if_pos h1, hX]; exact hup)
  rw [if_pos h1, if_neg h2, hX] at h
  rw [Int.toNat_natCast]; exact h
theorem told_dot (H : Told as top nms) (hk : κ < 2 ^ nms.length) (ht : (top.length : Int) = 0) {X : Int} (hX : aheadF κ nms.length = X) (hup : up < (X + 1).toNat) (hx : ((textF top nms κ up).length : Int) = 0) :
    cntF as (Str.ofString ".") = ballotsS X up * worthF κ nms.length (((placesF κ nms.length).length : Int).toNat) := by
  have h1 : top.length = 0 := by omega
  have h2 : (textF top nms κ up).length = 0 := by omega
  have h := H κ up hk (by rw [if_pos h1, hX]; exact hup)
  rw [if_pos h1, if_pos h2, hX] at h
  rw [Int.toNat_natCast]; exact h
theorem ahead_a {n : Nat} (h : 0 < (placesF κ n).length) : aheadF κ n = (placesF κ n).getD (Int.toNat 0) 0 := by unfold aheadF; rw [if_pos h]; rfl
theorem ahead_b {n : Nat} (h : ¬ 0 < (placesF κ n).length) : aheadF κ n = (n : Int) := by unfold aheadF; rw [if_neg h]
end
theorem not_in2 {a b z : Str} (h : [a, b].contains z = false) : z ≠ a ∧ z ≠ b := by
  constructor <;> (intro e; rw [e] at h; simp at h)
theorem in2 {a b z : Str} (h1 : z ≠ a) (h2 : z ≠ b) : [a, b].contains z = false := by simp [h1, h2]
theorem not_in8 {a b c d e f g h z : Str} (hz : [a, b, c, d, e, f, g, h].contains z = false) : z ≠ a ∧ z ≠ b ∧ z ≠ c ∧ z ≠ d ∧ z ≠ e ∧ z ≠ f ∧ z ≠ g ∧ z ≠ h := by
  refine ⟨?_, ?_, ?_, ?_, ?_, ?_, ?_, ?_⟩ <;> (intro q; rw [q] at hz; simp at hz)
theorem fdiv2_04 {x : Int} (h : 0 ≤ x ∧ x ≤ 4) : 0 ≤ x.fdiv 2 ∧ x.fdiv 2 ≤ 4 := by
  rw [Int.fdiv_eq_ediv_of_nonneg _ (by decide)]; omega
end
section
local macro_rules | `(tactic| walk_at "call ref") => `(tactic| (k_here; k_dflt (refine wpAny_call ?_; first
  | (refine' code_def ?k1 ?k2 ?k3 ?k4 ?k5 ?kA ?kF ?kK ?k6 ?k7 ?k8 ?k9 ?kB ?_ ?c2 ?c3 ?c4 ?c5; (case kA => exact rfl); (case kF => exact rfl); (case kK => first | exact rfl | assumption); (case k1 => k_asm); (case k2 => k_asm); (case k3 => k_asm); (case k4 => k_asm); (case k5 => k_asm); (case k6 => k_is); (case k7 => k_is); (case k8 => ktr_room); (case k9 => exact BindsTo.of_eq rfl); (case c5 => decide); (case kB => exact locs rfl); (case c2 => exact rfl); (case c3 => exact rfl); (case c4 => exact rfl); k_whole; intro g' L' h' FG' F' N' B' X' T'; (try dsimp only); (try k_lift B'); (try k_fold))
  | (refine' code_defC ?k1 ?k2 ?k3 ?k4 ?k5 ?kA ?kF ?kK ?k6 ?k7 ?k8 ?k9 ?kB ?kD ?_ ?c2 ?c3 ?c4; (case kA => exact rfl); (case kF => exact rfl); (case kK => first | exact rfl | assumption); (case k1 => k_asm); (case k2 => k_asm); (case k3 => k_asm); (case k4 => k_asm); (case k5 => k_asm); (case k6 => k_is); (case k7 => k_is); (case k8 => ktr_room); (case k9 => exact BindsTo.of_eq rfl); (case kB => exact rfl); (case kD => decide +kernel); (case c2 => exact rfl); (case c3 => exact rfl); (case c4 => exact rfl); k_whole; intro g' L' h' tk' cells' FG' F' N' Y' B' X' T' l1; (try k_lt l1); k_cells Y'; (try simp only [List.cons_append, List.nil_append] at N'); (try dsimp only); (try k_lift B'); (try k_fold)))))
local macro_rules | `(tactic| k_all) => `(tactic| assumption)
local macro_rules | `(tactic| walk_at "call builtin:len") => `(tactic| (k_here; (with_reducible show wpAny _ _ (call (Value.builtin _) [Value.ref _]) _ _ _); (refine' len_base ?k1 ?k2 ?k3 ?k4 ?_; (case k1 => k_asm); (case k2 => with_reducible assumption); (case k3 => assumption); (case k4 => omega); k_whole)))
local macro_rules | `(tactic| walk_at "subscriptTail Name Name ref int") => `(tactic| (k_here; (with_reducible show wpAny _ _ (subscriptTail _ _ (Value.ref _) (Value.int _ _)) _ _ _); first
  | ((with_reducible show wpAny _ _ (subscriptTail _ _ (Value.ref _) (Value.int (Nat.cast _) _)) _ _ _); with_unfolding_all refine' item_nums_n ?k1 ?k2 ?k3 ?k4 ?k5 ?_; (case k1 => k_asm); (case k2 => k_dflt k_mem); (case k3 => assumption); (case k4 => omega); (case k5 => omega); k_whole; intro _)
  | (with_unfolding_all refine' item_names_b ?k1 ?k2 ?k3 ?k4 ?k5 ?k6 ?_; (case k1 => k_asm); (case k2 => with_reducible assumption); (case k3 => with_reducible assumption); (case k4 => with_reducible assumption); (case k6 => with_reducible assumption); (case k5 => with_reducible assumption); k_whole; intro _ hq9; clear hq9)))
local macro_rules | `(tactic| walk_at "binaryOp Mult ref int") => `(tactic| (k_here; (refine' mul_dots ?k1 ?k2 ?k3 ?k4 ?_; (case k1 => k_asm); (case k2 => k_asm); (case k3 => k_dflt k_mem); (case k4 => omega); k_whole); intro D' h' F' N' l1; (try k_lt l1)))
local macro_rules | `(tactic| walk_at "call builtin:list.count") => `(tactic| (k_here; (refine' count_base ?k1 ?k2 ?k3 ?_; (case k1 => k_asm); (case k2 => with_reducible assumption); (case k3 => with_reducible assumption); k_whole)))
local macro_rules | `(tactic| walk_at "binaryOp Mult ref int") => `(tactic| (k_here; (refine' mul_dots ?k1 ?k2 ?k3 ?k4 ?_; (case k1 => k_asm); (case k2 => k_asm); (case k3 => k_dflt k_mem); (case k4 => omega); k_whole); intro D' h' vs' hs' F' N' l1; (try k_lt l1)))
local macro_rules | `(tactic| walk_at "eval ListComp") => `(tactic| (k_here; k_dflt (refine LCg.ListComp_U (F₀ := by k_asm) (by with_unfolding_all rfl) (by decide) (by rfl) (by decide) (by rfl) ?_)))
local macro_rules | `(tactic| walk_at "CompSrc") => `(tactic| (k_here; k_dflt (refine LCg.CompSrc.ledger (by rfl) (by k_asm) (by k_asm) (by k_mem) (by rw [PySem.sizeLine_eq, List.size_toArray]; omega) ?_; intro g'; (refine' kct_list _ (by with_reducible assumption) (fun k' t' I' oI' C' oC' D' m' ys' h' tk' E' hk' hC' hx' F' N' off' ne' hMark' => ?_) ?_); (all_goals (try (simp only [LCg.Off3, and_true] at off'))); kcf_last)))
local macro_rules | `(tactic| walk_at "binaryOp Add ref ref") => `(tactic| (k_here; (refine' add_texts ?k1 ?k2 ?k3 ?k4 ?k5 ?k6 ?k7 ?k8 ?_; (case k1 => k_asm); (case k2 => k_asm); (case k3 => k_dflt k_mem); (case k4 => k_dflt k_mem); (case k5 => with_reducible assumption); (case k6 => with_reducible assumption); (case k7 => ((rename StrsAre _ (List.replicate _ _) => hsR); (have hlR := StrsAre.length hsR); (simp only [List.length_replicate] at hlR); omega)); (case k8 => omega); k_whole); intro D' h' vs' hs' F' N' l1; (try k_lt l1)))
local macro_rules | `(tactic| walk_at "call builtin:str.join") => `(tactic| (k_here; (with_reducible show wpAny _ _ (call (Value.builtin _) [Value.str _ _, Value.ref _]) _ _ _); (refine' join_texts ?k1 ?k2 ?k3 ?k4 ?k5 ?_; (case k1 => k_asm); (case k2 => k_dflt k_mem); (case k3 => with_reducible assumption); (case k4 => rfl); (case k5 => exact text_light (by omega) (by decide) (by assumption) (by assumption)); k_whole); intro _ _ _))
theorem mul1000 {a b : Int} (h : -1000 ≤ a ∧ a ≤ 1000) : IntMulOk a b := IntMulOk.of_left (intBits_le_64 (by omega) (by omega))
local macro_rules | `(tactic| walk_at "binaryOp Mult int int") => `(tactic| (k_here; (refine mul_int (hm := mul1000 (by with_reducible assumption)) ?_)))
local macro_rules | `(tactic| walk_at "inplaceOp Mult int int") => `(tactic| (k_here; (refine imul_int (hm := mul1000 (by with_reducible assumption)) ?_)))
local macro_rules | `(tactic| walk_at "getMethod ref") => `(tactic| (k_here; (refine' count_meth ?k1 ?k2 ?_; (case k1 => k_asm); (case k2 => with_reducible assumption); k_whole)))
local macro_rules | `(tactic| walk_at "call ref") => `(tactic| (k_here; (with_reducible show wpAny _ _ (call (Value.ref 115) [Value.int _ _, Value.int _ _]) _ _ _); k_dflt (refine' Ctr.use (c_choose _ _ _ _ _ ?ha ?hb) ?k1 ?k2 ?k3 ?k4 ?k5 ?kK ?kd ?ku ?_; (case k1 => k_asm); (case k2 => k_asm); (case k3 => k_asm); (case k4 => k_asm); (case k5 => k_asm); (case kK => first | exact rfl | assumption); (case kd => ktr_room); (case ku => ktr_units); (case ha => first | with_reducible assumption | (constructor <;> omega) | (constructor <;> l_fact)); (case hb => first | exact fdiv2_bd (by with_reducible assumption) | (constructor <;> omega) | (constructor <;> l_fact)); k_whole); (rintro v' tl' h' tk' ⟨ht', t9, hv'⟩ - F' N'); subst hv' ht'; (try dsimp only [List.nil_append] at N'); (try k_fold)))
local macro_rules | `(tactic| walk_at "call ref") => `(tactic| (k_here; (with_reducible show wpAny _ _ (call (Value.ref 122) [Value.int _ _, Value.int _ _]) _ _ _); k_dflt (refine' Ctr.use (c_ballots _ _ _ _ _ ?ha ?hb) ?k1 ?k2 ?k3 ?k4 ?k5 ?kK ?kd ?ku ?_; (case k1 => k_asm); (case k2 => k_asm); (case k3 => k_asm); (case k4 => k_asm); (case k5 => k_asm); (case kK => first | exact rfl | assumption); (case kd => ktr_room); (case ku => ktr_units); (case ha => first | with_reducible assumption | (constructor <;> omega) | (constructor <;> l_fact)); (case hb => first | (constructor <;> omega) | (constructor <;> l_fact)); k_whole); (rintro v' tl' h' tk' ⟨ht', t9, hv'⟩ - F' N'); subst hv' ht'; (try dsimp only [List.nil_append] at N'); (try k_fold)))
local macro_rules | `(tactic| walk_at "exec For Name Call cons nil") => `(tactic| (k_here; (rename Fr _ _ _ _ => lF'); first
  | (with_unfolding_all refine' For_invVF lF' ?k1 ?k2 ?_; (case k1 => exact rfl); (case k2 => exact rfl); k_whole)
  | (with_unfolding_all refine' For_turns lF' ?_; k_whole)))
local macro_rules | `(tactic| walk_at "CompEnd") => `(tactic| (refine comp_end (by k_asm) (by assumption) (by assumption) (by first | exact True.intro | lcg_src | assumption) ?_))
local macro_rules | `(tactic| walk_at "pyIter ref") => `(tactic| ((with_reducible show wpAny _ _ (pyIter (Value.ref _)) _ _ _); refine Hold.out ?_))
theorem c_told {w : World} (news : List (Addr × Obj)) (la ln : Addr) (va vn : List Value) (na nn : Nat) (as nms : List Str) (top : Str) (tt : Tok)
    (ha : (la, listOf va.toArray na) ∈ news) (hn : (ln, listOf vn.toArray nn) ∈ news) (hi : StrsAre va as) (hs : StrsAre vn nms) (hl4 : Hold (nms.length ≤ 4)) (hB : ∀ a ∈ nms, a.length ≤ 100) (ht : top.length ≤ 2) (H : Told as top nms) :
    Ctr w 141 4 50 news [.ref la, .str top tt, .ref ln] (fun v tl => tl = [] ∧ v = .bool true) := by
  unfold Ctr
  w_top off
  k_fill
  have hlv : vn.length = nms.length := hs.length
  have hl1 : nms.length ≤ 1000 := Nat.le_trans hl4.out (by decide)
  intros; rename_i hret
  walk_at "call ref"
  (rename Fr _ _ _ _ => F9); (rename News _ _ _ _ => N9); (rename Frag.In _ _ => X9); (rename Top _ _ _ _ _ _ => T9); (rename Below _ _ _ _ => B9)
  refine ground (fun fl => fl = .ret (.bool true)) F9 (cells := [(_, _), (_, _)]) N9 (fun p hp => (List.mem_cons.mp hp).elim (fun e => e ▸ Nat.le_add_right _ 2) fun e => List.mem_singleton.mp e ▸ Nat.le_add_right _ 1) (by assumption) ?_ ?_
  case refine_2 =>
    intro fl h' tk m' hP F N
    subst hP
    exact leaveK_ F N (fun kF kN => hret _ [] _ _ ⟨rfl, rfl⟩ (fun _ _ _ h => nomatch h) kF kN)
  intro G FG NG hsub hnew
  have XG := Frag.In.keeps X9 hsub
  have TG := Top.keeps T9 hsub
  have BG : Below _ _ _ G := ⟨B9.stack, fun b o e => hsub _ _ (B9.stays b o e), B9.frames.of_keeps fun b o e _ => ⟨o, hsub _ _ e, rfl⟩⟩
  have hGa := hnew _ ha
  have hLa : G.IsList la va.toArray := ⟨_, hnew _ ha, rfl, na, rfl⟩
  have hLn : G.IsList ln vn.toArray := ⟨_, hnew _ hn, rfl, nn, rfl⟩
  clear B9 T9 X9 F9 N9 hnew hsub hret ha hn
  k_steps
  refine Hold.mk ?_
  (rename Fr _ _ _ _ => lF'); (rename News _ _ _ _ => lN')
  have hp16 := pow_bd hl4.out
  refine' cell_loop [Str.ofString "places", Str.ofString "ends", Str.ofString "worth", Str.ofString "i", Str.ofString "ahead", Str.ofString "up", Str.ofString "text", Str.ofString "ways"] rfl (by assumption) hp16.2 (by omega) lF' lN' (by assumption) ?hne ?turn ?done
  case hne => intro p hp; rw [List.mem_singleton.mp hp]; exact Nat.ne_of_lt (Nat.lt_succ_self _)
  case turn =>
    intro i' t' h' tk' own' u' o9' c9' hi' hne' hc' F' N'
    (try k_fold)
    clear lF' lN'
    simp only [List.cons_append, List.nil_append] at N' hne'
    have hik : i' < 2 ^ nms.length := by rw [← pow_nat]; exact hi'
    have ok := OkF.of hl4.out hik
    k_steps
    refine Hold.mk ?_
    (rename Fr _ _ _ _ => lF'); (rename News _ _ _ _ => lN')
    have h4 := ok.len4
    have h5 := ok.lenE
    refine' acc_loop (Str.ofString "worth") (worthF i' nms.length) rfl (by assumption) (by omega) (by unfold placesF at h4; omega) lF' lN' rfl ?turn2 ?done2
    case turn2 =>
      intro i2 t2 ta2 h2 tk2 own2 hi2 F' N'
      k_fold
      clear lF' lN'
      simp only [List.cons_append] at N'
      have hg := (ok.gap i2 (by unfold placesF; omega))
      unfold gapF endsF placesF at hg
      unfold endsF placesF at h5
      k_steps
      dsimp only [AccPost]
      exact AccEnd.intro (by k_asm) (by k_asm) rfl (by intro z h1 h2; simp [h1, h2]) (fun _ h => h)
    case done2 =>
      intro h2 tk2 u2 ta2 F' N'
      clear lF' lN'
      have hw := ok.worth
      have hm := ok.mem
      unfold placesF at h4 hm
      k_steps
      all_goals refine Hold.mk ?_
      all_goals ((rename Fr _ _ _ _ => lF'); (rename News _ _ _ _ => lN'))
      all_goals (have hah := getD_bd hm (Int.toNat 0))
      all_goals (have h44 := hl4.out)
      all_goals (have hn4 : 0 ≤ (nms.length : Int) ∧ (nms.length : Int) ≤ 4 := ⟨by omega, by omega⟩)
      all_goals (
        refine free_loop [Str.ofString "text", Str.ofString "ways"] rfl (by assumption) (by omega) (by omega) lF' lN' ?_ ?_
        · intro i3 t3 h3 tk3 own3 u3 hi3 F' N'
          k_fold
          clear lF' lN'
          simp only [List.cons_append] at N'
          have hi34 : i3 ≤ 4 := by omega
          have hgl : ∀ k : Int, (nms.getD k.toNat Str.empty).length ≤ 100 := fun k => getD_len hB k.toNat
          have hyl := IntsAre.length (by assumption : IntsAre _ (List.foldl _ _ _))
          have hcb := (choose_bd hah (fdiv2_04 hah)).1
          have hcn := (choose_bd hn4 (fdiv2_04 hn4)).1
          have hbb := (choose_bd (k := (i3 : Int)) hah ⟨by omega, by omega⟩).2
          have hbn := (choose_bd (k := (i3 : Int)) hn4 ⟨by omega, by omega⟩).2
          k_steps
          all_goals (try dsimp only)
          all_goals (try (k_unfold; dsimp only))
          all_goals first
            | (dsimp only [FreePost]
               refine FreeEnd.intro (by k_asm) (by k_asm) ?_ (by intro p hp; repeat (first | exact hp | refine List.mem_cons_of_mem _ ?_))
               intro z h1 h2
               obtain ⟨h3, h4⟩ := not_in2 h2
               simp only [if_neg h1, if_neg h3, if_neg h4, h2, Bool.false_eq_true, if_false])
            | (exact absurd (show (top.length : Int) = 0 by with_reducible assumption) (show ¬ (top.length : Int) = 0 by with_reducible assumption))
            | (exfalso; exact absurd (told_top H hik (by assumption) (by assumption) (ahead_a (by assumption))) (by assumption))
            | (exfalso; exact absurd (told_top H hik (by assumption) (by assumption) (ahead_b (by assumption))) (by assumption))
            | (rename _ ≠ ballotsS _ _ * worthF _ _ _ => hc; exact (hc (told_free H hik (by assumption) (ahead_a (by assumption)) hi3 (by assumption))).elim)
            | (rename _ ≠ ballotsS _ _ * worthF _ _ _ => hc; exact (hc (told_free H hik (by assumption) (ahead_b (by assumption)) hi3 (by assumption))).elim)
            | (rename _ ≠ ballotsS _ _ * worthF _ _ _ => hc; exact (hc (told_dot H hik (by assumption) (ahead_a (by assumption)) hi3 (by assumption))).elim)
            | (rename _ ≠ ballotsS _ _ * worthF _ _ _ => hc; exact (hc (told_dot H hik (by assumption) (ahead_b (by assumption)) hi3 (by assumption))).elim)
            | (exfalso; exact text_top (nms := nms) (κ := i') (up := i3) (by assumption) (by assumption))
        · intro h3 tk3 u3 v3 F' N'
          clear lF' lN'
          k_steps
          dsimp only [CellPost]
          refine CellEnd.intro (by k_asm) (by k_asm) ?_ (by intro p hp; repeat (first | exact hp | refine List.mem_cons_of_mem _ ?_)) (by assumption)
          intro z hz
          obtain ⟨z1, z2, z3, z4, z5, z6, z7, z8⟩ := not_in8 hz
          simp only [if_neg z1, if_neg z2, if_neg z3, if_neg z4, if_neg z5, if_neg z6, in2 z7 z8, hz, Bool.false_eq_true, if_false])
  case done =>
    intro h' tk' u' o9' c9' hc' F' N'
    clear lF' lN'
    k_steps
    exact PureEnd.intro (by k_asm) rfl
end
section
def sl : Str := Str.ofString "/"
theorem sl_eq : sl = ⟨#[47]⟩ := by decide +kernel
def cat (ps : List Str) : List Nat := ps.flatMap fun p => 47 :: p.cps.toList
theorem cat_nil : cat [] = [] := rfl
theorem cat_cons (p : Str) (ps : List Str) : cat (p :: ps) = 47 :: (p.cps.toList ++ cat ps) := rfl
theorem cat_app (a b : List Str) : cat (a ++ b) = cat a ++ cat b := by simp [cat]
theorem Str.toList_app (a b : Str) : (a ++ b).cps.toList = a.cps.toList ++ b.cps.toList := by
  show (a.cps ++ b.cps).toList = _
  simp
theorem join_cat : ∀ {ps : List Str}, ps ≠ [] → 47 :: (Str.join sl ps).cps.toList = cat ps
  | [], h => absurd rfl h
  | [x], _ => by simp [Str.join, cat]
  | x :: y :: r, _ => by
    have ih := join_cat (ps := y :: r) (by simp)
    show 47 :: (x ++ sl ++ Str.join sl (y :: r)).cps.toList = _
    rw [cat_cons, ← ih, Str.toList_app, Str.toList_app, sl_eq]
    simp
theorem tjoin_cat {ps : List Str} (h : ps ≠ []) : 47 :: (Txt.join sl ps).cps.toList = cat ps := by
  show 47 :: (Builtin.Str.glued sl ps).cps.toList = _
  rw [StrLaws.glued_eq_join]; exact join_cat h
def NoSl (p : Str) : Prop := 47 ∉ p.cps.toList
theorem cut_at : ∀ {p q a b : List Nat}, 47 ∉ p → 47 ∉ q → (a = [] ∨ a.head? = some 47) → (b = [] ∨ b.head? = some 47) → p ++ a = q ++ b → p = q ∧ a = b
  | [], [], a, b, _, _, _, _, e => ⟨rfl, e⟩
  | [], y :: q, a, b, _, hq, ha, _, e => by
    rcases ha with rfl | ha
    · simp at e
    · rw [List.nil_append] at e
      rw [e] at ha
      simp at ha
      exact absurd (by simp [ha]) hq
  | x :: p, [], a, b, hp, _, _, hb, e => by
    rcases hb with rfl | hb
    · simp at e
    · rw [List.nil_append] at e
      rw [← e] at hb
      simp at hb
      exact absurd (by simp [hb]) hp
  | x :: p, y :: q, a, b, hp, hq, ha, hb, e => by
    simp only [List.cons_append, List.cons.injEq] at e
    obtain ⟨h1, h2⟩ := cut_at (fun h => hp (List.mem_cons_of_mem _ h)) (fun h => hq (List.mem_cons_of_mem _ h)) ha hb e.2
    exact ⟨by rw [e.1, h1], h2⟩
theorem cat_head (ps : List Str) : cat ps = [] ∨ (cat ps).head? = some 47 := by
  cases ps with
  | nil => exact .inl rfl
  | cons p r => exact .inr rfl
theorem cat_inj : ∀ {ps qs : List Str}, (∀ p ∈ ps, NoSl p) → (∀ p ∈ qs, NoSl p) → cat ps = cat qs → ps = qs
  | [], [], _, _, _ => rfl
  | [], q :: qs, _, _, e => by rw [cat_cons] at e; simp [cat] at e
  | p :: ps, [], _, _, e => by rw [cat_cons] at e; simp [cat] at e
  | p :: ps, q :: qs, hp, hq, e => by
    rw [cat_cons, cat_cons] at e
    simp only [List.cons.injEq, true_and] at e
    obtain ⟨h1, h2⟩ := cut_at (hp p (List.mem_cons_self ..)) (hq q (List.mem_cons_self ..)) (cat_head ps) (cat_head qs) e
    have h3 : p = q := by
      have : p.cps = q.cps := Array.toList_inj.mp h1
      cases p; cases q; simp_all
    rw [h3, cat_inj (fun a ha => hp a (List.mem_cons_of_mem _ ha)) (fun a ha => hq a (List.mem_cons_of_mem _ ha)) h2]
theorem split_free' (x : Str) : ∀ p ∈ Txt.split x sl, NoSl p := by
  rw [sl_eq]; exact StrLaws.split_free x 47
theorem split_ne (x : Str) : Txt.split x sl ≠ [] := by
  intro h
  have e := StrLaws.join_split x sl
  unfold Txt.split at h
  split at h
  · simp at h
  · split at h
    · simp at h
    · unfold Builtin.Str.partsBetween at h
      simp at h
theorem split_of {x : Str} {ps : List Str} (hf : ∀ p ∈ ps, NoSl p) (h : 47 :: x.cps.toList = cat ps) : Txt.split x sl = ps := by
  refine cat_inj (split_free' x) hf ?_
  rw [← h, ← join_cat (split_ne x), StrLaws.join_split]
theorem toStr {x y : Str} (h : x.cps.toList = y.cps.toList) : x = y := by
  have : x.cps = y.cps := Array.toList_inj.mp h
  cases x; cases y; simp_all
end
section
theorem slice_ab {x : Str} {a b : Nat} {l : List Nat} (hx : x.cps.toList = l) (hab : a ≤ b) (hb : b ≤ l.length) : (Txt.slice x (some (a : Int)) (some (b : Int))).cps.toList = (l.drop a).take (b - a) := by
  have e : Txt.slice x (some (a : Int)) (some (b : Int)) = ⟨((x.cps.toList.drop a).take (b - a)).toArray⟩ := StrLaws.sliceText_nat x hab (by unfold Str.length; rw [← Array.length_toList, hx]; exact hb)
  rw [e, hx]
theorem slice_to {x : Str} {b : Nat} {l : List Nat} (hx : x.cps.toList = l) (hb : b ≤ l.length) : (Txt.slice x none (some (b : Int))).cps.toList = l.take b := by
  have e : Txt.slice x none (some (b : Int)) = ⟨((x.cps.toList.drop 0).take ((b : Int) - 0).toNat).toArray⟩ := StrLaws.sliceText_to ⟨by omega, by rw [hx]; omega⟩
  rw [e, hx]; simp
theorem slice_from {x : Str} {a : Nat} {l : List Nat} (hx : x.cps.toList = l) (ha : a ≤ l.length) : (Txt.slice x (some (a : Int)) none).cps.toList = l.drop a := by
  have e : Txt.slice x (some (a : Int)) none = ⟨((x.cps.toList.drop (a : Int).toNat).take ((x.cps.toList.length : Int) - (a : Int)).toNat).toArray⟩ := StrLaws.sliceText_from ⟨by omega, by rw [hx]; omega⟩
  rw [e, hx]
  simp only [Int.toNat_natCast]
  have e1 : ((l.length : Int) - (a : Int)).toNat = (l.drop a).length := by rw [List.length_drop]; omega
  rw [e1, List.take_length]
theorem ne_of_list {x y : Str} (h : x.cps.toList ≠ y.cps.toList) : (x != y) = true := by
  rw [bne_iff_ne]; intro e; exact h (by rw [e])
def topS (r : Nat) : Str := Str.ofString (if r = 1 ∨ r = 3 then "/" else if r = 2 then "//" else "")
def extraS (r : Nat) : List Str := if r = 3 then [Str.empty, Str.empty] else []
theorem sl_list : (Str.ofString "/").cps.toList = [47] := by decide +kernel
theorem top2 : (topS 2).cps.toList = [47, 47] := by decide +kernel
theorem root_at {p : Str} {r c d e : Nat} {rest : List Nat} (hr : r < 4) (hp : p.cps.toList = List.replicate r 47 ++ c :: d :: e :: rest) (hc : c ≠ 47) :
    rootS p = topS r ∧ 47 :: (restS p).cps.toList = cat (extraS r) ++ 47 :: c :: d :: e :: rest := by
  have s1 := slice_to (b := 1) hp (by simp only [List.length_append, List.length_replicate, List.length_cons]; omega)
  have s2 := slice_ab (a := 1) (b := 2) hp (by decide) (by simp only [List.length_append, List.length_replicate, List.length_cons]; omega)
  have s3 := slice_ab (a := 2) (b := 3) hp (by decide) (by simp only [List.length_append, List.length_replicate, List.length_cons]; omega)
  have f1 := slice_from (a := 1) hp (by simp only [List.length_append, List.length_replicate, List.length_cons]; omega)
  have f2 := slice_from (a := 2) hp (by simp only [List.length_append, List.length_replicate, List.length_cons]; omega)
  have t2 := slice_to (b := 2) hp (by simp only [List.length_append, List.length_replicate, List.length_cons]; omega)
  have key : r = 0 ∨ r = 1 ∨ r = 2 ∨ r = 3 := by omega
  rcases key with rfl | rfl | rfl | rfl
  · have h1 : (Txt.slice p none (some 1) != Str.ofString "/") = true := ne_of_list (by rw [sl_list]; erw [s1]; simp [hc])
    obtain ⟨a, b⟩ := rootS_a h1
    exact ⟨a, by rw [b, hp]; rfl⟩
  · have h1 : (Txt.slice p none (some 1) != Str.ofString "/") = false := by
      have : Txt.slice p none (some 1) = Str.ofString "/" := toStr (by rw [sl_list]; erw [s1]; rfl)
      rw [this]; simp
    have h2 : (Txt.slice p (some 1) (some 2) != Str.ofString "/") = true := ne_of_list (by rw [sl_list]; erw [s2]; simp [hc])
    obtain ⟨a, b⟩ := rootS_b h1 h2
    exact ⟨a, by rw [b]; erw [f1]; rfl⟩
  · have h1 : (Txt.slice p none (some 1) != Str.ofString "/") = false := by
      have : Txt.slice p none (some 1) = Str.ofString "/" := toStr (by rw [sl_list]; erw [s1]; rfl)
      rw [this]; simp
    have h2 : (Txt.slice p (some 1) (some 2) != Str.ofString "/") = false := by
      have : Txt.slice p (some 1) (some 2) = Str.ofString "/" := toStr (by rw [sl_list]; erw [s2]; rfl)
      rw [this]; simp
    have h3 : (Txt.slice p (some 2) (some 3) == Str.ofString "/") = false := by
      have := ne_of_list (x := Txt.slice p (some 2) (some 3)) (y := Str.ofString "/") (by rw [sl_list]; erw [s3]; simp [hc])
      simpa [bne] using this
    obtain ⟨a, b⟩ := rootS_d h1 h2 h3
    exact ⟨by rw [a]; exact toStr (by erw [t2]; exact top2.symm), by rw [b]; erw [f2]; rfl⟩
  · have h1 : (Txt.slice p none (some 1) != Str.ofString "/") = false := by
      have : Txt.slice p none (some 1) = Str.ofString "/" := toStr (by rw [sl_list]; erw [s1]; rfl)
      rw [this]; simp
    have h3 : (Txt.slice p (some 2) (some 3) == Str.ofString "/") = true := by
      have : Txt.slice p (some 2) (some 3) = Str.ofString "/" := toStr (by rw [sl_list]; erw [s3]; rfl)
      rw [this]; simp
    obtain ⟨a, b⟩ := rootS_c h1 h3
    exact ⟨a, by rw [b]; erw [f1]; rfl⟩
end
section
def dds : Str := Str.ofString ".."
def tokS (nm : Nat → Str) : Option Nat → Str
  | none => dds
  | some k => nm k
def partsN (nm : Nat → Str) (s : Nat × List Nat) : List Str := List.replicate s.1 dds ++ s.2.map nm
def absStep (free : Bool) (s : Nat × List Nat) : Option Nat → Nat × List Nat
  | some k => (s.1, s.2 ++ [k])
  | none => if s.2 = [] then (if free then (s.1 + 1, []) else (s.1, [])) else (s.1, s.2.dropLast)
structure NamesOk (nm : Nat → Str) (n : Nat) : Prop where
  free : ∀ k, k < n → NoSl (nm k)
  ne : ∀ k, k < n → (nm k).length ≠ 0
  dot : ∀ k, k < n → nm k ≠ Str.ofString "."
  dots : ∀ k, k < n → nm k ≠ dds
  inj : ∀ k j, k < n → j < n → nm k = nm j → k = j
structure AbsOk (free : Bool) (n : Nat) (s : Nat × List Nat) : Prop where
  base : free = false → s.1 = 0
  lt : ∀ k ∈ s.2, k < n
theorem dds_len : dds.length = 2 := by decide +kernel
theorem dot_ne : dds ≠ Str.ofString "." := by decide +kernel
theorem dds_nosl : NoSl dds := by unfold NoSl; decide +kernel
section
variable {nm : Nat → Str} {n : Nat} {free : Bool} {s : Nat × List Nat}
theorem step_down (H : NamesOk nm n) (st : List Str) {k : Nat} (hk : k < n) : stepS free st (nm k) = st ++ [nm k] := by
  unfold stepS
  rw [if_neg (fun h => h.elim (H.ne k hk) (H.dot k hk)), if_pos (.inl (H.dots k hk))]
theorem step_abs (H : NamesOk nm n) (A : AbsOk free n s) {t : Option Nat} (ht : ∀ k, t = some k → k < n) : stepS free (partsN nm s) (tokS nm t) = partsN nm (absStep free s t) ∧ AbsOk free n (absStep free s t) := by
  obtain ⟨u, K⟩ := s
  cases t with
  | some k =>
    have hk := ht k rfl
    constructor
    · show stepS free _ (nm k) = _
      rw [step_down H _ hk]
      simp [partsN, absStep]
    · refine ⟨A.base, fun j hj => ?_⟩
      rcases List.mem_append.mp hj with hj | hj
      · exact A.lt j hj
      · rw [List.mem_singleton.mp hj]; exact hk
  | none =>
    have hdd : dds = Str.ofString ".." := rfl
    show stepS free _ dds = _ ∧ _
    unfold stepS
    rw [if_neg (fun h => h.elim (fun h => absurd (dds_len.symm.trans h) (by decide)) dot_ne)]
    rcases List.eq_nil_or_concat K with rfl | ⟨K', k, rfl⟩
    · simp only [absStep, if_true]
      by_cases hf : free = true
      · subst hf
        constructor
        · rw [if_pos]
          · simp [partsN, List.replicate_succ']
          · rcases Nat.eq_zero_or_pos u with rfl | hu
            · exact .inr (.inl ⟨rfl, rfl⟩)
            · refine .inr (.inr ⟨by simp [partsN]; omega, ?_⟩)
              obtain ⟨v, rfl⟩ : ∃ v, u = v + 1 := ⟨u - 1, by omega⟩
              simp [partsN, List.replicate_succ', hdd]
        · exact ⟨fun h => absurd h (by decide), fun k hk => nomatch hk⟩
      · have hf' : free = false := by simpa using hf
        subst hf'
        have hu : u = 0 := A.base rfl
        subst hu
        constructor
        · rw [if_neg]
          · rfl
          · rintro (h | ⟨h, _⟩ | ⟨h, _⟩)
            · exact h rfl
            · exact absurd h (by decide)
            · exact h rfl
        · exact ⟨fun _ => rfl, fun k hk => nomatch hk⟩
    · have hk : k < n := A.lt k (by simp)
      have hne : K'.concat k ≠ [] := by simp
      simp only [absStep, if_neg hne]
      constructor
      · rw [if_neg]
        · simp [partsN]
        · rintro (h | ⟨_, h⟩ | ⟨_, h⟩)
          · exact h rfl
          · simp [partsN] at h
          · refine H.dots k hk ?_
            rw [← hdd] at h
            rw [← h]
            simp only [partsN, List.concat_eq_append, List.map_append, List.map_cons, List.map_nil]
            rw [← List.append_assoc, List.getLastD_concat]
      · refine ⟨A.base, fun j hj => A.lt j ?_⟩
        exact List.dropLast_subset _ hj
/-- parts that leave the stack as it is -/
def Idle (ps : List Str) : Prop := ∀ p ∈ ps, p.length = 0 ∨ p = Str.ofString "."
theorem idle_fold : ∀ {ps : List Str} (st : List Str), Idle ps → ps.foldl (stepS free) st = st
  | [], _, _ => rfl
  | p :: r, st, h => by
    have h1 : stepS free st p = st := by unfold stepS; rw [if_pos (h p (List.mem_cons_self ..))]
    rw [List.foldl_cons, h1]
    exact idle_fold st fun q hq => h q (List.mem_cons_of_mem _ hq)
theorem walk_fold (H : NamesOk nm n) (lead : Nat → List Str) (hl : ∀ k, Idle (lead k)) (tok : Nat → Option Nat) : ∀ (l : List Nat) (s : Nat × List Nat), (∀ i ∈ l, ∀ k, tok i = some k → k < n) → AbsOk free n s →
    (l.flatMap fun i => lead i ++ [tokS nm (tok i)]).foldl (stepS free) (partsN nm s) = partsN nm ((l.map tok).foldl (absStep free) s) ∧ AbsOk free n ((l.map tok).foldl (absStep free) s)
  | [], _, _, A => ⟨rfl, A⟩
  | i :: r, s, ht, A => by
    obtain ⟨h1, h2⟩ := step_abs H A (t := tok i) (ht i (List.mem_cons_self ..))
    obtain ⟨h3, h4⟩ := walk_fold H lead hl tok r _ (fun j hj => ht j (List.mem_cons_of_mem _ hj)) h2
    refine ⟨?_, h4⟩
    rw [List.flatMap_cons, List.foldl_append, List.foldl_append, idle_fold _ (hl i), List.foldl_cons, List.foldl_nil, h1]
    exact h3
theorem parts_nosl (H : NamesOk nm n) (A : AbsOk free n s) : ∀ p ∈ partsN nm s, NoSl p ∧ p.length ≠ 0 ∧ p ≠ Str.ofString "." := by
  intro p hp
  rcases List.mem_append.mp hp with hp | hp
  · rw [(List.mem_replicate.mp hp).2]; exact ⟨dds_nosl, by rw [dds_len]; decide, dot_ne⟩
  · obtain ⟨k, hk, rfl⟩ := List.mem_map.mp hp
    exact ⟨H.free k (A.lt k hk), H.ne k (A.lt k hk), H.dot k (A.lt k hk)⟩
def decS (nm : Nat → Str) (n : Nat) (x : Str) : Option Nat := (List.range n).find? fun k => decide (nm k = x)
theorem dec_dds (H : NamesOk nm n) : decS nm n dds = none := by
  unfold decS
  rw [List.find?_eq_none]
  intro k hk
  simpa using H.dots k (List.mem_range.mp hk)
theorem dec_nm (H : NamesOk nm n) {k : Nat} (hk : k < n) : decS nm n (nm k) = some k := by
  unfold decS
  cases h : (List.range n).find? fun j => decide (nm j = nm k) with
  | none =>
    rw [List.find?_eq_none] at h
    exact absurd (decide_eq_true rfl) (h k (List.mem_range.mpr hk))
  | some j =>
    have h1 := List.find?_some h
    have h2 := List.mem_of_find?_eq_some h
    rw [H.inj j k (List.mem_range.mp h2) hk (by simpa using h1)]
theorem dec_parts (H : NamesOk nm n) (hK : ∀ k ∈ s.2, k < n) : (partsN nm s).map (decS nm n) = List.replicate s.1 none ++ s.2.map some := by
  unfold partsN
  rw [List.map_append, List.map_replicate, dec_dds H, List.map_map]
  congr 1
  exact List.map_congr_left fun k hk => dec_nm H (hK k hk)
theorem parts_inj (H : NamesOk nm n) {s s' : Nat × List Nat} (hK : ∀ k ∈ s.2, k < n) (hK' : ∀ k ∈ s'.2, k < n) (e : partsN nm s = partsN nm s') : s = s' := by
  have h : List.replicate s.1 none ++ s.2.map some = List.replicate s'.1 none ++ s'.2.map some := by rw [← dec_parts H hK, ← dec_parts H hK', e]
  obtain ⟨u, K⟩ := s
  obtain ⟨u', K'⟩ := s'
  have h1 := congrArg (List.filterMap id) h
  have h2 := congrArg (List.countP (fun o : Option Nat => o.isNone)) h
  simp [List.filterMap_append, List.filterMap_map, List.countP_append, List.countP_replicate, List.countP_map] at h1 h2
  simp [Function.comp_def] at h2
  rw [h1, h2]
def rendS (nm : Nat → Str) (top : Str) (s : Nat × List Nat) : Str :=
  if (top ++ Txt.join sl (partsN nm s)).length = 0 then Str.ofString "." else top ++ Txt.join sl (partsN nm s)
theorem str_len0 {x : Str} (h : x.length = 0) : x.cps.toList = [] := by
  unfold Str.length at h
  exact List.eq_nil_of_length_eq_zero (by rw [Array.length_toList]; exact h)
theorem join_nil : (Txt.join sl []).cps.toList = [] := rfl
theorem join_ne {ps : List Str} (h : ps ≠ []) (hp : ∀ p ∈ ps, p.length ≠ 0) : (Txt.join sl ps).cps.toList ≠ [] := by
  intro e
  have h1 := tjoin_cat h
  rw [e] at h1
  cases ps with
  | nil => exact h rfl
  | cons p r =>
    rw [cat_cons] at h1
    simp only [List.cons.injEq, true_and] at h1
    have h2 := (List.append_eq_nil_iff.mp h1.symm).1
    exact hp p (List.mem_cons_self ..) (by unfold Str.length; rw [← Array.length_toList, h2]; rfl)
theorem join_inj {ps qs : List Str} (hp : ∀ p ∈ ps, NoSl p ∧ p.length ≠ 0) (hq : ∀ p ∈ qs, NoSl p ∧ p.length ≠ 0) (e : (Txt.join sl ps).cps.toList = (Txt.join sl qs).cps.toList) : ps = qs := by
  by_cases h1 : ps = []
  · by_cases h2 : qs = []
    · rw [h1, h2]
    · rw [h1, join_nil] at e
      exact absurd e.symm (join_ne h2 fun p h => (hq p h).2)
  · by_cases h2 : qs = []
    · rw [h2, join_nil] at e
      exact absurd e (join_ne h1 fun p h => (hp p h).2)
    · exact cat_inj (fun p h => (hp p h).1) (fun p h => (hq p h).1) (by rw [← tjoin_cat h1, ← tjoin_cat h2, e])
theorem dot_list : (Str.ofString ".").cps.toList = [46] := by decide +kernel
theorem dot_nosl : NoSl (Str.ofString ".") := by unfold NoSl; decide +kernel
theorem not_dot {top : Str} {ps qs : List Str} (hq : ∀ p ∈ qs, NoSl p ∧ p.length ≠ 0 ∧ p ≠ Str.ofString ".") (h : (top ++ Txt.join sl ps).length = 0) : Str.ofString "." ≠ top ++ Txt.join sl qs := by
  intro e
  have h1 := str_len0 h
  rw [Str.toList_app] at h1
  have h2 := congrArg (fun x : Str => x.cps.toList) e
  simp only [Str.toList_app, (List.append_eq_nil_iff.mp h1).1, List.nil_append, dot_list] at h2
  by_cases h3 : qs = []
  · rw [h3, join_nil] at h2; cases h2
  · have h4 := tjoin_cat h3
    rw [← h2] at h4
    have h5 : [Str.ofString "."] = qs := cat_inj (fun p hp => by rw [List.mem_singleton.mp hp]; exact dot_nosl) (fun p hp => (hq p hp).1) (by rw [← h4, cat_cons, dot_list]; rfl)
    exact (hq (Str.ofString ".") (by rw [← h5]; exact List.mem_singleton.mpr rfl)).2.2 rfl
theorem rend_inj (H : NamesOk nm n) {top : Str} {s s' : Nat × List Nat} (A : AbsOk free n s) (A' : AbsOk free n s') (e : rendS nm top s = rendS nm top s') : s = s' := by
  have g := parts_nosl H A
  have g' := parts_nosl H A'
  refine parts_inj H A.lt A'.lt ?_
  unfold rendS at e
  split at e
  · rename_i h
    split at e
    · rename_i h'
      have h1 := str_len0 h
      have h2 := str_len0 h'
      rw [Str.toList_app] at h1 h2
      exact join_inj (fun p hp => ⟨(g p hp).1, (g p hp).2.1⟩) (fun p hp => ⟨(g' p hp).1, (g' p hp).2.1⟩) (by rw [(List.append_eq_nil_iff.mp h1).2, (List.append_eq_nil_iff.mp h2).2])
    · exact absurd e (not_dot g' h)
  · split at e
    · rename_i h'
      exact absurd e.symm (not_dot g h')
    · have h2 := congrArg (fun x : Str => x.cps.toList) e
      simp only [Str.toList_app] at h2
      exact join_inj (fun p hp => ⟨(g p hp).1, (g p hp).2.1⟩) (fun p hp => ⟨(g' p hp).1, (g' p hp).2.1⟩) (List.append_cancel_left h2)
end
end
section
def dotS : Str := Str.ofString "."
def leadP (j : Nat) : List Str := [[], [dotS], [dotS, Str.empty], [dotS, dotS]].getD j []
def endP (j : Nat) : List Str := [[], [Str.empty], [dotS], [Str.empty, dotS]].getD j []
def endS (j : Nat) : Str := [Str.ofString "", Str.ofString "/", Str.ofString "/.", Str.ofString "//."].getD j Str.empty
def rootT (j : Nat) : Str := [Str.ofString "", Str.ofString "/", Str.ofString "//", Str.ofString "///"].getD j Str.empty
theorem dotS_idle {p : Str} (h : p = dotS ∨ p = Str.empty) : p.length = 0 ∨ p = Str.ofString "." := h.elim .inr fun h => .inl (by rw [h]; rfl)
theorem idle_of {ps : List Str} (h : ps.all (fun p => decide (p = dotS) || decide (p = Str.empty)) = true) : Idle ps := fun p hp => dotS_idle (by simpa using List.all_eq_true.mp h p hp)
theorem lead_idle (j : Nat) : Idle (leadP j) := by
  rcases j with _ | _ | _ | _ | j
  · exact idle_of (by decide +kernel)
  · exact idle_of (by decide +kernel)
  · exact idle_of (by decide +kernel)
  · exact idle_of (by decide +kernel)
  · exact fun _ h => nomatch h
theorem end_idle (j : Nat) : Idle (endP j) := by
  rcases j with _ | _ | _ | _ | j
  · exact idle_of (by decide +kernel)
  · exact idle_of (by decide +kernel)
  · exact idle_of (by decide +kernel)
  · exact idle_of (by decide +kernel)
  · exact fun _ h => nomatch h
theorem extra_idle (r : Nat) : Idle (extraS r) := by
  unfold extraS
  split
  · exact idle_of (by decide +kernel)
  · exact fun _ h => nomatch h
theorem idle_nosl {ps : List Str} (h : Idle ps) : ∀ p ∈ ps, NoSl p := by
  intro p hp
  rcases h p hp with e | e
  · unfold NoSl; rw [str_len0 e]; exact fun h => nomatch h
  · rw [e]; exact dot_nosl
theorem lead_cat (j : Nat) (t : Str) : 47 :: ([Str.ofString "", Str.ofString "./", Str.ofString ".//", Str.ofString "././"].getD j Str.empty ++ t).cps.toList = cat (leadP j ++ [t]) := by
  rw [Str.toList_app, cat_app]
  have e : cat [t] = 47 :: t.cps.toList := by rw [cat_cons, cat_nil, List.append_nil]
  rw [e]
  have key : ∀ a b : List Nat, 47 :: a = b ++ [47] → 47 :: (a ++ t.cps.toList) = b ++ 47 :: t.cps.toList := fun a b h => by
    rw [← List.cons_append, h]; simp
  apply key
  rcases j with _ | _ | _ | _ | j
  · decide +kernel
  · decide +kernel
  · decide +kernel
  · decide +kernel
  · rfl
theorem end_cat (j : Nat) : (endS j).cps.toList = cat (endP j) := by
  rcases j with _ | _ | _ | _ | j
  · decide +kernel
  · decide +kernel
  · decide +kernel
  · decide +kernel
  · rfl
theorem rootT_list {r : Nat} (h : r < 4) : (rootT r).cps.toList = List.replicate r 47 := by
  have : ∀ r, r < 4 → (rootT r).cps.toList = List.replicate r 47 := by decide +kernel
  exact this r h
def leadK (ns : List Int) (i : Nat) : List Str := leadP (((ns.getD i 0).fdiv 16).fmod 4).toNat
def tokW (ch : Int) (k : Nat) : Option Nat := if (ch.fdiv (2 ^ k)).fmod 2 = 1 then some k else none
def nmW (nms : List Str) (k : Nat) : Str := nms.getD k Str.empty
def absF (free : Bool) (n : Nat) (ch : Int) : Nat × List Nat := ((List.range n).map (tokW ch)).foldl (absStep free) (0, [])
theorem partW_eq (ns : List Int) (nms : List Str) (ch : Int) (k : Nat) : partW ns nms ch k = leadS (ns.getD k 0) ++ tokS (nmW nms) (tokW ch k) := by
  unfold partW tokW
  split <;> rfl
theorem part_cat (ns : List Int) (nms : List Str) (ch : Int) (k : Nat) : 47 :: (partW ns nms ch k).cps.toList = cat (leadK ns k ++ [tokS (nmW nms) (tokW ch k)]) := by
  rw [partW_eq]; exact lead_cat _ _
theorem flat_congr {f g : Nat → List Nat} (h : ∀ i, f i = g i) (l : List Nat) : l.flatMap f = l.flatMap g := by
  have : f = g := funext h
  rw [this]
theorem cat_flat {α : Type} (f : α → List Str) : ∀ l : List α, cat (l.flatMap f) = l.flatMap fun i => cat (f i)
  | [] => rfl
  | a :: r => by rw [List.flatMap_cons, cat_app, cat_flat f r, List.flatMap_cons]
def walkP (ns : List Int) (nms : List Str) (ch : Int) : List Str := (List.range nms.length).flatMap fun i => leadK ns i ++ [tokS (nmW nms) (tokW ch i)]
theorem walk_cat {ns : List Int} {nms : List Str} {ch : Int} (h : 0 < nms.length) : 47 :: (walkS ns nms ch).cps.toList = cat (walkP ns nms ch) := by
  unfold walkS walkP
  have hne : (List.range nms.length).map (partW ns nms ch) ≠ [] := by
    intro e
    have := congrArg List.length e
    rw [List.length_map, List.length_range] at this
    exact absurd this (Nat.ne_of_gt h)
  have e1 := tjoin_cat hne
  refine e1.trans ?_
  rw [cat_flat]
  unfold cat
  rw [List.flatMap_map]
  exact flat_congr (fun i => part_cat ns nms ch i) _
theorem tok_lt {ch : Int} {n : Nat} {i k : Nat} (hi : i < n) (h : tokW ch i = some k) : k < n := by
  unfold tokW at h
  split at h
  · cases h; exact hi
  · cases h
theorem walkP_nosl {ns : List Int} {nms : List Str} {ch : Int} (H : NamesOk (nmW nms) nms.length) : ∀ p ∈ walkP ns nms ch, NoSl p := by
  intro p hp
  unfold walkP at hp
  obtain ⟨i, hi, hp⟩ := List.mem_flatMap.mp hp
  rcases List.mem_append.mp hp with hp | hp
  · exact idle_nosl (lead_idle _) p hp
  · rw [List.mem_singleton.mp hp]
    have hi := List.mem_range.mp hi
    unfold tokW
    split
    · exact H.free i hi
    · exact dds_nosl
theorem tok_ne {nms : List Str} (H : NamesOk (nmW nms) nms.length) {ch : Int} {i : Nat} (hi : i < nms.length) : NoSl (tokS (nmW nms) (tokW ch i)) ∧ (tokS (nmW nms) (tokW ch i)).length ≠ 0 := by
  unfold tokW
  split
  · exact ⟨H.free i hi, H.ne i hi⟩
  · exact ⟨dds_nosl, by show dds.length ≠ 0; rw [dds_len]; decide⟩
theorem head_of {x t : Str} {j : Nat} (ht : NoSl t) (hn : t.length ≠ 0) (hx : x = [Str.ofString "", Str.ofString "./", Str.ofString ".//", Str.ofString "././"].getD j Str.empty ++ t) : ∃ c r, c ≠ 47 ∧ x.cps.toList = c :: r := by
  subst hx
  rw [Str.toList_app]
  have ht0 : ∃ c r, c ≠ 47 ∧ t.cps.toList = c :: r := by
    cases e : t.cps.toList with
    | nil => exact absurd (by unfold Str.length; rw [← Array.length_toList, e]; rfl) hn
    | cons c r => exact ⟨c, r, fun h => ht (by rw [e, h]; exact List.mem_cons_self ..), rfl⟩
  rcases j with _ | _ | _ | _ | j
  · exact ht0
  · exact ⟨46, _, by decide, rfl⟩
  · exact ⟨46, _, by decide, rfl⟩
  · exact ⟨46, _, by decide, rfl⟩
  · exact ht0
theorem walk_head {ns : List Int} {nms : List Str} {ch : Int} (H : NamesOk (nmW nms) nms.length) (h3 : 3 ≤ nms.length) : ∃ c d e r, c ≠ 47 ∧ (walkS ns nms ch).cps.toList = c :: d :: e :: r := by
  obtain ⟨m, hm⟩ : ∃ m, nms.length = m + 3 := ⟨nms.length - 3, by omega⟩
  have hr : List.range nms.length = 0 :: 1 :: 2 :: (List.range m).map (· + 3) := by
    rw [hm, List.range_succ_eq_map, List.range_succ_eq_map, List.range_succ_eq_map]
    simp
  have e : walkS ns nms ch = Txt.join sl ((List.range nms.length).map (partW ns nms ch)) := rfl
  rw [hr] at e
  have h0 := tjoin_cat (ps := (0 :: 1 :: 2 :: (List.range m).map (· + 3)).map (partW ns nms ch)) (by simp)
  rw [← e] at h0
  simp only [List.map_cons, cat_cons, List.cons.injEq, true_and] at h0
  obtain ⟨c, r, hc, er⟩ := head_of (tok_ne H (ch := ch) (i := 0) (by omega)).1 (tok_ne H (ch := ch) (i := 0) (by omega)).2 (partW_eq ns nms ch 0)
  rw [er] at h0
  cases r with
  | nil => 
    cases e2 : (partW ns nms ch 1).cps.toList with
    | nil => rw [e2] at h0; exact ⟨c, 47, 47, _, hc, h0⟩
    | cons d r2 => rw [e2] at h0; exact ⟨c, 47, d, _, hc, h0⟩
  | cons d r2 =>
    cases r2 with
    | nil => exact ⟨c, d, 47, _, hc, h0⟩
    | cons f r3 => exact ⟨c, d, f, _, hc, h0⟩
theorem top_len (r : Nat) : (topS r).length = 0 ↔ r ≠ 1 ∧ r ≠ 3 ∧ r ≠ 2 := by
  unfold topS
  have a1 : (Str.ofString "/").length = 1 := by decide +kernel
  have a2 : (Str.ofString "//").length = 2 := by decide +kernel
  have a3 : (Str.ofString "").length = 0 := by decide +kernel
  split
  · rw [a1]; omega
  · split
    · rw [a2]; omega
    · rw [a3]; omega
theorem norm_walk {ns : List Int} {nms : List Str} {ch : Int} {r j : Nat} (H : NamesOk (nmW nms) nms.length) (h3 : 3 ≤ nms.length) (hr : r < 4) :
    normS (rootT r ++ walkS ns nms ch ++ endS j) = rendS (nmW nms) (topS r) (absF (decide ((topS r).length = 0)) nms.length ch) ∧ AbsOk (decide ((topS r).length = 0)) nms.length (absF (decide ((topS r).length = 0)) nms.length ch) := by
  obtain ⟨c, d, e, rest, hc, hw⟩ := walk_head H h3 (ns := ns) (ch := ch)
  have hp : (rootT r ++ walkS ns nms ch ++ endS j).cps.toList = List.replicate r 47 ++ c :: d :: e :: (rest ++ (endS j).cps.toList) := by
    rw [Str.toList_app, Str.toList_app, rootT_list hr, hw]; simp
  obtain ⟨e1, e2⟩ := root_at hr hp hc
  have e3 : 47 :: (restS (rootT r ++ walkS ns nms ch ++ endS j)).cps.toList = cat (extraS r ++ walkP ns nms ch ++ endP j) := by
    rw [e2, cat_app, cat_app, ← walk_cat (by omega), hw, end_cat]; simp
  have e4 : Txt.split (restS (rootT r ++ walkS ns nms ch ++ endS j)) (Str.ofString "/") = extraS r ++ walkP ns nms ch ++ endP j := split_of (fun p hp => by
    rcases List.mem_append.mp hp with hp | hp
    · rcases List.mem_append.mp hp with hp | hp
      · exact idle_nosl (extra_idle r) p hp
      · exact walkP_nosl H p hp
    · exact idle_nosl (end_idle j) p hp) e3
  have A0 : AbsOk (decide ((topS r).length = 0)) nms.length (0, []) := ⟨fun _ => rfl, fun _ h => nomatch h⟩
  obtain ⟨w1, w2⟩ := walk_fold H (leadK ns) (fun k => lead_idle _) (tokW ch) (List.range nms.length) (0, []) (fun i hi k hk => tok_lt (List.mem_range.mp hi) hk) A0
  refine ⟨?_, w2⟩
  have hk : keptS (rootT r ++ walkS ns nms ch ++ endS j) = partsN (nmW nms) (absF (decide ((topS r).length = 0)) nms.length ch) := by
    unfold keptS
    rw [e4, e1, List.foldl_append, List.foldl_append, idle_fold _ (extra_idle r), idle_fold _ (end_idle j)]
    exact w1
  have hl : ¬ (rootT r ++ walkS ns nms ch ++ endS j).length = 0 := by
    intro h
    have := str_len0 h
    rw [hp] at this
    simp at this
  unfold normS
  rw [if_neg hl, hk, e1]
  rfl
end
section
def nmsS (xs : List Int) (n : Nat) : List Str := (rangeKs 0 ((n : Int) - 0).toNat).map fun k => nameS (xs.getD k.toNat 0) k
def asS (rt en : Str) (xs : List Int) (nms : List Str) (n : Nat) : List Str := (rangeKs 0 (((2 : Int) ^ ((n : Int).toNat)) - 0).toNat).map fun ch => normS (rt ++ walkS xs nms ch ++ en)
theorem nms_len (xs : List Int) (n : Nat) : (nmsS xs n).length = n := by unfold nmsS; rw [List.length_map, rangeKs_length]; omega
theorem nm_at {xs : List Int} {n k : Nat} (hk : k < n) : nmW (nmsS xs n) k = nameS (xs.getD k 0) (k : Int) := by
  unfold nmW nmsS
  have e : ((n : Int) - 0).toNat = n := by omega
  rw [e, List.getD_eq_getElem?_getD, List.getElem?_map]
  have e2 : (rangeKs 0 n)[k]? = some (k : Int) := by simp [rangeKs, hk]
  rw [e2]
  simp
/-- a name by the two small numbers that it hangs on -/
def nmA (j i k : Nat) : Str := [Str.ofString "", Str.ofString ".", Str.ofString "..", Str.ofString "..."].getD j Str.empty ++ Txt.item (Str.ofString "aBcD") (k : Int) ++ [Str.ofString "", Str.ofString ".", Str.ofString "..", Str.ofString " "].getD i Str.empty
theorem nm_small (x : Int) (k : Nat) : ∃ j i, j < 4 ∧ i < 4 ∧ nameS x (k : Int) = nmA j i k := by
  refine ⟨(x.fmod 4).toNat, ((x.fdiv 4).fmod 4).toNat, ?_, ?_, rfl⟩
  · have h1 := fmod_lo x (n := 4) (by decide)
    have h2 := fmod_hi x (n := 4) (by decide)
    omega
  · have h1 := fmod_lo (x.fdiv 4) (n := 4) (by decide)
    have h2 := fmod_hi (x.fdiv 4) (n := 4) (by decide)
    omega
def okN (j i k : Nat) : Bool := !((nmA j i k).cps.toList.contains 47) && !((nmA j i k).length == 0) && !(nmA j i k == Str.ofString ".") && !(nmA j i k == Str.ofString "..") && (nmA j i k).cps.toList.contains ([97, 66, 99, 68].getD k 0) && (List.range 4).all fun q => q == k || !((nmA j i k).cps.toList.contains ([97, 66, 99, 68].getD q 0))
theorem ok_names : ((List.range 4).all fun j => (List.range 4).all fun i => (List.range 4).all fun k => okN j i k) = true := by decide +kernel
theorem ok_name {j i k : Nat} (hj : j < 4) (hi : i < 4) (hk : k < 4) : okN j i k = true :=
  List.all_eq_true.mp (List.all_eq_true.mp (List.all_eq_true.mp ok_names j (List.mem_range.mpr hj)) i (List.mem_range.mpr hi)) k (List.mem_range.mpr hk)
structure NmOk (x : Str) (k : Nat) : Prop where
  free : NoSl x
  ne : x.length ≠ 0
  dot : x ≠ Str.ofString "."
  dots : x ≠ dds
  has : x.cps.toList.contains ([97, 66, 99, 68].getD k 0) = true
  only : ∀ q, q < 4 → q ≠ k → x.cps.toList.contains ([97, 66, 99, 68].getD q 0) = false
theorem name_ok (x : Int) {k : Nat} (hk : k < 4) : NmOk (nameS x (k : Int)) k := by
  obtain ⟨j, i, hj, hi, e⟩ := nm_small x k
  rw [e]
  have h := ok_name hj hi hk
  unfold okN at h
  simp only [Bool.and_eq_true, Bool.not_eq_true', List.all_eq_true, List.mem_range, Bool.or_eq_true] at h
  obtain ⟨⟨⟨⟨⟨h1, h2⟩, h3⟩, h4⟩, h5⟩, h6⟩ := h
  refine ⟨?_, ?_, ?_, ?_, h5, ?_⟩
  · intro hm
    rw [List.contains_iff_mem.mpr hm] at h1
    exact absurd h1 (by decide)
  · intro hm
    rw [hm] at h2
    exact absurd h2 (by decide)
  · intro hm
    rw [hm] at h3
    exact absurd h3 (by simp)
  · intro hm
    rw [hm] at h4
    exact absurd h4 (by simp [dds])
  · intro q hq hqk
    rcases h6 q hq with h | h
    · exact absurd (by simpa using h) hqk
    · exact h
theorem names_ok {xs : List Int} {n : Nat} (hn : n ≤ 4) : NamesOk (nmW (nmsS xs n)) n := by
  have g : ∀ k, k < n → NmOk (nmW (nmsS xs n) k) k := fun k hk => by rw [nm_at hk]; exact name_ok _ (by omega)
  refine ⟨fun k hk => (g k hk).free, fun k hk => (g k hk).ne, fun k hk => (g k hk).dot, fun k hk => (g k hk).dots, fun k j hk hj e => ?_⟩
  have h1 := (g k hk).has
  by_cases h : k = j
  · exact h
  · have h2 := (g j hj).only k (by omega) h
    rw [← e, h1] at h2
    cases h2
theorem countIn_map {α : Type} [DecidableEq α] (f : Int → α) (r : α → Str) (z : α) (x : Str) (hx : x = r z) : ∀ l : List Int, (∀ c ∈ l, r (f c) = r z → f c = z) →
    cntF (l.map fun c => r (f c)) x = ((l.countP fun c => decide (f c = z) : Nat) : Int)
  | [], _ => rfl
  | c :: rest, h => by
    have ih := countIn_map f r z x hx rest fun a ha => h a (List.mem_cons_of_mem _ ha)
    unfold cntF at ih ⊢
    rw [List.map_cons, List.map_cons, List.countP_cons]
    show (if PySem.Spec.same (.str (r (f c))) (.str x) then (1 : Int) else 0) + _ = _
    rw [ih]
    by_cases e : f c = z
    · have e1 : PySem.Spec.same (.str (r (f c))) (.str x) = true := by rw [e, ← hx]; simp [PySem.Spec.same]
      rw [e1]; simp [e]; omega
    · have e1 : PySem.Spec.same (.str (r (f c))) (.str x) = false := by
        have : r (f c) ≠ x := fun q => e (h c (List.mem_cons_self ..) (q.trans hx))
        simp [PySem.Spec.same, this]
      rw [e1]; simp [e]
end
section
def finF (n : Nat) (free : Bool) (κ up : Nat) : Bool :=
  decide ((((rangeKs 0 (((2 : Int) ^ ((n : Int).toNat)) - 0).toNat).countP fun c => decide (absF free n c = (up, (placesF κ n).map Int.toNat)) : Nat) : Int)
    = (if free then ballotsS (aheadF κ n) up else chooseS (aheadF κ n) ((aheadF κ n).fdiv 2)) * worthF κ n (placesF κ n).length)
def finA (n : Nat) (free : Bool) : Bool := (List.range (2 ^ n)).all fun κ => (List.range (if free then (aheadF κ n + 1).toNat else 1)).all fun up => finF n free κ up
theorem fin3t : finA 3 true = true := by decide +kernel
theorem fin3f : finA 3 false = true := by decide +kernel
theorem fin4t : finA 4 true = true := by decide +kernel
theorem fin4f : finA 4 false = true := by decide +kernel
theorem fin_at {n : Nat} (hn : n = 3 ∨ n = 4) (free : Bool) {κ up : Nat} (hκ : κ < 2 ^ n) (hup : up < (if free then (aheadF κ n + 1).toNat else 1)) :
    (((rangeKs 0 (((2 : Int) ^ ((n : Int).toNat)) - 0).toNat).countP fun c => decide (absF free n c = (up, (placesF κ n).map Int.toNat)) : Nat) : Int)
    = (if free then ballotsS (aheadF κ n) up else chooseS (aheadF κ n) ((aheadF κ n).fdiv 2)) * worthF κ n (placesF κ n).length := by
  have h : finA n free = true := by
    rcases hn with rfl | rfl <;> cases free
    · exact fin3f
    · exact fin3t
    · exact fin4f
    · exact fin4t
  exact of_decide_eq_true (List.all_eq_true.mp (List.all_eq_true.mp h κ (List.mem_range.mpr hκ)) up (List.mem_range.mpr hup))
theorem told_law {n r j : Nat} {xs : List Int} (hn : n = 3 ∨ n = 4) (hr : r < 4) : Told (asS (rootT r) (endS j) xs (nmsS xs n) n) (topS r) (nmsS xs n) := by
  have hl := nms_len xs n
  have H : NamesOk (nmW (nmsS xs n)) n := names_ok (by omega)
  generalize nmsS xs n = nms at hl H
  subst hl
  intro κ up hκ hup
  obtain ⟨free, hfree⟩ : ∃ free, free = decide ((topS r).length = 0) := ⟨_, rfl⟩
  have hw : ∀ ch, normS (rootT r ++ walkS xs nms ch ++ endS j) = rendS (nmW nms) (topS r) (absF free nms.length ch) ∧ AbsOk free nms.length (absF free nms.length ch) := fun ch => by
    rw [hfree]; exact norm_walk H (by omega) hr
  have hif : ∀ (α : Type) (a b : α), (if (topS r).length = 0 then a else b) = if free = true then a else b := fun α a b => by
    rw [hfree]
    by_cases h : (topS r).length = 0 <;> simp [h]
  rw [hif] at hup
  rw [hif]
  have ok := OkF.of (show nms.length ≤ 4 by omega) hκ
  have A : AbsOk free nms.length (up, (placesF κ nms.length).map Int.toNat) := by
    refine ⟨fun h => ?_, fun k hk => ?_⟩
    · rw [h] at hup
      simp at hup
      exact hup
    · obtain ⟨i, hi, rfl⟩ := List.mem_map.mp hk
      have := ok.mem i hi
      omega
  have hx : (if (textF (topS r) nms κ up).length = 0 then Str.ofString "." else textF (topS r) nms κ up) = rendS (nmW nms) (topS r) (up, (placesF κ nms.length).map Int.toNat) := by
    have e : textF (topS r) nms κ up = topS r ++ Txt.join sl (partsN (nmW nms) (up, (placesF κ nms.length).map Int.toNat)) := by
      unfold textF partsN
      rw [List.map_map]
      rfl
    rw [e]; rfl
  have has : asS (rootT r) (endS j) xs nms nms.length = (rangeKs 0 (((2 : Int) ^ ((nms.length : Int).toNat)) - 0).toNat).map fun c => rendS (nmW nms) (topS r) (absF free nms.length c) := by
    unfold asS
    exact List.map_congr_left fun c _ => (hw c).1
  rw [has, countIn_map (absF free nms.length) (rendS (nmW nms) (topS r)) _ _ hx _ (fun c _ e => rend_inj H (hw c).2 A e)]
  exact fin_at hn free hκ hup
theorem top_a {r : Nat} (hr : r < 4) (h : (rootT r == Str.ofString "//") = true) : Str.ofString "//" = topS r := by
  have g : ∀ r, r < 4 → (rootT r == Str.ofString "//") = true → Str.ofString "//" = topS r := by decide +kernel
  exact g r hr h
theorem top_b {r : Nat} (hr : r < 4) (h : (rootT r == Str.ofString "//") = false) : Txt.slice (rootT r) none (some 1) = topS r := by
  have g : ∀ r, r < 4 → (rootT r == Str.ofString "//") = false → Txt.slice (rootT r) none (some 1) = topS r := by decide +kernel
  exact g r hr h
end
section
theorem steps_ex (x : Nat) : ∃ n : Nat, 4 - (x : Int).fmod 2 = (n : Int) ∧ (n = 3 ∨ n = 4) := by
  rcases Nat.mod_two_eq_zero_or_one x with h | h
  · exact ⟨4, by rw [Int.fmod_eq_emod_of_nonneg _ (by decide)]; omega, .inr rfl⟩
  · exact ⟨3, by rw [Int.fmod_eq_emod_of_nonneg _ (by decide)]; omega, .inl rfl⟩
theorem small_nat {n : Nat} (h : Hold (n = 3 ∨ n = 4)) : Builtin.Range.small 0 (n : Int) 1 = true := by rcases h with rfl | rfl <;> decide
theorem small_pow {n : Nat} (h : Hold (n = 3 ∨ n = 4)) : Builtin.Range.small 0 (2 ^ (n : Int).toNat) 1 = true := by rcases h with rfl | rfl <;> decide
theorem size_nat {n : Nat} (h : Hold (n = 3 ∨ n = 4)) : ((n : Int) - 0).toNat ≤ sizeLine := by rw [PySem.sizeLine_eq]; rcases h with rfl | rfl <;> decide
theorem size_pow {n : Nat} (h : Hold (n = 3 ∨ n = 4)) : ((2 ^ (n : Int).toNat : Int) - 0).toNat ≤ sizeLine := by rw [PySem.sizeLine_eq]; rcases h with rfl | rfl <;> decide
structure Flag (k : Nat) : Prop where
  ok : True
theorem xs_len {n : Nat} (h : Hold (n = 3 ∨ n = 4)) (l : List Int) : (List.take n l ++ List.take (min n [6, 17, 38, 59].length - (List.take n l).length) (List.drop (List.take n l).length [6, 17, 38, (59 : Int)])).length = n := by
  have h := h.out
  simp only [List.length_append, List.length_take, List.length_drop, List.length_cons, List.length_nil]
  omega
theorem lt_xs' {n : Nat} {xs : List Int} {k : Int} (h : xs.length = n) (hk : k < 0 + ((((n : Int) - 0).toNat : Nat) : Int)) : k < (xs.length : Int) := by omega
theorem lt63' {n : Nat} {k : Int} (h : Hold (n = 3 ∨ n = 4)) (hk : k < 0 + ((((n : Int) - 0).toNat : Nat) : Int)) : k < 2 ^ 63 := by have := h.out; omega
theorem lt4' {n : Nat} {k : Int} (h : Hold (n = 3 ∨ n = 4)) (hk : k < 0 + ((((n : Int) - 0).toNat : Nat) : Int)) : k < 4 := by have := h.out; omega
theorem names_are {ys : List Value} {xs : List Int} {n : Nat} (h : CarriedAll ys ((rangeKs 0 ((n : Int) - 0).toNat).map fun k => PyData.str (nameS (xs.getD k.toNat 0) k))) : StrsAre ys (nmsS xs n) :=
  StrsAre.ofCarried (by unfold nmsS; rw [List.map_map]; exact h)
theorem getD4_len {a b c d : Str} {j B : Nat} (ha : a.length ≤ B) (hb : b.length ≤ B) (hc : c.length ≤ B) (hd : d.length ≤ B) : ([a, b, c, d].getD j Str.empty).length ≤ B := by
  rcases j with _ | _ | _ | _ | j
  · exact ha
  · exact hb
  · exact hc
  · exact hd
  · exact Nat.zero_le _
theorem item_len (x : Str) (k : Int) : (Txt.item x k).length = 1 := rfl
theorem name_len (x k : Int) : (nameS x k).length ≤ 6 := by
  unfold nameS
  rw [Str.length_append, Str.length_append, item_len]
  have h1 := getD4_len (a := Str.ofString "") (b := Str.ofString ".") (c := Str.ofString "..") (d := Str.ofString "...") (j := (x.fmod 4).toNat) (B := 3) (by decide) (by decide) (by decide) (by decide)
  have h2 := getD4_len (a := Str.ofString "") (b := Str.ofString ".") (c := Str.ofString "..") (d := Str.ofString " ") (j := ((x.fdiv 4).fmod 4).toNat) (B := 2) (by decide) (by decide) (by decide) (by decide)
  omega
theorem nms_le (xs : List Int) (n : Nat) : ∀ a ∈ nmsS xs n, a.length ≤ 100 := by
  intro a ha
  obtain ⟨k, _, rfl⟩ := List.mem_map.mp ha
  exact Nat.le_trans (name_len _ _) (by decide)
theorem walk_len {ns : List Int} {nms : List Str} {ch : Int} (h4 : nms.length ≤ 4) (hB : ∀ a ∈ nms, a.length ≤ 100) : (walkS ns nms ch).length ≤ 900 := by
  have h1 := StrLaws.join_length_le (Str.ofString "/") ((List.range nms.length).map (partW ns nms ch))
  have h2 := sum_le (l := (List.range nms.length).map (partW ns nms ch)) (B := 200) fun a ha => by
    obtain ⟨k, _, rfl⟩ := List.mem_map.mp ha
    exact part_len hB k
  have h3 : (Str.ofString "/").length = 1 := by decide
  rw [h3] at h1
  simp only [List.length_map, List.length_range] at h1 h2
  have e : walkS ns nms ch = Str.join (Str.ofString "/") ((List.range nms.length).map (partW ns nms ch)) := StrLaws.glued_eq_join _ _
  rw [e]
  omega
theorem ch16 {n : Nat} {k : Int} (h : Hold (n = 3 ∨ n = 4)) (h0 : 0 ≤ k) (hk : k < 0 + (((((2 : Int) ^ ((n : Int).toNat)) - 0).toNat : Nat) : Int)) : 0 ≤ k ∧ k ≤ 16 := by
  rcases h.out with rfl | rfl
  · have e : (((((2 : Int) ^ (((3 : Nat) : Int).toNat)) - 0).toNat : Nat) : Int) = 8 := by decide
    rw [e] at hk; omega
  · have e : (((((2 : Int) ^ (((4 : Nat) : Int).toNat)) - 0).toNat : Nat) : Int) = 16 := by decide
    rw [e] at hk; omega
theorem path_len {a b c : Str} (ha : a.length ≤ 3) (hb : b.length ≤ 900) (hc : c.length ≤ 3) : (a ++ b ++ c).length ≤ 1000 := by
  rw [Str.length_append, Str.length_append]; omega
theorem path2_len {a b : Str} (ha : a.length ≤ 3) (hb : b.length ≤ 900) : (a ++ b).length ≤ 903 := by
  rw [Str.length_append]; omega
theorem told_a {n r j : Nat} {xs : List Int} {rt en : Str} (h : Hold (n = 3 ∨ n = 4)) (hrt : rt = rootT r) (hen : en = endS j) (hr : r < 4) (he : (rt == Str.ofString "//") = true) : Told (asS rt en xs (nmsS xs n) n) (Str.ofString "//") (nmsS xs n) := by
  subst hrt hen
  rw [top_a hr he]; exact told_law h.out hr
theorem told_b {n r j : Nat} {xs : List Int} {rt en : Str} (h : Hold (n = 3 ∨ n = 4)) (hrt : rt = rootT r) (hen : en = endS j) (hr : r < 4) (he : (rt == Str.ofString "//") = false) : Told (asS rt en xs (nmsS xs n) n) (Txt.slice rt none (some 1)) (nmsS xs n) := by
  subst hrt hen
  rw [top_b hr he]; exact told_law h.out hr
theorem topb_len {rt : Str} {r : Nat} (hrt : rt = rootT r) (hr : r < 4) (he : (rt == Str.ofString "//") = false) : (Txt.slice rt none (some 1)).length ≤ 2 := by
  subst hrt
  rw [top_b hr he]
  have g : ∀ r, r < 4 → (topS r).length ≤ 2 := by decide +kernel
  exact g r hr
theorem mod4_lt (x : Int) : (x.fmod 4).toNat < 4 := by
  have h1 := fmod_lo x (n := 4) (by decide)
  have h2 := fmod_hi x (n := 4) (by decide)
  omega
theorem ans_are {ys : List Value} {rt en : Str} {xs : List Int} {nms : List Str} {n : Nat} (h : CarriedAll ys ((rangeKs 0 (((2 : Int) ^ ((n : Int).toNat)) - 0).toNat).map fun k => PyData.str (normS (rt ++ walkS xs nms k ++ en)))) : StrsAre ys (asS rt en xs nms n) :=
  StrsAre.ofCarried (by unfold asS; rw [List.map_map]; exact h)
local macro_rules | `(tactic| walk_at "call builtin:sum") => `(tactic| ((have _ : Flag 1 := by assumption); refine Hold.out ?_))
local macro_rules | `(tactic| walk_at "subscriptTail Name Slice ref ref") => `(tactic| first | (k_here; (with_reducible show wpAny _ _ (subscriptTail _ (PySem.Expr.Slice (some _) (some _) none _) (Value.ref _) (Value.ref _)) _ _ _); k_dflt (refine' kmk_slice_ints ?kzF ?kzN ?kzl ?kzp ?kzq ?kzi ?kzm ?kzc ?_ ?kzs ?kzt ?kzz; (case kzF => k_asm); (case kzN => k_asm); (case kzl => kmk_list); (case kzp => kmk_part); (case kzq => kmk_part); (case kzi => l_ints); (case kzm => exact kmk_run (by l_ints) (by omega) (by omega)); (case kzc => kmk_len); (case kzs => with_unfolding_all rfl); (case kzt => kmk_pure); (case kzz => kmk_size)); intro D' ws' h' F' N' l1 hI' hC' hL'; (try simp only [Int.toNat_natCast] at hI' hC' hL'); (try k_lt l1); (try k_sweep)) | (refine Hold.out ?_))
local macro_rules | `(tactic| walk_at "subscriptTail") => `(tactic| (k_here; (with_reducible show wpAny _ _ (subscriptTail _ _ (Value.ref _) (Value.int (Int.fmod _ 4) _)) _ _ _); (with_unfolding_all refine' KTb.item_tup ?k1 ?k2 ?k3 ?k4 ?k5 ?_; (case k1 => k_dflt (exact News.isTup (by k_asm) (by k_mem))); (case k2 => repeat constructor); (case k3 => exact fmod_lo _ (by decide)); (case k4 => exact fmod_hi _ (by decide)); (case k5 => exact Int.lt_trans (fmod_hi _ (by decide)) (by decide)); k_whole); intro _ _))
local macro_rules | `(tactic| walk_at "CompEnd") => `(tactic| (refine' comp_end ?k1 ?k2 ?k3 ?k4 ?_; (case k1 => ((with_reducible rename Fr _ _ _ _ => fF); exact fF)); (case k2 => with_reducible assumption); (case k3 => ((simp only [LCg.Off3, and_true]); with_reducible assumption)); (case k4 => first | exact True.intro | lcg_src | assumption)))
local macro_rules | `(tactic| walk_at "call ref") => `(tactic| (k_here; (with_reducible show wpAny _ _ (call (Value.ref 129) [Value.int _ _, Value.int _ _]) _ _ _); k_dflt (refine' Ctr.use (c_name _ _ _ _ _ ?ha) ?k1 ?k2 ?k3 ?k4 ?k5 ?kK ?kd ?ku ?_; (case k1 => k_asm); (case k2 => k_asm); (case k3 => k_asm); (case k4 => k_asm); (case k5 => k_asm); (case kK => first | exact rfl | assumption); (case kd => ktr_room); (case ku => ktr_units); (case ha => exact ⟨by with_reducible assumption, lt4' (by with_reducible assumption) (by with_reducible assumption)⟩); k_whole); (rintro v' tl' h' tk' ⟨ht', t9, hv'⟩ - F' N'); subst hv' ht'; (try dsimp only [List.nil_append] at N'); (try k_fold)))
local macro_rules | `(tactic| walk_at "CompSrc") => `(tactic| first | (k_here; k_dflt (refine' LCg.CompSrc.range ?h1 ?h2 ?h3 ?h4 ?h5 ?h6 ?h7 ?h8; (case h1 => exact rfl); (case h2 => k_asm); (case h3 => k_asm); (case h4 => with_reducible assumption); (case h5 => with_reducible exact small_nat (by assumption)); (case h6 => exact rangeSize_nat _ _); (case h7 => with_reducible exact size_nat (by assumption)); (intro g'; (refine' kct_range _ (fun k' t' I' oI' C' oC' D' m' ys' h' tk' E' hlo' hhi' hC' hx' F' N' off' ne' hMark' => ?_) ?_)); (all_goals (try (simp only [LCg.Off3, and_true] at off'))); kcf_last)) | refine Hold.out ?_)
local macro_rules | `(tactic| walk_at "subscriptTail Name Name ref int") => `(tactic| (k_here; (with_reducible show wpAny _ _ (subscriptTail _ _ (Value.ref _) (Value.int _ _)) _ _ _); (with_unfolding_all refine' item_nums ?k1 ?k2 ?k3 ?k4 ?k5 ?k6 ?_; (case k1 => k_asm); (case k2 => k_dflt k_mem); (case k3 => with_reducible assumption); (case k4 => with_reducible assumption); (case k5 => exact lt_xs' (by with_reducible assumption) (by with_reducible assumption)); (case k6 => exact lt63' (by with_reducible assumption) (by with_reducible assumption)); k_whole; intro _)))
local macro_rules | `(tactic| walk_at "call ref") => `(tactic| (k_here; (with_reducible show wpAny _ _ (call (Value.ref 136) [Value.ref _, Value.ref _, Value.int _ _]) _ _ _); k_dflt (refine' Ctr.use (c_walk _ _ _ _ _ _ _ _ _ _ _ ?ha ?hb ?hi ?hs ?hl ?hf ?hB ?hc) ?k1 ?k2 ?k3 ?k4 ?k5 ?kK ?kd ?ku ?_; (case k1 => k_asm); (case k2 => k_asm); (case k3 => k_asm); (case k4 => k_asm); (case k5 => k_asm); (case kK => first | exact rfl | assumption); (case kd => ktr_room); (case ku => ktr_units); (case ha => k_dflt k_mem); (case hb => k_dflt k_mem); (case hi => with_reducible assumption); (case hs => with_reducible assumption); (case hl => with_reducible assumption); (case hf => with_reducible assumption); (case hB => with_reducible assumption); (case hc => with_reducible assumption); k_whole); (rintro v' tl' h' tk' ⟨ht', t9, hv'⟩ - F' N'); subst hv' ht'; (try dsimp only [List.nil_append] at N'); (try k_fold)))
local macro_rules | `(tactic| walk_at "call ref") => `(tactic| (k_here; (with_reducible show wpAny _ _ (call (Value.ref 108) [Value.str _ _]) _ _ _); k_dflt (refine' Ctr.use (c_norm _ _ _ ?ha) ?k1 ?k2 ?k3 ?k4 ?k5 ?kK ?kd ?ku ?_; (case k1 => k_asm); (case k2 => k_asm); (case k3 => k_asm); (case k4 => k_asm); (case k5 => k_asm); (case kK => first | exact rfl | assumption); (case kd => ktr_room); (case ku => ktr_units); (case ha => exact path_len (by with_reducible assumption) (by with_reducible assumption) (by with_reducible assumption)); k_whole); (rintro v' tl' h' tk' ⟨ht', t9, hv'⟩ - F' N'); subst hv' ht'; (try dsimp only [List.nil_append] at N'); (try k_fold)))
local macro_rules | `(tactic| walk_at "call ref") => `(tactic| (k_here; (with_reducible show wpAny _ _ (call (Value.ref 141) [Value.ref _, Value.str _ _, Value.ref _]) _ _ _); k_dflt (refine' Ctr.use (c_told _ _ _ _ _ _ _ _ _ _ _ ?ha ?hb ?hi ?hs ?hf ?hB ?ht ?hH) ?k1 ?k2 ?k3 ?k4 ?k5 ?kK ?kd ?ku ?_; (case k1 => k_asm); (case k2 => k_asm); (case k3 => k_asm); (case k4 => k_asm); (case k5 => k_asm); (case kK => first | exact rfl | assumption); (case kd => ktr_room); (case ku => ktr_units); (case ha => k_dflt k_mem); (case hb => k_dflt k_mem); (case hi => with_reducible assumption); (case hs => with_reducible assumption); (case hf => with_reducible assumption); (case hB => with_reducible assumption); (case ht => first | exact topb_len (by with_reducible assumption) (by with_reducible assumption) (by with_reducible assumption) | decide); (case hH => first | exact told_a (by with_reducible assumption) (by with_reducible assumption) (by with_reducible assumption) (by with_reducible assumption) (by with_reducible assumption) | exact told_b (by with_reducible assumption) (by with_reducible assumption) (by with_reducible assumption) (by with_reducible assumption) (by with_reducible assumption)); k_whole); (rintro v' tl' h' tk' ⟨ht', hv'⟩ - F' N'); subst hv' ht'; (try dsimp only [List.nil_append] at N'); (try k_fold)))
local macro_rules | `(tactic| walk_at "binaryOp Add str str") => `(tactic| (k_here; (with_reducible show wpAny _ _ (binaryOp Operator.Add (Value.str _ _) (Value.str _ _)) _ _ _); (refine' KXadd.add (K := 903) (L := 900) ?kxaa ?kxab ?kxac ?_; (case kxaa => first | (with_reducible exact path2_len (by assumption) (by assumption)) | exact Nat.le_trans (by with_reducible assumption : _ ≤ 3) (by decide)); (case kxab => first | (with_reducible assumption) | exact Nat.le_trans (by with_reducible assumption : _ ≤ 3) (by decide)); (case kxac => decide)); intro _ _ kpxZ; clear kpxZ))
theorem law_holds : PySem.Challenge.rw_oy0516_01.Holds := hd (by
  w_top off
  w_strict (k_go0; (all_goals try k_fold); k_steps)
  refine Hold.mk ?_
  with_reducible rename Fr _ _ _ _ => F9
  with_reducible rename IntsAre _ _ => I9
  obtain ⟨n, hn, hn4⟩ := steps_ex (List.length _)
  rw [hn] at F9 ⊢
  have hg : Hold (n = 3 ∨ n = 4) := hn4
  have hN0 : (0 : Int) ≤ n := by omega
  (k_here; (with_reducible show wpAny _ _ (subscriptTail _ (PySem.Expr.Slice _ _ none _) (Value.ref _) (Value.ref _)) _ _ _); k_dflt (refine' kmk_slice_ints ?kzF ?kzN ?kzl ?kzp ?kzq ?kzi ?kzm ?kzc ?_ ?kzs ?kzt ?kzz; (case kzF => k_asm); (case kzN => k_asm); (case kzl => kmk_list); (case kzp => kmk_part); (case kzq => kmk_part); (case kzi => l_ints); (case kzm => exact kmk_upto (by l_ints) (by omega)); (case kzc => kmk_len); (case kzs => with_unfolding_all rfl); (case kzt => kmk_pure); (case kzz => kmk_size)); intro D' ws' h' F' N' l1 hI' hC' hL'; (try simp only [Int.toNat_natCast] at hI' hC' hL'); (try k_lt l1); (try k_sweep))
  clear hn4
  have hfl : Flag 1 := ⟨trivial⟩
  k_steps
  clear hfl
  refine Hold.mk ?_
  with_reducible rename IntsAre _ (_ ++ _) => I8
  have hxl := xs_len hg (by assumption)
  generalize (List.take n _ ++ List.take (min n [6, 17, 38, 59].length - (List.take n _).length) (List.drop (List.take n _).length [6, 17, 38, (59 : Int)])) = xs at *
  with_reducible rename Flag 1 => hfl2
  clear hfl2
  k_steps
  refine Hold.mk ?_
  with_reducible rename CarriedAll _ _ => C8
  with_reducible rename IntsAre _ xs => I8
  have hs9 := names_are C8
  have hn9 := nms_len xs n
  have hl9 : xs.length = (nmsS xs n).length := hxl.trans hn9.symm
  have h49 : Hold ((nmsS xs n).length ≤ 4) := by rw [hn9]; have h := hg.out; refine Hold.mk ?_; omega
  have hB9 := nms_le xs n
  generalize hrt : List.getD [Str.ofString "", Str.ofString "/", Str.ofString "//", Str.ofString "///"] (Int.toNat (Int.fmod xs.sum 4)) Str.empty = rt at *
  generalize hen : List.getD [Str.ofString "", Str.ofString "/", Str.ofString "/.", Str.ofString "//."] (Int.toNat (Int.fmod (Int.fdiv xs.sum 4) 4)) Str.empty = en at *
  have hr4 := mod4_lt xs.sum
  have hrt' : rt = rootT (Int.toNat (Int.fmod xs.sum 4)) := hrt.symm
  have hen' : en = endS (Int.toNat (Int.fmod (Int.fdiv xs.sum 4) 4)) := hen.symm
  have hrl : rt.length ≤ 3 := by rw [← hrt]; exact getD4_len (by decide) (by decide) (by decide) (by decide)
  have hel : en.length ≤ 3 := by rw [← hen]; exact getD4_len (by decide) (by decide) (by decide) (by decide)
  refine' LCg.CompSrc.range ?h1 ?h2 ?h3 ?h4 ?h5 ?h6 ?h7 ?h8
  case h1 => rfl
  case h2 => k_asm
  case h3 => k_asm
  case h4 => with_reducible assumption
  case h5 => with_reducible exact small_pow (by assumption)
  case h6 => exact rangeSize_nat _ _
  case h7 => with_reducible exact size_pow (by assumption)
  intro g'
  refine' kct_range (fun ch => normS (rt ++ walkS xs (nmsS xs n) ch ++ en)) (fun k' t' I' oI' C' oC' D' m' ys' h' tk' E' hlo' hhi' hC' hx' F' N' off' ne' hMark' => ?_) ?_
  · simp only [LCg.Off3, and_true] at off'
    k_fold
    have hc9 := ch16 hg hlo' hhi'
    have hw9 := walk_len (ns := xs) (ch := k') h49.out hB9
    k_steps
  · walk_at "KPfDone"
    with_reducible rename CarriedAll _ _ => C9
    have ha9 := ans_are C9
    k_steps)
end
end Mine
theorem PySem.Challenge.cw_oy0516_01_holds : PySem.Challenge.rw_oy0516_01.Holds :=
  Mine.law_holds
