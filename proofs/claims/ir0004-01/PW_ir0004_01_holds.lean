import PyProof.Rows.All
import Wide.All
import OpenK.AllK
import Wide.FinOn
import Lean
import PySem.Challenge.RW_ir0004_01
open PySem PySem.W PyProof.Rows
set_option Elab.async false
set_option linter.unusedVariables false
set_option linter.unusedSimpArgs false
set_option maxRecDepth 100000
set_option maxHeartbeats 8000000
namespace Mine
open_top lawTop for PySem.Challenge.rw_ir0004_01
theorem walkOff : True := by
  w_top off
  trivial
end Mine

namespace Mine

section
open PySem.Calls
section
variable {prog : Program} {w : World} {A : Around} {E : Value → Shared → Prop} {s : Shared}
theorem forIn_cons_go {α β : Type} {x : α} {l : List α} {b : β} {f : α → β → Sem (ForInStep β)} {Q : β → Shared → Prop} {M : Model}
    (h : wpAny M A (f x b) (fun r s' => match r with | .done b' => Q b' s' | .yield b' => wpAny M A (forIn l b' f) Q E s') E s) : wpAny M A (forIn (x :: l) b f) Q E s := by
  rw [List.forIn_cons]
  refine wpAny_bind (wpAny_mono h (fun r s' h' => ?_) fun _ _ e => e)
  cases r with
  | done b' => exact wpAny_pure h'
  | yield b' => exact h'
theorem forIn_nil_go {α β : Type} {b : β} {f : α → β → Sem (ForInStep β)} {Q : β → Shared → Prop} {M : Model} (h : Q b s) : wpAny M A (forIn ([] : List α) b f) Q E s := by
  rw [List.forIn_nil]; exact wpAny_pure h

abbrev pairObj (i : Int) (t : Tok) (c : Str) (u : Tok) : Obj := { cls := .type "tuple", data := .seq #[.int i t, .str c u] }

theorem tuple_lt_call {a b : Addr} {i j : Int} {c d : Str} {t u t' u' : Tok} {Q : Value → Shared → Prop}
    (ha : s.heap.get? a = some (pairObj i t c t')) (hb : s.heap.get? b = some (pairObj j u d u'))
    (h : Q (.bool (decide (i < j) || (decide (i = j) && decide (c.cps.toList < d.cps.toList)))) s) :
    wpAny (model prog w) A (call (.builtin "tuple.__lt__") [.ref a, .ref b]) Q E s := by
  have hTb : s.TypeIs (.ref b) "tuple" := ⟨_, hb, rfl⟩
  refine wpAny_call_entry PySem.F.slot_tuple_lt ⟨_, ha, rfl⟩ PySem.F.entry_tuple_lt ?_ (PySem.F.args_tuple_lt_2 _ _)
  show wpAny _ _ (isInstance (.ref b) (.type "tuple") >>= _) _ _ s
  refine wpAny_bind (wpAny_isInstance hTb isSubtype_tuple_tuple ?_)
  simp only [Bool.not_true, Bool.false_eq_true, if_false]
  refine wpAny_bind (wpAny_tupleItemsOf ha rfl ?_)
  refine wpAny_bind (wpAny_tupleItemsOf hb rfl ?_)
  refine wpAny_bind ?_
  show wpAny _ _ (forIn [(Value.int i t, Value.int j u), (Value.str c t', Value.str d u')] _ _) _ _ _
  refine forIn_cons_go (wpAny_bind (wpAny_eqBool_int ?_))
  by_cases hij : i = j
  · subst hij
    simp only [beq_self_eq_true, Bool.not_true, Bool.false_eq_true, if_false]
    refine wpAny_pure ?_
    try dsimp only
    refine forIn_cons_go (wpAny_bind (wpAny_eqBool_str ?_))
    by_cases hcd : c = d
    · subst hcd
      simp only [decide_true, Bool.not_true, Bool.false_eq_true, if_false]
      refine wpAny_pure ?_
      dsimp only
      refine forIn_nil_go ?_
      dsimp only
      refine wpAny_pure ⟨_, rfl, ?_⟩
      exact (by simpa [Int.lt_irrefl, List.lt_irrefl] using h : Q (.bool false) s)
    · simp only [decide_eq_false hcd, Bool.not_false, if_true]
      refine wpAny_bind (wpAny_rule ?_)
      refine wpAny_bind (lt_str ?_)
      refine wpAny_bind (wpAny_pure ?_)
      refine wpAny_pure ?_
      dsimp only
      refine wpAny_pure ⟨_, rfl, ?_⟩
      simpa [Int.lt_irrefl] using h
  · have : (i == j) = false := by simpa using hij
    simp only [this, Bool.not_false, if_true]
    refine wpAny_bind (wpAny_rule ?_)
    refine wpAny_bind (lt_int ?_)
    refine wpAny_bind (wpAny_pure ?_)
    refine wpAny_pure ?_
    dsimp only
    refine wpAny_pure ⟨_, rfl, ?_⟩
    simpa [hij] using h

theorem pair_lt {a b : Addr} {i j : Int} {c d : Str} {t u t' u' : Tok} {Q : Value → Shared → Prop} (hu : A.units < cLine)
    (ha : s.heap.get? a = some (pairObj i t c t')) (hb : s.heap.get? b = some (pairObj j u d u'))
    (h : Q (.bool (decide (i < j) || (decide (i = j) && decide (c.cps.toList < d.cps.toList)))) s) :
    wpAny (model prog w) A (compareOp .Lt (.ref a) (.ref b)) Q E s := by
  show wpAny _ _ (richCompare .Lt (.ref a) (.ref b)) Q E s
  exact wpAny_richCompare_same_room (op := .Lt) ⟨_, ha, rfl⟩ ⟨_, hb, rfl⟩ PySem.F.slot_tuple_lt (tuple_lt_call (Q := fun v s' => v ≠ .notImplemented ∧ Q v s') ha hb ⟨(fun e => nomatch e), h⟩) hu
end
end

section
/-- a pair (int, str) of the heap -/
structure Pr where
  a : Addr
  i : Int
  ti : Tok
  c : Str
  tc : Tok
  deriving Inhabited
abbrev Pr.v (e : Pr) : Value := .ref e.a
abbrev Pr.obj (e : Pr) : Obj := pairObj e.i e.ti e.c e.tc
def Pr.lt (x y : Pr) : Bool := decide (x.i < y.i) || (decide (x.i = y.i) && decide (x.c.cps.toList < y.c.cps.toList))

/-- a list of pairs as it lies in the ledger -/
abbrev prs (xs : List Pr) (n : Nat) : Obj := listOf (xs.map Pr.v).toArray n

/-- a job (due, name, length) of the heap -/
structure Jb where
  a : Addr
  d : Int
  td : Tok
  c : Str
  tc : Tok
  n : Int
  tn : Tok
  deriving Inhabited
abbrev Jb.v (e : Jb) : Value := .ref e.a
abbrev Jb.obj (e : Jb) : Obj := { cls := .type "tuple", data := .seq #[.int e.d e.td, .str e.c e.tc, .int e.n e.tn] }
abbrev jbs (xs : List Jb) (n : Nat) : Obj := listOf (xs.map Jb.v).toArray n
abbrev sv (x : Str × Tok) : Value := .str x.1 x.2
abbrev sts (xs : List (Str × Tok)) (n : Nat) : Obj := listOf (xs.map sv).toArray n
theorem strsAre_sv : ∀ xs : List (Str × Tok), StrsAre (xs.map sv) (xs.map (·.1))
  | [] => .nil
  | x :: r => .cons x.1 x.2 (strsAre_sv r)
theorem jb_of {xs : List Jb} {i : Nat} {v : Value} (h : (xs.map Jb.v)[i]? = some v) : ∃ x, xs[i]? = some x ∧ v = .ref x.a := by
  rw [List.getElem?_map] at h
  cases hx : xs[i]? with
  | none => rw [hx] at h; cases h
  | some x => rw [hx] at h; exact ⟨x, rfl, (Option.some.inj h).symm⟩

/-- a pair (int, int) of the heap -/
structure Lot where
  a : Addr
  i : Int
  ti : Tok
  j : Int
  tj : Tok
  deriving Inhabited
abbrev Lot.v (e : Lot) : Value := .ref e.a
abbrev Lot.obj (e : Lot) : Obj := { cls := .type "tuple", data := .seq #[.int e.i e.ti, .int e.j e.tj] }
abbrev lots (xs : List Lot) (n : Nat) : Obj := listOf (xs.map Lot.v).toArray n
abbrev Lot.key (e : Lot) : Int × Int := (e.i, e.j)
theorem lot_of {xs : List Lot} {i : Nat} {v : Value} (h : (xs.map Lot.v)[i]? = some v) : ∃ x, xs[i]? = some x ∧ v = .ref x.a := by
  rw [List.getElem?_map] at h
  cases hx : xs[i]? with
  | none => rw [hx] at h; cases h
  | some x => rw [hx] at h; exact ⟨x, rfl, (Option.some.inj h).symm⟩

abbrev Ar (dp un : Nat) (gd : Option (List Code)) (env : Env) (outer : List Env) : Around := { handled := none, depth := dp, frames := some (env :: outer), guards := gd, units := un }

theorem all_set {rest : List (Addr × Obj)} {xs : List Pr} {i : Nat} {e : Pr} (h : ∀ q ∈ xs, (q.a, q.obj) ∈ rest) (he : (e.a, e.obj) ∈ rest) : ∀ q ∈ xs.set i e, (q.a, q.obj) ∈ rest := by
  intro q hq
  rcases List.mem_or_eq_of_mem_set hq with hq | rfl
  · exact h q hq
  · exact he
theorem all_app {rest : List (Addr × Obj)} {xs : List Pr} {e : Pr} (h : ∀ q ∈ xs, (q.a, q.obj) ∈ rest) (he : (e.a, e.obj) ∈ rest) : ∀ q ∈ xs ++ [e], (q.a, q.obj) ∈ rest := by
  intro q hq
  rcases List.mem_append.mp hq with hq | hq
  · exact h q hq
  · rw [List.mem_singleton.mp hq]; exact he

theorem upd_use {l : Addr} {o : Obj} {news : List (Addr × Obj)} {g : Obj → List (Addr × Obj)} (U : UpdF l o news g) (ho : o.cls = .type "list") :
    ∃ rest, (∀ p ∈ (l, o) :: rest, p ∈ news) ∧ (∀ q ∈ rest, q.1 ≠ l) ∧ (∀ o', ∀ p ∈ g o', p ∈ (l, o') :: rest) ∧ ∀ a (t : Obj), t.cls = .type "tuple" → (a, t) ∈ news → (a, t) ∈ rest := by
  obtain ⟨pre, post, rfl, hg, a, b⟩ := U.split
  refine ⟨pre ++ post, fun p hp => ?_, fun q hq => ?_, fun o' p hp => ?_, fun x t ht hm => ?_⟩
  · rcases List.mem_cons.mp hp with rfl | hp
    · exact List.mem_append_right _ (.head _)
    · rcases List.mem_append.mp hp with hp | hp
      · exact List.mem_append_left _ hp
      · exact List.mem_append_right _ (.tail _ hp)
  · rcases List.mem_append.mp hq with hq | hq
    · exact a q hq
    · exact b q hq
  · rw [hg] at hp
    rcases List.mem_append.mp hp with hp | hp
    · exact .tail _ (List.mem_append_left _ hp)
    · rcases List.mem_cons.mp hp with rfl | hp
      · exact .head _
      · exact .tail _ (List.mem_append_right _ hp)
  · rcases List.mem_append.mp hm with hm | hm
    · exact List.mem_append_left _ hm
    · rcases List.mem_cons.mp hm with e | hm
      · cases e; rw [ho] at ht; exact absurd ht (by decide)
      · exact List.mem_append_right _ hm
theorem nsub {h₀ h : Heap} {L : Addr} {news news' : List (Addr × Obj)} (N : News h₀ L h news) (s : ∀ p ∈ news', p ∈ news) : News h₀ L h news' := fun p hp => N p (s p hp)
theorem all_lift {rest news : List (Addr × Obj)} {xs : List Pr} (s : ∀ p ∈ rest, p ∈ news) (h : ∀ q ∈ xs, (q.a, q.obj) ∈ rest) : ∀ q ∈ xs, (q.a, q.obj) ∈ news := fun q hq => s _ (h q hq)

theorem item_of {xs : List Pr} {i : Nat} {v : Value} (h : (xs.map Pr.v)[i]? = some v) : ∃ x, xs[i]? = some x ∧ v = .ref x.a := by
  rw [List.getElem?_map] at h
  cases hx : xs[i]? with
  | none => rw [hx] at h; cases h
  | some x => rw [hx] at h; exact ⟨x, rfl, (Option.some.inj h).symm⟩
theorem drop_of {α : Type} {xs : List α} {i : Nat} {x : α} (h : xs[i]? = some x) : xs.drop i = x :: xs.drop (i + 1) := by
  obtain ⟨hi, e⟩ := List.getElem?_eq_some_iff.mp h
  rw [← e]; exact List.drop_eq_getElem_cons hi

def Stop (P : Prop) : Prop := P
theorem stop_here {P : Prop} (h : Stop P) : P := h
theorem go_on {P : Prop} (h : P) : Stop P := h

theorem int_val_eq {i j : Int} {t : Tok} (h : i = j) : some (Value.int i t) = some (Value.int j t) := by rw [h]
theorem fdiv2 (a : Int) : a.fdiv (2 ^ Int.toNat 1) = a / 2 := by
  show a.fdiv 2 = a / 2
  exact Int.fdiv_eq_ediv_of_nonneg a (by decide)
theorem getD_of {α : Type} {xs : List α} {i : Nat} {e d : α} (h : xs[i]? = some e) : xs.getD i d = e := by
  rw [List.getD_eq_getElem?_getD, h]; rfl

section
variable {prog : Program} {w : World} {A : Around} {E : Value → Shared → Prop} {s : Shared} {h₀ : Heap} {L l : Addr} {m : Str → Option Value} {news news' rest : List (Addr × Obj)} {xs : List Pr} {n : Nat}

theorem pr_item {value slice : Expr} {i : Int} {u : Tok} {Q : Value → Shared → Prop} (N : News h₀ L s.heap news) (hm : (l, prs xs n) ∈ news) (hx : ∀ e ∈ xs, (e.a, e.obj) ∈ rest) (h0 : 0 ≤ i) (h1 : i < xs.length) (hz : xs.length ≤ 100)
    (h : ∀ e, xs[i.toNat]? = some e → e ∈ xs → (e.a, e.obj) ∈ rest → Q (.ref e.a) s)
    (hs : subscripted slice false (.ref l) (.int i u) = operate [.ref l, .int i u] (getItem (.ref l) (.int i u)) := by with_unfolding_all rfl) (hg : ∀ r, letTemporaryGo value (.ref l) r = pure () := by intro _; with_unfolding_all rfl) :
    wpAny (model prog w) A (subscriptTail value slice (.ref l) (.int i u)) Q E s := by
  have hi : i.toNat < xs.length := by omega
  have he : xs[i.toNat]? = some (xs[i.toNat]'hi) := List.getElem?_eq_getElem hi
  refine item_listL ⟨_, (N _ hm).1, rfl, n, rfl⟩ h0 (by omega) (x := .ref (xs[i.toNat]'hi).a) ?_ (h _ he (List.getElem_mem hi) (hx _ (List.getElem_mem hi))) hs hg
  rw [List.getElem?_map, he]; rfl

theorem pr_set {i : Int} {t : Tok} {e : Pr} {Q : Unit → Shared → Prop} (F : Fr h₀ L s.heap m) (N : News h₀ L s.heap news) (h0 : 0 ≤ i) (h1 : i < xs.length) (hz : xs.length ≤ 100)
    (U : Upd l (prs xs n) (prs (xs.set i.toNat e) n) news news') (h : ∀ h', Fr h₀ L h' m → News h₀ L h' news' → Q () { s with heap := h' }) :
    wpAny (model prog w) A (setItem (.ref l) (.int i t) (.ref e.a)) Q E s := by
  obtain ⟨pre, post, rfl, rfl, a, b⟩ := U.split
  have z := N (l, prs xs n) (List.mem_append.mpr (.inr (.head _)))
  refine ki_setAt z.1 h0 (by omega) (by simpa using h1) (h _ (F.change (Heap.SameBut.update ..) z.2.1 z.2.2) (ki_turn _ N a b ?_ ?_))
  · apply Array.toList_inj.mp
    simp [List.map_set]
  · simp

theorem pr_lt {x y : Pr} {Q : Value → Shared → Prop} (hu : A.units < cLine) (N : News h₀ L s.heap news) (ha : (x.a, x.obj) ∈ news) (hb : (y.a, y.obj) ∈ news) (h : Q (.bool (x.lt y)) s) :
    wpAny (model prog w) A (compareOp .Lt (.ref x.a) (.ref y.a)) Q E s := pair_lt hu (N _ ha).1 (N _ hb).1 h

theorem st_in {xs : List (Str × Tok)} {k : Str} {t : Tok} {Q : Value → Shared → Prop} (N : News h₀ L s.heap news) (hm : (l, sts xs n) ∈ news) (h : Q (.bool (xs.any fun x => x.1 == k)) s) :
    wpAny (model prog w) A (compareOp .In (.str k t) (.ref l)) Q E s :=
  in_list_strs ⟨_, (N _ hm).1, rfl, n, rfl⟩ (strsAre_sv xs) (by rw [List.any_map]; exact h)
theorem st_notIn {xs : List (Str × Tok)} {k : Str} {t : Tok} {Q : Value → Shared → Prop} (N : News h₀ L s.heap news) (hm : (l, sts xs n) ∈ news) (h : Q (.bool (!(xs.any fun x => x.1 == k))) s) :
    wpAny (model prog w) A (compareOp .NotIn (.str k t) (.ref l)) Q E s :=
  notin_list_strs ⟨_, (N _ hm).1, rfl, n, rfl⟩ (strsAre_sv xs) (by rw [List.any_map]; exact h)

theorem pr_append {e : Pr} {Q : Value → Shared → Prop} (F : Fr h₀ L s.heap m) (N : News h₀ L s.heap news) (hz : xs.length ≤ 100)
    (U : Upd l (prs xs n) (prs (xs ++ [e]) (n + 1)) news news') (h : ∀ h', Fr h₀ L h' m → News h₀ L h' news' → Q .none { s with heap := h' }) :
    wpAny (model prog w) A (call (.builtin "list.append") [.ref l, .ref e.a]) Q E s := by
  refine append_K F N (its := (xs.map Pr.v).toArray) (n := n) (x := .ref e.a) ?_ h (by rw [List.size_toArray, List.length_map, sizeLine_eq]; omega)
  have e1 : (xs.map Pr.v).toArray.push (.ref e.a) = ((xs ++ [e]).map Pr.v).toArray := by simp
  rw [e1]; exact U

theorem pr_pop {e : Pr} {Q : Value → Shared → Prop} (F : Fr h₀ L s.heap m) (N : News h₀ L s.heap news) {ys : List Pr} (hz : xs.length ≤ 100) (he : xs = ys ++ [e])
    (U : Upd l (prs xs n) (prs ys (n + 1)) news news') (h : ∀ h', Fr h₀ L h' m → News h₀ L h' news' → Q (.ref e.a) { s with heap := h' }) :
    wpAny (model prog w) A (call (.builtin "list.pop") [.ref l]) Q E s := by
  subst he
  refine kl_pop F N (p := ys.map Pr.v) (y := .ref e.a) ?_ U (by rw [sizeLine_eq]; simp at hz ⊢; omega) h
  have := kpa_last (.ref e.a) (ys.map Pr.v)
  simpa using this
theorem pr_len {Q : Value → Shared → Prop} (N : News h₀ L s.heap news) (hm : (l, prs xs n) ∈ news) (hz : xs.length ≤ 100) (h : ∀ t tk, Q (.int xs.length t) { s with toks := tk }) :
    wpAny (model prog w) A (call (.builtin "len") [.ref l]) Q E s :=
  kun_lenL ⟨_, (N _ hm).1, rfl, n, rfl⟩ (k := (xs.length : Int)) (by simp) (by omega) (h _ _)
theorem pr_truthy {Q : Bool → Shared → Prop} (N : News h₀ L s.heap news) (hm : (l, prs xs n) ∈ news) (hz : xs.length ≤ 100) (h : ∀ tk, Q (decide (0 < xs.length)) { s with toks := tk }) :
    wpAny (model prog w) A (truthy (.ref l)) Q E s := by
  refine wpAny_truthy_list ⟨_, (N _ hm).1, rfl, n, rfl⟩ (by simp; omega) ?_
  have e : (!(xs.map Pr.v).toArray.isEmpty) = decide (0 < xs.length) := by cases xs <;> simp
  rw [e]; exact h _
end

end

section
open PySem.Calls
section
variable {prog : Program} {w : World} {A : Around} {s : Shared} {env : Env} {h₀ : Heap} {E : Value → Shared → Prop} {Q : Flow → Shared → Prop}

/-- a turn's end: the iterator stands, J holds of the next number -/
def TurnEnd (h₀ : Heap) (L : Addr) (It : Addr) (io : Obj) (J : (Str → Option Value) → List (Addr × Obj) → Prop) (s s₂ : Shared) : Prop :=
  ∃ h' tk m' news', s₂ = { s with heap := h', toks := tk } ∧ Fr h₀ L h' m' ∧ News h₀ L h' ((It, io) :: news') ∧ (∀ p ∈ news', p.1 ≠ It) ∧ J m' news'
def TurnPost (h₀ : Heap) (L : Addr) (It : Addr) (io : Obj) (J : (Str → Option Value) → List (Addr × Obj) → Prop) (Q : Flow → Shared → Prop) (s : Shared) (f : Flow) (s₂ : Shared) : Prop :=
  match f with
  | .ret v => Q (.ret v) s₂
  | .brk => Q .next s₂
  | _ => TurnEnd h₀ L It io J s s₂
theorem TurnEnd.intro {L It : Addr} {io : Obj} {J : (Str → Option Value) → List (Addr × Obj) → Prop} {h' : Heap} {tk : Nat} {m' : Str → Option Value} {news' all : List (Addr × Obj)}
    (F : Fr h₀ L h' m') (N : News h₀ L h' all) (hi : (It, io) ∈ all) (hs : ∀ p ∈ news', p ∈ all) (ho : ∀ p ∈ news', p.1 ≠ It) (hj : J m' news') : TurnEnd h₀ L It io J s { s with heap := h', toks := tk } :=
  ⟨h', tk, m', news', rfl, F, fun p hp => by rcases List.mem_cons.mp hp with rfl | hp; exact N _ hi; exact N p (hs p hp), ho, hj⟩

theorem for_list {target : Expr} {body : List Stmt} {l : Addr} {vs : List Value} {nn : Nat} {m₀ : Str → Option Value} {news₀ : List (Addr × Obj)} (J : Nat → (Str → Option Value) → List (Addr × Obj) → Prop)
    (hh : A.handled = none) (F : Fr h₀ env.locals s.heap m₀) (N : News h₀ env.locals s.heap news₀) (h0 : J 0 m₀ news₀) (keep : ∀ i m news, J i m news → (l, listOf vs.toArray nn) ∈ news)
    (turn : ∀ i v m₁ news₁ h tk It io, vs[i]? = some v → J i m₁ news₁ → (∀ p ∈ news₁, p.1 ≠ It) → Fr h₀ env.locals h m₁ → News h₀ env.locals h ((It, io) :: news₁) →
      wpAny (model prog w) A (assign target env v) (fun _ s₁ => wpAny (model prog w) A (execs body env) (TurnPost h₀ env.locals It io (J (i + 1)) Q s) E s₁) E { s with heap := h, toks := tk })
    (done : ∀ m₁ news₁ h tk, J vs.length m₁ news₁ → Fr h₀ env.locals h m₁ → News h₀ env.locals h news₁ → Q .next { s with heap := h, toks := tk })
    (hE : PassesOwn (model prog w) A env E) :
    wpAny (model prog w) A (pyIter (.ref l)) (fun it s₂ => codeAny (model prog w) A (.forLoop target it body [] env) (fun r s' => match r with | .ok f => Q f s' | .error e => cameBackBy (model prog w) A env E e s') s₂) E s := by
  have hm0 := keep _ _ _ h0
  have hol : s.heap.get? l = some (listOf vs.toArray nn) := (N _ hm0).1
  have hls : s.heap.IsList l vs.toArray := ⟨_, hol, rfl, nn, rfl⟩
  have hne : l ≠ s.heap.objs.size := Nat.ne_of_lt (Heap.lt_size hol)
  refine wpAny_pyIter_list hls ?_
  generalize hIt : s.heap.objs.size = It at hne ⊢
  have W := Walks.list (prog := prog) (w := w) hh It l hne vs.toArray
  have hlen : vs.toArray.size = vs.length := by simp
  have hI0 : h₀.get? It = none := hIt ▸ next_is_new F
  have hIL : It ≠ env.locals := by
    rw [← hIt]; exact (Nat.ne_of_lt F.ns.lt).symm
  refine codeAny_forLoop_any
    (fun k s' => ∃ h' tk m' news' i, s' = { s with heap := h', toks := tk } ∧ h'.IsListIter It l i ∧ Fr h₀ env.locals h' m' ∧ News h₀ env.locals h' news' ∧ (∀ p ∈ news', p.1 ≠ It) ∧ J i m' news' ∧ i ≤ vs.length ∧ k = vs.length + 1 - i) ?_ (vs.length + 1)
    ⟨_, s.toks, m₀, news₀, 0, rfl, ⟨_, hIt ▸ Heap.get?_push_size _ rfl, rfl, rfl⟩, F.push _, (fun p hp => ⟨Heap.get?_push_of_some _ (N p hp).1, (N p hp).2⟩), (fun p hp => hIt ▸ Nat.ne_of_lt (Heap.lt_size (N p hp).1)), h0, Nat.zero_le _, rfl⟩
  rintro k s' ⟨h', tk, m', news', i, rfl, hit, F', N', ho', hJ, hi, rfl⟩
  have hl' : h'.IsList l vs.toArray := ⟨_, (N' _ (keep _ _ _ hJ)).1, rfl, nn, rfl⟩
  have next : ∀ h₁ : Heap, (∀ b o, b ∉ [It] → h'.get? b = some o → h₁.get? b = some o) → Fr h₀ env.locals h₁ m' ∧ News h₀ env.locals h₁ news' := fun h₁ hk₁ =>
    ⟨⟨F'.ns.at' fun o e => hk₁ _ o (by simpa using hIL.symm) e, fun b o e => hk₁ b o (fun hb => by rw [List.mem_singleton.mp hb, hI0] at e; cases e) (F'.keep b o e), F'.above⟩, fun p hp => ⟨hk₁ _ _ (by simpa using ho' p hp) (N' p hp).1, (N' p hp).2⟩⟩
  by_cases hlt : i < vs.length
  · refine W.item i _ _ _ (by rw [hlen]; exact hlt) ⟨hit, hl'⟩ fun v h₁ tk₁ hP hst₁ hk₁ => ?_
    obtain ⟨F₁, N₁⟩ := next h₁ hk₁
    obtain ⟨io, hio, hic, hid⟩ := hst₁.1
    have N₂ : News h₀ env.locals h₁ ((It, io) :: news') := fun p hp => by
      rcases List.mem_cons.mp hp with rfl | hp
      · exact ⟨hio, hIL, hI0⟩
      · exact N₁ p hp
    have hv : vs[i]? = some v := by simpa using hP
    refine letGo_listiter hst₁.1 ?_
    refine wpAny_mono (turn i v m' news' h₁ tk₁ It io hv hJ ho' F₁ N₂) (fun _ s₂ h₂ => wpAny_mono h₂ (fun f s₃ h₃ => ?_) hE) hE
    have fin : TurnEnd h₀ env.locals It io (J (i + 1)) s s₃ → ∃ m, m < vs.length + 1 - i ∧ ∃ h' tk m' news' i', s₃ = { s with heap := h', toks := tk } ∧ h'.IsListIter It l i' ∧ Fr h₀ env.locals h' m' ∧ News h₀ env.locals h' news' ∧ (∀ p ∈ news', p.1 ≠ It) ∧ J i' m' news' ∧ i' ≤ vs.length ∧ m = vs.length + 1 - i' := by
      rintro ⟨h₃', tk₃, m₂, news₂, rfl, F₃, N₃, ho₃, hJ₃⟩
      exact ⟨vs.length + 1 - (i + 1), by omega, h₃', tk₃, m₂, news₂, i + 1, rfl, ⟨io, (N₃ _ (.head _)).1, hic, hid⟩, F₃, fun p hp => N₃ p (.tail _ hp), ho₃, hJ₃, hlt, rfl⟩
    cases f with
    | ret v => exact h₃
    | brk => exact h₃
    | next => exact fin h₃
    | cont => exact fin h₃
  · have hin : i = vs.length := by omega
    subst hin
    refine W.done _ _ _ ⟨by rw [hlen]; exact hit, hl'⟩ fun h₁ tk₁ hk₁ => wpAny_execs_nil ?_
    obtain ⟨F₁, N₁⟩ := next h₁ hk₁
    exact done m' news' h₁ tk₁ hJ F₁ N₁

def SEnd {σ : Type} (h₀ : Heap) (L : Addr) (s : Shared) (It : Addr) (io : Obj) (Led : σ → List (Addr × Obj)) (ps : σ → List (Str × Value)) (stored : List Str) (m₀ : Str → Option Value) (P : σ → Prop) (s₂ : Shared) : Prop :=
  ∃ (c' : σ) (h' : Heap) (tk : Nat) (m' : Str → Option Value) (all : List (Addr × Obj)), s₂ = { s with heap := h', toks := tk } ∧ Fr h₀ L h' m' ∧ News h₀ L h' all ∧ (It, io) ∈ all ∧ (∀ p ∈ Led c', p ∈ all) ∧ (∀ p ∈ Led c', p.1 ≠ It) ∧ (∀ p ∈ ps c', m' p.1 = some p.2) ∧ (∀ z, (∀ p ∈ ps c', z ≠ p.1) → stored.contains z = false → m' z = m₀ z) ∧ P c'
def SPost {σ : Type} (h₀ : Heap) (L : Addr) (s : Shared) (It : Addr) (io : Obj) (Led : σ → List (Addr × Obj)) (ps : σ → List (Str × Value)) (stored : List Str) (m₀ : Str → Option Value) (P : σ → Prop) (Q : Flow → Shared → Prop) (f : Flow) (s₂ : Shared) : Prop :=
  match f with
  | .ret v => Q (.ret v) s₂
  | .brk => Q .next s₂
  | _ => SEnd h₀ L s It io Led ps stored m₀ P s₂
theorem s_end {σ : Type} {L : Addr} {It : Addr} {io : Obj} {Led : σ → List (Addr × Obj)} {ps : σ → List (Str × Value)} {stored : List Str} {m₀ m' : Str → Option Value} {P : σ → Prop} {h' : Heap} {tk : Nat} {all : List (Addr × Obj)} (c' : σ)
    (F : Fr h₀ L h' m') (N : News h₀ L h' all) (hi : (It, io) ∈ all) (hn : ∀ p ∈ Led c', p ∈ all) (ho : ∀ p ∈ Led c', p.1 ≠ It) (hk : ∀ p ∈ ps c', m' p.1 = some p.2) (hr : ∀ z, (∀ p ∈ ps c', z ≠ p.1) → stored.contains z = false → m' z = m₀ z) (hp : P c') :
    SEnd h₀ L s It io Led ps stored m₀ P { s with heap := h', toks := tk } := ⟨c', h', tk, m', all, rfl, F, N, hi, hn, ho, hk, hr, hp⟩

theorem for_state {σ : Type} {target : Expr} {body : List Stmt} {l : Addr} {vs : List Value} {nn : Nat} {m₀ : Str → Option Value} {news₀ : List (Addr × Obj)} (Led : σ → List (Addr × Obj)) (ps : σ → List (Str × Value)) (stored : List Str) (P : Nat → σ → Prop) (c₀ : σ)
    (hh : A.handled = none) (F : Fr h₀ env.locals s.heap m₀) (N : News h₀ env.locals s.heap news₀) (hn : ∀ p ∈ Led c₀, p ∈ news₀) (hk : ∀ p ∈ ps c₀, m₀ p.1 = some p.2) (hp : P 0 c₀) (keep : ∀ i c, P i c → (l, listOf vs.toArray nn) ∈ Led c)
    (turn : ∀ i v c (u : Str → Option Value) h tk It io, vs[i]? = some v → P i c → (∀ p ∈ Led c, p.1 ≠ It) → Fr h₀ env.locals h (kstB (fun z => if stored.contains z then u z else m₀ z) (ps c)) → News h₀ env.locals h ((It, io) :: Led c) →
      wpAny (model prog w) A (assign target env v) (fun _ s₁ => wpAny (model prog w) A (execs body env) (SPost h₀ env.locals s It io Led ps stored m₀ (P (i + 1)) Q) E s₁) E { s with heap := h, toks := tk })
    (done : ∀ c (u : Str → Option Value) h tk, P vs.length c → Fr h₀ env.locals h (kstB (fun z => if stored.contains z then u z else m₀ z) (ps c)) → News h₀ env.locals h (Led c) → Q .next { s with heap := h, toks := tk })
    (hE : PassesOwn (model prog w) A env E) :
    wpAny (model prog w) A (pyIter (.ref l)) (fun it s₂ => codeAny (model prog w) A (.forLoop target it body [] env) (fun r s' => match r with | .ok f => Q f s' | .error e => cameBackBy (model prog w) A env E e s') s₂) E s := by
  refine for_list (news₀ := Led c₀) (vs := vs) (nn := nn) (fun i m nx => ∃ c : σ, nx = Led c ∧ (∀ p ∈ ps c, m p.1 = some p.2) ∧ (∀ z, (∀ p ∈ ps c, z ≠ p.1) → stored.contains z = false → m z = m₀ z) ∧ P i c)
    hh F (fun p hp => N p (hn p hp)) ⟨c₀, rfl, hk, fun _ _ _ => rfl, hp⟩ ?_ ?_ ?_ hE
  · rintro i m nx ⟨c, rfl, _, _, hp'⟩; exact keep i c hp'
  · rintro i v m₁ nx h tk It io hv ⟨c, rfl, h1, h2, hp'⟩ ho F₁ N₁
    refine wpAny_mono (turn i v c m₁ h tk It io hv hp' ho (ksw_fr h1 h2 F₁) N₁) (fun _ s₂ h₂ => wpAny_mono h₂ (fun f s₃ h₃ => ?_) fun _ _ e => e) fun _ _ e => e
    have fin : SEnd h₀ env.locals s It io Led ps stored m₀ (P (i + 1)) s₃ → TurnEnd h₀ env.locals It io (fun m nx => ∃ c : σ, nx = Led c ∧ (∀ p ∈ ps c, m p.1 = some p.2) ∧ (∀ z, (∀ p ∈ ps c, z ≠ p.1) → stored.contains z = false → m z = m₀ z) ∧ P (i + 1) c) s s₃ := by
      rintro ⟨c', h', tk', m', all, rfl, F', N', hi, hn', ho', hk', hr', hp''⟩
      exact TurnEnd.intro F' N' hi hn' ho' ⟨c', rfl, hk', hr', hp''⟩
    cases f with
    | ret v => exact h₃
    | brk => exact h₃
    | next => exact fin h₃
    | cont => exact fin h₃
  · rintro m₁ nx h tk ⟨c, rfl, h1, h2, hp'⟩ F₁ N₁
    exact done c m₁ h tk hp' (ksw_fr h1 h2 F₁) N₁
end
end

section
open PySem.Calls PyProof.Rows.LCg
section
variable {prog : Program} {w : World} {A : Around} {E : Value → Shared → Prop} {s : Shared} {h₀ : Heap} {L : Addr} {m : Str → Option Value} {env : Env}

theorem loop_any {elt target iter : Expr} {ifs : List Expr} {scope : Scope} {pos : Pos} {it acc : Value} {env : Env} {R : Result → Shared → Prop} (I : Nat → Shared → Prop)
    (turn : ∀ n s, I n s → wpAny (model prog w) A (pyNext it) (fun r s₁ => match r with
      | none => R (.ok .next) s₁
      | some v => wpAny (model prog w) A (letOwnedTupleGo target it v) (fun _ s₁' => wpAny (model prog w) A (assign target env v) (fun _ s₂ =>
          wpAny (model prog w) A (forIn ifs true fun c r => if r = true then do let ok ← isTrue c env (eval c env); pure (ForInStep.yield ok) else pure (ForInStep.yield r)) (fun ok s₃ =>
            if ok = true then wpAny (model prog w) A (eval elt env) (fun x s₄ =>
              wpAny (model prog w) A (call (.builtin "list.append") [acc, x]) (fun _ s₅ => ∃ m, m < n ∧ I m s₅) (notedBy (model prog w) A env fun e s' => R (.error e) s') s₄) (notedBy (model prog w) A env fun e s' => R (.error e) s') s₃
            else ∃ m, m < n ∧ I m s₃) (notedBy (model prog w) A env fun e s' => R (.error e) s') s₂)
          (notedBy (model prog w) A env fun e s' => R (.error e) s') s₁') (notedBy (model prog w) A env fun e s' => R (.error e) s') s₁) (notedBy (model prog w) A env fun e s' => R (.error e) s') s)
    (n : Nat) (h : I n s) : codeAny (model prog w) A (.compLoop (.ListComp elt [⟨target, iter, ifs, 0⟩] scope pos) 0 it acc env) R s := by
  refine codeAny_loop rfl I (fun n s hI => ?_) n h
  show wpAny _ A ((compTurn (.ListComp elt [⟨target, iter, ifs, 0⟩] scope pos) 0 it acc env).onRaise (fun x => do noteFrame x env; theTreesLotGoes x)) _ _ s
  refine wpAny_noted ?_
  rw [compTurn_list]
  refine wpAny_bind (wpAny_standAt (wpAny_bind (wpAny_mono (turn n s hI) (fun r s₁ h₁ => ?_) fun _ _ h' => h')))
  cases r with
  | none => exact wpAny_pure h₁
  | some v =>
    refine wpAny_bind (wpAny_mono h₁ (fun _ s₁' h₁' => ?_) fun _ _ h' => h')
    refine wpAny_bind (wpAny_mono h₁' (fun _ s₂ h₂ => wpAny_bind (wpAny_mono h₂ (fun ok s₃ h₃ => ?_) fun _ _ h' => h')) fun _ _ h' => h')
    cases ok with
    | false => exact wpAny_pure ⟨rfl, h₃⟩
    | true => exact wpAny_bind (wpAny_bind (wpAny_mono h₃ (fun x s₄ h₄ => wpAny_bind (wpAny_mono h₄ (fun _ s₅ h₅ => wpAny_pure (wpAny_pure ⟨rfl, h₅⟩)) fun _ _ h' => h')) fun _ _ h' => h'))

/-- the end of an element's evaluation: iterator, names and list stand -/
def CEnd (h₀ : Heap) (L : Addr) (m : Str → Option Value) (s : Shared) (I : Addr) (oI : Obj) (C : Addr) (oC : Obj) (D : Addr) (oD : Obj) (K : List (Addr × Obj) → Prop) (s₂ : Shared) : Prop :=
  ∃ h' tk news', s₂ = { s with heap := h', toks := tk } ∧ Fr h₀ L h' m ∧ News h₀ L h' ((I, oI) :: (C, oC) :: (D, oD) :: news') ∧ (∀ p ∈ news', p.1 ≠ I ∧ p.1 ≠ C ∧ p.1 ≠ D) ∧ K news'
theorem CEnd.intro {I C D : Addr} {oI oC oD : Obj} {K : List (Addr × Obj) → Prop} {h' : Heap} {tk : Nat} {all news' : List (Addr × Obj)} (F : Fr h₀ L h' m) (N : News h₀ L h' all) (hI : (I, oI) ∈ all) (hC : (C, oC) ∈ all) (hD : (D, oD) ∈ all)
    (hs : ∀ p ∈ news', p ∈ all) (ho : ∀ p ∈ news', p.1 ≠ I ∧ p.1 ≠ C ∧ p.1 ≠ D) (k : K news') : CEnd h₀ L m s I oI C oC D oD K { s with heap := h', toks := tk } :=
  ⟨h', tk, news', rfl, F, fun p hp => by
    rcases List.mem_cons.mp hp with rfl | hp
    · exact N _ hI
    · rcases List.mem_cons.mp hp with rfl | hp
      · exact N _ hC
      · rcases List.mem_cons.mp hp with rfl | hp
        · exact N _ hD
        · exact N p (hs p hp), ho, k⟩

/-- the body of a turn: the tests, then the element -/
def CBody (prog : Program) (w : World) (A : Around) (h₀ : Heap) (L : Addr) (m : Str → Option Value) (cenv : Env) (ifs : List Expr) (elt : Expr) (s : Shared) (I : Addr) (oI : Obj) (C : Addr) (oC : Obj) (D : Addr) (ys : List Value) (Kn : List Value → List (Addr × Obj) → Prop) : Prop :=
  ∀ E' : Value → Shared → Prop, wpAny (model prog w) A (forIn ifs true fun c r => if r = true then do let ok ← isTrue c cenv (eval c cenv); pure (ForInStep.yield ok) else pure (ForInStep.yield r)) (fun ok s₃ =>
    if ok = true then wpAny (model prog w) A (eval elt cenv) (fun y s₄ => CEnd h₀ L m s I oI C oC D (lst ys) (Kn (ys ++ [y])) s₄) E' s₃ else CEnd h₀ L m s I oI C oC D (lst ys) (Kn ys) s₃) E' s

theorem comp_core {elt iter target : Expr} {ifs : List Expr} {scope : Scope} {cl : List (Str × Addr)} {pos : Pos} {ax : Addr} {vs : List Value} {nn : Nat} {news₀ : List (Addr × Obj)} {Q : Value → Shared → Prop} {M2 : Nat → (Str → Option Value) → Prop} (J : Nat → List Value → List (Addr × Obj) → Prop)
    (hh : A.handled = none) (F : Fr h₀ L s.heap m) (N : News h₀ L s.heap news₀) (h0 : J 0 [] news₀) (keep : ∀ i ys nx, J i ys nx → (ax, listOf vs.toArray nn) ∈ nx) (hsz : vs.length ≤ sizeLine)
    (hcell : ∀ y ∈ scope.names, y.2 ≠ .cell) (hkind : scope.kind = .function)
    (asg : ∀ i v ys nx C m₂ (s₁ : Shared) (Q' : Unit → Shared → Prop) (E' : Value → Shared → Prop), vs[i]? = some v → J i ys nx → News h₀ L s₁.heap nx → s₁.heap.Ns C m₂ →
      (∀ h' tk m₃, h'.Ns C m₃ → M2 i m₃ → (∀ b o, b ≠ C → s₁.heap.get? b = some o → h'.get? b = some o) → Q' () { s₁ with heap := h', toks := tk }) → wpAny (model prog w) A (assign target (compEnvC scope cl C env) v) Q' E' s₁)
    (turn : ∀ i v ys nx I oI C oC D m₂ h tk, vs[i]? = some v → J i ys nx → NsObj oC m₂ → M2 i m₂ → Fr h₀ L h m → News h₀ L h ((I, oI) :: (C, oC) :: (D, lst ys) :: nx) → (∀ p ∈ nx, p.1 ≠ I ∧ p.1 ≠ C ∧ p.1 ≠ D) → (I ≠ C ∧ I ≠ D ∧ C ≠ D) →
      CBody prog w A h₀ L m (compEnvC scope cl C env) ifs elt { s with heap := h, toks := tk } I oI C oC D ys (J (i + 1)))
    (done : ∀ D h tk ys nx, J vs.length ys nx → Fr h₀ L h m → News h₀ L h ((D, lst ys) :: nx) → (∀ p ∈ nx, p.1 ≠ D) → Q (.ref D) { s with heap := h, toks := tk }) :
    wpAny (model prog w) A (pyIter (.ref ax)) (fun it s₂ => wpAny (model prog w) A (newList []) (fun acc s₃ => wpAny (model prog w) A (newFunctionEnv scope env.globals cl [] env.qual none .none (some env)) (fun cenv s₄ =>
      codeAny (model prog w) A (.compStart (.ListComp elt [⟨target, iter, ifs, 0⟩] scope pos) 0 it acc { cenv with scope := relabel scope env }) (compPost (model prog w) A E none Q acc cenv.locals) s₄) E s₃) E s₂) E s := by
  have hm0 := keep _ _ _ h0
  have hol : s.heap.get? ax = some (listOf vs.toArray nn) := (N _ hm0).1
  have hls : s.heap.IsList ax vs.toArray := ⟨_, hol, rfl, nn, rfl⟩
  have hne : ax ≠ s.heap.objs.size := Nat.ne_of_lt (Heap.lt_size hol)
  refine wpAny_pyIter_list hls ?_
  refine wpAny_newObj_type (wpAny_newFunctionEnv hcell (by intro y hy; simp at hy) (fun h₁ hns₁ hsb₁ => ?_) hkind)
  dsimp only at hns₁ hsb₁ ⊢
  have hI0 : h₀.get? s.heap.objs.size = none := next_is_new F
  generalize hIt : s.heap.objs.size = I at hne hI0 hns₁ hsb₁ ⊢
  generalize hH1 : s.heap.push { cls := .type "list_iterator", data := .fields #[.ref ax, .int 0 0] } = H1 at hns₁ hsb₁ ⊢
  have hD : H1.objs.size = I + 1 := by rw [← hH1, Heap.size_push, hIt]
  generalize hDv : H1.objs.size = D at hns₁ hsb₁ ⊢
  have hDI : D = I + 1 := by rw [← hDv, hD]
  generalize hH2 : H1.push { cls := .type "list", dict := none, data := .seq ([] : List Value).toArray } = H2 at hns₁ hsb₁ ⊢
  have hC : H2.objs.size = I + 2 := by rw [← hH2, Heap.size_push, hD]
  generalize hCv : H2.objs.size = C at hns₁ hsb₁ ⊢
  have hCI : C = I + 2 := by rw [← hCv, hC]
  have hLI : @LT.lt Nat _ L I := by rw [← hIt]; exact F.ns.lt
  have old : ∀ b o, s.heap.get? b = some o → h₁.get? b = some o := fun b o e => by
    have hb : @LT.lt Nat _ b I := hIt ▸ Heap.lt_size e
    exact hsb₁.extBut b o (by rw [hCI]; exact Nat.ne_of_lt (by omega)) (Heap.get?_push_of_some _ (hH2 ▸ Heap.get?_push_of_some _ (hH1 ▸ Heap.get?_push_of_some _ e)))
  have hit₁ : h₁.IsListIter I ax 0 := by
    refine ⟨_, hsb₁.extBut I _ (by rw [hCI]; exact Nat.ne_of_lt (by omega)) (Heap.get?_push_of_some _ (hH2 ▸ Heap.get?_push_of_some _ (hH1 ▸ hIt ▸ Heap.get?_push_size _ rfl))), rfl, rfl⟩
  have hacc : h₁.get? D = some (lst []) := hsb₁.extBut _ _ (by rw [hCI, hDI]; exact Nat.ne_of_lt (by omega)) (Heap.get?_push_of_some _ (hH2 ▸ hDv ▸ Heap.get?_push_size _ rfl))
  have fresh₀ : ∀ a, I ≤ a → h₀.get? a = none := fun a ha => by
    cases e : h₀.get? a with
    | none => rfl
    | some o' => exact absurd (Heap.lt_size (F.keep a o' e)) (by rw [hIt]; exact Nat.not_lt.mpr ha)
  have hD₀ : h₀.get? D = none := fresh₀ _ (by omega)
  have hC₀ : h₀.get? C = none := fresh₀ _ (by omega)
  have hIL : I ≠ L := Nat.ne_of_gt hLI
  have hDL : D ≠ L := Nat.ne_of_gt (by omega)
  have hCL : C ≠ L := Nat.ne_of_gt (by omega)
  have nIC : I ≠ C := Nat.ne_of_lt (by omega)
  have nID : I ≠ D := Nat.ne_of_lt (by omega)
  have nCD : C ≠ D := Nat.ne_of_gt (by omega)
  have W := Walks.list (prog := prog) (w := w) hh I ax hne vs.toArray
  have hlen : vs.toArray.size = vs.length := by simp
  have loop : ∀ s₃ : Shared, s₃ = { s with heap := h₁, toks := s.toks + ([] : List (Str × Value)).length } →
      codeAny (model prog w) A (.compLoop (.ListComp elt [⟨target, iter, ifs, 0⟩] scope pos) 0 (.ref I) (.ref D) (compEnvC scope cl C env)) (compPost (model prog w) A E none Q (.ref D) C) s₃ := by
    rintro s₃ rfl
    refine loop_any
      (fun k s' => ∃ h' tk i ys m' nx, s' = { s with heap := h', toks := tk } ∧ i ≤ vs.length ∧ k = vs.length + 1 - i ∧ ys.length ≤ i ∧ h'.IsListIter I ax i ∧ Fr h₀ L h' m ∧ h'.Ns C m' ∧ News h₀ L h' ((D, lst ys) :: nx) ∧
        (∀ p ∈ nx, p.1 ≠ I ∧ p.1 ≠ C ∧ p.1 ≠ D) ∧ J i ys nx) ?_ (vs.length + 1)
      ⟨h₁, _, 0, [], _, news₀, rfl, Nat.zero_le _, rfl, Nat.le_refl _, hit₁, F.keeps old, hns₁, fun p hp => ?_, fun p hp => ?_, h0⟩
    · rintro k s' ⟨h', tk, i, ys, m', nx, rfl, hi, rfl, hyl, hit', F', hn', N', ho', hJ⟩
      have hl' : h'.IsList ax vs.toArray := ⟨_, (N' _ (.tail _ (keep _ _ _ hJ))).1, rfl, nn, rfl⟩
      by_cases hlt : i < vs.length
      · refine W.item i _ _ _ (by rw [hlen]; exact hlt) ⟨hit', hl'⟩ fun v h₂ tk₂ hPv hst₂ hk₂ => ?_
        have hv : vs[i]? = some v := by simpa using hPv
        have hk₂' : ∀ b o, b ≠ I → h'.get? b = some o → h₂.get? b = some o := fun b o hb e => hk₂ b o (by simpa using hb) e
        have N₂ : News h₀ L h₂ ((D, lst ys) :: nx) := fun p hp => by
          refine ⟨hk₂' _ _ ?_ (N' p hp).1, (N' p hp).2⟩
          rcases List.mem_cons.mp hp with rfl | hp
          · exact nID.symm
          · exact (ho' p hp).1
        refine letGo_listiter hst₂.1 ?_
        refine asg i v ys nx C m' _ _ _ hv hJ (fun p hp => N₂ p (.tail _ hp)) (hn'.at' fun o e => hk₂' _ o nIC.symm e) fun h₃ tk₃ m₃ hn₃ hM hk₃ => ?_
        obtain ⟨oI, heI, hcI, hdI⟩ := hst₂.1
        have heI₃ := hk₃ I oI nIC heI
        obtain ⟨oC, heC, hoC⟩ := ns_obj hn₃
        have F₃ : Fr h₀ L h₃ m := ⟨(F'.ns.at' fun o e => hk₂' _ o hIL.symm e).at' fun o e => hk₃ _ o hCL.symm e, fun b o e => by
          refine hk₃ b o (fun q => by rw [q, hC₀] at e; cases e) (hk₂' b o (fun q => by rw [q, hI0] at e; cases e) (F'.keep b o e)), F'.above⟩
        have N₃ : News h₀ L h₃ ((I, oI) :: (C, oC) :: (D, lst ys) :: nx) := fun p hp => by
          rcases List.mem_cons.mp hp with rfl | hp
          · exact ⟨heI₃, hIL, hI0⟩
          · rcases List.mem_cons.mp hp with rfl | hp
            · exact ⟨heC, hCL, hC₀⟩
            · refine ⟨hk₃ _ _ ?_ (N₂ p hp).1, (N₂ p hp).2⟩
              rcases List.mem_cons.mp hp with rfl | hp
              · exact nCD.symm
              · exact (ho' p hp).2.1
        refine wpAny_mono (turn i v ys nx I oI C oC D m₃ h₃ tk₃ hv hJ hoC hM F₃ N₃ ho' ⟨nIC, nID, nCD⟩ _) (fun ok s₄ h₄ => ?_) fun _ _ e => e
        cases ok with
        | true =>
          simp only [if_true] at h₄ ⊢
          refine wpAny_mono h₄ (fun y s₅ h₅ => ?_) fun _ _ e => e
          obtain ⟨h₄, tk₄, nx₄, rfl, F₄, N₄, ho₄, hJ₄⟩ := h₅
          have zI := (N₄ (I, oI) (.head _)).1
          have zC := (N₄ (C, oC) (.tail _ (.head _))).1
          have zD := (N₄ (D, lst ys) (.tail _ (.tail _ (.head _)))).1
          refine append_at (hsz := by show ys.toArray.size ≤ sizeLine; rw [List.size_toArray]; exact Nat.le_trans (Nat.le_trans hyl hi) hsz) zD fun h₅ hs₅ hD₅ => ?_
          refine ⟨vs.length + 1 - (i + 1), by omega, h₅, tk₄, i + 1, ys ++ [y], _, nx₄, rfl, hlt, rfl, by rw [List.length_append, List.length_singleton]; exact Nat.succ_le_succ hyl, ⟨oI, hs₅.extBut _ _ nID zI, hcI, hdI⟩, F₄.change hs₅ hDL hD₀,
            (hoC.ns zC).sameBut hs₅ nCD, fun p hp => ?_, ho₄, hJ₄⟩
          rcases List.mem_cons.mp hp with rfl | hp
          · exact ⟨hD₅.trans (congrArg some (lst_snoc ys y)), hDL, hD₀⟩
          · have z := N₄ p (.tail _ (.tail _ (.tail _ hp)))
            exact ⟨hs₅.extBut _ _ (ho₄ p hp).2.2 z.1, z.2⟩
        | false =>
          simp only [Bool.false_eq_true, if_false] at h₄ ⊢
          obtain ⟨h₅, tk₄, nx₄, rfl, F₄, N₄, ho₄, hJ₄⟩ := h₄
          have zI := (N₄ (I, oI) (.head _)).1
          have zC := (N₄ (C, oC) (.tail _ (.head _))).1
          exact ⟨vs.length + 1 - (i + 1), by omega, h₅, tk₄, i + 1, ys, _, nx₄, rfl, hlt, rfl, Nat.le_succ_of_le hyl, ⟨oI, zI, hcI, hdI⟩, F₄, hoC.ns zC, fun p hp => N₄ p (.tail _ (.tail _ hp)), ho₄, hJ₄⟩
      · obtain rfl : i = vs.length := Nat.le_antisymm hi (Nat.not_lt.mp hlt)
        refine W.done _ _ _ ⟨by rw [hlen]; exact hit', hl'⟩ fun h₂ tk₂ hk₂ => ?_
        have hk₂' : ∀ b o, b ≠ I → h'.get? b = some o → h₂.get? b = some o := fun b o hb e => hk₂ b o (by simpa using hb) e
        refine ⟨m', hn'.at' fun o e => hk₂' _ o nIC.symm e, fun h'' hs'' => ?_⟩
        have back : ∀ b o, b ≠ I → b ≠ C → h'.get? b = some o → h''.get? b = some o := fun b o h1 h2 e => hs''.extBut b o h2 (hk₂' b o h1 e)
        refine done D h'' tk₂ ys nx hJ ⟨F'.ns.at' fun o e => back _ o hIL.symm hCL.symm e, fun b o e => back b o (fun q => by rw [q, hI0] at e; cases e) (fun q => by rw [q, hC₀] at e; cases e) (F'.keep b o e), F'.above⟩ (fun p hp => ?_) fun p hp => (ho' p hp).2.2
        rcases List.mem_cons.mp hp with rfl | hp'
        · exact ⟨back _ _ nID.symm nCD.symm (N' _ hp).1, (N' _ hp).2⟩
        · exact ⟨back _ _ (ho' p hp').1 (ho' p hp').2.1 (N' _ hp).1, (N' _ hp).2⟩
    · rcases List.mem_cons.mp hp with rfl | hp
      · exact ⟨hacc, hDL, hD₀⟩
      · exact ⟨old _ _ (N p hp).1, (N p hp).2⟩
    · have hp' : @LT.lt Nat _ p.1 I := hIt ▸ Heap.lt_size (N p hp).1
      exact ⟨Nat.ne_of_lt (by omega), Nat.ne_of_lt (by omega), Nat.ne_of_lt (by omega)⟩
  exact codeAny_compStart_list (loop _ rfl) (wpAny_pyIter_listiter hit₁ (loop _ rfl))

theorem comp_open {elt iter target : Expr} {ifs : List Expr} {scope : Scope} {cl : List (Str × Addr)} {pos : Pos} {Q : Value → Shared → Prop}
    (hclos : closureFor scope env = pure cl) (hkind : scope.kind = .function) (hnames : ∀ x ∈ scope.names, x.2 = .local → scope.names.lookup x.1 = some .local)
    (h : wpAny (model prog w) A (eval iter env) (fun x s₁ => wpAny (model prog w) A (pyIter x) (fun it s₂ => wpAny (model prog w) A (newList []) (fun acc s₃ =>
      wpAny (model prog w) A (newFunctionEnv scope env.globals cl [] env.qual none .none (some env)) (fun cenv s₄ =>
        codeAny (model prog w) A (.compStart (.ListComp elt [⟨target, iter, ifs, 0⟩] scope pos) 0 it acc { cenv with scope := relabel scope env }) (compPost (model prog w) A E none Q acc cenv.locals) s₄) E s₃) E s₂) E s₁) E s)
    (hs : ∀ x, foldedSetIterable iter env x = pure x := by intro _; rfl) :
    wpAny (model prog w) A (eval (.ListComp elt [⟨target, iter, ifs, 0⟩] scope pos) env) Q E s := by
  rw [eval_ListComp]
  exact wpAny_comprehension_free (use := none) rfl hs hclos hkind hnames h

theorem asg_pair {x x₂ : Str} {px px₂ tp : Pos} {tk : Nat} {scope : Scope} {cl : List (Str × Addr)} {C t : Addr} {ot : Obj} {v₁ v₂ : Value} {nt : Nat} {nx : List (Addr × Obj)} {m₂ : Str → Option Value} {Q' : Unit → Shared → Prop}
    (hh : A.handled = none) (hkind : scope.kind = .function) (hx : scope.names.lookup x = some .local) (hx₂ : scope.names.lookup x₂ = some .local) (hxx : x ≠ x₂)
    (N : News h₀ L s.heap nx) (ht : (t, ot) ∈ nx) (hc : ot.cls = .type "tuple") (hd : ot.data = .seq #[v₁, v₂] nt) (hn : s.heap.Ns C m₂)
    (h : ∀ h' tk m₃, h'.Ns C m₃ → m₃ x = some v₁ → m₃ x₂ = some v₂ → (∀ b o, b ≠ C → s.heap.get? b = some o → h'.get? b = some o) → Q' () { s with heap := h', toks := tk }) :
    wpAny (model prog w) A (assign (.Tuple [.Name x px, .Name x₂ px₂] tk tp) (compEnvC scope cl C env) (.ref t)) Q' E s := by
  have htup : IsTup s.heap t #[v₁, v₂] := ⟨ot, (N _ ht).1, hc, nt, hd⟩
  refine assign_Tuple_tuple hh htup rfl rfl fun h₅ he => ?_
  have he' : ∀ b o, s.heap.get? b = some o → h₅.get? b = some o := fun b o e => he b o (Nat.ne_of_lt (Heap.lt_size e)) e
  refine assignInOrder_cons (wpAny_assign_Name (wpAny_storeName_local (lookup_relabel_local hx) (hn.at' fun o e => he' _ o e) (fun h₆ hn₆ hs₆ => ?_) (by simp [compEnvC, relabel, hkind])))
  refine assignInOrder_cons (wpAny_assign_Name (wpAny_storeName_local (lookup_relabel_local hx₂) hn₆ (fun h₃ hn₃ hs₃ => ?_) (by simp [compEnvC, relabel, hkind])))
  refine assignInOrder_nil ?_
  exact h h₃ _ _ hn₃ (by simp [hxx]) (by simp) fun b o hb e => hs₃.extBut b o hb (hs₆.extBut b o hb (he' b o e))
theorem asg_name {x : Str} {px : Pos} {scope : Scope} {cl : List (Str × Addr)} {C : Addr} {v : Value} {m₂ : Str → Option Value} {Q' : Unit → Shared → Prop}
    (hkind : scope.kind = .function) (hx : scope.names.lookup x = some .local) (hn : s.heap.Ns C m₂)
    (h : ∀ h' tk m₃, h'.Ns C m₃ → m₃ x = some v → (∀ b o, b ≠ C → s.heap.get? b = some o → h'.get? b = some o) → Q' () { s with heap := h', toks := tk }) :
    wpAny (model prog w) A (assign (.Name x px) (compEnvC scope cl C env) v) Q' E s := by
  refine wpAny_assign_Name (wpAny_storeName_local (lookup_relabel_local hx) hn (fun h₃ hn₃ hs₃ => ?_) (by simp [compEnvC, relabel, hkind]))
  exact h h₃ _ _ hn₃ (by simp) fun b o hb e => hs₃.extBut b o hb e
end
end

section
open PySem.SeqAt PySem.MeetsSeq PySem.Calls
open PySem.AutoSeq1 (wpAny_loadPart')
theorem remove_loopAt (l : Addr) (items : Array Value) (n : Nat) (x : Value) (e : Value → Bool) (j : Nat) (hj : j < items.size) (hit : e items[j] = true) (k : Nat) (hs1 : items.size ≤ sizeLine) :
    ∀ i : Nat, j - i = k → i ≤ j → (∀ m (hm : m < items.size), i ≤ m → m < j → e items[m] = false) → Meets (Builtin.«list.remove.loop» ⟨[.ref l, x, rawInt i], []⟩)
      (fun A R s => s.heap.get? l = some { cls := .type "list", dict := none, data := .seq items n, slots := #[] } ∧ (∀ y, y ∈ items → EqAt A.in1 s y x (e y)) ∧ R (.ok (.ret .none)) { s with heap := s.heap.update l (Obj.mapSeq fun xs => xs.eraseIdxIfInBounds j) }) := by
  induction k with
  | zero =>
    intro i hk hij hno prog w A R s h
    obtain ⟨hp, g, d, tk, os⟩ := s; obtain ⟨hl, he, h⟩ := h
    have hij' : i = j := by omega
    subst hij'
    wp_walk using wpAny_loadPart' hl
    have hi : items[((i : Nat) : Int).toNat]? = some items[i] := by simp [hj]
    rw [hi]
    refine wpAny_bind (he _ (Array.getElem_mem hj) prog w _ _ ?_)
    rw [hit]
    have hz' : (items.eraseIdxIfInBounds i).size ≤ sizeLine + 1 := Nat.le_trans (size_erased items _) (Nat.le_succ_of_le hs1)
    wp_walk using (wpAny_updateSeq hl rfl (hz := hs1) (_hz' := hz')), wpAny_loadPart' hl
    simpa using h
  | succ k ih =>
    intro i hk hij hno prog w A R s h
    obtain ⟨hp, g, d, tk, os⟩ := s; obtain ⟨hl, he, h⟩ := h
    have hlt : i < items.size := by omega
    wp_walk using wpAny_loadPart' hl
    have hi : items[((i : Nat) : Int).toNat]? = some items[i] := by simp [hlt]
    have hc : ((i : Int) + 1) = ((i + 1 : Nat) : Int) := by push_cast; rfl
    rw [hi]
    refine wpAny_bind (he _ (Array.getElem_mem hlt) prog w _ _ ?_)
    rw [hno i hlt (Nat.le_refl _) (by omega)]
    wp_walk
    rw [hc]
    exact ⟨plainId_quiet plain_remove_loop _, codeAny_builtin entry_remove_loop (by
      rw [Around.under_plainId plain_remove_loop _]
      exact ih (i + 1) (by omega) (by omega) (fun m hm h1 h2 => hno m hm (by omega) h2) prog w A R _ ⟨hl, he, h⟩)⟩

theorem list_removeAt (l : Addr) (items : Array Value) (n : Nat) (x : Value) (e : Value → Bool) (j : Nat) (hj : j < items.size)
    (hit : e items[j] = true) (hno : ∀ m (hm : m < items.size), m < j → e items[m] = false) (hs1 : items.size ≤ sizeLine) :
    Meets (Builtin.«list.remove» ⟨[.ref l, x], []⟩)
      (fun A R s => s.heap.get? l = some { cls := .type "list", dict := none, data := .seq items n, slots := #[] } ∧ (∀ y, y ∈ items → EqAt A.in1 s y x (e y)) ∧ R (.ok (.ret .none)) { s with heap := s.heap.update l (Obj.mapSeq fun xs => xs.eraseIdxIfInBounds j) }) := by
  intro prog w A R s h
  obtain ⟨hp, g, d, tk, os⟩ := s; obtain ⟨hl, he, h⟩ := h
  wp_walk using wpAny_loadPart' hl
  exact ⟨plainId_quiet plain_remove_loop _, codeAny_builtin entry_remove_loop (by
    rw [Around.under_plainId plain_remove_loop _]
    exact remove_loopAt l items n x e j hj hit _ hs1 0 rfl (Nat.zero_le _) (fun m hm _ h2 => hno m hm h2) prog w A R _ ⟨hl, he, h⟩)⟩

section
variable {prog : Program} {w : World} {A : Around} {E : Value → Shared → Prop} {s : Shared} {h₀ : Heap} {L l : Addr} {m : Str → Option Value} {news news' rest : List (Addr × Obj)} {xs : List Pr} {n : Nat}

theorem pr_eqAt {x y : Pr} (hu : A.units < cLine) (N : News h₀ L s.heap news) (hx : (x.a, x.obj) ∈ news) (hy : (y.a, y.obj) ∈ news) (hk : x.a = y.a ∨ x.c ≠ y.c) : EqAt A s (.ref x.a) (.ref y.a) (decide (x.a = y.a)) := by
  by_cases hxy : x.a = y.a
  · rw [hxy, decide_eq_true rfl]; exact EqAt.same _
  · rw [decide_eq_false hxy]
    have hc : x.c ≠ y.c := hk.resolve_left hxy
    refine EqAt.of_refs hxy ?_
    have r := RcAt.tuples (A := A) (s := s) (l := x.a) (b := y.a) (items := #[.int x.i x.ti, .str x.c x.tc]) (items2 := #[.int y.i y.ti, .str y.c y.tc]) (e := fun j => if j = 0 then x.i == y.i else decide (x.c = y.c))
      ⟨_, (N _ hx).1, rfl, 0, rfl⟩ ⟨_, (N _ hy).1, rfl, 0, rfl⟩ hu (fun j h1 h2 => by
        match j, h1 with
        | 0, _ => exact (EqGives.int _ _ _ _).at _ _
        | 1, _ => exact fun prog w E Q hq => wpAny_eqBool_str hq)
    have e1 : ((List.range (min (#[Value.int x.i x.ti, .str x.c x.tc] : Array Value).size (#[Value.int y.i y.ti, .str y.c y.tc] : Array Value).size)).all (fun j => if j = 0 then x.i == y.i else decide (x.c = y.c)) && (#[Value.int x.i x.ti, .str x.c x.tc] : Array Value).size == (#[Value.int y.i y.ti, .str y.c y.tc] : Array Value).size) = false := by
      have : List.range (min (#[Value.int x.i x.ti, .str x.c x.tc] : Array Value).size (#[Value.int y.i y.ti, .str y.c y.tc] : Array Value).size) = [0, 1] := by rfl
      rw [this]
      simp [hc]
    rw [e1] at r
    exact r

theorem pr_remove {f : Pr} {pre post : List Pr} {Q : Value → Shared → Prop} (hu : A.units + 64 < cLine) (F : Fr h₀ L s.heap m) (N : News h₀ L s.heap news) (hx : ∀ e ∈ xs, (e.a, e.obj) ∈ news) (hz : xs.length ≤ 100) (hxs : xs = pre ++ f :: post) (hk : ∀ e ∈ pre, e.c ≠ f.c) (hk2 : ∀ e ∈ post, e.c ≠ f.c)
    (U : Upd l (prs xs n) (prs (pre ++ post) (n + 1)) news news') (h : ∀ h', Fr h₀ L h' m → News h₀ L h' news' → Q .none { s with heap := h' }) :
    wpAny (model prog w) A (call (.builtin "list.remove") [.ref l, .ref f.a]) Q E s := by
  obtain ⟨pr, po, rfl, rfl, a', b'⟩ := U.split
  have z := N (l, prs xs n) (List.mem_append.mpr (.inr (.head _)))
  have hf : (f.a, f.obj) ∈ pr ++ (l, prs xs n) :: po := hx f (by rw [hxs]; exact List.mem_append_right _ (.head _))
  have hn : ∀ e ∈ xs, e.c ≠ f.c → e.a ≠ f.a := fun e he hc ha => by
    have h1 := (N _ (hx e he)).1
    have h2 := (N _ hf).1
    simp only [ha] at h1
    rw [h2] at h1
    simp only [Option.some.injEq, Obj.mk.injEq, Data.seq.injEq, and_true, true_and] at h1
    exact hc (by simpa using h1 : (f.i = e.i ∧ f.ti = e.ti) ∧ f.c = e.c ∧ f.tc = e.tc).2.1.symm
  have hxk : ∀ e ∈ xs, e.a = f.a ∨ e.c ≠ f.c := fun e he => by
    rw [hxs] at he
    rcases List.mem_append.mp he with he | he
    · exact .inr (hk e he)
    · rcases List.mem_cons.mp he with rfl | he
      · exact .inl rfl
      · exact .inr (hk2 e he)
  have hj : pre.length < (xs.map Pr.v).toArray.size := by simp [hxs]
  refine call_meets PySem.F.slot_list_remove ⟨_, z.1, rfl⟩ PySem.F.entry_list_remove (PySem.F.args_list_remove_2 _ _)
    (list_removeAt l (xs.map Pr.v).toArray n (.ref f.a) (fun y => y == .ref f.a) pre.length hj ?_ (fun i hi hlt => ?_) (by rw [sizeLine_eq]; simp; omega))
    ⟨z.1, fun y hy => ?_, h _ (F.change (Heap.SameBut.update ..) z.2.1 z.2.2) (ki_turn _ N a' b' ?_ ?_)⟩
  · simp [hxs]
  · have hi' : i < xs.length := by simpa using hi
    have hpi : i < pre.length := hlt
    have he : xs[i] ∈ xs := List.getElem_mem hi'
    have hpre : xs[i] = pre[i] := by simp only [hxs]; rw [List.getElem_append_left hpi]
    have := hn xs[i] he (by rw [hpre]; exact hk _ (List.getElem_mem hpi))
    simp only [List.getElem_toArray, List.getElem_map]
    exact Bool.eq_false_iff.mpr fun q => this (by have := eq_of_beq q; injection this)
  · obtain ⟨e, he, rfl⟩ := List.mem_map.mp (by simpa using hy : y ∈ xs.map Pr.v)
    have r := pr_eqAt (A := A.in1) (s := s) (x := e) (y := f) (by rw [units_in1]; omega) N (hx e he) hf (hxk e he)
    have e1 : (Value.ref e.a == Value.ref f.a) = decide (e.a = f.a) := by
      by_cases q : e.a = f.a
      · rw [q]; simp
      · rw [decide_eq_false q]; exact Bool.eq_false_iff.mpr fun q' => q (by have := eq_of_beq q'; injection this)
    rw [e1]
    exact r
  · show (xs.map Pr.v).toArray.eraseIdxIfInBounds pre.length = ((pre ++ post).map Pr.v).toArray
    apply Array.toList_inj.mp
    simp [Array.toList_eraseIdxIfInBounds, hxs, List.eraseIdx_append_of_length_le]
  · rw [if_neg]
    simp [hxs]
    try omega
def Pr.dat (x : Pr) : Dat := .tuple [.int x.i, .str x.c]
theorem pr_datIn {x : Pr} (hx : (x.a, x.obj) ∈ news) : DatIn news (.ref x.a) x.dat := DatIn.tuple hx (DatAll.cons (DatIn.int _ _) (DatAll.cons (DatIn.str _ _) DatAll.nil))
theorem pr_datOk {x : Pr} (h : PyData.strOk x.c = true) (n : Nat) : kqdOk (n + 1) x.dat = true := by
  unfold Pr.dat
  cases n <;> simp [kqdOk, h]
theorem pr_ne_same {x : Pr} {Q : Value → Shared → Prop} (hu : A.units + 64 < cLine) (N : News h₀ L s.heap news) (hx : (x.a, x.obj) ∈ news) (hc : PyData.strOk x.c = true) (h : Q (.bool false) s) :
    wpAny (model prog w) A (compareOp .NotEq (.ref x.a) (.ref x.a)) Q E s := by
  obtain ⟨as, ra⟩ := kqd_in N 1 (pr_datIn hx) (pr_datOk hc 0)
  have l := kqd_lay 1 x.dat (pr_datOk hc 0)
  have e : PyData.eqv (kqdP x.dat) (kqdP x.dat) = true := (kqd_eqv 1 x.dat x.dat 1 (pr_datOk hc 0) (pr_datOk hc 0)).mpr rfl
  have hs : SeqAt.shaped (kqdP x.dat) = true := by unfold SeqAt.shaped; rw [l.1, Bool.true_and]; exact decide_eq_true (Nat.le_trans l.2 (by decide))
  exact ne_dataH ra ra hs hs hu (by rw [e]; exact h)
end
end

section
open PySem.Calls
section
variable {prog : Program} {w : World} {A : Around} {s : Shared} {env : Env} {h₀ : Heap} {E : Value → Shared → Prop} {Q : Flow → Shared → Prop}

def ETurn (h₀ : Heap) (L : Addr) (e : Addr) (eo : Obj) (it : Addr) (io : Obj) (J : (Str → Option Value) → List (Addr × Obj) → Prop) (s : Shared) (f : Flow) (s₂ : Shared) : Prop :=
  f = .next ∧ ∃ h' tk m' news', s₂ = { s with heap := h', toks := tk } ∧ Fr h₀ L h' m' ∧ News h₀ L h' ((e, eo) :: (it, io) :: news') ∧ (∀ p ∈ news', p.1 ≠ e ∧ p.1 ≠ it) ∧ J m' news'

theorem for_enum {xi xv : Str} {pi pv pt : Pos} {x1 : Nat} {body : List Stmt} {l : Addr} {vs : List Value} {nn : Nat} {m₀ : Str → Option Value} {news₀ : List (Addr × Obj)} (J : Nat → (Str → Option Value) → List (Addr × Obj) → Prop)
    (hh : A.handled = none) (hxi : env.kindOf xi = some .local) (hxv : env.kindOf xv = some .local) (hp : (env.scope.kind == .class || (env.scope.kind == .module && env.locals != env.globals)) = false)
    (F : Fr h₀ env.locals s.heap m₀) (N : News h₀ env.locals s.heap news₀) (h0 : J 0 m₀ news₀) (keep : ∀ i m news, J i m news → (l, listOf vs.toArray nn) ∈ news)
    (turn : ∀ i v t m₁ news₁ h tk e eo it io, vs[i]? = some v → J i m₁ news₁ → (∀ p ∈ news₁, p.1 ≠ e ∧ p.1 ≠ it) → e ≠ it → Fr h₀ env.locals h (fun y => if y = xv then some v else if y = xi then some (.int (i : Nat) t) else m₁ y) → News h₀ env.locals h ((e, eo) :: (it, io) :: news₁) →
      wpAny (model prog w) A (execs body env) (ETurn h₀ env.locals e eo it io (J (i + 1)) s) E { s with heap := h, toks := tk })
    (done : ∀ m₁ news₁ h tk, J vs.length m₁ news₁ → Fr h₀ env.locals h m₁ → News h₀ env.locals h news₁ → Q .next { s with heap := h, toks := tk })
    (hE : PassesOwn (model prog w) A env E) :
    wpAny (model prog w) A (call (.type "enumerate") [.ref l]) (fun xv' s₁ => wpAny (model prog w) A (pyIter xv') (fun it s₂ => codeAny (model prog w) A (.forLoop (.Tuple [.Name xi pi, .Name xv pv] x1 pt) it body [] env) (fun r s' => match r with | .ok f => Q f s' | .error e => cameBackBy (model prog w) A env E e s') s₂) E s₁) E s := by
  have hm0 := keep _ _ _ h0
  have hol : s.heap.get? l = some (listOf vs.toArray nn) := (N _ hm0).1
  have hls : s.heap.IsList l vs.toArray := ⟨_, hol, rfl, nn, rfl⟩
  refine call_enumerate_list hls fun h1 he1 hit1 hsz1 hk1 => ?_
  refine wpAny_pyIter_enum he1 ?_
  have hll : l < s.heap.objs.size := Heap.lt_size hol
  have hLs : env.locals < s.heap.objs.size := F.ns.lt
  have fresh : ∀ a, s.heap.objs.size ≤ a → h₀.get? a = none := fun a ha => by
    cases q : h₀.get? a with
    | none => rfl
    | some o' => exact absurd (Heap.lt_size (F.keep a o' q)) (Nat.not_lt.mpr ha)
  have hnl : ∀ p ∈ news₀, p.1 < s.heap.objs.size := fun p hp => Heap.lt_size (N p hp).1
  have hE0 : h₀.get? (s.heap.objs.size + 1) = none := fresh _ (Nat.le_succ _)
  have hI0 : h₀.get? s.heap.objs.size = none := fresh _ (Nat.le_refl _)
  have hEn : ∀ p ∈ news₀, p.1 ≠ s.heap.objs.size + 1 ∧ p.1 ≠ s.heap.objs.size := fun p hp => ⟨Nat.ne_of_lt (Nat.lt_succ_of_lt (hnl p hp)), Nat.ne_of_lt (hnl p hp)⟩
  have hEL : s.heap.objs.size + 1 ≠ env.locals := Nat.ne_of_gt (Nat.lt_succ_of_lt hLs)
  have hIL : s.heap.objs.size ≠ env.locals := Nat.ne_of_gt hLs
  have hei : s.heap.objs.size + 1 ≠ s.heap.objs.size := Nat.succ_ne_self _
  generalize s.heap.objs.size + 1 = e at *
  generalize s.heap.objs.size = it at *
  refine codeAny_forLoop_any
    (fun k s' => ∃ h' tk m' news' i old, s' = { s with heap := h', toks := tk } ∧ IsEnum h' e it ((i : Nat) : Int) old ∧ h'.IsListIter it l i ∧ Fr h₀ env.locals h' m' ∧ News h₀ env.locals h' news' ∧ (∀ p ∈ news', p.1 ≠ e ∧ p.1 ≠ it) ∧ J i m' news' ∧ i ≤ vs.length ∧ k = vs.length + 1 - i) ?_ (vs.length + 1)
    ⟨h1, s.toks, m₀, news₀, 0, .none, rfl, he1, hit1, F.keeps hk1, (fun p hp => ⟨hk1 _ _ (N p hp).1, (N p hp).2⟩), hEn, h0, Nat.zero_le _, rfl⟩
  rintro k s' ⟨H, tk, m', news', i, old, rfl, he', hit', F', N', ho', hJ, hi, rfl⟩
  have hm' := keep _ _ _ hJ
  have hl' : H.IsList l vs.toArray := ⟨_, (N' _ hm').1, rfl, nn, rfl⟩
  have hle : l ≠ e := (ho' _ hm').1
  have hli : l ≠ it := (ho' _ hm').2
  by_cases hlt : i < vs.length
  · have hv : vs[i]? = some vs[i] := List.getElem?_eq_getElem hlt
    generalize vs[i] = v at hv
    have hva : vs.toArray[i]? = some v := by simpa using hv
    have heH : e < H.objs.size := Heap.lt_size he'
    have hLH : env.locals < H.objs.size := F'.ns.lt
    refine wpAny_pyNext_enum_item he' hit' hl' hva hei fun h₁ heo hit₁ ht₁ hz₁ hk₁ => ?_
    refine wpAny_letOwnedTupleGo_enum heo fun h₂ he₂ hs₂ => ?_
    replace hs₂ : Heap.SameBut e h₁ h₂ := hs₂
    have ht₂ : h₂.IsTuple H.objs.size #[.int i tk, v] := ⟨_, (hs₂.2 _ (Nat.ne_of_gt heH)).trans ht₁, rfl, _, rfl⟩
    have hz₂ : h₂.objs.size = H.objs.size + 1 := hs₂.1.trans hz₁
    refine wpAny_assign_Tuple hh ht₂ rfl rfl fun h₃ hx₃ => ?_
    replace hx₃ : Heap.ExtBut h₂.objs.size h₂ h₃ := hx₃
    have old₃ : ∀ b o, b < H.objs.size → h₂.get? b = some o → h₃.get? b = some o := fun b o hb x => hx₃ b o (by rw [hz₂]; exact Nat.ne_of_lt (Nat.lt_succ_of_lt hb)) x
    have all₃ : ∀ b o, b ≠ e → b ≠ it → H.get? b = some o → h₃.get? b = some o := fun b o h1 h2 x =>
      old₃ b o (Heap.lt_size x) ((hs₂.2 b h1).trans (hk₁ b o h1 h2 x))
    have F₃ : Fr h₀ env.locals h₃ m' := ⟨F'.ns.at' fun o x => all₃ _ o (Ne.symm hEL) (Ne.symm hIL) x, fun b o x => all₃ b o (fun q => by rw [q, hE0] at x; cases x) (fun q => by rw [q, hI0] at x; cases x) (F'.keep b o x), F'.above⟩
    have heo₃ : IsEnum h₃ e it (((i + 1 : Nat) : Nat) : Int) v := by
      have : ((i + 1 : Nat) : Int) = (i : Int) + 1 := by push_cast; rfl
      rw [this]; exact old₃ e _ heH he₂
    have hit₃ : h₃.IsListIter it l (i + 1) := by
      obtain ⟨oi, hoi, hrest⟩ := id hit'
      exact (hit₁.extBut hs₂.extBut (Ne.symm hei)).at fun o x => old₃ it o (Heap.lt_size hoi) x
    obtain ⟨io, hio, hic, hid⟩ := hit₃
    have N₃ : News h₀ env.locals h₃ ((e, _) :: (it, io) :: news') := fun p hp => by
      rcases List.mem_cons.mp hp with rfl | hp
      · exact ⟨heo₃, hEL, hE0⟩
      · rcases List.mem_cons.mp hp with rfl | hp
        · exact ⟨hio, hIL, hI0⟩
        · exact ⟨all₃ _ _ (ho' p hp).1 (ho' p hp).2 (N' p hp).1, (N' p hp).2⟩
    show wpAny _ A (do holding [v] (assign (.Name xi pi) env (.int i tk)); do holding [] (assign (.Name xv pv) env v); pure ()) _ _ _
    refine wpAny_bind (wpAny_holding (wpAny_assign_Name (wpAny_storeName_local hxi F₃.ns (fun h₄ hn₄ hs₄ => ?_) hp)))
    have F₄ := F₃.set hn₄ hs₄
    have N₄ := N₃.set hs₄
    refine wpAny_bind (wpAny_holding (wpAny_assign_Name (wpAny_storeName_local hxv F₄.ns (fun h₅ hn₅ hs₅ => wpAny_pure ?_) hp)))
    have F₅ := F₄.set hn₅ hs₅
    have N₅ := N₄.set hs₅
    refine wpAny_mono (wpAny_passesOwn hE (turn i v tk m' news' h₅ _ e _ it io hv hJ ho' hei F₅ N₅)) (fun f s₃ h₆ => ?_) fun _ _ x => x
    obtain ⟨rfl, h₆, tk₆, m₂, news₂, rfl, F₆, N₆, ho₆, hJ₆⟩ := h₆
    exact ⟨vs.length + 1 - (i + 1), by omega, h₆, tk₆, m₂, news₂, i + 1, v, rfl, (N₆ _ (.head _)).1, ⟨io, (N₆ _ (.tail _ (.head _))).1, hic, hid⟩, F₆, fun p hp => N₆ p (.tail _ (.tail _ hp)), ho₆, hJ₆, hlt, rfl⟩
  · have hin : i = vs.length := by omega
    subst hin
    refine wpAny_pyNext_enum_end hh he' hit' hl' (by simp) fun h₁ he₁ => wpAny_execs_nil ?_
    have back : ∀ b o, b ≠ it → H.get? b = some o → h₁.get? b = some o := he₁
    exact done m' news' h₁ tk hJ ⟨F'.ns.at' fun o x => back _ o (Ne.symm hIL) x, fun b o x => back b o (fun q => by rw [q, hI0] at x; cases x) (F'.keep b o x), F'.above⟩ fun p hp => ⟨back _ _ (ho' p hp).2 (N' p hp).1, (N' p hp).2⟩
end
end

section
open PySem.Calls
section
variable {prog : Program} {w : World} {A : Around} {E : Value → Shared → Prop} {s : Shared}
/-- the five objects of a zip of a str and a list, and the list -/
structure ZA (z TI TO i1 i2 l2 : Addr) : Prop where
  TIz : TI ≠ z
  TOz : TO ≠ z
  i1z : i1 ≠ z
  i2z : i2 ≠ z
  TITO : TI ≠ TO
  TIi1 : TI ≠ i1
  TIi2 : TI ≠ i2
  TOi1 : TO ≠ i1
  TOi2 : TO ≠ i2
  i12 : i1 ≠ i2
  l2z : l2 ≠ z
  l2TO : l2 ≠ TO
  l2i1 : l2 ≠ i1
  l2i2 : l2 ≠ i2
abbrev SIt (h : Heap) (i1 : Addr) (x : Str) (t : Tok) (k : Nat) : Prop := h.IsStrIter i1 "str_ascii_iterator" x t k
theorem sit_ext {h h' : Heap} {i1 a : Addr} {x : Str} {t : Tok} {k : Nat} (q : SIt h i1 x t k) (e : ∀ b o, b ≠ a → h.get? b = some o → h'.get? b = some o) (n : i1 ≠ a) : SIt h' i1 x t k := by
  obtain ⟨o, h1, h2⟩ := q; exact ⟨o, e _ _ n h1, h2⟩
theorem zs_item {z TI TO i1 i2 l2 : Addr} {x0 : Str} {t0 : Tok} {k c : Nat} {ys : Array Value} {y a b : Value} {Q : Option Value → Shared → Prop} (D : ZA z TI TO i1 i2 l2)
    (hz : IsZip s.heap z TI TO .none) (hTI : IsPair s.heap TI (.ref i1) (.ref i2)) (hTO : IsPair s.heap TO a b)
    (h1 : SIt s.heap i1 x0 t0 k) (h2 : s.heap.IsListIter i2 l2 k) (hl2 : s.heap.IsList l2 ys) (hx : x0.cps[k]? = some c) (hy : ys[k]? = some y)
    (hQ : ∀ h', IsZip h' z TI TO (rawInt s.heap.objs.size) → IsPair h' TO (.str ⟨#[c]⟩ s.toks) y → SIt h' i1 x0 t0 (k + 1) → h'.IsListIter i2 l2 (k + 1) → IsPair h' s.heap.objs.size (.str ⟨#[c]⟩ s.toks) y →
      (∀ c o, c ≠ z → c ≠ TO → c ≠ i1 → c ≠ i2 → s.heap.get? c = some o → h'.get? c = some o) → Q (some (.ref s.heap.objs.size)) { s with heap := h', toks := s.toks + 1 }) :
    wpAny (model prog w) A (pyNext (.ref z)) Q E s := by
  have hT : s.TypeIs (.ref z) "zip" := ⟨_, hz, rfl⟩
  unfold pyNext
  refine wpAny_bind (wpAny_attempt (wpAny_callSpecial?_slot (name := Str.ofString "__next__") hT F.slot_zip_next
    (wpAny_call_entry F.slot_zip_next hT F.entry_zip_next ?_ (F.args_zip_next_1 _))))
  show wpAny _ _ (field (.ref z) 2 >>= _) _ _ _
  refine wpAny_bind (wpAny_field hz rfl (x := .bool false) rfl ?_)
  show wpAny _ _ (field (.ref z) 3 >>= _) _ _ _
  refine wpAny_bind (wpAny_field hz rfl (x := .ref TI) rfl ?_)
  refine wpAny_bind (wpAny_seqItems hTI rfl ?_)
  show wpAny _ _ (Builtin.SmallTypes.ownedTupleIsFree (.ref z) >>= _) _ _ _
  refine wpAny_bind ?_
  unfold Builtin.SmallTypes.ownedTupleIsFree
  refine wpAny_bind (wpAny_field hz rfl (x := .none) rfl (wpAny_pure ?_))
  simp only [if_true]
  refine wpAny_bind (wpAny_rule ?_)
  refine wpAny_bind (wpAny_field hz rfl (x := .ref TO) rfl ?_)
  refine wpAny_bind (wpAny_setField_rec hz (by simp) fun h₁ hz₁ hs₁ => ?_)
  replace hz₁ : IsZip h₁ z TI TO .ellipsis := hz₁
  refine wpAny_bind ?_
  simp only [List.zipIdx_cons, List.zipIdx_nil, List.forIn_cons, List.forIn_nil]
  refine wpAny_bind (wpAny_bind (wpAny_onRaise ?_))
  show wpAny _ _ (Builtin.SmallTypes.nextOf (.ref i1) >>= _) _ _ _
  refine wpAny_bind (wpAny_nextOf_ascii_item (sit_ext h1 hs₁.extBut D.i1z) hx fun h₂ h1₂ hs₂ => wpAny_pure ?_)
  dsimp only
  have hTO₂ : IsPair h₂ TO a b := hs₂.extBut _ _ D.TOi1 (hs₁.extBut _ _ D.TOz hTO)
  refine wpAny_bind (wpAny_seqItems hTO₂ rfl ?_)
  refine wpAny_bind (wpAny_updateSeq_pair hTO₂ fun h₃ hTO₃ hs₃ => ?_)
  replace hTO₃ : IsPair h₃ TO (.str ⟨#[c]⟩ s.toks) b := hTO₃
  refine wpAny_bind (wpAny_letGo (wpAny_pure ?_))
  refine wpAny_bind (wpAny_bind (wpAny_onRaise ?_))
  show wpAny _ _ (Builtin.SmallTypes.nextOf (.ref i2) >>= _) _ _ _
  refine wpAny_bind (wpAny_nextOf_list_item (((h2.extBut hs₁.extBut D.i2z).extBut hs₂.extBut D.i12.symm).extBut hs₃.extBut D.TOi2.symm)
    (((hl2.extBut hs₁.extBut D.l2z).extBut hs₂.extBut D.l2i1).extBut hs₃.extBut D.l2TO) hy fun h₄ h2₄ hs₄ => wpAny_pure ?_)
  dsimp only
  have hTO₄ : IsPair h₄ TO (.str ⟨#[c]⟩ s.toks) b := hs₄.extBut _ _ D.TOi2 hTO₃
  refine wpAny_bind (wpAny_seqItems hTO₄ rfl ?_)
  refine wpAny_bind (wpAny_updateSeq_pair hTO₄ fun h₅ hTO₅ hs₅ => ?_)
  replace hTO₅ : IsPair h₅ TO (.str ⟨#[c]⟩ s.toks) y := hTO₅
  refine wpAny_bind (wpAny_letGo (wpAny_pure (wpAny_pure ?_)))
  refine wpAny_bind (wpAny_seqItems hTO₅ rfl ?_)
  refine wpAny_bind (wpAny_newTuple ?_)
  have hsz : h₅.objs.size = s.heap.objs.size := by rw [hs₅.1, hs₄.1, hs₃.1, hs₂.1, hs₁.1]
  have hz₅ : IsZip h₅ z TI TO .ellipsis := hs₅.extBut _ _ D.TOz.symm (hs₄.extBut _ _ D.i2z.symm (hs₃.extBut _ _ D.TOz.symm (hs₂.extBut _ _ D.i1z.symm hz₁)))
  have hk₅ : ∀ c o, c ≠ z → c ≠ TO → c ≠ i1 → c ≠ i2 → s.heap.get? c = some o → h₅.get? c = some o := fun c o c1 c2 c3 c4 e =>
    hs₅.extBut _ _ c2 (hs₄.extBut _ _ c4 (hs₃.extBut _ _ c2 (hs₂.extBut _ _ c3 (hs₁.extBut _ _ c1 e))))
  have h1₅ : SIt h₅ i1 x0 t0 (k + 1) := sit_ext (sit_ext (sit_ext h1₂ hs₃.extBut D.TOi1.symm) hs₄.extBut D.i12) hs₅.extBut D.TOi1.symm
  have h2₅ : h₅.IsListIter i2 l2 (k + 1) := h2₄.extBut hs₅.extBut D.TOi2.symm
  have hzlt : z < h₅.objs.size := Heap.lt_size hz₅
  show wpAny _ _ (Builtin.SmallTypes.ownedTupleHandOut (.ref z) (.ref h₅.objs.size) >>= _) _ _ _
  refine wpAny_bind ?_
  unfold Builtin.SmallTypes.ownedTupleHandOut
  have hz₆ : IsZip (h₅.push { cls := .type "tuple", data := .seq #[.str ⟨#[c]⟩ s.toks, y] }) z TI TO .ellipsis := Heap.get?_push_of_some _ hz₅
  refine wpAny_bind (wpAny_setField_rec hz₆ (by simp) fun h₇ hz₇ hs₇ => ?_)
  replace hz₇ : IsZip h₇ z TI TO (rawInt h₅.objs.size) := hz₇
  refine wpAny_setField_rec hz₇ (by simp) fun h₈ hz₈ hs₈ => ?_
  replace hz₈ : IsZip h₈ z TI TO (rawInt h₅.objs.size) := hz₈
  have up : ∀ c o, c ≠ z → h₅.get? c = some o → h₈.get? c = some o := fun c o c1 e => hs₈.extBut _ _ c1 (hs₇.extBut _ _ c1 (Heap.get?_push_of_some _ e))
  have hT₈ : IsPair h₈ h₅.objs.size (.str ⟨#[c]⟩ s.toks) y := hs₈.extBut _ _ (Nat.ne_of_gt hzlt) (hs₇.extBut _ _ (Nat.ne_of_gt hzlt) (Heap.get?_push_size _ rfl))
  rw [hsz] at hz₈ hT₈
  refine wpAny_pure ⟨_, rfl, wpAny_pure ?_⟩
  show Q (some (.ref h₅.objs.size)) _
  rw [hsz]
  exact hQ h₈ hz₈ (up _ _ D.TOz hTO₅) (by obtain ⟨o, e1, e2⟩ := h1₅; exact ⟨o, up _ _ D.i1z e1, e2⟩) (h2₅.at fun o e => up _ o D.i2z e) hT₈ fun c o c1 c2 c3 c4 e => up c o c1 (hk₅ c o c1 c2 c3 c4 e)

theorem zs_end {z TI TO i1 i2 l2 : Addr} {x0 : Str} {t0 : Tok} {k : Nat} {a b : Value} {Q : Option Value → Shared → Prop} (hh : A.handled = none) (D : ZA z TI TO i1 i2 l2)
    (hz : IsZip s.heap z TI TO .none) (hTI : IsPair s.heap TI (.ref i1) (.ref i2)) (hTO : IsPair s.heap TO a b)
    (h1 : SIt s.heap i1 x0 t0 k) (hx : x0.cps[k]? = none)
    (hQ : ∀ h', (∀ c o, c ≠ z → c ≠ TO → c ≠ i1 → c ≠ i2 → s.heap.get? c = some o → h'.get? c = some o) → Q none { s with heap := h' }) : wpAny (model prog w) A (pyNext (.ref z)) Q E s := by
  have hT : s.TypeIs (.ref z) "zip" := ⟨_, hz, rfl⟩
  unfold pyNext
  refine wpAny_bind (wpAny_attempt (wpAny_callSpecial?_slot (name := Str.ofString "__next__") hT F.slot_zip_next
    (wpAny_call_entry F.slot_zip_next hT F.entry_zip_next ?_ (F.args_zip_next_1 _))))
  show wpAny _ _ (field (.ref z) 2 >>= _) _ _ _
  refine wpAny_bind (wpAny_field hz rfl (x := .bool false) rfl ?_)
  show wpAny _ _ (field (.ref z) 3 >>= _) _ _ _
  refine wpAny_bind (wpAny_field hz rfl (x := .ref TI) rfl ?_)
  refine wpAny_bind (wpAny_seqItems hTI rfl ?_)
  show wpAny _ _ (Builtin.SmallTypes.ownedTupleIsFree (.ref z) >>= _) _ _ _
  refine wpAny_bind ?_
  unfold Builtin.SmallTypes.ownedTupleIsFree
  refine wpAny_bind (wpAny_field hz rfl (x := .none) rfl (wpAny_pure ?_))
  simp only [if_true]
  refine wpAny_bind (wpAny_rule ?_)
  refine wpAny_bind (wpAny_field hz rfl (x := .ref TO) rfl ?_)
  refine wpAny_bind (wpAny_setField_rec hz (by simp) fun h₁ hz₁ hs₁ => ?_)
  replace hz₁ : IsZip h₁ z TI TO .ellipsis := hz₁
  refine wpAny_bind ?_
  simp only [List.zipIdx_cons, List.zipIdx_nil, List.forIn_cons, List.forIn_nil]
  refine wpAny_bind (wpAny_bind (wpAny_onRaise ?_))
  show wpAny _ _ (Builtin.SmallTypes.nextOf (.ref i1) >>= _) _ _ _
  refine wpAny_bind (wpAny_nextOf_ascii_end hh (sit_ext h1 hs₁.extBut D.i1z) hx fun h₂ e hs₂ he => ?_)
  obtain ⟨oe, hoe, hce⟩ := he
  have hz₂ : IsZip h₂ z TI TO .ellipsis := hs₂ _ _ D.i1z.symm hz₁
  have hez : e ≠ z := fun x => by subst x; rw [hz₂] at hoe; cases hoe; simp at hce
  refine wpAny_setField_rec hz₂ (by simp) fun h₃ _ hs₃ => ?_
  refine wpAny_bind (wpAny_isInstance (T := "StopIteration") (b := true) ⟨oe, hs₃.extBut _ _ hez hoe, hce⟩ isSubtype_stop ?_)
  exact wpAny_pure (hQ h₃ fun c o c1 _ c3 _ x => hs₃.extBut _ _ c1 (hs₂ _ _ c3 (hs₁.extBut _ _ c1 x)))

abbrev zH1 (h : Heap) (x : Str) (t : Tok) : Heap := h.push { cls := .type (strIterType x), data := .fields #[.str x t, .int 0 0] }
abbrev zH2 (h : Heap) (x : Str) (t : Tok) (l2 : Addr) : Heap := (zH1 h x t).push { cls := .type "list_iterator", data := .fields #[.ref l2, .int 0 0] }
abbrev zH3 (h : Heap) (x : Str) (t : Tok) (l2 : Addr) : Heap := (zH2 h x t l2).push { cls := .type "tuple", data := .seq #[.ref h.objs.size, .ref (zH1 h x t).objs.size] }
abbrev zH4 (h : Heap) (x : Str) (t : Tok) (l2 : Addr) : Heap := (zH3 h x t l2).push { cls := .type "tuple", data := .seq #[.none, .none] }
abbrev zH5 (h : Heap) (x : Str) (t : Tok) (l2 : Addr) : Heap := (zH4 h x t l2).push { cls := .type "zip", data := .fields #[.none, .bool false, .bool false, .ref (zH2 h x t l2).objs.size, .ref (zH3 h x t l2).objs.size] }
theorem meets_zs_new (x : Str) (t : Tok) (l2 : Addr) (ys : Array Value) :
    Meets (Builtin.«zip.__new__» ⟨[.type "zip", .str x t, .ref l2], []⟩) (fun _ R s => s.heap.IsList l2 ys ∧
      R (.ok (.ret (.ref (zH4 s.heap x t l2).objs.size))) { s with heap := zH5 s.heap x t l2 }) :=
  .of_wp fun prog w A R s h => by
    obtain ⟨hp, g, d, tk, os⟩ := s; obtain ⟨hl2, h⟩ := h
    have hsub := sub_zip
    have hL2 : Heap.IsList (Shared.heap ⟨hp.push { cls := .type (strIterType x), data := .fields #[.str x t, .int 0 0] }, g, d, tk, os⟩) l2 ys := Heap.IsList.push hl2 _
    wp_walk using wpAny_pyIter_strU, wpAny_pyIter_list hL2
    exact ⟨_, rfl, h⟩
end
end

section
open PySem.Calls PyProof.Rows.LCg
section
variable {prog : Program} {w : World} {A : Around} {E : Value → Shared → Prop} {s : Shared} {h₀ : Heap} {L : Addr} {m : Str → Option Value} {env : Env}
theorem call_zs {x : Str} {t : Tok} {l2 : Addr} {ys : Array Value} {Q : Value → Shared → Prop} (hl2 : s.heap.IsList l2 ys) (ha : strIterType x = "str_ascii_iterator")
    (h : ∀ h' z TI TO i1 i2, ZA z TI TO i1 i2 l2 → (∀ c ∈ [z, TI, TO, i1, i2], s.heap.objs.size ≤ c) → IsZip h' z TI TO .none → IsPair h' TI (.ref i1) (.ref i2) → IsPair h' TO .none .none → SIt h' i1 x t 0 → h'.IsListIter i2 l2 0 →
      (∀ c o, s.heap.get? c = some o → h'.get? c = some o) → Q (.ref z) { s with heap := h' }) :
    wpAny (model prog w) A (call (.type "zip") [.str x t, .ref l2]) Q E s := by
  refine callType_new F.called_zip (by decide) (F.typeCall_zip_2 _ _) (F.newCall_zip_2 _ _) (fun obj => F.args_object_init_3 obj _ _) F.entry_zip_new
    (meets_zs_new x t l2 ys) ⟨hl2, ?_⟩
  obtain ⟨ol, hol, _⟩ := id hl2
  have hlt : l2 < s.heap.objs.size := Heap.lt_size hol
  have z1 : (zH1 s.heap x t).objs.size = s.heap.objs.size + 1 := Heap.size_push ..
  have z2 : (zH2 s.heap x t l2).objs.size = s.heap.objs.size + 2 := by rw [Heap.size_push, z1]
  have z3 : (zH3 s.heap x t l2).objs.size = s.heap.objs.size + 3 := by rw [Heap.size_push, z2]
  have z4 : (zH4 s.heap x t l2).objs.size = s.heap.objs.size + 4 := by rw [Heap.size_push, z3]
  have g5 : (zH5 s.heap x t l2).get? (zH4 s.heap x t l2).objs.size = some _ := Heap.get?_push_size _ rfl
  have g4 : (zH5 s.heap x t l2).get? (zH3 s.heap x t l2).objs.size = some _ := Heap.get?_push_of_some _ (Heap.get?_push_size _ rfl)
  have g3 : (zH5 s.heap x t l2).get? (zH2 s.heap x t l2).objs.size = some _ := Heap.get?_push_of_some _ (Heap.get?_push_of_some _ (Heap.get?_push_size _ rfl))
  have g2 : (zH5 s.heap x t l2).get? (zH1 s.heap x t).objs.size = some _ := Heap.get?_push_of_some _ (Heap.get?_push_of_some _ (Heap.get?_push_of_some _ (Heap.get?_push_size _ rfl)))
  have g1 : (zH5 s.heap x t l2).get? s.heap.objs.size = some _ := Heap.get?_push_of_some _ (Heap.get?_push_of_some _ (Heap.get?_push_of_some _ (Heap.get?_push_of_some _ (Heap.get?_push_size _ rfl))))
  show _ ∧ _
  rw [z2, z3, z4] at g5
  rw [z1, z2] at g3
  rw [z3] at g4
  rw [z1] at g2
  rw [z4]
  have ne : ∀ a b : Nat, a ≠ b → @Ne Addr a b := fun _ _ h => h
  have hlt' : @LT.lt Nat _ l2 s.heap.objs.size := hlt
  refine ⟨⟨_, g5, rfl⟩, h (zH5 s.heap x t l2) (s.heap.objs.size + 4) (s.heap.objs.size + 2) (s.heap.objs.size + 3) s.heap.objs.size (s.heap.objs.size + 1) ?_ ?_ g5 g3 g4 ⟨_, g1, by rw [ha], rfl⟩ ⟨_, g2, rfl, rfl⟩ fun c o x =>
    Heap.get?_push_of_some _ (Heap.get?_push_of_some _ (Heap.get?_push_of_some _ (Heap.get?_push_of_some _ (Heap.get?_push_of_some _ x))))⟩
  · constructor <;> (refine ne _ _ ?_; omega)
  · intro c hc
    simp only [List.mem_cons, List.not_mem_nil, or_false] at hc
    rcases hc with rfl | rfl | rfl | rfl | rfl
    · exact Nat.le_add_right _ 4
    · exact Nat.le_add_right _ 2
    · exact Nat.le_add_right _ 3
    · exact Nat.le_refl _
    · exact Nat.le_add_right _ 1

/-- the end of an element's evaluation in the zip's comprehension -/
def ZEnd (h₀ : Heap) (L : Addr) (m : Str → Option Value) (s : Shared) (all nx : List (Addr × Obj)) (K : List (Addr × Obj) → Prop) (s₂ : Shared) : Prop :=
  ∃ h' tk nx', s₂ = { s with heap := h', toks := tk } ∧ Fr h₀ L h' m ∧ News h₀ L h' all ∧ News h₀ L h' nx' ∧ (∀ p ∈ nx', p ∈ nx ∨ ∀ q ∈ all, q.1 ≠ p.1) ∧ K nx'

theorem comp_zs {elt iter target : Expr} {scope : Scope} {cl : List (Str × Addr)} {pos : Pos} {x : Str} {t : Tok} {l2 : Addr} {cs : List Value} {nn : Nat} {news₀ : List (Addr × Obj)} {Q : Value → Shared → Prop} {M2 : Nat → (Str → Option Value) → Prop} (J : Nat → List Value → List (Addr × Obj) → Prop)
    (hh : A.handled = none) (F : Fr h₀ L s.heap m) (N : News h₀ L s.heap news₀) (h0 : J 0 [] news₀) (keep : ∀ i ys nx, J i ys nx → (l2, listOf cs.toArray nn) ∈ nx) (ha : strIterType x = "str_ascii_iterator") (hlen : x.cps.size = cs.length) (hsz : cs.length ≤ sizeLine)
    (hcell : ∀ y ∈ scope.names, y.2 ≠ .cell) (hkind : scope.kind = .function) (htgt : ∃ elts k q, target = .Tuple elts k q)
    (asg : ∀ i c u v C m₂ T (s₁ : Shared) (Q' : Unit → Shared → Prop) (E' : Value → Shared → Prop), x.cps[i]? = some c → cs[i]? = some v → IsPair s₁.heap T (.str ⟨#[c]⟩ u) v → s₁.heap.Ns C m₂ →
      (∀ h' tk m₃, h'.Ns C m₃ → M2 i m₃ → (∀ b o, b ≠ C → s₁.heap.get? b = some o → h'.get? b = some o) → Q' () { s₁ with heap := h', toks := tk }) → wpAny (model prog w) A (assign target (compEnvC scope cl C env) (.ref T)) Q' E' s₁)
    (turn : ∀ i ys nx its C oC D m₂ h tk, i < cs.length → J i ys nx → NsObj oC m₂ → M2 i m₂ → Fr h₀ L h m → News h₀ L h ((C, oC) :: (D, lst ys) :: its) → (∀ p ∈ nx, p ∈ its) →
      ∀ E' : Value → Shared → Prop, wpAny (model prog w) A (eval elt (compEnvC scope cl C env)) (fun y s₄ => ZEnd h₀ L m { s with heap := h, toks := tk } ((C, oC) :: (D, lst ys) :: its) nx (J (i + 1) (ys ++ [y])) s₄) E' { s with heap := h, toks := tk })
    (done : ∀ D h tk ys nx, J cs.length ys nx → Fr h₀ L h m → News h₀ L h ((D, lst ys) :: nx) → (∀ p ∈ nx, p.1 ≠ D) → Q (.ref D) { s with heap := h, toks := tk }) :
    wpAny (model prog w) A (call (.type "zip") [.str x t, .ref l2]) (fun xv s₁ => wpAny (model prog w) A (pyIter xv) (fun it s₂ => wpAny (model prog w) A (newList []) (fun acc s₃ => wpAny (model prog w) A (newFunctionEnv scope env.globals cl [] env.qual none .none (some env)) (fun cenv s₄ =>
      codeAny (model prog w) A (.compStart (.ListComp elt [⟨target, iter, [], 0⟩] scope pos) 0 it acc { cenv with scope := relabel scope env }) (compPost (model prog w) A E none Q acc cenv.locals) s₄) E s₃) E s₂) E s₁) E s := by
  have hm0 := keep _ _ _ h0
  have hls : s.heap.IsList l2 cs.toArray := ⟨_, (N _ hm0).1, rfl, nn, rfl⟩
  refine call_zs hls ha fun h1 z TI TO i1 i2 D hge hz hTI hTO hs1 hi2 hk1 => ?_
  refine wpAny_pyIter_zip hz ?_
  have F1 : Fr h₀ L h1 m := F.keeps hk1
  have N1 : News h₀ L h1 news₀ := fun p hp => ⟨hk1 _ _ (N p hp).1, (N p hp).2⟩
  have fresh : ∀ c, s.heap.objs.size ≤ c → h₀.get? c = none ∧ c ≠ L ∧ ∀ p ∈ news₀, p.1 ≠ c := fun c hc => by
    refine ⟨?_, ?_, fun p hp => ?_⟩
    · cases e : h₀.get? c with
      | none => rfl
      | some o' => exact absurd (Heap.lt_size (F.keep c o' e)) (Nat.not_lt.mpr hc)
    · exact Nat.ne_of_gt (Nat.lt_of_lt_of_le F.ns.lt hc)
    · exact Nat.ne_of_lt (Nat.lt_of_lt_of_le (Heap.lt_size (N p hp).1) hc)
  have fz := fresh z (hge z (by simp))
  have fTI := fresh TI (hge TI (by simp))
  have fTO := fresh TO (hge TO (by simp))
  have f1 := fresh i1 (hge i1 (by simp))
  have f2 := fresh i2 (hge i2 (by simp))
  refine wpAny_newObj_type (wpAny_newFunctionEnv hcell (by intro y hy; simp at hy) (fun h₂ hns₂ hsb₂ => ?_) hkind)
  dsimp only at hns₂ hsb₂ ⊢
  have szlt : ∀ {c o}, h1.get? c = some o → c < h1.objs.size := fun e => Heap.lt_size e
  have bz := szlt hz
  have bTI := szlt hTI
  have bTO := szlt hTO
  have b1 : i1 < h1.objs.size := by obtain ⟨o, e, _⟩ := hs1; exact szlt e
  have b2 : i2 < h1.objs.size := by obtain ⟨o, e, _⟩ := hi2; exact szlt e
  have bn : ∀ p ∈ news₀, p.1 < h1.objs.size := fun p hp => szlt (N1 p hp).1
  have hD0 := next_is_new F1
  have bL : L < h1.objs.size := F1.ns.lt
  have fr1 : ∀ c, h1.objs.size ≤ c → h₀.get? c = none := fun c hc => by
    cases e : h₀.get? c with
    | none => rfl
    | some o' => exact absurd (Heap.lt_size (F1.keep c o' e)) (Nat.not_lt.mpr hc)
  generalize hDv : h1.objs.size = Dl at *
  generalize hH2 : h1.push { cls := .type "list", dict := none, data := .seq ([] : List Value).toArray } = H2 at *
  have hC : H2.objs.size = Dl + 1 := by rw [← hH2, Heap.size_push, hDv]
  generalize hCv : H2.objs.size = C at *
  have nDC : Dl ≠ C := by rw [hC]; exact Nat.ne_of_lt (Nat.lt_succ_self _)
  have below : ∀ c, c < Dl → c ≠ Dl ∧ c ≠ C := fun c hc => ⟨Nat.ne_of_lt hc, by rw [hC]; exact Nat.ne_of_lt (Nat.lt_succ_of_lt hc)⟩
  have hC0 : h₀.get? C = none := fr1 C (by rw [hC]; exact Nat.le_succ _)
  have hDL : Dl ≠ L := Nat.ne_of_gt bL
  have hCL : C ≠ L := by rw [hC]; exact Nat.ne_of_gt (Nat.lt_succ_of_lt bL)
  have old : ∀ b o, h1.get? b = some o → h₂.get? b = some o := fun b o e => by
    have hb : b < Dl := hDv ▸ Heap.lt_size e
    exact hsb₂.extBut b o (below b hb).2 (Heap.get?_push_of_some _ (hH2 ▸ Heap.get?_push_of_some _ e))
  have hacc : h₂.get? Dl = some (lst []) := hsb₂.extBut _ _ nDC (Heap.get?_push_of_some _ (hH2 ▸ hDv ▸ Heap.get?_push_size _ rfl))
  obtain ⟨elts, kk, qq, rfl⟩ := htgt
  have loop : ∀ s₃ : Shared, s₃ = { s with heap := h₂, toks := s.toks + ([] : List (Str × Value)).length } →
      codeAny (model prog w) A (.compLoop (.ListComp elt [⟨.Tuple elts kk qq, iter, [], 0⟩] scope pos) 0 (.ref z) (.ref Dl) (compEnvC scope cl C env)) (compPost (model prog w) A E none Q (.ref Dl) C) s₃ := by
    rintro s₃ rfl
    refine loop_any
      (fun k s' => ∃ h' tk i ys m' nx, s' = { s with heap := h', toks := tk } ∧ i ≤ cs.length ∧ k = cs.length + 1 - i ∧ ys.length ≤ i ∧ IsZip h' z TI TO .none ∧ IsPair h' TI (.ref i1) (.ref i2) ∧ (∃ a b, IsPair h' TO a b) ∧ SIt h' i1 x t i ∧ h'.IsListIter i2 l2 i ∧
        Fr h₀ L h' m ∧ h'.Ns C m' ∧ News h₀ L h' ((Dl, lst ys) :: nx) ∧ (∀ p ∈ nx, p.1 ≠ C ∧ p.1 ≠ Dl ∧ p.1 ≠ z ∧ p.1 ≠ TI ∧ p.1 ≠ TO ∧ p.1 ≠ i1 ∧ p.1 ≠ i2) ∧ J i ys nx) ?_ (cs.length + 1)
      ⟨h₂, _, 0, [], _, news₀, rfl, Nat.zero_le _, rfl, Nat.le_refl _, old _ _ hz, old _ _ hTI, ⟨_, _, old _ _ hTO⟩, (by obtain ⟨o, e1, e2⟩ := hs1; exact ⟨o, old _ _ e1, e2⟩), hi2.at fun o e => old _ o e, F1.keeps old, hns₂, fun p hp => ?_, fun p hp => ?_, h0⟩
    · rintro k s' ⟨h', tk, i, ys, m', nx, rfl, hi, rfl, hyl, hz', hTI', ⟨a, b, hTO'⟩, hs', hi2', F', hn', N', ho', hJ⟩
      have hkl := keep _ _ _ hJ
      have hl' : h'.IsList l2 cs.toArray := ⟨_, (N' _ (.tail _ hkl)).1, rfl, nn, rfl⟩
      by_cases hlt : i < cs.length
      · have hv : cs[i]? = some cs[i] := List.getElem?_eq_getElem hlt
        have hc : x.cps[i]? = some x.cps[i] := Array.getElem?_eq_getElem (by rw [hlen]; exact hlt)
        generalize cs[i] = v at hv
        generalize x.cps[i] = c at hc
        refine zs_item D hz' hTI' hTO' hs' hi2' hl' hc (by simpa using hv) fun h₃ hz₃ hTO₃ hs₃ hi₃ hT₃ hk₃ => ?_
        have sL : ∀ {c o}, h'.get? c = some o → c ≠ h'.objs.size := fun e => Nat.ne_of_lt (Heap.lt_size e)
        refine wpAny_letOwnedTupleGo_zip hz₃ fun h₄ hz₄ hs₄ => ?_
        replace hs₄ : Heap.SameBut z h₃ h₄ := hs₄
        have k4 : ∀ b o, b ≠ z → b ≠ TO → b ≠ i1 → b ≠ i2 → h'.get? b = some o → h₄.get? b = some o := fun b o c1 c2 c3 c4 e => hs₄.extBut b o c1 (hk₃ b o c1 c2 c3 c4 e)
        have hzT : h'.objs.size ≠ z := (sL hz').symm
        have hT₄ : IsPair h₄ h'.objs.size (.str ⟨#[c]⟩ tk) v := hs₄.extBut _ _ hzT hT₃
        have hnC : C ≠ z ∧ C ≠ TI ∧ C ≠ TO ∧ C ≠ i1 ∧ C ≠ i2 := ⟨(below z bz).2.symm, (below TI bTI).2.symm, (below TO bTO).2.symm, (below i1 b1).2.symm, (below i2 b2).2.symm⟩
        have hnD : Dl ≠ z ∧ Dl ≠ TI ∧ Dl ≠ TO ∧ Dl ≠ i1 ∧ Dl ≠ i2 := ⟨(below z bz).1.symm, (below TI bTI).1.symm, (below TO bTO).1.symm, (below i1 b1).1.symm, (below i2 b2).1.symm⟩
        refine asg i c tk v C m' h'.objs.size _ _ _ hc hv hT₄ (hn'.at' fun o e => k4 _ o hnC.1 hnC.2.2.1 hnC.2.2.2.1 hnC.2.2.2.2 e) fun h₅ tk₅ m₃ hn₅ hM hk₅ => ?_
        replace hk₅ : ∀ b o, b ≠ C → h₄.get? b = some o → h₅.get? b = some o := hk₅
        obtain ⟨oC, heC, hoC⟩ := ns_obj hn₅
        have k5 : ∀ b o, b ≠ C → b ≠ z → b ≠ TO → b ≠ i1 → b ≠ i2 → h'.get? b = some o → h₅.get? b = some o := fun b o c0 c1 c2 c3 c4 e => hk₅ b o c0 (k4 b o c1 c2 c3 c4 e)
        have F₅ : Fr h₀ L h₅ m := ⟨F'.ns.at' fun o e => k5 _ o hCL.symm fz.2.1.symm fTO.2.1.symm f1.2.1.symm f2.2.1.symm e, fun b o e => k5 b o (fun q => by rw [q, hC0] at e; cases e) (fun q => by rw [q, fz.1] at e; cases e) (fun q => by rw [q, fTO.1] at e; cases e) (fun q => by rw [q, f1.1] at e; cases e) (fun q => by rw [q, f2.1] at e; cases e) (F'.keep b o e), F'.above⟩
        have z5 : IsZip h₅ z TI TO .none := hk₅ _ _ hnC.1.symm hz₄
        have TI5 : IsPair h₅ TI (.ref i1) (.ref i2) := k5 _ _ hnC.2.1.symm D.TIz D.TITO D.TIi1 D.TIi2 hTI'
        have TO5 : IsPair h₅ TO (.str ⟨#[c]⟩ tk) v := hk₅ _ _ hnC.2.2.1.symm (hs₄.extBut _ _ D.TOz hTO₃)
        obtain ⟨o1, e1, r1⟩ := sit_ext hs₃ hs₄.extBut D.i1z
        have e1 := hk₅ _ _ hnC.2.2.2.1.symm e1
        obtain ⟨o2, e2, r2⟩ := (hi₃.extBut hs₄.extBut D.i2z)
        have e2 := hk₅ _ _ hnC.2.2.2.2.symm e2
        refine wpAny_tests_nil ?_
        simp only [if_true]
        have Nall : News h₀ L h₅ ((C, oC) :: (Dl, lst ys) :: ((z, _) :: (TI, _) :: (TO, _) :: (i1, o1) :: (i2, o2) :: nx)) := fun p hp => by
          rcases List.mem_cons.mp hp with rfl | hp; · exact ⟨heC, hCL, hC0⟩
          rcases List.mem_cons.mp hp with rfl | hp; · exact ⟨k5 _ _ nDC hnD.1 hnD.2.2.1 hnD.2.2.2.1 hnD.2.2.2.2 (N' _ (.head _)).1, hDL, hD0⟩
          rcases List.mem_cons.mp hp with rfl | hp; · exact ⟨z5, fz.2.1, fz.1⟩
          rcases List.mem_cons.mp hp with rfl | hp; · exact ⟨TI5, fTI.2.1, fTI.1⟩
          rcases List.mem_cons.mp hp with rfl | hp; · exact ⟨TO5, fTO.2.1, fTO.1⟩
          rcases List.mem_cons.mp hp with rfl | hp; · exact ⟨e1, f1.2.1, f1.1⟩
          rcases List.mem_cons.mp hp with rfl | hp; · exact ⟨e2, f2.2.1, f2.1⟩
          obtain ⟨q1, q2, q3, q4, q5, q6, q7⟩ := ho' p hp
          exact ⟨k5 _ _ q1 q3 q5 q6 q7 (N' p (.tail _ hp)).1, (N' p (.tail _ hp)).2⟩
        refine wpAny_mono (turn i ys nx _ C oC Dl m₃ h₅ tk₅ hlt hJ hoC hM F₅ Nall (fun p hp => .tail _ (.tail _ (.tail _ (.tail _ (.tail _ hp))))) _) (fun y s₅ h₆ => ?_) fun _ _ e => e
        obtain ⟨h₆, tk₆, nx₆, rfl, F₆, N₆, Nx₆, hx₆, hJ₆⟩ := h₆
        have zC := (N₆ _ (.head _)).1
        have zD := (N₆ _ (.tail _ (.head _))).1
        have zz := (N₆ _ (.tail _ (.tail _ (.head _)))).1
        have zTI := (N₆ _ (.tail _ (.tail _ (.tail _ (.head _))))).1
        have zTO := (N₆ _ (.tail _ (.tail _ (.tail _ (.tail _ (.head _)))))).1
        have z1 := (N₆ _ (.tail _ (.tail _ (.tail _ (.tail _ (.tail _ (.head _))))))).1
        have z2 := (N₆ _ (.tail _ (.tail _ (.tail _ (.tail _ (.tail _ (.tail _ (.head _)))))))).1
        refine append_at (hsz := by show ys.toArray.size ≤ sizeLine; rw [List.size_toArray]; exact Nat.le_trans (Nat.le_trans hyl hi) hsz) zD fun h₇ hs₇ hD₇ => ?_
        have ho₆ : ∀ p ∈ nx₆, p.1 ≠ C ∧ p.1 ≠ Dl ∧ p.1 ≠ z ∧ p.1 ≠ TI ∧ p.1 ≠ TO ∧ p.1 ≠ i1 ∧ p.1 ≠ i2 := fun p hp => by
          rcases hx₆ p hp with h | h
          · exact ho' p h
          · exact ⟨(h _ (.head _)).symm, (h _ (.tail _ (.head _))).symm, (h _ (.tail _ (.tail _ (.head _)))).symm, (h _ (.tail _ (.tail _ (.tail _ (.head _))))).symm, (h _ (.tail _ (.tail _ (.tail _ (.tail _ (.head _)))))).symm, (h _ (.tail _ (.tail _ (.tail _ (.tail _ (.tail _ (.head _))))))).symm, (h _ (.tail _ (.tail _ (.tail _ (.tail _ (.tail _ (.tail _ (.head _)))))))).symm⟩
        refine ⟨cs.length + 1 - (i + 1), by omega, h₇, tk₆, i + 1, ys ++ [y], _, nx₆, rfl, hlt, rfl, by rw [List.length_append, List.length_singleton]; exact Nat.succ_le_succ hyl, hs₇.extBut _ _ hnD.1.symm zz, hs₇.extBut _ _ hnD.2.1.symm zTI, ⟨_, _, hs₇.extBut _ _ hnD.2.2.1.symm zTO⟩,
          ⟨o1, hs₇.extBut _ _ hnD.2.2.2.1.symm z1, r1⟩, ⟨o2, hs₇.extBut _ _ hnD.2.2.2.2.symm z2, r2⟩, F₆.change hs₇ hDL hD0, (hoC.ns zC).sameBut hs₇ nDC.symm, fun p hp => ?_, ho₆, hJ₆⟩
        rcases List.mem_cons.mp hp with rfl | hp
        · exact ⟨hD₇.trans (congrArg some (lst_snoc ys y)), hDL, hD0⟩
        · exact ⟨hs₇.extBut _ _ (ho₆ p hp).2.1 (Nx₆ p hp).1, (Nx₆ p hp).2⟩
      · obtain rfl : i = cs.length := Nat.le_antisymm hi (Nat.not_lt.mp hlt)
        refine zs_end hh D hz' hTI' hTO' hs' (Array.getElem?_eq_none (by rw [hlen]; exact Nat.le_refl _)) fun h₃ hk₃ => ?_
        have hnC : C ≠ z ∧ C ≠ TO ∧ C ≠ i1 ∧ C ≠ i2 := ⟨(below z bz).2.symm, (below TO bTO).2.symm, (below i1 b1).2.symm, (below i2 b2).2.symm⟩
        have hnD : Dl ≠ z ∧ Dl ≠ TO ∧ Dl ≠ i1 ∧ Dl ≠ i2 := ⟨(below z bz).1.symm, (below TO bTO).1.symm, (below i1 b1).1.symm, (below i2 b2).1.symm⟩
        refine ⟨m', hn'.at' fun o e => hk₃ _ o hnC.1 hnC.2.1 hnC.2.2.1 hnC.2.2.2 e, fun h'' hs'' => ?_⟩
        have back : ∀ b o, b ≠ C → b ≠ z → b ≠ TO → b ≠ i1 → b ≠ i2 → h'.get? b = some o → h''.get? b = some o := fun b o c0 c1 c2 c3 c4 e => hs''.extBut b o c0 (hk₃ b o c1 c2 c3 c4 e)
        refine done Dl h'' tk ys nx hJ ⟨F'.ns.at' fun o e => back _ o hCL.symm fz.2.1.symm fTO.2.1.symm f1.2.1.symm f2.2.1.symm e, fun b o e => back b o (fun q => by rw [q, hC0] at e; cases e) (fun q => by rw [q, fz.1] at e; cases e) (fun q => by rw [q, fTO.1] at e; cases e) (fun q => by rw [q, f1.1] at e; cases e) (fun q => by rw [q, f2.1] at e; cases e) (F'.keep b o e), F'.above⟩ (fun p hp => ?_) fun p hp => (ho' p hp).2.1
        rcases List.mem_cons.mp hp with rfl | hp'
        · exact ⟨back _ _ nDC hnD.1 hnD.2.1 hnD.2.2.1 hnD.2.2.2 (N' _ hp).1, (N' _ hp).2⟩
        · obtain ⟨q1, q2, q3, q4, q5, q6, q7⟩ := ho' p hp'
          exact ⟨back _ _ q1 q3 q5 q6 q7 (N' _ hp).1, (N' _ hp).2⟩
    · rcases List.mem_cons.mp hp with rfl | hp
      · exact ⟨hacc, hDL, hD0⟩
      · exact ⟨old _ _ (N1 p hp).1, (N1 p hp).2⟩
    · have := below p.1 (bn p hp)
      exact ⟨this.2, this.1, fz.2.2 p hp, fTI.2.2 p hp, fTO.2.2 p hp, f1.2.2 p hp, f2.2.2 p hp⟩
  exact codeAny_compStart_list (loop _ rfl) (wpAny_pyIter_zip (old _ _ hz) (loop _ rfl))
theorem asg_zp {x x₂ : Str} {px px₂ tp : Pos} {tk : Nat} {scope : Scope} {cl : List (Str × Addr)} {C T : Addr} {v₁ v₂ : Value} {m₂ : Str → Option Value} {Q' : Unit → Shared → Prop}
    (hh : A.handled = none) (hkind : scope.kind = .function) (hx : scope.names.lookup x = some .local) (hx₂ : scope.names.lookup x₂ = some .local) (hxx : x ≠ x₂)
    (ht : IsPair s.heap T v₁ v₂) (hn : s.heap.Ns C m₂)
    (h : ∀ h' tk m₃, h'.Ns C m₃ → m₃ x = some v₁ → m₃ x₂ = some v₂ → (∀ b o, b ≠ C → s.heap.get? b = some o → h'.get? b = some o) → Q' () { s with heap := h', toks := tk }) :
    wpAny (model prog w) A (assign (.Tuple [.Name x px, .Name x₂ px₂] tk tp) (compEnvC scope cl C env) (.ref T)) Q' E s := by
  have htup : IsTup s.heap T #[v₁, v₂] := ⟨_, ht, rfl, 0, rfl⟩
  refine assign_Tuple_tuple hh htup rfl rfl fun h₅ he => ?_
  have he' : ∀ b o, s.heap.get? b = some o → h₅.get? b = some o := fun b o e => he b o (Nat.ne_of_lt (Heap.lt_size e)) e
  refine assignInOrder_cons (wpAny_assign_Name (wpAny_storeName_local (lookup_relabel_local hx) (hn.at' fun o e => he' _ o e) (fun h₆ hn₆ hs₆ => ?_) (by simp [compEnvC, relabel, hkind])))
  refine assignInOrder_cons (wpAny_assign_Name (wpAny_storeName_local (lookup_relabel_local hx₂) hn₆ (fun h₃ hn₃ hs₃ => ?_) (by simp [compEnvC, relabel, hkind])))
  refine assignInOrder_nil ?_
  exact h h₃ _ _ hn₃ (by simp [hxx]) (by simp) fun b o hb e => hs₃.extBut b o hb (hs₆.extBut b o hb (he' b o e))
end
end

section
/-- the sort's tree with a fixed answer -/
def run {α : Type} (lt : Nat → Nat → Bool) : KasT α → α
  | .ret a => a
  | .ask i j k => run lt (k (lt i j))
theorem run_bind {α β : Type} {lt : Nat → Nat → Bool} {f : α → KasT β} : ∀ t : KasT α, run lt (t.bind f) = run lt (f (run lt t))
  | .ret _ => rfl
  | .ask i j k => run_bind (k (lt i j))
theorem run_wp {α : Type} {lt : Nat → Nat → Bool} {cmp : Nat → Nat → (Bool → Shared → Prop) → Shared → Prop} {Q : α → Shared → Prop} {s : Shared} (h : ∀ i j C, C (lt i j) s → cmp i j C s) : ∀ t : KasT α, Q (run lt t) s → t.kasWp cmp Q s
  | .ret _, q => q
  | .ask i j k, q => h i j _ (run_wp h (k (lt i j)) q)

section
variable {lt : Nat → Nat → Bool}
abbrev vl (p : Array Nat) (k : Nat) : Nat := p.getD k 0
def Le (lt : Nat → Nat → Bool) (a b : Nat) : Prop := lt b a = false
def Upto (lt : Nat → Nat → Bool) (p : Array Nat) (k : Nat) : Prop := ∀ i j, i < j → j < k → Le lt (vl p i) (vl p j)
structure Ord (lt : Nat → Nat → Bool) : Prop where
  asym : ∀ a b, lt a b = true → lt b a = false
  neg : ∀ a b c, lt a c = true → lt a b = true ∨ lt b c = true
theorem Ord.trans (O : Ord lt) {a b c : Nat} (h1 : Le lt a b) (h2 : Le lt b c) : Le lt a c := by
  show lt c a = false
  cases h : lt c a with
  | false => rfl
  | true =>
    rcases O.neg c b a h with h | h
    · rw [h2] at h; cases h
    · rw [h1] at h; cases h
theorem Ord.of_lt (O : Ord lt) {a b : Nat} (h : lt a b = true) : Le lt a b := O.asym a b h
theorem Upto.step (O : Ord lt) {p : Array Nat} {n : Nat} (h : Upto lt p n) (hn : 1 ≤ n) (h2 : Le lt (vl p (n - 1)) (vl p n)) : Upto lt p (n + 1) := by
  intro i j hij hj
  by_cases e : j = n
  · subst e
    by_cases e2 : i = j - 1
    · subst e2; exact h2
    · exact O.trans (h i (j - 1) (by omega) (by omega)) h2
  · exact h i j hij (by omega)
theorem upto_one (p : Array Nat) : Upto lt p 1 := fun i j h1 h2 => by omega

theorem asc_run (O : Ord lt) (p : Array Nat) : ∀ (f n : Nat), 1 ≤ n → Upto lt p n →
    n ≤ run lt (kas_asc p f n) ∧ run lt (kas_asc p f n) ≤ n + f ∧ Upto lt p (run lt (kas_asc p f n)) ∧ (run lt (kas_asc p f n) < n + f → lt (vl p (run lt (kas_asc p f n))) (vl p (run lt (kas_asc p f n) - 1)) = true)
  | 0, n, _, h => ⟨Nat.le_refl _, Nat.le_refl _, h, fun h => absurd h (Nat.lt_irrefl _)⟩
  | f + 1, n, hn, h => by
    have e : run lt (kas_asc p (f + 1) n) = run lt (if lt (vl p n) (vl p (n - 1)) = true then .ret n else kas_asc p f (n + 1)) := rfl
    rw [e]
    by_cases c : lt (vl p n) (vl p (n - 1)) = true
    · rw [if_pos c]
      exact ⟨Nat.le_refl _, Nat.le_add_right _ _, h, fun _ => c⟩
    · rw [if_neg c]
      obtain ⟨a1, a2, a3, a4⟩ := asc_run O p f (n + 1) (by omega) (h.step O hn (Bool.eq_false_iff.mpr c))
      exact ⟨by omega, by omega, a3, fun h => a4 (by omega)⟩

def Desc (lt : Nat → Nat → Bool) (p : Array Nat) (k : Nat) : Prop := ∀ i j, i < j → j < k → lt (vl p j) (vl p i) = true
def Tot (lt : Nat → Nat → Bool) (p : Array Nat) : Prop := ∀ i j, i < p.size → j < p.size → i ≠ j → lt (vl p i) (vl p j) = true ∨ lt (vl p j) (vl p i) = true
theorem Ord.lt_trans (O : Ord lt) {a b c : Nat} (h1 : lt a b = true) (h2 : lt b c = true) : lt a c = true := by
  rcases O.neg a c b h1 with h | h
  · exact h
  · rw [O.asym _ _ h2] at h; cases h
theorem desc_run (O : Ord lt) (p : Array Nat) (T : Tot lt p) : ∀ (f n : Nat), 1 ≤ n → n + f ≤ p.size → Desc lt p n →
    (run lt (kas_desc f p n 0)).1 = p ∧ (run lt (kas_desc f p n 0)).2.2 = 0 ∧ n ≤ (run lt (kas_desc f p n 0)).2.1 ∧ (run lt (kas_desc f p n 0)).2.1 ≤ n + f ∧ Desc lt p (run lt (kas_desc f p n 0)).2.1
  | 0, n, _, _, h => ⟨rfl, rfl, Nat.le_refl _, Nat.le_refl _, h⟩
  | f + 1, n, hn, hz, h => by
    have e : run lt (kas_desc (f + 1) p n 0) = run lt (if lt (vl p n) (vl p (n - 1)) = true then (if 0 > 0 then kas_desc f (kas_rev p (n - (0 + 1)) n) (n + 1) 0 else kas_desc f p (n + 1) 0)
      else .ask (vl p (n - 1)) (vl p n) fun d => if d = true then .ret (p, n, 0) else kas_desc f p (n + 1) (0 + 1)) := rfl
    rw [e]
    by_cases c : lt (vl p n) (vl p (n - 1)) = true
    · rw [if_pos c, if_neg (Nat.lt_irrefl 0)]
      have hd : Desc lt p (n + 1) := fun i j hij hj => by
        by_cases ej : j = n
        · subst ej
          by_cases ei : i = j - 1
          · subst ei; exact c
          · exact O.lt_trans c (h i (j - 1) (by omega) (by omega))
        · exact h i j hij (by omega)
      obtain ⟨a1, a2, a3, a4, a5⟩ := desc_run O p T f (n + 1) (by omega) (by omega) hd
      exact ⟨a1, a2, by omega, by omega, a5⟩
    · rw [if_neg c]
      have t := T (n - 1) n (by omega) (by omega) (by omega)
      have t' : lt (vl p (n - 1)) (vl p n) = true := t.resolve_right c
      have e2 : run lt (.ask (vl p (n - 1)) (vl p n) fun d => if d = true then .ret (p, n, 0) else kas_desc f p (n + 1) (0 + 1)) = (p, n, 0) := by
        show run lt (if lt (vl p (n - 1)) (vl p n) = true then .ret (p, n, 0) else kas_desc f p (n + 1) (0 + 1)) = _
        rw [if_pos t']; rfl
      rw [e2]
      exact ⟨rfl, rfl, Nat.le_refl _, Nat.le_add_right _ _, h⟩

theorem vl_rev {p : Array Nat} {m k : Nat} (hm : m ≤ p.size) (hk : k < m) : vl (kas_rev p 0 m) k = vl p (m - 1 - k) := by
  have h := getElem?_mirror_all (xs := p) (i := 0) hm k
  rw [if_pos ⟨Nat.zero_le _, hk⟩] at h
  unfold vl kas_rev
  rw [Array.getD_eq_getD_getElem?, Array.getD_eq_getD_getElem?, h]
  congr 2; omega
theorem rev_upto (O : Ord lt) {p : Array Nat} {m : Nat} (hm : m ≤ p.size) (h : Desc lt p m) : Upto lt (kas_rev p 0 m) m := fun i j hij hj => by
  rw [vl_rev hm (by omega), vl_rev hm hj]
  exact O.of_lt (h (m - 1 - j) (m - 1 - i) (by omega) (by omega))

theorem count_run (O : Ord lt) (p : Array Nat) (T : Tot lt p) (hz : 1 ≤ p.size) :
    (run lt (kas_count p.size p)).2.Perm p ∧ Upto lt (run lt (kas_count p.size p)).2 (run lt (kas_count p.size p)).1 ∧ 1 ≤ (run lt (kas_count p.size p)).1 ∧ (run lt (kas_count p.size p)).1 ≤ p.size := by
  obtain ⟨a1, a2, a3, a4⟩ := asc_run O p (p.size - 1) 1 (Nat.le_refl _) (upto_one p)
  unfold kas_count
  rw [run_bind]
  generalize run lt (kas_asc p (p.size - 1) 1) = n at *
  by_cases e : (n == p.size) = true
  · rw [if_pos e]
    exact ⟨Array.Perm.refl _, a3, a1, by show n ≤ _; omega⟩
  · rw [if_neg e]
    have hne : n ≠ p.size := by simpa using e
    by_cases h1 : n > 1
    · rw [if_pos h1]
      have t := T 0 (n - 1) (by omega) (by omega) (by omega)
      have hle := a3 0 (n - 1) (by omega) (by omega)
      have t' : lt (vl p 0) (vl p (n - 1)) = true := by
        rcases t with t | t
        · exact t
        · rw [hle] at t; cases t
      have e2 : run lt (.ask (p.getD 0 0) (p.getD (n - 1) 0) fun c => if c = true then .ret (n, p) else kas_descPart n p.size (kas_rev p 0 n)) = (n, p) := by
        show run lt (if lt (vl p 0) (vl p (n - 1)) = true then .ret (n, p) else kas_descPart n p.size (kas_rev p 0 n)) = _
        rw [if_pos t']; rfl
      rw [e2]
      exact ⟨Array.Perm.refl _, a3, a1, by show n ≤ _; omega⟩
    · rw [if_neg h1]
      obtain rfl : n = 1 := by omega
      have h4 := a4 (by omega)
      have hd : Desc lt p 2 := fun i j hij hj => by
        obtain rfl : i = 0 := by omega
        obtain rfl : j = 1 := by omega
        exact h4
      unfold kas_descPart
      rw [run_bind]
      obtain ⟨b1, b2, b3, b4, b5⟩ := desc_run O p T (p.size - (1 + 1)) (1 + 1) (by omega) (by omega) hd
      generalize run lt (kas_desc (p.size - (1 + 1)) p (1 + 1) 0) = r at *
      obtain ⟨r1, r2, r3⟩ := r
      dsimp only at b1 b2 b3 b4 b5
      subst b1 b2
      dsimp only
      rw [if_neg (Nat.lt_irrefl 0)]
      unfold kas_tail3
      rw [run_bind]
      have hr := rev_upto O (by omega) b5
      obtain ⟨c1, c2, c3, _⟩ := asc_run O (kas_rev r1 0 r2) (r1.size - r2) r2 (by omega) hr
      exact ⟨mirror_perm _ _ _ _, c3, by show 1 ≤ run lt _; omega, by show run lt _ ≤ _; omega⟩

theorem place_run (O : Ord lt) (p : Array Nat) (k : Nat) (hs : Upto lt p k) : ∀ (f l r : Nat), l ≤ r → r ≤ k → r - l ≤ f → (∀ i, i < l → Le lt (vl p i) (vl p k)) → (∀ i, r ≤ i → i < k → lt (vl p k) (vl p i) = true) →
    run lt (kas_place p k f l r) ≤ k ∧ (∀ i, i < run lt (kas_place p k f l r) → Le lt (vl p i) (vl p k)) ∧ ∀ i, run lt (kas_place p k f l r) ≤ i → i < k → lt (vl p k) (vl p i) = true
  | 0, l, r, h1, h2, h3, h4, h5 => ⟨by show l ≤ k; omega, h4, fun i hi hk => h5 i (by have : l ≤ i := hi; omega) hk⟩
  | f + 1, l, r, h1, h2, h3, h4, h5 => by
    unfold kas_place
    by_cases hge : l ≥ r
    · rw [if_pos hge]
      exact ⟨by show l ≤ k; omega, h4, fun i hi hk => h5 i (by have : l ≤ i := hi; omega) hk⟩
    · rw [if_neg hge]
      show run lt (if lt (vl p k) (vl p ((l + r) / 2)) = true then kas_place p k f l ((l + r) / 2) else kas_place p k f ((l + r) / 2 + 1) r) ≤ k ∧ (∀ i, i < run lt (if lt (vl p k) (vl p ((l + r) / 2)) = true then kas_place p k f l ((l + r) / 2) else kas_place p k f ((l + r) / 2 + 1) r) → Le lt (vl p i) (vl p k)) ∧
        ∀ i, run lt (if lt (vl p k) (vl p ((l + r) / 2)) = true then kas_place p k f l ((l + r) / 2) else kas_place p k f ((l + r) / 2 + 1) r) ≤ i → i < k → lt (vl p k) (vl p i) = true
      by_cases c : lt (vl p k) (vl p ((l + r) / 2)) = true
      · rw [if_pos c]
        refine place_run O p k hs f l ((l + r) / 2) (by omega) (by omega) (by omega) h4 fun i hi hk => ?_
        by_cases e : i = (l + r) / 2
        · rw [e]; exact c
        · rcases O.neg _ (vl p i) _ c with h | h
          · exact h
          · have := hs ((l + r) / 2) i (by omega) hk
            rw [this] at h; cases h
      · rw [if_neg c]
        refine place_run O p k hs f ((l + r) / 2 + 1) r (by omega) h2 (by omega) (fun i hi => ?_) h5
        have hm : Le lt (vl p ((l + r) / 2)) (vl p k) := Bool.eq_false_iff.mpr c
        by_cases e : i = (l + r) / 2
        · rw [e]; exact hm
        · exact O.trans (hs i ((l + r) / 2) (by omega) (by omega)) hm

theorem vl_bubble {p : Array Nat} {src d k : Nat} (hs : src < p.size) (hd : d ≤ src) : vl (bubble p src d) k = if k = src - d then vl p src else if src - d < k ∧ k ≤ src then vl p (k - 1) else vl p k := by
  have e : ∀ (q : Array Nat) i, vl q i = (q[i]?).getD 0 := fun q i => Array.getD_eq_getD_getElem?
  rw [e, e, e, e, getElem?_bubble hs d hd]
  split
  · rfl
  · split <;> rfl
theorem bin_run (O : Ord lt) : ∀ (f k : Nat) (p : Array Nat), k + f = p.size → Upto lt p k → (run lt (kas_bin f p k)).Perm p ∧ Upto lt (run lt (kas_bin f p k)) p.size
  | 0, k, p, h, hs => ⟨Array.Perm.refl _, by have : k = p.size := by omega
                                             rw [← this]; exact hs⟩
  | f + 1, k, p, h, hs => by
    unfold kas_bin
    rw [run_bind]
    obtain ⟨a1, a2, a3⟩ := place_run O p k hs k 0 k (Nat.zero_le _) (Nat.le_refl _) (by omega) (fun i hi => absurd hi (Nat.not_lt_zero _)) (fun i h1 h2 => by omega)
    generalize run lt (kas_place p k k 0 k) = l at *
    have hsz : (bubble p k (k - l)).size = p.size := bubble_size _ _ _
    have hkl : k - (k - l) = l := by omega
    have hb : ∀ i, vl (bubble p k (k - l)) i = if i = l then vl p k else if l < i ∧ i ≤ k then vl p (i - 1) else vl p i := fun i => by
      rw [vl_bubble (by omega) (by omega), hkl]
    have hu : Upto lt (bubble p k (k - l)) (k + 1) := fun i j hij hj => by
      rw [hb i, hb j]
      by_cases e1 : i = l
      · rw [if_pos e1, if_neg (by omega), if_pos (by omega)]
        exact O.of_lt (a3 (j - 1) (by omega) (by omega))
      · rw [if_neg e1]
        by_cases e2 : l < i ∧ i ≤ k
        · rw [if_pos e2, if_neg (by omega), if_pos (by omega)]
          exact hs (i - 1) (j - 1) (by omega) (by omega)
        · rw [if_neg e2]
          by_cases e3 : j = l
          · rw [if_pos e3]; exact a2 i (by omega)
          · rw [if_neg e3]
            by_cases e4 : l < j ∧ j ≤ k
            · rw [if_pos e4]
              by_cases e5 : i = j - 1
              · omega
              · exact hs i (j - 1) (by omega) (by omega)
            · rw [if_neg e4]; exact hs i j hij (by omega)
    obtain ⟨b1, b2⟩ := bin_run O f (k + 1) (bubble p k (k - l)) (by rw [hsz]; omega) hu
    rw [hsz] at b2
    exact ⟨b1.trans (bubble_perm _ _ _), b2⟩

theorem sort_run (O : Ord lt) {n : Nat} (hn : 1 ≤ n) (T : ∀ a b, a < n → b < n → a ≠ b → lt a b = true ∨ lt b a = true) :
    (run lt (kas_sort n)).toList.Perm (List.range n) ∧ (run lt (kas_sort n)).toList.Pairwise (fun a b => lt b a = false) := by
  have hsz : (List.toArray (List.range n)).size = n := by simp
  have hT : Tot lt (List.toArray (List.range n)) := fun i j hi hj hij => by
    rw [hsz] at hi hj
    have e : ∀ i, i < n → vl (List.toArray (List.range n)) i = i := fun i hi => by
      unfold vl; rw [Array.getD_eq_getD_getElem?]; simp [hi]
    rw [e i hi, e j hj]; exact T i j hi hj hij
  obtain ⟨a1, a2, a3, a4⟩ := count_run O (List.toArray (List.range n)) hT (by rw [hsz]; exact hn)
  rw [hsz] at a1 a2 a3 a4
  have main : (run lt (kas_sort n)).Perm (List.toArray (List.range n)) ∧ Upto lt (run lt (kas_sort n)) n := by
    unfold kas_sort
    rw [run_bind]
    generalize run lt (kas_count n (List.toArray (List.range n))) = r at *
    have hr2 : r.2.size = n := by rw [a1.size_eq, hsz]
    by_cases c : r.1 < n
    · rw [if_pos c, Nat.max_eq_left a3]
      obtain ⟨b1, b2⟩ := bin_run O (n - r.1) r.1 r.2 (by omega) a2
      rw [hr2] at b2
      exact ⟨b1.trans a1, b2⟩
    · rw [if_neg c]
      have : r.1 = n := by omega
      exact ⟨a1, by show Upto lt r.2 n; rw [← this]; exact a2⟩
  have hs : (run lt (kas_sort n)).size = n := by rw [main.1.size_eq, hsz]
  refine ⟨Array.perm_iff_toList_perm.mp main.1, ?_⟩
  rw [List.pairwise_iff_getElem]
  intro i j hi hj hij
  have hj' : j < n := by rw [Array.length_toList, hs] at hj; exact hj
  have := main.2 i j hij hj'
  have e : ∀ i (h : i < (run lt (kas_sort n)).toList.length), vl (run lt (kas_sort n)) i = (run lt (kas_sort n)).toList[i] := fun i h => by
    unfold vl; rw [Array.getD_eq_getD_getElem?, Array.getElem?_eq_getElem (by rw [Array.length_toList] at h; exact h)]; simp
  rw [e i hi, e j hj] at this
  exact this
end
/-- all questions of the tree are of numbers below n, all ends have P -/
def Good (n : Nat) {α : Type} (P : α → Prop) : KasT α → Prop
  | .ret a => P a
  | .ask i j k => i < n ∧ j < n ∧ ∀ b, Good n P (k b)
theorem good_bind {n : Nat} {α β : Type} {P : α → Prop} {R : β → Prop} {f : α → KasT β} : ∀ t : KasT α, Good n P t → (∀ a, P a → Good n R (f a)) → Good n R (t.bind f)
  | .ret a, h, g => g a h
  | .ask _ _ k, ⟨h1, h2, h3⟩, g => ⟨h1, h2, fun b => good_bind (k b) (h3 b) g⟩
theorem good_wp {n : Nat} {α : Type} {P : α → Prop} {lt : Nat → Nat → Bool} {cmp : Nat → Nat → (Bool → Shared → Prop) → Shared → Prop} {Q : α → Shared → Prop} {s : Shared} (h : ∀ i j C, i < n → j < n → C (lt i j) s → cmp i j C s) : ∀ t : KasT α, Good n P t → Q (run lt t) s → t.kasWp cmp Q s
  | .ret _, _, q => q
  | .ask i j k, ⟨g1, g2, g3⟩, q => h i j _ g1 g2 (good_wp h (k (lt i j)) (g3 _) q)
def AB (n : Nat) (p : Array Nat) : Prop := ∀ i, p.getD i 0 < n
theorem ab_perm {n : Nat} {p q : Array Nat} (h : AB n p) (hq : q.Perm p) : AB n q := fun i => by
  have h0 : 0 < n := Nat.lt_of_le_of_lt (Nat.zero_le _) (h 0)
  rw [Array.getD_eq_getD_getElem?]
  cases e : q[i]? with
  | none => exact h0
  | some v =>
    have hm : v ∈ p := hq.mem_iff.mp (Array.mem_of_getElem? e)
    obtain ⟨j, hj, hv⟩ := Array.getElem_of_mem hm
    have := h j
    rw [Array.getD_eq_getD_getElem?, Array.getElem?_eq_getElem hj] at this
    show v < n
    rw [← hv]; exact this
theorem good_asc {n : Nat} {p : Array Nat} (h : AB n p) : ∀ f k, Good n (fun _ => True) (kas_asc p f k)
  | 0, _ => trivial
  | f + 1, k => ⟨h _, h _, fun b => by
    dsimp only
    by_cases c : b = true
    · rw [if_pos c]; trivial
    · rw [if_neg c]; exact good_asc h f (k + 1)⟩
theorem ab_rev {n : Nat} {p : Array Nat} (h : AB n p) (i j : Nat) : AB n (kas_rev p i j) := ab_perm h (mirror_perm _ _ _ _)
theorem good_desc {n : Nat} : ∀ (f : Nat) (p : Array Nat) (k q : Nat), AB n p → Good n (fun r => AB n r.1) (kas_desc f p k q)
  | 0, _, _, _, h => h
  | f + 1, p, k, q, h => ⟨h _, h _, fun b => by
    dsimp only
    by_cases c : b = true
    · rw [if_pos c]
      by_cases c2 : q > 0
      · rw [if_pos c2]; exact good_desc f _ _ _ (ab_rev h _ _)
      · rw [if_neg c2]; exact good_desc f _ _ _ h
    · rw [if_neg c]
      refine ⟨h _, h _, fun d => ?_⟩
      dsimp only
      by_cases c2 : d = true
      · rw [if_pos c2]; exact h
      · rw [if_neg c2]; exact good_desc f _ _ _ h⟩
theorem good_tail3 {n a b : Nat} {p : Array Nat} (h : AB n p) : Good n (fun r => AB n r.2) (kas_tail3 a b p) :=
  good_bind _ (good_asc (ab_rev h _ _) _ _) fun _ _ => ab_rev h _ _
theorem good_descPart {n a b : Nat} {p : Array Nat} (h : AB n p) : Good n (fun r => AB n r.2) (kas_descPart a b p) := by
  refine good_bind _ (good_desc _ _ _ _ h) fun r hr => ?_
  by_cases c : r.2.2 > 0
  · rw [if_pos c]; exact good_tail3 (ab_rev hr _ _)
  · rw [if_neg c]; exact good_tail3 hr
theorem good_count {n b : Nat} {p : Array Nat} (h : AB n p) : Good n (fun r => AB n r.2) (kas_count b p) := by
  refine good_bind _ (good_asc h _ _) fun k _ => ?_
  by_cases c : (k == b) = true
  · rw [if_pos c]; exact h
  · rw [if_neg c]
    by_cases c2 : k > 1
    · rw [if_pos c2]
      refine ⟨h _, h _, fun d => ?_⟩
      dsimp only
      by_cases c3 : d = true
      · rw [if_pos c3]; exact h
      · rw [if_neg c3]; exact good_descPart (ab_rev h _ _)
    · rw [if_neg c2]; exact good_descPart h
theorem good_place {n k : Nat} {p : Array Nat} (h : AB n p) : ∀ f l r, Good n (fun _ => True) (kas_place p k f l r)
  | 0, _, _ => trivial
  | f + 1, l, r => by
    unfold kas_place
    by_cases c : l ≥ r
    · rw [if_pos c]; trivial
    · rw [if_neg c]
      refine ⟨h _, h _, fun d => ?_⟩
      dsimp only
      by_cases c3 : d = true
      · rw [if_pos c3]; exact good_place h f _ _
      · rw [if_neg c3]; exact good_place h f _ _
theorem good_bin {n : Nat} : ∀ (f : Nat) (p : Array Nat) (k : Nat), AB n p → Good n (fun r => AB n r) (kas_bin f p k)
  | 0, _, _, h => h
  | f + 1, p, k, h => good_bind _ (good_place h _ _ _) fun l _ => good_bin f _ _ (ab_perm h (bubble_perm _ _ _))
theorem good_sort {n : Nat} (hn : 1 ≤ n) : Good n (fun _ => True) (kas_sort n) := by
  have h : AB n (List.toArray (List.range n)) := fun i => by
    rw [Array.getD_eq_getD_getElem?]
    by_cases hi : i < n
    · simp [hi]
    · simp [hi]; omega
  have weak : ∀ {t : KasT (Array Nat)}, Good n (fun r => AB n r) t → Good n (fun _ => True) t := fun {t} g => by
    induction t with
    | ret a => trivial
    | ask i j k ih => exact ⟨g.1, g.2.1, fun b => ih b (g.2.2 b)⟩
  refine weak (good_bind _ (good_count h) fun r hr => ?_)
  by_cases c : r.1 < n
  · rw [if_pos c]; exact good_bin _ _ _ hr
  · rw [if_neg c]; exact hr
end

section
open PySem.Calls PyProof.Rows.LCg
section
variable {prog : Program} {w : World} {A : Around} {E : Value → Shared → Prop} {s : Shared} {h₀ : Heap} {L : Addr} {m : Str → Option Value} {env : Env}

theorem comp_use {y : Str} {py : Pos} {elt iter target : Expr} {ifs : List Expr} {scope : Scope} {cl : List (Str × Addr)} {pos : Pos} {ax : Addr} {vs : List Value} {nn : Nat} {news₀ : List (Addr × Obj)} {Qn : Shared → Prop} {M2 : Nat → (Str → Option Value) → Prop} (J : Nat → List Value → List (Addr × Obj) → Prop)
    (hh : A.handled = none) (F : Fr h₀ L s.heap m) (N : News h₀ L s.heap news₀) (h0 : J 0 [] news₀) (keep : ∀ i ys nx, J i ys nx → (ax, listOf vs.toArray nn) ∈ nx) (hsz : vs.length ≤ sizeLine)
    (hcell : ∀ y ∈ scope.names, y.2 ≠ .cell) (hkind : scope.kind = .function) (hLe : env.locals = L) (hy : env.kindOf y = some .local) (hp : (env.scope.kind == .class || (env.scope.kind == .module && env.locals != env.globals)) = false)
    (asg : ∀ i v ys nx C m₂ (s₁ : Shared) (Q' : Unit → Shared → Prop) (E' : Value → Shared → Prop), vs[i]? = some v → J i ys nx → News h₀ L s₁.heap nx → s₁.heap.Ns C m₂ →
      (∀ h' tk m₃, h'.Ns C m₃ → M2 i m₃ → (∀ b o, b ≠ C → s₁.heap.get? b = some o → h'.get? b = some o) → Q' () { s₁ with heap := h', toks := tk }) → wpAny (model prog w) A (assign target (compEnvC scope cl C env) v) Q' E' s₁)
    (turn : ∀ i v ys nx I oI C oC D m₂ h tk, vs[i]? = some v → J i ys nx → NsObj oC m₂ → M2 i m₂ → Fr h₀ L h m → News h₀ L h ((I, oI) :: (C, oC) :: (D, lst ys) :: nx) → (∀ p ∈ nx, p.1 ≠ I ∧ p.1 ≠ C ∧ p.1 ≠ D) → (I ≠ C ∧ I ≠ D ∧ C ≠ D) →
      CBody prog w A h₀ L m (compEnvC scope cl C env) ifs elt { s with heap := h, toks := tk } I oI C oC D ys (J (i + 1)))
    (done : ∀ D h tk ys nx, J vs.length ys nx → Fr h₀ L h (fun z => if z = y then some (.ref D) else m z) → News h₀ L h ((D, lst ys) :: nx) → (∀ p ∈ nx, p.1 ≠ D) → Qn { s with heap := h, toks := tk }) :
    wpAny (model prog w) A (pyIter (.ref ax)) (fun it s₂ => wpAny (model prog w) A (newList []) (fun acc s₃ => wpAny (model prog w) A (newFunctionEnv scope env.globals cl [] env.qual none .none (some env)) (fun cenv s₄ =>
      codeAny (model prog w) A (.compStart (.ListComp elt [⟨target, iter, ifs, 0⟩] scope pos) 0 it acc { cenv with scope := relabel scope env }) (compPost (model prog w) A E (some (assign (.Name y py) env)) (fun _ s' => Qn s') acc cenv.locals) s₄) E s₃) E s₂) E s := by
  have hm0 := keep _ _ _ h0
  have hol : s.heap.get? ax = some (listOf vs.toArray nn) := (N _ hm0).1
  have hls : s.heap.IsList ax vs.toArray := ⟨_, hol, rfl, nn, rfl⟩
  have hne : ax ≠ s.heap.objs.size := Nat.ne_of_lt (Heap.lt_size hol)
  refine wpAny_pyIter_list hls ?_
  refine wpAny_newObj_type (wpAny_newFunctionEnv hcell (by intro y hy; simp at hy) (fun h₁ hns₁ hsb₁ => ?_) hkind)
  dsimp only at hns₁ hsb₁ ⊢
  have hI0 : h₀.get? s.heap.objs.size = none := next_is_new F
  generalize hIt : s.heap.objs.size = I at hne hI0 hns₁ hsb₁ ⊢
  generalize hH1 : s.heap.push { cls := .type "list_iterator", data := .fields #[.ref ax, .int 0 0] } = H1 at hns₁ hsb₁ ⊢
  have hD : H1.objs.size = I + 1 := by rw [← hH1, Heap.size_push, hIt]
  generalize hDv : H1.objs.size = D at hns₁ hsb₁ ⊢
  have hDI : D = I + 1 := by rw [← hDv, hD]
  generalize hH2 : H1.push { cls := .type "list", dict := none, data := .seq ([] : List Value).toArray } = H2 at hns₁ hsb₁ ⊢
  have hC : H2.objs.size = I + 2 := by rw [← hH2, Heap.size_push, hD]
  generalize hCv : H2.objs.size = C at hns₁ hsb₁ ⊢
  have hCI : C = I + 2 := by rw [← hCv, hC]
  have hLI : @LT.lt Nat _ L I := by rw [← hIt]; exact F.ns.lt
  have old : ∀ b o, s.heap.get? b = some o → h₁.get? b = some o := fun b o e => by
    have hb : @LT.lt Nat _ b I := hIt ▸ Heap.lt_size e
    exact hsb₁.extBut b o (by rw [hCI]; exact Nat.ne_of_lt (by omega)) (Heap.get?_push_of_some _ (hH2 ▸ Heap.get?_push_of_some _ (hH1 ▸ Heap.get?_push_of_some _ e)))
  have hit₁ : h₁.IsListIter I ax 0 := by
    refine ⟨_, hsb₁.extBut I _ (by rw [hCI]; exact Nat.ne_of_lt (by omega)) (Heap.get?_push_of_some _ (hH2 ▸ Heap.get?_push_of_some _ (hH1 ▸ hIt ▸ Heap.get?_push_size _ rfl))), rfl, rfl⟩
  have hacc : h₁.get? D = some (lst []) := hsb₁.extBut _ _ (by rw [hCI, hDI]; exact Nat.ne_of_lt (by omega)) (Heap.get?_push_of_some _ (hH2 ▸ hDv ▸ Heap.get?_push_size _ rfl))
  have fresh₀ : ∀ a, I ≤ a → h₀.get? a = none := fun a ha => by
    cases e : h₀.get? a with
    | none => rfl
    | some o' => exact absurd (Heap.lt_size (F.keep a o' e)) (by rw [hIt]; exact Nat.not_lt.mpr ha)
  have hD₀ : h₀.get? D = none := fresh₀ _ (by omega)
  have hC₀ : h₀.get? C = none := fresh₀ _ (by omega)
  have hIL : I ≠ L := Nat.ne_of_gt hLI
  have hDL : D ≠ L := Nat.ne_of_gt (by omega)
  have hCL : C ≠ L := Nat.ne_of_gt (by omega)
  have nIC : I ≠ C := Nat.ne_of_lt (by omega)
  have nID : I ≠ D := Nat.ne_of_lt (by omega)
  have nCD : C ≠ D := Nat.ne_of_gt (by omega)
  have W := Walks.list (prog := prog) (w := w) hh I ax hne vs.toArray
  have hlen : vs.toArray.size = vs.length := by simp
  have loop : ∀ s₃ : Shared, s₃ = { s with heap := h₁, toks := s.toks + ([] : List (Str × Value)).length } →
      codeAny (model prog w) A (.compLoop (.ListComp elt [⟨target, iter, ifs, 0⟩] scope pos) 0 (.ref I) (.ref D) (compEnvC scope cl C env)) (compPost (model prog w) A E (some (assign (.Name y py) env)) (fun _ s' => Qn s') (.ref D) C) s₃ := by
    rintro s₃ rfl
    refine loop_any
      (fun k s' => ∃ h' tk i ys m' nx, s' = { s with heap := h', toks := tk } ∧ i ≤ vs.length ∧ k = vs.length + 1 - i ∧ ys.length ≤ i ∧ h'.IsListIter I ax i ∧ Fr h₀ L h' m ∧ h'.Ns C m' ∧ News h₀ L h' ((D, lst ys) :: nx) ∧
        (∀ p ∈ nx, p.1 ≠ I ∧ p.1 ≠ C ∧ p.1 ≠ D) ∧ J i ys nx) ?_ (vs.length + 1)
      ⟨h₁, _, 0, [], _, news₀, rfl, Nat.zero_le _, rfl, Nat.le_refl _, hit₁, F.keeps old, hns₁, fun p hp => ?_, fun p hp => ?_, h0⟩
    · rintro k s' ⟨h', tk, i, ys, m', nx, rfl, hi, rfl, hyl, hit', F', hn', N', ho', hJ⟩
      have hl' : h'.IsList ax vs.toArray := ⟨_, (N' _ (.tail _ (keep _ _ _ hJ))).1, rfl, nn, rfl⟩
      by_cases hlt : i < vs.length
      · refine W.item i _ _ _ (by rw [hlen]; exact hlt) ⟨hit', hl'⟩ fun v h₂ tk₂ hPv hst₂ hk₂ => ?_
        have hv : vs[i]? = some v := by simpa using hPv
        have hk₂' : ∀ b o, b ≠ I → h'.get? b = some o → h₂.get? b = some o := fun b o hb e => hk₂ b o (by simpa using hb) e
        have N₂ : News h₀ L h₂ ((D, lst ys) :: nx) := fun p hp => by
          refine ⟨hk₂' _ _ ?_ (N' p hp).1, (N' p hp).2⟩
          rcases List.mem_cons.mp hp with rfl | hp
          · exact nID.symm
          · exact (ho' p hp).1
        refine letGo_listiter hst₂.1 ?_
        refine asg i v ys nx C m' _ _ _ hv hJ (fun p hp => N₂ p (.tail _ hp)) (hn'.at' fun o e => hk₂' _ o nIC.symm e) fun h₃ tk₃ m₃ hn₃ hM hk₃ => ?_
        obtain ⟨oI, heI, hcI, hdI⟩ := hst₂.1
        have heI₃ := hk₃ I oI nIC heI
        obtain ⟨oC, heC, hoC⟩ := ns_obj hn₃
        have F₃ : Fr h₀ L h₃ m := ⟨(F'.ns.at' fun o e => hk₂' _ o hIL.symm e).at' fun o e => hk₃ _ o hCL.symm e, fun b o e => by
          refine hk₃ b o (fun q => by rw [q, hC₀] at e; cases e) (hk₂' b o (fun q => by rw [q, hI0] at e; cases e) (F'.keep b o e)), F'.above⟩
        have N₃ : News h₀ L h₃ ((I, oI) :: (C, oC) :: (D, lst ys) :: nx) := fun p hp => by
          rcases List.mem_cons.mp hp with rfl | hp
          · exact ⟨heI₃, hIL, hI0⟩
          · rcases List.mem_cons.mp hp with rfl | hp
            · exact ⟨heC, hCL, hC₀⟩
            · refine ⟨hk₃ _ _ ?_ (N₂ p hp).1, (N₂ p hp).2⟩
              rcases List.mem_cons.mp hp with rfl | hp
              · exact nCD.symm
              · exact (ho' p hp).2.1
        refine wpAny_mono (turn i v ys nx I oI C oC D m₃ h₃ tk₃ hv hJ hoC hM F₃ N₃ ho' ⟨nIC, nID, nCD⟩ _) (fun ok s₄ h₄ => ?_) fun _ _ e => e
        cases ok with
        | true =>
          simp only [if_true] at h₄ ⊢
          refine wpAny_mono h₄ (fun y s₅ h₅ => ?_) fun _ _ e => e
          obtain ⟨h₄, tk₄, nx₄, rfl, F₄, N₄, ho₄, hJ₄⟩ := h₅
          have zI := (N₄ (I, oI) (.head _)).1
          have zC := (N₄ (C, oC) (.tail _ (.head _))).1
          have zD := (N₄ (D, lst ys) (.tail _ (.tail _ (.head _)))).1
          refine append_at (hsz := by show ys.toArray.size ≤ sizeLine; rw [List.size_toArray]; exact Nat.le_trans (Nat.le_trans hyl hi) hsz) zD fun h₅ hs₅ hD₅ => ?_
          refine ⟨vs.length + 1 - (i + 1), by omega, h₅, tk₄, i + 1, ys ++ [y], _, nx₄, rfl, hlt, rfl, by rw [List.length_append, List.length_singleton]; exact Nat.succ_le_succ hyl, ⟨oI, hs₅.extBut _ _ nID zI, hcI, hdI⟩, F₄.change hs₅ hDL hD₀,
            (hoC.ns zC).sameBut hs₅ nCD, fun p hp => ?_, ho₄, hJ₄⟩
          rcases List.mem_cons.mp hp with rfl | hp
          · exact ⟨hD₅.trans (congrArg some (lst_snoc ys y)), hDL, hD₀⟩
          · have z := N₄ p (.tail _ (.tail _ (.tail _ hp)))
            exact ⟨hs₅.extBut _ _ (ho₄ p hp).2.2 z.1, z.2⟩
        | false =>
          simp only [Bool.false_eq_true, if_false] at h₄ ⊢
          obtain ⟨h₅, tk₄, nx₄, rfl, F₄, N₄, ho₄, hJ₄⟩ := h₄
          have zI := (N₄ (I, oI) (.head _)).1
          have zC := (N₄ (C, oC) (.tail _ (.head _))).1
          exact ⟨vs.length + 1 - (i + 1), by omega, h₅, tk₄, i + 1, ys, _, nx₄, rfl, hlt, rfl, Nat.le_succ_of_le hyl, ⟨oI, zI, hcI, hdI⟩, F₄, hoC.ns zC, fun p hp => N₄ p (.tail _ (.tail _ hp)), ho₄, hJ₄⟩
      · obtain rfl : i = vs.length := Nat.le_antisymm hi (Nat.not_lt.mp hlt)
        refine W.done _ _ _ ⟨by rw [hlen]; exact hit', hl'⟩ fun h₂ tk₂ hk₂ => ?_
        have hk₂' : ∀ b o, b ≠ I → h'.get? b = some o → h₂.get? b = some o := fun b o hb e => hk₂ b o (by simpa using hb) e
        have Fd : Fr h₀ L h₂ m := ⟨F'.ns.at' fun o e => hk₂' _ o hIL.symm e, fun b o e => hk₂' b o (fun q => by rw [q, hI0] at e; cases e) (F'.keep b o e), F'.above⟩
        have Nd : News h₀ L h₂ ((D, lst ys) :: nx) := fun p hp => by
          refine ⟨hk₂' _ _ ?_ (N' p hp).1, (N' p hp).2⟩
          rcases List.mem_cons.mp hp with rfl | hp
          · exact nID.symm
          · exact (ho' p hp).1
        have nsd : h₂.Ns C m' := hn'.at' fun o e => hk₂' _ o nIC.symm e
        show wpAny _ A (assign (.Name y py) env (.ref D)) _ _ _
        subst hLe
        refine wpAny_assign_Name (wpAny_storeName_local hy Fd.ns (fun h₃ hn₃ hs₃ => ?_) hp)
        have F3 := Fd.set hn₃ hs₃
        have N3 := Nd.set hs₃
        refine ⟨m', nsd.sameBut hs₃ hCL, fun h'' hs'' => ?_⟩
        have back : ∀ b o, b ≠ C → h₃.get? b = some o → h''.get? b = some o := fun b o h2 e => hs''.extBut b o h2 e
        refine done D h'' _ ys nx hJ ⟨F3.ns.at' fun o e => back _ o hCL.symm e, fun b o e => back b o (fun q => by rw [q, hC₀] at e; cases e) (F3.keep b o e), F3.above⟩ (fun p hp => ?_) fun p hp => (ho' p hp).2.2
        rcases List.mem_cons.mp hp with rfl | hp'
        · exact ⟨back _ _ nCD.symm (N3 _ hp).1, (N3 _ hp).2⟩
        · exact ⟨back _ _ (ho' p hp').2.1 (N3 _ hp).1, (N3 _ hp).2⟩
    · rcases List.mem_cons.mp hp with rfl | hp
      · exact ⟨hacc, hDL, hD₀⟩
      · exact ⟨old _ _ (N p hp).1, (N p hp).2⟩
    · have hp' : @LT.lt Nat _ p.1 I := hIt ▸ Heap.lt_size (N p hp).1
      exact ⟨Nat.ne_of_lt (by omega), Nat.ne_of_lt (by omega), Nat.ne_of_lt (by omega)⟩
  exact codeAny_compStart_list (loop _ rfl) (wpAny_pyIter_listiter hit₁ (loop _ rfl))

theorem asg_open {y : Str} {py : Pos} {elt target iter : Expr} {ifs : List Expr} {scope : Scope} {cl : List (Str × Addr)} {pos spos : Pos} {Q : Flow → Shared → Prop}
    (hsw : swapsWith (.ListComp elt [⟨target, iter, ifs, 0⟩] scope pos) (some (.Name y py)) spos.line env = pure true) (hclos : closureFor scope env = pure cl) (hkind : scope.kind = .function) (hnames : ∀ x ∈ scope.names, x.2 = .local → scope.names.lookup x.1 = some .local)
    (h : wpAny (model prog w) A (eval iter env) (fun x s₁ => wpAny (model prog w) A (pyIter x) (fun it s₂ => wpAny (model prog w) A (newList []) (fun acc s₃ =>
      wpAny (model prog w) A (newFunctionEnv scope env.globals cl [] env.qual none .none (some env)) (fun cenv s₄ =>
        codeAny (model prog w) A (.compStart (.ListComp elt [⟨target, iter, ifs, 0⟩] scope pos) 0 it acc { cenv with scope := relabel scope env }) (compPost (model prog w) A E (some (assign (.Name y py) env)) (fun _ s' => Q .next s') acc cenv.locals) s₄) E s₃) E s₂) E s₁) E s)
    (hs : ∀ x, foldedSetIterable iter env x = pure x := by intro _; rfl) :
    wpAny (model prog w) A (exec (.Assign [.Name y py] (.ListComp elt [⟨target, iter, ifs, 0⟩] scope pos) spos) env) Q E s := by
  rw [exec_Assign_Name_used _ _ _ _ hsw]
  refine wpAny_bind (wpAny_standAt (wpAny_bind ?_))
  show wpAny _ A (do let _ ← comprehension (.ListComp elt [⟨target, iter, ifs, 0⟩] scope pos) scope env _ (newList []) false (eval iter env) (some (assign (.Name y py) env))) _ _ s
  exact wpAny_bind (wpAny_mono (wpAny_comprehension_free (use := some (assign (.Name y py) env)) (Q := fun _ s' => Q .next s') rfl hs hclos hkind hnames h) (fun _ s' hq => wpAny_pure (wpAny_pure hq)) fun _ _ e => e)
end
end

section
section
variable {prog : Program} {w : World} {A : Around} {E : Value → Shared → Prop} {s : Shared} {h₀ : Heap} {L a b : Addr} {news : List (Addr × Obj)} {oa ob : Obj} {ka kb : Nat}
theorem prs_dat : ∀ {xs : List Pr}, (∀ e ∈ xs, (e.a, e.obj) ∈ news) → DatAll news (xs.map Pr.v) (xs.map Pr.dat)
  | [], _ => .nil
  | x :: _, h => .cons (pr_datIn (h x (.head _))) (prs_dat fun e he => h e (.tail _ he))
theorem prs_ok {xs : List Pr} (h : ∀ e ∈ xs, PyData.strOk e.c = true) : ∀ d ∈ xs.map Pr.dat, kqdOk 8 d = true := fun d hd => by
  obtain ⟨e, he, rfl⟩ := List.mem_map.mp hd
  exact pr_datOk (h e he) 7
theorem prs_ne {xs : List Pr} {Q : Value → Shared → Prop} (hu : A.units + 64 < cLine) (N : News h₀ L s.heap news) (ma : (a, oa) ∈ news) (ca : oa.cls = .type "list") (da : oa.data = .seq (xs.map Pr.v).toArray ka)
    (mb : (b, ob) ∈ news) (cb : ob.cls = .type "list") (db : ob.data = .seq (xs.map Pr.v).toArray kb) (hx : ∀ e ∈ xs, (e.a, e.obj) ∈ news) (hok : ∀ e ∈ xs, PyData.strOk e.c = true) (h : Q (.bool false) s) :
    wpAny (model prog w) A (compareOp .NotEq (.ref a) (.ref b)) Q E s :=
  kqd_ne N ma ca da (prs_dat hx) (fun _ h => h) mb cb db (prs_dat hx) (fun _ h => h) (prs_ok hok) (prs_ok hok) hu (by simpa using h)
theorem prs_eq {xs : List Pr} {Q : Value → Shared → Prop} (hu : A.units + 64 < cLine) (N : News h₀ L s.heap news) (ma : (a, oa) ∈ news) (ca : oa.cls = .type "list") (da : oa.data = .seq (xs.map Pr.v).toArray ka)
    (mb : (b, ob) ∈ news) (cb : ob.cls = .type "list") (db : ob.data = .seq (xs.map Pr.v).toArray kb) (hx : ∀ e ∈ xs, (e.a, e.obj) ∈ news) (hok : ∀ e ∈ xs, PyData.strOk e.c = true) (h : Q (.bool true) s) :
    wpAny (model prog w) A (compareOp .Eq (.ref a) (.ref b)) Q E s :=
  kqd_eq N ma ca da (prs_dat hx) (fun _ h => h) mb cb db (prs_dat hx) (fun _ h => h) (prs_ok hok) (prs_ok hok) hu (by simpa using h)
end
end
end Mine

namespace Mine
local macro_rules | `(tactic| k_all) => `(tactic| assumption)
local macro_rules | `(tactic| k_mem) => `(tactic| first | assumption | exact List.Mem.head _ | (refine' List.Mem.tail _ ?_; k_mem))
local macro_rules | `(tactic| walk_at "MY enter") => `(tactic| (refine' code_def ?k1 ?k2 ?k3 ?k4 ?k5 ?kA ?kF ?kK ?k6 ?k7 ?k8 ?k9 ?kB ?_ ?c2 ?c3 ?c4 ?c5; (case kA => exact rfl); (case kF => assumption); (case kK => assumption); (case k1 => k_asm); (case k2 => k_asm); (case k3 => k_asm); (case k4 => k_asm); (case k5 => k_asm); (case k6 => k_is); (case k7 => k_is); (case k8 => (simp only [recursionLimit]; omega)); (case k9 => exact BindsTo.of_eq rfl); (case c5 => decide); (case kB => exact locs rfl); (case c2 => exact rfl); (case c3 => exact rfl); (case c4 => exact rfl); k_whole; intro g' L' h' FG' F' N' B' X' T'; (try dsimp only); (try k_fold)))
local macro_rules | `(tactic| walk_at "MY units") => `(tactic| (have hcL9 := cLine_is; (simp only [units_in1, units_deeper, Around.mark_units, Ar]); omega))
local macro_rules | `(tactic| walk_at "MY idx") => `(tactic| first | assumption | omega | (simp only [fdiv2]; omega) | (simp only [List.length_set, List.length_append, List.length_cons, List.length_nil]; omega))
local macro_rules | `(tactic| walk_at "subscriptTail") => `(tactic| (k_here; (with_reducible show wpAny _ _ (subscriptTail _ _ (Value.ref _) (Value.int _ _)) _ _ _); k_dflt (refine' pr_item ?N ?m ?x ?a ?b ?z ?_ ?s ?g; (case N => k_asm); (case m => k_mem); (case x => assumption); (case a => walk_at "MY idx"); (case b => walk_at "MY idx"); (case z => walk_at "MY idx"); (case s => with_unfolding_all rfl); (case g => (intro _; with_unfolding_all rfl)); k_whole); intro e' he' hm' hr'; (try dsimp only)))
local macro_rules | `(tactic| walk_at "setItem ref int") => `(tactic| (k_here; (with_reducible show wpAny _ _ (setItem (Value.ref _) (Value.int _ _) (Value.ref _)) _ _ _); k_dflt (refine' pr_set ?F ?N ?a ?b ?z ?U ?_; (case F => k_asm); (case N => k_asm); (case U => k_upd); (case a => walk_at "MY idx"); (case b => walk_at "MY idx"); (case z => walk_at "MY idx"); k_whole); intro h' F' N'; (try k_sweep); (try dsimp only)))
local macro_rules | `(tactic| walk_at "compareOp Lt ref ref") => `(tactic| (k_here; (with_reducible show wpAny _ _ (compareOp _ (Value.ref _) (Value.ref _)) _ _ _); k_dflt (refine' pr_lt ?u ?N ?a ?b ?_; (case u => walk_at "MY units"); (case N => k_asm); (case a => k_mem); (case b => k_mem); k_whole)))
local macro_rules | `(tactic| walk_at "call builtin:list.append") => `(tactic| (k_here; (with_reducible show wpAny _ _ (call (Value.builtin _) [Value.ref _, Value.ref _]) _ _ _); k_dflt (refine' pr_append ?F ?N ?z ?U ?_; (case F => k_asm); (case N => k_asm); (case U => k_upd); (case z => walk_at "MY idx"); k_whole); intro h' F' N'; (try k_sweep); (try dsimp only)))
local macro_rules | `(tactic| walk_at "call builtin:len") => `(tactic| (k_here; (with_reducible show wpAny _ _ (call (Value.builtin "len") [Value.ref _]) _ _ _); k_dflt (refine' pr_len ?N ?m ?z ?_; (case N => k_asm); (case m => k_mem); (case z => walk_at "MY idx"); k_whole); intro t' tk'))
local macro_rules | `(tactic| walk_at "truthy ref") => `(tactic| (k_here; (with_reducible show wpAny _ _ (truthy (Value.ref _)) _ _ _); k_dflt (refine' pr_truthy ?N ?m ?z ?_; (case N => k_asm); (case m => k_mem); (case z => walk_at "MY idx"); k_whole); intro tk'))
local macro_rules | `(tactic| walk_at "exec While Compare cons nil") => `(tactic| refine stop_here ?_)
local macro_rules | `(tactic| walk_at "KswEnd") => `(tactic| refine stop_here ?_)
local macro_rules | `(tactic| walk_at "LeaveK") => `(tactic| refine stop_here ?_)
local macro_rules | `(tactic| walk_at "MY steps") => `(tactic| repeat' (first | (k_unfold; (try dsimp only)) | (k_end; wrow_close) | (walk1; all_goals (try dsimp only)) | (dsimp only; walk1) | (leave1; try dsimp only) | fail "no step"))
local macro_rules | `(tactic| walk_at "MY mem") => `(tactic| first | assumption | (refine' all_set ?mh ?me; (case mh => walk_at "MY mem"); (case me => assumption)) | (refine' all_app ?mh ?me; (case mh => walk_at "MY mem"); (case me => assumption)))
local macro_rules | `(tactic| walk_at "MY room") => `(tactic| first | omega | (dsimp only [Ar, Around.deeper, Around.in1, Around.mark]; omega))
local macro_rules | `(tactic| walk_at "call builtin:list.pop") => `(tactic| (k_here; (with_reducible show wpAny _ _ (call (Value.builtin _) [Value.ref _]) _ _ _); k_dflt (refine' pr_pop ?F ?N ?z rfl ?U ?_; (case F => k_asm); (case N => k_asm); (case U => k_upd); (case z => walk_at "MY idx"); k_whole); intro h' F' N'; (try k_sweep); (try dsimp only)))
local macro_rules | `(tactic| walk_at "MY memN") => `(tactic| first | (walk_at "MY mem") | (refine' all_lift ?ls ?lm; (case lm => walk_at "MY mem"); (case ls => (intro p hp; k_mem))))
local macro_rules | `(tactic| walk_at "exec For") => `(tactic| refine stop_here ?_)
local macro_rules | `(tactic| walk_at "exec For Name Name cons nil") => `(tactic| refine stop_here ?_)
local macro_rules | `(tactic| walk_at "exec For Tuple Name cons nil") => `(tactic| refine stop_here ?_)
local macro_rules | `(tactic| walk_at "pyIter ref") => `(tactic| refine stop_here ?_)
local macro_rules | `(tactic| walk_at "SPost") => `(tactic| (dsimp only [SPost]))
local macro_rules | `(tactic| walk_at "SEnd") => `(tactic| refine stop_here ?_)
local macro_rules | `(tactic| walk_at "compareOp In str ref") => `(tactic| (k_here; (with_reducible show wpAny _ _ (compareOp CmpOp.In (Value.str _ _) (Value.ref _)) _ _ _); k_dflt (refine' st_in ?N ?m ?_; (case N => k_asm); (case m => k_mem); k_whole)))
local macro_rules | `(tactic| walk_at "compareOp NotIn str ref") => `(tactic| (k_here; (with_reducible show wpAny _ _ (compareOp CmpOp.NotIn (Value.str _ _) (Value.ref _)) _ _ _); k_dflt (refine' st_notIn ?N ?m ?_; (case N => k_asm); (case m => k_mem); k_whole)))
local macro_rules | `(tactic| walk_at "MY enterC") => `(tactic| (refine' code_defC ?k1 ?k2 ?k3 ?k4 ?k5 ?kA ?kF ?kK ?k6 ?k7 ?k8 ?k9 ?kB ?kD ?_ ?c2 ?c3 ?c4; (case kA => exact rfl); (case kF => assumption); (case kK => assumption); (case k1 => k_asm); (case k2 => k_asm); (case k3 => k_asm); (case k4 => k_asm); (case k5 => k_asm); (case k6 => k_is); (case k7 => k_is); (case k8 => (simp only [recursionLimit]; omega)); (case k9 => exact BindsTo.of_eq rfl); (case kB => exact rfl); (case kD => decide +kernel); (case c2 => exact rfl); (case c3 => exact rfl); (case c4 => exact rfl); k_whole; intro g' L' h' tk' cells' FG' F' N' Y' B' X' T' l1; k_cells Y'; (try simp only [List.cons_append, List.nil_append] at N'); (try dsimp only); (try k_fold)))
local macro_rules | `(tactic| walk_at "CEnd") => `(tactic| refine stop_here ?_)
local macro_rules | `(tactic| walk_at "eval ListComp") => `(tactic| refine stop_here ?_)
local macro_rules | `(tactic| walk_at "call builtin:max") => `(tactic| (k_here; (with_reducible show wpAny _ _ (call (Value.builtin _) [Value.ref _]) _ _ _); refine stop_here ?_))
local macro_rules | `(tactic| walk_at "call builtin:min") => `(tactic| (k_here; (with_reducible show wpAny _ _ (call (Value.builtin _) [Value.ref _]) _ _ _); refine stop_here ?_))
local macro_rules | `(tactic| walk_at "exec For Tuple Call") => `(tactic| refine stop_here ?_)
local macro_rules | `(tactic| walk_at "exec For Tuple Call cons nil") => `(tactic| refine stop_here ?_)
local macro_rules | `(tactic| walk_at "call type:enumerate cons nil") => `(tactic| refine stop_here ?_)
local macro_rules | `(tactic| walk_at "call type:enumerate") => `(tactic| refine stop_here ?_)
local macro_rules | `(tactic| walk_at "call type:zip cons nil") => `(tactic| refine stop_here ?_)
local macro_rules | `(tactic| walk_at "call type:zip") => `(tactic| refine stop_here ?_)
local macro_rules | `(tactic| walk_at "ZEnd") => `(tactic| refine stop_here ?_)
local macro_rules | `(tactic| walk_at "ETurn") => `(tactic| refine stop_here ?_)
local macro_rules | `(tactic| walk_at "call builtin:sorted") => `(tactic| refine stop_here ?_)
local macro_rules | `(tactic| walk_at "exec Assign cons ListComp") => `(tactic| refine stop_here ?_)

def sdGo (e : Pr) (xs : List Pr) (p : Nat) : List Pr × Nat :=
  match p with
  | 0 => (xs, 0)
  | q + 1 => if e.lt (xs.getD (q / 2) default) then sdGo e (xs.set (q + 1) (xs.getD (q / 2) default)) (q / 2) else (xs, q + 1)
termination_by p
decreasing_by omega

def sdown (xs : List Pr) (p : Nat) : List Pr :=
  let r := sdGo (xs.getD p default) xs p
  r.1.set r.2 (xs.getD p default)

theorem half_eq {j : Nat} (h : 0 < (j : Int)) : ((j : Int) - 1).fdiv (2 ^ Int.toNat 1) = (((j - 1) / 2 : Nat) : Int) := by
  rw [fdiv2]; omega
theorem sdGo_zero {e : Pr} {xs : List Pr} : sdGo e xs 0 = (xs, 0) := by rw [sdGo]
theorem sdGo_swap {e f : Pr} {xs : List Pr} {j : Nat} (h : 0 < j) (hf : xs[(j - 1) / 2]? = some f) (hl : e.lt f = true) : sdGo e xs j = sdGo e (xs.set j f) ((j - 1) / 2) := by
  obtain ⟨q, rfl⟩ : ∃ q, j = q + 1 := ⟨j - 1, by omega⟩
  rw [Nat.add_sub_cancel] at hf ⊢
  rw [sdGo, getD_of hf, if_pos hl]
theorem sdGo_stop {e f : Pr} {xs : List Pr} {j : Nat} (h : 0 < j) (hf : xs[(j - 1) / 2]? = some f) (hl : ¬ e.lt f = true) : sdGo e xs j = (xs, j) := by
  obtain ⟨q, rfl⟩ : ∃ q, j = q + 1 := ⟨j - 1, by omega⟩
  rw [Nat.add_sub_cancel] at hf
  rw [sdGo, getD_of hf, if_neg hl]

theorem sd_spec {w : World} {p : Program} {loose : List Str} {mean : ExcName → Option Value} {mg mb : Str → Option Value} {A₀ : Around} {base : Heap} {outer : List Env} {env : Env} {h₀ : Heap} {L : Addr} {m : Str → Option Value}
    {s : Shared} {rest : List (Addr × Obj)} {dp un : Nat} {gd : Option (List Code)} {l : Addr} {n : Nat} {xs : List Pr} {k : Nat} {t0 tp : Tok} {Q E' : Value → Shared → Prop}
    (B : Below A₀ base outer h₀) (F : Fr h₀ L s.heap m) (X : (Mine.lawTop.heap_39 w.params).In h₀) (N : News h₀ L s.heap ((l, prs xs n) :: rest)) (T : Top p loose mean mg mb h₀) (hke : env.scope.kind = .function) (hf : env.frame = some L)
    (hr : ∀ q ∈ rest, q.1 ≠ l) (hx : ∀ e ∈ xs, (e.a, e.obj) ∈ rest) (hk : k < xs.length) (hz : xs.length ≤ 100) (hdp : dp < 500) (hun : un < 500)
    (ret : ∀ h' tk', Fr h₀ L h' m → News h₀ L h' ((l, prs (sdown xs k) n) :: rest) → Q .none { s with heap := h', toks := tk' }) :
    wpAny (model PySem.Challenge.rw_ir0004_01.row.prog w) (Ar dp un gd env outer) (call (.ref 42) [.ref l, .int 0 t0, .int (k : Int) tp]) Q E' s := by
  revert X; k_fill; intro X
  refine wpAny_call ?_
  k_dflt (walk_at "MY enter")
  walk_at "MY steps"
  refine go_on ?_
  rename_i e he hm hr1 h1 F1 N1
  refine ksw_while (σ := List Pr × Nat × Tok) (fun c => (l, prs c.1 n) :: rest) (fun c => [(Str.ofString "pos", .int c.2.1 c.2.2)]) (fun _ => True) [Str.ofString "parentpos", Str.ofString "parent"]
    (fun c => sdGo e c.1 c.2.1 = sdGo e xs k ∧ c.1.length = xs.length ∧ c.2.1 < xs.length ∧ ∀ e ∈ c.1, (e.a, e.obj) ∈ rest) (fun c => c.2.1) (xs, k, tp) F1 N1 trivial ?hk ⟨rfl, rfl, hk, hx⟩ ?turn
  case hk => intro p hp; simp only [List.mem_singleton] at hp; subst hp; rfl
  clear F1 N1
  rintro ⟨ys, j, tj⟩ u h2 tk2 _ ⟨P1, P2, P3, P4⟩ F2 N2
  dsimp only [kstB] at P1 P2 P3 P4 F2 N2
  (try k_fold)
  walk_at "MY steps"
  · refine go_on ?_
    rename 0 < ((_ : Nat) : Int) => hj; rename Pr => f; rename (_ : List Pr)[_]? = some f => hf; rename (f.a, f.obj) ∈ rest => hfr; rename e.lt f = true => hlt; rename Fr _ _ _ _ => F3; rename News _ _ _ _ => N3
    rw [half_eq hj, Int.toNat_natCast] at hf
    have hj' : 0 < j := by omega
    refine' ksw_end (ys.set (j : Int).toNat f, (j - 1) / 2, _) F3 N3 (fun _ h => h) trivial ?hk ?_ ?_ ?_
    case hk =>
      intro p hp
      simp only [List.mem_singleton] at hp
      subst hp
      exact int_val_eq (half_eq hj)
    · ksw_same
    · refine ⟨?_, by simpa using P2, by dsimp only; omega, ?_⟩
      · rw [Int.toNat_natCast, ← P1]; exact (sdGo_swap hj' hf hlt).symm
      · intro q hq
        rcases List.mem_or_eq_of_mem_set hq with hq | rfl
        · exact P4 q hq
        · exact hfr
    · dsimp only; omega
  · refine go_on ?_
    rename 0 < ((_ : Nat) : Int) => hj; rename Pr => f; rename (_ : List Pr)[_]? = some f => hf; rename e.lt f = false => hlt; rename Fr _ _ _ _ => F3; rename News _ _ _ _ => N3
    rw [half_eq hj, Int.toNat_natCast] at hf
    have hj' : 0 < j := by omega
    refine leaveK_ F3 N3 fun F4 N4 => ret _ _ F4 ?_
    have : sdown xs k = ys.set (j : Int).toNat e := by
      rw [Int.toNat_natCast] at he
      unfold sdown
      rw [getD_of he, ← P1, sdGo_stop hj' hf (by rw [hlt]; exact Bool.false_ne_true), Int.toNat_natCast]
    rw [this]; exact N4
  · refine go_on ?_
    rename ¬ 0 < ((_ : Nat) : Int) => hj; rename Fr _ _ _ _ => F3; rename News _ _ _ _ => N3
    refine leaveK_ F3 N3 fun F4 N4 => ret _ _ F4 ?_
    have hj' : j = 0 := by omega
    subst hj'
    have : sdown xs k = ys.set ((0 : Nat) : Int).toNat e := by
      rw [Int.toNat_natCast] at he
      unfold sdown
      rw [getD_of he, ← P1, sdGo_zero]; rfl
    rw [this]; exact N4

theorem sd_at {w : World} {p : Program} {loose : List Str} {mean : ExcName → Option Value} {mg mb : Str → Option Value} {A₀ : Around} {base : Heap} {outer : List Env} {env : Env} {h₀ : Heap} {L : Addr} {m : Str → Option Value}
    {s : Shared} {news : List (Addr × Obj)} {g : Obj → List (Addr × Obj)} {dp un : Nat} {gd : Option (List Code)} {l : Addr} {n : Nat} {xs : List Pr} {Q E' : Value → Shared → Prop} {i : Int} {t0 tp : Tok}
    (B : Below A₀ base outer h₀) (F : Fr h₀ L s.heap m) (X : (Mine.lawTop.heap_39 w.params).In h₀) (N : News h₀ L s.heap news) (T : Top p loose mean mg mb h₀) (hke : env.scope.kind = .function) (hf : env.frame = some L)
    (U : UpdF l (prs xs n) news g) (hx : ∀ e ∈ xs, (e.a, e.obj) ∈ news) (h0 : 0 ≤ i) (hk : i < xs.length) (hz : xs.length ≤ 100) (hdp : dp < 500) (hun : un < 500)
    (ret : ∀ h' tk', Fr h₀ L h' m → News h₀ L h' (g (prs (sdown xs i.toNat) n)) → Q .none { s with heap := h', toks := tk' }) :
    wpAny (model PySem.Challenge.rw_ir0004_01.row.prog w) (Ar dp un gd env outer) (call (.ref 42) [.ref l, .int 0 t0, .int i tp]) Q E' s := by
  obtain ⟨rest, s1, s2, s3, s4⟩ := upd_use U rfl
  have hx' : ∀ e ∈ xs, (e.a, e.obj) ∈ rest := fun e he => s4 _ _ rfl (hx e he)
  obtain ⟨k, rfl⟩ := Int.eq_ofNat_of_zero_le h0
  exact sd_spec B F X (nsub N s1) T hke hf s2 hx' (by omega) hz hdp hun fun h' tk' F' N' => ret h' tk' F' (nsub N' (s3 _))


/-- the child that rises -/
def kid (xs : List Pr) (p : Nat) : Nat := if 2 * p + 2 < xs.length ∧ (xs.getD (2 * p + 1) default).lt (xs.getD (2 * p + 2) default) = false then 2 * p + 2 else 2 * p + 1
theorem kid_gt (xs : List Pr) (p : Nat) : p < kid xs p := by unfold kid; split <;> omega
theorem kid_lt {xs : List Pr} {p : Nat} (h : 2 * p + 1 < xs.length) : kid xs p < xs.length := by unfold kid; split <;> omega
def suGo (xs : List Pr) (p : Nat) : List Pr × Nat :=
  if _h : 2 * p + 1 < xs.length then suGo (xs.set p (xs.getD (kid xs p) default)) (kid xs p) else (xs, p)
termination_by xs.length - p
decreasing_by
  have := kid_gt xs p
  rw [List.length_set]; omega
def sup (xs : List Pr) : List Pr :=
  let r := suGo xs 0
  sdown (r.1.set r.2 (xs.getD 0 default)) r.2
theorem suGo_step {xs : List Pr} {p : Nat} (h : 2 * p + 1 < xs.length) : suGo xs p = suGo (xs.set p (xs.getD (kid xs p) default)) (kid xs p) := by
  rw [suGo, dif_pos h]
theorem suGo_end {xs : List Pr} {p : Nat} (h : ¬ 2 * p + 1 < xs.length) : suGo xs p = (xs, p) := by rw [suGo, dif_neg h]

local macro_rules | `(tactic| walk_at "call ref") => `(tactic| (k_here; (with_reducible show wpAny _ _ (call (Value.ref 42) _) _ _ _); k_dflt (refine' sd_at ?B ?F ?X ?N ?T ?e ?f ?U ?x ?i0 ?k ?z ?d ?u ?_; (case B => k_asm); (case F => k_asm); (case X => k_asm); (case N => k_asm); (case T => k_asm); (case e => first | assumption | exact rfl); (case f => first | assumption | exact rfl); (case U => k_updF); (case x => walk_at "MY memN"); (case i0 => walk_at "MY idx"); (case k => walk_at "MY idx"); (case z => walk_at "MY idx"); (case d => walk_at "MY room"); (case u => walk_at "MY room"); k_whole); intro h' tk' F' N'; (try dsimp only at N'); (try k_sweep); (try dsimp only)))

theorem kid_end {ys : List Pr} {j : Nat} (h : ¬ 2 * (j : Int) + 1 + 1 < (ys.length : Int)) : kid ys j = 2 * j + 1 := by
  unfold kid; rw [if_neg (fun q => h (by omega))]
theorem kid_left {ys : List Pr} {j : Nat} {f g : Pr} (h : f.lt g = true) (hf : ys[(2 * (j : Int) + 1).toNat]? = some f) (hg : ys[(2 * (j : Int) + 1 + 1).toNat]? = some g) : kid ys j = 2 * j + 1 := by
  rw [show (2 * (j : Int) + 1).toNat = 2 * j + 1 by omega] at hf
  rw [show (2 * (j : Int) + 1 + 1).toNat = 2 * j + 2 by omega] at hg
  unfold kid; rw [if_neg]; rintro ⟨_, q⟩; rw [getD_of hf, getD_of hg, h] at q; cases q
theorem kid_right {ys : List Pr} {j : Nat} {f g : Pr} (h : f.lt g = false) (hf : ys[(2 * (j : Int) + 1).toNat]? = some f) (hg : ys[(2 * (j : Int) + 1 + 1).toNat]? = some g) : kid ys j = 2 * j + 2 := by
  rw [show (2 * (j : Int) + 1).toNat = 2 * j + 1 by omega] at hf
  rw [show (2 * (j : Int) + 1 + 1).toNat = 2 * j + 2 by omega] at hg
  unfold kid; rw [if_pos ⟨(List.getElem?_eq_some_iff.mp hg).1, by rw [getD_of hf, getD_of hg, h]⟩]
theorem su_turn {ys xs : List Pr} {j c : Nat} {f : Pr} {ci : Int} (P : suGo ys j = suGo xs 0) (hc : kid ys j = c) (hlt : 2 * j + 1 < ys.length) (hi : ci = (c : Int)) (hf : ys[ci.toNat]? = some f) : suGo (ys.set (j : Int).toNat f) c = suGo xs 0 := by
  subst hi
  rw [Int.toNat_natCast] at hf ⊢
  rw [← P, suGo_step hlt, hc, getD_of hf]

local macro_rules | `(tactic| walk_at "MY suEnd") => `(tactic| (intro p hp; simp only [List.mem_cons, List.not_mem_nil, or_false] at hp; (rcases hp with hp | hp); all_goals (subst hp; with_unfolding_all (refine int_val_eq ?_)); all_goals omega))

theorem su_spec {w : World} {p : Program} {loose : List Str} {mean : ExcName → Option Value} {mg mb : Str → Option Value} {A₀ : Around} {base : Heap} {outer : List Env} {env : Env} {h₀ : Heap} {L : Addr} {m : Str → Option Value}
    {s : Shared} {rest : List (Addr × Obj)} {dp un : Nat} {gd : Option (List Code)} {l : Addr} {n : Nat} {xs : List Pr} {t0 : Tok} {Q E' : Value → Shared → Prop}
    (B : Below A₀ base outer h₀) (F : Fr h₀ L s.heap m) (X : (Mine.lawTop.heap_39 w.params).In h₀) (N : News h₀ L s.heap ((l, prs xs n) :: rest)) (T : Top p loose mean mg mb h₀) (hke : env.scope.kind = .function) (hf : env.frame = some L)
    (hr : ∀ q ∈ rest, q.1 ≠ l) (hx : ∀ e ∈ xs, (e.a, e.obj) ∈ rest) (hk : 0 < xs.length) (hz : xs.length ≤ 100) (hdp : dp < 480) (hun : un < 480)
    (ret : ∀ h' tk', Fr h₀ L h' m → News h₀ L h' ((l, prs (sup xs) n) :: rest) → Q .none { s with heap := h', toks := tk' }) :
    wpAny (model PySem.Challenge.rw_ir0004_01.row.prog w) (Ar dp un gd env outer) (call (.ref 49) [.ref l, .int 0 t0]) Q E' s := by
  revert X; k_fill; intro X
  refine wpAny_call ?_
  k_dflt (walk_at "MY enter")
  walk_at "MY steps"
  refine go_on ?_
  rename Fr _ _ _ _ => F1; rename News _ _ _ _ => N1; rename Pr => e; rename (_ : List Pr)[_]? = some e => he; rename (e.a, e.obj) ∈ rest => her
  refine' ksw_while (σ := List Pr × Nat × Tok × Tok) (fun c => (l, prs c.1 n) :: rest) (fun c => [(Str.ofString "pos", .int c.2.1 c.2.2.1), (Str.ofString "childpos", .int (2 * (c.2.1 : Int) + 1) c.2.2.2)]) (fun _ => True) [Str.ofString "rightpos"]
    (fun c => suGo c.1 c.2.1 = suGo xs 0 ∧ c.1.length = xs.length ∧ c.2.1 < xs.length ∧ ∀ e ∈ c.1, (e.a, e.obj) ∈ rest) (fun c => xs.length - c.2.1) (xs, 0, t0, ?tk) F1 N1 trivial ?hk ?hp ?turn
  case hk => intro p hp; simp only [List.mem_cons, List.mem_nil_iff, or_false] at hp; rcases hp with rfl | rfl <;> rfl
  case hp => exact ⟨rfl, rfl, hk, hx⟩
  clear F1 N1
  rintro ⟨ys, j, tj, tj2⟩ u h2 tk2 _ ⟨P1, P2, P3, P4⟩ F2 N2
  dsimp only [kstB] at P1 P2 P3 P4 F2 N2
  (try k_fold)
  walk_at "MY steps"
  · refine go_on ?_
    rename (2 * (j : Int) + 1 < _) => hlt; rename Fr _ _ _ _ => F3; rename News _ _ _ _ => N3; rename Pr => f; rename (_ : List Pr)[_]? = some f => hf; rename (f.a, f.obj) ∈ rest => hfr
    rename Pr.lt _ _ = true => hc
    have hkid := kid_left hc (by assumption) (by assumption)
    have hsu := su_turn P1 hkid (by omega) (by omega) hf
    refine' ksw_end (ys.set (j : Int).toNat f, 2 * j + 1, _, _) F3 N3 (fun _ h => h) trivial ?hk ?_ ?_ ?_
    case hk => walk_at "MY suEnd"
    · ksw_same
    · exact ⟨hsu, by simpa using P2, by dsimp only; omega, all_set P4 hfr⟩
    · dsimp only; omega
  · refine go_on ?_
    rename (2 * (j : Int) + 1 < _) => hlt; rename Fr _ _ _ _ => F3; rename News _ _ _ _ => N3; rename Pr => f; rename (_ : List Pr)[_]? = some f => hf; rename (f.a, f.obj) ∈ rest => hfr
    rename Pr.lt _ _ = false => hc
    have hkid := kid_right hc (by assumption) (by assumption)
    have hsu := su_turn P1 hkid (by omega) (by omega) hf
    refine' ksw_end (ys.set (j : Int).toNat f, 2 * j + 2, _, _) F3 N3 (fun _ h => h) trivial ?hk ?_ ?_ ?_
    case hk => walk_at "MY suEnd"
    · ksw_same
    · exact ⟨hsu, by simpa using P2, by dsimp only; omega, all_set P4 hfr⟩
    · dsimp only; omega
  · refine go_on ?_
    rename (2 * (j : Int) + 1 < _) => hlt; rename Fr _ _ _ _ => F3; rename News _ _ _ _ => N3; rename Pr => f; rename (_ : List Pr)[_]? = some f => hf; rename (f.a, f.obj) ∈ rest => hfr
    rename ¬ (2 * (j : Int) + 1 + 1 < _) => hc
    have hkid : kid ys j = 2 * j + 1 := kid_end (by rw [P2]; exact hc)
    have hsu := su_turn P1 hkid (by omega) (by omega) hf
    refine' ksw_end (ys.set (j : Int).toNat f, 2 * j + 1, _, _) F3 N3 (fun _ h => h) trivial ?hk ?_ ?_ ?_
    case hk => walk_at "MY suEnd"
    · ksw_same
    · exact ⟨hsu, by simpa using P2, by dsimp only; omega, all_set P4 hfr⟩
    · dsimp only; omega
  · refine go_on ?_
    rename ¬ (2 * (j : Int) + 1 < _) => hlt; rename Fr _ _ _ _ => F3; rename News _ _ _ _ => N3
    refine leaveK_ F3 N3 fun F4 N4 => ret _ _ F4 ?_
    have : sup xs = sdown (ys.set (j : Int).toNat e) j := by
      unfold sup
      have he0 : xs[0]? = some e := he
      rw [← P1, suGo_end (by omega), getD_of he0, Int.toNat_natCast]
    rw [this]; exact N4

theorem su_at {w : World} {p : Program} {loose : List Str} {mean : ExcName → Option Value} {mg mb : Str → Option Value} {A₀ : Around} {base : Heap} {outer : List Env} {env : Env} {h₀ : Heap} {L : Addr} {m : Str → Option Value}
    {s : Shared} {news : List (Addr × Obj)} {g : Obj → List (Addr × Obj)} {dp un : Nat} {gd : Option (List Code)} {l : Addr} {n : Nat} {xs : List Pr} {Q E' : Value → Shared → Prop} {t0 : Tok}
    (B : Below A₀ base outer h₀) (F : Fr h₀ L s.heap m) (X : (Mine.lawTop.heap_39 w.params).In h₀) (N : News h₀ L s.heap news) (T : Top p loose mean mg mb h₀) (hke : env.scope.kind = .function) (hf : env.frame = some L)
    (U : UpdF l (prs xs n) news g) (hx : ∀ e ∈ xs, (e.a, e.obj) ∈ news) (hk : 0 < xs.length) (hz : xs.length ≤ 100) (hdp : dp < 480) (hun : un < 480)
    (ret : ∀ h' tk', Fr h₀ L h' m → News h₀ L h' (g (prs (sup xs) n)) → Q .none { s with heap := h', toks := tk' }) :
    wpAny (model PySem.Challenge.rw_ir0004_01.row.prog w) (Ar dp un gd env outer) (call (.ref 49) [.ref l, .int 0 t0]) Q E' s := by
  obtain ⟨rest, s1, s2, s3, s4⟩ := upd_use U rfl
  have hx' : ∀ e ∈ xs, (e.a, e.obj) ∈ rest := fun e he => s4 _ _ rfl (hx e he)
  exact su_spec B F X (nsub N s1) T hke hf s2 hx' hk hz hdp hun fun h' tk' F' N' => ret h' tk' F' (nsub N' (s3 _))


local macro_rules | `(tactic| walk_at "call ref") => `(tactic| (k_here; (with_reducible show wpAny _ _ (call (Value.ref 42) _) _ _ _); k_dflt (refine' sd_at ?B ?F ?X ?N ?T ?e ?f ?U ?x ?i0 ?k ?z ?d ?u ?_; (case B => k_asm); (case F => k_asm); (case X => k_asm); (case N => k_asm); (case T => k_asm); (case e => first | assumption | exact rfl); (case f => first | assumption | exact rfl); (case U => k_updF); (case x => walk_at "MY memN"); (case i0 => walk_at "MY idx"); (case k => walk_at "MY idx"); (case z => walk_at "MY idx"); (case d => walk_at "MY room"); (case u => walk_at "MY room"); k_whole); intro h' tk' F' N'; (try dsimp only at N'); (try k_sweep); (try dsimp only)))
local macro_rules | `(tactic| walk_at "call ref") => `(tactic| (k_here; (with_reducible show wpAny _ _ (call (Value.ref 49) _) _ _ _); k_dflt (refine' su_at ?B ?F ?X ?N ?T ?e ?f ?U ?x ?k ?z ?d ?u ?_; (case B => k_asm); (case F => k_asm); (case X => k_asm); (case N => k_asm); (case T => k_asm); (case e => first | assumption | exact rfl); (case f => first | assumption | exact rfl); (case U => k_updF); (case x => walk_at "MY memN"); (case k => walk_at "MY idx"); (case z => walk_at "MY idx"); (case d => walk_at "MY room"); (case u => walk_at "MY room"); k_whole); intro h' tk' F' N'; (try dsimp only at N'); (try k_sweep); (try dsimp only)))

theorem pp_same {xs : List Pr} {i : Nat} {f1 f2 e : Pr} (hl : f1.lt e = true) (h1 : xs[i]? = some f1) (h2 : xs[i]? = some f2) : f2.lt e = true := by
  rw [h1] at h2; cases h2; exact hl

theorem push_spec {w : World} {p : Program} {loose : List Str} {mean : ExcName → Option Value} {mg mb : Str → Option Value} {A₀ : Around} {base : Heap} {outer : List Env} {env : Env} {h₀ : Heap} {L : Addr} {m : Str → Option Value}
    {s : Shared} {rest : List (Addr × Obj)} {dp un : Nat} {gd : Option (List Code)} {l : Addr} {n : Nat} {xs : List Pr} {Q E' : Value → Shared → Prop} {e : Pr}
    (B : Below A₀ base outer h₀) (F : Fr h₀ L s.heap m) (X : (Mine.lawTop.heap_39 w.params).In h₀) (N : News h₀ L s.heap ((l, prs xs n) :: rest)) (T : Top p loose mean mg mb h₀) (hke : env.scope.kind = .function) (hf : env.frame = some L)
    (hr : ∀ q ∈ rest, q.1 ≠ l) (hx : ∀ e ∈ xs, (e.a, e.obj) ∈ rest) (he : (e.a, e.obj) ∈ rest) (hz : xs.length ≤ 90) (hdp : dp < 460) (hun : un < 460)
    (ret : ∀ h' tk', Fr h₀ L h' m → News h₀ L h' ((l, prs (sdown (xs ++ [e]) xs.length) (n + 1)) :: rest) → Q .none { s with heap := h', toks := tk' }) :
    wpAny (model PySem.Challenge.rw_ir0004_01.row.prog w) (Ar dp un gd env outer) (call (.ref 21) [.ref l, .ref e.a]) Q E' s := by
  revert X; k_fill; intro X
  refine wpAny_call ?_
  k_dflt (walk_at "MY enter")
  walk_at "MY steps"
  refine go_on ?_
  rename Fr _ _ _ _ => F3; rename News _ _ _ _ => N3
  refine leaveK_ F3 N3 fun F4 N4 => ret _ _ F4 ?_
  have e1 : ((xs ++ [e]).length - 1 : Int).toNat = xs.length := by simp
  rw [e1] at N4; exact N4

theorem pop_spec {w : World} {p : Program} {loose : List Str} {mean : ExcName → Option Value} {mg mb : Str → Option Value} {A₀ : Around} {base : Heap} {outer : List Env} {env : Env} {h₀ : Heap} {L : Addr} {m : Str → Option Value}
    {s : Shared} {rest : List (Addr × Obj)} {dp un : Nat} {gd : Option (List Code)} {l : Addr} {n : Nat} {xs : List Pr} {Q E' : Value → Shared → Prop} {e : Pr}
    (B : Below A₀ base outer h₀) (F : Fr h₀ L s.heap m) (X : (Mine.lawTop.heap_39 w.params).In h₀) (N : News h₀ L s.heap ((l, prs (xs ++ [e]) n) :: rest)) (T : Top p loose mean mg mb h₀) (hke : env.scope.kind = .function) (hf : env.frame = some L)
    (hr : ∀ q ∈ rest, q.1 ≠ l) (hx : ∀ e ∈ xs, (e.a, e.obj) ∈ rest) (he : (e.a, e.obj) ∈ rest) (hz : xs.length ≤ 90) (hdp : dp < 460) (hun : un < 460)
    (ret0 : xs = [] → ∀ h' tk', Fr h₀ L h' m → News h₀ L h' ((l, prs [] (n + 1)) :: rest) → Q (.ref e.a) { s with heap := h', toks := tk' })
    (ret : ∀ f, xs[0]? = some f → ∀ h' tk', Fr h₀ L h' m → News h₀ L h' ((l, prs (sup (xs.set 0 e)) (n + 1)) :: rest) → Q (.ref f.a) { s with heap := h', toks := tk' }) :
    wpAny (model PySem.Challenge.rw_ir0004_01.row.prog w) (Ar dp un gd env outer) (call (.ref 28) [.ref l]) Q E' s := by
  revert X; k_fill; intro X
  refine wpAny_call ?_
  k_dflt (walk_at "MY enter")
  walk_at "MY steps"
  · refine go_on ?_
    rename Fr _ _ _ _ => F3; rename News _ _ _ _ => N3
    rename (xs : List Pr)[_]? = some _ => hf0
    exact leaveK_ F3 N3 fun F4 N4 => ret _ hf0 _ _ F4 N4
  · refine go_on ?_
    rename Fr _ _ _ _ => F3; rename News _ _ _ _ => N3
    have h0 : xs = [] := List.eq_nil_of_length_eq_zero (by omega)
    subst h0
    exact leaveK_ F3 N3 fun F4 N4 => ret0 rfl _ _ F4 N4

theorem pushpop_spec {w : World} {p : Program} {loose : List Str} {mean : ExcName → Option Value} {mg mb : Str → Option Value} {A₀ : Around} {base : Heap} {outer : List Env} {env : Env} {h₀ : Heap} {L : Addr} {m : Str → Option Value}
    {s : Shared} {rest : List (Addr × Obj)} {dp un : Nat} {gd : Option (List Code)} {l : Addr} {n : Nat} {xs : List Pr} {Q E' : Value → Shared → Prop} {e : Pr}
    (B : Below A₀ base outer h₀) (F : Fr h₀ L s.heap m) (X : (Mine.lawTop.heap_39 w.params).In h₀) (N : News h₀ L s.heap ((l, prs xs n) :: rest)) (T : Top p loose mean mg mb h₀) (hke : env.scope.kind = .function) (hf : env.frame = some L)
    (hr : ∀ q ∈ rest, q.1 ≠ l) (hx : ∀ e ∈ xs, (e.a, e.obj) ∈ rest) (he : (e.a, e.obj) ∈ rest) (hz : xs.length ≤ 90) (hdp : dp < 460) (hun : un < 460)
    (ret0 : (∀ f, xs[0]? = some f → f.lt e = false) → ∀ h' tk', Fr h₀ L h' m → News h₀ L h' ((l, prs xs n) :: rest) → Q (.ref e.a) { s with heap := h', toks := tk' })
    (ret : ∀ f, xs[0]? = some f → f.lt e = true → ∀ h' tk', Fr h₀ L h' m → News h₀ L h' ((l, prs (sup (xs.set 0 e)) n) :: rest) → Q (.ref f.a) { s with heap := h', toks := tk' }) :
    wpAny (model PySem.Challenge.rw_ir0004_01.row.prog w) (Ar dp un gd env outer) (call (.ref 35) [.ref l, .ref e.a]) Q E' s := by
  revert X; k_fill; intro X
  refine wpAny_call ?_
  k_dflt (walk_at "MY enter")
  walk_at "MY steps"
  · refine go_on ?_
    rename Fr _ _ _ _ => F3; rename News _ _ _ _ => N3
    rename Pr.lt _ _ = true => hl; rename (xs : List Pr)[_]? = some _ => hf0
    have hl2 := pp_same hl (by assumption) hf0
    exact leaveK_ F3 (nsub N3 fun p hp => List.mem_cons_of_mem _ hp) fun F4 N4 => ret _ hf0 hl2 _ _ F4 N4
  · refine go_on ?_
    rename Fr _ _ _ _ => F3; rename News _ _ _ _ => N3
    rename Pr.lt _ _ = false => hl; rename (xs : List Pr)[_]? = some _ => hf0
    exact leaveK_ F3 N3 fun F4 N4 => ret0 (fun f h => by rw [show xs[0]? = _ from hf0] at h; cases h; exact hl) _ _ F4 N4
  · refine go_on ?_
    rename Fr _ _ _ _ => F3; rename News _ _ _ _ => N3
    have h0 : xs = [] := List.eq_nil_of_length_eq_zero (by omega)
    exact leaveK_ F3 N3 fun F4 N4 => ret0 (fun f h => by subst h0; cases h) _ _ F4 N4

theorem push_at {w : World} {p : Program} {loose : List Str} {mean : ExcName → Option Value} {mg mb : Str → Option Value} {A₀ : Around} {base : Heap} {outer : List Env} {env : Env} {h₀ : Heap} {L : Addr} {m : Str → Option Value}
    {s : Shared} {news : List (Addr × Obj)} {g : Obj → List (Addr × Obj)} {dp un : Nat} {gd : Option (List Code)} {l : Addr} {n : Nat} {xs : List Pr} {Q E' : Value → Shared → Prop} {e : Pr}
    (B : Below A₀ base outer h₀) (F : Fr h₀ L s.heap m) (X : (Mine.lawTop.heap_39 w.params).In h₀) (N : News h₀ L s.heap news) (T : Top p loose mean mg mb h₀) (hke : env.scope.kind = .function) (hf : env.frame = some L)
    (U : UpdF l (prs xs n) news g) (hx : ∀ e ∈ xs, (e.a, e.obj) ∈ news) (he : (e.a, e.obj) ∈ news) (hz : xs.length ≤ 90) (hdp : dp < 460) (hun : un < 460)
    (ret : ∀ h' tk', Fr h₀ L h' m → News h₀ L h' (g (prs (sdown (xs ++ [e]) xs.length) (n + 1))) → Q .none { s with heap := h', toks := tk' }) :
    wpAny (model PySem.Challenge.rw_ir0004_01.row.prog w) (Ar dp un gd env outer) (call (.ref 21) [.ref l, .ref e.a]) Q E' s := by
  obtain ⟨rest, s1, s2, s3, s4⟩ := upd_use U rfl
  have hx' : ∀ e ∈ xs, (e.a, e.obj) ∈ rest := fun e he => s4 _ _ rfl (hx e he)
  exact push_spec B F X (nsub N s1) T hke hf s2 hx' (s4 _ _ rfl he) hz hdp hun fun h' tk' F' N' => ret h' tk' F' (nsub N' (s3 _))
theorem pop_at {w : World} {p : Program} {loose : List Str} {mean : ExcName → Option Value} {mg mb : Str → Option Value} {A₀ : Around} {base : Heap} {outer : List Env} {env : Env} {h₀ : Heap} {L : Addr} {m : Str → Option Value}
    {s : Shared} {news : List (Addr × Obj)} {g : Obj → List (Addr × Obj)} {dp un : Nat} {gd : Option (List Code)} {l : Addr} {n : Nat} {xs : List Pr} {Q E' : Value → Shared → Prop} {e : Pr}
    (B : Below A₀ base outer h₀) (F : Fr h₀ L s.heap m) (X : (Mine.lawTop.heap_39 w.params).In h₀) (N : News h₀ L s.heap news) (T : Top p loose mean mg mb h₀) (hke : env.scope.kind = .function) (hf : env.frame = some L)
    (U : UpdF l (prs (xs ++ [e]) n) news g) (hx : ∀ e ∈ xs, (e.a, e.obj) ∈ news) (he : (e.a, e.obj) ∈ news) (hz : xs.length ≤ 90) (hdp : dp < 460) (hun : un < 460)
    (ret0 : xs = [] → ∀ h' tk', Fr h₀ L h' m → News h₀ L h' (g (prs [] (n + 1))) → Q (.ref e.a) { s with heap := h', toks := tk' })
    (ret : ∀ f, xs[0]? = some f → ∀ h' tk', Fr h₀ L h' m → News h₀ L h' (g (prs (sup (xs.set 0 e)) (n + 1))) → Q (.ref f.a) { s with heap := h', toks := tk' }) :
    wpAny (model PySem.Challenge.rw_ir0004_01.row.prog w) (Ar dp un gd env outer) (call (.ref 28) [.ref l]) Q E' s := by
  obtain ⟨rest, s1, s2, s3, s4⟩ := upd_use U rfl
  have hx' : ∀ e ∈ xs, (e.a, e.obj) ∈ rest := fun e he => s4 _ _ rfl (hx e he)
  exact pop_spec B F X (nsub N s1) T hke hf s2 hx' (s4 _ _ rfl he) hz hdp hun (fun h0 h' tk' F' N' => ret0 h0 h' tk' F' (nsub N' (s3 _))) (fun f hf h' tk' F' N' => ret f hf h' tk' F' (nsub N' (s3 _)))
theorem pushpop_at {w : World} {p : Program} {loose : List Str} {mean : ExcName → Option Value} {mg mb : Str → Option Value} {A₀ : Around} {base : Heap} {outer : List Env} {env : Env} {h₀ : Heap} {L : Addr} {m : Str → Option Value}
    {s : Shared} {news : List (Addr × Obj)} {g : Obj → List (Addr × Obj)} {dp un : Nat} {gd : Option (List Code)} {l : Addr} {n : Nat} {xs : List Pr} {Q E' : Value → Shared → Prop} {e : Pr}
    (B : Below A₀ base outer h₀) (F : Fr h₀ L s.heap m) (X : (Mine.lawTop.heap_39 w.params).In h₀) (N : News h₀ L s.heap news) (T : Top p loose mean mg mb h₀) (hke : env.scope.kind = .function) (hf : env.frame = some L)
    (U : UpdF l (prs xs n) news g) (hx : ∀ e ∈ xs, (e.a, e.obj) ∈ news) (he : (e.a, e.obj) ∈ news) (hz : xs.length ≤ 90) (hdp : dp < 460) (hun : un < 460)
    (ret0 : (∀ f, xs[0]? = some f → f.lt e = false) → ∀ h' tk', Fr h₀ L h' m → News h₀ L h' (g (prs xs n)) → Q (.ref e.a) { s with heap := h', toks := tk' })
    (ret : ∀ f, xs[0]? = some f → f.lt e = true → ∀ h' tk', Fr h₀ L h' m → News h₀ L h' (g (prs (sup (xs.set 0 e)) n)) → Q (.ref f.a) { s with heap := h', toks := tk' }) :
    wpAny (model PySem.Challenge.rw_ir0004_01.row.prog w) (Ar dp un gd env outer) (call (.ref 35) [.ref l, .ref e.a]) Q E' s := by
  obtain ⟨rest, s1, s2, s3, s4⟩ := upd_use U rfl
  have hx' : ∀ e ∈ xs, (e.a, e.obj) ∈ rest := fun e he => s4 _ _ rfl (hx e he)
  exact pushpop_spec B F X (nsub N s1) T hke hf s2 hx' (s4 _ _ rfl he) hz hdp hun (fun h0 h' tk' F' N' => ret0 h0 h' tk' F' (nsub N' (s3 _))) (fun f hf hl h' tk' F' N' => ret f hf hl h' tk' F' (nsub N' (s3 _)))


def leastGo (f : Pr) : List Pr → Pr
  | [] => f
  | x :: r => leastGo (if x.lt f then x else f) r
def least (xs : List Pr) : Pr := leastGo (xs.getD 0 default) xs

theorem least_spec {w : World} {p : Program} {loose : List Str} {mean : ExcName → Option Value} {mg mb : Str → Option Value} {A₀ : Around} {base : Heap} {outer : List Env} {env : Env} {h₀ : Heap} {L : Addr} {m : Str → Option Value}
    {s : Shared} {news : List (Addr × Obj)} {dp un : Nat} {gd : Option (List Code)} {l : Addr} {n : Nat} {xs : List Pr} {Q E' : Value → Shared → Prop}
    (B : Below A₀ base outer h₀) (F : Fr h₀ L s.heap m) (X : (Mine.lawTop.heap_39 w.params).In h₀) (N : News h₀ L s.heap news) (T : Top p loose mean mg mb h₀) (hke : env.scope.kind = .function) (hf : env.frame = some L)
    (hm : (l, prs xs n) ∈ news) (hx : ∀ e ∈ xs, (e.a, e.obj) ∈ news) (hk : 0 < xs.length) (hz : xs.length ≤ 100) (hdp : dp < 500) (hun : un < 500)
    (ret : ∀ h' tk', Fr h₀ L h' m → News h₀ L h' news → Q (.ref (least xs).a) { s with heap := h', toks := tk' }) :
    wpAny (model PySem.Challenge.rw_ir0004_01.row.prog w) (Ar dp un gd env outer) (call (.ref 68) [.ref l]) Q E' s := by
  revert X; k_fill; intro X
  refine wpAny_call ?_
  k_dflt (walk_at "MY enter")
  walk_at "MY steps"
  refine go_on ?_
  refine wpAny_For ?_
  walk_at "MY steps"
  refine go_on ?_
  rename Fr _ _ _ _ => F1; rename News _ _ _ _ => N1; rename Pr => e; rename (xs : List Pr)[_]? = some e => he; rename (e.a, e.obj) ∈ news => her
  refine for_state (σ := Pr) (vs := xs.map Pr.v) (nn := n) (fun _ => news) (fun c => [(Str.ofString "least", .ref c.a)]) [Str.ofString "one"] (fun i c => (c.a, c.obj) ∈ news ∧ leastGo c (xs.drop i) = least xs) e rfl F1 N1 (fun _ h => h) ?hk ⟨her, ?h0⟩ (fun _ _ _ => hm) ?turn ?done ?hE
  case hE => passes_own
  case hk => intro p hp; simp only [List.mem_singleton] at hp; subst hp; rfl
  case h0 => show leastGo e xs = least xs; unfold least; rw [getD_of (show xs[0]? = some e from he)]
  case done =>
    intro c u h2 tk2 hp F2 N2
    obtain ⟨hc, hl⟩ := hp
    dsimp only [kstB] at F2 N2
    (try k_fold)
    walk_at "MY steps"
    refine go_on ?_
    have e1 : c = least xs := by rw [← hl]; simp [leastGo]
    exact leaveK_ F2 N2 fun F4 N4 => by rw [e1]; exact ret _ _ F4 N4
  case turn =>
    intro i v c u h2 tk2 It io hv hp ho F2 N2
    obtain ⟨hc, hl⟩ := hp
    obtain ⟨x, hxi, rfl⟩ := item_of hv
    have hxr := hx _ (List.mem_of_getElem? hxi)
    rw [drop_of hxi, leastGo] at hl
    dsimp only [kstB] at F2 N2
    (try k_fold)
    walk_at "MY steps"
    · refine go_on ?_
      rename Fr _ _ _ _ => F3; rename News _ _ _ _ => N3; rename Pr.lt _ _ = true => hlt
      rw [if_pos hlt] at hl
      refine s_end x F3 N3 (.head _) (fun p hp => .tail _ hp) ho ?_ ?_ ⟨hxr, hl⟩
      · intro p hp; simp only [List.mem_singleton] at hp; subst hp; rfl
      · ksw_same
    · refine go_on ?_
      rename Fr _ _ _ _ => F3; rename News _ _ _ _ => N3; rename Pr.lt _ _ = false => hlt
      rw [if_neg (by rw [hlt]; exact Bool.false_ne_true)] at hl
      refine s_end c F3 N3 (.head _) (fun p hp => .tail _ hp) ho ?_ ?_ ⟨hc, hl⟩
      · intro p hp; simp only [List.mem_singleton] at hp; subst hp; rfl
      · ksw_same


def inTime (ns : List Str) : List Jb → Int → Bool
  | [], _ => true
  | j :: r, t => if ns.any (fun x => x == j.c) then (if j.d < t + j.n then false else inTime ns r (t + j.n)) else inTime ns r t

theorem time_spec {w : World} {p : Program} {loose : List Str} {mean : ExcName → Option Value} {mg mb : Str → Option Value} {A₀ : Around} {base : Heap} {outer : List Env} {env : Env} {h₀ : Heap} {L : Addr} {m : Str → Option Value}
    {s : Shared} {news : List (Addr × Obj)} {dp un : Nat} {gd : Option (List Code)} {Q E' : Value → Shared → Prop} {l k : Addr} {n nn : Nat} {js : List Jb} {ns : List (Str × Tok)}
    (B : Below A₀ base outer h₀) (F : Fr h₀ L s.heap m) (X : (Mine.lawTop.heap_39 w.params).In h₀) (N : News h₀ L s.heap news) (T : Top p loose mean mg mb h₀) (hke : env.scope.kind = .function) (hf : env.frame = some L)
    (hm : (l, jbs js n) ∈ news) (hn : (k, sts ns nn) ∈ news) (hx : ∀ e ∈ js, (e.a, e.obj) ∈ news) (hdp : dp < 500) (hun : un < 500)
    (ret : ∀ h' tk', Fr h₀ L h' m → News h₀ L h' news → Q (.bool (inTime (ns.map (·.1)) js 0)) { s with heap := h', toks := tk' }) :
    wpAny (model PySem.Challenge.rw_ir0004_01.row.prog w) (Ar dp un gd env outer) (call (.ref 85) [.ref l, .ref k]) Q E' s := by
  revert X; k_fill; intro X
  refine wpAny_call ?_
  k_dflt (walk_at "MY enter")
  walk_at "MY steps"
  refine go_on ?_
  refine wpAny_For ?_
  walk_at "MY steps"
  refine go_on ?_
  rename Fr _ _ _ _ => F1; rename News _ _ _ _ => N1
  refine' for_state (σ := Int × Tok) (vs := js.map Jb.v) (nn := n) (fun _ => news) (fun c => [(Str.ofString "time", .int c.1 c.2)]) [Str.ofString "due", Str.ofString "name", Str.ofString "length"] (fun i c => inTime (ns.map (·.1)) (js.drop i) c.1 = inTime (ns.map (·.1)) js 0) (0, _) rfl F1 N1 (fun _ h => h) ?hk ?h0 (fun _ _ _ => hm) ?turn ?done ?hE
  case hE => passes_own
  case hk => intro p hp; simp only [List.mem_singleton] at hp; subst hp; rfl
  case h0 => rfl
  case done =>
    intro c u h2 tk2 hp F2 N2
    dsimp only [kstB] at F2 N2
    (try k_fold)
    walk_at "MY steps"
    refine go_on ?_
    have e1 : inTime (ns.map (·.1)) js 0 = true := by rw [← hp]; simp [inTime]
    rw [e1] at ret
    exact leaveK_ F2 N2 fun F4 N4 => ret _ _ F4 N4
  case turn =>
    intro i v c u h2 tk2 It io hv hp ho F2 N2
    obtain ⟨x, hxi, rfl⟩ := jb_of hv
    have hxr := hx _ (List.mem_of_getElem? hxi)
    rw [drop_of hxi, inTime, List.any_map, show ((fun y => y == x.c) ∘ fun y : Str × Tok => y.1) = (fun y => y.1 == x.c) from rfl] at hp
    dsimp only [kstB] at F2 N2
    (try k_fold)
    walk_at "MY steps"
    all_goals refine go_on ?_
    · rename Fr _ _ _ _ => F3; rename News _ _ _ _ => N3; rename (List.any ns _ = true) => h1; rename (x.d < c.1 + x.n) => h3
      rw [if_pos h1, if_pos h3] at hp
      rw [← hp] at ret
      exact leaveK_ F3 (fun p hp => N3 p (.tail _ hp)) fun F4 N4 => ret _ _ F4 N4
    · rename Fr _ _ _ _ => F3; rename News _ _ _ _ => N3; rename (List.any ns _ = true) => h1; rename (¬ x.d < c.1 + x.n) => h3
      rw [if_pos h1, if_neg h3] at hp
      refine' s_end (c.1 + x.n, _) F3 N3 (.head _) (fun p hp => .tail _ hp) ho ?hk ?_ hp
      case hk => intro p hp; simp only [List.mem_singleton] at hp; subst hp; rfl
      · ksw_same
    · rename Fr _ _ _ _ => F3; rename News _ _ _ _ => N3; rename (List.any ns _ = false) => h1
      rw [if_neg (by rw [Bool.not_eq_true]; exact h1)] at hp
      refine' s_end c F3 N3 (.head _) (fun p hp => .tail _ hp) ho ?hk ?_ hp
      case hk => intro p hp; simp only [List.mem_singleton] at hp; subst hp; rfl
      · ksw_same


def grownK (due len : Int) (ks : List (Int × Int)) : List (Int × Int) := (ks.filter fun k => decide (k.2 + len ≤ due)).map fun k => (k.1 + 1, k.2 + len)

theorem grown_spec {w : World} {p : Program} {loose : List Str} {mean : ExcName → Option Value} {mg mb : Str → Option Value} {A₀ : Around} {base : Heap} {outer : List Env} {env : Env} {h₀ : Heap} {L : Addr} {m : Str → Option Value}
    {s : Shared} {news : List (Addr × Obj)} {dp un : Nat} {gd : Option (List Code)} {Q E' : Value → Shared → Prop} {l : Addr} {n : Nat} {xs : List Lot} {due len : Int} {td tl : Tok}
    (B : Below A₀ base outer h₀) (F : Fr h₀ L s.heap m) (X : (Mine.lawTop.heap_39 w.params).In h₀) (N : News h₀ L s.heap news) (T : Top p loose mean mg mb h₀) (hke : env.scope.kind = .function) (hf : env.frame = some L)
    (hm : (l, lots xs n) ∈ news) (hx : ∀ e ∈ xs, (e.a, e.obj) ∈ news) (hz : xs.length ≤ 4000) (hdp : dp < 500) (hun : un < 500)
    (ret : ∀ D ys h' tk' nx, Fr h₀ L h' m → News h₀ L h' ((D, lots (xs ++ ys) 0) :: (nx ++ news)) → (∀ q ∈ news, q.1 < D) → (∀ q ∈ nx, q.1 < D) → (∀ q ∈ news, ∀ p ∈ nx, q.1 < p.1) → (∀ e ∈ ys, (e.a, e.obj) ∈ nx) → ys.map Lot.key = grownK due len (xs.map Lot.key) → Q (.ref D) { s with heap := h', toks := tk' }) :
    wpAny (model PySem.Challenge.rw_ir0004_01.row.prog w) (Ar dp un gd env outer) (call (.ref 73) [.ref l, .int due td, .int len tl]) Q E' s := by
  revert X; k_fill; intro X
  refine wpAny_call ?_
  k_dflt (walk_at "MY enterC")
  walk_at "MY steps"
  refine go_on ?_
  refine comp_open (by with_unfolding_all rfl) (by rfl) (by decide) ?_
  walk_at "MY steps"
  refine go_on ?_
  rename Fr _ _ _ _ => F1; rename News _ _ _ _ => N1
  rename ∀ p ∈ news, _ => hlt
  rename_i g1 L1 h1 tk1 FG1 _ X1 T1 o1 o2 d1 d2
  refine comp_core (vs := xs.map Lot.v) (nn := n) (M2 := fun i m => ∀ e, xs[i]? = some e → m (Str.ofString "many") = some (.int e.i e.ti) ∧ m (Str.ofString "whole") = some (.int e.j e.tj))
    (fun i ys nx => ∃ es tl, ys = List.map Lot.v es ∧ nx = tl ++ ((L1 + 1 + 1, o1) :: (L1 + 1, o2) :: news) ∧ (∀ e ∈ es, (e.a, e.obj) ∈ tl) ∧ (∀ q ∈ news, ∀ p ∈ tl, q.1 < p.1) ∧ es.map Lot.key = grownK due len ((xs.take i).map Lot.key))
    rfl F1 N1 ⟨[], [], rfl, rfl, (fun _ h => nomatch h), (fun _ _ _ h => nomatch h), rfl⟩ ?keep (by rw [List.length_map, sizeLine_eq]; omega) (by decide) (by rfl) ?asg ?turn ?done
  case keep =>
    rintro i ys nx ⟨es, tl', rfl, rfl, _⟩
    exact List.mem_append_right _ (.tail _ (.tail _ hm))
  case asg =>
    rintro i v ys nx C m₂ s₁ Q' E'' hv ⟨es, tl', rfl, rfl, _⟩ N2 hn hQ
    obtain ⟨e, he, rfl⟩ := lot_of hv
    refine asg_pair rfl (by rfl) (by rfl) (by rfl) (by decide) N2 (List.mem_append_right _ (.tail _ (.tail _ (hx _ (List.mem_of_getElem? he))))) rfl rfl hn fun h' tk m₃ h3 e1 e2 hk => hQ h' tk m₃ h3 (fun e' he' => ?_) hk
    rw [he] at he'; cases he'; exact ⟨e1, e2⟩
  case done =>
    rintro D h tk ys nx ⟨es, tl', rfl, rfl, h1, h2, h3⟩ F2 N2 ho
    (try k_fold)
    walk_at "MY steps"
    have hl2 := N2 (l, lots xs n) (.tail _ (List.mem_append_right _ (.tail _ (.tail _ hm))))
    have hD2 := N2 (D, _) (.head _)
    have hgt : ∀ q ∈ news, q.1 < h.objs.size := fun q hq => Heap.lt_size (N2 q (.tail _ (List.mem_append_right _ (.tail _ (.tail _ hq))))).1
    have hgt2 : ∀ q ∈ tl', q.1 < h.objs.size := fun q hq => Heap.lt_size (N2 q (.tail _ (List.mem_append_left _ hq))).1
    refine add_lists (vs := xs.map Lot.v) (ws := es.map Lot.v) F2 N2 ⟨_, hl2.1, rfl, n, rfl⟩ ⟨_, hD2.1, rfl, _, rfl⟩ (fun h3' F3 N3 => ?_) (by rw [sizeLine_eq, List.length_map, List.length_map]; have := congrArg List.length h3; simp [grownK] at this; have := List.length_filter_le (fun k : Int × Int => decide (k.2 + len ≤ due)) (List.map Lot.key xs); simp at *; omega)
    generalize h.objs.size = D2 at *
    dsimp only
    walk_at "MY steps"
    refine go_on ?_
    rename Fr _ _ _ _ => F4; rename News _ _ _ _ => N4
    refine leaveK_ F4 (news' := (D2, lots (xs ++ es) 0) :: (tl' ++ news)) (fun p hp => ?_) fun F5 N5 => ret D2 es _ _ tl' F5 N5 hgt hgt2 h2 h1 ?_
    · rcases List.mem_cons.mp hp with rfl | hp
      · have := N4 _ (.head _)
        rw [← List.map_append] at this
        exact this
      · rcases List.mem_append.mp hp with hp | hp
        · exact N4 _ (.tail _ (.tail _ (List.mem_append_left _ hp)))
        · exact N4 _ (.tail _ (.tail _ (List.mem_append_right _ (.tail _ (.tail _ hp)))))
    · rw [h3, List.length_map, List.take_length]
  case turn =>
    rintro i v ys nx I oI C oC D m₂ h tk hv ⟨es, tl', rfl, hnx, h1, h2, h3⟩ hC hM F2 N2 ho ⟨nIC, nID, nCD⟩
    obtain ⟨e, he, rfl⟩ := lot_of hv
    obtain ⟨e1, e2⟩ := hM e he
    have hc1 : (L1 + 1 + 1, o1) ∈ nx := hnx ▸ List.mem_append_right _ (.head _)
    have hc2 : (L1 + 1, o2) ∈ nx := hnx ▸ List.mem_append_right _ (.tail _ (.head _))
    intro E''
    refine wpAny_tests_one ?_
    (try k_fold)
    walk_at "MY steps"
    all_goals refine go_on ?_
    · rename (e.j + len ≤ due) => hle
      rename Fr _ _ _ _ => F3; rename News _ _ _ _ => N3
      rename (_ ∧ _ ∧ _ ∧ AllLt _ nx) => hA
      rename Addr => D'
      obtain ⟨aI, aC, aD, aN⟩ := hA
      have aN' := kst_ltOf aN
      refine CEnd.intro (news' := (D', Lot.obj ⟨D', e.i + 1, tk + 1 + 1, e.j + len, tk + 1 + 1 + 1⟩) :: nx) F3 N3 (.tail _ (.head _)) (.tail _ (.tail _ (.head _))) (.tail _ (.tail _ (.tail _ (.head _)))) (fun p hp => ?_) (fun p hp => ?_) ⟨es ++ [⟨D', e.i + 1, tk + 1 + 1, e.j + len, tk + 1 + 1 + 1⟩], (D', Lot.obj ⟨D', e.i + 1, tk + 1 + 1, e.j + len, tk + 1 + 1 + 1⟩) :: tl', by simp, by rw [hnx]; rfl, ?_, ?_, ?_⟩
      · rcases List.mem_cons.mp hp with rfl | hp
        · exact .head _
        · exact .tail _ (.tail _ (.tail _ (.tail _ hp)))
      · rcases List.mem_cons.mp hp with rfl | hp
        · exact ⟨Nat.ne_of_gt aI, Nat.ne_of_gt aC, Nat.ne_of_gt aD⟩
        · exact ho p hp
      · intro q hq
        rcases List.mem_append.mp hq with hq | hq
        · exact .tail _ (h1 q hq)
        · rw [List.mem_singleton.mp hq]; exact .head _
      · intro q hq p hp
        rcases List.mem_cons.mp hp with rfl | hp
        · exact aN' q (hnx ▸ List.mem_append_right _ (.tail _ (.tail _ hq)))
        · exact h2 q hq p hp
      · have ht : xs.take (i + 1) = xs.take i ++ [e] := by rw [List.take_add_one, he]; rfl
        rw [ht, List.map_append, h3]
        simp [grownK, hle]
    · rename (¬ e.j + len ≤ due) => hle
      refine CEnd.intro (news' := nx) F2 N2 (.head _) (.tail _ (.head _)) (.tail _ (.tail _ (.head _))) (fun p hp => .tail _ (.tail _ (.tail _ hp))) ho ⟨es, tl', rfl, hnx, h1, h2, ?_⟩
      have ht : xs.take (i + 1) = xs.take i ++ [e] := by rw [List.take_add_one, he]; rfl
      rw [ht, List.map_append, h3]
      simp [grownK, hle]


theorem ints_len {vs : List Value} {ns : List Int} (h : IntsAre vs ns) : vs.length = ns.length := IntsAre.length h
theorem ints_snoc {vs : List Value} {ns : List Int} (h : IntsAre vs ns) (i : Int) (t : Tok) : IntsAre (vs ++ [.int i t]) (ns ++ [i]) := IntsAre.append h (.cons i t .nil)

theorem best_spec {w : World} {p : Program} {loose : List Str} {mean : ExcName → Option Value} {mg mb : Str → Option Value} {A₀ : Around} {base : Heap} {outer : List Env} {env : Env} {h₀ : Heap} {L : Addr} {m : Str → Option Value}
    {s : Shared} {news : List (Addr × Obj)} {dp un : Nat} {gd : Option (List Code)} {Q E' : Value → Shared → Prop} {l : Addr} {n : Nat} {xs : List Lot} {many whole : Int} {td tl : Tok}
    (B : Below A₀ base outer h₀) (F : Fr h₀ L s.heap m) (X : (Mine.lawTop.heap_39 w.params).In h₀) (N : News h₀ L s.heap news) (T : Top p loose mean mg mb h₀) (hke : env.scope.kind = .function) (hf : env.frame = some L)
    (hm : (l, lots xs n) ∈ news) (hx : ∀ e ∈ xs, (e.a, e.obj) ∈ news) (hz : xs.length ≤ 4000) (hdp : dp < 500) (hun : un < 500)
    (hb1 : (many, whole) ∈ xs.map Lot.key) (hb2 : ∀ e ∈ xs, e.i ≤ many) (hb3 : ∀ e ∈ xs, e.i = many → whole ≤ e.j)
    (ret : ∀ h' tk', Fr h₀ L h' m → News h₀ L h' news → Q (.bool true) { s with heap := h', toks := tk' }) :
    wpAny (model PySem.Challenge.rw_ir0004_01.row.prog w) (Ar dp un gd env outer) (call (.ref 78) [.ref l, .int many td, .int whole tl]) Q E' s := by
  revert X; k_fill; intro X
  refine wpAny_call ?_
  k_dflt (walk_at "MY enterC")
  walk_at "MY steps"
  refine go_on ?_
  refine comp_open (by with_unfolding_all rfl) (by rfl) (by decide) ?_
  walk_at "MY steps"
  refine go_on ?_
  rename Fr _ _ _ _ => F1; rename News _ _ _ _ => N1
  rename ∀ p ∈ news, _ => hlt
  rename_i g1 L1 h1 tk1 FG1 _ X1 T1 o1 d1
  refine comp_core (vs := xs.map Lot.v) (nn := n) (M2 := fun i m => ∀ e, xs[i]? = some e → m (Str.ofString "one") = some (.int e.i e.ti) ∧ m (Str.ofString "time") = some (.int e.j e.tj))
    (fun i ys nx => nx = (L1 + 1, o1) :: news ∧ IntsAre ys ((xs.take i).map (·.i)))
    rfl F1 N1 ⟨rfl, .nil⟩ ?keep (by rw [List.length_map, sizeLine_eq]; omega) (by decide) (by rfl) ?asg ?turn ?done
  case keep =>
    rintro i ys nx ⟨rfl, _⟩
    exact .tail _ hm
  case asg =>
    rintro i v ys nx C m₂ s₁ Q' E'' hv ⟨rfl, _⟩ N2 hn hQ
    obtain ⟨e, he, rfl⟩ := lot_of hv
    refine asg_pair rfl (by rfl) (by rfl) (by rfl) (by decide) N2 (.tail _ (hx _ (List.mem_of_getElem? he))) rfl rfl hn fun h' tk m₃ h3 e1 e2 hk => hQ h' tk m₃ h3 (fun e' he' => ?_) hk
    rw [he] at he'; cases he'; exact ⟨e1, e2⟩
  case turn =>
    rintro i v ys nx I oI C oC D m₂ h tk hv ⟨hnx, h1⟩ hC hM F2 N2 ho ⟨nIC, nID, nCD⟩
    obtain ⟨e, he, rfl⟩ := lot_of hv
    obtain ⟨e1, e2⟩ := hM e he
    have hc1 : (L1 + 1, o1) ∈ nx := hnx ▸ .head _
    intro E''
    refine wpAny_tests_nil ?_
    (try k_fold)
    walk_at "MY steps"
    refine go_on ?_
    refine CEnd.intro (news' := nx) F2 N2 (.head _) (.tail _ (.head _)) (.tail _ (.tail _ (.head _))) (fun p hp => .tail _ (.tail _ (.tail _ hp))) ho ⟨hnx, ?_⟩
    rw [List.take_add_one, he, List.map_append]
    exact ints_snoc h1 e.i e.ti
  case done =>
    rintro D h tk ys nx ⟨hnx, h1⟩ F2 N2 ho
    (try k_fold)
    walk_at "MY steps"
    refine go_on ?_
    rw [List.length_map, List.take_length] at h1
    have hne : 0 < xs.length := by cases xs with
      | nil => cases hb1
      | cons => simp
    refine kso_max F2 N2 ⟨_, (N2 _ (.head _)).1, rfl, _, rfl⟩ h1 (by rw [List.length_map]; exact hne) rfl fun h2 M tM tkM F3 N3 hM1 hM2 => ?_
    have hMm : M = many := by
      obtain ⟨e, he, rfl⟩ := List.mem_map.mp hM1
      obtain ⟨e', he', hk⟩ := List.mem_map.mp hb1
      have := hb2 e he
      have := hM2 e'.i (List.mem_map.mpr ⟨e', he', rfl⟩)
      have : e'.i = many := congrArg Prod.fst hk
      omega
    subst hMm
    clear hM1 hM2
    subst hnx
    dsimp only
    have hDn : @Ne Nat D (L1 + 1) := fun e => ho _ (.head _) e.symm
    have hNl : ∀ p ∈ news, p.1 ≠ L1 + 1 := fun p hp => Nat.ne_of_lt (Nat.lt_succ_of_lt (hlt p hp))
    walk_at "MY steps"
    all_goals refine go_on ?_
    rotate_left
    · rename (M ≠ M) => hc
      exact absurd rfl hc
    rename Fr _ _ _ _ => F4; rename News _ _ _ _ => N4; rename (_ = Data.cell (some (Value.int M tM))) => d4; rename Obj => o4
    clear h1
    refine comp_open (by with_unfolding_all rfl) (by rfl) (by decide) ?_
    walk_at "MY steps"
    refine go_on ?_
    refine comp_core (vs := xs.map Lot.v) (nn := n) (M2 := fun i m => ∀ e, xs[i]? = some e → m (Str.ofString "one") = some (.int e.i e.ti) ∧ m (Str.ofString "time") = some (.int e.j e.tj))
      (fun i ys nx => nx = (L1 + 1, o4) :: news ∧ IntsAre ys (((xs.take i).filter fun e => e.i == M).map (·.j)))
      rfl F4 (fun p hp => N4 p (.tail _ hp)) ⟨rfl, .nil⟩ ?keep (by rw [List.length_map, sizeLine_eq]; omega) (by decide) (by rfl) ?asg ?turn ?done
    case keep =>
      rintro i ys nx ⟨rfl, _⟩
      exact .tail _ hm
    case asg =>
      rintro i v ys nx C m₂ s₁ Q' E'' hv ⟨rfl, _⟩ N2 hn hQ
      obtain ⟨e, he, rfl⟩ := lot_of hv
      refine asg_pair rfl (by rfl) (by rfl) (by rfl) (by decide) N2 (.tail _ (hx _ (List.mem_of_getElem? he))) rfl rfl hn fun h' tk m₃ h3 e1 e2 hk => hQ h' tk m₃ h3 (fun e' he' => ?_) hk
      rw [he] at he'; cases he'; exact ⟨e1, e2⟩
    case turn =>
      rintro i v ys nx I oI C oC D m₂ h tk hv ⟨hnx, h1⟩ hC hM F2 N2 ho ⟨nIC, nID, nCD⟩
      obtain ⟨e, he, rfl⟩ := lot_of hv
      obtain ⟨e1, e2⟩ := hM e he
      have hc1 : (L1 + 1, o4) ∈ nx := hnx ▸ .head _
      have ht : xs.take (i + 1) = xs.take i ++ [e] := by rw [List.take_add_one, he]; rfl
      intro E''
      refine wpAny_tests_one ?_
      (try k_fold)
      walk_at "MY steps"
      all_goals refine go_on ?_
      · rename (e.i = M) => hle
        refine CEnd.intro (news' := nx) F2 N2 (.head _) (.tail _ (.head _)) (.tail _ (.tail _ (.head _))) (fun p hp => .tail _ (.tail _ (.tail _ hp))) ho ⟨hnx, ?_⟩
        rw [ht, List.filter_append, List.map_append, List.filter_cons_of_pos (by simp [hle])]
        exact ints_snoc h1 e.j e.tj
      · rename (e.i ≠ M) => hle
        refine CEnd.intro (news' := nx) F2 N2 (.head _) (.tail _ (.head _)) (.tail _ (.tail _ (.head _))) (fun p hp => .tail _ (.tail _ (.tail _ hp))) ho ⟨hnx, ?_⟩
        rw [ht, List.filter_append, List.map_append, List.filter_cons_of_neg (by simp [hle])]
        simpa using h1
    case done =>
      rintro D5 h5 tk5 ys5 nx ⟨hnx, h1⟩ F5 N5 ho5
      (try k_fold)
      walk_at "MY steps"
      refine go_on ?_
      rw [List.length_map, List.take_length] at h1
      obtain ⟨e0, he0, hk0⟩ := List.mem_map.mp hb1
      have hi0 : e0.i = M := congrArg Prod.fst hk0
      have hj0 : e0.j = whole := congrArg Prod.snd hk0
      have hin : whole ∈ ((xs.filter fun e => e.i == M).map (·.j)) := List.mem_map.mpr ⟨e0, List.mem_filter.mpr ⟨he0, by simp [hi0]⟩, hj0⟩
      refine kso_min F5 N5 ⟨_, (N5 _ (.head _)).1, rfl, _, rfl⟩ h1 (List.length_pos_of_mem hin) rfl fun h2 M2 tM2 tkM2 F3 N3 hM1 hM2 => ?_
      have hMm : M2 = whole := by
        obtain ⟨e, he, rfl⟩ := List.mem_map.mp hM1
        obtain ⟨he, hei⟩ := List.mem_filter.mp he
        have := hb3 e he (by simpa using hei)
        have := hM2 whole hin
        omega
      subst hMm
      dsimp only
      walk_at "MY steps"
      refine go_on ?_
      refine leaveK_ F3 (news' := news) (fun p hp => N3 p (.tail _ (hnx ▸ .tail _ hp))) fun F6 N6 => ?_
      dsimp only
      rw [show (M2 == M2) = true by simp]
      exact ret _ _ F6 N6


section
/-- x ≤ y in the heap's order -/
abbrev le (x y : Pr) : Prop := y.lt x = false

theorem lt_iff {x y : Pr} : x.lt y = true ↔ x.i < y.i ∨ (x.i = y.i ∧ x.c.cps.toList < y.c.cps.toList) := by
  unfold Pr.lt; simp
theorem ncps_lt {a b c : List Nat} (h1 : ¬ b < a) (h2 : b < c) : a < c := List.lt_of_le_of_lt (by exact h1) h2
theorem lt_neg {x y z : Pr} (h : x.lt z = true) : x.lt y = true ∨ y.lt z = true := by
  rw [lt_iff, lt_iff]
  rw [lt_iff] at h
  rcases Int.lt_trichotomy x.i y.i with h1 | h1 | h1
  · exact .inl (.inl h1)
  · rcases h with h | ⟨h, h2⟩
    · exact .inr (.inl (by omega))
    · by_cases h3 : x.c.cps.toList < y.c.cps.toList
      · exact .inl (.inr ⟨h1, h3⟩)
      · exact .inr (.inr ⟨by omega, ncps_lt h3 h2⟩)
  · rcases h with h | ⟨h, h2⟩
    · exact .inr (.inl (by omega))
    · exact .inr (.inl (by omega))
theorem le_trans {x y z : Pr} (h1 : le x y) (h2 : le y z) : le x z := by
  by_cases h : z.lt x = true
  · rcases lt_neg (y := y) h with h | h
    · exact absurd (h.symm.trans h2) (by decide)
    · exact absurd (h.symm.trans h1) (by decide)
  · simpa using h
theorem lt_asymm {x y : Pr} (h : x.lt y = true) : le x y := by
  show y.lt x = false
  by_cases h2 : y.lt x = true
  · rw [lt_iff] at h h2
    rcases h with h | ⟨h, h'⟩ <;> rcases h2 with h2 | ⟨h2, h2'⟩
    · omega
    · omega
    · omega
    · exact absurd h2' (List.lt_asymm h')
  · simpa using h2
theorem le_of {x y : Pr} (h : ¬ y.lt x = true) : le x y := by simpa using h
theorem le_refl (x : Pr) : le x x := by
  show x.lt x = false
  by_cases h : x.lt x = true
  · exact lt_asymm h
  · simpa using h
theorem le_anti {x y : Pr} (h1 : le x y) (h2 : le y x) : x.i = y.i ∧ x.c = y.c := by
  have h1' : ¬ y.lt x = true := by rw [h1]; exact Bool.false_ne_true
  have h2' : ¬ x.lt y = true := by rw [h2]; exact Bool.false_ne_true
  rw [lt_iff] at h1' h2'
  have e : x.i = y.i := by
    rcases Int.lt_trichotomy x.i y.i with h | h | h
    · exact absurd (.inl h) h2'
    · exact h
    · exact absurd (.inl h) h1'
  refine ⟨e, ?_⟩
  have a1 : ¬ y.c.cps.toList < x.c.cps.toList := fun h => h1' (.inr ⟨e.symm, h⟩)
  have a2 : ¬ x.c.cps.toList < y.c.cps.toList := fun h => h2' (.inr ⟨e, h⟩)
  have : x.c.cps.toList = y.c.cps.toList := List.le_antisymm a1 a2
  have h3 : x.c.cps = y.c.cps := Array.toList_inj.mp this
  cases hx : x.c; cases hy : y.c
  rw [hx, hy] at h3; simp only at h3; rw [h3]

/-! permutations of set -/
theorem set_perm {α : Type} [Inhabited α] : ∀ (xs : List α) (i : Nat) (v : α), i < xs.length → (xs.getD i default :: xs.set i v).Perm (v :: xs)
  | [], _, _, h => by cases h
  | a :: r, 0, v, _ => List.Perm.swap _ _ _
  | a :: r, i + 1, v, h => by
    have ih := set_perm r i v (by simpa using h)
    simp only [List.getD_cons_succ, List.set_cons_succ]
    exact (List.Perm.swap _ _ _).trans ((ih.cons a).trans (List.Perm.swap _ _ _))
theorem swap_perm {α : Type} [Inhabited α] {xs : List α} {p q : Nat} {e : α} (hp : p < xs.length) (hq : q < xs.length) (hn : p ≠ q) :
    ((xs.set p (xs.getD q default)).set q e).Perm (xs.set p e) := by
  have hf : (xs.set p (xs.getD q default)).getD q default = xs.getD q default := by
    simp [List.getD_eq_getElem?_getD, List.getElem?_set_ne hn]
  have a1 := set_perm (xs.set p (xs.getD q default)) q e (by simpa using hq)
  rw [hf] at a1
  have a2 := set_perm xs p (xs.getD q default) hp
  have a3 := set_perm xs p e hp
  refine List.Perm.cons_inv (a := xs.getD q default) ?_
  refine List.Perm.cons_inv (a := xs.getD p default) ?_
  refine (a1.cons _).trans ((List.Perm.swap _ _ _).trans ((a2.cons _).trans ?_))
  refine List.Perm.trans (List.Perm.swap _ _ _) ?_
  exact (a3.symm.cons _).trans (List.Perm.swap _ _ _)

/-! the heap order -/
abbrev at_ (xs : List Pr) (i : Nat) : Pr := xs.getD i default
theorem at_set_ne {xs : List Pr} {p i : Nat} {f : Pr} (h : i ≠ p) : at_ (xs.set p f) i = at_ xs i := by
  simp [List.getD_eq_getElem?_getD, List.getElem?_set_ne (Ne.symm h)]
theorem at_set_eq {xs : List Pr} {p : Nat} {f : Pr} (h : p < xs.length) : at_ (xs.set p f) p = f := by
  simp [List.getD_eq_getElem?_getD, List.getElem?_set_self h]
def Heap' (xs : List Pr) : Prop := ∀ i, 0 < i → i < xs.length → le (at_ xs ((i - 1) / 2)) (at_ xs i)
def HP (xs : List Pr) (p : Nat) (e : Pr) : Prop :=
  (∀ i, 0 < i → i < xs.length → i ≠ p → (i - 1) / 2 ≠ p → le (at_ xs ((i - 1) / 2)) (at_ xs i)) ∧
  (∀ i, 0 < i → i < xs.length → (i - 1) / 2 = p → le e (at_ xs i)) ∧
  (∀ i, 0 < i → i < xs.length → (i - 1) / 2 = p → 0 < p → le (at_ xs ((p - 1) / 2)) (at_ xs i))

theorem sdGo_heap (e : Pr) : ∀ (p : Nat) (xs : List Pr), p < xs.length → HP xs p e → Heap' ((sdGo e xs p).1.set (sdGo e xs p).2 e) ∧ ((sdGo e xs p).1.set (sdGo e xs p).2 e).Perm (xs.set p e) := by
  intro p
  induction p using Nat.strongRecOn with
  | _ p ih =>
    intro xs hp ⟨h1, h2, h3⟩
    match p, ih, hp, h1, h2, h3 with
    | 0, _, hp, h1, h2, _ =>
      rw [sdGo_zero]
      refine ⟨fun i hi hl => ?_, .refl _⟩
      rw [List.length_set] at hl
      rw [at_set_ne (i := i) (by omega)]
      by_cases hq : (i - 1) / 2 = 0
      · rw [hq, at_set_eq hp]; exact h2 i hi hl hq
      · rw [at_set_ne hq]; exact h1 i hi hl (by omega) hq
    | q + 1, ih, hp, h1, h2, h3 =>
      have hq2 : q / 2 < xs.length := by omega
      have hqn : q / 2 ≠ q + 1 := by omega
      by_cases hl : e.lt (at_ xs (q / 2)) = true
      · have e1 : sdGo e xs (q + 1) = sdGo e (xs.set (q + 1) (xs.getD (q / 2) default)) (q / 2) := by rw [sdGo, if_pos hl]
        rw [e1]
        have hk := ih (q / 2) (by omega) (xs.set (q + 1) (xs.getD (q / 2) default)) (by rw [List.length_set]; exact hq2) ⟨?_, ?_, ?_⟩
        · exact ⟨hk.1, hk.2.trans (swap_perm hp hq2 (Ne.symm hqn))⟩
        · intro i hi hil hne hpn
          rw [List.length_set] at hil
          by_cases hiq : i = q + 1
          · subst hiq; exact absurd (by simp) hpn
          · rw [at_set_ne hiq]
            by_cases hpar : (i - 1) / 2 = q + 1
            · rw [hpar, at_set_eq hp]; exact h3 i hi hil hpar (by omega)
            · rw [at_set_ne hpar]; exact h1 i hi hil hiq hpar
        · intro i hi hil hpar
          rw [List.length_set] at hil
          by_cases hiq : i = q + 1
          · subst hiq; rw [at_set_eq hp]; exact lt_asymm hl
          · rw [at_set_ne hiq]
            have := h1 i hi hil hiq (by omega)
            rw [hpar] at this
            exact le_trans (lt_asymm hl) this
        · intro i hi hil hpar h0
          rw [List.length_set] at hil
          rw [at_set_ne (by omega : (q / 2 - 1) / 2 ≠ q + 1)]
          have hb := h1 (q / 2) h0 hq2 hqn (by omega)
          by_cases hiq : i = q + 1
          · subst hiq; rw [at_set_eq hp]; exact hb
          · rw [at_set_ne hiq]
            have := h1 i hi hil hiq (by omega)
            rw [hpar] at this
            exact le_trans hb this
      · have e1 : sdGo e xs (q + 1) = (xs, q + 1) := by rw [sdGo, if_neg hl]
        rw [e1]
        refine ⟨fun i hi hil => ?_, .refl _⟩
        rw [List.length_set] at hil
        by_cases hiq : i = q + 1
        · subst hiq
          rw [at_set_eq hp, show (q + 1 - 1) / 2 = q / 2 by simp, at_set_ne hqn]
          exact le_of hl
        · rw [at_set_ne hiq]
          by_cases hpar : (i - 1) / 2 = q + 1
          · rw [hpar, at_set_eq hp]; exact h2 i hi hil hpar
          · rw [at_set_ne hpar]; exact h1 i hi hil hiq hpar

theorem set_getD_self {α : Type} [Inhabited α] : ∀ (xs : List α) (p : Nat), xs.set p (xs.getD p default) = xs
  | [], _ => rfl
  | _ :: _, 0 => rfl
  | _ :: r, p + 1 => by simp only [List.getD_cons_succ, List.set_cons_succ]; rw [set_getD_self r p]
theorem sdown_heap {xs : List Pr} {p : Nat} (hp : p < xs.length) (h : HP xs p (at_ xs p)) : Heap' (sdown xs p) ∧ (sdown xs p).Perm xs := by
  have := sdGo_heap (at_ xs p) p xs hp h
  rw [set_getD_self] at this
  exact this

theorem push_heap {xs : List Pr} {e : Pr} (h : Heap' xs) : Heap' (sdown (xs ++ [e]) xs.length) ∧ (sdown (xs ++ [e]) xs.length).Perm (xs ++ [e]) := by
  have at_app : ∀ i, i < xs.length → at_ (xs ++ [e]) i = at_ xs i := fun i hi => by simp [List.getD_eq_getElem?_getD, List.getElem?_append_left hi]
  refine sdown_heap (by simp) ⟨fun i hi hl hne hp => ?_, fun i hi hl hp => ?_, fun i hi hl hp _ => ?_⟩
  · have : i < xs.length := by simp at hl; omega
    rw [at_app i this, at_app _ (by omega)]
    exact h i hi this
  · simp at hl; omega
  · simp at hl; omega

def HQ (xs : List Pr) (p : Nat) : Prop :=
  (∀ i, 0 < i → i < xs.length → i ≠ p → (i - 1) / 2 ≠ p → le (at_ xs ((i - 1) / 2)) (at_ xs i)) ∧
  (∀ i, 0 < i → i < xs.length → (i - 1) / 2 = p → 0 < p → le (at_ xs ((p - 1) / 2)) (at_ xs i))

theorem kid_par {xs : List Pr} {p : Nat} : (kid xs p - 1) / 2 = p := by unfold kid; split <;> omega
theorem kid_le {xs : List Pr} {p i : Nat} (hi : 0 < i) (hl : i < xs.length) (hp : (i - 1) / 2 = p) : le (at_ xs (kid xs p)) (at_ xs i) := by
  have : i = 2 * p + 1 ∨ i = 2 * p + 2 := by omega
  unfold kid
  split
  · rename_i h
    rcases this with rfl | rfl
    · exact h.2
    · exact le_refl _
  · rename_i h
    rcases this with rfl | rfl
    · exact le_refl _
    · have h2 : (at_ xs (2 * p + 1)).lt (at_ xs (2 * p + 2)) = true := by
        cases q : (at_ xs (2 * p + 1)).lt (at_ xs (2 * p + 2)) with
        | true => rfl
        | false => exact absurd ⟨hl, q⟩ h
      exact lt_asymm h2

theorem suGo_heap (e : Pr) : ∀ (n p : Nat) (xs : List Pr), xs.length - p ≤ n → p < xs.length → HQ xs p →
    (suGo xs p).2 < (suGo xs p).1.length ∧ HP (suGo xs p).1 (suGo xs p).2 e ∧ ((suGo xs p).1.set (suGo xs p).2 e).Perm (xs.set p e) := by
  intro n
  induction n with
  | zero => intro p xs h hp; omega
  | succ n ih =>
    intro p xs hn hp ⟨h1, h3⟩
    by_cases hc : 2 * p + 1 < xs.length
    · rw [suGo_step hc]
      have hk := kid_lt hc
      have hg := kid_gt xs p
      have hpar := kid_par (xs := xs) (p := p)
      have hkl := fun i => kid_le (xs := xs) (p := p) (i := i)
      generalize hkv : kid xs p = k at *
      have r := ih k (xs.set p (at_ xs k)) (by rw [List.length_set]; omega) (by rw [List.length_set]; exact hk) ⟨?_, ?_⟩
      · exact ⟨r.1, r.2.1, r.2.2.trans (swap_perm hp hk (by omega))⟩
      · intro i hi hil hne hpn
        rw [List.length_set] at hil
        by_cases hip : i = p
        · subst hip
          rw [at_set_eq hp, at_set_ne (by omega)]
          exact h3 k (by omega) hk hpar hi
        · rw [at_set_ne hip]
          by_cases hpp : (i - 1) / 2 = p
          · rw [hpp, at_set_eq hp]; exact hkl i hi hil hpp
          · rw [at_set_ne hpp]; exact h1 i hi hil hip hpp
      · intro i hi hil hpk h0
        rw [List.length_set] at hil
        rw [hpar, at_set_eq hp, at_set_ne (by omega)]
        have := h1 i hi hil (by omega) (by omega)
        rw [hpk] at this
        exact this
    · rw [suGo_end hc]
      refine ⟨hp, ⟨h1, fun i hi hl hpar => ?_, fun i hi hl hpar => ?_⟩, .refl _⟩
      · dsimp only at hl hpar; omega
      · dsimp only at hl hpar; omega

theorem sup_heap {xs : List Pr} {e : Pr} (h : Heap' xs) (hne : 0 < xs.length) : Heap' (sup (xs.set 0 e)) ∧ (sup (xs.set 0 e)).Perm (xs.set 0 e) := by
  have hat : at_ (xs.set 0 e) 0 = e := at_set_eq hne
  obtain ⟨r1, ⟨q1, q2, q3⟩, r3⟩ := suGo_heap e (xs.set 0 e).length 0 (xs.set 0 e) (by omega) (by rw [List.length_set]; exact hne) ⟨fun i hi hl _ hp => by
    rw [List.length_set] at hl
    rw [at_set_ne (p := 0) (i := i) (by omega), at_set_ne hp]; exact h i hi hl, fun i _ _ _ h0 => absurd h0 (Nat.lt_irrefl _)⟩
  have e1 : sup (xs.set 0 e) = sdown ((suGo (xs.set 0 e) 0).1.set (suGo (xs.set 0 e) 0).2 e) (suGo (xs.set 0 e) 0).2 := by
    unfold sup; dsimp only; rw [show (xs.set 0 e).getD 0 default = e from hat]
  rw [e1]
  generalize suGo (xs.set 0 e) 0 = r at *
  have hr2 : r.2 < (r.1.set r.2 e).length := by rw [List.length_set]; exact r1
  have r := sdown_heap hr2 ⟨fun i hi hl hn hp => ?_, fun i hi hl hp => ?_, fun i hi hl hp h0 => ?_⟩
  · refine ⟨r.1, r.2.trans (r3.trans ?_)⟩
    rw [List.set_set]
  · rw [List.length_set] at hl; rw [at_set_ne hn, at_set_ne hp]; exact q1 i hi hl hn hp
  · rw [List.length_set] at hl; rw [at_set_eq r1, at_set_ne (by omega)]; exact q2 i hi hl hp
  · rw [List.length_set] at hl; rw [at_set_ne (by omega), at_set_ne (by omega)]; exact q3 i hi hl hp h0

theorem root_le {xs : List Pr} (h : Heap' xs) : ∀ i, i < xs.length → le (at_ xs 0) (at_ xs i) := by
  intro i
  induction i using Nat.strongRecOn with
  | _ i ih =>
    intro hl
    by_cases h0 : i = 0
    · subst h0; exact le_refl _
    · exact le_trans (ih ((i - 1) / 2) (by omega) (by omega)) (h i (by omega) hl)
theorem root_least {xs : List Pr} {f : Pr} (h : Heap' xs) (hf : xs[0]? = some f) : f ∈ xs ∧ ∀ x ∈ xs, le f x := by
  refine ⟨List.mem_of_getElem? hf, fun x hx => ?_⟩
  obtain ⟨i, hi, rfl⟩ := List.getElem_of_mem hx
  have := root_le h i hi
  rw [show at_ xs 0 = f from getD_of hf, show at_ xs i = xs[i] from getD_of (List.getElem?_eq_getElem hi)] at this
  exact this

/-- pop's law: the rest and the root -/
theorem set0_perm {xs : List Pr} {f e : Pr} (hf : xs[0]? = some f) : (f :: xs.set 0 e).Perm (e :: xs) := by
  have hl : 0 < xs.length := (List.getElem?_eq_some_iff.mp hf).1
  have := set_perm xs 0 e hl
  rw [getD_of hf] at this
  exact this
theorem heap_init {xs : List Pr} {e : Pr} (h : Heap' (xs ++ [e])) : Heap' xs := by
  intro i hi hl
  have at_app : ∀ i, i < xs.length → at_ (xs ++ [e]) i = at_ xs i := fun i hi => by simp [List.getD_eq_getElem?_getD, List.getElem?_append_left hi]
  have := h i hi (by simp; omega)
  rw [at_app i hl, at_app _ (by omega)] at this
  exact this
theorem heap_nil : Heap' [] := fun i _ h => by cases h
theorem pop_heap {xs : List Pr} {e f : Pr} (h : Heap' (xs ++ [e])) (hf : xs[0]? = some f) : Heap' (sup (xs.set 0 e)) ∧ (f :: sup (xs.set 0 e)).Perm (xs ++ [e]) ∧ ∀ x ∈ xs ++ [e], le f x := by
  have hl : 0 < xs.length := (List.getElem?_eq_some_iff.mp hf).1
  obtain ⟨a, b⟩ := sup_heap (e := e) (heap_init h) hl
  refine ⟨a, (b.cons f).trans ((set0_perm hf).trans (List.perm_append_singleton e xs).symm), ?_⟩
  have := root_least h (f := f) (by rw [List.getElem?_append_left hl]; exact hf)
  exact this.2
theorem pushpop_heap {xs : List Pr} {e f : Pr} (h : Heap' xs) (hf : xs[0]? = some f) : Heap' (sup (xs.set 0 e)) ∧ (f :: sup (xs.set 0 e)).Perm (e :: xs) ∧ ∀ x ∈ xs, le f x := by
  have hl : 0 < xs.length := (List.getElem?_eq_some_iff.mp hf).1
  obtain ⟨a, b⟩ := sup_heap (e := e) h hl
  exact ⟨a, (b.cons f).trans (set0_perm hf), (root_least h hf).2⟩
end

section
def sumI : List Int → Int
  | [] => 0
  | a :: r => a + sumI r
theorem sumI_app : ∀ (a b : List Int), sumI (a ++ b) = sumI a + sumI b
  | [], b => by simp [sumI]
  | x :: a, b => by simp only [List.cons_append, sumI]; rw [sumI_app a b]; omega
theorem sumI_perm {a b : List Int} (h : a.Perm b) : sumI a = sumI b := by
  induction h with
  | nil => rfl
  | cons x _ ih => simp only [sumI]; omega
  | swap x y l => simp only [sumI]; omega
  | trans _ _ i1 i2 => omega
theorem sumI_nonneg : ∀ {a : List Int}, (∀ x ∈ a, 0 ≤ x) → 0 ≤ sumI a
  | [], _ => Int.le_refl _
  | x :: a, h => by
    have h1 := h x (.head _)
    have h2 := sumI_nonneg (a := a) fun y hy => h y (.tail _ hy)
    simp only [sumI]; omega

def ins (p : Int) : List Int → List Int
  | [] => [p]
  | a :: s => if p ≤ a then p :: a :: s else a :: ins p s
theorem ins_perm (p : Int) : ∀ S, (ins p S).Perm (p :: S)
  | [] => .refl _
  | a :: s => by
    unfold ins; split
    · exact .refl _
    · exact ((ins_perm p s).cons a).trans (List.Perm.swap _ _ _)
theorem ins_len (p : Int) (S : List Int) : (ins p S).length = S.length + 1 := by
  have := (ins_perm p S).length_eq; simpa using this
theorem ins_sorted (p : Int) : ∀ S : List Int, S.Pairwise (· ≤ ·) → (ins p S).Pairwise (· ≤ ·)
  | [], _ => by unfold ins; exact List.pairwise_singleton _ _
  | a :: s, h => by
    have h' := List.pairwise_cons.mp h
    unfold ins; split
    · rename_i hp
      refine List.pairwise_cons.mpr ⟨fun x hx => ?_, h⟩
      rcases List.mem_cons.mp hx with rfl | hx
      · exact hp
      · exact Int.le_trans hp (h'.1 x hx)
    · rename_i hp
      refine List.pairwise_cons.mpr ⟨fun x hx => ?_, ins_sorted p s h'.2⟩
      rcases List.mem_cons.mp ((ins_perm p s).mem_iff.mp hx) with rfl | hx
      · omega
      · exact h'.1 x hx
theorem ins_up (p : Int) : ∀ (S : List Int) (j : Nat), S.Pairwise (· ≤ ·) → j ≤ S.length → sumI ((ins p S).take j) ≤ sumI (S.take j)
  | _, 0, _, _ => by simp
  | [], j + 1, _, h => by simp at h
  | a :: s, j + 1, hs, h => by
    have h' := List.pairwise_cons.mp hs
    unfold ins; split
    · rename_i hp
      simp only [List.take_succ_cons, sumI]
      -- p + take j (a :: s) ≤ a + take j s
      have : ∀ (s : List Int) (a : Int) (j : Nat), (∀ x ∈ s, a ≤ x) → s.Pairwise (· ≤ ·) → j ≤ s.length → sumI ((a :: s).take j) ≤ sumI (s.take j) := by
        intro s
        induction s with
        | nil => intro a j _ _ h; simp at h; subst h; simp
        | cons b s ih =>
          intro a j h1 h2 h3
          cases j with
          | zero => simp
          | succ j =>
            have h2' := List.pairwise_cons.mp h2
            have := ih b j h2'.1 h2'.2 (by simpa using h3)
            simp only [List.take_succ_cons, sumI]
            have h1' := h1 b (.head _)
            omega
      have := this s a j h'.1 h'.2 (by simpa using h)
      omega
    · simp only [List.take_succ_cons, sumI]
      have := ins_up p s j h'.2 (by simpa using h)
      omega
theorem ins_low (p : Int) : ∀ (S : List Int) (j : Nat), S.Pairwise (· ≤ ·) → j ≤ S.length → sumI ((ins p S).take (j + 1)) ≤ sumI (S.take j) + p
  | [], j, _, h => by
    have : j = 0 := by simpa using h
    subst this
    simp [ins, sumI]
  | a :: s, 0, hs, h => by
    unfold ins; split
    · simp [sumI]
    · rename_i hp; simp [sumI]; omega
  | a :: s, j + 1, hs, h => by
    have h' := List.pairwise_cons.mp hs
    unfold ins; split
    · simp only [List.take_succ_cons, sumI]; omega
    · simp only [List.take_succ_cons, sumI]
      have := ins_low p s j h'.2 (by simpa using h)
      omega
theorem ins_or (p : Int) : ∀ (S : List Int) (j : Nat), j ≤ S.length → (j + 1 ≤ S.length ∧ sumI ((ins p S).take (j + 1)) = sumI (S.take (j + 1))) ∨ sumI ((ins p S).take (j + 1)) = sumI (S.take j) + p
  | [], j, h => by
    have : j = 0 := by simpa using h
    subst this
    exact .inr (by simp [ins, sumI])
  | a :: s, j, h => by
    unfold ins; split
    · exact .inr (by simp only [List.take_succ_cons, sumI]; omega)
    · cases j with
      | zero => exact .inl ⟨by simp, by simp [sumI]⟩
      | succ j =>
        rcases ins_or p s j (by simpa using h) with ⟨h1, h2⟩ | h2
        · exact .inl ⟨by simpa using h1, by simp only [List.take_succ_cons, sumI]; rw [h2]⟩
        · exact .inr (by simp only [List.take_succ_cons, sumI] at *; omega)
theorem take_le : ∀ (S : List Int) (j : Nat), (∀ x ∈ S, 0 ≤ x) → sumI (S.take j) ≤ sumI S
  | S, 0, h => by simpa [sumI] using sumI_nonneg h
  | [], j + 1, _ => by simp
  | a :: s, j + 1, h => by
    have := take_le s j fun x hx => h x (.tail _ hx)
    simp only [List.take_succ_cons, sumI]; omega
def Pr.key (x : Pr) : Int × Str := (x.i, x.c)
def Jb.key (j : Jb) : Int × Str := (-j.n, j.c)
def isIn (ns : List Str) (c : Str) : Bool := ns.any fun x => x == c
theorem isIn_iff {ns : List Str} {c : Str} : isIn ns c = true ↔ c ∈ ns := by
  unfold isIn; simp
theorem fil_pos {ns : List Str} {x : Jb} {js : List Jb} (h : isIn ns x.c = true) : (x :: js).filter (fun x => isIn ns x.c) = x :: js.filter (fun x => isIn ns x.c) := List.filter_cons_of_pos (p := fun x : Jb => isIn ns x.c) h
theorem fil_neg {ns : List Str} {x : Jb} {js : List Jb} (h : ¬ isIn ns x.c = true) : (x :: js).filter (fun x => isIn ns x.c) = js.filter (fun x => isIn ns x.c) := List.filter_cons_of_neg (p := fun x : Jb => isIn ns x.c) h
def cnt (ns : List Str) (js : List Jb) : Int := ((js.filter fun x => isIn ns x.c).length : Int)
def tot (ns : List Str) (js : List Jb) : Int := sumI ((js.filter fun x => isIn ns x.c).map (·.n))
theorem inTime_app (ns : List Str) (j : Jb) : ∀ (js : List Jb) (t : Int), inTime ns (js ++ [j]) t = (inTime ns js t && (if isIn ns j.c then decide (t + tot ns js + j.n ≤ j.d) else true))
  | [], t => by
    simp only [List.nil_append, inTime, tot, List.filter_nil, List.map_nil, sumI, isIn, Bool.true_and, Int.add_zero]
    split
    · by_cases h : j.d < t + j.n
      · rw [if_pos h, decide_eq_false (by omega)]
      · rw [if_neg h, decide_eq_true (by omega)]
    · rfl
  | x :: js, t => by
    have step : ∀ l t, inTime ns (x :: l) t = if isIn ns x.c = true then (if x.d < t + x.n then false else inTime ns l (t + x.n)) else inTime ns l t := fun _ _ => rfl
    rw [List.cons_append, step, step]
    by_cases hx : isIn ns x.c = true
    · rw [if_pos hx, if_pos hx]
      by_cases h : x.d < t + x.n
      · rw [if_pos h, if_pos h]; rfl
      · rw [if_neg h, if_neg h, inTime_app ns j js (t + x.n)]
        have : tot ns (x :: js) = x.n + tot ns js := by unfold tot; rw [fil_pos hx]; rfl
        rw [this, show t + (x.n + tot ns js) = t + x.n + tot ns js by omega]
    · rw [if_neg hx, if_neg hx, inTime_app ns j js t]
      have : tot ns (x :: js) = tot ns js := by unfold tot; rw [fil_neg hx]
      rw [this]
theorem inTime_mono {ns ns' : List Str} : ∀ {js : List Jb} {t t' : Int}, (∀ x ∈ js, isIn ns' x.c = true → isIn ns x.c = true) → (∀ x ∈ js, 0 ≤ x.n) → t' ≤ t → inTime ns js t = true → inTime ns' js t' = true
  | [], _, _, _, _, _, _ => rfl
  | x :: js, t, t', h, hn, ht, hi => by
    have e : ∀ ns, isIn ns x.c = ns.any fun y => y == x.c := fun _ => rfl
    unfold inTime at hi ⊢
    rw [← e] at hi ⊢
    have h' := fun y hy => h y (List.mem_cons_of_mem _ hy)
    have hn' := fun y hy => hn y (List.mem_cons_of_mem _ hy)
    have hx := hn x (.head _)
    by_cases h1 : isIn ns' x.c = true
    · rw [if_pos h1]
      rw [if_pos (h x (.head _) h1)] at hi
      by_cases h2 : x.d < t + x.n
      · rw [if_pos h2] at hi; cases hi
      · rw [if_neg h2] at hi
        rw [if_neg (by omega)]
        exact inTime_mono h' hn' (by omega) hi
    · rw [if_neg h1]
      by_cases h3 : isIn ns x.c = true
      · rw [if_pos h3] at hi
        by_cases h2 : x.d < t + x.n
        · rw [if_pos h2] at hi; cases hi
        · rw [if_neg h2] at hi
          exact inTime_mono h' hn' (by omega) hi
      · rw [if_neg h3] at hi
        exact inTime_mono h' hn' ht hi
theorem filter_congr_mem {α : Type} {p q : α → Bool} : ∀ {l : List α}, (∀ x ∈ l, p x = q x) → l.filter p = l.filter q
  | [], _ => rfl
  | x :: l, h => by
    have h1 := h x (.head _)
    have h2 := filter_congr_mem (p := p) (q := q) (l := l) fun y hy => h y (.tail _ hy)
    simp only [List.filter_cons, h1, h2]
theorem filter_keys : ∀ {js : List Jb} {ks : List (Int × Str)}, ks.Sublist (js.map Jb.key) → (js.map (·.c)).Nodup → (js.filter fun x => isIn (ks.map (·.2)) x.c).map Jb.key = ks
  | [], ks, h, _ => by
    have : ks = [] := by simpa using h
    subst this; rfl
  | j :: js, ks, h, hn => by
    have hn' := List.nodup_cons.mp hn
    rw [List.map_cons] at h
    have mem : ∀ {k : List (Int × Str)}, k.Sublist (js.map Jb.key) → j.c ∉ k.map (·.2) := fun {k} hk hm => by
      obtain ⟨q, hq, e⟩ := List.mem_map.mp hm
      obtain ⟨x, hx, rfl⟩ := List.mem_map.mp (hk.subset hq)
      exact hn'.1 (List.mem_map.mpr ⟨x, hx, e⟩)
    cases h with
    | cons _ h =>
      rw [fil_neg (by rw [isIn_iff]; exact mem h)]
      exact filter_keys h hn'.2
    | cons_cons _ h =>
      rename_i k
      have hj : isIn ((Jb.key j :: k).map (·.2)) j.c = true := by rw [isIn_iff]; exact List.mem_cons_self
      rw [fil_pos hj, List.map_cons]
      congr 1
      rw [← filter_keys h hn'.2]
      congr 1
      rw [filter_keys h hn'.2]
      refine filter_congr_mem fun x hx => ?_
      have hne : x.c ≠ j.c := fun e => hn'.1 (List.mem_map.mpr ⟨x, hx, e⟩)
      show isIn (j.c :: k.map (·.2)) x.c = isIn (k.map (·.2)) x.c
      unfold isIn
      rw [List.any_cons, beq_eq_false_iff_ne.mpr (Ne.symm hne), Bool.false_or]

structure Inv (js : List Jb) (os us qs : List Pr) (ls : List (Int × Int)) (w : Int) : Prop where
  sub : (os.map Pr.key).Sublist (js.map Jb.key)
  hu : Heap' us
  hq : Heap' qs
  pu : us.Perm os
  pq : qs.Perm os
  hw : w = sumI (os.map fun x => -x.i)
  time : inTime (os.map (·.c)) js 0 = true
  dp : ∃ S : List Int, S.Pairwise (· ≤ ·) ∧ S.Perm (os.map fun x => -x.i) ∧ (∀ k ∈ ls, ∃ j : Nat, j ≤ S.length ∧ k.1 = j ∧ sumI (S.take j) ≤ k.2) ∧ ∀ j : Nat, j ≤ S.length → ((j : Int), sumI (S.take j)) ∈ ls
  cov : ∀ ns, inTime ns js 0 = true → (cnt ns js, tot ns js) ∈ ls
  fit : ∀ d, 0 ≤ d → (∀ x ∈ js, x.d ≤ d) → w ≤ d

theorem inv_nil : Inv [] [] [] [] [(0, 0)] 0 where
  sub := .slnil
  hu := heap_nil
  hq := heap_nil
  pu := .nil
  pq := .nil
  hw := rfl
  time := rfl
  dp := ⟨[], .nil, .nil, fun k hk => ⟨0, Nat.le_refl _, by rw [List.mem_singleton.mp hk]; rfl, by rw [List.mem_singleton.mp hk]; exact Int.le_refl _⟩, fun j hj => by
    have : j = 0 := Nat.le_zero.mp hj
    subst this; exact List.mem_singleton.mpr rfl⟩
  cov := fun ns _ => List.mem_singleton.mpr rfl
  fit := fun d h _ => h

theorem Inv.best {js : List Jb} {os us qs : List Pr} {ls : List (Int × Int)} {w : Int} (I : Inv js os us qs ls w) : ((os.length : Int), w) ∈ ls ∧ (∀ k ∈ ls, k.1 ≤ os.length) ∧ ∀ k ∈ ls, k.1 = os.length → w ≤ k.2 := by
  obtain ⟨S, _, hp, h1, h2⟩ := I.dp
  have hl : S.length = os.length := by have := hp.length_eq; simpa using this
  have hs : sumI S = w := by rw [I.hw, sumI_perm hp]
  refine ⟨?_, fun k hk => ?_, fun k hk he => ?_⟩
  · have := h2 S.length (Nat.le_refl _)
    rw [List.take_length, hs, hl] at this
    exact this
  · obtain ⟨j, hj, e, _⟩ := h1 k hk
    rw [e, ← hl]; exact Int.ofNat_le.mpr hj
  · obtain ⟨j, hj, e, h⟩ := h1 k hk
    have : j = S.length := by omega
    subst this
    rw [List.take_length, hs] at h
    exact h

/-- what both turns share -/
theorem Inv.turn {js : List Jb} {os us qs os' us' qs' : List Pr} {ls : List (Int × Int)} {w w' : Int} {j : Jb} {one : Pr} (I : Inv js os us qs ls w) (hi : one.i = -j.n) (hc : one.c = j.c)
    (hnd : ((js ++ [j]).map (·.c)).Nodup) (hpos : ∀ x ∈ js ++ [j], 0 ≤ x.n)
    (hs : (os'.map Pr.key).Sublist ((os ++ [one]).map Pr.key)) (a1 : Heap' us') (a2 : Heap' qs') (a3 : us'.Perm os') (a4 : qs'.Perm os') (hw : w' = sumI (os'.map fun x => -x.i)) (hwd : w' ≤ j.d)
    (dp : ∃ S : List Int, S.Pairwise (· ≤ ·) ∧ S.Perm (os'.map fun x => -x.i) ∧ (∀ k ∈ ls ++ grownK j.d j.n ls, ∃ i : Nat, i ≤ S.length ∧ k.1 = i ∧ sumI (S.take i) ≤ k.2) ∧ ∀ i : Nat, i ≤ S.length → ((i : Int), sumI (S.take i)) ∈ ls ++ grownK j.d j.n ls) :
    Inv (js ++ [j]) os' us' qs' (ls ++ grownK j.d j.n ls) w' := by
  have hnd' := List.nodup_append.mp (by simpa using hnd : (js.map (·.c) ++ [j.c]).Nodup)
  have hjn : j.c ∉ js.map (·.c) := fun hm => hnd'.2.2 _ hm _ (List.mem_singleton.mpr rfl) rfl
  have hkey : one.key = j.key := by unfold Pr.key Jb.key; rw [hi, hc]
  have hsub : (os'.map Pr.key).Sublist ((js ++ [j]).map Jb.key) := by
    refine hs.trans ?_
    rw [List.map_append, List.map_append, List.map_singleton, List.map_singleton, hkey]
    exact I.sub.append (.refl _)
  have htot : tot (os'.map (·.c)) (js ++ [j]) = w' := by
    have := filter_keys hsub hnd
    have e1 : (os'.map Pr.key).map (·.2) = os'.map (·.c) := by rw [List.map_map]; rfl
    rw [e1] at this
    unfold tot
    rw [hw]
    have e2 : ∀ l : List Jb, l.map (·.n) = (l.map Jb.key).map fun k => -k.1 := fun l => by
      rw [List.map_map]; exact List.map_congr_left fun x _ => by simp [Jb.key]
    rw [e2, this, List.map_map]
    rfl
  refine ⟨hsub, a1, a2, a3, a4, hw, ?_, dp, fun ns hns => ?_, fun d _ hd => Int.le_trans hwd (hd j (List.mem_append_right _ (.head _)))⟩
  · rw [inTime_app, Bool.and_eq_true]
    refine ⟨inTime_mono (ns := os.map (·.c)) (t := 0) (fun x hx hm => ?_) (fun x hx => hpos x (List.mem_append_left _ hx)) (Int.le_refl _) I.time, ?_⟩
    · rw [isIn_iff] at hm ⊢
      obtain ⟨y, hy, e⟩ := List.mem_map.mp hm
      obtain ⟨z, hz, ez⟩ := List.mem_map.mp (hs.subset (List.mem_map_of_mem (f := Pr.key) hy))
      have hzc : z.c = x.c := by have := congrArg Prod.snd ez; exact this.trans e
      rcases List.mem_append.mp hz with hz | hz
      · exact List.mem_map.mpr ⟨z, hz, hzc⟩
      · rw [List.mem_singleton.mp hz, hc] at hzc
        exact absurd (List.mem_map.mpr ⟨x, hx, hzc.symm⟩) hjn
    · by_cases hj : isIn (os'.map (·.c)) j.c = true
      · rw [if_pos hj]
        have : tot (os'.map (·.c)) (js ++ [j]) = tot (os'.map (·.c)) js + j.n := by
          unfold tot; rw [List.filter_append, fil_pos hj, List.map_append, sumI_app]; simp [sumI]
        exact decide_eq_true (by omega)
      · rw [if_neg hj]
  · rw [inTime_app, Bool.and_eq_true] at hns
    have hin := I.cov ns hns.1
    by_cases hj : isIn ns j.c = true
    · have h2 := hns.2
      rw [if_pos hj, decide_eq_true_eq, Int.zero_add] at h2
      have e1 : tot ns (js ++ [j]) = tot ns js + j.n := by unfold tot; rw [List.filter_append, fil_pos hj, List.map_append, sumI_app]; simp [sumI]
      have e2 : cnt ns (js ++ [j]) = cnt ns js + 1 := by unfold cnt; rw [List.filter_append, fil_pos hj]; simp
      rw [e1, e2]
      refine List.mem_append_right _ (List.mem_map.mpr ⟨_, List.mem_filter.mpr ⟨hin, decide_eq_true h2⟩, rfl⟩)
    · have e1 : tot ns (js ++ [j]) = tot ns js := by unfold tot; rw [List.filter_append, fil_neg hj]; simp
      have e2 : cnt ns (js ++ [j]) = cnt ns js := by unfold cnt; rw [List.filter_append, fil_neg hj]; simp
      rw [e1, e2]
      exact List.mem_append_left _ hin

theorem Inv.keep {js : List Jb} {os us qs us' qs' : List Pr} {ls : List (Int × Int)} {w : Int} {j : Jb} {one : Pr} (I : Inv js os us qs ls w) (hi : one.i = -j.n) (hc : one.c = j.c)
    (hnd : ((js ++ [j]).map (·.c)).Nodup) (hpos : ∀ x ∈ js ++ [j], 0 ≤ x.n) (a1 : Heap' us') (a2 : Heap' qs') (a3 : us'.Perm (os ++ [one])) (a4 : qs'.Perm (os ++ [one])) (hle : w + j.n ≤ j.d) :
    Inv (js ++ [j]) (os ++ [one]) us' qs' (ls ++ grownK j.d j.n ls) (w + j.n) := by
  have hw' : w + j.n = sumI ((os ++ [one]).map fun x => -x.i) := by
    rw [List.map_append, sumI_app, ← I.hw]; simp [sumI, hi]
  refine I.turn hi hc hnd hpos (.refl _) a1 a2 a3 a4 hw' hle ?_
  obtain ⟨S, s1, s2, s3, s4⟩ := I.dp
  have hw := I.hw
  have hSw : sumI S = w := by rw [hw, sumI_perm s2]
  have hS0 : ∀ x ∈ S, 0 ≤ x := fun x hx => by
    obtain ⟨y, hy, rfl⟩ := List.mem_map.mp (s2.mem_iff.mp hx)
    obtain ⟨z, hz, e⟩ := List.mem_map.mp (I.sub.subset (List.mem_map_of_mem (f := Pr.key) hy))
    have := hpos z (List.mem_append_left _ hz)
    have : -z.n = y.i := congrArg Prod.fst e
    omega
  refine ⟨ins j.n S, ins_sorted _ _ s1, ?_, fun k hk => ?_, fun i hil => ?_⟩
  · refine (ins_perm _ _).trans ?_
    rw [List.map_append, List.map_singleton]
    have : - one.i = j.n := by omega
    rw [this]
    exact (s2.cons _).trans (List.perm_append_singleton _ _).symm
  · rw [ins_len]
    rcases List.mem_append.mp hk with hk | hk
    · obtain ⟨i, hil, e, h⟩ := s3 k hk
      exact ⟨i, by omega, e, Int.le_trans (ins_up _ S i s1 hil) h⟩
    · obtain ⟨k', hk', rfl⟩ := List.mem_map.mp hk
      obtain ⟨hk', _⟩ := List.mem_filter.mp hk'
      obtain ⟨i, hil, e, h⟩ := s3 k' hk'
      refine ⟨i + 1, by omega, by simp only [e]; rfl, ?_⟩
      have := ins_low j.n S i s1 hil
      show sumI _ ≤ k'.2 + j.n
      omega
  · rw [ins_len] at hil
    cases i with
    | zero => exact List.mem_append_left _ (by simpa using s4 0 (Nat.zero_le _))
    | succ i =>
      rcases ins_or j.n S i (by omega) with ⟨h1, h2⟩ | h2
      · rw [h2]; exact List.mem_append_left _ (s4 (i + 1) h1)
      · rw [h2]
        have h3 := take_le S i hS0
        exact List.mem_append_right _ (List.mem_map.mpr ⟨_, List.mem_filter.mpr ⟨s4 i (by omega), decide_eq_true (by show sumI (S.take i) + j.n ≤ j.d; omega)⟩, rfl⟩)

theorem Inv.drop {js : List Jb} {os us qs us' qs' pre post : List Pr} {ls : List (Int × Int)} {w : Int} {j : Jb} {one fell : Pr} (I : Inv js os us qs ls w) (hi : one.i = -j.n) (hc : one.c = j.c)
    (hnd : ((js ++ [j]).map (·.c)).Nodup) (hpos : ∀ x ∈ js ++ [j], 0 ≤ x.n) (hdue : ∀ x ∈ js, x.d ≤ j.d) (hd0 : 0 ≤ j.d) (hsp : os ++ [one] = pre ++ fell :: post) (hf : ∀ x ∈ os ++ [one], fell.i ≤ x.i)
    (a1 : Heap' us') (a2 : Heap' qs') (a3 : us'.Perm (pre ++ post)) (a4 : qs'.Perm (pre ++ post)) (hgt : j.d < w + j.n) :
    Inv (js ++ [j]) (pre ++ post) us' qs' (ls ++ grownK j.d j.n ls) (w + j.n + fell.i) := by
  have hwj := I.fit j.d hd0 hdue
  have hfi : fell.i ≤ -j.n := by rw [← hi]; exact hf one (List.mem_append_right _ (.head _))
  have hlens : ((os ++ [one]).map fun x => -x.i).Perm (-fell.i :: (pre ++ post).map fun x => -x.i) := by
    rw [hsp, List.map_append, List.map_cons, List.map_append]
    exact List.perm_middle
  have hw' : w + j.n + fell.i = sumI ((pre ++ post).map fun x => -x.i) := by
    have e1 : w + j.n = sumI ((os ++ [one]).map fun x => -x.i) := by
      rw [List.map_append, sumI_app, ← I.hw]; simp [sumI, hi]
    rw [e1, sumI_perm hlens]; simp only [sumI]; omega
  have hsub : ((pre ++ post).map Pr.key).Sublist ((os ++ [one]).map Pr.key) := by
    rw [hsp]
    exact ((List.Sublist.refl pre).append (List.sublist_cons_self fell post)).map _
  refine I.turn hi hc hnd hpos hsub a1 a2 a3 a4 hw' (by omega) ?_
  obtain ⟨S, s1, s2, s3, s4⟩ := I.dp
  have hw := I.hw
  have hSw : sumI S = w := by rw [hw, sumI_perm s2]
  have hS0 : ∀ x ∈ S, 0 ≤ x := fun x hx => by
    obtain ⟨y, hy, rfl⟩ := List.mem_map.mp (s2.mem_iff.mp hx)
    obtain ⟨z, hz, e⟩ := List.mem_map.mp (I.sub.subset (List.mem_map_of_mem (f := Pr.key) hy))
    have := hpos z (List.mem_append_left _ hz)
    have : -z.n = y.i := congrArg Prod.fst e
    omega
  have hip : (ins j.n S).Perm (-fell.i :: (pre ++ post).map fun x => -x.i) := by
    refine (ins_perm _ _).trans (List.Perm.trans ?_ hlens)
    rw [List.map_append, List.map_singleton]
    have : - one.i = j.n := by omega
    rw [this]
    exact (s2.cons _).trans (List.perm_append_singleton _ _).symm
  have hne : ins j.n S ≠ [] := fun e => by have := ins_len j.n S; rw [e] at this; simp at this
  have hsplit := List.dropLast_concat_getLast hne
  have hlast : (ins j.n S).getLast hne = -fell.i := by
    have h1 : (ins j.n S).getLast hne ∈ -fell.i :: (pre ++ post).map fun x => -x.i := hip.mem_iff.mp (List.getLast_mem hne)
    have h2 : (ins j.n S).getLast hne ≤ -fell.i := by
      have h1' := hlens.symm.mem_iff.mp h1
      obtain ⟨x, hx, e⟩ := List.mem_map.mp h1'
      have := hf x hx
      omega
    have h3 : -fell.i ∈ (ins j.n S).dropLast ++ [(ins j.n S).getLast hne] := by rw [hsplit]; exact hip.symm.mem_iff.mp (.head _)
    have hsr := ins_sorted j.n S s1
    rw [← hsplit] at hsr
    rcases List.mem_append.mp h3 with h3 | h3
    · have := (List.pairwise_append.mp hsr).2.2 _ h3 _ (List.mem_singleton.mpr rfl)
      omega
    · exact (List.mem_singleton.mp h3).symm
  have hdl : (ins j.n S).dropLast.length = S.length := by rw [List.length_dropLast, ins_len]; rfl
  have htk : ∀ i, i ≤ S.length → (ins j.n S).dropLast.take i = (ins j.n S).take i := fun i hi => by
    rw [List.dropLast_eq_take, List.take_take, ins_len, Nat.min_eq_left (by omega)]
  refine ⟨(ins j.n S).dropLast, ?_, ?_, fun k hk => ?_, fun i hil => ?_⟩
  · exact (ins_sorted j.n S s1).sublist (List.dropLast_sublist _)
  · refine List.Perm.cons_inv (a := -fell.i) ?_
    refine List.Perm.trans ?_ hip
    have := hsplit
    rw [hlast] at this
    exact (List.perm_append_singleton _ _).symm.trans (by rw [this])
  · rw [hdl]
    rcases List.mem_append.mp hk with hk | hk
    · obtain ⟨i, hil, e, h⟩ := s3 k hk
      exact ⟨i, hil, e, by rw [htk i hil]; exact Int.le_trans (ins_up _ S i s1 hil) h⟩
    · obtain ⟨k', hk', rfl⟩ := List.mem_map.mp hk
      obtain ⟨hk', hle⟩ := List.mem_filter.mp hk'
      have hle := of_decide_eq_true hle
      obtain ⟨i, hil, e, h⟩ := s3 k' hk'
      have hlt : i < S.length := by
        rcases Nat.lt_or_ge i S.length with h1 | h1
        · exact h1
        · have : i = S.length := by omega
          subst this
          rw [List.take_length, hSw] at h
          omega
      refine ⟨i + 1, hlt, by simp only [e]; rfl, ?_⟩
      rw [htk _ hlt]
      have h5 := ins_low j.n S i s1 hil
      show sumI ((ins j.n S).take (i + 1)) ≤ k'.2 + j.n
      exact Int.le_trans h5 (by omega)
  · rw [hdl] at hil
    rw [htk i hil]
    cases i with
    | zero => exact List.mem_append_left _ (by simpa using s4 0 (Nat.zero_le _))
    | succ i =>
      rcases ins_or j.n S i (by omega) with ⟨h1, h2⟩ | h2
      · rw [h2]; exact List.mem_append_left _ (s4 (i + 1) h1)
      · have h4 := ins_up j.n S (i + 1) s1 hil
        have h3 := take_le S (i + 1) hS0
        rw [h2]
        exact List.mem_append_right _ (List.mem_map.mpr ⟨_, List.mem_filter.mpr ⟨s4 i (by omega), decide_eq_true (by show sumI (S.take i) + j.n ≤ j.d; omega)⟩, rfl⟩)

theorem leastGo_spec : ∀ (xs : List Pr) (f : Pr), leastGo f xs ∈ f :: xs ∧ ∀ y ∈ f :: xs, le (leastGo f xs) y
  | [], f => ⟨.head _, fun y hy => by rw [List.mem_singleton.mp hy]; exact le_refl _⟩
  | x :: r, f => by
    unfold leastGo
    by_cases h : x.lt f = true
    · rw [if_pos h]
      obtain ⟨a, b⟩ := leastGo_spec r x
      refine ⟨.tail _ a, fun y hy => ?_⟩
      rcases List.mem_cons.mp hy with rfl | hy
      · exact le_trans (b x (.head _)) (lt_asymm h)
      · exact b y hy
    · rw [if_neg h]
      obtain ⟨a, b⟩ := leastGo_spec r f
      refine ⟨?_, fun y hy => ?_⟩
      · rcases List.mem_cons.mp a with e | a
        · rw [e]; exact .head _
        · exact .tail _ (.tail _ a)
      · rcases List.mem_cons.mp hy with rfl | hy
        · exact b _ (.head _)
        · rcases List.mem_cons.mp hy with rfl | hy
          · exact le_trans (b f (.head _)) (le_of h)
          · exact b y (.tail _ hy)
theorem least_of {xs : List Pr} (h : 0 < xs.length) : least xs ∈ xs ∧ ∀ y ∈ xs, le (least xs) y := by
  cases xs with
  | nil => cases h
  | cons x r =>
    obtain ⟨a, b⟩ := leastGo_spec (x :: r) x
    refine ⟨?_, fun y hy => b y (.tail _ hy)⟩
    rcases List.mem_cons.mp a with e | a
    · show leastGo x (x :: r) ∈ _; rw [e]; exact .head _
    · exact a
theorem le_i {x y : Pr} (h : le x y) : x.i ≤ y.i := by
  have h' : ¬ y.lt x = true := by rw [h]; exact Bool.false_ne_true
  rw [lt_iff] at h'
  rcases Int.lt_or_le y.i x.i with h1 | h1
  · exact absurd (.inl h1) h'
  · exact h1
/-- two least ones of a list with names all different are one -/
theorem least_one {xs : List Pr} (hn : (xs.map (·.c)).Nodup) {a b : Pr} (ha : a ∈ xs) (hb : b ∈ xs) (h1 : le a b) (h2 : le b a) : a = b := by
  have hc := (le_anti h1 h2).2
  clear h1 h2
  have hmap : ∀ {x : Pr} {r : List Pr}, x ∈ r → x.c ∈ r.map (·.c) := fun h => List.mem_map_of_mem (f := fun x : Pr => x.c) h
  induction xs with
  | nil => cases ha
  | cons x r ih =>
    have hn' := List.nodup_cons.mp hn
    rcases List.mem_cons.mp ha with e1 | ha1 <;> rcases List.mem_cons.mp hb with e2 | hb1
    · rw [e1, e2]
    · exact absurd (by show x.c ∈ _; rw [← e1, hc]; exact hmap hb1) hn'.1
    · exact absurd (by show x.c ∈ _; rw [← e2, ← hc]; exact hmap ha1) hn'.1
    · exact ih hn'.2 ha1 hb1
theorem names_nodup {os : List Pr} {js : List Jb} (h : (os.map Pr.key).Sublist (js.map Jb.key)) (hn : (js.map (·.c)).Nodup) : (os.map (·.c)).Nodup := by
  have e1 : os.map (·.c) = (os.map Pr.key).map (·.2) := by rw [List.map_map]; rfl
  have e2 : js.map (·.c) = (js.map Jb.key).map (·.2) := by rw [List.map_map]; rfl
  rw [e1]; rw [e2] at hn
  exact hn.sublist (h.map _)
theorem Inv.sub1 {js : List Jb} {os us qs : List Pr} {ls : List (Int × Int)} {w : Int} {j : Jb} {one : Pr} (I : Inv js os us qs ls w) (hi : one.i = -j.n) (hc : one.c = j.c) : ((os ++ [one]).map Pr.key).Sublist ((js ++ [j]).map Jb.key) := by
  have hkey : one.key = j.key := by unfold Pr.key Jb.key; rw [hi, hc]
  rw [List.map_append, List.map_append, List.map_singleton, List.map_singleton, hkey]
  exact I.sub.append (.refl _)
theorem split_names {os pre post : List Pr} {f : Pr} (hn : (os.map (·.c)).Nodup) (h : os = pre ++ f :: post) : (∀ e ∈ pre, e.c ≠ f.c) ∧ ∀ e ∈ post, e.c ≠ f.c := by
  rw [h, List.map_append, List.map_cons] at hn
  obtain ⟨_, h2, h3⟩ := List.nodup_append.mp hn
  obtain ⟨h4, _⟩ := List.nodup_cons.mp h2
  refine ⟨fun e he => h3 _ (List.mem_map_of_mem (f := fun x : Pr => x.c) he) _ (.head _), fun e he q => h4 ?_⟩
  rw [← q]; exact List.mem_map_of_mem (f := fun x : Pr => x.c) he
theorem take_snoc {α : Type} {l : List α} {i : Nat} {x : α} (h : l[i]? = some x) : l.take (i + 1) = l.take i ++ [x] := by rw [List.take_add_one, h]; rfl
theorem due_take {js : List Jb} {i : Nat} {j : Jb} (h : js[i]? = some j) (hd : js.Pairwise fun x y => x.d ≤ y.d) : ∀ x ∈ js.take i, x.d ≤ j.d := by
  have e := List.take_append_drop i js
  rw [drop_of h] at e
  rw [← e] at hd
  exact fun x hx => (List.pairwise_append.mp hd).2.2 x hx j (.head _)
end

theorem pop_law {w : World} {p : Program} {loose : List Str} {mean : ExcName → Option Value} {mg mb : Str → Option Value} {A₀ : Around} {base : Heap} {outer : List Env} {env : Env} {h₀ : Heap} {L : Addr} {m : Str → Option Value}
    {s : Shared} {news : List (Addr × Obj)} {g : Obj → List (Addr × Obj)} {dp un : Nat} {gd : Option (List Code)} {l : Addr} {n : Nat} {xs : List Pr} {Q E' : Value → Shared → Prop}
    (B : Below A₀ base outer h₀) (F : Fr h₀ L s.heap m) (X : (Mine.lawTop.heap_39 w.params).In h₀) (N : News h₀ L s.heap news) (T : Top p loose mean mg mb h₀) (hke : env.scope.kind = .function) (hf : env.frame = some L)
    (U : UpdF l (prs xs n) news g) (hx : ∀ e ∈ xs, (e.a, e.obj) ∈ news) (hz : xs.length ≤ 90) (hdp : dp < 460) (hun : un < 460) (hh : Heap' xs) (hne : 0 < xs.length)
    (ret : ∀ f ys h' tk', Heap' ys → (f :: ys).Perm xs → (∀ x ∈ xs, le f x) → Fr h₀ L h' m → News h₀ L h' (g (prs ys (n + 1))) → Q (.ref f.a) { s with heap := h', toks := tk' }) :
    wpAny (model PySem.Challenge.rw_ir0004_01.row.prog w) (Ar dp un gd env outer) (call (.ref 28) [.ref l]) Q E' s := by
  obtain ⟨us, z, rfl⟩ : ∃ us z, xs = us ++ [z] := ⟨xs.dropLast, xs.getLast (List.ne_nil_of_length_pos hne), (List.dropLast_concat_getLast _).symm⟩
  rw [List.length_append, List.length_singleton] at hz
  refine pop_at B F X N T hke hf U (fun e he => hx e (List.mem_append_left _ he)) (hx z (List.mem_append_right _ (.head _))) (by omega) hdp hun (fun h0 h' tk' F' N' => ?_) (fun f h0 h' tk' F' N' => ?_)
  · subst h0
    exact ret z [] h' tk' heap_nil (.refl _) (fun x hx => by rw [List.mem_singleton.mp hx]; exact le_refl _) F' N'
  · obtain ⟨a, b, c⟩ := pop_heap hh h0
    exact ret f _ h' tk' a b c F' N'
theorem pushpop_law {w : World} {p : Program} {loose : List Str} {mean : ExcName → Option Value} {mg mb : Str → Option Value} {A₀ : Around} {base : Heap} {outer : List Env} {env : Env} {h₀ : Heap} {L : Addr} {m : Str → Option Value}
    {s : Shared} {news : List (Addr × Obj)} {g : Obj → List (Addr × Obj)} {dp un : Nat} {gd : Option (List Code)} {l : Addr} {n : Nat} {xs : List Pr} {Q E' : Value → Shared → Prop} {e : Pr}
    (B : Below A₀ base outer h₀) (F : Fr h₀ L s.heap m) (X : (Mine.lawTop.heap_39 w.params).In h₀) (N : News h₀ L s.heap news) (T : Top p loose mean mg mb h₀) (hke : env.scope.kind = .function) (hf : env.frame = some L)
    (U : UpdF l (prs xs n) news g) (hx : ∀ e ∈ xs, (e.a, e.obj) ∈ news) (he : (e.a, e.obj) ∈ news) (hz : xs.length ≤ 90) (hdp : dp < 460) (hun : un < 460) (hh : Heap' xs)
    (ret : ∀ f ys h' tk', Heap' ys → (f :: ys).Perm (e :: xs) → (∀ x ∈ e :: xs, le f x) → Fr h₀ L h' m → News h₀ L h' (g (prs ys n)) → Q (.ref f.a) { s with heap := h', toks := tk' }) :
    wpAny (model PySem.Challenge.rw_ir0004_01.row.prog w) (Ar dp un gd env outer) (call (.ref 35) [.ref l, .ref e.a]) Q E' s := by
  refine pushpop_at B F X N T hke hf U hx he hz hdp hun (fun h0 h' tk' F' N' => ?_) (fun f h0 hl h' tk' F' N' => ?_)
  · refine ret e xs h' tk' hh (.refl _) (fun x hx => ?_) F' N'
    rcases List.mem_cons.mp hx with rfl | hx
    · exact le_refl _
    · have hpos : 0 < xs.length := List.length_pos_of_mem hx
      have hr := List.getElem?_eq_getElem hpos
      exact le_trans (h0 _ hr) ((root_least hh hr).2 x hx)
  · obtain ⟨a, b, c⟩ := pushpop_heap (e := e) hh h0
    refine ret f _ h' tk' a b (fun x hx => ?_) F' N'
    rcases List.mem_cons.mp hx with rfl | hx
    · exact lt_asymm hl
    · exact c x hx


structure KS where
  o : Addr
  u : Addr
  q : Addr
  ll : Addr
  os : List Pr
  us : List Pr
  qs : List Pr
  n1 : Nat
  n2 : Nat
  n3 : Nat
  n4 : Nat
  ls : List Lot
  w : Int
  tw : Tok
  tl : List (Addr × Obj)
abbrev KS.led (c : KS) : List (Addr × Obj) := (c.o, prs c.os c.n1) :: (c.u, prs c.us c.n2) :: (c.q, prs c.qs c.n3) :: (c.ll, lots c.ls c.n4) :: c.tl
abbrev KS.ps (c : KS) : List (Str × Value) := [(Str.ofString "pushed", .ref c.u), (Str.ofString "popped", .ref c.q), (Str.ofString "own", .ref c.o), (Str.ofString "lots", .ref c.ll), (Str.ofString "whole", .int c.w c.tw)]
structure KInv (js : List Jb) (news : List (Addr × Obj)) (i : Nat) (c : KS) : Prop where
  d1 : @Ne Nat c.o c.u
  d2 : @Ne Nat c.o c.q
  d3 : @Ne Nat c.o c.ll
  d4 : @Ne Nat c.u c.q
  d5 : @Ne Nat c.u c.ll
  d6 : @Ne Nat c.q c.ll
  t1 : ∀ p ∈ c.tl, p.1 ≠ c.o
  t2 : ∀ p ∈ c.tl, p.1 ≠ c.u
  t3 : ∀ p ∈ c.tl, p.1 ≠ c.q
  t4 : ∀ p ∈ c.tl, p.1 ≠ c.ll
  nw : ∀ p ∈ news, p ∈ c.tl
  ms : ∀ e ∈ c.os, (e.a, e.obj) ∈ c.tl
  ml : ∀ e ∈ c.ls, (e.a, e.obj) ∈ c.tl
  sz : c.ls.length ≤ 2 ^ i
  inv : Inv (js.take i) c.os c.us c.qs (c.ls.map Lot.key) c.w

local macro_rules | `(tactic| walk_at "call ref") => `(tactic| (k_here; (with_reducible show wpAny _ _ (call (Value.ref 21) _) _ _ _); k_dflt (refine' push_at ?B ?F ?X ?N ?T ?e ?f ?U ?x ?i0 ?z ?d ?u ?_; (case B => k_asm); (case F => k_asm); (case X => k_asm); (case N => k_asm); (case T => k_asm); (case e => first | assumption | exact rfl); (case f => first | assumption | exact rfl); (case U => k_updF); (case x => walk_at "MY memN"); (case i0 => k_mem); (case z => walk_at "MY idx"); (case d => walk_at "MY room"); (case u => walk_at "MY room"); k_whole); intro h' tk' F' N'; (try dsimp only at N'); (try k_sweep); (try dsimp only)))
local macro_rules | `(tactic| walk_at "call ref") => `(tactic| (k_here; (with_reducible show wpAny _ _ (call (Value.ref 68) _) _ _ _); k_dflt (refine' least_spec ?B ?F ?X ?N ?T ?e ?f ?m ?x ?k ?z ?d ?u ?_; (case B => k_asm); (case F => k_asm); (case X => k_asm); (case N => k_asm); (case T => k_asm); (case e => first | assumption | exact rfl); (case f => first | assumption | exact rfl); (case m => k_mem); (case x => walk_at "MY memN"); (case k => walk_at "MY idx"); (case z => walk_at "MY idx"); (case d => walk_at "MY room"); (case u => walk_at "MY room"); k_whole); intro h' tk' F' N'; (try dsimp only at N'); (try k_sweep); (try dsimp only)))
local macro_rules | `(tactic| walk_at "call ref") => `(tactic| (k_here; (with_reducible show wpAny _ _ (call (Value.ref 78) _) _ _ _); k_dflt (refine' best_spec ?B ?F ?X ?N ?T ?e ?f ?m ?x ?z ?d ?u ?b1 ?b2 ?b3 ?_; (case B => k_asm); (case F => k_asm); (case X => k_asm); (case N => k_asm); (case T => k_asm); (case e => first | assumption | exact rfl); (case f => first | assumption | exact rfl); (case m => k_mem); (case x => assumption); (case z => walk_at "MY idx"); (case d => walk_at "MY room"); (case u => walk_at "MY room"); (case b1 => assumption); (case b2 => assumption); (case b3 => assumption); k_whole); intro h' tk' F' N'; (try dsimp only at N'); (try k_sweep); (try dsimp only)))
local macro_rules | `(tactic| walk_at "compareOp NotEq ref ref") => `(tactic| (k_here; (with_reducible show wpAny _ _ (compareOp CmpOp.NotEq (Value.ref _) (Value.ref _)) _ _ _); k_dflt (refine' pr_ne_same ?u ?N ?m ?c ?_; (case u => walk_at "MY units"); (case N => k_asm); (case m => k_mem); (case c => assumption); k_whole)))
theorem kept_spec {w : World} {p : Program} {loose : List Str} {mean : ExcName → Option Value} {mg mb : Str → Option Value} {A₀ : Around} {base : Heap} {outer : List Env} {env : Env} {h₀ : Heap} {L : Addr} {m : Str → Option Value}
    {s : Shared} {news : List (Addr × Obj)} {dp un : Nat} {gd : Option (List Code)} {Q E' : Value → Shared → Prop} {l : Addr} {n : Nat} {js : List Jb}
    (B : Below A₀ base outer h₀) (F : Fr h₀ L s.heap m) (X : (Mine.lawTop.heap_39 w.params).In h₀) (N : News h₀ L s.heap news) (T : Top p loose mean mg mb h₀) (hke : env.scope.kind = .function) (hf : env.frame = some L)
    (hm : (l, jbs js n) ∈ news) (hx : ∀ e ∈ js, (e.a, e.obj) ∈ news) (hz : js.length ≤ 7) (hdp : dp < 430) (hun : un < 430)
    (hnd : (js.map (·.c)).Nodup) (hpos : ∀ x ∈ js, 0 ≤ x.n) (hdue : js.Pairwise fun x y => x.d ≤ y.d) (hd0 : ∀ x ∈ js, 0 ≤ x.d) (hok : ∀ x ∈ js, PyData.strOk x.c = true)
    (ret : ∀ R o u q os us qs n1 n2 n3 ks wv h' tk' nx, Fr h₀ L h' m → News h₀ L h' ((R, { cls := .type "tuple", data := .seq #[.ref o, .ref u, .ref q] }) :: (o, prs os n1) :: (u, prs us n2) :: (q, prs qs n3) :: nx) →
      @Ne Nat o u → @Ne Nat o q → @Ne Nat u q → @LT.lt Nat _ o R → @LT.lt Nat _ u R → @LT.lt Nat _ q R → (∀ p ∈ nx, p.1 ≠ o) → (∀ p ∈ nx, p.1 ≠ u) → (∀ p ∈ nx, p.1 ≠ q) → (∀ p ∈ nx, p.1 ≠ R) → (∀ p ∈ news, p ∈ nx) → (∀ e ∈ os, (e.a, e.obj) ∈ nx) →
      Inv js os us qs ks wv → Q (.ref R) { s with heap := h', toks := tk' }) :
    wpAny (model PySem.Challenge.rw_ir0004_01.row.prog w) (Ar dp un gd env outer) (call (.ref 92) [.ref l]) Q E' s := by
  revert X; k_fill; intro X
  refine wpAny_call ?_
  k_dflt (walk_at "MY enter")
  walk_at "MY steps"
  refine go_on ?_
  refine wpAny_For ?_
  walk_at "MY steps"
  refine go_on ?_
  rename Fr _ _ _ _ => F1; rename News _ _ _ _ => N1
  rename_i tk1 u hA lA q hB lB o hC lC D1 hD lD ll hE lE D2 hF lF _ _ _ _ _ _
  obtain ⟨e1, e1'⟩ := lB
  obtain ⟨e2, e3, e3'⟩ := lC
  obtain ⟨e4, e5, e6, e6'⟩ := lD
  obtain ⟨e7, e8, e9, e10, e10'⟩ := lE
  obtain ⟨e11, e12, e13, e14, e15, e15'⟩ := lF
  have lt1 := kst_ltOf e1'
  have lt2 := kst_ltOf e3'
  have lt3 := kst_ltOf e6'
  have lt4 := kst_ltOf e10'
  refine' for_state (σ := KS) (vs := js.map Jb.v) (nn := n) KS.led KS.ps [Str.ofString "due", Str.ofString "name", Str.ofString "length", Str.ofString "one", Str.ofString "fell"] (KInv js news)
    ⟨o, u, q, ll, [], [], [], 0, 0, 0, 0, [⟨D1, 0, tk1, 0, tk1 + 1⟩], 0, tk1 + 1 + 1, (D1, Lot.obj ⟨D1, 0, tk1, 0, tk1 + 1⟩) :: news⟩ rfl F1 N1 ?hn ?hk ?hp ?keep ?turn ?done ?hE
  case hE => passes_own
  case hn => 
    intro p hp
    rcases List.mem_cons.mp hp with rfl | hp; · k_mem
    rcases List.mem_cons.mp hp with rfl | hp; · k_mem
    rcases List.mem_cons.mp hp with rfl | hp; · k_mem
    rcases List.mem_cons.mp hp with rfl | hp; · k_mem
    rcases List.mem_cons.mp hp with rfl | hp; · k_mem
    k_mem
  case hk => 
    intro p hp
    rcases List.mem_cons.mp hp with rfl | hp; · rfl
    rcases List.mem_cons.mp hp with rfl | hp; · rfl
    rcases List.mem_cons.mp hp with rfl | hp; · rfl
    rcases List.mem_cons.mp hp with rfl | hp; · rfl
    rcases List.mem_cons.mp hp with rfl | hp; · rfl
    cases hp
  case hp => 
    have al : ∀ x : Nat, (∀ p ∈ news, p.1 < x) → @Ne Nat D1 x → ∀ p ∈ (D1, Lot.obj ⟨D1, 0, tk1, 0, tk1 + 1⟩) :: news, p.1 ≠ x := fun x h h2 p hp => by
      rcases List.mem_cons.mp hp with rfl | hp
      · exact h2
      · exact Nat.ne_of_lt (h p hp)
    refine ⟨Nat.ne_of_gt e3, Nat.ne_of_gt e2, Nat.ne_of_lt e8, Nat.ne_of_lt e1, Nat.ne_of_lt e10, Nat.ne_of_lt e9, al o lt2 (Nat.ne_of_gt e4), al u lA (Nat.ne_of_gt e6), al q lt1 (Nat.ne_of_gt e5), al ll lt4 (Nat.ne_of_lt e7), fun p hp => .tail _ hp, (fun e he => nomatch he), fun e he => ?_, by simp, inv_nil⟩
    rw [List.mem_singleton.mp he]; exact .head _
  case keep =>
    intro i c K
    exact .tail _ (.tail _ (.tail _ (.tail _ (K.nw _ hm))))
  case done =>
    intro c uu h2 tk2 K F2 N2
    obtain ⟨d1, d2, d3, d4, d5, d6, t1, t2, t3, t4, nw, ms, ml, sz, inv⟩ := K
    obtain ⟨co, cu, cq, cl, os, us, qs, n1, n2, n3, n4, ls, cw, ctw, tl⟩ := c
    dsimp only [kstB, KS.led, KS.ps] at F2 N2 d1 d2 d3 d4 d5 d6 t1 t2 t3 t4 nw ms ml sz inv
    rw [List.length_map, List.take_length] at inv
    (try k_fold)
    walk_at "MY steps"
    refine go_on ?_
    rename Fr _ _ _ _ => F3; rename News _ _ _ _ => N3; rename Addr => R
    rename (co < _ ∧ _) => hR
    obtain ⟨y1, y2, y3, y4, y5⟩ := hR
    have y6 := kst_ltOf y5
    refine leaveK_ F3 (news' := (R, { cls := .type "tuple", data := .seq #[.ref co, .ref cu, .ref cq] }) :: (co, prs os n1) :: (cu, prs us n2) :: (cq, prs qs n3) :: tl) (fun p hp => ?_) fun F5 N5 => ret R co cu cq os us qs n1 n2 n3 (ls.map Lot.key) cw _ _ tl F5 N5 d1 d2 d4 y1 y2 y3 t1 t2 t3 (fun p hp => Nat.ne_of_lt (y6 p hp)) nw ms inv
    rcases List.mem_cons.mp hp with rfl | hp; · exact N3 _ (by k_mem)
    rcases List.mem_cons.mp hp with rfl | hp; · exact N3 _ (by k_mem)
    rcases List.mem_cons.mp hp with rfl | hp; · exact N3 _ (by k_mem)
    rcases List.mem_cons.mp hp with rfl | hp; · exact N3 _ (by k_mem)
    exact N3 _ (by k_mem)
  case turn =>
    intro i v c uu h2 tk2 It io hv K ho F2 N2
    obtain ⟨j, hji, rfl⟩ := jb_of hv
    have hjm : j ∈ js := List.mem_of_getElem? hji
    obtain ⟨d1, d2, d3, d4, d5, d6, t1, t2, t3, t4, nw, ms, ml, sz, inv⟩ := K
    have hjr := nw _ (hx j hjm)
    obtain ⟨co, cu, cq, cl, os, us, qs, n1, n2, n3, n4, ls, cw, ctw, tl⟩ := c
    dsimp only [kstB, KS.led, KS.ps] at F2 N2 d1 d2 d3 d4 d5 d6 t1 t2 t3 t4 nw ms ml sz inv hjr ho
    (try k_fold)
    walk_at "MY steps"
    rename Fr _ _ _ _ => F3; rename News _ _ _ _ => N3; 
    rename_i tk3 D' hD1 hD hD2
    rename (It < _ ∧ _) => hD
    obtain ⟨one, rfl, hi1, hti, hc1, htc⟩ : ∃ one : Pr, one.a = D' ∧ one.i = -j.n ∧ one.ti = tk3 ∧ one.c = j.c ∧ one.tc = j.tc := ⟨⟨D', -j.n, tk3, j.c, j.tc⟩, rfl, rfl, rfl, rfl, rfl⟩
    obtain ⟨g1, g2, g3, g4, g5, g6⟩ := hD
    have g6' := kst_ltOf g6
    have io1 : @Ne Nat co It := ho _ (.head _)
    have io2 : @Ne Nat cu It := ho _ (.tail _ (.head _))
    have io3 : @Ne Nat cq It := ho _ (.tail _ (.tail _ (.head _)))
    have io4 : @Ne Nat cl It := ho _ (.tail _ (.tail _ (.tail _ (.head _))))
    obtain ⟨tl2, htl2⟩ : ∃ tl2, tl2 = (one.a, one.obj) :: tl := ⟨_, rfl⟩
    have al : ∀ x : Nat, @LT.lt Nat _ x one.a → (∀ p ∈ tl, p.1 ≠ x) → ∀ p ∈ tl2, p.1 ≠ x := fun x h h3 p hp => by
      rw [htl2] at hp
      rcases List.mem_cons.mp hp with rfl | hp
      · exact Nat.ne_of_gt h
      · exact h3 p hp
    have s1 := al co g2 t1
    have s2 := al cu g3 t2
    have s3 := al cq g4 t3
    have s4 := al cl g5 t4
    have s5 := al It g1 fun p hp => ho p (.tail _ (.tail _ (.tail _ (.tail _ hp))))
    have tsub : ∀ p ∈ tl, p ∈ tl2 := fun p hp => htl2 ▸ .tail _ hp
    have hone : (one.a, one.obj) ∈ tl2 := htl2 ▸ .head _
    have hls : ls.length ≤ 64 := Nat.le_trans sz (Nat.pow_le_pow_right (by decide) (by have := (List.getElem?_eq_some_iff.mp hji).1; omega : i ≤ 6))
    have N4 : News _ _ _ ((co, prs os n1) :: (cu, prs us n2) :: (cq, prs qs n3) :: (cl, lots ls n4) :: (It, io) :: tl2) := nsub N3 fun p hp => by
      rw [← hi1, ← hti, ← hc1, ← htc]
      rcases List.mem_cons.mp hp with rfl | hp; · k_mem
      rcases List.mem_cons.mp hp with rfl | hp; · k_mem
      rcases List.mem_cons.mp hp with rfl | hp; · k_mem
      rcases List.mem_cons.mp hp with rfl | hp; · k_mem
      rcases List.mem_cons.mp hp with rfl | hp; · k_mem
      rw [htl2] at hp
      rcases List.mem_cons.mp hp with rfl | hp; · k_mem
      k_mem
    clear N3
    have xs1 : ∀ e ∈ os ++ [one], (e.a, e.obj) ∈ tl2 := all_app (fun e he => tsub _ (ms e he)) hone
    have xs2 : ∀ e ∈ us, (e.a, e.obj) ∈ tl2 := fun e he => tsub _ (ms e (inv.pu.mem_iff.mp he))
    have xs3 : ∀ e ∈ qs, (e.a, e.obj) ∈ tl2 := fun e he => tsub _ (ms e (inv.pq.mem_iff.mp he))
    have xs4 : ∀ e ∈ ls, (e.a, e.obj) ∈ tl2 := fun e he => tsub _ (ml e he)
    have hi7 : i < 7 := by have := (List.getElem?_eq_some_iff.mp hji).1; omega
    have hlo : os.length ≤ 7 := by have := inv.sub.length_le; simp at this; omega
    have hlu : us.length ≤ 7 := by rw [inv.pu.length_eq]; exact hlo
    have hlq : qs.length ≤ 7 := by rw [inv.pq.length_eq]; exact hlo
    have hup := push_heap (e := one) inv.hu
    have hqp := push_heap (e := one) inv.hq
    have htake := take_snoc hji
    have hndT : ((js.take i ++ [j]).map (·.c)).Nodup := by rw [← htake]; exact hnd.sublist ((List.take_sublist _ _).map _)
    have hposT : ∀ x ∈ js.take i ++ [j], 0 ≤ x.n := fun x hx => hpos x (by rw [← htake] at hx; exact List.mem_of_mem_take hx)
    have hdueT := due_take hji hdue
    have hno : ((os ++ [one]).map (·.c)).Nodup := names_nodup (inv.sub1 hi1 hc1) hndT
    have hoks : ∀ e ∈ os ++ [one], PyData.strOk e.c = true := fun e he => by
      have h1 := (inv.sub1 hi1 hc1).subset (List.mem_map_of_mem (f := Pr.key) he)
      rw [← htake] at h1
      obtain ⟨x, hx, e1⟩ := List.mem_map.mp h1
      have e2 : x.c = e.c := congrArg Prod.snd e1
      rw [← e2]; exact hok x (List.mem_of_mem_take hx)
    have hl1 : (os ++ [one]).length ≤ 8 := by rw [List.length_append, List.length_singleton]; omega
    walk_at "MY steps"
    · -- the branch in which one falls
      rename (j.d < cw + j.n) => hgt
      rename Fr _ _ _ _ => F5; rename News _ _ _ _ => N5
      obtain ⟨hfm, hfl⟩ := least_of (xs := os ++ [one]) (by simp)
      generalize least (os ++ [one]) = fell at *
      have hfr := xs1 _ hfm
      obtain ⟨pre, post, hsp⟩ := List.append_of_mem hfm
      obtain ⟨hk1, hk2⟩ := split_names hno hsp
      have hup2 : (sdown (us ++ [one]) us.length).Perm (os ++ [one]) := hup.2.trans (inv.pu.append_right _)
      have hup1 := hup.1
      clear hup
      generalize sdown (us ++ [one]) us.length = us1 at *
      refine' pr_remove (f := fell) (pre := pre) (post := post) ?hu F5 N5 ?hx ?hz hsp hk1 hk2 ?U ?_
      case hu => walk_at "MY units"
      case hx => walk_at "MY memN"
      case hz => omega
      case U => k_upd
      intro h6 F6 N6
      clear F5 N5
      (try dsimp only)
      walk_at "MY steps"
      rename Fr _ _ _ _ => F7; rename News _ _ _ _ => N7
      have hone1 : one ∈ os ++ [one] := List.mem_append_right _ (.head _)
      k_dflt (refine' pop_law ?B F7 ?X N7 ?T rfl rfl ?U ?hx ?hz ?hdp ?hun hup1 ?hne ?_)
      case B => k_asm
      case X => k_asm
      case T => k_asm
      case U => k_updF
      case hx => exact all_lift (fun p hp => by k_mem) fun e he => xs1 e (hup2.mem_iff.mp he)
      case hz => rw [hup2.length_eq]; omega
      case hdp => walk_at "MY room"
      case hun => walk_at "MY room"
      case hne => rw [hup2.length_eq]; simp
      intro f us2 h8 tk8 hus hpu hlf F8 N8
      have hpu2 := hpu.trans hup2
      obtain rfl : f = fell := least_one hno (hpu2.mem_iff.mp (.head _)) hfm (hlf fell (hup2.mem_iff.mpr hfm)) (hfl f (hpu2.mem_iff.mp (.head _)))
      (try dsimp only at N8)
      clear F7 N7
      have hfo : PyData.strOk f.c = true := hoks f hfm
      have hfr2 := xs1 f hfm
      walk_at "MY steps"
      rename Fr _ _ _ _ => F9; rename News _ _ _ _ => N9
      k_dflt (refine' pushpop_law ?B F9 ?X N9 ?T rfl rfl ?U ?hx ?he ?hz ?hdp ?hun inv.hq ?_)
      case B => k_asm
      case X => k_asm
      case T => k_asm
      case U => k_updF
      case hx => exact all_lift (fun p hp => by k_mem) xs3
      case he => k_mem
      case hz => omega
      case hdp => walk_at "MY room"
      case hun => walk_at "MY room"
      intro f2 qs2 h10 tk10 hqs hpq hlf2 F10 N10
      have hpq2 : (f2 :: qs2).Perm (os ++ [one]) := hpq.trans ((inv.pq.cons one).trans (List.perm_append_singleton _ _).symm)
      have hpq3 : ∀ x ∈ os ++ [one], le f2 x := fun x hx => hlf2 x (hpq.mem_iff.mp (hpq2.mem_iff.mpr hx))
      obtain rfl : f2 = f := least_one hno (hpq2.mem_iff.mp (.head _)) hfm (hpq3 f hfm) (hfl f2 (hpq2.mem_iff.mp (.head _)))
      (try dsimp only at N10)
      clear F9 N9
      walk_at "MY steps"
      have hpm : ∀ ws : List Pr, (f2 :: ws).Perm (os ++ [one]) → ws.Perm (pre ++ post) := fun ws h => by
        rw [hsp] at h
        exact List.Perm.cons_inv (h.trans List.perm_middle)
      have I1 : Inv (js.take (i + 1)) (pre ++ post) us2 qs2 (ls.map Lot.key ++ grownK j.d j.n (ls.map Lot.key)) (cw + j.n + f2.i) := by
        rw [htake]; exact inv.drop hi1 hc1 hndT hposT hdueT (hd0 j hjm) hsp (fun x hx => le_i (hfl x hx)) hus hqs (hpm _ hpu2) (hpm _ hpq2) hgt
      have hlen : (pre ++ post).length ≤ 8 := by rw [hsp] at hl1; simp at hl1 ⊢; omega
      k_dflt (refine' grown_spec (xs := ls) ?gr1B F10 ?gr1X N10 ?gr1T rfl rfl ?gr1m ?gr1x ?gr1z ?gr1d ?gr1u ?_)
      case gr1B => k_asm
      case gr1X => k_asm
      case gr1T => k_asm
      case gr1m => k_mem
      case gr1x => exact fun e he => by have := xs4 e he; k_mem
      case gr1z => omega
      case gr1d => walk_at "MY room"
      case gr1u => walk_at "MY room"
      intro D ys hB tkB nx FB NB q1 q0 q2 hy hyk
      obtain ⟨tl3, htl3⟩ : ∃ tl3, tl3 = nx ++ (cl, lots ls n4) :: tl2 := ⟨_, rfl⟩
      have NC : News _ _ _ ((D, lots (ls ++ ys) 0) :: (co, prs (pre ++ post) (n1 + 1 + 1)) :: (cu, prs us2 (n2 + 1 + 1)) :: (cq, prs qs2 (n3)) :: (It, io) :: tl3) := nsub NB fun p hp => by
        rcases List.mem_cons.mp hp with rfl | hp; · k_mem
        refine .tail _ ?_
        rcases List.mem_cons.mp hp with rfl | hp; · exact List.mem_append_right _ (by k_mem)
        rcases List.mem_cons.mp hp with rfl | hp; · exact List.mem_append_right _ (by k_mem)
        rcases List.mem_cons.mp hp with rfl | hp; · exact List.mem_append_right _ (by k_mem)
        rcases List.mem_cons.mp hp with rfl | hp; · exact List.mem_append_right _ (by k_mem)
        rw [htl3] at hp
        rcases List.mem_append.mp hp with hp | hp; · exact List.mem_append_left _ hp
        rcases List.mem_cons.mp hp with rfl | hp; · exact List.mem_append_right _ (by k_mem)
        exact List.mem_append_right _ (by k_mem)
      have up : ∀ x : Nat, (∀ p ∈ nx, @LT.lt Nat _ x p.1) → @Ne Nat cl x → (∀ p ∈ tl2, p.1 ≠ x) → ∀ p ∈ tl3, p.1 ≠ x := fun x h1 h2 h3 p hp => by
        rw [htl3] at hp
        rcases List.mem_append.mp hp with hp | hp
        · exact Nat.ne_of_gt (h1 p hp)
        · rcases List.mem_cons.mp hp with rfl | hp
          · exact h2
          · exact h3 p hp
      have r1 := up co (q2 (co, prs (pre ++ post) (n1 + 1 + 1)) (by k_mem)) (Ne.symm d3) s1
      have r2 := up cu (q2 (cu, prs us2 (n2 + 1 + 1)) (by k_mem)) (Ne.symm d5) s2
      have r3 := up cq (q2 (cq, prs qs2 (n3)) (by k_mem)) (Ne.symm d6) s3
      have r5 := up It (q2 (It, io) (by k_mem)) io4 s5
      have r4 : ∀ p ∈ tl3, p.1 ≠ D := fun p hp => by
        have ht : ∀ p ∈ tl3, p ∈ nx ∨ p = (cl, lots ls n4) ∨ p ∈ tl2 := fun p hp => by
          rw [htl3] at hp
          rcases List.mem_append.mp hp with hp | hp
          · exact .inl hp
          · rcases List.mem_cons.mp hp with rfl | hp
            · exact .inr (.inl rfl)
            · exact .inr (.inr hp)
        rcases ht p hp with hp | rfl | hp
        · exact Nat.ne_of_lt (q0 p hp)
        · exact Nat.ne_of_lt (q1 _ (by k_mem))
        · exact Nat.ne_of_lt (q1 _ (by k_mem))
      have v1 : @LT.lt Nat _ co D := q1 (co, prs (pre ++ post) (n1 + 1 + 1)) (by k_mem)
      have v2 : @LT.lt Nat _ cu D := q1 (cu, prs us2 (n2 + 1 + 1)) (by k_mem)
      have v3 : @LT.lt Nat _ cq D := q1 (cq, prs qs2 (n3)) (by k_mem)
      have v4 : @LT.lt Nat _ It D := q1 (It, io) (by k_mem)
      have tsub3 : ∀ p ∈ tl2, p ∈ tl3 := fun p hp => htl3 ▸ List.mem_append_right _ (.tail _ hp)
      have hk3 : (ls ++ ys).map Lot.key = ls.map Lot.key ++ grownK j.d j.n (ls.map Lot.key) := by rw [List.map_append, hyk]
      rw [← hk3] at I1
      have b1' : ((((pre ++ post).length : Nat) : Int), cw + j.n + f2.i) ∈ (ls ++ ys).map Lot.key := I1.best.1
      have b2' : ∀ e ∈ ls ++ ys, e.i ≤ (((pre ++ post).length : Nat) : Int) := fun e he => I1.best.2.1 _ (List.mem_map_of_mem (f := Lot.key) he)
      have b3' : ∀ e ∈ ls ++ ys, e.i = (((pre ++ post).length : Nat) : Int) → cw + j.n + f2.i ≤ e.j := fun e he h => I1.best.2.2 _ (List.mem_map_of_mem (f := Lot.key) he) h
      have hx5 : ∀ e ∈ ls ++ ys, (e.a, e.obj) ∈ tl3 := fun e he => by
        rcases List.mem_append.mp he with he | he
        · exact tsub3 _ (xs4 e he)
        · rw [htl3]; exact List.mem_append_left _ (hy e he)
      have hx6 : ∀ e ∈ ls ++ ys, (e.a, e.obj) ∈ (D, lots (ls ++ ys) 0) :: (co, prs (pre ++ post) (n1 + 1 + 1)) :: (cu, prs us2 (n2 + 1 + 1)) :: (cq, prs qs2 (n3)) :: (It, io) :: tl3 := fun e he => by have := hx5 e he; k_mem
      have hly : ys.length ≤ ls.length := by
        have h1 := congrArg List.length hyk
        have h2 := List.length_filter_le (fun k : Int × Int => decide (k.2 + j.n ≤ j.d)) (ls.map Lot.key)
        simp only [grownK, List.length_map] at h1 h2
        omega
      clear NB
      walk_at "MY steps"
      refine go_on ?_
      rename Fr _ _ _ _ => FD; rename News _ _ _ _ => ND
      refine' s_end ⟨co, cu, cq, D, pre ++ post, us2, qs2, n1 + 1 + 1, n2 + 1 + 1, n3, 0, ls ++ ys, cw + j.n + f2.i, _, tl3⟩ FD ND ?se1hi ?se1hn ?se1ho ?se1hk ?se1hr ?se1hp
      case se1hi => k_mem
      case se1hn =>
        intro p hp
        rcases List.mem_cons.mp hp with rfl | hp; · k_mem
        rcases List.mem_cons.mp hp with rfl | hp; · k_mem
        rcases List.mem_cons.mp hp with rfl | hp; · k_mem
        rcases List.mem_cons.mp hp with rfl | hp; · k_mem
        dsimp only at hp
        k_mem
      case se1ho =>
        intro p hp
        rcases List.mem_cons.mp hp with rfl | hp; · exact io1
        rcases List.mem_cons.mp hp with rfl | hp; · exact io2
        rcases List.mem_cons.mp hp with rfl | hp; · exact io3
        rcases List.mem_cons.mp hp with rfl | hp; · exact Nat.ne_of_gt v4
        exact r5 p hp
      case se1hk =>
        intro p hp
        rcases List.mem_cons.mp hp with rfl | hp; · rfl
        rcases List.mem_cons.mp hp with rfl | hp; · rfl
        rcases List.mem_cons.mp hp with rfl | hp; · rfl
        rcases List.mem_cons.mp hp with rfl | hp; · rfl
        rcases List.mem_cons.mp hp with rfl | hp; · rfl
        cases hp
      case se1hr => ksw_same
      case se1hp =>
        refine ⟨d1, d2, Nat.ne_of_lt v1, d4, Nat.ne_of_lt v2, Nat.ne_of_lt v3, r1, r2, r3, r4, fun p hp => tsub3 _ (tsub _ (nw p hp)), fun e he => ?_, hx5, ?_, I1⟩
        · have he' : e ∈ os ++ [one] := by
            rw [hsp]
            rcases List.mem_append.mp he with he | he
            · exact List.mem_append_left _ he
            · exact List.mem_append_right _ (.tail _ he)
          exact tsub3 _ (xs1 e he')
        · show (ls ++ ys).length ≤ 2 ^ (i + 1)
          rw [List.length_append, Nat.pow_succ]; omega
    · rename (¬ j.d < cw + j.n) => hle
      rename Fr _ _ _ _ => F5; rename News _ _ _ _ => N5
      have hup2 : (sdown (us ++ [one]) us.length).Perm (os ++ [one]) := hup.2.trans (inv.pu.append_right _)
      have hqp2 : (sdown (qs ++ [one]) qs.length).Perm (os ++ [one]) := hqp.2.trans (inv.pq.append_right _)
      have hup1 := hup.1
      have hqp1 := hqp.1
      clear hup hqp
      generalize sdown (us ++ [one]) us.length = us1 at *
      generalize sdown (qs ++ [one]) qs.length = qs1 at *
      have I1 : Inv (js.take (i + 1)) (os ++ [one]) us1 qs1 (ls.map Lot.key ++ grownK j.d j.n (ls.map Lot.key)) (cw + j.n) := by
        rw [htake]; exact inv.keep hi1 hc1 hndT hposT hup1 hqp1 hup2 hqp2 (by omega)
      have hlen : (os ++ [one]).length ≤ 8 := hl1
      k_dflt (refine' grown_spec (xs := ls) ?gr2B F5 ?gr2X N5 ?gr2T rfl rfl ?gr2m ?gr2x ?gr2z ?gr2d ?gr2u ?_)
      case gr2B => k_asm
      case gr2X => k_asm
      case gr2T => k_asm
      case gr2m => k_mem
      case gr2x => exact fun e he => by have := xs4 e he; k_mem
      case gr2z => omega
      case gr2d => walk_at "MY room"
      case gr2u => walk_at "MY room"
      intro D ys hB tkB nx FB NB q1 q0 q2 hy hyk
      obtain ⟨tl3, htl3⟩ : ∃ tl3, tl3 = nx ++ (cl, lots ls n4) :: tl2 := ⟨_, rfl⟩
      have NC : News _ _ _ ((D, lots (ls ++ ys) 0) :: (co, prs (os ++ [one]) (n1 + 1)) :: (cu, prs us1 (n2 + 1)) :: (cq, prs qs1 (n3 + 1)) :: (It, io) :: tl3) := nsub NB fun p hp => by
        rcases List.mem_cons.mp hp with rfl | hp; · k_mem
        refine .tail _ ?_
        rcases List.mem_cons.mp hp with rfl | hp; · exact List.mem_append_right _ (by k_mem)
        rcases List.mem_cons.mp hp with rfl | hp; · exact List.mem_append_right _ (by k_mem)
        rcases List.mem_cons.mp hp with rfl | hp; · exact List.mem_append_right _ (by k_mem)
        rcases List.mem_cons.mp hp with rfl | hp; · exact List.mem_append_right _ (by k_mem)
        rw [htl3] at hp
        rcases List.mem_append.mp hp with hp | hp; · exact List.mem_append_left _ hp
        rcases List.mem_cons.mp hp with rfl | hp; · exact List.mem_append_right _ (by k_mem)
        exact List.mem_append_right _ (by k_mem)
      have up : ∀ x : Nat, (∀ p ∈ nx, @LT.lt Nat _ x p.1) → @Ne Nat cl x → (∀ p ∈ tl2, p.1 ≠ x) → ∀ p ∈ tl3, p.1 ≠ x := fun x h1 h2 h3 p hp => by
        rw [htl3] at hp
        rcases List.mem_append.mp hp with hp | hp
        · exact Nat.ne_of_gt (h1 p hp)
        · rcases List.mem_cons.mp hp with rfl | hp
          · exact h2
          · exact h3 p hp
      have r1 := up co (q2 (co, prs (os ++ [one]) (n1 + 1)) (by k_mem)) (Ne.symm d3) s1
      have r2 := up cu (q2 (cu, prs us1 (n2 + 1)) (by k_mem)) (Ne.symm d5) s2
      have r3 := up cq (q2 (cq, prs qs1 (n3 + 1)) (by k_mem)) (Ne.symm d6) s3
      have r5 := up It (q2 (It, io) (by k_mem)) io4 s5
      have r4 : ∀ p ∈ tl3, p.1 ≠ D := fun p hp => by
        have ht : ∀ p ∈ tl3, p ∈ nx ∨ p = (cl, lots ls n4) ∨ p ∈ tl2 := fun p hp => by
          rw [htl3] at hp
          rcases List.mem_append.mp hp with hp | hp
          · exact .inl hp
          · rcases List.mem_cons.mp hp with rfl | hp
            · exact .inr (.inl rfl)
            · exact .inr (.inr hp)
        rcases ht p hp with hp | rfl | hp
        · exact Nat.ne_of_lt (q0 p hp)
        · exact Nat.ne_of_lt (q1 _ (by k_mem))
        · exact Nat.ne_of_lt (q1 _ (by k_mem))
      have v1 : @LT.lt Nat _ co D := q1 (co, prs (os ++ [one]) (n1 + 1)) (by k_mem)
      have v2 : @LT.lt Nat _ cu D := q1 (cu, prs us1 (n2 + 1)) (by k_mem)
      have v3 : @LT.lt Nat _ cq D := q1 (cq, prs qs1 (n3 + 1)) (by k_mem)
      have v4 : @LT.lt Nat _ It D := q1 (It, io) (by k_mem)
      have tsub3 : ∀ p ∈ tl2, p ∈ tl3 := fun p hp => htl3 ▸ List.mem_append_right _ (.tail _ hp)
      have hk3 : (ls ++ ys).map Lot.key = ls.map Lot.key ++ grownK j.d j.n (ls.map Lot.key) := by rw [List.map_append, hyk]
      rw [← hk3] at I1
      have b1' : ((((os ++ [one]).length : Nat) : Int), cw + j.n) ∈ (ls ++ ys).map Lot.key := I1.best.1
      have b2' : ∀ e ∈ ls ++ ys, e.i ≤ (((os ++ [one]).length : Nat) : Int) := fun e he => I1.best.2.1 _ (List.mem_map_of_mem (f := Lot.key) he)
      have b3' : ∀ e ∈ ls ++ ys, e.i = (((os ++ [one]).length : Nat) : Int) → cw + j.n ≤ e.j := fun e he h => I1.best.2.2 _ (List.mem_map_of_mem (f := Lot.key) he) h
      have hx5 : ∀ e ∈ ls ++ ys, (e.a, e.obj) ∈ tl3 := fun e he => by
        rcases List.mem_append.mp he with he | he
        · exact tsub3 _ (xs4 e he)
        · rw [htl3]; exact List.mem_append_left _ (hy e he)
      have hx6 : ∀ e ∈ ls ++ ys, (e.a, e.obj) ∈ (D, lots (ls ++ ys) 0) :: (co, prs (os ++ [one]) (n1 + 1)) :: (cu, prs us1 (n2 + 1)) :: (cq, prs qs1 (n3 + 1)) :: (It, io) :: tl3 := fun e he => by have := hx5 e he; k_mem
      have hly : ys.length ≤ ls.length := by
        have h1 := congrArg List.length hyk
        have h2 := List.length_filter_le (fun k : Int × Int => decide (k.2 + j.n ≤ j.d)) (ls.map Lot.key)
        simp only [grownK, List.length_map] at h1 h2
        omega
      clear NB
      walk_at "MY steps"
      refine go_on ?_
      rename Fr _ _ _ _ => FD; rename News _ _ _ _ => ND
      refine' s_end ⟨co, cu, cq, D, os ++ [one], us1, qs1, n1 + 1, n2 + 1, n3 + 1, 0, ls ++ ys, cw + j.n, _, tl3⟩ FD ND ?se2hi ?se2hn ?se2ho ?se2hk ?se2hr ?se2hp
      case se2hi => k_mem
      case se2hn =>
        intro p hp
        rcases List.mem_cons.mp hp with rfl | hp; · k_mem
        rcases List.mem_cons.mp hp with rfl | hp; · k_mem
        rcases List.mem_cons.mp hp with rfl | hp; · k_mem
        rcases List.mem_cons.mp hp with rfl | hp; · k_mem
        dsimp only at hp
        k_mem
      case se2ho =>
        intro p hp
        rcases List.mem_cons.mp hp with rfl | hp; · exact io1
        rcases List.mem_cons.mp hp with rfl | hp; · exact io2
        rcases List.mem_cons.mp hp with rfl | hp; · exact io3
        rcases List.mem_cons.mp hp with rfl | hp; · exact Nat.ne_of_gt v4
        exact r5 p hp
      case se2hk =>
        intro p hp
        rcases List.mem_cons.mp hp with rfl | hp; · rfl
        rcases List.mem_cons.mp hp with rfl | hp; · rfl
        rcases List.mem_cons.mp hp with rfl | hp; · rfl
        rcases List.mem_cons.mp hp with rfl | hp; · rfl
        rcases List.mem_cons.mp hp with rfl | hp; · rfl
        cases hp
      case se2hr => ksw_same
      case se2hp =>
        refine ⟨d1, d2, Nat.ne_of_lt v1, d4, Nat.ne_of_lt v2, Nat.ne_of_lt v3, r1, r2, r3, r4, fun p hp => tsub3 _ (tsub _ (nw p hp)), fun e he => ?_, hx5, ?_, I1⟩
        · exact tsub3 _ (xs1 e he)
        · show (ls ++ ys).length ≤ 2 ^ (i + 1)
          rw [List.length_append, Nat.pow_succ]; omega


section
open PySem.Calls
section
variable {prog : Program} {w : World} {A : Around} {E : Value → Shared → Prop} {s : Shared} {h₀ : Heap} {L l : Addr} {m : Str → Option Value} {news : List (Addr × Obj)}
theorem sort_gen {α : Type} [Inhabited α] {v f : α → Value} {ltf : α → α → Bool} {xs : List α} {Q : Value → Shared → Prop} (F : Fr h₀ L s.heap m) (N : News h₀ L s.heap news) (hl : s.heap.IsList l (xs.map v).toArray) (h2 : 2 ≤ xs.length) (h64 : xs.length < 64)
    (htup : ∀ h, News h₀ L h news → KatTups h (xs.map v) (xs.map f)) (hty : ∀ x ∈ xs, ∀ h, Looks (model prog w) h (typeOf (f x)) (.type "int"))
    (hcmp : ∀ s' : Shared, News h₀ L s'.heap news → ∀ x ∈ xs, ∀ y ∈ xs, ∀ C : Bool → Shared → Prop, C (ltf x y) s' → wpAny (model prog w) A.in1.in1 (keyLt' (tuples' true) (v x) (v y)) C (fun _ _ => False) s')
    (asym : ∀ x y, ltf x y = true → ltf y x = false) (neg : ∀ x y z, ltf x z = true → ltf x y = true ∨ ltf y z = true) (tot : ∀ i j, i < xs.length → j < xs.length → i ≠ j → ltf (xs.getD i default) (xs.getD j default) = true ∨ ltf (xs.getD j default) (xs.getD i default) = true)
    (h : ∀ D (ys : List α) e1 h', ys.Perm xs → ys.Pairwise (fun a b => ltf b a = false) → Fr h₀ L h' m → News h₀ L h' ((D, W.listOf (ys.map v).toArray e1) :: news) → (∀ q ∈ news, q.1 < D) → Q (.ref D) { s with heap := h' }) :
    wpAny (model prog w) A (call (.builtin "sorted") [.ref l]) Q E s := by
  refine kat_sorted F N hl (by rw [List.length_map]; exact h2) (by rw [List.length_map]; exact h64) fun D e1 h1 F1 N1 hlt => ?_
  have N1' : News h₀ L h1 news := fun p hp => N1 p (.tail _ hp)
  refine kat_kind (fs := xs.map f) (T := .type "int") (htup h1 N1') (by rw [List.length_map]; omega) (fun u hu => ?_) (by decide) ?_
  · obtain ⟨x, hx, rfl⟩ := List.mem_map.mp hu
    exact hty x hx _
  rw [show (Value.type "int" != Value.type "tuple") = true by decide, List.length_map]
  have getv : ∀ i, i < xs.length → (xs.map v).getD i Value.none = v (xs.getD i default) := fun i hi => by
    simp [List.getD_eq_getElem?_getD, hi]
  have mem : ∀ i, i < xs.length → xs.getD i default ∈ xs := fun i hi => by
    simp [List.getD_eq_getElem?_getD, hi]
  refine good_wp (lt := fun i j => ltf (xs.getD i default) (xs.getD j default)) (fun i j C hi hj hC => ?_) _ (good_sort (by omega)) ?_
  · show wpAny _ _ (keyLt' _ ((xs.map v).getD i Value.none) ((xs.map v).getD j Value.none)) _ _ _
    rw [getv i hi, getv j hj]
    exact hcmp _ N1' _ (mem i hi) _ (mem j hj) C hC
  · have O : Ord (fun i j => ltf (xs.getD i default) (xs.getD j default)) := ⟨fun a b => asym _ _, fun a b c => neg _ _ _⟩
    obtain ⟨p1, p2⟩ := sort_run O (n := xs.length) (by omega) (fun a b ha hb hab => tot a b ha hb hab)
    generalize run (fun i j => ltf (xs.getD i default) (xs.getD j default)) (kas_sort xs.length) = p at *
    have hys : (p.toList.map fun i => xs.getD i default).Perm xs := by
      refine (p1.map _).trans ?_
      have : (List.range xs.length).map (fun i => xs.getD i default) = xs := by
        apply List.ext_getElem
        · simp
        · intro i h1 h2; simp [List.getD_eq_getElem?_getD, h2]
      rw [this]
    have hout : (p.toList.map fun i => (xs.map v).getD i Value.none) = (p.toList.map fun i => xs.getD i default).map v := by
      rw [List.map_map]
      refine List.map_congr_left fun i hi => ?_
      exact getv i (List.mem_range.mp (p1.mem_iff.mp hi))
    rw [hout]
    refine KasFin.intro F1 N1 (UpdF.head fun q hq => Nat.ne_of_lt (hlt q hq)) fun h' c F' N' => ?_
    exact h D (p.toList.map fun i => xs.getD i default) c h' hys (List.pairwise_map.mpr p2) F' N' hlt

theorem looks_int (M : Model) (h : Heap) (i : Int) (t : Tok) : Looks M h (typeOf (.int i t)) (.type "int") := Looks.of_pure rfl
theorem pr_key {x y : Pr} {C : Bool → Shared → Prop} (hx : s.heap.get? x.a = some x.obj) (hy : s.heap.get? y.a = some y.obj) (h : C (x.lt y) s) :
    wpAny (model prog w) A (keyLt' (tuples' true) (.ref x.a) (.ref y.a)) C E s := by
  refine kat_lt hx rfl hy rfl ?_
  refine kat_cons (wpAny_eqBool_int ?_)
  unfold Pr.lt at h
  by_cases hij : x.i = y.i
  · rw [show (x.i == y.i) = true by simpa using hij]
    refine kat_yes (kat_cons (wpAny_eqBool_str ?_))
    by_cases hc : x.c = y.c
    · rw [decide_eq_true hc]
      refine kat_yes (kat_nil ?_)
      have e : (decide (x.i < y.i) || (decide (x.i = y.i) && decide (x.c.cps.toList < y.c.cps.toList))) = false := by rw [hij, hc]; simp [List.lt_irrefl]
      rw [e] at h
      exact h
    · rw [decide_eq_false hc]
      refine kat_no (kat_one _ _ (lt_str ?_))
      have e : (decide (x.i < y.i) || (decide (x.i = y.i) && decide (x.c.cps.toList < y.c.cps.toList))) = decide (x.c.cps.toList < y.c.cps.toList) := by rw [hij]; simp
      rw [e] at h
      exact h
  · rw [show (x.i == y.i) = false by simpa using hij]
    refine kat_no (oneLt_int ?_)
    have e : (decide (x.i < y.i) || (decide (x.i = y.i) && decide (x.c.cps.toList < y.c.cps.toList))) = decide (x.i < y.i) := by simp [hij]
    rw [e] at h
    exact h
abbrev Jb.toPr (x : Jb) : Pr := ⟨x.a, x.d, x.td, x.c, x.tc⟩
theorem jb_key {x y : Jb} {C : Bool → Shared → Prop} (hx : s.heap.get? x.a = some x.obj) (hy : s.heap.get? y.a = some y.obj) (hn : x.c = y.c → x.n = y.n) (h : C (x.toPr.lt y.toPr) s) :
    wpAny (model prog w) A (keyLt' (tuples' true) (.ref x.a) (.ref y.a)) C E s := by
  refine kat_lt hx rfl hy rfl ?_
  refine kat_cons (wpAny_eqBool_int ?_)
  unfold Pr.lt at h
  dsimp only at h
  by_cases hij : x.d = y.d
  · rw [show (x.d == y.d) = true by simpa using hij]
    refine kat_yes (kat_cons (wpAny_eqBool_str ?_))
    by_cases hc : x.c = y.c
    · rw [decide_eq_true hc]
      refine kat_yes (kat_cons (wpAny_eqBool_int ?_))
      rw [show (x.n == y.n) = true by simpa using hn hc]
      refine kat_yes (kat_nil ?_)
      have e : (decide (x.d < y.d) || (decide (x.d = y.d) && decide (x.c.cps.toList < y.c.cps.toList))) = false := by rw [hij, hc]; simp [List.lt_irrefl]
      rw [e] at h
      exact h
    · rw [decide_eq_false hc]
      refine kat_no (kat_one _ _ (lt_str ?_))
      have e : (decide (x.d < y.d) || (decide (x.d = y.d) && decide (x.c.cps.toList < y.c.cps.toList))) = decide (x.c.cps.toList < y.c.cps.toList) := by rw [hij]; simp
      rw [e] at h
      exact h
  · rw [show (x.d == y.d) = false by simpa using hij]
    refine kat_no (oneLt_int ?_)
    have e : (decide (x.d < y.d) || (decide (x.d = y.d) && decide (x.c.cps.toList < y.c.cps.toList))) = decide (x.d < y.d) := by simp [hij]
    rw [e] at h
    exact h

theorem tups_pr : ∀ {xs : List Pr} {h : Heap}, (∀ x ∈ xs, h.get? x.a = some x.obj) → KatTups h (xs.map Pr.v) (xs.map fun x => .int x.i x.ti)
  | [], _, _ => .nil
  | x :: r, h, q => KatTups.cons (q x (.head _)) rfl rfl rfl (tups_pr fun y hy => q y (.tail _ hy))
theorem tups_jb : ∀ {xs : List Jb} {h : Heap}, (∀ x ∈ xs, h.get? x.a = some x.obj) → KatTups h (xs.map Jb.v) (xs.map fun x => .int x.d x.td)
  | [], _, _ => .nil
  | x :: r, h, q => KatTups.cons (q x (.head _)) rfl rfl rfl (tups_jb fun y hy => q y (.tail _ hy))
theorem nodup_ne {α β : Type} [Inhabited α] {f : α → β} {xs : List α} (h : (xs.map f).Nodup) {i j : Nat} (hi : i < xs.length) (hj : j < xs.length) (hij : i ≠ j) : f (xs.getD i default) ≠ f (xs.getD j default) := by
  have e : ∀ i (hi : i < xs.length), xs.getD i default = xs[i] := fun i hi => by simp [List.getD_eq_getElem?_getD, hi]
  rw [e i hi, e j hj]
  intro q
  have := (List.nodup_iff_pairwise_ne.mp h)
  rw [List.pairwise_iff_getElem] at this
  rcases Nat.lt_or_gt_of_ne hij with h1 | h1
  · exact this i j (by simpa using hi) (by simpa using hj) h1 (by simpa using q)
  · exact this j i (by simpa using hj) (by simpa using hi) h1 (by simpa using q.symm)
theorem pr_tot {x y : Pr} (h : x.c ≠ y.c) : x.lt y = true ∨ y.lt x = true := by
  by_cases a : x.lt y = true
  · exact .inl a
  · by_cases b : y.lt x = true
    · exact .inr b
    · exact absurd (le_anti (le_of b) (le_of a)).2 h

theorem small_tree {a : Addr} {vs : List Value} {n : Nat} {P : PySem.Fin → Shared → Prop} (ho : s.heap.get? a = some (seqObj "list" vs.toArray n)) (h2 : vs.length < 2)
    (h : P (.done (.ret .none)) { s with heap := sortedHeap s.heap a vs vs.toArray }) : wpAny (model prog w) A (Builtin.«list.sort» ⟨[.ref a], []⟩) P E s := by
  rw [list_sort_plain]
  have ha : a < s.heap.objs.size := Heap.lt_size ho
  refine wpAny_bind (listItems_at ho rfl ?_)
  refine wpAny_bind (listUpdate_at ho rfl ?_ (by rw [List.size_toArray, sizeLine_eq]; omega) (Nat.zero_le _))
  obtain ⟨e1, ho1⟩ : ∃ e1, (s.heap.update a (Obj.mapSeq fun _ => #[])).get? a = some (seqObj "list" #[] e1) := ⟨_, get?_update_seq ho (fun _ => #[])⟩
  refine wpAny_bind (seqEpoch_at ho1 rfl ?_)
  refine wpAny_bind (wpAny_newTuple ?_ (by show vs.length ≤ _; rw [sizeLine_eq]; omega))
  refine wpAny_bind (wpAny_newList ?_ (Nat.zero_le _))
  refine wpAny_holding ?_
  have ho6 : (((s.heap.update a (Obj.mapSeq fun _ => #[])).push (seqObj "tuple" vs.toArray 0)).push (seqObj "list" #[] 0)).get? a = some (seqObj "list" #[] e1) := by
    rw [Heap.get?_push_ne _ _ _ (by rw [size_push', Heap.size_update]; exact Nat.ne_of_lt (Nat.lt_succ_of_lt ha)), Heap.get?_push_ne _ _ _ (by rw [Heap.size_update]; exact Nat.ne_of_lt ha)]
    exact ho1
  show wpAny (model prog w) A _ P E { s with heap := ((s.heap.update a (Obj.mapSeq fun _ => #[])).push (seqObj "tuple" vs.toArray 0)).push (seqObj "list" #[] 0) }
  dsimp only
  have hsz : vs.toArray.size < 2 := by rw [List.size_toArray]; exact h2
  rw [if_pos hsz, if_pos hsz]
  refine wpAny_bind (wpAny_pure ?_)
  rw [StateT.run_pure]
  refine wpAny_bind (wpAny_pure ?_)
  dsimp only
  have hout : (arrOf (SortSt.mk' general' (vs.toArray.zip vs.toArray) #[] 7 none)).map (·.2) = vs.toArray := by
    show (vs.toArray.zip vs.toArray).map (·.2) = vs.toArray
    apply Array.toList_inj.mp
    simp [List.map_snd_zip]
  refine wpAny_bind (seqEpoch_at ho6 rfl ?_)
  rw [hout]
  refine wpAny_bind (listUpdate_at ho6 rfl ?_ (Nat.zero_le _) (by rw [List.size_toArray, sizeLine_eq]; omega))
  simp only [bne_self_eq_false, Bool.false_eq_true, if_false]
  exact wpAny_pure h
theorem small_sorted {vs : List Value} {Q : Value → Shared → Prop} (F : Fr h₀ L s.heap m) (N : News h₀ L s.heap news) (hl : s.heap.IsList l vs.toArray) (h2 : vs.length < 2)
    (h : ∀ D e1 h', Fr h₀ L h' m → News h₀ L h' ((D, W.listOf vs.toArray e1) :: news) → (∀ q ∈ news, q.1 < D) → Q (.ref D) { s with heap := h' }) :
    wpAny (model prog w) A (call (.builtin "sorted") [.ref l]) Q E s := by
  refine Calls.call_function_entry kind_sorted plain_sorted entry_sorted (args_sorted1 _) ?_
  unfold Builtin.«sorted»
  refine wpAny_bind (m := checkCount "sorted" 1 1 _) (wpAny_pure ?_)
  refine wpAny_bind (collect_list hl ?_ (by rw [sizeLine_eq]; omega))
  refine wpAny_bind (wpAny_newList ?_ (by rw [sizeLine_eq]; omega))
  have hsz : ((s.heap.push (seqObj "list" #[] 0)).update s.heap.objs.size (Obj.mapSeq (· ++ vs.toArray))).objs.size = s.heap.objs.size + 1 := by
    rw [Heap.size_update, size_push']
  have hoL : (((s.heap.push (seqObj "list" #[] 0)).update s.heap.objs.size (Obj.mapSeq (· ++ vs.toArray))).push (seqObj "list" vs.toArray 0)).get? (s.heap.objs.size + 1) = some (seqObj "list" vs.toArray 0) := by
    rw [← hsz]; exact Heap.get?_push_size _ rfl
  show wpAny _ _ _ _ _ { s with heap := ((s.heap.push (seqObj "list" #[] 0)).update s.heap.objs.size (Obj.mapSeq (· ++ vs.toArray))).push (seqObj "list" vs.toArray 0) }
  rw [hsz]
  refine wpAny_bind (wpAny_holding (wpAny_call_entry slot_list_sort ⟨_, hoL, rfl⟩ entry_list_sort (small_tree hoL h2 ⟨_, rfl, ?_⟩) (args_list_sort _)))
  obtain ⟨e, he⟩ := sortedAll_at s.heap vs vs.toArray
  exact wpAny_pure ⟨_, rfl, h (s.heap.objs.size + 1) e _ (F.kept fun _ _ => sortedAll_old) (N.kept_cons F (fun _ _ => sortedAll_old) (Nat.le_succ _) he) fun q hq => Nat.lt_succ_of_lt (Heap.lt_size (N q hq).1)⟩
theorem sort_pr_all {xs : List Pr} {n : Nat} {Q : Value → Shared → Prop} (sp : 2 ≤ xs.length → wpAny (model prog w) A (call (.builtin "sorted") [.ref l]) Q E s) (F : Fr h₀ L s.heap m) (N : News h₀ L s.heap news) (hm : (l, prs xs n) ∈ news)
    (h : ∀ D (ys : List Pr) e1 h', ys.Perm xs → ys.Pairwise le → Fr h₀ L h' m → News h₀ L h' ((D, prs ys e1) :: news) → (∀ q ∈ news, q.1 < D) → Q (.ref D) { s with heap := h' }) :
    wpAny (model prog w) A (call (.builtin "sorted") [.ref l]) Q E s := by
  by_cases h2 : 2 ≤ xs.length
  · exact sp h2
  · refine small_sorted F N ⟨_, (N _ hm).1, rfl, n, rfl⟩ (by rw [List.length_map]; omega) fun D e1 h' F' N' hlt => h D xs e1 h' (.refl _) ?_ F' N' hlt
    match xs, h2 with
    | [], _ => exact .nil
    | [x], _ => exact List.pairwise_singleton _ _
    | x :: y :: r, h2 => exact absurd (by simp) h2

theorem sort_pr {xs : List Pr} {n : Nat} {Q : Value → Shared → Prop} (F : Fr h₀ L s.heap m) (N : News h₀ L s.heap news) (hm : (l, prs xs n) ∈ news) (hx : ∀ e ∈ xs, (e.a, e.obj) ∈ news) (h2 : 2 ≤ xs.length) (h64 : xs.length < 64) (hn : (xs.map (·.c)).Nodup)
    (h : ∀ D (ys : List Pr) e1 h', ys.Perm xs → ys.Pairwise le → Fr h₀ L h' m → News h₀ L h' ((D, prs ys e1) :: news) → (∀ q ∈ news, q.1 < D) → Q (.ref D) { s with heap := h' }) :
    wpAny (model prog w) A (call (.builtin "sorted") [.ref l]) Q E s :=
  sort_gen (v := Pr.v) (f := fun x => .int x.i x.ti) (ltf := Pr.lt) F N ⟨_, (N _ hm).1, rfl, n, rfl⟩ h2 h64 (fun h' N' => tups_pr fun x hx' => (N' _ (hx x hx')).1) (fun x _ h' => looks_int _ _ _ _)
    (fun s' N' x hx' y hy' C hC => pr_key (N' _ (hx x hx')).1 (N' _ (hx y hy')).1 hC) (fun x y => lt_asymm) (fun x y z => lt_neg) (fun i j hi hj hij => pr_tot (nodup_ne hn hi hj hij)) h
theorem sort_prs {xs : List Pr} {n : Nat} {Q : Value → Shared → Prop} (F : Fr h₀ L s.heap m) (N : News h₀ L s.heap news) (hm : (l, prs xs n) ∈ news) (hx : ∀ e ∈ xs, (e.a, e.obj) ∈ news) (h64 : xs.length < 64) (hn : (xs.map (·.c)).Nodup)
    (h : ∀ D (ys : List Pr) e1 h', ys.Perm xs → ys.Pairwise le → Fr h₀ L h' m → News h₀ L h' ((D, prs ys e1) :: news) → (∀ q ∈ news, q.1 < D) → Q (.ref D) { s with heap := h' }) :
    wpAny (model prog w) A (call (.builtin "sorted") [.ref l]) Q E s :=
  sort_pr_all (fun h2 => sort_pr F N hm hx h2 h64 hn h) F N hm h
theorem sort_jb {xs : List Jb} {n : Nat} {Q : Value → Shared → Prop} (F : Fr h₀ L s.heap m) (N : News h₀ L s.heap news) (hm : (l, jbs xs n) ∈ news) (hx : ∀ e ∈ xs, (e.a, e.obj) ∈ news) (h2 : 2 ≤ xs.length) (h64 : xs.length < 64) (hn : (xs.map (·.c)).Nodup)
    (h : ∀ D (ys : List Jb) e1 h', ys.Perm xs → ys.Pairwise (fun a b => le a.toPr b.toPr) → Fr h₀ L h' m → News h₀ L h' ((D, jbs ys e1) :: news) → (∀ q ∈ news, q.1 < D) → Q (.ref D) { s with heap := h' }) :
    wpAny (model prog w) A (call (.builtin "sorted") [.ref l]) Q E s := by
  have inj : ∀ x ∈ xs, ∀ y ∈ xs, x.c = y.c → x.n = y.n := fun x hx y hy hc => by
    obtain ⟨i, hi, rfl⟩ := List.getElem_of_mem hx
    obtain ⟨j, hj, rfl⟩ := List.getElem_of_mem hy
    by_cases hij : i = j
    · subst hij; rfl
    · have := nodup_ne hn hi hj hij
      rw [getD_of (List.getElem?_eq_getElem hi), getD_of (List.getElem?_eq_getElem hj)] at this
      exact absurd hc this
  exact sort_gen (v := Jb.v) (f := fun x => .int x.d x.td) (ltf := fun x y => x.toPr.lt y.toPr) F N ⟨_, (N _ hm).1, rfl, n, rfl⟩ h2 h64 (fun h' N' => tups_jb fun x hx' => (N' _ (hx x hx')).1) (fun x _ h' => looks_int _ _ _ _)
    (fun s' N' x hx' y hy' C hC => jb_key (N' _ (hx x hx')).1 (N' _ (hx y hy')).1 (inj x hx' y hy') hC) (fun x y => lt_asymm) (fun x y z => lt_neg) (fun i j hi hj hij => pr_tot (nodup_ne hn hi hj hij)) h
end
end

def ownVals (t : Nat) : List Value := [.int 10 t, .int 13 (t+1), .int 23 (t+2), .int 20 (t+3), .int 25 (t+4), .int 34 (t+5), .int 28 (t+6)]
theorem own_spec {w : World} {p : Program} {loose : List Str} {mean : ExcName → Option Value} {mg mb : Str → Option Value} {A₀ : Around} {base : Heap} {outer : List Env} {env : Env} {h₀ : Heap} {L : Addr} {m : Str → Option Value}
    {s : Shared} {news : List (Addr × Obj)} {dp un : Nat} {gd : Option (List Code)} {Q E' : Value → Shared → Prop}
    (B : Below A₀ base outer h₀) (F : Fr h₀ L s.heap m) (X : (Mine.lawTop.heap_39 w.params).In h₀) (N : News h₀ L s.heap news) (T : Top p loose mean mg mb h₀) (hke : env.scope.kind = .function) (hf : env.frame = some L) (hdp : dp < 500) (hun : un < 500)
    (ret : ∀ D vs h' tk', Fr h₀ L h' m → News h₀ L h' ((D, W.listOf vs.toArray 0) :: news) → IntsAre vs [10, 13, 23, 20, 25, 34, 28] → (∀ q ∈ news, q.1 < D) → Q (.ref D) { s with heap := h', toks := tk' }) :
    wpAny (model PySem.Challenge.rw_ir0004_01.row.prog w) (Ar dp un gd env outer) (call (.ref 56) []) Q E' s := by
  revert X; k_fill; intro X
  refine wpAny_call ?_
  k_dflt (walk_at "MY enter")
  walk_at "MY steps"
  refine go_on ?_
  rename Fr _ _ _ _ => F3; rename News _ _ _ _ => N3
  exact leaveK_ F3 N3 fun F4 N4 => ret _ [.int 10 _, .int 13 _, .int 23 _, .int 20 _, .int 25 _, .int 34 _, .int 28 _] _ _ F4 N4 (.cons _ _ (.cons _ _ (.cons _ _ (.cons _ _ (.cons _ _ (.cons _ _ (.cons _ _ .nil))))))) (by assumption)

local macro_rules | `(tactic| walk_at "call ref") => `(tactic| (k_here; (with_reducible show wpAny _ _ (call (Value.ref 56) _) _ _ _); k_dflt (refine' own_spec ?B ?F ?X ?N ?T ?e ?f ?d ?u ?_; (case B => k_asm); (case F => k_asm); (case X => k_asm); (case N => k_asm); (case T => k_asm); (case e => first | assumption | exact rfl); (case f => first | assumption | exact rfl); (case d => walk_at "MY room"); (case u => walk_at "MY room"); k_whole); intro D' vs' h' tk' F' N' hi' l1; (try dsimp only at N'); (try k_sweep); (try dsimp only)))

theorem ints_set : ∀ {cs : List Value} {ns : List Int} (k : Nat) (b : Int) (t : Tok), IntsAre cs ns → IntsAre (cs.set k (.int b t)) (ns.set k b)
  | _, _, _, _, _, .nil => .nil
  | _, _, 0, b, t, .cons _ _ r => .cons b t r
  | _, _, k + 1, b, t, .cons a u r => .cons a u (ints_set k b t r)
theorem li_set {prog : Program} {w : World} {A : Around} {E : Value → Shared → Prop} {s : Shared} {h₀ : Heap} {L l : Addr} {m : Str → Option Value} {news news' : List (Addr × Obj)} {cs : List Value} {n : Nat} {i : Int} {t : Tok} {v : Value} {Q : Unit → Shared → Prop} (F : Fr h₀ L s.heap m) (N : News h₀ L s.heap news) (h0 : 0 ≤ i) (h1 : i < cs.length) (hz : cs.length ≤ 100)
    (U : Upd l (W.listOf cs.toArray n) (W.listOf (cs.set i.toNat v).toArray n) news news') (h : ∀ h', Fr h₀ L h' m → News h₀ L h' news' → Q () { s with heap := h' }) :
    wpAny (model prog w) A (setItem (.ref l) (.int i t) v) Q E s := by
  obtain ⟨pre, post, rfl, rfl, a, b⟩ := U.split
  have z := N (l, W.listOf cs.toArray n) (List.mem_append.mpr (.inr (.head _)))
  refine ki_setAt z.1 h0 (by omega) (by simpa using h1) (h _ (F.change (Heap.SameBut.update ..) z.2.1 z.2.2) (ki_turn _ N a b ?_ ?_))
  · apply Array.toList_inj.mp
    simp
  · simp
theorem fmod7 (i : Nat) : 0 ≤ (i : Int).fmod 7 ∧ (i : Int).fmod 7 < 7 := by
  rw [Int.fmod_eq_emod_of_nonneg _ (by decide)]; omega
theorem ints_at : ∀ {vs : List Value} {ns : List Int} {i : Nat} {v : Value}, IntsAre vs ns → vs[i]? = some v → ∃ b t, v = .int b t ∧ ns[i]? = some b
  | _, _, _, _, .nil, h => by cases h
  | _, _, 0, _, .cons b t _, h => ⟨b, t, (Option.some.inj h).symm, rfl⟩
  | _, _, i + 1, _, .cons b t r, h => by
    obtain ⟨b', t', e1, e2⟩ := ints_at (i := i) r (by simpa using h)
    exact ⟨b', t', e1, by simpa using e2⟩
theorem frame_eq {m : Str → Option Value} {x : Str} {v : Value} (h : m x = some v) : m = fun y => if y = x then some v else m y := by
  funext y; by_cases e : y = x
  · rw [if_pos e, e, h]
  · rw [if_neg e]

theorem take_snoc' {α : Type} {l : List α} {i : Nat} {x : α} (h : l[i]? = some x) : l.take (i + 1) = l.take i ++ [x] := by rw [List.take_add_one, h]; rfl
theorem le_i' {x y : Jb} (h : le x.toPr y.toPr) : x.d ≤ y.d := by
  have h' : ¬ y.toPr.lt x.toPr = true := by rw [h]; exact Bool.false_ne_true
  rw [lt_iff] at h'
  rcases Int.lt_or_le y.d x.d with h1 | h1
  · exact absurd (.inl h1) h'
  · exact h1
def abc : List Str := (Str.ofString "abcdefg").cps.toList.map fun c => ⟨#[c]⟩

theorem jobs_spec {w : World} {p : Program} {loose : List Str} {mean : ExcName → Option Value} {mg mb : Str → Option Value} {A₀ : Around} {base : Heap} {outer : List Env} {env : Env} {h₀ : Heap} {L : Addr} {m : Str → Option Value}
    {s : Shared} {news : List (Addr × Obj)} {dp un : Nat} {gd : Option (List Code)} {Q E' : Value → Shared → Prop} {a : Addr} {vs : List Value} {ns : List Int}
    (B : Below A₀ base outer h₀) (F : Fr h₀ L s.heap m) (X : (Mine.lawTop.heap_39 w.params).In h₀) (N : News h₀ L s.heap news) (T : Top p loose mean mg mb h₀) (hke : env.scope.kind = .function) (hf : env.frame = some L) (hdp : dp < 400) (hun : un < 400)
    (hl : h₀.IsList a vs.toArray) (hi : IntsAre vs ns) (hlen : ns.length ≤ 63)
    (ret : ∀ D js n h' tk' tl, Fr h₀ L h' m → News h₀ L h' ((D, jbs js n) :: (tl ++ news)) → (∀ q ∈ news, q.1 < D) → (∀ q ∈ news, ∀ p ∈ tl, q.1 < p.1) → (∀ e ∈ js, (e.a, e.obj) ∈ tl) → js.length = 7 → (js.map (·.c)).Nodup → (∀ x ∈ js, 1 ≤ x.n ∧ 1 ≤ x.d) → js.Pairwise (fun x y => x.d ≤ y.d) → (∀ x ∈ js, PyData.strOk x.c = true) → Q (.ref D) { s with heap := h', toks := tk' }) :
    wpAny (model PySem.Challenge.rw_ir0004_01.row.prog w) (Ar dp un gd env outer) (call (.ref 61) [.ref a]) Q E' s := by
  revert X; k_fill; intro X
  refine wpAny_call ?_
  k_dflt (walk_at "MY enter")
  rename Fr h₀ L _ m => FG
  have hl1 := Fr.lst FG hl
  walk_at "MY steps"
  refine go_on ?_
  refine wpAny_For ?_
  walk_at "MY steps"
  rename Fr _ _ _ _ => F1; rename News _ _ _ _ => N1
  rename_i D0 vs0 h01 tk01 hi0 l0 D1 c1 h02 l1 h03
  obtain ⟨l1, l2⟩ := l1
  have l2' := kst_ltOf l2
  refine slice_listK (s := ⟨h03, s.gens, s.drawn, tk + 1, s.os⟩) (items := vs.toArray) (lo := none) (hi := some 35) (Fr.lst F1 hl1) .none (.int _ _) ?_ (by with_unfolding_all rfl) (by intro _; with_unfolding_all rfl) (by have := ints_len hi; rw [sizeLine_eq, List.size_toArray]; omega)
  obtain ⟨us, ms, hus, hui, hul⟩ : ∃ us ms, slicePick vs.toArray none (some 35) none = us.toArray ∧ IntsAre us ms ∧ us.length ≤ 35 := by
    refine ⟨_, _, slicePick_plain vs.toArray none (some 35), (hi.drop _).take _, ?_⟩
    rw [List.length_take]
    have := clipAt_nat vs.toArray.size 35
    simp only [Option.elim] at *
    have h35 : clipAt vs.toArray.size ((35 : Nat) : Int) ≤ 35 := by rw [clipAt_nat]; exact Nat.min_le_left _ _
    exact Nat.le_trans (Nat.min_le_left _ _) (Nat.le_trans (Nat.sub_le _ _) h35)
  rw [hus]
  have F2 := (F1.push { cls := .type "slice", data := .fields #[.none, .int 35 tk, .none] }).push { cls := .type "list", data := .seq us.toArray }
  have N2 := News.push (F1.push { cls := .type "slice", data := .fields #[.none, .int 35 tk, .none] }) (News.pushKeep N1 { cls := .type "slice", data := .fields #[.none, .int 35 tk, .none] }) { cls := .type "list", data := .seq us.toArray }
  rw [Heap.size_push] at N2
  have g1 : D1 < h03.objs.size + 1 := Nat.lt_succ_of_lt (Heap.lt_size (N1 _ (.head _)).1)
  have g2 : ∀ q ∈ news, q.1 < h03.objs.size + 1 := fun q hq => Nat.lt_succ_of_lt (Heap.lt_size (N1 q (.tail _ (.tail _ hq))).1)
  generalize ((h03.push { cls := .type "slice", data := .fields #[.none, .int 35 tk, .none] }).push { cls := .type "list", data := .seq us.toArray }) = h04 at *
  generalize h03.objs.size + 1 = S at *
  dsimp only
  walk_at "MY steps"
  refine go_on ?_
  have hD1 : ∀ p ∈ (S, W.listOf us.toArray 0) :: news, p.1 ≠ D1 := fun p hp => by
    rcases List.mem_cons.mp hp with rfl | hp
    · exact Nat.ne_of_gt g1
    · exact Nat.ne_of_lt (l2' p hp)
  refine for_enum (vs := us) (nn := 0) (fun i m nx => ∃ cs ns n, nx = (D1, W.listOf cs.toArray n) :: (S, W.listOf us.toArray 0) :: news ∧ IntsAre cs ns ∧ ns.length = 7 ∧ m (Str.ofString "cells") = some (.ref D1))
    rfl (by rfl) (by rfl) (by rfl) F2 (fun p hp => N2 p ?sub) ⟨vs0, _, c1, rfl, hi0, rfl, rfl⟩ ?keep ?turn ?done ?hE
  case hE => passes_own
  case sub =>
    rcases List.mem_cons.mp hp with rfl | hp; · k_mem
    rcases List.mem_cons.mp hp with rfl | hp; · k_mem
    k_mem
  case keep =>
    rintro i m nx ⟨cs, ns, n, rfl, _⟩
    exact .tail _ (.head _)
  case turn =>
    rintro i v t m₁ nx h tk e eo it io hv ⟨cs, ns, n, rfl, hc, hc7, hm1⟩ ho hei F3 N3
    obtain ⟨b, tb, rfl, _⟩ := ints_at hui hv
    rw [frame_eq hm1] at F3
    (try k_fold)
    have hcl : cs.length = 7 := by rw [ints_len hc]; exact hc7
    have hfm := fmod7 i
    have ho1 := ho _ (.head _)
    have ho2 := ho _ (.tail _ (.head _))
    walk_at "MY steps"
    refine' li_set F3 N3 hfm.1 ?lt ?z ?U ?_
    case lt => rw [hcl]; exact hfm.2
    case z => omega
    case U => exact Upd.tail (Ne.symm ho1.1) (Upd.tail (Ne.symm ho1.2) (Upd.head hD1))
    intro h9 F9 N9
    walk_at "MY steps"
    refine go_on ?_
    refine ⟨rfl, h9, _, _, _, rfl, F9, N9, fun p hp => ?_, cs.set ((i : Int).fmod 7).toNat (.int (ns.getD ((i : Int).fmod 7).toNat 0 + b) _), _, n, rfl, ints_set _ _ _ hc, by rw [List.length_set]; exact hc7, rfl⟩
    rcases List.mem_cons.mp hp with rfl | hp
    · exact ho1
    · exact ho p (.tail _ hp)
  case done =>
    rintro m₁ nx h tk ⟨cs, ns, n, rfl, hc, hc7, hm1⟩ F3 N3
    rw [frame_eq hm1] at F3
    (try k_fold)
    walk_at "MY steps"
    refine go_on ?_
    refine comp_open (by with_unfolding_all rfl) (by rfl) (by decide) ?_
    walk_at "MY steps"
    refine go_on ?_
    have hcl : cs.length = 7 := by rw [ints_len hc]; exact hc7
    have hsi : strIterType (Str.ofString "abcdefg") = "str_ascii_iterator" := by
      unfold strIterType
      rw [show ((Str.ofString "abcdefg").cps.all (· < 128)) = true by decide +kernel]; rfl
    refine comp_zs (x := Str.ofString "abcdefg") (cs := cs) (nn := n) (M2 := fun i m => ∃ c u v, (Str.ofString "abcdefg").cps[i]? = some c ∧ cs[i]? = some v ∧ m (Str.ofString "name") = some (.str ⟨#[c]⟩ u) ∧ m (Str.ofString "cell") = some v)
      (fun i ys nx => ∃ es tl, ys = List.map Jb.v es ∧ nx = tl ++ (D1, W.listOf cs.toArray n) :: news ∧ (∀ e ∈ es, (e.a, e.obj) ∈ tl) ∧ es.map (·.c) = abc.take i ∧ (∀ e ∈ es, 1 ≤ e.n ∧ 1 ≤ e.d) ∧ ∀ q ∈ news, ∀ p ∈ tl, q.1 < p.1)
      rfl F3 (fun p hp => N3 p ?sub2) ⟨[], [], rfl, rfl, (fun _ h => nomatch h), rfl, (fun _ h => nomatch h), (fun _ _ _ h => nomatch h)⟩ ?keep2 hsi (by rw [hcl]; decide) (by rw [hcl, sizeLine_eq]; decide) (by decide) (by rfl) ⟨_, _, _, rfl⟩ ?asg2 ?turn2 ?done2
    case sub2 =>
      rcases List.mem_cons.mp hp with rfl | hp; · k_mem
      k_mem
    case keep2 =>
      rintro i ys nx ⟨es, tl', rfl, rfl, _⟩
      exact List.mem_append_right _ (.head _)
    case asg2 =>
      intro i c u v C m₂ T s₁ Q' E'' hcx hv hp hn hQ
      exact asg_zp rfl (by rfl) (by rfl) (by rfl) (by decide) hp hn fun h' tk m₃ h3 e1 e2 hk => hQ h' tk m₃ h3 ⟨c, u, v, hcx, hv, e1, e2⟩ hk
    case turn2 =>
      rintro i ys nx its C oC D m₂ h tk hlt ⟨es, tl', rfl, hnx, h1, h2, h3, h4⟩ hC ⟨c, u, v, hcx, hv, e1, e2⟩ F2 N2 hsub E''
      obtain ⟨b, tb, rfl, _⟩ := ints_at hc hv
      (try k_fold)
      walk_at "MY steps"
      refine go_on ?_
      rename Fr _ _ _ _ => F4; rename News _ _ _ _ => N4
      rename Addr => D'
      rename (C < _ ∧ _) => hD
      obtain ⟨y1, y2, y3⟩ := hD
      have y4 := kst_ltOf y3
      obtain ⟨e, rfl, N5, k1, k2, k3⟩ : ∃ e : Jb, e.a = D' ∧ News _ _ _ ((e.a, e.obj) :: (C, oC) :: (D, LCg.lst (es.map Jb.v)) :: its) ∧ e.c = ⟨#[c]⟩ ∧ e.n = b.fmod 4 + 1 ∧ e.d = 1 + (b.fdiv 4).fmod 12 := ⟨⟨D', _, _, _, _, _, _⟩, rfl, N4, rfl, rfl, rfl⟩
      refine ⟨_, _, (e.a, e.obj) :: nx, rfl, F4, fun p hp => N5 p (.tail _ hp), fun p hp => ?_, fun p hp => ?_, es ++ [e], (e.a, e.obj) :: tl', by simp, by rw [hnx]; rfl, fun x hx => ?_, ?_, fun x hx => ?_, fun q hq p hp => ?_⟩
      · rcases List.mem_cons.mp hp with rfl | hp
        · exact N5 _ (.head _)
        · exact N5 p (.tail _ (.tail _ (.tail _ (hsub p hp))))
      · rcases List.mem_cons.mp hp with rfl | hp
        · refine .inr fun q hq => ?_
          rcases List.mem_cons.mp hq with rfl | hq
          · exact Nat.ne_of_lt y1
          · rcases List.mem_cons.mp hq with rfl | hq
            · exact Nat.ne_of_lt y2
            · exact Nat.ne_of_lt (y4 q hq)
        · exact .inl hp
      · rcases List.mem_append.mp hx with hx | hx
        · exact .tail _ (h1 x hx)
        · rw [List.mem_singleton.mp hx]; exact .head _
      · rw [List.map_append, h2, List.map_singleton, k1]
        have : abc[i]? = some ⟨#[c]⟩ := by
          unfold abc; rw [List.getElem?_map, Array.getElem?_toList, hcx]; rfl
        rw [take_snoc' this]
      · rcases List.mem_append.mp hx with hx | hx
        · exact h3 x hx
        · rw [List.mem_singleton.mp hx, k2, k3, Int.fmod_eq_emod_of_nonneg _ (by decide), Int.fmod_eq_emod_of_nonneg _ (by decide)]
          omega
      · rcases List.mem_cons.mp hp with rfl | hp
        · exact y4 q (hsub q (hnx ▸ List.mem_append_right _ (.tail _ hq)))
        · exact h4 q hq p hp
    case done2 =>
      rintro D h tk ys nx ⟨es, tl', rfl, rfl, h1, h2, h3, h4⟩ F2 N2 ho
      (try k_fold)
      walk_at "MY steps"
      refine go_on ?_
      rw [hcl] at h2
      have hnda : (abc.take 7).Nodup := by decide +kernel
      have hoka : ∀ c ∈ abc.take 7, PyData.strOk c = true := by decide +kernel
      have hl7 : es.length = 7 := by have := congrArg List.length h2; rw [List.length_map] at this; rw [this]; decide
      refine sort_jb (xs := es) (n := (es.map Jb.v).length) F2 N2 (.head _) (fun e he => .tail _ (List.mem_append_left _ (h1 e he))) (by omega) (by omega) (by rw [h2]; exact hnda) fun D2 js e9 h9 hp hs F9 N9 hlt => ?_
      dsimp only
      walk_at "MY steps"
      refine go_on ?_
      refine leaveK_ F9 (news' := (D2, jbs js e9) :: (tl' ++ news)) (fun p hp => ?_) fun F10 N10 => ret D2 js e9 _ _ tl' F10 N10 (fun q hq => hlt q (.tail _ (List.mem_append_right _ (.tail _ hq)))) h4 (fun e he => h1 e (hp.mem_iff.mp he)) (by rw [hp.length_eq]; exact hl7) (((hp.map _).nodup_iff).mpr (by rw [h2]; exact hnda)) (fun x hx => h3 x (hp.mem_iff.mp hx)) (hs.imp fun q => le_i' q) (fun x hx => hoka _ (by rw [← h2]; exact List.mem_map_of_mem (f := fun x : Jb => x.c) (hp.mem_iff.mp hx)))
      rcases List.mem_cons.mp hp with rfl | hp
      · exact N9 _ (.head _)
      · rcases List.mem_append.mp hp with hp | hp
        · exact N9 _ (.tail _ (.tail _ (List.mem_append_left _ hp)))
        · exact N9 _ (.tail _ (.tail _ (List.mem_append_right _ (.tail _ hp))))


section
theorem filter_le {α : Type} {p q : α → Bool} : ∀ {l : List α}, (∀ x ∈ l, p x = true → q x = true) → (l.filter p).length ≤ (l.filter q).length
  | [], _ => Nat.le_refl _
  | x :: l, h => by
    have ih := filter_le (p := p) (q := q) (l := l) fun y hy => h y (.tail _ hy)
    by_cases hp : p x = true
    · rw [List.filter_cons_of_pos hp, List.filter_cons_of_pos (h x (.head _) hp)]; simpa using ih
    · rw [List.filter_cons_of_neg hp]
      by_cases hq : q x = true
      · rw [List.filter_cons_of_pos hq]; exact Nat.le_succ_of_le ih
      · rw [List.filter_cons_of_neg hq]; exact ih
theorem filter_lt {α : Type} {p q : α → Bool} {j : α} : ∀ {l : List α}, (∀ x ∈ l, p x = true → q x = true) → j ∈ l → q j = true → ¬ p j = true → (l.filter p).length < (l.filter q).length
  | x :: l, h, hj, hq, hp => by
    have ih := filter_le (p := p) (q := q) (l := l) fun y hy => h y (.tail _ hy)
    rcases List.mem_cons.mp hj with rfl | hj
    · rw [List.filter_cons_of_neg hp, List.filter_cons_of_pos hq]; exact Nat.lt_succ_of_le ih
    · have ih2 := filter_lt (l := l) (fun y hy => h y (.tail _ hy)) hj hq hp
      by_cases hpx : p x = true
      · rw [List.filter_cons_of_pos hpx, List.filter_cons_of_pos (h x (.head _) hpx)]; simpa using ih2
      · rw [List.filter_cons_of_neg hpx]
        by_cases hqx : q x = true
        · rw [List.filter_cons_of_pos hqx]; exact Nat.lt_succ_of_lt ih2
        · rw [List.filter_cons_of_neg hqx]; exact ih2
theorem Inv.missing {js : List Jb} {os us qs : List Pr} {ls : List (Int × Int)} {w : Int} {j : Jb} (I : Inv js os us qs ls w) (hn : (js.map (·.c)).Nodup) (hj : j ∈ js) (hc : j.c ∉ os.map (·.c)) : inTime (os.map (·.c) ++ [j.c]) js 0 = false := by
  cases e : inTime (os.map (·.c) ++ [j.c]) js 0 with
  | false => rfl
  | true =>
    exfalso
    have h1 := I.best.2.1 _ (I.cov _ e)
    have h2 := filter_keys I.sub hn
    have e1 : (os.map Pr.key).map (·.2) = os.map (·.c) := by rw [List.map_map]; rfl
    rw [e1] at h2
    have h3 : (js.filter fun x => isIn (os.map (·.c)) x.c).length = os.length := by
      have := congrArg List.length h2; rw [List.length_map, List.length_map] at this; exact this
    have h4 := filter_lt (p := fun x : Jb => isIn (os.map (·.c)) x.c) (q := fun x : Jb => isIn (os.map (·.c) ++ [j.c]) x.c) (fun x _ hx => by
      rw [isIn_iff] at hx ⊢; exact List.mem_append_left _ hx) hj (by rw [isIn_iff]; exact List.mem_append_right _ (.head _)) (by rw [isIn_iff]; exact hc)
    have h5 : (cnt (os.map (·.c) ++ [j.c]) js) = ((js.filter fun x => isIn (os.map (·.c) ++ [j.c]) x.c).length : Int) := rfl
    dsimp only at h1
    rw [h5] at h1
    omega
/-- two rising lists of the same pairs, names all different, are one -/
theorem rising_one : ∀ {a b : List Pr}, a.Perm b → (b.map (·.c)).Nodup → a.Pairwise le → b.Pairwise le → a = b
  | [], b, h, _, _, _ => (List.nil_perm.mp h).symm
  | x :: a, [], h, _, _, _ => absurd h.length_eq (by simp)
  | x :: a, y :: b, h, hn, h1, h2 => by
    have p1 := List.pairwise_cons.mp h1
    have p2 := List.pairwise_cons.mp h2
    have hx : x ∈ y :: b := h.mem_iff.mp (.head _)
    have hy : y ∈ x :: a := h.mem_iff.mpr (.head _)
    have e : x = y := by
      refine least_one hn hx (.head _) ?_ ?_
      · rcases List.mem_cons.mp hy with e | hy
        · rw [e]; exact le_refl _
        · exact p1.1 y hy
      · rcases List.mem_cons.mp hx with e | hx
        · rw [e]; exact le_refl _
        · exact p2.1 x hx
    subst e
    rw [rising_one (List.Perm.cons_inv h) (List.nodup_cons.mp hn).2 p1.2 p2.2]
end

local macro_rules | `(tactic| walk_at "call ref") => `(tactic| (k_here; (with_reducible show wpAny _ _ (call (Value.ref 61) _) _ _ _); refine stop_here ?_))
local macro_rules | `(tactic| walk_at "call ref") => `(tactic| (k_here; (with_reducible show wpAny _ _ (call (Value.ref 92) _) _ _ _); refine stop_here ?_))
local macro_rules | `(tactic| walk_at "call ref") => `(tactic| (k_here; (with_reducible show wpAny _ _ (call (Value.ref 85) _) _ _ _); refine stop_here ?_))
local macro_rules | `(tactic| walk_at "call ref") => `(tactic| (k_here; (with_reducible show wpAny _ _ (call (Value.ref 28) _) _ _ _); refine stop_here ?_))
local macro_rules | `(tactic| walk_at "MY rm") => `(tactic| first | omega | decide | (dsimp only [callerA, Ar, Around.deeper, Around.in1, Around.mark]; omega) | (simp [callerA]; done))
local macro_rules | `(tactic| walk_at "MY step1") => `(tactic| (first | (k_unfold; (try dsimp only)) | (k_end; wrow_close) | (walk1; all_goals (try dsimp only)) | (dsimp only; walk1) | (leave1; try dsimp only) | fail "no step"))
local macro_rules | `(tactic| walk_at "compareOp NotEq ref ref") => `(tactic| (k_here; refine stop_here ?_))
local macro_rules | `(tactic| walk_at "compareOp Eq ref ref") => `(tactic| (k_here; refine stop_here ?_))
theorem cell_ne {h₀ h : Heap} {L : Addr} {news : List (Addr × Obj)} {c a : Addr} {oc o : Obj} {v : Option Value} {xs : Array Value} {k : Nat} (N : News h₀ L h news) (hc : (c, oc) ∈ news) (hd : oc.data = .cell v) (ha : (a, o) ∈ news) (hs : o.data = .seq xs k) : a ≠ c := fun e => by
  have h1 := (N _ hc).1
  have h2 := (N _ ha).1
  simp only [e] at h2
  rw [h1] at h2
  cases h2
  rw [hd] at hs
  cases hs
theorem law_ledger {h₀ h : Heap} {L : Addr} {c1 c2 R o u q J : Addr} {o1 o2 : Obj} {v1 v2 : Option Value} {os us qs : List Pr} {n1 n2 n3 nj : Nat} {js : List Jb} {tlj nx : List (Addr × Obj)}
    (N : News h₀ L h ((R, { cls := .type "tuple", data := .seq #[.ref o, .ref u, .ref q] }) :: (o, prs os n1) :: (u, prs us n2) :: (q, prs qs n3) :: nx)) (to : ∀ p ∈ nx, p.1 ≠ o) (tu : ∀ p ∈ nx, p.1 ≠ u) (tq : ∀ p ∈ nx, p.1 ≠ q) (tR : ∀ p ∈ nx, p.1 ≠ R)
    (nw : ∀ p ∈ (c1, o1) :: (c2, o2) :: (J, jbs js nj) :: tlj, p ∈ nx) (ms : ∀ e ∈ os, (e.a, e.obj) ∈ nx) (xj : ∀ e ∈ js, (e.a, e.obj) ∈ tlj) (d1 : o1.data = .cell v1) (d2 : o2.data = .cell v2) (cj1 : ∀ p ∈ tlj, c1 < p.1) (cj2 : ∀ p ∈ tlj, c2 < p.1) :
    ∃ tl, (∀ e ∈ os, (e.a, e.obj) ∈ tl) ∧ (J, jbs js nj) ∈ tl ∧ (∀ e ∈ js, (e.a, e.obj) ∈ tl) ∧ News h₀ L h ((c1, o1) :: (c2, o2) :: (R, { cls := .type "tuple", data := .seq #[.ref o, .ref u, .ref q] }) :: (o, prs os n1) :: (u, prs us n2) :: (q, prs qs n3) :: tl) ∧
      (@Ne Nat R c1 ∧ @Ne Nat o c1 ∧ @Ne Nat u c1 ∧ @Ne Nat q c1) ∧ (@Ne Nat R c2 ∧ @Ne Nat o c2 ∧ @Ne Nat u c2 ∧ @Ne Nat q c2) ∧
      (∀ p ∈ tl, p.1 ≠ c1) ∧ (∀ p ∈ tl, p.1 ≠ c2) ∧ (∀ p ∈ tl, p.1 ≠ R) ∧ (∀ p ∈ tl, p.1 ≠ o) ∧ (∀ p ∈ tl, p.1 ≠ u) ∧ ∀ p ∈ tl, p.1 ≠ q := by
  have m1 := nw _ (.head _)
  have m2 := nw _ (.tail _ (.head _))
  have mJ := nw _ (.tail _ (.tail _ (.head _)))
  have up : ∀ {p}, p ∈ nx → p ∈ (R, ({ cls := .type "tuple", data := .seq #[.ref o, .ref u, .ref q] } : Obj)) :: (o, prs os n1) :: (u, prs us n2) :: (q, prs qs n3) :: nx := fun hp => .tail _ (.tail _ (.tail _ (.tail _ hp)))
  have e1 : ∀ a ob xs k, (a, ob) ∈ (R, ({ cls := .type "tuple", data := .seq #[.ref o, .ref u, .ref q] } : Obj)) :: (o, prs os n1) :: (u, prs us n2) :: (q, prs qs n3) :: nx → ob.data = .seq xs k → a ≠ c1 := fun a ob xs k ha hs => cell_ne N (up m1) d1 ha hs
  have e2 : ∀ a ob xs k, (a, ob) ∈ (R, ({ cls := .type "tuple", data := .seq #[.ref o, .ref u, .ref q] } : Obj)) :: (o, prs os n1) :: (u, prs us n2) :: (q, prs qs n3) :: nx → ob.data = .seq xs k → a ≠ c2 := fun a ob xs k ha hs => cell_ne N (up m2) d2 ha hs
  have inx : ∀ p ∈ os.map (fun e => (e.a, e.obj)) ++ (J, jbs js nj) :: tlj, p ∈ nx := fun p hp => by
    rcases List.mem_append.mp hp with hp | hp
    · obtain ⟨e, he, rfl⟩ := List.mem_map.mp hp; exact ms e he
    · exact nw p (.tail _ (.tail _ hp))
  refine ⟨os.map (fun e => (e.a, e.obj)) ++ (J, jbs js nj) :: tlj, fun e he => List.mem_append_left _ (List.mem_map_of_mem (f := fun e : Pr => (e.a, e.obj)) he), List.mem_append_right _ (.head _), fun e he => List.mem_append_right _ (.tail _ (xj e he)), fun p hp => ?_,
    ⟨e1 _ _ _ _ (.head _) rfl, e1 _ _ _ _ (.tail _ (.head _)) rfl, e1 _ _ _ _ (.tail _ (.tail _ (.head _))) rfl, e1 _ _ _ _ (.tail _ (.tail _ (.tail _ (.head _)))) rfl⟩,
    ⟨e2 _ _ _ _ (.head _) rfl, e2 _ _ _ _ (.tail _ (.head _)) rfl, e2 _ _ _ _ (.tail _ (.tail _ (.head _))) rfl, e2 _ _ _ _ (.tail _ (.tail _ (.tail _ (.head _)))) rfl⟩,
    fun p hp => ?_, fun p hp => ?_, fun p hp => tR p (inx p hp), fun p hp => to p (inx p hp), fun p hp => tu p (inx p hp), fun p hp => tq p (inx p hp)⟩
  · rcases List.mem_cons.mp hp with rfl | hp; · exact N _ (up m1)
    rcases List.mem_cons.mp hp with rfl | hp; · exact N _ (up m2)
    rcases List.mem_cons.mp hp with rfl | hp; · exact N _ (.head _)
    rcases List.mem_cons.mp hp with rfl | hp; · exact N _ (.tail _ (.head _))
    rcases List.mem_cons.mp hp with rfl | hp; · exact N _ (.tail _ (.tail _ (.head _)))
    rcases List.mem_cons.mp hp with rfl | hp; · exact N _ (.tail _ (.tail _ (.tail _ (.head _))))
    exact N _ (up (inx p hp))
  · rcases List.mem_append.mp hp with hp | hp
    · obtain ⟨e, he, rfl⟩ := List.mem_map.mp hp; exact e1 _ _ _ _ (up (ms e he)) rfl
    · rcases List.mem_cons.mp hp with rfl | hp
      · exact e1 _ _ _ _ (up mJ) rfl
      · exact Nat.ne_of_gt (cj1 p hp)
  · rcases List.mem_append.mp hp with hp | hp
    · obtain ⟨e, he, rfl⟩ := List.mem_map.mp hp; exact e2 _ _ _ _ (up (ms e he)) rfl
    · rcases List.mem_cons.mp hp with rfl | hp
      · exact e2 _ _ _ _ (up mJ) rfl
      · exact Nat.ne_of_gt (cj2 p hp)
theorem mem4 {α : Type} {a b c d : α} {l r : List α} (h : r = a :: b :: c :: d :: l) : d ∈ r := by rw [h]; exact .tail _ (.tail _ (.tail _ (.head _)))
theorem mem3 {α : Type} {a b c : α} {l r : List α} (h : r = a :: b :: c :: l) : c ∈ r := by rw [h]; exact .tail _ (.tail _ (.head _))
theorem split_u {h₀ h : Heap} {L : Addr} {x1 x2 x3 x4 x5 x6 x7 xu : Addr × Obj} {tl : List (Addr × Obj)} (N : News h₀ L h (x1 :: x2 :: x3 :: x4 :: x5 :: x6 :: xu :: x7 :: tl)) :
    ∃ r, r = x1 :: x2 :: x3 :: x4 :: x5 :: x6 :: x7 :: tl ∧ News h₀ L h (xu :: r) := ⟨_, rfl, nsub N fun p hp => by
  simp only [List.mem_cons] at hp ⊢
  rcases hp with h | h | h | h | h | h | h | h | h <;> simp [h]⟩
theorem split_q {h₀ h : Heap} {L : Addr} {x1 x2 x3 x4 x5 x6 xq : Addr × Obj} {tl r1 all : List (Addr × Obj)} (N : News h₀ L h all) (hr : r1 = x1 :: x2 :: x3 :: x4 :: x5 :: x6 :: xq :: tl) (hs : ∀ p ∈ r1, p ∈ all) :
    ∃ r, r = x1 :: x2 :: x3 :: x4 :: x5 :: x6 :: tl ∧ News h₀ L h (xq :: r) := ⟨_, rfl, nsub N fun p hp => hs p (by
  rw [hr]
  simp only [List.mem_cons] at hp ⊢
  rcases hp with h | h | h | h | h | h | h | h <;> simp [h])⟩
theorem fz : PySem.Challenge.rw_ir0004_01.Holds := Mine.lawTop (by
  k_go0
  all_goals try k_fold
  walk_at "MY steps"
  refine go_on ?_
  rename IntsAre _ _ => hI
  rename Heap.IsList _ _ _ => hLs
  rename (¬ ((63 : Nat) : Int) < _) => h63
  rename Fr _ _ _ _ => F1
  rename News _ _ _ _ => N1
  rename CellsAre _ _ _ => hX0
  rename_i h1 tk1 o1 o2 d1 d2
  clear hX0
  k_dflt (refine' jobs_spec ?zqB1 F1 ?zqX1 N1 ?zqT1 rfl rfl ?zqd1 ?zqu1 hLs hI (by omega) ?_)
  case zqB1 => k_asm
  case zqX1 => k_asm
  case zqT1 => k_asm
  case zqd1 => walk_at "MY rm"
  case zqu1 => walk_at "MY rm"
  intro J js nj h2 tk2 tlj F2 N2 q1 q2 xj hj7 jnd jpos jdue jok
  have NJ : News _ _ _ ((_, o1) :: (_, o2) :: (J, jbs js nj) :: tlj) := nsub N2 fun p hp => by
    rcases List.mem_cons.mp hp with rfl | hp; · exact .tail _ (List.mem_append_right _ (.head _))
    rcases List.mem_cons.mp hp with rfl | hp; · exact .tail _ (List.mem_append_right _ (.tail _ (.head _)))
    rcases List.mem_cons.mp hp with rfl | hp; · exact .head _
    exact .tail _ (List.mem_append_left _ hp)
  have cj1 := q2 _ (.head _)
  have cj2 := q2 _ (.tail _ (.head _))
  clear F1 N1 N2
  (try dsimp only)
  walk_at "MY steps"
  refine go_on ?_
  rename Fr _ _ _ _ => F3
  rename News _ _ _ _ => N3
  k_dflt (refine' kept_spec (js := js) (n := nj) ?zqB2 F3 ?zqX2 N3 ?zqT2 rfl rfl ?zqm2 ?zqx2 ?zqz2 ?zqd2 ?zqu2 jnd (fun x hx => by have := (jpos x hx).1; omega) jdue (fun x hx => by have := (jpos x hx).2; omega) jok ?_)
  case zqB2 => k_asm
  case zqX2 => k_asm
  case zqT2 => k_asm
  case zqm2 => k_mem
  case zqx2 => exact fun e he => .tail _ (.tail _ (.tail _ (xj e he)))
  case zqz2 => omega
  case zqd2 => walk_at "MY rm"
  case zqu2 => walk_at "MY rm"
  intro R o u q os us qs n1 n2 n3 ks wv h3 tk3 nx F4 N4 ou oq uq oR uR qR to tu tq tR nw ms inv
  obtain ⟨tl, ks1, kJ, ks2, N5, ⟨a1, a2, a3, a4⟩, ⟨b1, b2, b3, b4⟩, w1, w2, w3, w4, w5, w6⟩ := law_ledger N4 to tu tq tR nw ms xj d1 d2 cj1 cj2
  clear N4 N3 nw
  (try dsimp only)
  walk_at "MY steps"
  refine go_on ?_
  refine asg_open (by with_unfolding_all rfl) (by with_unfolding_all rfl) (by rfl) (by decide) ?_
  walk_at "MY steps"
  refine go_on ?_
  rename Fr _ _ _ _ => F6
  rename News _ _ _ _ => N6
  rename (_ = Data.cell (some (Value.ref u))) => d5
  rename (_ = Data.cell (some (Value.ref q))) => d6
  rename_i p1 hz9 p2
  have hsub7 : os.length ≤ 7 := by have := inv.sub.length_le; simp at this; omega
  obtain ⟨led, hled, N7⟩ : ∃ led, led = _ ∧ News _ _ _ led := ⟨_, rfl, N6⟩
  have mo : (o, prs os n1) ∈ led := by rw [hled]; k_mem
  have mos : ∀ e ∈ os, (e.a, e.obj) ∈ led := fun e he => by rw [hled]; have := ks1 e he; k_mem
  refine comp_use (vs := os.map Pr.v) (nn := n1) (M2 := fun i m => ∀ e, os[i]? = some e → m (Str.ofString "length") = some (.int e.i e.ti) ∧ m (Str.ofString "name") = some (.str e.c e.tc))
    (fun i ys nx => nx = led ∧ ys = List.map sv ((os.take i).map fun e => (e.c, e.tc))) rfl F6 N7 ⟨rfl, rfl⟩ ?zk ?zs ?zc ?zf ?zl ?zy ?zp ?za ?zt ?zd
  case zs => rw [List.length_map, sizeLine_eq]; omega
  case zc => decide
  case zf => rfl
  case zl => rfl
  case zy => rfl
  case zp => rfl
  case zk =>
    rintro i ys nx ⟨rfl, _⟩
    exact mo
  case za =>
    rintro i v ys nx C m₂ s₂ Q' E'' hv ⟨rfl, _⟩ N8 hn hQ
    obtain ⟨e, he, rfl⟩ := item_of hv
    refine asg_pair rfl (by rfl) (by rfl) (by rfl) (by decide) N8 (mos e (List.mem_of_getElem? he)) rfl rfl hn fun h' tk m₃ h3 e1 e2 hk => hQ h' tk m₃ h3 (fun e' he' => ?_) hk
    rw [he] at he'; cases he'; exact ⟨e1, e2⟩
  case zt =>
    rintro i v ys nx I oI C oC D m₂ h tk hv ⟨rfl, rfl⟩ hC hM F8 N8 ho ⟨nIC, nID, nCD⟩
    obtain ⟨e, he, rfl⟩ := item_of hv
    obtain ⟨e1, e2⟩ := hM e he
    intro E''
    refine wpAny_tests_nil ?_
    (try k_fold)
    walk_at "MY steps"
    refine go_on ?_
    refine CEnd.intro (news' := nx) F8 N8 (.head _) (.tail _ (.head _)) (.tail _ (.tail _ (.head _))) (fun p hp => .tail _ (.tail _ (.tail _ hp))) ho ⟨rfl, ?_⟩
    rw [take_snoc he]; simp
  case zd =>
    rintro D h tk ys nx ⟨hnx, hys⟩ F8 N8 ho
    rw [List.length_map, List.take_length] at hys
    rw [hnx, hys] at N8
    rw [hnx] at ho
    clear hnx hys
    generalize hnm : (os.map fun e => (e.c, e.tc)) = nms at *
    have hnm1 : nms.map (·.1) = os.map (·.c) := by rw [← hnm, List.map_map]; rfl
    have mJ : (J, jbs js nj) ∈ led := by rw [hled]; k_mem
    have mjs : ∀ e ∈ js, (e.a, e.obj) ∈ led := fun e he => by rw [hled]; have := ks2 e he; k_mem
    (try k_fold)
    walk_at "MY steps"
    refine go_on ?_
    rename Fr _ _ _ _ => F9
    rename News _ _ _ _ => N9
    have ht : inTime (nms.map (·.1)) js 0 = true := by rw [hnm1]; exact inv.time
    k_dflt (refine' time_spec (js := js) (n := nj) (ns := nms) (nn := (List.map sv nms).length) ?yB F9 ?yX N9 ?yT rfl rfl ?ym ?yn ?yx ?yd ?yu ?_)
    case yB => k_asm
    case yX => k_asm
    case yT => k_asm
    case ym => exact .tail _ mJ
    case yn => exact .head _
    case yx => exact fun e he => .tail _ (mjs e he)
    case yd => walk_at "MY rm"
    case yu => walk_at "MY rm"
    intro h9 tk9 F10 N10
    rw [ht]
    clear F9 N9
    (try dsimp only)
    walk_at "MY steps"
    refine go_on ?_
    refine wpAny_For ?_
    walk_at "MY steps"
    refine go_on ?_
    rename Fr _ _ _ _ => F11
    rename News _ _ _ _ => N11
    refine for_state (σ := Unit) (vs := js.map Jb.v) (nn := nj) (fun _ => (D, sts nms (List.map sv nms).length) :: led) (fun _ => [(Str.ofString "jobs", .ref J), (Str.ofString "names", .ref D), (Str.ofString "own", .ref o)]) [Str.ofString "due", Str.ofString "name", Str.ofString "length"] (fun _ _ => True) () rfl F11 N11 (fun _ h => h) ?xk trivial (fun _ _ _ => .tail _ mJ) ?xt ?xd ?xE
    case xE => passes_own
    case xk =>
      intro p hp
      rcases List.mem_cons.mp hp with rfl | hp; · rfl
      rcases List.mem_cons.mp hp with rfl | hp; · rfl
      rcases List.mem_cons.mp hp with rfl | hp; · rfl
      cases hp
    case xt =>
      intro i v c uu h2 tk2 It io hv _ ho2 F12 N12
      obtain ⟨x, hxi, rfl⟩ := jb_of hv
      have hxm := List.mem_of_getElem? hxi
      have hxr := mjs x hxm
      dsimp only [kstB] at F12 N12
      (try k_fold)
      walk_at "MY steps"
      · refine go_on ?_
        rename Fr _ _ _ _ => F13
        rename News _ _ _ _ => N13
        refine s_end () F13 N13 (.head _) (fun p hp => .tail _ hp) ho2 ?_ ?_ trivial
        · intro p hp
          rcases List.mem_cons.mp hp with rfl | hp; · rfl
          rcases List.mem_cons.mp hp with rfl | hp; · rfl
          rcases List.mem_cons.mp hp with rfl | hp; · rfl
          cases hp
        · ksw_same
      · rename Fr _ _ _ _ => F13
        rename News _ _ _ _ => N13
        rename (List.any nms _ = false) => hna
        rename_i S13 _ l13
        have hxc : x.c ∉ os.map (·.c) := fun hm => by
          rw [← hnm1] at hm
          obtain ⟨y, hy, e⟩ := List.mem_map.mp hm
          have hh := List.any_eq_false.mp hna y hy
          exact hh (by simpa using e)
        have hmiss := inv.missing jnd hxm hxc
        have hmiss2 : inTime ((nms ++ [(x.c, x.tc)]).map (·.1)) js 0 = false := by rw [List.map_append, hnm1]; exact hmiss
        have hnl : nms.length ≤ 7 := by have := congrArg List.length hnm1; rw [List.length_map, List.length_map] at this; omega
        refine add_lists (vs := nms.map sv) (ws := [.str x.c x.tc]) F13 N13 ⟨_, (N13 (D, _) (.tail _ (.tail _ (.head _)))).1, rfl, _, rfl⟩ ⟨_, (N13 _ (.head _)).1, rfl, _, rfl⟩ (fun h14 F14 N14 => ?_) (by rw [sizeLine_eq, List.length_map]; simp; omega)
        rw [show List.map sv nms ++ [Value.str x.c x.tc] = List.map sv (nms ++ [(x.c, x.tc)]) by simp] at N14
        clear F13 N13
        dsimp only
        walk_at "MY steps"
        refine go_on ?_
        rename Fr _ _ _ _ => F15
        rename News _ _ _ _ => N15
        k_dflt (refine' time_spec (js := js) (n := nj) (ns := nms ++ [(x.c, x.tc)]) (nn := 0) ?wB F15 ?wX N15 ?wT rfl rfl ?wm ?wn ?wx ?wd ?wu ?_)
        case wB => k_asm
        case wX => k_asm
        case wT => k_asm
        case wm => k_mem
        case wn => exact .head _
        case wx => exact fun e he => by have := mjs e he; k_mem
        case wd => walk_at "MY rm"
        case wu => walk_at "MY rm"
        intro h16 tk16 F16 N16
        rw [hmiss2]
        clear F15 N15
        (try dsimp only)
        walk_at "MY steps"
        refine go_on ?_
        rename Fr _ _ _ _ => F17
        rename News _ _ _ _ => N17
        refine s_end () F17 N17 (.tail _ (.tail _ (.head _))) (fun p hp => .tail _ (.tail _ (.tail _ hp))) ho2 ?_ ?_ trivial
        · intro p hp
          rcases List.mem_cons.mp hp with rfl | hp; · rfl
          rcases List.mem_cons.mp hp with rfl | hp; · rfl
          rcases List.mem_cons.mp hp with rfl | hp; · rfl
          cases hp
        · ksw_same
    case xd =>
      intro c uu h2 tk2 _ F12 N12
      dsimp only [kstB] at F12 N12
      rw [hled] at N12
      rw [hled] at ho
      have hndo := names_nodup inv.sub jnd
      have hoko : ∀ e ∈ os, PyData.strOk e.c = true := fun e he => by
        obtain ⟨x, hx, e1⟩ := List.mem_map.mp (inv.sub.subset (List.mem_map_of_mem (f := Pr.key) he))
        have e2 : x.c = e.c := congrArg Prod.snd e1
        rw [← e2]; exact jok x hx
      (try k_fold)
      walk_at "MY steps"
      refine go_on ?_
      refine sort_prs (xs := os) (n := n1) F12 N12 (by k_mem) (fun e he => by have := ks1 e he; k_mem) (by omega) hndo fun D2 rs e1 h13 hpr hsr F13 N13 hlt13 => ?_
      clear N12
      dsimp only
      walk_at "MY steps"
      refine go_on ?_
      refine comp_open (by with_unfolding_all rfl) (by rfl) (by decide) ?_
      walk_at "MY steps"
      refine go_on ?_
      rename Fr _ _ _ _ => F14
      rename News _ _ _ _ => N14
      have hDu : @Ne Nat D u := fun e => ho (u, prs us n2) (by k_mem) e.symm
      have hDq : @Ne Nat D q := fun e => ho (q, prs qs n3) (by k_mem) e.symm
      have hD2u : @LT.lt Nat _ u D2 := hlt13 (u, prs us n2) (by k_mem)
      have hD2q : @LT.lt Nat _ q D2 := hlt13 (q, prs qs n3) (by k_mem)
      obtain ⟨rest, hrest, N15⟩ := split_u N14
      have mcu := mem4 hrest
      have mo3 : (o, prs os n1) ∈ rest := by rw [hrest]; k_mem
      have mr3 : (D2, prs rs e1) ∈ rest := by rw [hrest]; k_mem
      have mos3 : ∀ e ∈ os, (e.a, e.obj) ∈ rest := fun e he => by rw [hrest]; have := ks1 e he; k_mem
      have hrsx : ∀ e ∈ rs, (e.a, e.obj) ∈ rest := fun e he => mos3 e (hpr.mem_iff.mp he)
      have hoks : ∀ e ∈ rs, PyData.strOk e.c = true := fun e he => hoko e (hpr.mem_iff.mp he)
      have hru : ∀ p ∈ rest, p.1 ≠ u := by
        rw [hrest]
        refine List.forall_mem_cons.mpr ⟨Nat.ne_of_gt hD2u, List.forall_mem_cons.mpr ⟨hDu, List.forall_mem_cons.mpr ⟨Ne.symm a3, List.forall_mem_cons.mpr ⟨Ne.symm b3, List.forall_mem_cons.mpr ⟨Nat.ne_of_gt uR, List.forall_mem_cons.mpr ⟨ou, List.forall_mem_cons.mpr ⟨Ne.symm uq, w5⟩⟩⟩⟩⟩⟩⟩
      refine comp_core (vs := os.map Pr.v) (nn := n1) (M2 := fun _ _ => True)
        (fun i ys nx => ∃ us' n' ts, nx = (u, prs us' n') :: rest ∧ Heap' us' ∧ ys = List.map Pr.v ts ∧ (ts ++ us').Perm os ∧ ts.Pairwise le ∧ (∀ a ∈ ts, ∀ b ∈ us', le a b) ∧ ts.length = i)
        rfl F14 N15 ⟨us, n2, [], rfl, inv.hu, rfl, inv.pu, .nil, (fun _ h => nomatch h), rfl⟩ ?cuk ?cus (by decide) (by rfl) ?cua ?cut ?cud
      case cus => rw [List.length_map, sizeLine_eq]; omega
      case cuk =>
        rintro i ys nx ⟨us', n', ts, rfl, _⟩
        exact .tail _ mo3
      case cua =>
        intro i v ys nx C m₂ s₂ Q' E'' hv _ N8 hn hQ
        exact asg_name (by rfl) (by rfl) hn fun h' tk m₃ h3 e1 hk => hQ h' tk m₃ h3 trivial hk
      case cut =>
        rintro i v ys nx I oI C oC D' m₂ h tk hv ⟨us', n', ts, hnx, hh, rfl, hp, hs, hl, hlen⟩ hC _ F16 N16 ho16 ⟨nIC, nID, nCD⟩
        have hi : i < os.length := by have := (List.getElem?_eq_some_iff.mp hv).1; rw [List.length_map] at this; exact this
        have hlp : ts.length + us'.length = os.length := by rw [← List.length_append]; exact hp.length_eq
        have hpos : 0 < us'.length := by omega
        have hu0 := ho16 (u, prs us' n') (hnx ▸ .head _)
        have hu1 : @Ne Nat u I := hu0.1
        have hu2 : @Ne Nat u C := hu0.2.1
        have hu3 : @Ne Nat u D' := hu0.2.2
        subst hnx
        intro E''
        refine wpAny_tests_nil ?_
        (try k_fold)
        walk_at "MY steps"
        refine go_on ?_
        k_dflt (refine' pop_law (xs := us') ?cu1 F16 ?cu2 N16 ?cu3 rfl rfl ?cu4 ?cu5 ?cu6 ?cu7 ?cu8 hh hpos ?_)
        case cu1 => k_asm
        case cu2 => k_asm
        case cu3 => k_asm
        case cu4 => k_updF
        case cu5 => exact fun e he => by have := mos3 e (hp.mem_iff.mp (List.mem_append_right _ he)); k_mem
        case cu6 => omega
        case cu7 => walk_at "MY rm"
        case cu8 => walk_at "MY rm"
        intro f ws h17 tk17 hw hpw hlf F17 N17
        (try dsimp only at N17)
        (try dsimp only)
        have hfm : f ∈ us' := hpw.mem_iff.mp (.head _)
        refine CEnd.intro (news' := (u, prs ws (n' + 1)) :: rest) F17 N17 (.head _) (.tail _ (.head _)) (.tail _ (.tail _ (.head _))) (fun p hp => .tail _ (.tail _ (.tail _ hp))) (fun p hp => ?_) ⟨ws, n' + 1, ts ++ [f], rfl, hw, by simp, ?_, ?_, ?_, by simp [hlen]⟩
        · rcases List.mem_cons.mp hp with rfl | hp
          · exact hu0
          · exact ho16 p (.tail _ hp)
        · rw [List.append_assoc]; exact (hpw.append_left ts).trans hp
        · exact List.pairwise_append.mpr ⟨hs, List.pairwise_singleton _ _, fun a ha b hb => by rw [List.mem_singleton.mp hb]; exact hl a ha f hfm⟩
        · intro a ha b hb
          have hb' : b ∈ us' := hpw.mem_iff.mp (.tail _ hb)
          rcases List.mem_append.mp ha with ha | ha
          · exact hl a ha b hb'
          · rw [List.mem_singleton.mp ha]; exact hlf b hb'
      case cud =>
        rintro D3 h tk ys nx ⟨us', n', ts, hnx, hh, hys, hp, hs, hl, hlen⟩ F18 N18 ho18
        have hlp : ts.length + us'.length = os.length := by rw [← List.length_append]; exact hp.length_eq
        rw [List.length_map] at hlen
        obtain rfl : us' = [] := List.eq_nil_of_length_eq_zero (by omega)
        rw [List.append_nil] at hp
        obtain rfl : rs = ts := (rising_one (hp.trans hpr.symm) (((hpr.map _).nodup_iff).mpr hndo) hs hsr).symm
        rw [hnx, hys] at N18
        clear N13 N14 N15 F13 F14
        (try k_fold)
        dsimp only
        walk_at "MY steps"
        refine go_on ?_
        rename Fr _ _ _ _ => F19
        rename News _ _ _ _ => N19
        refine' prs_ne (xs := rs) (oa := LCg.lst (List.map Pr.v rs)) (ob := prs rs e1) (news := (D3, LCg.lst (List.map Pr.v rs)) :: (u, prs [] n') :: rest) ?na1 N19 (.head _) rfl rfl (List.mem_cons_of_mem _ (List.mem_cons_of_mem _ mr3)) rfl rfl (fun e he => List.mem_cons_of_mem _ (List.mem_cons_of_mem _ (hrsx e he))) hoks ?_
        case na1 => have hc9 := cLine_is; have h49 : callerA.units = 4 := rfl; simp only [units_deeper]; omega
        (try dsimp only)
        walk_at "MY steps"
        refine go_on ?_
        rename Fr _ _ _ _ => F20
        rename News _ _ _ _ => N20
        rename Addr => l9
        refine' prs_ne (xs := []) (oa := prs [] n') (ob := prs [] 0) ?na2 N20 (.tail _ (.tail _ (.head _))) rfl rfl (.head _) rfl rfl (fun _ h => nomatch h) (fun _ h => nomatch h) ?_
        case na2 => have hc9 := cLine_is; have h49 : callerA.units = 4 := rfl; simp only [units_deeper]; omega
        (try dsimp only)
        walk_at "MY steps"
        refine go_on ?_
        refine comp_open (by with_unfolding_all rfl) (by rfl) (by decide) ?_
        walk_at "MY steps"
        refine go_on ?_
        rename Fr _ _ _ _ => F21
        rename News _ _ _ _ => N21
        obtain ⟨rest4, hr4, N22⟩ := split_q N21 hrest (fun p hp => .tail _ (.tail _ (.tail _ hp)))
        (try clear N19); (try clear N20); (try clear N18); (try clear F19); (try clear F20); (try clear F18)
        have mcq := mem3 hr4
        have mo4 : (o, prs os n1) ∈ rest4 := by rw [hr4]; k_mem
        have mr4 : (D2, prs rs e1) ∈ rest4 := by rw [hr4]; k_mem
        have mos4 : ∀ e ∈ os, (e.a, e.obj) ∈ rest4 := fun e he => by rw [hr4]; have := ks1 e he; k_mem
        have hrsx4 : ∀ e ∈ rs, (e.a, e.obj) ∈ rest4 := fun e he => mos4 e (hpr.mem_iff.mp he)
        have hrq : ∀ p ∈ rest4, p.1 ≠ q := by
          rw [hr4]
          refine List.forall_mem_cons.mpr ⟨Nat.ne_of_gt hD2q, List.forall_mem_cons.mpr ⟨hDq, List.forall_mem_cons.mpr ⟨Ne.symm a4, List.forall_mem_cons.mpr ⟨Ne.symm b4, List.forall_mem_cons.mpr ⟨Nat.ne_of_gt qR, List.forall_mem_cons.mpr ⟨oq, w6⟩⟩⟩⟩⟩⟩
        refine comp_core (vs := os.map Pr.v) (nn := n1) (M2 := fun _ _ => True)
          (fun i ys nx => ∃ us' n' ts, nx = (q, prs us' n') :: rest4 ∧ Heap' us' ∧ ys = List.map Pr.v ts ∧ (ts ++ us').Perm os ∧ ts.Pairwise le ∧ (∀ a ∈ ts, ∀ b ∈ us', le a b) ∧ ts.length = i)
          rfl F21 N22 ⟨qs, n3, [], rfl, inv.hq, rfl, inv.pq, .nil, (fun _ h => nomatch h), rfl⟩ ?cvk ?cvs (by decide) (by rfl) ?cva ?cvt ?cvd
        case cvs => rw [List.length_map, sizeLine_eq]; omega
        case cvk =>
          rintro i ys nx ⟨us', n', ts, rfl, _⟩
          exact .tail _ mo4
        case cva =>
          intro i v ys nx C m₂ s₂ Q' E'' hv _ N8 hn hQ
          exact asg_name (by rfl) (by rfl) hn fun h' tk m₃ h3 e1 hk => hQ h' tk m₃ h3 trivial hk
        case cvt =>
          rintro i v ys nx I oI C oC D' m₂ h tk hv ⟨us', n', ts, hnx, hh, rfl, hp, hs, hl, hlen⟩ hC _ F16 N16 ho16 ⟨nIC, nID, nCD⟩
          have hi : i < os.length := by have := (List.getElem?_eq_some_iff.mp hv).1; rw [List.length_map] at this; exact this
          have hlp : ts.length + us'.length = os.length := by rw [← List.length_append]; exact hp.length_eq
          have hpos : 0 < us'.length := by omega
          have hu0 := ho16 (q, prs us' n') (hnx ▸ .head _)
          have hu1 : @Ne Nat q I := hu0.1
          have hu2 : @Ne Nat q C := hu0.2.1
          have hu3 : @Ne Nat q D' := hu0.2.2
          subst hnx
          intro E''
          refine wpAny_tests_nil ?_
          (try k_fold)
          walk_at "MY steps"
          refine go_on ?_
          k_dflt (refine' pop_law (xs := us') ?cv1 F16 ?cv2 N16 ?cv3 rfl rfl ?cv4 ?cv5 ?cv6 ?cv7 ?cv8 hh hpos ?_)
          case cv1 => k_asm
          case cv2 => k_asm
          case cv3 => k_asm
          case cv4 => k_updF
          case cv5 => exact fun e he => by have := mos4 e (hp.mem_iff.mp (List.mem_append_right _ he)); k_mem
          case cv6 => omega
          case cv7 => walk_at "MY rm"
          case cv8 => walk_at "MY rm"
          intro f ws h17 tk17 hw hpw hlf F17 N17
          (try dsimp only at N17)
          (try dsimp only)
          have hfm : f ∈ us' := hpw.mem_iff.mp (.head _)
          refine CEnd.intro (news' := (q, prs ws (n' + 1)) :: rest4) F17 N17 (.head _) (.tail _ (.head _)) (.tail _ (.tail _ (.head _))) (fun p hp => .tail _ (.tail _ (.tail _ hp))) (fun p hp => ?_) ⟨ws, n' + 1, ts ++ [f], rfl, hw, by simp, ?_, ?_, ?_, by simp [hlen]⟩
          · rcases List.mem_cons.mp hp with rfl | hp
            · exact hu0
            · exact ho16 p (.tail _ hp)
          · rw [List.append_assoc]; exact (hpw.append_left ts).trans hp
          · exact List.pairwise_append.mpr ⟨hs, List.pairwise_singleton _ _, fun a ha b hb => by rw [List.mem_singleton.mp hb]; exact hl a ha f hfm⟩
          · intro a ha b hb
            have hb' : b ∈ us' := hpw.mem_iff.mp (.tail _ hb)
            rcases List.mem_append.mp ha with ha | ha
            · exact hl a ha b hb'
            · rw [List.mem_singleton.mp ha]; exact hlf b hb'
        case cvd =>
          rintro D4 h tk ys nx ⟨us', n', ts, hnx, hh, hys, hp, hs, hl, hlen⟩ F18 N18 ho18
          have hlp : ts.length + us'.length = os.length := by rw [← List.length_append]; exact hp.length_eq
          rw [List.length_map] at hlen
          obtain rfl : us' = [] := List.eq_nil_of_length_eq_zero (by omega)
          rw [List.append_nil] at hp
          obtain rfl : rs = ts := (rising_one (hp.trans hpr.symm) (((hpr.map _).nodup_iff).mpr hndo) hs hsr).symm
          rw [hnx, hys] at N18
          clear N21 N22 F21
          (try k_fold)
          dsimp only
          walk_at "MY steps"
          refine go_on ?_
          rename Fr _ _ _ _ => F24
          rename News _ _ _ _ => N24
          refine' prs_eq (xs := rs) (oa := LCg.lst (List.map Pr.v rs)) (ob := prs rs e1) (news := (D4, LCg.lst (List.map Pr.v rs)) :: (q, prs [] n') :: rest4) ?na3 N24 (.head _) rfl rfl (List.mem_cons_of_mem _ (List.mem_cons_of_mem _ mr4)) rfl rfl (fun e he => List.mem_cons_of_mem _ (List.mem_cons_of_mem _ (hrsx4 e he))) hoks ?_
          case na3 => have hc9 := cLine_is; have h49 : callerA.units = 4 := rfl; simp only [units_deeper]; omega
          (try dsimp only)
          walk_at "MY steps"
          refine go_on ?_
          rename Fr _ _ _ _ => F25
          rename News _ _ _ _ => N25
          rename Addr => l8
          refine' prs_eq (xs := []) (oa := prs [] n') (ob := prs [] 0) ?na4 N25 (.tail _ (.tail _ (.head _))) rfl rfl (.head _) rfl rfl (fun _ h => nomatch h) (fun _ h => nomatch h) ?_
          case na4 => have hc9 := cLine_is; have h49 : callerA.units = 4 := rfl; simp only [units_deeper]; omega
          (try dsimp only)
          walk_at "MY steps"
  )

end Mine

theorem PySem.Challenge.cw_ir0004_01_holds : PySem.Challenge.rw_ir0004_01.Holds := by
  exact Mine.fz
