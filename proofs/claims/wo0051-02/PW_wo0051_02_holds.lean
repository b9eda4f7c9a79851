import PyProof.Rows.All
import Wide.All
import OpenK.AllK
import Wide.FinOn
import Lean
import PySem.Challenge.RW_wo0051_02
open PySem PySem.W PyProof.Rows PySem.Calls PySem.Spec
set_option Elab.async false
set_option maxRecDepth 100000
set_option maxHeartbeats 8000000

namespace Mine
/-! the search of a compiled pattern that finds nothing -/
def driven : Nat → Sre.M → Option Sre.M
  | 0, _ => none
  | n + 1, m =>
    let m := m.runFor Builtin.Re.reTurnSteps
    if m.outcome.isSome then some m else driven n m
def noFind (code text : Array Nat) (groups : Nat) : Bool :=
  match driven 64 (Sre.forSearch code text groups 0 text.size false) with
  | some m => (match m.outcome with | some .failed => true | _ => false)
  | none => false
section
variable {M : Model} {A : Around} {E : Value → Shared → Prop} {s : Shared}
theorem drive_wp {Q : Sre.M → Shared → Prop} : ∀ (n turns : Nat) (m m' : Sre.M), n ≤ turns → driven n m = some m' → Q m' s → wpAny M A (Builtin.Re.reDrive turns m) Q E s
  | 0, _, _, _, _, e, _ => by cases e
  | n + 1, 0, _, _, h, _, _ => absurd h (Nat.not_succ_le_zero _)
  | n + 1, turns + 1, m, m', h, e, hq => by
    unfold driven at e
    dsimp only at e
    unfold Builtin.Re.reDrive
    try dsimp only
    split at e
    · rename_i h1
      cases e
      rw [if_pos h1]
      exact wpAny_pure hq
    · rename_i h1
      rw [if_neg h1]
      exact wpAny_bind (wpAny_rule (drive_wp n turns _ m' (Nat.le_of_succ_le_succ h) e hq))
theorem rules_wp {Q : PUnit → Shared → Prop} {f : Nat → Bool} {g : Nat → String} (hq : Q ⟨⟩ s) : ∀ l : List Nat,
    wpAny M A (forIn l PUnit.unit fun i _ => if f i = true then do rule (g i); pure (ForInStep.yield PUnit.unit) else pure (ForInStep.yield PUnit.unit)) Q E s
  | [] => by simpa using wpAny_pure hq
  | i :: r => by
    rw [List.forIn_cons]
    refine wpAny_bind ?_
    split
    · exact wpAny_bind (wpAny_rule (wpAny_pure (rules_wp hq r)))
    · exact wpAny_pure (rules_wp hq r)
theorem toEnd_wp {Q : Option Sre.M → Shared → Prop} {m : Sre.M} {m' : Sre.M} (e : driven 64 m = some m') (ho : m'.outcome = some .failed) (hq : Q none s) : wpAny M A (Builtin.Re.reRunToEnd m) Q E s := by
  unfold Builtin.Re.reRunToEnd
  refine wpAny_bind (drive_wp 64 _ m m' (by decide) e ?_)
  refine wpAny_bind (wpAny_mono (rules_wp (Q := fun _ s' => s' = s) rfl _) (fun _ s' hs => ?_) fun _ _ x => x)
  subst hs
  rw [ho]
  exact wpAny_pure hq
end
end Mine
namespace Mine
theorem slot_search : Slot "re.Pattern" "search" "re.Pattern.search" :=
  .of (owner := "re.Pattern") (n := "search") (by rw [typeLookup_type, builtinLookup_eq_fast]; kernel_rfl) (by decide +kernel) (by decide +kernel) (by decide +kernel)
    (by first | exact .inl (by decide +kernel) | exact .inr (by decide +kernel)) (by rw [isSubtype_type]; kernel_rfl)
theorem entry_search : entryFor table "re.Pattern.search" = some Builtin.«re.Pattern.search» := entryFor_of_tree (by kernel_rfl)
theorem args_search (a b : Value) : argsOk "re.Pattern.search" ⟨[a, b], []⟩ := by unfold argsOk; kernel_rfl
theorem type_search : typeOf (.builtin "re.Pattern.search") = pure (.type "method_descriptor") := by show builtinType _ = _; rw [builtinType_eq_fast]; kernel_rfl
theorem plainAttrs_pat : PlainAttrs "re.Pattern" where
  ga := ⟨"object.__getattribute__", by rw [typeLookup_type, builtinLookup_eq_fast]; kernel_rfl, by decide +kernel⟩
  noGetattr := by rw [typeLookup_type, builtinLookup_eq_fast]; kernel_rfl
theorem named_search (v : Value) : Builtin.Re.reNamed "re.Pattern.search" "search" ["string", "pos", "endpos"] 1 [v] [] = pure [some v, none, none] := by rfl
section
variable {prog : Program} {w : World} {A : Around} {E : Value → Shared → Prop} {s : Shared}
theorem search_none {a c : Addr} {fs cs : Array Value} {sl slc : Array (Option Value)} {n : Nat} {v : Str} {t : Tok} {Q : Value → Shared → Prop}
    (ho : s.heap.get? a = some ⟨.type "re.Pattern", none, .fields fs, sl⟩) (hoc : s.heap.get? c = some ⟨.type "tuple", none, .seq cs n, slc⟩)
    (h5 : fs.getD 5 .none = .ref c) (h6 : Builtin.Re.reRawNat (fs.getD 6 .none) = 0)
    (hm : noFind ((cs.map Builtin.Re.reRawOf).map (·.toNat)) v.cps (Builtin.Re.reRawNat (fs.getD 2 .none)) = true)
    (hsz : v.cps.size ≤ 2 ^ 63 - 1)
    (h : Q .none s) : wpAny (model prog w) A (call (.builtin "re.Pattern.search") [.ref a, .str v t]) Q E s := by
  refine call_meets (S := fun _ R s => s.heap.get? a = some ⟨.type "re.Pattern", none, .fields fs, sl⟩ ∧ s.heap.get? c = some ⟨.type "tuple", none, .seq cs n, slc⟩ ∧ R (.ok (.ret .none)) s)
    slot_search ⟨_, ho, rfl⟩ entry_search (args_search _ _) ?_ ⟨ho, hoc, h⟩
  intro prog w A R s ⟨ho, hoc, hR⟩
  unfold Builtin.«re.Pattern.search» Builtin.Re.reTarget
  try dsimp only
  rw [named_search]
  refine wpAny_bind (wpAny_bind (wpAny_pure ?_))
  try dsimp only
  refine wpAny_bind (wpAny_pure (wpAny_bind (wpAny_pure (wpAny_bind (wpAny_fieldsOf ho rfl ?_)))))
  refine wpAny_bind ?_
  unfold Builtin.Re.reTextOf
  refine wpAny_bind (wpAny_pure ?_)
  try dsimp only
  refine wpAny_pure ?_
  try dsimp only
  rw [h6]
  rw [if_neg (by decide), if_neg (by decide)]
  refine wpAny_bind (wpAny_pure ?_)
  refine wpAny_bind ?_
  unfold Builtin.Re.reRawItems
  rw [h5]
  refine wpAny_bind (wpAny_seqItems hoc rfl (wpAny_pure ?_))
  refine wpAny_pure ?_
  try dsimp only
  have hl : min (2 ^ 63 - 1 : Int).toNat v.cps.size = v.cps.size := by
    have : (2 ^ 63 - 1 : Int).toNat = 2 ^ 63 - 1 := by decide
    rw [this]; omega
  have h0 : min (Int.toNat 0) v.cps.size = 0 := by simp
  rw [hl, h0]
  unfold noFind at hm
  unfold Builtin.Re.reAnswer
  split at hm
  · rename_i m' e
    split at hm
    · rename_i ho'
      refine wpAny_bind (toEnd_wp (m' := m') ?_ ho' ?_)
      · simpa using e
      · exact wpAny_pure hR
    · cases hm
  · cases hm
theorem search_method {a : Addr} {fs : Array Value} {sl : Array (Option Value)} {pl : Sem Bool} {Q : Value × List Value → Shared → Prop}
    (ho : s.heap.get? a = some ⟨.type "re.Pattern", none, .fields fs, sl⟩) (h : Q (.builtin "re.Pattern.search", [.ref a]) s) : wpAny (model prog w) A (getMethod (.ref a) "search" pl) Q E s :=
  getMethod_builtin (T := "re.Pattern") ⟨_, ho, rfl⟩ plainAttrs_pat slot_search type_search (fun b e => by cases e; exact ⟨_, ho, rfl⟩) h
end
end Mine

namespace Mine
/-! loops whose only moving part is their iterator; the ledger may grow and turn -/
abbrev Led := List (Addr × Obj)
def nah : Value → Shared → Prop := fun _ _ => False
theorem nah_passes {M : Model} {A : Around} {env : Env} : PassesOwn M A env nah := PassesOwn.never
theorem noRaise {α : Type} {M : Model} {A : Around} {E : Value → Shared → Prop} {s : Shared} {t : Sem α} {Q : α → Shared → Prop} (h : wpAny M A t Q nah s) : wpAny M A t Q E s :=
  wpAny_noRaise h
/-- where a turn of a loop ends -/
def TurnTo (h₀ : Heap) (L I : Addr) (o : Obj) (J : (Str → Option Value) → Led → Prop) (s₀ : Shared) (Q : Flow → Shared → Prop) (f : Flow) (s₂ : Shared) : Prop :=
  match f with
  | .ret v => Q (.ret v) s₂
  | .brk => Q .next s₂
  | _ => ∃ h' tk m nx, s₂ = { s₀ with heap := h', toks := tk } ∧ Fr h₀ L h' m ∧ News h₀ L h' ((I, o) :: nx) ∧ (∀ p ∈ nx, p.1 ≠ I) ∧ J m nx
theorem TurnTo.next {h₀ : Heap} {L I : Addr} {o : Obj} {J : (Str → Option Value) → Led → Prop} {s₀ : Shared} {Q : Flow → Shared → Prop} {h' : Heap} {tk : Nat} {m : Str → Option Value} (nx : Led)
    (F : Fr h₀ L h' m) (N : News h₀ L h' ((I, o) :: nx)) (hI : ∀ p ∈ nx, p.1 ≠ I) (hJ : J m nx) : TurnTo h₀ L I o J s₀ Q .next { s₀ with heap := h', toks := tk } :=
  ⟨h', tk, m, nx, rfl, F, N, hI, hJ⟩
section
variable {prog : Program} {w : World} {A : Around} {s : Shared} {env : Env} {h₀ : Heap} {L : Addr}
theorem strs_snoc {vs : List Value} {ys : List Str} {y : Str} {t : Tok} (h : StrsAre vs ys) : StrsAre (vs ++ [.str y t]) (ys ++ [y]) := by
  induction h with
  | nil => exact .cons y t .nil
  | cons z u _ ih => exact .cons z u ih
theorem take_snoc {α : Type} {l : List α} {i : Nat} {x : α} (h : l[i]? = some x) : l.take (i + 1) = l.take i ++ [x] := by
  rw [List.take_add_one, h]; rfl
theorem news_sub {h : Heap} {l l' : Led} (N : News h₀ L h l) (hs : ∀ p ∈ l', p ∈ l) : News h₀ L h l' := fun p hp => N p (hs p hp)
theorem news_drop3 {h : Heap} {a b c d : Addr × Obj} {r : Led} (N : News h₀ L h (a :: b :: c :: d :: r)) : News h₀ L h (a :: r) := news_sub N fun p hp => by
  rcases List.mem_cons.mp hp with rfl | hp
  · exact .head _
  · exact .tail _ (.tail _ (.tail _ (.tail _ hp)))
theorem news_ne {h : Heap} {l : Led} {a b : Addr} {o o' : Obj} (N : News h₀ L h l) (ha : (a, o) ∈ l) (hb : (b, o') ∈ l) (hne : o.cls ≠ o'.cls) : a ≠ b := by
  rintro rfl
  have h1 := (N _ ha).1
  have h2 := (N _ hb).1
  rw [h1] at h2
  exact hne (congrArg Obj.cls (Option.some.inj h2))
theorem fr_know {h : Heap} {m : Str → Option Value} (x : Str) (v : Value) (F : Fr h₀ L h m) (e : m x = some v) : Fr h₀ L h (fun y => if y = x then some v else m y) := by
  have em : (fun y => if y = x then some v else m y) = m := funext fun y => by
    by_cases h : y = x
    · rw [if_pos h, h, e]
    · rw [if_neg h]
  rw [em]; exact F
theorem fr_knows {h : Heap} {m : Str → Option Value} (ks : List (Str × Value)) (F : Fr h₀ L h m) (e : ∀ p ∈ ks, m p.1 = some p.2) : Fr h₀ L h (fun y => (ks.lookup y).or (m y)) := by
  have em : (fun y => (ks.lookup y).or (m y)) = m := funext fun y => by
    clear F
    induction ks with
    | nil => rfl
    | cons p r ih =>
      rw [List.lookup_cons]
      by_cases h : (y == p.1) = true
      · rw [h]
        have h' : y = p.1 := by simpa using h
        rw [h']
        exact (e p (.head _)).symm
      · have h2 : (y == p.1) = false := by simpa using h
        rw [h2]
        exact ih fun q hq => e q (.tail _ hq)
  rw [em]; exact F
/-- the loop itself -/
theorem for_walk {target : Expr} {body : List Stmt} {I : Addr} {fp : List Addr} {n : Nat} {P : Nat → Value → Prop} {St : Nat → Heap → Prop} {m₀ : Str → Option Value} {nx₀ : Led} {Q : Flow → Shared → Prop}
    (stay : Led) (J : Nat → (Str → Option Value) → Led → Prop) (hL : env.locals = L)
    (W : Walks prog w A I fp [I] n P St) (hob : ∀ i h, St i h → ∃ o, h.get? I = some o)
    (hfp : ∀ b ∈ fp, b = I ∨ (∃ q, h₀.get? b = some q) ∨ ∃ o, (b, o) ∈ stay) (hLI : L ≠ I) (hI0 : h₀.get? I = none) (hI : ∀ p ∈ nx₀, p.1 ≠ I)
    (hst : St 0 s.heap) (F : Fr h₀ L s.heap m₀) (N : News h₀ L s.heap nx₀) (hstay : ∀ i m nx, J i m nx → ∀ p ∈ stay, p ∈ nx) (h0 : J 0 m₀ nx₀)
    (hgo : ∀ i (s' : Shared) v (Q' : Unit → Shared → Prop), St i s'.heap → Q' () s' → wpAny (model prog w) A (letOwnedTupleGo target (.ref I) v) Q' nah s')
    (turn : ∀ i v m nx h tk o, i < n → P i v → J i m nx → (∀ p ∈ nx, p.1 ≠ I) → Fr h₀ L h m → News h₀ L h ((I, o) :: nx) →
      wpAny (model prog w) A (assign target env v) (fun _ s₃ => wpAny (model prog w) A (execs body env) (TurnTo h₀ L I o (J (i + 1)) { s with heap := h, toks := tk } Q) nah s₃) nah { s with heap := h, toks := tk })
    (done : ∀ m nx h tk, J n m nx → Fr h₀ L h m → News h₀ L h nx → Q .next { s with heap := h, toks := tk }) :
    codeAny (model prog w) A (.forLoop target (.ref I) body [] env) (fun r s' => match r with | .ok f => Q f s' | .error e => cameBackBy (model prog w) A env nah e s') s := by
  subst hL
  refine codeAny_forLoop_any
    (fun k s' => ∃ i h tk m nx, s' = { s with heap := h, toks := tk } ∧ k = n + 1 - i ∧ i ≤ n ∧ St i h ∧ Fr h₀ env.locals h m ∧ News h₀ env.locals h nx ∧ (∀ p ∈ nx, p.1 ≠ I) ∧ J i m nx) ?_ (n + 1)
    ⟨0, s.heap, s.toks, m₀, nx₀, rfl, rfl, Nat.zero_le _, hst, F, N, hI, h0⟩
  rintro k s' ⟨i, h, tk, m, nx, rfl, rfl, hi, hst', F', N', hI', hJ⟩
  have keepF : ∀ h₁ : Heap, (∀ b o, b ∉ [I] → h.get? b = some o → h₁.get? b = some o) → Fr h₀ env.locals h₁ m := fun h₁ hk =>
    ⟨F'.ns.at' fun o e => hk _ o (by simpa using hLI) e, fun b o e => hk b o (by
      intro hb
      rw [List.mem_singleton.mp hb, hI0] at e
      cases e) (F'.keep b o e), F'.above⟩
  have keepN : ∀ h₁ : Heap, (∀ b o, b ∉ [I] → h.get? b = some o → h₁.get? b = some o) → News h₀ env.locals h₁ nx := fun h₁ hk p hp =>
    ⟨hk _ _ (by simpa using hI' p hp) (N' p hp).1, (N' p hp).2⟩
  by_cases hlt : i < n
  · refine W.item i _ _ _ hlt hst' fun v h₁ tk₁ hP hst₁ hk => ?_
    refine wpAny_passesOwn nah_passes (hgo (i + 1) _ v _ hst₁ ?_)
    obtain ⟨o, ho⟩ := hob _ _ hst₁
    have NI : News h₀ env.locals h₁ ((I, o) :: nx) := fun p hp => by
      rcases List.mem_cons.mp hp with rfl | hp
      · exact ⟨ho, Ne.symm hLI, hI0⟩
      · exact keepN h₁ hk p hp
    refine wpAny_mono (turn i v m nx h₁ tk₁ o hlt hP hJ hI' (keepF h₁ hk) NI) (fun _ s₃ h₃ => wpAny_mono h₃ (fun f s₂ hT => ?_) nah_passes) nah_passes
    have nextly : (∃ h' tk m nx, s₂ = { s with heap := h', toks := tk } ∧ Fr h₀ env.locals h' m ∧ News h₀ env.locals h' ((I, o) :: nx) ∧ (∀ p ∈ nx, p.1 ≠ I) ∧ J (i + 1) m nx) →
        ∃ k', k' < n + 1 - i ∧ ∃ i h tk m nx, s₂ = { s with heap := h, toks := tk } ∧ k' = n + 1 - i ∧ i ≤ n ∧ St i h ∧ Fr h₀ env.locals h m ∧ News h₀ env.locals h nx ∧ (∀ p ∈ nx, p.1 ≠ I) ∧ J i m nx := by
      rintro ⟨h', tk', m', nx', rfl, F₂, N₂, hI₂, hJ₂⟩
      refine ⟨n + 1 - (i + 1), by omega, i + 1, h', tk', m', nx', rfl, rfl, hlt, ?_, F₂, fun p hp => N₂ p (.tail _ hp), hI₂, hJ₂⟩
      refine W.frame _ _ _ hst₁ fun b hb ob e => ?_
      rcases hfp b hb with rfl | ⟨q, hq⟩ | ⟨q, hq⟩
      · rw [ho] at e; cases e
        exact (N₂ _ (.head _)).1
      · have h1 := (keepF h₁ hk).keep b q hq
        rw [h1] at e; cases e
        exact F₂.keep b _ hq
      · have h1 := (keepN h₁ hk _ (hstay i m nx hJ _ hq)).1
        rw [h1] at e; cases e
        exact (N₂ _ (.tail _ (hstay _ _ _ hJ₂ _ hq))).1
    cases f with
    | ret v => exact hT
    | brk => exact hT
    | next => exact nextly hT
    | cont => exact nextly hT
  · have hin : i = n := by omega
    subst hin
    refine W.done _ _ _ hst' fun h₁ tk₁ hk => wpAny_execs_nil ?_
    exact done m nx h₁ tk₁ hJ (keepF h₁ hk) (keepN h₁ hk)
theorem go_free {it v : Value} {target : Expr} {Q' : Unit → Shared → Prop} {s' : Shared} (h : letOwnedTupleGo target it v = pure ()) (hq : Q' () s') : wpAny (model prog w) A (letOwnedTupleGo target it v) Q' nah s' := by
  rw [h]; exact wpAny_pure hq
/-- a list's or a tuple's iterator unpacks no tuple of its own -/
theorem go_iter {I : Addr} {o : Obj} {v : Value} {target : Expr} {Q' : Unit → Shared → Prop} {s' : Shared} (ho : s'.heap.get? I = some o) (hc : o.cls = .type "list_iterator" ∨ o.cls = .type "tuple_iterator" ∨ o.cls = .type "range_iterator") (hq : Q' () s') :
    wpAny (model prog w) A (letOwnedTupleGo target (.ref I) v) Q' nah s' := by
  unfold letOwnedTupleGo
  have key : ∀ a, wpAny (model prog w) A (do
      let o ← load I
      match o.cls, o.data with
      | .type n, .fields vs =>
        if ["enumerate", "zip", "dict_itemiterator", "dict_reverseitemiterator", "odict_iterator", "itertools.zip_longest", "itertools.pairwise"].contains n && vs[0]? == some (rawInt a) then
          rule "for.unpacks-the-owned-tuple"
          updateField I 0 .none
      | _, _ => pure ()) Q' nah s' := fun a => by
    refine wpAny_bind (wpAny_load ho ?_)
    obtain ⟨c, d, dt, sl⟩ := o
    dsimp only at hc ⊢
    rcases hc with rfl | rfl | rfl
    all_goals
      cases dt <;> first
        | exact wpAny_pure hq
        | exact wpAny_pure hq
  cases target <;> first
    | exact wpAny_pure hq
    | (cases v <;> first | exact wpAny_pure hq | exact key _)
theorem fresh_ne {h : Heap} {nx : Led} (N : News h₀ L h nx) : ∀ p ∈ nx, p.1 ≠ h.objs.size := fun p hp e => absurd (Heap.lt_size (N p hp).1) (by rw [e]; exact Nat.lt_irrefl _)
/-- for target in l, l a list of the ledger that stays as it is -/
theorem for_list {target : Expr} {body : List Stmt} {l : Addr} {vs : List Value} {nn : Nat} {m₀ : Str → Option Value} {nx₀ : Led} {Q : Flow → Shared → Prop}
    (J : Nat → (Str → Option Value) → Led → Prop) (hh : A.handled = none) (hL : env.locals = L) (F : Fr h₀ L s.heap m₀) (N : News h₀ L s.heap nx₀)
    (hstay : ∀ i m nx, J i m nx → (l, listOf vs.toArray nn) ∈ nx) (h0 : J 0 m₀ nx₀)
    (turn : ∀ i v m nx h tk I o, vs[i]? = some v → J i m nx → (∀ p ∈ nx, p.1 ≠ I) → Fr h₀ L h m → News h₀ L h ((I, o) :: nx) →
      wpAny (model prog w) A (assign target env v) (fun _ s₃ => wpAny (model prog w) A (execs body env) (TurnTo h₀ L I o (J (i + 1)) { s with heap := h, toks := tk } Q) nah s₃) nah { s with heap := h, toks := tk })
    (done : ∀ m nx h tk, J vs.length m nx → Fr h₀ L h m → News h₀ L h nx → Q .next { s with heap := h, toks := tk }) :
    wpAny (model prog w) A (pyIter (.ref l)) (fun it s₂ => codeAny (model prog w) A (.forLoop target it body [] env) (fun r s' => match r with | .ok f => Q f s' | .error e => cameBackBy (model prog w) A env nah e s') s₂) nah s := by
  have hm := hstay _ _ _ h0
  have hol : s.heap.get? l = some (listOf vs.toArray nn) := (N _ hm).1
  have hls : s.heap.IsList l vs.toArray := ⟨_, hol, rfl, nn, rfl⟩
  have hne : l ≠ s.heap.objs.size := Nat.ne_of_lt (Heap.lt_size hol)
  refine wpAny_pyIter_list hls ?_
  have W := Walks.list (prog := prog) (w := w) hh s.heap.objs.size l hne vs.toArray
  have N1 : News h₀ L (s.heap.push { cls := .type "list_iterator", data := .fields #[.ref l, .int 0 0] }) nx₀ := fun p hp => ⟨Heap.get?_push_of_some _ (N p hp).1, (N p hp).2⟩
  refine for_walk [(l, listOf vs.toArray nn)] J hL W ?_ ?_ (Nat.ne_of_lt F.ns.lt) (next_is_new F) (fresh_ne N)
    ⟨⟨_, Heap.get?_push_size _ rfl, rfl, rfl⟩, hls.at fun o e => Heap.get?_push_of_some _ e⟩ (F.push _) N1 ?_ h0 ?_ ?_ ?_
  · rintro i h ⟨⟨o, ho, _⟩, _⟩; exact ⟨o, ho⟩
  · intro b hb
    rcases List.mem_cons.mp hb with e | hb
    · exact .inl e
    · exact .inr (.inr ⟨_, by rw [List.mem_singleton.mp hb]; exact .head _⟩)
  · intro i m nx hJ p hp
    rw [List.mem_singleton.mp hp]; exact hstay _ _ _ hJ
  · rintro i s' v Q' ⟨⟨o, ho, hc, _⟩, _⟩ hq
    exact go_iter ho (.inl hc) hq
  · intro i v m nx h tk o _ hP
    exact turn i v m nx h tk _ o (by simpa using hP)
  · intro m nx h tk hJ
    exact done m nx h tk (by simpa using hJ)
end
end Mine

namespace Mine
/-! a list comprehension of one clause: its turns keep the ledger as it is -/
open LCg
def CEnd (h₀ : Heap) (L : Addr) (m : Str → Option Value) (s₁ : Shared) (led : Led) (post : Value → Prop) (y : Value) (s₂ : Shared) : Prop :=
  ∃ h' tk, s₂ = { s₁ with heap := h', toks := tk } ∧ Fr h₀ L h' m ∧ News h₀ L h' led ∧ post y
theorem CEnd.intro {h₀ : Heap} {L : Addr} {m : Str → Option Value} {s₁ : Shared} {led : Led} {post : Value → Prop} {y : Value} {h' : Heap} {tk : Nat} (F : Fr h₀ L h' m) (N : News h₀ L h' led) (hp : post y) :
    CEnd h₀ L m s₁ led post y { s₁ with heap := h', toks := tk } := ⟨h', tk, rfl, F, N, hp⟩
section
variable {prog : Program} {w : World} {A : Around} {s s₂ : Shared} {env : Env} {h₀ : Heap} {L : Addr} {m : Str → Option Value}
/-- the clause's tests -/
abbrev tests (M : Model) (A : Around) (ifs : List Expr) (cenv : Env) (Q : Bool → Shared → Prop) (s : Shared) : Prop :=
  wpAny M A (forIn ifs true fun c r => if r = true then do let ok ← isTrue c cenv (eval c cenv); pure (ForInStep.yield ok) else pure (ForInStep.yield r)) Q nah s
def CompTurn (prog : Program) (w : World) (A : Around) (h₀ : Heap) (L : Addr) (m : Str → Option Value) (elt : Expr) (ifs : List Expr) (cenv : Env) (s₁ : Shared) (led : Led) (yes : Value → Prop) (no : Prop) : Prop :=
  tests (model prog w) A ifs cenv (fun ok s₃ => if ok = true then wpAny (model prog w) A (eval elt cenv) (CEnd h₀ L m s₁ led yes) nah s₃ else CEnd h₀ L m s₁ led (fun _ => no) .none s₃) s₁
theorem CompTurn.plain {elt : Expr} {cenv : Env} {led : Led} {yes : Value → Prop} {no : Prop} (h : wpAny (model prog w) A (eval elt cenv) (CEnd h₀ L m s led yes) nah s) : CompTurn prog w A h₀ L m elt [] cenv s led yes no :=
  wpAny_tests_nil (by rw [if_pos rfl]; exact h)
theorem CompTurn.one {elt c : Expr} {cenv : Env} {led : Led} {yes : Value → Prop} {no : Prop}
    (h : wpAny (model prog w) A (isTrue c cenv (eval c cenv)) (fun ok s₃ => if ok = true then wpAny (model prog w) A (eval elt cenv) (CEnd h₀ L m s led yes) nah s₃ else CEnd h₀ L m s led (fun _ => no) .none s₃) nah s) :
    CompTurn prog w A h₀ L m elt [c] cenv s led yes no := wpAny_tests_one h
theorem comp_loop {elt target iter : Expr} {ifs : List Expr} {scope : Scope} {pos : Pos} {it acc : Value} {cenv : Env} {R : Result → Shared → Prop} (Inv : Nat → Shared → Prop)
    (turn : ∀ n s, Inv n s → wpAny (model prog w) A (pyNext it) (fun r s₁ => match r with
      | none => R (.ok .next) s₁
      | some v => wpAny (model prog w) A (letOwnedTupleGo target it v) (fun _ s₁' => wpAny (model prog w) A (assign target cenv v) (fun _ s₂ =>
          tests (model prog w) A ifs cenv (fun ok s₃ => if ok = true then wpAny (model prog w) A (eval elt cenv) (fun x s₄ =>
              wpAny (model prog w) A (call (.builtin "list.append") [acc, x]) (fun _ s₅ => ∃ k, k < n ∧ Inv k s₅) nah s₄) nah s₃
            else ∃ k, k < n ∧ Inv k s₃) s₂) nah s₁') nah s₁) nah s)
    (n : Nat) (h : Inv n s) : codeAny (model prog w) A (.compLoop (.ListComp elt [⟨target, iter, ifs, 0⟩] scope pos) 0 it acc cenv) R s := by
  refine codeAny_loop rfl Inv (fun n s hI => ?_) n h
  show wpAny _ A ((compTurn (.ListComp elt [⟨target, iter, ifs, 0⟩] scope pos) 0 it acc cenv).onRaise (fun x => do noteFrame x cenv; theTreesLotGoes x)) _ _ s
  refine wpAny_noted ?_
  rw [compTurn_list]
  refine wpAny_bind (wpAny_standAt (wpAny_bind (wpAny_mono (turn n s hI) (fun r s₁ h₁ => ?_) fun _ _ x => x.elim)))
  cases r with
  | none => exact wpAny_pure h₁
  | some v =>
    refine wpAny_bind (wpAny_mono h₁ (fun _ s₁' h₁' => ?_) fun _ _ x => x.elim)
    refine wpAny_bind (wpAny_mono h₁' (fun _ s₂ h₂ => ?_) fun _ _ x => x.elim)
    refine wpAny_bind (wpAny_mono h₂ (fun ok s₃ h₃ => ?_) fun _ _ x => x.elim)
    cases ok with
    | false => exact wpAny_pure ⟨rfl, by simpa using h₃⟩
    | true =>
      simp only [if_true] at h₃ ⊢
      exact wpAny_bind (wpAny_bind (wpAny_mono h₃ (fun x s₄ h₄ => wpAny_bind (wpAny_mono h₄ (fun _ s₅ h₅ => wpAny_pure (wpAny_pure ⟨rfl, h₅⟩)) fun _ _ x => x.elim)) fun _ _ x => x.elim))
theorem comp_block {elt target iter : Expr} {ifs : List Expr} {scope : Scope} {cl : List (Str × Addr)} {pos : Pos} {I : Addr} {fp : List Addr} {n : Nat} {P : Nat → Value → Prop} {St : Nat → Heap → Prop} {nx : Led}
    {Has : Value → (Str → Option Value) → Prop} {RR : Value → Addr → Result → Shared → Prop} (J : Nat → List Value → Prop)
    (W : Walks prog w A I fp [I] n P St) (hsz : n ≤ sizeLine) (hob : ∀ i h, St i h → ∃ o, h.get? I = some o)
    (hfp : ∀ b ∈ fp, b = I ∨ (∃ q, h₀.get? b = some q) ∨ ∃ o, (b, o) ∈ nx) (hlt : ∀ b ∈ fp, b < s₂.heap.objs.size)
    (hcell : ∀ y ∈ scope.names, y.2 ≠ .cell) (hkind : scope.kind = .function) (hst : St 0 s₂.heap) (F : Fr h₀ L s₂.heap m) (N : News h₀ L s₂.heap nx)
    (hLI : L ≠ I) (hI0 : h₀.get? I = none) (hI : ∀ p ∈ nx, p.1 ≠ I)
    (hgo : ∀ i (s' : Shared) v (Q' : Unit → Shared → Prop), St i s'.heap → Q' () s' → wpAny (model prog w) A (letOwnedTupleGo target (.ref I) v) Q' nah s')
    (asg : ∀ i v C m' (s' : Shared) (Q' : Unit → Shared → Prop), P i v → s'.heap.Ns C m' → (∀ b o, h₀.get? b = some o → s'.heap.get? b = some o) → News h₀ L s'.heap nx →
      (∀ h' tk' m₂, (∀ b o, b ≠ C → s'.heap.get? b = some o → h'.get? b = some o) → h'.Ns C m₂ → Has v m₂ → Q' () { s' with heap := h', toks := tk' }) → wpAny (model prog w) A (assign target (compEnvC scope cl C env) v) Q' nah s')
    (j0 : J 0 [])
    (turn : ∀ i v ys oI C oC D m₂ h tk, i < n → P i v → J i ys → NsObj oC m₂ → Has v m₂ → Fr h₀ L h m → News h₀ L h ((I, oI) :: (C, oC) :: (D, lst ys) :: nx) → Off3 I C D nx → ((@Ne Nat I C) ∧ (@Ne Nat I D) ∧ (@Ne Nat C D)) →
      CompTurn prog w A h₀ L m elt ifs (compEnvC scope cl C env) { s₂ with heap := h, toks := tk } ((I, oI) :: (C, oC) :: (D, lst ys) :: nx) (fun y => J (i + 1) (ys ++ [y])) (J (i + 1) ys))
    (hRR : ∀ D C h tk m' ys, Fr h₀ L h m → News h₀ L h ((D, lst ys) :: nx) → h.Ns C m' → h₀.get? C = none → C ≠ L → C ≠ D → (∀ p ∈ nx, p.1 ≠ C) → (∀ p ∈ nx, p.1 ≠ D) → ys.length ≤ n → J n ys → RR (.ref D) C (.ok .next) { s₂ with heap := h, toks := tk }) :
    wpAny (model prog w) A (newList []) (fun acc s₃ => wpAny (model prog w) A (newFunctionEnv scope env.globals cl [] env.qual none .none (some env)) (fun cenv s₄ =>
      codeAny (model prog w) A (.compStart (.ListComp elt [⟨target, iter, ifs, 0⟩] scope pos) 0 (.ref I) acc { cenv with scope := relabel scope env }) (RR acc cenv.locals) s₄) nah s₃) nah s₂ := by
  refine wpAny_newObj_type (wpAny_newFunctionEnv hcell (by intro y hy; simp at hy) (fun h₁ hns₁ hsb₁ => ?_) hkind)
  dsimp only at hns₁ hsb₁ ⊢
  -- the made list D, the block's names C
  generalize hD : s₂.heap.objs.size = D at hns₁ hsb₁ ⊢
  generalize hH : s₂.heap.push { cls := .type "list", dict := none, data := .seq ([] : List Value).toArray } = H at hns₁ hsb₁ ⊢
  generalize hC : H.objs.size = C at hns₁ hsb₁ ⊢
  have hCD : C = D + 1 := by rw [← hC, ← hH, Heap.size_push, hD]
  have small : ∀ b : Nat, b < D → @Ne Nat b C ∧ @Ne Nat b D := fun b hb => ⟨by omega, by omega⟩
  have old : ∀ b o, s₂.heap.get? b = some o → h₁.get? b = some o := fun b o e => by
    have hb : @LT.lt Nat _ b D := hD ▸ Heap.lt_size e
    exact hsb₁.extBut b o (small b hb).1 (Heap.get?_push_of_some _ (hH ▸ Heap.get?_push_of_some _ e))
  have accD : h₁.get? D = some (lst []) := by
    refine hsb₁.extBut _ _ (show @Ne Nat D C by omega) (Heap.get?_push_of_some _ ?_)
    rw [← hH, ← hD]
    exact Heap.get?_push_size _ rfl
  have none₀ : ∀ a : Nat, D ≤ a → h₀.get? a = none := fun a ha => by
    cases e : h₀.get? a with
    | none => rfl
    | some o =>
      have := Heap.lt_size (F.keep a o e)
      rw [hD] at this
      exact absurd this (Nat.not_lt.mpr ha)
  have hLD : @LT.lt Nat _ L D := hD ▸ F.ns.lt
  have hID : @LT.lt Nat _ I D := hD ▸ hlt I (W.sub I (List.mem_singleton.mpr rfl))
  have nxD : ∀ p ∈ nx, @LT.lt Nat _ p.1 D := fun p hp => hD ▸ Heap.lt_size (N p hp).1
  have hst₁ : St 0 h₁ := W.frame _ _ _ hst fun b _ o e => old b o e
  have loop : ∀ s₃ : Shared, s₃ = { s₂ with heap := h₁, toks := s₂.toks + ([] : List (Str × Value)).length } →
      codeAny (model prog w) A (.compLoop (.ListComp elt [⟨target, iter, ifs, 0⟩] scope pos) 0 (.ref I) (.ref D) (compEnvC scope cl C env)) (RR (.ref D) C) s₃ := by
    rintro s₃ rfl
    refine comp_loop (fun k s' => ∃ i h tk m' ys, s' = { s₂ with heap := h, toks := tk } ∧ k = n + 1 - i ∧ i ≤ n ∧ ys.length ≤ i ∧ St i h ∧ Fr h₀ L h m ∧ h.Ns C m' ∧ News h₀ L h ((D, lst ys) :: nx) ∧ J i ys) ?_ (n + 1)
      ⟨0, h₁, _, _, [], rfl, rfl, Nat.zero_le _, Nat.le_refl _, hst₁, F.keeps old, hns₁, fun p hp => ?_, j0⟩
    · rintro k s' ⟨i, h, tk, m', ys, rfl, rfl, hi, hy, hst', F', hn', N', hJ⟩
      have keepI : ∀ g : Heap, (∀ b o, b ∉ [I] → h.get? b = some o → g.get? b = some o) → Fr h₀ L g m ∧ News h₀ L g ((D, lst ys) :: nx) ∧ g.Ns C m' := fun g hk =>
        ⟨fr_but F' hk hLI hI0, news_but N' hk fun p hp => by
          rcases List.mem_cons.mp hp with rfl | hp
          · show @Ne Nat D I; omega
          · exact hI p hp, hn'.at' fun o e => hk _ o (by rw [List.mem_singleton]; show @Ne Nat C I; omega) e⟩
      by_cases hlt' : i < n
      · refine W.item i _ _ _ hlt' hst' fun v h₂ tk₂ hP hst₂ hk₂ => ?_
        refine hgo (i + 1) _ v _ hst₂ ?_
        obtain ⟨F₂, N₂, hn₂⟩ := keepI h₂ hk₂
        refine asg i v C m' _ _ hP hn₂ F₂.keep (fun p hp => N₂ p (.tail _ hp)) fun h₃ tk₃ m₂ hk₃ hn₃ hHas => ?_
        have hst₃ : St (i + 1) h₃ := W.frame _ _ _ hst₂ fun b hb o e => hk₃ b o (by have h9 : @LT.lt Nat _ b s₂.heap.objs.size := hlt b hb; rw [hD] at h9; show @Ne Nat b C; omega) e
        obtain ⟨oI, hoI⟩ := hob _ _ hst₃
        obtain ⟨oC, hoC, hNC⟩ := ns_obj hn₃
        have F₃ : Fr h₀ L h₃ m := ⟨F₂.ns.at' fun o e => hk₃ L o (by show @Ne Nat L C; omega) e, fun b o e => hk₃ b o (by
          rintro rfl
          rw [none₀ _ (by omega)] at e; cases e) (F₂.keep b o e), F₂.above⟩
        have N₃ : News h₀ L h₃ ((I, oI) :: (C, oC) :: (D, lst ys) :: nx) := fun p hp => by
          rcases List.mem_cons.mp hp with rfl | hp
          · exact ⟨hoI, Ne.symm hLI, hI0⟩
          · rcases List.mem_cons.mp hp with rfl | hp
            · exact ⟨hoC, by show @Ne Nat C L; omega, none₀ C (by omega)⟩
            · refine ⟨hk₃ _ _ ?_ (N₂ p hp).1, (N₂ p hp).2⟩
              rcases List.mem_cons.mp hp with rfl | hp
              · show @Ne Nat D C; omega
              · have := nxD p hp; show @Ne Nat p.1 C; omega
        have off : Off3 I C D nx := Off3.of fun p hp => ⟨hI p hp, by have := nxD p hp; show @Ne Nat p.1 C; omega, by have := nxD p hp; show @Ne Nat p.1 D; omega⟩
        have back : ∀ (ys' : List Value) (h₅ : Heap) (tk₅ : Nat), ys'.length ≤ i + 1 → Fr h₀ L h₅ m → News h₀ L h₅ ((I, oI) :: (C, oC) :: (D, lst ys') :: nx) → J (i + 1) ys' →
            ∃ k, k < n + 1 - i ∧ ∃ i h tk m' ys, ({ s₂ with heap := h₅, toks := tk₅ } : Shared) = { s₂ with heap := h, toks := tk } ∧ k = n + 1 - i ∧ i ≤ n ∧ ys.length ≤ i ∧ St i h ∧ Fr h₀ L h m ∧ h.Ns C m' ∧ News h₀ L h ((D, lst ys) :: nx) ∧ J i ys := by
          intro ys' h₅ tk₅ hy₅ F₅ N₅ hJ₅
          refine ⟨n + 1 - (i + 1), by omega, i + 1, h₅, tk₅, m₂, ys', rfl, rfl, hlt', hy₅, ?_, F₅, hNC.ns (N₅ _ (.tail _ (.head _))).1, fun p hp => N₅ p (.tail _ (.tail _ hp)), hJ₅⟩
          refine W.frame _ _ _ hst₃ fun b hb o e => ?_
          rcases hfp b hb with rfl | ⟨q, hq⟩ | ⟨q, hq⟩
          · rw [hoI] at e; cases e
            exact (N₅ _ (.head _)).1
          · have e1 := F₃.keep b q hq
            rw [e1] at e; cases e
            exact F₅.keep b _ hq
          · have e1 := (N₃ (b, q) (by simp [hq])).1
            rw [e1] at e; cases e
            exact (N₅ (b, q) (by simp [hq])).1
        refine wpAny_mono (turn i v ys oI C oC D m₂ h₃ tk₃ hlt' hP hJ hNC hHas F₃ N₃ off ⟨by omega, by omega, by omega⟩) (fun ok s₃ hT => ?_) fun _ _ x => x
        cases ok with
        | false =>
          simp only [Bool.false_eq_true, if_false] at hT ⊢
          obtain ⟨h₅, tk₅, rfl, F₅, N₅, hJ₅⟩ := hT
          exact back ys h₅ tk₅ (by omega) F₅ N₅ hJ₅
        | true =>
          simp only [if_true] at hT ⊢
          refine wpAny_mono hT (fun y s₄ hY => ?_) fun _ _ x => x
          obtain ⟨h₄, tk₄, rfl, F₄, N₄, hJ₄⟩ := hY
          have zD : h₄.get? D = some (lst ys) := (N₄ (D, lst ys) (by simp)).1
          refine append_at (hsz := by show ys.toArray.size ≤ sizeLine; rw [List.size_toArray]; omega) zD fun h₅ hs₅ hD₅ => ?_
          refine back (ys ++ [y]) h₅ tk₄ (by simp; omega) (F₄.change hs₅ (by show @Ne Nat D L; omega) (none₀ D (Nat.le_refl _))) (fun p hp => ?_) hJ₄
          have keep : ∀ q, q ∈ (I, oI) :: (C, oC) :: (D, lst ys) :: nx → q.1 ≠ D → h₅.get? q.1 = some q.2 ∧ q.1 ≠ L ∧ h₀.get? q.1 = none := fun q hq hne => ⟨hs₅.extBut _ _ hne (N₄ q hq).1, (N₄ q hq).2⟩
          rcases List.mem_cons.mp hp with rfl | hp
          · exact keep _ (by simp) (by show @Ne Nat I D; omega)
          · rcases List.mem_cons.mp hp with rfl | hp
            · exact keep _ (by simp) (by show @Ne Nat C D; omega)
            · rcases List.mem_cons.mp hp with rfl | hp
              · exact ⟨hD₅.trans (congrArg some (lst_snoc ys y)), by show @Ne Nat D L; omega, none₀ D (Nat.le_refl _)⟩
              · exact keep p (by simp [hp]) (by have := nxD p hp; show @Ne Nat p.1 D; omega)
      · have hin : i = n := by omega
        subst hin
        refine W.done _ _ _ hst' fun h₂ tk₂ hk₂ => ?_
        obtain ⟨F₂, N₂, hn₂⟩ := keepI h₂ hk₂
        exact hRR D C h₂ tk₂ m' ys F₂ N₂ hn₂ (none₀ C (by omega)) (by show @Ne Nat C L; omega) (by show @Ne Nat C D; omega) (fun p hp => by have := nxD p hp; show @Ne Nat p.1 C; omega) (fun p hp => by have := nxD p hp; show @Ne Nat p.1 D; omega) hy hJ
    · rcases List.mem_cons.mp hp with rfl | hp
      · exact ⟨accD, by show @Ne Nat D L; omega, none₀ D (Nat.le_refl _)⟩
      · exact ⟨old _ _ (N p hp).1, (N p hp).2⟩
  exact codeAny_compStart_list (loop _ rfl) (W.self 0 _ _ _ hst₁ (loop _ rfl))
end
end Mine

namespace Mine
open LCg
section
variable {prog : Program} {w : World} {A : Around} {s s₂ : Shared} {env : Env} {h₀ : Heap} {L : Addr} {m : Str → Option Value}
/-- from the iterator on -/
def CompGo (prog : Program) (w : World) (A : Around) (env : Env) (e : Expr) (scope : Scope) (cl : List (Str × Addr)) (RR : Value → Addr → Result → Shared → Prop) (it : Value) (s₂ : Shared) : Prop :=
  wpAny (model prog w) A (newList []) (fun acc s₃ => wpAny (model prog w) A (newFunctionEnv scope env.globals cl [] env.qual none .none (some env)) (fun cenv s₄ =>
    codeAny (model prog w) A (.compStart e 0 it acc { cenv with scope := relabel scope env }) (RR acc cenv.locals) s₄) nah s₃) nah s₂
theorem comp_expr {elt target iter : Expr} {ifs : List Expr} {scope : Scope} {cl : List (Str × Addr)} {pos : Pos} {Q : Value → Shared → Prop}
    (hclos : closureFor scope env = pure cl) (hkind : scope.kind = .function) (hnames : ∀ y ∈ scope.names, y.2 = .local → scope.names.lookup y.1 = some .local) (hs : ∀ x, foldedSetIterable iter env x = pure x)
    (h : wpAny (model prog w) A (eval iter env) (fun xv s₁ => wpAny (model prog w) A (pyIter xv) (CompGo prog w A env (.ListComp elt [⟨target, iter, ifs, 0⟩] scope pos) scope cl (compPost (model prog w) A nah none Q)) nah s₁) nah s) :
    wpAny (model prog w) A (eval (.ListComp elt [⟨target, iter, ifs, 0⟩] scope pos) env) Q nah s := by
  rw [eval_ListComp]
  exact wpAny_comprehension_free (use := none) rfl hs hclos hkind hnames h
theorem comp_assign {elt target iter : Expr} {ifs : List Expr} {y : Str} {py : Pos} {scope : Scope} {cl : List (Str × Addr)} {pos spos : Pos} {Q : Flow → Shared → Prop}
    (hsw : swapsWith (.ListComp elt [⟨target, iter, ifs, 0⟩] scope pos) (some (.Name y py)) spos.line env = pure true)
    (hclos : closureFor scope env = pure cl) (hkind : scope.kind = .function) (hnames : ∀ y ∈ scope.names, y.2 = .local → scope.names.lookup y.1 = some .local) (hs : ∀ x, foldedSetIterable iter env x = pure x)
    (h : wpAny (model prog w) A (eval iter env) (fun xv s₁ => wpAny (model prog w) A (pyIter xv) (CompGo prog w A env (.ListComp elt [⟨target, iter, ifs, 0⟩] scope pos) scope cl (compPost (model prog w) A nah (some (assign (.Name y py) env)) (fun _ s' => Q .next s'))) nah s₁) nah s) :
    wpAny (model prog w) A (exec (.Assign [.Name y py] (.ListComp elt [⟨target, iter, ifs, 0⟩] scope pos) spos) env) Q nah s := by
  rw [exec_Assign_Name_used _ _ _ _ hsw]
  refine wpAny_bind (wpAny_standAt (wpAny_bind ?_))
  show wpAny _ A (do let _ ← comprehension (.ListComp elt [⟨target, iter, ifs, 0⟩] scope pos) scope env _ (newList []) false (eval iter env) (some (assign (.Name y py) env))) _ _ s
  exact wpAny_bind (wpAny_mono (wpAny_comprehension_free (use := some (assign (.Name y py) env)) (Q := fun _ s' => Q .next s') rfl hs hclos hkind hnames h) (fun _ s' hq => wpAny_pure (wpAny_pure hq)) fun _ _ x => x)
/-- what is made of the list -/
def CompDone (h₀ : Heap) (L : Addr) (m : Str → Option Value) (nx : Led) (n : Nat) (J : Nat → List Value → Prop) (s₂ : Shared) (RR : Value → Addr → Result → Shared → Prop) : Prop :=
  ∀ D C h tk m' ys, Fr h₀ L h m → News h₀ L h ((D, lst ys) :: nx) → h.Ns C m' → h₀.get? C = none → C ≠ L → C ≠ D → (∀ p ∈ nx, p.1 ≠ C) → (∀ p ∈ nx, p.1 ≠ D) → ys.length ≤ n → J n ys → RR (.ref D) C (.ok .next) { s₂ with heap := h, toks := tk }
theorem CompDone.expr {nx : Led} {n : Nat} {J : Nat → List Value → Prop} {Q : Value → Shared → Prop}
    (fin : ∀ D h tk ys, Fr h₀ L h m → News h₀ L h ((D, lst ys) :: nx) → (∀ p ∈ nx, p.1 ≠ D) → ys.length ≤ n → J n ys → Q (.ref D) { s₂ with heap := h, toks := tk }) :
    CompDone h₀ L m nx n J s₂ (compPost (model prog w) A nah none Q) := by
  intro D C h tk m' ys F N hn hC₀ hCL hCD offC offD hy hJ
  refine ⟨m', hn, fun h'' hs => fin D h'' tk ys (F.change hs hCL hC₀) (fun p hp => ?_) offD hy hJ⟩
  refine ⟨hs.extBut _ _ ?_ (N p hp).1, (N p hp).2⟩
  rcases List.mem_cons.mp hp with rfl | hp
  · exact Ne.symm hCD
  · exact offC p hp
theorem CompDone.assign {nx : Led} {n : Nat} {J : Nat → List Value → Prop} {y : Str} {py : Pos} {Q : Flow → Shared → Prop} (hL : env.locals = L)
    (hy : env.kindOf y = some .local) (hp : (env.scope.kind == .class || (env.scope.kind == .module && env.locals != env.globals)) = false)
    (fin : ∀ D h tk ys, Fr h₀ L h (fun z => if z = y then some (.ref D) else m z) → News h₀ L h ((D, lst ys) :: nx) → (∀ p ∈ nx, p.1 ≠ D) → ys.length ≤ n → J n ys → Q .next { s₂ with heap := h, toks := tk }) :
    CompDone h₀ L m nx n J s₂ (compPost (model prog w) A nah (some (assign (.Name y py) env)) (fun _ s' => Q .next s')) := by
  subst hL
  intro D C h tk m' ys F N hn hC₀ hCL hCD offC offD hyn hJ
  show wpAny _ A (PySem.assign (.Name y py) env (.ref D)) _ _ _
  refine wpAny_assign_Name (wpAny_storeName_local hy F.ns (fun h₂ hn₂ hs₂ => ?_) hp)
  have F₂ : Fr h₀ env.locals h₂ (fun z => if z = y then some (.ref D) else m z) := F.set hn₂ hs₂
  have N₂ := N.set hs₂
  refine ⟨m', hn.sameBut hs₂ hCL, fun h'' hs => fin D h'' _ ys (F₂.change hs hCL hC₀) (fun p hp => ?_) offD hyn hJ⟩
  refine ⟨hs.extBut _ _ ?_ (N₂ p hp).1, (N₂ p hp).2⟩
  rcases List.mem_cons.mp hp with rfl | hp
  · exact Ne.symm hCD
  · exact offC p hp
/-- the turns -/
def CompTurns (prog : Program) (w : World) (A : Around) (h₀ : Heap) (L : Addr) (m : Str → Option Value) (env : Env) (elt : Expr) (ifs : List Expr) (scope : Scope) (cl : List (Str × Addr)) (nx : Led) (n : Nat) (P : Nat → Value → Prop) (Has : Value → (Str → Option Value) → Prop) (J : Nat → List Value → Prop) (s₂ : Shared) : Prop :=
  ∀ i v ys I oI C oC D m₂ h tk, i < n → P i v → J i ys → NsObj oC m₂ → Has v m₂ → Fr h₀ L h m → News h₀ L h ((I, oI) :: (C, oC) :: (D, lst ys) :: nx) → Off3 I C D nx → ((@Ne Nat I C) ∧ (@Ne Nat I D) ∧ (@Ne Nat C D)) →
    CompTurn prog w A h₀ L m elt ifs (compEnvC scope cl C env) { s₂ with heap := h, toks := tk } ((I, oI) :: (C, oC) :: (D, lst ys) :: nx) (fun y => J (i + 1) (ys ++ [y])) (J (i + 1) ys)
def Asg (prog : Program) (w : World) (A : Around) (h₀ : Heap) (L : Addr) (env : Env) (target : Expr) (scope : Scope) (cl : List (Str × Addr)) (nx : Led) (P : Nat → Value → Prop) (Has : Value → (Str → Option Value) → Prop) : Prop :=
  ∀ i v C m' (s' : Shared) (Q' : Unit → Shared → Prop), P i v → s'.heap.Ns C m' → (∀ b o, h₀.get? b = some o → s'.heap.get? b = some o) → News h₀ L s'.heap nx →
    (∀ h' tk' m₂, (∀ b o, b ≠ C → s'.heap.get? b = some o → h'.get? b = some o) → h'.Ns C m₂ → Has v m₂ → Q' () { s' with heap := h', toks := tk' }) → wpAny (model prog w) A (assign target (compEnvC scope cl C env) v) Q' nah s'
theorem Asg.name {x : Str} {px : Pos} {scope : Scope} {cl : List (Str × Addr)} {nx : Led} {P : Nat → Value → Prop} (hkind : scope.kind = .function) (hx : scope.names.lookup x = some .local) :
    Asg prog w A h₀ L env (.Name x px) scope cl nx P (fun v m₂ => m₂ x = some v) := by
  intro i v C m' s' Q' _ hn _ _ h
  exact wpAny_assign_Name (wpAny_storeName_local (lookup_relabel_local hx) hn (fun h₃ hn₃ hs₃ => h h₃ _ _ (fun b o hb e => hs₃.extBut b o hb e) hn₃ (by simp)) (by simp [compEnvC, relabel, hkind]))
theorem Asg.pair {x x₂ : Str} {px px₂ tp : Pos} {k} {scope : Scope} {cl : List (Str × Addr)} {nx : Led} {P : Nat → Value → Prop} (hh : A.handled = none) (hkind : scope.kind = .function) (hx : scope.names.lookup x = some .local) (hx₂ : scope.names.lookup x₂ = some .local) (hxx : x ≠ x₂)
    (hP : ∀ i v, P i v → ∃ t v₁ v₂ n, v = .ref t ∧ (t, ({ cls := .type "tuple", data := .seq #[v₁, v₂] n } : Obj)) ∈ nx) :
    Asg prog w A h₀ L env (.Tuple [.Name x px, .Name x₂ px₂] k tp) scope cl nx P (fun v m₂ => ∃ t v₁ v₂ n, v = .ref t ∧ (t, ({ cls := .type "tuple", data := .seq #[v₁, v₂] n } : Obj)) ∈ nx ∧ m₂ x = some v₁ ∧ m₂ x₂ = some v₂) := by
  intro i v C m' s' Q' hPv hn _ N h
  obtain ⟨t, v₁, v₂, n, rfl, hm⟩ := hP i v hPv
  have ht : IsTup s'.heap t #[v₁, v₂] := ⟨_, (N _ hm).1, rfl, n, rfl⟩
  refine assign_Tuple_tuple hh ht rfl rfl fun h₅ he => ?_
  have hne : ∀ b o, s'.heap.get? b = some o → h₅.get? b = some o := fun b o e => he b o (Nat.ne_of_lt (Heap.lt_size e)) e
  refine assignInOrder_cons (wpAny_assign_Name (wpAny_storeName_local (lookup_relabel_local hx) (hn.at' fun o e => hne _ o e) (fun h₆ hn₆ hs₆ => ?_) (by simp [compEnvC, relabel, hkind])))
  refine assignInOrder_cons (wpAny_assign_Name (wpAny_storeName_local (lookup_relabel_local hx₂) hn₆ (fun h₃ hn₃ hs₃ => ?_) (by simp [compEnvC, relabel, hkind])))
  refine assignInOrder_nil ?_
  exact h h₃ _ _ (fun b o hb e => hs₃.extBut b o hb (hs₆.extBut b o hb (hne b o e))) hn₃ ⟨t, v₁, v₂, n, rfl, hm, by simp [hxx], by simp⟩
/-- the source a list of the ledger -/
theorem comp_list {elt target iter : Expr} {ifs : List Expr} {scope : Scope} {cl : List (Str × Addr)} {pos : Pos} {l : Addr} {vs : List Value} {nn : Nat} {nx : Led} {Has : Value → (Str → Option Value) → Prop} {RR : Value → Addr → Result → Shared → Prop} (J : Nat → List Value → Prop)
    (hh : A.handled = none) (F : Fr h₀ L s.heap m) (N : News h₀ L s.heap nx) (hl : (l, listOf vs.toArray nn) ∈ nx) (hsz : vs.length ≤ sizeLine) (hcell : ∀ y ∈ scope.names, y.2 ≠ .cell) (hkind : scope.kind = .function)
    (asg : Asg prog w A h₀ L env target scope cl nx (fun i v => vs[i]? = some v) Has) (j0 : J 0 [])
    (turn : ∀ h, CompTurns prog w A h₀ L m env elt ifs scope cl nx vs.length (fun i v => vs[i]? = some v) Has J { s with heap := h })
    (fin : ∀ h, CompDone h₀ L m nx vs.length J { s with heap := h } RR) :
    wpAny (model prog w) A (pyIter (.ref l)) (CompGo prog w A env (.ListComp elt [⟨target, iter, ifs, 0⟩] scope pos) scope cl RR) nah s := by
  have hol : s.heap.get? l = some (listOf vs.toArray nn) := (N _ hl).1
  have hls : s.heap.IsList l vs.toArray := ⟨_, hol, rfl, nn, rfl⟩
  have hne : l ≠ s.heap.objs.size := Nat.ne_of_lt (Heap.lt_size hol)
  refine wpAny_pyIter_list hls ?_
  have W := Walks.list (prog := prog) (w := w) hh s.heap.objs.size l hne vs.toArray
  have hsize : vs.toArray.size = vs.length := by simp
  rw [hsize] at W
  refine comp_block (Has := Has) J W hsz ?_ ?_ ?_ hcell hkind ⟨⟨_, Heap.get?_push_size _ rfl, rfl, rfl⟩, hls.at fun o e => Heap.get?_push_of_some _ e⟩ (F.push _) (fun p hp => ⟨Heap.get?_push_of_some _ (N p hp).1, (N p hp).2⟩)
    (Nat.ne_of_lt F.ns.lt) (next_is_new F) (fresh_ne N) ?_ ?_ j0 ?_ (fin _)
  · rintro i h ⟨⟨o, ho, _⟩, _⟩; exact ⟨o, ho⟩
  · intro b hb
    rcases List.mem_cons.mp hb with e | hb
    · exact .inl e
    · exact .inr (.inr ⟨_, by rw [List.mem_singleton.mp hb]; exact hl⟩)
  · intro b hb
    show b < (s.heap.push _).objs.size
    rw [Heap.size_push]
    rcases List.mem_cons.mp hb with rfl | hb
    · exact Nat.lt_succ_self _
    · rw [List.mem_singleton.mp hb]; exact Nat.lt_succ_of_lt (Heap.lt_size hol)
  · rintro i s' v Q' ⟨⟨o, ho, hc, _⟩, _⟩ hq
    exact go_iter ho (.inl hc) hq
  · intro i v C m' s' Q' hP
    exact asg i v C m' s' Q' (by simpa using hP)
  · intro i v ys oI C oC D m₂ h tk hi hP
    exact turn _ i v ys _ oI C oC D m₂ h tk hi (by simpa using hP)
end
end Mine

namespace Mine
/-- a name holds this int -/
def HasI (m : Str → Option Value) (x : Str) (k : Int) : Prop := ∃ t, m x = some (.int k t)
theorem HasI.of {m : Str → Option Value} {x : Str} {k k' : Int} {t : Tok} (e : k = k') (h : m x = some (.int k t)) : HasI m x k' := ⟨t, e ▸ h⟩
section
variable {prog : Program} {w : World} {A : Around} {E : Value → Shared → Prop} {s : Shared} {h₀ : Heap} {L : Addr} {m : Str → Option Value}
/-- xs[:] = ys -/
theorem setItem_all {l sl D : Addr} {xs ys : Array Value} {n n' : Nat} {Q : Unit → Shared → Prop} (hl : s.heap.get? l = some (listOf xs n)) (hs : s.heap.IsSliceOf sl .none .none .none) (hD : s.heap.get? D = some (listOf ys n'))
    (hne : l ≠ D) (hx : xs.size ≤ 1000000) (hy : ys.size ≤ 1000000)
    (h : ∀ h' n₂, Heap.SameBut l s.heap h' → h'.get? l = some (listOf ys n₂) → Q () { s with heap := h' }) : wpAny (model prog w) A (setItem (.ref l) (.ref sl) (.ref D)) Q E s := by
  have hL : s.heap.IsList l xs := ⟨_, hl, rfl, n, rfl⟩
  obtain ⟨os, hos, hcs, hds⟩ := id hs
  have hTs : s.TypeIs (.ref sl) "slice" := ⟨os, hos, hcs⟩
  unfold setItem
  refine wpAny_holding ?_
  refine wpAny_bind (wpAny_sequenceKey hL.typeIs (by decide) ?_)
  refine wpAny_bind (wpAny_callSpecial?_slot (name := Str.ofString "__setitem__") hL.typeIs slot_list_setitem
    (wpAny_call_entry slot_list_setitem hL.typeIs entry_list_setitem ?_ (args_list_setitem _ _ _)))
  show wpAny _ _ (Builtin.List.listSubscript? (.ref sl) >>= _) _ _ s
  refine wpAny_bind ?_
  unfold Builtin.List.listSubscript?
  refine wpAny_bind (wpAny_specialOf hTs slice_no_index ?_)
  simp only [Option.isNone_none, if_true]
  refine wpAny_pure ?_
  show wpAny _ _ (typeOf (.ref sl) >>= _) _ _ s
  refine wpAny_bind (wpAny_typeOf hTs ?_)
  rw [if_neg (by decide)]
  rw [listSliceParts_eq]
  refine wpAny_bind (wpAny_bind (wpAny_field hos hds (x := .none) rfl (wpAny_bind (wpAny_listPart .none ?_))))
  rw [if_neg (by decide)]
  refine wpAny_bind (wpAny_field hos hds (x := .none) rfl (wpAny_bind (wpAny_listPart .none ?_)))
  refine wpAny_bind (wpAny_field hos hds (x := .none) rfl (wpAny_bind (wpAny_listPart .none (wpAny_pure ?_))))
  try dsimp only
  have hsame : Builtin.List.listSameRef (.ref l) (.ref D) = false := by simpa [Builtin.List.listSameRef] using hne
  rw [hsame]
  simp only [Bool.false_eq_true, if_false]
  refine wpAny_bind ?_
  unfold Builtin.List.listAllItems
  refine wpAny_bind (wpAny_typeOf (T := "list") ⟨_, hD, rfl⟩ ?_)
  rw [if_pos (by decide)]
  refine wpAny_bind (wpAny_seqItems hD rfl (wpAny_pure ?_))
  refine wpAny_bind (wpAny_listItems hl rfl ?_)
  refine wpAny_bind (wpAny_of_eq (sliceIndices_raw none none none xs.size (by simp)) ?_)
  have hb : sliceBounds none none none xs.size = (0, (xs.size : Int), 1) := rfl
  rw [hb]
  try dsimp only
  rw [if_pos (by decide)]
  refine wpAny_bind (wpAny_rule ?_)
  rw [if_neg (by simp [Builtin.List.listTooLong, sizeLine_eq]; omega)]
  have hf : ∀ zs : Array Value, zs = xs → zs.extract 0 (0 : Int).toNat ++ ys ++ zs.extract (max (0 : Int) (xs.size : Int)).toNat zs.size = ys := by
    rintro zs rfl
    have e1 : (max (0 : Int) (zs.size : Int)).toNat = zs.size := by omega
    rw [e1]
    simp
  show wpAny _ _ (updateSeq l _ >>= _) _ _ s
  refine wpAny_bind (wpAny_updateSeq hl rfl ?_ (by rw [sizeLine_eq]; omega) (by rw [hf xs rfl, sizeLine_eq]; omega))
  refine wpAny_bind (wpAny_letGo ?_)
  have upd : ∃ n₂, (s.heap.update l (Obj.mapSeq fun zs => zs.extract 0 (0 : Int).toNat ++ ys ++ zs.extract (max (0 : Int) (xs.size : Int)).toNat zs.size)).get? l = some (listOf ys n₂) := by
    refine ⟨if ys.size == xs.size then n else n + 1, (Heap.get?_update_self _ hl rfl).trans ?_⟩
    have e := hf xs rfl
    generalize hF : (fun zs : Array Value => zs.extract 0 (0 : Int).toNat ++ ys ++ zs.extract (max (0 : Int) (xs.size : Int)).toNat zs.size) = G
    have e' : G xs = ys := by rw [← hF]; exact e
    show some (⟨.type "list", none, .seq (G xs) (if (G xs).size == xs.size then n else n + 1), #[]⟩ : Obj) = _
    rw [e']
  obtain ⟨n₂, hn₂⟩ := upd
  exact wpAny_bind (wpAny_pure (wpAny_pure ⟨.none, rfl, wpAny_pure (h _ n₂ (Heap.SameBut.update ..) hn₂)⟩))
theorem setItem_allK {l D : Addr} {xs ys : Array Value} {n n' : Nat} {H : Heap} {rest : Led} {Q : Unit → Shared → Prop} (hH : s.heap = H.push { cls := .type "slice", data := .fields #[.none, .none, .none] })
    (F : Fr h₀ L H m) (N : News h₀ L H ((l, listOf xs n) :: rest)) (hD : (D, listOf ys n') ∈ rest) (hoff : ∀ p ∈ rest, p.1 ≠ l) (hx : xs.size ≤ 1000000) (hy : ys.size ≤ 1000000)
    (h : ∀ h' n₂, Fr h₀ L h' m → News h₀ L h' ((l, listOf ys n₂) :: rest) → Q () { s with heap := h' }) : wpAny (model prog w) A (setItem (.ref l) (.ref H.objs.size) (.ref D)) Q E s := by
  have zl := N _ (.head _)
  have zD := N _ (.tail _ hD)
  have F₁ : Fr h₀ L s.heap m := by rw [hH]; exact F.push _
  have N₁ : News h₀ L s.heap ((l, listOf xs n) :: rest) := by
    intro p hp
    rw [hH]
    exact ⟨Heap.get?_push_of_some _ (N p hp).1, (N p hp).2⟩
  refine setItem_all (N₁ _ (.head _)).1 (by rw [hH]; exact Heap.IsSliceOf.new H _ _ _) (N₁ _ (.tail _ hD)).1 (fun e => hoff _ hD e.symm) hx hy fun h' n₂ hs e => ?_
  refine h h' n₂ (F₁.change hs zl.2.1 zl.2.2) fun p hp => ?_
  rcases List.mem_cons.mp hp with rfl | hp
  · exact ⟨e, zl.2⟩
  · exact ⟨hs.extBut _ _ (hoff p hp) (N₁ _ (.tail _ hp)).1, (N₁ _ (.tail _ hp)).2⟩
theorem sub_led {value slice : Expr} {l : Addr} {vs : List Value} {nn : Nat} {led : Led} {k : Int} {u : Tok} {v : Value} {Q : Value → Shared → Prop} (N : News h₀ L s.heap led) (hm : (l, listOf vs.toArray nn) ∈ led) (h0 : 0 ≤ k) (hhi : k < 2 ^ 63) (hx : vs[k.toNat]? = some v) (h : Q v s)
    (hs : subscripted slice false (.ref l) (.int k u) = operate [.ref l, .int k u] (getItem (.ref l) (.int k u)) := by with_unfolding_all rfl) :
    wpAny (model prog w) A (subscriptTail value slice (.ref l) (.int k u)) Q E s :=
  have hl : s.heap.IsList l vs.toArray := ⟨_, (N _ hm).1, rfl, nn, rfl⟩
  tail_any hl.typeIs slot_list_getitem.lookup (wpAny_getItem_list hl h0 hhi (by simpa using hx) h) hs
/-- a list of the ledger turned in its place -/
theorem mapSeq_led {H : Heap} {l : Addr} {xs ys : Array Value} {n : Nat} {rest : Led} {f : Array Value → Array Value} (F : Fr h₀ L H m) (N : News h₀ L H ((l, listOf xs n) :: rest)) (hoff : ∀ p ∈ rest, p.1 ≠ l) (e : f xs = ys) :
    Fr h₀ L (H.update l (Obj.mapSeq f)) m ∧ ∃ n', News h₀ L (H.update l (Obj.mapSeq f)) ((l, listOf ys n') :: rest) := by
  have zl := N _ (.head _)
  have hs : Heap.SameBut l H (H.update l (Obj.mapSeq f)) := Heap.SameBut.update ..
  have hg : (H.update l (Obj.mapSeq f)).get? l = some (listOf ys (if ys.size == xs.size then n else n + 1)) := by
    refine (Heap.get?_update_self _ zl.1 rfl).trans ?_
    show some (⟨.type "list", none, .seq (f xs) (if (f xs).size == xs.size then n else n + 1), #[]⟩ : Obj) = _
    rw [e]
  refine ⟨F.change hs zl.2.1 zl.2.2, if ys.size == xs.size then n else n + 1, fun p hp => ?_⟩
  rcases List.mem_cons.mp hp with rfl | hp
  · exact ⟨hg, zl.2⟩
  · exact ⟨hs.extBut _ _ (hoff p hp) (N p (.tail _ hp)).1, (N p (.tail _ hp)).2⟩
theorem extract_cut {α : Type} (vs : List α) (p : Nat) (v : α) (hp : p ≤ vs.length) : (vs.toArray.extract 0 p).push v ++ vs.toArray.extract p = (vs.take p ++ v :: vs.drop p).toArray := by
  apply Array.ext'
  simp [List.take_of_length_le]
theorem insert_led {l : Addr} {vs : List Value} {nn p : Nat} {t : Tok} {v : Value} {rest : Led} {Q : Value → Shared → Prop} (F : Fr h₀ L s.heap m) (N : News h₀ L s.heap ((l, listOf vs.toArray nn) :: rest)) (hp : p ≤ vs.length) (hsz : vs.length ≤ 1000000) (hoff : ∀ p ∈ rest, p.1 ≠ l)
    (h : ∀ h' nn', Fr h₀ L h' m → News h₀ L h' ((l, listOf (vs.take p ++ v :: vs.drop p).toArray nn') :: rest) → Q .none { s with heap := h' }) :
    wpAny (model prog w) A (call (.builtin "list.insert") [.ref l, .int (p : Int) t, v]) Q E s := by
  refine kl_insert (its := vs.toArray) (n := nn) (l := vs.take p ++ v :: vs.drop p) F N (fitsIndex_of (by omega) (by omega)) ?_ (.head hoff) (by show vs.length ≤ sizeLine; rw [sizeLine_eq]; omega) fun h' F' N' => h h' _ F' N'
  unfold kl_ins
  have e1 : ¬ (p : Int) < 0 := by omega
  simp [e1, Nat.min_eq_left hp]
end
end Mine

namespace Mine
/-! two triples of ints compared by < -/
abbrev Trip := Int × Int × Int
abbrev tripObj (a : Trip) (t1 t2 t3 : Tok) (n : Nat) : Obj := { cls := .type "tuple", data := .seq #[.int a.1 t1, .int a.2.1 t2, .int a.2.2 t3] n }
def tlt (x y : Trip) : Bool := if x.1 == y.1 then (if x.2.1 == y.2.1 then (if x.2.2 == y.2.2 then false else decide (x.2.2 < y.2.2)) else decide (x.2.1 < y.2.1)) else decide (x.1 < y.1)
theorem tlt_iff (x y : Trip) : tlt x y = true ↔ (x.1 < y.1 ∨ (x.1 = y.1 ∧ (x.2.1 < y.2.1 ∨ (x.2.1 = y.2.1 ∧ x.2.2 < y.2.2)))) := by
  unfold tlt
  by_cases h1 : x.1 = y.1 <;> by_cases h2 : x.2.1 = y.2.1 <;> by_cases h3 : x.2.2 = y.2.2 <;> simp [h1, h2, h3] <;> omega
theorem tlt_trans' {x y z : Trip} (h1 : tlt x y = true) (h2 : tlt z y = false) : tlt x z = true := by
  have h2' : ¬ tlt z y = true := by simp [h2]
  rw [tlt_iff] at h1 h2' ⊢
  omega
theorem tlt_trans'' {x y z : Trip} (h1 : tlt x y = false) (h2 : tlt y z = false) : tlt x z = false := by
  have h1' : ¬ tlt x y = true := by simp [h1]
  have h2' : ¬ tlt y z = true := by simp [h2]
  have : ¬ tlt x z = true := by
    rw [tlt_iff] at h1' h2' ⊢
    omega
  simpa using this
/-- a row of triples in order -/
abbrev Rowed (bs : List Trip) : Prop := bs.Pairwise fun y z => tlt z y = false
theorem tlt_drop {x : Trip} {bs : List Trip} (hs : Rowed bs) {i : Nat} (hi : i < bs.length) (h : tlt x bs[i] = true) : ∀ y ∈ bs.drop i, tlt x y = true := by
  intro y hy
  obtain ⟨j, hj, rfl⟩ := List.mem_iff_getElem.mp hy
  rw [List.getElem_drop]
  by_cases h0 : j = 0
  · subst h0; simpa using h
  · rw [List.length_drop] at hj
    exact tlt_trans' h (List.pairwise_iff_getElem.mp hs i (i + j) hi (by omega) (by omega))
theorem tlt_take {x : Trip} {bs : List Trip} (hs : Rowed bs) {i : Nat} (hi : i < bs.length) (h : tlt x bs[i] = false) : ∀ y ∈ bs.take (i + 1), tlt x y = false := by
  intro y hy
  obtain ⟨j, hj, rfl⟩ := List.mem_iff_getElem.mp hy
  rw [List.length_take] at hj
  rw [List.getElem_take]
  by_cases h0 : j = i
  · subst h0; exact h
  · exact tlt_trans'' h (List.pairwise_iff_getElem.mp hs j i (by omega) hi (by omega))
open Builtin Builtin.Tuple in
def ltBody (a b : Value) : Sem PySem.Fin := do
  if !(← isInstance b (.type "tuple")) then return ← ret .notImplemented
  let xs ← tupleItemsOf a
  let ys ← tupleItemsOf b
  for (x, y) in xs.toList.zip ys.toList do
    if !(← eqBool x y) then
      rule "tuple.compare.by-the-first-pair-that-differs"; return ← ret (← richCompare .Lt x y)
  ret (tupleCompareSizes .Lt xs.size ys.size)
theorem lt_body (a b : Value) : Builtin.«tuple.__lt__» ⟨[a, b], []⟩ = ltBody a b := by rfl
section
variable {prog : Program} {w : World} {A : Around} {E : Value → Shared → Prop} {s : Shared}
theorem lt_one {α : Type} {i j : Int} {t u : Tok} {f : Bool → Sem α} {Q : α → Shared → Prop} (h1 : i = j → wpAny (model prog w) A (f true) Q E s) (h2 : i ≠ j → wpAny (model prog w) A (f false) Q E s) :
    wpAny (model prog w) A (eqBool (.int i t) (.int j u) >>= f) Q E s := by
  refine wpAny_bind (wpAny_eqBool_int ?_)
  by_cases h : i = j
  · rw [show (i == j) = true by simpa using h]; exact h1 h
  · rw [show (i == j) = false by simpa using h]; exact h2 h
theorem trip_lt {p q : Addr} {x y : Trip} {t1 t2 t3 u1 u2 u3 : Tok} {n k : Nat} {Q : Value → Shared → Prop} (hx : s.heap.get? p = some (tripObj x t1 t2 t3 n)) (hy : s.heap.get? q = some (tripObj y u1 u2 u3 k)) (hu : A.units < cLine)
    (h : Q (.bool (tlt x y)) s) : wpAny (model prog w) A (compareOp .Lt (.ref p) (.ref q)) Q E s := by
  refine cmp_ofLt ?_
  refine richCompare_meets_room (S := fun _ R s => s.heap.get? p = some (tripObj x t1 t2 t3 n) ∧ s.heap.get? q = some (tripObj y u1 u2 u3 k) ∧ R (.ok (.ret (.bool (tlt x y)))) s) (T := "tuple")
    ⟨_, hx, rfl⟩ ⟨_, hy, rfl⟩ PySem.F.slot_tuple_lt PySem.F.entry_tuple_lt (PySem.F.args_tuple_lt_2 _ _) ?_ ⟨hx, hy, by simp, h⟩ hu
  intro prog w A R s ⟨hx, hy, hR⟩
  rw [lt_body]
  unfold ltBody
  refine wpAny_bind (wpAny_isInstance (T := "tuple") ⟨_, hy, rfl⟩ (b := true) (by rw [isSubtype_type]; kernel_rfl) ?_)
  rw [if_neg (by decide)]
  refine wpAny_bind (wpAny_tupleItemsOf hx rfl ?_)
  refine wpAny_bind (wpAny_tupleItemsOf hy rfl ?_)
  have cmp : ∀ (i j : Int) (t u : Tok) (Q' : Value → Shared → Prop) (E' : Value → Shared → Prop), Q' (.bool (decide (i < j))) s → wpAny (model prog w) A.in1 (richCompare .Lt (.int i t) (.int j u)) Q' E' s := fun i j t u Q' E' hq => PyProof.Rows.lt_int hq
  refine wpAny_bind ?_
  simp only [List.zip_cons_cons, List.zip_nil_right, List.forIn_cons, List.forIn_nil]
  obtain ⟨x1, x2, x3⟩ := x
  obtain ⟨y1, y2, y3⟩ := y
  dsimp only
  have last : ∀ b : Bool, b = tlt (x1, x2, x3) (y1, y2, y3) → R (.ok (.ret (.bool b))) s := fun b e => by rw [e]; exact hR
  refine wpAny_bind (lt_one (fun h1 => ?_) (fun h1 => ?_))
  · refine wpAny_pure (wpAny_bind (lt_one (fun h2 => ?_) (fun h2 => ?_)))
    · refine wpAny_pure (wpAny_bind (lt_one (fun h3 => ?_) (fun h3 => ?_)))
      · refine wpAny_pure (wpAny_pure (wpAny_pure ?_))
        exact last false (by simp [tlt, h1, h2, h3])
      · rw [if_pos (by decide)]
        refine wpAny_bind (wpAny_rule (wpAny_bind (cmp _ _ _ _ _ _ ?_)))
        refine wpAny_bind (wpAny_pure (wpAny_pure (wpAny_pure (wpAny_pure ?_))))
        exact last _ (by simp [tlt, h1, h2, h3])
    · rw [if_pos (by decide)]
      refine wpAny_bind (wpAny_rule (wpAny_bind (cmp _ _ _ _ _ _ ?_)))
      refine wpAny_bind (wpAny_pure (wpAny_pure (wpAny_pure (wpAny_pure ?_))))
      exact last _ (by simp [tlt, h1, h2])
  · rw [if_pos (by decide)]
    refine wpAny_bind (wpAny_rule (wpAny_bind (cmp _ _ _ _ _ _ ?_)))
    refine wpAny_bind (wpAny_pure (wpAny_pure (wpAny_pure (wpAny_pure ?_))))
    exact last _ (by simp [tlt, h1])
end
end Mine

namespace Mine
/-! a walk around which no code stands that holds a bytearray -/
def holdIds : List String := Builtin.Bytes.decodersThatHold ++ ["bytearray.__contains__", "bytearray.__mod__", "bytearray.__rmod__", "_struct.pack_into.held", "bytearray.find.held"]
def clearCode : Code → Bool
  | .builtin id _ => !holdIds.contains id
  | _ => true
def Clr (Γ : PySem.Ctx) : Prop := clearCode Γ.code = true ∧ ∀ x ∈ Γ.below, clearCode x.1 = true
def wpS {α : Type} (M : Model) (A : Around) (t : Sem α) (Q : α → Shared → Prop) (E : Value → Shared → Prop) (s : Shared) : Prop :=
  ∀ Γ p, Γ.In A → Clr Γ → Sem.wp M Γ t (fun a _ s' => Q a s') (fun e _ s' => E e s') p s
def codeS (M : Model) (A : Around) (c : Code) (R : Result → Shared → Prop) (s : Shared) : Prop :=
  ∀ Γ p, Γ.code = c → Γ.Below A → (∀ x ∈ Γ.below, clearCode x.1 = true) → wpCode M Γ R p s
section
variable {α β : Type} {M : Model} {A : Around} {E : Value → Shared → Prop} {s : Shared}
theorem wpS_of {t : Sem α} {Q : α → Shared → Prop} (h : wpAny M A t Q E s) : wpS M A t Q E s := fun Γ p hi _ => h Γ p hi
theorem wpS_mono {t : Sem α} {Q Q' : α → Shared → Prop} {E' : Value → Shared → Prop} (h : wpS M A t Q E s) (hQ : ∀ a s, Q a s → Q' a s) (hE : ∀ e s, E e s → E' e s) : wpS M A t Q' E' s :=
  fun Γ p hi hc => Sem.wp_mono M Γ t (fun a _ s => hQ a s) (fun e _ s => hE e s) p s (h Γ p hi hc)
theorem wpS_bind {m : Sem α} {f : α → Sem β} {Q : β → Shared → Prop} (h : wpS M A m (fun a s' => wpS M A (f a) Q E s') E s) : wpS M A (m >>= f) Q E s := fun Γ p hi hc => by
  rw [Sem.wp_bind']
  exact Sem.wp_mono M Γ m (fun a p' s' h' => h' Γ p' hi hc) (fun _ _ _ h' => h') p s (h Γ p hi hc)
/-- the first part does not ask what stands around it -/
theorem wpS_step {m : Sem α} {f : α → Sem β} {Q : β → Shared → Prop} (h : wpAny M A m (fun a s' => wpS M A (f a) Q E s') E s) : wpS M A (m >>= f) Q E s := wpS_bind (wpS_of h)
theorem wpS_pure {a : α} {Q : α → Shared → Prop} (h : Q a s) : wpS M A (pure a) Q E s := fun _ _ _ _ => h
theorem wpS_holding {vs : List Value} {m : Sem α} {Q : α → Shared → Prop} (h : wpS M A m Q E s) : wpS M A (holding vs m) Q E s :=
  fun Γ p hi hc => by rw [Sem.wp_holding]; exact h Γ p hi hc
theorem wpS_onRaise {m : Sem α} {k : Value → Sem Unit} {Q : α → Shared → Prop} (h : wpS M A m Q (fun e s' => wpS M A (k e) (fun _ s'' => E e s'') E s') s) : wpS M A (m.onRaise k) Q E s := fun Γ p hi hc => by
  rw [Sem.wp_onRaise]
  exact Sem.wp_mono M Γ m (fun _ _ _ h' => h') (fun e p' s' h' => h' Γ p' hi hc) p s (h Γ p hi hc)
theorem wpS_calm {m : Sem α} {k : Value → Sem Unit} {Q : α → Shared → Prop} (h : wpS M A m Q nah s) : wpS M A (m.onRaise k) Q E s := wpS_onRaise (wpS_mono h (fun _ _ x => x) fun _ _ x => x.elim)
theorem wpS_nah {m : Sem α} {Q : α → Shared → Prop} (h : wpS M A m Q nah s) : wpS M A m Q E s := wpS_mono h (fun _ _ x => x) fun _ _ x => x.elim
theorem wpS_cast {a b : Sem α} {Q : α → Shared → Prop} (e : a = b) (h : wpS M A b Q E s) : wpS M A a Q E s := e ▸ h
theorem wpS_ite_true {α : Type} {c : Prop} [Decidable c] {a b : Sem α} {Q : α → Shared → Prop} (hc : decide c = true) (h : wpS M A a Q E s) : wpS M A (if c then a else b) Q E s := by rw [if_pos (of_decide_eq_true hc)]; exact h
theorem wpS_ite_false {α : Type} {c : Prop} [Decidable c] {a b : Sem α} {Q : α → Shared → Prop} (hc : decide c = false) (h : wpS M A b Q E s) : wpS M A (if c then a else b) Q E s := by rw [if_neg (of_decide_eq_false hc)]; exact h
theorem codeS_of {c : Code} {R : Result → Shared → Prop} (h : codeAny M A c R s) : codeS M A c R s := fun Γ p hc hi _ => h Γ p hc hi
theorem codeS_mono {c : Code} {R R' : Result → Shared → Prop} (h : codeS M A c R s) (hR : ∀ r s, R r s → R' r s) : codeS M A c R' s := fun Γ p hc hi hb => wpCode_mono hR (h Γ p hc hi hb)
theorem codeS_tree {c : Code} {R : Result → Shared → Prop} (hcl : clearCode c = true)
    (h : wpS M (A.under c) (M.den c) (fun fin s' => match fin with | .done f => R (.ok f) s' | .again c' => c'.quiet = true ∧ codeS M A c' R s') (fun e s' => R (.error e) s') s) : codeS M A c R s := fun Γ p hc hi hb => by
  rw [wpCode_iff_wp, hc]
  refine Sem.wp_mono M Γ _ (fun fin p' s' h' => ?_) (fun _ _ _ h' => h') p s (h Γ p (hc ▸ hi.in) ⟨hc ▸ hcl, hb⟩)
  cases fin with
  | done f => exact h'
  | again c' => exact ⟨h'.1, h'.2 (Γ.goto c') p' rfl (hi.goto c') hb⟩
theorem wpS_runValue {c : Code} {Q : Value → Shared → Prop} (h : codeS M A c (fun r s' => match r with | .ok (.ret v) => Q v s' | .ok _ => False | .error e => E e s') s) : wpS M A (runValue c) Q E s := fun Γ p hi hc => by
  rw [Sem.wp_runValue]
  refine h _ p rfl (hi.enter c none p (by intro x; cases x)) fun x hx => ?_
  rcases List.mem_cons.mp hx with rfl | hx
  · exact hc.1
  · exact hc.2 x hx
theorem wpS_call {f : Value} {pos : List Value} {kw : List (Str × Value)} {Q : Value → Shared → Prop} (h : codeS M A (.call f ⟨pos, kw⟩) (fun r s' => match r with | .ok (.ret v) => Q v s' | .ok _ => False | .error e => E e s') s) : wpS M A (call f pos kw) Q E s := wpS_runValue h
theorem held_dec {i : String} (h : (!holdIds.contains i) = true) : Builtin.Bytes.decodersThatHold.contains i = false := by
  cases q : Builtin.Bytes.decodersThatHold.contains i with
  | false => rfl
  | true =>
    have : holdIds.contains i = true := by
      unfold holdIds
      rw [List.contains_iff_mem] at q ⊢
      exact List.mem_append_left _ q
    rw [this] at h; cases h
theorem q_any {α : Type} {f : α → Bool} {l : List α} {Q : Bool → Prop} (h : ∀ x ∈ l, ¬ f x = true) (hq : Q false) : Q (l.any f) := by rw [List.any_eq_false.mpr h]; exact hq
theorem wpS_exported {self : Value} {Q : Bool → Shared → Prop} (h : Q false s) : wpS M A (Builtin.Bytes.exported self) Q E s := fun Γ p _ hcl => by
  unfold Builtin.Bytes.exported
  rw [Sem.wp_bind']
  unfold stack
  rw [Sem.wp_stack]
  refine q_any (Q := fun b => Q b s) (fun x hx => ?_) h
  have hc : clearCode x.1 = true := by
    rcases List.mem_cons.mp hx with rfl | hx
    · exact hcl.1
    · exact hcl.2 x hx
  obtain ⟨c, p⟩ := x
  split <;> (try (rename_i e; cases e; simp [clearCode, holdIds] at hc; done))
  · rename_i e
    cases e
    rw [held_dec hc, Bool.and_false]; exact Bool.false_ne_true
  · exact Bool.false_ne_true
end
end Mine

namespace Mine
/-! bytearray(n): a row of noughts, where no code stands around that holds one -/
theorem slot_bya : Slot "bytearray" "__init__" "bytearray.__init__" :=
  .of (owner := "bytearray") (n := "__init__") (by rw [typeLookup_type, builtinLookup_eq_fast]; kernel_rfl) (by decide +kernel) (by decide +kernel) (by decide +kernel)
    (by first | exact .inl (by decide +kernel) | exact .inr (by decide +kernel)) (by rw [isSubtype_type]; kernel_rfl)
theorem mro_bya : mroOf (.type "bytearray") = pure [.type "bytearray", .type "object"] := by rw [mroOf_type]; kernel_rfl
theorem new_bya : typeLookup (.type "bytearray") "__new__" = pure (some (.builtin "bytearray.__new__")) := by rw [typeLookup_type, builtinLookup_eq_fast]; kernel_rfl
theorem called_bya : TypeCalled "bytearray" "bytearray.__new__" "bytearray.__init__" :=
  ⟨by decide +kernel, by decide +kernel, ⟨_, _, mro_bya⟩, madeBy_type mro_bya new_bya (by decide +kernel), by decide +kernel, by rw [isSubtype_type]; kernel_rfl, slot_bya⟩
theorem typeCall_bya (a : Value) : checkTypeCall "bytearray" ⟨[a], []⟩ = pure () := by kernel_rfl
theorem newCall_bya (a : Value) : checkBuiltinCall "bytearray.__new__" ⟨[.type "bytearray", a], []⟩ = pure () := by kernel_rfl
theorem entryN_bya : entryFor table "bytearray.__new__" = some Builtin.«list.__new__» :=
  entryFor_alias (id' := "list.__new__") (by rw [fastTable_eq_tree]; kernel_rfl) (by kernel_rfl) (by decide +kernel) (by rw [fastTable_eq_tree]; kernel_rfl)
theorem entryI_bya : entryFor table "bytearray.__init__" = some Builtin.«bytearray.__init__» := entryFor_of_tree (by kernel_rfl)
theorem plainN_bya : plainId "bytearray.__new__" = true := by decide +kernel
theorem plainI_bya : plainId "bytearray.__init__" = true := by decide +kernel
theorem sub_bya : isSubtype (.type "bytearray") (.type "bytearray") = pure true := by rw [isSubtype_type]; kernel_rfl
set_option maxRecDepth 1000000 in
set_option maxHeartbeats 4000000 in
theorem owner_bya : ("bytearray.__new__".splitOn ".__new__").headD "" = "bytearray" := by simp +decide [String.splitOn, String.splitOnAux]
set_option maxRecDepth 1000000 in
set_option maxHeartbeats 4000000 in
theorem ownerI_bya : ("bytearray.__init__".splitOn ".__init__").headD "" = "bytearray" := by simp +decide [String.splitOn, String.splitOnAux]
abbrev byaObj (b : Array UInt8) : Obj := { cls := .type "bytearray", data := .bytearray b }
section
variable {prog : Program} {w : World} {A : Around} {E : Value → Shared → Prop} {s : Shared}
theorem code_bya_new (a : Value) {Q₁ : Value → Shared → Prop} (h : Q₁ (.ref s.heap.objs.size) { s with heap := s.heap.push (byaObj #[]) }) :
    codeAny (model prog w) A (.call (.builtin "bytearray.__new__") ⟨[.type "bytearray", a], []⟩) (wants Q₁ E) s := by
  refine codeAny_of_tree ?_
  show wpAny _ A.in1 (do checkBuiltinCall "bytearray.__new__" ⟨[.type "bytearray", a], []⟩; again (.builtin "bytearray.__new__" ⟨[.type "bytearray", a], []⟩)) _ _ s
  refine wpAny_bind (wpAny_of_eq (newCall_bya a) (wpAny_pure ⟨plainId_quiet plainN_bya _, codeAny_builtin_stack entryN_bya rfl fun p st => ?_⟩))
  rw [Around.under_plainId plainN_bya _]
  have hsub := sub_bya
  have hown := owner_bya
  obtain ⟨hp, g, d, tk, os⟩ := s
  simp only [hown]
  wp_walk
  exact h
theorem ownr_bya : Manifest.owners.lookup (String.ofList ['y', 'a', 'r', 'r', 'a', 'e', 't', 'y', 'b'].reverse) = some Manifest.sig_bytearray := by kernel_rfl
theorem args_bya (a b : Value) : argsOk "bytearray.__init__" ⟨[a, b], []⟩ := by
  unfold argsOk; rw [signature?_of (id := "bytearray.__init__") (n := ['_', '_', 't', 'i', 'n', 'i', '_', '_']) (o := ['y', 'a', 'r', 'r', 'a', 'e', 't', 'y', 'b']) (by kernel_rfl) ownr_bya]; kernel_rfl
theorem codeS_builtin {id : String} {args : Args} {b : Builtin} {R : Result → Shared → Prop} (hcl : clearCode (.builtin id args) = true) (hb : entryFor table id = some b)
    (h : wpS (model prog w) (A.under (.builtin id args)) (b args) (fun fin s' => match fin with | .done f => R (.ok f) s' | .again c' => c'.quiet = true ∧ codeS (model prog w) A c' R s') (fun e s' => R (.error e) s') s) :
    codeS (model prog w) A (.builtin id args) R s := by
  refine codeS_tree hcl ?_
  show wpS _ _ (match entryFor table id with | some b => b args | none => unsupported ((withoutEnding? id "#data").getD id)) _ _ s
  rw [hb]; exact h
theorem codeS_callBuiltin {id : String} {args : Args} {b : Builtin} {R : Result → Shared → Prop} (hq : plainId id = true) (hcl : clearCode (.builtin id args) = true) (hb : entryFor table id = some b)
    (h : wpAny (model prog w) A.in1 (checkBuiltinCall id args) (fun _ s₁ => wpS (model prog w) A.in1 (b args)
      (fun fin s' => match fin with | .done f => R (.ok f) s' | .again c' => c'.quiet = true ∧ codeS (model prog w) A c' R s') (fun e s' => R (.error e) s') s₁) (fun e s' => R (.error e) s') s) :
    codeS (model prog w) A (.call (.builtin id) args) R s := by
  refine codeS_tree rfl ?_
  show wpS _ A.in1 (do checkBuiltinCall id args; again (.builtin id args)) _ _ s
  refine wpS_step (wpAny_mono h (fun _ s₁ h₁ => wpS_pure ⟨plainId_quiet hq args, codeS_builtin hcl hb ?_⟩) fun _ _ x => x)
  rw [Around.under_plainId hq args]; exact h₁
theorem rel_bya : typeLookup (.type "bytearray") "__release_buffer__" = pure (some (.builtin "bytearray.__release_buffer__")) := by rw [typeLookup_type, builtinLookup_eq_fast]; kernel_rfl
theorem relE_bya : "bytearray.__release_buffer__".endsWith ("." ++ "__release_buffer__") = true := by decide +kernel
theorem relD_bya : "bytearray.__release_buffer__".dropRight ("__release_buffer__".length + 1) = "bytearray" := by decide +kernel
theorem own_bya {a : Addr} {b : Array UInt8} {k : Nat} {dd : Option Addr} {sl : Array (Option Value)} {Q : Bool → Shared → Prop} (ha : s.heap.get? a = some { cls := .type "bytearray", dict := dd, data := .bytearray b k, slots := sl }) (h : Q false s) :
    wpAny (model prog w) A (Builtin.Bytes.ownRelease (.ref a)) Q E s := by
  have h1 := rel_bya
  have h2 := relE_bya
  have h3 := relD_bya
  have h4 := sub_bya
  unfold Builtin.Bytes.ownRelease Builtin.Bytes.slotIsOwn
  wp_walk
  rw [h2]
  simp only [Bool.not_true, Bool.false_eq_true, if_false]
  rw [h3]
  wp_walk
  exact h
theorem upd_bya {a : Addr} {b : Array UInt8} {k : Nat} {dd : Option Addr} {sl : Array (Option Value)} {f : Array UInt8 → Array UInt8} {Q : Unit → Shared → Prop} (ha : s.heap.get? a = some { cls := .type "bytearray", dict := dd, data := .bytearray b k, slots := sl })
    (hf : (f b).size ≤ sizeLine) (h : Q () { s with heap := s.heap.update a (Obj.mapBytearray f) }) : wpAny (model prog w) A (Builtin.Bytes.write (.ref a) f) Q E s := by
  unfold Builtin.Bytes.write updateBytearray
  refine wpAny_bind (wpAny_load ha ?_)
  dsimp only
  refine wpAny_bind (wpAny_update ha ?_)
  refine wpAny_lookBehind (Heap.get?_update_self (Obj.mapBytearray f) ha rfl) ?_ h
  show (if (f b).size > sizeLine then some "bytearray:memory" else none) = none
  exact if_neg (Nat.not_lt.mpr hf)
theorem opt_bya (v : Value) : Builtin.Bytes.bindOptional "bytearray.__init__" "bytearray" ["source", "encoding", "errors"] [v] [] = pure [some v, none, none] := by rfl
theorem str_bya (i : Int) (t : Tok) : asStr? (.int i t) = pure none := by rfl
theorem asIdx_bya (i : Int) (t : Tok) : asIndex (.int i t) = pure i := by rfl
theorem idx_bya : typeLookup (.type "int") "__index__" = pure (some (.builtin "int.__index__")) := by rw [typeLookup_type, builtinLookup_eq_fast]; kernel_rfl
theorem init_bya {a : Addr} {n : Nat} {t : Tok} {Q : Fin → Shared → Prop} (hn : n ≤ 1000) (h0 : 0 < n) (ha : s.heap.get? a = some { cls := .type "bytearray", data := .bytearray #[] })
    (h : ∀ h', h'.get? a = some (byaObj (Array.replicate n 0)) → (∀ b o, b ≠ a → s.heap.get? b = some o → h'.get? b = some o) → Q (.done (.ret .none)) { s with heap := h' }) :
    wpS (model prog w) A (Builtin.«bytearray.__init__» ⟨[.ref a, .int n t], []⟩) Q E s := by
  unfold Builtin.«bytearray.__init__»
  dsimp only
  refine wpS_step (own_bya ha ?_)
  rw [if_neg Bool.false_ne_true]
  refine wpS_step (wpAny_of_eq (opt_bya _) ?_)
  dsimp only
  refine wpS_step (wpAny_pure ?_)
  refine wpS_step (wpAny_pure ?_)
  refine wpS_bind (wpS_bind (wpS_exported ?_))
  refine wpS_of ?_
  wp_walk
  refine wpS_step ?_
  refine upd_bya ha (Nat.zero_le _) ?_
  have ha' := Heap.get?_update_self (Obj.mapBytearray fun _ => (#[] : Array UInt8)) ha rfl
  refine wpS_of ?_
  wp_step
  have e1 := str_bya n t
  have e2 := idx_bya
  have e3 := asIdx_bya n t
  wp_step
  with_reducible refine wpAny_ite_false ?hc ?_
  case hc => exact rfl
  have e4 := typeIs_int { s with heap := s.heap.update a (Obj.mapBytearray fun _ => (#[] : Array UInt8)) } n t
  with_reducible refine wpAny_bind ?_
  with_reducible refine wpAny_ite_false ?hc ?_
  case hc => exact rfl
  with_reducible refine wpAny_ite_false ?hc ?_
  case hc => exact rfl
  with_reducible refine wpAny_pure ?_
  with_reducible refine wpAny_bind ?_
  with_reducible refine wpAny_specialOf e4 e2 ?_
  with_reducible refine wpAny_ite_true ?hc ?_
  case hc => exact rfl
  with_reducible refine wpAny_bind ?_
  with_reducible refine wpAny_attempt ?_
  with_reducible refine wpAny_of_eq e3 ?_
  dsimp only
  have h1 : (!Builtin.Bytes.fitsIndex (n : Int)) = false := by
    unfold Builtin.Bytes.fitsIndex
    simp; omega
  have h2 : ¬ ((n : Int) < 0) := by omega
  have h3 : ¬ (((n : Int) == 2 ^ 63 - 1) = true) := by simp; omega
  have h4 : ¬ (Builtin.Bytes.tooLong (n : Int).toNat = true) := by
    unfold Builtin.Bytes.tooLong
    simp [sizeLine]; omega
  with_reducible refine wpAny_ite_false ?hc ?_
  case hc => exact (decide_eq_false (by rw [h1]; exact Bool.false_ne_true))
  with_reducible refine wpAny_ite_false ?hc ?_
  case hc => exact (decide_eq_false h2)
  with_reducible refine wpAny_ite_false ?hc ?_
  case hc => exact (decide_eq_false h3)
  with_reducible refine wpAny_ite_false ?hc ?_
  case hc => exact (decide_eq_false h4)
  with_reducible refine wpAny_bind ?_
  with_reducible refine wpAny_rule ?_
  with_reducible refine wpAny_ite_true ?hc ?_
  case hc => exact decide_eq_true (by omega)
  refine wpAny_bind (upd_bya ha' (by simp [sizeLine]; omega) ?_)
  refine wpAny_pure (h _ ?_ fun b o hb e => ?_)
  · rw [Heap.get?_update_self (Obj.mapBytearray fun _ => Array.replicate (n : Int).toNat (0 : UInt8)) ha' rfl]
    rfl
  · exact (Heap.get?_update_other _ _ (Ne.symm hb)).trans ((Heap.get?_update_other _ _ (Ne.symm hb)).trans e)
theorem call_bya {n : Nat} {t : Tok} {Q : Value → Shared → Prop} (hn : n ≤ 1000) (h0 : 0 < n)
    (h : ∀ h', h'.get? s.heap.objs.size = some (byaObj (Array.replicate n 0)) → (∀ b o, s.heap.get? b = some o → h'.get? b = some o) → Q (.ref s.heap.objs.size) { s with heap := h' }) :
    wpS (model prog w) A (call (.type "bytearray") [.int n t]) Q E s := by
  obtain ⟨c, tl, hmro⟩ := called_bya.mro
  have hmade := called_bya.made
  have hsub := called_bya.sub
  have h1 := called_bya.notType
  have h2 := called_bya.canCreate
  have hct := typeCall_bya (.int n t)
  refine wpS_call (codeS_tree rfl ?_)
  show wpS _ _ (callAny (.type "bytearray") _) _ _ _
  refine wpS_pure ⟨Code.quiet_builtin _ (by decide +kernel), codeS_builtin rfl F.entry_type_call ?_⟩
  rw [Around.under_plain (weight_type_call_type "bytearray" [.int n t] []) rfl]
  unfold Builtin.«type.__call__»
  dsimp only
  with_reducible refine wpS_ite_false ?hc ?_
  case hc => rw [h1]; exact rfl
  with_reducible refine wpS_ite_false ?hc ?_
  case hc => exact decide_eq_false (by rw [h2]; exact Bool.false_ne_true)
  with_reducible refine wpS_step ?_
  with_reducible refine wpAny_of_eq hct ?_
  with_reducible refine wpS_step ?_
  with_reducible refine wpAny_of_eq hmro ?_
  with_reducible refine wpS_ite_false ?hc ?_
  case hc => exact rfl
  with_reducible refine wpS_step ?_
  with_reducible refine wpAny_of_eq hmade ?_
  dsimp only
  with_reducible refine wpS_step ?_
  with_reducible refine wpAny_pure ?_
  with_reducible refine wpS_step ?_
  with_reducible refine wpAny_holding ?_
  with_reducible refine wpAny_call ?_
  refine codeAny_mono (code_bya_new (Q₁ := fun v s' => v = .ref s.heap.objs.size ∧ s' = { s with heap := s.heap.push (byaObj #[]) }) (E := fun _ _ => False) (.int n t) ⟨rfl, rfl⟩) fun r s₁ hr => ?_
  cases r with
  | error e => exact hr.elim
  | ok fl => ?_
  cases fl with
  | ret obj => ?_
  | _ => exact hr.elim
  obtain ⟨rfl, rfl⟩ := hr
  have ho : (s.heap.push (byaObj #[])).get? s.heap.objs.size = some { cls := .type "bytearray", data := .bytearray #[] } := Heap.get?_push_size _ rfl
  have hT : ({ s with heap := s.heap.push (byaObj #[]) } : Shared).TypeIs (.ref s.heap.objs.size) "bytearray" := ⟨_, ho, rfl⟩
  dsimp only
  with_reducible refine wpS_step ?_
  refine wpAny_isInstance hT hsub ?_
  with_reducible refine wpS_ite_false ?hc ?_
  case hc => exact rfl
  with_reducible refine wpS_bind ?_
  refine wpS_holding ?_
  unfold callSpecial?
  with_reducible refine wpS_step ?_
  refine wpAny_specialOf hT called_bya.init.lookup ?_
  dsimp only
  refine wpS_holding ?_
  with_reducible refine wpS_step ?_
  refine wpAny_of_eq (called_bya.init.bind _) ?_
  with_reducible refine wpS_bind ?_
  refine wpS_call (codeS_callBuiltin plainI_bya rfl entryI_bya (called_bya.init.check _ _ _ _ _ _ _ _ hT (args_bya _ _) ?_))
  refine init_bya hn h0 ho fun h' e1 e2 => ?_
  dsimp only
  refine wpS_pure ?_
  with_reducible refine wpS_ite_false ?hc ?_
  case hc => exact rfl
  refine wpS_pure ?_
  refine h h' e1 fun b o e => e2 b o (Nat.ne_of_lt (Heap.lt_size e)) (Heap.get?_push_of_some _ e)
end
end Mine

namespace Mine
open PySem PySem.W
/-! the head of an open law, whose call need only come through where no holder of a bytearray stands around: the caller's own place is such a one -/
theorem clr_caller : Clr ⟨.builtin "claim.caller" {}, none, none, [], none⟩ := ⟨by decide +kernel, fun x hx => nomatch hx⟩
abbrev WalkS (q : Program) (loose : List Str) (XP : (Str → Option Value) → Heap → Prop) (YP : World → Heap → Prop) (r : RowW) (d : DefRec) (kwd : List (Str × Expr)) (run : Value → List Value → Sem Value) : Prop :=
  ∀ (w : World) (s₀ s₁ : Shared) (mg mb : Str → Option Value), Ground q loose r.records XP w s₀ mg mb s₁.heap → YP w s₁.heap → ∀ (a : Addr) (o : Obj) (pm cd doc dV kV : Value), s₁.heap.get? a = some o →
    o.data = .func { docDef d.name d.params d.body d.scope pm cd doc with defaults := dV, kwdefaults := kV } → s₁.heap.CodeRec cd d.name → Dflts mg s₁.heap d.params kwd dV kV → mg d.name = some (.ref a) → s₁.gens = #[] →
    ∀ (args : List WData) (vals : List Value) (as : List Addr), r.claim.pre args = true → WData.layableAll args = true → ReadsAllW r.records (classAt s₀.heap) s₁.heap vals args as → WellAll w.params s₁.heap vals args → (∀ a ∈ as, (a == sysModules) = false) →
      wpS (model r.prog w) callerA (run (.ref a) vals) (fun v s' => GoodWG r.claim (classAt s₀.heap) (ExcName.means s₀.heap) args s₁ (.ok (.ret v)) s')
        (fun e s' => GoodWG r.claim (classAt s₀.heap) (ExcName.means s₀.heap) args s₁ (.error e) s') s₁
/-- the caller's tree ends, wherever the walk that is clear of holders says so -/
theorem ends_clear {prog : Program} {w : World} {t : Sem Fin} {s : Shared} {R : Result → Shared → Prop} (hreg : s.asleep)
    (h : wpS (model prog w) callerA t (fun fin s' => ∃ f, fin = .done f ∧ R (.ok f) s' ∧ AllBare s'.gens) (fun e s' => R (.error e) s' ∧ AllBare s'.gens) s) :
    ∃ n r s' s'', runN (denote table) prog w n s ⟨t, .builtin "claim.caller" {}, default, []⟩ = .halted (outcomeOf r) s'' ∧
      schedN (denote table) prog w n (.single s ⟨t, .builtin "claim.caller" {}, default, []⟩) = .halted (outcomeOf r) s'' ∧ s''.forget = s'.forget ∧ R r s' := by
  have h0 := h ⟨.builtin "claim.caller" {}, none, none, [], none⟩ default caller_in clr_caller
  obtain ⟨n, r, s', s'', a, b, c, d⟩ := wp_halts_full (M := model prog w) (R := R) hreg
    (Sem.wp_mono _ _ _ (fun fin _ s' x => by obtain ⟨f, rfl, y, z⟩ := x; exact ⟨y, leftWithCleanup_false_of_bare z⟩) (fun _ _ _ x => ⟨x.1, leftWithCleanup_false_of_bare x.2⟩) _ _ h0)
  exact ⟨n, r, s', s'', b, a, c, d⟩
theorem PySem.W.holds_open {r : OpenRow} {q : Program} {loose : List Str} {Xt : Shared → Bool} {XP : (Str → Option Value) → Heap → Prop} {α : Type} {Yf : Shared → α} {Ya : World → α} {YP : World → Heap → Prop} {d : DefRec} {kwd : List (Str × Expr)} {N : Nat}
    (left : LeftO r.prog q loose Xt Yf Ya N) (hY : ∀ w s, Yf s = Ya w → YP w s.heap) (hYk : ∀ w h h', YP w h → (∀ b o, h.get? b = some o → h'.get? b = some o) → YP w h')
    (hX : ∀ s, Xt s = true → XP (s.heap.nsMap mainGlobals) s.heap) (hXk : ∀ mg h h', XP mg h → (∀ b o, h.get? b = some o → h'.get? b = some o) → XP mg h')
    (hdef : defOf q r.name = some (d, kwd)) (hp : r.prog.theDef r.name = some (d.params, d.body, d.scope)) (hk : kwWritten? d.params.kwonlyargs d.params.kw_defaults = some kwd) (hRf : ∀ s, Xt s = true → RecFacts r.records s.heap) (hwr : (!r.writes || r.records.isEmpty) = true)
    (k1 : r.wellSaid = true) (ok : (chainsOk q && opensWell r.prog && (frees r.toRowW && r.within.isEmpty)) = true) (hb : r.prog.bare) (hw : r.toRowW.promised)
    (call : WalkS q loose XP YP r.toRowW d kwd fun f vs => PySem.call f vs) : r.Holds := by
  obtain ⟨ok1, ok2⟩ := Bool.and_eq_true_iff.mp ok
  obtain ⟨okc, oko⟩ := Bool.and_eq_true_iff.mp ok1
  obtain ⟨okf, okw⟩ := Bool.and_eq_true_iff.mp ok2
  obtain ⟨fs, fu, fa, fp, fm⟩ := frees_parts okf
  have noWithin : r.toRowW.claim.within = [] := List.isEmpty_iff.mp okw
  have top := fun w => left.behind (XP := fun mg h => XP mg h ∧ RecFacts r.records h) (fun s hs => ⟨hX s hs, hRf s hs⟩) okc w
  refine ⟨k1, hw, ⟨hb, oko, by show r.makers.map _ = []; rw [fm]; rfl⟩, hw.witness, fun w => ⟨(top w).1, fun s' hs' => ?_⟩⟩
  obtain ⟨s₀, e0, g0, s, TR, sl, gens, isG, GX, said⟩ := (top w).2 s' hs'
  obtain ⟨gx, rf⟩ := GX.X
  have G0 : Ground q loose [] XP w s (s.heap.nsMap mainGlobals) (s.heap.nsMap builtinsNs) s.heap := ⟨GX.T, GX.B, GX.D, GX.TE, GX.TD, GX.W, gx, GX.cls, GX.has, GX.apart, GX.once, GX.K⟩
  have G1 : Ground q loose r.records XP w s (s.heap.nsMap mainGlobals) (s.heap.nsMap builtinsNs) s.heap := rf.ground G0
  have gens0 : s.gens = #[] := Array.eq_empty_of_size_eq_zero (beq_iff_eq.mp gens)
  refine ⟨s₀, e0, g0, s, TR, fun n hn => ?_, rf.1, rf.2.1, ?_⟩
  · have : n = r.name := by
      cases hq : r.pinned <;> rw [hq] at hn <;> simp at hn
      exact hn
    subst this
    exact pinned_of_view isG G0 hdef hp hk
  intro args hpre hlay ord hord
  obtain ⟨⟨vs, s₁⟩, laid⟩ := Option.isSome_iff_exists.mp (layAllW_isSome (P := w.params) (ord := ord) G1.has args r.args s (pre_splitW hpre).1)
  have keep := layAllW_keeps _ _ _ laid
  have rest := layAllW_rest _ _ _ laid
  obtain ⟨as, reads, newOnes, stand⟩ := reads_layAllW hord _ _ _ laid hlay s₁.heap (fun _ _ e => e)
  have L : Laid r.records w s s₁ args vs as := ⟨⟨ord, hord, laid⟩, reads, newOnes, stand, keep, rest.1.trans gens0, rest.2.2.1⟩
  have G2 := G1.keeps hXk keep
  obtain ⟨a, o, pm, cd, doc, dV, kV, f1, f2, f3, f4, f5⟩ := G2.fn hdef
  have C := call w s s₁ _ _ G2 (hYk _ _ _ (hY w s said) keep) a o pm cd doc dV kV f2 f3 f4 f5 (defOf_name hdef ▸ f1) L.gens args vs as hpre hlay L.reads L.well (L.low G1.low)
  have good : ∀ res s2, GoodWG r.toRowW.claim (classAt s.heap) (ExcName.means s.heap) args s₁ res s2 →
      (r.toRowW.claim.Ends s args vs s₁ res s2 ∧ s2.os = s.os ∧ (r.writes = true → namesKept r.prog r.keeps s.heap s2.heap ∧ ∀ x ∈ r.records, ∀ b, classAt s.heap x.1 = some b → recordClass s2.heap b x.1 (x.2.map (·.1)) = true)) ∧ AllBare s2.gens := fun res s2 g => by
    obtain ⟨x, y, z⟩ := g.laid (c := r.toRowW.claim) fs noWithin (ident_freeW fu fa fp) L
    exact ⟨⟨x, y, fun wr => ⟨namesKept_of TR isG r.keeps keep g.2.1.old, noTable hwr wr⟩⟩, z⟩
  obtain ⟨n, res, u, u', ran, sched, same, fin, os, names⟩ := ends_clear (prog := r.prog) (w := w) (s := s₁)
    (t := do match ← nsGet mainNs r.name with
      | some f => do ret (← PySem.call f vs)
      | none => unsupported "claim.caller:no-such-global")
    (R := fun res s2 => r.toRowW.claim.Ends s args vs s₁ res s2 ∧ s2.os = s.os ∧ (r.writes = true → namesKept r.prog r.keeps s.heap s2.heap ∧ ∀ x ∈ r.records, ∀ b, classAt s.heap x.1 = some b → recordClass s2.heap b x.1 (x.2.map (·.1)) = true))
    (Shared.asleep_of_life rest.2.2.2 sl)
    (wpS_step (wpAny_nsGet G2.T.g (by
      rw [f1]
      exact wpS_bind (wpS_mono C (fun v s2 g => wpS_pure ⟨_, rfl, good _ _ g⟩) fun e s2 g => good _ _ g))))
  obtain ⟨eh, _, _, eo, _⟩ := Shared.forget_eq same
  have fin' := fin.congr eh
  refine ⟨vs, s₁, laid, n, _, u', sched, ?_, fun _ i x hx => by rw [gens0] at hx; simp at hx, fun wr => by rw [eh]; exact names wr, by rw [(runN_life _ _ _ ran).trans rest.2.2.2], Shared.rest_eq (eo.trans os)⟩
  rcases fin' with ⟨v, rfl, d1, d2, d3, d4, d5⟩ | ⟨e, ob, cls, rfl, d1, d2, d3, d4, d5⟩
  · exact .inl ⟨v, rfl, d1, d2, d3, fun b o y _ => d4 b o y, d5⟩
  · exact .inr ⟨e, ob, cls, rfl, d1, d2, d3, d4, fun b o y _ => d5 b o y⟩
end Mine

namespace Mine
section
variable {prog : Program} {w : World} {A : Around} {s : Shared} {env : Env} {h₀ : Heap} {L : Addr}
/-- for x in range(a, b, c) -/
theorem for_range {target : Expr} {body : List Stmt} {r : Addr} {a₀ b₀ c₀ : Int} {t₀ u₀ v₀ : Tok} {n : Nat} {m₀ : Str → Option Value} {nx₀ : Led} {Q : Flow → Shared → Prop}
    (J : Nat → (Str → Option Value) → Led → Prop) (hh : A.handled = none) (hL : env.locals = L) (hr : IsRange s.heap r a₀ b₀ c₀ t₀ u₀ v₀) (hsmall : Builtin.Range.small a₀ b₀ c₀ = true) (hn : Builtin.Range.rangeSize a₀ b₀ c₀ = (n : Int))
    (F : Fr h₀ L s.heap m₀) (N : News h₀ L s.heap nx₀) (h0 : J 0 m₀ nx₀)
    (turn : ∀ i t m nx h tk I o, i < n → J i m nx → (∀ p ∈ nx, p.1 ≠ I) → Fr h₀ L h m → News h₀ L h ((I, o) :: nx) →
      wpAny (model prog w) A (assign target env (.int (a₀ + i * c₀) t)) (fun _ s₃ => wpAny (model prog w) A (execs body env) (TurnTo h₀ L I o (J (i + 1)) { s with heap := h, toks := tk } Q) nah s₃) nah { s with heap := h, toks := tk })
    (done : ∀ m nx h tk, J n m nx → Fr h₀ L h m → News h₀ L h nx → Q .next { s with heap := h, toks := tk }) :
    wpAny (model prog w) A (pyIter (.ref r)) (fun it s₂ => codeAny (model prog w) A (.forLoop target it body [] env) (fun r s' => match r with | .ok f => Q f s' | .error e => cameBackBy (model prog w) A env nah e s') s₂) nah s := by
  refine wpAny_pyIter_range hr hsmall ?_
  have W := Walks.range (prog := prog) (w := w) hh s.heap.objs.size a₀ c₀ n
  have N1 : News h₀ L (s.heap.push { cls := .type "range_iterator", data := .fields #[rawInt a₀, rawInt (Builtin.Range.rangeSize a₀ b₀ c₀), rawInt c₀] }) nx₀ := fun p hp => ⟨Heap.get?_push_of_some _ (N p hp).1, (N p hp).2⟩
  refine for_walk [] J hL W ?_ ?_ (Nat.ne_of_lt F.ns.lt) (next_is_new F) (fresh_ne N) (by show IsRangeIter _ _ _ _ _; rw [hn]; simpa using Heap.get?_push_size _ rfl) (F.push _) N1 (fun _ _ _ _ p hp => nomatch hp) h0 ?_ ?_ ?_
  · intro i h hi; exact ⟨_, hi⟩
  · intro b hb
    exact .inl (List.mem_singleton.mp hb)
  · rintro i s' v Q' hst hq
    exact go_iter hst (.inr (.inr rfl)) hq
  · rintro i v m nx h tk o hi ⟨t, rfl⟩
    exact turn i t m nx h tk _ o hi
  · intro m nx h tk hJ
    exact done m nx h tk hJ
end
end Mine

namespace Mine
open Calls
/-! the restricted walk's own rules: defs, statements and calls along the one path that leads to a bytearray's making -/
section
variable {α : Type} {M : Model} {A : Around} {E : Value → Shared → Prop} {s : Shared} {env : Env}
theorem wpS_keep {vs : List Value} {m : Sem α} {Q : α → Shared → Prop} (h : wpS M A m Q E s) : wpS M A (m.keep vs) Q E s :=
  fun Γ p hΓ hc => by rw [Sem.wp_keep]; exact h Γ p hΓ hc
theorem wpS_ite {c : Prop} [Decidable c] {t e : Sem α} {Q : α → Shared → Prop} (h : if c then wpS M A t Q E s else wpS M A e Q E s) : wpS M A (if c then t else e) Q E s := by
  split <;> (rename_i hc; simpa [hc] using h)
theorem execs_consS {st : Stmt} {rest : List Stmt} {Q : Flow → Shared → Prop} (h : wpS M A (exec st env) (fun f s' => match f with | .next => wpS M A (execs rest env) Q E s' | f => Q f s') E s) : wpS M A (execs (st :: rest) env) Q E s := by
  rw [execs_cons]
  refine wpS_bind (wpS_mono h (fun f s' h' => ?_) fun _ _ x => x)
  cases f <;> first | exact h' | exact wpS_pure h'
/-- a statement that asks nothing of what stands around -/
theorem execs_stepS {st : Stmt} {rest : List Stmt} {Q : Flow → Shared → Prop} (h : wpAny M A (exec st env) (fun f s' => match f with | .next => wpS M A (execs rest env) Q E s' | f => Q f s') E s) : wpS M A (execs (st :: rest) env) Q E s :=
  execs_consS (wpS_of h)
theorem Assign_NameS {x pos' value pos} {Q : Flow → Shared → Prop}
    (h : wpS M A (eval value env) (fun v s₁ => wpAny M A (storeName env x v) (fun _ => Q .next) E s₁) E s)
    (hs : swapsWith value (some (.Name x pos')) pos.line env = pure false := by rfl) :
    wpS M A (exec (.Assign [.Name x pos'] value pos) env) Q E s := by
  rw [exec_Assign_Name env x pos' value pos hs]
  refine wpS_step (wpAny_standAt (wpS_bind (wpS_mono h (fun v s₁ h₁ => wpS_step (wpAny_standAt (wpS_step ?_))) fun _ _ x => x)))
  exact wpAny_bindName (wpAny_mono h₁ (fun _ _ q => wpS_pure q) fun _ _ x => x)
theorem Assign_TupleS {elts k tpos value pos} {Q : Flow → Shared → Prop}
    (h : wpS M A (eval value env) (fun v s₁ => wpAny M A (assign (.Tuple elts k tpos) env v) (fun _ => Q .next) E s₁) E s)
    (hs : swapsWithSole [.Tuple elts k tpos] value pos.line env = pure false := by rfl)
    (hw : swappedStores [.Tuple elts k tpos] value env = pure none := by rfl) :
    wpS M A (exec (.Assign [.Tuple elts k tpos] value pos) env) Q E s := by
  rw [exec_Assign]
  refine wpS_step (wpAny_standAt ?_)
  rw [hs]
  refine wpS_step (wpAny_pure ?_)
  rw [if_neg (by decide)]
  refine wpS_bind (wpS_mono h (fun v s₁ h₁ => wpS_of ?_) fun _ _ x => x)
  rw [hw]
  refine wpAny_bind (wpAny_pure ?_)
  show wpAny M A (do assignAll v [assign (.Tuple elts k tpos) env]; pure .next) Q E s₁
  exact wpAny_bind (wpAny_mono h₁ (fun _ _ x => wpAny_pure x) fun _ _ x => x)
theorem Assign_Tuple_swappedS {elts k tpos value pos} {names : List Str} {Q : Flow → Shared → Prop}
    (h : wpS M A (eval value env) (fun v s₁ => wpAny M A (unpackItems v names.length none) (fun items s₂ =>
      wpAny M A (assignInOrder (names.reverse.map fun n => bindName env n) items.reverse) (fun _ => Q .next) E s₂) E s₁) E s)
    (hs : swapsWithSole [.Tuple elts k tpos] value pos.line env = pure false := by rfl)
    (hw : swappedStores [.Tuple elts k tpos] value env = pure (some names) := by rfl) :
    wpS M A (exec (.Assign [.Tuple elts k tpos] value pos) env) Q E s := by
  rw [exec_Assign]
  refine wpS_step (wpAny_standAt ?_)
  rw [hs]
  refine wpS_step (wpAny_pure ?_)
  rw [if_neg (by decide)]
  refine wpS_bind (wpS_mono h (fun v s₁ h₁ => wpS_of ?_) fun _ _ x => x)
  rw [hw]
  refine wpAny_bind (wpAny_pure ?_)
  show wpAny M A (do rule "assign.swapped-stores"; let items ← unpackItems v names.length none; assignInOrder (names.reverse.map fun n => bindName env n) items.reverse; pure .next) Q E s₁
  exact wpAny_bind (wpAny_rule (wpAny_bind (wpAny_mono h₁ (fun items s₂ h₂ => wpAny_bind (wpAny_mono h₂ (fun _ _ x => wpAny_pure x) fun _ _ x => x)) fun _ _ x => x)))
theorem Tuple_S {elts : List Expr} {k : Nat} {pos : Pos} {Q : Value → Shared → Prop}
    (h : wpS M A (spliced (backTo pos (starEach elts env))) (fun vs s₁ => wpAny M A (newTuple vs) Q E s₁) E s) : wpS M A (eval (.Tuple elts k pos) env) Q E s := by
  show wpS M A (do standAt pos; newTuple (← spliced (backTo pos (starEach elts env)))) Q E s
  exact wpS_step (wpAny_standAt (wpS_bind (wpS_mono h (fun _ _ x => wpS_of x) fun _ _ x => x)))
theorem spliced_consS {x : Sem Value} {rest : List (Bool × Sem Value)} {Q : List Value → Shared → Prop}
    (h : wpS M A x (fun v s₁ => wpS M A (spliced rest) (fun vs s₂ => Q (v :: vs) s₂) E s₁) E s) : wpS M A (spliced ((false, x) :: rest)) Q E s := by
  rw [spliced]
  refine wpS_bind (wpS_mono h (fun v s₁ h₁ => ?_) fun _ _ x => x)
  simp only [Bool.false_eq_true, if_false]
  exact wpS_step (wpAny_pure (wpS_bind (wpS_holding (wpS_mono h₁ (fun vs s₂ h₂ => wpS_pure h₂) fun _ _ x => x))))
theorem args_consS {e : Expr} {rest : List Expr} {pos : Pos} {Q : List Value → Shared → Prop}
    (h : wpS M A (eval e env) (fun v s₁ => wpS M A (spliced (backTo pos (starEach rest env))) (fun vs s₂ => Q (v :: vs) s₂) E s₁) E s)
    (he : starEach (e :: rest) env = (false, eval e env) :: starEach rest env := by rfl) : wpS M A (spliced (backTo pos (starEach (e :: rest) env))) Q E s := by
  rw [he]; exact spliced_consS h
theorem args_nilS {pos : Pos} {Q : List Value → Shared → Prop} (h : Q [] s) : wpS M A (spliced (backTo pos (starEach [] env))) Q E s := wpS_of (args_nil h)
theorem evalArgs_plainS {f : Value} {x : Sem Value} {rest : List (Bool × Sem Value)} {Q : Args → Shared → Prop}
    (h : wpS M A (spliced ((false, x) :: rest)) (fun vs s' => Q ⟨vs, []⟩ s') E s) : wpS M A (evalArgs f true ((false, x) :: rest) []) Q E s := by
  unfold evalArgs
  show wpS M A (spliced ((false, x) :: rest) >>= _) Q E s
  refine wpS_bind (wpS_mono h (fun vs s' h' => ?_) fun _ _ x => x)
  refine wpS_holding ?_
  exact wpS_of (wpAny_bind (wpAny_pure (wpAny_bind (wpAny_pure (wpAny_pure h')))))
theorem Call_S {func : Expr} {args : List Expr} {pos : Pos} {Q : Value → Shared → Prop}
    (h : wpAny M A (eval func env) (fun f s₁ => wpS M A (callWith pos f [] (backTo pos (starEach args env)) []) Q E s₁) E s)
    (he : eval (.Call func args [] pos) env = (do callWith pos (← eval func env) [] (backTo pos (starEach args env)) (backToKw pos (keywordEach [] env))) := by rfl) :
    wpS M A (eval (.Call func args [] pos) env) Q E s := by
  rw [he]; exact wpS_step h
theorem callWith_functionS {pos : Pos} {a : Addr} {o : Obj} {fd : FuncData} {first : List Value} {args : List (Bool × Sem Value)} {Q : Value → Shared → Prop}
    (h : wpS M A (evalArgs (.ref a) true args []) (fun x s₁ => (s₁.heap.get? a = some o ∧ o.data = .func fd) ∧ wpS M A (call (.ref a) (first ++ x.pos) x.kw) Q E s₁) E s) :
    wpS M A (callWith pos (.ref a) first args []) Q E s := by
  unfold callWith
  refine wpS_bind (wpS_holding (wpS_mono h (fun x s₁ h₁ => wpS_step (wpAny_standAt ?_)) fun _ _ x => x))
  have tail : ∀ {t : Sem Value}, wpS M A t Q E s₁ → wpS M A (t >>= fun r => holding [r] point >>= fun _ => pure r) Q E s₁ :=
    fun ht => wpS_bind (wpS_mono ht (fun r s₂ hr => wpS_of (wpAny_bind (wpAny_holding (wpAny_point (wpAny_pure hr))))) fun _ _ x => x)
  cases hs : args.any (·.1) <;> simp only [List.any_nil, Bool.or_false] <;>
    refine wpS_step (m := keeperOf (.ref a)) ?_ <;> unfold keeperOf <;>
    refine wpAny_bind (wpAny_load h₁.1.1 ?_) <;> rw [h₁.1.2] <;> refine wpAny_pure ?_
  ·
    first
      | refine wpS_ite ?_
      | skip
    split <;> first
      | exact tail h₁.2
      | exact tail (by unfold callMarked; exact wpS_keep h₁.2)
  ·
    first
      | exact tail (by unfold callMarked; exact wpS_keep h₁.2)
      | exact tail h₁.2
theorem callWith_defS {pos : Pos} {f : Addr} {o : Obj} {fd : FuncData} {e : Expr} {rest : List Expr} {Q : Value → Shared → Prop} (hdat : o.data = .func fd)
    (h : wpS M A (spliced (backTo pos (starEach (e :: rest) env))) (fun vs s₁ => s₁.heap.get? f = some o ∧ wpS M A (call (.ref f) vs) Q E s₁) E s)
    (he : starEach (e :: rest) env = (false, eval e env) :: starEach rest env := by rfl) :
    wpS M A (callWith pos (.ref f) [] (backTo pos (starEach (e :: rest) env)) []) Q E s := by
  rw [he] at h ⊢
  exact callWith_functionS (o := o) (fd := fd) (evalArgs_plainS (wpS_mono h (fun vs s₁ h₁ => ⟨⟨h₁.1, hdat⟩, h₁.2⟩) fun _ _ x => x))
theorem callWith_typeS {pos : Pos} {T : String} {first : List Value} {args : List (Bool × Sem Value)} {Q : Value → Shared → Prop}
    (hplain : args.any (·.1) = false)
    (h : wpS M A (evalArgs (.type T) true args []) (fun a s₁ => wpS M A (call (.type T) (first ++ a.pos) a.kw) Q E s₁) E s) :
    wpS M A (callWith pos (.type T) first args []) Q E s := by
  unfold callWith
  refine wpS_bind (wpS_holding (wpS_mono h (fun a s₁ h₁ => wpS_step (wpAny_standAt ?_)) fun _ _ x => x))
  simp only [hplain, List.any_nil, Bool.or_false]
  refine wpS_step (wpAny_pure ?_)
  exact wpS_bind (wpS_mono h₁ (fun r s₂ hr => wpS_of (wpAny_bind (wpAny_holding (wpAny_point (wpAny_pure hr))))) fun _ _ x => x)
theorem callWith_type1S {pos : Pos} {T : String} {e : Expr} {rest : List Expr} {Q : Value → Shared → Prop}
    (h : wpS M A (spliced (backTo pos (starEach (e :: rest) env))) (fun vs s₁ => wpS M A (call (.type T) vs) Q E s₁) E s)
    (he : starEach (e :: rest) env = (false, eval e env) :: starEach rest env := by rfl)
    (hplain : (backTo pos (starEach rest env)).any (·.1) = false := by rfl) :
    wpS M A (callWith pos (.type T) [] (backTo pos (starEach (e :: rest) env)) []) Q E s := by
  rw [he] at h ⊢
  exact callWith_typeS (by show (false || (backTo pos (starEach rest env)).any (·.1)) = false; rw [hplain]; rfl) (evalArgs_plainS h)
end
section
variable {prog : Program} {w : World} {A : Around} {s : Shared}
theorem codeS_func {body : List Stmt} {env : Env} {R : Result → Shared → Prop}
    (h : wpS (model prog w) (A.deeper env) (execs body env) (fun f s' => R (.ok (.ret (match f with | .ret v => v | _ => .none))) s') nah s) : codeS (model prog w) A (.func body env) R s := by
  refine codeS_tree rfl ?_
  show wpS _ (A.deeper env) (do point; match ← (execs body env).onRaise (leaving env) with | .ret v => ret v | _ => ret .none) _ _ s
  refine wpS_step (wpAny_point (wpS_bind (wpS_calm (wpS_mono h (fun f s' h' => ?_) fun _ _ h' => h'))))
  cases f <;> exact wpS_pure h'
theorem codeS_call_function {a : Addr} {args : Args} {o : Obj} {fd : FuncData} {body : List Stmt} {R : Result → Shared → Prop} (hroom : A.depth < recursionLimit) (ho : s.heap.get? a = some o)
    (hd' : o.data = .func fd) (hco : fd.scope.isCoroutine = false) (hgen : fd.scope.isGenerator = false) (hbody : fd.body = .stmts body) (hcd : s.heap.CodeRec fd.code fd.qualname)
    (h : wpAny (model prog w) A.in1 (bindArgs fd args) (fun binds s₁ =>
      wpAny (model prog w) A.in1 (newFunctionEnv fd.scope fd.globals fd.closure binds (fd.qualname ++ ".<locals>.") (some a) fd.code none fd.builtins)
        (fun env s₂ => s₂.heap.NoLimit ∧ codeS (model prog w) A (.func body env) R s₂) (fun e s' => R (.error e) s') s₁) (fun e s' => R (.error e) s') s) :
    codeS (model prog w) A (.call (.ref a) args) R s := by
  refine codeS_tree rfl ?_
  show wpS _ A.in1 (callAny (.ref a) args) _ _ s
  simp only [callAny]
  refine wpS_step (wpAny_load ho ?_)
  obtain ⟨c, oc, vs, tq, hc, hoc, hdc, hq⟩ := hcd
  simp only [hd', callFunction, hco, hgen, hbody, hc]
  rw [hc] at h
  refine wpS_step (m := field (.ref c) 1) (wpAny_field hoc hdc hq (wpS_step (wpAny_pure ?_)))
  exact wpS_step (wpAny_mono h (fun binds s₁ h₁ => wpS_step (wpAny_mono h₁ (fun env s₂ h₂ => wpS_step (wpAny_enterFrame h₂.1 hroom
    (wpS_pure (And.intro rfl h₂.2)))) fun _ _ h' => h')) fun _ _ h' => h')
theorem codeS_call_def {R : Result → Shared → Prop} {a : Addr} {o : Obj} {fd : FuncData} {body : List Stmt} {args : Args} {binds : List (Str × Value)}
    (hroom : A.depth < recursionLimit) (ho : s.heap.get? a = some o) (hdata : o.data = .func fd) (hlim : s.heap.NoLimit) (hcd : s.heap.CodeRec fd.code fd.qualname)
    (hbody : fd.body = .stmts body) (hbind : BindsTo s fd args binds)
    (hcell : ∀ x ∈ fd.scope.names, x.2 ≠ .cell) (hloc : ∀ x ∈ binds, fd.scope.names.lookup x.1 = some .local)
    (h : ∀ h₀, h₀.Ns s.heap.objs.size (fun x => binds.reverse.lookup x) → (∀ b o, s.heap.get? b = some o → h₀.get? b = some o) →
      wpS (model prog w) (A.deeper (callEnv fd s.heap.objs.size a)) (execs body (callEnv fd s.heap.objs.size a)) (fun f s' => R (.ok (.ret (match f with | .ret v => v | _ => .none))) s') nah
        { s with heap := h₀, toks := s.toks + binds.length })
    (hco : fd.scope.isCoroutine = false := by rfl) (hgen : fd.scope.isGenerator = false := by rfl) (hk : fd.scope.kind = .function := by rfl) :
    codeS (model prog w) A (.call (.ref a) args) R s := by
  refine codeS_call_function hroom ho hdata hco hgen hbody hcd (hbind _ _ _ _ ?_)
  refine wpAny_newFunctionEnv hcell hloc (fun h₀ hns₀ hsb₀ => ⟨hlim.fresh _ hsb₀, codeS_func (h h₀ hns₀ fun b o e => ?_)⟩) hk
  exact hsb₀.extBut b o (Nat.ne_of_lt (Heap.lt_size e)) (Heap.get?_push_of_some _ e)
theorem call_fullS {R : Result → Shared → Prop} {name : Str} {params : Arguments} {body : List Stmt} {scope : Scope}
    {dV kV pm cd doc : Value} {a : Addr} {o : Obj} {args : Args} {binds : List (Str × Value)}
    (hroom : A.depth < recursionLimit) (ho : s.heap.get? a = some o) (hdata : o.data = .func { docDef name params body scope pm cd doc with defaults := dV, kwdefaults := kV }) (hlim : s.heap.NoLimit) (hcd : s.heap.CodeRec cd name)
    (hbind : BindsTo s { docDef name params body scope pm cd doc with defaults := dV, kwdefaults := kV } args binds)
    (hloc : ∀ x ∈ binds, scope.names.lookup x.1 = some .local)
    (h : ∀ h₁, Fr s.heap s.heap.objs.size h₁ (fun x => binds.reverse.lookup x) →
      wpS (model prog w) (A.deeper (envOf name scope s.heap.objs.size a cd)) (execs body (envOf name scope s.heap.objs.size a cd))
        (fun f s' => R (.ok (.ret (match f with | .ret v => v | _ => .none))) s') nah
        { s with heap := h₁, toks := s.toks + binds.length })
    (hco : scope.isCoroutine = false := by rfl) (hgen : scope.isGenerator = false := by rfl) (hk : scope.kind = .function := by rfl)
    (hcell : ∀ x ∈ scope.names, x.2 ≠ .cell := by decide) :
    codeS (model prog w) A (.call (.ref a) args) R s :=
  codeS_call_def hroom ho hdata hlim hcd rfl hbind hcell hloc (fun h₁ hns hkeep => h h₁ ⟨hns, hkeep, Nat.le_refl _⟩) hco hgen hk
theorem code_defS {h₀ base : Heap} {L : Addr} {A₀ : Around} {m : Str → Option Value} {K : Frag} {news : Led} {p : Program} {loose : List Str} {mean : ExcName → Option Value} {mg mb : Str → Option Value} {env : Env} {outer : List Env} {R : Result → Shared → Prop} {name qual : Str} {params : Arguments} {body : List Stmt} {scope : Scope} {dV kV doc pm cdv ct oc : Value} {an od : Option Addr} {osl : Array (Option Value)} {f : Addr} {args : Args} {binds : List (Str × Value)}
    (B : Below A₀ base outer h₀) (F : Fr h₀ L s.heap m) (X₀ : K.In h₀) (N : News h₀ L s.heap news) (T : Top p loose mean mg mb h₀) (hA : A.frames = some (env :: outer)) (hf : env.frame = some L) (hke : env.scope.kind = .function)
    (ho : K.lookup f = some ⟨oc, od, .func (fnOf name qual params body scope dV kV doc pm an cdv ct), osl⟩) (hcd : codeIn K cdv qual = true) (hroom : A.depth < recursionLimit)
    (hbind : BindsTo s (fnOf name qual params body scope dV kV doc pm an cdv ct) args binds) (hloc : ∀ y ∈ binds, scope.names.lookup y.1 = some .local)
    (h : ∀ g L' h₁, Fr h₀ L g m → Fr g L' h₁ (fun y => binds.reverse.lookup y) → News g L' h₁ news → Below A base (env :: outer) g → K.In g → Top p loose mean mg mb g →
      wpS (model prog w) (A.deeper (envOf qual scope L' f cdv)) (execs body (envOf qual scope L' f cdv))
        (fun fl s' => LeaveK h₀ L m g R (match fl with | .ret v => v | _ => .none) s') nah
        { s with heap := h₁, toks := s.toks + binds.length })
    (hco : scope.isCoroutine = false) (hgen : scope.isGenerator = false) (hk : scope.kind = .function)
    (hcell : ∀ x ∈ scope.names, x.2 ≠ .cell) : codeS (model prog w) A (.call (.ref f) args) R s := by
  obtain ⟨FG, BG, st, lv⟩ := groundX (R := R) B F N hA hf hke
  refine codeS_call_def (fd := fnOf name qual params body scope dV kV doc pm an cdv ct) (body := body) (binds := binds) hroom ((X₀.keeps F.keep) _ _ ho) rfl (T.nolimit.keeps F.keep) (codeRec_of (X₀.keeps F.keep) hcd) rfl hbind hcell hloc (fun h₁ hns hk₁ => ?_) hco hgen hk
  exact wpS_mono (h _ s.heap.objs.size h₁ FG ⟨hns, fun b o e => hk₁ b o (of_hideAll _ e), Nat.le_of_eq (hideAll_size _ _)⟩
    (fun p hp => ⟨hk₁ _ _ (N p hp).1, Nat.ne_of_lt (Heap.lt_size (N p hp).1), hideAll_none _ (List.mem_map_of_mem hp)⟩) BG (X₀.keeps st) (T.keeps st)) (fun fl s' hl => lv _ _ hl) fun _ _ y => y
end
end Mine
namespace Mine
theorem call_cellsS {prog : Program} {w : World} {A : Around} {s : Shared} {R : Result → Shared → Prop} {name : Str} {params : Arguments} {body : List Stmt} {scope : Scope}
    {pm cd doc : Value} {a : Addr} {o : Obj} {args : List Value} {binds : List (Str × Value)}
    (hroom : A.depth < recursionLimit) (ho : s.heap.get? a = some o) (hdata : o.data = .func (Calls.docDef name params body scope pm cd doc)) (hlim : s.heap.NoLimit) (hcd : s.heap.CodeRec cd name)
    (hbind : bindArgs (Calls.docDef name params body scope pm cd doc) ⟨args, []⟩ = pure binds)
    (hkind : ∀ x ∈ binds, scope.names.lookup x.1 = some .local ∨ (scope.names.lookup x.1 = some .cell ∧ ((cellsFrom (s.heap.objs.size + 1) scope.names []).lookup x.1).isSome = true))
    (hnd : ((cellsFrom 0 scope.names []).map (·.1)).Nodup)
    (h : ∀ h₁ tk cells, Fr s.heap s.heap.objs.size h₁ (bindL (envOfC name scope s.heap.objs.size a cd).kindOf binds fun _ => none) → News s.heap s.heap.objs.size h₁ cells →
      CellsAre (bindC (envOfC name scope s.heap.objs.size a cd).kindOf binds fun _ => none) (cellsFrom (s.heap.objs.size + 1) scope.names []) cells →
      wpS (model prog w) (A.deeper (envOfC name scope s.heap.objs.size a cd)) (execs body (envOfC name scope s.heap.objs.size a cd))
        (fun f s' => R (.ok (.ret (match f with | .ret v => v | _ => .none))) s') nah { s with heap := h₁, toks := tk })
    (hco : scope.isCoroutine = false := by rfl) (hgen : scope.isGenerator = false := by rfl) (hk : scope.kind = .function := by rfl) :
    codeS (model prog w) A (.call (.ref a) ⟨args, []⟩) R s := by
  refine codeS_call_function (fd := Calls.docDef name params body scope pm cd doc) hroom ho hdata hco hgen rfl hcd ?_
  rw [hbind]
  refine wpAny_pure (wpAny_newFunctionEnv_cells hk hkind fun env' he s' x => ?_)
  subst he
  refine ⟨hlim.keeps x.toInCall.keep, codeS_func ?_⟩
  obtain ⟨h₁, tk, rfl, _⟩ := x.done
  obtain ⟨cells, N, Y⟩ := Cl.news (h₀ := s.heap) (Nat.le_refl _) fun n c hm => ⟨x.cell n c (lookup_of_mem_nodup (cellsFrom_names scope.names 0 (s.heap.objs.size + 1) [] [] rfl ▸ hnd) hm), x.above n c hm⟩
  exact h h₁ tk cells ⟨x.toInCall.ns, x.toInCall.keep, x.toInCall.fresh⟩ N Y
end Mine
namespace Mine
open Calls
theorem callWith_KS {M : Model} {A : Around} {E : Value → Shared → Prop} {s : Shared} {env : Env} {pos : Pos} {K : Frag} {h₀ : Heap} {f : Addr} {oc : Value} {od : Option Addr} {fd : FuncData} {osl : Array (Option Value)} {e : Expr} {rest : List Expr} {Q : Value → Shared → Prop}
    (X : K.In h₀) (ho : K.lookup f = some ⟨oc, od, .func fd, osl⟩)
    (h : wpS M A (spliced (backTo pos (starEach (e :: rest) env))) (fun vs s₁ => (∃ L m, Fr h₀ L s₁.heap m) ∧ wpS M A (call (.ref f) vs) Q E s₁) E s)
    (he : starEach (e :: rest) env = (false, eval e env) :: starEach rest env := by rfl) :
    wpS M A (callWith pos (.ref f) [] (backTo pos (starEach (e :: rest) env)) []) Q E s :=
  callWith_defS (o := ⟨oc, od, .func fd, osl⟩) (fd := fd) rfl (wpS_mono h (fun vs s₁ h₁ => ⟨by obtain ⟨⟨L, m, F⟩, _⟩ := h₁; exact (X.keeps F.keep) _ _ ho, h₁.2⟩) fun _ _ x => x) he
end Mine

namespace Mine
/-! a bytearray's item stored; bytes of a bytearray -/
theorem slot_bya_set : Slot "bytearray" "__setitem__" "bytearray.__setitem__" :=
  .of (owner := "bytearray") (n := "__setitem__") (by rw [typeLookup_type, builtinLookup_eq_fast]; kernel_rfl) (by decide +kernel) (by decide +kernel) (by decide +kernel)
    (by first | exact .inl (by decide +kernel) | exact .inr (by decide +kernel)) (by rw [isSubtype_type]; kernel_rfl)
theorem entry_bya_set : entryFor table "bytearray.__setitem__" = some Builtin.«bytearray.__setitem__» := by first | exact entryFor_of_fast (by kernel_rfl) | exact entryFor_of_tree (by kernel_rfl)
theorem args_bya_set (a b c : Value) : argsOk "bytearray.__setitem__" ⟨[a, b, c], []⟩ := by
  first
    | (unfold argsOk; kernel_rfl)
    | (unfold argsOk; rw [signature?_of (id := "bytearray.__setitem__") (n := ['_', '_', 's', 'e', 't', 'i', 't', 'e', 'm', '_', '_']) (o := ['y', 'a', 'r', 'r', 'a', 'e', 't', 'y', 'b']) (by kernel_rfl) ownr_bya]; kernel_rfl)
theorem bya_no_bytes : typeLookup (.type "bytearray") "__bytes__" = pure none := by rw [typeLookup_type, builtinLookup_eq_fast]; kernel_rfl
theorem bya_no_index : typeLookup (.type "bytearray") "__index__" = pure none := by rw [typeLookup_type, builtinLookup_eq_fast]; kernel_rfl
theorem bya_buffer : typeLookup (.type "bytearray") "__buffer__" = pure (some (.builtin "bytearray.__buffer__")) := by rw [typeLookup_type, builtinLookup_eq_fast]; kernel_rfl
theorem bufE_bya : "bytearray.__buffer__".endsWith ("." ++ "__buffer__") = true := by decide +kernel
theorem bufD_bya : "bytearray.__buffer__".dropRight ("__buffer__".length + 1) = "bytearray" := by decide +kernel
section
variable {prog : Program} {w : World} {A : Around} {E : Value → Shared → Prop} {s : Shared}
theorem typeIs_bya {a : Addr} {b : Array UInt8} (ha : s.heap.get? a = some (byaObj b)) : s.TypeIs (.ref a) "bytearray" := ⟨_, ha, rfl⟩
theorem set_bya {a : Addr} {b : Array UInt8} {k v : Int} {t u : Tok} {Q : Unit → Shared → Prop} (ha : s.heap.get? a = some (byaObj b)) (hz : b.size ≤ 1000) (h0 : 0 ≤ k) (hk : k < b.size) (hv0 : 0 ≤ v) (hv : v < 256)
    (h : ∀ h', h'.get? a = some (byaObj (b.setIfInBounds k.toNat v.toNat.toUInt8)) → Heap.SameBut a s.heap h' → Q () { s with heap := h' }) : wpAny (model prog w) A (setItem (.ref a) (.int k t) (.int v u)) Q E s := by
  have hT := typeIs_bya ha
  have hfit : Builtin.Bytes.fitsIndex k = true := by
    unfold Builtin.Bytes.fitsIndex
    simp only [Bool.and_eq_true, decide_eq_true_eq]
    omega
  unfold setItem
  try with_reducible refine wpAny_holding ?_
  first | refine wpAny_bind (wpAny_pure ?_) | skip
  refine wpAny_bind (wpAny_sequenceKey hT (by decide) ?_)
  refine wpAny_bind (wpAny_callSpecial?_slot (name := Str.ofString "__setitem__") hT slot_bya_set
    (wpAny_call_entry slot_bya_set hT entry_bya_set ?_ (args_bya_set _ _ _)))
  show wpAny _ _ (Builtin.Bytes.subscript? (.int k t) >>= _) _ _ s
  refine wpAny_bind ?_
  unfold Builtin.Bytes.subscript?
  refine wpAny_bind (wpAny_specialOf (T := "int") (typeIs_int s k t) int_index ?_)
  show wpAny _ _ (asIndex (.int k t) >>= _) _ _ s
  refine wpAny_bind (wpAny_of_eq (a := k) rfl ?_)
  refine bm_if_false (by rw [hfit]; rfl) ?_
  refine wpAny_pure ?_
  show wpAny _ _ (Builtin.Bytes.byteValue (.int v u) >>= _) _ _ s
  refine wpAny_bind ?_
  unfold Builtin.Bytes.byteValue
  refine wpAny_bind (wpAny_of_eq (a := v) rfl ?_)
  refine bm_if_false (by simp only [Bool.or_eq_false_iff, decide_eq_false_iff_not]; omega) ?_
  refine wpAny_pure ?_
  refine wpAny_bind ?_
  unfold Builtin.Bytes.payload Builtin.Bytes.payload?
  refine wpAny_bind (wpAny_bind (wpAny_load ha ?_))
  refine wpAny_pure (wpAny_pure ?_)
  have hs : seqIndex? k b.size = some k.toNat := seqIndex_of h0 hk
  rw [hs]
  refine wpAny_bind (upd_bya (k := 0) ha (by simp; rw [sizeLine_eq]; omega) ?_)
  have h2 : (s.heap.update a (Obj.mapBytearray (·.setIfInBounds k.toNat v.toNat.toUInt8))).get? a = some (byaObj (b.setIfInBounds k.toNat v.toNat.toUInt8)) := Heap.get?_update_self (Obj.mapBytearray _) ha rfl
  first
    | exact wpAny_bind (wpAny_pure (wpAny_pure ⟨.none, rfl, wpAny_pure (h _ h2 (Heap.SameBut.update ..))⟩))
    | exact wpAny_pure ⟨.none, rfl, wpAny_pure (h _ h2 (Heap.SameBut.update ..))⟩
theorem bufOwn_bya {a : Addr} {b : Array UInt8} {Q : Bool → Shared → Prop} (ha : s.heap.get? a = some (byaObj b)) (h : Q true s) : wpAny (model prog w) A (Builtin.Bytes.slotIsOwn (.ref a) "__buffer__") Q E s := by
  have h1 := bya_buffer
  have h2 := bufE_bya
  have h3 := bufD_bya
  have h4 := sub_bya
  unfold Builtin.Bytes.slotIsOwn
  wp_walk
  rw [h2]
  simp only [Bool.not_true, Bool.false_eq_true, if_false]
  rw [h3]
  wp_walk
  exact h
theorem bya_new_bytes {a : Addr} {b : Array UInt8} {Q : Value → Shared → Prop} (ha : s.heap.get? a = some (byaObj b)) (hz : b.size ≤ 1000)
    (hQ : ∀ t k, Q (.bytes b t) { s with toks := k }) :
    codeAny (model prog w) A (.call (.builtin "bytes.__new__") ⟨[.type "bytes", .ref a], []⟩) (wants Q E) s := by
  refine codeAny_of_tree ?_
  show wpAny _ A.in1 (do checkBuiltinCall "bytes.__new__" ⟨[.type "bytes", .ref a], []⟩; again (.builtin "bytes.__new__" ⟨[.type "bytes", .ref a], []⟩)) _ _ s
  refine wpAny_bind (wpAny_of_eq (F.bm_newCall _) (wpAny_pure ⟨plainId_quiet F.bm_plain _, codeAny_builtin F.bm_entry ?_⟩))
  rw [Around.under_plainId F.bm_plain _]
  have hT := typeIs_bya ha
  unfold Builtin.«bytes.__new__»
  refine wpAny_bind (wpAny_of_eq (a := true) rfl ?_)
  refine bm_if_false rfl ?_
  refine wpAny_bind (wpAny_of_eq F.bm_sub ?_)
  refine bm_if_false rfl ?_
  refine wpAny_bind (wpAny_of_eq (F.bm_bind _) ?_)
  refine wpAny_bind (wpAny_of_eq (a := ()) rfl ?_)
  refine wpAny_bind (wpAny_of_eq (a := ()) rfl ?_)
  refine bm_if_false rfl ?_
  refine wpAny_bind (wpAny_specialOf hT bya_no_bytes ?_)
  refine wpAny_bind (wpAny_bind ?_)
  show wpAny _ _ (load a >>= _) _ _ _
  refine wpAny_bind (wpAny_load ha ?_)
  refine wpAny_pure (wpAny_pure ?_)
  refine bm_if_false rfl ?_
  refine wpAny_bind (wpAny_specialOf hT bya_no_index ?_)
  refine bm_if_true rfl ?_
  first
    | show wpAny _ _ (Builtin.Bytes.buffer? "bytes.__new__" (.ref a) true >>= _) _ _ _
    | (refine wpAny_bind ?_; show wpAny _ _ (Builtin.Bytes.buffer? "bytes.__new__" (.ref a) true >>= _) _ _ _)
  refine wpAny_bind ?_
  unfold Builtin.Bytes.buffer?
  refine wpAny_bind (wpAny_specialOf hT bya_buffer ?_)
  refine wpAny_bind (bufOwn_bya ha ?_)
  refine bm_if_false rfl ?_
  refine wpAny_bind (wpAny_specialOf hT bya_buffer ?_)
  refine wpAny_bind (own_bya (k := 0) ha ?_)
  refine bm_if_false rfl ?_
  refine wpAny_bind ?_
  unfold Builtin.Bytes.payload Builtin.Bytes.payload?
  refine wpAny_bind (wpAny_bind (wpAny_load ha ?_))
  refine wpAny_pure (wpAny_pure ?_)
  refine wpAny_pure ?_
  refine wpAny_bind (wpAny_rule ?_)
  refine wpAny_bind (wpAny_mkBytes ?_ (by rw [sizeLine_eq]; omega))
  show wpAny _ _ (if (Value.type "bytes" == Value.type "bytes") = true then _ else _) _ _ _
  refine bm_if_true (by decide) ?_
  first
    | exact wpAny_pure (hQ _ _)
    | exact wpAny_bind (wpAny_pure (wpAny_pure (hQ _ _)))
theorem bytes_bya {a : Addr} {b : Array UInt8} {Q : Value → Shared → Prop} (ha : s.heap.get? a = some (byaObj b)) (hz : b.size ≤ 1000)
    (hQ : ∀ t k, Q (.bytes b t) { s with toks := k }) : wpAny (model prog w) A (call (.type "bytes") [.ref a]) Q E s := by
  refine callType_codes (Q₁ := fun obj s₁ => s₁.TypeIs obj "bytes" ∧ Q obj s₁) F.bm_called (F.bm_typeCall _) F.entry_object_init
    (bya_new_bytes ha hz fun t k => ⟨PySem.W.typeIs_bytes _ _ _, hQ t k⟩) fun obj s₁ h₁ => ?_
  exact ⟨h₁.1, F.args_object_init_2 obj _, object_init_meets F.bm_called.init.lookup F.bm_called.made (by decide) prog w A.in1 _ s₁ ⟨h₁.1, rfl, h₁.2⟩⟩
end
end Mine

namespace Mine
/-! a bytearray in the ledger -/
section
variable {prog : Program} {w : World} {A : Around} {E : Value → Shared → Prop} {s : Shared} {h₀ : Heap} {L : Addr} {m : Str → Option Value}
theorem bya_led {h h' : Heap} {o : Obj} {led : Led} (F : Fr h₀ L h m) (N : News h₀ L h led) (ho : h'.get? h.objs.size = some o) (keep : ∀ b o, h.get? b = some o → h'.get? b = some o) :
    Fr h₀ L h' m ∧ News h₀ L h' ((h.objs.size, o) :: led) := by
  obtain ⟨oL, a1, a2, hL, a3⟩ := F.ns
  refine ⟨⟨⟨oL, a1, a2, keep _ _ hL, a3⟩, fun b o' e => keep _ _ (F.keep b o' e), F.above⟩, fun p hp => ?_⟩
  rcases List.mem_cons.mp hp with rfl | hp
  · exact ⟨ho, Nat.ne_of_gt (Heap.lt_size hL), next_is_new F⟩
  · exact ⟨keep _ _ (N p hp).1, (N p hp).2.1, (N p hp).2.2⟩
theorem call_bya_led {k : Int} {n : Nat} {t : Tok} {led : Led} {Q : Value → Shared → Prop} (e : k = (n : Int)) (hn : n ≤ 1000) (h0 : 0 < n) (F : Fr h₀ L s.heap m) (N : News h₀ L s.heap led)
    (h : ∀ D h', (∀ p ∈ led, p.1 ≠ D) → Fr h₀ L h' m → News h₀ L h' ((D, byaObj (Array.replicate n 0)) :: led) → Q (.ref D) { s with heap := h' }) : wpS (model prog w) A (call (.type "bytearray") [.int k t]) Q E s := by
  subst e
  exact call_bya hn h0 fun h' g keep => h _ h' (fresh_ne N) (bya_led F N g keep).1 (bya_led F N g keep).2
theorem set_bya_led {D : Addr} {b : Array UInt8} {k v : Int} {t u : Tok} {led : Led} {Q : Unit → Shared → Prop} (F : Fr h₀ L s.heap m) (N : News h₀ L s.heap ((D, byaObj b) :: led)) (hoff : ∀ p ∈ led, p.1 ≠ D) (hz : b.size ≤ 1000) (h0 : 0 ≤ k) (hk : k < b.size) (hv0 : 0 ≤ v) (hv : v < 256)
    (h : ∀ h', Fr h₀ L h' m → News h₀ L h' ((D, byaObj (b.setIfInBounds k.toNat v.toNat.toUInt8)) :: led) → Q () { s with heap := h' }) : wpAny (model prog w) A (setItem (.ref D) (.int k t) (.int v u)) Q E s := by
  have hD := N _ (.head _)
  refine set_bya hD.1 hz h0 hk hv0 hv fun h' g' hs => h h' (F.change hs hD.2.1 hD.2.2) fun p hp => ?_
  rcases List.mem_cons.mp hp with rfl | hp
  · exact ⟨g', hD.2⟩
  · exact ⟨(hs.2 p.1 (hoff p hp)).trans (N p (.tail _ hp)).1, (N p (.tail _ hp)).2⟩
theorem bytes_bya_led {D : Addr} {b : Array UInt8} {led : Led} {Q : Value → Shared → Prop} (N : News h₀ L s.heap led) (hm : (D, byaObj b) ∈ led) (hz : b.size ≤ 1000) (hQ : ∀ t k, Q (.bytes b t) { s with toks := k }) : wpAny (model prog w) A (call (.type "bytes") [.ref D]) Q E s :=
  bytes_bya (N _ hm).1 hz hQ
end
/-- the words of w octets, each turned about, as far as i + j octets -/
def swpJ (ts : List UInt8) (w i : Nat) : Nat → Array UInt8 → Array UInt8
  | 0, b => b
  | j + 1, b => (swpJ ts w i j b).setIfInBounds (i + w - 1 - j) (ts.getD (i + j) 0)
theorem swpJ_size {ts : List UInt8} {w i : Nat} : ∀ {j : Nat} {b : Array UInt8}, (swpJ ts w i j b).size = b.size
  | 0, _ => rfl
  | j + 1, b => by
    show ((swpJ ts w i j b).setIfInBounds _ _).size = _
    rw [Array.size_setIfInBounds, swpJ_size]
def swpI (ts : List UInt8) (w : Nat) : Nat → Array UInt8 → Array UInt8
  | 0, b => b
  | i + 1, b => swpJ ts w (i * w) w (swpI ts w i b)
theorem swpI_size {ts : List UInt8} {w : Nat} : ∀ {i : Nat} {b : Array UInt8}, (swpI ts w i b).size = b.size
  | 0, _ => rfl
  | i + 1, b => by
    show (swpJ _ _ _ _ _).size = _
    rw [swpJ_size, swpI_size]
theorem news_swp {g h : Heap} {L' : Addr} {a b : Addr × Obj} {r : Led} (N : News g L' h (a :: b :: r)) : News g L' h (b :: a :: r) := news_sub N fun p hp => by
  simp only [List.mem_cons] at hp ⊢
  grind
theorem off_cons2 {l a : Addr} {o : Obj} {led : Led} (h : a ≠ l) (H : ∀ p ∈ led, p.1 ≠ l) : ∀ p ∈ (a, o) :: led, p.1 ≠ l := fun p hp => by
  rcases List.mem_cons.mp hp with rfl | hp
  · exact h
  · exact H p hp
theorem byte_of (x : UInt8) : ((x.toNat : Int)).toNat.toUInt8 = x := by
  rw [Int.toNat_natCast]
  exact UInt8.ofNat_toNat
end Mine

namespace Mine
open LCg
/-! a comprehension over an iterator that hands out pairs (enumerate, zip) -/
section
variable {prog : Program} {w : World} {A : Around} {s s₂ : Shared} {env : Env} {h₀ : Heap} {L : Addr} {m : Str → Option Value}
theorem comp_blockK {elt target iter : Expr} {ifs : List Expr} {scope : Scope} {cl : List (Str × Addr)} {pos : Pos} {I : Addr} {fp wr ks : List Addr} {n : Nat} {P Md : Nat → Value → Heap → Prop} {St : Nat → Heap → Prop} {nx : Led}
    {Has : Nat → (Str → Option Value) → Prop} {RR : Value → Addr → Result → Shared → Prop} (J : Nat → List Value → Prop)
    (W : KTurns prog w A target I fp wr n P Md St) (self : ∀ (s : Shared) (Q : Value → Shared → Prop), St 0 s.heap → Q (.ref I) s → wpAny (model prog w) A (pyIter (.ref I)) Q nah s) (hsz : n ≤ sizeLine)
    (hob : ∀ i h, St i h → ∃ own : Led, own.map (·.1) = ks ∧ ∀ p ∈ own, h.get? p.1 = some p.2)
    (hks : ∀ b ∈ ks, h₀.get? b = none ∧ b ≠ L ∧ b < s₂.heap.objs.size ∧ ∀ p ∈ nx, p.1 ≠ b) (hwr : ∀ b ∈ wr, b ∈ ks)
    (hfp : ∀ b ∈ fp, b ∈ ks ∨ (∃ q, h₀.get? b = some q) ∨ ∃ o, (b, o) ∈ nx)
    (hcell : ∀ y ∈ scope.names, y.2 ≠ .cell) (hkind : scope.kind = .function) (hst : St 0 s₂.heap) (F : Fr h₀ L s₂.heap m) (N : News h₀ L s₂.heap nx)
    (asg : ∀ i v C m' (s' : Shared) (Q' : Unit → Shared → Prop), i < n → P i v s'.heap → s'.heap.Ns C m' →
      (∀ h' tk' m₂, (∀ b o, b ≠ C → s'.heap.get? b = some o → h'.get? b = some o) → h'.Ns C m₂ → Has i m₂ → Q' () { s' with heap := h', toks := tk' }) → wpAny (model prog w) A (assign target (compEnvC scope cl C env) v) Q' nah s')
    (j0 : J 0 [])
    (turn : ∀ i ys own C oC D m₂ h tk, i < n → own.map (·.1) = ks → J i ys → NsObj oC m₂ → Has i m₂ → Fr h₀ L h m → News h₀ L h (own ++ (C, oC) :: (D, lst ys) :: nx) → (∀ p ∈ own, p.1 ≠ C ∧ p.1 ≠ D) → (∀ p ∈ nx, p.1 ≠ C ∧ p.1 ≠ D ∧ p.1 ∉ ks) → (@Ne Nat C D) →
      CompTurn prog w A h₀ L m elt ifs (compEnvC scope cl C env) { s₂ with heap := h, toks := tk } (own ++ (C, oC) :: (D, lst ys) :: nx) (fun y => J (i + 1) (ys ++ [y])) (J (i + 1) ys))
    (hRR : ∀ D C h tk m' ys, Fr h₀ L h m → News h₀ L h ((D, lst ys) :: nx) → h.Ns C m' → h₀.get? C = none → C ≠ L → C ≠ D → (∀ p ∈ nx, p.1 ≠ C) → (∀ p ∈ nx, p.1 ≠ D) → ys.length ≤ n → J n ys → RR (.ref D) C (.ok .next) { s₂ with heap := h, toks := tk }) :
    wpAny (model prog w) A (newList []) (fun acc s₃ => wpAny (model prog w) A (newFunctionEnv scope env.globals cl [] env.qual none .none (some env)) (fun cenv s₄ =>
      codeAny (model prog w) A (.compStart (.ListComp elt [⟨target, iter, ifs, 0⟩] scope pos) 0 (.ref I) acc { cenv with scope := relabel scope env }) (RR acc cenv.locals) s₄) nah s₃) nah s₂ := by
  refine wpAny_newObj_type (wpAny_newFunctionEnv hcell (by intro y hy; simp at hy) (fun h₁ hns₁ hsb₁ => ?_) hkind)
  dsimp only at hns₁ hsb₁ ⊢
  generalize hD : s₂.heap.objs.size = D at hns₁ hsb₁ ⊢
  generalize hH : s₂.heap.push { cls := .type "list", dict := none, data := .seq ([] : List Value).toArray } = H at hns₁ hsb₁ ⊢
  generalize hC : H.objs.size = C at hns₁ hsb₁ ⊢
  have hCD : C = D + 1 := by rw [← hC, ← hH, Heap.size_push, hD]
  have small : ∀ b : Nat, b < D → @Ne Nat b C ∧ @Ne Nat b D := fun b hb => ⟨by omega, by omega⟩
  have old : ∀ b o, s₂.heap.get? b = some o → h₁.get? b = some o := fun b o e => by
    have hb : @LT.lt Nat _ b D := hD ▸ Heap.lt_size e
    exact hsb₁.extBut b o (small b hb).1 (Heap.get?_push_of_some _ (hH ▸ Heap.get?_push_of_some _ e))
  have accD : h₁.get? D = some (lst []) := by
    refine hsb₁.extBut _ _ (show @Ne Nat D C by omega) (Heap.get?_push_of_some _ ?_)
    rw [← hH, ← hD]
    exact Heap.get?_push_size _ rfl
  have none₀ : ∀ a : Nat, D ≤ a → h₀.get? a = none := fun a ha => by
    cases e : h₀.get? a with
    | none => rfl
    | some o =>
      have := Heap.lt_size (F.keep a o e)
      rw [hD] at this
      exact absurd this (Nat.not_lt.mpr ha)
  have hLD : @LT.lt Nat _ L D := hD ▸ F.ns.lt
  have ksD : ∀ b ∈ ks, @LT.lt Nat _ b D := fun b hb => hD ▸ (hks b hb).2.2.1
  have nxD : ∀ p ∈ nx, @LT.lt Nat _ p.1 D := fun p hp => hD ▸ Heap.lt_size (N p hp).1
  have nwr : ∀ b, b ∉ ks → b ∉ wr := fun b h1 h2 => h1 (hwr b h2)
  have hLk : L ∉ ks := fun h => (hks L h).2.1 rfl
  have nxk : ∀ p ∈ nx, p.1 ∉ ks := fun p hp h => (hks _ h).2.2.2 p hp rfl
  have hDk : D ∉ ks := fun h => Nat.lt_irrefl _ (ksD D h)
  have hCk : C ∉ ks := fun h => by have := ksD C h; omega
  have hst₁ : St 0 h₁ := W.frame _ _ _ hst fun b _ o e => old b o e
  have loop : ∀ s₃ : Shared, s₃ = { s₂ with heap := h₁, toks := s₂.toks + ([] : List (Str × Value)).length } →
      codeAny (model prog w) A (.compLoop (.ListComp elt [⟨target, iter, ifs, 0⟩] scope pos) 0 (.ref I) (.ref D) (compEnvC scope cl C env)) (RR (.ref D) C) s₃ := by
    rintro s₃ rfl
    refine comp_loop (fun k s' => ∃ i h tk m' ys, s' = { s₂ with heap := h, toks := tk } ∧ k = n + 1 - i ∧ i ≤ n ∧ ys.length ≤ i ∧ St i h ∧ Fr h₀ L h m ∧ h.Ns C m' ∧ News h₀ L h ((D, lst ys) :: nx) ∧ J i ys) ?_ (n + 1)
      ⟨0, h₁, _, _, [], rfl, rfl, Nat.zero_le _, Nat.le_refl _, hst₁, F.keeps old, hns₁, fun p hp => ?_, j0⟩
    · rintro k s' ⟨i, h, tk, m', ys, rfl, rfl, hi, hy, hst', F', hn', N', hJ⟩
      have keepW : ∀ g : Heap, (∀ b o, b ∉ wr → h.get? b = some o → g.get? b = some o) → Fr h₀ L g m ∧ News h₀ L g ((D, lst ys) :: nx) ∧ g.Ns C m' := fun g hk =>
        ⟨⟨F'.ns.at' fun o e => hk L o (nwr _ hLk) e, fun b o e => hk b o (fun hb => by rw [(hks b (hwr b hb)).1] at e; cases e) (F'.keep b o e), F'.above⟩,
         fun p hp => ⟨hk _ _ (by
          rcases List.mem_cons.mp hp with rfl | hp
          · exact nwr _ hDk
          · exact nwr _ (nxk p hp)) (N' p hp).1, (N' p hp).2⟩, hn'.at' fun o e => hk _ o (nwr _ hCk) e⟩
      by_cases hlt' : i < n
      · refine W.item i _ _ _ hlt' hst' fun v h₂ tk₂ hMd hk₂ => ?_
        refine W.go i v _ _ _ hMd fun h₂' hP hst₂ hk₂' => ?_
        obtain ⟨F₂, N₂, hn₂⟩ := keepW h₂' fun b o hb e => hk₂' b o hb (hk₂ b o hb e)
        refine asg i v C m' _ _ hlt' hP hn₂ fun h₃ tk₃ m₂ hk₃ hn₃ hHas => ?_
        have fpC : ∀ b ∈ fp, ∀ o, h₂'.get? b = some o → @Ne Nat b C := fun b hb o e => by
          rcases hfp b hb with hk | ⟨q, hq⟩ | ⟨q, hq⟩
          · have := ksD b hk; omega
          · have : @LT.lt Nat _ b D := by
              have := Heap.lt_size (F.keep b q hq)
              rw [hD] at this; exact this
            omega
          · have := nxD _ hq
            simp only at this; omega
        have hst₃ : St (i + 1) h₃ := W.frame _ _ _ hst₂ fun b hb o e => hk₃ b o (fpC b hb o e) e
        obtain ⟨own, hown, hget⟩ := hob _ _ hst₃
        obtain ⟨oC, hoC, hNC⟩ := ns_obj hn₃
        have ownk : ∀ p ∈ own, p.1 ∈ ks := fun p hp => hown ▸ List.mem_map_of_mem hp
        have F₃ : Fr h₀ L h₃ m := ⟨F₂.ns.at' fun o e => hk₃ L o (by show @Ne Nat L C; omega) e, fun b o e => hk₃ b o (by
          rintro rfl
          rw [none₀ _ (by omega)] at e; cases e) (F₂.keep b o e), F₂.above⟩
        have N₃ : News h₀ L h₃ (own ++ (C, oC) :: (D, lst ys) :: nx) := fun p hp => by
          rcases List.mem_append.mp hp with hp | hp
          · exact ⟨hget p hp, (hks _ (ownk p hp)).2.1, (hks _ (ownk p hp)).1⟩
          · rcases List.mem_cons.mp hp with rfl | hp
            · exact ⟨hoC, by show @Ne Nat C L; omega, none₀ C (by omega)⟩
            · refine ⟨hk₃ _ _ ?_ (N₂ p hp).1, (N₂ p hp).2⟩
              rcases List.mem_cons.mp hp with rfl | hp
              · show @Ne Nat D C; omega
              · have := nxD p hp; show @Ne Nat p.1 C; omega
        have back : ∀ (ys' : List Value) (h₅ : Heap) (tk₅ : Nat), ys'.length ≤ i + 1 → Fr h₀ L h₅ m → News h₀ L h₅ (own ++ (C, oC) :: (D, lst ys') :: nx) → J (i + 1) ys' →
            ∃ k, k < n + 1 - i ∧ ∃ i h tk m' ys, ({ s₂ with heap := h₅, toks := tk₅ } : Shared) = { s₂ with heap := h, toks := tk } ∧ k = n + 1 - i ∧ i ≤ n ∧ ys.length ≤ i ∧ St i h ∧ Fr h₀ L h m ∧ h.Ns C m' ∧ News h₀ L h ((D, lst ys) :: nx) ∧ J i ys := by
          intro ys' h₅ tk₅ hy₅ F₅ N₅ hJ₅
          refine ⟨n + 1 - (i + 1), by omega, i + 1, h₅, tk₅, m₂, ys', rfl, rfl, hlt', hy₅, ?_, F₅, hNC.ns (N₅ (C, oC) (by simp)).1, fun p hp => N₅ p (by
            rw [List.mem_append]; right; exact .tail _ hp), hJ₅⟩
          refine W.frame _ _ _ hst₃ fun b hb o e => ?_
          rcases hfp b hb with hk | ⟨q, hq⟩ | ⟨q, hq⟩
          · obtain ⟨p, hp, rfl⟩ := List.mem_map.mp (hown ▸ hk)
            rw [hget p hp] at e; cases e
            exact (N₅ p (by simp [hp])).1
          · have e1 := F₃.keep b q hq
            rw [e1] at e; cases e
            exact F₅.keep b _ hq
          · have e1 := (N₃ (b, q) (by simp [hq])).1
            rw [e1] at e; cases e
            exact (N₅ (b, q) (by simp [hq])).1
        have offO : ∀ p ∈ own, p.1 ≠ C ∧ p.1 ≠ D := fun p hp => by
          have := ksD _ (ownk p hp)
          exact ⟨by show @Ne Nat p.1 C; omega, by show @Ne Nat p.1 D; omega⟩
        have offN : ∀ p ∈ nx, p.1 ≠ C ∧ p.1 ≠ D ∧ p.1 ∉ ks := fun p hp => by
          have := nxD p hp
          exact ⟨by show @Ne Nat p.1 C; omega, by show @Ne Nat p.1 D; omega, nxk p hp⟩
        refine wpAny_mono (turn i ys own C oC D m₂ h₃ tk₃ hlt' hown hJ hNC hHas F₃ N₃ offO offN (by omega)) (fun ok s₃ hT => ?_) fun _ _ x => x
        cases ok with
        | false =>
          simp only [Bool.false_eq_true, if_false] at hT ⊢
          obtain ⟨h₅, tk₅, rfl, F₅, N₅, hJ₅⟩ := hT
          exact back ys h₅ tk₅ (by omega) F₅ N₅ hJ₅
        | true =>
          simp only [if_true] at hT ⊢
          refine wpAny_mono hT (fun y s₄ hY => ?_) fun _ _ x => x
          obtain ⟨h₄, tk₄, rfl, F₄, N₄, hJ₄⟩ := hY
          have zD : h₄.get? D = some (lst ys) := (N₄ (D, lst ys) (by simp)).1
          refine append_at (hsz := by show ys.toArray.size ≤ sizeLine; rw [List.size_toArray]; omega) zD fun h₅ hs₅ hD₅ => ?_
          refine back (ys ++ [y]) h₅ tk₄ (by simp; omega) (F₄.change hs₅ (by show @Ne Nat D L; omega) (none₀ D (Nat.le_refl _))) (fun p hp => ?_) hJ₄
          have keep : ∀ q, q ∈ own ++ (C, oC) :: (D, lst ys) :: nx → q.1 ≠ D → h₅.get? q.1 = some q.2 ∧ q.1 ≠ L ∧ h₀.get? q.1 = none := fun q hq hne => ⟨hs₅.extBut _ _ hne (N₄ q hq).1, (N₄ q hq).2⟩
          rcases List.mem_append.mp hp with hp | hp
          · exact keep p (by simp [hp]) (offO p hp).2
          · rcases List.mem_cons.mp hp with rfl | hp
            · exact keep _ (by simp) (by show @Ne Nat C D; omega)
            · rcases List.mem_cons.mp hp with rfl | hp
              · exact ⟨hD₅.trans (congrArg some (lst_snoc ys y)), by show @Ne Nat D L; omega, none₀ D (Nat.le_refl _)⟩
              · exact keep p (by simp [hp]) (offN p hp).2.1
      · have hin : i = n := by omega
        subst hin
        refine W.done _ _ _ hst' fun h₂ tk₂ hk₂ => ?_
        obtain ⟨F₂, N₂, hn₂⟩ := keepW h₂ hk₂
        exact hRR D C h₂ tk₂ m' ys F₂ N₂ hn₂ (none₀ C (by omega)) (by show @Ne Nat C L; omega) (by show @Ne Nat C D; omega) (fun p hp => by have := nxD p hp; show @Ne Nat p.1 C; omega) (fun p hp => by have := nxD p hp; show @Ne Nat p.1 D; omega) hy hJ
    · rcases List.mem_cons.mp hp with rfl | hp
      · exact ⟨accD, by show @Ne Nat D L; omega, none₀ D (Nat.le_refl _)⟩
      · exact ⟨old _ _ (N p hp).1, (N p hp).2⟩
  exact codeAny_compStart_list (loop _ rfl) (noRaise (self _ _ hst₁ (loop _ rfl)))
end
end Mine

namespace Mine
open Builtin AutoSeq1
/-! enumerate of a tuple -/
set_option maxRecDepth 100000 in
theorem meets_enumerate_newT (l : Addr) (items : Array Value) (n : Nat) (dct : Option Addr) (sl : Array (Option Value)) :
    Meets (Builtin.«enumerate.__new__» ⟨[.type "enumerate", .ref l], []⟩) (fun _ R s => s.heap.get? l = some { cls := .type "tuple", dict := dct, data := .seq items n, slots := sl } ∧
      R (.ok (.ret (.ref (s.heap.push { cls := .type "tuple_iterator", data := .fields #[.ref l, .int 0 0] }).objs.size)))
        { s with heap := (s.heap.push { cls := .type "tuple_iterator", data := .fields #[.ref l, .int 0 0] }).push { cls := .type "enumerate", data := .fields #[.none, .bool false, .ref s.heap.objs.size, rawInt 0, .none, .none] } }) :=
  .of_wp fun prog w A R s h => by
    obtain ⟨hp, g, d, tk, os⟩ := s; obtain ⟨hl, h⟩ := h
    have hsub := sub_enumerate
    have hL : Heap.IsTuple (Shared.heap ⟨hp, g, d, tk, os⟩) l items := ⟨_, hl, rfl, n, rfl⟩
    wp_walk using wpAny_loadPart' hl
    refine wpAny_stack_any fun st => wpAny_pure ?_
    split
    · rename_i c _ _ _ _ _
      cases (c == Value.type "enumerate")
      · wp_walk using wpAny_loadPart' hl, wpAny_pyIter_tuple hL
        exact ⟨_, rfl, h⟩
      · wp_walk using wpAny_loadPart' hl, wpAny_pyIter_tuple hL
        exact ⟨_, rfl, h⟩
    · wp_walk using wpAny_loadPart' hl, wpAny_pyIter_tuple hL
      exact ⟨_, rfl, h⟩
section
variable {prog : Program} {w : World} {A : Around} {E : Value → Shared → Prop} {s : Shared}
theorem call_enumerate_tuple {l : Addr} {items : Array Value} {Q : Value → Shared → Prop} (hL : s.heap.IsTuple l items)
    (h : ∀ h', IsEnum h' (s.heap.objs.size + 1) s.heap.objs.size 0 .none → h'.IsTupleIter s.heap.objs.size l 0 → h'.objs.size = s.heap.objs.size + 2 →
      (∀ b o, s.heap.get? b = some o → h'.get? b = some o) → Q (.ref (s.heap.objs.size + 1)) { s with heap := h' }) :
    wpAny (model prog w) A (call (.type "enumerate") [.ref l]) Q E s := by
  obtain ⟨⟨c, dct, dt, sl⟩, hl, hc, n, hd⟩ := hL
  replace hc : c = .type "tuple" := hc
  replace hd : dt = .seq items n := hd
  subst hc hd
  refine callType_new F.called_enumerate (by decide) (F.typeCall_enumerate_1 _) (F.newCall_enumerate_1 _) (fun obj => F.args_object_init_2 obj _) F.entry_enumerate_new
    (meets_enumerate_newT l items n dct sl) ⟨hl, ?_⟩
  have hz : (s.heap.push { cls := .type "tuple_iterator", data := .fields #[.ref l, .int 0 0] }).objs.size = s.heap.objs.size + 1 := Heap.size_push ..
  show _ ∧ _
  rw [hz]
  have he : IsEnum ((s.heap.push { cls := .type "tuple_iterator", data := .fields #[.ref l, .int 0 0] }).push
      { cls := .type "enumerate", data := .fields #[.none, .bool false, .ref s.heap.objs.size, rawInt 0, .none, .none] }) (s.heap.objs.size + 1) s.heap.objs.size 0 .none := by
    have := Heap.get?_push_size (s.heap.push { cls := .type "tuple_iterator", data := .fields #[.ref l, .int 0 0] })
      (o := { cls := .type "enumerate", data := .fields #[.none, .bool false, .ref s.heap.objs.size, rawInt 0, .none, .none] }) rfl
    rw [hz] at this; exact this
  refine ⟨⟨_, he, rfl⟩, h _ he ⟨_, Heap.get?_push_of_some _ (Heap.get?_push_size _ rfl), rfl, rfl⟩ (by rw [Heap.size_push, hz]) fun b o x => Heap.get?_push_of_some _ (Heap.get?_push_of_some _ x)⟩
theorem nextOf_tuple_item {it t : Addr} {i : Nat} {items} {x : Value} {Q : Value → Shared → Prop} (hit : s.heap.IsTupleIter it t i)
    (ht : s.heap.IsTuple t items) (hx : items[i]? = some x)
    (hQ : ∀ h', h'.IsTupleIter it t (i + 1) → Heap.SameBut it s.heap h' → Q x { s with heap := h' }) :
    wpAny (model prog w) A (Builtin.SmallTypes.nextOf (.ref it)) Q E s := by
  obtain ⟨o, ho, hc, hd⟩ := id hit
  obtain ⟨ol, hol, _, nl, hdl⟩ := ht
  unfold Builtin.SmallTypes.nextOf
  refine wpAny_bind (wpAny_callSpecial?_slot (name := Str.ofString "__next__") hit.typeIs F.slot_tuple_iterator_next
    (wpAny_call_entry F.slot_tuple_iterator_next hit.typeIs F.entry_tuple_iterator_next ?_ (F.args_tuple_iterator_next_1 _)))
  show wpAny _ _ (field (.ref it) 0 >>= _) _ _ s
  refine wpAny_bind (wpAny_field ho hd (x := .ref t) rfl ?_)
  show wpAny _ _ (if (Value.ref t == Value.none) = true then _ else _) _ _ s
  rw [if_neg (show ¬ ((Value.ref t == Value.none) = true) from Bool.false_ne_true)]
  show wpAny _ _ (field (.ref it) 1 >>= _) _ _ s
  refine wpAny_bind (wpAny_field ho hd (x := .int i 0) rfl ?_)
  show wpAny _ _ (seqItems? (.ref t) >>= _) _ _ s
  refine wpAny_bind (wpAny_seqItems hol hdl ?_)
  simp only [Int.toNat_natCast, hx]
  refine wpAny_bind (wpAny_setField ho hd (by simp) (wpAny_pure ⟨x, rfl, wpAny_pure (hQ _ ?_ (Heap.SameBut.update ..))⟩))
  exact ⟨_, Heap.get?_update_self _ ho (Obj.isFreed_of_fields (Obj.data_mapFields hd _)), (Obj.cls_mapFields ..).trans hc, by
    rw [Obj.data_mapFields hd]; simp [rawInt]⟩
theorem nextOf_tuple_end {it t : Addr} {i : Nat} {items} {Q : Value → Shared → Prop} (hh : A.handled = none)
    (hit : s.heap.IsTupleIter it t i) (ht : s.heap.IsTuple t items) (hx : items[i]? = none)
    (hE : ∀ h' e, Heap.ExtBut it s.heap h' → (∃ o, h'.get? e = some o ∧ o.cls = .type "StopIteration") → E (.ref e) { s with heap := h' }) :
    wpAny (model prog w) A (Builtin.SmallTypes.nextOf (.ref it)) Q E s := by
  obtain ⟨o, ho, hc, hd⟩ := id hit
  obtain ⟨ol, hol, _, nl, hdl⟩ := ht
  unfold Builtin.SmallTypes.nextOf
  refine wpAny_bind (wpAny_callSpecial?_slot (name := Str.ofString "__next__") hit.typeIs F.slot_tuple_iterator_next
    (wpAny_call_entry F.slot_tuple_iterator_next hit.typeIs F.entry_tuple_iterator_next ?_ (F.args_tuple_iterator_next_1 _)))
  show wpAny _ _ (field (.ref it) 0 >>= _) _ _ s
  refine wpAny_bind (wpAny_field ho hd (x := .ref t) rfl ?_)
  show wpAny _ _ (if (Value.ref t == Value.none) = true then _ else _) _ _ s
  rw [if_neg (show ¬ ((Value.ref t == Value.none) = true) from Bool.false_ne_true)]
  show wpAny _ _ (field (.ref it) 1 >>= _) _ _ s
  refine wpAny_bind (wpAny_field ho hd (x := .int i 0) rfl ?_)
  show wpAny _ _ (seqItems? (.ref t) >>= _) _ _ s
  refine wpAny_bind (wpAny_seqItems hol hdl ?_)
  simp only [Int.toNat_natCast, hx]
  refine wpAny_bind (wpAny_rule (wpAny_bind (wpAny_setField ho hd (by simp) ?_)))
  show wpAny _ _ (newExc (.type "StopIteration") [] >>= _) _ _ _
  refine wpAny_bind ?_
  simp only [newExc, newTuple]
  refine wpAny_bind (wpAny_newObj_type ?_ (by size_fits))
  refine wpAny_bind (m := firstArgMember _ _) (wpAny_of_eq (a := Value.none) (by first | rfl | (simp only [firstArgMember]; rfl)) ?_)
  refine wpAny_newObj_type ?_ (by size_fits)
  simp only [raiseNew]
  refine wpAny_bind (wpAny_handled ?_)
  first | rw [show A.in1.handled = none from hh] | rw [hh]
  refine wpAny_bind (wpAny_pure (wpAny_throw ?_))
  exact hE _ _ (((Heap.SameBut.update ..).extBut.push _).push _) ⟨_, Heap.get?_push_size _ rfl, rfl⟩
end
theorem drawsTuple {prog : Program} {w : World} {A : Around} (hh : A.handled = none) (it l : Addr) (hne : l ≠ it) (items : Array Value) :
    Draws prog w A it [it, l] items.size (fun i v => items[i]? = some v) (fun i h => h.IsTupleIter it l i ∧ h.IsTuple l items) where
  live := fun _ _ st => let ⟨o, ho, _⟩ := st.1; ⟨o, ho⟩
  frame := fun _ _ _ st hk => ⟨st.1.at fun o e => hk it (by simp) o e, st.2.at fun o e => hk l (by simp) o e⟩
  item := fun i s Q E hi st hQ => by
    refine nextOf_tuple_item st.1 st.2 (x := items[i]) (by simp [hi]) fun h' hit' hs' => ?_
    exact hQ _ h' s.toks (by simp [hi]) ⟨hit', st.2.extBut hs'.extBut hne⟩ hs'
  done := fun s Q E st hE => nextOf_tuple_end hh st.1 st.2 (by simp) hE
end Mine

namespace Mine
open LCg
theorem own_two {own : Led} {a b : Addr} (h : own.map (·.1) = [a, b]) : ∃ oa ob, own = [(a, oa), (b, ob)] := by
  cases own with
  | nil => cases h
  | cons p r =>
    cases r with
    | nil => cases (List.cons.inj h).2
    | cons q r =>
      cases r with
      | nil =>
        have h1 : p.1 = a := (List.cons.inj h).1
        have h2 : q.1 = b := (List.cons.inj (List.cons.inj h).2).1
        exact ⟨p.2, q.2, by rw [← h1, ← h2]⟩
      | cons q' r => cases (List.cons.inj (List.cons.inj h).2).2
section
variable {prog : Program} {w : World} {A : Around} {s s₂ : Shared} {env : Env} {h₀ : Heap} {L : Addr} {m : Str → Option Value}
/-- two names take a pair's parts -/
theorem asg_pair {x x₂ : Str} {px px₂ tp : Pos} {k} {scope : Scope} {cl : List (Str × Addr)} {T C : Addr} {v₁ v₂ : Value} {m' : Str → Option Value} {s' : Shared} {Q' : Unit → Shared → Prop} (hh : A.handled = none) (hkind : scope.kind = .function)
    (hx : scope.names.lookup x = some .local) (hx₂ : scope.names.lookup x₂ = some .local) (hxx : x ≠ x₂) (ht : IsTup s'.heap T #[v₁, v₂]) (hn : s'.heap.Ns C m')
    (h : ∀ h' tk' m₂, (∀ b o, b ≠ C → s'.heap.get? b = some o → h'.get? b = some o) → h'.Ns C m₂ → m₂ x = some v₁ → m₂ x₂ = some v₂ → Q' () { s' with heap := h', toks := tk' }) :
    wpAny (model prog w) A (assign (.Tuple [.Name x px, .Name x₂ px₂] k tp) (compEnvC scope cl C env) (.ref T)) Q' nah s' := by
  refine assign_Tuple_tuple hh ht rfl rfl fun h₅ he => ?_
  have hne : ∀ b o, s'.heap.get? b = some o → h₅.get? b = some o := fun b o e => he b o (Nat.ne_of_lt (Heap.lt_size e)) e
  refine assignInOrder_cons (wpAny_assign_Name (wpAny_storeName_local (lookup_relabel_local hx) (hn.at' fun o e => hne _ o e) (fun h₆ hn₆ hs₆ => ?_) (by simp [compEnvC, relabel, hkind])))
  refine assignInOrder_cons (wpAny_assign_Name (wpAny_storeName_local (lookup_relabel_local hx₂) hn₆ (fun h₃ hn₃ hs₃ => ?_) (by simp [compEnvC, relabel, hkind])))
  refine assignInOrder_nil ?_
  exact h h₃ _ _ (fun b o hb e => hs₃.extBut b o hb (hs₆.extBut b o hb (hne b o e))) hn₃ (by simp [hxx]) (by simp)
/-- [.. for i, x in enumerate(..)] -/
theorem comp_enumD {elt iter : Expr} {ifs : List Expr} {scope : Scope} {cl : List (Str × Addr)} {pos : Pos} {x x₂ : Str} {px px₂ tp : Pos} {k : Nat} {e it l : Addr} {n : Nat} {Pd : Nat → Value → Prop} {Sd : Nat → Heap → Prop} {nx : Led} {RR : Value → Addr → Result → Shared → Prop} (J : Nat → List Value → Prop)
    (hh : A.handled = none) (D : Draws prog w A.in1 it [it, l] n Pd Sd) (hei : e ≠ it) (hel : e ≠ l) (he : IsEnum s₂.heap e it 0 .none) (hsd : Sd 0 s₂.heap) (hsz : n ≤ sizeLine)
    (hks : ∀ b ∈ [e, it], h₀.get? b = none ∧ b ≠ L ∧ b < s₂.heap.objs.size ∧ ∀ p ∈ nx, p.1 ≠ b) (hl : (∃ q, h₀.get? l = some q) ∨ ∃ o, (l, o) ∈ nx)
    (hcell : ∀ y ∈ scope.names, y.2 ≠ .cell) (hkind : scope.kind = .function) (hx : scope.names.lookup x = some .local) (hx₂ : scope.names.lookup x₂ = some .local) (hxx : x ≠ x₂) (F : Fr h₀ L s₂.heap m) (N : News h₀ L s₂.heap nx) (j0 : J 0 [])
    (turn : ∀ i t y ys oe oi C oC D m₂ h tk, i < n → Pd i y → J i ys → NsObj oC m₂ → m₂ x = some (.int (i : Int) t) → m₂ x₂ = some y → Fr h₀ L h m → News h₀ L h ((e, oe) :: (it, oi) :: (C, oC) :: (D, lst ys) :: nx) →
      ((@Ne Nat e C) ∧ (@Ne Nat e D) ∧ (@Ne Nat it C) ∧ (@Ne Nat it D) ∧ (@Ne Nat C D)) → (∀ p ∈ nx, p.1 ≠ C ∧ p.1 ≠ D) →
      CompTurn prog w A h₀ L m elt ifs (compEnvC scope cl C env) { s₂ with heap := h, toks := tk } ((e, oe) :: (it, oi) :: (C, oC) :: (D, lst ys) :: nx) (fun y => J (i + 1) (ys ++ [y])) (J (i + 1) ys))
    (fin : CompDone h₀ L m nx n J s₂ RR) :
    wpAny (model prog w) A (pyIter (.ref e)) (CompGo prog w A env (.ListComp elt [⟨.Tuple [.Name x px, .Name x₂ px₂] k tp, iter, ifs, 0⟩] scope pos) scope cl RR) nah s₂ := by
  refine wpAny_pyIter_enum he ?_
  have hef : e ∉ [it, l] := fun h => by
    rcases List.mem_cons.mp h with h | h
    · exact hei h
    · exact hel (List.mem_singleton.mp h)
  have W := KTurns.ofWalksU (elts := [.Name x px, .Name x₂ px₂]) (k := k) (pos := tp) (WalksT.enumerateD D e hei hef (.head _)).toU
  refine comp_blockK (ks := [e, it]) (Has := fun i m₂ => ∃ t y, Pd i y ∧ m₂ x = some (.int (i : Int) t) ∧ m₂ x₂ = some y) J W ?_ hsz ?_ hks (fun b hb => hb) ?_ hcell hkind ⟨⟨.none, he⟩, hsd⟩ F N ?_ j0 ?_ ?_
  · rintro s Q ⟨⟨old, h1⟩, _⟩ hq
    exact wpAny_pyIter_enum h1 hq
  · rintro i h ⟨⟨old, h1⟩, h2⟩
    obtain ⟨oi, hoi⟩ := D.live _ _ h2
    have h3 : ∃ oe, h.get? e = some oe := ⟨_, h1⟩
    obtain ⟨oe, hoe⟩ := h3
    refine ⟨[(e, oe), (it, oi)], rfl, fun p hp => ?_⟩
    rcases List.mem_cons.mp hp with rfl | hp
    · exact hoe
    · rw [List.mem_singleton.mp hp]; exact hoi
  · intro b hb
    simp only [List.mem_cons, List.not_mem_nil, or_false] at hb
    rcases hb with rfl | rfl | rfl
    · exact .inl (by simp)
    · exact .inl (by simp)
    · exact .inr hl
  · rintro i v C m' s' Q' hi ⟨T, vals, rfl, ⟨t, y, hy, rfl⟩, hT⟩ hn h
    exact asg_pair hh hkind hx hx₂ hxx hT hn fun h' tk' m₂ hk hn' e1 e2 => h h' tk' m₂ hk hn' ⟨t, y, hy, e1, e2⟩
  · rintro i ys own C oC D' m₂ h tk hi hown hJ hNC ⟨t, y, hy, e1, e2⟩ F' N' o1 o2 o3
    obtain ⟨oe, oi, rfl⟩ := own_two hown
    exact turn i t y ys oe oi C oC D' m₂ h tk hi hy hJ hNC e1 e2 F' N' ⟨(o1 (e, oe) (.head _)).1, (o1 (e, oe) (.head _)).2, (o1 (it, oi) (.tail _ (.head _))).1, (o1 (it, oi) (.tail _ (.head _))).2, o3⟩ fun p hp => ⟨(o2 p hp).1, (o2 p hp).2.1⟩
  · intro D' C h tk m' ys F' N' hn hC₀ hCL hCD offC offD hy hJ
    exact fin D' C h tk m' ys F' N' hn hC₀ hCL hCD offC offD hy hJ
/-- the same over a tuple of the ledger, from the call on -/
theorem comp_enum_tup {elt iter : Expr} {ifs : List Expr} {scope : Scope} {cl : List (Str × Addr)} {pos : Pos} {x x₂ : Str} {px px₂ tp : Pos} {k : Nat} {l : Addr} {vs : List Value} {nn : Nat} {nx : Led} {RR : Value → Addr → Result → Shared → Prop} (J : Nat → List Value → Prop)
    (hh : A.handled = none) (F : Fr h₀ L s.heap m) (N : News h₀ L s.heap nx) (hl : (l, ({ cls := .type "tuple", data := .seq vs.toArray nn } : Obj)) ∈ nx) (hsz : vs.length ≤ sizeLine)
    (hcell : ∀ y ∈ scope.names, y.2 ≠ .cell) (hkind : scope.kind = .function) (hx : scope.names.lookup x = some .local) (hx₂ : scope.names.lookup x₂ = some .local) (hxx : x ≠ x₂) (j0 : J 0 [])
    (turn : ∀ e it i t y ys oe oi C oC D m₂ h tk, vs[i]? = some y → J i ys → NsObj oC m₂ → m₂ x = some (.int (i : Int) t) → m₂ x₂ = some y → Fr h₀ L h m → News h₀ L h ((e, oe) :: (it, oi) :: (C, oC) :: (D, lst ys) :: nx) →
      ((@Ne Nat e C) ∧ (@Ne Nat e D) ∧ (@Ne Nat it C) ∧ (@Ne Nat it D) ∧ (@Ne Nat C D)) → (∀ p ∈ nx, p.1 ≠ C ∧ p.1 ≠ D) →
      CompTurn prog w A h₀ L m elt ifs (compEnvC scope cl C env) { s with heap := h, toks := tk } ((e, oe) :: (it, oi) :: (C, oC) :: (D, lst ys) :: nx) (fun y => J (i + 1) (ys ++ [y])) (J (i + 1) ys))
    (fin : ∀ h, CompDone h₀ L m nx vs.length J { s with heap := h } RR) :
    wpAny (model prog w) A (call (.type "enumerate") [.ref l]) (fun xv s₁ => wpAny (model prog w) A (pyIter xv) (CompGo prog w A env (.ListComp elt [⟨.Tuple [.Name x px, .Name x₂ px₂] k tp, iter, ifs, 0⟩] scope pos) scope cl RR) nah s₁) nah s := by
  have hol := (N _ hl).1
  have hlt := Heap.lt_size hol
  have hT : s.heap.IsTuple l vs.toArray := ⟨_, hol, rfl, nn, rfl⟩
  refine call_enumerate_tuple hT fun h' hE hI hsize hk => ?_
  have D := drawsTuple (prog := prog) (w := w) (A := A.in1) hh s.heap.objs.size l (Nat.ne_of_lt hlt) vs.toArray
  have hn : vs.toArray.size = vs.length := by simp
  rw [hn] at D
  refine comp_enumD (s₂ := { s with heap := h' }) J hh D (Nat.ne_of_gt (Nat.lt_succ_self _)) (Nat.ne_of_gt (Nat.lt_succ_of_lt hlt)) hE ⟨hI, hT.at fun o e => hk _ o e⟩ hsz ?_ (.inr ⟨_, hl⟩) hcell hkind hx hx₂ hxx (F.keeps hk) (fun p hp => ⟨hk _ _ (N p hp).1, (N p hp).2⟩) j0 ?_ (fin h')
  · intro b hb
    simp only [List.mem_cons, List.not_mem_nil, or_false] at hb
    have hLs : @LT.lt Nat _ L s.heap.objs.size := F.ns.lt
    have none₀ : ∀ a : Nat, s.heap.objs.size ≤ a → h₀.get? a = none := fun a ha => by
      cases q : h₀.get? a with
      | none => rfl
      | some o => exact absurd (Heap.lt_size (F.keep a o q)) (Nat.not_lt.mpr ha)
    rcases hb with rfl | rfl
    · refine ⟨none₀ _ (Nat.le_succ _), Nat.ne_of_gt (Nat.lt_succ_of_lt hLs), ?_, fun p hp => Nat.ne_of_lt (Nat.lt_succ_of_lt (Heap.lt_size (N p hp).1))⟩
      show s.heap.objs.size + 1 < h'.objs.size
      rw [hsize]; exact Nat.lt_succ_self _
    · refine ⟨none₀ _ (Nat.le_refl _), Nat.ne_of_gt hLs, ?_, fun p hp => Nat.ne_of_lt (Heap.lt_size (N p hp).1)⟩
      show s.heap.objs.size < h'.objs.size
      rw [hsize]; exact Nat.lt_succ_of_lt (Nat.lt_succ_self _)
  · intro i t y ys oe oi C oC D m₂ h tk hi hy
    exact turn _ _ i t y ys oe oi C oC D m₂ h tk (by simpa using hy)
/-- the same over a list of the ledger, from the call on -/
theorem comp_enum_lst {elt iter : Expr} {ifs : List Expr} {scope : Scope} {cl : List (Str × Addr)} {pos : Pos} {x x₂ : Str} {px px₂ tp : Pos} {k : Nat} {l : Addr} {vs : List Value} {nn : Nat} {nx : Led} {RR : Value → Addr → Result → Shared → Prop} (J : Nat → List Value → Prop)
    (hh : A.handled = none) (F : Fr h₀ L s.heap m) (N : News h₀ L s.heap nx) (hl : (l, listOf vs.toArray nn) ∈ nx) (hsz : vs.length ≤ sizeLine)
    (hcell : ∀ y ∈ scope.names, y.2 ≠ .cell) (hkind : scope.kind = .function) (hx : scope.names.lookup x = some .local) (hx₂ : scope.names.lookup x₂ = some .local) (hxx : x ≠ x₂) (j0 : J 0 [])
    (turn : ∀ e it i t y ys oe oi C oC D m₂ h tk, vs[i]? = some y → J i ys → NsObj oC m₂ → m₂ x = some (.int (i : Int) t) → m₂ x₂ = some y → Fr h₀ L h m → News h₀ L h ((e, oe) :: (it, oi) :: (C, oC) :: (D, lst ys) :: nx) →
      ((@Ne Nat e C) ∧ (@Ne Nat e D) ∧ (@Ne Nat it C) ∧ (@Ne Nat it D) ∧ (@Ne Nat C D)) → (∀ p ∈ nx, p.1 ≠ C ∧ p.1 ≠ D) →
      CompTurn prog w A h₀ L m elt ifs (compEnvC scope cl C env) { s with heap := h, toks := tk } ((e, oe) :: (it, oi) :: (C, oC) :: (D, lst ys) :: nx) (fun y => J (i + 1) (ys ++ [y])) (J (i + 1) ys))
    (fin : ∀ h, CompDone h₀ L m nx vs.length J { s with heap := h } RR) :
    wpAny (model prog w) A (call (.type "enumerate") [.ref l]) (fun xv s₁ => wpAny (model prog w) A (pyIter xv) (CompGo prog w A env (.ListComp elt [⟨.Tuple [.Name x px, .Name x₂ px₂] k tp, iter, ifs, 0⟩] scope pos) scope cl RR) nah s₁) nah s := by
  have hol := (N _ hl).1
  have hlt := Heap.lt_size hol
  have hT : s.heap.IsList l vs.toArray := ⟨_, hol, rfl, nn, rfl⟩
  refine call_enumerate_list hT fun h' hE hI hsize hk => ?_
  have D := Draws.list (prog := prog) (w := w) (A := A.in1) hh s.heap.objs.size l (Nat.ne_of_lt hlt) vs.toArray
  have hn : vs.toArray.size = vs.length := by simp
  rw [hn] at D
  refine comp_enumD (s₂ := { s with heap := h' }) J hh D (Nat.ne_of_gt (Nat.lt_succ_self _)) (Nat.ne_of_gt (Nat.lt_succ_of_lt hlt)) hE ⟨hI, hT.at fun o e => hk _ o e⟩ hsz ?_ (.inr ⟨_, hl⟩) hcell hkind hx hx₂ hxx (F.keeps hk) (fun p hp => ⟨hk _ _ (N p hp).1, (N p hp).2⟩) j0 ?_ (fin h')
  · intro b hb
    simp only [List.mem_cons, List.not_mem_nil, or_false] at hb
    have hLs : @LT.lt Nat _ L s.heap.objs.size := F.ns.lt
    have none₀ : ∀ a : Nat, s.heap.objs.size ≤ a → h₀.get? a = none := fun a ha => by
      cases q : h₀.get? a with
      | none => rfl
      | some o => exact absurd (Heap.lt_size (F.keep a o q)) (Nat.not_lt.mpr ha)
    rcases hb with rfl | rfl
    · refine ⟨none₀ _ (Nat.le_succ _), Nat.ne_of_gt (Nat.lt_succ_of_lt hLs), ?_, fun p hp => Nat.ne_of_lt (Nat.lt_succ_of_lt (Heap.lt_size (N p hp).1))⟩
      show s.heap.objs.size + 1 < h'.objs.size
      rw [hsize]; exact Nat.lt_succ_self _
    · refine ⟨none₀ _ (Nat.le_refl _), Nat.ne_of_gt hLs, ?_, fun p hp => Nat.ne_of_lt (Heap.lt_size (N p hp).1)⟩
      show s.heap.objs.size < h'.objs.size
      rw [hsize]; exact Nat.lt_succ_of_lt (Nat.lt_succ_self _)
  · intro i t y ys oe oi C oC D m₂ h tk hi hy
    exact turn _ _ i t y ys oe oi C oC D m₂ h tk (by simpa using hy)
end
end Mine

namespace Mine
theorem intsAre_get {vs : List Value} {ns : List Int} (h : IntsAre vs ns) : ∀ {i : Nat} {u : Value}, vs[i]? = some u → ∃ z t, u = .int z t ∧ ns[i]? = some z := by
  induction h with
  | nil => intro i u e; simp at e
  | @cons z t vs ns r ih =>
    intro i u e
    cases i with
    | zero => simp at e; exact ⟨z, t, e.symm, by simp⟩
    | succ i => simp at e; simpa using ih e
theorem ints_pick {vs : List Value} {ns : List Int} (h : IntsAre vs ns) : ∀ idx : List Nat, ∃ ms, IntsAre (idx.filterMap (vs.toArray[·]?)) ms ∧ ∀ z ∈ ms, z ∈ ns
  | [] => ⟨[], .nil, fun z hz => nomatch hz⟩
  | i :: r => by
    obtain ⟨ms, h1, h2⟩ := ints_pick h r
    rw [List.filterMap_cons]
    cases e : vs.toArray[i]? with
    | none => exact ⟨ms, h1, h2⟩
    | some u =>
      obtain ⟨z, t, rfl, hz⟩ := intsAre_get h (i := i) (u := u) (by simpa using e)
      exact ⟨z :: ms, .cons z t h1, fun y hy => by
        rcases List.mem_cons.mp hy with rfl | hy
        · exact List.mem_of_getElem? hz
        · exact h2 y hy⟩
section
variable {prog : Program} {w : World} {A : Around} {E : Value → Shared → Prop} {s : Shared} {h₀ : Heap} {L : Addr} {m : Str → Option Value}
theorem slice3_led {value slice : PySem.Expr} {l : Addr} {vs : List Value} {ns : List Int} {n : Nat} {vl vu vk : Value} {lo hi st : Option Int} {ops : List Value} {news : Led} {Q : Value → Shared → Prop}
    (F : Fr h₀ L s.heap m) (N : News h₀ L s.heap news) (hm : (l, listOf vs.toArray n) ∈ news) (hi' : IntsAre vs ns) (pl : IsPart vl lo) (pu : IsPart vu hi) (pk : IsPart vk st) (h0 : st ≠ some 0)
    (h : ∀ D ws ms h', IntsAre ws ms → (∀ z ∈ ms, z ∈ ns) → ms.length ≤ ns.length → (∀ p ∈ news, p.1 ≠ D) → Fr h₀ L h' m → News h₀ L h' ((D, listOf ws.toArray 0) :: news) → Q (.ref D) { s with heap := h' })
    (hz : vs.length ≤ 1000) (hs : subscripted slice false (.ref l) (.ref s.heap.objs.size) = operate ops (getItem (.ref l) (.ref s.heap.objs.size))) (ht : ∀ r, letTemporaryGo value (.ref l) r = pure ()) :
    wpAny (model prog w) A (subscriptTail value slice (.ref l) (.ref s.heap.objs.size)) Q E { s with heap := s.heap.push { cls := .type "slice", data := .fields #[vl, vu, vk] } } := by
  have hl : s.heap.IsList l vs.toArray := ⟨_, (N _ hm).1, rfl, n, rfl⟩
  obtain ⟨ms, h1, h2⟩ := ints_pick hi' (sliceRange (sliceBounds lo hi st vs.toArray.size).1 (sliceBounds lo hi st vs.toArray.size).2.1 (sliceBounds lo hi st vs.toArray.size).2.2)
  refine slice_list3 F N hl pl pu pk h0 (fun h' F' N' => ?_) hs ht (by rw [sizeLine_eq]; simp; omega)
  refine h _ _ ms h' h1 h2 ?_ (fun p hp => Nat.ne_of_lt (Nat.lt_succ_of_lt (Heap.lt_size (N p hp).1))) F' N'
  have h3 := slicePick_size_le vs.toArray lo hi st
  have h4 := h1.length
  have h5 := hi'.length
  unfold slicePick at h3
  simp only [List.size_toArray] at h3
  simp only [List.size_toArray] at h4
  omega
end
theorem ints_snoc {vs : List Value} {ns : List Int} {z : Int} {t : Tok} (h : IntsAre vs ns) : IntsAre (vs ++ [.int z t]) (ns ++ [z]) := by
  induction h with
  | nil => exact .cons z t .nil
  | cons y u _ ih => exact .cons y u ih
theorem sum_bound {ms : List Int} {b : Int} (hb : 0 ≤ b) (h : ∀ z ∈ ms, 0 ≤ z ∧ z ≤ b) : 0 ≤ ms.sum ∧ ms.sum ≤ b * ms.length := by
  induction ms with
  | nil => simp
  | cons z r ih =>
    have h1 := h z (.head _)
    have h2 := ih fun y hy => h y (.tail _ hy)
    rw [List.sum_cons, List.length_cons]
    have e : b * ((r.length + 1 : Nat) : Int) = b * r.length + b := by rw [Int.natCast_succ, Int.mul_add, Int.mul_one]
    rw [e]
    omega
end Mine
namespace Mine
open LCg
theorem compDone_put {prog : Program} {w : World} {A : Around} {s₂ : Shared} {env : Env} {h₀ : Heap} {L : Addr} {m : Str → Option Value} {nx : Led} {n : Nat} {J : Nat → List Value → Prop} {y : Str} {py : Pos} {R : Value → Shared → Prop} (hL : env.locals = L)
    (hy : env.kindOf y = some .local) (hp : (env.scope.kind == .class || (env.scope.kind == .module && env.locals != env.globals)) = false)
    (fin : ∀ v D h tk ys, Fr h₀ L h (fun z => if z = y then some (.ref D) else m z) → News h₀ L h ((D, lst ys) :: nx) → (∀ p ∈ nx, p.1 ≠ D) → ys.length ≤ n → J n ys → R v { s₂ with heap := h, toks := tk }) :
    CompDone h₀ L m nx n J s₂ (compPost (model prog w) A nah (some (assign (.Name y py) env)) R) := by
  subst hL
  intro D C h tk m' ys F N hn hC₀ hCL hCD offC offD hyn hJ
  show wpAny _ A (PySem.assign (.Name y py) env (.ref D)) _ _ _
  refine wpAny_assign_Name (wpAny_storeName_local hy F.ns (fun h₂ hn₂ hs₂ => ?_) hp)
  have F₂ : Fr h₀ env.locals h₂ (fun z => if z = y then some (.ref D) else m z) := F.set hn₂ hs₂
  have N₂ := N.set hs₂
  refine ⟨m', hn.sameBut hs₂ hCL, fun h'' hs => fin _ D h'' _ ys (F₂.change hs hCL hC₀) (fun p hp => ?_) offD hyn hJ⟩
  refine ⟨hs.extBut _ _ ?_ (N₂ p hp).1, (N₂ p hp).2⟩
  rcases List.mem_cons.mp hp with rfl | hp
  · exact Ne.symm hCD
  · exact offC p hp
end Mine

namespace Mine
open_top hd for PySem.Challenge.rw_wo0051_02
end Mine
theorem Mine.offTop : True := by
  w_top off
  trivial
local macro_rules | `(tactic| walk_at $s:str) => `(tactic| k_extra $s)

namespace Mine
noncomputable abbrev PP : Program := Mine.hd.view_39
noncomputable abbrev LL : List Str := looseW PP [Str.ofString "tspecials", Str.ofString "_name_disallowed_re", Str.ofString "_value_disallowed_re", Str.ofString "_formatparam", Str.ofString "insort_right", Str.ofString "bisect_right"]
noncomputable abbrev MM (w : World) : Model := model PySem.Challenge.rw_wo0051_02.row.prog w
def nameCode : Array Nat := #[14, 10, 4, 1, 1, 22, 0, 31, 16, 127, 0, 13, 7, 22, 0, 31, 16, 127, 0, 1]
def valueCode : Array Nat := #[14, 14, 4, 1, 1, 9, 4294966783, 0, 0, 2147483648, 0, 0, 0, 0, 0, 13, 11, 9, 4294966783, 0, 0, 2147483648, 0, 0, 0, 0, 0, 1]
/-- a text that the names' pattern (true) or the values' one lets through -/
def clean (b : Bool) (v : Str) : Bool := noFind (if b then nameCode else valueCode) v.cps 0 && decide (v.cps.size ≤ 1000)
theorem clean_find {b : Bool} {v : Str} (h : clean b v = true) : noFind (if b then nameCode else valueCode) v.cps 0 = true := (Bool.and_eq_true_iff.mp h).1
theorem clean_size {b : Bool} {v : Str} (h : clean b v = true) : v.cps.size ≤ 1000 := of_decide_eq_true (Bool.and_eq_true_iff.mp h).2
section
variable {prog : Program} {w : World} {A : Around} {E : Value → Shared → Prop} {s : Shared} {K : Frag} {h₀ : Heap} {L : Addr} {m : Str → Option Value}
theorem search_methodK {a : Addr} {fs : Array Value} {sl : Array (Option Value)} {pl : Sem Bool} {Q : Value × List Value → Shared → Prop} (F : Fr h₀ L s.heap m) (X : K.In h₀)
    (hl : K.lookup a = some ⟨.type "re.Pattern", none, .fields fs, sl⟩) (h : Q (.builtin "re.Pattern.search", [.ref a]) s) : wpAny (model prog w) A (getMethod (.ref a) "search" pl) Q E s :=
  search_method (X.keeps F.keep _ _ hl) h
theorem search_noneK {a c : Addr} {b : Bool} {fs cs : Array Value} {sl slc : Array (Option Value)} {n : Nat} {v : Str} {t : Tok} {Q : Value → Shared → Prop} (F : Fr h₀ L s.heap m) (X : K.In h₀)
    (hl : K.lookup a = some ⟨.type "re.Pattern", none, .fields fs, sl⟩) (h5 : fs.getD 5 .none = .ref c) (hlc : K.lookup c = some ⟨.type "tuple", none, .seq cs n, slc⟩)
    (h6 : Builtin.Re.reRawNat (fs.getD 6 .none) = 0) (h2 : Builtin.Re.reRawNat (fs.getD 2 .none) = 0)
    (hc : (cs.map Builtin.Re.reRawOf).map (·.toNat) = if b then nameCode else valueCode) (hv : clean b v = true)
    (h : Q .none s) : wpAny (model prog w) A (call (.builtin "re.Pattern.search") [.ref a, .str v t]) Q E s :=
  search_none (X.keeps F.keep _ _ hl) (X.keeps F.keep _ _ hlc) h5 h6 (by rw [hc, h2]; exact clean_find hv) (by have := clean_size hv; omega) h
end
abbrev pairObj (k v : Str) (tk tv : Tok) (n : Nat) : Obj := { cls := .type "tuple", data := .seq #[.str k tk, .str v tv] n }
/-- a list's values are pairs of texts, borne by the ledger -/
inductive Pairs (led : Led) : List Value → List (Str × Str) → Prop
  | nil : Pairs led [] []
  | cons {a : Addr} {k v : Str} {tk tv : Tok} {n : Nat} {vs : List Value} {hs : List (Str × Str)} : (a, pairObj k v tk tv n) ∈ led → Pairs led vs hs → Pairs led (.ref a :: vs) ((k, v) :: hs)
theorem Pairs.length {led : Led} {vs : List Value} {hs : List (Str × Str)} (h : Pairs led vs hs) : vs.length = hs.length := by
  induction h with
  | nil => rfl
  | cons _ _ ih => simp [ih]
theorem Pairs.mono {led led' : Led} {vs : List Value} {hs : List (Str × Str)} (h : Pairs led vs hs) (hs' : ∀ p ∈ led, p ∈ led') : Pairs led' vs hs := by
  induction h with
  | nil => exact .nil
  | cons m _ ih => exact .cons (hs' _ m) ih
theorem Pairs.snoc {led : Led} {vs : List Value} {hs : List (Str × Str)} {a : Addr} {k v : Str} {tk tv : Tok} {n : Nat} (h : Pairs led vs hs) (hm : (a, pairObj k v tk tv n) ∈ led) : Pairs led (vs ++ [.ref a]) (hs ++ [(k, v)]) := by
  induction h with
  | nil => exact .cons hm .nil
  | cons m _ ih => exact .cons m ih
theorem Pairs.get {led : Led} {vs : List Value} {hs : List (Str × Str)} (h : Pairs led vs hs) : ∀ {i : Nat} {u : Value}, vs[i]? = some u → ∃ a k v tk tv n, u = .ref a ∧ hs[i]? = some (k, v) ∧ (a, pairObj k v tk tv n) ∈ led := by
  induction h with
  | nil => intro i u e; simp at e
  | @cons a k v tk tv n vs hs m _ ih =>
    intro i u e
    cases i with
    | zero => simp at e; exact ⟨a, k, v, tk, tv, n, e.symm, by simp, m⟩
    | succ i => simp at e; simpa using ih e
theorem Pairs.has {h₀ h : Heap} {L : Addr} {led more : Led} {vs : List Value} {hs : List (Str × Str)} {m₂ : Str → Option Value} {x x₂ : Str} {i : Nat} {v : Value} (hp : Pairs more vs hs) (N : News h₀ L h led) (sub : ∀ p ∈ more, p ∈ led) (hv : vs[i]? = some v)
    (hh : ∃ t v₁ v₂ n, v = .ref t ∧ (t, ({ cls := .type "tuple", data := .seq #[v₁, v₂] n } : Obj)) ∈ led ∧ m₂ x = some v₁ ∧ m₂ x₂ = some v₂) :
    ∃ k u tk tu, hs[i]? = some (k, u) ∧ m₂ x = some (.str k tk) ∧ m₂ x₂ = some (.str u tu) := by
  obtain ⟨a, k, u, tk, tu, n, rfl, hi, hm⟩ := hp.get hv
  obtain ⟨t, v₁, v₂, n', e, hm', h1, h2⟩ := hh
  cases e
  have e1 := (N _ (sub _ hm)).1
  rw [(N _ hm').1] at e1
  simp only [Option.some.injEq, Obj.mk.injEq, Data.seq.injEq, Array.mk.injEq, List.cons.injEq, true_and, and_true] at e1
  obtain ⟨⟨rfl, rfl⟩, _⟩ := e1
  exact ⟨k, u, tk, tu, hi, h1, h2⟩
/-- what the text's get finds -/
def hget (hs : List (Str × Str)) (v : Str) : Option Str := (hs.find? fun p => Txt.lower p.1 == Txt.lower v).map (·.2)
theorem hget_at {v k u : Str} : ∀ {hs : List (Str × Str)} {i : Nat}, hs[i]? = some (k, u) → (Txt.lower k == Txt.lower v) = true → (∀ p ∈ hs.take i, (Txt.lower p.1 == Txt.lower v) = false) → hget hs v = some u
  | [], _, h, _, _ => by simp at h
  | p :: r, 0, h, h1, _ => by
    simp at h; subst h
    unfold hget
    rw [List.find?_cons, h1]; rfl
  | p :: r, i + 1, h, h1, h2 => by
    have h3 := h2 p (by simp)
    have ih := hget_at (hs := r) (i := i) (by simpa using h) h1 fun q hq => h2 q (by simp [hq])
    unfold hget at ih ⊢
    rw [List.find?_cons, h3]; exact ih
theorem hget_no {v : Str} {hs : List (Str × Str)} (h : ∀ p ∈ hs, (Txt.lower p.1 == Txt.lower v) = false) : hget hs v = none := by
  unfold hget
  rw [List.find?_eq_none.mpr fun p hp => by rw [h p hp]; exact Bool.false_ne_true]; rfl
abbrev hdrDict (dh : Int) (dk : Tok) (l : Addr) (dn : Nat) : Obj := dictOf [⟨dh, .str (Str.ofString "_headers") dk, .ref l⟩] dn
end Mine
theorem Mine.say_j_1 : True := by
  k_with "ENTER" => (refine Mine.noRaise ?_; refine wpAny_call ?_; k_dflt (refine' code_def ?yk1_1 ?yk2_1 ?yk3_1 ?yk4_1 ?yk5_1 ?ykA_1 ?ykF_1 ?ykK_1 ?yk6_1 ?yk7_1 ?yk8_1 ?yk9_1 ?ykB_1 ?_ ?yc2_1 ?yc3_1 ?yc4_1 ?yc5_1; (case ykA_1 => exact rfl); (case ykF_1 => exact rfl); (case ykK_1 => assumption); (case yk1_1 => k_asm); (case yk2_1 => k_asm); (case yk3_1 => k_asm); (case yk4_1 => k_asm); (case yk5_1 => k_asm); (case yk6_1 => k_is); (case yk7_1 => k_is); (case yk8_1 => ktr_room); (case yk9_1 => first | exact BindsTo.of_eq rfl | exact binds_K (by k_in) rfl (by k_is) rfl rfl rfl); (case yc5_1 => decide); (case ykB_1 => exact locs rfl); (case yc2_1 => exact rfl); (case yc3_1 => exact rfl); (case yc4_1 => exact rfl); k_whole))
  trivial
theorem Mine.say_j_2 : True := by
  k_with "ENTERC" => (refine Mine.noRaise ?_; refine wpAny_call ?_; k_dflt (refine' code_defC ?yk1_2 ?yk2_2 ?yk3_2 ?yk4_2 ?yk5_2 ?ykA_2 ?ykF_2 ?ykK_2 ?yk6_2 ?yk7_2 ?yk8_2 ?yk9_2 ?ykB_2 ?ykD_2 ?_ ?yc2_2 ?yc3_2 ?yc4_2; (case ykA_2 => exact rfl); (case ykF_2 => exact rfl); (case ykK_2 => assumption); (case yk1_2 => k_asm); (case yk2_2 => k_asm); (case yk3_2 => k_asm); (case yk4_2 => k_asm); (case yk5_2 => k_asm); (case yk6_2 => k_is); (case yk7_2 => k_is); (case yk8_2 => ktr_room); (case yk9_2 => first | exact BindsTo.of_eq rfl | exact binds_K (by k_in) rfl (by k_is) rfl rfl rfl); (case ykB_2 => exact rfl); (case ykD_2 => decide +kernel); (case yc2_2 => exact rfl); (case yc3_2 => exact rfl); (case yc4_2 => exact rfl); k_whole))
  trivial
theorem Mine.say_j_3 : True := by
  k_with "getMethod ref" => (k_here; (with_reducible show wpAny _ _ (getMethod (Value.ref _) (Str.ofString "search") _) _ _ _); k_dflt (refine' Mine.search_methodK ?yk1_3 ?yk2_3 ?yk3_3 ?_; (case yk1_3 => k_asm); (case yk2_3 => k_asm); (case yk3_3 => k_is); k_whole))
  trivial
theorem Mine.say_j_4 : True := by
  k_with "call builtin:re.Pattern.search" => (k_here; k_dflt (refine' Mine.search_noneK ?yk1_4 ?yk2_4 ?yk3_4 ?yk4_4 ?yk5_4 ?yk6_4 ?yk7_4 ?yk8_4 ?yk9_4 ?_; (case yk1_4 => k_asm); (case yk2_4 => k_asm); (case yk3_4 => k_is); (case yk4_4 => exact rfl); (case yk5_4 => k_is); (case yk6_4 => rfl); (case yk7_4 => rfl); (case yk9_4 => assumption); (case yk8_4 => decide +kernel)))
  trivial
theorem Mine.say_j_5 : True := by
  k_with "TurnTo" => ((with_reducible show Mine.TurnTo _ _ _ _ _ _ _ (Flow.ret _) _); dsimp only [Mine.TurnTo])
  trivial
theorem Mine.say_j_6 : True := by
  k_with "COMP" => with_unfolding_all (first | (refine Mine.comp_expr (cl := []) rfl rfl (by decide) (by intro _; rfl) ?_) | (refine Mine.comp_assign (cl := []) rfl rfl rfl (by decide) (by intro _; rfl) ?_))
  trivial
theorem Mine.say_j_7 : True := by
  k_with "FOR" => (refine wpAny_For ?_ (by intro _; rfl))
  trivial
theorem Mine.say_j_8 : True := by
  k_with "call builtin:str.lower" => (k_here; (try dsimp only); (with_reducible show wpAny _ _ (call (Value.builtin "str.lower") [Value.str _ _]) _ _ _); (refine SCL.lower (by first | assumption | omega | decide +kernel) ?_; intro _))
  trivial
theorem Mine.say_j_9 : True := by
  k_with "STEPS" => repeat' (first | (k_unfold; (try dsimp only)) | ((fail_if_success (with_reducible show wpAny _ _ (pyIter _) _ _ _)); (fail_if_success (with_reducible show wpAny _ _ (exec (Stmt.While _ _ _ _) _) _ _ _)); (fail_if_success (with_reducible show wpAny _ _ (exec (Stmt.For _ _ _ _ _) _) _ _ _)); (fail_if_success (with_reducible show wpAny _ _ (eval (Expr.ListComp _ _ _ _) _) _ _ _)); (fail_if_success (with_reducible show wpAny _ _ (exec (Stmt.Assign _ (Expr.ListComp _ _ _ _) _) _) _ _ _)); first | walk1 | (dsimp only; walk1)) | fail "no step")
  trivial

namespace Mine
theorem conv_t {w : World} {mean : ExcName → Option Value} {mg mb : Str → Option Value} {dp un : Nat} {gd : Option (List Code)} {cn : Str} {cs : Scope} {a : Addr} {ccd : Value} {cl : List (Str × Addr)} {outer : List Env} {A₀ : Around} {base h₀ : Heap} {L : Addr} {m : Str → Option Value} {s : Shared} {Q E : Value → Shared → Prop} {news : Led} {x : Addr} {v : Str} {t : Tok} (B : Below A₀ base outer h₀) (F : Fr h₀ L s.heap m) (X : (Mine.hd.heap_39 w.params).In h₀) (T : Top PP LL mean mg mb h₀) (hk : cs.kind = .function) (N : News h₀ L s.heap news) (hd : dp + 1 < recursionLimit) (hu : un + 8 < cLine)
    (hv : clean true v = true) (ret : ∀ h' tk', Fr h₀ L h' m → News h₀ L h' news → Q (.str v t) { s with heap := h', toks := tk' }) :
    wpAny (MM w) (ktrTop dp un gd cn cs L a ccd cl outer) (call (.ref 83) [.ref x, .str v t] [("name", .bool true)]) Q E s := by
  walk_at "ENTER"
  intro g L' h₁ FG F' N' B' X' T'
  replace F' : Fr g L' h₁ (fun y => List.lookup y [("name", .bool true), ("value", .str v t), ("self", .ref x)]) := F'
  refine noRaise ?_
  try dsimp only
  walk_at "STEPS"
  exact ret _ _ (by k_asm) (by k_asm)
theorem conv_f {w : World} {mean : ExcName → Option Value} {mg mb : Str → Option Value} {dp un : Nat} {gd : Option (List Code)} {cn : Str} {cs : Scope} {a : Addr} {ccd : Value} {cl : List (Str × Addr)} {outer : List Env} {A₀ : Around} {base h₀ : Heap} {L : Addr} {m : Str → Option Value} {s : Shared} {Q E : Value → Shared → Prop} {news : Led} {x : Addr} {v : Str} {t : Tok} (B : Below A₀ base outer h₀) (F : Fr h₀ L s.heap m) (X : (Mine.hd.heap_39 w.params).In h₀) (T : Top PP LL mean mg mb h₀) (hk : cs.kind = .function) (N : News h₀ L s.heap news) (hd : dp + 1 < recursionLimit) (hu : un + 8 < cLine)
    (hv : clean false v = true) (ret : ∀ h' tk', Fr h₀ L h' m → News h₀ L h' news → Q (.str v t) { s with heap := h', toks := tk' }) :
    wpAny (MM w) (ktrTop dp un gd cn cs L a ccd cl outer) (call (.ref 83) [.ref x, .str v t] [("name", .bool false)]) Q E s := by
  walk_at "ENTER"
  intro g L' h₁ FG F' N' B' X' T'
  replace F' : Fr g L' h₁ (fun y => List.lookup y [("name", .bool false), ("value", .str v t), ("self", .ref x)]) := F'
  refine noRaise ?_
  try dsimp only
  walk_at "STEPS"
  exact ret _ _ (by k_asm) (by k_asm)
end Mine
theorem Mine.say_j_10 : True := by
  k_with "call ref" => (k_here; (with_reducible show wpAny _ _ (call (Value.ref 83) _ _) _ _ _); k_dflt (refine' Mine.conv_t ?yk1_10 ?yk2_10 ?yk3_10 ?yk4_10 ?yk5_10 ?yk6_10 ?yk7_10 ?yk8_10 ?yk9_10 ?_; (case yk1_10 => k_asm); (case yk2_10 => k_asm); (case yk3_10 => k_asm); (case yk4_10 => k_asm); (case yk5_10 => first | exact rfl | assumption); (case yk6_10 => k_asm); (case yk7_10 => ktr_room); (case yk8_10 => ktr_units); (case yk9_10 => first | assumption | decide +kernel); k_whole); intro h' tk' F' N')
  trivial
theorem Mine.say_j_11 : True := by
  k_with "call ref" => (k_here; (with_reducible show wpAny _ _ (call (Value.ref 83) _ _) _ _ _); k_dflt (refine' Mine.conv_f ?yk1_11 ?yk2_11 ?yk3_11 ?yk4_11 ?yk5_11 ?yk6_11 ?yk7_11 ?yk8_11 ?yk9_11 ?_; (case yk1_11 => k_asm); (case yk2_11 => k_asm); (case yk3_11 => k_asm); (case yk4_11 => k_asm); (case yk5_11 => first | exact rfl | assumption); (case yk6_11 => k_asm); (case yk7_11 => ktr_room); (case yk8_11 => ktr_units); (case yk9_11 => first | assumption | decide +kernel); k_whole); intro h' tk' F' N')
  trivial

namespace Mine
theorem get_c {w : World} {mean : ExcName → Option Value} {mg mb : Str → Option Value} {dp un : Nat} {gd : Option (List Code)} {cn : Str} {cs : Scope} {a : Addr} {ccd : Value} {cl : List (Str × Addr)} {outer : List Env} {A₀ : Around} {base h₀ : Heap} {L : Addr} {m : Str → Option Value} {s : Shared} {Q E : Value → Shared → Prop} {x dx l : Addr} {dh : Int} {dk : Tok} {dn nn : Nat} {vs : List Value} {hs : List (Str × Str)} {more : Led} {v : Str} {t : Tok} (B : Below A₀ base outer h₀) (F : Fr h₀ L s.heap m) (X : (Mine.hd.heap_39 w.params).In h₀) (T : Top PP LL mean mg mb h₀) (hk : cs.kind = .function)
    (N : News h₀ L s.heap ((x, instObj 184 dx) :: (dx, hdrDict dh dk l dn) :: (l, listOf vs.toArray nn) :: more)) (hp : Pairs more vs hs) (hd : dp + 2 < recursionLimit) (hu : un + 16 < cLine)
    (hv : v.length ≤ 5592405) (hc : clean true (Txt.lower v) = true) (hsh : ∀ p ∈ hs, p.1.length ≤ 5592405)
    (retS : ∀ u tu h' tk', hget hs v = some u → Fr h₀ L h' m → News h₀ L h' ((x, instObj 184 dx) :: (dx, hdrDict dh dk l dn) :: (l, listOf vs.toArray nn) :: more) → Q (.str u tu) { s with heap := h', toks := tk' })
    (retN : ∀ h' tk', hget hs v = none → Fr h₀ L h' m → News h₀ L h' ((x, instObj 184 dx) :: (dx, hdrDict dh dk l dn) :: (l, listOf vs.toArray nn) :: more) → Q .none { s with heap := h', toks := tk' }) :
    wpAny (MM w) (ktrTop dp un gd cn cs L a ccd cl outer) (call (.ref 131) [.ref x, .str v t] []) Q E s := by
  walk_at "ENTER"
  intro g L' h₁ FG F' N' B' X' T'
  replace F' : Fr g L' h₁ (fun y => List.lookup y [("default", .none), ("name", .str v t), ("self", .ref x)]) := F'
  refine noRaise ?_
  try dsimp only
  walk_at "STEPS"
  walk_at "FOR"
  walk_at "STEPS"
  try dsimp only
  rename News _ _ _ _ => N₂
  rename Fr _ _ _ _ => F₂
  refine for_list (L := L') (vs := vs) (nn := nn) (fun i m nx => nx = (x, instObj 184 dx) :: (dx, hdrDict dh dk l dn) :: (l, listOf vs.toArray nn) :: more ∧ (∃ tk, m (Str.ofString "name") = some (.str (Txt.lower v) tk)) ∧ m (Str.ofString "default") = some .none ∧ ∀ p ∈ hs.take i, (Txt.lower p.1 == Txt.lower v) = false) rfl rfl F₂ N₂ ?_ ?_ ?_ ?_
  · rintro i m nx ⟨rfl, _⟩
    simp
  · exact ⟨rfl, ⟨_, rfl⟩, rfl, by simp⟩
  · clear F₂ N₂
    rintro i u m₁ nx h tk I o hu ⟨rfl, ⟨tk1, hn⟩, hdf, hno⟩ hI F₃ N₃
    obtain ⟨a₁, k, v₁, t1, t2, n1, rfl, hi, hm⟩ := hp.get hu
    have N₄ : News g L' h ((a₁, pairObj k v₁ t1 t2 n1) :: (I, o) :: (x, instObj 184 dx) :: (dx, hdrDict dh dk l dn) :: (l, listOf vs.toArray nn) :: more) :=
      news_sub N₃ fun p hp => by
        rcases List.mem_cons.mp hp with rfl | hp
        · simp [hm]
        · exact hp
    have F₄ := fr_knows [(Str.ofString "name", .str (Txt.lower v) tk1), (Str.ofString "default", .none)] F₃ (by simp [hn, hdf])
    clear N₃ F₃
    have hk : k.length ≤ 5592405 := hsh _ (List.mem_of_getElem? hi)
    walk_at "STEPS"
    · rename _ = true => he
      exact retS _ _ _ _ (hget_at hi he hno) (by k_asm) (news_sub (by k_asm) fun p hp => .tail _ (.tail _ hp))
    · rename _ = false => he
      rename News _ _ _ _ => N₅
      rename Fr _ _ _ _ => F₅
      refine TurnTo.next _ F₅ (news_sub N₅ fun p hp => .tail _ hp) hI ⟨rfl, ⟨_, rfl⟩, rfl, fun p hp => ?_⟩
      rw [List.take_add_one, hi] at hp
      rcases List.mem_append.mp hp with h1 | h1
      · exact hno p h1
      · simp at h1; subst h1; exact he
  · clear F₂ N₂
    rintro m₁ nx h tk ⟨rfl, ⟨tk1, hn⟩, hdf, hno⟩ F₃ N₃
    have F₄ := fr_knows [(Str.ofString "name", .str (Txt.lower v) tk1), (Str.ofString "default", .none)] F₃ (by simp [hn, hdf])
    clear F₃
    rw [hp.length, List.take_length] at hno
    walk_at "STEPS"
    exact retN _ _ (hget_no hno) (by k_asm) (by k_asm)
theorem get_d {w : World} {mean : ExcName → Option Value} {mg mb : Str → Option Value} {dp un : Nat} {gd : Option (List Code)} {cn : Str} {cs : Scope} {a : Addr} {ccd : Value} {cl : List (Str × Addr)} {outer : List Env} {A₀ : Around} {base h₀ : Heap} {L : Addr} {m : Str → Option Value} {s : Shared} {Q E : Value → Shared → Prop} {x dx l : Addr} {dh : Int} {dk : Tok} {dn nn : Nat} {vs : List Value} {hs : List (Str × Str)} {more : Led} {v : Str} {t : Tok} {d : Str} {td : Tok} (B : Below A₀ base outer h₀) (F : Fr h₀ L s.heap m) (X : (Mine.hd.heap_39 w.params).In h₀) (T : Top PP LL mean mg mb h₀) (hk : cs.kind = .function)
    (N : News h₀ L s.heap ((x, instObj 184 dx) :: (dx, hdrDict dh dk l dn) :: (l, listOf vs.toArray nn) :: more)) (hp : Pairs more vs hs) (hd : dp + 2 < recursionLimit) (hu : un + 16 < cLine)
    (hv : v.length ≤ 5592405) (hc : clean true (Txt.lower v) = true) (hsh : ∀ p ∈ hs, p.1.length ≤ 5592405)
    (retS : ∀ u tu h' tk', hget hs v = some u → Fr h₀ L h' m → News h₀ L h' ((x, instObj 184 dx) :: (dx, hdrDict dh dk l dn) :: (l, listOf vs.toArray nn) :: more) → Q (.str u tu) { s with heap := h', toks := tk' })
    (retN : ∀ h' tk', hget hs v = none → Fr h₀ L h' m → News h₀ L h' ((x, instObj 184 dx) :: (dx, hdrDict dh dk l dn) :: (l, listOf vs.toArray nn) :: more) → Q (.str d td) { s with heap := h', toks := tk' }) :
    wpAny (MM w) (ktrTop dp un gd cn cs L a ccd cl outer) (call (.ref 131) [.ref x, .str v t, .str d td] []) Q E s := by
  walk_at "ENTER"
  intro g L' h₁ FG F' N' B' X' T'
  replace F' : Fr g L' h₁ (fun y => List.lookup y [("default", (.str d td)), ("name", .str v t), ("self", .ref x)]) := F'
  refine noRaise ?_
  try dsimp only
  walk_at "STEPS"
  walk_at "FOR"
  walk_at "STEPS"
  try dsimp only
  rename News _ _ _ _ => N₂
  rename Fr _ _ _ _ => F₂
  refine for_list (L := L') (vs := vs) (nn := nn) (fun i m nx => nx = (x, instObj 184 dx) :: (dx, hdrDict dh dk l dn) :: (l, listOf vs.toArray nn) :: more ∧ (∃ tk, m (Str.ofString "name") = some (.str (Txt.lower v) tk)) ∧ m (Str.ofString "default") = some (.str d td) ∧ ∀ p ∈ hs.take i, (Txt.lower p.1 == Txt.lower v) = false) rfl rfl F₂ N₂ ?_ ?_ ?_ ?_
  · rintro i m nx ⟨rfl, _⟩
    simp
  · exact ⟨rfl, ⟨_, rfl⟩, rfl, by simp⟩
  · clear F₂ N₂
    rintro i u m₁ nx h tk I o hu ⟨rfl, ⟨tk1, hn⟩, hdf, hno⟩ hI F₃ N₃
    obtain ⟨a₁, k, v₁, t1, t2, n1, rfl, hi, hm⟩ := hp.get hu
    have N₄ : News g L' h ((a₁, pairObj k v₁ t1 t2 n1) :: (I, o) :: (x, instObj 184 dx) :: (dx, hdrDict dh dk l dn) :: (l, listOf vs.toArray nn) :: more) :=
      news_sub N₃ fun p hp => by
        rcases List.mem_cons.mp hp with rfl | hp
        · simp [hm]
        · exact hp
    have F₄ := fr_knows [(Str.ofString "name", .str (Txt.lower v) tk1), (Str.ofString "default", (.str d td))] F₃ (by simp [hn, hdf])
    clear N₃ F₃
    have hk : k.length ≤ 5592405 := hsh _ (List.mem_of_getElem? hi)
    walk_at "STEPS"
    · rename _ = true => he
      exact retS _ _ _ _ (hget_at hi he hno) (by k_asm) (news_sub (by k_asm) fun p hp => .tail _ (.tail _ hp))
    · rename _ = false => he
      rename News _ _ _ _ => N₅
      rename Fr _ _ _ _ => F₅
      refine TurnTo.next _ F₅ (news_sub N₅ fun p hp => .tail _ hp) hI ⟨rfl, ⟨_, rfl⟩, rfl, fun p hp => ?_⟩
      rw [List.take_add_one, hi] at hp
      rcases List.mem_append.mp hp with h1 | h1
      · exact hno p h1
      · simp at h1; subst h1; exact he
  · clear F₂ N₂
    rintro m₁ nx h tk ⟨rfl, ⟨tk1, hn⟩, hdf, hno⟩ F₃ N₃
    have F₄ := fr_knows [(Str.ofString "name", .str (Txt.lower v) tk1), (Str.ofString "default", (.str d td))] F₃ (by simp [hn, hdf])
    clear F₃
    rw [hp.length, List.take_length] at hno
    walk_at "STEPS"
    exact retN _ _ (hget_no hno) (by k_asm) (by k_asm)
end Mine

namespace Mine
open LCg
theorem keys_c {w : World} {mean : ExcName → Option Value} {mg mb : Str → Option Value} {dp un : Nat} {gd : Option (List Code)} {cn : Str} {cs : Scope} {a : Addr} {ccd : Value} {cl : List (Str × Addr)} {outer : List Env} {A₀ : Around} {base h₀ : Heap} {L : Addr} {m : Str → Option Value} {s : Shared} {Q E : Value → Shared → Prop} {x dx l : Addr} {dh : Int} {dk : Tok} {dn nn : Nat} {vs : List Value} {hs : List (Str × Str)} {more : Led} (B : Below A₀ base outer h₀) (F : Fr h₀ L s.heap m) (X : (Mine.hd.heap_39 w.params).In h₀) (T : Top PP LL mean mg mb h₀) (hk : cs.kind = .function)
    (N : News h₀ L s.heap ((x, instObj 184 dx) :: (dx, hdrDict dh dk l dn) :: (l, listOf vs.toArray nn) :: more)) (hp : Pairs more vs hs) (hd : dp + 2 < recursionLimit) (hu : un + 16 < cLine) (hsz : vs.length ≤ 1000)
    (ret : ∀ D ks h' tk', StrsAre ks (hs.map (·.1)) → Fr h₀ L h' m → News h₀ L h' ((D, lst ks) :: (x, instObj 184 dx) :: (dx, hdrDict dh dk l dn) :: (l, listOf vs.toArray nn) :: more) → Q (.ref D) { s with heap := h', toks := tk' }) :
    wpAny (MM w) (ktrTop dp un gd cn cs L a ccd cl outer) (call (.ref 136) [.ref x] []) Q E s := by
  walk_at "ENTER"
  intro g L' h₁ FG F' N' B' X' T'
  replace F' : Fr g L' h₁ (fun y => List.lookup y [("self", .ref x)]) := F'
  refine noRaise ?_
  try dsimp only
  walk_at "STEPS"
  walk_at "COMP"
  walk_at "STEPS"
  try dsimp only
  rename News _ _ _ _ => N₂
  rename Fr _ _ _ _ => F₂
  refine comp_list (vs := vs) (nn := nn) (fun i ys => StrsAre ys ((hs.take i).map (·.1))) rfl F₂ N₂ (by simp) (by rw [sizeLine_eq]; omega) (by decide) rfl (Asg.pair rfl rfl rfl rfl (by decide) ?_) (by simp; exact StrsAre.nil) ?_ ?_
  · intro i v hv
    obtain ⟨a₁, k, v₁, t1, t2, n1, rfl, hi, hm⟩ := hp.get hv
    exact ⟨a₁, .str k t1, .str v₁ t2, n1, rfl, .tail _ (.tail _ (.tail _ hm))⟩
  · intro h i v ys I oI C oC D m₂ h' tk hi hv hJ hC hHas F₃ N₃ hoff hne
    obtain ⟨k, u, tk, tu, hik, hm1, hm2⟩ := hp.has (news_sub N₃ fun p hp => .tail _ (.tail _ (.tail _ hp))) (fun p hp => by simp [hp]) hv hHas
    refine CompTurn.plain ?_
    try dsimp only
    walk_at "STEPS"
    refine CEnd.intro (by k_asm) (by k_asm) ?_
    rw [take_snoc hik, List.map_append]
    exact strs_snoc hJ
  · intro h
    refine CompDone.expr ?_
    intro D h' tk ys F₃ N₃ _ _ hJ
    rw [hp.length, List.take_length] at hJ
    walk_at "STEPS"
    exact ret _ _ _ _ hJ (by k_asm) (by k_asm)
end Mine

local macro_rules | `(tactic| k_all) => `(tactic| with_reducible assumption)
namespace Mine
open LCg
theorem del_c {w : World} {mean : ExcName → Option Value} {mg mb : Str → Option Value} {dp un : Nat} {gd : Option (List Code)} {cn : Str} {cs : Scope} {a : Addr} {ccd : Value} {cl : List (Str × Addr)} {outer : List Env} {A₀ : Around} {base h₀ : Heap} {L : Addr} {m : Str → Option Value} {s : Shared} {Q E : Value → Shared → Prop} {x dx l : Addr} {dh : Int} {dk : Tok} {dn nn : Nat} {vs : List Value} {hs : List (Str × Str)} {more : Led} {v : Str} {t : Tok} (B : Below A₀ base outer h₀) (F : Fr h₀ L s.heap m) (X : (Mine.hd.heap_39 w.params).In h₀) (T : Top PP LL mean mg mb h₀) (hk : cs.kind = .function)
    (N : News h₀ L s.heap ((x, instObj 184 dx) :: (dx, hdrDict dh dk l dn) :: (l, listOf vs.toArray nn) :: more)) (hp : Pairs more vs hs) (hd : dp + 2 < recursionLimit) (hu : un + 16 < cLine) (hsz : vs.length ≤ 1000)
    (hv : v.length ≤ 5592405) (hc : clean true (Txt.lower v) = true) (hsh : ∀ p ∈ hs, p.1.length ≤ 5592405) (hml : ∀ p ∈ more, p.1 ≠ l)
    (ret : ∀ vs' nn' h' tk', Pairs more vs' (hs.filter fun p => !(Txt.lower p.1 == Txt.lower v)) → Fr h₀ L h' m → News h₀ L h' ((x, instObj 184 dx) :: (dx, hdrDict dh dk l dn) :: (l, listOf vs'.toArray nn') :: more) → Q .none { s with heap := h', toks := tk' }) :
    wpAny (MM w) (ktrTop dp un gd cn cs L a ccd cl outer) (call (.ref 102) [.ref x, .str v t] []) Q E s := by
  walk_at "ENTERC"
  intro g L' h₁ tk₁ cells FG F' N' Y B' X' T' hlt
  obtain ⟨oc, rfl, hoc⟩ := CellsAre.one Y
  clear Y
  replace hoc : oc.data = .cell (some (.str v t)) := hoc
  replace F' : Fr g L' h₁ (fun y => if y = "self" then some (.ref x) else none) := F'
  replace N' : News g L' h₁ ((L' + 1, oc) :: (x, instObj 184 dx) :: (dx, hdrDict dh dk l dn) :: (l, listOf vs.toArray nn) :: more) := N'
  have hcne : ∀ p ∈ (x, instObj 184 dx) :: (dx, hdrDict dh dk l dn) :: (l, listOf vs.toArray nn) :: more, p.1 ≠ L' + 1 := fun p hp => Nat.ne_of_lt (Nat.lt_succ_of_lt (hlt p hp))
  refine noRaise ?_
  try dsimp only
  walk_at "STEPS"
  refine wpAny_Assign_Subscript ?_ (by rfl)
  with_unfolding_all refine comp_expr (cl := [(Str.ofString "name", L' + 1)]) rfl rfl (by decide) (by intro _; rfl) ?_
  walk_at "STEPS"
  try dsimp only
  rename News _ _ _ _ => N₂
  rename Fr _ _ _ _ => F₂
  rename _ = Data.cell _ => hoc₂
  refine comp_list (vs := vs) (nn := nn) (fun i ys => Pairs more ys ((hs.take i).filter fun p => !(Txt.lower p.1 == Txt.lower v))) rfl F₂ N₂ (by simp) (by rw [sizeLine_eq]; omega) (by decide) rfl (Asg.name rfl rfl) (by simpa using Pairs.nil) ?_ ?_
  · intro h i v ys I oI C oC D m₂ h' tk hi hv hJ hC hHas F₃ N₃ hoff hne
    obtain ⟨a₁, k, u, t1, t2, n1, rfl, hik, hm⟩ := hp.get hv
    have hks : k.length ≤ 5592405 := hsh _ (List.mem_of_getElem? hik)
    have N₄ := news_sub (l' := (a₁, pairObj k u t1 t2 n1) :: (I, oI) :: (C, oC) :: (D, lst ys) :: (L' + 1, _) :: (x, instObj 184 dx) :: (dx, hdrDict dh dk l dn) :: (l, listOf vs.toArray nn) :: more) N₃ (by
      intro p hp
      rcases List.mem_cons.mp hp with rfl | hp
      · simp [hm]
      · exact hp)
    clear N₃
    refine CompTurn.one ?_
    try dsimp only
    walk_at "STEPS"
    · rename (_ != _) = true => he
      refine CEnd.intro (by k_asm) (news_sub (by k_asm) fun p hp => .tail _ hp) ?_
      rw [take_snoc hik, List.filter_append]
      have e : (!(Txt.lower k == Txt.lower v)) = true := he
      simp only [List.filter_cons, e, if_true, List.filter_nil]
      exact hJ.snoc hm
    · rename (_ != _) = false => he
      refine CEnd.intro (by k_asm) (news_sub (by k_asm) fun p hp => .tail _ hp) ?_
      rw [take_snoc hik, List.filter_append]
      have e : (!(Txt.lower k == Txt.lower v)) = false := he
      simp only [List.filter_cons, e, Bool.false_eq_true, if_false, List.filter_nil, List.append_nil]
      exact hJ
  · intro h
    refine CompDone.expr ?_
    intro D h' tk ys F₃ N₃ hoffD hlen hJ
    rw [hp.length, List.take_length] at hJ
    have hys : ys.length ≤ 1000 := Nat.le_trans hlen hsz
    walk_at "STEPS"
    have hxl : x ≠ l := news_ne (o := instObj 184 dx) (o' := listOf vs.toArray nn) N₃ (by simp) (by simp) (by intro e; cases e)
    have hdxl : dx ≠ l := news_ne (o := hdrDict dh dk l dn) (o' := listOf vs.toArray nn) N₃ (by simp) (by simp) (by show Value.type "dict" ≠ Value.type "list"; decide)
    have hDl : D ≠ l := fun e => hoffD (l, listOf vs.toArray nn) (by simp) e.symm
    have hcl : L' + 1 ≠ l := fun e => hcne (l, listOf vs.toArray nn) (by simp) e.symm
    refine setItem_allK (l := l) (D := D) (xs := vs.toArray) (ys := ys.toArray) (n := nn) (n' := ys.length) (rest := (D, lst ys) :: (x, instObj 184 dx) :: (dx, hdrDict dh dk l dn) :: more) (H := h') ?_ F₃ (news_sub N₃ (by
      intro p hp
      simp only [List.mem_cons] at hp ⊢
      grind)) (by exact .head _) (by
      intro p hp
      rcases List.mem_cons.mp hp with rfl | hp
      · exact hDl
      · rcases List.mem_cons.mp hp with rfl | hp
        · exact hxl
        · rcases List.mem_cons.mp hp with rfl | hp
          · exact hdxl
          · exact hml p hp) (by rw [List.size_toArray]; omega) (by rw [List.size_toArray]; omega) ?_
    · rfl
    intro h₅ n₂ F₅ N₅
    have N₆ := news_sub (l' := (x, instObj 184 dx) :: (dx, hdrDict dh dk l dn) :: (l, listOf ys.toArray n₂) :: more) N₅ (by
      intro p hp
      simp only [List.mem_cons] at hp ⊢
      grind)
    clear N₅
    try dsimp only
    walk_at "STEPS"
    exact ret _ _ _ _ hJ (by k_asm) (by k_asm)
end Mine

theorem Mine.say_j_12 : True := by
  k_with "STEPSK" => repeat' (first | (k_unfold; (try dsimp only)) | walk1 | (dsimp only; walk1) | fail "no step")
  trivial
theorem Mine.say_j_13 : True := by
  k_with "ENTERM" => (refine Mine.noRaise ?_; refine wpAny_call ?_; k_dflt (refine' kp_more ?yk1_13 ?yk2_13 ?yk3_13 ?yk4_13 ?yk5_13 ?ykA_13 ?ykF_13 ?ykK_13 ?yk6_13 ?yk7_13 ?yk8_13 ?ykX_13 ?ykM_13 ?ykN_13 ?ykD_13 ?ykR_13 ?ykP_13 ?ykT_13 ?ykB_13 ?_ ?yc2_13 ?yc3_13 ?yc4_13 ?yc5_13; (case ykA_13 => exact rfl); (case ykF_13 => exact rfl); (case ykK_13 => assumption); (case yk1_13 => k_asm); (case yk2_13 => k_asm); (case yk3_13 => k_asm); (case yk4_13 => k_asm); (case yk5_13 => k_asm); (case yk6_13 => k_is); (case yk7_13 => k_is); (case yk8_13 => ktr_room); (case ykX_13 => kp_lit); (case ykM_13 => exact rfl); (case ykN_13 => exact rfl); (case ykD_13 => kp_flats); (case ykR_13 => exact rfl); (case ykP_13 => exact rfl); (case ykT_13 => exact fun _ => rfl); (case ykB_13 => exact fun _ => locs rfl); (case yc5_13 => decide); (case yc2_13 => exact rfl); (case yc3_13 => exact rfl); (case yc4_13 => exact rfl); k_whole))
  trivial
namespace Mine
theorem news_rot3 {h₀ h : Heap} {L : Addr} {a b c d : Addr × Obj} {r : Led} (N : News h₀ L h (a :: b :: c :: d :: r)) : News h₀ L h (b :: c :: d :: a :: r) := news_sub N fun p hp => by
  simp only [List.mem_cons] at hp ⊢
  grind
theorem add_c {w : World} {mean : ExcName → Option Value} {mg mb : Str → Option Value} {dp un : Nat} {gd : Option (List Code)} {cn : Str} {cs : Scope} {a : Addr} {ccd : Value} {cl : List (Str × Addr)} {outer : List Env} {A₀ : Around} {base h₀ : Heap} {L : Addr} {m : Str → Option Value} {s : Shared} {Q E : Value → Shared → Prop} {x dx l : Addr} {dh : Int} {dk : Tok} {dn nn : Nat} {vs : List Value} {more : Led} {v : Str} {t t' : Tok} (B : Below A₀ base outer h₀) (F : Fr h₀ L s.heap m) (X : (Mine.hd.heap_39 w.params).In h₀) (T : Top PP LL mean mg mb h₀) (hk : cs.kind = .function)
    (N : News h₀ L s.heap ((x, instObj 184 dx) :: (dx, hdrDict dh dk l dn) :: (l, listOf vs.toArray nn) :: more)) (hd : dp + 2 < recursionLimit) (hu : un + 16 < cLine) (hsz : vs.length ≤ 1000)
    (hc : clean true v = true) (hml : ∀ p ∈ more, p.1 ≠ l) (hxl : x ≠ l) (hdl : dx ≠ l)
    (ret : ∀ T nn' tk tv h' tk', (∀ p ∈ more, p.1 ≠ T) → Fr h₀ L h' m → News h₀ L h' ((x, instObj 184 dx) :: (dx, hdrDict dh dk l dn) :: (l, listOf (vs ++ [Value.ref T]).toArray nn') :: (T, pairObj v (Str.ofString "done") tk tv 0) :: more) → Q .none { s with heap := h', toks := tk' }) :
    wpAny (MM w) (ktrTop dp un gd cn cs L a ccd cl outer) (call (.ref 181) [.ref x, .str v t, .str (Str.ofString "done") t'] []) Q E s := by
  walk_at "ENTERM"
  intro D o g L' h₁ tk₁ l1 lo hs fs FG F' N' B' X' T'
  replace F' : Fr g L' h₁ (fun y => List.lookup y [("_params", .ref D), ("_value", .str (Str.ofString "done") t'), ("_name", .str v t), ("self", .ref x)]) := F'
  replace l1 := allLt_of l1
  simp only [AllLt] at l1
  have hMk := kstMark
  refine noRaise ?_
  try dsimp only
  walk_at "STEPSK"
  rename News _ _ _ _ => N₂
  have N₃ := news_drop3 N₂
  rw [show Txt.join (Str.ofString "; ") [Str.ofString "done"] = Str.ofString "done" from by decide +kernel] at N₃
  clear N₂
  try dsimp only
  walk_at "STEPS"
  rename (_ < _ ∧ _ < _ ∧ _ < _ ∧ _ < _ ∧ _ < _ ∧ _ < _ ∧ AllLt _ more) => l9
  rename News _ _ _ _ => N₅
  rw [List.push_toArray] at N₅
  exact ret _ _ _ _ _ _ (fun p hp => Nat.ne_of_lt (kst_ltOf l9.2.2.2.2.2.2 p hp)) (by k_asm) (news_rot3 N₅)
end Mine

theorem Mine.say_j_14 : True := by
  k_with "compareOp Lt ref" => (k_here; (with_reducible show wpAny _ _ (compareOp CmpOp.Lt (Value.ref _) (Value.ref _)) _ _ _); k_dflt (refine' Mine.trip_lt ?yk1_14 ?yk2_14 ?yk3_14 ?_; (case yk1_14 => exact News.get (by k_asm) (by k_memK)); (case yk2_14 => exact News.get (by k_asm) (by k_memK)); (case yk3_14 => ktr_units); k_whole))
  trivial
theorem Mine.say_j_15 : True := by
  k_with "call builtin:len" => (k_here; (with_reducible show wpAny _ _ (call (Value.builtin "len") [Value.ref _]) _ _ _); k_dflt (refine' kst_len ?yk1_15 ?yk2_15 rfl ?yk4_15 ?_; (case yk1_15 => k_asm); (case yk2_15 => k_memK); (case yk4_15 => omega); k_whole))
  trivial
theorem Mine.say_j_16 : True := by
  k_with "ENTERK" => (refine Mine.noRaise ?_; refine wpAny_call ?_; k_dflt (refine' code_def ?yk1_16 ?yk2_16 ?yk3_16 ?yk4_16 ?yk5_16 ?ykA_16 ?ykF_16 ?ykK_16 ?yk6_16 ?yk7_16 ?yk8_16 ?yk9_16 ?ykB_16 ?_ ?yc2_16 ?yc3_16 ?yc4_16 ?yc5_16; (case ykA_16 => exact rfl); (case ykF_16 => exact rfl); (case ykK_16 => assumption); (case yk1_16 => k_asm); (case yk2_16 => k_asm); (case yk3_16 => k_asm); (case yk4_16 => k_asm); (case yk5_16 => k_asm); (case yk6_16 => k_is); (case yk7_16 => k_is); (case yk8_16 => ktr_room); (case yk9_16 => (refine' kp_binds ?ykx_16 ?yke_16; (case ykx_16 => k_in); (case yke_16 => exact fun _ => rfl))); (case yc5_16 => decide); (case ykB_16 => exact locs rfl); (case yc2_16 => exact rfl); (case yc3_16 => exact rfl); (case yc4_16 => exact rfl); k_whole))
  trivial
theorem Mine.say_j_17 : True := by
  k_with "WHILE" => (dsimp only [WhileStep2])
  trivial
namespace Mine
/-- a list's values are triples of ints, borne by the ledger -/
inductive Trips (led : Led) : List Value → List Trip → Prop
  | nil : Trips led [] []
  | cons {a : Addr} {x : Trip} {t1 t2 t3 : Tok} {n : Nat} {vs : List Value} {bs : List Trip} : (a, tripObj x t1 t2 t3 n) ∈ led → Trips led vs bs → Trips led (.ref a :: vs) (x :: bs)
theorem Trips.length {led : Led} {vs : List Value} {bs : List Trip} (h : Trips led vs bs) : vs.length = bs.length := by
  induction h with
  | nil => rfl
  | cons _ _ ih => simp [ih]
theorem Trips.mono {led led' : Led} {vs : List Value} {bs : List Trip} (h : Trips led vs bs) (hs : ∀ p ∈ led, p ∈ led') : Trips led' vs bs := by
  induction h with
  | nil => exact .nil
  | cons m _ ih => exact .cons (hs _ m) ih
theorem Trips.get {led : Led} {vs : List Value} {bs : List Trip} (h : Trips led vs bs) : ∀ {i : Nat} {x : Trip}, bs[i]? = some x → ∃ a t1 t2 t3 n, vs[i]? = some (.ref a) ∧ (a, tripObj x t1 t2 t3 n) ∈ led := by
  induction h with
  | nil => intro i u e; simp at e
  | @cons a x t1 t2 t3 n vs bs m _ ih =>
    intro i u e
    cases i with
    | zero => simp at e; subst e; exact ⟨a, t1, t2, t3, n, by simp, m⟩
    | succ i => simp at e; simpa using ih e
theorem bis_c {w : World} {mean : ExcName → Option Value} {mg mb : Str → Option Value} {dp un : Nat} {gd : Option (List Code)} {cn : Str} {cs : Scope} {a : Addr} {ccd : Value} {cl : List (Str × Addr)} {outer : List Env} {A₀ : Around} {base h₀ : Heap} {L : Addr} {m : Str → Option Value} {s : Shared} {Q E : Value → Shared → Prop} {l tx : Addr} {nn n0 : Nat} {vs : List Value} {bs : List Trip} {x : Trip} {more : Led} {t1 t2 t3 t0 : Tok} (B : Below A₀ base outer h₀) (F : Fr h₀ L s.heap m) (X : (Mine.hd.heap_39 w.params).In h₀) (T : Top PP LL mean mg mb h₀) (hk : cs.kind = .function)
    (N : News h₀ L s.heap ((l, listOf vs.toArray nn) :: (tx, tripObj x t1 t2 t3 n0) :: more)) (hp : Trips more vs bs) (hso : Rowed bs) (hd : dp + 2 < recursionLimit) (hu : un + 16 < cLine) (hsz : vs.length ≤ 1000)
    (ret : ∀ (p : Nat) tp h' tk', p ≤ vs.length → (∀ y ∈ bs.take p, tlt x y = false) → (∀ y ∈ bs.drop p, tlt x y = true) → Fr h₀ L h' m → News h₀ L h' ((l, listOf vs.toArray nn) :: (tx, tripObj x t1 t2 t3 n0) :: more) → Q (.int (p : Int) tp) { s with heap := h', toks := tk' }) :
    wpAny (MM w) (ktrTop dp un gd cn cs L a ccd cl outer) (call (.ref 206) [.ref l, .ref tx, .int 0 t0, .none] []) Q E s := by
  walk_at "ENTERK"
  intro g L' h₁ FG F' N' B' X' T'
  replace F' : Fr g L' h₁ (fun y => List.lookup y [("key", .none), ("hi", .none), ("lo", .int 0 t0), ("x", .ref tx), ("a", .ref l)]) := F'
  refine noRaise ?_
  try dsimp only
  have hL := hp.length
  walk_at "STEPS"
  try dsimp only
  rename News _ _ _ _ => N₂
  rename Fr _ _ _ _ => F₂
  refine While_inv2 (n₀ := vs.length) (fun n m nx => nx = (l, listOf vs.toArray nn) :: (tx, tripObj x t1 t2 t3 n0) :: more ∧ ∃ (lo hi : Nat), m "key" = some .none ∧ m "x" = some (.ref tx) ∧ m "a" = some (.ref l) ∧ HasI m "lo" (lo : Int) ∧ HasI m "hi" (hi : Int) ∧ lo ≤ hi ∧ hi ≤ vs.length ∧ n = hi - lo ∧
    (∀ y ∈ bs.take lo, tlt x y = false) ∧ (∀ y ∈ bs.drop hi, tlt x y = true)) F₂ N₂ ?_ ?_ nah_passes
  · exact ⟨rfl, 0, vs.length, rfl, rfl, rfl, ⟨_, rfl⟩, ⟨_, rfl⟩, Nat.zero_le _, Nat.le_refl _, rfl, by simp, by rw [hL]; simp⟩
  · clear F₂ N₂
    rintro n m₁ nx h tk F₃ N₃ ⟨rfl, lo, hi, e1, e2, e3, ⟨tl, e4⟩, ⟨th, e5⟩, h1, h2, rfl, h4, h5⟩
    have F₄ := fr_knows [("key", .none), ("x", .ref tx), ("a", .ref l), ("lo", .int (lo : Int) tl), ("hi", .int (hi : Int) th)] F₃ (by simp [e1, e2, e3, e4, e5])
    clear F₃
    walk_at "STEPS"
    · rename (lo : Int) < (hi : Int) => hlt
      rename News _ _ _ _ => N₅
      have hmid : ((lo : Int) + (hi : Int)).fdiv 2 = (((lo + hi) / 2 : Nat) : Int) := by
        rw [Int.fdiv_eq_ediv_of_nonneg _ (by decide)]; omega
      have hml : (lo + hi) / 2 < bs.length := by omega
      obtain ⟨ay, u1, u2, u3, un', hv, hmem⟩ := hp.get (x := bs[(lo + hi) / 2]) (List.getElem?_eq_getElem hml)
      have N₆ := news_sub (l' := (ay, tripObj bs[(lo + hi) / 2] u1 u2 u3 un') :: (l, listOf vs.toArray nn) :: (tx, tripObj x t1 t2 t3 n0) :: more) N₅ (by
        intro p hp
        rcases List.mem_cons.mp hp with rfl | hp
        · exact .tail _ (.tail _ hmem)
        · exact hp)
      clear N₅
      have hx9 : vs[((((lo + hi) / 2 : Nat) : Int)).toNat]? = some (.ref ay) := by rw [Int.toNat_natCast]; exact hv
      refine sub_led (v := .ref ay) N₆ (List.Mem.tail _ (.head _)) (by rw [hmid]; omega) (by rw [hmid]; omega) (by rw [hmid]; exact hx9) ?_ (by with_unfolding_all rfl)
      walk_at "STEPS"
      · rename tlt _ _ = true => hc
        rename News _ _ _ _ => N₇
        rename Fr _ _ _ _ => F₇
        exact ⟨_, _, _, _, (lo + hi) / 2 - lo, rfl, F₇, news_sub N₇ (fun p hp => .tail _ hp), by omega, rfl, lo, (lo + hi) / 2, rfl, rfl, rfl, ⟨tl, rfl⟩, HasI.of hmid rfl, by omega, by omega, rfl, h4, tlt_drop hso hml hc⟩
      · rename tlt _ _ = false => hc
        rename News _ _ _ _ => N₇
        rename Fr _ _ _ _ => F₇
        exact ⟨_, _, _, _, hi - ((lo + hi) / 2 + 1), rfl, F₇, news_sub N₇ (fun p hp => .tail _ hp), by omega, rfl, (lo + hi) / 2 + 1, hi, rfl, rfl, rfl, HasI.of (by rw [hmid]; rfl) rfl, ⟨th, rfl⟩, by omega, by omega, rfl, tlt_take hso hml hc, h5⟩
    · have hlh : lo = hi := by omega
      exact ret lo tl _ _ (by omega) h4 (by rw [hlh]; exact h5) (by k_asm) (by k_asm)
end Mine

theorem Mine.say_j_18 : True := by
  k_with "call builtin:list.insert" => (k_here; (with_reducible show wpAny _ _ (call (Value.builtin "list.insert") [Value.ref _, Value.int _ _, _]) _ _ _); k_dflt (refine' Mine.insert_led ?yk1_18 ?yk2_18 ?yk3_18 ?yk4_18 ?yk5_18 ?_; (case yk1_18 => k_asm); (case yk2_18 => k_asm); (case yk3_18 => assumption); (case yk4_18 => omega); (case yk5_18 => assumption); k_whole); intro h' nn' F' N')
  trivial
theorem Mine.say_j_19 : True := by
  k_with "call ref" => (k_here; (with_reducible show wpAny _ _ (call (Value.ref 206) _ _) _ _ _); k_dflt (refine' Mine.bis_c ?yk1_19 ?yk2_19 ?yk3_19 ?yk4_19 ?yk5_19 ?yk6_19 ?yk7_19 ?ykS_19 ?yk8_19 ?yk9_19 ?ykZ_19 ?_; (case yk1_19 => k_asm); (case yk2_19 => k_asm); (case yk3_19 => k_asm); (case yk4_19 => k_asm); (case yk5_19 => first | exact rfl | assumption); (case yk6_19 => k_asm); (case yk7_19 => assumption); (case ykS_19 => assumption); (case yk8_19 => ktr_room); (case yk9_19 => ktr_units); (case ykZ_19 => assumption); k_whole); intro p' tp' h' tk' hp1' hp2' hp3' F' N')
  trivial
namespace Mine
/-- a triple laid into a row -/
def insR (x : Trip) : List Trip → List Trip
  | [] => [x]
  | y :: r => if tlt x y = true then x :: y :: r else y :: insR x r
theorem insR_at {x : Trip} : ∀ {bs : List Trip} {p : Nat}, p ≤ bs.length → (∀ y ∈ bs.take p, tlt x y = false) → (∀ y ∈ bs.drop p, tlt x y = true) → insR x bs = bs.take p ++ x :: bs.drop p
  | [], p, h, _, _ => by have : p = 0 := by simpa using h
                         subst this; rfl
  | y :: r, 0, _, _, h2 => by
    have := h2 y (by simp)
    simp [insR, this]
  | y :: r, p + 1, h, h1, h2 => by
    have h3 := h1 y (by simp)
    have ih := insR_at (x := x) (bs := r) (p := p) (by simpa using h) (fun z hz => h1 z (by simp [hz])) (fun z hz => h2 z (by simpa using hz))
    simp [insR, h3, ih]
theorem Trips.ins {led led' : Led} {vs : List Value} {bs : List Trip} {tx : Addr} {x : Trip} {t1 t2 t3 : Tok} {n : Nat} (h : Trips led vs bs) (hs : ∀ p ∈ led, p ∈ led') (hx : (tx, tripObj x t1 t2 t3 n) ∈ led') : ∀ p : Nat, Trips led' (vs.take p ++ .ref tx :: vs.drop p) (bs.take p ++ x :: bs.drop p) := by
  have h' := h.mono hs
  clear h
  induction h' with
  | nil => intro p; simpa using Trips.cons hx Trips.nil
  | @cons a y u1 u2 u3 k vs bs m r ih =>
    intro p
    cases p with
    | zero => exact .cons hx (.cons m r)
    | succ p => exact .cons m (ih p)
theorem ins_c {w : World} {mean : ExcName → Option Value} {mg mb : Str → Option Value} {dp un : Nat} {gd : Option (List Code)} {cn : Str} {cs : Scope} {a : Addr} {ccd : Value} {cl : List (Str × Addr)} {outer : List Env} {A₀ : Around} {base h₀ : Heap} {L : Addr} {m : Str → Option Value} {s : Shared} {Q E : Value → Shared → Prop} {l tx : Addr} {nn n0 : Nat} {vs : List Value} {bs : List Trip} {x : Trip} {more : Led} {t1 t2 t3 : Tok} (B : Below A₀ base outer h₀) (F : Fr h₀ L s.heap m) (X : (Mine.hd.heap_39 w.params).In h₀) (T : Top PP LL mean mg mb h₀) (hk : cs.kind = .function)
    (N : News h₀ L s.heap ((l, listOf vs.toArray nn) :: (tx, tripObj x t1 t2 t3 n0) :: more)) (hp : Trips more vs bs) (hso : Rowed bs) (hd : dp + 4 < recursionLimit) (hu : un + 32 < cLine) (hsz : vs.length ≤ 1000) (hml : ∀ p ∈ more, p.1 ≠ l) (htl : tx ≠ l)
    (ret : ∀ vs' nn' h' tk', Trips ((tx, tripObj x t1 t2 t3 n0) :: more) vs' (insR x bs) → Fr h₀ L h' m → News h₀ L h' ((l, listOf vs'.toArray nn') :: (tx, tripObj x t1 t2 t3 n0) :: more) → Q .none { s with heap := h', toks := tk' }) :
    wpAny (MM w) (ktrTop dp un gd cn cs L a ccd cl outer) (call (.ref 197) [.ref l, .ref tx] []) Q E s := by
  walk_at "ENTERK"
  intro g L' h₁ FG F' N' B' X' T'
  replace F' : Fr g L' h₁ (fun y => List.lookup y [("key", .none), ("hi", .none), ("lo", .int 0 556), ("x", .ref tx), ("a", .ref l)]) := F'
  refine noRaise ?_
  try dsimp only
  have hL := hp.length
  have hoffl : ∀ p ∈ (tx, tripObj x t1 t2 t3 n0) :: more, p.1 ≠ l := fun p hp => by
    rcases List.mem_cons.mp hp with rfl | hp
    · exact htl
    · exact hml p hp
  walk_at "STEPS"
  rename _ ≤ vs.length => hp1
  rename (∀ y ∈ bs.take _, _) => hp2
  rename (∀ y ∈ bs.drop _, _) => hp3
  refine ret _ _ _ _ ?_ (by k_asm) (by k_asm)
  rw [insR_at (by rw [← hL]; exact hp1) hp2 hp3]
  exact hp.ins (fun q hq => .tail _ hq) (.head _) _
end Mine

theorem Mine.say_j_20 : True := by
  k_with "ENTERN" => (k_dflt (refine' code_def ?yk1_20 ?yk2_20 ?yk3_20 ?yk4_20 ?yk5_20 ?ykA_20 ?ykF_20 ?ykK_20 ?yk6_20 ?yk7_20 ?yk8_20 ?yk9_20 ?ykB_20 ?_ ?yc2_20 ?yc3_20 ?yc4_20 ?yc5_20; (case ykA_20 => exact rfl); (case ykF_20 => exact rfl); (case ykK_20 => assumption); (case yk1_20 => k_asm); (case yk2_20 => k_asm); (case yk3_20 => k_asm); (case yk4_20 => k_asm); (case yk5_20 => k_asm); (case yk6_20 => k_is); (case yk7_20 => k_is); (case yk8_20 => ktr_room); (case yk9_20 => first | exact BindsTo.of_eq rfl | exact binds_K (by k_in) rfl (by k_is) rfl rfl rfl); (case yc5_20 => decide); (case ykB_20 => exact locs rfl); (case yc2_20 => exact rfl); (case yc3_20 => exact rfl); (case yc4_20 => exact rfl); k_whole))
  trivial
namespace Mine
theorem news_rot2 {h₀ h : Heap} {L : Addr} {a b c : Addr × Obj} {r : Led} (N : News h₀ L h (a :: b :: c :: r)) : News h₀ L h (b :: c :: a :: r) := news_sub N fun p hp => by
  simp only [List.mem_cons] at hp ⊢
  grind
section
variable {prog : Program} {w : World} {A : Around} {s : Shared} {h₀ : Heap} {L : Addr} {env : Env}
theorem for_nil {target : Expr} {body : List Stmt} {l : Addr} {nn : Nat} {m₀ : Str → Option Value} {nx₀ : Led} {Q : Flow → Shared → Prop}
    (hh : A.handled = none) (hL : env.locals = L) (F : Fr h₀ L s.heap m₀) (N : News h₀ L s.heap nx₀) (hm : (l, listOf #[] nn) ∈ nx₀)
    (done : ∀ h tk, Fr h₀ L h m₀ → News h₀ L h nx₀ → Q .next { s with heap := h, toks := tk }) :
    wpAny (model prog w) A (pyIter (.ref l)) (fun it s₂ => codeAny (model prog w) A (.forLoop target it body [] env) (fun r s' => match r with | .ok f => Q f s' | .error e => cameBackBy (model prog w) A env nah e s') s₂) nah s :=
  for_list (vs := []) (nn := nn) (fun _ m nx => m = m₀ ∧ nx = nx₀) hh hL F N (fun _ _ _ h => h.2 ▸ hm) ⟨rfl, rfl⟩ (fun i v _ _ _ _ _ _ e => by simp at e) fun m nx h tk ⟨a, b⟩ F' N' => by subst a; subst b; exact done h tk F' N'
end
theorem new_c {w : World} {mean : ExcName → Option Value} {mg mb : Str → Option Value} {dp un : Nat} {gd : Option (List Code)} {cn : Str} {cs : Scope} {a : Addr} {ccd : Value} {cl : List (Str × Addr)} {outer : List Env} {A₀ : Around} {base h₀ : Heap} {L : Addr} {m : Str → Option Value} {s : Shared} {Q E : Value → Shared → Prop} {more : Led} (B : Below A₀ base outer h₀) (F : Fr h₀ L s.heap m) (X : (Mine.hd.heap_39 w.params).In h₀) (T : Top PP LL mean mg mb h₀) (hk : cs.kind = .function)
    (N : News h₀ L s.heap more) (hd : dp + 3 < recursionLimit) (hu : un + 16 < cLine)
    (ret : ∀ x dx l dh dk dn h' tk', AllLt dx more → (dx : Nat) < x → (x : Nat) < l → Fr h₀ L h' m → News h₀ L h' ((x, instObj 184 dx) :: (dx, hdrDict dh dk l dn) :: (l, listOf #[] 0) :: more) → Q (.ref x) { s with heap := h', toks := tk' }) :
    wpAny (MM w) (ktrTop dp un gd cn cs L a ccd cl outer) (call (.ref 184) [] []) Q E s := by
  refine noRaise ?_
  have hMk := kstMark
  refine' call_cls ?k1 ?k2 ?k3 ?k4 ?k5 ?k6 ?_
  case k1 => k_asm
  case k2 => k_asm
  case k3 => k_asm
  case k4 => k_is
  case k5 => k_is
  case k6 => k_is
  intro x dx h₂ F₂ N₂ l1 l2
  have hml : ∀ p ∈ more, p.1 ≠ dx := fun p hp => Nat.ne_of_lt (l1 p hp)
  have hxd : x ≠ dx := Nat.ne_of_gt l2
  have l0 := allLt_of l1
  replace l1 := allLt_of l1
  have hroom : dp + 1 + 1 < recursionLimit := by omega
  walk_at "ENTERN"
  intro g L' h₁ FG F' N' B' X' T'
  replace F' : Fr g L' h₁ (fun y => List.lookup y [("headers", .none), ("self", .ref x)]) := F'
  refine noRaise ?_
  try dsimp only
  walk_at "STEPS"
  walk_at "FOR"
  walk_at "STEPS"
  try dsimp only
  rename News _ _ _ _ => N₃
  rename Fr _ _ _ _ => F₃
  refine' for_nil (L := L') ?a ?b ?c ?d ?e ?_
  case a => exact rfl
  case b => exact rfl
  case c => exact F₃
  case d => exact N₃
  case e => exact .head _
  intro h₄ tk₄ F₄ N₄
  clear F₃ N₃
  walk_at "STEPS"
  rename News _ _ _ _ => N₅
  rename Fr _ _ _ _ => F₅
  rename (_ < _ ∧ _ < _ ∧ AllLt _ more) => l3
  exact ret _ _ _ _ _ _ _ _ l0 l2 l3.1 F₅ (news_rot2 N₅)
end Mine

namespace Mine
section
variable {M : Model} {A : Around} {E : Value → Shared → Prop} {s : Shared} {K : Frag} {x C L f : Addr} {h₀ : Heap} {m : Str → Option Value} {ox : Obj} {od : Option Obj} {i : Value}
/-- del o[i] of an object of an own class -/
theorem del_own {Q : Unit → Shared → Prop} (F : Fr h₀ L s.heap m) (X₀ : K.In h₀) (I : InstAt s.heap x ox C od) (hq : noSeq K C = true) (hs : findIn K (.ref C) "__delitem__" = some (some (.ref f))) (hf : isFn K (.ref f) = true)
    (h : wpAny M A (call (.ref f) [.ref x, i]) (fun _ s' => Q () s') E s) : wpAny M A (delItem (.ref x) i) Q E s := by
  have X := X₀.keeps F.keep
  unfold delItem
  refine wpAny_holding (wpAny_bind ?_)
  unfold sequenceKey
  refine wpAny_bind (I.type.here ?_)
  refine wpAny_bind ((anyM_none X hq).here ?_)
  rw [if_pos (show (!false) = true from rfl)]
  refine wpAny_pure ?_
  exact wpAny_bind (special_fn X I hs (beq_iff_eq.mp hf) (wpAny_mono h (fun _ _ z => wpAny_pure z) fun _ _ z => z))
end
end Mine
theorem Mine.say_j_21 : True := by
  k_with "delItem ref" => (k_here; (with_reducible show wpAny _ _ (delItem (Value.ref _) _) _ _ _); k_dflt (refine' Mine.del_own ?yF_21 ?yX_21 ?yI_21 ?yhQ_21 ?yhS_21 ?yhF_21 ?_; (case yF_21 => k_asm); (case yX_21 => k_asm); (case yI_21 => k_inst); (case yhS_21 => k_is); (case yhF_21 => k_is); (case yhQ_21 => k_is); k_whole))
  trivial
namespace Mine
theorem del_z {w : World} {mean : ExcName → Option Value} {mg mb : Str → Option Value} {dp un : Nat} {gd : Option (List Code)} {cn : Str} {cs : Scope} {a : Addr} {ccd : Value} {cl : List (Str × Addr)} {outer : List Env} {A₀ : Around} {base h₀ : Heap} {L : Addr} {m : Str → Option Value} {s : Shared} {Q E : Value → Shared → Prop} {x dx l : Addr} {dh : Int} {dk : Tok} {dn nn : Nat} {vs : List Value} {hs : List (Str × Str)} {more : Led} {v : Str} {t : Tok} (B : Below A₀ base outer h₀) (F : Fr h₀ L s.heap m) (X : (Mine.hd.heap_39 w.params).In h₀) (T : Top PP LL mean mg mb h₀) (hk : cs.kind = .function)
    (N : News h₀ L s.heap ((x, instObj 184 dx) :: (dx, hdrDict dh dk l dn) :: (l, listOf vs.toArray nn) :: more)) (hp : Pairs more vs hs) (hd : dp + 2 < recursionLimit) (hu : un + 16 < cLine) (hsz : vs.length ≤ 900)
    (hv : v.length ≤ 5592405) (hc : clean true (Txt.lower v) = true) (hsh : ∀ p ∈ hs, p.1.length ≤ 5592405) (hml : ∀ p ∈ more, p.1 ≠ l)
    (ret : ∀ vs' nn' h' tk', vs'.length ≤ 900 → Pairs more vs' (hs.filter fun p => !(Txt.lower p.1 == Txt.lower v)) → Fr h₀ L h' m → News h₀ L h' ((x, instObj 184 dx) :: (dx, hdrDict dh dk l dn) :: (l, listOf vs'.toArray nn') :: more) → Q .none { s with heap := h', toks := tk' }) :
    wpAny (MM w) (ktrTop dp un gd cn cs L a ccd cl outer) (call (.ref 102) [.ref x, .str v t] []) Q E s :=
  del_c B F X T hk N hp hd hu (Nat.le_trans hsz (by decide)) hv hc hsh hml fun vs' nn' h' tk' hp' F' N' => ret vs' nn' h' tk' (by
    have e1 := hp.length
    have e2 := hp'.length
    have e3 := List.length_filter_le (fun p : Str × Str => !(Txt.lower p.1 == Txt.lower v)) hs
    omega) hp' F' N'
end Mine
theorem Mine.say_j_22 : True := by
  k_with "call ref" => (k_here; (with_reducible show wpAny _ _ (call (Value.ref 102) _ _) _ _ _); k_dflt (refine' Mine.del_z ?yk1_22 ?yk2_22 ?yk3_22 ?yk4_22 ?yk5_22 ?yk6_22 ?yk7_22 ?yk8_22 ?yk9_22 ?ykZ_22 ?ykV_22 ?ykC_22 ?ykS_22 ?ykM_22 ?_; (case yk1_22 => k_asm); (case yk2_22 => k_asm); (case yk3_22 => k_asm); (case yk4_22 => k_asm); (case yk5_22 => first | exact rfl | assumption); (case yk6_22 => k_asm); (case yk7_22 => assumption); (case yk8_22 => ktr_room); (case yk9_22 => ktr_units); (case ykZ_22 => assumption); (case ykV_22 => first | assumption | decide +kernel); (case ykC_22 => first | assumption | decide +kernel); (case ykS_22 => assumption); (case ykM_22 => assumption); k_whole); intro vs' nn' h' tk' hz' hp' F' N')
  trivial
namespace Mine
theorem sit_c {w : World} {mean : ExcName → Option Value} {mg mb : Str → Option Value} {dp un : Nat} {gd : Option (List Code)} {cn : Str} {cs : Scope} {a : Addr} {ccd : Value} {cl : List (Str × Addr)} {outer : List Env} {A₀ : Around} {base h₀ : Heap} {L : Addr} {m : Str → Option Value} {s : Shared} {Q E : Value → Shared → Prop} {x dx l : Addr} {dh : Int} {dk : Tok} {dn nn : Nat} {vs : List Value} {hs : List (Str × Str)} {more : Led} {v u : Str} {t t' : Tok} (B : Below A₀ base outer h₀) (F : Fr h₀ L s.heap m) (X : (Mine.hd.heap_39 w.params).In h₀) (T : Top PP LL mean mg mb h₀) (hk : cs.kind = .function)
    (N : News h₀ L s.heap ((x, instObj 184 dx) :: (dx, hdrDict dh dk l dn) :: (l, listOf vs.toArray nn) :: more)) (hp : Pairs more vs hs) (hd : dp + 3 < recursionLimit) (hu : un + 24 < cLine) (hsz : vs.length ≤ 900)
    (hv : v.length ≤ 5592405) (hcl : clean true (Txt.lower v) = true) (hc : clean true v = true) (hcu : clean false u = true) (hsh : ∀ p ∈ hs, p.1.length ≤ 5592405) (hml : ∀ p ∈ more, p.1 ≠ l) (hxl : x ≠ l) (hdl : dx ≠ l)
    (ret : ∀ vs' T nn' tk tv h' tk', (∀ p ∈ more, p.1 ≠ T) → T ≠ l → Pairs ((T, pairObj v u tk tv 0) :: more) vs' ((hs.filter fun p => !(Txt.lower p.1 == Txt.lower v)) ++ [(v, u)]) → Fr h₀ L h' m →
      News h₀ L h' ((x, instObj 184 dx) :: (dx, hdrDict dh dk l dn) :: (l, listOf vs'.toArray nn') :: (T, pairObj v u tk tv 0) :: more) → Q .none { s with heap := h', toks := tk' }) :
    wpAny (MM w) (ktrTop dp un gd cn cs L a ccd cl outer) (call (.ref 97) [.ref x, .str v t, .str u t'] []) Q E s := by
  walk_at "ENTER"
  intro g L' h₁ FG F' N' B' X' T'
  replace F' : Fr g L' h₁ (fun y => List.lookup y [("val", .str u t'), ("name", .str v t), ("self", .ref x)]) := F'
  have hMk := kstMark
  refine noRaise ?_
  try dsimp only
  walk_at "STEPS"
  rename News _ _ _ _ => N₂
  rename Pairs more _ _ => hp₂
  rename (_ < _ ∧ _ < _ ∧ _ < _ ∧ AllLt _ more) => l9
  rw [List.push_toArray] at N₂
  exact ret _ _ _ _ _ _ _ (fun p hp => Nat.ne_of_lt (kst_ltOf l9.2.2.2 p hp)) (Nat.ne_of_gt l9.2.2.1) ((hp₂.mono fun p hp => .tail _ hp).snoc (.head _)) (by k_asm) (news_rot3 N₂)
end Mine

namespace Mine
/-- no entry of the ledger stands at this address -/
abbrev Off (l : Addr) (led : Led) : Prop := ∀ p ∈ led, p.1 ≠ l
theorem off_cons {l a : Addr} {o : Obj} {led : Led} (h : a ≠ l) (H : Off l led) : Off l ((a, o) :: led) := fun p hp => by
  rcases List.mem_cons.mp hp with rfl | hp
  · exact h
  · exact H p hp
/-- a line, its bells and its hours, as the ledger bears them; `rest` is what else it bears -/
structure Held (x dx l bl hl : Addr) (hs : List (Str × Str)) (bs : List Trip) (ns : List Int) (rest led : Led) : Prop where
  mk ::
  out : ∃ (dh : Int) (dk : Tok) (dn : Nat) (vs : List Value) (nn : Nat) (bvs : List Value) (nb : Nat) (hvs : List Value) (nh : Nat) (more : Led),
    led = (x, instObj 184 dx) :: (dx, hdrDict dh dk l dn) :: (l, listOf vs.toArray nn) :: (bl, listOf bvs.toArray nb) :: (hl, listOf hvs.toArray nh) :: more ∧
    Pairs more vs hs ∧ Trips more bvs bs ∧ IntsAre hvs ns ∧ (∀ p ∈ rest, p ∈ more) ∧ Off l more ∧ Off bl more ∧ Off hl more ∧
    ((@Ne Nat x l) ∧ (@Ne Nat dx l) ∧ (@Ne Nat bl l) ∧ (@Ne Nat hl l) ∧ (@Ne Nat x bl) ∧ (@Ne Nat dx bl) ∧ (@Ne Nat hl bl) ∧ (@Ne Nat x hl) ∧ (@Ne Nat dx hl))
theorem Held.intro {x dx l bl hl : Addr} {hs : List (Str × Str)} {bs : List Trip} {ns : List Int} {rest : Led} {dh : Int} {dk : Tok} {dn : Nat} {vs : List Value} {nn : Nat} {bvs : List Value} {nb : Nat} {hvs : List Value} {nh : Nat} {more : Led}
    (hp : Pairs more vs hs) (ht : Trips more bvs bs) (hi : IntsAre hvs ns) (hr : ∀ p ∈ rest, p ∈ more) (o1 : Off l more) (o2 : Off bl more) (o3 : Off hl more)
    (D : (@Ne Nat x l) ∧ (@Ne Nat dx l) ∧ (@Ne Nat bl l) ∧ (@Ne Nat hl l) ∧ (@Ne Nat x bl) ∧ (@Ne Nat dx bl) ∧ (@Ne Nat hl bl) ∧ (@Ne Nat x hl) ∧ (@Ne Nat dx hl)) :
    Held x dx l bl hl hs bs ns rest ((x, instObj 184 dx) :: (dx, hdrDict dh dk l dn) :: (l, listOf vs.toArray nn) :: (bl, listOf bvs.toArray nb) :: (hl, listOf hvs.toArray nh) :: more) :=
  ⟨_, _, _, _, _, _, _, _, _, _, rfl, hp, ht, hi, hr, o1, o2, o3, D⟩
theorem not_tup : Value.type "list" ≠ Value.type "tuple" := by decide
theorem not_tupD : Value.type "dict" ≠ Value.type "tuple" := by decide
theorem Pairs.tuples {led led' : Led} {vs : List Value} {hs : List (Str × Str)} (h : Pairs led vs hs) (hs' : ∀ p ∈ led, p.2.cls = Value.type "tuple" → p ∈ led') : Pairs led' vs hs := by
  induction h with
  | nil => exact .nil
  | cons m _ ih => exact .cons (hs' _ m rfl) ih
theorem Trips.tuples {led led' : Led} {vs : List Value} {bs : List Trip} (h : Trips led vs bs) (hs' : ∀ p ∈ led, p.2.cls = Value.type "tuple" → p ∈ led') : Trips led' vs bs := by
  induction h with
  | nil => exact .nil
  | cons m _ ih => exact .cons (hs' _ m rfl) ih
theorem perm_ins {h₀ h : Heap} {L : Addr} {t x d l tt b : Addr × Obj} {r : Led} (N : News h₀ L h (t :: x :: d :: l :: tt :: b :: r)) : News h₀ L h (b :: t :: x :: d :: l :: tt :: r) := news_sub N fun p hp => by
  simp only [List.mem_cons] at hp ⊢
  grind
theorem perm_out {h₀ h : Heap} {L : Addr} {t x d l tt b hh : Addr × Obj} {r : Led} (N : News h₀ L h (b :: t :: x :: d :: l :: tt :: hh :: r)) : News h₀ L h (x :: d :: l :: b :: hh :: tt :: t :: r) := news_sub N fun p hp => by
  simp only [List.mem_cons] at hp ⊢
  grind
end Mine

theorem Mine.say_j_23 : True := by
  k_with "OFFBL" => first | assumption | exact Ne.symm (by assumption) | exact Ne.symm ((by assumption : Mine.Off _ (_ :: _)) _ (.head _))
  trivial
theorem Mine.say_j_24 : True := by
  k_with "call ref" => (k_here; (with_reducible show wpAny _ _ (call (Value.ref 97) _ _) _ _ _); k_dflt (refine' Mine.sit_c ?yk1_24 ?yk2_24 ?yk3_24 ?yk4_24 ?yk5_24 ?yk6_24 ?yk7_24 ?yk8_24 ?yk9_24 ?ykZ_24 ?ykV_24 ?ykC_24 ?ykD_24 ?ykU_24 ?ykS_24 ?ykM_24 ?ykX_24 ?ykY_24 ?_; (case yk1_24 => k_asm); (case yk2_24 => k_asm); (case yk3_24 => k_asm); (case yk4_24 => k_asm); (case yk5_24 => first | exact rfl | assumption); (case yk6_24 => k_asm); (case yk7_24 => exact Mine.Pairs.mono (by assumption) (fun p hp => .tail _ (.tail _ hp))); (case yk8_24 => ktr_room); (case yk9_24 => ktr_units); (case ykZ_24 => assumption); (case ykV_24 => decide +kernel); (case ykC_24 => decide +kernel); (case ykD_24 => decide +kernel); (case ykU_24 => first | assumption | decide +kernel); (case ykS_24 => assumption); (case ykM_24 => exact Mine.off_cons (by assumption) (Mine.off_cons (by assumption) (by assumption))); (case ykX_24 => assumption); (case ykY_24 => assumption); k_whole); intro vs' T' nn' tk' tv' h' tk'' hT' hTl' hp' F' N')
  trivial
namespace Mine
abbrev num (k : Nat) : Str := Str.ofString (toString (k : Int))
theorem num_clean {k : Nat} (h : k < 3) : clean false (num k) = true := by
  have : k = 0 ∨ k = 1 ∨ k = 2 := by omega
  rcases this with rfl | rfl | rfl <;> decide +kernel
theorem tx_ne {x dx l T bl D : Addr} {P : Prop} (h : x < D ∧ dx < D ∧ l < D ∧ T < D ∧ bl < D ∧ P) : D ≠ bl := Nat.ne_of_gt h.2.2.2.2.1
theorem beg_0 {w : World} {mean : ExcName → Option Value} {mg mb : Str → Option Value} {dp un : Nat} {gd : Option (List Code)} {cn : Str} {cs : Scope} {a : Addr} {ccd : Value} {cl : List (Str × Addr)} {outer : List Env} {A₀ : Around} {base h₀ : Heap} {L : Addr} {m : Str → Option Value} {s : Shared} {Q E : Value → Shared → Prop} {x dx l bl hl : Addr} {hs : List (Str × Str)} {bs : List Trip} {ns : List Int} {rest led : Led} {ts : List UInt8} {h : Int} {th tt tw tb : Tok} {wk : Nat} (B : Below A₀ base outer h₀) (F : Fr h₀ L s.heap m) (X : (Mine.hd.heap_39 w.params).In h₀) (T : Top PP LL mean mg mb h₀) (hk : cs.kind = .function)
    (N : News h₀ L s.heap led) (H : Held x dx l bl hl hs bs ns rest led) (hd : dp + 5 < recursionLimit) (hu : un + 40 < cLine) (hsz : hs.length ≤ 800) (hbz : bs.length ≤ 800) (hnz : ns.length = 12) (hso : Rowed bs) (hsh : ∀ p ∈ hs, p.1.length ≤ 5592405) (hwk : wk < 3) (htz : ts.length = 9)
    (ret : ∀ led' h' tk', Held x dx l bl hl ((hs.filter fun p => !(Txt.lower p.1 == Str.ofString "a")) ++ [(Str.ofString "a", num wk)]) (insR (h + ((ts.getD (3 * wk + 0) 0).toNat : Int), 0, (wk : Int)) bs) (ns.set (4 * wk + 0) h) rest led' → Fr h₀ L h' m → News h₀ L h' led' → Q .none { s with heap := h', toks := tk' }) :
    wpAny (MM w) (ktrTop dp un gd cn cs L a ccd cl outer) (call (.ref 220) [.ref x, .ref bl, .ref hl, .bytes ts.toArray tt, .int h th, .int (wk : Int) tw, .int 0 tb] []) Q E s := by
  obtain ⟨dh, dk, dn, vs, nn, bvs, nb, hvs, nh, more, rfl, hp, ht, hi, hr, o1, o2, o3, d1, d2, d3, d4, d5, d6, d7, d8, d9⟩ := H
  have hvz : vs.length ≤ 900 := by have := hp.length; omega
  have hbvz : bvs.length ≤ 1000 := by have := ht.length; omega
  have hcu := num_clean hwk
  walk_at "ENTER"
  intro g L' h₁ FG F' N' B' X' T'
  replace F' : Fr g L' h₁ (fun y => List.lookup y [("bench", .int 0 tb), ("work", .int (wk : Int) tw), ("hour", .int h th), ("tape", .bytes ts.toArray tt), ("hours", .ref hl), ("bells", .ref bl), ("line", .ref x)]) := F'
  have hMk := kstMark
  refine noRaise ?_
  try dsimp only
  walk_at "STEPS"
  rename News g _ _ _ => N₂
  have e1 : (3 * (wk : Int) + 0).toNat = 3 * wk + 0 := by omega
  have e2 : (4 * (wk : Int) + 0).toNat = 4 * wk + 0 := by omega
  rename IntsAre (List.set _ _ _) _ => hi₂
  rename Pairs (_ :: _ :: _ :: more) _ _ => hp₂
  rename (_ < _ ∧ _ < _ ∧ _ < _ ∧ _ < _ ∧ _ < _ ∧ _ < _ ∧ AllLt _ more) => l9
  rename (∀ p ∈ _ :: _ :: more, p.1 ≠ _) => oT
  rename (@Ne Addr _ l) => hTl
  rw [e1, e2] at N₂
  rw [e2] at hi₂ hp₂ oT
  have hTb := oT _ (.head _)
  have hTh := oT _ (.tail _ (.head _))
  refine' ins_c (x := (h + ((ts.getD (3 * wk + 0) 0).toNat : Int), 0, (wk : Int))) ?k1 ?k2 ?k3 ?k4 ?k5 (perm_ins N₂) ?k7 hso ?k8 ?k9 hbvz ?kM ?kT ?_
  case k1 => k_asm
  case k2 => k_asm
  case k3 => k_asm
  case k4 => k_asm
  case k5 => exact rfl
  case k7 => exact ht.mono fun p hp => .tail _ (.tail _ (.tail _ (.tail _ (.tail _ hp))))
  case k8 => ktr_room
  case k9 => ktr_units
  case kM => exact off_cons d5 (off_cons d6 (off_cons (Ne.symm d3) (off_cons (Ne.symm hTb) (off_cons d7 o2))))
  case kT => exact Nat.ne_of_gt l9.2.2.2.2.1
  intro bvs' nb' h₃ tk₃ hb₃ F₃ N₃
  clear N₂
  have N₄ := perm_out N₃
  clear N₃
  walk_at "STEPS"
  rename News h₀ _ _ _ => N₅
  refine ret _ _ _ (Held.intro (hp₂.tuples ?_) (hb₃.tuples ?_) hi₂ (fun p hp => .tail _ (.tail _ (hr p hp))) (off_cons hTl (off_cons (Nat.ne_of_gt l9.2.2.1) o1)) (off_cons (Ne.symm hTb) (off_cons (Nat.ne_of_gt l9.2.2.2.2.1) o2)) (off_cons (Ne.symm hTh) (off_cons (Nat.ne_of_gt l9.2.2.2.2.2.1) o3)) ⟨d1, d2, d3, d4, d5, d6, d7, d8, d9⟩) (by k_asm) N₅
  · intro p hp hc
    simp only [List.mem_cons] at hp ⊢
    rcases hp with rfl | rfl | rfl | hp
    · exact .inl rfl
    · exact absurd hc not_tup
    · exact absurd hc not_tup
    · exact .inr (.inr hp)
  · intro p hp hc
    simp only [List.mem_cons] at hp ⊢
    rcases hp with rfl | rfl | rfl | rfl | rfl | rfl | hp
    · exact .inr (.inl rfl)
    · exact absurd hc (by intro e; cases e)
    · exact absurd hc not_tupD
    · exact absurd hc not_tup
    · exact .inl rfl
    · exact absurd hc not_tup
    · exact .inr (.inr hp)
theorem beg_1 {w : World} {mean : ExcName → Option Value} {mg mb : Str → Option Value} {dp un : Nat} {gd : Option (List Code)} {cn : Str} {cs : Scope} {a : Addr} {ccd : Value} {cl : List (Str × Addr)} {outer : List Env} {A₀ : Around} {base h₀ : Heap} {L : Addr} {m : Str → Option Value} {s : Shared} {Q E : Value → Shared → Prop} {x dx l bl hl : Addr} {hs : List (Str × Str)} {bs : List Trip} {ns : List Int} {rest led : Led} {ts : List UInt8} {h : Int} {th tt tw tb : Tok} {wk : Nat} (B : Below A₀ base outer h₀) (F : Fr h₀ L s.heap m) (X : (Mine.hd.heap_39 w.params).In h₀) (T : Top PP LL mean mg mb h₀) (hk : cs.kind = .function)
    (N : News h₀ L s.heap led) (H : Held x dx l bl hl hs bs ns rest led) (hd : dp + 5 < recursionLimit) (hu : un + 40 < cLine) (hsz : hs.length ≤ 800) (hbz : bs.length ≤ 800) (hnz : ns.length = 12) (hso : Rowed bs) (hsh : ∀ p ∈ hs, p.1.length ≤ 5592405) (hwk : wk < 3) (htz : ts.length = 9)
    (ret : ∀ led' h' tk', Held x dx l bl hl ((hs.filter fun p => !(Txt.lower p.1 == Str.ofString "b")) ++ [(Str.ofString "b", num wk)]) (insR (h + ((ts.getD (3 * wk + 1) 0).toNat : Int), 1, (wk : Int)) bs) (ns.set (4 * wk + 1) h) rest led' → Fr h₀ L h' m → News h₀ L h' led' → Q .none { s with heap := h', toks := tk' }) :
    wpAny (MM w) (ktrTop dp un gd cn cs L a ccd cl outer) (call (.ref 220) [.ref x, .ref bl, .ref hl, .bytes ts.toArray tt, .int h th, .int (wk : Int) tw, .int 1 tb] []) Q E s := by
  obtain ⟨dh, dk, dn, vs, nn, bvs, nb, hvs, nh, more, rfl, hp, ht, hi, hr, o1, o2, o3, d1, d2, d3, d4, d5, d6, d7, d8, d9⟩ := H
  have hvz : vs.length ≤ 900 := by have := hp.length; omega
  have hbvz : bvs.length ≤ 1000 := by have := ht.length; omega
  have hcu := num_clean hwk
  walk_at "ENTER"
  intro g L' h₁ FG F' N' B' X' T'
  replace F' : Fr g L' h₁ (fun y => List.lookup y [("bench", .int 1 tb), ("work", .int (wk : Int) tw), ("hour", .int h th), ("tape", .bytes ts.toArray tt), ("hours", .ref hl), ("bells", .ref bl), ("line", .ref x)]) := F'
  have hMk := kstMark
  refine noRaise ?_
  try dsimp only
  walk_at "STEPS"
  rename News g _ _ _ => N₂
  have e1 : (3 * (wk : Int) + 1).toNat = 3 * wk + 1 := by omega
  have e2 : (4 * (wk : Int) + 1).toNat = 4 * wk + 1 := by omega
  rename IntsAre (List.set _ _ _) _ => hi₂
  rename Pairs (_ :: _ :: _ :: more) _ _ => hp₂
  rename (_ < _ ∧ _ < _ ∧ _ < _ ∧ _ < _ ∧ _ < _ ∧ _ < _ ∧ AllLt _ more) => l9
  rename (∀ p ∈ _ :: _ :: more, p.1 ≠ _) => oT
  rename (@Ne Addr _ l) => hTl
  rw [e1, e2] at N₂
  rw [e2] at hi₂ hp₂ oT
  have hTb := oT _ (.head _)
  have hTh := oT _ (.tail _ (.head _))
  refine' ins_c (x := (h + ((ts.getD (3 * wk + 1) 0).toNat : Int), 1, (wk : Int))) ?k1 ?k2 ?k3 ?k4 ?k5 (perm_ins N₂) ?k7 hso ?k8 ?k9 hbvz ?kM ?kT ?_
  case k1 => k_asm
  case k2 => k_asm
  case k3 => k_asm
  case k4 => k_asm
  case k5 => exact rfl
  case k7 => exact ht.mono fun p hp => .tail _ (.tail _ (.tail _ (.tail _ (.tail _ hp))))
  case k8 => ktr_room
  case k9 => ktr_units
  case kM => exact off_cons d5 (off_cons d6 (off_cons (Ne.symm d3) (off_cons (Ne.symm hTb) (off_cons d7 o2))))
  case kT => exact Nat.ne_of_gt l9.2.2.2.2.1
  intro bvs' nb' h₃ tk₃ hb₃ F₃ N₃
  clear N₂
  have N₄ := perm_out N₃
  clear N₃
  walk_at "STEPS"
  rename News h₀ _ _ _ => N₅
  refine ret _ _ _ (Held.intro (hp₂.tuples ?_) (hb₃.tuples ?_) hi₂ (fun p hp => .tail _ (.tail _ (hr p hp))) (off_cons hTl (off_cons (Nat.ne_of_gt l9.2.2.1) o1)) (off_cons (Ne.symm hTb) (off_cons (Nat.ne_of_gt l9.2.2.2.2.1) o2)) (off_cons (Ne.symm hTh) (off_cons (Nat.ne_of_gt l9.2.2.2.2.2.1) o3)) ⟨d1, d2, d3, d4, d5, d6, d7, d8, d9⟩) (by k_asm) N₅
  · intro p hp hc
    simp only [List.mem_cons] at hp ⊢
    rcases hp with rfl | rfl | rfl | hp
    · exact .inl rfl
    · exact absurd hc not_tup
    · exact absurd hc not_tup
    · exact .inr (.inr hp)
  · intro p hp hc
    simp only [List.mem_cons] at hp ⊢
    rcases hp with rfl | rfl | rfl | rfl | rfl | rfl | hp
    · exact .inr (.inl rfl)
    · exact absurd hc (by intro e; cases e)
    · exact absurd hc not_tupD
    · exact absurd hc not_tup
    · exact .inl rfl
    · exact absurd hc not_tup
    · exact .inr (.inr hp)
theorem beg_2 {w : World} {mean : ExcName → Option Value} {mg mb : Str → Option Value} {dp un : Nat} {gd : Option (List Code)} {cn : Str} {cs : Scope} {a : Addr} {ccd : Value} {cl : List (Str × Addr)} {outer : List Env} {A₀ : Around} {base h₀ : Heap} {L : Addr} {m : Str → Option Value} {s : Shared} {Q E : Value → Shared → Prop} {x dx l bl hl : Addr} {hs : List (Str × Str)} {bs : List Trip} {ns : List Int} {rest led : Led} {ts : List UInt8} {h : Int} {th tt tw tb : Tok} {wk : Nat} (B : Below A₀ base outer h₀) (F : Fr h₀ L s.heap m) (X : (Mine.hd.heap_39 w.params).In h₀) (T : Top PP LL mean mg mb h₀) (hk : cs.kind = .function)
    (N : News h₀ L s.heap led) (H : Held x dx l bl hl hs bs ns rest led) (hd : dp + 5 < recursionLimit) (hu : un + 40 < cLine) (hsz : hs.length ≤ 800) (hbz : bs.length ≤ 800) (hnz : ns.length = 12) (hso : Rowed bs) (hsh : ∀ p ∈ hs, p.1.length ≤ 5592405) (hwk : wk < 3) (htz : ts.length = 9)
    (ret : ∀ led' h' tk', Held x dx l bl hl ((hs.filter fun p => !(Txt.lower p.1 == Str.ofString "c")) ++ [(Str.ofString "c", num wk)]) (insR (h + ((ts.getD (3 * wk + 2) 0).toNat : Int), 2, (wk : Int)) bs) (ns.set (4 * wk + 2) h) rest led' → Fr h₀ L h' m → News h₀ L h' led' → Q .none { s with heap := h', toks := tk' }) :
    wpAny (MM w) (ktrTop dp un gd cn cs L a ccd cl outer) (call (.ref 220) [.ref x, .ref bl, .ref hl, .bytes ts.toArray tt, .int h th, .int (wk : Int) tw, .int 2 tb] []) Q E s := by
  obtain ⟨dh, dk, dn, vs, nn, bvs, nb, hvs, nh, more, rfl, hp, ht, hi, hr, o1, o2, o3, d1, d2, d3, d4, d5, d6, d7, d8, d9⟩ := H
  have hvz : vs.length ≤ 900 := by have := hp.length; omega
  have hbvz : bvs.length ≤ 1000 := by have := ht.length; omega
  have hcu := num_clean hwk
  walk_at "ENTER"
  intro g L' h₁ FG F' N' B' X' T'
  replace F' : Fr g L' h₁ (fun y => List.lookup y [("bench", .int 2 tb), ("work", .int (wk : Int) tw), ("hour", .int h th), ("tape", .bytes ts.toArray tt), ("hours", .ref hl), ("bells", .ref bl), ("line", .ref x)]) := F'
  have hMk := kstMark
  refine noRaise ?_
  try dsimp only
  walk_at "STEPS"
  rename News g _ _ _ => N₂
  have e1 : (3 * (wk : Int) + 2).toNat = 3 * wk + 2 := by omega
  have e2 : (4 * (wk : Int) + 2).toNat = 4 * wk + 2 := by omega
  rename IntsAre (List.set _ _ _) _ => hi₂
  rename Pairs (_ :: _ :: _ :: more) _ _ => hp₂
  rename (_ < _ ∧ _ < _ ∧ _ < _ ∧ _ < _ ∧ _ < _ ∧ _ < _ ∧ AllLt _ more) => l9
  rename (∀ p ∈ _ :: _ :: more, p.1 ≠ _) => oT
  rename (@Ne Addr _ l) => hTl
  rw [e1, e2] at N₂
  rw [e2] at hi₂ hp₂ oT
  have hTb := oT _ (.head _)
  have hTh := oT _ (.tail _ (.head _))
  refine' ins_c (x := (h + ((ts.getD (3 * wk + 2) 0).toNat : Int), 2, (wk : Int))) ?k1 ?k2 ?k3 ?k4 ?k5 (perm_ins N₂) ?k7 hso ?k8 ?k9 hbvz ?kM ?kT ?_
  case k1 => k_asm
  case k2 => k_asm
  case k3 => k_asm
  case k4 => k_asm
  case k5 => exact rfl
  case k7 => exact ht.mono fun p hp => .tail _ (.tail _ (.tail _ (.tail _ (.tail _ hp))))
  case k8 => ktr_room
  case k9 => ktr_units
  case kM => exact off_cons d5 (off_cons d6 (off_cons (Ne.symm d3) (off_cons (Ne.symm hTb) (off_cons d7 o2))))
  case kT => exact Nat.ne_of_gt l9.2.2.2.2.1
  intro bvs' nb' h₃ tk₃ hb₃ F₃ N₃
  clear N₂
  have N₄ := perm_out N₃
  clear N₃
  walk_at "STEPS"
  rename News h₀ _ _ _ => N₅
  refine ret _ _ _ (Held.intro (hp₂.tuples ?_) (hb₃.tuples ?_) hi₂ (fun p hp => .tail _ (.tail _ (hr p hp))) (off_cons hTl (off_cons (Nat.ne_of_gt l9.2.2.1) o1)) (off_cons (Ne.symm hTb) (off_cons (Nat.ne_of_gt l9.2.2.2.2.1) o2)) (off_cons (Ne.symm hTh) (off_cons (Nat.ne_of_gt l9.2.2.2.2.2.1) o3)) ⟨d1, d2, d3, d4, d5, d6, d7, d8, d9⟩) (by k_asm) N₅
  · intro p hp hc
    simp only [List.mem_cons] at hp ⊢
    rcases hp with rfl | rfl | rfl | hp
    · exact .inl rfl
    · exact absurd hc not_tup
    · exact absurd hc not_tup
    · exact .inr (.inr hp)
  · intro p hp hc
    simp only [List.mem_cons] at hp ⊢
    rcases hp with rfl | rfl | rfl | rfl | rfl | rfl | hp
    · exact .inr (.inl rfl)
    · exact absurd hc (by intro e; cases e)
    · exact absurd hc not_tupD
    · exact absurd hc not_tup
    · exact .inl rfl
    · exact absurd hc not_tup
    · exact .inr (.inr hp)
theorem beg_3 {w : World} {mean : ExcName → Option Value} {mg mb : Str → Option Value} {dp un : Nat} {gd : Option (List Code)} {cn : Str} {cs : Scope} {a : Addr} {ccd : Value} {cl : List (Str × Addr)} {outer : List Env} {A₀ : Around} {base h₀ : Heap} {L : Addr} {m : Str → Option Value} {s : Shared} {Q E : Value → Shared → Prop} {x dx l bl hl : Addr} {hs : List (Str × Str)} {bs : List Trip} {ns : List Int} {rest led : Led} {ts : List UInt8} {h : Int} {th tt tw tb : Tok} {wk : Nat} (B : Below A₀ base outer h₀) (F : Fr h₀ L s.heap m) (X : (Mine.hd.heap_39 w.params).In h₀) (T : Top PP LL mean mg mb h₀) (hk : cs.kind = .function)
    (N : News h₀ L s.heap led) (H : Held x dx l bl hl hs bs ns rest led) (hd : dp + 5 < recursionLimit) (hu : un + 40 < cLine) (hsz : hs.length ≤ 800) (hbz : bs.length ≤ 800) (hnz : ns.length = 12) (hso : Rowed bs) (hsh : ∀ p ∈ hs, p.1.length ≤ 5592405) (hwk : wk < 3) (htz : ts.length = 9)
    (ret : ∀ led' h' tk', Held x dx l bl hl hs bs (ns.set (4 * wk + 3) h) rest led' → Fr h₀ L h' m → News h₀ L h' led' → Q .none { s with heap := h', toks := tk' }) :
    wpAny (MM w) (ktrTop dp un gd cn cs L a ccd cl outer) (call (.ref 220) [.ref x, .ref bl, .ref hl, .bytes ts.toArray tt, .int h th, .int (wk : Int) tw, .int 3 tb] []) Q E s := by
  obtain ⟨dh, dk, dn, vs, nn, bvs, nb, hvs, nh, more, rfl, hp, ht, hi, hr, o1, o2, o3, d1, d2, d3, d4, d5, d6, d7, d8, d9⟩ := H
  have hvz : vs.length ≤ 900 := by have := hp.length; omega
  have hbvz : bvs.length ≤ 1000 := by have := ht.length; omega
  have hcu := num_clean hwk
  walk_at "ENTER"
  intro g L' h₁ FG F' N' B' X' T'
  replace F' : Fr g L' h₁ (fun y => List.lookup y [("bench", .int 3 tb), ("work", .int (wk : Int) tw), ("hour", .int h th), ("tape", .bytes ts.toArray tt), ("hours", .ref hl), ("bells", .ref bl), ("line", .ref x)]) := F'
  have hMk := kstMark
  refine noRaise ?_
  try dsimp only
  walk_at "STEPS"
  have e2 : (4 * (wk : Int) + 3).toNat = 4 * wk + 3 := by omega
  rename News h₀ _ _ _ => N₂
  rename IntsAre (List.set _ _ _) _ => hi₂
  rw [e2] at N₂ hi₂
  exact ret _ _ _ (Held.intro hp ht hi₂ hr o1 o2 o3 ⟨d1, d2, d3, d4, d5, d6, d7, d8, d9⟩) (by k_asm) N₂
end Mine

namespace Mine
/-! what stands on the line, bench by bench -/
abbrev Cfg := Nat → Option (Nat × Bool)
def low (b : Nat) : Str := Str.ofString (["a", "b", "c"].getD b "")
def up (b : Nat) : Str := Str.ofString (["A", "B", "C"].getD b "")
def shape (b : Nat) : Option (Nat × Bool) → List (Str × Str)
  | none => []
  | some (w, false) => [(low b, num w)]
  | some (w, true) => [(low b, num w), (up b, Str.ofString "done")]
def upd (c : Cfg) (b : Nat) (v : Option (Nat × Bool)) : Cfg := fun y => if y = b then v else c y
/-- the headers of a line are those of its benches -/
structure Lines (hs : List (Str × Str)) (c : Cfg) : Prop where
  at' : ∀ b, b < 3 → (hs.filter fun p => Txt.lower p.1 == low b) = shape b (c b)
  only : ∀ p ∈ hs, ∃ b, b < 3 ∧ (Txt.lower p.1 == low b) = true
theorem lower_up {b : Nat} (h : b < 3) : Txt.lower (up b) = low b := by
  have : b = 0 ∨ b = 1 ∨ b = 2 := by omega
  rcases this with rfl | rfl | rfl <;> decide +kernel
theorem lower_low {b : Nat} (h : b < 3) : Txt.lower (low b) = low b := by
  have : b = 0 ∨ b = 1 ∨ b = 2 := by omega
  rcases this with rfl | rfl | rfl <;> decide +kernel
theorem low_inj {b c : Nat} (h : b < 3) (h' : c < 3) (e : (low b == low c) = true) : b = c := by
  have h1 : b = 0 ∨ b = 1 ∨ b = 2 := by omega
  have h2 : c = 0 ∨ c = 1 ∨ c = 2 := by omega
  rcases h1 with rfl | rfl | rfl <;> rcases h2 with rfl | rfl | rfl <;> first | rfl | (revert e; decide +kernel)
theorem find_filter {α : Type} (q : α → Bool) (l : List α) : l.find? q = (l.filter q).head? := List.head?_filter.symm
theorem Lines.get {hs : List (Str × Str)} {c : Cfg} (H : Lines hs c) {b : Nat} (hb : b < 3) {v : Str} (hv : Txt.lower v = low b) : hget hs v = (c b).map fun x => num x.1 := by
  unfold hget
  rw [find_filter, hv, H.at' b hb]
  cases hc : c b with
  | none => rfl
  | some x => obtain ⟨w, d⟩ := x; cases d <;> rfl
theorem Lines.short {hs : List (Str × Str)} {c : Cfg} (H : Lines hs c) : ∀ p ∈ hs, p.1.length ≤ 5592405 := fun p hp => by
  obtain ⟨b, hb, e⟩ := H.only p hp
  have hm : p ∈ hs.filter fun p => Txt.lower p.1 == low b := List.mem_filter.mpr ⟨hp, e⟩
  rw [H.at' b hb] at hm
  have h3 : b = 0 ∨ b = 1 ∨ b = 2 := by omega
  have hl : (low b).length ≤ 5592405 ∧ (up b).length ≤ 5592405 := by rcases h3 with rfl | rfl | rfl <;> decide +kernel
  cases hc : c b with
  | none => rw [hc] at hm; cases hm
  | some x =>
    obtain ⟨w, d⟩ := x
    rw [hc] at hm
    cases d <;> simp only [shape, List.mem_cons, List.not_mem_nil, or_false] at hm
    · subst hm; exact hl.1
    · rcases hm with rfl | rfl
      · exact hl.1
      · exact hl.2
theorem Lines.done {hs : List (Str × Str)} {c : Cfg} (H : Lines hs c) {b : Nat} (hb : b < 3) : ((hs.map (·.1)).any (· == up b)) = (match c b with | some (_, true) => true | _ => false) := by
  have h3 : b = 0 ∨ b = 1 ∨ b = 2 := by omega
  have hne : (low b == up b) = false := by rcases h3 with rfl | rfl | rfl <;> decide +kernel
  have e1 : (hs.map (·.1)).any (· == up b) = (hs.filter fun p => Txt.lower p.1 == low b).any fun p => p.1 == up b := by
    rw [List.any_map, List.any_filter]
    congr 1
    funext p
    simp only [Function.comp]
    cases e : p.1 == up b with
    | false => simp
    | true =>
      have : p.1 = up b := by simpa using e
      rw [this, lower_up hb]; simp
  rw [e1, H.at' b hb]
  cases hc : c b with
  | none => rfl
  | some x => obtain ⟨w, d⟩ := x; cases d <;> simp [shape, hne]
theorem shape_len (b : Nat) (v : Option (Nat × Bool)) : (shape b v).length ≤ 2 := by
  cases v with
  | none => simp [shape]
  | some x => obtain ⟨w, d⟩ := x; cases d <;> simp [shape]
theorem len_split : ∀ hs : List (Str × Str), (∀ p ∈ hs, ∃ b, b < 3 ∧ (Txt.lower p.1 == low b) = true) →
    hs.length ≤ (hs.filter fun p => Txt.lower p.1 == low 0).length + (hs.filter fun p => Txt.lower p.1 == low 1).length + (hs.filter fun p => Txt.lower p.1 == low 2).length
  | [], _ => by simp
  | p :: hs, h => by
    have ih := len_split hs fun q hq => h q (.tail _ hq)
    obtain ⟨b, hb, e⟩ := h p (.head _)
    have h3 : b = 0 ∨ b = 1 ∨ b = 2 := by omega
    simp only [List.filter_cons, List.length_cons]
    rcases h3 with rfl | rfl | rfl <;> (rw [if_pos e]; (repeat' split) <;> simp only [List.length_cons] <;> omega)
theorem Lines.len {hs : List (Str × Str)} {c : Cfg} (H : Lines hs c) : hs.length ≤ 6 := by
  have := len_split hs H.only
  rw [H.at' 0 (by decide), H.at' 1 (by decide), H.at' 2 (by decide)] at this
  have := shape_len 0 (c 0); have := shape_len 1 (c 1); have := shape_len 2 (c 2)
  omega
theorem Lines.nil : Lines [] fun _ => none := ⟨fun b hb => rfl, fun p hp => nomatch hp⟩
/-- del line[x] -/
theorem Lines.del {hs : List (Str × Str)} {c : Cfg} (H : Lines hs c) {b : Nat} (hb : b < 3) {v : Str} (hv : Txt.lower v = low b) : Lines (hs.filter fun p => !(Txt.lower p.1 == Txt.lower v)) (upd c b none) := by
  refine ⟨fun b' hb' => ?_, fun p hp => H.only p (List.mem_filter.mp hp).1⟩
  rw [hv, List.filter_filter]
  unfold upd
  by_cases e : b' = b
  · subst e
    rw [if_pos rfl, List.filter_eq_nil_iff.mpr]
    · rfl
    · intro p _; simp
  · rw [if_neg e, ← H.at' b' hb']
    refine List.filter_congr fun p _ => ?_
    cases q : (Txt.lower p.1 == low b') with
    | false => simp
    | true =>
      have q1 : Txt.lower p.1 = low b' := by simpa using q
      cases q' : (Txt.lower p.1 == low b) with
      | false => simp
      | true =>
        rw [q1] at q'
        exact absurd (low_inj hb' hb q') e
/-- a header more -/
theorem Lines.add {hs : List (Str × Str)} {c : Cfg} (H : Lines hs c) {b : Nat} (hb : b < 3) {v u : Str} (hv : Txt.lower v = low b) {x : Option (Nat × Bool)} (hx : shape b (c b) ++ [(v, u)] = shape b x) : Lines (hs ++ [(v, u)]) (upd c b x) := by
  refine ⟨fun b' hb' => ?_, fun p hp => ?_⟩
  · rw [List.filter_append, H.at' b' hb']
    unfold upd
    by_cases e : b' = b
    · subst e
      rw [if_pos rfl, ← hx]
      simp [hv]
    · rw [if_neg e]
      have : (low b == low b') = false := by
        cases q : (low b == low b') with
        | false => rfl
        | true => exact absurd (low_inj hb hb' q).symm e
      simp [hv, this]
  · rcases List.mem_append.mp hp with hp | hp
    · exact H.only p hp
    · rw [List.mem_singleton.mp hp]
      exact ⟨b, hb, by simp [hv]⟩
theorem upd_upd (c : Cfg) (b : Nat) (x y : Option (Nat × Bool)) : upd (upd c b x) b y = upd c b y := by
  funext z
  unfold upd
  split <;> rfl
theorem upd_self (c : Cfg) (b : Nat) (x : Option (Nat × Bool)) : upd c b x b = x := if_pos rfl
/-- line[x] = the work's numeral -/
theorem Lines.put {hs : List (Str × Str)} {c : Cfg} (H : Lines hs c) {b w : Nat} (hb : b < 3) : Lines ((hs.filter fun p => !(Txt.lower p.1 == low b)) ++ [(low b, num w)]) (upd c b (some (w, false))) := by
  have h1 := H.del hb (lower_low hb)
  rw [lower_low hb] at h1
  have h2 := h1.add hb (v := low b) (u := num w) (x := some (w, false)) (lower_low hb) (by rw [upd_self]; rfl)
  rw [upd_upd] at h2
  exact h2
end Mine

namespace Mine
/-! the line as plain data -/
structure Sim where
  c : Cfg
  bs : List Trip
  ns : List Int
structure Sim.Ok (S : Sim) (k : Nat) : Prop where
  len : S.ns.length = 12
  row : Rowed S.bs
  few : S.bs.length + k ≤ 700
  wk : ∀ b, b < 3 → ∀ w d, S.c b = some (w, d) → w < 3
theorem Sim.Ok.less {S : Sim} {k k' : Nat} (h : S.Ok k) (hk : k' ≤ k) : S.Ok k' := ⟨h.len, h.row, by have := h.few; omega, h.wk⟩
abbrev tm (ts : List UInt8) (w b : Nat) : Int := ((ts.getD (3 * w + b) 0).toNat : Int)
def begF (ts : List UInt8) (S : Sim) (h : Int) (w b : Nat) : Sim :=
  if b < 3 then ⟨upd S.c b (some (w, false)), insR (h + tm ts w b, (b : Int), (w : Int)) S.bs, S.ns.set (4 * w + b) h⟩ else ⟨S.c, S.bs, S.ns.set (4 * w + 3) h⟩
def freeAt (c : Cfg) (b : Nat) : Sim → Sim := fun S => ⟨upd c b none, S.bs, S.ns⟩
/-- what _law_moved does from bench b - 1 on -/
def movF (ts : List UInt8) (h : Int) : Nat → Sim → Sim
  | 0, S => S
  | b + 1, S => match S.c b with
    | some (w, true) => if b < 2 ∧ (S.c (b + 1)).isSome then S else movF ts h b (begF ts ⟨upd S.c b none, S.bs, S.ns⟩ h w (b + 1))
    | _ => S
theorem insR_mem {x y : Trip} : ∀ {bs : List Trip}, y ∈ insR x bs → y = x ∨ y ∈ bs
  | [], h => by simp [insR] at h; exact .inl h
  | z :: r, h => by
    unfold insR at h
    split at h
    · rcases List.mem_cons.mp h with h | h
      · exact .inl h
      · exact .inr h
    · rcases List.mem_cons.mp h with h | h
      · exact .inr (by simp [h])
      · rcases insR_mem h with h | h
        · exact .inl h
        · exact .inr (.tail _ h)
theorem insR_len {x : Trip} : ∀ {bs : List Trip}, (insR x bs).length = bs.length + 1
  | [] => rfl
  | z :: r => by
    unfold insR
    split
    · rfl
    · simp [insR_len]
theorem insR_row {x : Trip} : ∀ {bs : List Trip}, Rowed bs → Rowed (insR x bs)
  | [], _ => by simp [insR]
  | z :: r, h => by
    have h' := List.pairwise_cons.mp h
    unfold insR
    split
    · rename_i hx
      refine List.pairwise_cons.mpr ⟨fun y hy => ?_, h⟩
      cases e : tlt y x with
      | false => rfl
      | true =>
        rcases List.mem_cons.mp hy with rfl | hy
        · rw [tlt_iff] at e hx; omega
        · have h2 : ¬ tlt y z = true := by rw [h'.1 y hy]; exact Bool.false_ne_true
          rw [tlt_iff] at e hx h2; omega
    · rename_i hx
      refine List.pairwise_cons.mpr ⟨fun y hy => ?_, insR_row h'.2⟩
      rcases insR_mem hy with rfl | hy
      · simpa using hx
      · exact h'.1 y hy
theorem insR_perm {x : Trip} : ∀ {bs : List Trip}, (insR x bs).Perm (x :: bs)
  | [] => .refl _
  | z :: r => by
    unfold insR
    split
    · exact .refl _
    · exact (List.Perm.cons z insR_perm).trans (.swap x z r)
theorem Sim.Ok.beg {ts : List UInt8} {S : Sim} {h : Int} {w b k : Nat} (ok : S.Ok (k + 1)) (hw : w < 3) : (begF ts S h w b).Ok k := by
  unfold begF
  split
  · refine ⟨by simp [ok.len], insR_row ok.row, ?_, fun b' hb' w' d e => ?_⟩
    · have := ok.few
      show (insR _ S.bs).length + k ≤ 700
      rw [insR_len]; omega
    · replace e : upd S.c b (some (w, false)) b' = some (w', d) := e
      unfold upd at e
      split at e
      · cases e; exact hw
      · exact ok.wk b' hb' w' d e
  · exact ⟨by simp [ok.len], ok.row, by have := ok.few; show S.bs.length + k ≤ 700; omega, ok.wk⟩
theorem Sim.Ok.free {S : Sim} {b k : Nat} (ok : S.Ok k) : (Sim.mk (upd S.c b none) S.bs S.ns).Ok k := by
  refine ⟨ok.len, ok.row, ok.few, fun b' hb' w' d e => ?_⟩
  replace e : upd S.c b none b' = some (w', d) := e
  unfold upd at e
  split at e
  · cases e
  · exact ok.wk b' hb' w' d e
/-- the ledger bears the line -/
def HeldC (x dx l bl hl : Addr) (S : Sim) (rest led : Led) : Prop := ∃ hs, Held x dx l bl hl hs S.bs S.ns rest led ∧ Lines hs S.c
theorem beg_h {w : World} {mean : ExcName → Option Value} {mg mb : Str → Option Value} {dp un : Nat} {gd : Option (List Code)} {cn : Str} {cs : Scope} {a : Addr} {ccd : Value} {cl : List (Str × Addr)} {outer : List Env} {A₀ : Around} {base h₀ : Heap} {L : Addr} {m : Str → Option Value} {s : Shared} {Q E : Value → Shared → Prop} {x dx l bl hl : Addr} {S : Sim} {rest led led0 : Led} {ts : List UInt8} {h bi : Int} {th tt tw tb : Tok} {wk : Nat} (B : Below A₀ base outer h₀) (F : Fr h₀ L s.heap m) (X : (Mine.hd.heap_39 w.params).In h₀) (T : Top PP LL mean mg mb h₀) (hk : cs.kind = .function)
    (N : News h₀ L s.heap led0) (H : HeldC x dx l bl hl S rest led) (sub : ∀ p ∈ led, p ∈ led0) (hd : dp + 5 < recursionLimit) (hu : un + 40 < cLine) (ok : S.Ok 1) (hb0 : 0 ≤ bi) (hb3 : bi ≤ 3) (hwk : wk < 3) (htz : ts.length = 9)
    (ret : ∀ led' h' tk', HeldC x dx l bl hl (begF ts S h wk bi.toNat) rest led' → Fr h₀ L h' m → News h₀ L h' led' → Q .none { s with heap := h', toks := tk' }) :
    wpAny (MM w) (ktrTop dp un gd cn cs L a ccd cl outer) (call (.ref 220) [.ref x, .ref bl, .ref hl, .bytes ts.toArray tt, .int h th, .int (wk : Int) tw, .int bi tb] []) Q E s := by
  obtain ⟨hs, H, C⟩ := H
  have N' := news_sub N sub
  have hl := C.len
  have hf := ok.few
  have cases4 : bi = 0 ∨ bi = 1 ∨ bi = 2 ∨ bi = 3 := by omega
  have lw : ∀ b, b < 3 → Txt.lower (low b) = low b := fun b hb => lower_low hb
  rcases cases4 with rfl | rfl | rfl | rfl
  · exact beg_0 B F X T hk N' H hd hu (by omega) (by omega) ok.len ok.row C.short hwk htz fun led' h' tk' H' F' N' => ret led' h' tk' ⟨_, H', C.put (b := 0) (w := wk) (by decide)⟩ F' N'
  · exact beg_1 B F X T hk N' H hd hu (by omega) (by omega) ok.len ok.row C.short hwk htz fun led' h' tk' H' F' N' => ret led' h' tk' ⟨_, H', C.put (b := 1) (w := wk) (by decide)⟩ F' N'
  · exact beg_2 B F X T hk N' H hd hu (by omega) (by omega) ok.len ok.row C.short hwk htz fun led' h' tk' H' F' N' => ret led' h' tk' ⟨_, H', C.put (b := 2) (w := wk) (by decide)⟩ F' N'
  · exact beg_3 B F X T hk N' H hd hu (by omega) (by omega) ok.len ok.row C.short hwk htz fun led' h' tk' H' F' N' => ret led' h' tk' ⟨_, H', C⟩ F' N'
theorem del_h {w : World} {mean : ExcName → Option Value} {mg mb : Str → Option Value} {dp un : Nat} {gd : Option (List Code)} {cn : Str} {cs : Scope} {a : Addr} {ccd : Value} {cl : List (Str × Addr)} {outer : List Env} {A₀ : Around} {base h₀ : Heap} {L : Addr} {m : Str → Option Value} {s : Shared} {Q E : Value → Shared → Prop} {x dx l bl hl : Addr} {S : Sim} {rest led led0 : Led} {b : Nat} {v : Str} {t : Tok} (B : Below A₀ base outer h₀) (F : Fr h₀ L s.heap m) (X : (Mine.hd.heap_39 w.params).In h₀) (T : Top PP LL mean mg mb h₀) (hk : cs.kind = .function)
    (N : News h₀ L s.heap led0) (H : HeldC x dx l bl hl S rest led) (sub : ∀ p ∈ led, p ∈ led0) (hd : dp + 2 < recursionLimit) (hu : un + 16 < cLine) (hb : b < 3) (hv : v = low b)
    (ret : ∀ led' h' tk', HeldC x dx l bl hl ⟨upd S.c b none, S.bs, S.ns⟩ rest led' → Fr h₀ L h' m → News h₀ L h' led' → Q .none { s with heap := h', toks := tk' }) :
    wpAny (MM w) (ktrTop dp un gd cn cs L a ccd cl outer) (call (.ref 102) [.ref x, .str v t] []) Q E s := by
  obtain ⟨hs, H, C⟩ := H
  have N' := news_sub N sub
  clear N
  obtain ⟨dh, dk, dn, vs, nn, bvs, nb, hvs, nh, more, rfl, hp, ht, hi, hr, o1, o2, o3, d1, d2, d3, d4, d5, d6, d7, d8, d9⟩ := H
  have h3 : b = 0 ∨ b = 1 ∨ b = 2 := by omega
  subst hv
  have hvz : vs.length ≤ 900 := by have := hp.length; have := C.len; omega
  refine del_z (more := (bl, listOf bvs.toArray nb) :: (hl, listOf hvs.toArray nh) :: more) B F X T hk N' (hp.mono fun p hp => .tail _ (.tail _ hp)) hd hu hvz (by rcases h3 with rfl | rfl | rfl <;> decide +kernel) (by rcases h3 with rfl | rfl | rfl <;> decide +kernel) C.short (off_cons d3 (off_cons d4 o1)) fun vs' nn' h' tk' _ hp' F' N₂ => ?_
  refine ret _ _ _ ⟨_, Held.intro (hp'.tuples fun p hp hc => ?_) ht hi hr o1 o2 o3 ⟨d1, d2, d3, d4, d5, d6, d7, d8, d9⟩, C.del hb (lower_low hb)⟩ F' N₂
  simp only [List.mem_cons] at hp
  rcases hp with rfl | rfl | hp
  · exact absurd hc not_tup
  · exact absurd hc not_tup
  · exact hp
end Mine

namespace Mine
theorem get_h {w : World} {mean : ExcName → Option Value} {mg mb : Str → Option Value} {dp un : Nat} {gd : Option (List Code)} {cn : Str} {cs : Scope} {a : Addr} {ccd : Value} {cl : List (Str × Addr)} {outer : List Env} {A₀ : Around} {base h₀ : Heap} {L : Addr} {m : Str → Option Value} {s : Shared} {Q E : Value → Shared → Prop} {x dx l bl hl : Addr} {S : Sim} {rest led led0 : Led} {b : Nat} {v : Str} {t : Tok} (B : Below A₀ base outer h₀) (F : Fr h₀ L s.heap m) (X : (Mine.hd.heap_39 w.params).In h₀) (T : Top PP LL mean mg mb h₀) (hk : cs.kind = .function)
    (N : News h₀ L s.heap led0) (H : HeldC x dx l bl hl S rest led) (sub : ∀ p ∈ led, p ∈ led0) (hd : dp + 2 < recursionLimit) (hu : un + 16 < cLine) (hb : b < 3) (hv : (Txt.lower v == low b && decide (v.length ≤ 5592405)) = true)
    (retS : ∀ wk d tu h' tk', S.c b = some (wk, d) → Fr h₀ L h' m → News h₀ L h' led0 → Q (.str (num wk) tu) { s with heap := h', toks := tk' })
    (retN : ∀ h' tk', S.c b = none → Fr h₀ L h' m → News h₀ L h' led0 → Q .none { s with heap := h', toks := tk' }) :
    wpAny (MM w) (ktrTop dp un gd cn cs L a ccd cl outer) (call (.ref 131) [.ref x, .str v t] []) Q E s := by
  obtain ⟨hs, H, C⟩ := H
  obtain ⟨hv1, hv2⟩ := Bool.and_eq_true_iff.mp hv
  replace hv1 : Txt.lower v = low b := by simpa using hv1
  replace hv2 : v.length ≤ 5592405 := of_decide_eq_true hv2
  obtain ⟨dh, dk, dn, vs, nn, bvs, nb, hvs, nh, more, rfl, hp, ht, hi, hr, o1, o2, o3, d1, d2, d3, d4, d5, d6, d7, d8, d9⟩ := H
  have N' : News h₀ L s.heap ((x, instObj 184 dx) :: (dx, hdrDict dh dk l dn) :: (l, listOf vs.toArray nn) :: led0) := news_sub N fun p hp => by
    simp only [List.mem_cons] at hp
    rcases hp with rfl | rfl | rfl | hp
    · exact sub _ (.head _)
    · exact sub _ (.tail _ (.head _))
    · exact sub _ (.tail _ (.tail _ (.head _)))
    · exact hp
  have h3 : b = 0 ∨ b = 1 ∨ b = 2 := by omega
  refine get_c B F X T hk N' (hp.mono fun p hp => sub _ (.tail _ (.tail _ (.tail _ (.tail _ (.tail _ hp)))))) hd hu hv2 (by rw [hv1]; rcases h3 with rfl | rfl | rfl <;> decide +kernel) C.short (fun u tu h' tk' hg F' N₂ => ?_) fun h' tk' hg F' N₂ => ?_
  · rw [C.get hb hv1] at hg
    cases e : S.c b with
    | none => rw [e] at hg; cases hg
    | some y =>
      obtain ⟨wk, d⟩ := y
      rw [e] at hg
      cases hg
      exact retS wk d tu h' tk' e F' (news_sub N₂ fun p hp => .tail _ (.tail _ (.tail _ hp)))
  · rw [C.get hb hv1] at hg
    cases e : S.c b with
    | none => exact retN h' tk' e F' (news_sub N₂ fun p hp => .tail _ (.tail _ (.tail _ hp)))
    | some y => rw [e] at hg; cases hg
theorem getd_h {w : World} {mean : ExcName → Option Value} {mg mb : Str → Option Value} {dp un : Nat} {gd : Option (List Code)} {cn : Str} {cs : Scope} {a : Addr} {ccd : Value} {cl : List (Str × Addr)} {outer : List Env} {A₀ : Around} {base h₀ : Heap} {L : Addr} {m : Str → Option Value} {s : Shared} {Q E : Value → Shared → Prop} {x dx l bl hl : Addr} {S : Sim} {rest led led0 : Led} {b : Nat} {v d : Str} {t td : Tok} (B : Below A₀ base outer h₀) (F : Fr h₀ L s.heap m) (X : (Mine.hd.heap_39 w.params).In h₀) (T : Top PP LL mean mg mb h₀) (hk : cs.kind = .function)
    (N : News h₀ L s.heap led0) (H : HeldC x dx l bl hl S rest led) (sub : ∀ p ∈ led, p ∈ led0) (hd : dp + 2 < recursionLimit) (hu : un + 16 < cLine) (hb : b < 3) (hv : (Txt.lower v == low b && decide (v.length ≤ 5592405)) = true)
    (retS : ∀ wk d tu h' tk', S.c b = some (wk, d) → Fr h₀ L h' m → News h₀ L h' led0 → Q (.str (num wk) tu) { s with heap := h', toks := tk' })
    (retN : ∀ h' tk', S.c b = none → Fr h₀ L h' m → News h₀ L h' led0 → Q (.str d td) { s with heap := h', toks := tk' }) :
    wpAny (MM w) (ktrTop dp un gd cn cs L a ccd cl outer) (call (.ref 131) [.ref x, .str v t, .str d td] []) Q E s := by
  obtain ⟨hs, H, C⟩ := H
  obtain ⟨hv1, hv2⟩ := Bool.and_eq_true_iff.mp hv
  replace hv1 : Txt.lower v = low b := by simpa using hv1
  replace hv2 : v.length ≤ 5592405 := of_decide_eq_true hv2
  obtain ⟨dh, dk, dn, vs, nn, bvs, nb, hvs, nh, more, rfl, hp, ht, hi, hr, o1, o2, o3, d1, d2, d3, d4, d5, d6, d7, d8, d9⟩ := H
  have N' : News h₀ L s.heap ((x, instObj 184 dx) :: (dx, hdrDict dh dk l dn) :: (l, listOf vs.toArray nn) :: led0) := news_sub N fun p hp => by
    simp only [List.mem_cons] at hp
    rcases hp with rfl | rfl | rfl | hp
    · exact sub _ (.head _)
    · exact sub _ (.tail _ (.head _))
    · exact sub _ (.tail _ (.tail _ (.head _)))
    · exact hp
  have h3 : b = 0 ∨ b = 1 ∨ b = 2 := by omega
  refine get_d B F X T hk N' (hp.mono fun p hp => sub _ (.tail _ (.tail _ (.tail _ (.tail _ (.tail _ hp)))))) hd hu hv2 (by rw [hv1]; rcases h3 with rfl | rfl | rfl <;> decide +kernel) C.short (fun u tu h' tk' hg F' N₂ => ?_) fun h' tk' hg F' N₂ => ?_
  · rw [C.get hb hv1] at hg
    cases e : S.c b with
    | none => rw [e] at hg; cases hg
    | some y =>
      obtain ⟨wk, d⟩ := y
      rw [e] at hg
      cases hg
      exact retS wk d tu h' tk' e F' (news_sub N₂ fun p hp => .tail _ (.tail _ (.tail _ hp)))
  · rw [C.get hb hv1] at hg
    cases e : S.c b with
    | none => exact retN h' tk' e F' (news_sub N₂ fun p hp => .tail _ (.tail _ (.tail _ hp)))
    | some y => rw [e] at hg; cases hg
open LCg in
theorem keys_h {w : World} {mean : ExcName → Option Value} {mg mb : Str → Option Value} {dp un : Nat} {gd : Option (List Code)} {cn : Str} {cs : Scope} {a : Addr} {ccd : Value} {cl : List (Str × Addr)} {outer : List Env} {A₀ : Around} {base h₀ : Heap} {L : Addr} {m : Str → Option Value} {s : Shared} {Q E : Value → Shared → Prop} {x dx l bl hl : Addr} {S : Sim} {rest led led0 : Led} (B : Below A₀ base outer h₀) (F : Fr h₀ L s.heap m) (X : (Mine.hd.heap_39 w.params).In h₀) (T : Top PP LL mean mg mb h₀) (hk : cs.kind = .function)
    (N : News h₀ L s.heap led0) (H : HeldC x dx l bl hl S rest led) (sub : ∀ p ∈ led, p ∈ led0) (hd : dp + 2 < recursionLimit) (hu : un + 16 < cLine)
    (ret : ∀ D ks ys h' tk', StrsAre ks ys → (∀ b, b < 3 → ys.any (· == up b) = (match S.c b with | some (_, true) => true | _ => false)) → Fr h₀ L h' m → News h₀ L h' ((D, lst ks) :: led0) → Q (.ref D) { s with heap := h', toks := tk' }) :
    wpAny (MM w) (ktrTop dp un gd cn cs L a ccd cl outer) (call (.ref 136) [.ref x] []) Q E s := by
  obtain ⟨hs, H, C⟩ := H
  obtain ⟨dh, dk, dn, vs, nn, bvs, nb, hvs, nh, more, rfl, hp, ht, hi, hr, o1, o2, o3, d1, d2, d3, d4, d5, d6, d7, d8, d9⟩ := H
  have N' : News h₀ L s.heap ((x, instObj 184 dx) :: (dx, hdrDict dh dk l dn) :: (l, listOf vs.toArray nn) :: led0) := news_sub N fun p hp => by
    simp only [List.mem_cons] at hp
    rcases hp with rfl | rfl | rfl | hp
    · exact sub _ (.head _)
    · exact sub _ (.tail _ (.head _))
    · exact sub _ (.tail _ (.tail _ (.head _)))
    · exact hp
  have hvz : vs.length ≤ 1000 := by have := hp.length; have := C.len; omega
  exact keys_c B F X T hk N' (hp.mono fun p hp => sub _ (.tail _ (.tail _ (.tail _ (.tail _ (.tail _ hp)))))) hd hu hvz fun D ks h' tk' hks F' N₂ => ret D ks _ h' tk' hks (fun b hb => C.done hb) F' (news_sub N₂ fun p hp => by
    rcases List.mem_cons.mp hp with rfl | hp
    · exact .head _
    · exact .tail _ (.tail _ (.tail _ (.tail _ hp))))
/-- what the walk wants to see of it -/
theorem HeldC.open {x dx l bl hl : Addr} {S : Sim} {rest led : Led} (H : HeldC x dx l bl hl S rest led) : ∃ dh dk dn bvs nb more, ∀ h₀ L h, News h₀ L h led → News h₀ L h ((x, instObj 184 dx) :: (dx, hdrDict dh dk l dn) :: (bl, listOf bvs nb) :: led) ∧ bvs.size = S.bs.length ∧ more = led := by
  obtain ⟨hs, H, C⟩ := H
  obtain ⟨dh, dk, dn, vs, nn, bvs, nb, hvs, nh, more, rfl, hp, ht, hi, hr, o1, o2, o3, d1, d2, d3, d4, d5, d6, d7, d8, d9⟩ := H
  refine ⟨dh, dk, dn, bvs.toArray, nb, _, fun h₀ L h N => ⟨news_sub N fun p hp => ?_, ?_, rfl⟩⟩
  · simp only [List.mem_cons] at hp ⊢
    grind
  · simpa using ht.length
end Mine

namespace Mine
theorem int_num {prog : Program} {w : World} {A : Around} {E : Value → Shared → Prop} {s : Shared} {Q : Value → Shared → Prop} {t : Tok} {k : Nat} (h : k < 3) (hq : Q (.int (k : Int) s.toks) { s with toks := s.toks + 1 }) :
    wpAny (model prog w) A (call (.type "int") [.str (num k) t]) Q E s := KIN.call_num (Int.natCast_nonneg k) (Int.lt_of_lt_of_le (Int.ofNat_lt.mpr h) (by decide)) hq
theorem key_t {c : Cfg} {ys : List Str} {b : Nat} {v : Str} (hys : ∀ b, b < 3 → ys.any (· == up b) = (match c b with | some (_, true) => true | _ => false)) (hb : b < 3) (hv : (up b == v) = true) (a : (ys.any fun x => x == v) = true) : ∃ w, c b = some (w, true) := by
  have e : up b = v := by simpa using hv
  rw [← e] at a
  have := hys b hb
  rw [a] at this
  split at this
  · rename_i w e'; exact ⟨w, e'⟩
  · cases this
theorem key_f {c : Cfg} {ys : List Str} {b : Nat} {v : Str} (hys : ∀ b, b < 3 → ys.any (· == up b) = (match c b with | some (_, true) => true | _ => false)) (hb : b < 3) (hv : (up b == v) = true) (a : (ys.any fun x => x == v) = false) : ∀ w, c b ≠ some (w, true) := by
  have e : up b = v := by simpa using hv
  rw [← e] at a
  have := hys b hb
  rw [a] at this
  intro w e'
  rw [e'] at this
  cases this
theorem movF_stop {ts : List UInt8} {h : Int} {b : Nat} {S : Sim} (hn : ∀ w, S.c b ≠ some (w, true)) : movF ts h (b + 1) S = S := by
  unfold movF
  split
  · rename_i w e; exact absurd e (hn w)
  · rfl
theorem movF_held {ts : List UInt8} {h : Int} {b w w' : Nat} {d : Bool} {S : Sim} (e : S.c b = some (w, true)) (hb : b < 2) (e' : S.c (b + 1) = some (w', d)) : movF ts h (b + 1) S = S := by
  rw [movF, e]
  simp [hb, e']
theorem movF_go {ts : List UInt8} {h : Int} {b w : Nat} {S : Sim} (e : S.c b = some (w, true)) (e' : b < 2 → S.c (b + 1) = none) : movF ts h (b + 1) S = movF ts h b (begF ts ⟨upd S.c b none, S.bs, S.ns⟩ h w (b + 1)) := by
  rw [movF, e]
  by_cases hb : b < 2
  · simp [e' hb]
  · simp [hb]
theorem val_eq {c : Cfg} {b w w' : Nat} {d d' : Bool} (e : c b = some (w, d)) (e' : c b = some (w', d')) : w = w' ∧ d = d' := by
  rw [e] at e'
  cases e'
  exact ⟨rfl, rfl⟩
end Mine
theorem Mine.say_j_25 : True := by
  k_with "SUBLED" => (intro q hq; first | exact hq | exact .tail _ hq | exact .tail _ (.tail _ hq) | exact .tail _ (.tail _ (.tail _ hq)) | exact .tail _ (.tail _ (.tail _ (.tail _ hq))) | exact .tail _ (.tail _ (.tail _ (.tail _ (.tail _ hq)))))
  trivial
theorem Mine.say_j_26 : True := by
  k_with "compareOp In str ref" => (k_here; (with_reducible show wpAny _ _ (compareOp CmpOp.In (Value.str _ _) (Value.ref _)) _ _ _); k_dflt (refine' in_list_strs ?yk1_26 ?yk2_26 ?_; (case yk1_26 => exact News.isList (by k_asm) (by k_memK)); (case yk2_26 => assumption); k_whole))
  trivial
theorem Mine.say_j_27 : True := by
  k_with "call ref" => (k_here; (with_reducible show wpAny _ _ (call (Value.ref 136) _ _) _ _ _); k_dflt (refine' Mine.keys_h ?yk1_27 ?yk2_27 ?yk3_27 ?yk4_27 ?yk5_27 ?yk6_27 ?yk7_27 ?yk8_27 ?yk9_27 ?ykZ_27 ?_; (case yk1_27 => k_asm); (case yk2_27 => k_asm); (case yk3_27 => k_asm); (case yk4_27 => k_asm); (case yk5_27 => first | exact rfl | assumption); (case yk6_27 => k_asm); (case yk7_27 => assumption); (case yk8_27 => walk_at "SUBLED"); (case yk9_27 => ktr_room); (case ykZ_27 => ktr_units); k_whole); intro D' ks' ys' h' tk' hks' hys' F' N')
  trivial
theorem Mine.say_j_28 : True := by
  k_with "call ref" => (k_here; (with_reducible show wpAny _ _ (call (Value.ref 131) [_, _] _) _ _ _); k_dflt ((first | (refine' Mine.get_h (b := 0) ?yk1_28 ?yk2_28 ?yk3_28 ?yk4_28 ?yk5_28 ?yk6_28 ?yk7_28 ?yk8_28 ?yk9_28 ?ykZ_28 ?ykW_28 ?ykV_28 ?_ ?_; (case ykV_28 => decide +kernel)) | (refine' Mine.get_h (b := 1) ?yk1_28 ?yk2_28 ?yk3_28 ?yk4_28 ?yk5_28 ?yk6_28 ?yk7_28 ?yk8_28 ?yk9_28 ?ykZ_28 ?ykW_28 ?ykV_28 ?_ ?_; (case ykV_28 => decide +kernel)) | (refine' Mine.get_h (b := 2) ?yk1_28 ?yk2_28 ?yk3_28 ?yk4_28 ?yk5_28 ?yk6_28 ?yk7_28 ?yk8_28 ?yk9_28 ?ykZ_28 ?ykW_28 ?ykV_28 ?_ ?_; (case ykV_28 => decide +kernel))); (case ykW_28 => decide); (case yk1_28 => k_asm); (case yk2_28 => k_asm); (case yk3_28 => k_asm); (case yk4_28 => k_asm); (case yk5_28 => first | exact rfl | assumption); (case yk6_28 => k_asm); (case yk7_28 => assumption); (case yk8_28 => walk_at "SUBLED"); (case yk9_28 => ktr_room); (case ykZ_28 => ktr_units)); (all_goals (first | (intro wk' d' tu' h' tk' hc' F' N') | (intro h' tk' hc' F' N'))))
  trivial
theorem Mine.say_j_29 : True := by
  k_with "call ref" => (k_here; (with_reducible show wpAny _ _ (call (Value.ref 102) _ _) _ _ _); k_dflt ((first | (refine' Mine.del_h (b := 0) ?yk1_29 ?yk2_29 ?yk3_29 ?yk4_29 ?yk5_29 ?yk6_29 ?yk7_29 ?yk8_29 ?yk9_29 ?ykZ_29 ?ykW_29 ?ykV_29 ?_; (case ykV_29 => decide +kernel)) | (refine' Mine.del_h (b := 1) ?yk1_29 ?yk2_29 ?yk3_29 ?yk4_29 ?yk5_29 ?yk6_29 ?yk7_29 ?yk8_29 ?yk9_29 ?ykZ_29 ?ykW_29 ?ykV_29 ?_; (case ykV_29 => decide +kernel)) | (refine' Mine.del_h (b := 2) ?yk1_29 ?yk2_29 ?yk3_29 ?yk4_29 ?yk5_29 ?yk6_29 ?yk7_29 ?yk8_29 ?yk9_29 ?ykZ_29 ?ykW_29 ?ykV_29 ?_; (case ykV_29 => decide +kernel))); (case ykW_29 => decide); (case yk1_29 => k_asm); (case yk2_29 => k_asm); (case yk3_29 => k_asm); (case yk4_29 => k_asm); (case yk5_29 => first | exact rfl | assumption); (case yk6_29 => k_asm); (case yk7_29 => assumption); (case yk8_29 => walk_at "SUBLED"); (case yk9_29 => ktr_room); (case ykZ_29 => ktr_units)); intro led' h' tk' H' F' N')
  trivial
theorem Mine.say_j_30 : True := by
  k_with "WKLT" => (refine' Mine.Sim.Ok.wk ?ya_30 _ ?yb_30 _ _ ?yc_30; (case yc_30 => assumption); (case yb_30 => decide); (case ya_30 => assumption))
  trivial
theorem Mine.say_j_31 : True := by
  k_with "SIMOK" => first | assumption | (refine' Mine.Sim.Ok.less ?ya_31 ?yb_31; (case ya_31 => assumption); (case yb_31 => decide)) | (refine' Mine.Sim.Ok.less (Mine.Sim.Ok.free ?ya_31) ?yb_31; (case ya_31 => assumption); (case yb_31 => decide))
  trivial
theorem Mine.say_j_32 : True := by
  k_with "call type:int" => (k_here; (with_reducible show wpAny _ _ (call (Value.type "int") [Value.str (Mine.num _) _]) _ _ _); k_dflt (refine' Mine.int_num ?yk1_32 ?_; (case yk1_32 => walk_at "WKLT"); k_whole))
  trivial
theorem Mine.say_j_33 : True := by
  k_with "call ref" => (k_here; (with_reducible show wpAny _ _ (call (Value.ref 220) _ _) _ _ _); k_dflt (refine' Mine.beg_h ?yk1_33 ?yk2_33 ?yk3_33 ?yk4_33 ?yk5_33 ?yk6_33 ?yk7_33 ?yk8_33 ?yk9_33 ?ykZ_33 ?ykO_33 ?ykA_33 ?ykB_33 ?ykC_33 ?ykD_33 ?_; (case yk1_33 => k_asm); (case yk2_33 => k_asm); (case yk3_33 => k_asm); (case yk4_33 => k_asm); (case yk5_33 => first | exact rfl | assumption); (case yk6_33 => k_asm); (case yk7_33 => assumption); (case yk8_33 => walk_at "SUBLED"); (case yk9_33 => ktr_room); (case ykZ_33 => ktr_units); (case ykO_33 => walk_at "SIMOK"); (case ykA_33 => decide); (case ykB_33 => decide); (case ykC_33 => first | assumption | walk_at "WKLT" | decide); (case ykD_33 => assumption); k_whole); intro led' h' tk' H' F' N')
  trivial
namespace Mine
theorem mov_h {w : World} {mean : ExcName → Option Value} {mg mb : Str → Option Value} {dp un : Nat} {gd : Option (List Code)} {cn : Str} {cs : Scope} {a : Addr} {ccd : Value} {cl : List (Str × Addr)} {outer : List Env} {A₀ : Around} {base h₀ : Heap} {L : Addr} {m : Str → Option Value} {s : Shared} {Q E : Value → Shared → Prop} {x dx l bl hl : Addr} {S : Sim} {rest led led0 : Led} {ts : List UInt8} {h bi : Int} {th tt tb : Tok} (B : Below A₀ base outer h₀) (F : Fr h₀ L s.heap m) (X : (Mine.hd.heap_39 w.params).In h₀) (T : Top PP LL mean mg mb h₀) (hk : cs.kind = .function)
    (N : News h₀ L s.heap led0) (H : HeldC x dx l bl hl S rest led) (sub : ∀ p ∈ led, p ∈ led0) (hd : dp + 6 < recursionLimit) (hu : un + 48 < cLine) (ok : S.Ok (bi + 1).toNat) (hb0 : 0 ≤ bi) (hb3 : bi ≤ 2) (htz : ts.length = 9)
    (ret : ∀ led' h' tk', HeldC x dx l bl hl (movF ts h (bi + 1).toNat S) rest led' → Fr h₀ L h' m → News h₀ L h' led' → Q .none { s with heap := h', toks := tk' }) :
    wpAny (MM w) (ktrTop dp un gd cn cs L a ccd cl outer) (call (.ref 227) [.ref x, .ref bl, .ref hl, .bytes ts.toArray tt, .int h th, .int bi tb] []) Q E s := by
  replace N := news_sub N sub
  walk_at "ENTER"
  intro g L' h₁ FG F' N' B' X' T'
  replace F' : Fr g L' h₁ (fun y => List.lookup y [("bench", .int bi tb), ("hour", .int h th), ("tape", .bytes ts.toArray tt), ("hours", .ref hl), ("bells", .ref bl), ("line", .ref x)]) := F'
  have hMk := kstMark
  refine noRaise ?_
  try dsimp only
  walk_at "STEPS"
  try dsimp only
  rename News _ _ _ _ => N₂
  rename Fr _ _ _ _ => F₂
  refine While_inv2 (n₀ := (bi + 1).toNat) (fun n m nx => ∃ (b : Nat) (S' : Sim), n = b ∧ b ≤ 3 ∧ HeldC x dx l bl hl S' rest nx ∧ S'.Ok b ∧ movF ts h b S' = movF ts h (bi + 1).toNat S ∧ m "line" = some (.ref x) ∧ m "bells" = some (.ref bl) ∧ m "hours" = some (.ref hl) ∧ m "tape" = some (.bytes ts.toArray tt) ∧ m "hour" = some (.int h th) ∧ HasI m "bench" ((b : Int) - 1)) F₂ N₂ ?_ ?_ nah_passes
  · exact ⟨(bi + 1).toNat, S, rfl, by omega, H, ok, rfl, rfl, rfl, rfl, rfl, rfl, ⟨_, congrArg some (congrArg (fun i => Value.int i tb) (by omega))⟩⟩
  · clear F₂ N₂ H
    rintro n m₁ nx h2 tk F₃ N₃ ⟨b, S', rfl, hb, H, ok', hmv, e1, e2, e3, e4, e5, ⟨tl, e6⟩⟩
    obtain ⟨dh, dk, dn, bvs, nb, more, hop⟩ := H.open
    have N₄ := (hop _ _ _ N₃).1
    clear hop N₃
    have cases4 : n = 0 ∨ n = 1 ∨ n = 2 ∨ n = 3 := by omega
    rcases cases4 with rfl | rfl | rfl | rfl
    · have F₄ := fr_knows [("line", .ref x), ("bells", .ref bl), ("hours", .ref hl), ("tape", .bytes ts.toArray tt), ("hour", .int h th), ("bench", .int (-1) tl)] F₃ (by simp [e1, e2, e3, e4, e5, e6])
      clear F₃
      walk_at "STEPS"
      rename News _ _ _ _ => N₅
      replace hmv : S' = _ := hmv
      exact ret _ _ _ (hmv ▸ H) (by k_asm) (news_sub N₅ (by walk_at "SUBLED"))
    · have F₄ := fr_knows [("line", .ref x), ("bells", .ref bl), ("hours", .ref hl), ("tape", .bytes ts.toArray tt), ("hour", .int h th), ("bench", .int 0 tl)] F₃ (by simp [e1, e2, e3, e4, e5, e6])
      clear F₃
      walk_at "STEPS"
      · rename (S'.c 1 = some _) => hc1
        rename List.any _ _ = true => ha
        rename (∀ b, b < 3 → _ = _) => hys'
        obtain ⟨w0, hw0⟩ := key_t hys' (b := 0) (by decide) (by decide +kernel) ha
        rw [movF_held hw0 (by decide) hc1] at hmv
        walk_at "WHILE"
        walk_at "STEPS"
        rename News _ _ _ _ => N₅
        exact ret _ _ _ (hmv ▸ H) (by k_asm) (news_sub N₅ (by walk_at "SUBLED"))
      · rename (S'.c 0 = some _) => hc0
        rename (S'.c 1 = none) => hc1
        rename List.any _ _ = true => ha
        rename (∀ b, b < 3 → _ = _) => hys'
        obtain ⟨w0, hw0⟩ := key_t hys' (b := 0) (by decide) (by decide +kernel) ha
        obtain ⟨rfl, rfl⟩ := val_eq hc0 hw0
        rename News _ _ _ _ => N₅
        rename Fr _ _ _ _ => F₅
        rename HeldC _ _ _ _ _ (begF _ _ _ _ _) _ _ => H₅
        rw [movF_go hw0 (fun _ => hc1)] at hmv
        exact ⟨_, _, _, _, 0, rfl, F₅, N₅, by omega, 0, _, rfl, by omega, H₅, (Sim.Ok.free ok').beg (ok'.wk 0 (by decide) _ _ hw0), hmv, rfl, rfl, rfl, rfl, rfl, HasI.of (k := 0 - 1) (by omega) rfl⟩
      · rename (S'.c 0 = none) => hc0
        rename List.any _ _ = true => ha
        rename (∀ b, b < 3 → _ = _) => hys'
        obtain ⟨w0, hw0⟩ := key_t hys' (b := 0) (by decide) (by decide +kernel) ha
        rw [hc0] at hw0
        cases hw0
      · rename List.any _ _ = false => ha
        rename (∀ b, b < 3 → _ = _) => hys'
        rw [movF_stop (key_f hys' (b := 0) (by decide) (by decide +kernel) ha)] at hmv
        walk_at "STEPS"
        rename News _ _ _ _ => N₅
        exact ret _ _ _ (hmv ▸ H) (by k_asm) (news_sub N₅ (by walk_at "SUBLED"))
    · have F₄ := fr_knows [("line", .ref x), ("bells", .ref bl), ("hours", .ref hl), ("tape", .bytes ts.toArray tt), ("hour", .int h th), ("bench", .int 1 tl)] F₃ (by simp [e1, e2, e3, e4, e5, e6])
      clear F₃
      walk_at "STEPS"
      · rename (S'.c 2 = some _) => hc1
        rename List.any _ _ = true => ha
        rename (∀ b, b < 3 → _ = _) => hys'
        obtain ⟨w0, hw0⟩ := key_t hys' (b := 1) (by decide) (by decide +kernel) ha
        rw [movF_held hw0 (by decide) hc1] at hmv
        walk_at "WHILE"
        walk_at "STEPS"
        rename News _ _ _ _ => N₅
        exact ret _ _ _ (hmv ▸ H) (by k_asm) (news_sub N₅ (by walk_at "SUBLED"))
      · rename (S'.c 1 = some _) => hc0
        rename (S'.c 2 = none) => hc1
        rename List.any _ _ = true => ha
        rename (∀ b, b < 3 → _ = _) => hys'
        obtain ⟨w0, hw0⟩ := key_t hys' (b := 1) (by decide) (by decide +kernel) ha
        obtain ⟨rfl, rfl⟩ := val_eq hc0 hw0
        rename News _ _ _ _ => N₅
        rename Fr _ _ _ _ => F₅
        rename HeldC _ _ _ _ _ (begF _ _ _ _ _) _ _ => H₅
        rw [movF_go hw0 (fun _ => hc1)] at hmv
        exact ⟨_, _, _, _, 1, rfl, F₅, N₅, by omega, 1, _, rfl, by omega, H₅, (Sim.Ok.free ok').beg (ok'.wk 1 (by decide) _ _ hw0), hmv, rfl, rfl, rfl, rfl, rfl, HasI.of (k := 1 - 1) (by omega) rfl⟩
      · rename (S'.c 1 = none) => hc0
        rename List.any _ _ = true => ha
        rename (∀ b, b < 3 → _ = _) => hys'
        obtain ⟨w0, hw0⟩ := key_t hys' (b := 1) (by decide) (by decide +kernel) ha
        rw [hc0] at hw0
        cases hw0
      · rename List.any _ _ = false => ha
        rename (∀ b, b < 3 → _ = _) => hys'
        rw [movF_stop (key_f hys' (b := 1) (by decide) (by decide +kernel) ha)] at hmv
        walk_at "STEPS"
        rename News _ _ _ _ => N₅
        exact ret _ _ _ (hmv ▸ H) (by k_asm) (news_sub N₅ (by walk_at "SUBLED"))
    · have F₄ := fr_knows [("line", .ref x), ("bells", .ref bl), ("hours", .ref hl), ("tape", .bytes ts.toArray tt), ("hour", .int h th), ("bench", .int 2 tl)] F₃ (by simp [e1, e2, e3, e4, e5, e6])
      clear F₃
      walk_at "STEPS"
      · rename (S'.c 2 = some _) => hc0
        rename List.any _ _ = true => ha
        rename (∀ b, b < 3 → _ = _) => hys'
        obtain ⟨w0, hw0⟩ := key_t hys' (b := 2) (by decide) (by decide +kernel) ha
        obtain ⟨rfl, rfl⟩ := val_eq hc0 hw0
        rename News _ _ _ _ => N₅
        rename Fr _ _ _ _ => F₅
        rename HeldC _ _ _ _ _ (begF _ _ _ _ _) _ _ => H₅
        rw [movF_go hw0 (fun h => absurd h (by decide))] at hmv
        exact ⟨_, _, _, _, 2, rfl, F₅, N₅, by omega, 2, _, rfl, by omega, H₅, (Sim.Ok.free ok').beg (ok'.wk 2 (by decide) _ _ hw0), hmv, rfl, rfl, rfl, rfl, rfl, HasI.of (k := 2 - 1) (by omega) rfl⟩
      · rename (S'.c 2 = none) => hc0
        rename List.any _ _ = true => ha
        rename (∀ b, b < 3 → _ = _) => hys'
        obtain ⟨w0, hw0⟩ := key_t hys' (b := 2) (by decide) (by decide +kernel) ha
        rw [hc0] at hw0
        cases hw0
      · rename List.any _ _ = false => ha
        rename (∀ b, b < 3 → _ = _) => hys'
        rw [movF_stop (key_f hys' (b := 2) (by decide) (by decide +kernel) ha)] at hmv
        walk_at "STEPS"
        rename News _ _ _ _ => N₅
        exact ret _ _ _ (hmv ▸ H) (by k_asm) (news_sub N₅ (by walk_at "SUBLED"))
end Mine

namespace Mine
theorem add_h {w : World} {mean : ExcName → Option Value} {mg mb : Str → Option Value} {dp un : Nat} {gd : Option (List Code)} {cn : Str} {cs : Scope} {a : Addr} {ccd : Value} {cl : List (Str × Addr)} {outer : List Env} {A₀ : Around} {base h₀ : Heap} {L : Addr} {m : Str → Option Value} {s : Shared} {Q E : Value → Shared → Prop} {x dx l bl hl : Addr} {S : Sim} {rest led led0 : Led} {b wk : Nat} {v : Str} {t t' : Tok} (B : Below A₀ base outer h₀) (F : Fr h₀ L s.heap m) (X : (Mine.hd.heap_39 w.params).In h₀) (T : Top PP LL mean mg mb h₀) (hk : cs.kind = .function)
    (N : News h₀ L s.heap led0) (H : HeldC x dx l bl hl S rest led) (sub : ∀ p ∈ led, p ∈ led0) (hd : dp + 2 < recursionLimit) (hu : un + 16 < cLine) (hb : b < 3) (hv : (up b == v) = true) (hc : S.c b = some (wk, false))
    (ret : ∀ led' h' tk', HeldC x dx l bl hl ⟨upd S.c b (some (wk, true)), S.bs, S.ns⟩ rest led' → Fr h₀ L h' m → News h₀ L h' led' → Q .none { s with heap := h', toks := tk' }) :
    wpAny (MM w) (ktrTop dp un gd cn cs L a ccd cl outer) (call (.ref 181) [.ref x, .str v t, .str (Str.ofString "done") t'] []) Q E s := by
  obtain ⟨hs, H, C⟩ := H
  have N' := news_sub N sub
  clear N
  obtain ⟨dh, dk, dn, vs, nn, bvs, nb, hvs, nh, more, rfl, hp, ht, hi, hr, o1, o2, o3, d1, d2, d3, d4, d5, d6, d7, d8, d9⟩ := H
  have e : up b = v := by simpa using hv
  subst e
  have h3 : b = 0 ∨ b = 1 ∨ b = 2 := by omega
  have hvz : vs.length ≤ 1000 := by have := hp.length; have := C.len; omega
  refine add_c (more := (bl, listOf bvs.toArray nb) :: (hl, listOf hvs.toArray nh) :: more) B F X T hk N' hd hu hvz (by rcases h3 with rfl | rfl | rfl <;> decide +kernel) (off_cons d3 (off_cons d4 o1)) d1 d2 fun T nn' tk tv h' tk' hT F' N₂ => ?_
  have hTl : T ≠ l := by
    intro e
    subst e
    have := (N₂ _ (List.Mem.tail _ (List.Mem.tail _ (List.Mem.head _)))).1
    rw [(N₂ _ (List.Mem.tail _ (List.Mem.tail _ (List.Mem.tail _ (List.Mem.head _))))).1] at this
    exact absurd (congrArg Obj.cls (Option.some.inj this)) (by first | exact not_tup | exact Ne.symm not_tup)
  have N₃ : News h₀ L h' ((x, instObj 184 dx) :: (dx, hdrDict dh dk l dn) :: (l, listOf (vs ++ [Value.ref T]).toArray nn') :: (bl, listOf bvs.toArray nb) :: (hl, listOf hvs.toArray nh) :: (T, pairObj (up b) (Str.ofString "done") tk tv 0) :: more) := news_sub N₂ fun p hp => by
    simp only [List.mem_cons] at hp ⊢
    grind
  refine ret _ _ _ ⟨hs ++ [(up b, Str.ofString "done")], Held.intro ((hp.mono fun p hp => .tail _ hp).snoc (.head _)) (ht.mono fun p hp => .tail _ hp) hi (fun p hp => .tail _ (hr p hp)) (off_cons hTl o1) (off_cons (Ne.symm (hT _ (.head _))) o2) (off_cons (Ne.symm (hT _ (.tail _ (.head _)))) o3) ⟨d1, d2, d3, d4, d5, d6, d7, d8, d9⟩, ?_⟩ F' N₃
  refine C.add hb (lower_up hb) ?_
  rw [hc]; rfl
/-- how the line goes on from one bell to the next -/
def stepF (ts : List UInt8) (S : Sim) (come : Nat) (h : Int) (b w : Nat) (r : List Trip) : Sim :=
  let S₂ := movF ts h (b + 1) ⟨upd S.c b (some (w, true)), r, S.ns⟩
  if (S₂.c 0).isNone && decide (come < 3) then begF ts S₂ h come 0 else S₂
def comeF (ts : List UInt8) (S : Sim) (come : Nat) (h : Int) (b w : Nat) (r : List Trip) : Nat :=
  let S₂ := movF ts h (b + 1) ⟨upd S.c b (some (w, true)), r, S.ns⟩
  if (S₂.c 0).isNone && decide (come < 3) then come + 1 else come
abbrev sim0 : Sim := ⟨fun _ => none, [], List.replicate 12 0⟩
/-- a plan of the whole day: what holds between two bells, and that it ends with these hours -/
structure Plan (ts : List UInt8) (ans : List Int) (I : Nat → Sim → Nat → Prop) : Prop where
  start : ∃ n, I n (begF ts sim0 0 0 0) 1
  ok : ∀ n S c, I n S c → S.Ok 10
  step : ∀ n S c h b w r, I n S c → S.bs = (h, b, w) :: r → ∃ bn wk : Nat, b = (bn : Int) ∧ bn < 3 ∧ S.c bn = some (wk, false) ∧ ∃ n' < n, I n' (stepF ts S c h bn wk r) (comeF ts S c h bn wk r)
  fin : ∀ n S c, I n S c → S.bs = [] → S.ns = ans
theorem Sim.Ok.pop {S : Sim} {y : Trip} {r : List Trip} {k b wk : Nat} (ok : S.Ok k) (e : S.bs = y :: r) (hb : b < 3) (hc : S.c b = some (wk, false)) : (Sim.mk (upd S.c b (some (wk, true))) r S.ns).Ok (k + 1) := by
  have h1 := ok.row
  have h2 := ok.few
  rw [e] at h1 h2
  refine ⟨ok.len, (List.pairwise_cons.mp h1).2, by simp at h2 ⊢; omega, fun b' hb' w' d e => ?_⟩
  replace e : upd S.c b (some (wk, true)) b' = some (w', d) := e
  unfold upd at e
  split at e
  · cases e; exact ok.wk b hb _ _ hc
  · exact ok.wk b' hb' w' d e
theorem movF_ok {ts : List UInt8} {h : Int} : ∀ (b k : Nat) {S : Sim}, b ≤ 3 → S.Ok (b + k) → (movF ts h b S).Ok k
  | 0, k, S, _, ok => by
    show S.Ok k
    exact ok.less (by omega)
  | b + 1, k, S, hb, ok => by
    unfold movF
    split
    · rename_i w e
      split
      · exact ok.less (by omega)
      · exact movF_ok b k (by omega) (((ok.less (k' := b + k + 1) (by omega)).free).beg (ok.wk b (by omega) _ _ e))
    · exact ok.less (by omega)
end Mine

theorem Mine.say_j_34 : True := by
  k_with "call ref" => (k_here; (with_reducible show wpAny _ _ (call (Value.ref 184) _ _) _ _ _); k_dflt (refine' Mine.new_c ?yk1_34 ?yk2_34 ?yk3_34 ?yk4_34 ?yk5_34 ?yk6_34 ?yk7_34 ?yk8_34 ?_; (case yk1_34 => k_asm); (case yk2_34 => k_asm); (case yk3_34 => k_asm); (case yk4_34 => k_asm); (case yk5_34 => first | exact rfl | assumption); (case yk6_34 => k_asm); (case yk7_34 => ktr_room); (case yk8_34 => ktr_units); k_whole); intro x' dx' l' dh' dk' dn' h' tk' hlt1 hlt2 hlt3 F' N')
  trivial
theorem Mine.say_j_35 : True := by
  k_with "call ref" => (k_here; (with_reducible show wpAny _ _ (call (Value.ref 227) _ _) _ _ _); k_dflt (refine' Mine.mov_h ?yk1_35 ?yk2_35 ?yk3_35 ?yk4_35 ?yk5_35 ?yk6_35 ?yk7_35 ?yk8_35 ?yk9_35 ?ykZ_35 ?ykO_35 ?ykA_35 ?ykB_35 ?ykD_35 ?_; (case yk1_35 => k_asm); (case yk2_35 => k_asm); (case yk3_35 => k_asm); (case yk4_35 => k_asm); (case yk5_35 => first | exact rfl | assumption); (case yk6_35 => k_asm); (case yk7_35 => assumption); (case yk8_35 => walk_at "SUBLED"); (case yk9_35 => ktr_room); (case ykZ_35 => ktr_units); (case ykO_35 => walk_at "SIMOK"); (case ykA_35 => decide); (case ykB_35 => decide); (case ykD_35 => assumption); k_whole); intro led' h' tk' H' F' N')
  trivial
theorem Mine.say_j_36 : True := by
  k_with "call ref" => (k_here; (with_reducible show wpAny _ _ (call (Value.ref 181) _ _) _ _ _); k_dflt ((first | (refine' Mine.add_h (b := 0) ?yk1_36 ?yk2_36 ?yk3_36 ?yk4_36 ?yk5_36 ?yk6_36 ?yk7_36 ?yk8_36 ?yk9_36 ?ykZ_36 ?ykW_36 ?ykV_36 ?ykC_36 ?_; (case ykV_36 => decide +kernel)) | (refine' Mine.add_h (b := 1) ?yk1_36 ?yk2_36 ?yk3_36 ?yk4_36 ?yk5_36 ?yk6_36 ?yk7_36 ?yk8_36 ?yk9_36 ?ykZ_36 ?ykW_36 ?ykV_36 ?ykC_36 ?_; (case ykV_36 => decide +kernel)) | (refine' Mine.add_h (b := 2) ?yk1_36 ?yk2_36 ?yk3_36 ?yk4_36 ?yk5_36 ?yk6_36 ?yk7_36 ?yk8_36 ?yk9_36 ?ykZ_36 ?ykW_36 ?ykV_36 ?ykC_36 ?_; (case ykV_36 => decide +kernel))); (case ykW_36 => decide); (case yk1_36 => k_asm); (case yk2_36 => k_asm); (case yk3_36 => k_asm); (case yk4_36 => k_asm); (case yk5_36 => first | exact rfl | assumption); (case yk6_36 => k_asm); (case yk7_36 => assumption); (case yk8_36 => walk_at "SUBLED"); (case yk9_36 => ktr_room); (case ykZ_36 => ktr_units); (case ykC_36 => assumption)); intro led' h' tk' H' F' N')
  trivial
theorem Mine.say_j_37 : True := by
  k_with "call ref" => (k_here; (with_reducible show wpAny _ _ (call (Value.ref 131) [_, _, _] _) _ _ _); k_dflt ((refine' Mine.getd_h (b := 0) ?yk1_37 ?yk2_37 ?yk3_37 ?yk4_37 ?yk5_37 ?yk6_37 ?yk7_37 ?yk8_37 ?yk9_37 ?ykZ_37 ?ykW_37 ?ykV_37 ?_ ?_; (case ykV_37 => decide +kernel)); (case ykW_37 => decide); (case yk1_37 => k_asm); (case yk2_37 => k_asm); (case yk3_37 => k_asm); (case yk4_37 => k_asm); (case yk5_37 => first | exact rfl | assumption); (case yk6_37 => k_asm); (case yk7_37 => assumption); (case yk8_37 => walk_at "SUBLED"); (case yk9_37 => ktr_room); (case ykZ_37 => ktr_units)); (all_goals (first | (intro wk' d' tu' h' tk' hc' F' N') | (intro h' tk' hc' F' N'))))
  trivial
namespace Mine
section
variable {prog : Program} {w : World} {A : Around} {E : Value → Shared → Prop} {s : Shared} {h₀ : Heap} {L : Addr} {m : Str → Option Value}
theorem pop_led {l : Addr} {vs : List Value} {nn : Nat} {t : Tok} {v : Value} {rest : Led} {Q : Value → Shared → Prop} (F : Fr h₀ L s.heap m) (N : News h₀ L s.heap ((l, listOf (v :: vs).toArray nn) :: rest)) (hsz : vs.length ≤ 1000) (hoff : ∀ p ∈ rest, p.1 ≠ l)
    (h : ∀ h', Fr h₀ L h' m → News h₀ L h' ((l, listOf vs.toArray (nn + 1)) :: rest) → Q v { s with heap := h' }) :
    wpAny (model prog w) A (call (.builtin "list.pop") [.ref l, .int 0 t]) Q E s := by
  refine kl_popAt (k := 0) (its := (v :: vs).toArray) (n := nn) (p := []) (q := vs) F N rfl ?_ ?_ (.head hoff) (by show (v :: vs).length ≤ sizeLine; rw [sizeLine_eq, List.length_cons]; omega) fun h' F' N' => h h' F' N'
  · unfold seqIndex?
    simp
  · rfl
theorem truthy_led {l : Addr} {vs : List Value} {nn : Nat} {led : Led} {Q : Bool → Shared → Prop} (N : News h₀ L s.heap led) (hm : (l, listOf vs.toArray nn) ∈ led) (hsz : vs.length ≤ 1000) (h : Q (!vs.isEmpty) { s with toks := s.toks + 1 + 1 }) :
    wpAny (model prog w) A (truthy (.ref l)) Q E s :=
  wpAny_truthy_list (items := vs.toArray) ⟨_, (N _ hm).1, rfl, nn, rfl⟩ (by simp; omega) (by simpa using h)
theorem sliceApplied_two {sl : Addr} {u : Tok} {Q : Int × Int × Nat → Shared → Prop} (hs : s.heap.IsSliceOf sl .none (.int 2 u) .none) (h : Q (0, 1, 2) s) :
    wpAny (model prog w) A (Builtin.Slice.sliceApplied (.ref sl) (pure (3 : Int))) Q E s := by
  obtain ⟨os, hos, hcs, hds⟩ := id hs
  unfold Builtin.Slice.sliceApplied Builtin.Slice.sliceFields
  refine wpAny_bind (wpAny_bind (wpAny_field hos hds (x := .none) rfl (wpAny_bind (wpAny_field hos hds (x := .int 2 u) rfl (wpAny_bind (wpAny_field hos hds (x := .none) rfl (wpAny_pure ?_)))))))
  refine wpAny_bind (slicePart_none ?_)
  show wpAny _ _ (if ((1 : Int) == 0) = true then _ else _) _ _ s
  rw [if_neg (by decide)]
  refine wpAny_bind (slicePart_none (wpAny_bind (slicePart_int (wpAny_bind (wpAny_pure ?_)))))
  exact wpAny_pure h
theorem getItem_two {t sl : Addr} {v1 v2 v3 : Value} {u : Tok} {Q : Value → Shared → Prop} (ht : IsTup s.heap t #[v1, v2, v3]) (hs : s.heap.IsSliceOf sl .none (.int 2 u) .none)
    (h : Q (.ref s.heap.objs.size) { s with heap := s.heap.push { cls := .type "tuple", data := .seq #[v1, v2] } }) : wpAny (model prog w) A (getItem (.ref t) (.ref sl)) Q E s := by
  have hdrop : sizeOk (.seq #[v1, v2]) := by
    show (2 : Nat) ≤ sizeLine
    rw [sizeLine_eq]; decide
  obtain ⟨os, hos, hcs, hds⟩ := id hs
  have hTs : s.TypeIs (.ref sl) "slice" := ⟨os, hos, hcs⟩
  unfold getItem
  try with_reducible refine wpAny_holding ?_
  first | refine wpAny_bind (wpAny_pure ?_) | skip
  refine wpAny_bind (wpAny_sequenceKey ht.typeIs (by decide) ?_)
  refine wpAny_bind (wpAny_callSpecial?_slot (name := Str.ofString "__getitem__") ht.typeIs slot_tuple_getitem
    (wpAny_call_entry slot_tuple_getitem ht.typeIs entry_tuple_getitem ?_ (args_tuple_getitem _ _)))
  show wpAny _ _ (Builtin.Tuple.tupleItemsOf (.ref t) >>= _) _ _ s
  refine wpAny_bind (tupleItemsOf_ ht ?_)
  refine wpAny_bind (wpAny_typeOf hTs ?_)
  rw [if_pos (by decide)]
  refine wpAny_bind (sliceApplied_two hs ?_)
  show wpAny _ _ (if ((0 : Int) == 0 && (1 : Int) == 1 && (2 == 3)) = true then _ else _) _ _ s
  rw [if_neg (by decide)]
  first
    | exact wpAny_bind (m := Builtin.Tuple.tupleExact _) (wpAny_newObj_type (wpAny_pure ⟨_, rfl, wpAny_pure h⟩) hdrop)
    | exact wpAny_bind (m := Builtin.Tuple.tupleExact _) (wpAny_newObj_type (wpAny_bind (wpAny_pure (wpAny_pure ⟨_, rfl, wpAny_pure h⟩))) hdrop)
    | exact wpAny_bind (wpAny_bind (m := Builtin.Tuple.tupleExact _) (wpAny_newObj_type (wpAny_pure (wpAny_pure ⟨_, rfl, wpAny_pure h⟩)) hdrop))
    | exact wpAny_bind (wpAny_bind (m := Builtin.Tuple.tupleExact _) (wpAny_newObj_type (wpAny_pure ⟨_, rfl, wpAny_pure h⟩) hdrop))
theorem slice_two {value slice : PySem.Expr} {t : Addr} {v1 v2 v3 : Value} {u : Tok} {n : Nat} {news : Led} {Q : Value → Shared → Prop}
    (F : Fr h₀ L s.heap m) (N : News h₀ L s.heap news) (hm : (t, ({ cls := .type "tuple", data := .seq #[v1, v2, v3] n } : Obj)) ∈ news)
    (h : ∀ D h', Fr h₀ L h' m → News h₀ L h' ((D, { cls := .type "tuple", data := .seq #[v1, v2] }) :: news) → Q (.ref D) { s with heap := h' })
    (hs : subscripted slice false (.ref t) (.ref s.heap.objs.size) = operate [.ref s.heap.objs.size, .ref t] (getItem (.ref t) (.ref s.heap.objs.size)))
    (hg : ∀ r, letTemporaryGo value (.ref t) r = pure ()) :
    wpAny (model prog w) A (subscriptTail value slice (.ref t) (.ref s.heap.objs.size)) Q E { s with heap := s.heap.push { cls := .type "slice", data := .fields #[.none, .int 2 u, .none] } } := by
  have ht : IsTup s.heap t #[v1, v2, v3] := ⟨_, (N _ hm).1, rfl, n, rfl⟩
  have ht' : IsTup (s.heap.push { cls := .type "slice", data := .fields #[.none, .int 2 u, .none] }) t #[v1, v2, v3] := ht.keeps fun _ _ e => Heap.get?_push_of_some _ e
  refine subscriptTail_ops (s := { s with heap := s.heap.push { cls := .type "slice", data := .fields #[.none, .int 2 u, .none] } }) ht'.typeIs slot_tuple_getitem.lookup
    (getItem_two ht' (Heap.IsSliceOf.new ..) ?_) hs hg
  have N1 := News.push (F.push { cls := .type "slice", data := .fields #[.none, .int 2 u, .none] }) (N.grown fun _ _ e => Heap.get?_push_of_some _ e) { cls := .type "tuple", data := .seq #[v1, v2] }
  rw [Heap.size_push] at N1
  show Q (.ref (s.heap.push _).objs.size) _
  rw [Heap.size_push]
  exact h _ _ ((F.push _).push _) N1
end
end Mine
theorem Mine.say_j_38 : True := by
  k_with "subscriptTail Name Slice ref ref" => (k_here; (with_reducible show wpAny _ _ (subscriptTail _ (PySem.Expr.Slice none (some _) none _) (Value.ref _) (Value.ref _)) _ _ _); k_dflt (refine' Mine.slice_two (s := ⟨_, _, _, _, _⟩) ?yF_38 ?yN_38 ?yl_38 ?_ ?ys_38 ?yt_38; (case yF_38 => k_asm); (case yN_38 => k_asm); (case yl_38 => k_memK); (case ys_38 => with_unfolding_all rfl); (case yt_38 => kmk_pure)); intro D' h' F' N')
  trivial
theorem Mine.say_j_39 : True := by
  k_with "call builtin:list.pop" => (k_here; (with_reducible show wpAny _ _ (call (Value.builtin "list.pop") [Value.ref _, Value.int _ _]) _ _ _); k_dflt (refine' Mine.pop_led ?yk1_39 ?yk2_39 ?yk3_39 ?yk4_39 ?_; (case yk1_39 => k_asm); (case yk2_39 => k_asm); (case yk3_39 => assumption); (case yk4_39 => assumption); k_whole); intro h' F' N')
  trivial
theorem Mine.say_j_40 : True := by
  k_with "truthy ref" => (k_here; (with_reducible show wpAny _ _ (truthy (Value.ref _)) _ _ _); k_dflt (refine' Mine.truthy_led ?yk1_40 ?yk2_40 ?yk3_40 ?_; (case yk1_40 => k_asm); (case yk2_40 => k_memK); (case yk3_40 => assumption); k_whole))
  trivial
namespace Mine
theorem start_held {g h : Heap} {L' x dx l bl hl : Addr} {tup one : Addr × Obj} {zs : List Value} {n1 n2 n3 dn : Nat} {dh : Int} {dk : Tok} {led : Led}
    (N : News g L' h (tup :: (hl, listOf zs.toArray n1) :: one :: (bl, listOf #[] n2) :: (x, instObj 184 dx) :: (dx, hdrDict dh dk l dn) :: (l, listOf #[] n3) :: led)) (hz : IntsAre zs (List.replicate 12 0))
    (a1 : AllLt dx led) (a2 : dx < x) (a3 : x < l) (b1 : x < bl ∧ dx < bl ∧ l < bl ∧ AllLt bl led) (c1 : one.1 < hl ∧ bl < hl ∧ x < hl ∧ dx < hl ∧ l < hl ∧ AllLt hl led) : ∃ led', News g L' h led' ∧ HeldC x dx l bl hl sim0 led led' := by
  have off : ∀ {a : Addr}, AllLt a led → Off a led := fun h p hp => Nat.ne_of_lt (kst_ltOf h p hp)
  have offl : Off l led := fun p hp => Nat.ne_of_lt (Nat.lt_trans (kst_ltOf a1 p hp) (Nat.lt_trans a2 a3))
  refine ⟨(x, instObj 184 dx) :: (dx, hdrDict dh dk l dn) :: (l, listOf ([] : List Value).toArray n3) :: (bl, listOf ([] : List Value).toArray n2) :: (hl, listOf zs.toArray n1) :: led, news_sub N fun p hp => ?_, [], Held.intro .nil .nil hz (fun _ h => h) offl (off b1.2.2.2) (off c1.2.2.2.2.2)
    ⟨Nat.ne_of_lt a3, Nat.ne_of_lt (Nat.lt_trans a2 a3), Nat.ne_of_gt b1.2.2.1, Nat.ne_of_gt c1.2.2.2.2.1, Nat.ne_of_lt b1.1, Nat.ne_of_lt b1.2.1, Nat.ne_of_gt c1.2.1, Nat.ne_of_lt c1.2.2.1, Nat.ne_of_lt c1.2.2.2.1⟩, Lines.nil⟩
  simp only [List.mem_cons] at hp ⊢
  grind
theorem num_free {k : Nat} (h : k < 3) : (num k == Str.ofString "free") = false := by
  have : k = 0 ∨ k = 1 ∨ k = 2 := by omega
  rcases this with rfl | rfl | rfl <;> decide +kernel
theorem run_c {w : World} {mean : ExcName → Option Value} {mg mb : Str → Option Value} {dp un : Nat} {gd : Option (List Code)} {cn : Str} {cs : Scope} {a : Addr} {ccd : Value} {cl : List (Str × Addr)} {outer : List Env} {A₀ : Around} {base h₀ : Heap} {L : Addr} {m : Str → Option Value} {s : Shared} {Q E : Value → Shared → Prop} {led : Led} {ts : List UInt8} {tt : Tok} {I : Nat → Sim → Nat → Prop} {ans : List Int} (P : Plan ts ans I) (B : Below A₀ base outer h₀) (F : Fr h₀ L s.heap m) (X : (Mine.hd.heap_39 w.params).In h₀) (T : Top PP LL mean mg mb h₀) (hk : cs.kind = .function)
    (N : News h₀ L s.heap led) (hd : dp + 8 < recursionLimit) (hu : un + 64 < cLine) (htz : ts.length = 9)
    (ret : ∀ hl hvs nh h' tk', IntsAre hvs ans → (∀ p ∈ led, p.1 ≠ hl) → Fr h₀ L h' m → News h₀ L h' ((hl, listOf hvs.toArray nh) :: led) → Q (.ref hl) { s with heap := h', toks := tk' }) :
    wpAny (MM w) (ktrTop dp un gd cn cs L a ccd cl outer) (call (.ref 234) [.bytes ts.toArray tt] []) Q E s := by
  walk_at "ENTER"
  intro g L' h₁ FG F' N' B' X' T'
  replace F' : Fr g L' h₁ (fun y => List.lookup y [("tape", .bytes ts.toArray tt)]) := F'
  have hMk := kstMark
  refine noRaise ?_
  try dsimp only
  walk_at "STEPS"
  rename News _ _ _ _ => N₂
  rename Fr _ _ _ _ => F₂
  rename IntsAre _ _ => hi
  obtain ⟨led₁, N₃, H⟩ := start_held N₂ hi (by assumption) (by assumption) (by assumption) (by assumption) (by assumption)
  clear N₂
  have ok0 : sim0.Ok 100 := ⟨rfl, .nil, by decide, fun b _ w d e => nomatch e⟩
  refine' beg_h (wk := 0) ?k1 F₂ ?k3 ?k4 ?k5 N₃ H (fun _ h => h) ?k8 ?k9 (ok0.less (by decide)) (by decide) (by decide) (by decide) htz ?_
  case k1 => k_asm
  case k3 => k_asm
  case k4 => k_asm
  case k5 => exact rfl
  case k8 => ktr_room
  case k9 => ktr_units
  clear N₃ H F₂
  intro led₂ h₂ tk₂ H F₂ N₂
  walk_at "STEPS"
  rename News _ _ _ _ => N₃
  rename Fr _ _ _ _ => F₃
  obtain ⟨n0, hI⟩ := P.start
  rename HeldC _ _ _ _ _ _ _ led₂ => H
  refine While_inv2 (n₀ := n0) (fun n m nx => ∃ (x dx l bl hl : Addr) (S : Sim) (c : Nat), HeldC x dx l bl hl S led nx ∧ I n S c ∧ m "line" = some (.ref x) ∧ m "bells" = some (.ref bl) ∧ m "hours" = some (.ref hl) ∧ m "tape" = some (.bytes ts.toArray tt) ∧ HasI m "come" (c : Int)) F₃ N₃ ?_ ?_ nah_passes
  · exact ⟨_, _, _, _, _, _, 1, H, hI, rfl, rfl, rfl, rfl, ⟨_, rfl⟩⟩
  · clear F₃ N₃ H hI
    rintro n m₁ nx h3 tk F₃ N₃ ⟨x, dx, l, bl, hl, S, c, ⟨hs, H, C⟩, hI, e1, e2, e3, e4, ⟨tc, e5⟩⟩
    have ok := P.ok n S c hI
    obtain ⟨dh, dk, dn, vs, nn, bvs, nb, hvs, nh, more, rfl, hp, ht, hi, hr, o1, o2, o3, d1, d2, d3, d4, d5, d6, d7, d8, d9⟩ := H
    have F₄ := fr_knows [("line", .ref x), ("bells", .ref bl), ("hours", .ref hl), ("tape", .bytes ts.toArray tt), ("come", .int (c : Int) tc)] F₃ (by simp [e1, e2, e3, e4, e5])
    clear F₃
    cases hbs : S.bs with
    | nil =>
      rw [hbs] at ht
      cases ht
      have hvr : ([] : List Value).length ≤ 1000 := by decide
      walk_at "STEPS"
      rename News _ _ _ _ => N₆
      rename Fr _ _ _ _ => F₆
      have hfin := P.fin n S c hI hbs
      exact ret hl hvs nh _ _ (hfin ▸ hi) (fun p hp => o3 p (hr p hp)) F₆ (news_sub N₆ fun p hp => by
        rcases List.mem_cons.mp hp with rfl | hp
        · simp
        · simp [hr p hp])
    | cons y r =>
      obtain ⟨h, b, wk0⟩ := y
      rw [hbs] at ht
      cases ht with
      | @cons a _ u1 u2 u3 na vr _ hma hr' =>
      obtain ⟨bn, wk, rfl, hb3, hcb, n', hn', hI'⟩ := P.step n S c h b wk0 r hI hbs
      have N₅ := news_sub (l' := (bl, listOf (.ref a :: vr).toArray nb) :: (a, tripObj (h, (bn : Int), wk0) u1 u2 u3 na) :: (x, instObj 184 dx) :: (dx, hdrDict dh dk l dn) :: (l, listOf vs.toArray nn) :: (hl, listOf hvs.toArray nh) :: more) N₃ (by
        intro p hp
        simp only [List.mem_cons] at hp ⊢
        grind)
      have hoff : ∀ p ∈ (a, tripObj (h, (bn : Int), wk0) u1 u2 u3 na) :: (x, instObj 184 dx) :: (dx, hdrDict dh dk l dn) :: (l, listOf vs.toArray nn) :: (hl, listOf hvs.toArray nh) :: more, p.1 ≠ bl := off_cons (o2 _ hma) (off_cons d5 (off_cons d6 (off_cons (Ne.symm d3) (off_cons d7 o2))))
      have hvr : vr.length ≤ 1000 := by have h1 := hr'.length; have h2 := ok.few; rw [hbs] at h2; simp at h2; omega
      have hvr' : (Value.ref a :: vr).length ≤ 1000 := by have h1 := hr'.length; have h2 := ok.few; rw [hbs] at h2; simp at h2 ⊢; omega
      clear N₃
      walk_at "STEPS"
      · rename (List.isEmpty _ = true) => hx
        cases hx
      · rename News _ _ _ _ => N₆
        rename Fr _ _ _ _ => F₆
        have H₆ : HeldC x dx l bl hl ⟨S.c, r, S.ns⟩ led ((x, instObj 184 dx) :: (dx, hdrDict dh dk l dn) :: (l, listOf vs.toArray nn) :: (bl, listOf vr.toArray (nb + 1)) :: (hl, listOf hvs.toArray nh) :: more) :=
          ⟨hs, Held.intro hp hr' hi hr o1 o2 o3 ⟨d1, d2, d3, d4, d5, d6, d7, d8, d9⟩, C⟩
        have hv : (up bn == Txt.item (Str.ofString "ABC") (bn : Int)) = true := by
          have h3 : bn = 0 ∨ bn = 1 ∨ bn = 2 := by omega
          rcases h3 with rfl | rfl | rfl <;> decide +kernel
        have okp := ok.pop hbs (wk := wk) (b := bn) hb3 hcb
        refine' add_h (S := ⟨S.c, r, S.ns⟩) (b := bn) (wk := wk) ?k1 F₆ ?k3 ?k4 ?k5 N₆ H₆ ?k7 ?k8 ?k9 hb3 hv hcb ?_
        case k1 => k_asm
        case k3 => k_asm
        case k4 => k_asm
        case k5 => exact rfl
        case k7 =>
          intro q hq
          simp only [List.mem_cons] at hq ⊢
          grind
        case k8 => ktr_room
        case k9 => ktr_units
        clear N₆ H₆ F₆
        intro led₇ h₇ tk₇ H₇ F₇ N₇
        walk_at "STEPS"
        rename News _ _ _ _ => N₆
        rename Fr _ _ _ _ => F₆
        rename HeldC _ _ _ _ _ _ _ led₇ => H₇
        refine' mov_h ?k1 F₆ ?k3 ?k4 ?k5 N₆ H₇ (fun _ h => h) ?k8 ?k9 (okp.less ?ka) ?kb ?kc htz ?_
        case k1 => k_asm
        case k3 => k_asm
        case k4 => k_asm
        case k5 => exact rfl
        case k8 => ktr_room
        case k9 => ktr_units
        case ka => omega
        case kb => omega
        case kc => omega
        clear N₆ H₇ F₆
        intro led₈ h₈ tk₈ H₈ F₈ N₈
        have eb : ((bn : Int) + 1).toNat = bn + 1 := by omega
        rw [eb] at H₈
        have ok₈ := movF_ok (ts := ts) (h := h) (bn + 1) 3 (by omega) (okp.less (by omega))
        revert H₈ ok₈
        dsimp only [stepF, comeF] at hI'
        generalize movF ts h (bn + 1) ⟨upd S.c bn (some (wk, true)), r, S.ns⟩ = S₂ at hI' ⊢
        intro H₈ ok₈
        obtain ⟨dh2, dk2, dn2, bvs2, nb2, more2, hop⟩ := H₈.open
        have N₉ := (hop _ _ _ N₈).1
        clear hop N₈
        walk_at "STEPS"
        · rename ((num _ == Str.ofString "free") = true) => hx
          rename (S₂.c 0 = some _) => hc0
          rw [num_free (ok₈.wk 0 (by decide) _ _ hc0)] at hx
          cases hx
        · rename ((num _ == Str.ofString "free") = true) => hx
          rename (S₂.c 0 = some _) => hc0
          rw [num_free (ok₈.wk 0 (by decide) _ _ hc0)] at hx
          cases hx
        · rename (S₂.c 0 = some _) => hc0
          rename News _ _ _ _ => N₉
          rename Fr _ _ _ _ => F₉
          rw [hc0] at hI'
          exact ⟨_, _, _, _, n', rfl, F₉, news_sub N₉ (fun q hq => .tail _ (.tail _ (.tail _ hq))), hn', x, dx, l, bl, hl, S₂, c, H₈, hI', rfl, rfl, rfl, rfl, ⟨tc, rfl⟩⟩
        · rename (S₂.c 0 = none) => hc0
          rename News _ _ _ _ => N₉
          rename Fr _ _ _ _ => F₉
          rename ((c : Int) < 3) => hc3
          have hc3' : c < 3 := by omega
          simp only [hc0, Option.isNone_none, Bool.true_and, decide_eq_true hc3', if_true] at hI'
          refine' beg_h (wk := c) ?k1 F₉ ?k3 ?k4 ?k5 N₉ H₈ (fun q hq => .tail _ (.tail _ (.tail _ hq))) ?k8 ?k9 (ok₈.less (by decide)) (by decide) (by decide) hc3' htz ?_
          case k1 => k_asm
          case k3 => k_asm
          case k4 => k_asm
          case k5 => exact rfl
          case k8 => ktr_room
          case k9 => ktr_units
          clear N₉ H₈ F₉
          intro led₉ h₉ tk₉ H₉ F₉ N₉
          walk_at "STEPS"
          rename News _ _ _ _ => N₁
          rename Fr _ _ _ _ => F₁
          exact ⟨_, _, _, _, n', rfl, F₁, N₁, hn', x, dx, l, bl, hl, _, c + 1, H₉, hI', rfl, rfl, rfl, rfl, ⟨_, rfl⟩⟩
        · rename (S₂.c 0 = none) => hc0
          rename News _ _ _ _ => N₉
          rename Fr _ _ _ _ => F₉
          rename (¬ (c : Int) < 3) => hc3
          have hc3' : ¬ c < 3 := by omega
          simp only [hc0, Option.isNone_none, Bool.true_and, decide_eq_false hc3', Bool.false_eq_true, if_false] at hI'
          exact ⟨_, _, _, _, n', rfl, F₉, news_sub N₉ (fun q hq => .tail _ (.tail _ (.tail _ hq))), hn', x, dx, l, bl, hl, S₂, c, H₈, hI', rfl, rfl, rfl, rfl, ⟨tc, rfl⟩⟩
end Mine

namespace Mine
/-! ways through the line as plain data -/
abbrev Way := Int × List Int
abbrev wayObj (x : Int) (tx : Tok) (nl : Addr) (n : Nat) : Obj := { cls := .type "tuple", data := .seq #[.int x tx, .ref nl] n }
inductive Ways (led : Led) : List Value → List Way → Prop
  | nil : Ways led [] []
  | cons {a nl : Addr} {x : Int} {tx : Tok} {n k : Nat} {nvs : List Value} {ns : List Int} {vs : List Value} {ws : List Way} :
      (a, wayObj x tx nl n) ∈ led → (nl, listOf nvs.toArray k) ∈ led → IntsAre nvs ns → Ways led vs ws → Ways led (.ref a :: vs) ((x, ns) :: ws)
theorem Ways.length {led : Led} {vs : List Value} {ws : List Way} (h : Ways led vs ws) : vs.length = ws.length := by
  induction h with
  | nil => rfl
  | cons _ _ _ _ ih => simp [ih]
theorem Ways.mono {led led' : Led} {vs : List Value} {ws : List Way} (h : Ways led vs ws) (hs' : ∀ p ∈ led, p ∈ led') : Ways led' vs ws := by
  induction h with
  | nil => exact .nil
  | cons m m' hi _ ih => exact .cons (hs' _ m) (hs' _ m') hi ih
theorem Ways.snoc {led : Led} {vs : List Value} {ws : List Way} {a nl : Addr} {x : Int} {tx : Tok} {n k : Nat} {nvs : List Value} {ns : List Int} (h : Ways led vs ws) (hm : (a, wayObj x tx nl n) ∈ led) (hm' : (nl, listOf nvs.toArray k) ∈ led) (hi : IntsAre nvs ns) :
    Ways led (vs ++ [.ref a]) (ws ++ [(x, ns)]) := by
  induction h with
  | nil => exact .cons hm hm' hi .nil
  | cons m m' hi' _ ih => exact .cons m m' hi' ih
theorem Ways.get {led : Led} {vs : List Value} {ws : List Way} (h : Ways led vs ws) : ∀ {i : Nat} {u : Value}, vs[i]? = some u →
    ∃ a nl x tx n k nvs ns, u = .ref a ∧ ws[i]? = some (x, ns) ∧ (a, wayObj x tx nl n) ∈ led ∧ (nl, listOf nvs.toArray k) ∈ led ∧ IntsAre nvs ns := by
  induction h with
  | nil => intro i u e; simp at e
  | @cons a nl x tx n k nvs ns vs ws m m' hi _ ih =>
    intro i u e
    cases i with
    | zero => simp at e; exact ⟨a, nl, x, tx, n, k, nvs, ns, e.symm, by simp, m, m', hi⟩
    | succ i => simp at e; simpa using ih e
/-- a way's two ways on -/
def extF (ts : List UInt8) (p : Way) : List Way :=
  let z := p.2.getLastD 0
  (if z.fmod 4 < 3 then [(p.1 + ((ts.getD (z.fdiv 4 * 3 + z.fmod 4).toNat 0).toNat : Int), p.2 ++ [z + 1])] else []) ++ (if 0 < z.fmod 4 ∧ z < 8 then [(p.1, p.2 ++ [z + 3])] else [])
def longF (ts : List UInt8) (ws : List Way) : List Way := ws.flatMap (extF ts)
def putMax (ah : List Int) (z x : Int) : List Int := ah.set z.toNat (if x > ah.getD z.toNat 0 then x else ah.getD z.toNat 0)
def aheadF (ws : List Way) (ah : List Int) : List Int := ws.foldl (fun ah p => putMax ah (p.2.getLastD 0) p.1) ah
def overF (x : Int) (ns : List Int) (th : List Int) : List Int := ns.foldl (fun th z => putMax th z x) th
def thruF (ws : List Way) (th : List Int) : List Int := ws.foldl (fun th p => overF p.1 p.2 th) th
/-- the ways of i steps, and what they say of the hours -/
def waysI (ts : List UInt8) : Nat → List Way
  | 0 => [(0, [0])]
  | i + 1 => longF ts (waysI ts i)
def aheadI (ts : List UInt8) : Nat → List Int
  | 0 => List.replicate 12 0
  | i + 1 => aheadF (waysI ts (i + 1)) (aheadI ts i)
/-- what the ledger bears of it -/
structure HW (al tl wl : Addr) (ah th : List Int) (ws : List Way) (rest led : Led) : Prop where
  mk ::
  out : ∃ (avs : List Value) (na : Nat) (tvs : List Value) (nt : Nat) (wvs : List Value) (nw : Nat) (more : Led),
    led = (al, listOf avs.toArray na) :: (tl, listOf tvs.toArray nt) :: more ∧ IntsAre avs ah ∧ IntsAre tvs th ∧ (wl, listOf wvs.toArray nw) ∈ more ∧ Ways more wvs ws ∧ (∀ p ∈ rest, p ∈ more) ∧ Off al more ∧ Off tl more ∧ (@Ne Nat al tl)
section
variable {prog : Program} {w : World} {A : Around} {E : Value → Shared → Prop} {s : Shared} {h₀ : Heap} {L : Addr}
/-- the last item of a list of the ledger -/
theorem last_led {value slice : PySem.Expr} {l : Addr} {vs : List Value} {v : Value} {nn : Nat} {led : Led} {u : Tok} {Q : Value → Shared → Prop} (N : News h₀ L s.heap led) (hm : (l, listOf (vs ++ [v]).toArray nn) ∈ led) (hz : vs.length ≤ 1000) (h : Q v s)
    (hs : subscripted slice false (.ref l) (.int (-1) u) = operate [.ref l, .int (-1) u] (getItem (.ref l) (.int (-1) u)) := by with_unfolding_all rfl) :
    wpAny (model prog w) A (subscriptTail value slice (.ref l) (.int (-1) u)) Q E s :=
  have hl : s.heap.IsList l (vs ++ [v]).toArray := ⟨_, (N _ hm).1, rfl, nn, rfl⟩
  tail_any hl.typeIs slot_list_getitem.lookup (wpAny_getItem_list_neg hl (by decide) (by simp; omega) (by decide) (by
    have e : ((-1 : Int) + ((vs ++ [v]).toArray.size : Int)).toNat = vs.length := by simp; omega
    rw [e]; simp) h) hs
end
/-- nodes that are nodes -/
def WayOk (i : Nat) (p : Way) : Prop := p.2.length = i + 1 ∧ ∀ z ∈ p.2, 0 ≤ z ∧ z < 12
theorem WayOk.last {i : Nat} {p : Way} (h : WayOk i p) : 0 ≤ p.2.getLastD 0 ∧ p.2.getLastD 0 < 12 := by
  have hne : p.2 ≠ [] := by intro e; have := h.1; rw [e] at this; simp at this
  have : p.2.getLastD 0 ∈ p.2 := by
    rw [List.getLastD_eq_getLast?, List.getLast?_eq_some_getLast hne]
    exact List.getLast_mem hne
  exact h.2 _ this
theorem WayOk.ext {ts : List UInt8} {i : Nat} {p q : Way} (h : WayOk i p) (hq : q ∈ extF ts p) : WayOk (i + 1) q := by
  have hl := h.last
  unfold extF at hq
  simp only at hq
  generalize p.2.getLastD 0 = z at hq hl
  rw [Int.fmod_eq_emod_of_nonneg z (by decide)] at hq
  rcases List.mem_append.mp hq with hq | hq
  · split at hq
    · rename_i hz
      rw [List.mem_singleton] at hq
      subst hq
      refine ⟨by simp [h.1], fun y hy => ?_⟩
      rcases List.mem_append.mp hy with hy | hy
      · exact h.2 y hy
      · rw [List.mem_singleton.mp hy]; omega
    · cases hq
  · split at hq
    · rename_i hz
      rw [List.mem_singleton] at hq
      subst hq
      refine ⟨by simp [h.1], fun y hy => ?_⟩
      rcases List.mem_append.mp hy with hy | hy
      · exact h.2 y hy
      · rw [List.mem_singleton.mp hy]; omega
    · cases hq
theorem waysI_ok {ts : List UInt8} : ∀ (i : Nat), ∀ p ∈ waysI ts i, WayOk i p
  | 0, p, hp => by
    have : p = (0, [0]) := by simpa [waysI] using hp
    subst this
    exact ⟨rfl, fun z hz => by have : z = 0 := by simpa using hz
                               subst this; decide⟩
  | i + 1, p, hp => by
    obtain ⟨q, hq, hp⟩ := List.mem_flatMap.mp hp
    exact (waysI_ok i q hq).ext hp
theorem extF_len {ts : List UInt8} {p : Way} : (extF ts p).length ≤ 2 := by
  unfold extF
  simp only [List.length_append]
  split <;> split <;> simp
theorem longF_len {ts : List UInt8} : ∀ (ws : List Way), (longF ts ws).length ≤ 2 * ws.length
  | [] => by simp [longF]
  | p :: ws => by
    have h1 := extF_len (ts := ts) (p := p)
    have h2 := longF_len (ts := ts) ws
    unfold longF at h2 ⊢
    rw [List.flatMap_cons, List.length_append, List.length_cons]
    omega
theorem waysI_len {ts : List UInt8} : ∀ (i : Nat), (waysI ts i).length ≤ 2 ^ i
  | 0 => by simp [waysI]
  | i + 1 => by
    have h1 := longF_len (ts := ts) (waysI ts i)
    have h2 := waysI_len (ts := ts) i
    show (longF ts (waysI ts i)).length ≤ 2 ^ (i + 1)
    rw [Nat.pow_succ]; omega
theorem longF_snoc {ts : List UInt8} {ws : List Way} {i : Nat} {p : Way} (h : ws[i]? = some p) : longF ts (ws.take (i + 1)) = longF ts (ws.take i) ++ extF ts p := by
  rw [take_snoc h]
  unfold longF
  rw [List.flatMap_append]
  simp
theorem aheadF_snoc {ws : List Way} {ah : List Int} {i : Nat} {p : Way} (h : ws[i]? = some p) : aheadF (ws.take (i + 1)) ah = putMax (aheadF (ws.take i) ah) (p.2.getLastD 0) p.1 := by
  rw [take_snoc h]
  unfold aheadF
  rw [List.foldl_append]; rfl
theorem thruF_snoc {ws : List Way} {ah : List Int} {i : Nat} {p : Way} (h : ws[i]? = some p) : thruF (ws.take (i + 1)) ah = overF p.1 p.2 (thruF (ws.take i) ah) := by
  rw [take_snoc h]
  unfold thruF
  rw [List.foldl_append]; rfl
theorem overF_snoc {x : Int} {ns th : List Int} {i : Nat} {z : Int} (h : ns[i]? = some z) : overF x (ns.take (i + 1)) th = putMax (overF x (ns.take i) th) z x := by
  rw [take_snoc h]
  unfold overF
  rw [List.foldl_append]; rfl
theorem putMax_len {ah : List Int} {z x : Int} : (putMax ah z x).length = ah.length := by simp [putMax]
theorem aheadF_len : ∀ {ws : List Way} {ah : List Int}, (aheadF ws ah).length = ah.length
  | [], _ => rfl
  | p :: ws, ah => by
    show (aheadF ws (putMax ah _ _)).length = _
    rw [aheadF_len, putMax_len]
theorem overF_len {x : Int} : ∀ {ns th : List Int}, (overF x ns th).length = th.length
  | [], _ => rfl
  | z :: ns, th => by
    show (overF x ns (putMax th _ _)).length = _
    rw [overF_len, putMax_len]
theorem thruF_len : ∀ {ws : List Way} {ah : List Int}, (thruF ws ah).length = ah.length
  | [], _ => rfl
  | p :: ws, ah => by
    show (thruF ws (overF _ _ ah)).length = _
    rw [thruF_len, overF_len]
theorem aheadI_len {ts : List UInt8} : ∀ {i : Nat}, (aheadI ts i).length = 12
  | 0 => rfl
  | i + 1 => by
    show (aheadF _ _).length = _
    rw [aheadF_len, aheadI_len]
theorem intsAre_snoc {vs : List Value} {ns : List Int} (h : IntsAre vs ns) (hn : ns ≠ []) : ∃ iv t, vs = iv ++ [.int (ns.getLastD 0) t] := by
  induction h with
  | nil => exact absurd rfl hn
  | @cons z t vs ns r ih =>
    cases r with
    | nil => exact ⟨[], t, rfl⟩
    | @cons z' t' vs ns r =>
      obtain ⟨iv, t', e⟩ := ih (by simp)
      refine ⟨.int z t :: iv, t', ?_⟩
      rw [e]
      simp only [List.getLastD_cons, List.cons_append]
theorem new_off {lg T D : Addr} {o o' : Obj} {new : Led} (h1 : lg < T) (h2 : lg < D) (h : Off lg new) : Off lg ((T, o) :: (D, o') :: new) := off_cons (Nat.ne_of_gt h1) (off_cons (Nat.ne_of_gt h2) h)
theorem fst_ext {ts : List UInt8} {x z : Int} {ns : List Int} (hz : ns.getLastD 0 = z) (h1 : z.fmod 4 < 3) (h2 : ¬ (0 < z.fmod 4 ∧ z < 8)) : extF ts (x, ns) = [(x + ((ts.getD (z.fdiv 4 * 3 + z.fmod 4).toNat 0).toNat : Int), ns ++ [z + 1])] := by
  unfold extF
  simp only [hz]
  rw [if_pos h1, if_neg h2]; rfl
theorem snd_ext {ts : List UInt8} {x z : Int} {ns : List Int} (hz : ns.getLastD 0 = z) (h1 : ¬ z.fmod 4 < 3) (h2 : 0 < z.fmod 4 ∧ z < 8) : extF ts (x, ns) = [(x, ns ++ [z + 3])] := by
  unfold extF
  simp only [hz]
  rw [if_neg h1, if_pos h2]; rfl
theorem both_ext {ts : List UInt8} {x z : Int} {ns : List Int} (hz : ns.getLastD 0 = z) (h1 : z.fmod 4 < 3) (h2 : 0 < z.fmod 4 ∧ z < 8) : extF ts (x, ns) = [(x + ((ts.getD (z.fdiv 4 * 3 + z.fmod 4).toNat 0).toNat : Int), ns ++ [z + 1])] ++ [(x, ns ++ [z + 3])] := by
  unfold extF
  simp only [hz]
  rw [if_pos h1, if_pos h2]
theorem no_ext {ts : List UInt8} {x z : Int} {ns : List Int} (hz : ns.getLastD 0 = z) (h1 : ¬ z.fmod 4 < 3) (h2 : ¬ (0 < z.fmod 4 ∧ z < 8)) : extF ts (x, ns) = [] := by
  unfold extF
  simp only [hz]
  rw [if_neg h1, if_neg h2]; rfl
theorem news_skip2 {h₀ h : Heap} {L : Addr} {a b c d : Addr × Obj} {r : Led} (N : News h₀ L h (a :: b :: c :: d :: r)) : News h₀ L h (a :: c :: d :: r) := news_sub N fun p hp => by
  simp only [List.mem_cons] at hp ⊢
  grind
theorem start_hw {g h : Heap} {L' al tl wl : Addr} {t0 w0 t2 : Addr × Obj} {ow nl : Addr} {tw tn : Tok} {k1 k2 : Nat} {zs zs' : List Value} {n1 n2 n3 : Nat} {led : Led}
    (N : News g L' h (t0 :: (wl, listOf #[.ref ow] n3) :: (ow, wayObj 0 tw nl k1) :: (nl, listOf #[.int 0 tn] k2) :: (tl, listOf zs'.toArray n2) :: t2 :: (al, listOf zs.toArray n1) :: w0 :: led)) (hz : IntsAre zs (List.replicate 12 0)) (hz' : IntsAre zs' (List.replicate 12 0))
    (a0 : w0.1 < al ∧ AllLt al led) (a1 : al < t2.1 ∧ w0.1 < t2.1 ∧ AllLt t2.1 led) (a2 : t2.1 < tl ∧ al < tl ∧ w0.1 < tl ∧ AllLt tl led) (a3 : tl < nl ∧ t2.1 < nl ∧ al < nl ∧ w0.1 < nl ∧ AllLt nl led) (a4 : nl < ow ∧ tl < ow ∧ t2.1 < ow ∧ al < ow ∧ w0.1 < ow ∧ AllLt ow led) (a5 : ow < wl ∧ nl < wl ∧ tl < wl ∧ t2.1 < wl ∧ al < wl ∧ w0.1 < wl ∧ AllLt wl led) :
    ∃ led', News g L' h led' ∧ HW al tl wl (List.replicate 12 0) (List.replicate 12 0) [(0, [0])] led led' := by
  have off : ∀ {a : Addr}, AllLt a led → Off a led := fun h p hp => Nat.ne_of_lt (kst_ltOf h p hp)
  refine ⟨(al, listOf zs.toArray n1) :: (tl, listOf zs'.toArray n2) :: (wl, listOf [Value.ref ow].toArray n3) :: (ow, wayObj 0 tw nl k1) :: (nl, listOf [Value.int 0 tn].toArray k2) :: led, news_sub N fun p hp => ?_, ⟨_, _, _, _, _, _, _, rfl, hz, hz', .head _, .cons (.tail _ (.head _)) (.tail _ (.tail _ (.head _))) (.cons 0 tn .nil) .nil, fun p hp => .tail _ (.tail _ (.tail _ hp)), ?_, ?_, ?_⟩⟩
  · simp only [List.mem_cons] at hp ⊢
    grind
  · exact off_cons (Nat.ne_of_gt a5.2.2.2.2.1) (off_cons (Nat.ne_of_gt a4.2.2.2.1) (off_cons (Nat.ne_of_gt a3.2.2.1) (off a0.2)))
  · exact off_cons (Nat.ne_of_gt a5.2.2.1) (off_cons (Nat.ne_of_gt a4.2.1) (off_cons (Nat.ne_of_gt a3.1) (off a2.2.2.2)))
  · exact Nat.ne_of_lt a2.2.1
end Mine

theorem Mine.say_j_41 : True := by
  k_with "subscriptTail Name UnaryOp ref int" => (k_here; (with_reducible show wpAny _ _ (subscriptTail _ _ (Value.ref _) (Value.int (-1) _)) _ _ _); k_dflt (refine' Mine.last_led ?yk1_41 ?yk2_41 ?yk3_41 ?_ ?yk4_41; (case yk1_41 => k_asm); (case yk2_41 => k_memK); (case yk3_41 => assumption); (case yk4_41 => with_unfolding_all rfl); k_whole))
  trivial
namespace Mine
theorem mod_pos {z : Int} (h : ¬ z.fmod 4 < 3) : 0 < z.fmod 4 := by omega
section
variable {g h : Heap} {L' : Addr} {T D T2 D2 lg al tl I I0 a nd x1 x2 : Addr × Obj} {new : Led}
theorem news_one (N : News g L' h (T :: D :: x1 :: a :: nd :: lg :: al :: tl :: I0 :: I :: new)) : News g L' h (I :: lg :: al :: tl :: I0 :: T :: D :: new) := news_sub N fun p hp => by
  simp only [List.mem_cons] at hp ⊢
  grind
theorem news_swap (N : News g L' h (al :: tl :: new)) : News g L' h (tl :: al :: new) := news_sub N fun p hp => by
  simp only [List.mem_cons] at hp ⊢
  grind
theorem news_drop2 (N : News g L' h (a :: nd :: new)) : News g L' h new := news_sub N fun p hp => .tail _ (.tail _ hp)
theorem news_back (N : News g L' h (tl :: al :: I :: new)) : News g L' h (I :: tl :: al :: new) := news_sub N fun p hp => by
  simp only [List.mem_cons] at hp ⊢
  grind
theorem news_both (N : News g L' h (T :: D :: x1 :: T2 :: D2 :: x2 :: a :: nd :: lg :: al :: tl :: I0 :: I :: new)) : News g L' h (I :: lg :: al :: tl :: I0 :: T :: D :: T2 :: D2 :: new) := news_sub N fun p hp => by
  simp only [List.mem_cons] at hp ⊢
  grind
theorem news_none (N : News g L' h (a :: nd :: lg :: al :: tl :: I0 :: I :: new)) : News g L' h (I :: lg :: al :: tl :: I0 :: new) := news_sub N fun p hp => by
  simp only [List.mem_cons] at hp ⊢
  grind
theorem news_put (N : News g L' h (a :: nd :: al :: lg :: tl :: I0 :: I :: new)) : News g L' h (I :: lg :: al :: tl :: I0 :: new) := news_sub N fun p hp => by
  simp only [List.mem_cons] at hp ⊢
  grind
theorem news_last (N : News g L' h (lg :: al :: tl :: I0 :: new)) : News g L' h (I0 :: al :: tl :: lg :: new) := news_sub N fun p hp => by
  simp only [List.mem_cons] at hp ⊢
  grind
theorem news_rotI (N : News g L' h (lg :: I0 :: al :: tl :: new)) : News g L' h (lg :: al :: tl :: I0 :: new) := news_sub N fun p hp => by
  simp only [List.mem_cons] at hp ⊢
  grind
end
theorem news_fin {g h : Heap} {L' : Addr} {t tl al : Addr × Obj} {more led : Led} (hs : ∀ p ∈ led, p ∈ more) (N : News g L' h (t :: tl :: al :: more)) : News g L' h (t :: al :: tl :: led) := news_sub N fun p hp => by
  simp only [List.mem_cons] at hp ⊢
  rcases hp with h | h | h | h
  · exact .inl h
  · exact .inr (.inr (.inl h))
  · exact .inr (.inl h)
  · exact .inr (.inr (.inr (hs p h)))
theorem off_head {tl I : Addr} {o o' : Obj} {r : Led} (h : ∀ p ∈ (tl, o) :: r, p.1 ≠ I) : ∀ p ∈ (tl, o') :: r, p.1 ≠ I := off_cons (h _ (.head _)) fun p hp => h p (.tail _ hp)
theorem turn_off {lg al tl I0 I T D : Addr} {o0 o1 o1' o2 o2' o3 o3' oT oD : Obj} {new : Led} (h : ∀ p ∈ (lg, o1) :: (al, o2) :: (tl, o3) :: (I0, o0) :: new, p.1 ≠ I) (hT : I < T) (hD : I < D) : ∀ p ∈ (lg, o1') :: (al, o2') :: (tl, o3') :: (I0, o0) :: (T, oT) :: (D, oD) :: new, p.1 ≠ I :=
  off_cons (h _ (.head _)) (off_cons (h _ (.tail _ (.head _))) (off_cons (h _ (.tail _ (.tail _ (.head _)))) (off_cons (h _ (.tail _ (.tail _ (.tail _ (.head _))))) (new_off hT hD fun p hp => h p (.tail _ (.tail _ (.tail _ (.tail _ hp))))))))
theorem turn_off2 {lg al tl I0 I T D T2 D2 : Addr} {o0 o1 o1' o2 o2' o3 o3' oT oD oT2 oD2 : Obj} {new : Led} (h : ∀ p ∈ (lg, o1) :: (al, o2) :: (tl, o3) :: (I0, o0) :: new, p.1 ≠ I) (hT : I < T) (hD : I < D) (hT2 : I < T2) (hD2 : I < D2) : ∀ p ∈ (lg, o1') :: (al, o2') :: (tl, o3') :: (I0, o0) :: (T, oT) :: (D, oD) :: (T2, oT2) :: (D2, oD2) :: new, p.1 ≠ I :=
  off_cons (h _ (.head _)) (off_cons (h _ (.tail _ (.head _))) (off_cons (h _ (.tail _ (.tail _ (.head _)))) (off_cons (h _ (.tail _ (.tail _ (.tail _ (.head _))))) (new_off hT hD (new_off hT2 hD2 fun p hp => h p (.tail _ (.tail _ (.tail _ (.tail _ hp)))))))))
theorem turn_put {lg al tl I : Addr} {o1 o2 o2' o3 : Obj} {r : Led} (h : ∀ p ∈ (lg, o1) :: (al, o2) :: (tl, o3) :: r, p.1 ≠ I) : ∀ p ∈ (lg, o1) :: (al, o2') :: (tl, o3) :: r, p.1 ≠ I :=
  off_cons (h _ (.head _)) (off_cons (h _ (.tail _ (.head _))) (off_cons (h _ (.tail _ (.tail _ (.head _)))) fun p hp => h p (.tail _ (.tail _ (.tail _ hp)))))
theorem ways_c {w : World} {mean : ExcName → Option Value} {mg mb : Str → Option Value} {dp un : Nat} {gd : Option (List Code)} {cn : Str} {cs : Scope} {a : Addr} {ccd : Value} {cl : List (Str × Addr)} {outer : List Env} {A₀ : Around} {base h₀ : Heap} {L : Addr} {m : Str → Option Value} {s : Shared} {Q E : Value → Shared → Prop} {led : Led} {ts : List UInt8} {tt : Tok} (B : Below A₀ base outer h₀) (F : Fr h₀ L s.heap m) (X : (Mine.hd.heap_39 w.params).In h₀) (T : Top PP LL mean mg mb h₀) (hk : cs.kind = .function)
    (N : News h₀ L s.heap led) (hd : dp + 2 < recursionLimit) (hu : un + 16 < cLine) (htz : ts.length = 9)
    (ret : ∀ al tl t avs tvs na nt h' tk', IntsAre avs (aheadI ts 7) → IntsAre tvs (thruF (waysI ts 7) (List.replicate 12 0)) → Fr h₀ L h' m → News h₀ L h' ((t, { cls := .type "tuple", data := .seq #[.ref al, .ref tl] }) :: (al, listOf avs.toArray na) :: (tl, listOf tvs.toArray nt) :: led) → Q (.ref t) { s with heap := h', toks := tk' }) :
    wpAny (MM w) (ktrTop dp un gd cn cs L a ccd cl outer) (call (.ref 241) [.bytes ts.toArray tt] []) Q E s := by
  walk_at "ENTER"
  intro g L' h₁ FG F' N' B' X' T'
  replace F' : Fr g L' h₁ (fun y => List.lookup y [("tape", .bytes ts.toArray tt)]) := F'
  have hMk := kstMark
  refine noRaise ?_
  try dsimp only
  walk_at "STEPS"
  walk_at "FOR"
  walk_at "STEPS"
  try dsimp only
  rename News _ _ _ _ => N₂
  rename Fr _ _ _ _ => F₂
  rename IsRange _ _ _ _ _ _ _ _ => hr
  obtain ⟨led₁, N₃, H⟩ := start_hw N₂ (by assumption) (by assumption) (by assumption) (by assumption) (by assumption) (by assumption) (by assumption) (by assumption)
  clear N₂
  refine for_range (n := 7) (fun i m nx => ∃ al tl wl, HW al tl wl (aheadI ts i) (List.replicate 12 0) (waysI ts i) led nx ∧ m "ahead" = some (.ref al) ∧ m "through" = some (.ref tl) ∧ m "ways" = some (.ref wl) ∧ m "tape" = some (.bytes ts.toArray tt)) rfl rfl hr (by decide) (by decide) F₂ N₃ ⟨_, _, _, H, rfl, rfl, rfl, rfl⟩ ?_ ?_
  · clear F₂ N₃ H
    rintro i t m₁ nx h tk I o hi ⟨al, tl, wl, ⟨avs, na, tvs, nt, wvs, nw, more, rfl, ha, hth, hwl, hws, hre, oa, ot, hat⟩, e1, e2, e3, e4⟩ hI F₃ N₃
    have F₄ := fr_knows [("ahead", .ref al), ("through", .ref tl), ("ways", .ref wl), ("tape", .bytes ts.toArray tt)] F₃ (by simp [e1, e2, e3, e4])
    clear F₃
    walk_at "STEPS"
    walk_at "FOR"
    walk_at "STEPS"
    try dsimp only
    rename News _ _ _ _ => N₅
    rename Fr _ _ _ _ => F₅
    rename (I < _ ∧ al < _ ∧ tl < _ ∧ AllLt _ more) => l5
    have hwz := waysI_len (ts := ts) i
    have hwz' : (waysI ts i).length ≤ 64 := by
      have : i = 0 ∨ i = 1 ∨ i = 2 ∨ i = 3 ∨ i = 4 ∨ i = 5 ∨ i = 6 := by omega
      rcases this with rfl | rfl | rfl | rfl | rfl | rfl | rfl <;> exact Nat.le_trans hwz (by decide)
    have hvz : wvs.length ≤ 64 := by rw [hws.length]; exact hwz'
    refine for_list (L := L') (vs := wvs) (nn := nw) (fun j m nx => ∃ lg lvs nl new, nx = (lg, listOf lvs.toArray nl) :: (al, listOf avs.toArray na) :: (tl, listOf tvs.toArray nt) :: (I, o) :: new ∧ (∀ p ∈ more, p ∈ new) ∧ Ways new lvs (longF ts ((waysI ts i).take j)) ∧ Off lg new ∧ Off al new ∧ Off tl new ∧ Off I new ∧ (@Ne Nat al lg) ∧ (@Ne Nat tl lg) ∧ (@Ne Nat I lg) ∧
      m "ahead" = some (.ref al) ∧ m "through" = some (.ref tl) ∧ m "longer" = some (.ref lg) ∧ m "tape" = some (.bytes ts.toArray tt)) rfl rfl F₅ (news_rotI N₅) ?_ ?_ ?_ ?_
    · rintro j m nx ⟨lg, lvs, nl, new, rfl, hm, _⟩
      exact .tail _ (.tail _ (.tail _ (.tail _ (hm _ hwl))))
    · exact ⟨_, [], 0, more, rfl, fun p hp => hp, .nil, fun p hp => Nat.ne_of_lt (kst_ltOf l5.2.2.2 p hp), oa, ot, fun p hp => hI p (.tail _ (.tail _ hp)), Nat.ne_of_lt l5.2.1, Nat.ne_of_lt l5.2.2.1, Nat.ne_of_lt l5.1, rfl, rfl, rfl, rfl⟩
    · clear F₅ N₅ l5
      rintro j u m₂ nx h2 tk2 I2 o2 hu ⟨lg, lvs, nl, new, rfl, hmn, hlw, ol, oa', ot', oI, n1, n2, n3, f1, f2, f3, f4⟩ hI2 F₅ N₅
      obtain ⟨a, nd, x, tx, k1, k2, nvs, ns, rfl, hj, hma, hmn', hni⟩ := hws.get hu
      have hok := waysI_ok i _ (List.mem_of_getElem? hj)
      have hlast := hok.last
      have hnl := hok.1
      simp only at hnl hlast
      obtain ⟨iv, tz, rfl⟩ := intsAre_snoc hni (by intro e; rw [e] at hnl; simp at hnl)
      have hivz : iv.length ≤ 1000 := by have := hni.length; simp at this; omega
      have hlz : lvs.length ≤ 500 := by
        rw [hlw.length]
        refine Nat.le_trans (longF_len _) ?_
        rw [List.length_take]; omega
      have N₆ := news_sub (l' := (a, wayObj x tx nd k1) :: (nd, listOf (iv ++ [Value.int (ns.getLastD 0) tz]).toArray k2) :: (lg, listOf lvs.toArray nl) :: (al, listOf avs.toArray na) :: (tl, listOf tvs.toArray nt) :: (I, o) :: (I2, o2) :: new) N₅ (by
        intro p hp
        simp only [List.mem_cons] at hp ⊢
        rcases hp with rfl | rfl | hp
        · exact .inr (.inr (.inr (.inr (.inr (hmn _ hma)))))
        · exact .inr (.inr (.inr (.inr (.inr (hmn _ hmn')))))
        · rcases hp with hp | hp | hp | hp | hp | hp <;> simp [hp])
      have F₆ := fr_knows [("ahead", .ref al), ("through", .ref tl), ("longer", .ref lg), ("tape", .bytes ts.toArray tt)] F₅ (by simp [f1, f2, f3, f4])
      clear F₅ N₅
      have q1 : @Ne Nat a lg := ol _ (hmn _ hma)
      have q2 : @Ne Nat nd lg := ol _ (hmn _ hmn')
      have q4 : @Ne Nat I lg := n3
      have q3 : @Ne Nat I2 lg := Ne.symm (hI2 _ (.head _))
      have ol' : ∀ p ∈ new, p.1 ≠ lg := ol
      generalize hz : ns.getLastD 0 = z at hlast N₆ hni
      walk_at "STEPS"
      · rename News _ _ _ _ => N₇
        rename Fr _ _ _ _ => F₇
        rename (_ < _ ∧ _ < _ ∧ _ < _ ∧ _ < _ ∧ _ < _ ∧ a < _ ∧ nd < _ ∧ lg < _ ∧ al < _ ∧ tl < _ ∧ I < _ ∧ I2 < _ ∧ AllLt _ new) => lT
        rename (_ < _ ∧ _ < _ ∧ _ < _ ∧ _ < _ ∧ a < _ ∧ nd < _ ∧ lg < _ ∧ al < _ ∧ tl < _ ∧ I < _ ∧ I2 < _ ∧ AllLt _ new) => lD
        rename (_ < _ ∧ _ < _ ∧ a < _ ∧ nd < _ ∧ lg < _ ∧ al < _ ∧ tl < _ ∧ I < _ ∧ I2 < _ ∧ AllLt _ new) => lT2
        rename (_ < _ ∧ a < _ ∧ nd < _ ∧ lg < _ ∧ al < _ ∧ tl < _ ∧ I < _ ∧ I2 < _ ∧ AllLt _ new) => lD2
        rename IntsAre _ (ns ++ [z + 3]) => hIn
        rename IntsAre _ (ns ++ [z + 1]) => hIn2
        rw [List.push_toArray, List.push_toArray] at N₇
        refine TurnTo.next _ F₇ (news_both N₇) (turn_off2 hI2 lT.2.2.2.2.2.2.2.2.2.2.2.1 lD.2.2.2.2.2.2.2.2.2.2.1 lT2.2.2.2.2.2.2.2.2.1 lD2.2.2.2.2.2.2.2.1) ⟨lg, _, _, _, rfl, fun p hp => .tail _ (.tail _ (.tail _ (.tail _ (hmn p hp)))), ?_, new_off lT.2.2.2.2.2.2.2.1 lD.2.2.2.2.2.2.1 (new_off lT2.2.2.2.2.1 lD2.2.2.2.1 ol),
          new_off lT.2.2.2.2.2.2.2.2.1 lD.2.2.2.2.2.2.2.1 (new_off lT2.2.2.2.2.2.1 lD2.2.2.2.2.1 oa'), new_off lT.2.2.2.2.2.2.2.2.2.1 lD.2.2.2.2.2.2.2.2.1 (new_off lT2.2.2.2.2.2.2.1 lD2.2.2.2.2.2.1 ot'), new_off lT.2.2.2.2.2.2.2.2.2.2.1 lD.2.2.2.2.2.2.2.2.2.1 (new_off lT2.2.2.2.2.2.2.2.1 lD2.2.2.2.2.2.2.1 oI), n1, n2, n3, rfl, rfl, rfl, rfl⟩
        rw [longF_snoc hj, both_ext hz (by assumption) ⟨by assumption, by assumption⟩, ← List.append_assoc]
        exact ((hlw.mono fun p hp => .tail _ (.tail _ (.tail _ (.tail _ hp)))).snoc (.tail _ (.tail _ (.head _))) (.tail _ (.tail _ (.tail _ (.head _)))) hIn2).snoc (.head _) (.tail _ (.head _)) hIn
      · rename News _ _ _ _ => N₇
        rename Fr _ _ _ _ => F₇
        rename (_ < _ ∧ _ < _ ∧ a < _ ∧ nd < _ ∧ lg < _ ∧ al < _ ∧ tl < _ ∧ I < _ ∧ I2 < _ ∧ AllLt _ new) => lT
        rename (_ < _ ∧ a < _ ∧ nd < _ ∧ lg < _ ∧ al < _ ∧ tl < _ ∧ I < _ ∧ I2 < _ ∧ AllLt _ new) => lD
        rename IntsAre _ (ns ++ [z + 1]) => hIn
        rw [List.push_toArray] at N₇
        refine TurnTo.next _ F₇ (news_one N₇) (turn_off hI2 lT.2.2.2.2.2.2.2.2.1 lD.2.2.2.2.2.2.2.1) ⟨lg, _, _, _, rfl, fun p hp => .tail _ (.tail _ (hmn p hp)), ?_, new_off lT.2.2.2.2.1 lD.2.2.2.1 ol, new_off lT.2.2.2.2.2.1 lD.2.2.2.2.1 oa', new_off lT.2.2.2.2.2.2.1 lD.2.2.2.2.2.1 ot', new_off lT.2.2.2.2.2.2.2.1 lD.2.2.2.2.2.2.1 oI, n1, n2, n3, rfl, rfl, rfl, rfl⟩
        rw [longF_snoc hj, fst_ext hz (by assumption) (fun h => absurd h.2 (by assumption))]
        exact (hlw.mono fun p hp => .tail _ (.tail _ hp)).snoc (.head _) (.tail _ (.head _)) hIn
      · rename News _ _ _ _ => N₇
        rename Fr _ _ _ _ => F₇
        rename (_ < _ ∧ _ < _ ∧ a < _ ∧ nd < _ ∧ lg < _ ∧ al < _ ∧ tl < _ ∧ I < _ ∧ I2 < _ ∧ AllLt _ new) => lT
        rename (_ < _ ∧ a < _ ∧ nd < _ ∧ lg < _ ∧ al < _ ∧ tl < _ ∧ I < _ ∧ I2 < _ ∧ AllLt _ new) => lD
        rename IntsAre _ (ns ++ [z + 1]) => hIn
        rw [List.push_toArray] at N₇
        refine TurnTo.next _ F₇ (news_one N₇) (turn_off hI2 lT.2.2.2.2.2.2.2.2.1 lD.2.2.2.2.2.2.2.1) ⟨lg, _, _, _, rfl, fun p hp => .tail _ (.tail _ (hmn p hp)), ?_, new_off lT.2.2.2.2.1 lD.2.2.2.1 ol, new_off lT.2.2.2.2.2.1 lD.2.2.2.2.1 oa', new_off lT.2.2.2.2.2.2.1 lD.2.2.2.2.2.1 ot', new_off lT.2.2.2.2.2.2.2.1 lD.2.2.2.2.2.2.1 oI, n1, n2, n3, rfl, rfl, rfl, rfl⟩
        rw [longF_snoc hj, fst_ext hz (by assumption) (fun h => absurd h.1 (by assumption))]
        exact (hlw.mono fun p hp => .tail _ (.tail _ hp)).snoc (.head _) (.tail _ (.head _)) hIn
      · rename News _ _ _ _ => N₇
        rename Fr _ _ _ _ => F₇
        rename (_ < _ ∧ _ < _ ∧ a < _ ∧ nd < _ ∧ lg < _ ∧ al < _ ∧ tl < _ ∧ I < _ ∧ I2 < _ ∧ AllLt _ new) => lT
        rename (_ < _ ∧ a < _ ∧ nd < _ ∧ lg < _ ∧ al < _ ∧ tl < _ ∧ I < _ ∧ I2 < _ ∧ AllLt _ new) => lD
        rename IntsAre _ (ns ++ [z + 3]) => hIn
        rw [List.push_toArray] at N₇
        refine TurnTo.next _ F₇ (news_one N₇) (turn_off hI2 lT.2.2.2.2.2.2.2.2.1 lD.2.2.2.2.2.2.2.1) ⟨lg, _, _, _, rfl, fun p hp => .tail _ (.tail _ (hmn p hp)), ?_, new_off lT.2.2.2.2.1 lD.2.2.2.1 ol, new_off lT.2.2.2.2.2.1 lD.2.2.2.2.1 oa', new_off lT.2.2.2.2.2.2.1 lD.2.2.2.2.2.1 ot', new_off lT.2.2.2.2.2.2.2.1 lD.2.2.2.2.2.2.1 oI, n1, n2, n3, rfl, rfl, rfl, rfl⟩
        rw [longF_snoc hj, snd_ext hz (by assumption) ⟨mod_pos (by assumption), by assumption⟩]
        exact (hlw.mono fun p hp => .tail _ (.tail _ hp)).snoc (.head _) (.tail _ (.head _)) hIn
      · rename News _ _ _ _ => N₇
        rename Fr _ _ _ _ => F₇
        refine TurnTo.next _ F₇ (news_none N₇) hI2 ⟨lg, _, _, _, rfl, hmn, ?_, ol, oa', ot', oI, n1, n2, n3, rfl, rfl, rfl, rfl⟩
        rw [longF_snoc hj, no_ext hz (by assumption) (fun h => absurd h.2 (by assumption)), List.append_nil]
        exact hlw
    · clear F₅ N₅ l5
      rintro m₂ nx h2 tk2 ⟨lg, lvs, nl, new, rfl, hmn, hlw, ol, oa', ot', oI, n1, n2, n3, f1, f2, f3, f4⟩ F₅ N₅
      rw [hws.length, List.take_length] at hlw
      replace hlw : Ways new lvs (waysI ts (i + 1)) := hlw
      have F₆ := fr_knows [("ahead", .ref al), ("through", .ref tl), ("longer", .ref lg), ("tape", .bytes ts.toArray tt)] F₅ (by simp [f1, f2, f3, f4])
      clear F₅
      walk_at "STEPS"
      walk_at "FOR"
      walk_at "STEPS"
      try dsimp only
      rename News _ _ _ _ => N₇
      rename Fr _ _ _ _ => F₇
      refine for_list (L := L') (vs := lvs) (nn := nl) (fun j m nx => ∃ avs' na', nx = (lg, listOf lvs.toArray nl) :: (al, listOf avs'.toArray na') :: (tl, listOf tvs.toArray nt) :: (I, o) :: new ∧ IntsAre avs' (aheadF ((waysI ts (i + 1)).take j) (aheadI ts i)) ∧
        m "ahead" = some (.ref al) ∧ m "through" = some (.ref tl) ∧ m "longer" = some (.ref lg) ∧ m "tape" = some (.bytes ts.toArray tt)) rfl rfl F₇ N₇ ?_ ?_ ?_ ?_
      · rintro j m nx ⟨avs', na', rfl, _⟩
        exact .head _
      · exact ⟨_, _, rfl, ha, rfl, rfl, rfl, rfl⟩
      · clear F₇ N₇
        rintro j u m₃ nx h3 tk3 I3 o3 hu ⟨avs', na', rfl, ha', g1, g2, g3, g4⟩ hI3 F₅ N₅
        obtain ⟨a, nd, x, tx, k1, k2, nvs, ns, rfl, hj, hma, hmn', hni⟩ := hlw.get hu
        have hok := waysI_ok _ _ (List.mem_of_getElem? hj)
        have hlast := hok.last
        have hnl := hok.1
        simp only at hnl hlast
        obtain ⟨iv, tz, rfl⟩ := intsAre_snoc hni (by intro e; rw [e] at hnl; simp at hnl)
        have hivz : iv.length ≤ 1000 := by have := hni.length; simp at this; omega
        have hal12 : (aheadF ((waysI ts (i + 1)).take j) (aheadI ts i)).length = 12 := by rw [aheadF_len, aheadI_len]
        have N₆ := news_sub (l' := (a, wayObj x tx nd k1) :: (nd, listOf (iv ++ [Value.int (ns.getLastD 0) tz]).toArray k2) :: (al, listOf avs'.toArray na') :: (lg, listOf lvs.toArray nl) :: (tl, listOf tvs.toArray nt) :: (I, o) :: (I3, o3) :: new) N₅ (by
          intro p hp
          simp only [List.mem_cons] at hp ⊢
          rcases hp with rfl | rfl | hp
          · exact .inr (.inr (.inr (.inr (.inr hma))))
          · exact .inr (.inr (.inr (.inr (.inr hmn'))))
          · rcases hp with hp | hp | hp | hp | hp | hp <;> simp [hp])
        have F₆ := fr_knows [("ahead", .ref al), ("through", .ref tl), ("longer", .ref lg), ("tape", .bytes ts.toArray tt)] F₅ (by simp [g1, g2, g3, g4])
        clear F₅ N₅
        have q1 : @Ne Nat a al := oa' _ hma
        have q2 : @Ne Nat nd al := oa' _ hmn'
        have q4 : @Ne Nat I al := Ne.symm (hI _ (.head _))
        have q3 : @Ne Nat I3 al := Ne.symm (hI3 _ (.tail _ (.head _)))
        have ol' : ∀ p ∈ new, p.1 ≠ al := oa'
        generalize hz : ns.getLastD 0 = z at hlast N₆ hni
        walk_at "STEPS"
        rename News _ _ _ _ => N₇
        rename Fr _ _ _ _ => F₇
        rename IntsAre (List.set _ _ _) _ => hIn
        refine TurnTo.next _ F₇ (news_put N₇) (turn_put hI3) ⟨_, _, rfl, ?_, rfl, rfl, rfl, rfl⟩
        rw [aheadF_snoc hj, hz]
        exact hIn
      · clear F₇ N₇
        rintro m₃ nx h3 tk3 ⟨avs', na', rfl, ha', g1, g2, g3, g4⟩ F₅ N₅
        rw [hlw.length, List.take_length] at ha'
        replace ha' : IntsAre avs' (aheadI ts (i + 1)) := ha'
        have F₆ := fr_knows [("ahead", .ref al), ("through", .ref tl), ("longer", .ref lg), ("tape", .bytes ts.toArray tt)] F₅ (by simp [g1, g2, g3, g4])
        clear F₅
        walk_at "STEPS"
        rename News _ _ _ _ => N₇
        rename Fr _ _ _ _ => F₇
        refine TurnTo.next _ F₇ (news_last N₇) (off_cons (hI _ (.head _)) (off_cons (hI _ (.tail _ (.head _))) (off_cons (Ne.symm n3) oI))) ⟨al, tl, lg, ⟨_, _, _, _, _, _, _, rfl, ha', hth, .head _, hlw.mono (fun p hp => .tail _ hp), fun p hp => .tail _ (hmn _ (hre p hp)), off_cons (Ne.symm n1) oa', off_cons (Ne.symm n2) ot', hat⟩, rfl, rfl, rfl, rfl⟩
  · clear F₂ N₃ H
    rintro m₁ nx h tk ⟨al, tl, wl, ⟨avs, na, tvs, nt, wvs, nw, more, rfl, ha, hth, hwl, hws, hre, oa, ot, hat⟩, e1, e2, e3, e4⟩ F₃ N₃
    have F₄ := fr_knows [("ahead", .ref al), ("through", .ref tl), ("ways", .ref wl), ("tape", .bytes ts.toArray tt)] F₃ (by simp [e1, e2, e3, e4])
    clear F₃
    walk_at "STEPS"
    walk_at "FOR"
    walk_at "STEPS"
    try dsimp only
    rename News _ _ _ _ => N₅
    rename Fr _ _ _ _ => F₅
    refine for_list (L := L') (vs := wvs) (nn := nw) (fun j m nx => ∃ tvs' nt', nx = (tl, listOf tvs'.toArray nt') :: (al, listOf avs.toArray na) :: more ∧ IntsAre tvs' (thruF ((waysI ts 7).take j) (List.replicate 12 0)) ∧
      m "ahead" = some (.ref al) ∧ m "through" = some (.ref tl)) rfl rfl F₅ (news_swap N₅) ?_ ?_ ?_ ?_
    · rintro j m nx ⟨tvs', nt', rfl, _⟩
      exact .tail _ (.tail _ hwl)
    · exact ⟨_, _, rfl, hth, rfl, rfl⟩
    · clear F₅ N₅
      rintro j u m₂ nx h2 tk2 I o hu ⟨tvs', nt', rfl, hth', f1, f2⟩ hI F₅ N₅
      obtain ⟨a, nd, x, tx, k1, k2, nvs, ns, rfl, hj, hma, hmn', hni⟩ := hws.get hu
      have hok := waysI_ok _ _ (List.mem_of_getElem? hj)
      have hnl := hok.1
      have hns := hok.2
      simp only at hnl hns
      have N₆ := news_sub (l' := (a, wayObj x tx nd k1) :: (nd, listOf nvs.toArray k2) :: (tl, listOf tvs'.toArray nt') :: (al, listOf avs.toArray na) :: (I, o) :: more) N₅ (by
        intro p hp
        simp only [List.mem_cons] at hp ⊢
        rcases hp with rfl | rfl | hp
        · exact .inr (.inr (.inr hma))
        · exact .inr (.inr (.inr hmn'))
        · rcases hp with hp | hp | hp | hp <;> simp [hp])
      have F₆ := fr_knows [("ahead", .ref al), ("through", .ref tl)] F₅ (by simp [f1, f2])
      clear F₅ N₅
      walk_at "STEPS"
      walk_at "FOR"
      walk_at "STEPS"
      try dsimp only
      rename News _ _ _ _ => N₇
      rename Fr _ _ _ _ => F₇
      refine for_list (L := L') (vs := nvs) (nn := k2) (fun k m nx => ∃ tvs' nt', nx = (tl, listOf tvs'.toArray nt') :: (al, listOf avs.toArray na) :: (I, o) :: more ∧ IntsAre tvs' (overF x (ns.take k) (thruF ((waysI ts 7).take j) (List.replicate 12 0))) ∧
        m "ahead" = some (.ref al) ∧ m "through" = some (.ref tl) ∧ m "weight" = some (.int x tx)) rfl rfl F₇ (news_drop2 N₇) ?_ ?_ ?_ ?_
      · rintro k m nx ⟨tvs', nt', rfl, _⟩
        exact .tail _ (.tail _ (.tail _ hmn'))
      · exact ⟨_, _, rfl, hth', rfl, rfl, rfl⟩
      · clear F₇ N₇
        rintro k u m₃ nx h3 tk3 I3 o3 hu3 ⟨tvs2, nt2, rfl, hth2, g1, g2, g3⟩ hI3 F₅ N₅
        obtain ⟨z, tz, rfl, hk⟩ := intsAre_get hni hu3
        have hlast := hns z (List.mem_of_getElem? hk)
        have hal12 : (overF x (ns.take k) (thruF ((waysI ts 7).take j) (List.replicate 12 0))).length = 12 := by rw [overF_len, thruF_len, List.length_replicate]
        have F₆ := fr_knows [("ahead", .ref al), ("through", .ref tl), ("weight", .int x tx)] F₅ (by simp [g1, g2, g3])
        clear F₅
        have q3 : @Ne Nat I3 tl := Ne.symm (hI3 _ (.head _))
        have q4 : @Ne Nat I tl := Ne.symm (hI _ (.head _))
        have q5 : @Ne Nat al tl := hat
        have ol' : ∀ p ∈ more, p.1 ≠ tl := ot
        walk_at "STEPS"
        rename News _ _ _ _ => N₇
        rename Fr _ _ _ _ => F₇
        rename IntsAre (List.set _ _ _) _ => hIn
        refine TurnTo.next _ F₇ N₇ (off_head hI3) ⟨_, _, rfl, ?_, rfl, rfl, rfl⟩
        rw [overF_snoc hk]
        exact hIn
      · clear F₇ N₇
        rintro m₃ nx h3 tk3 ⟨tvs2, nt2, rfl, hth2, g1, g2, g3⟩ F₅ N₅
        have hnl' : nvs.length = ns.length := hni.length
        rw [hnl', List.take_length] at hth2
        have F₆ := fr_knows [("ahead", .ref al), ("through", .ref tl)] F₅ (by simp [g1, g2])
        clear F₅
        walk_at "STEPS"
        rename News _ _ _ _ => N₇
        rename Fr _ _ _ _ => F₇
        refine TurnTo.next _ F₇ (news_back N₇) (off_head hI) ⟨_, _, rfl, ?_, rfl, rfl⟩
        rw [thruF_snoc hj]
        exact hth2
    · clear F₅ N₅
      rintro m₂ nx h2 tk2 ⟨tvs', nt', rfl, hth', f1, f2⟩ F₅ N₅
      rw [hws.length, List.take_length] at hth'
      have F₆ := fr_knows [("ahead", .ref al), ("through", .ref tl)] F₅ (by simp [f1, f2])
      clear F₅
      walk_at "STEPS"
      rename News _ _ _ _ => N₇
      rename Fr _ _ _ _ => F₇
      exact ret al tl _ _ _ _ _ _ _ ha hth' F₇ (news_fin hre N₇)
end Mine

theorem Mine.say_j_42 : True := by
  k_with "ENTERS" => (refine Mine.wpS_call ?_; k_dflt (refine' Mine.code_defS ?yk1_42 ?yk2_42 ?yk3_42 ?yk4_42 ?yk5_42 ?ykA_42 ?ykF_42 ?ykK_42 ?yk6_42 ?yk7_42 ?yk8_42 ?yk9_42 ?ykB_42 ?_ ?yc2_42 ?yc3_42 ?yc4_42 ?yc5_42; (case ykA_42 => exact rfl); (case ykF_42 => exact rfl); (case ykK_42 => assumption); (case yk1_42 => k_asm); (case yk2_42 => k_asm); (case yk3_42 => k_asm); (case yk4_42 => k_asm); (case yk5_42 => k_asm); (case yk6_42 => k_is); (case yk7_42 => k_is); (case yk8_42 => ktr_room); (case yk9_42 => first | exact BindsTo.of_eq rfl | exact binds_K (by k_in) rfl (by k_is) rfl rfl rfl); (case yc5_42 => decide); (case ykB_42 => exact locs rfl); (case yc2_42 => exact rfl); (case yc3_42 => exact rfl); (case yc4_42 => exact rfl); k_whole))
  trivial
theorem Mine.say_j_43 : True := by
  k_with "setItem ref int" => (k_here; (with_reducible show wpAny _ _ (setItem (Value.ref _) (Value.int _ _) (Value.int _ _)) _ _ _); k_dflt (refine' Mine.set_bya_led ?yk1_43 ?yk2_43 ?yk3_43 ?yk4_43 ?yk5_43 ?yk6_43 ?yk7_43 ?yk8_43 ?_; (case yk1_43 => k_asm); (case yk2_43 => k_asm); (case yk3_43 => assumption); (case yk4_43 => omega); (case yk5_43 => omega); (case yk6_43 => omega); (case yk7_43 => omega); (case yk8_43 => exact Int.ofNat_lt.mpr (UInt8.toNat_lt _)); k_whole); intro h' F' N')
  trivial
theorem Mine.say_j_44 : True := by
  k_with "call type:bytes" => (k_here; (with_reducible show wpAny _ _ (call (Value.type "bytes") [Value.ref _]) _ _ _); k_dflt (refine' Mine.bytes_bya_led ?yk1_44 ?yk2_44 ?yk3_44 ?_; (case yk1_44 => k_asm); (case yk2_44 => k_memK); (case yk3_44 => assumption); k_whole); intro tb' kb')
  trivial
namespace Mine
theorem swp_c {w : World} {mean : ExcName → Option Value} {mg mb : Str → Option Value} {dp un : Nat} {gd : Option (List Code)} {cn : Str} {cs : Scope} {a : Addr} {ccd : Value} {cl : List (Str × Addr)} {outer : List Env} {A₀ : Around} {base h₀ : Heap} {L : Addr} {m : Str → Option Value} {s : Shared} {Q E : Value → Shared → Prop} {led : Led} {ts : List UInt8} {tt t9 : Tok} (B : Below A₀ base outer h₀) (F : Fr h₀ L s.heap m) (X : (Mine.hd.heap_39 w.params).In h₀) (T : Top PP LL mean mg mb h₀) (hk : cs.kind = .function)
    (N : News h₀ L s.heap led) (hd : dp + 2 < recursionLimit) (hu : un + 16 < cLine) (htz : ts.length = 9)
    (ret : ∀ tq h' tk', Fr h₀ L h' m → News h₀ L h' led → Q (.bytes (swpI ts 9 1 (Array.replicate 9 0)) tq) { s with heap := h', toks := tk' }) :
    wpS (MM w) (ktrTop dp un gd cn cs L a ccd cl outer) (call (.ref 213) [.bytes ts.toArray tt, .int 9 t9] []) Q nah s := by
  walk_at "ENTERS"
  intro g L' h₁ FG F' N' B' X' T'
  replace F' : Fr g L' h₁ (fun y => List.lookup y [("width", .int 9 t9), ("data", .bytes ts.toArray tt)]) := F'
  have hMk := kstMark
  try dsimp only
  refine execs_consS (Assign_NameS (Call_S ?_ (by rfl)) (by rfl))
  walk_at "STEPS"
  refine callWith_type1S (args_consS (wpS_of ?_) (by rfl)) (by rfl) (by rfl)
  walk_at "STEPS"
  refine args_nilS ?_
  rename News _ _ _ _ => N₂
  rename Fr _ _ _ _ => F₂
  refine call_bya_led (n := 9) (by simp [htz]) (by decide) (by decide) F₂ N₂ ?_
  clear F₂ N₂
  intro D h2 hoff F₂ N₂
  walk_at "STEPS"
  dsimp only
  refine wpS_of ?_
  walk_at "STEPS"
  walk_at "FOR"
  walk_at "STEPS"
  try dsimp only
  rename IsRange _ _ _ _ _ _ _ _ => hr
  rename News _ _ _ _ => N₃
  rename Fr _ _ _ _ => F₃
  have esz : (ts.toArray.size : Int) = 9 := by simp [htz]
  rw [esz] at hr
  refine for_range (n := 1) (fun i m nx => nx = (D, byaObj (swpI ts 9 i (Array.replicate 9 0))) :: led ∧ m "swapped_data" = some (.ref D) ∧ m "width" = some (.int 9 t9) ∧ m "data" = some (.bytes ts.toArray tt)) rfl rfl hr (by decide) (by decide) F₃ N₃ ⟨rfl, rfl, rfl, rfl⟩ ?_ ?_
  · clear F₃ N₃
    rintro i t m₁ nx h tk I o hi ⟨rfl, e1, e2, e3⟩ hI F₃ N₃
    have F₄ := fr_knows [("swapped_data", .ref D), ("width", .int 9 t9), ("data", .bytes ts.toArray tt)] F₃ (by simp [e1, e2, e3])
    clear F₃
    walk_at "STEPS"
    walk_at "FOR"
    walk_at "STEPS"
    try dsimp only
    rename IsRange _ _ _ _ _ _ _ _ => hr2
    rename News _ _ _ _ => N₅
    rename Fr _ _ _ _ => F₅
    refine for_range (n := 9) (fun j m nx => nx = (D, byaObj (swpJ ts 9 (i * 9) j (swpI ts 9 i (Array.replicate 9 0)))) :: (I, o) :: led ∧ m "swapped_data" = some (.ref D) ∧ m "width" = some (.int 9 t9) ∧ m "data" = some (.bytes ts.toArray tt) ∧ HasI m "i" ((i : Int) * 9)) rfl rfl hr2 (by decide) (by decide) F₅ (news_swp N₅) ⟨rfl, rfl, rfl, rfl, HasI.of (k := 0 + (i : Int) * 9) (by omega) rfl⟩ ?_ ?_
    · clear F₅ N₅
      rintro j t2 m₂ nx h3 tk3 I2 o2 hj ⟨rfl, f1, f2, f3, ⟨ti, f4⟩⟩ hI2 F₅ N₅
      have hsz : (swpJ ts 9 (i * 9) j (swpI ts 9 i (Array.replicate 9 0))).size = 9 := by rw [swpJ_size, swpI_size]; simp
      have F₆ := fr_knows [("swapped_data", .ref D), ("width", .int 9 t9), ("data", .bytes ts.toArray tt), ("i", .int ((i : Int) * 9) ti)] F₅ (by simp [f1, f2, f3, f4])
      clear F₅
      have N₆ := news_swp N₅
      clear N₅
      have hoff2 : ∀ p ∈ (I2, o2) :: (I, o) :: led, p.1 ≠ D := off_cons2 (Ne.symm (hI2 _ (.head _))) (off_cons2 (Ne.symm (hI _ (.head _))) hoff)
      have hw1 : ((9 : Int)) = 9 := rfl
      walk_at "STEPS"
      rename News _ _ _ _ => N₇
      rename Fr _ _ _ _ => F₇
      refine TurnTo.next _ F₇ (news_swp N₇) ?_ ⟨?_, rfl, rfl, rfl, ⟨ti, rfl⟩⟩
      · exact off_cons2 (hI2 _ (.head _)) fun p hp => hI2 p (.tail _ hp)
      · rw [swpJ]
        congr 3
        congr 1
        · omega
        · rw [byte_of]
          congr 1
          omega
    · clear F₅ N₅
      rintro m₂ nx h3 tk3 ⟨rfl, f1, f2, f3, _⟩ F₅ N₅
      have F₆ := fr_knows [("swapped_data", .ref D), ("width", .int 9 t9), ("data", .bytes ts.toArray tt)] F₅ (by simp [f1, f2, f3])
      clear F₅
      walk_at "STEPS"
      rename News _ _ _ _ => N₇
      rename Fr _ _ _ _ => F₇
      exact TurnTo.next _ F₇ (news_swp N₇) (off_cons2 (hI _ (.head _)) fun p hp => hI p (.tail _ hp)) ⟨rfl, rfl, rfl, rfl⟩
  · clear F₃ N₃
    rintro m₁ nx h tk ⟨rfl, e1, e2, e3⟩ F₃ N₃
    have hsz : (swpI ts 9 1 (Array.replicate 9 0)).size ≤ 1000 := by rw [swpI_size]; simp
    have F₄ := fr_knows [("swapped_data", .ref D), ("width", .int 9 t9), ("data", .bytes ts.toArray tt)] F₃ (by simp [e1, e2, e3])
    clear F₃
    walk_at "STEPS"
    rename News _ _ _ _ => N₇
    exact ret _ _ _ (by k_asm) (news_sub N₇ fun p hp => .tail _ hp)
end Mine

namespace Mine
/-- the hours' rules -/
structure Rec (A : Nat → Int) (ts : List UInt8) : Prop where
  p : ∀ w b, 0 ≤ tm ts w b
  r0 : A 0 = 0
  r1 : A 1 = A 0 + tm ts 0 0
  r2 : A 2 = A 1 + tm ts 0 1
  r3 : A 3 = A 2 + tm ts 0 2
  r4 : A 4 = A 1
  r5 : A 4 + tm ts 1 0 ≤ A 5 ∧ A 2 ≤ A 5 ∧ (A 5 = A 4 + tm ts 1 0 ∨ A 5 = A 2)
  r6 : A 5 + tm ts 1 1 ≤ A 6 ∧ A 3 ≤ A 6 ∧ (A 6 = A 5 + tm ts 1 1 ∨ A 6 = A 3)
  r7 : A 7 = A 6 + tm ts 1 2
  r8 : A 8 = A 5
  r9 : A 8 + tm ts 2 0 ≤ A 9 ∧ A 6 ≤ A 9 ∧ (A 9 = A 8 + tm ts 2 0 ∨ A 9 = A 6)
  r10 : A 9 + tm ts 2 1 ≤ A 10 ∧ A 7 ≤ A 10 ∧ (A 10 = A 9 + tm ts 2 1 ∨ A 10 = A 7)
  r11 : A 11 = A 10 + tm ts 2 2
theorem max_is {a b m h : Int} (r : a ≤ m ∧ b ≤ m ∧ (m = a ∨ m = b)) (h1 : a ≤ h) (h2 : b ≤ h) (h3 : h = a ∨ h = b) : h = m := by omega
theorem le_new {h a t : Int} (e : h = a) (p : 0 ≤ t) : h ≤ a + t := by omega
inductive Inv (A : Nat → Int) (ts : List UInt8) : Nat → Sim → Nat → Prop
  | s0 (S : Sim) (τ : Int) : S.c 0 = some (0, false) → S.c 1 = none → S.c 2 = none → S.ns = [A 0, 0, 0, 0, 0, 0, 0, 0, 0, 0, 0, 0] → S.bs.Perm [(A 0 + tm ts 0 0, 0, 0)] → Rowed S.bs → (A 0 ≤ τ ∧ τ ≤ A 0 + tm ts 0 0) → Inv A ts 9 S 1
  | s1 (S : Sim) (τ : Int) : S.c 0 = some (1, false) → S.c 1 = some (0, false) → S.c 2 = none → S.ns = [A 0, A 1, 0, 0, A 4, 0, 0, 0, 0, 0, 0, 0] → S.bs.Perm [(A 1 + tm ts 0 1, 1, 0), (A 4 + tm ts 1 0, 0, 1)] → Rowed S.bs → (A 0 ≤ τ ∧ A 1 ≤ τ ∧ A 4 ≤ τ ∧ τ ≤ A 1 + tm ts 0 1 ∧ τ ≤ A 4 + tm ts 1 0) → Inv A ts 8 S 2
  | s2 (S : Sim) (τ : Int) : S.c 0 = some (1, true) → S.c 1 = some (0, false) → S.c 2 = none → S.ns = [A 0, A 1, 0, 0, A 4, 0, 0, 0, 0, 0, 0, 0] → S.bs.Perm [(A 1 + tm ts 0 1, 1, 0)] → Rowed S.bs → (A 0 ≤ τ ∧ A 1 ≤ τ ∧ A 4 ≤ τ ∧ A 4 + tm ts 1 0 ≤ τ ∧ τ ≤ A 1 + tm ts 0 1) → Inv A ts 7 S 2
  | s3 (S : Sim) (τ : Int) : S.c 0 = some (1, false) → S.c 1 = none → S.c 2 = some (0, false) → S.ns = [A 0, A 1, A 2, 0, A 4, 0, 0, 0, 0, 0, 0, 0] → S.bs.Perm [(A 2 + tm ts 0 2, 2, 0), (A 4 + tm ts 1 0, 0, 1)] → Rowed S.bs → (A 0 ≤ τ ∧ A 1 ≤ τ ∧ A 2 ≤ τ ∧ A 4 ≤ τ ∧ τ ≤ A 2 + tm ts 0 2 ∧ τ ≤ A 4 + tm ts 1 0) → Inv A ts 7 S 2
  | s4 (S : Sim) (τ : Int) : S.c 0 = some (2, false) → S.c 1 = some (1, false) → S.c 2 = some (0, false) → S.ns = [A 0, A 1, A 2, 0, A 4, A 5, 0, 0, A 8, 0, 0, 0] → S.bs.Perm [(A 2 + tm ts 0 2, 2, 0), (A 5 + tm ts 1 1, 1, 1), (A 8 + tm ts 2 0, 0, 2)] → Rowed S.bs → (A 0 ≤ τ ∧ A 1 ≤ τ ∧ A 2 ≤ τ ∧ A 4 ≤ τ ∧ A 5 ≤ τ ∧ A 8 ≤ τ ∧ τ ≤ A 2 + tm ts 0 2 ∧ τ ≤ A 5 + tm ts 1 1 ∧ τ ≤ A 8 + tm ts 2 0) → Inv A ts 6 S 3
  | s5 (S : Sim) (τ : Int) : S.c 0 = some (1, false) → S.c 1 = none → S.c 2 = none → S.ns = [A 0, A 1, A 2, A 3, A 4, 0, 0, 0, 0, 0, 0, 0] → S.bs.Perm [(A 4 + tm ts 1 0, 0, 1)] → Rowed S.bs → (A 0 ≤ τ ∧ A 1 ≤ τ ∧ A 2 ≤ τ ∧ A 3 ≤ τ ∧ A 4 ≤ τ ∧ τ ≤ A 4 + tm ts 1 0) → Inv A ts 6 S 2
  | s6 (S : Sim) (τ : Int) : S.c 0 = some (2, true) → S.c 1 = some (1, false) → S.c 2 = some (0, false) → S.ns = [A 0, A 1, A 2, 0, A 4, A 5, 0, 0, A 8, 0, 0, 0] → S.bs.Perm [(A 2 + tm ts 0 2, 2, 0), (A 5 + tm ts 1 1, 1, 1)] → Rowed S.bs → (A 0 ≤ τ ∧ A 1 ≤ τ ∧ A 2 ≤ τ ∧ A 4 ≤ τ ∧ A 5 ≤ τ ∧ A 8 ≤ τ ∧ A 8 + tm ts 2 0 ≤ τ ∧ τ ≤ A 2 + tm ts 0 2 ∧ τ ≤ A 5 + tm ts 1 1) → Inv A ts 5 S 3
  | s7 (S : Sim) (τ : Int) : S.c 0 = some (2, false) → S.c 1 = some (1, true) → S.c 2 = some (0, false) → S.ns = [A 0, A 1, A 2, 0, A 4, A 5, 0, 0, A 8, 0, 0, 0] → S.bs.Perm [(A 2 + tm ts 0 2, 2, 0), (A 8 + tm ts 2 0, 0, 2)] → Rowed S.bs → (A 0 ≤ τ ∧ A 1 ≤ τ ∧ A 2 ≤ τ ∧ A 4 ≤ τ ∧ A 5 ≤ τ ∧ A 5 + tm ts 1 1 ≤ τ ∧ A 8 ≤ τ ∧ τ ≤ A 2 + tm ts 0 2 ∧ τ ≤ A 8 + tm ts 2 0) → Inv A ts 5 S 3
  | s8 (S : Sim) (τ : Int) : S.c 0 = some (2, false) → S.c 1 = some (1, false) → S.c 2 = none → S.ns = [A 0, A 1, A 2, A 3, A 4, A 5, 0, 0, A 8, 0, 0, 0] → S.bs.Perm [(A 5 + tm ts 1 1, 1, 1), (A 8 + tm ts 2 0, 0, 2)] → Rowed S.bs → (A 0 ≤ τ ∧ A 1 ≤ τ ∧ A 2 ≤ τ ∧ A 3 ≤ τ ∧ A 4 ≤ τ ∧ A 5 ≤ τ ∧ A 8 ≤ τ ∧ τ ≤ A 5 + tm ts 1 1 ∧ τ ≤ A 8 + tm ts 2 0) → Inv A ts 5 S 3
  | s9 (S : Sim) (τ : Int) : S.c 0 = some (2, true) → S.c 1 = some (1, true) → S.c 2 = some (0, false) → S.ns = [A 0, A 1, A 2, 0, A 4, A 5, 0, 0, A 8, 0, 0, 0] → S.bs.Perm [(A 2 + tm ts 0 2, 2, 0)] → Rowed S.bs → (A 0 ≤ τ ∧ A 1 ≤ τ ∧ A 2 ≤ τ ∧ A 4 ≤ τ ∧ A 5 ≤ τ ∧ A 5 + tm ts 1 1 ≤ τ ∧ A 8 ≤ τ ∧ A 8 + tm ts 2 0 ≤ τ ∧ τ ≤ A 2 + tm ts 0 2) → Inv A ts 4 S 3
  | s10 (S : Sim) (τ : Int) : S.c 0 = some (2, true) → S.c 1 = some (1, false) → S.c 2 = none → S.ns = [A 0, A 1, A 2, A 3, A 4, A 5, 0, 0, A 8, 0, 0, 0] → S.bs.Perm [(A 5 + tm ts 1 1, 1, 1)] → Rowed S.bs → (A 0 ≤ τ ∧ A 1 ≤ τ ∧ A 2 ≤ τ ∧ A 3 ≤ τ ∧ A 4 ≤ τ ∧ A 5 ≤ τ ∧ A 8 ≤ τ ∧ A 8 + tm ts 2 0 ≤ τ ∧ τ ≤ A 5 + tm ts 1 1) → Inv A ts 4 S 3
  | s11 (S : Sim) (τ : Int) : S.c 0 = some (2, false) → S.c 1 = none → S.c 2 = some (1, false) → S.ns = [A 0, A 1, A 2, A 3, A 4, A 5, A 6, 0, A 8, 0, 0, 0] → S.bs.Perm [(A 6 + tm ts 1 2, 2, 1), (A 8 + tm ts 2 0, 0, 2)] → Rowed S.bs → (A 0 ≤ τ ∧ A 1 ≤ τ ∧ A 2 ≤ τ ∧ A 3 ≤ τ ∧ A 4 ≤ τ ∧ A 5 ≤ τ ∧ A 6 ≤ τ ∧ A 8 ≤ τ ∧ τ ≤ A 6 + tm ts 1 2 ∧ τ ≤ A 8 + tm ts 2 0) → Inv A ts 4 S 3
  | s12 (S : Sim) (τ : Int) : S.c 0 = none → S.c 1 = some (2, false) → S.c 2 = some (1, false) → S.ns = [A 0, A 1, A 2, A 3, A 4, A 5, A 6, 0, A 8, A 9, 0, 0] → S.bs.Perm [(A 6 + tm ts 1 2, 2, 1), (A 9 + tm ts 2 1, 1, 2)] → Rowed S.bs → (A 0 ≤ τ ∧ A 1 ≤ τ ∧ A 2 ≤ τ ∧ A 3 ≤ τ ∧ A 4 ≤ τ ∧ A 5 ≤ τ ∧ A 6 ≤ τ ∧ A 8 ≤ τ ∧ A 9 ≤ τ ∧ τ ≤ A 6 + tm ts 1 2 ∧ τ ≤ A 9 + tm ts 2 1) → Inv A ts 3 S 3
  | s13 (S : Sim) (τ : Int) : S.c 0 = some (2, false) → S.c 1 = none → S.c 2 = none → S.ns = [A 0, A 1, A 2, A 3, A 4, A 5, A 6, A 7, A 8, 0, 0, 0] → S.bs.Perm [(A 8 + tm ts 2 0, 0, 2)] → Rowed S.bs → (A 0 ≤ τ ∧ A 1 ≤ τ ∧ A 2 ≤ τ ∧ A 3 ≤ τ ∧ A 4 ≤ τ ∧ A 5 ≤ τ ∧ A 6 ≤ τ ∧ A 7 ≤ τ ∧ A 8 ≤ τ ∧ τ ≤ A 8 + tm ts 2 0) → Inv A ts 3 S 3
  | s14 (S : Sim) (τ : Int) : S.c 0 = none → S.c 1 = some (2, true) → S.c 2 = some (1, false) → S.ns = [A 0, A 1, A 2, A 3, A 4, A 5, A 6, 0, A 8, A 9, 0, 0] → S.bs.Perm [(A 6 + tm ts 1 2, 2, 1)] → Rowed S.bs → (A 0 ≤ τ ∧ A 1 ≤ τ ∧ A 2 ≤ τ ∧ A 3 ≤ τ ∧ A 4 ≤ τ ∧ A 5 ≤ τ ∧ A 6 ≤ τ ∧ A 8 ≤ τ ∧ A 9 ≤ τ ∧ A 9 + tm ts 2 1 ≤ τ ∧ τ ≤ A 6 + tm ts 1 2) → Inv A ts 2 S 3
  | s15 (S : Sim) (τ : Int) : S.c 0 = none → S.c 1 = some (2, false) → S.c 2 = none → S.ns = [A 0, A 1, A 2, A 3, A 4, A 5, A 6, A 7, A 8, A 9, 0, 0] → S.bs.Perm [(A 9 + tm ts 2 1, 1, 2)] → Rowed S.bs → (A 0 ≤ τ ∧ A 1 ≤ τ ∧ A 2 ≤ τ ∧ A 3 ≤ τ ∧ A 4 ≤ τ ∧ A 5 ≤ τ ∧ A 6 ≤ τ ∧ A 7 ≤ τ ∧ A 8 ≤ τ ∧ A 9 ≤ τ ∧ τ ≤ A 9 + tm ts 2 1) → Inv A ts 2 S 3
  | s16 (S : Sim) (τ : Int) : S.c 0 = none → S.c 1 = none → S.c 2 = some (2, false) → S.ns = [A 0, A 1, A 2, A 3, A 4, A 5, A 6, A 7, A 8, A 9, A 10, 0] → S.bs.Perm [(A 10 + tm ts 2 2, 2, 2)] → Rowed S.bs → (A 0 ≤ τ ∧ A 1 ≤ τ ∧ A 2 ≤ τ ∧ A 3 ≤ τ ∧ A 4 ≤ τ ∧ A 5 ≤ τ ∧ A 6 ≤ τ ∧ A 7 ≤ τ ∧ A 8 ≤ τ ∧ A 9 ≤ τ ∧ A 10 ≤ τ ∧ τ ≤ A 10 + tm ts 2 2) → Inv A ts 1 S 3
  | s17 (S : Sim) (τ : Int) : S.c 0 = none → S.c 1 = none → S.c 2 = none → S.ns = [A 0, A 1, A 2, A 3, A 4, A 5, A 6, A 7, A 8, A 9, A 10, A 11] → S.bs.Perm [] → Rowed S.bs → (A 0 ≤ τ ∧ A 1 ≤ τ ∧ A 2 ≤ τ ∧ A 3 ≤ τ ∧ A 4 ≤ τ ∧ A 5 ≤ τ ∧ A 6 ≤ τ ∧ A 7 ≤ τ ∧ A 8 ≤ τ ∧ A 9 ≤ τ ∧ A 10 ≤ τ ∧ A 11 ≤ τ) → Inv A ts 0 S 3
theorem tr0_0 {A : Nat → Int} {ts : List UInt8} {S : Sim} {r : List Trip} {τ h : Int} (R : Rec A ts) (h0 : S.c 0 = some (0, false)) (h1 : S.c 1 = none) (h2 : S.c 2 = none) (hn : S.ns = [A 0, 0, 0, 0, 0, 0, 0, 0, 0, 0, 0, 0]) (hr : r.Perm []) (hro : Rowed r) (hle : ∀ y ∈ r, h ≤ y.1) (hh : h = A 0 + tm ts 0 0) (hf : A 0 ≤ τ ∧ τ ≤ A 0 + tm ts 0 0) :
    Inv A ts 8 (stepF ts S 1 h 0 0 r) (comeF ts S 1 h 0 0 r) := by
  have hτ : τ ≤ h := Int.le_trans hf.2 (Int.le_of_eq hh.symm)
  have e1 : h = A 1 := hh.trans R.r1.symm
  have e4 : h = A 4 := e1.trans R.r4.symm
  have hx : (stepF ts S 1 h 0 0 r).c 0 = some (1, false) ∧ (stepF ts S 1 h 0 0 r).c 1 = some (0, false) ∧ (stepF ts S 1 h 0 0 r).c 2 = none ∧ (stepF ts S 1 h 0 0 r).ns = ((S.ns).set 1 h).set 4 h ∧ (stepF ts S 1 h 0 0 r).bs = insR (h + tm ts 1 0, 0, 1) (insR (h + tm ts 0 1, 1, 0) (r)) ∧ comeF ts S 1 h 0 0 r = 2 := by
    simp [stepF, comeF, movF, begF, upd, h0, h1, h2]
  rw [hx.2.2.2.2.2]
  refine Inv.s1 _ h hx.1 hx.2.1 hx.2.2.1 ?_ ?_ ?_ ?_
  · rw [hx.2.2.2.1, hn]
    show ([A 0, h, 0, 0, h, 0, 0, 0, 0, 0, 0, 0] : List Int) = [A 0, A 1, 0, 0, A 4, 0, 0, 0, 0, 0, 0, 0]
    rw [← e1, ← e4]
  · rw [hx.2.2.2.2.1]
    rw [← e1, ← e4]
    exact List.Perm.trans (insR_perm.trans (.cons _ (insR_perm.trans (.cons _ hr)))) (.swap _ _ _)
  · rw [hx.2.2.2.2.1]
    exact (insR_row (insR_row hro))
  · exact ⟨Int.le_trans hf.1 hτ, Int.le_of_eq e1.symm, Int.le_of_eq e4.symm, le_new e1 (R.p 0 1), le_new e4 (R.p 1 0)⟩
theorem tr1_0 {A : Nat → Int} {ts : List UInt8} {S : Sim} {r : List Trip} {τ h : Int} (R : Rec A ts) (h0 : S.c 0 = some (1, false)) (h1 : S.c 1 = some (0, false)) (h2 : S.c 2 = none) (hn : S.ns = [A 0, A 1, 0, 0, A 4, 0, 0, 0, 0, 0, 0, 0]) (hr : r.Perm [(A 1 + tm ts 0 1, 1, 0)]) (hro : Rowed r) (hle : ∀ y ∈ r, h ≤ y.1) (hh : h = A 4 + tm ts 1 0) (hf : A 0 ≤ τ ∧ A 1 ≤ τ ∧ A 4 ≤ τ ∧ τ ≤ A 1 + tm ts 0 1 ∧ τ ≤ A 4 + tm ts 1 0) :
    Inv A ts 7 (stepF ts S 2 h 0 1 r) (comeF ts S 2 h 0 1 r) := by
  have hτ : τ ≤ h := Int.le_trans hf.2.2.2.2 (Int.le_of_eq hh.symm)
  have q0 : h ≤ A 1 + tm ts 0 1 := hle (A 1 + tm ts 0 1, 1, 0) (hr.mem_iff.mpr (List.Mem.head _))
  have hx : (stepF ts S 2 h 0 1 r).c 0 = some (1, true) ∧ (stepF ts S 2 h 0 1 r).c 1 = some (0, false) ∧ (stepF ts S 2 h 0 1 r).c 2 = none ∧ (stepF ts S 2 h 0 1 r).ns = S.ns ∧ (stepF ts S 2 h 0 1 r).bs = r ∧ comeF ts S 2 h 0 1 r = 2 := by
    simp [stepF, comeF, movF, begF, upd, h0, h1, h2]
  rw [hx.2.2.2.2.2]
  refine Inv.s2 _ h hx.1 hx.2.1 hx.2.2.1 ?_ ?_ ?_ ?_
  · rw [hx.2.2.2.1, hn]
  · rw [hx.2.2.2.2.1]
    exact List.Perm.trans hr (.refl _)
  · rw [hx.2.2.2.2.1]
    exact hro
  · exact ⟨Int.le_trans hf.1 hτ, Int.le_trans hf.2.1 hτ, Int.le_trans hf.2.2.1 hτ, Int.le_of_eq hh.symm, q0⟩
theorem tr1_1 {A : Nat → Int} {ts : List UInt8} {S : Sim} {r : List Trip} {τ h : Int} (R : Rec A ts) (h0 : S.c 0 = some (1, false)) (h1 : S.c 1 = some (0, false)) (h2 : S.c 2 = none) (hn : S.ns = [A 0, A 1, 0, 0, A 4, 0, 0, 0, 0, 0, 0, 0]) (hr : r.Perm [(A 4 + tm ts 1 0, 0, 1)]) (hro : Rowed r) (hle : ∀ y ∈ r, h ≤ y.1) (hh : h = A 1 + tm ts 0 1) (hf : A 0 ≤ τ ∧ A 1 ≤ τ ∧ A 4 ≤ τ ∧ τ ≤ A 1 + tm ts 0 1 ∧ τ ≤ A 4 + tm ts 1 0) :
    Inv A ts 7 (stepF ts S 2 h 1 0 r) (comeF ts S 2 h 1 0 r) := by
  have hτ : τ ≤ h := Int.le_trans hf.2.2.2.1 (Int.le_of_eq hh.symm)
  have q0 : h ≤ A 4 + tm ts 1 0 := hle (A 4 + tm ts 1 0, 0, 1) (hr.mem_iff.mpr (List.Mem.head _))
  have e2 : h = A 2 := hh.trans R.r2.symm
  have hx : (stepF ts S 2 h 1 0 r).c 0 = some (1, false) ∧ (stepF ts S 2 h 1 0 r).c 1 = none ∧ (stepF ts S 2 h 1 0 r).c 2 = some (0, false) ∧ (stepF ts S 2 h 1 0 r).ns = (S.ns).set 2 h ∧ (stepF ts S 2 h 1 0 r).bs = insR (h + tm ts 0 2, 2, 0) (r) ∧ comeF ts S 2 h 1 0 r = 2 := by
    simp [stepF, comeF, movF, begF, upd, h0, h1, h2]
  rw [hx.2.2.2.2.2]
  refine Inv.s3 _ h hx.1 hx.2.1 hx.2.2.1 ?_ ?_ ?_ ?_
  · rw [hx.2.2.2.1, hn]
    show ([A 0, A 1, h, 0, A 4, 0, 0, 0, 0, 0, 0, 0] : List Int) = [A 0, A 1, A 2, 0, A 4, 0, 0, 0, 0, 0, 0, 0]
    rw [← e2]
  · rw [hx.2.2.2.2.1]
    rw [← e2]
    exact List.Perm.trans (insR_perm.trans (.cons _ hr)) (.refl _)
  · rw [hx.2.2.2.2.1]
    exact (insR_row hro)
  · exact ⟨Int.le_trans hf.1 hτ, Int.le_trans hf.2.1 hτ, Int.le_of_eq e2.symm, Int.le_trans hf.2.2.1 hτ, le_new e2 (R.p 0 2), q0⟩
theorem tr2_1 {A : Nat → Int} {ts : List UInt8} {S : Sim} {r : List Trip} {τ h : Int} (R : Rec A ts) (h0 : S.c 0 = some (1, true)) (h1 : S.c 1 = some (0, false)) (h2 : S.c 2 = none) (hn : S.ns = [A 0, A 1, 0, 0, A 4, 0, 0, 0, 0, 0, 0, 0]) (hr : r.Perm []) (hro : Rowed r) (hle : ∀ y ∈ r, h ≤ y.1) (hh : h = A 1 + tm ts 0 1) (hf : A 0 ≤ τ ∧ A 1 ≤ τ ∧ A 4 ≤ τ ∧ A 4 + tm ts 1 0 ≤ τ ∧ τ ≤ A 1 + tm ts 0 1) :
    Inv A ts 6 (stepF ts S 2 h 1 0 r) (comeF ts S 2 h 1 0 r) := by
  have hτ : τ ≤ h := Int.le_trans hf.2.2.2.2 (Int.le_of_eq hh.symm)
  have e2 : h = A 2 := hh.trans R.r2.symm
  have e5 : h = A 5 := max_is R.r5 (Int.le_trans hf.2.2.2.1 hτ) (Int.le_of_eq e2.symm) (.inr e2)
  have e8 : h = A 8 := e5.trans R.r8.symm
  have hx : (stepF ts S 2 h 1 0 r).c 0 = some (2, false) ∧ (stepF ts S 2 h 1 0 r).c 1 = some (1, false) ∧ (stepF ts S 2 h 1 0 r).c 2 = some (0, false) ∧ (stepF ts S 2 h 1 0 r).ns = (((S.ns).set 2 h).set 5 h).set 8 h ∧ (stepF ts S 2 h 1 0 r).bs = insR (h + tm ts 2 0, 0, 2) (insR (h + tm ts 1 1, 1, 1) (insR (h + tm ts 0 2, 2, 0) (r))) ∧ comeF ts S 2 h 1 0 r = 3 := by
    simp [stepF, comeF, movF, begF, upd, h0, h1, h2]
  rw [hx.2.2.2.2.2]
  refine Inv.s4 _ h hx.1 hx.2.1 hx.2.2.1 ?_ ?_ ?_ ?_
  · rw [hx.2.2.2.1, hn]
    show ([A 0, A 1, h, 0, A 4, h, 0, 0, h, 0, 0, 0] : List Int) = [A 0, A 1, A 2, 0, A 4, A 5, 0, 0, A 8, 0, 0, 0]
    rw [← e2, ← e5, ← e8]
  · rw [hx.2.2.2.2.1]
    rw [← e2, ← e5, ← e8]
    exact List.Perm.trans (insR_perm.trans (.cons _ (insR_perm.trans (.cons _ (insR_perm.trans (.cons _ hr)))))) (((List.Perm.swap _ _ _).trans (.cons _ (.swap _ _ _))).trans (.swap _ _ _))
  · rw [hx.2.2.2.2.1]
    exact (insR_row (insR_row (insR_row hro)))
  · exact ⟨Int.le_trans hf.1 hτ, Int.le_trans hf.2.1 hτ, Int.le_of_eq e2.symm, Int.le_trans hf.2.2.1 hτ, Int.le_of_eq e5.symm, Int.le_of_eq e8.symm, le_new e2 (R.p 0 2), le_new e5 (R.p 1 1), le_new e8 (R.p 2 0)⟩
theorem tr3_0 {A : Nat → Int} {ts : List UInt8} {S : Sim} {r : List Trip} {τ h : Int} (R : Rec A ts) (h0 : S.c 0 = some (1, false)) (h1 : S.c 1 = none) (h2 : S.c 2 = some (0, false)) (hn : S.ns = [A 0, A 1, A 2, 0, A 4, 0, 0, 0, 0, 0, 0, 0]) (hr : r.Perm [(A 2 + tm ts 0 2, 2, 0)]) (hro : Rowed r) (hle : ∀ y ∈ r, h ≤ y.1) (hh : h = A 4 + tm ts 1 0) (hf : A 0 ≤ τ ∧ A 1 ≤ τ ∧ A 2 ≤ τ ∧ A 4 ≤ τ ∧ τ ≤ A 2 + tm ts 0 2 ∧ τ ≤ A 4 + tm ts 1 0) :
    Inv A ts 6 (stepF ts S 2 h 0 1 r) (comeF ts S 2 h 0 1 r) := by
  have hτ : τ ≤ h := Int.le_trans hf.2.2.2.2.2 (Int.le_of_eq hh.symm)
  have q0 : h ≤ A 2 + tm ts 0 2 := hle (A 2 + tm ts 0 2, 2, 0) (hr.mem_iff.mpr (List.Mem.head _))
  have e5 : h = A 5 := max_is R.r5 (Int.le_of_eq hh.symm) (Int.le_trans hf.2.2.1 hτ) (.inl hh)
  have e8 : h = A 8 := e5.trans R.r8.symm
  have hx : (stepF ts S 2 h 0 1 r).c 0 = some (2, false) ∧ (stepF ts S 2 h 0 1 r).c 1 = some (1, false) ∧ (stepF ts S 2 h 0 1 r).c 2 = some (0, false) ∧ (stepF ts S 2 h 0 1 r).ns = ((S.ns).set 5 h).set 8 h ∧ (stepF ts S 2 h 0 1 r).bs = insR (h + tm ts 2 0, 0, 2) (insR (h + tm ts 1 1, 1, 1) (r)) ∧ comeF ts S 2 h 0 1 r = 3 := by
    simp [stepF, comeF, movF, begF, upd, h0, h1, h2]
  rw [hx.2.2.2.2.2]
  refine Inv.s4 _ h hx.1 hx.2.1 hx.2.2.1 ?_ ?_ ?_ ?_
  · rw [hx.2.2.2.1, hn]
    show ([A 0, A 1, A 2, 0, A 4, h, 0, 0, h, 0, 0, 0] : List Int) = [A 0, A 1, A 2, 0, A 4, A 5, 0, 0, A 8, 0, 0, 0]
    rw [← e5, ← e8]
  · rw [hx.2.2.2.2.1]
    rw [← e5, ← e8]
    exact List.Perm.trans (insR_perm.trans (.cons _ (insR_perm.trans (.cons _ hr)))) (((List.Perm.swap _ _ _).trans (.cons _ (.swap _ _ _))).trans (.swap _ _ _))
  · rw [hx.2.2.2.2.1]
    exact (insR_row (insR_row hro))
  · exact ⟨Int.le_trans hf.1 hτ, Int.le_trans hf.2.1 hτ, Int.le_trans hf.2.2.1 hτ, Int.le_trans hf.2.2.2.1 hτ, Int.le_of_eq e5.symm, Int.le_of_eq e8.symm, q0, le_new e5 (R.p 1 1), le_new e8 (R.p 2 0)⟩
theorem tr3_2 {A : Nat → Int} {ts : List UInt8} {S : Sim} {r : List Trip} {τ h : Int} (R : Rec A ts) (h0 : S.c 0 = some (1, false)) (h1 : S.c 1 = none) (h2 : S.c 2 = some (0, false)) (hn : S.ns = [A 0, A 1, A 2, 0, A 4, 0, 0, 0, 0, 0, 0, 0]) (hr : r.Perm [(A 4 + tm ts 1 0, 0, 1)]) (hro : Rowed r) (hle : ∀ y ∈ r, h ≤ y.1) (hh : h = A 2 + tm ts 0 2) (hf : A 0 ≤ τ ∧ A 1 ≤ τ ∧ A 2 ≤ τ ∧ A 4 ≤ τ ∧ τ ≤ A 2 + tm ts 0 2 ∧ τ ≤ A 4 + tm ts 1 0) :
    Inv A ts 6 (stepF ts S 2 h 2 0 r) (comeF ts S 2 h 2 0 r) := by
  have hτ : τ ≤ h := Int.le_trans hf.2.2.2.2.1 (Int.le_of_eq hh.symm)
  have q0 : h ≤ A 4 + tm ts 1 0 := hle (A 4 + tm ts 1 0, 0, 1) (hr.mem_iff.mpr (List.Mem.head _))
  have e3 : h = A 3 := hh.trans R.r3.symm
  have hx : (stepF ts S 2 h 2 0 r).c 0 = some (1, false) ∧ (stepF ts S 2 h 2 0 r).c 1 = none ∧ (stepF ts S 2 h 2 0 r).c 2 = none ∧ (stepF ts S 2 h 2 0 r).ns = (S.ns).set 3 h ∧ (stepF ts S 2 h 2 0 r).bs = r ∧ comeF ts S 2 h 2 0 r = 2 := by
    simp [stepF, comeF, movF, begF, upd, h0, h1, h2]
  rw [hx.2.2.2.2.2]
  refine Inv.s5 _ h hx.1 hx.2.1 hx.2.2.1 ?_ ?_ ?_ ?_
  · rw [hx.2.2.2.1, hn]
    show ([A 0, A 1, A 2, h, A 4, 0, 0, 0, 0, 0, 0, 0] : List Int) = [A 0, A 1, A 2, A 3, A 4, 0, 0, 0, 0, 0, 0, 0]
    rw [← e3]
  · rw [hx.2.2.2.2.1]
    exact List.Perm.trans hr (.refl _)
  · rw [hx.2.2.2.2.1]
    exact hro
  · exact ⟨Int.le_trans hf.1 hτ, Int.le_trans hf.2.1 hτ, Int.le_trans hf.2.2.1 hτ, Int.le_of_eq e3.symm, Int.le_trans hf.2.2.2.1 hτ, q0⟩
theorem tr4_0 {A : Nat → Int} {ts : List UInt8} {S : Sim} {r : List Trip} {τ h : Int} (R : Rec A ts) (h0 : S.c 0 = some (2, false)) (h1 : S.c 1 = some (1, false)) (h2 : S.c 2 = some (0, false)) (hn : S.ns = [A 0, A 1, A 2, 0, A 4, A 5, 0, 0, A 8, 0, 0, 0]) (hr : r.Perm [(A 2 + tm ts 0 2, 2, 0), (A 5 + tm ts 1 1, 1, 1)]) (hro : Rowed r) (hle : ∀ y ∈ r, h ≤ y.1) (hh : h = A 8 + tm ts 2 0) (hf : A 0 ≤ τ ∧ A 1 ≤ τ ∧ A 2 ≤ τ ∧ A 4 ≤ τ ∧ A 5 ≤ τ ∧ A 8 ≤ τ ∧ τ ≤ A 2 + tm ts 0 2 ∧ τ ≤ A 5 + tm ts 1 1 ∧ τ ≤ A 8 + tm ts 2 0) :
    Inv A ts 5 (stepF ts S 3 h 0 2 r) (comeF ts S 3 h 0 2 r) := by
  have hτ : τ ≤ h := Int.le_trans hf.2.2.2.2.2.2.2.2 (Int.le_of_eq hh.symm)
  have q0 : h ≤ A 2 + tm ts 0 2 := hle (A 2 + tm ts 0 2, 2, 0) (hr.mem_iff.mpr (List.Mem.head _))
  have q1 : h ≤ A 5 + tm ts 1 1 := hle (A 5 + tm ts 1 1, 1, 1) (hr.mem_iff.mpr (List.Mem.tail _ (List.Mem.head _)))
  have hx : (stepF ts S 3 h 0 2 r).c 0 = some (2, true) ∧ (stepF ts S 3 h 0 2 r).c 1 = some (1, false) ∧ (stepF ts S 3 h 0 2 r).c 2 = some (0, false) ∧ (stepF ts S 3 h 0 2 r).ns = S.ns ∧ (stepF ts S 3 h 0 2 r).bs = r ∧ comeF ts S 3 h 0 2 r = 3 := by
    simp [stepF, comeF, movF, begF, upd, h0, h1, h2]
  rw [hx.2.2.2.2.2]
  refine Inv.s6 _ h hx.1 hx.2.1 hx.2.2.1 ?_ ?_ ?_ ?_
  · rw [hx.2.2.2.1, hn]
  · rw [hx.2.2.2.2.1]
    exact List.Perm.trans hr (.refl _)
  · rw [hx.2.2.2.2.1]
    exact hro
  · exact ⟨Int.le_trans hf.1 hτ, Int.le_trans hf.2.1 hτ, Int.le_trans hf.2.2.1 hτ, Int.le_trans hf.2.2.2.1 hτ, Int.le_trans hf.2.2.2.2.1 hτ, Int.le_trans hf.2.2.2.2.2.1 hτ, Int.le_of_eq hh.symm, q0, q1⟩
theorem tr4_1 {A : Nat → Int} {ts : List UInt8} {S : Sim} {r : List Trip} {τ h : Int} (R : Rec A ts) (h0 : S.c 0 = some (2, false)) (h1 : S.c 1 = some (1, false)) (h2 : S.c 2 = some (0, false)) (hn : S.ns = [A 0, A 1, A 2, 0, A 4, A 5, 0, 0, A 8, 0, 0, 0]) (hr : r.Perm [(A 2 + tm ts 0 2, 2, 0), (A 8 + tm ts 2 0, 0, 2)]) (hro : Rowed r) (hle : ∀ y ∈ r, h ≤ y.1) (hh : h = A 5 + tm ts 1 1) (hf : A 0 ≤ τ ∧ A 1 ≤ τ ∧ A 2 ≤ τ ∧ A 4 ≤ τ ∧ A 5 ≤ τ ∧ A 8 ≤ τ ∧ τ ≤ A 2 + tm ts 0 2 ∧ τ ≤ A 5 + tm ts 1 1 ∧ τ ≤ A 8 + tm ts 2 0) :
    Inv A ts 5 (stepF ts S 3 h 1 1 r) (comeF ts S 3 h 1 1 r) := by
  have hτ : τ ≤ h := Int.le_trans hf.2.2.2.2.2.2.2.1 (Int.le_of_eq hh.symm)
  have q0 : h ≤ A 2 + tm ts 0 2 := hle (A 2 + tm ts 0 2, 2, 0) (hr.mem_iff.mpr (List.Mem.head _))
  have q1 : h ≤ A 8 + tm ts 2 0 := hle (A 8 + tm ts 2 0, 0, 2) (hr.mem_iff.mpr (List.Mem.tail _ (List.Mem.head _)))
  have hx : (stepF ts S 3 h 1 1 r).c 0 = some (2, false) ∧ (stepF ts S 3 h 1 1 r).c 1 = some (1, true) ∧ (stepF ts S 3 h 1 1 r).c 2 = some (0, false) ∧ (stepF ts S 3 h 1 1 r).ns = S.ns ∧ (stepF ts S 3 h 1 1 r).bs = r ∧ comeF ts S 3 h 1 1 r = 3 := by
    simp [stepF, comeF, movF, begF, upd, h0, h1, h2]
  rw [hx.2.2.2.2.2]
  refine Inv.s7 _ h hx.1 hx.2.1 hx.2.2.1 ?_ ?_ ?_ ?_
  · rw [hx.2.2.2.1, hn]
  · rw [hx.2.2.2.2.1]
    exact List.Perm.trans hr (.refl _)
  · rw [hx.2.2.2.2.1]
    exact hro
  · exact ⟨Int.le_trans hf.1 hτ, Int.le_trans hf.2.1 hτ, Int.le_trans hf.2.2.1 hτ, Int.le_trans hf.2.2.2.1 hτ, Int.le_trans hf.2.2.2.2.1 hτ, Int.le_of_eq hh.symm, Int.le_trans hf.2.2.2.2.2.1 hτ, q0, q1⟩
theorem tr4_2 {A : Nat → Int} {ts : List UInt8} {S : Sim} {r : List Trip} {τ h : Int} (R : Rec A ts) (h0 : S.c 0 = some (2, false)) (h1 : S.c 1 = some (1, false)) (h2 : S.c 2 = some (0, false)) (hn : S.ns = [A 0, A 1, A 2, 0, A 4, A 5, 0, 0, A 8, 0, 0, 0]) (hr : r.Perm [(A 5 + tm ts 1 1, 1, 1), (A 8 + tm ts 2 0, 0, 2)]) (hro : Rowed r) (hle : ∀ y ∈ r, h ≤ y.1) (hh : h = A 2 + tm ts 0 2) (hf : A 0 ≤ τ ∧ A 1 ≤ τ ∧ A 2 ≤ τ ∧ A 4 ≤ τ ∧ A 5 ≤ τ ∧ A 8 ≤ τ ∧ τ ≤ A 2 + tm ts 0 2 ∧ τ ≤ A 5 + tm ts 1 1 ∧ τ ≤ A 8 + tm ts 2 0) :
    Inv A ts 5 (stepF ts S 3 h 2 0 r) (comeF ts S 3 h 2 0 r) := by
  have hτ : τ ≤ h := Int.le_trans hf.2.2.2.2.2.2.1 (Int.le_of_eq hh.symm)
  have q0 : h ≤ A 5 + tm ts 1 1 := hle (A 5 + tm ts 1 1, 1, 1) (hr.mem_iff.mpr (List.Mem.head _))
  have q1 : h ≤ A 8 + tm ts 2 0 := hle (A 8 + tm ts 2 0, 0, 2) (hr.mem_iff.mpr (List.Mem.tail _ (List.Mem.head _)))
  have e3 : h = A 3 := hh.trans R.r3.symm
  have hx : (stepF ts S 3 h 2 0 r).c 0 = some (2, false) ∧ (stepF ts S 3 h 2 0 r).c 1 = some (1, false) ∧ (stepF ts S 3 h 2 0 r).c 2 = none ∧ (stepF ts S 3 h 2 0 r).ns = (S.ns).set 3 h ∧ (stepF ts S 3 h 2 0 r).bs = r ∧ comeF ts S 3 h 2 0 r = 3 := by
    simp [stepF, comeF, movF, begF, upd, h0, h1, h2]
  rw [hx.2.2.2.2.2]
  refine Inv.s8 _ h hx.1 hx.2.1 hx.2.2.1 ?_ ?_ ?_ ?_
  · rw [hx.2.2.2.1, hn]
    show ([A 0, A 1, A 2, h, A 4, A 5, 0, 0, A 8, 0, 0, 0] : List Int) = [A 0, A 1, A 2, A 3, A 4, A 5, 0, 0, A 8, 0, 0, 0]
    rw [← e3]
  · rw [hx.2.2.2.2.1]
    exact List.Perm.trans hr (.refl _)
  · rw [hx.2.2.2.2.1]
    exact hro
  · exact ⟨Int.le_trans hf.1 hτ, Int.le_trans hf.2.1 hτ, Int.le_trans hf.2.2.1 hτ, Int.le_of_eq e3.symm, Int.le_trans hf.2.2.2.1 hτ, Int.le_trans hf.2.2.2.2.1 hτ, Int.le_trans hf.2.2.2.2.2.1 hτ, q0, q1⟩
theorem tr5_0 {A : Nat → Int} {ts : List UInt8} {S : Sim} {r : List Trip} {τ h : Int} (R : Rec A ts) (h0 : S.c 0 = some (1, false)) (h1 : S.c 1 = none) (h2 : S.c 2 = none) (hn : S.ns = [A 0, A 1, A 2, A 3, A 4, 0, 0, 0, 0, 0, 0, 0]) (hr : r.Perm []) (hro : Rowed r) (hle : ∀ y ∈ r, h ≤ y.1) (hh : h = A 4 + tm ts 1 0) (hf : A 0 ≤ τ ∧ A 1 ≤ τ ∧ A 2 ≤ τ ∧ A 3 ≤ τ ∧ A 4 ≤ τ ∧ τ ≤ A 4 + tm ts 1 0) :
    Inv A ts 5 (stepF ts S 2 h 0 1 r) (comeF ts S 2 h 0 1 r) := by
  have hτ : τ ≤ h := Int.le_trans hf.2.2.2.2.2 (Int.le_of_eq hh.symm)
  have e5 : h = A 5 := max_is R.r5 (Int.le_of_eq hh.symm) (Int.le_trans hf.2.2.1 hτ) (.inl hh)
  have e8 : h = A 8 := e5.trans R.r8.symm
  have hx : (stepF ts S 2 h 0 1 r).c 0 = some (2, false) ∧ (stepF ts S 2 h 0 1 r).c 1 = some (1, false) ∧ (stepF ts S 2 h 0 1 r).c 2 = none ∧ (stepF ts S 2 h 0 1 r).ns = ((S.ns).set 5 h).set 8 h ∧ (stepF ts S 2 h 0 1 r).bs = insR (h + tm ts 2 0, 0, 2) (insR (h + tm ts 1 1, 1, 1) (r)) ∧ comeF ts S 2 h 0 1 r = 3 := by
    simp [stepF, comeF, movF, begF, upd, h0, h1, h2]
  rw [hx.2.2.2.2.2]
  refine Inv.s8 _ h hx.1 hx.2.1 hx.2.2.1 ?_ ?_ ?_ ?_
  · rw [hx.2.2.2.1, hn]
    show ([A 0, A 1, A 2, A 3, A 4, h, 0, 0, h, 0, 0, 0] : List Int) = [A 0, A 1, A 2, A 3, A 4, A 5, 0, 0, A 8, 0, 0, 0]
    rw [← e5, ← e8]
  · rw [hx.2.2.2.2.1]
    rw [← e5, ← e8]
    exact List.Perm.trans (insR_perm.trans (.cons _ (insR_perm.trans (.cons _ hr)))) (.swap _ _ _)
  · rw [hx.2.2.2.2.1]
    exact (insR_row (insR_row hro))
  · exact ⟨Int.le_trans hf.1 hτ, Int.le_trans hf.2.1 hτ, Int.le_trans hf.2.2.1 hτ, Int.le_trans hf.2.2.2.1 hτ, Int.le_trans hf.2.2.2.2.1 hτ, Int.le_of_eq e5.symm, Int.le_of_eq e8.symm, le_new e5 (R.p 1 1), le_new e8 (R.p 2 0)⟩
theorem tr6_1 {A : Nat → Int} {ts : List UInt8} {S : Sim} {r : List Trip} {τ h : Int} (R : Rec A ts) (h0 : S.c 0 = some (2, true)) (h1 : S.c 1 = some (1, false)) (h2 : S.c 2 = some (0, false)) (hn : S.ns = [A 0, A 1, A 2, 0, A 4, A 5, 0, 0, A 8, 0, 0, 0]) (hr : r.Perm [(A 2 + tm ts 0 2, 2, 0)]) (hro : Rowed r) (hle : ∀ y ∈ r, h ≤ y.1) (hh : h = A 5 + tm ts 1 1) (hf : A 0 ≤ τ ∧ A 1 ≤ τ ∧ A 2 ≤ τ ∧ A 4 ≤ τ ∧ A 5 ≤ τ ∧ A 8 ≤ τ ∧ A 8 + tm ts 2 0 ≤ τ ∧ τ ≤ A 2 + tm ts 0 2 ∧ τ ≤ A 5 + tm ts 1 1) :
    Inv A ts 4 (stepF ts S 3 h 1 1 r) (comeF ts S 3 h 1 1 r) := by
  have hτ : τ ≤ h := Int.le_trans hf.2.2.2.2.2.2.2.2 (Int.le_of_eq hh.symm)
  have q0 : h ≤ A 2 + tm ts 0 2 := hle (A 2 + tm ts 0 2, 2, 0) (hr.mem_iff.mpr (List.Mem.head _))
  have hx : (stepF ts S 3 h 1 1 r).c 0 = some (2, true) ∧ (stepF ts S 3 h 1 1 r).c 1 = some (1, true) ∧ (stepF ts S 3 h 1 1 r).c 2 = some (0, false) ∧ (stepF ts S 3 h 1 1 r).ns = S.ns ∧ (stepF ts S 3 h 1 1 r).bs = r ∧ comeF ts S 3 h 1 1 r = 3 := by
    simp [stepF, comeF, movF, begF, upd, h0, h1, h2]
  rw [hx.2.2.2.2.2]
  refine Inv.s9 _ h hx.1 hx.2.1 hx.2.2.1 ?_ ?_ ?_ ?_
  · rw [hx.2.2.2.1, hn]
  · rw [hx.2.2.2.2.1]
    exact List.Perm.trans hr (.refl _)
  · rw [hx.2.2.2.2.1]
    exact hro
  · exact ⟨Int.le_trans hf.1 hτ, Int.le_trans hf.2.1 hτ, Int.le_trans hf.2.2.1 hτ, Int.le_trans hf.2.2.2.1 hτ, Int.le_trans hf.2.2.2.2.1 hτ, Int.le_of_eq hh.symm, Int.le_trans hf.2.2.2.2.2.1 hτ, Int.le_trans hf.2.2.2.2.2.2.1 hτ, q0⟩
theorem tr6_2 {A : Nat → Int} {ts : List UInt8} {S : Sim} {r : List Trip} {τ h : Int} (R : Rec A ts) (h0 : S.c 0 = some (2, true)) (h1 : S.c 1 = some (1, false)) (h2 : S.c 2 = some (0, false)) (hn : S.ns = [A 0, A 1, A 2, 0, A 4, A 5, 0, 0, A 8, 0, 0, 0]) (hr : r.Perm [(A 5 + tm ts 1 1, 1, 1)]) (hro : Rowed r) (hle : ∀ y ∈ r, h ≤ y.1) (hh : h = A 2 + tm ts 0 2) (hf : A 0 ≤ τ ∧ A 1 ≤ τ ∧ A 2 ≤ τ ∧ A 4 ≤ τ ∧ A 5 ≤ τ ∧ A 8 ≤ τ ∧ A 8 + tm ts 2 0 ≤ τ ∧ τ ≤ A 2 + tm ts 0 2 ∧ τ ≤ A 5 + tm ts 1 1) :
    Inv A ts 4 (stepF ts S 3 h 2 0 r) (comeF ts S 3 h 2 0 r) := by
  have hτ : τ ≤ h := Int.le_trans hf.2.2.2.2.2.2.2.1 (Int.le_of_eq hh.symm)
  have q0 : h ≤ A 5 + tm ts 1 1 := hle (A 5 + tm ts 1 1, 1, 1) (hr.mem_iff.mpr (List.Mem.head _))
  have e3 : h = A 3 := hh.trans R.r3.symm
  have hx : (stepF ts S 3 h 2 0 r).c 0 = some (2, true) ∧ (stepF ts S 3 h 2 0 r).c 1 = some (1, false) ∧ (stepF ts S 3 h 2 0 r).c 2 = none ∧ (stepF ts S 3 h 2 0 r).ns = (S.ns).set 3 h ∧ (stepF ts S 3 h 2 0 r).bs = r ∧ comeF ts S 3 h 2 0 r = 3 := by
    simp [stepF, comeF, movF, begF, upd, h0, h1, h2]
  rw [hx.2.2.2.2.2]
  refine Inv.s10 _ h hx.1 hx.2.1 hx.2.2.1 ?_ ?_ ?_ ?_
  · rw [hx.2.2.2.1, hn]
    show ([A 0, A 1, A 2, h, A 4, A 5, 0, 0, A 8, 0, 0, 0] : List Int) = [A 0, A 1, A 2, A 3, A 4, A 5, 0, 0, A 8, 0, 0, 0]
    rw [← e3]
  · rw [hx.2.2.2.2.1]
    exact List.Perm.trans hr (.refl _)
  · rw [hx.2.2.2.2.1]
    exact hro
  · exact ⟨Int.le_trans hf.1 hτ, Int.le_trans hf.2.1 hτ, Int.le_trans hf.2.2.1 hτ, Int.le_of_eq e3.symm, Int.le_trans hf.2.2.2.1 hτ, Int.le_trans hf.2.2.2.2.1 hτ, Int.le_trans hf.2.2.2.2.2.1 hτ, Int.le_trans hf.2.2.2.2.2.2.1 hτ, q0⟩
theorem tr7_0 {A : Nat → Int} {ts : List UInt8} {S : Sim} {r : List Trip} {τ h : Int} (R : Rec A ts) (h0 : S.c 0 = some (2, false)) (h1 : S.c 1 = some (1, true)) (h2 : S.c 2 = some (0, false)) (hn : S.ns = [A 0, A 1, A 2, 0, A 4, A 5, 0, 0, A 8, 0, 0, 0]) (hr : r.Perm [(A 2 + tm ts 0 2, 2, 0)]) (hro : Rowed r) (hle : ∀ y ∈ r, h ≤ y.1) (hh : h = A 8 + tm ts 2 0) (hf : A 0 ≤ τ ∧ A 1 ≤ τ ∧ A 2 ≤ τ ∧ A 4 ≤ τ ∧ A 5 ≤ τ ∧ A 5 + tm ts 1 1 ≤ τ ∧ A 8 ≤ τ ∧ τ ≤ A 2 + tm ts 0 2 ∧ τ ≤ A 8 + tm ts 2 0) :
    Inv A ts 4 (stepF ts S 3 h 0 2 r) (comeF ts S 3 h 0 2 r) := by
  have hτ : τ ≤ h := Int.le_trans hf.2.2.2.2.2.2.2.2 (Int.le_of_eq hh.symm)
  have q0 : h ≤ A 2 + tm ts 0 2 := hle (A 2 + tm ts 0 2, 2, 0) (hr.mem_iff.mpr (List.Mem.head _))
  have hx : (stepF ts S 3 h 0 2 r).c 0 = some (2, true) ∧ (stepF ts S 3 h 0 2 r).c 1 = some (1, true) ∧ (stepF ts S 3 h 0 2 r).c 2 = some (0, false) ∧ (stepF ts S 3 h 0 2 r).ns = S.ns ∧ (stepF ts S 3 h 0 2 r).bs = r ∧ comeF ts S 3 h 0 2 r = 3 := by
    simp [stepF, comeF, movF, begF, upd, h0, h1, h2]
  rw [hx.2.2.2.2.2]
  refine Inv.s9 _ h hx.1 hx.2.1 hx.2.2.1 ?_ ?_ ?_ ?_
  · rw [hx.2.2.2.1, hn]
  · rw [hx.2.2.2.2.1]
    exact List.Perm.trans hr (.refl _)
  · rw [hx.2.2.2.2.1]
    exact hro
  · exact ⟨Int.le_trans hf.1 hτ, Int.le_trans hf.2.1 hτ, Int.le_trans hf.2.2.1 hτ, Int.le_trans hf.2.2.2.1 hτ, Int.le_trans hf.2.2.2.2.1 hτ, Int.le_trans hf.2.2.2.2.2.1 hτ, Int.le_trans hf.2.2.2.2.2.2.1 hτ, Int.le_of_eq hh.symm, q0⟩
theorem tr7_2 {A : Nat → Int} {ts : List UInt8} {S : Sim} {r : List Trip} {τ h : Int} (R : Rec A ts) (h0 : S.c 0 = some (2, false)) (h1 : S.c 1 = some (1, true)) (h2 : S.c 2 = some (0, false)) (hn : S.ns = [A 0, A 1, A 2, 0, A 4, A 5, 0, 0, A 8, 0, 0, 0]) (hr : r.Perm [(A 8 + tm ts 2 0, 0, 2)]) (hro : Rowed r) (hle : ∀ y ∈ r, h ≤ y.1) (hh : h = A 2 + tm ts 0 2) (hf : A 0 ≤ τ ∧ A 1 ≤ τ ∧ A 2 ≤ τ ∧ A 4 ≤ τ ∧ A 5 ≤ τ ∧ A 5 + tm ts 1 1 ≤ τ ∧ A 8 ≤ τ ∧ τ ≤ A 2 + tm ts 0 2 ∧ τ ≤ A 8 + tm ts 2 0) :
    Inv A ts 4 (stepF ts S 3 h 2 0 r) (comeF ts S 3 h 2 0 r) := by
  have hτ : τ ≤ h := Int.le_trans hf.2.2.2.2.2.2.2.1 (Int.le_of_eq hh.symm)
  have q0 : h ≤ A 8 + tm ts 2 0 := hle (A 8 + tm ts 2 0, 0, 2) (hr.mem_iff.mpr (List.Mem.head _))
  have e3 : h = A 3 := hh.trans R.r3.symm
  have e6 : h = A 6 := max_is R.r6 (Int.le_trans hf.2.2.2.2.2.1 hτ) (Int.le_of_eq e3.symm) (.inr e3)
  have hx : (stepF ts S 3 h 2 0 r).c 0 = some (2, false) ∧ (stepF ts S 3 h 2 0 r).c 1 = none ∧ (stepF ts S 3 h 2 0 r).c 2 = some (1, false) ∧ (stepF ts S 3 h 2 0 r).ns = ((S.ns).set 3 h).set 6 h ∧ (stepF ts S 3 h 2 0 r).bs = insR (h + tm ts 1 2, 2, 1) (r) ∧ comeF ts S 3 h 2 0 r = 3 := by
    simp [stepF, comeF, movF, begF, upd, h0, h1, h2]
  rw [hx.2.2.2.2.2]
  refine Inv.s11 _ h hx.1 hx.2.1 hx.2.2.1 ?_ ?_ ?_ ?_
  · rw [hx.2.2.2.1, hn]
    show ([A 0, A 1, A 2, h, A 4, A 5, h, 0, A 8, 0, 0, 0] : List Int) = [A 0, A 1, A 2, A 3, A 4, A 5, A 6, 0, A 8, 0, 0, 0]
    rw [← e3, ← e6]
  · rw [hx.2.2.2.2.1]
    rw [← e6]
    exact List.Perm.trans (insR_perm.trans (.cons _ hr)) (.refl _)
  · rw [hx.2.2.2.2.1]
    exact (insR_row hro)
  · exact ⟨Int.le_trans hf.1 hτ, Int.le_trans hf.2.1 hτ, Int.le_trans hf.2.2.1 hτ, Int.le_of_eq e3.symm, Int.le_trans hf.2.2.2.1 hτ, Int.le_trans hf.2.2.2.2.1 hτ, Int.le_of_eq e6.symm, Int.le_trans hf.2.2.2.2.2.2.1 hτ, le_new e6 (R.p 1 2), q0⟩
theorem tr8_0 {A : Nat → Int} {ts : List UInt8} {S : Sim} {r : List Trip} {τ h : Int} (R : Rec A ts) (h0 : S.c 0 = some (2, false)) (h1 : S.c 1 = some (1, false)) (h2 : S.c 2 = none) (hn : S.ns = [A 0, A 1, A 2, A 3, A 4, A 5, 0, 0, A 8, 0, 0, 0]) (hr : r.Perm [(A 5 + tm ts 1 1, 1, 1)]) (hro : Rowed r) (hle : ∀ y ∈ r, h ≤ y.1) (hh : h = A 8 + tm ts 2 0) (hf : A 0 ≤ τ ∧ A 1 ≤ τ ∧ A 2 ≤ τ ∧ A 3 ≤ τ ∧ A 4 ≤ τ ∧ A 5 ≤ τ ∧ A 8 ≤ τ ∧ τ ≤ A 5 + tm ts 1 1 ∧ τ ≤ A 8 + tm ts 2 0) :
    Inv A ts 4 (stepF ts S 3 h 0 2 r) (comeF ts S 3 h 0 2 r) := by
  have hτ : τ ≤ h := Int.le_trans hf.2.2.2.2.2.2.2.2 (Int.le_of_eq hh.symm)
  have q0 : h ≤ A 5 + tm ts 1 1 := hle (A 5 + tm ts 1 1, 1, 1) (hr.mem_iff.mpr (List.Mem.head _))
  have hx : (stepF ts S 3 h 0 2 r).c 0 = some (2, true) ∧ (stepF ts S 3 h 0 2 r).c 1 = some (1, false) ∧ (stepF ts S 3 h 0 2 r).c 2 = none ∧ (stepF ts S 3 h 0 2 r).ns = S.ns ∧ (stepF ts S 3 h 0 2 r).bs = r ∧ comeF ts S 3 h 0 2 r = 3 := by
    simp [stepF, comeF, movF, begF, upd, h0, h1, h2]
  rw [hx.2.2.2.2.2]
  refine Inv.s10 _ h hx.1 hx.2.1 hx.2.2.1 ?_ ?_ ?_ ?_
  · rw [hx.2.2.2.1, hn]
  · rw [hx.2.2.2.2.1]
    exact List.Perm.trans hr (.refl _)
  · rw [hx.2.2.2.2.1]
    exact hro
  · exact ⟨Int.le_trans hf.1 hτ, Int.le_trans hf.2.1 hτ, Int.le_trans hf.2.2.1 hτ, Int.le_trans hf.2.2.2.1 hτ, Int.le_trans hf.2.2.2.2.1 hτ, Int.le_trans hf.2.2.2.2.2.1 hτ, Int.le_trans hf.2.2.2.2.2.2.1 hτ, Int.le_of_eq hh.symm, q0⟩
theorem tr8_1 {A : Nat → Int} {ts : List UInt8} {S : Sim} {r : List Trip} {τ h : Int} (R : Rec A ts) (h0 : S.c 0 = some (2, false)) (h1 : S.c 1 = some (1, false)) (h2 : S.c 2 = none) (hn : S.ns = [A 0, A 1, A 2, A 3, A 4, A 5, 0, 0, A 8, 0, 0, 0]) (hr : r.Perm [(A 8 + tm ts 2 0, 0, 2)]) (hro : Rowed r) (hle : ∀ y ∈ r, h ≤ y.1) (hh : h = A 5 + tm ts 1 1) (hf : A 0 ≤ τ ∧ A 1 ≤ τ ∧ A 2 ≤ τ ∧ A 3 ≤ τ ∧ A 4 ≤ τ ∧ A 5 ≤ τ ∧ A 8 ≤ τ ∧ τ ≤ A 5 + tm ts 1 1 ∧ τ ≤ A 8 + tm ts 2 0) :
    Inv A ts 4 (stepF ts S 3 h 1 1 r) (comeF ts S 3 h 1 1 r) := by
  have hτ : τ ≤ h := Int.le_trans hf.2.2.2.2.2.2.2.1 (Int.le_of_eq hh.symm)
  have q0 : h ≤ A 8 + tm ts 2 0 := hle (A 8 + tm ts 2 0, 0, 2) (hr.mem_iff.mpr (List.Mem.head _))
  have e6 : h = A 6 := max_is R.r6 (Int.le_of_eq hh.symm) (Int.le_trans hf.2.2.2.1 hτ) (.inl hh)
  have hx : (stepF ts S 3 h 1 1 r).c 0 = some (2, false) ∧ (stepF ts S 3 h 1 1 r).c 1 = none ∧ (stepF ts S 3 h 1 1 r).c 2 = some (1, false) ∧ (stepF ts S 3 h 1 1 r).ns = (S.ns).set 6 h ∧ (stepF ts S 3 h 1 1 r).bs = insR (h + tm ts 1 2, 2, 1) (r) ∧ comeF ts S 3 h 1 1 r = 3 := by
    simp [stepF, comeF, movF, begF, upd, h0, h1, h2]
  rw [hx.2.2.2.2.2]
  refine Inv.s11 _ h hx.1 hx.2.1 hx.2.2.1 ?_ ?_ ?_ ?_
  · rw [hx.2.2.2.1, hn]
    show ([A 0, A 1, A 2, A 3, A 4, A 5, h, 0, A 8, 0, 0, 0] : List Int) = [A 0, A 1, A 2, A 3, A 4, A 5, A 6, 0, A 8, 0, 0, 0]
    rw [← e6]
  · rw [hx.2.2.2.2.1]
    rw [← e6]
    exact List.Perm.trans (insR_perm.trans (.cons _ hr)) (.refl _)
  · rw [hx.2.2.2.2.1]
    exact (insR_row hro)
  · exact ⟨Int.le_trans hf.1 hτ, Int.le_trans hf.2.1 hτ, Int.le_trans hf.2.2.1 hτ, Int.le_trans hf.2.2.2.1 hτ, Int.le_trans hf.2.2.2.2.1 hτ, Int.le_trans hf.2.2.2.2.2.1 hτ, Int.le_of_eq e6.symm, Int.le_trans hf.2.2.2.2.2.2.1 hτ, le_new e6 (R.p 1 2), q0⟩
theorem tr9_2 {A : Nat → Int} {ts : List UInt8} {S : Sim} {r : List Trip} {τ h : Int} (R : Rec A ts) (h0 : S.c 0 = some (2, true)) (h1 : S.c 1 = some (1, true)) (h2 : S.c 2 = some (0, false)) (hn : S.ns = [A 0, A 1, A 2, 0, A 4, A 5, 0, 0, A 8, 0, 0, 0]) (hr : r.Perm []) (hro : Rowed r) (hle : ∀ y ∈ r, h ≤ y.1) (hh : h = A 2 + tm ts 0 2) (hf : A 0 ≤ τ ∧ A 1 ≤ τ ∧ A 2 ≤ τ ∧ A 4 ≤ τ ∧ A 5 ≤ τ ∧ A 5 + tm ts 1 1 ≤ τ ∧ A 8 ≤ τ ∧ A 8 + tm ts 2 0 ≤ τ ∧ τ ≤ A 2 + tm ts 0 2) :
    Inv A ts 3 (stepF ts S 3 h 2 0 r) (comeF ts S 3 h 2 0 r) := by
  have hτ : τ ≤ h := Int.le_trans hf.2.2.2.2.2.2.2.2 (Int.le_of_eq hh.symm)
  have e3 : h = A 3 := hh.trans R.r3.symm
  have e6 : h = A 6 := max_is R.r6 (Int.le_trans hf.2.2.2.2.2.1 hτ) (Int.le_of_eq e3.symm) (.inr e3)
  have e9 : h = A 9 := max_is R.r9 (Int.le_trans hf.2.2.2.2.2.2.2.1 hτ) (Int.le_of_eq e6.symm) (.inr e6)
  have hx : (stepF ts S 3 h 2 0 r).c 0 = none ∧ (stepF ts S 3 h 2 0 r).c 1 = some (2, false) ∧ (stepF ts S 3 h 2 0 r).c 2 = some (1, false) ∧ (stepF ts S 3 h 2 0 r).ns = (((S.ns).set 3 h).set 6 h).set 9 h ∧ (stepF ts S 3 h 2 0 r).bs = insR (h + tm ts 2 1, 1, 2) (insR (h + tm ts 1 2, 2, 1) (r)) ∧ comeF ts S 3 h 2 0 r = 3 := by
    simp [stepF, comeF, movF, begF, upd, h0, h1, h2]
  rw [hx.2.2.2.2.2]
  refine Inv.s12 _ h hx.1 hx.2.1 hx.2.2.1 ?_ ?_ ?_ ?_
  · rw [hx.2.2.2.1, hn]
    show ([A 0, A 1, A 2, h, A 4, A 5, h, 0, A 8, h, 0, 0] : List Int) = [A 0, A 1, A 2, A 3, A 4, A 5, A 6, 0, A 8, A 9, 0, 0]
    rw [← e3, ← e6, ← e9]
  · rw [hx.2.2.2.2.1]
    rw [← e6, ← e9]
    exact List.Perm.trans (insR_perm.trans (.cons _ (insR_perm.trans (.cons _ hr)))) (.swap _ _ _)
  · rw [hx.2.2.2.2.1]
    exact (insR_row (insR_row hro))
  · exact ⟨Int.le_trans hf.1 hτ, Int.le_trans hf.2.1 hτ, Int.le_trans hf.2.2.1 hτ, Int.le_of_eq e3.symm, Int.le_trans hf.2.2.2.1 hτ, Int.le_trans hf.2.2.2.2.1 hτ, Int.le_of_eq e6.symm, Int.le_trans hf.2.2.2.2.2.2.1 hτ, Int.le_of_eq e9.symm, le_new e6 (R.p 1 2), le_new e9 (R.p 2 1)⟩
theorem tr10_1 {A : Nat → Int} {ts : List UInt8} {S : Sim} {r : List Trip} {τ h : Int} (R : Rec A ts) (h0 : S.c 0 = some (2, true)) (h1 : S.c 1 = some (1, false)) (h2 : S.c 2 = none) (hn : S.ns = [A 0, A 1, A 2, A 3, A 4, A 5, 0, 0, A 8, 0, 0, 0]) (hr : r.Perm []) (hro : Rowed r) (hle : ∀ y ∈ r, h ≤ y.1) (hh : h = A 5 + tm ts 1 1) (hf : A 0 ≤ τ ∧ A 1 ≤ τ ∧ A 2 ≤ τ ∧ A 3 ≤ τ ∧ A 4 ≤ τ ∧ A 5 ≤ τ ∧ A 8 ≤ τ ∧ A 8 + tm ts 2 0 ≤ τ ∧ τ ≤ A 5 + tm ts 1 1) :
    Inv A ts 3 (stepF ts S 3 h 1 1 r) (comeF ts S 3 h 1 1 r) := by
  have hτ : τ ≤ h := Int.le_trans hf.2.2.2.2.2.2.2.2 (Int.le_of_eq hh.symm)
  have e6 : h = A 6 := max_is R.r6 (Int.le_of_eq hh.symm) (Int.le_trans hf.2.2.2.1 hτ) (.inl hh)
  have e9 : h = A 9 := max_is R.r9 (Int.le_trans hf.2.2.2.2.2.2.2.1 hτ) (Int.le_of_eq e6.symm) (.inr e6)
  have hx : (stepF ts S 3 h 1 1 r).c 0 = none ∧ (stepF ts S 3 h 1 1 r).c 1 = some (2, false) ∧ (stepF ts S 3 h 1 1 r).c 2 = some (1, false) ∧ (stepF ts S 3 h 1 1 r).ns = ((S.ns).set 6 h).set 9 h ∧ (stepF ts S 3 h 1 1 r).bs = insR (h + tm ts 2 1, 1, 2) (insR (h + tm ts 1 2, 2, 1) (r)) ∧ comeF ts S 3 h 1 1 r = 3 := by
    simp [stepF, comeF, movF, begF, upd, h0, h1, h2]
  rw [hx.2.2.2.2.2]
  refine Inv.s12 _ h hx.1 hx.2.1 hx.2.2.1 ?_ ?_ ?_ ?_
  · rw [hx.2.2.2.1, hn]
    show ([A 0, A 1, A 2, A 3, A 4, A 5, h, 0, A 8, h, 0, 0] : List Int) = [A 0, A 1, A 2, A 3, A 4, A 5, A 6, 0, A 8, A 9, 0, 0]
    rw [← e6, ← e9]
  · rw [hx.2.2.2.2.1]
    rw [← e6, ← e9]
    exact List.Perm.trans (insR_perm.trans (.cons _ (insR_perm.trans (.cons _ hr)))) (.swap _ _ _)
  · rw [hx.2.2.2.2.1]
    exact (insR_row (insR_row hro))
  · exact ⟨Int.le_trans hf.1 hτ, Int.le_trans hf.2.1 hτ, Int.le_trans hf.2.2.1 hτ, Int.le_trans hf.2.2.2.1 hτ, Int.le_trans hf.2.2.2.2.1 hτ, Int.le_trans hf.2.2.2.2.2.1 hτ, Int.le_of_eq e6.symm, Int.le_trans hf.2.2.2.2.2.2.1 hτ, Int.le_of_eq e9.symm, le_new e6 (R.p 1 2), le_new e9 (R.p 2 1)⟩
theorem tr11_0 {A : Nat → Int} {ts : List UInt8} {S : Sim} {r : List Trip} {τ h : Int} (R : Rec A ts) (h0 : S.c 0 = some (2, false)) (h1 : S.c 1 = none) (h2 : S.c 2 = some (1, false)) (hn : S.ns = [A 0, A 1, A 2, A 3, A 4, A 5, A 6, 0, A 8, 0, 0, 0]) (hr : r.Perm [(A 6 + tm ts 1 2, 2, 1)]) (hro : Rowed r) (hle : ∀ y ∈ r, h ≤ y.1) (hh : h = A 8 + tm ts 2 0) (hf : A 0 ≤ τ ∧ A 1 ≤ τ ∧ A 2 ≤ τ ∧ A 3 ≤ τ ∧ A 4 ≤ τ ∧ A 5 ≤ τ ∧ A 6 ≤ τ ∧ A 8 ≤ τ ∧ τ ≤ A 6 + tm ts 1 2 ∧ τ ≤ A 8 + tm ts 2 0) :
    Inv A ts 3 (stepF ts S 3 h 0 2 r) (comeF ts S 3 h 0 2 r) := by
  have hτ : τ ≤ h := Int.le_trans hf.2.2.2.2.2.2.2.2.2 (Int.le_of_eq hh.symm)
  have q0 : h ≤ A 6 + tm ts 1 2 := hle (A 6 + tm ts 1 2, 2, 1) (hr.mem_iff.mpr (List.Mem.head _))
  have e9 : h = A 9 := max_is R.r9 (Int.le_of_eq hh.symm) (Int.le_trans hf.2.2.2.2.2.2.1 hτ) (.inl hh)
  have hx : (stepF ts S 3 h 0 2 r).c 0 = none ∧ (stepF ts S 3 h 0 2 r).c 1 = some (2, false) ∧ (stepF ts S 3 h 0 2 r).c 2 = some (1, false) ∧ (stepF ts S 3 h 0 2 r).ns = (S.ns).set 9 h ∧ (stepF ts S 3 h 0 2 r).bs = insR (h + tm ts 2 1, 1, 2) (r) ∧ comeF ts S 3 h 0 2 r = 3 := by
    simp [stepF, comeF, movF, begF, upd, h0, h1, h2]
  rw [hx.2.2.2.2.2]
  refine Inv.s12 _ h hx.1 hx.2.1 hx.2.2.1 ?_ ?_ ?_ ?_
  · rw [hx.2.2.2.1, hn]
    show ([A 0, A 1, A 2, A 3, A 4, A 5, A 6, 0, A 8, h, 0, 0] : List Int) = [A 0, A 1, A 2, A 3, A 4, A 5, A 6, 0, A 8, A 9, 0, 0]
    rw [← e9]
  · rw [hx.2.2.2.2.1]
    rw [← e9]
    exact List.Perm.trans (insR_perm.trans (.cons _ hr)) (.swap _ _ _)
  · rw [hx.2.2.2.2.1]
    exact (insR_row hro)
  · exact ⟨Int.le_trans hf.1 hτ, Int.le_trans hf.2.1 hτ, Int.le_trans hf.2.2.1 hτ, Int.le_trans hf.2.2.2.1 hτ, Int.le_trans hf.2.2.2.2.1 hτ, Int.le_trans hf.2.2.2.2.2.1 hτ, Int.le_trans hf.2.2.2.2.2.2.1 hτ, Int.le_trans hf.2.2.2.2.2.2.2.1 hτ, Int.le_of_eq e9.symm, q0, le_new e9 (R.p 2 1)⟩
theorem tr11_2 {A : Nat → Int} {ts : List UInt8} {S : Sim} {r : List Trip} {τ h : Int} (R : Rec A ts) (h0 : S.c 0 = some (2, false)) (h1 : S.c 1 = none) (h2 : S.c 2 = some (1, false)) (hn : S.ns = [A 0, A 1, A 2, A 3, A 4, A 5, A 6, 0, A 8, 0, 0, 0]) (hr : r.Perm [(A 8 + tm ts 2 0, 0, 2)]) (hro : Rowed r) (hle : ∀ y ∈ r, h ≤ y.1) (hh : h = A 6 + tm ts 1 2) (hf : A 0 ≤ τ ∧ A 1 ≤ τ ∧ A 2 ≤ τ ∧ A 3 ≤ τ ∧ A 4 ≤ τ ∧ A 5 ≤ τ ∧ A 6 ≤ τ ∧ A 8 ≤ τ ∧ τ ≤ A 6 + tm ts 1 2 ∧ τ ≤ A 8 + tm ts 2 0) :
    Inv A ts 3 (stepF ts S 3 h 2 1 r) (comeF ts S 3 h 2 1 r) := by
  have hτ : τ ≤ h := Int.le_trans hf.2.2.2.2.2.2.2.2.1 (Int.le_of_eq hh.symm)
  have q0 : h ≤ A 8 + tm ts 2 0 := hle (A 8 + tm ts 2 0, 0, 2) (hr.mem_iff.mpr (List.Mem.head _))
  have e7 : h = A 7 := hh.trans R.r7.symm
  have hx : (stepF ts S 3 h 2 1 r).c 0 = some (2, false) ∧ (stepF ts S 3 h 2 1 r).c 1 = none ∧ (stepF ts S 3 h 2 1 r).c 2 = none ∧ (stepF ts S 3 h 2 1 r).ns = (S.ns).set 7 h ∧ (stepF ts S 3 h 2 1 r).bs = r ∧ comeF ts S 3 h 2 1 r = 3 := by
    simp [stepF, comeF, movF, begF, upd, h0, h1, h2]
  rw [hx.2.2.2.2.2]
  refine Inv.s13 _ h hx.1 hx.2.1 hx.2.2.1 ?_ ?_ ?_ ?_
  · rw [hx.2.2.2.1, hn]
    show ([A 0, A 1, A 2, A 3, A 4, A 5, A 6, h, A 8, 0, 0, 0] : List Int) = [A 0, A 1, A 2, A 3, A 4, A 5, A 6, A 7, A 8, 0, 0, 0]
    rw [← e7]
  · rw [hx.2.2.2.2.1]
    exact List.Perm.trans hr (.refl _)
  · rw [hx.2.2.2.2.1]
    exact hro
  · exact ⟨Int.le_trans hf.1 hτ, Int.le_trans hf.2.1 hτ, Int.le_trans hf.2.2.1 hτ, Int.le_trans hf.2.2.2.1 hτ, Int.le_trans hf.2.2.2.2.1 hτ, Int.le_trans hf.2.2.2.2.2.1 hτ, Int.le_trans hf.2.2.2.2.2.2.1 hτ, Int.le_of_eq e7.symm, Int.le_trans hf.2.2.2.2.2.2.2.1 hτ, q0⟩
theorem tr12_1 {A : Nat → Int} {ts : List UInt8} {S : Sim} {r : List Trip} {τ h : Int} (R : Rec A ts) (h0 : S.c 0 = none) (h1 : S.c 1 = some (2, false)) (h2 : S.c 2 = some (1, false)) (hn : S.ns = [A 0, A 1, A 2, A 3, A 4, A 5, A 6, 0, A 8, A 9, 0, 0]) (hr : r.Perm [(A 6 + tm ts 1 2, 2, 1)]) (hro : Rowed r) (hle : ∀ y ∈ r, h ≤ y.1) (hh : h = A 9 + tm ts 2 1) (hf : A 0 ≤ τ ∧ A 1 ≤ τ ∧ A 2 ≤ τ ∧ A 3 ≤ τ ∧ A 4 ≤ τ ∧ A 5 ≤ τ ∧ A 6 ≤ τ ∧ A 8 ≤ τ ∧ A 9 ≤ τ ∧ τ ≤ A 6 + tm ts 1 2 ∧ τ ≤ A 9 + tm ts 2 1) :
    Inv A ts 2 (stepF ts S 3 h 1 2 r) (comeF ts S 3 h 1 2 r) := by
  have hτ : τ ≤ h := Int.le_trans hf.2.2.2.2.2.2.2.2.2.2 (Int.le_of_eq hh.symm)
  have q0 : h ≤ A 6 + tm ts 1 2 := hle (A 6 + tm ts 1 2, 2, 1) (hr.mem_iff.mpr (List.Mem.head _))
  have hx : (stepF ts S 3 h 1 2 r).c 0 = none ∧ (stepF ts S 3 h 1 2 r).c 1 = some (2, true) ∧ (stepF ts S 3 h 1 2 r).c 2 = some (1, false) ∧ (stepF ts S 3 h 1 2 r).ns = S.ns ∧ (stepF ts S 3 h 1 2 r).bs = r ∧ comeF ts S 3 h 1 2 r = 3 := by
    simp [stepF, comeF, movF, begF, upd, h0, h1, h2]
  rw [hx.2.2.2.2.2]
  refine Inv.s14 _ h hx.1 hx.2.1 hx.2.2.1 ?_ ?_ ?_ ?_
  · rw [hx.2.2.2.1, hn]
  · rw [hx.2.2.2.2.1]
    exact List.Perm.trans hr (.refl _)
  · rw [hx.2.2.2.2.1]
    exact hro
  · exact ⟨Int.le_trans hf.1 hτ, Int.le_trans hf.2.1 hτ, Int.le_trans hf.2.2.1 hτ, Int.le_trans hf.2.2.2.1 hτ, Int.le_trans hf.2.2.2.2.1 hτ, Int.le_trans hf.2.2.2.2.2.1 hτ, Int.le_trans hf.2.2.2.2.2.2.1 hτ, Int.le_trans hf.2.2.2.2.2.2.2.1 hτ, Int.le_trans hf.2.2.2.2.2.2.2.2.1 hτ, Int.le_of_eq hh.symm, q0⟩
theorem tr12_2 {A : Nat → Int} {ts : List UInt8} {S : Sim} {r : List Trip} {τ h : Int} (R : Rec A ts) (h0 : S.c 0 = none) (h1 : S.c 1 = some (2, false)) (h2 : S.c 2 = some (1, false)) (hn : S.ns = [A 0, A 1, A 2, A 3, A 4, A 5, A 6, 0, A 8, A 9, 0, 0]) (hr : r.Perm [(A 9 + tm ts 2 1, 1, 2)]) (hro : Rowed r) (hle : ∀ y ∈ r, h ≤ y.1) (hh : h = A 6 + tm ts 1 2) (hf : A 0 ≤ τ ∧ A 1 ≤ τ ∧ A 2 ≤ τ ∧ A 3 ≤ τ ∧ A 4 ≤ τ ∧ A 5 ≤ τ ∧ A 6 ≤ τ ∧ A 8 ≤ τ ∧ A 9 ≤ τ ∧ τ ≤ A 6 + tm ts 1 2 ∧ τ ≤ A 9 + tm ts 2 1) :
    Inv A ts 2 (stepF ts S 3 h 2 1 r) (comeF ts S 3 h 2 1 r) := by
  have hτ : τ ≤ h := Int.le_trans hf.2.2.2.2.2.2.2.2.2.1 (Int.le_of_eq hh.symm)
  have q0 : h ≤ A 9 + tm ts 2 1 := hle (A 9 + tm ts 2 1, 1, 2) (hr.mem_iff.mpr (List.Mem.head _))
  have e7 : h = A 7 := hh.trans R.r7.symm
  have hx : (stepF ts S 3 h 2 1 r).c 0 = none ∧ (stepF ts S 3 h 2 1 r).c 1 = some (2, false) ∧ (stepF ts S 3 h 2 1 r).c 2 = none ∧ (stepF ts S 3 h 2 1 r).ns = (S.ns).set 7 h ∧ (stepF ts S 3 h 2 1 r).bs = r ∧ comeF ts S 3 h 2 1 r = 3 := by
    simp [stepF, comeF, movF, begF, upd, h0, h1, h2]
  rw [hx.2.2.2.2.2]
  refine Inv.s15 _ h hx.1 hx.2.1 hx.2.2.1 ?_ ?_ ?_ ?_
  · rw [hx.2.2.2.1, hn]
    show ([A 0, A 1, A 2, A 3, A 4, A 5, A 6, h, A 8, A 9, 0, 0] : List Int) = [A 0, A 1, A 2, A 3, A 4, A 5, A 6, A 7, A 8, A 9, 0, 0]
    rw [← e7]
  · rw [hx.2.2.2.2.1]
    exact List.Perm.trans hr (.refl _)
  · rw [hx.2.2.2.2.1]
    exact hro
  · exact ⟨Int.le_trans hf.1 hτ, Int.le_trans hf.2.1 hτ, Int.le_trans hf.2.2.1 hτ, Int.le_trans hf.2.2.2.1 hτ, Int.le_trans hf.2.2.2.2.1 hτ, Int.le_trans hf.2.2.2.2.2.1 hτ, Int.le_trans hf.2.2.2.2.2.2.1 hτ, Int.le_of_eq e7.symm, Int.le_trans hf.2.2.2.2.2.2.2.1 hτ, Int.le_trans hf.2.2.2.2.2.2.2.2.1 hτ, q0⟩
theorem tr13_0 {A : Nat → Int} {ts : List UInt8} {S : Sim} {r : List Trip} {τ h : Int} (R : Rec A ts) (h0 : S.c 0 = some (2, false)) (h1 : S.c 1 = none) (h2 : S.c 2 = none) (hn : S.ns = [A 0, A 1, A 2, A 3, A 4, A 5, A 6, A 7, A 8, 0, 0, 0]) (hr : r.Perm []) (hro : Rowed r) (hle : ∀ y ∈ r, h ≤ y.1) (hh : h = A 8 + tm ts 2 0) (hf : A 0 ≤ τ ∧ A 1 ≤ τ ∧ A 2 ≤ τ ∧ A 3 ≤ τ ∧ A 4 ≤ τ ∧ A 5 ≤ τ ∧ A 6 ≤ τ ∧ A 7 ≤ τ ∧ A 8 ≤ τ ∧ τ ≤ A 8 + tm ts 2 0) :
    Inv A ts 2 (stepF ts S 3 h 0 2 r) (comeF ts S 3 h 0 2 r) := by
  have hτ : τ ≤ h := Int.le_trans hf.2.2.2.2.2.2.2.2.2 (Int.le_of_eq hh.symm)
  have e9 : h = A 9 := max_is R.r9 (Int.le_of_eq hh.symm) (Int.le_trans hf.2.2.2.2.2.2.1 hτ) (.inl hh)
  have hx : (stepF ts S 3 h 0 2 r).c 0 = none ∧ (stepF ts S 3 h 0 2 r).c 1 = some (2, false) ∧ (stepF ts S 3 h 0 2 r).c 2 = none ∧ (stepF ts S 3 h 0 2 r).ns = (S.ns).set 9 h ∧ (stepF ts S 3 h 0 2 r).bs = insR (h + tm ts 2 1, 1, 2) (r) ∧ comeF ts S 3 h 0 2 r = 3 := by
    simp [stepF, comeF, movF, begF, upd, h0, h1, h2]
  rw [hx.2.2.2.2.2]
  refine Inv.s15 _ h hx.1 hx.2.1 hx.2.2.1 ?_ ?_ ?_ ?_
  · rw [hx.2.2.2.1, hn]
    show ([A 0, A 1, A 2, A 3, A 4, A 5, A 6, A 7, A 8, h, 0, 0] : List Int) = [A 0, A 1, A 2, A 3, A 4, A 5, A 6, A 7, A 8, A 9, 0, 0]
    rw [← e9]
  · rw [hx.2.2.2.2.1]
    rw [← e9]
    exact List.Perm.trans (insR_perm.trans (.cons _ hr)) (.refl _)
  · rw [hx.2.2.2.2.1]
    exact (insR_row hro)
  · exact ⟨Int.le_trans hf.1 hτ, Int.le_trans hf.2.1 hτ, Int.le_trans hf.2.2.1 hτ, Int.le_trans hf.2.2.2.1 hτ, Int.le_trans hf.2.2.2.2.1 hτ, Int.le_trans hf.2.2.2.2.2.1 hτ, Int.le_trans hf.2.2.2.2.2.2.1 hτ, Int.le_trans hf.2.2.2.2.2.2.2.1 hτ, Int.le_trans hf.2.2.2.2.2.2.2.2.1 hτ, Int.le_of_eq e9.symm, le_new e9 (R.p 2 1)⟩
theorem tr14_2 {A : Nat → Int} {ts : List UInt8} {S : Sim} {r : List Trip} {τ h : Int} (R : Rec A ts) (h0 : S.c 0 = none) (h1 : S.c 1 = some (2, true)) (h2 : S.c 2 = some (1, false)) (hn : S.ns = [A 0, A 1, A 2, A 3, A 4, A 5, A 6, 0, A 8, A 9, 0, 0]) (hr : r.Perm []) (hro : Rowed r) (hle : ∀ y ∈ r, h ≤ y.1) (hh : h = A 6 + tm ts 1 2) (hf : A 0 ≤ τ ∧ A 1 ≤ τ ∧ A 2 ≤ τ ∧ A 3 ≤ τ ∧ A 4 ≤ τ ∧ A 5 ≤ τ ∧ A 6 ≤ τ ∧ A 8 ≤ τ ∧ A 9 ≤ τ ∧ A 9 + tm ts 2 1 ≤ τ ∧ τ ≤ A 6 + tm ts 1 2) :
    Inv A ts 1 (stepF ts S 3 h 2 1 r) (comeF ts S 3 h 2 1 r) := by
  have hτ : τ ≤ h := Int.le_trans hf.2.2.2.2.2.2.2.2.2.2 (Int.le_of_eq hh.symm)
  have e7 : h = A 7 := hh.trans R.r7.symm
  have e10 : h = A 10 := max_is R.r10 (Int.le_trans hf.2.2.2.2.2.2.2.2.2.1 hτ) (Int.le_of_eq e7.symm) (.inr e7)
  have hx : (stepF ts S 3 h 2 1 r).c 0 = none ∧ (stepF ts S 3 h 2 1 r).c 1 = none ∧ (stepF ts S 3 h 2 1 r).c 2 = some (2, false) ∧ (stepF ts S 3 h 2 1 r).ns = ((S.ns).set 7 h).set 10 h ∧ (stepF ts S 3 h 2 1 r).bs = insR (h + tm ts 2 2, 2, 2) (r) ∧ comeF ts S 3 h 2 1 r = 3 := by
    simp [stepF, comeF, movF, begF, upd, h0, h1, h2]
  rw [hx.2.2.2.2.2]
  refine Inv.s16 _ h hx.1 hx.2.1 hx.2.2.1 ?_ ?_ ?_ ?_
  · rw [hx.2.2.2.1, hn]
    show ([A 0, A 1, A 2, A 3, A 4, A 5, A 6, h, A 8, A 9, h, 0] : List Int) = [A 0, A 1, A 2, A 3, A 4, A 5, A 6, A 7, A 8, A 9, A 10, 0]
    rw [← e7, ← e10]
  · rw [hx.2.2.2.2.1]
    rw [← e10]
    exact List.Perm.trans (insR_perm.trans (.cons _ hr)) (.refl _)
  · rw [hx.2.2.2.2.1]
    exact (insR_row hro)
  · exact ⟨Int.le_trans hf.1 hτ, Int.le_trans hf.2.1 hτ, Int.le_trans hf.2.2.1 hτ, Int.le_trans hf.2.2.2.1 hτ, Int.le_trans hf.2.2.2.2.1 hτ, Int.le_trans hf.2.2.2.2.2.1 hτ, Int.le_trans hf.2.2.2.2.2.2.1 hτ, Int.le_of_eq e7.symm, Int.le_trans hf.2.2.2.2.2.2.2.1 hτ, Int.le_trans hf.2.2.2.2.2.2.2.2.1 hτ, Int.le_of_eq e10.symm, le_new e10 (R.p 2 2)⟩
theorem tr15_1 {A : Nat → Int} {ts : List UInt8} {S : Sim} {r : List Trip} {τ h : Int} (R : Rec A ts) (h0 : S.c 0 = none) (h1 : S.c 1 = some (2, false)) (h2 : S.c 2 = none) (hn : S.ns = [A 0, A 1, A 2, A 3, A 4, A 5, A 6, A 7, A 8, A 9, 0, 0]) (hr : r.Perm []) (hro : Rowed r) (hle : ∀ y ∈ r, h ≤ y.1) (hh : h = A 9 + tm ts 2 1) (hf : A 0 ≤ τ ∧ A 1 ≤ τ ∧ A 2 ≤ τ ∧ A 3 ≤ τ ∧ A 4 ≤ τ ∧ A 5 ≤ τ ∧ A 6 ≤ τ ∧ A 7 ≤ τ ∧ A 8 ≤ τ ∧ A 9 ≤ τ ∧ τ ≤ A 9 + tm ts 2 1) :
    Inv A ts 1 (stepF ts S 3 h 1 2 r) (comeF ts S 3 h 1 2 r) := by
  have hτ : τ ≤ h := Int.le_trans hf.2.2.2.2.2.2.2.2.2.2 (Int.le_of_eq hh.symm)
  have e10 : h = A 10 := max_is R.r10 (Int.le_of_eq hh.symm) (Int.le_trans hf.2.2.2.2.2.2.2.1 hτ) (.inl hh)
  have hx : (stepF ts S 3 h 1 2 r).c 0 = none ∧ (stepF ts S 3 h 1 2 r).c 1 = none ∧ (stepF ts S 3 h 1 2 r).c 2 = some (2, false) ∧ (stepF ts S 3 h 1 2 r).ns = (S.ns).set 10 h ∧ (stepF ts S 3 h 1 2 r).bs = insR (h + tm ts 2 2, 2, 2) (r) ∧ comeF ts S 3 h 1 2 r = 3 := by
    simp [stepF, comeF, movF, begF, upd, h0, h1, h2]
  rw [hx.2.2.2.2.2]
  refine Inv.s16 _ h hx.1 hx.2.1 hx.2.2.1 ?_ ?_ ?_ ?_
  · rw [hx.2.2.2.1, hn]
    show ([A 0, A 1, A 2, A 3, A 4, A 5, A 6, A 7, A 8, A 9, h, 0] : List Int) = [A 0, A 1, A 2, A 3, A 4, A 5, A 6, A 7, A 8, A 9, A 10, 0]
    rw [← e10]
  · rw [hx.2.2.2.2.1]
    rw [← e10]
    exact List.Perm.trans (insR_perm.trans (.cons _ hr)) (.refl _)
  · rw [hx.2.2.2.2.1]
    exact (insR_row hro)
  · exact ⟨Int.le_trans hf.1 hτ, Int.le_trans hf.2.1 hτ, Int.le_trans hf.2.2.1 hτ, Int.le_trans hf.2.2.2.1 hτ, Int.le_trans hf.2.2.2.2.1 hτ, Int.le_trans hf.2.2.2.2.2.1 hτ, Int.le_trans hf.2.2.2.2.2.2.1 hτ, Int.le_trans hf.2.2.2.2.2.2.2.1 hτ, Int.le_trans hf.2.2.2.2.2.2.2.2.1 hτ, Int.le_trans hf.2.2.2.2.2.2.2.2.2.1 hτ, Int.le_of_eq e10.symm, le_new e10 (R.p 2 2)⟩
theorem tr16_2 {A : Nat → Int} {ts : List UInt8} {S : Sim} {r : List Trip} {τ h : Int} (R : Rec A ts) (h0 : S.c 0 = none) (h1 : S.c 1 = none) (h2 : S.c 2 = some (2, false)) (hn : S.ns = [A 0, A 1, A 2, A 3, A 4, A 5, A 6, A 7, A 8, A 9, A 10, 0]) (hr : r.Perm []) (hro : Rowed r) (hle : ∀ y ∈ r, h ≤ y.1) (hh : h = A 10 + tm ts 2 2) (hf : A 0 ≤ τ ∧ A 1 ≤ τ ∧ A 2 ≤ τ ∧ A 3 ≤ τ ∧ A 4 ≤ τ ∧ A 5 ≤ τ ∧ A 6 ≤ τ ∧ A 7 ≤ τ ∧ A 8 ≤ τ ∧ A 9 ≤ τ ∧ A 10 ≤ τ ∧ τ ≤ A 10 + tm ts 2 2) :
    Inv A ts 0 (stepF ts S 3 h 2 2 r) (comeF ts S 3 h 2 2 r) := by
  have hτ : τ ≤ h := Int.le_trans hf.2.2.2.2.2.2.2.2.2.2.2 (Int.le_of_eq hh.symm)
  have e11 : h = A 11 := hh.trans R.r11.symm
  have hx : (stepF ts S 3 h 2 2 r).c 0 = none ∧ (stepF ts S 3 h 2 2 r).c 1 = none ∧ (stepF ts S 3 h 2 2 r).c 2 = none ∧ (stepF ts S 3 h 2 2 r).ns = (S.ns).set 11 h ∧ (stepF ts S 3 h 2 2 r).bs = r ∧ comeF ts S 3 h 2 2 r = 3 := by
    simp [stepF, comeF, movF, begF, upd, h0, h1, h2]
  rw [hx.2.2.2.2.2]
  refine Inv.s17 _ h hx.1 hx.2.1 hx.2.2.1 ?_ ?_ ?_ ?_
  · rw [hx.2.2.2.1, hn]
    show ([A 0, A 1, A 2, A 3, A 4, A 5, A 6, A 7, A 8, A 9, A 10, h] : List Int) = [A 0, A 1, A 2, A 3, A 4, A 5, A 6, A 7, A 8, A 9, A 10, A 11]
    rw [← e11]
  · rw [hx.2.2.2.2.1]
    exact List.Perm.trans hr (.refl _)
  · rw [hx.2.2.2.2.1]
    exact hro
  · exact ⟨Int.le_trans hf.1 hτ, Int.le_trans hf.2.1 hτ, Int.le_trans hf.2.2.1 hτ, Int.le_trans hf.2.2.2.1 hτ, Int.le_trans hf.2.2.2.2.1 hτ, Int.le_trans hf.2.2.2.2.2.1 hτ, Int.le_trans hf.2.2.2.2.2.2.1 hτ, Int.le_trans hf.2.2.2.2.2.2.2.1 hτ, Int.le_trans hf.2.2.2.2.2.2.2.2.1 hτ, Int.le_trans hf.2.2.2.2.2.2.2.2.2.1 hτ, Int.le_trans hf.2.2.2.2.2.2.2.2.2.2.1 hτ, Int.le_of_eq e11.symm⟩
end Mine

namespace Mine
def mx (a x : Int) : Int := if x > a then x else a
def mxs (a : Int) (l : List Int) : Int := l.foldl mx a
theorem mx_spec (a x : Int) : a ≤ mx a x ∧ x ≤ mx a x ∧ (mx a x = a ∨ mx a x = x) := by
  unfold mx
  split <;> omega
theorem mxs_spec : ∀ (l : List Int) (a : Int), a ≤ mxs a l ∧ (∀ x ∈ l, x ≤ mxs a l) ∧ (mxs a l = a ∨ mxs a l ∈ l)
  | [], a => ⟨Int.le_refl _, fun _ h => (nomatch h), .inl rfl⟩
  | y :: r, a => by
    have h := mxs_spec r (mx a y)
    have g := mx_spec a y
    have e : mxs a (y :: r) = mxs (mx a y) r := rfl
    rw [e]
    refine ⟨Int.le_trans g.1 h.1, fun x hx => ?_, ?_⟩
    · rcases List.mem_cons.mp hx with rfl | hx
      · exact Int.le_trans g.2.1 h.1
      · exact h.2.1 x hx
    · rcases h.2.2 with h1 | h1
      · rw [h1]
        rcases g.2.2 with g1 | g1
        · exact .inl g1
        · rw [g1]; exact .inr (.head _)
      · exact .inr (.tail _ h1)
/-- a sum of letters -/
def sm (f : Nat → Nat) (I : List Nat) : Int := I.foldl (fun a i => a + (f i : Int)) 0
/-- the greatest of the sums of rows -/
def gr (f : Nat → Nat) (P : List (List Nat)) : Int := mxs 0 (P.map (sm f))
/-- the letters of a tape -/
def tp (ts : List UInt8) (i : Nat) : Nat := (ts.getD i 0).toNat
def dom : List Nat → List Nat → Bool
  | [], _ => true
  | i :: I, J => J.contains i && dom I (J.erase i)
theorem sm_from {f : Nat → Nat} : ∀ (I : List Nat) (a : Int), I.foldl (fun a i => a + (f i : Int)) a = a + sm f I
  | [], a => (Int.add_zero a).symm
  | i :: I, a => by
    show I.foldl _ (a + (f i : Int)) = a + I.foldl _ (0 + (f i : Int))
    rw [sm_from I, sm_from I]; omega
theorem sm_cons {f : Nat → Nat} {i : Nat} {I : List Nat} : sm f (i :: I) = (f i : Int) + sm f I := by
  show I.foldl _ (0 + (f i : Int)) = _
  rw [sm_from]; omega
theorem sm_app {f : Nat → Nat} : ∀ (I J : List Nat), sm f (I ++ J) = sm f I + sm f J
  | [], J => (Int.zero_add _).symm
  | i :: I, J => by rw [List.cons_append, sm_cons, sm_cons, sm_app I J]; omega
theorem sm_pos {f : Nat → Nat} : ∀ (I : List Nat), 0 ≤ sm f I
  | [] => Int.le_refl _
  | i :: I => by have := sm_pos (f := f) I; rw [sm_cons]; omega
theorem sm_erase {f : Nat → Nat} {i : Nat} : ∀ {J : List Nat}, i ∈ J → sm f J = (f i : Int) + sm f (J.erase i)
  | j :: J, h => by
    rw [List.erase_cons]
    by_cases e : j = i
    · subst e; simp [sm_cons]
    · have h' : i ∈ J := by rcases List.mem_cons.mp h with rfl | h
                            · exact absurd rfl e
                            · exact h
      rw [if_neg (by simpa using e), sm_cons, sm_cons, sm_erase h']; omega
theorem dom_le {f : Nat → Nat} : ∀ {I J : List Nat}, dom I J = true → sm f I ≤ sm f J
  | [], J, _ => sm_pos J
  | i :: I, J, h => by
    unfold dom at h
    rw [Bool.and_eq_true] at h
    have h1 := sm_erase (f := f) (List.contains_iff_mem.mp h.1)
    have h2 := dom_le (f := f) h.2
    rw [sm_cons]; omega
theorem mxs_add {P S T : List Int} (h1 : ∀ p ∈ P, ∀ s ∈ S, ∃ t ∈ T, p + s ≤ t) (h2 : ∀ t ∈ T, ∃ p ∈ P, ∃ s ∈ S, t ≤ p + s) (hP : mxs 0 P ∈ P) (hS : mxs 0 S ∈ S) : mxs 0 P + mxs 0 S = mxs 0 T := by
  have p1 := mxs_spec P 0
  have s1 := mxs_spec S 0
  have t1 := mxs_spec T 0
  apply Int.le_antisymm
  · obtain ⟨t, ht, hle⟩ := h1 _ hP _ hS
    exact Int.le_trans hle (t1.2.1 t ht)
  · rcases t1.2.2 with e | e
    · have := p1.1
      have := s1.1
      omega
    · obtain ⟨p, hp, s, hs, hle⟩ := h2 _ e
      have := p1.2.1 p hp
      have := s1.2.1 s hs
      omega
theorem mxs_top {f : Nat → Nat} {P : List (List Nat)} (hP : P.isEmpty = false) : mxs 0 (P.map (sm f)) ∈ P.map (sm f) := by
  match P, hP with
  | p :: P, _ =>
    have h := mxs_spec ((p :: P).map (sm f)) 0
    rcases h.2.2 with e | e
    · have := h.2.1 (sm f p) (.head _)
      have := sm_pos (f := f) p
      have e2 : mxs 0 ((p :: P).map (sm f)) = sm f p := by omega
      rw [e2]; exact .head _
    · exact e
/-- the sums of P and S, one with one, are the sums of T, but for lesser ones -/
def addC (P S T : List (List Nat)) : Bool := !P.isEmpty && !S.isEmpty && P.all (fun p => S.all fun s => T.any fun t => dom (p ++ s) t) && T.all fun t => P.any fun p => S.any fun s => dom t (p ++ s)
theorem addC_ok {f : Nat → Nat} {P S T : List (List Nat)} (h : addC P S T = true) : gr f P + gr f S = gr f T := by
  simp only [addC, Bool.and_eq_true, Bool.not_eq_true', List.all_eq_true, List.any_eq_true] at h
  obtain ⟨⟨⟨hP, hS⟩, h1⟩, h2⟩ := h
  refine mxs_add ?_ ?_ (mxs_top hP) (mxs_top hS)
  · intro _ k1 _ k2
    obtain ⟨p, hp, rfl⟩ := List.mem_map.mp k1
    obtain ⟨s, hs, rfl⟩ := List.mem_map.mp k2
    obtain ⟨t, ht, h⟩ := h1 p hp s hs
    exact ⟨_, List.mem_map_of_mem ht, by rw [← sm_app]; exact dom_le h⟩
  · intro _ k1
    obtain ⟨t, ht, rfl⟩ := List.mem_map.mp k1
    obtain ⟨p, hp, s, hs, h⟩ := h2 t ht
    exact ⟨_, List.mem_map_of_mem hp, _, List.mem_map_of_mem hs, by rw [← sm_app]; exact dom_le h⟩
/-- the greatest of two, the first one longer by t -/
def recC (P Q R : List (List Nat)) (t : List Nat) : Bool := !P.isEmpty && !Q.isEmpty && !R.isEmpty && P.all (fun p => R.any fun r => dom (p ++ t) r) && Q.all (fun q => R.any fun r => dom q r) && R.all fun r => (P.any fun p => dom r (p ++ t)) || Q.any fun q => dom r q
theorem recC_ok {f : Nat → Nat} {P Q R : List (List Nat)} {t : List Nat} (h : recC P Q R t = true) : gr f P + sm f t ≤ gr f R ∧ gr f Q ≤ gr f R ∧ (gr f R = gr f P + sm f t ∨ gr f R = gr f Q) := by
  simp only [recC, Bool.and_eq_true, Bool.or_eq_true, Bool.not_eq_true', List.all_eq_true, List.any_eq_true] at h
  obtain ⟨⟨⟨⟨⟨hP, hQ⟩, hR⟩, h1⟩, h2⟩, h3⟩ := h
  have p1 := mxs_spec (P.map (sm f)) 0
  have q1 := mxs_spec (Q.map (sm f)) 0
  have r1 := mxs_spec (R.map (sm f)) 0
  have a1 : gr f P + sm f t ≤ gr f R := by
    obtain ⟨p, hp, e⟩ := List.mem_map.mp (mxs_top (f := f) hP)
    obtain ⟨r, hr, h⟩ := h1 p hp
    have := dom_le (f := f) h
    have := r1.2.1 _ (List.mem_map_of_mem hr)
    rw [sm_app] at *
    show mxs 0 _ + _ ≤ mxs 0 _
    omega
  have a2 : gr f Q ≤ gr f R := by
    obtain ⟨q, hq, e⟩ := List.mem_map.mp (mxs_top (f := f) hQ)
    obtain ⟨r, hr, h⟩ := h2 q hq
    have := dom_le (f := f) h
    have := r1.2.1 _ (List.mem_map_of_mem hr)
    show mxs 0 _ ≤ mxs 0 _
    omega
  refine ⟨a1, a2, ?_⟩
  obtain ⟨r, hr, e⟩ := List.mem_map.mp (mxs_top (f := f) hR)
  have e' : gr f R = sm f r := e.symm
  rcases h3 r hr with ⟨p, hp, h⟩ | ⟨q, hq, h⟩
  · have h := dom_le (f := f) h
    rw [sm_app] at h
    have h5 : sm f p ≤ gr f P := p1.2.1 _ (List.mem_map_of_mem hp)
    left; omega
  · have h := dom_le (f := f) h
    have h5 : sm f q ≤ gr f Q := q1.2.1 _ (List.mem_map_of_mem hq)
    right; omega
def AH : List (List (List Nat)) := [[[]], [[0]], [[0, 1]], [[0, 1, 2]], [[0]], [[0, 1], [0, 3]], [[0, 1, 2], [0, 1, 4], [0, 3, 4]], [[0, 1, 2, 5], [0, 1, 4, 5], [0, 3, 4, 5]], [[0, 1], [0, 3]], [[0, 1, 2], [0, 1, 4], [0, 1, 6], [0, 3, 4], [0, 3, 6]], [[0, 1, 2, 5], [0, 1, 2, 7], [0, 1, 4, 5], [0, 1, 4, 7], [0, 1, 6, 7], [0, 3, 4, 5], [0, 3, 4, 7], [0, 3, 6, 7]], [[0, 1, 2, 5, 8], [0, 1, 2, 7, 8], [0, 1, 4, 5, 8], [0, 1, 4, 7, 8], [0, 1, 6, 7, 8], [0, 3, 4, 5, 8], [0, 3, 4, 7, 8], [0, 3, 6, 7, 8]]]
def AHr : List (List (List Nat)) := [[[]], [[8]], [[8, 7]], [[8, 7, 6]], [[8]], [[8, 7], [8, 5]], [[8, 7, 6], [8, 7, 4], [8, 5, 4]], [[8, 7, 6, 3], [8, 7, 4, 3], [8, 5, 4, 3]], [[8, 7], [8, 5]], [[8, 7, 6], [8, 7, 4], [8, 7, 2], [8, 5, 4], [8, 5, 2]], [[8, 7, 6, 3], [8, 7, 6, 1], [8, 7, 4, 3], [8, 7, 4, 1], [8, 7, 2, 1], [8, 5, 4, 3], [8, 5, 4, 1], [8, 5, 2, 1]], [[8, 7, 6, 3, 0], [8, 7, 6, 1, 0], [8, 7, 4, 3, 0], [8, 7, 4, 1, 0], [8, 7, 2, 1, 0], [8, 5, 4, 3, 0], [8, 5, 4, 1, 0], [8, 5, 2, 1, 0]]]
def TH : List (List (List Nat)) := [[[0, 1, 2, 5, 8], [0, 1, 2, 7, 8], [0, 1, 4, 5, 8], [0, 1, 4, 7, 8], [0, 1, 6, 7, 8], [0, 3, 4, 5, 8], [0, 3, 4, 7, 8], [0, 3, 6, 7, 8]], [[0, 1, 2, 5, 8], [0, 1, 2, 7, 8], [0, 1, 4, 5, 8], [0, 1, 4, 7, 8], [0, 1, 6, 7, 8], [0, 3, 4, 5, 8], [0, 3, 4, 7, 8], [0, 3, 6, 7, 8]], [[0, 1, 2, 5, 8], [0, 1, 2, 7, 8], [0, 1, 4, 5, 8], [0, 1, 4, 7, 8], [0, 1, 6, 7, 8]], [[0, 1, 2, 5, 8], [0, 1, 2, 7, 8]], [[0, 3, 4, 5, 8], [0, 3, 4, 7, 8], [0, 3, 6, 7, 8]], [[0, 1, 4, 5, 8], [0, 1, 4, 7, 8], [0, 1, 6, 7, 8], [0, 3, 4, 5, 8], [0, 3, 4, 7, 8], [0, 3, 6, 7, 8]], [[0, 1, 2, 5, 8], [0, 1, 2, 7, 8], [0, 1, 4, 5, 8], [0, 1, 4, 7, 8], [0, 3, 4, 5, 8], [0, 3, 4, 7, 8]], [[0, 1, 2, 5, 8], [0, 1, 4, 5, 8], [0, 3, 4, 5, 8]], [[0, 1, 6, 7, 8], [0, 3, 6, 7, 8]], [[0, 1, 2, 7, 8], [0, 1, 4, 7, 8], [0, 1, 6, 7, 8], [0, 3, 4, 7, 8], [0, 3, 6, 7, 8]], [[0, 1, 2, 5, 8], [0, 1, 2, 7, 8], [0, 1, 4, 5, 8], [0, 1, 4, 7, 8], [0, 1, 6, 7, 8], [0, 3, 4, 5, 8], [0, 3, 4, 7, 8], [0, 3, 6, 7, 8]], [[0, 1, 2, 5, 8], [0, 1, 2, 7, 8], [0, 1, 4, 5, 8], [0, 1, 4, 7, 8], [0, 1, 6, 7, 8], [0, 3, 4, 5, 8], [0, 3, 4, 7, 8], [0, 3, 6, 7, 8]]]
set_option maxRecDepth 1000000 in
theorem ahead_exp {ts : List UInt8} (h : ts.length = 9) : aheadI ts 7 = AH.map (gr (tp ts)) := by
  match ts, h with
  | [a, b, c, d, e, f, g, h, i], _ => kernel_rfl
set_option maxRecDepth 1000000 in
theorem ahead_rev {ts : List UInt8} (h : ts.length = 9) : aheadI ts.reverse 7 = AHr.map (gr (tp ts)) := by
  match ts, h with
  | [a, b, c, d, e, f, g, h, i], _ => kernel_rfl
set_option maxRecDepth 1000000 in
theorem thru_exp {ts : List UInt8} (h : ts.length = 9) : thruF (waysI ts 7) (List.replicate 12 0) = TH.map (gr (tp ts)) := by
  match ts, h with
  | [a, b, c, d, e, f, g, h, i], _ => kernel_rfl
theorem gr_getD {f : Nat → Nat} {l : List (List (List Nat))} {i : Nat} : (l.map (gr f)).getD i 0 = gr f (l.getD i []) := by
  simp only [List.getD_eq_getElem?_getD, List.getElem?_map]
  cases l[i]? <;> rfl
end Mine

namespace Mine
theorem sm_one {f : Nat → Nat} {k : Nat} : sm f [k] = (f k : Int) := Int.zero_add _
theorem rec_one {ts : List UInt8} {P R : List (List Nat)} {k : Nat} (h : recC P P R [k] = true) : gr (tp ts) R = gr (tp ts) P + (tp ts k : Int) := by
  have a := recC_ok (f := tp ts) h
  rw [sm_one] at a
  rcases a.2.2 with e | e
  · exact e
  · have := Int.natCast_nonneg (tp ts k); omega
theorem rec_two {ts : List UInt8} {P Q R : List (List Nat)} {k : Nat} (h : recC P Q R [k] = true) : gr (tp ts) P + (tp ts k : Int) ≤ gr (tp ts) R ∧ gr (tp ts) Q ≤ gr (tp ts) R ∧ (gr (tp ts) R = gr (tp ts) P + (tp ts k : Int) ∨ gr (tp ts) R = gr (tp ts) Q) := by
  have a := recC_ok (f := tp ts) h
  rw [sm_one] at a
  exact a
theorem rec_same {f : Nat → Nat} {P R : List (List Nat)} (h : recC P P R [] = true) : gr f R = gr f P := by
  have a := recC_ok (f := f) h
  rcases a.2.2 with e | e
  · exact e.trans (Int.add_zero _)
  · exact e
def AHn (k : Nat) : List (List Nat) := AH.getD k []
theorem rec_of {ts : List UInt8} (htz : ts.length = 9) : Rec (fun k => (aheadI ts 7).getD k 0) ts := by
  rw [ahead_exp htz]
  have e : (fun k => (AH.map (gr (tp ts))).getD k 0) = fun k => gr (tp ts) (AHn k) := funext fun k => gr_getD
  rw [e]
  refine ⟨fun w b => Int.natCast_nonneg _, rfl, rec_one (k := 0) (by decide +kernel), rec_one (k := 1) (by decide +kernel), rec_one (k := 2) (by decide +kernel), rec_same (by decide +kernel), rec_two (k := 3) (by decide +kernel), rec_two (k := 4) (by decide +kernel), rec_one (k := 5) (by decide +kernel), rec_same (by decide +kernel), rec_two (k := 6) (by decide +kernel), rec_two (k := 7) (by decide +kernel), rec_one (k := 8) (by decide +kernel)⟩
theorem perm1 {p x : Trip} {r : List Trip} (h : (p :: r).Perm [x]) : p = x ∧ r.Perm [] := by
  have hm : p ∈ [x] := h.mem_iff.mp (.head _)
  have e : p = x := by simpa using hm
  subst e
  exact ⟨rfl, List.Perm.cons_inv h⟩
theorem perm2 {p x y : Trip} {r : List Trip} (h : (p :: r).Perm [x, y]) : (p = x ∧ r.Perm [y]) ∨ (p = y ∧ r.Perm [x]) := by
  have hm : p ∈ [x, y] := h.mem_iff.mp (.head _)
  simp only [List.mem_cons, List.not_mem_nil, or_false] at hm
  rcases hm with rfl | rfl
  · exact .inl ⟨rfl, List.Perm.cons_inv h⟩
  · exact .inr ⟨rfl, List.Perm.cons_inv (h.trans (.swap _ _ _))⟩
theorem perm3 {p x y z : Trip} {r : List Trip} (h : (p :: r).Perm [x, y, z]) : (p = x ∧ r.Perm [y, z]) ∨ (p = y ∧ r.Perm [x, z]) ∨ (p = z ∧ r.Perm [x, y]) := by
  have hm : p ∈ [x, y, z] := h.mem_iff.mp (.head _)
  simp only [List.mem_cons, List.not_mem_nil, or_false] at hm
  rcases hm with rfl | rfl | rfl
  · exact .inl ⟨rfl, List.Perm.cons_inv h⟩
  · exact .inr (.inl ⟨rfl, List.Perm.cons_inv (h.trans (.swap _ _ _))⟩)
  · exact .inr (.inr ⟨rfl, List.Perm.cons_inv (h.trans ((List.Perm.cons _ (.swap _ _ _)).trans (.swap _ _ _)))⟩)
theorem rowed_le {p : Trip} {r : List Trip} (h : Rowed (p :: r)) : ∀ y ∈ r, p.1 ≤ y.1 := fun y hy => by
  have := (List.pairwise_cons.mp h).1 y hy
  have h2 : ¬ tlt y p = true := by rw [this]; exact Bool.false_ne_true
  rw [tlt_iff] at h2
  omega
theorem cases_b {b : Nat} (h : b < 3) : b = 0 ∨ b = 1 ∨ b = 2 := by omega
theorem inv_ok {A : Nat → Int} {ts : List UInt8} {n : Nat} {S : Sim} {c : Nat} (h : Inv A ts n S c) : S.Ok 10 := by
  cases h <;> rename_i hf h0 h1 h2 hn hp hr <;> refine ⟨by rw [hn]; rfl, hr, by rw [hp.length_eq]; simp, fun b hb w d e => ?_⟩ <;> rcases cases_b hb with rfl | rfl | rfl <;> simp_all
theorem inv_step {A : Nat → Int} {ts : List UInt8} (R : Rec A ts) {n : Nat} {S : Sim} {c : Nat} {h b w : Int} {r : List Trip} (H : Inv A ts n S c) (e : S.bs = (h, b, w) :: r) :
    ∃ bn wk : Nat, b = (bn : Int) ∧ bn < 3 ∧ S.c bn = some (wk, false) ∧ ∃ n' < n, Inv A ts n' (stepF ts S c h bn wk r) (comeF ts S c h bn wk r) := by
  cases H
  · rename_i τ hf h0 h1 h2 hn hp hr
    rw [e] at hp hr
    have hle := rowed_le hr
    have hro := (List.pairwise_cons.mp hr).2
    clear hr
    obtain ⟨he, hp'⟩ := perm1 hp
    cases he
    exact ⟨0, 0, rfl, by decide, h0, _, by decide, tr0_0 R h0 h1 h2 hn hp' hro hle rfl hf⟩
  · rename_i τ hf h0 h1 h2 hn hp hr
    rw [e] at hp hr
    have hle := rowed_le hr
    have hro := (List.pairwise_cons.mp hr).2
    clear hr
    rcases perm2 hp with ⟨he, hp'⟩ | ⟨he, hp'⟩
    · cases he
      exact ⟨1, 0, rfl, by decide, h1, _, by decide, tr1_1 R h0 h1 h2 hn hp' hro hle rfl hf⟩
    · cases he
      exact ⟨0, 1, rfl, by decide, h0, _, by decide, tr1_0 R h0 h1 h2 hn hp' hro hle rfl hf⟩
  · rename_i τ hf h0 h1 h2 hn hp hr
    rw [e] at hp hr
    have hle := rowed_le hr
    have hro := (List.pairwise_cons.mp hr).2
    clear hr
    obtain ⟨he, hp'⟩ := perm1 hp
    cases he
    exact ⟨1, 0, rfl, by decide, h1, _, by decide, tr2_1 R h0 h1 h2 hn hp' hro hle rfl hf⟩
  · rename_i τ hf h0 h1 h2 hn hp hr
    rw [e] at hp hr
    have hle := rowed_le hr
    have hro := (List.pairwise_cons.mp hr).2
    clear hr
    rcases perm2 hp with ⟨he, hp'⟩ | ⟨he, hp'⟩
    · cases he
      exact ⟨2, 0, rfl, by decide, h2, _, by decide, tr3_2 R h0 h1 h2 hn hp' hro hle rfl hf⟩
    · cases he
      exact ⟨0, 1, rfl, by decide, h0, _, by decide, tr3_0 R h0 h1 h2 hn hp' hro hle rfl hf⟩
  · rename_i τ hf h0 h1 h2 hn hp hr
    rw [e] at hp hr
    have hle := rowed_le hr
    have hro := (List.pairwise_cons.mp hr).2
    clear hr
    rcases perm3 hp with ⟨he, hp'⟩ | ⟨he, hp'⟩ | ⟨he, hp'⟩
    · cases he
      exact ⟨2, 0, rfl, by decide, h2, _, by decide, tr4_2 R h0 h1 h2 hn hp' hro hle rfl hf⟩
    · cases he
      exact ⟨1, 1, rfl, by decide, h1, _, by decide, tr4_1 R h0 h1 h2 hn hp' hro hle rfl hf⟩
    · cases he
      exact ⟨0, 2, rfl, by decide, h0, _, by decide, tr4_0 R h0 h1 h2 hn hp' hro hle rfl hf⟩
  · rename_i τ hf h0 h1 h2 hn hp hr
    rw [e] at hp hr
    have hle := rowed_le hr
    have hro := (List.pairwise_cons.mp hr).2
    clear hr
    obtain ⟨he, hp'⟩ := perm1 hp
    cases he
    exact ⟨0, 1, rfl, by decide, h0, _, by decide, tr5_0 R h0 h1 h2 hn hp' hro hle rfl hf⟩
  · rename_i τ hf h0 h1 h2 hn hp hr
    rw [e] at hp hr
    have hle := rowed_le hr
    have hro := (List.pairwise_cons.mp hr).2
    clear hr
    rcases perm2 hp with ⟨he, hp'⟩ | ⟨he, hp'⟩
    · cases he
      exact ⟨2, 0, rfl, by decide, h2, _, by decide, tr6_2 R h0 h1 h2 hn hp' hro hle rfl hf⟩
    · cases he
      exact ⟨1, 1, rfl, by decide, h1, _, by decide, tr6_1 R h0 h1 h2 hn hp' hro hle rfl hf⟩
  · rename_i τ hf h0 h1 h2 hn hp hr
    rw [e] at hp hr
    have hle := rowed_le hr
    have hro := (List.pairwise_cons.mp hr).2
    clear hr
    rcases perm2 hp with ⟨he, hp'⟩ | ⟨he, hp'⟩
    · cases he
      exact ⟨2, 0, rfl, by decide, h2, _, by decide, tr7_2 R h0 h1 h2 hn hp' hro hle rfl hf⟩
    · cases he
      exact ⟨0, 2, rfl, by decide, h0, _, by decide, tr7_0 R h0 h1 h2 hn hp' hro hle rfl hf⟩
  · rename_i τ hf h0 h1 h2 hn hp hr
    rw [e] at hp hr
    have hle := rowed_le hr
    have hro := (List.pairwise_cons.mp hr).2
    clear hr
    rcases perm2 hp with ⟨he, hp'⟩ | ⟨he, hp'⟩
    · cases he
      exact ⟨1, 1, rfl, by decide, h1, _, by decide, tr8_1 R h0 h1 h2 hn hp' hro hle rfl hf⟩
    · cases he
      exact ⟨0, 2, rfl, by decide, h0, _, by decide, tr8_0 R h0 h1 h2 hn hp' hro hle rfl hf⟩
  · rename_i τ hf h0 h1 h2 hn hp hr
    rw [e] at hp hr
    have hle := rowed_le hr
    have hro := (List.pairwise_cons.mp hr).2
    clear hr
    obtain ⟨he, hp'⟩ := perm1 hp
    cases he
    exact ⟨2, 0, rfl, by decide, h2, _, by decide, tr9_2 R h0 h1 h2 hn hp' hro hle rfl hf⟩
  · rename_i τ hf h0 h1 h2 hn hp hr
    rw [e] at hp hr
    have hle := rowed_le hr
    have hro := (List.pairwise_cons.mp hr).2
    clear hr
    obtain ⟨he, hp'⟩ := perm1 hp
    cases he
    exact ⟨1, 1, rfl, by decide, h1, _, by decide, tr10_1 R h0 h1 h2 hn hp' hro hle rfl hf⟩
  · rename_i τ hf h0 h1 h2 hn hp hr
    rw [e] at hp hr
    have hle := rowed_le hr
    have hro := (List.pairwise_cons.mp hr).2
    clear hr
    rcases perm2 hp with ⟨he, hp'⟩ | ⟨he, hp'⟩
    · cases he
      exact ⟨2, 1, rfl, by decide, h2, _, by decide, tr11_2 R h0 h1 h2 hn hp' hro hle rfl hf⟩
    · cases he
      exact ⟨0, 2, rfl, by decide, h0, _, by decide, tr11_0 R h0 h1 h2 hn hp' hro hle rfl hf⟩
  · rename_i τ hf h0 h1 h2 hn hp hr
    rw [e] at hp hr
    have hle := rowed_le hr
    have hro := (List.pairwise_cons.mp hr).2
    clear hr
    rcases perm2 hp with ⟨he, hp'⟩ | ⟨he, hp'⟩
    · cases he
      exact ⟨2, 1, rfl, by decide, h2, _, by decide, tr12_2 R h0 h1 h2 hn hp' hro hle rfl hf⟩
    · cases he
      exact ⟨1, 2, rfl, by decide, h1, _, by decide, tr12_1 R h0 h1 h2 hn hp' hro hle rfl hf⟩
  · rename_i τ hf h0 h1 h2 hn hp hr
    rw [e] at hp hr
    have hle := rowed_le hr
    have hro := (List.pairwise_cons.mp hr).2
    clear hr
    obtain ⟨he, hp'⟩ := perm1 hp
    cases he
    exact ⟨0, 2, rfl, by decide, h0, _, by decide, tr13_0 R h0 h1 h2 hn hp' hro hle rfl hf⟩
  · rename_i τ hf h0 h1 h2 hn hp hr
    rw [e] at hp hr
    have hle := rowed_le hr
    have hro := (List.pairwise_cons.mp hr).2
    clear hr
    obtain ⟨he, hp'⟩ := perm1 hp
    cases he
    exact ⟨2, 1, rfl, by decide, h2, _, by decide, tr14_2 R h0 h1 h2 hn hp' hro hle rfl hf⟩
  · rename_i τ hf h0 h1 h2 hn hp hr
    rw [e] at hp hr
    have hle := rowed_le hr
    have hro := (List.pairwise_cons.mp hr).2
    clear hr
    obtain ⟨he, hp'⟩ := perm1 hp
    cases he
    exact ⟨1, 2, rfl, by decide, h1, _, by decide, tr15_1 R h0 h1 h2 hn hp' hro hle rfl hf⟩
  · rename_i τ hf h0 h1 h2 hn hp hr
    rw [e] at hp hr
    have hle := rowed_le hr
    have hro := (List.pairwise_cons.mp hr).2
    clear hr
    obtain ⟨he, hp'⟩ := perm1 hp
    cases he
    exact ⟨2, 2, rfl, by decide, h2, _, by decide, tr16_2 R h0 h1 h2 hn hp' hro hle rfl hf⟩
  · rename_i τ hf h0 h1 h2 hn hp hr
    rw [e] at hp hr
    have hle := rowed_le hr
    have hro := (List.pairwise_cons.mp hr).2
    clear hr
    have := hp.length_eq
    simp at this
theorem inv_fin {A : Nat → Int} {ts : List UInt8} {n : Nat} {S : Sim} {c : Nat} (H : Inv A ts n S c) (e : S.bs = []) : S.ns = [A 0, A 1, A 2, A 3, A 4, A 5, A 6, A 7, A 8, A 9, A 10, A 11] := by
  cases H <;> rename_i hf h0 h1 h2 hn hp hr <;> rw [e] at hp <;> first | exact hn | (have := hp.length_eq; simp at this)
theorem list12 {l : List Int} (h : l.length = 12) : (fun f : Nat → Int => [f 0, f 1, f 2, f 3, f 4, f 5, f 6, f 7, f 8, f 9, f 10, f 11]) (fun k => l.getD k 0) = l := by
  match l, h with
  | [a, b, c, d, e, f, g, h, i, j, k, l], _ => rfl
theorem plan_of {ts : List UInt8} (htz : ts.length = 9) : ∃ I, Plan ts (aheadI ts 7) I := by
  have R := rec_of htz
  have hl := list12 (aheadI_len (ts := ts) (i := 7))
  generalize hA : (fun k => (aheadI ts 7).getD k 0) = A at R hl
  refine ⟨Inv A ts, ⟨9, ?_⟩, fun n S c h => inv_ok h, fun n S c h b w r H e => inv_step R H e, fun n S c H e => (inv_fin H e).trans hl⟩
  have r0 := R.r0
  have p0 := R.p 0 0
  refine Inv.s0 _ 0 rfl rfl rfl ?_ ?_ (insR_row .nil) ?_
  · rw [r0]; rfl
  · rw [r0]; exact insR_perm
  · omega
end Mine

namespace Mine
def withTurned (a b : List Int) : List Int := (List.range 12).map fun i => a.getD i 0 + b.getD (11 - i) 0
theorem turned {ts : List UInt8} (htz : ts.length = 9) : withTurned (aheadI ts 7) (aheadI ts.reverse 7) = thruF (waysI ts 7) (List.replicate 12 0) := by
  rw [ahead_exp htz, ahead_rev htz, thru_exp htz]
  have e : TH = (List.range 12).map fun i => TH.getD i [] := by decide +kernel
  rw [e, List.map_map]
  refine List.map_congr_left fun i hi => ?_
  rw [gr_getD, gr_getD]
  have h : ∀ i ∈ List.range 12, addC (AH.getD i []) (AHr.getD (11 - i) []) (TH.getD i []) = true := by decide +kernel
  exact addC_ok (h i hi)
def swpL (ts : List UInt8) (w i : Nat) : Nat → List UInt8 → List UInt8
  | 0, b => b
  | j + 1, b => (swpL ts w i j b).set (i + w - 1 - j) (ts.getD (i + j) 0)
theorem swpJ_list {ts : List UInt8} {w i : Nat} : ∀ {j : Nat} {b : List UInt8}, swpJ ts w i j b.toArray = (swpL ts w i j b).toArray
  | 0, _ => rfl
  | j + 1, b => by
    show (swpJ ts w i j b.toArray).setIfInBounds _ _ = _
    rw [swpJ_list, List.setIfInBounds_toArray]; rfl
theorem swp_rev {ts : List UInt8} (htz : ts.length = 9) : swpI ts 9 1 (Array.replicate 9 0) = ts.reverse.toArray := by
  have e : (Array.replicate 9 0 : Array UInt8) = (List.replicate 9 0).toArray := Array.toList_inj.mp (by rw [Array.toList_replicate])
  rw [e]
  show swpJ ts 9 (0 * 9) 9 _ = _
  rw [swpJ_list]
  congr 1
  match ts, htz with
  | [a, b, c, d, e, f, g, h, i], _ => rfl
/-- the same, its answers behind letters -/
theorem ways_v {w : World} {mean : ExcName → Option Value} {mg mb : Str → Option Value} {dp un : Nat} {gd : Option (List Code)} {cn : Str} {cs : Scope} {a : Addr} {ccd : Value} {cl : List (Str × Addr)} {outer : List Env} {A₀ : Around} {base h₀ : Heap} {L : Addr} {m : Str → Option Value} {s : Shared} {Q E : Value → Shared → Prop} {led : Led} {ts : List UInt8} {tt : Tok} (B : Below A₀ base outer h₀) (F : Fr h₀ L s.heap m) (X : (Mine.hd.heap_39 w.params).In h₀) (T : Top PP LL mean mg mb h₀) (hk : cs.kind = .function)
    (N : News h₀ L s.heap led) (hd : dp + 2 < recursionLimit) (hu : un + 16 < cLine) (htz : ts.length = 9)
    (ret : ∀ al tl t avs tvs na nt h' tk' A V, A = aheadI ts 7 → V = thruF (waysI ts 7) (List.replicate 12 0) → IntsAre avs A → IntsAre tvs V → Fr h₀ L h' m → News h₀ L h' ((t, { cls := .type "tuple", data := .seq #[.ref al, .ref tl] }) :: (al, listOf avs.toArray na) :: (tl, listOf tvs.toArray nt) :: led) → Q (.ref t) { s with heap := h', toks := tk' }) :
    wpAny (MM w) (ktrTop dp un gd cn cs L a ccd cl outer) (call (.ref 241) [.bytes ts.toArray tt] []) Q E s :=
  ways_c B F X T hk N hd hu htz fun al tl t avs tvs na nt h' tk' ha hth F' N' => ret al tl t avs tvs na nt h' tk' _ _ rfl rfl ha hth F' N'
end Mine

theorem Mine.say_j_45 : True := by
  k_with "STEPSB" => repeat' (first | (k_unfold; (try dsimp only)) | ((fail_if_success (with_reducible show wpAny _ _ (pyIter _) _ _ _)); (fail_if_success (with_reducible show wpAny _ _ (exec (Stmt.While _ _ _ _) _) _ _ _)); (fail_if_success (with_reducible show wpAny _ _ (exec (Stmt.For _ _ _ _ _) _) _ _ _)); (fail_if_success (with_reducible show wpAny _ _ (eval (Expr.ListComp _ _ _ _) _) _ _ _)); (fail_if_success (with_reducible show wpAny _ _ (exec (Stmt.Assign _ (Expr.ListComp _ _ _ _) _) _) _ _ _)); (fail_if_success (with_reducible show wpAny _ _ (call (Value.ref 241) _ _) _ _ _)); (fail_if_success (with_reducible show wpAny _ _ (call (Value.ref 234) _ _) _ _ _)); first | walk1 | (dsimp only; walk1)) | fail "no step")
  trivial
theorem Mine.say_j_46 : True := by
  k_with "subscriptTail Name Slice ref ref" => (k_here; (with_reducible show wpAny _ _ (subscriptTail _ (PySem.Expr.Slice _ _ (some _) _) (Value.ref _) (Value.ref _)) _ _ _); k_dflt (refine' Mine.slice3_led (s := ⟨_, _, _, _, _⟩) ?yF_46 ?yN_46 ?yl_46 ?yi_46 ?yp_46 ?yq_46 ?yk_46 ?yo_46 ?_ ?yz_46 ?ys_46 ?yt_46; (case yF_46 => k_asm); (case yN_46 => k_asm); (case yl_46 => k_memK); (case yi_46 => assumption); (case yp_46 => kmk_part); (case yq_46 => kmk_part); (case yk_46 => kmk_part); (case yo_46 => decide); (case ys_46 => with_unfolding_all rfl); (case yt_46 => kmk_pure); (case yz_46 => assumption)); intro D' ws' ms' h' hws' hms' hml' hD' F' N')
  trivial
namespace Mine
theorem cell_apart {g h : Heap} {L' c a : Addr} {oc ob : Obj} {v : Option Value} {vs : Array Value} {n : Nat} {led : Led} (N : News g L' h led) (hc : (c, oc) ∈ led) (hd : oc.data = .cell v) (ha : (a, ob) ∈ led) (hb : ob.data = .seq vs n) : a ≠ c := by
  rintro rfl
  have h1 := (N _ hc).1
  rw [(N _ ha).1] at h1
  cases h1
  rw [hb] at hd
  cases hd
theorem law_keep {g h : Heap} {L' c h1 h2 al tl : Addr} {x0 x1 : Addr × Obj} {oc : Obj} {a b d e : List Value} {k1 k2 k3 k4 : Nat} {v : Option Value} {r : Led} (N : News g L' h (x0 :: (h2, listOf b.toArray k2) :: (h1, listOf a.toArray k1) :: x1 :: (al, listOf d.toArray k3) :: (tl, listOf e.toArray k4) :: r)) (hc : (c, oc) ∈ r) (hd : oc.data = .cell v) :
    News g L' h ((c, oc) :: (h2, listOf b.toArray k2) :: (h1, listOf a.toArray k1) :: (al, listOf d.toArray k3) :: (tl, listOf e.toArray k4) :: []) ∧ ∀ p ∈ (h2, listOf b.toArray k2) :: (h1, listOf a.toArray k1) :: (al, listOf d.toArray k3) :: (tl, listOf e.toArray k4) :: ([] : Led), p.1 ≠ c := by
  have hc' : (c, oc) ∈ x0 :: (h2, listOf b.toArray k2) :: (h1, listOf a.toArray k1) :: x1 :: (al, listOf d.toArray k3) :: (tl, listOf e.toArray k4) :: r := .tail _ (.tail _ (.tail _ (.tail _ (.tail _ (.tail _ hc)))))
  refine ⟨news_sub N fun p hp => ?_, fun p hp => ?_⟩
  · simp only [List.mem_cons, List.not_mem_nil, or_false] at hp
    rcases hp with rfl | rfl | rfl | rfl | rfl
    · exact hc'
    all_goals simp
  · simp only [List.mem_cons, List.not_mem_nil, or_false] at hp
    rcases hp with rfl | rfl | rfl | rfl
    · exact cell_apart N hc' hd (.tail _ (.head _)) rfl
    · exact cell_apart N hc' hd (.tail _ (.tail _ (.head _))) rfl
    · exact cell_apart N hc' hd (.tail _ (.tail _ (.tail _ (.tail _ (.head _))))) rfl
    · exact cell_apart N hc' hd (.tail _ (.tail _ (.tail _ (.tail _ (.tail _ (.head _)))))) rfl
theorem turned_snoc {a b : List Int} {i : Nat} {z y : Int} (hz : a[i]? = some z) (hy : y = z + b.getD (11 - i) 0) : ((List.range i).map fun k => a.getD k 0 + b.getD (11 - k) 0) ++ [y] = (List.range (i + 1)).map fun k => a.getD k 0 + b.getD (11 - k) 0 := by
  rw [List.range_succ, List.map_append, hy]
  simp [List.getD_eq_getElem?_getD, hz]
theorem hold : PySem.Challenge.rw_wo0051_02.Holds := by
  refine hd ?_
  k_fill
  intro w s₀ s₁ mg mb G Y fa o pm cd doc dV kV ho hd hcd hD hmg hg args vals as hpre hlay hrd hwl hlo
  have KX := kIn_of Y
  have X := (Ground.X G).1
  have V := (Ground.X G).2
  refine Ground.open G ?_
  intro T B D TE TW
  try (refine guard_noD D (by decide +kernel) ?_; clear D)
  obtain ⟨_, _, M⟩ := bmod_of_top T
  have TA := at_of_top T
  try (obtain ⟨_, _, he, B0⟩ := based_of_top T rfl hmg ho hd; have he' : cd = _ := he; subst he'; clear he)
  clear hmg
  wrow_args hpre hlay hrd hwl hlo
  all_goals (
    refine wpS_nah (wpS_call ?_)
    w_top on
    have K0 := below_caller (Top.heap T)
    have he := Dflts.none hD rfl
    subst he
    have he := Dflts.noKw hD
    subst he
    refine call_cellsS (by decide) ho (fd_plain hd) (Top.nolimit T) hcd rfl (kinds_of (by kinds_ok)) (by decide) fun h₁ tk₁ cells F N0 X0 => ?_
    obtain ⟨oc1, oc2, he, hoc1, hoc2⟩ := CellsAre.two X0
    subst he
    clear X0
    clear hd TA
    k_drop)
  have hMk := kstMark
  refine execs_stepS ?_
  walk_at "STEPSK"
  dsimp only
  refine execs_stepS ?_
  with_unfolding_all (refine Mine.comp_assign (cl := _) rfl rfl rfl (by decide) (by intro _; rfl) ?_)
  walk_at "STEPS"
  rename News _ _ _ _ => N₂
  rename Fr _ _ _ _ => F₂
  rename IntsAre _ (List.map _ _) => hI8
  rename _ = (List.map _ (List.take 60 _)).length => hL8
  refine comp_enum_tup (vs := [_, _, _, _, _, _, _, _, _]) (fun i ys => ∃ ns, IntsAre ys ns ∧ ns.length = i ∧ ∀ z ∈ ns, 0 ≤ z ∧ z ≤ 100000000) rfl F₂ N₂ (.head _) (by rw [sizeLine_eq]; simp) (by decide) rfl rfl rfl (by decide) ⟨[], .nil, rfl, fun z hz => nomatch hz⟩ ?_ ?_
  · rintro e it i t y ys oe oi C oC D m₂ h tk hi ⟨ns, hns, hnl, hnb⟩ hNC e1 e2 F₃ N₃ hoff hoff2
    obtain ⟨k, tk9, rfl, hk0, hk9⟩ : ∃ k t, y = .int k t ∧ 0 ≤ k ∧ k ≤ 9 := by
      have hm := List.mem_of_getElem? hi
      simp only [List.mem_cons, List.not_mem_nil, or_false] at hm
      rcases hm with rfl | rfl | rfl | rfl | rfl | rfl | rfl | rfl | rfl <;> exact ⟨_, _, rfl, by decide, by decide⟩
    refine CompTurn.plain ?_
    try dsimp only
    have hys := hL8
    rw [List.length_map, List.length_take] at hys
    have hys' := Nat.le_trans (Nat.le_of_eq hys) (Nat.le_trans (Nat.min_le_left _ _) (by decide : 60 ≤ 1000))
    walk_at "STEPS"
    rename News _ _ _ _ => N₄
    rename Fr _ _ _ _ => F₄
    rename ∀ z : Int, z ∈ _ → z ∈ List.map _ _ => hms
    rename _ ≤ (List.map _ (List.take 60 _)).length => hml
    refine CEnd.intro F₄ (news_sub N₄ fun p hp => .tail _ hp) ⟨_, ints_snoc hns, by simp [hnl], fun z hz => ?_⟩
    rcases List.mem_append.mp hz with hz | hz
    · exact hnb z hz
    · rw [List.mem_singleton.mp hz]
      have hb := sum_bound (b := 1000000) (by decide) fun z hz => by
        obtain ⟨k', _, rfl⟩ := List.mem_map.mp (hms z hz)
        have e9 : (10 : Int) ^ Int.toNat 6 = 1000000 := by decide
        rw [e9, Int.fmod_eq_emod_of_nonneg _ (by decide)]
        omega
      rw [List.length_map, List.length_take] at hml
      omega
  · intro h
    refine' compDone_put ?ka ?kb ?kc ?_
    case ka => exact rfl
    case kb => exact rfl
    case kc => exact rfl
    rintro _ D h' tk ys F₃ N₃ hoff hyl ⟨ns, hns, hnl, hnb⟩
    walk_at "STEPS"
    dsimp only
    refine execs_stepS ?_
    walk_at "STEPSK"
    rename IntsAre _ ns => hns
    rename News _ _ _ _ => N₃
    rename Fr _ _ _ _ => F₃
    obtain ⟨ts, hts, htz⟩ : ∃ ts : List UInt8, byteArr (List.map (fun k' => k'.fmod 10) ns) = ts.toArray ∧ ts.length = 9 := ⟨_, rfl, by rw [List.length_map, List.length_map]; exact hnl⟩
    rw [hts] at F₃
    dsimp only
    refine execs_stepS ?_
    walk_at "STEPSB"
    rename News _ _ _ _ => N₄
    rename Fr _ _ _ _ => F₄
    refine' ways_v ?k1 F₄ ?k3 ?k4 ?k5 N₄ ?k7 ?k8 htz ?_
    case k1 => k_asm
    case k3 => k_asm
    case k4 => k_asm
    case k5 => exact rfl
    case k7 => ktr_room
    case k8 => ktr_units
    clear F₄ N₄
    intro al tl t1 avs tvs na nt h4 tk4 A V eA eV hA hV F₄ N₄
    walk_at "STEPS"
    dsimp only
    obtain ⟨I1, P1⟩ := plan_of htz
    rw [← eA] at P1
    have htz' : ts.reverse.length = 9 := by rw [List.length_reverse]; exact htz
    obtain ⟨A2, eA2⟩ : ∃ A2, A2 = aheadI ts.reverse 7 := ⟨_, rfl⟩
    refine execs_consS ?_
    first
      | refine Assign_Tuple_swappedS ?_ (by rfl) (by rfl)
      | refine Assign_TupleS ?_ (by rfl) (by rfl)
    refine Tuple_S (args_consS (wpS_of ?_) (by rfl))
    walk_at "STEPSB"
    rename News _ _ _ _ => N₅
    rename Fr _ _ _ _ => F₅
    refine' run_c P1 ?k1 F₅ ?k3 ?k4 ?k5 N₅ ?k7 ?k8 htz ?_
    case k1 => k_asm
    case k3 => k_asm
    case k4 => k_asm
    case k5 => exact rfl
    case k7 => ktr_room
    case k8 => ktr_units
    clear F₅ N₅
    intro hl1 hvs1 nh1 h51 tk51 hR1 ho1 F₅ N₅
    walk_at "STEPS"
    refine args_consS (Call_S ?_ (by rfl)) (by rfl)
    walk_at "STEPS"
    refine' callWith_KS KX ?kh1 (args_consS (Call_S ?_ (by rfl)) (by rfl)) (by rfl)
    case kh1 => k_is
    walk_at "STEPS"
    refine' callWith_KS KX ?kh2 (args_consS (wpS_of ?_) (by rfl)) (by rfl)
    case kh2 => k_is
    walk_at "STEPS"
    refine args_consS (wpS_of ?_) (by rfl)
    walk_at "STEPS"
    rename News _ _ _ _ => N₅
    rename Fr _ _ _ _ => F₅
    refine args_nilS ⟨⟨_, _, F₅⟩, ?_⟩
    refine' swp_c (E := nah) ?k1 F₅ ?k3 ?k4 ?k5 N₅ ?k7 ?k8 htz ?_
    case k1 => k_asm
    case k3 => k_asm
    case k4 => k_asm
    case k5 => exact rfl
    case k7 => ktr_room
    case k8 => ktr_units
    clear F₅ N₅
    rw [swp_rev htz]
    intro tq h5 tk5 F₅ N₅
    refine args_nilS ⟨⟨_, _, F₅⟩, wpS_of ?_⟩
    obtain ⟨I2, P2⟩ := plan_of htz'
    rw [← eA2] at P2
    walk_at "STEPSB"
    rename News _ _ _ _ => N₅
    rename Fr _ _ _ _ => F₅
    refine' run_c P2 ?k1 F₅ ?k3 ?k4 ?k5 N₅ ?k7 ?k8 htz' ?_
    case k1 => k_asm
    case k3 => k_asm
    case k4 => k_asm
    case k5 => exact rfl
    case k7 => ktr_room
    case k8 => ktr_units
    clear F₅ N₅
    intro hl2 hvs2 nh2 h52 tk52 hB ho2 F₅ N₅
    walk_at "STEPS"
    refine args_nilS ?_
    walk_at "STEPS"
    rename News _ _ _ _ => N₆
    rename Fr _ _ _ _ => F₆
    obtain ⟨N₇, hoff7⟩ := law_keep N₆ (c := s₁.heap.objs.size + 1 + 1) (oc := oc1) (by repeat (first | exact .head _ | apply List.Mem.tail)) hoc1
    clear N₆
    with_unfolding_all refine storeX_C F₆ N₇ rfl (.head hoff7) hoc1 ?_ rfl rfl
    clear F₆ N₇ hoff7
    intro h' o7 F₆ N₆ hd7
    walk_at "STEPS"
    refine wpS_of ?_
    walk_at "STEPS"
    with_unfolding_all (refine Mine.comp_expr (cl := _) rfl rfl (by decide) (by intro _; rfl) ?_)
    walk_at "STEPS"
    rename News _ _ _ _ => N₆
    rename Fr _ _ _ _ => F₆
    have hBl : A2.length = 12 := by rw [eA2]; exact aheadI_len
    have hAl : A.length = 12 := by rw [eA]; exact aheadI_len
    have hAn := hR1.length
    rw [hAl] at hAn
    refine comp_enum_lst (fun i ys => ∃ ns, IntsAre ys ns ∧ ns = (List.range i).map fun k => A.getD k 0 + A2.getD (11 - k) 0) rfl F₆ N₆ (.tail _ (.tail _ (.head _))) (by rw [sizeLine_eq, hAn]; decide) (by decide) rfl rfl rfl (by decide) ⟨[], .nil, rfl⟩ ?_ ?_
    · rintro e it i t y ys oe oi C oC D m₂ h tk hi ⟨ns, hns, rfl⟩ hNC e1 e2 F₃ N₃ hoff hoff2
      obtain ⟨z, t9, rfl, hz⟩ := intsAre_get hR1 hi
      have hi12 : i < 12 := by rw [← hAl]; exact (List.getElem?_eq_some_iff.mp hz).1
      refine CompTurn.plain ?_
      try dsimp only
      walk_at "STEPS"
      rename News _ _ _ _ => N₄
      rename Fr _ _ _ _ => F₄
      refine CEnd.intro F₄ N₄ ⟨_, ints_snoc hns, turned_snoc hz ?_⟩
      have e11 : (11 - (i : Int)).toNat = 11 - i := by omega
      rw [e11]
    · intro h
      refine CompDone.expr ?_
      rintro D h' tk ys F₃ N₃ hoff hyl ⟨ns, hns, hns'⟩
      rw [hAn] at hns'
      have hfin := turned htz
      rw [← eA, ← eA2, ← eV] at hfin
      replace hns' := hns'.trans hfin
      subst hns'
      walk_at "STEPS"
      refine GoodW.toG ?_
      wrow_close
end Mine

theorem PySem.Challenge.cw_wo0051_02_holds : PySem.Challenge.rw_wo0051_02.Holds := by
  exact Mine.hold
