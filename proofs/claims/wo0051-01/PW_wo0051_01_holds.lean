import PyProof.Rows.All
import Wide.All
import OpenK.AllK
import Wide.FinOn
import Lean
import PySem.Challenge.RW_wo0051_01
open PySem PySem.W PyProof.Rows PySem.Calls PySem.Spec
set_option Elab.async false
set_option maxRecDepth 100000
set_option maxHeartbeats 8000000

namespace Mine
/-! the search of a compiled pattern that finds nothing -/
def driven : Nat → Sre.M → Option Sre.M
  | 0, _ => none
  | n + 1, m =>
    let m := m.runFor Builtin.Re.reTurnSteps
    if m.outcome.isSome then some m else driven n m
def noFind (code text : Array Nat) (groups : Nat) : Bool :=
  match driven 64 (Sre.forSearch code text groups 0 text.size false) with
  | some m => (match m.outcome with | some .failed => true | _ => false)
  | none => false
section
variable {M : Model} {A : Around} {E : Value → Shared → Prop} {s : Shared}
theorem drive_wp {Q : Sre.M → Shared → Prop} : ∀ (n turns : Nat) (m m' : Sre.M), n ≤ turns → driven n m = some m' → Q m' s → wpAny M A (Builtin.Re.reDrive turns m) Q E s
  | 0, _, _, _, _, e, _ => by cases e
  | n + 1, 0, _, _, h, _, _ => absurd h (Nat.not_succ_le_zero _)
  | n + 1, turns + 1, m, m', h, e, hq => by
    unfold driven at e
    dsimp only at e
    unfold Builtin.Re.reDrive
    try dsimp only
    split at e
    · rename_i h1
      cases e
      rw [if_pos h1]
      exact wpAny_pure hq
    · rename_i h1
      rw [if_neg h1]
      exact wpAny_bind (wpAny_rule (drive_wp n turns _ m' (Nat.le_of_succ_le_succ h) e hq))
theorem rules_wp {Q : PUnit → Shared → Prop} {f : Nat → Bool} {g : Nat → String} (hq : Q ⟨⟩ s) : ∀ l : List Nat,
    wpAny M A (forIn l PUnit.unit fun i _ => if f i = true then do rule (g i); pure (ForInStep.yield PUnit.unit) else pure (ForInStep.yield PUnit.unit)) Q E s
  | [] => by simpa using wpAny_pure hq
  | i :: r => by
    rw [List.forIn_cons]
    refine wpAny_bind ?_
    split
    · exact wpAny_bind (wpAny_rule (wpAny_pure (rules_wp hq r)))
    · exact wpAny_pure (rules_wp hq r)
theorem toEnd_wp {Q : Option Sre.M → Shared → Prop} {m : Sre.M} {m' : Sre.M} (e : driven 64 m = some m') (ho : m'.outcome = some .failed) (hq : Q none s) : wpAny M A (Builtin.Re.reRunToEnd m) Q E s := by
  unfold Builtin.Re.reRunToEnd
  refine wpAny_bind (drive_wp 64 _ m m' (by decide) e ?_)
  refine wpAny_bind (wpAny_mono (rules_wp (Q := fun _ s' => s' = s) rfl _) (fun _ s' hs => ?_) fun _ _ x => x)
  subst hs
  rw [ho]
  exact wpAny_pure hq
end
end Mine
namespace Mine
theorem slot_search : Slot "re.Pattern" "search" "re.Pattern.search" :=
  .of (owner := "re.Pattern") (n := "search") (by rw [typeLookup_type, builtinLookup_eq_fast]; kernel_rfl) (by decide +kernel) (by decide +kernel) (by decide +kernel)
    (by first | exact .inl (by decide +kernel) | exact .inr (by decide +kernel)) (by rw [isSubtype_type]; kernel_rfl)
theorem entry_search : entryFor table "re.Pattern.search" = some Builtin.«re.Pattern.search» := entryFor_of_tree (by kernel_rfl)
theorem args_search (a b : Value) : argsOk "re.Pattern.search" ⟨[a, b], []⟩ := by unfold argsOk; kernel_rfl
theorem type_search : typeOf (.builtin "re.Pattern.search") = pure (.type "method_descriptor") := by show builtinType _ = _; rw [builtinType_eq_fast]; kernel_rfl
theorem plainAttrs_pat : PlainAttrs "re.Pattern" where
  ga := ⟨"object.__getattribute__", by rw [typeLookup_type, builtinLookup_eq_fast]; kernel_rfl, by decide +kernel⟩
  noGetattr := by rw [typeLookup_type, builtinLookup_eq_fast]; kernel_rfl
theorem named_search (v : Value) : Builtin.Re.reNamed "re.Pattern.search" "search" ["string", "pos", "endpos"] 1 [v] [] = pure [some v, none, none] := by rfl
section
variable {prog : Program} {w : World} {A : Around} {E : Value → Shared → Prop} {s : Shared}
theorem search_none {a c : Addr} {fs cs : Array Value} {sl slc : Array (Option Value)} {n : Nat} {v : Str} {t : Tok} {Q : Value → Shared → Prop}
    (ho : s.heap.get? a = some ⟨.type "re.Pattern", none, .fields fs, sl⟩) (hoc : s.heap.get? c = some ⟨.type "tuple", none, .seq cs n, slc⟩)
    (h5 : fs.getD 5 .none = .ref c) (h6 : Builtin.Re.reRawNat (fs.getD 6 .none) = 0)
    (hm : noFind ((cs.map Builtin.Re.reRawOf).map (·.toNat)) v.cps (Builtin.Re.reRawNat (fs.getD 2 .none)) = true)
    (hsz : v.cps.size ≤ 2 ^ 63 - 1)
    (h : Q .none s) : wpAny (model prog w) A (call (.builtin "re.Pattern.search") [.ref a, .str v t]) Q E s := by
  refine call_meets (S := fun _ R s => s.heap.get? a = some ⟨.type "re.Pattern", none, .fields fs, sl⟩ ∧ s.heap.get? c = some ⟨.type "tuple", none, .seq cs n, slc⟩ ∧ R (.ok (.ret .none)) s)
    slot_search ⟨_, ho, rfl⟩ entry_search (args_search _ _) ?_ ⟨ho, hoc, h⟩
  intro prog w A R s ⟨ho, hoc, hR⟩
  unfold Builtin.«re.Pattern.search» Builtin.Re.reTarget
  try dsimp only
  rw [named_search]
  refine wpAny_bind (wpAny_bind (wpAny_pure ?_))
  try dsimp only
  refine wpAny_bind (wpAny_pure (wpAny_bind (wpAny_pure (wpAny_bind (wpAny_fieldsOf ho rfl ?_)))))
  refine wpAny_bind ?_
  unfold Builtin.Re.reTextOf
  refine wpAny_bind (wpAny_pure ?_)
  try dsimp only
  refine wpAny_pure ?_
  try dsimp only
  rw [h6]
  rw [if_neg (by decide), if_neg (by decide)]
  refine wpAny_bind (wpAny_pure ?_)
  refine wpAny_bind ?_
  unfold Builtin.Re.reRawItems
  rw [h5]
  refine wpAny_bind (wpAny_seqItems hoc rfl (wpAny_pure ?_))
  refine wpAny_pure ?_
  try dsimp only
  have hl : min (2 ^ 63 - 1 : Int).toNat v.cps.size = v.cps.size := by
    have : (2 ^ 63 - 1 : Int).toNat = 2 ^ 63 - 1 := by decide
    rw [this]; omega
  have h0 : min (Int.toNat 0) v.cps.size = 0 := by simp
  rw [hl, h0]
  unfold noFind at hm
  unfold Builtin.Re.reAnswer
  split at hm
  · rename_i m' e
    split at hm
    · rename_i ho'
      refine wpAny_bind (toEnd_wp (m' := m') ?_ ho' ?_)
      · simpa using e
      · exact wpAny_pure hR
    · cases hm
  · cases hm
theorem search_method {a : Addr} {fs : Array Value} {sl : Array (Option Value)} {pl : Sem Bool} {Q : Value × List Value → Shared → Prop}
    (ho : s.heap.get? a = some ⟨.type "re.Pattern", none, .fields fs, sl⟩) (h : Q (.builtin "re.Pattern.search", [.ref a]) s) : wpAny (model prog w) A (getMethod (.ref a) "search" pl) Q E s :=
  getMethod_builtin (T := "re.Pattern") ⟨_, ho, rfl⟩ plainAttrs_pat slot_search type_search (fun b e => by cases e; exact ⟨_, ho, rfl⟩) h
end
end Mine

namespace Mine
/-! loops whose only moving part is their iterator; the ledger may grow and turn -/
abbrev Led := List (Addr × Obj)
def nah : Value → Shared → Prop := fun _ _ => False
theorem nah_passes {M : Model} {A : Around} {env : Env} : PassesOwn M A env nah := PassesOwn.never
theorem noRaise {α : Type} {M : Model} {A : Around} {E : Value → Shared → Prop} {s : Shared} {t : Sem α} {Q : α → Shared → Prop} (h : wpAny M A t Q nah s) : wpAny M A t Q E s :=
  wpAny_noRaise h
/-- where a turn of a loop ends -/
def TurnTo (h₀ : Heap) (L I : Addr) (o : Obj) (J : (Str → Option Value) → Led → Prop) (s₀ : Shared) (Q : Flow → Shared → Prop) (f : Flow) (s₂ : Shared) : Prop :=
  match f with
  | .ret v => Q (.ret v) s₂
  | .brk => Q .next s₂
  | _ => ∃ h' tk m nx, s₂ = { s₀ with heap := h', toks := tk } ∧ Fr h₀ L h' m ∧ News h₀ L h' ((I, o) :: nx) ∧ (∀ p ∈ nx, p.1 ≠ I) ∧ J m nx
theorem TurnTo.next {h₀ : Heap} {L I : Addr} {o : Obj} {J : (Str → Option Value) → Led → Prop} {s₀ : Shared} {Q : Flow → Shared → Prop} {h' : Heap} {tk : Nat} {m : Str → Option Value} (nx : Led)
    (F : Fr h₀ L h' m) (N : News h₀ L h' ((I, o) :: nx)) (hI : ∀ p ∈ nx, p.1 ≠ I) (hJ : J m nx) : TurnTo h₀ L I o J s₀ Q .next { s₀ with heap := h', toks := tk } :=
  ⟨h', tk, m, nx, rfl, F, N, hI, hJ⟩
section
variable {prog : Program} {w : World} {A : Around} {s : Shared} {env : Env} {h₀ : Heap} {L : Addr}
theorem strs_snoc {vs : List Value} {ys : List Str} {y : Str} {t : Tok} (h : StrsAre vs ys) : StrsAre (vs ++ [.str y t]) (ys ++ [y]) := by
  induction h with
  | nil => exact .cons y t .nil
  | cons z u _ ih => exact .cons z u ih
theorem take_snoc {α : Type} {l : List α} {i : Nat} {x : α} (h : l[i]? = some x) : l.take (i + 1) = l.take i ++ [x] := by
  rw [List.take_add_one, h]; rfl
theorem news_sub {h : Heap} {l l' : Led} (N : News h₀ L h l) (hs : ∀ p ∈ l', p ∈ l) : News h₀ L h l' := fun p hp => N p (hs p hp)
theorem news_drop3 {h : Heap} {a b c d : Addr × Obj} {r : Led} (N : News h₀ L h (a :: b :: c :: d :: r)) : News h₀ L h (a :: r) := news_sub N fun p hp => by
  rcases List.mem_cons.mp hp with rfl | hp
  · exact .head _
  · exact .tail _ (.tail _ (.tail _ (.tail _ hp)))
theorem news_ne {h : Heap} {l : Led} {a b : Addr} {o o' : Obj} (N : News h₀ L h l) (ha : (a, o) ∈ l) (hb : (b, o') ∈ l) (hne : o.cls ≠ o'.cls) : a ≠ b := by
  rintro rfl
  have h1 := (N _ ha).1
  have h2 := (N _ hb).1
  rw [h1] at h2
  exact hne (congrArg Obj.cls (Option.some.inj h2))
theorem fr_know {h : Heap} {m : Str → Option Value} (x : Str) (v : Value) (F : Fr h₀ L h m) (e : m x = some v) : Fr h₀ L h (fun y => if y = x then some v else m y) := by
  have em : (fun y => if y = x then some v else m y) = m := funext fun y => by
    by_cases h : y = x
    · rw [if_pos h, h, e]
    · rw [if_neg h]
  rw [em]; exact F
theorem fr_knows {h : Heap} {m : Str → Option Value} (ks : List (Str × Value)) (F : Fr h₀ L h m) (e : ∀ p ∈ ks, m p.1 = some p.2) : Fr h₀ L h (fun y => (ks.lookup y).or (m y)) := by
  have em : (fun y => (ks.lookup y).or (m y)) = m := funext fun y => by
    clear F
    induction ks with
    | nil => rfl
    | cons p r ih =>
      rw [List.lookup_cons]
      by_cases h : (y == p.1) = true
      · rw [h]
        have h' : y = p.1 := by simpa using h
        rw [h']
        exact (e p (.head _)).symm
      · have h2 : (y == p.1) = false := by simpa using h
        rw [h2]
        exact ih fun q hq => e q (.tail _ hq)
  rw [em]; exact F
/-- the loop itself -/
theorem for_walk {target : Expr} {body : List Stmt} {I : Addr} {fp : List Addr} {n : Nat} {P : Nat → Value → Prop} {St : Nat → Heap → Prop} {m₀ : Str → Option Value} {nx₀ : Led} {Q : Flow → Shared → Prop}
    (stay : Led) (J : Nat → (Str → Option Value) → Led → Prop) (hL : env.locals = L)
    (W : Walks prog w A I fp [I] n P St) (hob : ∀ i h, St i h → ∃ o, h.get? I = some o)
    (hfp : ∀ b ∈ fp, b = I ∨ (∃ q, h₀.get? b = some q) ∨ ∃ o, (b, o) ∈ stay) (hLI : L ≠ I) (hI0 : h₀.get? I = none) (hI : ∀ p ∈ nx₀, p.1 ≠ I)
    (hst : St 0 s.heap) (F : Fr h₀ L s.heap m₀) (N : News h₀ L s.heap nx₀) (hstay : ∀ i m nx, J i m nx → ∀ p ∈ stay, p ∈ nx) (h0 : J 0 m₀ nx₀)
    (hgo : ∀ i (s' : Shared) v (Q' : Unit → Shared → Prop), St i s'.heap → Q' () s' → wpAny (model prog w) A (letOwnedTupleGo target (.ref I) v) Q' nah s')
    (turn : ∀ i v m nx h tk o, i < n → P i v → J i m nx → (∀ p ∈ nx, p.1 ≠ I) → Fr h₀ L h m → News h₀ L h ((I, o) :: nx) →
      wpAny (model prog w) A (assign target env v) (fun _ s₃ => wpAny (model prog w) A (execs body env) (TurnTo h₀ L I o (J (i + 1)) { s with heap := h, toks := tk } Q) nah s₃) nah { s with heap := h, toks := tk })
    (done : ∀ m nx h tk, J n m nx → Fr h₀ L h m → News h₀ L h nx → Q .next { s with heap := h, toks := tk }) :
    codeAny (model prog w) A (.forLoop target (.ref I) body [] env) (fun r s' => match r with | .ok f => Q f s' | .error e => cameBackBy (model prog w) A env nah e s') s := by
  subst hL
  refine codeAny_forLoop_any
    (fun k s' => ∃ i h tk m nx, s' = { s with heap := h, toks := tk } ∧ k = n + 1 - i ∧ i ≤ n ∧ St i h ∧ Fr h₀ env.locals h m ∧ News h₀ env.locals h nx ∧ (∀ p ∈ nx, p.1 ≠ I) ∧ J i m nx) ?_ (n + 1)
    ⟨0, s.heap, s.toks, m₀, nx₀, rfl, rfl, Nat.zero_le _, hst, F, N, hI, h0⟩
  rintro k s' ⟨i, h, tk, m, nx, rfl, rfl, hi, hst', F', N', hI', hJ⟩
  have keepF : ∀ h₁ : Heap, (∀ b o, b ∉ [I] → h.get? b = some o → h₁.get? b = some o) → Fr h₀ env.locals h₁ m := fun h₁ hk =>
    ⟨F'.ns.at' fun o e => hk _ o (by simpa using hLI) e, fun b o e => hk b o (by
      intro hb
      rw [List.mem_singleton.mp hb, hI0] at e
      cases e) (F'.keep b o e), F'.above⟩
  have keepN : ∀ h₁ : Heap, (∀ b o, b ∉ [I] → h.get? b = some o → h₁.get? b = some o) → News h₀ env.locals h₁ nx := fun h₁ hk p hp =>
    ⟨hk _ _ (by simpa using hI' p hp) (N' p hp).1, (N' p hp).2⟩
  by_cases hlt : i < n
  · refine W.item i _ _ _ hlt hst' fun v h₁ tk₁ hP hst₁ hk => ?_
    refine wpAny_passesOwn nah_passes (hgo (i + 1) _ v _ hst₁ ?_)
    obtain ⟨o, ho⟩ := hob _ _ hst₁
    have NI : News h₀ env.locals h₁ ((I, o) :: nx) := fun p hp => by
      rcases List.mem_cons.mp hp with rfl | hp
      · exact ⟨ho, Ne.symm hLI, hI0⟩
      · exact keepN h₁ hk p hp
    refine wpAny_mono (turn i v m nx h₁ tk₁ o hlt hP hJ hI' (keepF h₁ hk) NI) (fun _ s₃ h₃ => wpAny_mono h₃ (fun f s₂ hT => ?_) nah_passes) nah_passes
    have nextly : (∃ h' tk m nx, s₂ = { s with heap := h', toks := tk } ∧ Fr h₀ env.locals h' m ∧ News h₀ env.locals h' ((I, o) :: nx) ∧ (∀ p ∈ nx, p.1 ≠ I) ∧ J (i + 1) m nx) →
        ∃ k', k' < n + 1 - i ∧ ∃ i h tk m nx, s₂ = { s with heap := h, toks := tk } ∧ k' = n + 1 - i ∧ i ≤ n ∧ St i h ∧ Fr h₀ env.locals h m ∧ News h₀ env.locals h nx ∧ (∀ p ∈ nx, p.1 ≠ I) ∧ J i m nx := by
      rintro ⟨h', tk', m', nx', rfl, F₂, N₂, hI₂, hJ₂⟩
      refine ⟨n + 1 - (i + 1), by omega, i + 1, h', tk', m', nx', rfl, rfl, hlt, ?_, F₂, fun p hp => N₂ p (.tail _ hp), hI₂, hJ₂⟩
      refine W.frame _ _ _ hst₁ fun b hb ob e => ?_
      rcases hfp b hb with rfl | ⟨q, hq⟩ | ⟨q, hq⟩
      · rw [ho] at e; cases e
        exact (N₂ _ (.head _)).1
      · have h1 := (keepF h₁ hk).keep b q hq
        rw [h1] at e; cases e
        exact F₂.keep b _ hq
      · have h1 := (keepN h₁ hk _ (hstay i m nx hJ _ hq)).1
        rw [h1] at e; cases e
        exact (N₂ _ (.tail _ (hstay _ _ _ hJ₂ _ hq))).1
    cases f with
    | ret v => exact hT
    | brk => exact hT
    | next => exact nextly hT
    | cont => exact nextly hT
  · have hin : i = n := by omega
    subst hin
    refine W.done _ _ _ hst' fun h₁ tk₁ hk => wpAny_execs_nil ?_
    exact done m nx h₁ tk₁ hJ (keepF h₁ hk) (keepN h₁ hk)
theorem go_free {it v : Value} {target : Expr} {Q' : Unit → Shared → Prop} {s' : Shared} (h : letOwnedTupleGo target it v = pure ()) (hq : Q' () s') : wpAny (model prog w) A (letOwnedTupleGo target it v) Q' nah s' := by
  rw [h]; exact wpAny_pure hq
/-- a list's or a tuple's iterator unpacks no tuple of its own -/
theorem go_iter {I : Addr} {o : Obj} {v : Value} {target : Expr} {Q' : Unit → Shared → Prop} {s' : Shared} (ho : s'.heap.get? I = some o) (hc : o.cls = .type "list_iterator" ∨ o.cls = .type "tuple_iterator" ∨ o.cls = .type "range_iterator") (hq : Q' () s') :
    wpAny (model prog w) A (letOwnedTupleGo target (.ref I) v) Q' nah s' := by
  unfold letOwnedTupleGo
  have key : ∀ a, wpAny (model prog w) A (do
      let o ← load I
      match o.cls, o.data with
      | .type n, .fields vs =>
        if ["enumerate", "zip", "dict_itemiterator", "dict_reverseitemiterator", "odict_iterator", "itertools.zip_longest", "itertools.pairwise"].contains n && vs[0]? == some (rawInt a) then
          rule "for.unpacks-the-owned-tuple"
          updateField I 0 .none
      | _, _ => pure ()) Q' nah s' := fun a => by
    refine wpAny_bind (wpAny_load ho ?_)
    obtain ⟨c, d, dt, sl⟩ := o
    dsimp only at hc ⊢
    rcases hc with rfl | rfl | rfl
    all_goals
      cases dt <;> first
        | exact wpAny_pure hq
        | exact wpAny_pure hq
  cases target <;> first
    | exact wpAny_pure hq
    | (cases v <;> first | exact wpAny_pure hq | exact key _)
theorem fresh_ne {h : Heap} {nx : Led} (N : News h₀ L h nx) : ∀ p ∈ nx, p.1 ≠ h.objs.size := fun p hp e => absurd (Heap.lt_size (N p hp).1) (by rw [e]; exact Nat.lt_irrefl _)
/-- for target in l, l a list of the ledger that stays as it is -/
theorem for_list {target : Expr} {body : List Stmt} {l : Addr} {vs : List Value} {nn : Nat} {m₀ : Str → Option Value} {nx₀ : Led} {Q : Flow → Shared → Prop}
    (J : Nat → (Str → Option Value) → Led → Prop) (hh : A.handled = none) (hL : env.locals = L) (F : Fr h₀ L s.heap m₀) (N : News h₀ L s.heap nx₀)
    (hstay : ∀ i m nx, J i m nx → (l, listOf vs.toArray nn) ∈ nx) (h0 : J 0 m₀ nx₀)
    (turn : ∀ i v m nx h tk I o, vs[i]? = some v → J i m nx → (∀ p ∈ nx, p.1 ≠ I) → Fr h₀ L h m → News h₀ L h ((I, o) :: nx) →
      wpAny (model prog w) A (assign target env v) (fun _ s₃ => wpAny (model prog w) A (execs body env) (TurnTo h₀ L I o (J (i + 1)) { s with heap := h, toks := tk } Q) nah s₃) nah { s with heap := h, toks := tk })
    (done : ∀ m nx h tk, J vs.length m nx → Fr h₀ L h m → News h₀ L h nx → Q .next { s with heap := h, toks := tk }) :
    wpAny (model prog w) A (pyIter (.ref l)) (fun it s₂ => codeAny (model prog w) A (.forLoop target it body [] env) (fun r s' => match r with | .ok f => Q f s' | .error e => cameBackBy (model prog w) A env nah e s') s₂) nah s := by
  have hm := hstay _ _ _ h0
  have hol : s.heap.get? l = some (listOf vs.toArray nn) := (N _ hm).1
  have hls : s.heap.IsList l vs.toArray := ⟨_, hol, rfl, nn, rfl⟩
  have hne : l ≠ s.heap.objs.size := Nat.ne_of_lt (Heap.lt_size hol)
  refine wpAny_pyIter_list hls ?_
  have W := Walks.list (prog := prog) (w := w) hh s.heap.objs.size l hne vs.toArray
  have N1 : News h₀ L (s.heap.push { cls := .type "list_iterator", data := .fields #[.ref l, .int 0 0] }) nx₀ := fun p hp => ⟨Heap.get?_push_of_some _ (N p hp).1, (N p hp).2⟩
  refine for_walk [(l, listOf vs.toArray nn)] J hL W ?_ ?_ (Nat.ne_of_lt F.ns.lt) (next_is_new F) (fresh_ne N)
    ⟨⟨_, Heap.get?_push_size _ rfl, rfl, rfl⟩, hls.at fun o e => Heap.get?_push_of_some _ e⟩ (F.push _) N1 ?_ h0 ?_ ?_ ?_
  · rintro i h ⟨⟨o, ho, _⟩, _⟩; exact ⟨o, ho⟩
  · intro b hb
    rcases List.mem_cons.mp hb with e | hb
    · exact .inl e
    · exact .inr (.inr ⟨_, by rw [List.mem_singleton.mp hb]; exact .head _⟩)
  · intro i m nx hJ p hp
    rw [List.mem_singleton.mp hp]; exact hstay _ _ _ hJ
  · rintro i s' v Q' ⟨⟨o, ho, hc, _⟩, _⟩ hq
    exact go_iter ho (.inl hc) hq
  · intro i v m nx h tk o _ hP
    exact turn i v m nx h tk _ o (by simpa using hP)
  · intro m nx h tk hJ
    exact done m nx h tk (by simpa using hJ)
end
end Mine

namespace Mine
/-! a list comprehension of one clause: its turns keep the ledger as it is -/
open LCg
def CEnd (h₀ : Heap) (L : Addr) (m : Str → Option Value) (s₁ : Shared) (led : Led) (post : Value → Prop) (y : Value) (s₂ : Shared) : Prop :=
  ∃ h' tk, s₂ = { s₁ with heap := h', toks := tk } ∧ Fr h₀ L h' m ∧ News h₀ L h' led ∧ post y
theorem CEnd.intro {h₀ : Heap} {L : Addr} {m : Str → Option Value} {s₁ : Shared} {led : Led} {post : Value → Prop} {y : Value} {h' : Heap} {tk : Nat} (F : Fr h₀ L h' m) (N : News h₀ L h' led) (hp : post y) :
    CEnd h₀ L m s₁ led post y { s₁ with heap := h', toks := tk } := ⟨h', tk, rfl, F, N, hp⟩
section
variable {prog : Program} {w : World} {A : Around} {s s₂ : Shared} {env : Env} {h₀ : Heap} {L : Addr} {m : Str → Option Value}
/-- the clause's tests -/
abbrev tests (M : Model) (A : Around) (ifs : List Expr) (cenv : Env) (Q : Bool → Shared → Prop) (s : Shared) : Prop :=
  wpAny M A (forIn ifs true fun c r => if r = true then do let ok ← isTrue c cenv (eval c cenv); pure (ForInStep.yield ok) else pure (ForInStep.yield r)) Q nah s
def CompTurn (prog : Program) (w : World) (A : Around) (h₀ : Heap) (L : Addr) (m : Str → Option Value) (elt : Expr) (ifs : List Expr) (cenv : Env) (s₁ : Shared) (led : Led) (yes : Value → Prop) (no : Prop) : Prop :=
  tests (model prog w) A ifs cenv (fun ok s₃ => if ok = true then wpAny (model prog w) A (eval elt cenv) (CEnd h₀ L m s₁ led yes) nah s₃ else CEnd h₀ L m s₁ led (fun _ => no) .none s₃) s₁
theorem CompTurn.plain {elt : Expr} {cenv : Env} {led : Led} {yes : Value → Prop} {no : Prop} (h : wpAny (model prog w) A (eval elt cenv) (CEnd h₀ L m s led yes) nah s) : CompTurn prog w A h₀ L m elt [] cenv s led yes no :=
  wpAny_tests_nil (by rw [if_pos rfl]; exact h)
theorem CompTurn.one {elt c : Expr} {cenv : Env} {led : Led} {yes : Value → Prop} {no : Prop}
    (h : wpAny (model prog w) A (isTrue c cenv (eval c cenv)) (fun ok s₃ => if ok = true then wpAny (model prog w) A (eval elt cenv) (CEnd h₀ L m s led yes) nah s₃ else CEnd h₀ L m s led (fun _ => no) .none s₃) nah s) :
    CompTurn prog w A h₀ L m elt [c] cenv s led yes no := wpAny_tests_one h
theorem comp_loop {elt target iter : Expr} {ifs : List Expr} {scope : Scope} {pos : Pos} {it acc : Value} {cenv : Env} {R : Result → Shared → Prop} (Inv : Nat → Shared → Prop)
    (turn : ∀ n s, Inv n s → wpAny (model prog w) A (pyNext it) (fun r s₁ => match r with
      | none => R (.ok .next) s₁
      | some v => wpAny (model prog w) A (letOwnedTupleGo target it v) (fun _ s₁' => wpAny (model prog w) A (assign target cenv v) (fun _ s₂ =>
          tests (model prog w) A ifs cenv (fun ok s₃ => if ok = true then wpAny (model prog w) A (eval elt cenv) (fun x s₄ =>
              wpAny (model prog w) A (call (.builtin "list.append") [acc, x]) (fun _ s₅ => ∃ k, k < n ∧ Inv k s₅) nah s₄) nah s₃
            else ∃ k, k < n ∧ Inv k s₃) s₂) nah s₁') nah s₁) nah s)
    (n : Nat) (h : Inv n s) : codeAny (model prog w) A (.compLoop (.ListComp elt [⟨target, iter, ifs, 0⟩] scope pos) 0 it acc cenv) R s := by
  refine codeAny_loop rfl Inv (fun n s hI => ?_) n h
  show wpAny _ A ((compTurn (.ListComp elt [⟨target, iter, ifs, 0⟩] scope pos) 0 it acc cenv).onRaise (fun x => do noteFrame x cenv; theTreesLotGoes x)) _ _ s
  refine wpAny_noted ?_
  rw [compTurn_list]
  refine wpAny_bind (wpAny_standAt (wpAny_bind (wpAny_mono (turn n s hI) (fun r s₁ h₁ => ?_) fun _ _ x => x.elim)))
  cases r with
  | none => exact wpAny_pure h₁
  | some v =>
    refine wpAny_bind (wpAny_mono h₁ (fun _ s₁' h₁' => ?_) fun _ _ x => x.elim)
    refine wpAny_bind (wpAny_mono h₁' (fun _ s₂ h₂ => ?_) fun _ _ x => x.elim)
    refine wpAny_bind (wpAny_mono h₂ (fun ok s₃ h₃ => ?_) fun _ _ x => x.elim)
    cases ok with
    | false => exact wpAny_pure ⟨rfl, by simpa using h₃⟩
    | true =>
      simp only [if_true] at h₃ ⊢
      exact wpAny_bind (wpAny_bind (wpAny_mono h₃ (fun x s₄ h₄ => wpAny_bind (wpAny_mono h₄ (fun _ s₅ h₅ => wpAny_pure (wpAny_pure ⟨rfl, h₅⟩)) fun _ _ x => x.elim)) fun _ _ x => x.elim))
theorem comp_block {elt target iter : Expr} {ifs : List Expr} {scope : Scope} {cl : List (Str × Addr)} {pos : Pos} {I : Addr} {fp : List Addr} {n : Nat} {P : Nat → Value → Prop} {St : Nat → Heap → Prop} {nx : Led}
    {Has : Value → (Str → Option Value) → Prop} {RR : Value → Addr → Result → Shared → Prop} (J : Nat → List Value → Prop)
    (W : Walks prog w A I fp [I] n P St) (hsz : n ≤ sizeLine) (hob : ∀ i h, St i h → ∃ o, h.get? I = some o)
    (hfp : ∀ b ∈ fp, b = I ∨ (∃ q, h₀.get? b = some q) ∨ ∃ o, (b, o) ∈ nx) (hlt : ∀ b ∈ fp, b < s₂.heap.objs.size)
    (hcell : ∀ y ∈ scope.names, y.2 ≠ .cell) (hkind : scope.kind = .function) (hst : St 0 s₂.heap) (F : Fr h₀ L s₂.heap m) (N : News h₀ L s₂.heap nx)
    (hLI : L ≠ I) (hI0 : h₀.get? I = none) (hI : ∀ p ∈ nx, p.1 ≠ I)
    (hgo : ∀ i (s' : Shared) v (Q' : Unit → Shared → Prop), St i s'.heap → Q' () s' → wpAny (model prog w) A (letOwnedTupleGo target (.ref I) v) Q' nah s')
    (asg : ∀ i v C m' (s' : Shared) (Q' : Unit → Shared → Prop), P i v → s'.heap.Ns C m' → (∀ b o, h₀.get? b = some o → s'.heap.get? b = some o) → News h₀ L s'.heap nx →
      (∀ h' tk' m₂, (∀ b o, b ≠ C → s'.heap.get? b = some o → h'.get? b = some o) → h'.Ns C m₂ → Has v m₂ → Q' () { s' with heap := h', toks := tk' }) → wpAny (model prog w) A (assign target (compEnvC scope cl C env) v) Q' nah s')
    (j0 : J 0 [])
    (turn : ∀ i v ys oI C oC D m₂ h tk, i < n → P i v → J i ys → NsObj oC m₂ → Has v m₂ → Fr h₀ L h m → News h₀ L h ((I, oI) :: (C, oC) :: (D, lst ys) :: nx) → Off3 I C D nx → ((@Ne Nat I C) ∧ (@Ne Nat I D) ∧ (@Ne Nat C D)) →
      CompTurn prog w A h₀ L m elt ifs (compEnvC scope cl C env) { s₂ with heap := h, toks := tk } ((I, oI) :: (C, oC) :: (D, lst ys) :: nx) (fun y => J (i + 1) (ys ++ [y])) (J (i + 1) ys))
    (hRR : ∀ D C h tk m' ys, Fr h₀ L h m → News h₀ L h ((D, lst ys) :: nx) → h.Ns C m' → h₀.get? C = none → C ≠ L → C ≠ D → (∀ p ∈ nx, p.1 ≠ C) → (∀ p ∈ nx, p.1 ≠ D) → ys.length ≤ n → J n ys → RR (.ref D) C (.ok .next) { s₂ with heap := h, toks := tk }) :
    wpAny (model prog w) A (newList []) (fun acc s₃ => wpAny (model prog w) A (newFunctionEnv scope env.globals cl [] env.qual none .none (some env)) (fun cenv s₄ =>
      codeAny (model prog w) A (.compStart (.ListComp elt [⟨target, iter, ifs, 0⟩] scope pos) 0 (.ref I) acc { cenv with scope := relabel scope env }) (RR acc cenv.locals) s₄) nah s₃) nah s₂ := by
  refine wpAny_newObj_type (wpAny_newFunctionEnv hcell (by intro y hy; simp at hy) (fun h₁ hns₁ hsb₁ => ?_) hkind)
  dsimp only at hns₁ hsb₁ ⊢
  -- the made list D, the block's names C
  generalize hD : s₂.heap.objs.size = D at hns₁ hsb₁ ⊢
  generalize hH : s₂.heap.push { cls := .type "list", dict := none, data := .seq ([] : List Value).toArray } = H at hns₁ hsb₁ ⊢
  generalize hC : H.objs.size = C at hns₁ hsb₁ ⊢
  have hCD : C = D + 1 := by rw [← hC, ← hH, Heap.size_push, hD]
  have small : ∀ b : Nat, b < D → @Ne Nat b C ∧ @Ne Nat b D := fun b hb => ⟨by omega, by omega⟩
  have old : ∀ b o, s₂.heap.get? b = some o → h₁.get? b = some o := fun b o e => by
    have hb : @LT.lt Nat _ b D := hD ▸ Heap.lt_size e
    exact hsb₁.extBut b o (small b hb).1 (Heap.get?_push_of_some _ (hH ▸ Heap.get?_push_of_some _ e))
  have accD : h₁.get? D = some (lst []) := by
    refine hsb₁.extBut _ _ (show @Ne Nat D C by omega) (Heap.get?_push_of_some _ ?_)
    rw [← hH, ← hD]
    exact Heap.get?_push_size _ rfl
  have none₀ : ∀ a : Nat, D ≤ a → h₀.get? a = none := fun a ha => by
    cases e : h₀.get? a with
    | none => rfl
    | some o =>
      have := Heap.lt_size (F.keep a o e)
      rw [hD] at this
      exact absurd this (Nat.not_lt.mpr ha)
  have hLD : @LT.lt Nat _ L D := hD ▸ F.ns.lt
  have hID : @LT.lt Nat _ I D := hD ▸ hlt I (W.sub I (List.mem_singleton.mpr rfl))
  have nxD : ∀ p ∈ nx, @LT.lt Nat _ p.1 D := fun p hp => hD ▸ Heap.lt_size (N p hp).1
  have hst₁ : St 0 h₁ := W.frame _ _ _ hst fun b _ o e => old b o e
  have loop : ∀ s₃ : Shared, s₃ = { s₂ with heap := h₁, toks := s₂.toks + ([] : List (Str × Value)).length } →
      codeAny (model prog w) A (.compLoop (.ListComp elt [⟨target, iter, ifs, 0⟩] scope pos) 0 (.ref I) (.ref D) (compEnvC scope cl C env)) (RR (.ref D) C) s₃ := by
    rintro s₃ rfl
    refine comp_loop (fun k s' => ∃ i h tk m' ys, s' = { s₂ with heap := h, toks := tk } ∧ k = n + 1 - i ∧ i ≤ n ∧ ys.length ≤ i ∧ St i h ∧ Fr h₀ L h m ∧ h.Ns C m' ∧ News h₀ L h ((D, lst ys) :: nx) ∧ J i ys) ?_ (n + 1)
      ⟨0, h₁, _, _, [], rfl, rfl, Nat.zero_le _, Nat.le_refl _, hst₁, F.keeps old, hns₁, fun p hp => ?_, j0⟩
    · rintro k s' ⟨i, h, tk, m', ys, rfl, rfl, hi, hy, hst', F', hn', N', hJ⟩
      have keepI : ∀ g : Heap, (∀ b o, b ∉ [I] → h.get? b = some o → g.get? b = some o) → Fr h₀ L g m ∧ News h₀ L g ((D, lst ys) :: nx) ∧ g.Ns C m' := fun g hk =>
        ⟨fr_but F' hk hLI hI0, news_but N' hk fun p hp => by
          rcases List.mem_cons.mp hp with rfl | hp
          · show @Ne Nat D I; omega
          · exact hI p hp, hn'.at' fun o e => hk _ o (by rw [List.mem_singleton]; show @Ne Nat C I; omega) e⟩
      by_cases hlt' : i < n
      · refine W.item i _ _ _ hlt' hst' fun v h₂ tk₂ hP hst₂ hk₂ => ?_
        refine hgo (i + 1) _ v _ hst₂ ?_
        obtain ⟨F₂, N₂, hn₂⟩ := keepI h₂ hk₂
        refine asg i v C m' _ _ hP hn₂ F₂.keep (fun p hp => N₂ p (.tail _ hp)) fun h₃ tk₃ m₂ hk₃ hn₃ hHas => ?_
        have hst₃ : St (i + 1) h₃ := W.frame _ _ _ hst₂ fun b hb o e => hk₃ b o (by have h9 : @LT.lt Nat _ b s₂.heap.objs.size := hlt b hb; rw [hD] at h9; show @Ne Nat b C; omega) e
        obtain ⟨oI, hoI⟩ := hob _ _ hst₃
        obtain ⟨oC, hoC, hNC⟩ := ns_obj hn₃
        have F₃ : Fr h₀ L h₃ m := ⟨F₂.ns.at' fun o e => hk₃ L o (by show @Ne Nat L C; omega) e, fun b o e => hk₃ b o (by
          rintro rfl
          rw [none₀ _ (by omega)] at e; cases e) (F₂.keep b o e), F₂.above⟩
        have N₃ : News h₀ L h₃ ((I, oI) :: (C, oC) :: (D, lst ys) :: nx) := fun p hp => by
          rcases List.mem_cons.mp hp with rfl | hp
          · exact ⟨hoI, Ne.symm hLI, hI0⟩
          · rcases List.mem_cons.mp hp with rfl | hp
            · exact ⟨hoC, by show @Ne Nat C L; omega, none₀ C (by omega)⟩
            · refine ⟨hk₃ _ _ ?_ (N₂ p hp).1, (N₂ p hp).2⟩
              rcases List.mem_cons.mp hp with rfl | hp
              · show @Ne Nat D C; omega
              · have := nxD p hp; show @Ne Nat p.1 C; omega
        have off : Off3 I C D nx := Off3.of fun p hp => ⟨hI p hp, by have := nxD p hp; show @Ne Nat p.1 C; omega, by have := nxD p hp; show @Ne Nat p.1 D; omega⟩
        have back : ∀ (ys' : List Value) (h₅ : Heap) (tk₅ : Nat), ys'.length ≤ i + 1 → Fr h₀ L h₅ m → News h₀ L h₅ ((I, oI) :: (C, oC) :: (D, lst ys') :: nx) → J (i + 1) ys' →
            ∃ k, k < n + 1 - i ∧ ∃ i h tk m' ys, ({ s₂ with heap := h₅, toks := tk₅ } : Shared) = { s₂ with heap := h, toks := tk } ∧ k = n + 1 - i ∧ i ≤ n ∧ ys.length ≤ i ∧ St i h ∧ Fr h₀ L h m ∧ h.Ns C m' ∧ News h₀ L h ((D, lst ys) :: nx) ∧ J i ys := by
          intro ys' h₅ tk₅ hy₅ F₅ N₅ hJ₅
          refine ⟨n + 1 - (i + 1), by omega, i + 1, h₅, tk₅, m₂, ys', rfl, rfl, hlt', hy₅, ?_, F₅, hNC.ns (N₅ _ (.tail _ (.head _))).1, fun p hp => N₅ p (.tail _ (.tail _ hp)), hJ₅⟩
          refine W.frame _ _ _ hst₃ fun b hb o e => ?_
          rcases hfp b hb with rfl | ⟨q, hq⟩ | ⟨q, hq⟩
          · rw [hoI] at e; cases e
            exact (N₅ _ (.head _)).1
          · have e1 := F₃.keep b q hq
            rw [e1] at e; cases e
            exact F₅.keep b _ hq
          · have e1 := (N₃ (b, q) (by simp [hq])).1
            rw [e1] at e; cases e
            exact (N₅ (b, q) (by simp [hq])).1
        refine wpAny_mono (turn i v ys oI C oC D m₂ h₃ tk₃ hlt' hP hJ hNC hHas F₃ N₃ off ⟨by omega, by omega, by omega⟩) (fun ok s₃ hT => ?_) fun _ _ x => x
        cases ok with
        | false =>
          simp only [Bool.false_eq_true, if_false] at hT ⊢
          obtain ⟨h₅, tk₅, rfl, F₅, N₅, hJ₅⟩ := hT
          exact back ys h₅ tk₅ (by omega) F₅ N₅ hJ₅
        | true =>
          simp only [if_true] at hT ⊢
          refine wpAny_mono hT (fun y s₄ hY => ?_) fun _ _ x => x
          obtain ⟨h₄, tk₄, rfl, F₄, N₄, hJ₄⟩ := hY
          have zD : h₄.get? D = some (lst ys) := (N₄ (D, lst ys) (by simp)).1
          refine append_at (hsz := by show ys.toArray.size ≤ sizeLine; rw [List.size_toArray]; omega) zD fun h₅ hs₅ hD₅ => ?_
          refine back (ys ++ [y]) h₅ tk₄ (by simp; omega) (F₄.change hs₅ (by show @Ne Nat D L; omega) (none₀ D (Nat.le_refl _))) (fun p hp => ?_) hJ₄
          have keep : ∀ q, q ∈ (I, oI) :: (C, oC) :: (D, lst ys) :: nx → q.1 ≠ D → h₅.get? q.1 = some q.2 ∧ q.1 ≠ L ∧ h₀.get? q.1 = none := fun q hq hne => ⟨hs₅.extBut _ _ hne (N₄ q hq).1, (N₄ q hq).2⟩
          rcases List.mem_cons.mp hp with rfl | hp
          · exact keep _ (by simp) (by show @Ne Nat I D; omega)
          · rcases List.mem_cons.mp hp with rfl | hp
            · exact keep _ (by simp) (by show @Ne Nat C D; omega)
            · rcases List.mem_cons.mp hp with rfl | hp
              · exact ⟨hD₅.trans (congrArg some (lst_snoc ys y)), by show @Ne Nat D L; omega, none₀ D (Nat.le_refl _)⟩
              · exact keep p (by simp [hp]) (by have := nxD p hp; show @Ne Nat p.1 D; omega)
      · have hin : i = n := by omega
        subst hin
        refine W.done _ _ _ hst' fun h₂ tk₂ hk₂ => ?_
        obtain ⟨F₂, N₂, hn₂⟩ := keepI h₂ hk₂
        exact hRR D C h₂ tk₂ m' ys F₂ N₂ hn₂ (none₀ C (by omega)) (by show @Ne Nat C L; omega) (by show @Ne Nat C D; omega) (fun p hp => by have := nxD p hp; show @Ne Nat p.1 C; omega) (fun p hp => by have := nxD p hp; show @Ne Nat p.1 D; omega) hy hJ
    · rcases List.mem_cons.mp hp with rfl | hp
      · exact ⟨accD, by show @Ne Nat D L; omega, none₀ D (Nat.le_refl _)⟩
      · exact ⟨old _ _ (N p hp).1, (N p hp).2⟩
  exact codeAny_compStart_list (loop _ rfl) (W.self 0 _ _ _ hst₁ (loop _ rfl))
end
end Mine

namespace Mine
open LCg
section
variable {prog : Program} {w : World} {A : Around} {s s₂ : Shared} {env : Env} {h₀ : Heap} {L : Addr} {m : Str → Option Value}
/-- from the iterator on -/
def CompGo (prog : Program) (w : World) (A : Around) (env : Env) (e : Expr) (scope : Scope) (cl : List (Str × Addr)) (RR : Value → Addr → Result → Shared → Prop) (it : Value) (s₂ : Shared) : Prop :=
  wpAny (model prog w) A (newList []) (fun acc s₃ => wpAny (model prog w) A (newFunctionEnv scope env.globals cl [] env.qual none .none (some env)) (fun cenv s₄ =>
    codeAny (model prog w) A (.compStart e 0 it acc { cenv with scope := relabel scope env }) (RR acc cenv.locals) s₄) nah s₃) nah s₂
theorem comp_expr {elt target iter : Expr} {ifs : List Expr} {scope : Scope} {cl : List (Str × Addr)} {pos : Pos} {Q : Value → Shared → Prop}
    (hclos : closureFor scope env = pure cl) (hkind : scope.kind = .function) (hnames : ∀ y ∈ scope.names, y.2 = .local → scope.names.lookup y.1 = some .local) (hs : ∀ x, foldedSetIterable iter env x = pure x)
    (h : wpAny (model prog w) A (eval iter env) (fun xv s₁ => wpAny (model prog w) A (pyIter xv) (CompGo prog w A env (.ListComp elt [⟨target, iter, ifs, 0⟩] scope pos) scope cl (compPost (model prog w) A nah none Q)) nah s₁) nah s) :
    wpAny (model prog w) A (eval (.ListComp elt [⟨target, iter, ifs, 0⟩] scope pos) env) Q nah s := by
  rw [eval_ListComp]
  exact wpAny_comprehension_free (use := none) rfl hs hclos hkind hnames h
theorem comp_assign {elt target iter : Expr} {ifs : List Expr} {y : Str} {py : Pos} {scope : Scope} {cl : List (Str × Addr)} {pos spos : Pos} {Q : Flow → Shared → Prop}
    (hsw : swapsWith (.ListComp elt [⟨target, iter, ifs, 0⟩] scope pos) (some (.Name y py)) spos.line env = pure true)
    (hclos : closureFor scope env = pure cl) (hkind : scope.kind = .function) (hnames : ∀ y ∈ scope.names, y.2 = .local → scope.names.lookup y.1 = some .local) (hs : ∀ x, foldedSetIterable iter env x = pure x)
    (h : wpAny (model prog w) A (eval iter env) (fun xv s₁ => wpAny (model prog w) A (pyIter xv) (CompGo prog w A env (.ListComp elt [⟨target, iter, ifs, 0⟩] scope pos) scope cl (compPost (model prog w) A nah (some (assign (.Name y py) env)) (fun _ s' => Q .next s'))) nah s₁) nah s) :
    wpAny (model prog w) A (exec (.Assign [.Name y py] (.ListComp elt [⟨target, iter, ifs, 0⟩] scope pos) spos) env) Q nah s := by
  rw [exec_Assign_Name_used _ _ _ _ hsw]
  refine wpAny_bind (wpAny_standAt (wpAny_bind ?_))
  show wpAny _ A (do let _ ← comprehension (.ListComp elt [⟨target, iter, ifs, 0⟩] scope pos) scope env _ (newList []) false (eval iter env) (some (assign (.Name y py) env))) _ _ s
  exact wpAny_bind (wpAny_mono (wpAny_comprehension_free (use := some (assign (.Name y py) env)) (Q := fun _ s' => Q .next s') rfl hs hclos hkind hnames h) (fun _ s' hq => wpAny_pure (wpAny_pure hq)) fun _ _ x => x)
/-- what is made of the list -/
def CompDone (h₀ : Heap) (L : Addr) (m : Str → Option Value) (nx : Led) (n : Nat) (J : Nat → List Value → Prop) (s₂ : Shared) (RR : Value → Addr → Result → Shared → Prop) : Prop :=
  ∀ D C h tk m' ys, Fr h₀ L h m → News h₀ L h ((D, lst ys) :: nx) → h.Ns C m' → h₀.get? C = none → C ≠ L → C ≠ D → (∀ p ∈ nx, p.1 ≠ C) → (∀ p ∈ nx, p.1 ≠ D) → ys.length ≤ n → J n ys → RR (.ref D) C (.ok .next) { s₂ with heap := h, toks := tk }
theorem CompDone.expr {nx : Led} {n : Nat} {J : Nat → List Value → Prop} {Q : Value → Shared → Prop}
    (fin : ∀ D h tk ys, Fr h₀ L h m → News h₀ L h ((D, lst ys) :: nx) → (∀ p ∈ nx, p.1 ≠ D) → ys.length ≤ n → J n ys → Q (.ref D) { s₂ with heap := h, toks := tk }) :
    CompDone h₀ L m nx n J s₂ (compPost (model prog w) A nah none Q) := by
  intro D C h tk m' ys F N hn hC₀ hCL hCD offC offD hy hJ
  refine ⟨m', hn, fun h'' hs => fin D h'' tk ys (F.change hs hCL hC₀) (fun p hp => ?_) offD hy hJ⟩
  refine ⟨hs.extBut _ _ ?_ (N p hp).1, (N p hp).2⟩
  rcases List.mem_cons.mp hp with rfl | hp
  · exact Ne.symm hCD
  · exact offC p hp
theorem CompDone.assign {nx : Led} {n : Nat} {J : Nat → List Value → Prop} {y : Str} {py : Pos} {Q : Flow → Shared → Prop} (hL : env.locals = L)
    (hy : env.kindOf y = some .local) (hp : (env.scope.kind == .class || (env.scope.kind == .module && env.locals != env.globals)) = false)
    (fin : ∀ D h tk ys, Fr h₀ L h (fun z => if z = y then some (.ref D) else m z) → News h₀ L h ((D, lst ys) :: nx) → (∀ p ∈ nx, p.1 ≠ D) → ys.length ≤ n → J n ys → Q .next { s₂ with heap := h, toks := tk }) :
    CompDone h₀ L m nx n J s₂ (compPost (model prog w) A nah (some (assign (.Name y py) env)) (fun _ s' => Q .next s')) := by
  subst hL
  intro D C h tk m' ys F N hn hC₀ hCL hCD offC offD hyn hJ
  show wpAny _ A (PySem.assign (.Name y py) env (.ref D)) _ _ _
  refine wpAny_assign_Name (wpAny_storeName_local hy F.ns (fun h₂ hn₂ hs₂ => ?_) hp)
  have F₂ : Fr h₀ env.locals h₂ (fun z => if z = y then some (.ref D) else m z) := F.set hn₂ hs₂
  have N₂ := N.set hs₂
  refine ⟨m', hn.sameBut hs₂ hCL, fun h'' hs => fin D h'' _ ys (F₂.change hs hCL hC₀) (fun p hp => ?_) offD hyn hJ⟩
  refine ⟨hs.extBut _ _ ?_ (N₂ p hp).1, (N₂ p hp).2⟩
  rcases List.mem_cons.mp hp with rfl | hp
  · exact Ne.symm hCD
  · exact offC p hp
/-- the turns -/
def CompTurns (prog : Program) (w : World) (A : Around) (h₀ : Heap) (L : Addr) (m : Str → Option Value) (env : Env) (elt : Expr) (ifs : List Expr) (scope : Scope) (cl : List (Str × Addr)) (nx : Led) (n : Nat) (P : Nat → Value → Prop) (Has : Value → (Str → Option Value) → Prop) (J : Nat → List Value → Prop) (s₂ : Shared) : Prop :=
  ∀ i v ys I oI C oC D m₂ h tk, i < n → P i v → J i ys → NsObj oC m₂ → Has v m₂ → Fr h₀ L h m → News h₀ L h ((I, oI) :: (C, oC) :: (D, lst ys) :: nx) → Off3 I C D nx → ((@Ne Nat I C) ∧ (@Ne Nat I D) ∧ (@Ne Nat C D)) →
    CompTurn prog w A h₀ L m elt ifs (compEnvC scope cl C env) { s₂ with heap := h, toks := tk } ((I, oI) :: (C, oC) :: (D, lst ys) :: nx) (fun y => J (i + 1) (ys ++ [y])) (J (i + 1) ys)
def Asg (prog : Program) (w : World) (A : Around) (h₀ : Heap) (L : Addr) (env : Env) (target : Expr) (scope : Scope) (cl : List (Str × Addr)) (nx : Led) (P : Nat → Value → Prop) (Has : Value → (Str → Option Value) → Prop) : Prop :=
  ∀ i v C m' (s' : Shared) (Q' : Unit → Shared → Prop), P i v → s'.heap.Ns C m' → (∀ b o, h₀.get? b = some o → s'.heap.get? b = some o) → News h₀ L s'.heap nx →
    (∀ h' tk' m₂, (∀ b o, b ≠ C → s'.heap.get? b = some o → h'.get? b = some o) → h'.Ns C m₂ → Has v m₂ → Q' () { s' with heap := h', toks := tk' }) → wpAny (model prog w) A (assign target (compEnvC scope cl C env) v) Q' nah s'
theorem Asg.name {x : Str} {px : Pos} {scope : Scope} {cl : List (Str × Addr)} {nx : Led} {P : Nat → Value → Prop} (hkind : scope.kind = .function) (hx : scope.names.lookup x = some .local) :
    Asg prog w A h₀ L env (.Name x px) scope cl nx P (fun v m₂ => m₂ x = some v) := by
  intro i v C m' s' Q' _ hn _ _ h
  exact wpAny_assign_Name (wpAny_storeName_local (lookup_relabel_local hx) hn (fun h₃ hn₃ hs₃ => h h₃ _ _ (fun b o hb e => hs₃.extBut b o hb e) hn₃ (by simp)) (by simp [compEnvC, relabel, hkind]))
theorem Asg.pair {x x₂ : Str} {px px₂ tp : Pos} {k} {scope : Scope} {cl : List (Str × Addr)} {nx : Led} {P : Nat → Value → Prop} (hh : A.handled = none) (hkind : scope.kind = .function) (hx : scope.names.lookup x = some .local) (hx₂ : scope.names.lookup x₂ = some .local) (hxx : x ≠ x₂)
    (hP : ∀ i v, P i v → ∃ t v₁ v₂ n, v = .ref t ∧ (t, ({ cls := .type "tuple", data := .seq #[v₁, v₂] n } : Obj)) ∈ nx) :
    Asg prog w A h₀ L env (.Tuple [.Name x px, .Name x₂ px₂] k tp) scope cl nx P (fun v m₂ => ∃ t v₁ v₂ n, v = .ref t ∧ (t, ({ cls := .type "tuple", data := .seq #[v₁, v₂] n } : Obj)) ∈ nx ∧ m₂ x = some v₁ ∧ m₂ x₂ = some v₂) := by
  intro i v C m' s' Q' hPv hn _ N h
  obtain ⟨t, v₁, v₂, n, rfl, hm⟩ := hP i v hPv
  have ht : IsTup s'.heap t #[v₁, v₂] := ⟨_, (N _ hm).1, rfl, n, rfl⟩
  refine assign_Tuple_tuple hh ht rfl rfl fun h₅ he => ?_
  have hne : ∀ b o, s'.heap.get? b = some o → h₅.get? b = some o := fun b o e => he b o (Nat.ne_of_lt (Heap.lt_size e)) e
  refine assignInOrder_cons (wpAny_assign_Name (wpAny_storeName_local (lookup_relabel_local hx) (hn.at' fun o e => hne _ o e) (fun h₆ hn₆ hs₆ => ?_) (by simp [compEnvC, relabel, hkind])))
  refine assignInOrder_cons (wpAny_assign_Name (wpAny_storeName_local (lookup_relabel_local hx₂) hn₆ (fun h₃ hn₃ hs₃ => ?_) (by simp [compEnvC, relabel, hkind])))
  refine assignInOrder_nil ?_
  exact h h₃ _ _ (fun b o hb e => hs₃.extBut b o hb (hs₆.extBut b o hb (hne b o e))) hn₃ ⟨t, v₁, v₂, n, rfl, hm, by simp [hxx], by simp⟩
/-- the source a list of the ledger -/
theorem comp_list {elt target iter : Expr} {ifs : List Expr} {scope : Scope} {cl : List (Str × Addr)} {pos : Pos} {l : Addr} {vs : List Value} {nn : Nat} {nx : Led} {Has : Value → (Str → Option Value) → Prop} {RR : Value → Addr → Result → Shared → Prop} (J : Nat → List Value → Prop)
    (hh : A.handled = none) (F : Fr h₀ L s.heap m) (N : News h₀ L s.heap nx) (hl : (l, listOf vs.toArray nn) ∈ nx) (hsz : vs.length ≤ sizeLine) (hcell : ∀ y ∈ scope.names, y.2 ≠ .cell) (hkind : scope.kind = .function)
    (asg : Asg prog w A h₀ L env target scope cl nx (fun i v => vs[i]? = some v) Has) (j0 : J 0 [])
    (turn : ∀ h, CompTurns prog w A h₀ L m env elt ifs scope cl nx vs.length (fun i v => vs[i]? = some v) Has J { s with heap := h })
    (fin : ∀ h, CompDone h₀ L m nx vs.length J { s with heap := h } RR) :
    wpAny (model prog w) A (pyIter (.ref l)) (CompGo prog w A env (.ListComp elt [⟨target, iter, ifs, 0⟩] scope pos) scope cl RR) nah s := by
  have hol : s.heap.get? l = some (listOf vs.toArray nn) := (N _ hl).1
  have hls : s.heap.IsList l vs.toArray := ⟨_, hol, rfl, nn, rfl⟩
  have hne : l ≠ s.heap.objs.size := Nat.ne_of_lt (Heap.lt_size hol)
  refine wpAny_pyIter_list hls ?_
  have W := Walks.list (prog := prog) (w := w) hh s.heap.objs.size l hne vs.toArray
  have hsize : vs.toArray.size = vs.length := by simp
  rw [hsize] at W
  refine comp_block (Has := Has) J W hsz ?_ ?_ ?_ hcell hkind ⟨⟨_, Heap.get?_push_size _ rfl, rfl, rfl⟩, hls.at fun o e => Heap.get?_push_of_some _ e⟩ (F.push _) (fun p hp => ⟨Heap.get?_push_of_some _ (N p hp).1, (N p hp).2⟩)
    (Nat.ne_of_lt F.ns.lt) (next_is_new F) (fresh_ne N) ?_ ?_ j0 ?_ (fin _)
  · rintro i h ⟨⟨o, ho, _⟩, _⟩; exact ⟨o, ho⟩
  · intro b hb
    rcases List.mem_cons.mp hb with e | hb
    · exact .inl e
    · exact .inr (.inr ⟨_, by rw [List.mem_singleton.mp hb]; exact hl⟩)
  · intro b hb
    show b < (s.heap.push _).objs.size
    rw [Heap.size_push]
    rcases List.mem_cons.mp hb with rfl | hb
    · exact Nat.lt_succ_self _
    · rw [List.mem_singleton.mp hb]; exact Nat.lt_succ_of_lt (Heap.lt_size hol)
  · rintro i s' v Q' ⟨⟨o, ho, hc, _⟩, _⟩ hq
    exact go_iter ho (.inl hc) hq
  · intro i v C m' s' Q' hP
    exact asg i v C m' s' Q' (by simpa using hP)
  · intro i v ys oI C oC D m₂ h tk hi hP
    exact turn _ i v ys _ oI C oC D m₂ h tk hi (by simpa using hP)
end
end Mine

namespace Mine
/-- a name holds this int -/
def HasI (m : Str → Option Value) (x : Str) (k : Int) : Prop := ∃ t, m x = some (.int k t)
theorem HasI.of {m : Str → Option Value} {x : Str} {k k' : Int} {t : Tok} (e : k = k') (h : m x = some (.int k t)) : HasI m x k' := ⟨t, e ▸ h⟩
section
variable {prog : Program} {w : World} {A : Around} {E : Value → Shared → Prop} {s : Shared} {h₀ : Heap} {L : Addr} {m : Str → Option Value}
/-- xs[:] = ys -/
theorem setItem_all {l sl D : Addr} {xs ys : Array Value} {n n' : Nat} {Q : Unit → Shared → Prop} (hl : s.heap.get? l = some (listOf xs n)) (hs : s.heap.IsSliceOf sl .none .none .none) (hD : s.heap.get? D = some (listOf ys n'))
    (hne : l ≠ D) (hx : xs.size ≤ 1000000) (hy : ys.size ≤ 1000000)
    (h : ∀ h' n₂, Heap.SameBut l s.heap h' → h'.get? l = some (listOf ys n₂) → Q () { s with heap := h' }) : wpAny (model prog w) A (setItem (.ref l) (.ref sl) (.ref D)) Q E s := by
  have hL : s.heap.IsList l xs := ⟨_, hl, rfl, n, rfl⟩
  obtain ⟨os, hos, hcs, hds⟩ := id hs
  have hTs : s.TypeIs (.ref sl) "slice" := ⟨os, hos, hcs⟩
  unfold setItem
  refine wpAny_holding ?_
  refine wpAny_bind (wpAny_sequenceKey hL.typeIs (by decide) ?_)
  refine wpAny_bind (wpAny_callSpecial?_slot (name := Str.ofString "__setitem__") hL.typeIs slot_list_setitem
    (wpAny_call_entry slot_list_setitem hL.typeIs entry_list_setitem ?_ (args_list_setitem _ _ _)))
  show wpAny _ _ (Builtin.List.listSubscript? (.ref sl) >>= _) _ _ s
  refine wpAny_bind ?_
  unfold Builtin.List.listSubscript?
  refine wpAny_bind (wpAny_specialOf hTs slice_no_index ?_)
  simp only [Option.isNone_none, if_true]
  refine wpAny_pure ?_
  show wpAny _ _ (typeOf (.ref sl) >>= _) _ _ s
  refine wpAny_bind (wpAny_typeOf hTs ?_)
  rw [if_neg (by decide)]
  rw [listSliceParts_eq]
  refine wpAny_bind (wpAny_bind (wpAny_field hos hds (x := .none) rfl (wpAny_bind (wpAny_listPart .none ?_))))
  rw [if_neg (by decide)]
  refine wpAny_bind (wpAny_field hos hds (x := .none) rfl (wpAny_bind (wpAny_listPart .none ?_)))
  refine wpAny_bind (wpAny_field hos hds (x := .none) rfl (wpAny_bind (wpAny_listPart .none (wpAny_pure ?_))))
  try dsimp only
  have hsame : Builtin.List.listSameRef (.ref l) (.ref D) = false := by simpa [Builtin.List.listSameRef] using hne
  rw [hsame]
  simp only [Bool.false_eq_true, if_false]
  refine wpAny_bind ?_
  unfold Builtin.List.listAllItems
  refine wpAny_bind (wpAny_typeOf (T := "list") ⟨_, hD, rfl⟩ ?_)
  rw [if_pos (by decide)]
  refine wpAny_bind (wpAny_seqItems hD rfl (wpAny_pure ?_))
  refine wpAny_bind (wpAny_listItems hl rfl ?_)
  refine wpAny_bind (wpAny_of_eq (sliceIndices_raw none none none xs.size (by simp)) ?_)
  have hb : sliceBounds none none none xs.size = (0, (xs.size : Int), 1) := rfl
  rw [hb]
  try dsimp only
  rw [if_pos (by decide)]
  refine wpAny_bind (wpAny_rule ?_)
  rw [if_neg (by simp [Builtin.List.listTooLong, sizeLine_eq]; omega)]
  have hf : ∀ zs : Array Value, zs = xs → zs.extract 0 (0 : Int).toNat ++ ys ++ zs.extract (max (0 : Int) (xs.size : Int)).toNat zs.size = ys := by
    rintro zs rfl
    have e1 : (max (0 : Int) (zs.size : Int)).toNat = zs.size := by omega
    rw [e1]
    simp
  show wpAny _ _ (updateSeq l _ >>= _) _ _ s
  refine wpAny_bind (wpAny_updateSeq hl rfl ?_ (by rw [sizeLine_eq]; omega) (by rw [hf xs rfl, sizeLine_eq]; omega))
  refine wpAny_bind (wpAny_letGo ?_)
  have upd : ∃ n₂, (s.heap.update l (Obj.mapSeq fun zs => zs.extract 0 (0 : Int).toNat ++ ys ++ zs.extract (max (0 : Int) (xs.size : Int)).toNat zs.size)).get? l = some (listOf ys n₂) := by
    refine ⟨if ys.size == xs.size then n else n + 1, (Heap.get?_update_self _ hl rfl).trans ?_⟩
    have e := hf xs rfl
    generalize hF : (fun zs : Array Value => zs.extract 0 (0 : Int).toNat ++ ys ++ zs.extract (max (0 : Int) (xs.size : Int)).toNat zs.size) = G
    have e' : G xs = ys := by rw [← hF]; exact e
    show some (⟨.type "list", none, .seq (G xs) (if (G xs).size == xs.size then n else n + 1), #[]⟩ : Obj) = _
    rw [e']
  obtain ⟨n₂, hn₂⟩ := upd
  exact wpAny_bind (wpAny_pure (wpAny_pure ⟨.none, rfl, wpAny_pure (h _ n₂ (Heap.SameBut.update ..) hn₂)⟩))
theorem setItem_allK {l D : Addr} {xs ys : Array Value} {n n' : Nat} {H : Heap} {rest : Led} {Q : Unit → Shared → Prop} (hH : s.heap = H.push { cls := .type "slice", data := .fields #[.none, .none, .none] })
    (F : Fr h₀ L H m) (N : News h₀ L H ((l, listOf xs n) :: rest)) (hD : (D, listOf ys n') ∈ rest) (hoff : ∀ p ∈ rest, p.1 ≠ l) (hx : xs.size ≤ 1000000) (hy : ys.size ≤ 1000000)
    (h : ∀ h' n₂, Fr h₀ L h' m → News h₀ L h' ((l, listOf ys n₂) :: rest) → Q () { s with heap := h' }) : wpAny (model prog w) A (setItem (.ref l) (.ref H.objs.size) (.ref D)) Q E s := by
  have zl := N _ (.head _)
  have zD := N _ (.tail _ hD)
  have F₁ : Fr h₀ L s.heap m := by rw [hH]; exact F.push _
  have N₁ : News h₀ L s.heap ((l, listOf xs n) :: rest) := by
    intro p hp
    rw [hH]
    exact ⟨Heap.get?_push_of_some _ (N p hp).1, (N p hp).2⟩
  refine setItem_all (N₁ _ (.head _)).1 (by rw [hH]; exact Heap.IsSliceOf.new H _ _ _) (N₁ _ (.tail _ hD)).1 (fun e => hoff _ hD e.symm) hx hy fun h' n₂ hs e => ?_
  refine h h' n₂ (F₁.change hs zl.2.1 zl.2.2) fun p hp => ?_
  rcases List.mem_cons.mp hp with rfl | hp
  · exact ⟨e, zl.2⟩
  · exact ⟨hs.extBut _ _ (hoff p hp) (N₁ _ (.tail _ hp)).1, (N₁ _ (.tail _ hp)).2⟩
theorem sub_led {value slice : Expr} {l : Addr} {vs : List Value} {nn : Nat} {led : Led} {k : Int} {u : Tok} {v : Value} {Q : Value → Shared → Prop} (N : News h₀ L s.heap led) (hm : (l, listOf vs.toArray nn) ∈ led) (h0 : 0 ≤ k) (hhi : k < 2 ^ 63) (hx : vs[k.toNat]? = some v) (h : Q v s)
    (hs : subscripted slice false (.ref l) (.int k u) = operate [.ref l, .int k u] (getItem (.ref l) (.int k u)) := by with_unfolding_all rfl) :
    wpAny (model prog w) A (subscriptTail value slice (.ref l) (.int k u)) Q E s :=
  have hl : s.heap.IsList l vs.toArray := ⟨_, (N _ hm).1, rfl, nn, rfl⟩
  tail_any hl.typeIs slot_list_getitem.lookup (wpAny_getItem_list hl h0 hhi (by simpa using hx) h) hs
/-- a list of the ledger turned in its place -/
theorem mapSeq_led {H : Heap} {l : Addr} {xs ys : Array Value} {n : Nat} {rest : Led} {f : Array Value → Array Value} (F : Fr h₀ L H m) (N : News h₀ L H ((l, listOf xs n) :: rest)) (hoff : ∀ p ∈ rest, p.1 ≠ l) (e : f xs = ys) :
    Fr h₀ L (H.update l (Obj.mapSeq f)) m ∧ ∃ n', News h₀ L (H.update l (Obj.mapSeq f)) ((l, listOf ys n') :: rest) := by
  have zl := N _ (.head _)
  have hs : Heap.SameBut l H (H.update l (Obj.mapSeq f)) := Heap.SameBut.update ..
  have hg : (H.update l (Obj.mapSeq f)).get? l = some (listOf ys (if ys.size == xs.size then n else n + 1)) := by
    refine (Heap.get?_update_self _ zl.1 rfl).trans ?_
    show some (⟨.type "list", none, .seq (f xs) (if (f xs).size == xs.size then n else n + 1), #[]⟩ : Obj) = _
    rw [e]
  refine ⟨F.change hs zl.2.1 zl.2.2, if ys.size == xs.size then n else n + 1, fun p hp => ?_⟩
  rcases List.mem_cons.mp hp with rfl | hp
  · exact ⟨hg, zl.2⟩
  · exact ⟨hs.extBut _ _ (hoff p hp) (N p (.tail _ hp)).1, (N p (.tail _ hp)).2⟩
theorem extract_cut {α : Type} (vs : List α) (p : Nat) (v : α) (hp : p ≤ vs.length) : (vs.toArray.extract 0 p).push v ++ vs.toArray.extract p = (vs.take p ++ v :: vs.drop p).toArray := by
  apply Array.ext'
  simp [List.take_of_length_le]
theorem insert_led {l : Addr} {vs : List Value} {nn p : Nat} {t : Tok} {v : Value} {rest : Led} {Q : Value → Shared → Prop} (F : Fr h₀ L s.heap m) (N : News h₀ L s.heap ((l, listOf vs.toArray nn) :: rest)) (hp : p ≤ vs.length) (hsz : vs.length ≤ 1000000) (hoff : ∀ p ∈ rest, p.1 ≠ l)
    (h : ∀ h' nn', Fr h₀ L h' m → News h₀ L h' ((l, listOf (vs.take p ++ v :: vs.drop p).toArray nn') :: rest) → Q .none { s with heap := h' }) :
    wpAny (model prog w) A (call (.builtin "list.insert") [.ref l, .int (p : Int) t, v]) Q E s := by
  refine kl_insert (its := vs.toArray) (n := nn) (l := vs.take p ++ v :: vs.drop p) F N (fitsIndex_of (by omega) (by omega)) ?_ (.head hoff) (by show vs.length ≤ sizeLine; rw [sizeLine_eq]; omega) fun h' F' N' => h h' _ F' N'
  unfold kl_ins
  have e1 : ¬ (p : Int) < 0 := by omega
  simp [e1, Nat.min_eq_left hp]
end
end Mine

namespace Mine
/-! two triples of ints compared by < -/
abbrev Trip := Int × Int × Int
abbrev tripObj (a : Trip) (t1 t2 t3 : Tok) (n : Nat) : Obj := { cls := .type "tuple", data := .seq #[.int a.1 t1, .int a.2.1 t2, .int a.2.2 t3] n }
def tlt (x y : Trip) : Bool := if x.1 == y.1 then (if x.2.1 == y.2.1 then (if x.2.2 == y.2.2 then false else decide (x.2.2 < y.2.2)) else decide (x.2.1 < y.2.1)) else decide (x.1 < y.1)
theorem tlt_iff (x y : Trip) : tlt x y = true ↔ (x.1 < y.1 ∨ (x.1 = y.1 ∧ (x.2.1 < y.2.1 ∨ (x.2.1 = y.2.1 ∧ x.2.2 < y.2.2)))) := by
  unfold tlt
  by_cases h1 : x.1 = y.1 <;> by_cases h2 : x.2.1 = y.2.1 <;> by_cases h3 : x.2.2 = y.2.2 <;> simp [h1, h2, h3] <;> omega
theorem tlt_trans' {x y z : Trip} (h1 : tlt x y = true) (h2 : tlt z y = false) : tlt x z = true := by
  have h2' : ¬ tlt z y = true := by simp [h2]
  rw [tlt_iff] at h1 h2' ⊢
  omega
theorem tlt_trans'' {x y z : Trip} (h1 : tlt x y = false) (h2 : tlt y z = false) : tlt x z = false := by
  have h1' : ¬ tlt x y = true := by simp [h1]
  have h2' : ¬ tlt y z = true := by simp [h2]
  have : ¬ tlt x z = true := by
    rw [tlt_iff] at h1' h2' ⊢
    omega
  simpa using this
/-- a row of triples in order -/
abbrev Rowed (bs : List Trip) : Prop := bs.Pairwise fun y z => tlt z y = false
theorem tlt_drop {x : Trip} {bs : List Trip} (hs : Rowed bs) {i : Nat} (hi : i < bs.length) (h : tlt x bs[i] = true) : ∀ y ∈ bs.drop i, tlt x y = true := by
  intro y hy
  obtain ⟨j, hj, rfl⟩ := List.mem_iff_getElem.mp hy
  rw [List.getElem_drop]
  by_cases h0 : j = 0
  · subst h0; simpa using h
  · rw [List.length_drop] at hj
    exact tlt_trans' h (List.pairwise_iff_getElem.mp hs i (i + j) hi (by omega) (by omega))
theorem tlt_take {x : Trip} {bs : List Trip} (hs : Rowed bs) {i : Nat} (hi : i < bs.length) (h : tlt x bs[i] = false) : ∀ y ∈ bs.take (i + 1), tlt x y = false := by
  intro y hy
  obtain ⟨j, hj, rfl⟩ := List.mem_iff_getElem.mp hy
  rw [List.length_take] at hj
  rw [List.getElem_take]
  by_cases h0 : j = i
  · subst h0; exact h
  · exact tlt_trans'' h (List.pairwise_iff_getElem.mp hs j i (by omega) hi (by omega))
open Builtin Builtin.Tuple in
def ltBody (a b : Value) : Sem PySem.Fin := do
  if !(← isInstance b (.type "tuple")) then return ← ret .notImplemented
  let xs ← tupleItemsOf a
  let ys ← tupleItemsOf b
  for (x, y) in xs.toList.zip ys.toList do
    if !(← eqBool x y) then
      rule "tuple.compare.by-the-first-pair-that-differs"; return ← ret (← richCompare .Lt x y)
  ret (tupleCompareSizes .Lt xs.size ys.size)
theorem lt_body (a b : Value) : Builtin.«tuple.__lt__» ⟨[a, b], []⟩ = ltBody a b := by rfl
section
variable {prog : Program} {w : World} {A : Around} {E : Value → Shared → Prop} {s : Shared}
theorem lt_one {α : Type} {i j : Int} {t u : Tok} {f : Bool → Sem α} {Q : α → Shared → Prop} (h1 : i = j → wpAny (model prog w) A (f true) Q E s) (h2 : i ≠ j → wpAny (model prog w) A (f false) Q E s) :
    wpAny (model prog w) A (eqBool (.int i t) (.int j u) >>= f) Q E s := by
  refine wpAny_bind (wpAny_eqBool_int ?_)
  by_cases h : i = j
  · rw [show (i == j) = true by simpa using h]; exact h1 h
  · rw [show (i == j) = false by simpa using h]; exact h2 h
theorem trip_lt {p q : Addr} {x y : Trip} {t1 t2 t3 u1 u2 u3 : Tok} {n k : Nat} {Q : Value → Shared → Prop} (hx : s.heap.get? p = some (tripObj x t1 t2 t3 n)) (hy : s.heap.get? q = some (tripObj y u1 u2 u3 k)) (hu : A.units < cLine)
    (h : Q (.bool (tlt x y)) s) : wpAny (model prog w) A (compareOp .Lt (.ref p) (.ref q)) Q E s := by
  refine cmp_ofLt ?_
  refine richCompare_meets_room (S := fun _ R s => s.heap.get? p = some (tripObj x t1 t2 t3 n) ∧ s.heap.get? q = some (tripObj y u1 u2 u3 k) ∧ R (.ok (.ret (.bool (tlt x y)))) s) (T := "tuple")
    ⟨_, hx, rfl⟩ ⟨_, hy, rfl⟩ PySem.F.slot_tuple_lt PySem.F.entry_tuple_lt (PySem.F.args_tuple_lt_2 _ _) ?_ ⟨hx, hy, by simp, h⟩ hu
  intro prog w A R s ⟨hx, hy, hR⟩
  rw [lt_body]
  unfold ltBody
  refine wpAny_bind (wpAny_isInstance (T := "tuple") ⟨_, hy, rfl⟩ (b := true) (by rw [isSubtype_type]; kernel_rfl) ?_)
  rw [if_neg (by decide)]
  refine wpAny_bind (wpAny_tupleItemsOf hx rfl ?_)
  refine wpAny_bind (wpAny_tupleItemsOf hy rfl ?_)
  have cmp : ∀ (i j : Int) (t u : Tok) (Q' : Value → Shared → Prop) (E' : Value → Shared → Prop), Q' (.bool (decide (i < j))) s → wpAny (model prog w) A.in1 (richCompare .Lt (.int i t) (.int j u)) Q' E' s := fun i j t u Q' E' hq => PyProof.Rows.lt_int hq
  refine wpAny_bind ?_
  simp only [List.zip_cons_cons, List.zip_nil_right, List.forIn_cons, List.forIn_nil]
  obtain ⟨x1, x2, x3⟩ := x
  obtain ⟨y1, y2, y3⟩ := y
  dsimp only
  have last : ∀ b : Bool, b = tlt (x1, x2, x3) (y1, y2, y3) → R (.ok (.ret (.bool b))) s := fun b e => by rw [e]; exact hR
  refine wpAny_bind (lt_one (fun h1 => ?_) (fun h1 => ?_))
  · refine wpAny_pure (wpAny_bind (lt_one (fun h2 => ?_) (fun h2 => ?_)))
    · refine wpAny_pure (wpAny_bind (lt_one (fun h3 => ?_) (fun h3 => ?_)))
      · refine wpAny_pure (wpAny_pure (wpAny_pure ?_))
        exact last false (by simp [tlt, h1, h2, h3])
      · rw [if_pos (by decide)]
        refine wpAny_bind (wpAny_rule (wpAny_bind (cmp _ _ _ _ _ _ ?_)))
        refine wpAny_bind (wpAny_pure (wpAny_pure (wpAny_pure (wpAny_pure ?_))))
        exact last _ (by simp [tlt, h1, h2, h3])
    · rw [if_pos (by decide)]
      refine wpAny_bind (wpAny_rule (wpAny_bind (cmp _ _ _ _ _ _ ?_)))
      refine wpAny_bind (wpAny_pure (wpAny_pure (wpAny_pure (wpAny_pure ?_))))
      exact last _ (by simp [tlt, h1, h2])
  · rw [if_pos (by decide)]
    refine wpAny_bind (wpAny_rule (wpAny_bind (cmp _ _ _ _ _ _ ?_)))
    refine wpAny_bind (wpAny_pure (wpAny_pure (wpAny_pure (wpAny_pure ?_))))
    exact last _ (by simp [tlt, h1])
end
end Mine

namespace Mine
/-! a walk around which no code stands that holds a bytearray -/
def holdIds : List String := Builtin.Bytes.decodersThatHold ++ ["bytearray.__contains__", "bytearray.__mod__", "bytearray.__rmod__", "_struct.pack_into.held", "bytearray.find.held"]
def clearCode : Code → Bool
  | .builtin id _ => !holdIds.contains id
  | _ => true
def Clr (Γ : PySem.Ctx) : Prop := clearCode Γ.code = true ∧ ∀ x ∈ Γ.below, clearCode x.1 = true
def wpS {α : Type} (M : Model) (A : Around) (t : Sem α) (Q : α → Shared → Prop) (E : Value → Shared → Prop) (s : Shared) : Prop :=
  ∀ Γ p, Γ.In A → Clr Γ → Sem.wp M Γ t (fun a _ s' => Q a s') (fun e _ s' => E e s') p s
def codeS (M : Model) (A : Around) (c : Code) (R : Result → Shared → Prop) (s : Shared) : Prop :=
  ∀ Γ p, Γ.code = c → Γ.Below A → (∀ x ∈ Γ.below, clearCode x.1 = true) → wpCode M Γ R p s
section
variable {α β : Type} {M : Model} {A : Around} {E : Value → Shared → Prop} {s : Shared}
theorem wpS_of {t : Sem α} {Q : α → Shared → Prop} (h : wpAny M A t Q E s) : wpS M A t Q E s := fun Γ p hi _ => h Γ p hi
theorem wpS_mono {t : Sem α} {Q Q' : α → Shared → Prop} {E' : Value → Shared → Prop} (h : wpS M A t Q E s) (hQ : ∀ a s, Q a s → Q' a s) (hE : ∀ e s, E e s → E' e s) : wpS M A t Q' E' s :=
  fun Γ p hi hc => Sem.wp_mono M Γ t (fun a _ s => hQ a s) (fun e _ s => hE e s) p s (h Γ p hi hc)
theorem wpS_bind {m : Sem α} {f : α → Sem β} {Q : β → Shared → Prop} (h : wpS M A m (fun a s' => wpS M A (f a) Q E s') E s) : wpS M A (m >>= f) Q E s := fun Γ p hi hc => by
  rw [Sem.wp_bind']
  exact Sem.wp_mono M Γ m (fun a p' s' h' => h' Γ p' hi hc) (fun _ _ _ h' => h') p s (h Γ p hi hc)
/-- the first part does not ask what stands around it -/
theorem wpS_step {m : Sem α} {f : α → Sem β} {Q : β → Shared → Prop} (h : wpAny M A m (fun a s' => wpS M A (f a) Q E s') E s) : wpS M A (m >>= f) Q E s := wpS_bind (wpS_of h)
theorem wpS_pure {a : α} {Q : α → Shared → Prop} (h : Q a s) : wpS M A (pure a) Q E s := fun _ _ _ _ => h
theorem wpS_holding {vs : List Value} {m : Sem α} {Q : α → Shared → Prop} (h : wpS M A m Q E s) : wpS M A (holding vs m) Q E s :=
  fun Γ p hi hc => by rw [Sem.wp_holding]; exact h Γ p hi hc
theorem wpS_onRaise {m : Sem α} {k : Value → Sem Unit} {Q : α → Shared → Prop} (h : wpS M A m Q (fun e s' => wpS M A (k e) (fun _ s'' => E e s'') E s') s) : wpS M A (m.onRaise k) Q E s := fun Γ p hi hc => by
  rw [Sem.wp_onRaise]
  exact Sem.wp_mono M Γ m (fun _ _ _ h' => h') (fun e p' s' h' => h' Γ p' hi hc) p s (h Γ p hi hc)
theorem wpS_calm {m : Sem α} {k : Value → Sem Unit} {Q : α → Shared → Prop} (h : wpS M A m Q nah s) : wpS M A (m.onRaise k) Q E s := wpS_onRaise (wpS_mono h (fun _ _ x => x) fun _ _ x => x.elim)
theorem wpS_nah {m : Sem α} {Q : α → Shared → Prop} (h : wpS M A m Q nah s) : wpS M A m Q E s := wpS_mono h (fun _ _ x => x) fun _ _ x => x.elim
theorem wpS_cast {a b : Sem α} {Q : α → Shared → Prop} (e : a = b) (h : wpS M A b Q E s) : wpS M A a Q E s := e ▸ h
theorem wpS_ite_true {α : Type} {c : Prop} [Decidable c] {a b : Sem α} {Q : α → Shared → Prop} (hc : decide c = true) (h : wpS M A a Q E s) : wpS M A (if c then a else b) Q E s := by rw [if_pos (of_decide_eq_true hc)]; exact h
theorem wpS_ite_false {α : Type} {c : Prop} [Decidable c] {a b : Sem α} {Q : α → Shared → Prop} (hc : decide c = false) (h : wpS M A b Q E s) : wpS M A (if c then a else b) Q E s := by rw [if_neg (of_decide_eq_false hc)]; exact h
theorem codeS_of {c : Code} {R : Result → Shared → Prop} (h : codeAny M A c R s) : codeS M A c R s := fun Γ p hc hi _ => h Γ p hc hi
theorem codeS_mono {c : Code} {R R' : Result → Shared → Prop} (h : codeS M A c R s) (hR : ∀ r s, R r s → R' r s) : codeS M A c R' s := fun Γ p hc hi hb => wpCode_mono hR (h Γ p hc hi hb)
theorem codeS_tree {c : Code} {R : Result → Shared → Prop} (hcl : clearCode c = true)
    (h : wpS M (A.under c) (M.den c) (fun fin s' => match fin with | .done f => R (.ok f) s' | .again c' => c'.quiet = true ∧ codeS M A c' R s') (fun e s' => R (.error e) s') s) : codeS M A c R s := fun Γ p hc hi hb => by
  rw [wpCode_iff_wp, hc]
  refine Sem.wp_mono M Γ _ (fun fin p' s' h' => ?_) (fun _ _ _ h' => h') p s (h Γ p (hc ▸ hi.in) ⟨hc ▸ hcl, hb⟩)
  cases fin with
  | done f => exact h'
  | again c' => exact ⟨h'.1, h'.2 (Γ.goto c') p' rfl (hi.goto c') hb⟩
theorem wpS_runValue {c : Code} {Q : Value → Shared → Prop} (h : codeS M A c (fun r s' => match r with | .ok (.ret v) => Q v s' | .ok _ => False | .error e => E e s') s) : wpS M A (runValue c) Q E s := fun Γ p hi hc => by
  rw [Sem.wp_runValue]
  refine h _ p rfl (hi.enter c none p (by intro x; cases x)) fun x hx => ?_
  rcases List.mem_cons.mp hx with rfl | hx
  · exact hc.1
  · exact hc.2 x hx
theorem wpS_call {f : Value} {pos : List Value} {kw : List (Str × Value)} {Q : Value → Shared → Prop} (h : codeS M A (.call f ⟨pos, kw⟩) (fun r s' => match r with | .ok (.ret v) => Q v s' | .ok _ => False | .error e => E e s') s) : wpS M A (call f pos kw) Q E s := wpS_runValue h
theorem held_dec {i : String} (h : (!holdIds.contains i) = true) : Builtin.Bytes.decodersThatHold.contains i = false := by
  cases q : Builtin.Bytes.decodersThatHold.contains i with
  | false => rfl
  | true =>
    have : holdIds.contains i = true := by
      unfold holdIds
      rw [List.contains_iff_mem] at q ⊢
      exact List.mem_append_left _ q
    rw [this] at h; cases h
theorem q_any {α : Type} {f : α → Bool} {l : List α} {Q : Bool → Prop} (h : ∀ x ∈ l, ¬ f x = true) (hq : Q false) : Q (l.any f) := by rw [List.any_eq_false.mpr h]; exact hq
theorem wpS_exported {self : Value} {Q : Bool → Shared → Prop} (h : Q false s) : wpS M A (Builtin.Bytes.exported self) Q E s := fun Γ p _ hcl => by
  unfold Builtin.Bytes.exported
  rw [Sem.wp_bind']
  unfold stack
  rw [Sem.wp_stack]
  refine q_any (Q := fun b => Q b s) (fun x hx => ?_) h
  have hc : clearCode x.1 = true := by
    rcases List.mem_cons.mp hx with rfl | hx
    · exact hcl.1
    · exact hcl.2 x hx
  obtain ⟨c, p⟩ := x
  split <;> (try (rename_i e; cases e; simp [clearCode, holdIds] at hc; done))
  · rename_i e
    cases e
    rw [held_dec hc, Bool.and_false]; exact Bool.false_ne_true
  · exact Bool.false_ne_true
end
end Mine

namespace Mine
/-! bytearray(n): a row of noughts, where no code stands around that holds one -/
theorem slot_bya : Slot "bytearray" "__init__" "bytearray.__init__" :=
  .of (owner := "bytearray") (n := "__init__") (by rw [typeLookup_type, builtinLookup_eq_fast]; kernel_rfl) (by decide +kernel) (by decide +kernel) (by decide +kernel)
    (by first | exact .inl (by decide +kernel) | exact .inr (by decide +kernel)) (by rw [isSubtype_type]; kernel_rfl)
theorem mro_bya : mroOf (.type "bytearray") = pure [.type "bytearray", .type "object"] := by rw [mroOf_type]; kernel_rfl
theorem new_bya : typeLookup (.type "bytearray") "__new__" = pure (some (.builtin "bytearray.__new__")) := by rw [typeLookup_type, builtinLookup_eq_fast]; kernel_rfl
theorem called_bya : TypeCalled "bytearray" "bytearray.__new__" "bytearray.__init__" :=
  ⟨by decide +kernel, by decide +kernel, ⟨_, _, mro_bya⟩, madeBy_type mro_bya new_bya (by decide +kernel), by decide +kernel, by rw [isSubtype_type]; kernel_rfl, slot_bya⟩
theorem typeCall_bya (a : Value) : checkTypeCall "bytearray" ⟨[a], []⟩ = pure () := by kernel_rfl
theorem newCall_bya (a : Value) : checkBuiltinCall "bytearray.__new__" ⟨[.type "bytearray", a], []⟩ = pure () := by kernel_rfl
theorem entryN_bya : entryFor table "bytearray.__new__" = some Builtin.«list.__new__» :=
  entryFor_alias (id' := "list.__new__") (by rw [fastTable_eq_tree]; kernel_rfl) (by kernel_rfl) (by decide +kernel) (by rw [fastTable_eq_tree]; kernel_rfl)
theorem entryI_bya : entryFor table "bytearray.__init__" = some Builtin.«bytearray.__init__» := entryFor_of_tree (by kernel_rfl)
theorem plainN_bya : plainId "bytearray.__new__" = true := by decide +kernel
theorem plainI_bya : plainId "bytearray.__init__" = true := by decide +kernel
theorem sub_bya : isSubtype (.type "bytearray") (.type "bytearray") = pure true := by rw [isSubtype_type]; kernel_rfl
set_option maxRecDepth 1000000 in
set_option maxHeartbeats 4000000 in
theorem owner_bya : ("bytearray.__new__".splitOn ".__new__").headD "" = "bytearray" := by simp +decide [String.splitOn, String.splitOnAux]
set_option maxRecDepth 1000000 in
set_option maxHeartbeats 4000000 in
theorem ownerI_bya : ("bytearray.__init__".splitOn ".__init__").headD "" = "bytearray" := by simp +decide [String.splitOn, String.splitOnAux]
abbrev byaObj (b : Array UInt8) : Obj := { cls := .type "bytearray", data := .bytearray b }
section
variable {prog : Program} {w : World} {A : Around} {E : Value → Shared → Prop} {s : Shared}
theorem code_bya_new (a : Value) {Q₁ : Value → Shared → Prop} (h : Q₁ (.ref s.heap.objs.size) { s with heap := s.heap.push (byaObj #[]) }) :
    codeAny (model prog w) A (.call (.builtin "bytearray.__new__") ⟨[.type "bytearray", a], []⟩) (wants Q₁ E) s := by
  refine codeAny_of_tree ?_
  show wpAny _ A.in1 (do checkBuiltinCall "bytearray.__new__" ⟨[.type "bytearray", a], []⟩; again (.builtin "bytearray.__new__" ⟨[.type "bytearray", a], []⟩)) _ _ s
  refine wpAny_bind (wpAny_of_eq (newCall_bya a) (wpAny_pure ⟨plainId_quiet plainN_bya _, codeAny_builtin_stack entryN_bya rfl fun p st => ?_⟩))
  rw [Around.under_plainId plainN_bya _]
  have hsub := sub_bya
  have hown := owner_bya
  obtain ⟨hp, g, d, tk, os⟩ := s
  simp only [hown]
  wp_walk
  exact h
theorem ownr_bya : Manifest.owners.lookup (String.ofList ['y', 'a', 'r', 'r', 'a', 'e', 't', 'y', 'b'].reverse) = some Manifest.sig_bytearray := by kernel_rfl
theorem args_bya (a b : Value) : argsOk "bytearray.__init__" ⟨[a, b], []⟩ := by
  unfold argsOk; rw [signature?_of (id := "bytearray.__init__") (n := ['_', '_', 't', 'i', 'n', 'i', '_', '_']) (o := ['y', 'a', 'r', 'r', 'a', 'e', 't', 'y', 'b']) (by kernel_rfl) ownr_bya]; kernel_rfl
theorem codeS_builtin {id : String} {args : Args} {b : Builtin} {R : Result → Shared → Prop} (hcl : clearCode (.builtin id args) = true) (hb : entryFor table id = some b)
    (h : wpS (model prog w) (A.under (.builtin id args)) (b args) (fun fin s' => match fin with | .done f => R (.ok f) s' | .again c' => c'.quiet = true ∧ codeS (model prog w) A c' R s') (fun e s' => R (.error e) s') s) :
    codeS (model prog w) A (.builtin id args) R s := by
  refine codeS_tree hcl ?_
  show wpS _ _ (match entryFor table id with | some b => b args | none => unsupported ((withoutEnding? id "#data").getD id)) _ _ s
  rw [hb]; exact h
theorem codeS_callBuiltin {id : String} {args : Args} {b : Builtin} {R : Result → Shared → Prop} (hq : plainId id = true) (hcl : clearCode (.builtin id args) = true) (hb : entryFor table id = some b)
    (h : wpAny (model prog w) A.in1 (checkBuiltinCall id args) (fun _ s₁ => wpS (model prog w) A.in1 (b args)
      (fun fin s' => match fin with | .done f => R (.ok f) s' | .again c' => c'.quiet = true ∧ codeS (model prog w) A c' R s') (fun e s' => R (.error e) s') s₁) (fun e s' => R (.error e) s') s) :
    codeS (model prog w) A (.call (.builtin id) args) R s := by
  refine codeS_tree rfl ?_
  show wpS _ A.in1 (do checkBuiltinCall id args; again (.builtin id args)) _ _ s
  refine wpS_step (wpAny_mono h (fun _ s₁ h₁ => wpS_pure ⟨plainId_quiet hq args, codeS_builtin hcl hb ?_⟩) fun _ _ x => x)
  rw [Around.under_plainId hq args]; exact h₁
theorem rel_bya : typeLookup (.type "bytearray") "__release_buffer__" = pure (some (.builtin "bytearray.__release_buffer__")) := by rw [typeLookup_type, builtinLookup_eq_fast]; kernel_rfl
theorem relE_bya : "bytearray.__release_buffer__".endsWith ("." ++ "__release_buffer__") = true := by decide +kernel
theorem relD_bya : "bytearray.__release_buffer__".dropRight ("__release_buffer__".length + 1) = "bytearray" := by decide +kernel
theorem own_bya {a : Addr} {b : Array UInt8} {k : Nat} {dd : Option Addr} {sl : Array (Option Value)} {Q : Bool → Shared → Prop} (ha : s.heap.get? a = some { cls := .type "bytearray", dict := dd, data := .bytearray b k, slots := sl }) (h : Q false s) :
    wpAny (model prog w) A (Builtin.Bytes.ownRelease (.ref a)) Q E s := by
  have h1 := rel_bya
  have h2 := relE_bya
  have h3 := relD_bya
  have h4 := sub_bya
  unfold Builtin.Bytes.ownRelease Builtin.Bytes.slotIsOwn
  wp_walk
  rw [h2]
  simp only [Bool.not_true, Bool.false_eq_true, if_false]
  rw [h3]
  wp_walk
  exact h
theorem upd_bya {a : Addr} {b : Array UInt8} {k : Nat} {dd : Option Addr} {sl : Array (Option Value)} {f : Array UInt8 → Array UInt8} {Q : Unit → Shared → Prop} (ha : s.heap.get? a = some { cls := .type "bytearray", dict := dd, data := .bytearray b k, slots := sl })
    (hf : (f b).size ≤ sizeLine) (h : Q () { s with heap := s.heap.update a (Obj.mapBytearray f) }) : wpAny (model prog w) A (Builtin.Bytes.write (.ref a) f) Q E s := by
  unfold Builtin.Bytes.write updateBytearray
  refine wpAny_bind (wpAny_load ha ?_)
  dsimp only
  refine wpAny_bind (wpAny_update ha ?_)
  refine wpAny_lookBehind (Heap.get?_update_self (Obj.mapBytearray f) ha rfl) ?_ h
  show (if (f b).size > sizeLine then some "bytearray:memory" else none) = none
  exact if_neg (Nat.not_lt.mpr hf)
theorem opt_bya (v : Value) : Builtin.Bytes.bindOptional "bytearray.__init__" "bytearray" ["source", "encoding", "errors"] [v] [] = pure [some v, none, none] := by rfl
theorem str_bya (i : Int) (t : Tok) : asStr? (.int i t) = pure none := by rfl
theorem asIdx_bya (i : Int) (t : Tok) : asIndex (.int i t) = pure i := by rfl
theorem idx_bya : typeLookup (.type "int") "__index__" = pure (some (.builtin "int.__index__")) := by rw [typeLookup_type, builtinLookup_eq_fast]; kernel_rfl
theorem init_bya {a : Addr} {n : Nat} {t : Tok} {Q : Fin → Shared → Prop} (hn : n ≤ 1000) (h0 : 0 < n) (ha : s.heap.get? a = some { cls := .type "bytearray", data := .bytearray #[] })
    (h : ∀ h', h'.get? a = some (byaObj (Array.replicate n 0)) → (∀ b o, b ≠ a → s.heap.get? b = some o → h'.get? b = some o) → Q (.done (.ret .none)) { s with heap := h' }) :
    wpS (model prog w) A (Builtin.«bytearray.__init__» ⟨[.ref a, .int n t], []⟩) Q E s := by
  unfold Builtin.«bytearray.__init__»
  dsimp only
  refine wpS_step (own_bya ha ?_)
  rw [if_neg Bool.false_ne_true]
  refine wpS_step (wpAny_of_eq (opt_bya _) ?_)
  dsimp only
  refine wpS_step (wpAny_pure ?_)
  refine wpS_step (wpAny_pure ?_)
  refine wpS_bind (wpS_bind (wpS_exported ?_))
  refine wpS_of ?_
  wp_walk
  refine wpS_step ?_
  refine upd_bya ha (Nat.zero_le _) ?_
  have ha' := Heap.get?_update_self (Obj.mapBytearray fun _ => (#[] : Array UInt8)) ha rfl
  refine wpS_of ?_
  wp_step
  have e1 := str_bya n t
  have e2 := idx_bya
  have e3 := asIdx_bya n t
  wp_step
  with_reducible refine wpAny_ite_false ?hc ?_
  case hc => exact rfl
  have e4 := typeIs_int { s with heap := s.heap.update a (Obj.mapBytearray fun _ => (#[] : Array UInt8)) } n t
  with_reducible refine wpAny_bind ?_
  with_reducible refine wpAny_ite_false ?hc ?_
  case hc => exact rfl
  with_reducible refine wpAny_ite_false ?hc ?_
  case hc => exact rfl
  with_reducible refine wpAny_pure ?_
  with_reducible refine wpAny_bind ?_
  with_reducible refine wpAny_specialOf e4 e2 ?_
  with_reducible refine wpAny_ite_true ?hc ?_
  case hc => exact rfl
  with_reducible refine wpAny_bind ?_
  with_reducible refine wpAny_attempt ?_
  with_reducible refine wpAny_of_eq e3 ?_
  dsimp only
  have h1 : (!Builtin.Bytes.fitsIndex (n : Int)) = false := by
    unfold Builtin.Bytes.fitsIndex
    simp; omega
  have h2 : ¬ ((n : Int) < 0) := by omega
  have h3 : ¬ (((n : Int) == 2 ^ 63 - 1) = true) := by simp; omega
  have h4 : ¬ (Builtin.Bytes.tooLong (n : Int).toNat = true) := by
    unfold Builtin.Bytes.tooLong
    simp [sizeLine]; omega
  with_reducible refine wpAny_ite_false ?hc ?_
  case hc => exact (decide_eq_false (by rw [h1]; exact Bool.false_ne_true))
  with_reducible refine wpAny_ite_false ?hc ?_
  case hc => exact (decide_eq_false h2)
  with_reducible refine wpAny_ite_false ?hc ?_
  case hc => exact (decide_eq_false h3)
  with_reducible refine wpAny_ite_false ?hc ?_
  case hc => exact (decide_eq_false h4)
  with_reducible refine wpAny_bind ?_
  with_reducible refine wpAny_rule ?_
  with_reducible refine wpAny_ite_true ?hc ?_
  case hc => exact decide_eq_true (by omega)
  refine wpAny_bind (upd_bya ha' (by simp [sizeLine]; omega) ?_)
  refine wpAny_pure (h _ ?_ fun b o hb e => ?_)
  · rw [Heap.get?_update_self (Obj.mapBytearray fun _ => Array.replicate (n : Int).toNat (0 : UInt8)) ha' rfl]
    rfl
  · exact (Heap.get?_update_other _ _ (Ne.symm hb)).trans ((Heap.get?_update_other _ _ (Ne.symm hb)).trans e)
theorem call_bya {n : Nat} {t : Tok} {Q : Value → Shared → Prop} (hn : n ≤ 1000) (h0 : 0 < n)
    (h : ∀ h', h'.get? s.heap.objs.size = some (byaObj (Array.replicate n 0)) → (∀ b o, s.heap.get? b = some o → h'.get? b = some o) → Q (.ref s.heap.objs.size) { s with heap := h' }) :
    wpS (model prog w) A (call (.type "bytearray") [.int n t]) Q E s := by
  obtain ⟨c, tl, hmro⟩ := called_bya.mro
  have hmade := called_bya.made
  have hsub := called_bya.sub
  have h1 := called_bya.notType
  have h2 := called_bya.canCreate
  have hct := typeCall_bya (.int n t)
  refine wpS_call (codeS_tree rfl ?_)
  show wpS _ _ (callAny (.type "bytearray") _) _ _ _
  refine wpS_pure ⟨Code.quiet_builtin _ (by decide +kernel), codeS_builtin rfl F.entry_type_call ?_⟩
  rw [Around.under_plain (weight_type_call_type "bytearray" [.int n t] []) rfl]
  unfold Builtin.«type.__call__»
  dsimp only
  with_reducible refine wpS_ite_false ?hc ?_
  case hc => rw [h1]; exact rfl
  with_reducible refine wpS_ite_false ?hc ?_
  case hc => exact decide_eq_false (by rw [h2]; exact Bool.false_ne_true)
  with_reducible refine wpS_step ?_
  with_reducible refine wpAny_of_eq hct ?_
  with_reducible refine wpS_step ?_
  with_reducible refine wpAny_of_eq hmro ?_
  with_reducible refine wpS_ite_false ?hc ?_
  case hc => exact rfl
  with_reducible refine wpS_step ?_
  with_reducible refine wpAny_of_eq hmade ?_
  dsimp only
  with_reducible refine wpS_step ?_
  with_reducible refine wpAny_pure ?_
  with_reducible refine wpS_step ?_
  with_reducible refine wpAny_holding ?_
  with_reducible refine wpAny_call ?_
  refine codeAny_mono (code_bya_new (Q₁ := fun v s' => v = .ref s.heap.objs.size ∧ s' = { s with heap := s.heap.push (byaObj #[]) }) (E := fun _ _ => False) (.int n t) ⟨rfl, rfl⟩) fun r s₁ hr => ?_
  cases r with
  | error e => exact hr.elim
  | ok fl => ?_
  cases fl with
  | ret obj => ?_
  | _ => exact hr.elim
  obtain ⟨rfl, rfl⟩ := hr
  have ho : (s.heap.push (byaObj #[])).get? s.heap.objs.size = some { cls := .type "bytearray", data := .bytearray #[] } := Heap.get?_push_size _ rfl
  have hT : ({ s with heap := s.heap.push (byaObj #[]) } : Shared).TypeIs (.ref s.heap.objs.size) "bytearray" := ⟨_, ho, rfl⟩
  dsimp only
  with_reducible refine wpS_step ?_
  refine wpAny_isInstance hT hsub ?_
  with_reducible refine wpS_ite_false ?hc ?_
  case hc => exact rfl
  with_reducible refine wpS_bind ?_
  refine wpS_holding ?_
  unfold callSpecial?
  with_reducible refine wpS_step ?_
  refine wpAny_specialOf hT called_bya.init.lookup ?_
  dsimp only
  refine wpS_holding ?_
  with_reducible refine wpS_step ?_
  refine wpAny_of_eq (called_bya.init.bind _) ?_
  with_reducible refine wpS_bind ?_
  refine wpS_call (codeS_callBuiltin plainI_bya rfl entryI_bya (called_bya.init.check _ _ _ _ _ _ _ _ hT (args_bya _ _) ?_))
  refine init_bya hn h0 ho fun h' e1 e2 => ?_
  dsimp only
  refine wpS_pure ?_
  with_reducible refine wpS_ite_false ?hc ?_
  case hc => exact rfl
  refine wpS_pure ?_
  refine h h' e1 fun b o e => e2 b o (Nat.ne_of_lt (Heap.lt_size e)) (Heap.get?_push_of_some _ e)
end
end Mine

namespace Mine
open PySem PySem.W
/-! the head of an open law, whose call need only come through where no holder of a bytearray stands around: the caller's own place is such a one -/
theorem clr_caller : Clr ⟨.builtin "claim.caller" {}, none, none, [], none⟩ := ⟨by decide +kernel, fun x hx => nomatch hx⟩
abbrev WalkS (q : Program) (loose : List Str) (XP : (Str → Option Value) → Heap → Prop) (YP : World → Heap → Prop) (r : RowW) (d : DefRec) (kwd : List (Str × Expr)) (run : Value → List Value → Sem Value) : Prop :=
  ∀ (w : World) (s₀ s₁ : Shared) (mg mb : Str → Option Value), Ground q loose r.records XP w s₀ mg mb s₁.heap → YP w s₁.heap → ∀ (a : Addr) (o : Obj) (pm cd doc dV kV : Value), s₁.heap.get? a = some o →
    o.data = .func { docDef d.name d.params d.body d.scope pm cd doc with defaults := dV, kwdefaults := kV } → s₁.heap.CodeRec cd d.name → Dflts mg s₁.heap d.params kwd dV kV → mg d.name = some (.ref a) → s₁.gens = #[] →
    ∀ (args : List WData) (vals : List Value) (as : List Addr), r.claim.pre args = true → WData.layableAll args = true → ReadsAllW r.records (classAt s₀.heap) s₁.heap vals args as → WellAll w.params s₁.heap vals args → (∀ a ∈ as, (a == sysModules) = false) →
      wpS (model r.prog w) callerA (run (.ref a) vals) (fun v s' => GoodWG r.claim (classAt s₀.heap) (ExcName.means s₀.heap) args s₁ (.ok (.ret v)) s')
        (fun e s' => GoodWG r.claim (classAt s₀.heap) (ExcName.means s₀.heap) args s₁ (.error e) s') s₁
/-- the caller's tree ends, wherever the walk that is clear of holders says so -/
theorem ends_clear {prog : Program} {w : World} {t : Sem Fin} {s : Shared} {R : Result → Shared → Prop} (hreg : s.asleep)
    (h : wpS (model prog w) callerA t (fun fin s' => ∃ f, fin = .done f ∧ R (.ok f) s' ∧ AllBare s'.gens) (fun e s' => R (.error e) s' ∧ AllBare s'.gens) s) :
    ∃ n r s' s'', runN (denote table) prog w n s ⟨t, .builtin "claim.caller" {}, default, []⟩ = .halted (outcomeOf r) s'' ∧
      schedN (denote table) prog w n (.single s ⟨t, .builtin "claim.caller" {}, default, []⟩) = .halted (outcomeOf r) s'' ∧ s''.forget = s'.forget ∧ R r s' := by
  have h0 := h ⟨.builtin "claim.caller" {}, none, none, [], none⟩ default caller_in clr_caller
  obtain ⟨n, r, s', s'', a, b, c, d⟩ := wp_halts_full (M := model prog w) (R := R) hreg
    (Sem.wp_mono _ _ _ (fun fin _ s' x => by obtain ⟨f, rfl, y, z⟩ := x; exact ⟨y, leftWithCleanup_false_of_bare z⟩) (fun _ _ _ x => ⟨x.1, leftWithCleanup_false_of_bare x.2⟩) _ _ h0)
  exact ⟨n, r, s', s'', b, a, c, d⟩
theorem PySem.W.holds_open {r : OpenRow} {q : Program} {loose : List Str} {Xt : Shared → Bool} {XP : (Str → Option Value) → Heap → Prop} {α : Type} {Yf : Shared → α} {Ya : World → α} {YP : World → Heap → Prop} {d : DefRec} {kwd : List (Str × Expr)} {N : Nat}
    (left : LeftO r.prog q loose Xt Yf Ya N) (hY : ∀ w s, Yf s = Ya w → YP w s.heap) (hYk : ∀ w h h', YP w h → (∀ b o, h.get? b = some o → h'.get? b = some o) → YP w h')
    (hX : ∀ s, Xt s = true → XP (s.heap.nsMap mainGlobals) s.heap) (hXk : ∀ mg h h', XP mg h → (∀ b o, h.get? b = some o → h'.get? b = some o) → XP mg h')
    (hdef : defOf q r.name = some (d, kwd)) (hp : r.prog.theDef r.name = some (d.params, d.body, d.scope)) (hk : kwWritten? d.params.kwonlyargs d.params.kw_defaults = some kwd) (hRf : ∀ s, Xt s = true → RecFacts r.records s.heap) (hwr : (!r.writes || r.records.isEmpty) = true)
    (k1 : r.wellSaid = true) (ok : (chainsOk q && opensWell r.prog && (frees r.toRowW && r.within.isEmpty)) = true) (hb : r.prog.bare) (hw : r.toRowW.promised)
    (call : WalkS q loose XP YP r.toRowW d kwd fun f vs => PySem.call f vs) : r.Holds := by
  obtain ⟨ok1, ok2⟩ := Bool.and_eq_true_iff.mp ok
  obtain ⟨okc, oko⟩ := Bool.and_eq_true_iff.mp ok1
  obtain ⟨okf, okw⟩ := Bool.and_eq_true_iff.mp ok2
  obtain ⟨fs, fu, fa, fp, fm⟩ := frees_parts okf
  have noWithin : r.toRowW.claim.within = [] := List.isEmpty_iff.mp okw
  have top := fun w => left.behind (XP := fun mg h => XP mg h ∧ RecFacts r.records h) (fun s hs => ⟨hX s hs, hRf s hs⟩) okc w
  refine ⟨k1, hw, ⟨hb, oko, by show r.makers.map _ = []; rw [fm]; rfl⟩, hw.witness, fun w => ⟨(top w).1, fun s' hs' => ?_⟩⟩
  obtain ⟨s₀, e0, g0, s, TR, sl, gens, isG, GX, said⟩ := (top w).2 s' hs'
  obtain ⟨gx, rf⟩ := GX.X
  have G0 : Ground q loose [] XP w s (s.heap.nsMap mainGlobals) (s.heap.nsMap builtinsNs) s.heap := ⟨GX.T, GX.B, GX.D, GX.TE, GX.TD, GX.W, gx, GX.cls, GX.has, GX.apart, GX.once, GX.K⟩
  have G1 : Ground q loose r.records XP w s (s.heap.nsMap mainGlobals) (s.heap.nsMap builtinsNs) s.heap := rf.ground G0
  have gens0 : s.gens = #[] := Array.eq_empty_of_size_eq_zero (beq_iff_eq.mp gens)
  refine ⟨s₀, e0, g0, s, TR, fun n hn => ?_, rf.1, rf.2.1, ?_⟩
  · have : n = r.name := by
      cases hq : r.pinned <;> rw [hq] at hn <;> simp at hn
      exact hn
    subst this
    exact pinned_of_view isG G0 hdef hp hk
  intro args hpre hlay ord hord
  obtain ⟨⟨vs, s₁⟩, laid⟩ := Option.isSome_iff_exists.mp (layAllW_isSome (P := w.params) (ord := ord) G1.has args r.args s (pre_splitW hpre).1)
  have keep := layAllW_keeps _ _ _ laid
  have rest := layAllW_rest _ _ _ laid
  obtain ⟨as, reads, newOnes, stand⟩ := reads_layAllW hord _ _ _ laid hlay s₁.heap (fun _ _ e => e)
  have L : Laid r.records w s s₁ args vs as := ⟨⟨ord, hord, laid⟩, reads, newOnes, stand, keep, rest.1.trans gens0, rest.2.2.1⟩
  have G2 := G1.keeps hXk keep
  obtain ⟨a, o, pm, cd, doc, dV, kV, f1, f2, f3, f4, f5⟩ := G2.fn hdef
  have C := call w s s₁ _ _ G2 (hYk _ _ _ (hY w s said) keep) a o pm cd doc dV kV f2 f3 f4 f5 (defOf_name hdef ▸ f1) L.gens args vs as hpre hlay L.reads L.well (L.low G1.low)
  have good : ∀ res s2, GoodWG r.toRowW.claim (classAt s.heap) (ExcName.means s.heap) args s₁ res s2 →
      (r.toRowW.claim.Ends s args vs s₁ res s2 ∧ s2.os = s.os ∧ (r.writes = true → namesKept r.prog r.keeps s.heap s2.heap ∧ ∀ x ∈ r.records, ∀ b, classAt s.heap x.1 = some b → recordClass s2.heap b x.1 (x.2.map (·.1)) = true)) ∧ AllBare s2.gens := fun res s2 g => by
    obtain ⟨x, y, z⟩ := g.laid (c := r.toRowW.claim) fs noWithin (ident_freeW fu fa fp) L
    exact ⟨⟨x, y, fun wr => ⟨namesKept_of TR isG r.keeps keep g.2.1.old, noTable hwr wr⟩⟩, z⟩
  obtain ⟨n, res, u, u', ran, sched, same, fin, os, names⟩ := ends_clear (prog := r.prog) (w := w) (s := s₁)
    (t := do match ← nsGet mainNs r.name with
      | some f => do ret (← PySem.call f vs)
      | none => unsupported "claim.caller:no-such-global")
    (R := fun res s2 => r.toRowW.claim.Ends s args vs s₁ res s2 ∧ s2.os = s.os ∧ (r.writes = true → namesKept r.prog r.keeps s.heap s2.heap ∧ ∀ x ∈ r.records, ∀ b, classAt s.heap x.1 = some b → recordClass s2.heap b x.1 (x.2.map (·.1)) = true))
    (Shared.asleep_of_life rest.2.2.2 sl)
    (wpS_step (wpAny_nsGet G2.T.g (by
      rw [f1]
      exact wpS_bind (wpS_mono C (fun v s2 g => wpS_pure ⟨_, rfl, good _ _ g⟩) fun e s2 g => good _ _ g))))
  obtain ⟨eh, _, _, eo, _⟩ := Shared.forget_eq same
  have fin' := fin.congr eh
  refine ⟨vs, s₁, laid, n, _, u', sched, ?_, fun _ i x hx => by rw [gens0] at hx; simp at hx, fun wr => by rw [eh]; exact names wr, by rw [(runN_life _ _ _ ran).trans rest.2.2.2], Shared.rest_eq (eo.trans os)⟩
  rcases fin' with ⟨v, rfl, d1, d2, d3, d4, d5⟩ | ⟨e, ob, cls, rfl, d1, d2, d3, d4, d5⟩
  · exact .inl ⟨v, rfl, d1, d2, d3, fun b o y _ => d4 b o y, d5⟩
  · exact .inr ⟨e, ob, cls, rfl, d1, d2, d3, d4, fun b o y _ => d5 b o y⟩
end Mine

namespace Mine
section
variable {prog : Program} {w : World} {A : Around} {s : Shared} {env : Env} {h₀ : Heap} {L : Addr}
/-- for x in range(a, b, c) -/
theorem for_range {target : Expr} {body : List Stmt} {r : Addr} {a₀ b₀ c₀ : Int} {t₀ u₀ v₀ : Tok} {n : Nat} {m₀ : Str → Option Value} {nx₀ : Led} {Q : Flow → Shared → Prop}
    (J : Nat → (Str → Option Value) → Led → Prop) (hh : A.handled = none) (hL : env.locals = L) (hr : IsRange s.heap r a₀ b₀ c₀ t₀ u₀ v₀) (hsmall : Builtin.Range.small a₀ b₀ c₀ = true) (hn : Builtin.Range.rangeSize a₀ b₀ c₀ = (n : Int))
    (F : Fr h₀ L s.heap m₀) (N : News h₀ L s.heap nx₀) (h0 : J 0 m₀ nx₀)
    (turn : ∀ i t m nx h tk I o, i < n → J i m nx → (∀ p ∈ nx, p.1 ≠ I) → Fr h₀ L h m → News h₀ L h ((I, o) :: nx) →
      wpAny (model prog w) A (assign target env (.int (a₀ + i * c₀) t)) (fun _ s₃ => wpAny (model prog w) A (execs body env) (TurnTo h₀ L I o (J (i + 1)) { s with heap := h, toks := tk } Q) nah s₃) nah { s with heap := h, toks := tk })
    (done : ∀ m nx h tk, J n m nx → Fr h₀ L h m → News h₀ L h nx → Q .next { s with heap := h, toks := tk }) :
    wpAny (model prog w) A (pyIter (.ref r)) (fun it s₂ => codeAny (model prog w) A (.forLoop target it body [] env) (fun r s' => match r with | .ok f => Q f s' | .error e => cameBackBy (model prog w) A env nah e s') s₂) nah s := by
  refine wpAny_pyIter_range hr hsmall ?_
  have W := Walks.range (prog := prog) (w := w) hh s.heap.objs.size a₀ c₀ n
  have N1 : News h₀ L (s.heap.push { cls := .type "range_iterator", data := .fields #[rawInt a₀, rawInt (Builtin.Range.rangeSize a₀ b₀ c₀), rawInt c₀] }) nx₀ := fun p hp => ⟨Heap.get?_push_of_some _ (N p hp).1, (N p hp).2⟩
  refine for_walk [] J hL W ?_ ?_ (Nat.ne_of_lt F.ns.lt) (next_is_new F) (fresh_ne N) (by show IsRangeIter _ _ _ _ _; rw [hn]; simpa using Heap.get?_push_size _ rfl) (F.push _) N1 (fun _ _ _ _ p hp => nomatch hp) h0 ?_ ?_ ?_
  · intro i h hi; exact ⟨_, hi⟩
  · intro b hb
    exact .inl (List.mem_singleton.mp hb)
  · rintro i s' v Q' hst hq
    exact go_iter hst (.inr (.inr rfl)) hq
  · rintro i v m nx h tk o hi ⟨t, rfl⟩
    exact turn i t m nx h tk _ o hi
  · intro m nx h tk hJ
    exact done m nx h tk hJ
end
end Mine

namespace Mine
open Calls
/-! the restricted walk's own rules: defs, statements and calls along the one path that leads to a bytearray's making -/
section
variable {α : Type} {M : Model} {A : Around} {E : Value → Shared → Prop} {s : Shared} {env : Env}
theorem wpS_keep {vs : List Value} {m : Sem α} {Q : α → Shared → Prop} (h : wpS M A m Q E s) : wpS M A (m.keep vs) Q E s :=
  fun Γ p hΓ hc => by rw [Sem.wp_keep]; exact h Γ p hΓ hc
theorem wpS_ite {c : Prop} [Decidable c] {t e : Sem α} {Q : α → Shared → Prop} (h : if c then wpS M A t Q E s else wpS M A e Q E s) : wpS M A (if c then t else e) Q E s := by
  split <;> (rename_i hc; simpa [hc] using h)
theorem execs_consS {st : Stmt} {rest : List Stmt} {Q : Flow → Shared → Prop} (h : wpS M A (exec st env) (fun f s' => match f with | .next => wpS M A (execs rest env) Q E s' | f => Q f s') E s) : wpS M A (execs (st :: rest) env) Q E s := by
  rw [execs_cons]
  refine wpS_bind (wpS_mono h (fun f s' h' => ?_) fun _ _ x => x)
  cases f <;> first | exact h' | exact wpS_pure h'
/-- a statement that asks nothing of what stands around -/
theorem execs_stepS {st : Stmt} {rest : List Stmt} {Q : Flow → Shared → Prop} (h : wpAny M A (exec st env) (fun f s' => match f with | .next => wpS M A (execs rest env) Q E s' | f => Q f s') E s) : wpS M A (execs (st :: rest) env) Q E s :=
  execs_consS (wpS_of h)
theorem Assign_NameS {x pos' value pos} {Q : Flow → Shared → Prop}
    (h : wpS M A (eval value env) (fun v s₁ => wpAny M A (storeName env x v) (fun _ => Q .next) E s₁) E s)
    (hs : swapsWith value (some (.Name x pos')) pos.line env = pure false := by rfl) :
    wpS M A (exec (.Assign [.Name x pos'] value pos) env) Q E s := by
  rw [exec_Assign_Name env x pos' value pos hs]
  refine wpS_step (wpAny_standAt (wpS_bind (wpS_mono h (fun v s₁ h₁ => wpS_step (wpAny_standAt (wpS_step ?_))) fun _ _ x => x)))
  exact wpAny_bindName (wpAny_mono h₁ (fun _ _ q => wpS_pure q) fun _ _ x => x)
theorem Assign_TupleS {elts k tpos value pos} {Q : Flow → Shared → Prop}
    (h : wpS M A (eval value env) (fun v s₁ => wpAny M A (assign (.Tuple elts k tpos) env v) (fun _ => Q .next) E s₁) E s)
    (hs : swapsWithSole [.Tuple elts k tpos] value pos.line env = pure false := by rfl)
    (hw : swappedStores [.Tuple elts k tpos] value env = pure none := by rfl) :
    wpS M A (exec (.Assign [.Tuple elts k tpos] value pos) env) Q E s := by
  rw [exec_Assign]
  refine wpS_step (wpAny_standAt ?_)
  rw [hs]
  refine wpS_step (wpAny_pure ?_)
  rw [if_neg (by decide)]
  refine wpS_bind (wpS_mono h (fun v s₁ h₁ => wpS_of ?_) fun _ _ x => x)
  rw [hw]
  refine wpAny_bind (wpAny_pure ?_)
  show wpAny M A (do assignAll v [assign (.Tuple elts k tpos) env]; pure .next) Q E s₁
  exact wpAny_bind (wpAny_mono h₁ (fun _ _ x => wpAny_pure x) fun _ _ x => x)
theorem Assign_Tuple_swappedS {elts k tpos value pos} {names : List Str} {Q : Flow → Shared → Prop}
    (h : wpS M A (eval value env) (fun v s₁ => wpAny M A (unpackItems v names.length none) (fun items s₂ =>
      wpAny M A (assignInOrder (names.reverse.map fun n => bindName env n) items.reverse) (fun _ => Q .next) E s₂) E s₁) E s)
    (hs : swapsWithSole [.Tuple elts k tpos] value pos.line env = pure false := by rfl)
    (hw : swappedStores [.Tuple elts k tpos] value env = pure (some names) := by rfl) :
    wpS M A (exec (.Assign [.Tuple elts k tpos] value pos) env) Q E s := by
  rw [exec_Assign]
  refine wpS_step (wpAny_standAt ?_)
  rw [hs]
  refine wpS_step (wpAny_pure ?_)
  rw [if_neg (by decide)]
  refine wpS_bind (wpS_mono h (fun v s₁ h₁ => wpS_of ?_) fun _ _ x => x)
  rw [hw]
  refine wpAny_bind (wpAny_pure ?_)
  show wpAny M A (do rule "assign.swapped-stores"; let items ← unpackItems v names.length none; assignInOrder (names.reverse.map fun n => bindName env n) items.reverse; pure .next) Q E s₁
  exact wpAny_bind (wpAny_rule (wpAny_bind (wpAny_mono h₁ (fun items s₂ h₂ => wpAny_bind (wpAny_mono h₂ (fun _ _ x => wpAny_pure x) fun _ _ x => x)) fun _ _ x => x)))
theorem Tuple_S {elts : List Expr} {k : Nat} {pos : Pos} {Q : Value → Shared → Prop}
    (h : wpS M A (spliced (backTo pos (starEach elts env))) (fun vs s₁ => wpAny M A (newTuple vs) Q E s₁) E s) : wpS M A (eval (.Tuple elts k pos) env) Q E s := by
  show wpS M A (do standAt pos; newTuple (← spliced (backTo pos (starEach elts env)))) Q E s
  exact wpS_step (wpAny_standAt (wpS_bind (wpS_mono h (fun _ _ x => wpS_of x) fun _ _ x => x)))
theorem spliced_consS {x : Sem Value} {rest : List (Bool × Sem Value)} {Q : List Value → Shared → Prop}
    (h : wpS M A x (fun v s₁ => wpS M A (spliced rest) (fun vs s₂ => Q (v :: vs) s₂) E s₁) E s) : wpS M A (spliced ((false, x) :: rest)) Q E s := by
  rw [spliced]
  refine wpS_bind (wpS_mono h (fun v s₁ h₁ => ?_) fun _ _ x => x)
  simp only [Bool.false_eq_true, if_false]
  exact wpS_step (wpAny_pure (wpS_bind (wpS_holding (wpS_mono h₁ (fun vs s₂ h₂ => wpS_pure h₂) fun _ _ x => x))))
theorem args_consS {e : Expr} {rest : List Expr} {pos : Pos} {Q : List Value → Shared → Prop}
    (h : wpS M A (eval e env) (fun v s₁ => wpS M A (spliced (backTo pos (starEach rest env))) (fun vs s₂ => Q (v :: vs) s₂) E s₁) E s)
    (he : starEach (e :: rest) env = (false, eval e env) :: starEach rest env := by rfl) : wpS M A (spliced (backTo pos (starEach (e :: rest) env))) Q E s := by
  rw [he]; exact spliced_consS h
theorem args_nilS {pos : Pos} {Q : List Value → Shared → Prop} (h : Q [] s) : wpS M A (spliced (backTo pos (starEach [] env))) Q E s := wpS_of (args_nil h)
theorem evalArgs_plainS {f : Value} {x : Sem Value} {rest : List (Bool × Sem Value)} {Q : Args → Shared → Prop}
    (h : wpS M A (spliced ((false, x) :: rest)) (fun vs s' => Q ⟨vs, []⟩ s') E s) : wpS M A (evalArgs f true ((false, x) :: rest) []) Q E s := by
  unfold evalArgs
  show wpS M A (spliced ((false, x) :: rest) >>= _) Q E s
  refine wpS_bind (wpS_mono h (fun vs s' h' => ?_) fun _ _ x => x)
  refine wpS_holding ?_
  exact wpS_of (wpAny_bind (wpAny_pure (wpAny_bind (wpAny_pure (wpAny_pure h')))))
theorem Call_S {func : Expr} {args : List Expr} {pos : Pos} {Q : Value → Shared → Prop}
    (h : wpAny M A (eval func env) (fun f s₁ => wpS M A (callWith pos f [] (backTo pos (starEach args env)) []) Q E s₁) E s)
    (he : eval (.Call func args [] pos) env = (do callWith pos (← eval func env) [] (backTo pos (starEach args env)) (backToKw pos (keywordEach [] env))) := by rfl) :
    wpS M A (eval (.Call func args [] pos) env) Q E s := by
  rw [he]; exact wpS_step h
theorem callWith_functionS {pos : Pos} {a : Addr} {o : Obj} {fd : FuncData} {first : List Value} {args : List (Bool × Sem Value)} {Q : Value → Shared → Prop}
    (h : wpS M A (evalArgs (.ref a) true args []) (fun x s₁ => (s₁.heap.get? a = some o ∧ o.data = .func fd) ∧ wpS M A (call (.ref a) (first ++ x.pos) x.kw) Q E s₁) E s) :
    wpS M A (callWith pos (.ref a) first args []) Q E s := by
  unfold callWith
  refine wpS_bind (wpS_holding (wpS_mono h (fun x s₁ h₁ => wpS_step (wpAny_standAt ?_)) fun _ _ x => x))
  have tail : ∀ {t : Sem Value}, wpS M A t Q E s₁ → wpS M A (t >>= fun r => holding [r] point >>= fun _ => pure r) Q E s₁ :=
    fun ht => wpS_bind (wpS_mono ht (fun r s₂ hr => wpS_of (wpAny_bind (wpAny_holding (wpAny_point (wpAny_pure hr))))) fun _ _ x => x)
  cases hs : args.any (·.1) <;> simp only [List.any_nil, Bool.or_false] <;>
    refine wpS_step (m := keeperOf (.ref a)) ?_ <;> unfold keeperOf <;>
    refine wpAny_bind (wpAny_load h₁.1.1 ?_) <;> rw [h₁.1.2] <;> refine wpAny_pure ?_
  ·
    first
      | refine wpS_ite ?_
      | skip
    split <;> first
      | exact tail h₁.2
      | exact tail (by unfold callMarked; exact wpS_keep h₁.2)
  ·
    first
      | exact tail (by unfold callMarked; exact wpS_keep h₁.2)
      | exact tail h₁.2
theorem callWith_defS {pos : Pos} {f : Addr} {o : Obj} {fd : FuncData} {e : Expr} {rest : List Expr} {Q : Value → Shared → Prop} (hdat : o.data = .func fd)
    (h : wpS M A (spliced (backTo pos (starEach (e :: rest) env))) (fun vs s₁ => s₁.heap.get? f = some o ∧ wpS M A (call (.ref f) vs) Q E s₁) E s)
    (he : starEach (e :: rest) env = (false, eval e env) :: starEach rest env := by rfl) :
    wpS M A (callWith pos (.ref f) [] (backTo pos (starEach (e :: rest) env)) []) Q E s := by
  rw [he] at h ⊢
  exact callWith_functionS (o := o) (fd := fd) (evalArgs_plainS (wpS_mono h (fun vs s₁ h₁ => ⟨⟨h₁.1, hdat⟩, h₁.2⟩) fun _ _ x => x))
theorem callWith_typeS {pos : Pos} {T : String} {first : List Value} {args : List (Bool × Sem Value)} {Q : Value → Shared → Prop}
    (hplain : args.any (·.1) = false)
    (h : wpS M A (evalArgs (.type T) true args []) (fun a s₁ => wpS M A (call (.type T) (first ++ a.pos) a.kw) Q E s₁) E s) :
    wpS M A (callWith pos (.type T) first args []) Q E s := by
  unfold callWith
  refine wpS_bind (wpS_holding (wpS_mono h (fun a s₁ h₁ => wpS_step (wpAny_standAt ?_)) fun _ _ x => x))
  simp only [hplain, List.any_nil, Bool.or_false]
  refine wpS_step (wpAny_pure ?_)
  exact wpS_bind (wpS_mono h₁ (fun r s₂ hr => wpS_of (wpAny_bind (wpAny_holding (wpAny_point (wpAny_pure hr))))) fun _ _ x => x)
theorem callWith_type1S {pos : Pos} {T : String} {e : Expr} {rest : List Expr} {Q : Value → Shared → Prop}
    (h : wpS M A (spliced (backTo pos (starEach (e :: rest) env))) (fun vs s₁ => wpS M A (call (.type T) vs) Q E s₁) E s)
    (he : starEach (e :: rest) env = (false, eval e env) :: starEach rest env := by rfl)
    (hplain : (backTo pos (starEach rest env)).any (·.1) = false := by rfl) :
    wpS M A (callWith pos (.type T) [] (backTo pos (starEach (e :: rest) env)) []) Q E s := by
  rw [he] at h ⊢
  exact callWith_typeS (by show (false || (backTo pos (starEach rest env)).any (·.1)) = false; rw [hplain]; rfl) (evalArgs_plainS h)
end
section
variable {prog : Program} {w : World} {A : Around} {s : Shared}
theorem codeS_func {body : List Stmt} {env : Env} {R : Result → Shared → Prop}
    (h : wpS (model prog w) (A.deeper env) (execs body env) (fun f s' => R (.ok (.ret (match f with | .ret v => v | _ => .none))) s') nah s) : codeS (model prog w) A (.func body env) R s := by
  refine codeS_tree rfl ?_
  show wpS _ (A.deeper env) (do point; match ← (execs body env).onRaise (leaving env) with | .ret v => ret v | _ => ret .none) _ _ s
  refine wpS_step (wpAny_point (wpS_bind (wpS_calm (wpS_mono h (fun f s' h' => ?_) fun _ _ h' => h'))))
  cases f <;> exact wpS_pure h'
theorem codeS_call_function {a : Addr} {args : Args} {o : Obj} {fd : FuncData} {body : List Stmt} {R : Result → Shared → Prop} (hroom : A.depth < recursionLimit) (ho : s.heap.get? a = some o)
    (hd' : o.data = .func fd) (hco : fd.scope.isCoroutine = false) (hgen : fd.scope.isGenerator = false) (hbody : fd.body = .stmts body) (hcd : s.heap.CodeRec fd.code fd.qualname)
    (h : wpAny (model prog w) A.in1 (bindArgs fd args) (fun binds s₁ =>
      wpAny (model prog w) A.in1 (newFunctionEnv fd.scope fd.globals fd.closure binds (fd.qualname ++ ".<locals>.") (some a) fd.code none fd.builtins)
        (fun env s₂ => s₂.heap.NoLimit ∧ codeS (model prog w) A (.func body env) R s₂) (fun e s' => R (.error e) s') s₁) (fun e s' => R (.error e) s') s) :
    codeS (model prog w) A (.call (.ref a) args) R s := by
  refine codeS_tree rfl ?_
  show wpS _ A.in1 (callAny (.ref a) args) _ _ s
  simp only [callAny]
  refine wpS_step (wpAny_load ho ?_)
  obtain ⟨c, oc, vs, tq, hc, hoc, hdc, hq⟩ := hcd
  simp only [hd', callFunction, hco, hgen, hbody, hc]
  rw [hc] at h
  refine wpS_step (m := field (.ref c) 1) (wpAny_field hoc hdc hq (wpS_step (wpAny_pure ?_)))
  exact wpS_step (wpAny_mono h (fun binds s₁ h₁ => wpS_step (wpAny_mono h₁ (fun env s₂ h₂ => wpS_step (wpAny_enterFrame h₂.1 hroom
    (wpS_pure (And.intro rfl h₂.2)))) fun _ _ h' => h')) fun _ _ h' => h')
theorem codeS_call_def {R : Result → Shared → Prop} {a : Addr} {o : Obj} {fd : FuncData} {body : List Stmt} {args : Args} {binds : List (Str × Value)}
    (hroom : A.depth < recursionLimit) (ho : s.heap.get? a = some o) (hdata : o.data = .func fd) (hlim : s.heap.NoLimit) (hcd : s.heap.CodeRec fd.code fd.qualname)
    (hbody : fd.body = .stmts body) (hbind : BindsTo s fd args binds)
    (hcell : ∀ x ∈ fd.scope.names, x.2 ≠ .cell) (hloc : ∀ x ∈ binds, fd.scope.names.lookup x.1 = some .local)
    (h : ∀ h₀, h₀.Ns s.heap.objs.size (fun x => binds.reverse.lookup x) → (∀ b o, s.heap.get? b = some o → h₀.get? b = some o) →
      wpS (model prog w) (A.deeper (callEnv fd s.heap.objs.size a)) (execs body (callEnv fd s.heap.objs.size a)) (fun f s' => R (.ok (.ret (match f with | .ret v => v | _ => .none))) s') nah
        { s with heap := h₀, toks := s.toks + binds.length })
    (hco : fd.scope.isCoroutine = false := by rfl) (hgen : fd.scope.isGenerator = false := by rfl) (hk : fd.scope.kind = .function := by rfl) :
    codeS (model prog w) A (.call (.ref a) args) R s := by
  refine codeS_call_function hroom ho hdata hco hgen hbody hcd (hbind _ _ _ _ ?_)
  refine wpAny_newFunctionEnv hcell hloc (fun h₀ hns₀ hsb₀ => ⟨hlim.fresh _ hsb₀, codeS_func (h h₀ hns₀ fun b o e => ?_)⟩) hk
  exact hsb₀.extBut b o (Nat.ne_of_lt (Heap.lt_size e)) (Heap.get?_push_of_some _ e)
theorem call_fullS {R : Result → Shared → Prop} {name : Str} {params : Arguments} {body : List Stmt} {scope : Scope}
    {dV kV pm cd doc : Value} {a : Addr} {o : Obj} {args : Args} {binds : List (Str × Value)}
    (hroom : A.depth < recursionLimit) (ho : s.heap.get? a = some o) (hdata : o.data = .func { docDef name params body scope pm cd doc with defaults := dV, kwdefaults := kV }) (hlim : s.heap.NoLimit) (hcd : s.heap.CodeRec cd name)
    (hbind : BindsTo s { docDef name params body scope pm cd doc with defaults := dV, kwdefaults := kV } args binds)
    (hloc : ∀ x ∈ binds, scope.names.lookup x.1 = some .local)
    (h : ∀ h₁, Fr s.heap s.heap.objs.size h₁ (fun x => binds.reverse.lookup x) →
      wpS (model prog w) (A.deeper (envOf name scope s.heap.objs.size a cd)) (execs body (envOf name scope s.heap.objs.size a cd))
        (fun f s' => R (.ok (.ret (match f with | .ret v => v | _ => .none))) s') nah
        { s with heap := h₁, toks := s.toks + binds.length })
    (hco : scope.isCoroutine = false := by rfl) (hgen : scope.isGenerator = false := by rfl) (hk : scope.kind = .function := by rfl)
    (hcell : ∀ x ∈ scope.names, x.2 ≠ .cell := by decide) :
    codeS (model prog w) A (.call (.ref a) args) R s :=
  codeS_call_def hroom ho hdata hlim hcd rfl hbind hcell hloc (fun h₁ hns hkeep => h h₁ ⟨hns, hkeep, Nat.le_refl _⟩) hco hgen hk
theorem code_defS {h₀ base : Heap} {L : Addr} {A₀ : Around} {m : Str → Option Value} {K : Frag} {news : Led} {p : Program} {loose : List Str} {mean : ExcName → Option Value} {mg mb : Str → Option Value} {env : Env} {outer : List Env} {R : Result → Shared → Prop} {name qual : Str} {params : Arguments} {body : List Stmt} {scope : Scope} {dV kV doc pm cdv ct oc : Value} {an od : Option Addr} {osl : Array (Option Value)} {f : Addr} {args : Args} {binds : List (Str × Value)}
    (B : Below A₀ base outer h₀) (F : Fr h₀ L s.heap m) (X₀ : K.In h₀) (N : News h₀ L s.heap news) (T : Top p loose mean mg mb h₀) (hA : A.frames = some (env :: outer)) (hf : env.frame = some L) (hke : env.scope.kind = .function)
    (ho : K.lookup f = some ⟨oc, od, .func (fnOf name qual params body scope dV kV doc pm an cdv ct), osl⟩) (hcd : codeIn K cdv qual = true) (hroom : A.depth < recursionLimit)
    (hbind : BindsTo s (fnOf name qual params body scope dV kV doc pm an cdv ct) args binds) (hloc : ∀ y ∈ binds, scope.names.lookup y.1 = some .local)
    (h : ∀ g L' h₁, Fr h₀ L g m → Fr g L' h₁ (fun y => binds.reverse.lookup y) → News g L' h₁ news → Below A base (env :: outer) g → K.In g → Top p loose mean mg mb g →
      wpS (model prog w) (A.deeper (envOf qual scope L' f cdv)) (execs body (envOf qual scope L' f cdv))
        (fun fl s' => LeaveK h₀ L m g R (match fl with | .ret v => v | _ => .none) s') nah
        { s with heap := h₁, toks := s.toks + binds.length })
    (hco : scope.isCoroutine = false) (hgen : scope.isGenerator = false) (hk : scope.kind = .function)
    (hcell : ∀ x ∈ scope.names, x.2 ≠ .cell) : codeS (model prog w) A (.call (.ref f) args) R s := by
  obtain ⟨FG, BG, st, lv⟩ := groundX (R := R) B F N hA hf hke
  refine codeS_call_def (fd := fnOf name qual params body scope dV kV doc pm an cdv ct) (body := body) (binds := binds) hroom ((X₀.keeps F.keep) _ _ ho) rfl (T.nolimit.keeps F.keep) (codeRec_of (X₀.keeps F.keep) hcd) rfl hbind hcell hloc (fun h₁ hns hk₁ => ?_) hco hgen hk
  exact wpS_mono (h _ s.heap.objs.size h₁ FG ⟨hns, fun b o e => hk₁ b o (of_hideAll _ e), Nat.le_of_eq (hideAll_size _ _)⟩
    (fun p hp => ⟨hk₁ _ _ (N p hp).1, Nat.ne_of_lt (Heap.lt_size (N p hp).1), hideAll_none _ (List.mem_map_of_mem hp)⟩) BG (X₀.keeps st) (T.keeps st)) (fun fl s' hl => lv _ _ hl) fun _ _ y => y
end
end Mine
namespace Mine
theorem call_cellsS {prog : Program} {w : World} {A : Around} {s : Shared} {R : Result → Shared → Prop} {name : Str} {params : Arguments} {body : List Stmt} {scope : Scope}
    {pm cd doc : Value} {a : Addr} {o : Obj} {args : List Value} {binds : List (Str × Value)}
    (hroom : A.depth < recursionLimit) (ho : s.heap.get? a = some o) (hdata : o.data = .func (Calls.docDef name params body scope pm cd doc)) (hlim : s.heap.NoLimit) (hcd : s.heap.CodeRec cd name)
    (hbind : bindArgs (Calls.docDef name params body scope pm cd doc) ⟨args, []⟩ = pure binds)
    (hkind : ∀ x ∈ binds, scope.names.lookup x.1 = some .local ∨ (scope.names.lookup x.1 = some .cell ∧ ((cellsFrom (s.heap.objs.size + 1) scope.names []).lookup x.1).isSome = true))
    (hnd : ((cellsFrom 0 scope.names []).map (·.1)).Nodup)
    (h : ∀ h₁ tk cells, Fr s.heap s.heap.objs.size h₁ (bindL (envOfC name scope s.heap.objs.size a cd).kindOf binds fun _ => none) → News s.heap s.heap.objs.size h₁ cells →
      CellsAre (bindC (envOfC name scope s.heap.objs.size a cd).kindOf binds fun _ => none) (cellsFrom (s.heap.objs.size + 1) scope.names []) cells →
      wpS (model prog w) (A.deeper (envOfC name scope s.heap.objs.size a cd)) (execs body (envOfC name scope s.heap.objs.size a cd))
        (fun f s' => R (.ok (.ret (match f with | .ret v => v | _ => .none))) s') nah { s with heap := h₁, toks := tk })
    (hco : scope.isCoroutine = false := by rfl) (hgen : scope.isGenerator = false := by rfl) (hk : scope.kind = .function := by rfl) :
    codeS (model prog w) A (.call (.ref a) ⟨args, []⟩) R s := by
  refine codeS_call_function (fd := Calls.docDef name params body scope pm cd doc) hroom ho hdata hco hgen rfl hcd ?_
  rw [hbind]
  refine wpAny_pure (wpAny_newFunctionEnv_cells hk hkind fun env' he s' x => ?_)
  subst he
  refine ⟨hlim.keeps x.toInCall.keep, codeS_func ?_⟩
  obtain ⟨h₁, tk, rfl, _⟩ := x.done
  obtain ⟨cells, N, Y⟩ := Cl.news (h₀ := s.heap) (Nat.le_refl _) fun n c hm => ⟨x.cell n c (lookup_of_mem_nodup (cellsFrom_names scope.names 0 (s.heap.objs.size + 1) [] [] rfl ▸ hnd) hm), x.above n c hm⟩
  exact h h₁ tk cells ⟨x.toInCall.ns, x.toInCall.keep, x.toInCall.fresh⟩ N Y
end Mine
namespace Mine
open Calls
theorem callWith_KS {M : Model} {A : Around} {E : Value → Shared → Prop} {s : Shared} {env : Env} {pos : Pos} {K : Frag} {h₀ : Heap} {f : Addr} {oc : Value} {od : Option Addr} {fd : FuncData} {osl : Array (Option Value)} {e : Expr} {rest : List Expr} {Q : Value → Shared → Prop}
    (X : K.In h₀) (ho : K.lookup f = some ⟨oc, od, .func fd, osl⟩)
    (h : wpS M A (spliced (backTo pos (starEach (e :: rest) env))) (fun vs s₁ => (∃ L m, Fr h₀ L s₁.heap m) ∧ wpS M A (call (.ref f) vs) Q E s₁) E s)
    (he : starEach (e :: rest) env = (false, eval e env) :: starEach rest env := by rfl) :
    wpS M A (callWith pos (.ref f) [] (backTo pos (starEach (e :: rest) env)) []) Q E s :=
  callWith_defS (o := ⟨oc, od, .func fd, osl⟩) (fd := fd) rfl (wpS_mono h (fun vs s₁ h₁ => ⟨by obtain ⟨⟨L, m, F⟩, _⟩ := h₁; exact (X.keeps F.keep) _ _ ho, h₁.2⟩) fun _ _ x => x) he
end Mine

namespace Mine
/-! a bytearray's item stored; bytes of a bytearray -/
theorem slot_bya_set : Slot "bytearray" "__setitem__" "bytearray.__setitem__" :=
  .of (owner := "bytearray") (n := "__setitem__") (by rw [typeLookup_type, builtinLookup_eq_fast]; kernel_rfl) (by decide +kernel) (by decide +kernel) (by decide +kernel)
    (by first | exact .inl (by decide +kernel) | exact .inr (by decide +kernel)) (by rw [isSubtype_type]; kernel_rfl)
theorem entry_bya_set : entryFor table "bytearray.__setitem__" = some Builtin.«bytearray.__setitem__» := by first | exact entryFor_of_fast (by kernel_rfl) | exact entryFor_of_tree (by kernel_rfl)
theorem args_bya_set (a b c : Value) : argsOk "bytearray.__setitem__" ⟨[a, b, c], []⟩ := by
  first
    | (unfold argsOk; kernel_rfl)
    | (unfold argsOk; rw [signature?_of (id := "bytearray.__setitem__") (n := ['_', '_', 's', 'e', 't', 'i', 't', 'e', 'm', '_', '_']) (o := ['y', 'a', 'r', 'r', 'a', 'e', 't', 'y', 'b']) (by kernel_rfl) ownr_bya]; kernel_rfl)
theorem bya_no_bytes : typeLookup (.type "bytearray") "__bytes__" = pure none := by rw [typeLookup_type, builtinLookup_eq_fast]; kernel_rfl
theorem bya_no_index : typeLookup (.type "bytearray") "__index__" = pure none := by rw [typeLookup_type, builtinLookup_eq_fast]; kernel_rfl
theorem bya_buffer : typeLookup (.type "bytearray") "__buffer__" = pure (some (.builtin "bytearray.__buffer__")) := by rw [typeLookup_type, builtinLookup_eq_fast]; kernel_rfl
theorem bufE_bya : "bytearray.__buffer__".endsWith ("." ++ "__buffer__") = true := by decide +kernel
theorem bufD_bya : "bytearray.__buffer__".dropRight ("__buffer__".length + 1) = "bytearray" := by decide +kernel
section
variable {prog : Program} {w : World} {A : Around} {E : Value → Shared → Prop} {s : Shared}
theorem typeIs_bya {a : Addr} {b : Array UInt8} (ha : s.heap.get? a = some (byaObj b)) : s.TypeIs (.ref a) "bytearray" := ⟨_, ha, rfl⟩
theorem set_bya {a : Addr} {b : Array UInt8} {k v : Int} {t u : Tok} {Q : Unit → Shared → Prop} (ha : s.heap.get? a = some (byaObj b)) (hz : b.size ≤ 1000) (h0 : 0 ≤ k) (hk : k < b.size) (hv0 : 0 ≤ v) (hv : v < 256)
    (h : ∀ h', h'.get? a = some (byaObj (b.setIfInBounds k.toNat v.toNat.toUInt8)) → Heap.SameBut a s.heap h' → Q () { s with heap := h' }) : wpAny (model prog w) A (setItem (.ref a) (.int k t) (.int v u)) Q E s := by
  have hT := typeIs_bya ha
  have hfit : Builtin.Bytes.fitsIndex k = true := by
    unfold Builtin.Bytes.fitsIndex
    simp only [Bool.and_eq_true, decide_eq_true_eq]
    omega
  unfold setItem
  try with_reducible refine wpAny_holding ?_
  first | refine wpAny_bind (wpAny_pure ?_) | skip
  refine wpAny_bind (wpAny_sequenceKey hT (by decide) ?_)
  refine wpAny_bind (wpAny_callSpecial?_slot (name := Str.ofString "__setitem__") hT slot_bya_set
    (wpAny_call_entry slot_bya_set hT entry_bya_set ?_ (args_bya_set _ _ _)))
  show wpAny _ _ (Builtin.Bytes.subscript? (.int k t) >>= _) _ _ s
  refine wpAny_bind ?_
  unfold Builtin.Bytes.subscript?
  refine wpAny_bind (wpAny_specialOf (T := "int") (typeIs_int s k t) int_index ?_)
  show wpAny _ _ (asIndex (.int k t) >>= _) _ _ s
  refine wpAny_bind (wpAny_of_eq (a := k) rfl ?_)
  refine bm_if_false (by rw [hfit]; rfl) ?_
  refine wpAny_pure ?_
  show wpAny _ _ (Builtin.Bytes.byteValue (.int v u) >>= _) _ _ s
  refine wpAny_bind ?_
  unfold Builtin.Bytes.byteValue
  refine wpAny_bind (wpAny_of_eq (a := v) rfl ?_)
  refine bm_if_false (by simp only [Bool.or_eq_false_iff, decide_eq_false_iff_not]; omega) ?_
  refine wpAny_pure ?_
  refine wpAny_bind ?_
  unfold Builtin.Bytes.payload Builtin.Bytes.payload?
  refine wpAny_bind (wpAny_bind (wpAny_load ha ?_))
  refine wpAny_pure (wpAny_pure ?_)
  have hs : seqIndex? k b.size = some k.toNat := seqIndex_of h0 hk
  rw [hs]
  refine wpAny_bind (upd_bya (k := 0) ha (by simp; rw [sizeLine_eq]; omega) ?_)
  have h2 : (s.heap.update a (Obj.mapBytearray (·.setIfInBounds k.toNat v.toNat.toUInt8))).get? a = some (byaObj (b.setIfInBounds k.toNat v.toNat.toUInt8)) := Heap.get?_update_self (Obj.mapBytearray _) ha rfl
  first
    | exact wpAny_bind (wpAny_pure (wpAny_pure ⟨.none, rfl, wpAny_pure (h _ h2 (Heap.SameBut.update ..))⟩))
    | exact wpAny_pure ⟨.none, rfl, wpAny_pure (h _ h2 (Heap.SameBut.update ..))⟩
theorem bufOwn_bya {a : Addr} {b : Array UInt8} {Q : Bool → Shared → Prop} (ha : s.heap.get? a = some (byaObj b)) (h : Q true s) : wpAny (model prog w) A (Builtin.Bytes.slotIsOwn (.ref a) "__buffer__") Q E s := by
  have h1 := bya_buffer
  have h2 := bufE_bya
  have h3 := bufD_bya
  have h4 := sub_bya
  unfold Builtin.Bytes.slotIsOwn
  wp_walk
  rw [h2]
  simp only [Bool.not_true, Bool.false_eq_true, if_false]
  rw [h3]
  wp_walk
  exact h
theorem bya_new_bytes {a : Addr} {b : Array UInt8} {Q : Value → Shared → Prop} (ha : s.heap.get? a = some (byaObj b)) (hz : b.size ≤ 1000)
    (hQ : ∀ t k, Q (.bytes b t) { s with toks := k }) :
    codeAny (model prog w) A (.call (.builtin "bytes.__new__") ⟨[.type "bytes", .ref a], []⟩) (wants Q E) s := by
  refine codeAny_of_tree ?_
  show wpAny _ A.in1 (do checkBuiltinCall "bytes.__new__" ⟨[.type "bytes", .ref a], []⟩; again (.builtin "bytes.__new__" ⟨[.type "bytes", .ref a], []⟩)) _ _ s
  refine wpAny_bind (wpAny_of_eq (F.bm_newCall _) (wpAny_pure ⟨plainId_quiet F.bm_plain _, codeAny_builtin F.bm_entry ?_⟩))
  rw [Around.under_plainId F.bm_plain _]
  have hT := typeIs_bya ha
  unfold Builtin.«bytes.__new__»
  refine wpAny_bind (wpAny_of_eq (a := true) rfl ?_)
  refine bm_if_false rfl ?_
  refine wpAny_bind (wpAny_of_eq F.bm_sub ?_)
  refine bm_if_false rfl ?_
  refine wpAny_bind (wpAny_of_eq (F.bm_bind _) ?_)
  refine wpAny_bind (wpAny_of_eq (a := ()) rfl ?_)
  refine wpAny_bind (wpAny_of_eq (a := ()) rfl ?_)
  refine bm_if_false rfl ?_
  refine wpAny_bind (wpAny_specialOf hT bya_no_bytes ?_)
  refine wpAny_bind (wpAny_bind ?_)
  show wpAny _ _ (load a >>= _) _ _ _
  refine wpAny_bind (wpAny_load ha ?_)
  refine wpAny_pure (wpAny_pure ?_)
  refine bm_if_false rfl ?_
  refine wpAny_bind (wpAny_specialOf hT bya_no_index ?_)
  refine bm_if_true rfl ?_
  first
    | show wpAny _ _ (Builtin.Bytes.buffer? "bytes.__new__" (.ref a) true >>= _) _ _ _
    | (refine wpAny_bind ?_; show wpAny _ _ (Builtin.Bytes.buffer? "bytes.__new__" (.ref a) true >>= _) _ _ _)
  refine wpAny_bind ?_
  unfold Builtin.Bytes.buffer?
  refine wpAny_bind (wpAny_specialOf hT bya_buffer ?_)
  refine wpAny_bind (bufOwn_bya ha ?_)
  refine bm_if_false rfl ?_
  refine wpAny_bind (wpAny_specialOf hT bya_buffer ?_)
  refine wpAny_bind (own_bya (k := 0) ha ?_)
  refine bm_if_false rfl ?_
  refine wpAny_bind ?_
  unfold Builtin.Bytes.payload Builtin.Bytes.payload?
  refine wpAny_bind (wpAny_bind (wpAny_load ha ?_))
  refine wpAny_pure (wpAny_pure ?_)
  refine wpAny_pure ?_
  refine wpAny_bind (wpAny_rule ?_)
  refine wpAny_bind (wpAny_mkBytes ?_ (by rw [sizeLine_eq]; omega))
  show wpAny _ _ (if (Value.type "bytes" == Value.type "bytes") = true then _ else _) _ _ _
  refine bm_if_true (by decide) ?_
  first
    | exact wpAny_pure (hQ _ _)
    | exact wpAny_bind (wpAny_pure (wpAny_pure (hQ _ _)))
theorem bytes_bya {a : Addr} {b : Array UInt8} {Q : Value → Shared → Prop} (ha : s.heap.get? a = some (byaObj b)) (hz : b.size ≤ 1000)
    (hQ : ∀ t k, Q (.bytes b t) { s with toks := k }) : wpAny (model prog w) A (call (.type "bytes") [.ref a]) Q E s := by
  refine callType_codes (Q₁ := fun obj s₁ => s₁.TypeIs obj "bytes" ∧ Q obj s₁) F.bm_called (F.bm_typeCall _) F.entry_object_init
    (bya_new_bytes ha hz fun t k => ⟨PySem.W.typeIs_bytes _ _ _, hQ t k⟩) fun obj s₁ h₁ => ?_
  exact ⟨h₁.1, F.args_object_init_2 obj _, object_init_meets F.bm_called.init.lookup F.bm_called.made (by decide) prog w A.in1 _ s₁ ⟨h₁.1, rfl, h₁.2⟩⟩
end
end Mine

namespace Mine
/-! a bytearray in the ledger -/
section
variable {prog : Program} {w : World} {A : Around} {E : Value → Shared → Prop} {s : Shared} {h₀ : Heap} {L : Addr} {m : Str → Option Value}
theorem bya_led {h h' : Heap} {o : Obj} {led : Led} (F : Fr h₀ L h m) (N : News h₀ L h led) (ho : h'.get? h.objs.size = some o) (keep : ∀ b o, h.get? b = some o → h'.get? b = some o) :
    Fr h₀ L h' m ∧ News h₀ L h' ((h.objs.size, o) :: led) := by
  obtain ⟨oL, a1, a2, hL, a3⟩ := F.ns
  refine ⟨⟨⟨oL, a1, a2, keep _ _ hL, a3⟩, fun b o' e => keep _ _ (F.keep b o' e), F.above⟩, fun p hp => ?_⟩
  rcases List.mem_cons.mp hp with rfl | hp
  · exact ⟨ho, Nat.ne_of_gt (Heap.lt_size hL), next_is_new F⟩
  · exact ⟨keep _ _ (N p hp).1, (N p hp).2.1, (N p hp).2.2⟩
theorem call_bya_led {k : Int} {n : Nat} {t : Tok} {led : Led} {Q : Value → Shared → Prop} (e : k = (n : Int)) (hn : n ≤ 1000) (h0 : 0 < n) (F : Fr h₀ L s.heap m) (N : News h₀ L s.heap led)
    (h : ∀ D h', (∀ p ∈ led, p.1 ≠ D) → Fr h₀ L h' m → News h₀ L h' ((D, byaObj (Array.replicate n 0)) :: led) → Q (.ref D) { s with heap := h' }) : wpS (model prog w) A (call (.type "bytearray") [.int k t]) Q E s := by
  subst e
  exact call_bya hn h0 fun h' g keep => h _ h' (fresh_ne N) (bya_led F N g keep).1 (bya_led F N g keep).2
theorem set_bya_led {D : Addr} {b : Array UInt8} {k v : Int} {t u : Tok} {led : Led} {Q : Unit → Shared → Prop} (F : Fr h₀ L s.heap m) (N : News h₀ L s.heap ((D, byaObj b) :: led)) (hoff : ∀ p ∈ led, p.1 ≠ D) (hz : b.size ≤ 1000) (h0 : 0 ≤ k) (hk : k < b.size) (hv0 : 0 ≤ v) (hv : v < 256)
    (h : ∀ h', Fr h₀ L h' m → News h₀ L h' ((D, byaObj (b.setIfInBounds k.toNat v.toNat.toUInt8)) :: led) → Q () { s with heap := h' }) : wpAny (model prog w) A (setItem (.ref D) (.int k t) (.int v u)) Q E s := by
  have hD := N _ (.head _)
  refine set_bya hD.1 hz h0 hk hv0 hv fun h' g' hs => h h' (F.change hs hD.2.1 hD.2.2) fun p hp => ?_
  rcases List.mem_cons.mp hp with rfl | hp
  · exact ⟨g', hD.2⟩
  · exact ⟨(hs.2 p.1 (hoff p hp)).trans (N p (.tail _ hp)).1, (N p (.tail _ hp)).2⟩
theorem bytes_bya_led {D : Addr} {b : Array UInt8} {led : Led} {Q : Value → Shared → Prop} (N : News h₀ L s.heap led) (hm : (D, byaObj b) ∈ led) (hz : b.size ≤ 1000) (hQ : ∀ t k, Q (.bytes b t) { s with toks := k }) : wpAny (model prog w) A (call (.type "bytes") [.ref D]) Q E s :=
  bytes_bya (N _ hm).1 hz hQ
end
/-- the words of w octets, each turned about, as far as i + j octets -/
def swpJ (ts : List UInt8) (w i : Nat) : Nat → Array UInt8 → Array UInt8
  | 0, b => b
  | j + 1, b => (swpJ ts w i j b).setIfInBounds (i + w - 1 - j) (ts.getD (i + j) 0)
theorem swpJ_size {ts : List UInt8} {w i : Nat} : ∀ {j : Nat} {b : Array UInt8}, (swpJ ts w i j b).size = b.size
  | 0, _ => rfl
  | j + 1, b => by
    show ((swpJ ts w i j b).setIfInBounds _ _).size = _
    rw [Array.size_setIfInBounds, swpJ_size]
def swpI (ts : List UInt8) (w : Nat) : Nat → Array UInt8 → Array UInt8
  | 0, b => b
  | i + 1, b => swpJ ts w (i * w) w (swpI ts w i b)
theorem swpI_size {ts : List UInt8} {w : Nat} : ∀ {i : Nat} {b : Array UInt8}, (swpI ts w i b).size = b.size
  | 0, _ => rfl
  | i + 1, b => by
    show (swpJ _ _ _ _ _).size = _
    rw [swpJ_size, swpI_size]
theorem news_swp {g h : Heap} {L' : Addr} {a b : Addr × Obj} {r : Led} (N : News g L' h (a :: b :: r)) : News g L' h (b :: a :: r) := news_sub N fun p hp => by
  simp only [List.mem_cons] at hp ⊢
  grind
theorem off_cons2 {l a : Addr} {o : Obj} {led : Led} (h : a ≠ l) (H : ∀ p ∈ led, p.1 ≠ l) : ∀ p ∈ (a, o) :: led, p.1 ≠ l := fun p hp => by
  rcases List.mem_cons.mp hp with rfl | hp
  · exact h
  · exact H p hp
theorem byte_of (x : UInt8) : ((x.toNat : Int)).toNat.toUInt8 = x := by
  rw [Int.toNat_natCast]
  exact UInt8.ofNat_toNat
end Mine

namespace Mine
open LCg
/-! a comprehension over an iterator that hands out pairs (enumerate, zip) -/
section
variable {prog : Program} {w : World} {A : Around} {s s₂ : Shared} {env : Env} {h₀ : Heap} {L : Addr} {m : Str → Option Value}
theorem comp_blockK {elt target iter : Expr} {ifs : List Expr} {scope : Scope} {cl : List (Str × Addr)} {pos : Pos} {I : Addr} {fp wr ks : List Addr} {n : Nat} {P Md : Nat → Value → Heap → Prop} {St : Nat → Heap → Prop} {nx : Led}
    {Has : Nat → (Str → Option Value) → Prop} {RR : Value → Addr → Result → Shared → Prop} (J : Nat → List Value → Prop)
    (W : KTurns prog w A target I fp wr n P Md St) (self : ∀ (s : Shared) (Q : Value → Shared → Prop), St 0 s.heap → Q (.ref I) s → wpAny (model prog w) A (pyIter (.ref I)) Q nah s) (hsz : n ≤ sizeLine)
    (hob : ∀ i h, St i h → ∃ own : Led, own.map (·.1) = ks ∧ ∀ p ∈ own, h.get? p.1 = some p.2)
    (hks : ∀ b ∈ ks, h₀.get? b = none ∧ b ≠ L ∧ b < s₂.heap.objs.size ∧ ∀ p ∈ nx, p.1 ≠ b) (hwr : ∀ b ∈ wr, b ∈ ks)
    (hfp : ∀ b ∈ fp, b ∈ ks ∨ (∃ q, h₀.get? b = some q) ∨ ∃ o, (b, o) ∈ nx)
    (hcell : ∀ y ∈ scope.names, y.2 ≠ .cell) (hkind : scope.kind = .function) (hst : St 0 s₂.heap) (F : Fr h₀ L s₂.heap m) (N : News h₀ L s₂.heap nx)
    (asg : ∀ i v C m' (s' : Shared) (Q' : Unit → Shared → Prop), i < n → P i v s'.heap → s'.heap.Ns C m' →
      (∀ h' tk' m₂, (∀ b o, b ≠ C → s'.heap.get? b = some o → h'.get? b = some o) → h'.Ns C m₂ → Has i m₂ → Q' () { s' with heap := h', toks := tk' }) → wpAny (model prog w) A (assign target (compEnvC scope cl C env) v) Q' nah s')
    (j0 : J 0 [])
    (turn : ∀ i ys own C oC D m₂ h tk, i < n → own.map (·.1) = ks → J i ys → NsObj oC m₂ → Has i m₂ → Fr h₀ L h m → News h₀ L h (own ++ (C, oC) :: (D, lst ys) :: nx) → (∀ p ∈ own, p.1 ≠ C ∧ p.1 ≠ D) → (∀ p ∈ nx, p.1 ≠ C ∧ p.1 ≠ D ∧ p.1 ∉ ks) → (@Ne Nat C D) →
      CompTurn prog w A h₀ L m elt ifs (compEnvC scope cl C env) { s₂ with heap := h, toks := tk } (own ++ (C, oC) :: (D, lst ys) :: nx) (fun y => J (i + 1) (ys ++ [y])) (J (i + 1) ys))
    (hRR : ∀ D C h tk m' ys, Fr h₀ L h m → News h₀ L h ((D, lst ys) :: nx) → h.Ns C m' → h₀.get? C = none → C ≠ L → C ≠ D → (∀ p ∈ nx, p.1 ≠ C) → (∀ p ∈ nx, p.1 ≠ D) → ys.length ≤ n → J n ys → RR (.ref D) C (.ok .next) { s₂ with heap := h, toks := tk }) :
    wpAny (model prog w) A (newList []) (fun acc s₃ => wpAny (model prog w) A (newFunctionEnv scope env.globals cl [] env.qual none .none (some env)) (fun cenv s₄ =>
      codeAny (model prog w) A (.compStart (.ListComp elt [⟨target, iter, ifs, 0⟩] scope pos) 0 (.ref I) acc { cenv with scope := relabel scope env }) (RR acc cenv.locals) s₄) nah s₃) nah s₂ := by
  refine wpAny_newObj_type (wpAny_newFunctionEnv hcell (by intro y hy; simp at hy) (fun h₁ hns₁ hsb₁ => ?_) hkind)
  dsimp only at hns₁ hsb₁ ⊢
  generalize hD : s₂.heap.objs.size = D at hns₁ hsb₁ ⊢
  generalize hH : s₂.heap.push { cls := .type "list", dict := none, data := .seq ([] : List Value).toArray } = H at hns₁ hsb₁ ⊢
  generalize hC : H.objs.size = C at hns₁ hsb₁ ⊢
  have hCD : C = D + 1 := by rw [← hC, ← hH, Heap.size_push, hD]
  have small : ∀ b : Nat, b < D → @Ne Nat b C ∧ @Ne Nat b D := fun b hb => ⟨by omega, by omega⟩
  have old : ∀ b o, s₂.heap.get? b = some o → h₁.get? b = some o := fun b o e => by
    have hb : @LT.lt Nat _ b D := hD ▸ Heap.lt_size e
    exact hsb₁.extBut b o (small b hb).1 (Heap.get?_push_of_some _ (hH ▸ Heap.get?_push_of_some _ e))
  have accD : h₁.get? D = some (lst []) := by
    refine hsb₁.extBut _ _ (show @Ne Nat D C by omega) (Heap.get?_push_of_some _ ?_)
    rw [← hH, ← hD]
    exact Heap.get?_push_size _ rfl
  have none₀ : ∀ a : Nat, D ≤ a → h₀.get? a = none := fun a ha => by
    cases e : h₀.get? a with
    | none => rfl
    | some o =>
      have := Heap.lt_size (F.keep a o e)
      rw [hD] at this
      exact absurd this (Nat.not_lt.mpr ha)
  have hLD : @LT.lt Nat _ L D := hD ▸ F.ns.lt
  have ksD : ∀ b ∈ ks, @LT.lt Nat _ b D := fun b hb => hD ▸ (hks b hb).2.2.1
  have nxD : ∀ p ∈ nx, @LT.lt Nat _ p.1 D := fun p hp => hD ▸ Heap.lt_size (N p hp).1
  have nwr : ∀ b, b ∉ ks → b ∉ wr := fun b h1 h2 => h1 (hwr b h2)
  have hLk : L ∉ ks := fun h => (hks L h).2.1 rfl
  have nxk : ∀ p ∈ nx, p.1 ∉ ks := fun p hp h => (hks _ h).2.2.2 p hp rfl
  have hDk : D ∉ ks := fun h => Nat.lt_irrefl _ (ksD D h)
  have hCk : C ∉ ks := fun h => by have := ksD C h; omega
  have hst₁ : St 0 h₁ := W.frame _ _ _ hst fun b _ o e => old b o e
  have loop : ∀ s₃ : Shared, s₃ = { s₂ with heap := h₁, toks := s₂.toks + ([] : List (Str × Value)).length } →
      codeAny (model prog w) A (.compLoop (.ListComp elt [⟨target, iter, ifs, 0⟩] scope pos) 0 (.ref I) (.ref D) (compEnvC scope cl C env)) (RR (.ref D) C) s₃ := by
    rintro s₃ rfl
    refine comp_loop (fun k s' => ∃ i h tk m' ys, s' = { s₂ with heap := h, toks := tk } ∧ k = n + 1 - i ∧ i ≤ n ∧ ys.length ≤ i ∧ St i h ∧ Fr h₀ L h m ∧ h.Ns C m' ∧ News h₀ L h ((D, lst ys) :: nx) ∧ J i ys) ?_ (n + 1)
      ⟨0, h₁, _, _, [], rfl, rfl, Nat.zero_le _, Nat.le_refl _, hst₁, F.keeps old, hns₁, fun p hp => ?_, j0⟩
    · rintro k s' ⟨i, h, tk, m', ys, rfl, rfl, hi, hy, hst', F', hn', N', hJ⟩
      have keepW : ∀ g : Heap, (∀ b o, b ∉ wr → h.get? b = some o → g.get? b = some o) → Fr h₀ L g m ∧ News h₀ L g ((D, lst ys) :: nx) ∧ g.Ns C m' := fun g hk =>
        ⟨⟨F'.ns.at' fun o e => hk L o (nwr _ hLk) e, fun b o e => hk b o (fun hb => by rw [(hks b (hwr b hb)).1] at e; cases e) (F'.keep b o e), F'.above⟩,
         fun p hp => ⟨hk _ _ (by
          rcases List.mem_cons.mp hp with rfl | hp
          · exact nwr _ hDk
          · exact nwr _ (nxk p hp)) (N' p hp).1, (N' p hp).2⟩, hn'.at' fun o e => hk _ o (nwr _ hCk) e⟩
      by_cases hlt' : i < n
      · refine W.item i _ _ _ hlt' hst' fun v h₂ tk₂ hMd hk₂ => ?_
        refine W.go i v _ _ _ hMd fun h₂' hP hst₂ hk₂' => ?_
        obtain ⟨F₂, N₂, hn₂⟩ := keepW h₂' fun b o hb e => hk₂' b o hb (hk₂ b o hb e)
        refine asg i v C m' _ _ hlt' hP hn₂ fun h₃ tk₃ m₂ hk₃ hn₃ hHas => ?_
        have fpC : ∀ b ∈ fp, ∀ o, h₂'.get? b = some o → @Ne Nat b C := fun b hb o e => by
          rcases hfp b hb with hk | ⟨q, hq⟩ | ⟨q, hq⟩
          · have := ksD b hk; omega
          · have : @LT.lt Nat _ b D := by
              have := Heap.lt_size (F.keep b q hq)
              rw [hD] at this; exact this
            omega
          · have := nxD _ hq
            simp only at this; omega
        have hst₃ : St (i + 1) h₃ := W.frame _ _ _ hst₂ fun b hb o e => hk₃ b o (fpC b hb o e) e
        obtain ⟨own, hown, hget⟩ := hob _ _ hst₃
        obtain ⟨oC, hoC, hNC⟩ := ns_obj hn₃
        have ownk : ∀ p ∈ own, p.1 ∈ ks := fun p hp => hown ▸ List.mem_map_of_mem hp
        have F₃ : Fr h₀ L h₃ m := ⟨F₂.ns.at' fun o e => hk₃ L o (by show @Ne Nat L C; omega) e, fun b o e => hk₃ b o (by
          rintro rfl
          rw [none₀ _ (by omega)] at e; cases e) (F₂.keep b o e), F₂.above⟩
        have N₃ : News h₀ L h₃ (own ++ (C, oC) :: (D, lst ys) :: nx) := fun p hp => by
          rcases List.mem_append.mp hp with hp | hp
          · exact ⟨hget p hp, (hks _ (ownk p hp)).2.1, (hks _ (ownk p hp)).1⟩
          · rcases List.mem_cons.mp hp with rfl | hp
            · exact ⟨hoC, by show @Ne Nat C L; omega, none₀ C (by omega)⟩
            · refine ⟨hk₃ _ _ ?_ (N₂ p hp).1, (N₂ p hp).2⟩
              rcases List.mem_cons.mp hp with rfl | hp
              · show @Ne Nat D C; omega
              · have := nxD p hp; show @Ne Nat p.1 C; omega
        have back : ∀ (ys' : List Value) (h₅ : Heap) (tk₅ : Nat), ys'.length ≤ i + 1 → Fr h₀ L h₅ m → News h₀ L h₅ (own ++ (C, oC) :: (D, lst ys') :: nx) → J (i + 1) ys' →
            ∃ k, k < n + 1 - i ∧ ∃ i h tk m' ys, ({ s₂ with heap := h₅, toks := tk₅ } : Shared) = { s₂ with heap := h, toks := tk } ∧ k = n + 1 - i ∧ i ≤ n ∧ ys.length ≤ i ∧ St i h ∧ Fr h₀ L h m ∧ h.Ns C m' ∧ News h₀ L h ((D, lst ys) :: nx) ∧ J i ys := by
          intro ys' h₅ tk₅ hy₅ F₅ N₅ hJ₅
          refine ⟨n + 1 - (i + 1), by omega, i + 1, h₅, tk₅, m₂, ys', rfl, rfl, hlt', hy₅, ?_, F₅, hNC.ns (N₅ (C, oC) (by simp)).1, fun p hp => N₅ p (by
            rw [List.mem_append]; right; exact .tail _ hp), hJ₅⟩
          refine W.frame _ _ _ hst₃ fun b hb o e => ?_
          rcases hfp b hb with hk | ⟨q, hq⟩ | ⟨q, hq⟩
          · obtain ⟨p, hp, rfl⟩ := List.mem_map.mp (hown ▸ hk)
            rw [hget p hp] at e; cases e
            exact (N₅ p (by simp [hp])).1
          · have e1 := F₃.keep b q hq
            rw [e1] at e; cases e
            exact F₅.keep b _ hq
          · have e1 := (N₃ (b, q) (by simp [hq])).1
            rw [e1] at e; cases e
            exact (N₅ (b, q) (by simp [hq])).1
        have offO : ∀ p ∈ own, p.1 ≠ C ∧ p.1 ≠ D := fun p hp => by
          have := ksD _ (ownk p hp)
          exact ⟨by show @Ne Nat p.1 C; omega, by show @Ne Nat p.1 D; omega⟩
        have offN : ∀ p ∈ nx, p.1 ≠ C ∧ p.1 ≠ D ∧ p.1 ∉ ks := fun p hp => by
          have := nxD p hp
          exact ⟨by show @Ne Nat p.1 C; omega, by show @Ne Nat p.1 D; omega, nxk p hp⟩
        refine wpAny_mono (turn i ys own C oC D m₂ h₃ tk₃ hlt' hown hJ hNC hHas F₃ N₃ offO offN (by omega)) (fun ok s₃ hT => ?_) fun _ _ x => x
        cases ok with
        | false =>
          simp only [Bool.false_eq_true, if_false] at hT ⊢
          obtain ⟨h₅, tk₅, rfl, F₅, N₅, hJ₅⟩ := hT
          exact back ys h₅ tk₅ (by omega) F₅ N₅ hJ₅
        | true =>
          simp only [if_true] at hT ⊢
          refine wpAny_mono hT (fun y s₄ hY => ?_) fun _ _ x => x
          obtain ⟨h₄, tk₄, rfl, F₄, N₄, hJ₄⟩ := hY
          have zD : h₄.get? D = some (lst ys) := (N₄ (D, lst ys) (by simp)).1
          refine append_at (hsz := by show ys.toArray.size ≤ sizeLine; rw [List.size_toArray]; omega) zD fun h₅ hs₅ hD₅ => ?_
          refine back (ys ++ [y]) h₅ tk₄ (by simp; omega) (F₄.change hs₅ (by show @Ne Nat D L; omega) (none₀ D (Nat.le_refl _))) (fun p hp => ?_) hJ₄
          have keep : ∀ q, q ∈ own ++ (C, oC) :: (D, lst ys) :: nx → q.1 ≠ D → h₅.get? q.1 = some q.2 ∧ q.1 ≠ L ∧ h₀.get? q.1 = none := fun q hq hne => ⟨hs₅.extBut _ _ hne (N₄ q hq).1, (N₄ q hq).2⟩
          rcases List.mem_append.mp hp with hp | hp
          · exact keep p (by simp [hp]) (offO p hp).2
          · rcases List.mem_cons.mp hp with rfl | hp
            · exact keep _ (by simp) (by show @Ne Nat C D; omega)
            · rcases List.mem_cons.mp hp with rfl | hp
              · exact ⟨hD₅.trans (congrArg some (lst_snoc ys y)), by show @Ne Nat D L; omega, none₀ D (Nat.le_refl _)⟩
              · exact keep p (by simp [hp]) (offN p hp).2.1
      · have hin : i = n := by omega
        subst hin
        refine W.done _ _ _ hst' fun h₂ tk₂ hk₂ => ?_
        obtain ⟨F₂, N₂, hn₂⟩ := keepW h₂ hk₂
        exact hRR D C h₂ tk₂ m' ys F₂ N₂ hn₂ (none₀ C (by omega)) (by show @Ne Nat C L; omega) (by show @Ne Nat C D; omega) (fun p hp => by have := nxD p hp; show @Ne Nat p.1 C; omega) (fun p hp => by have := nxD p hp; show @Ne Nat p.1 D; omega) hy hJ
    · rcases List.mem_cons.mp hp with rfl | hp
      · exact ⟨accD, by show @Ne Nat D L; omega, none₀ D (Nat.le_refl _)⟩
      · exact ⟨old _ _ (N p hp).1, (N p hp).2⟩
  exact codeAny_compStart_list (loop _ rfl) (noRaise (self _ _ hst₁ (loop _ rfl)))
end
end Mine

namespace Mine
open Builtin AutoSeq1
/-! enumerate of a tuple -/
set_option maxRecDepth 100000 in
theorem meets_enumerate_newT (l : Addr) (items : Array Value) (n : Nat) (dct : Option Addr) (sl : Array (Option Value)) :
    Meets (Builtin.«enumerate.__new__» ⟨[.type "enumerate", .ref l], []⟩) (fun _ R s => s.heap.get? l = some { cls := .type "tuple", dict := dct, data := .seq items n, slots := sl } ∧
      R (.ok (.ret (.ref (s.heap.push { cls := .type "tuple_iterator", data := .fields #[.ref l, .int 0 0] }).objs.size)))
        { s with heap := (s.heap.push { cls := .type "tuple_iterator", data := .fields #[.ref l, .int 0 0] }).push { cls := .type "enumerate", data := .fields #[.none, .bool false, .ref s.heap.objs.size, rawInt 0, .none, .none] } }) :=
  .of_wp fun prog w A R s h => by
    obtain ⟨hp, g, d, tk, os⟩ := s; obtain ⟨hl, h⟩ := h
    have hsub := sub_enumerate
    have hL : Heap.IsTuple (Shared.heap ⟨hp, g, d, tk, os⟩) l items := ⟨_, hl, rfl, n, rfl⟩
    wp_walk using wpAny_loadPart' hl
    refine wpAny_stack_any fun st => wpAny_pure ?_
    split
    · rename_i c _ _ _ _ _
      cases (c == Value.type "enumerate")
      · wp_walk using wpAny_loadPart' hl, wpAny_pyIter_tuple hL
        exact ⟨_, rfl, h⟩
      · wp_walk using wpAny_loadPart' hl, wpAny_pyIter_tuple hL
        exact ⟨_, rfl, h⟩
    · wp_walk using wpAny_loadPart' hl, wpAny_pyIter_tuple hL
      exact ⟨_, rfl, h⟩
section
variable {prog : Program} {w : World} {A : Around} {E : Value → Shared → Prop} {s : Shared}
theorem call_enumerate_tuple {l : Addr} {items : Array Value} {Q : Value → Shared → Prop} (hL : s.heap.IsTuple l items)
    (h : ∀ h', IsEnum h' (s.heap.objs.size + 1) s.heap.objs.size 0 .none → h'.IsTupleIter s.heap.objs.size l 0 → h'.objs.size = s.heap.objs.size + 2 →
      (∀ b o, s.heap.get? b = some o → h'.get? b = some o) → Q (.ref (s.heap.objs.size + 1)) { s with heap := h' }) :
    wpAny (model prog w) A (call (.type "enumerate") [.ref l]) Q E s := by
  obtain ⟨⟨c, dct, dt, sl⟩, hl, hc, n, hd⟩ := hL
  replace hc : c = .type "tuple" := hc
  replace hd : dt = .seq items n := hd
  subst hc hd
  refine callType_new F.called_enumerate (by decide) (F.typeCall_enumerate_1 _) (F.newCall_enumerate_1 _) (fun obj => F.args_object_init_2 obj _) F.entry_enumerate_new
    (meets_enumerate_newT l items n dct sl) ⟨hl, ?_⟩
  have hz : (s.heap.push { cls := .type "tuple_iterator", data := .fields #[.ref l, .int 0 0] }).objs.size = s.heap.objs.size + 1 := Heap.size_push ..
  show _ ∧ _
  rw [hz]
  have he : IsEnum ((s.heap.push { cls := .type "tuple_iterator", data := .fields #[.ref l, .int 0 0] }).push
      { cls := .type "enumerate", data := .fields #[.none, .bool false, .ref s.heap.objs.size, rawInt 0, .none, .none] }) (s.heap.objs.size + 1) s.heap.objs.size 0 .none := by
    have := Heap.get?_push_size (s.heap.push { cls := .type "tuple_iterator", data := .fields #[.ref l, .int 0 0] })
      (o := { cls := .type "enumerate", data := .fields #[.none, .bool false, .ref s.heap.objs.size, rawInt 0, .none, .none] }) rfl
    rw [hz] at this; exact this
  refine ⟨⟨_, he, rfl⟩, h _ he ⟨_, Heap.get?_push_of_some _ (Heap.get?_push_size _ rfl), rfl, rfl⟩ (by rw [Heap.size_push, hz]) fun b o x => Heap.get?_push_of_some _ (Heap.get?_push_of_some _ x)⟩
theorem nextOf_tuple_item {it t : Addr} {i : Nat} {items} {x : Value} {Q : Value → Shared → Prop} (hit : s.heap.IsTupleIter it t i)
    (ht : s.heap.IsTuple t items) (hx : items[i]? = some x)
    (hQ : ∀ h', h'.IsTupleIter it t (i + 1) → Heap.SameBut it s.heap h' → Q x { s with heap := h' }) :
    wpAny (model prog w) A (Builtin.SmallTypes.nextOf (.ref it)) Q E s := by
  obtain ⟨o, ho, hc, hd⟩ := id hit
  obtain ⟨ol, hol, _, nl, hdl⟩ := ht
  unfold Builtin.SmallTypes.nextOf
  refine wpAny_bind (wpAny_callSpecial?_slot (name := Str.ofString "__next__") hit.typeIs F.slot_tuple_iterator_next
    (wpAny_call_entry F.slot_tuple_iterator_next hit.typeIs F.entry_tuple_iterator_next ?_ (F.args_tuple_iterator_next_1 _)))
  show wpAny _ _ (field (.ref it) 0 >>= _) _ _ s
  refine wpAny_bind (wpAny_field ho hd (x := .ref t) rfl ?_)
  show wpAny _ _ (if (Value.ref t == Value.none) = true then _ else _) _ _ s
  rw [if_neg (show ¬ ((Value.ref t == Value.none) = true) from Bool.false_ne_true)]
  show wpAny _ _ (field (.ref it) 1 >>= _) _ _ s
  refine wpAny_bind (wpAny_field ho hd (x := .int i 0) rfl ?_)
  show wpAny _ _ (seqItems? (.ref t) >>= _) _ _ s
  refine wpAny_bind (wpAny_seqItems hol hdl ?_)
  simp only [Int.toNat_natCast, hx]
  refine wpAny_bind (wpAny_setField ho hd (by simp) (wpAny_pure ⟨x, rfl, wpAny_pure (hQ _ ?_ (Heap.SameBut.update ..))⟩))
  exact ⟨_, Heap.get?_update_self _ ho (Obj.isFreed_of_fields (Obj.data_mapFields hd _)), (Obj.cls_mapFields ..).trans hc, by
    rw [Obj.data_mapFields hd]; simp [rawInt]⟩
theorem nextOf_tuple_end {it t : Addr} {i : Nat} {items} {Q : Value → Shared → Prop} (hh : A.handled = none)
    (hit : s.heap.IsTupleIter it t i) (ht : s.heap.IsTuple t items) (hx : items[i]? = none)
    (hE : ∀ h' e, Heap.ExtBut it s.heap h' → (∃ o, h'.get? e = some o ∧ o.cls = .type "StopIteration") → E (.ref e) { s with heap := h' }) :
    wpAny (model prog w) A (Builtin.SmallTypes.nextOf (.ref it)) Q E s := by
  obtain ⟨o, ho, hc, hd⟩ := id hit
  obtain ⟨ol, hol, _, nl, hdl⟩ := ht
  unfold Builtin.SmallTypes.nextOf
  refine wpAny_bind (wpAny_callSpecial?_slot (name := Str.ofString "__next__") hit.typeIs F.slot_tuple_iterator_next
    (wpAny_call_entry F.slot_tuple_iterator_next hit.typeIs F.entry_tuple_iterator_next ?_ (F.args_tuple_iterator_next_1 _)))
  show wpAny _ _ (field (.ref it) 0 >>= _) _ _ s
  refine wpAny_bind (wpAny_field ho hd (x := .ref t) rfl ?_)
  show wpAny _ _ (if (Value.ref t == Value.none) = true then _ else _) _ _ s
  rw [if_neg (show ¬ ((Value.ref t == Value.none) = true) from Bool.false_ne_true)]
  show wpAny _ _ (field (.ref it) 1 >>= _) _ _ s
  refine wpAny_bind (wpAny_field ho hd (x := .int i 0) rfl ?_)
  show wpAny _ _ (seqItems? (.ref t) >>= _) _ _ s
  refine wpAny_bind (wpAny_seqItems hol hdl ?_)
  simp only [Int.toNat_natCast, hx]
  refine wpAny_bind (wpAny_rule (wpAny_bind (wpAny_setField ho hd (by simp) ?_)))
  show wpAny _ _ (newExc (.type "StopIteration") [] >>= _) _ _ _
  refine wpAny_bind ?_
  simp only [newExc, newTuple]
  refine wpAny_bind (wpAny_newObj_type ?_ (by size_fits))
  refine wpAny_bind (m := firstArgMember _ _) (wpAny_of_eq (a := Value.none) (by first | rfl | (simp only [firstArgMember]; rfl)) ?_)
  refine wpAny_newObj_type ?_ (by size_fits)
  simp only [raiseNew]
  refine wpAny_bind (wpAny_handled ?_)
  first | rw [show A.in1.handled = none from hh] | rw [hh]
  refine wpAny_bind (wpAny_pure (wpAny_throw ?_))
  exact hE _ _ (((Heap.SameBut.update ..).extBut.push _).push _) ⟨_, Heap.get?_push_size _ rfl, rfl⟩
end
theorem drawsTuple {prog : Program} {w : World} {A : Around} (hh : A.handled = none) (it l : Addr) (hne : l ≠ it) (items : Array Value) :
    Draws prog w A it [it, l] items.size (fun i v => items[i]? = some v) (fun i h => h.IsTupleIter it l i ∧ h.IsTuple l items) where
  live := fun _ _ st => let ⟨o, ho, _⟩ := st.1; ⟨o, ho⟩
  frame := fun _ _ _ st hk => ⟨st.1.at fun o e => hk it (by simp) o e, st.2.at fun o e => hk l (by simp) o e⟩
  item := fun i s Q E hi st hQ => by
    refine nextOf_tuple_item st.1 st.2 (x := items[i]) (by simp [hi]) fun h' hit' hs' => ?_
    exact hQ _ h' s.toks (by simp [hi]) ⟨hit', st.2.extBut hs'.extBut hne⟩ hs'
  done := fun s Q E st hE => nextOf_tuple_end hh st.1 st.2 (by simp) hE
end Mine

namespace Mine
open LCg
theorem own_two {own : Led} {a b : Addr} (h : own.map (·.1) = [a, b]) : ∃ oa ob, own = [(a, oa), (b, ob)] := by
  cases own with
  | nil => cases h
  | cons p r =>
    cases r with
    | nil => cases (List.cons.inj h).2
    | cons q r =>
      cases r with
      | nil =>
        have h1 : p.1 = a := (List.cons.inj h).1
        have h2 : q.1 = b := (List.cons.inj (List.cons.inj h).2).1
        exact ⟨p.2, q.2, by rw [← h1, ← h2]⟩
      | cons q' r => cases (List.cons.inj (List.cons.inj h).2).2
section
variable {prog : Program} {w : World} {A : Around} {s s₂ : Shared} {env : Env} {h₀ : Heap} {L : Addr} {m : Str → Option Value}
/-- two names take a pair's parts -/
theorem asg_pair {x x₂ : Str} {px px₂ tp : Pos} {k} {scope : Scope} {cl : List (Str × Addr)} {T C : Addr} {v₁ v₂ : Value} {m' : Str → Option Value} {s' : Shared} {Q' : Unit → Shared → Prop} (hh : A.handled = none) (hkind : scope.kind = .function)
    (hx : scope.names.lookup x = some .local) (hx₂ : scope.names.lookup x₂ = some .local) (hxx : x ≠ x₂) (ht : IsTup s'.heap T #[v₁, v₂]) (hn : s'.heap.Ns C m')
    (h : ∀ h' tk' m₂, (∀ b o, b ≠ C → s'.heap.get? b = some o → h'.get? b = some o) → h'.Ns C m₂ → m₂ x = some v₁ → m₂ x₂ = some v₂ → Q' () { s' with heap := h', toks := tk' }) :
    wpAny (model prog w) A (assign (.Tuple [.Name x px, .Name x₂ px₂] k tp) (compEnvC scope cl C env) (.ref T)) Q' nah s' := by
  refine assign_Tuple_tuple hh ht rfl rfl fun h₅ he => ?_
  have hne : ∀ b o, s'.heap.get? b = some o → h₅.get? b = some o := fun b o e => he b o (Nat.ne_of_lt (Heap.lt_size e)) e
  refine assignInOrder_cons (wpAny_assign_Name (wpAny_storeName_local (lookup_relabel_local hx) (hn.at' fun o e => hne _ o e) (fun h₆ hn₆ hs₆ => ?_) (by simp [compEnvC, relabel, hkind])))
  refine assignInOrder_cons (wpAny_assign_Name (wpAny_storeName_local (lookup_relabel_local hx₂) hn₆ (fun h₃ hn₃ hs₃ => ?_) (by simp [compEnvC, relabel, hkind])))
  refine assignInOrder_nil ?_
  exact h h₃ _ _ (fun b o hb e => hs₃.extBut b o hb (hs₆.extBut b o hb (hne b o e))) hn₃ (by simp [hxx]) (by simp)
/-- [.. for i, x in enumerate(..)] -/
theorem comp_enumD {elt iter : Expr} {ifs : List Expr} {scope : Scope} {cl : List (Str × Addr)} {pos : Pos} {x x₂ : Str} {px px₂ tp : Pos} {k : Nat} {e it l : Addr} {n : Nat} {Pd : Nat → Value → Prop} {Sd : Nat → Heap → Prop} {nx : Led} {RR : Value → Addr → Result → Shared → Prop} (J : Nat → List Value → Prop)
    (hh : A.handled = none) (D : Draws prog w A.in1 it [it, l] n Pd Sd) (hei : e ≠ it) (hel : e ≠ l) (he : IsEnum s₂.heap e it 0 .none) (hsd : Sd 0 s₂.heap) (hsz : n ≤ sizeLine)
    (hks : ∀ b ∈ [e, it], h₀.get? b = none ∧ b ≠ L ∧ b < s₂.heap.objs.size ∧ ∀ p ∈ nx, p.1 ≠ b) (hl : (∃ q, h₀.get? l = some q) ∨ ∃ o, (l, o) ∈ nx)
    (hcell : ∀ y ∈ scope.names, y.2 ≠ .cell) (hkind : scope.kind = .function) (hx : scope.names.lookup x = some .local) (hx₂ : scope.names.lookup x₂ = some .local) (hxx : x ≠ x₂) (F : Fr h₀ L s₂.heap m) (N : News h₀ L s₂.heap nx) (j0 : J 0 [])
    (turn : ∀ i t y ys oe oi C oC D m₂ h tk, i < n → Pd i y → J i ys → NsObj oC m₂ → m₂ x = some (.int (i : Int) t) → m₂ x₂ = some y → Fr h₀ L h m → News h₀ L h ((e, oe) :: (it, oi) :: (C, oC) :: (D, lst ys) :: nx) →
      ((@Ne Nat e C) ∧ (@Ne Nat e D) ∧ (@Ne Nat it C) ∧ (@Ne Nat it D) ∧ (@Ne Nat C D)) → (∀ p ∈ nx, p.1 ≠ C ∧ p.1 ≠ D) →
      CompTurn prog w A h₀ L m elt ifs (compEnvC scope cl C env) { s₂ with heap := h, toks := tk } ((e, oe) :: (it, oi) :: (C, oC) :: (D, lst ys) :: nx) (fun y => J (i + 1) (ys ++ [y])) (J (i + 1) ys))
    (fin : CompDone h₀ L m nx n J s₂ RR) :
    wpAny (model prog w) A (pyIter (.ref e)) (CompGo prog w A env (.ListComp elt [⟨.Tuple [.Name x px, .Name x₂ px₂] k tp, iter, ifs, 0⟩] scope pos) scope cl RR) nah s₂ := by
  refine wpAny_pyIter_enum he ?_
  have hef : e ∉ [it, l] := fun h => by
    rcases List.mem_cons.mp h with h | h
    · exact hei h
    · exact hel (List.mem_singleton.mp h)
  have W := KTurns.ofWalksU (elts := [.Name x px, .Name x₂ px₂]) (k := k) (pos := tp) (WalksT.enumerateD D e hei hef (.head _)).toU
  refine comp_blockK (ks := [e, it]) (Has := fun i m₂ => ∃ t y, Pd i y ∧ m₂ x = some (.int (i : Int) t) ∧ m₂ x₂ = some y) J W ?_ hsz ?_ hks (fun b hb => hb) ?_ hcell hkind ⟨⟨.none, he⟩, hsd⟩ F N ?_ j0 ?_ ?_
  · rintro s Q ⟨⟨old, h1⟩, _⟩ hq
    exact wpAny_pyIter_enum h1 hq
  · rintro i h ⟨⟨old, h1⟩, h2⟩
    obtain ⟨oi, hoi⟩ := D.live _ _ h2
    have h3 : ∃ oe, h.get? e = some oe := ⟨_, h1⟩
    obtain ⟨oe, hoe⟩ := h3
    refine ⟨[(e, oe), (it, oi)], rfl, fun p hp => ?_⟩
    rcases List.mem_cons.mp hp with rfl | hp
    · exact hoe
    · rw [List.mem_singleton.mp hp]; exact hoi
  · intro b hb
    simp only [List.mem_cons, List.not_mem_nil, or_false] at hb
    rcases hb with rfl | rfl | rfl
    · exact .inl (by simp)
    · exact .inl (by simp)
    · exact .inr hl
  · rintro i v C m' s' Q' hi ⟨T, vals, rfl, ⟨t, y, hy, rfl⟩, hT⟩ hn h
    exact asg_pair hh hkind hx hx₂ hxx hT hn fun h' tk' m₂ hk hn' e1 e2 => h h' tk' m₂ hk hn' ⟨t, y, hy, e1, e2⟩
  · rintro i ys own C oC D' m₂ h tk hi hown hJ hNC ⟨t, y, hy, e1, e2⟩ F' N' o1 o2 o3
    obtain ⟨oe, oi, rfl⟩ := own_two hown
    exact turn i t y ys oe oi C oC D' m₂ h tk hi hy hJ hNC e1 e2 F' N' ⟨(o1 (e, oe) (.head _)).1, (o1 (e, oe) (.head _)).2, (o1 (it, oi) (.tail _ (.head _))).1, (o1 (it, oi) (.tail _ (.head _))).2, o3⟩ fun p hp => ⟨(o2 p hp).1, (o2 p hp).2.1⟩
  · intro D' C h tk m' ys F' N' hn hC₀ hCL hCD offC offD hy hJ
    exact fin D' C h tk m' ys F' N' hn hC₀ hCL hCD offC offD hy hJ
/-- the same over a tuple of the ledger, from the call on -/
theorem comp_enum_tup {elt iter : Expr} {ifs : List Expr} {scope : Scope} {cl : List (Str × Addr)} {pos : Pos} {x x₂ : Str} {px px₂ tp : Pos} {k : Nat} {l : Addr} {vs : List Value} {nn : Nat} {nx : Led} {RR : Value → Addr → Result → Shared → Prop} (J : Nat → List Value → Prop)
    (hh : A.handled = none) (F : Fr h₀ L s.heap m) (N : News h₀ L s.heap nx) (hl : (l, ({ cls := .type "tuple", data := .seq vs.toArray nn } : Obj)) ∈ nx) (hsz : vs.length ≤ sizeLine)
    (hcell : ∀ y ∈ scope.names, y.2 ≠ .cell) (hkind : scope.kind = .function) (hx : scope.names.lookup x = some .local) (hx₂ : scope.names.lookup x₂ = some .local) (hxx : x ≠ x₂) (j0 : J 0 [])
    (turn : ∀ e it i t y ys oe oi C oC D m₂ h tk, vs[i]? = some y → J i ys → NsObj oC m₂ → m₂ x = some (.int (i : Int) t) → m₂ x₂ = some y → Fr h₀ L h m → News h₀ L h ((e, oe) :: (it, oi) :: (C, oC) :: (D, lst ys) :: nx) →
      ((@Ne Nat e C) ∧ (@Ne Nat e D) ∧ (@Ne Nat it C) ∧ (@Ne Nat it D) ∧ (@Ne Nat C D)) → (∀ p ∈ nx, p.1 ≠ C ∧ p.1 ≠ D) →
      CompTurn prog w A h₀ L m elt ifs (compEnvC scope cl C env) { s with heap := h, toks := tk } ((e, oe) :: (it, oi) :: (C, oC) :: (D, lst ys) :: nx) (fun y => J (i + 1) (ys ++ [y])) (J (i + 1) ys))
    (fin : ∀ h, CompDone h₀ L m nx vs.length J { s with heap := h } RR) :
    wpAny (model prog w) A (call (.type "enumerate") [.ref l]) (fun xv s₁ => wpAny (model prog w) A (pyIter xv) (CompGo prog w A env (.ListComp elt [⟨.Tuple [.Name x px, .Name x₂ px₂] k tp, iter, ifs, 0⟩] scope pos) scope cl RR) nah s₁) nah s := by
  have hol := (N _ hl).1
  have hlt := Heap.lt_size hol
  have hT : s.heap.IsTuple l vs.toArray := ⟨_, hol, rfl, nn, rfl⟩
  refine call_enumerate_tuple hT fun h' hE hI hsize hk => ?_
  have D := drawsTuple (prog := prog) (w := w) (A := A.in1) hh s.heap.objs.size l (Nat.ne_of_lt hlt) vs.toArray
  have hn : vs.toArray.size = vs.length := by simp
  rw [hn] at D
  refine comp_enumD (s₂ := { s with heap := h' }) J hh D (Nat.ne_of_gt (Nat.lt_succ_self _)) (Nat.ne_of_gt (Nat.lt_succ_of_lt hlt)) hE ⟨hI, hT.at fun o e => hk _ o e⟩ hsz ?_ (.inr ⟨_, hl⟩) hcell hkind hx hx₂ hxx (F.keeps hk) (fun p hp => ⟨hk _ _ (N p hp).1, (N p hp).2⟩) j0 ?_ (fin h')
  · intro b hb
    simp only [List.mem_cons, List.not_mem_nil, or_false] at hb
    have hLs : @LT.lt Nat _ L s.heap.objs.size := F.ns.lt
    have none₀ : ∀ a : Nat, s.heap.objs.size ≤ a → h₀.get? a = none := fun a ha => by
      cases q : h₀.get? a with
      | none => rfl
      | some o => exact absurd (Heap.lt_size (F.keep a o q)) (Nat.not_lt.mpr ha)
    rcases hb with rfl | rfl
    · refine ⟨none₀ _ (Nat.le_succ _), Nat.ne_of_gt (Nat.lt_succ_of_lt hLs), ?_, fun p hp => Nat.ne_of_lt (Nat.lt_succ_of_lt (Heap.lt_size (N p hp).1))⟩
      show s.heap.objs.size + 1 < h'.objs.size
      rw [hsize]; exact Nat.lt_succ_self _
    · refine ⟨none₀ _ (Nat.le_refl _), Nat.ne_of_gt hLs, ?_, fun p hp => Nat.ne_of_lt (Heap.lt_size (N p hp).1)⟩
      show s.heap.objs.size < h'.objs.size
      rw [hsize]; exact Nat.lt_succ_of_lt (Nat.lt_succ_self _)
  · intro i t y ys oe oi C oC D m₂ h tk hi hy
    exact turn _ _ i t y ys oe oi C oC D m₂ h tk (by simpa using hy)
/-- the same over a list of the ledger, from the call on -/
theorem comp_enum_lst {elt iter : Expr} {ifs : List Expr} {scope : Scope} {cl : List (Str × Addr)} {pos : Pos} {x x₂ : Str} {px px₂ tp : Pos} {k : Nat} {l : Addr} {vs : List Value} {nn : Nat} {nx : Led} {RR : Value → Addr → Result → Shared → Prop} (J : Nat → List Value → Prop)
    (hh : A.handled = none) (F : Fr h₀ L s.heap m) (N : News h₀ L s.heap nx) (hl : (l, listOf vs.toArray nn) ∈ nx) (hsz : vs.length ≤ sizeLine)
    (hcell : ∀ y ∈ scope.names, y.2 ≠ .cell) (hkind : scope.kind = .function) (hx : scope.names.lookup x = some .local) (hx₂ : scope.names.lookup x₂ = some .local) (hxx : x ≠ x₂) (j0 : J 0 [])
    (turn : ∀ e it i t y ys oe oi C oC D m₂ h tk, vs[i]? = some y → J i ys → NsObj oC m₂ → m₂ x = some (.int (i : Int) t) → m₂ x₂ = some y → Fr h₀ L h m → News h₀ L h ((e, oe) :: (it, oi) :: (C, oC) :: (D, lst ys) :: nx) →
      ((@Ne Nat e C) ∧ (@Ne Nat e D) ∧ (@Ne Nat it C) ∧ (@Ne Nat it D) ∧ (@Ne Nat C D)) → (∀ p ∈ nx, p.1 ≠ C ∧ p.1 ≠ D) →
      CompTurn prog w A h₀ L m elt ifs (compEnvC scope cl C env) { s with heap := h, toks := tk } ((e, oe) :: (it, oi) :: (C, oC) :: (D, lst ys) :: nx) (fun y => J (i + 1) (ys ++ [y])) (J (i + 1) ys))
    (fin : ∀ h, CompDone h₀ L m nx vs.length J { s with heap := h } RR) :
    wpAny (model prog w) A (call (.type "enumerate") [.ref l]) (fun xv s₁ => wpAny (model prog w) A (pyIter xv) (CompGo prog w A env (.ListComp elt [⟨.Tuple [.Name x px, .Name x₂ px₂] k tp, iter, ifs, 0⟩] scope pos) scope cl RR) nah s₁) nah s := by
  have hol := (N _ hl).1
  have hlt := Heap.lt_size hol
  have hT : s.heap.IsList l vs.toArray := ⟨_, hol, rfl, nn, rfl⟩
  refine call_enumerate_list hT fun h' hE hI hsize hk => ?_
  have D := Draws.list (prog := prog) (w := w) (A := A.in1) hh s.heap.objs.size l (Nat.ne_of_lt hlt) vs.toArray
  have hn : vs.toArray.size = vs.length := by simp
  rw [hn] at D
  refine comp_enumD (s₂ := { s with heap := h' }) J hh D (Nat.ne_of_gt (Nat.lt_succ_self _)) (Nat.ne_of_gt (Nat.lt_succ_of_lt hlt)) hE ⟨hI, hT.at fun o e => hk _ o e⟩ hsz ?_ (.inr ⟨_, hl⟩) hcell hkind hx hx₂ hxx (F.keeps hk) (fun p hp => ⟨hk _ _ (N p hp).1, (N p hp).2⟩) j0 ?_ (fin h')
  · intro b hb
    simp only [List.mem_cons, List.not_mem_nil, or_false] at hb
    have hLs : @LT.lt Nat _ L s.heap.objs.size := F.ns.lt
    have none₀ : ∀ a : Nat, s.heap.objs.size ≤ a → h₀.get? a = none := fun a ha => by
      cases q : h₀.get? a with
      | none => rfl
      | some o => exact absurd (Heap.lt_size (F.keep a o q)) (Nat.not_lt.mpr ha)
    rcases hb with rfl | rfl
    · refine ⟨none₀ _ (Nat.le_succ _), Nat.ne_of_gt (Nat.lt_succ_of_lt hLs), ?_, fun p hp => Nat.ne_of_lt (Nat.lt_succ_of_lt (Heap.lt_size (N p hp).1))⟩
      show s.heap.objs.size + 1 < h'.objs.size
      rw [hsize]; exact Nat.lt_succ_self _
    · refine ⟨none₀ _ (Nat.le_refl _), Nat.ne_of_gt hLs, ?_, fun p hp => Nat.ne_of_lt (Heap.lt_size (N p hp).1)⟩
      show s.heap.objs.size < h'.objs.size
      rw [hsize]; exact Nat.lt_succ_of_lt (Nat.lt_succ_self _)
  · intro i t y ys oe oi C oC D m₂ h tk hi hy
    exact turn _ _ i t y ys oe oi C oC D m₂ h tk (by simpa using hy)
end
end Mine

namespace Mine
theorem intsAre_get {vs : List Value} {ns : List Int} (h : IntsAre vs ns) : ∀ {i : Nat} {u : Value}, vs[i]? = some u → ∃ z t, u = .int z t ∧ ns[i]? = some z := by
  induction h with
  | nil => intro i u e; simp at e
  | @cons z t vs ns r ih =>
    intro i u e
    cases i with
    | zero => simp at e; exact ⟨z, t, e.symm, by simp⟩
    | succ i => simp at e; simpa using ih e
theorem ints_pick {vs : List Value} {ns : List Int} (h : IntsAre vs ns) : ∀ idx : List Nat, ∃ ms, IntsAre (idx.filterMap (vs.toArray[·]?)) ms ∧ ∀ z ∈ ms, z ∈ ns
  | [] => ⟨[], .nil, fun z hz => nomatch hz⟩
  | i :: r => by
    obtain ⟨ms, h1, h2⟩ := ints_pick h r
    rw [List.filterMap_cons]
    cases e : vs.toArray[i]? with
    | none => exact ⟨ms, h1, h2⟩
    | some u =>
      obtain ⟨z, t, rfl, hz⟩ := intsAre_get h (i := i) (u := u) (by simpa using e)
      exact ⟨z :: ms, .cons z t h1, fun y hy => by
        rcases List.mem_cons.mp hy with rfl | hy
        · exact List.mem_of_getElem? hz
        · exact h2 y hy⟩
section
variable {prog : Program} {w : World} {A : Around} {E : Value → Shared → Prop} {s : Shared} {h₀ : Heap} {L : Addr} {m : Str → Option Value}
theorem slice3_led {value slice : PySem.Expr} {l : Addr} {vs : List Value} {ns : List Int} {n : Nat} {vl vu vk : Value} {lo hi st : Option Int} {ops : List Value} {news : Led} {Q : Value → Shared → Prop}
    (F : Fr h₀ L s.heap m) (N : News h₀ L s.heap news) (hm : (l, listOf vs.toArray n) ∈ news) (hi' : IntsAre vs ns) (pl : IsPart vl lo) (pu : IsPart vu hi) (pk : IsPart vk st) (h0 : st ≠ some 0)
    (h : ∀ D ws ms h', IntsAre ws ms → (∀ z ∈ ms, z ∈ ns) → ms.length ≤ ns.length → (∀ p ∈ news, p.1 ≠ D) → Fr h₀ L h' m → News h₀ L h' ((D, listOf ws.toArray 0) :: news) → Q (.ref D) { s with heap := h' })
    (hz : vs.length ≤ 1000) (hs : subscripted slice false (.ref l) (.ref s.heap.objs.size) = operate ops (getItem (.ref l) (.ref s.heap.objs.size))) (ht : ∀ r, letTemporaryGo value (.ref l) r = pure ()) :
    wpAny (model prog w) A (subscriptTail value slice (.ref l) (.ref s.heap.objs.size)) Q E { s with heap := s.heap.push { cls := .type "slice", data := .fields #[vl, vu, vk] } } := by
  have hl : s.heap.IsList l vs.toArray := ⟨_, (N _ hm).1, rfl, n, rfl⟩
  obtain ⟨ms, h1, h2⟩ := ints_pick hi' (sliceRange (sliceBounds lo hi st vs.toArray.size).1 (sliceBounds lo hi st vs.toArray.size).2.1 (sliceBounds lo hi st vs.toArray.size).2.2)
  refine slice_list3 F N hl pl pu pk h0 (fun h' F' N' => ?_) hs ht (by rw [sizeLine_eq]; simp; omega)
  refine h _ _ ms h' h1 h2 ?_ (fun p hp => Nat.ne_of_lt (Nat.lt_succ_of_lt (Heap.lt_size (N p hp).1))) F' N'
  have h3 := slicePick_size_le vs.toArray lo hi st
  have h4 := h1.length
  have h5 := hi'.length
  unfold slicePick at h3
  simp only [List.size_toArray] at h3
  simp only [List.size_toArray] at h4
  omega
end
theorem ints_snoc {vs : List Value} {ns : List Int} {z : Int} {t : Tok} (h : IntsAre vs ns) : IntsAre (vs ++ [.int z t]) (ns ++ [z]) := by
  induction h with
  | nil => exact .cons z t .nil
  | cons y u _ ih => exact .cons y u ih
theorem sum_bound {ms : List Int} {b : Int} (hb : 0 ≤ b) (h : ∀ z ∈ ms, 0 ≤ z ∧ z ≤ b) : 0 ≤ ms.sum ∧ ms.sum ≤ b * ms.length := by
  induction ms with
  | nil => simp
  | cons z r ih =>
    have h1 := h z (.head _)
    have h2 := ih fun y hy => h y (.tail _ hy)
    rw [List.sum_cons, List.length_cons]
    have e : b * ((r.length + 1 : Nat) : Int) = b * r.length + b := by rw [Int.natCast_succ, Int.mul_add, Int.mul_one]
    rw [e]
    omega
end Mine
namespace Mine
open LCg
theorem compDone_put {prog : Program} {w : World} {A : Around} {s₂ : Shared} {env : Env} {h₀ : Heap} {L : Addr} {m : Str → Option Value} {nx : Led} {n : Nat} {J : Nat → List Value → Prop} {y : Str} {py : Pos} {R : Value → Shared → Prop} (hL : env.locals = L)
    (hy : env.kindOf y = some .local) (hp : (env.scope.kind == .class || (env.scope.kind == .module && env.locals != env.globals)) = false)
    (fin : ∀ v D h tk ys, Fr h₀ L h (fun z => if z = y then some (.ref D) else m z) → News h₀ L h ((D, lst ys) :: nx) → (∀ p ∈ nx, p.1 ≠ D) → ys.length ≤ n → J n ys → R v { s₂ with heap := h, toks := tk }) :
    CompDone h₀ L m nx n J s₂ (compPost (model prog w) A nah (some (assign (.Name y py) env)) R) := by
  subst hL
  intro D C h tk m' ys F N hn hC₀ hCL hCD offC offD hyn hJ
  show wpAny _ A (PySem.assign (.Name y py) env (.ref D)) _ _ _
  refine wpAny_assign_Name (wpAny_storeName_local hy F.ns (fun h₂ hn₂ hs₂ => ?_) hp)
  have F₂ : Fr h₀ env.locals h₂ (fun z => if z = y then some (.ref D) else m z) := F.set hn₂ hs₂
  have N₂ := N.set hs₂
  refine ⟨m', hn.sameBut hs₂ hCL, fun h'' hs => fin _ D h'' _ ys (F₂.change hs hCL hC₀) (fun p hp => ?_) offD hyn hJ⟩
  refine ⟨hs.extBut _ _ ?_ (N₂ p hp).1, (N₂ p hp).2⟩
  rcases List.mem_cons.mp hp with rfl | hp
  · exact Ne.symm hCD
  · exact offC p hp
end Mine

namespace Mine
/-! zip of two iterators, whatever they draw from; drawing from bytes -/
structure ZipAp (z TI TO i1 i2 : Addr) (fp1 fp2 : List Addr) : Prop where
  TIz : TI ≠ z
  TOz : TO ≠ z
  i1z : i1 ≠ z
  i2z : i2 ≠ z
  TITO : TI ≠ TO
  TIi1 : TI ≠ i1
  TIi2 : TI ≠ i2
  TOi1 : TO ≠ i1
  TOi2 : TO ≠ i2
  i12 : i1 ≠ i2
  z1 : z ∉ fp1
  o1 : TO ∉ fp1
  n1 : i2 ∉ fp1
  z2 : z ∉ fp2
  o2 : TO ∉ fp2
  n2 : i1 ∉ fp2
section
variable {prog : Program} {w : World} {A : Around} {E : Value → Shared → Prop} {s : Shared}
theorem frame_but {it c : Addr} {fp : List Addr} {n k : Nat} {P : Nat → Value → Prop} {St : Nat → Heap → Prop} {h h' : Heap} (D : Draws prog w A it fp n P St) (st : St k h) (hs : Heap.SameBut c h h') (hc : c ∉ fp) : St k h' :=
  D.frame _ _ _ st fun b hb o e => hs.extBut b o (fun x => hc (x ▸ hb)) e
theorem zip_itemD {z TI TO i1 i2 : Addr} {fp1 fp2 : List Addr} {n1 n2 k : Nat} {P1 P2 : Nat → Value → Prop} {S1 S2 : Nat → Heap → Prop} {a b : Value} {Q : Value → Shared → Prop} (Z : ZipAp z TI TO i1 i2 fp1 fp2)
    (D1 : Draws prog w A i1 fp1 n1 P1 S1) (D2 : Draws prog w A i2 fp2 n2 P2 S2) (hk1 : k < n1) (hk2 : k < n2)
    (hz : IsZip s.heap z TI TO .none) (hTI : IsPair s.heap TI (.ref i1) (.ref i2)) (hTO : IsPair s.heap TO a b) (h1 : S1 k s.heap) (h2 : S2 k s.heap)
    (hQ : ∀ x y h' tk, P1 k x → P2 k y → IsZip h' z TI TO (rawInt s.heap.objs.size) → IsPair h' TO x y → S1 (k + 1) h' → S2 (k + 1) h' → IsPair h' s.heap.objs.size x y → h'.objs.size = s.heap.objs.size + 1 →
      (∀ c o, c ≠ z → c ≠ TO → c ≠ i1 → c ≠ i2 → s.heap.get? c = some o → h'.get? c = some o) → Q (.ref s.heap.objs.size) { s with heap := h', toks := tk }) :
    wpAny (model prog w) A (Builtin.«zip.__next__» ⟨[.ref z], []⟩) (fun fin s' => ∃ v, fin = .done (.ret v) ∧ Q v s') E s := by
  show wpAny _ _ (field (.ref z) 2 >>= _) _ _ _
  refine wpAny_bind (wpAny_field hz rfl (x := .bool false) rfl ?_)
  show wpAny _ _ (field (.ref z) 3 >>= _) _ _ _
  refine wpAny_bind (wpAny_field hz rfl (x := .ref TI) rfl ?_)
  refine wpAny_bind (wpAny_seqItems hTI rfl ?_)
  show wpAny _ _ (Builtin.SmallTypes.ownedTupleIsFree (.ref z) >>= _) _ _ _
  refine wpAny_bind ?_
  unfold Builtin.SmallTypes.ownedTupleIsFree
  refine wpAny_bind (wpAny_field hz rfl (x := .none) rfl (wpAny_pure ?_))
  simp only [if_true]
  refine wpAny_bind (wpAny_rule ?_)
  refine wpAny_bind (wpAny_field hz rfl (x := .ref TO) rfl ?_)
  refine wpAny_bind (wpAny_setField_rec hz (by simp) fun h₁ hz₁ hs₁ => ?_)
  replace hz₁ : IsZip h₁ z TI TO .ellipsis := hz₁
  refine wpAny_bind ?_
  simp only [List.zipIdx_cons, List.zipIdx_nil, List.forIn_cons, List.forIn_nil]
  refine wpAny_bind (wpAny_bind (wpAny_onRaise ?_))
  show wpAny _ _ (Builtin.SmallTypes.nextOf (.ref i1) >>= _) _ _ _
  refine wpAny_bind (D1.item k _ _ _ hk1 (frame_but D1 h1 hs₁ Z.z1) fun x h₂ tk₂ hPx h1₂ hs₂ => wpAny_pure ?_)
  have hTO₂ : IsPair h₂ TO a b := hs₂.extBut _ _ Z.TOi1 (hs₁.extBut _ _ Z.TOz hTO)
  refine wpAny_bind (wpAny_seqItems hTO₂ rfl ?_)
  refine wpAny_bind (wpAny_updateSeq_pair hTO₂ fun h₃ hTO₃ hs₃ => ?_)
  replace hTO₃ : IsPair h₃ TO x b := hTO₃
  refine wpAny_bind (wpAny_letGo (wpAny_pure ?_))
  refine wpAny_bind (wpAny_bind (wpAny_onRaise ?_))
  show wpAny _ _ (Builtin.SmallTypes.nextOf (.ref i2) >>= _) _ _ _
  have h2₃ : S2 k h₃ := frame_but D2 (frame_but D2 (frame_but D2 h2 hs₁ Z.z2) hs₂ Z.n2) hs₃ Z.o2
  refine wpAny_bind (D2.item k _ _ _ hk2 h2₃ fun y h₄ tk₄ hPy h2₄ hs₄ => wpAny_pure ?_)
  have hTO₄ : IsPair h₄ TO x b := hs₄.extBut _ _ Z.TOi2 hTO₃
  refine wpAny_bind (wpAny_seqItems hTO₄ rfl ?_)
  refine wpAny_bind (wpAny_updateSeq_pair hTO₄ fun h₅ hTO₅ hs₅ => ?_)
  replace hTO₅ : IsPair h₅ TO x y := hTO₅
  refine wpAny_bind (wpAny_letGo (wpAny_pure (wpAny_pure ?_)))
  refine wpAny_bind (wpAny_seqItems hTO₅ rfl ?_)
  refine wpAny_bind (wpAny_newTuple ?_)
  have hsz : h₅.objs.size = s.heap.objs.size := by rw [hs₅.1, hs₄.1, hs₃.1, hs₂.1, hs₁.1]
  have hz₅ : IsZip h₅ z TI TO .ellipsis := hs₅.extBut _ _ Z.TOz.symm (hs₄.extBut _ _ Z.i2z.symm (hs₃.extBut _ _ Z.TOz.symm (hs₂.extBut _ _ Z.i1z.symm hz₁)))
  have hk₅ : ∀ c o, c ≠ z → c ≠ TO → c ≠ i1 → c ≠ i2 → s.heap.get? c = some o → h₅.get? c = some o := fun c o c1 c2 c3 c4 e =>
    hs₅.extBut _ _ c2 (hs₄.extBut _ _ c4 (hs₃.extBut _ _ c2 (hs₂.extBut _ _ c3 (hs₁.extBut _ _ c1 e))))
  have h1₅ : S1 (k + 1) h₅ := frame_but D1 (frame_but D1 (frame_but D1 h1₂ hs₃ Z.o1) hs₄ Z.n1) hs₅ Z.o1
  have h2₅ : S2 (k + 1) h₅ := frame_but D2 h2₄ hs₅ Z.o2
  have hzlt : z < h₅.objs.size := Heap.lt_size hz₅
  show wpAny _ _ (Builtin.SmallTypes.ownedTupleHandOut (.ref z) (.ref h₅.objs.size) >>= _) _ _ _
  refine wpAny_bind ?_
  unfold Builtin.SmallTypes.ownedTupleHandOut
  have hz₆ : IsZip (h₅.push { cls := .type "tuple", data := .seq #[x, y] }) z TI TO .ellipsis := Heap.get?_push_of_some _ hz₅
  refine wpAny_bind (wpAny_setField_rec hz₆ (by simp) fun h₇ hz₇ hs₇ => ?_)
  replace hz₇ : IsZip h₇ z TI TO (rawInt h₅.objs.size) := hz₇
  refine wpAny_setField_rec hz₇ (by simp) fun h₈ hz₈ hs₈ => ?_
  replace hz₈ : IsZip h₈ z TI TO (rawInt h₅.objs.size) := hz₈
  have up : ∀ c o, c ≠ z → h₅.get? c = some o → h₈.get? c = some o := fun c o c1 e => hs₈.extBut _ _ c1 (hs₇.extBut _ _ c1 (Heap.get?_push_of_some _ e))
  have hT₈ : IsPair h₈ h₅.objs.size x y := hs₈.extBut _ _ (Nat.ne_of_gt hzlt) (hs₇.extBut _ _ (Nat.ne_of_gt hzlt) (Heap.get?_push_size _ rfl))
  have hz8 : h₈.objs.size = h₅.objs.size + 1 := by rw [hs₈.1, hs₇.1, Heap.size_push]
  rw [hsz] at hz₈ hT₈ hz8
  refine wpAny_pure ⟨_, rfl, ?_⟩
  show Q (.ref h₅.objs.size) _
  rw [hsz]
  exact hQ x y h₈ _ hPx hPy hz₈ (up _ _ Z.TOz hTO₅) (D1.frame _ _ _ h1₅ fun c hc o e => up c o (fun x => Z.z1 (x ▸ hc)) e) (D2.frame _ _ _ h2₅ fun c hc o e => up c o (fun x => Z.z2 (x ▸ hc)) e) hT₈ hz8 fun c o c1 c2 c3 c4 e => up c o c1 (hk₅ c o c1 c2 c3 c4 e)
theorem zip_endD {z TI TO i1 i2 : Addr} {fp1 fp2 : List Addr} {n k : Nat} {P1 : Nat → Value → Prop} {S1 : Nat → Heap → Prop} {a b : Value} {Q : PySem.Fin → Shared → Prop} (Z : ZipAp z TI TO i1 i2 fp1 fp2)
    (D1 : Draws prog w A i1 fp1 n P1 S1) (hk1 : k = n)
    (hz : IsZip s.heap z TI TO .none) (hTI : IsPair s.heap TI (.ref i1) (.ref i2)) (hTO : IsPair s.heap TO a b) (h1 : S1 k s.heap)
    (hE : ∀ h' e, (∀ c o, c ≠ z → c ≠ TO → c ≠ i1 → c ≠ i2 → s.heap.get? c = some o → h'.get? c = some o) → (∃ o, h'.get? e = some o ∧ o.cls = .type "StopIteration") → E (.ref e) { s with heap := h' }) :
    wpAny (model prog w) A (Builtin.«zip.__next__» ⟨[.ref z], []⟩) Q E s := by
  subst hk1
  show wpAny _ _ (field (.ref z) 2 >>= _) _ _ _
  refine wpAny_bind (wpAny_field hz rfl (x := .bool false) rfl ?_)
  show wpAny _ _ (field (.ref z) 3 >>= _) _ _ _
  refine wpAny_bind (wpAny_field hz rfl (x := .ref TI) rfl ?_)
  refine wpAny_bind (wpAny_seqItems hTI rfl ?_)
  show wpAny _ _ (Builtin.SmallTypes.ownedTupleIsFree (.ref z) >>= _) _ _ _
  refine wpAny_bind ?_
  unfold Builtin.SmallTypes.ownedTupleIsFree
  refine wpAny_bind (wpAny_field hz rfl (x := .none) rfl (wpAny_pure ?_))
  simp only [if_true]
  refine wpAny_bind (wpAny_rule ?_)
  refine wpAny_bind (wpAny_field hz rfl (x := .ref TO) rfl ?_)
  refine wpAny_bind (wpAny_setField_rec hz (by simp) fun h₁ hz₁ hs₁ => ?_)
  replace hz₁ : IsZip h₁ z TI TO .ellipsis := hz₁
  refine wpAny_bind ?_
  simp only [List.zipIdx_cons, List.zipIdx_nil, List.forIn_cons, List.forIn_nil]
  refine wpAny_bind (wpAny_bind (wpAny_onRaise ?_))
  show wpAny _ _ (Builtin.SmallTypes.nextOf (.ref i1) >>= _) _ _ _
  refine wpAny_bind (D1.done _ _ _ (frame_but D1 h1 hs₁ Z.z1) fun h₂ e hs₂ he => ?_)
  obtain ⟨oe, hoe, hce⟩ := he
  have hz₂ : IsZip h₂ z TI TO .ellipsis := hs₂ _ _ Z.i1z.symm hz₁
  have hez : e ≠ z := fun x => by subst x; rw [hz₂] at hoe; cases hoe; simp at hce
  exact wpAny_setField_rec hz₂ (by simp) fun h₃ _ hs₃ => hE h₃ e (fun c o c1 _ c3 _ x => hs₃.extBut _ _ c1 (hs₂ _ _ c3 (hs₁.extBut _ _ c1 x))) ⟨oe, hs₃.extBut _ _ hez hoe, hce⟩
end
/-- zip of two iterators of one length -/
theorem walksZip {prog : Program} {w : World} {A : Around} {z TI TO i1 i2 : Addr} {fp1 fp2 : List Addr} {n : Nat} {P1 P2 : Nat → Value → Prop} {S1 S2 : Nat → Heap → Prop} (Z : ZipAp z TI TO i1 i2 fp1 fp2)
    (D1 : Draws prog w A.in1 i1 fp1 n P1 S1) (D2 : Draws prog w A.in1 i2 fp2 n P2 S2) (m1 : i1 ∈ fp1) (m2 : i2 ∈ fp2) :
    WalksT prog w A z (z :: TI :: TO :: (fp1 ++ fp2)) [z, TO, i1, i2] n (fun i vals => ∃ x y, P1 i x ∧ P2 i y ∧ vals = #[x, y])
      (fun i h => IsZip h z TI TO .none ∧ IsPair h TI (.ref i1) (.ref i2) ∧ (∃ a b, IsPair h TO a b) ∧ S1 i h ∧ S2 i h)
      (fun i T h => IsZip h z TI TO (rawInt T) ∧ IsPair h TI (.ref i1) (.ref i2) ∧ (∃ a b, IsPair h TO a b) ∧ S1 (i + 1) h ∧ S2 (i + 1) h ∧ T ≠ z ∧ T ≠ TO ∧ T ≠ i1 ∧ T ≠ i2) where
  sub := fun c hc => by simp at hc ⊢; rcases hc with rfl | rfl | rfl | rfl <;> simp [m1, m2]
  frame := fun i h h' hst hk => by
    obtain ⟨hz, hTI, ⟨a, b, hTO⟩, h1, h2⟩ := hst
    exact ⟨hk z (by simp) _ hz, hk TI (by simp) _ hTI, ⟨a, b, hk TO (by simp) _ hTO⟩, D1.frame _ _ _ h1 fun c hc o e => hk c (by simp [hc]) o e, D2.frame _ _ _ h2 fun c hc o e => hk c (by simp [hc]) o e⟩
  item := fun i s Q E hi hst hQ => by
    obtain ⟨hz, hTI, ⟨a, b, hTO⟩, h1, h2⟩ := hst
    have hT : s.TypeIs (.ref z) "zip" := ⟨_, hz, rfl⟩
    obtain ⟨o1, l1⟩ := D1.live _ _ h1
    obtain ⟨o2, l2⟩ := D2.live _ _ h2
    unfold pyNext
    refine wpAny_bind (wpAny_attempt (wpAny_callSpecial?_slot (name := Str.ofString "__next__") hT F.slot_zip_next
      (wpAny_call_entry F.slot_zip_next hT F.entry_zip_next
        (zip_itemD Z D1 D2 hi hi hz hTI hTO h1 h2 fun x y h' tk p1 p2 a1 a2 a3 a4 a5 a6 hk => wpAny_pure ?_) (F.args_zip_next_1 _))))
    have lt : ∀ {c o}, s.heap.get? c = some o → s.heap.objs.size ≠ c := fun e => Nat.ne_of_gt (Heap.lt_size e)
    exact hQ s.heap.objs.size #[x, y] h' tk ⟨_, _, p1, p2, rfl⟩ (Nat.le_refl _) ⟨_, a5, rfl, _, rfl⟩
      ⟨a1, hk _ _ Z.TIz Z.TITO Z.TIi1 Z.TIi2 hTI, ⟨_, _, a2⟩, a3, a4, lt hz, lt hTO, lt l1, lt l2⟩
      fun c o hc e => hk c o (fun x => hc (by simp [x])) (fun x => hc (by simp [x])) (fun x => hc (by simp [x])) (fun x => hc (by simp [x])) e
  go := fun elts k pos i T s Q E hm hQ => by
    obtain ⟨hz, hTI, ⟨a, b, hTO⟩, h1, h2, _⟩ := hm
    refine wpAny_letOwnedTupleGo_zip hz fun h' hz' hs' => hQ h' ⟨hz', hs'.extBut _ _ Z.TIz hTI, ⟨a, b, hs'.extBut _ _ Z.TOz hTO⟩, frame_but D1 h1 hs' Z.z1, frame_but D2 h2 hs' Z.z2⟩ fun c o hc e => hs'.extBut _ _ (fun x => hc (by simp [x])) e
  apart := fun i T h hm hT => by
    obtain ⟨_, _, _, _, _, t1, t2, t3, t4⟩ := hm
    simp at hT
    rcases hT with rfl | rfl | rfl | rfl
    · exact t1 rfl
    · exact t2 rfl
    · exact t3 rfl
    · exact t4 rfl
  done := fun s Q E hst hQ => by
    obtain ⟨hz, hTI, ⟨a, b, hTO⟩, h1, h2⟩ := hst
    have hT : s.TypeIs (.ref z) "zip" := ⟨_, hz, rfl⟩
    unfold pyNext
    refine wpAny_bind (wpAny_attempt (wpAny_callSpecial?_slot (name := Str.ofString "__next__") hT F.slot_zip_next
      (wpAny_call_entry F.slot_zip_next hT F.entry_zip_next (zip_endD Z D1 rfl hz hTI hTO h1 fun h' e hk he => ?_) (F.args_zip_next_1 _))))
    obtain ⟨o, ho, hc⟩ := he
    refine wpAny_bind (wpAny_isInstance (T := "StopIteration") (b := true) ⟨o, ho, hc⟩ isSubtype_stop ?_)
    exact wpAny_pure (hQ h' s.toks fun c o hc e => hk c o (fun x => hc (by simp [x])) (fun x => hc (by simp [x])) (fun x => hc (by simp [x])) (fun x => hc (by simp [x])) e)
  self := fun i s Q E hst hQ => wpAny_pyIter_zip hst.1 hQ
end Mine

namespace Mine
/-! a for over an iterator that hands out pairs (enumerate, zip): the ledger may grow and turn -/
/-- where a turn ends -/
def TurnToK (h₀ : Heap) (L : Addr) (own : Led) (J : (Str → Option Value) → Led → Prop) (s₀ : Shared) (Q : Flow → Shared → Prop) (f : Flow) (s₂ : Shared) : Prop :=
  match f with
  | .ret v => Q (.ret v) s₂
  | .brk => Q .next s₂
  | _ => ∃ h' tk m nx, s₂ = { s₀ with heap := h', toks := tk } ∧ Fr h₀ L h' m ∧ News h₀ L h' (own ++ nx) ∧ (∀ p ∈ nx, p.1 ∉ own.map (·.1)) ∧ J m nx
theorem TurnToK.next {h₀ : Heap} {L : Addr} {own : Led} {J : (Str → Option Value) → Led → Prop} {s₀ : Shared} {Q : Flow → Shared → Prop} {h' : Heap} {tk : Nat} {m : Str → Option Value} (nx : Led)
    (F : Fr h₀ L h' m) (N : News h₀ L h' (own ++ nx)) (hI : ∀ p ∈ nx, p.1 ∉ own.map (·.1)) (hJ : J m nx) : TurnToK h₀ L own J s₀ Q .next { s₀ with heap := h', toks := tk } :=
  ⟨h', tk, m, nx, rfl, F, N, hI, hJ⟩
section
variable {prog : Program} {w : World} {A : Around} {s : Shared} {env : Env} {h₀ : Heap} {L : Addr}
theorem for_walkK {target : Expr} {body : List Stmt} {I : Addr} {fp wr ks : List Addr} {n : Nat} {P Md : Nat → Value → Heap → Prop} {St : Nat → Heap → Prop} {m₀ : Str → Option Value} {nx₀ : Led} {Q : Flow → Shared → Prop}
    (stay : Led) (J : Nat → (Str → Option Value) → Led → Prop) (hL : env.locals = L)
    (W : KTurns prog w A target I fp wr n P Md St) (hob : ∀ i h, St i h → ∃ own : Led, own.map (·.1) = ks ∧ ∀ p ∈ own, h.get? p.1 = some p.2)
    (hks : ∀ b ∈ ks, h₀.get? b = none ∧ b ≠ L) (hnx : ∀ p ∈ nx₀, p.1 ∉ ks) (hwr : ∀ b ∈ wr, b ∈ ks)
    (hfp : ∀ b ∈ fp, b ∈ ks ∨ (∃ q, h₀.get? b = some q) ∨ ∃ o, (b, o) ∈ stay)
    (hst : St 0 s.heap) (F : Fr h₀ L s.heap m₀) (N : News h₀ L s.heap nx₀) (hstay : ∀ i m nx, J i m nx → ∀ p ∈ stay, p ∈ nx) (h0 : J 0 m₀ nx₀)
    (turn : ∀ i v m nx h tk own, i < n → P i v h → own.map (·.1) = ks → J i m nx → (∀ p ∈ nx, p.1 ∉ ks) → Fr h₀ L h m → News h₀ L h (own ++ nx) →
      wpAny (model prog w) A (assign target env v) (fun _ s₃ => wpAny (model prog w) A (execs body env) (TurnToK h₀ L own (J (i + 1)) { s with heap := h, toks := tk } Q) nah s₃) nah { s with heap := h, toks := tk })
    (done : ∀ m nx h tk, J n m nx → Fr h₀ L h m → News h₀ L h nx → Q .next { s with heap := h, toks := tk }) :
    codeAny (model prog w) A (.forLoop target (.ref I) body [] env) (fun r s' => match r with | .ok f => Q f s' | .error e => cameBackBy (model prog w) A env nah e s') s := by
  subst hL
  refine codeAny_forLoop_any
    (fun k s' => ∃ i h tk m nx, s' = { s with heap := h, toks := tk } ∧ k = n + 1 - i ∧ i ≤ n ∧ St i h ∧ Fr h₀ env.locals h m ∧ News h₀ env.locals h nx ∧ (∀ p ∈ nx, p.1 ∉ ks) ∧ J i m nx) ?_ (n + 1)
    ⟨0, s.heap, s.toks, m₀, nx₀, rfl, rfl, Nat.zero_le _, hst, F, N, hnx, h0⟩
  rintro k s' ⟨i, h, tk, m, nx, rfl, rfl, hi, hst', F', N', hI', hJ⟩
  have nwr : ∀ b, b ∉ ks → b ∉ wr := fun b h1 h2 => h1 (hwr b h2)
  have hLk : env.locals ∉ ks := fun h => (hks _ h).2 rfl
  have keepF : ∀ h₁ : Heap, (∀ b o, b ∉ wr → h.get? b = some o → h₁.get? b = some o) → Fr h₀ env.locals h₁ m := fun h₁ hk =>
    ⟨F'.ns.at' fun o e => hk _ o (nwr _ hLk) e, fun b o e => hk b o (fun hb => by rw [(hks b (hwr b hb)).1] at e; cases e) (F'.keep b o e), F'.above⟩
  have keepN : ∀ h₁ : Heap, (∀ b o, b ∉ wr → h.get? b = some o → h₁.get? b = some o) → News h₀ env.locals h₁ nx := fun h₁ hk p hp =>
    ⟨hk _ _ (nwr _ (hI' p hp)) (N' p hp).1, (N' p hp).2⟩
  by_cases hlt : i < n
  · refine W.item i _ _ _ hlt hst' fun v h₂ tk₁ hMd hk₂ => ?_
    refine W.go i v _ _ _ hMd fun h₁ hP hst₁ hk₁ => ?_
    have hk : ∀ b o, b ∉ wr → h.get? b = some o → h₁.get? b = some o := fun b o hb e => hk₁ b o hb (hk₂ b o hb e)
    obtain ⟨own, hown, hget⟩ := hob _ _ hst₁
    have ownk : ∀ p ∈ own, p.1 ∈ ks := fun p hp => hown ▸ List.mem_map_of_mem hp
    have NI : News h₀ env.locals h₁ (own ++ nx) := fun p hp => by
      rcases List.mem_append.mp hp with hp | hp
      · exact ⟨hget p hp, (hks _ (ownk p hp)).2, (hks _ (ownk p hp)).1⟩
      · exact keepN h₁ hk p hp
    refine wpAny_mono (turn i v m nx h₁ tk₁ own hlt hP hown hJ hI' (keepF h₁ hk) NI) (fun _ s₃ h₃ => wpAny_mono h₃ (fun f s₂ hT => ?_) nah_passes) nah_passes
    have nextly : (∃ h' tk m nx, s₂ = { s with heap := h', toks := tk } ∧ Fr h₀ env.locals h' m ∧ News h₀ env.locals h' (own ++ nx) ∧ (∀ p ∈ nx, p.1 ∉ own.map (·.1)) ∧ J (i + 1) m nx) →
        ∃ k', k' < n + 1 - i ∧ ∃ i h tk m nx, s₂ = { s with heap := h, toks := tk } ∧ k' = n + 1 - i ∧ i ≤ n ∧ St i h ∧ Fr h₀ env.locals h m ∧ News h₀ env.locals h nx ∧ (∀ p ∈ nx, p.1 ∉ ks) ∧ J i m nx := by
      rintro ⟨h', tk', m', nx', rfl, F₂, N₂, hI₂, hJ₂⟩
      refine ⟨n + 1 - (i + 1), by omega, i + 1, h', tk', m', nx', rfl, rfl, hlt, ?_, F₂, fun p hp => N₂ p (List.mem_append_right _ hp), fun p hp => hown ▸ hI₂ p hp, hJ₂⟩
      refine W.frame _ _ _ hst₁ fun b hb ob e => ?_
      rcases hfp b hb with hb' | ⟨q, hq⟩ | ⟨q, hq⟩
      · obtain ⟨p, hp, rfl⟩ := List.mem_map.mp (hown ▸ hb')
        rw [hget p hp] at e; cases e
        exact (N₂ p (List.mem_append_left _ hp)).1
      · have h1 := (keepF h₁ hk).keep b q hq
        rw [h1] at e; cases e
        exact F₂.keep b _ hq
      · have h1 := (keepN h₁ hk _ (hstay i m nx hJ _ hq)).1
        rw [h1] at e; cases e
        exact (N₂ _ (List.mem_append_right _ (hstay _ _ _ hJ₂ _ hq))).1
    cases f with
    | ret v => exact hT
    | brk => exact hT
    | next => exact nextly hT
    | cont => exact nextly hT
  · have hin : i = n := by omega
    subst hin
    refine W.done _ _ _ hst' fun h₁ tk₁ hk => wpAny_execs_nil ?_
    exact done m nx h₁ tk₁ hJ (keepF h₁ hk) (keepN h₁ hk)
end
end Mine

namespace Mine
open KBw
section
variable {prog : Program} {w : World} {A : Around} {E : Value → Shared → Prop} {s : Shared} {b : Array UInt8} {t : Tok}
theorem nextOf_bytes_item {it : Addr} {i : Nat} {c : UInt8} {Q : Value → Shared → Prop} (hit : IsBytesIter s.heap it b t i) (hx : b[i]? = some c)
    (hQ : ∀ h', IsBytesIter h' it b t (i + 1) → Heap.SameBut it s.heap h' → Q (.int (c.toNat : Int) s.toks) { s with heap := h', toks := s.toks + 1 }) : wpAny (model prog w) A (Builtin.SmallTypes.nextOf (.ref it)) Q E s := by
  obtain ⟨o, ho, hc, hd⟩ := id hit
  unfold Builtin.SmallTypes.nextOf
  refine wpAny_bind (wpAny_callSpecial?_slot (name := PySem.Str.ofString "__next__") (iter_typeIs hit) slot_next
    (wpAny_call_entry slot_next (iter_typeIs hit) entry_next ?_ (args_next _)))
  show wpAny _ _ (field (.ref it) 0 >>= _) _ _ s
  refine wpAny_bind (wpAny_field ho hd (x := .bytes b t) rfl ?_)
  show wpAny _ _ (if (Value.bytes b t == Value.none) = true then _ else _) _ _ s
  rw [if_neg (show ¬ ((Value.bytes b t == Value.none) = true) from Bool.false_ne_true)]
  show wpAny _ _ (field (.ref it) 1 >>= _) _ _ s
  refine wpAny_bind (wpAny_field ho hd (x := .int i 0) rfl ?_)
  refine wpAny_bind (wpAny_of_eq (a := b) rfl ?_)
  simp only [Int.toNat_natCast, hx]
  refine wpAny_bind (wpAny_setField ho hd (by simp) (wpAny_bind (wpAny_mkInt (wpAny_pure ⟨_, rfl, wpAny_pure (hQ _ ?_ (Heap.SameBut.update ..))⟩))))
  exact ⟨_, Heap.get?_update_self _ ho (Obj.isFreed_of_fields (Obj.data_mapFields hd _)), (Obj.cls_mapFields ..).trans hc, by
    rw [Obj.data_mapFields hd]; simp [rawInt]⟩
theorem nextOf_bytes_end {it : Addr} {i : Nat} {Q : Value → Shared → Prop} (hh : A.handled = none) (hit : IsBytesIter s.heap it b t i) (hx : b[i]? = none)
    (hE : ∀ h' e, Heap.ExtBut it s.heap h' → (∃ o, h'.get? e = some o ∧ o.cls = .type "StopIteration") → E (.ref e) { s with heap := h' }) : wpAny (model prog w) A (Builtin.SmallTypes.nextOf (.ref it)) Q E s := by
  obtain ⟨o, ho, hc, hd⟩ := id hit
  unfold Builtin.SmallTypes.nextOf
  refine wpAny_bind (wpAny_callSpecial?_slot (name := PySem.Str.ofString "__next__") (iter_typeIs hit) slot_next
    (wpAny_call_entry slot_next (iter_typeIs hit) entry_next ?_ (args_next _)))
  show wpAny _ _ (field (.ref it) 0 >>= _) _ _ s
  refine wpAny_bind (wpAny_field ho hd (x := .bytes b t) rfl ?_)
  show wpAny _ _ (if (Value.bytes b t == Value.none) = true then _ else _) _ _ s
  rw [if_neg (show ¬ ((Value.bytes b t == Value.none) = true) from Bool.false_ne_true)]
  show wpAny _ _ (field (.ref it) 1 >>= _) _ _ s
  refine wpAny_bind (wpAny_field ho hd (x := .int i 0) rfl ?_)
  refine wpAny_bind (wpAny_of_eq (a := b) rfl ?_)
  simp only [Int.toNat_natCast, hx]
  refine wpAny_bind (wpAny_rule (wpAny_bind (wpAny_setField ho hd (by simp) ?_)))
  show wpAny _ _ (newExc (.type "StopIteration") [] >>= _) _ _ _
  refine wpAny_bind ?_
  simp only [newExc, newTuple]
  refine wpAny_bind (wpAny_newObj_type ?_ (by size_fits))
  refine wpAny_bind (m := firstArgMember _ _) (wpAny_of_eq (a := Value.none) (by first | rfl | (simp only [firstArgMember]; rfl)) ?_)
  refine wpAny_newObj_type ?_ (by size_fits)
  simp only [raiseNew]
  refine wpAny_bind (wpAny_handled ?_)
  first | rw [show A.in1.handled = none from hh] | rw [hh]
  refine wpAny_bind (wpAny_pure (wpAny_throw ?_))
  exact hE _ _ (((Heap.SameBut.update ..).extBut.push _).push _) ⟨_, Heap.get?_push_size _ rfl, rfl⟩
end
theorem drawsBytes {prog : Program} {w : World} {A : Around} (hh : A.handled = none) (it : Addr) (b : Array UInt8) (t : Tok) :
    Draws prog w A it [it] b.size (fun i v => ∃ c u, b[i]? = some c ∧ v = .int (c.toNat : Int) u) (fun i h => IsBytesIter h it b t i) where
  live := fun _ _ st => let ⟨o, ho, _⟩ := st; ⟨o, ho⟩
  frame := fun _ _ _ st hk => let ⟨o, ho, r⟩ := st; ⟨o, hk it (by simp) o ho, r⟩
  item := fun i s Q E hi st hQ => by
    refine nextOf_bytes_item st (c := b[i]) (by simp [hi]) fun h' hit' hs' => ?_
    exact hQ _ h' (s.toks + 1) ⟨_, _, by simp [hi], rfl⟩ hit' hs'
  done := fun s Q E st hE => nextOf_bytes_end hh st (by simp) hE
abbrev zbI (b : Array UInt8) (t : Tok) : Obj := { cls := .type "bytes_iterator", data := .fields #[.bytes b t, .int 0 0] }
abbrev zb1 (h : Heap) (b : Array UInt8) (t : Tok) : Heap := h.push (zbI b t)
abbrev zb2 (h : Heap) (b c : Array UInt8) (t u : Tok) : Heap := (zb1 h b t).push (zbI c u)
abbrev zb3 (h : Heap) (b c : Array UInt8) (t u : Tok) : Heap := (zb2 h b c t u).push { cls := .type "tuple", data := .seq #[.ref h.objs.size, .ref (zb1 h b t).objs.size] }
abbrev zb4 (h : Heap) (b c : Array UInt8) (t u : Tok) : Heap := (zb3 h b c t u).push { cls := .type "tuple", data := .seq #[.none, .none] }
abbrev zb5 (h : Heap) (b c : Array UInt8) (t u : Tok) : Heap := (zb4 h b c t u).push { cls := .type "zip", data := .fields #[.none, .bool false, .bool false, .ref (zb2 h b c t u).objs.size, .ref (zb3 h b c t u).objs.size] }
theorem meets_zip_newB (b c : Array UInt8) (t u : Tok) :
    Meets (Builtin.«zip.__new__» ⟨[.type "zip", .bytes b t, .bytes c u], []⟩) (fun _ R s => R (.ok (.ret (.ref (zb4 s.heap b c t u).objs.size))) { s with heap := zb5 s.heap b c t u }) :=
  .of_wp fun prog w A R s h => by
    obtain ⟨hp, g, d, tk, os⟩ := s
    have hsub := sub_zip
    wp_walk using pyIter_bytes
    exact ⟨_, rfl, h⟩
section
variable {prog : Program} {w : World} {A : Around} {E : Value → Shared → Prop} {s : Shared}
theorem call_zip_bytes {b c : Array UInt8} {t u : Tok} {Q : Value → Shared → Prop}
    (h : ∀ h', IsZip h' (s.heap.objs.size + 4) (s.heap.objs.size + 2) (s.heap.objs.size + 3) .none → IsPair h' (s.heap.objs.size + 2) (.ref s.heap.objs.size) (.ref (s.heap.objs.size + 1)) →
      IsPair h' (s.heap.objs.size + 3) .none .none → IsBytesIter h' s.heap.objs.size b t 0 → IsBytesIter h' (s.heap.objs.size + 1) c u 0 → h'.objs.size = s.heap.objs.size + 5 →
      (∀ c o, s.heap.get? c = some o → h'.get? c = some o) → Q (.ref (s.heap.objs.size + 4)) { s with heap := h' }) :
    wpAny (model prog w) A (call (.type "zip") [.bytes b t, .bytes c u]) Q E s := by
  refine callType_new F.called_zip (by decide) (F.typeCall_zip_2 _ _) (F.newCall_zip_2 _ _) (fun obj => F.args_object_init_3 obj _ _) F.entry_zip_new (meets_zip_newB b c t u) ?_
  have z1 : (zb1 s.heap b t).objs.size = s.heap.objs.size + 1 := Heap.size_push ..
  have z2 : (zb2 s.heap b c t u).objs.size = s.heap.objs.size + 2 := by rw [Heap.size_push, z1]
  have z3 : (zb3 s.heap b c t u).objs.size = s.heap.objs.size + 3 := by rw [Heap.size_push, z2]
  have z4 : (zb4 s.heap b c t u).objs.size = s.heap.objs.size + 4 := by rw [Heap.size_push, z3]
  have z5 : (zb5 s.heap b c t u).objs.size = s.heap.objs.size + 5 := by rw [Heap.size_push, z4]
  have g5 : (zb5 s.heap b c t u).get? (zb4 s.heap b c t u).objs.size = some _ := Heap.get?_push_size _ rfl
  have g4 : (zb5 s.heap b c t u).get? (zb3 s.heap b c t u).objs.size = some _ := Heap.get?_push_of_some _ (Heap.get?_push_size _ rfl)
  have g3 : (zb5 s.heap b c t u).get? (zb2 s.heap b c t u).objs.size = some _ := Heap.get?_push_of_some _ (Heap.get?_push_of_some _ (Heap.get?_push_size _ rfl))
  have g2 : (zb5 s.heap b c t u).get? (zb1 s.heap b t).objs.size = some _ := Heap.get?_push_of_some _ (Heap.get?_push_of_some _ (Heap.get?_push_of_some _ (Heap.get?_push_size _ rfl)))
  have g1 : (zb5 s.heap b c t u).get? s.heap.objs.size = some _ := Heap.get?_push_of_some _ (Heap.get?_push_of_some _ (Heap.get?_push_of_some _ (Heap.get?_push_of_some _ (Heap.get?_push_size _ rfl))))
  show _ ∧ _
  rw [z2, z3, z4] at g5
  rw [z1, z2] at g3
  rw [z3] at g4
  rw [z1] at g2
  rw [z4]
  exact ⟨⟨_, g5, rfl⟩, h _ g5 g3 g4 ⟨_, g1, rfl, rfl⟩ ⟨_, g2, rfl, rfl⟩ z5 fun c o x =>
    Heap.get?_push_of_some _ (Heap.get?_push_of_some _ (Heap.get?_push_of_some _ (Heap.get?_push_of_some _ (Heap.get?_push_of_some _ x))))⟩
end
end Mine

namespace Mine
open LCg
section
variable {prog : Program} {w : World} {A : Around} {s : Shared} {env : Env} {h₀ : Heap} {L : Addr} {m : Str → Option Value}
/-- a comprehension over a range -/
theorem comp_range {elt iter : Expr} {x : Str} {px : Pos} {ifs : List Expr} {scope : Scope} {cl : List (Str × Addr)} {pos : Pos} {r : Addr} {a₀ b₀ c₀ : Int} {t₀ u₀ v₀ : Tok} {n : Nat} {nx : Led} {RR : Value → Addr → Result → Shared → Prop} (J : Nat → List Value → Prop)
    (hh : A.handled = none) (hr : IsRange s.heap r a₀ b₀ c₀ t₀ u₀ v₀) (hsmall : Builtin.Range.small a₀ b₀ c₀ = true) (hn : Builtin.Range.rangeSize a₀ b₀ c₀ = (n : Int)) (F : Fr h₀ L s.heap m) (N : News h₀ L s.heap nx) (hsz : n ≤ sizeLine)
    (hcell : ∀ y ∈ scope.names, y.2 ≠ .cell) (hkind : scope.kind = .function) (hx : scope.names.lookup x = some .local) (j0 : J 0 [])
    (turn : ∀ i t ys I oI C oC D m₂ h tk, i < n → J i ys → NsObj oC m₂ → m₂ x = some (.int (a₀ + i * c₀) t) → Fr h₀ L h m → News h₀ L h ((I, oI) :: (C, oC) :: (D, lst ys) :: nx) → Off3 I C D nx → ((@Ne Nat I C) ∧ (@Ne Nat I D) ∧ (@Ne Nat C D)) →
      CompTurn prog w A h₀ L m elt ifs (compEnvC scope cl C env) { s with heap := h, toks := tk } ((I, oI) :: (C, oC) :: (D, lst ys) :: nx) (fun y => J (i + 1) (ys ++ [y])) (J (i + 1) ys))
    (fin : ∀ h, CompDone h₀ L m nx n J { s with heap := h } RR) :
    wpAny (model prog w) A (pyIter (.ref r)) (CompGo prog w A env (.ListComp elt [⟨.Name x px, iter, ifs, 0⟩] scope pos) scope cl RR) nah s := by
  refine wpAny_pyIter_range hr hsmall ?_
  have W := Walks.range (prog := prog) (w := w) hh s.heap.objs.size a₀ c₀ n
  refine comp_block (Has := fun v m₂ => m₂ x = some v) J W hsz (fun i h hi => ⟨_, hi⟩) (fun b hb => .inl (List.mem_singleton.mp hb)) ?_ hcell hkind (by show IsRangeIter _ _ _ _ _; rw [hn]; simpa using Heap.get?_push_size _ rfl) (F.push _) (fun p hp => ⟨Heap.get?_push_of_some _ (N p hp).1, (N p hp).2⟩)
    (Nat.ne_of_lt F.ns.lt) (next_is_new F) (fresh_ne N) ?_ ?_ j0 ?_ (fin _)
  · intro b hb
    show b < (s.heap.push _).objs.size
    rw [Heap.size_push, List.mem_singleton.mp hb]
    exact Nat.lt_succ_self _
  · rintro i s' v Q' hst hq
    exact go_iter hst (.inr (.inr rfl)) hq
  · intro i v C m' s' Q' _
    exact Asg.name (nx := nx) (P := fun _ _ => True) hkind hx i v C m' s' Q' trivial
  · rintro i v ys oI C oC D m₂ h tk hi ⟨t, rfl⟩ hJ hN hH
    exact turn i t ys _ oI C oC D m₂ h tk hi hJ hN hH
end
end Mine

namespace Mine
open KBw
/-! for x, y in zip(a, b): over two lists of ints of one length, or over two bytes; what stays of the ledger is one letter, led -/
def TurnZ (h₀ : Heap) (L : Addr) (led : Led) (J : (Str → Option Value) → Led → Prop) (s₀ : Shared) (Q : Flow → Shared → Prop) (f : Flow) (s₂ : Shared) : Prop :=
  match f with
  | .ret v => Q (.ret v) s₂
  | .brk => Q .next s₂
  | _ => ∃ h' tk m dyn, s₂ = { s₀ with heap := h', toks := tk } ∧ Fr h₀ L h' m ∧ News h₀ L h' (dyn ++ led) ∧ (∀ p ∈ dyn, ∀ q ∈ led, q.1 ≠ p.1) ∧ J m dyn
theorem TurnZ.next {h₀ : Heap} {L : Addr} {led : Led} {J : (Str → Option Value) → Led → Prop} {s₀ : Shared} {Q : Flow → Shared → Prop} {h' : Heap} {tk : Nat} {m : Str → Option Value} (dyn : Led)
    (F : Fr h₀ L h' m) (N : News h₀ L h' (dyn ++ led)) (hI : ∀ p ∈ dyn, ∀ q ∈ led, q.1 ≠ p.1) (hJ : J m dyn) : TurnZ h₀ L led J s₀ Q .next { s₀ with heap := h', toks := tk } :=
  ⟨h', tk, m, dyn, rfl, F, N, hI, hJ⟩
theorem two_set {m : Str → Option Value} {x x₂ y : Str} {u v w : Option Value} (h₂ : y ≠ x₂) (h : y ≠ x) (e : m y = w) : (if y = x₂ then u else if y = x then v else m y) = w := by rw [if_neg h₂, if_neg h]; exact e
/-- two sources of ints -/
inductive ZipSrc (led : Led) : Value → Value → List Int → List Int → Prop
  | lst {a b : Addr} {va vb : List Value} {na nb : Nat} {xs ys : List Int} : (a, listOf va.toArray na) ∈ led → (b, listOf vb.toArray nb) ∈ led → IntsAre va xs → IntsAre vb ys → ZipSrc led (.ref a) (.ref b) xs ys
  | bts {b c : List UInt8} {t u : Tok} : ZipSrc led (.bytes b.toArray t) (.bytes c.toArray u) (b.map fun x => (x.toNat : Int)) (c.map fun x => (x.toNat : Int))
section
variable {prog : Program} {w : World} {A : Around} {s : Shared} {env : Env} {h₀ : Heap} {L : Addr}
theorem for_zipD {x x₂ : Str} {px px₂ tp : Pos} {k : Nat} {body : List Stmt} {z TI TO i1 i2 : Addr} {fp1 fp2 : List Addr} {n : Nat} {P1 P2 : Nat → Value → Prop} {S1 S2 : Nat → Heap → Prop} {m₀ : Str → Option Value} {led dyn₀ : Led} {Q : Flow → Shared → Prop}
    (J : Nat → (Str → Option Value) → Led → Prop) (Z : ZipAp z TI TO i1 i2 fp1 fp2) (hh : A.handled = none) (hL : env.locals = L) (hkx : env.kindOf x = some .local) (hkx₂ : env.kindOf x₂ = some .local) (hp : (env.scope.kind == .class || (env.scope.kind == .module && env.locals != env.globals)) = false) (hxx : x ≠ x₂)
    (D1 : Draws prog w A.in1 i1 fp1 n P1 S1) (D2 : Draws prog w A.in1 i2 fp2 n P2 S2) (m1 : i1 ∈ fp1) (m2 : i2 ∈ fp2)
    (hks : ∀ b ∈ [z, TI, TO, i1, i2], h₀.get? b = none ∧ b ≠ L) (hnx : ∀ p ∈ dyn₀ ++ led, p.1 ∉ [z, TI, TO, i1, i2])
    (hfp : ∀ b ∈ fp1 ++ fp2, b = i1 ∨ b = i2 ∨ ∃ o, (b, o) ∈ led)
    (hz : IsZip s.heap z TI TO .none) (hTI : IsPair s.heap TI (.ref i1) (.ref i2)) (hTO : ∃ a b, IsPair s.heap TO a b) (h1 : S1 0 s.heap) (h2 : S2 0 s.heap)
    (F : Fr h₀ L s.heap m₀) (N : News h₀ L s.heap (dyn₀ ++ led)) (hoff : ∀ p ∈ dyn₀, ∀ q ∈ led, q.1 ≠ p.1) (h0 : J 0 m₀ dyn₀)
    (turn : ∀ i v u m dyn h tk led2, i < n → P1 i v → P2 i u → J i m dyn → (∀ p ∈ led, p ∈ led2) → (∀ p ∈ dyn, ∀ q ∈ led2, q.1 ≠ p.1) → Fr h₀ L h (fun y => if y = x₂ then some u else if y = x then some v else m y) → News h₀ L h (dyn ++ led2) →
      wpAny (model prog w) A (execs body env) (TurnZ h₀ L led2 (J (i + 1)) { s with heap := h, toks := tk } Q) nah { s with heap := h, toks := tk })
    (done : ∀ m dyn h tk, J n m dyn → (∀ p ∈ dyn, ∀ q ∈ led, q.1 ≠ p.1) → Fr h₀ L h m → News h₀ L h (dyn ++ led) → Q .next { s with heap := h, toks := tk }) :
    wpAny (model prog w) A (pyIter (.ref z)) (fun it s₂ => codeAny (model prog w) A (.forLoop (.Tuple [.Name x px, .Name x₂ px₂] k tp) it body [] env) (fun r s' => match r with | .ok f => Q f s' | .error e => cameBackBy (model prog w) A env nah e s') s₂) nah s := by
  subst hL
  refine wpAny_pyIter_zip hz ?_
  have W := KTurns.ofWalksU (elts := [.Name x px, .Name x₂ px₂]) (k := k) (pos := tp) (walksZip Z D1 D2 m1 m2).toU
  refine for_walkK (ks := [z, TI, TO, i1, i2]) led (fun i m nx => ∃ dyn, nx = dyn ++ led ∧ (∀ p ∈ dyn, ∀ q ∈ led, q.1 ≠ p.1) ∧ J i m dyn) rfl W ?_ hks hnx ?_ ?_ ⟨hz, hTI, hTO, h1, h2⟩ F N ?_ ⟨dyn₀, rfl, hoff, h0⟩ ?_ ?_
  · rintro i h ⟨g1, g2, ⟨a, b, g3⟩, g4, g5⟩
    obtain ⟨o4, e4⟩ := D1.live _ _ g4
    obtain ⟨o5, e5⟩ := D2.live _ _ g5
    have q1 : ∃ o, h.get? z = some o := ⟨_, g1⟩
    have q2 : ∃ o, h.get? TI = some o := ⟨_, g2⟩
    have q3 : ∃ o, h.get? TO = some o := ⟨_, g3⟩
    obtain ⟨o1, e1⟩ := q1
    obtain ⟨o2, e2⟩ := q2
    obtain ⟨o3, e3⟩ := q3
    refine ⟨[(z, o1), (TI, o2), (TO, o3), (i1, o4), (i2, o5)], rfl, fun p hp => ?_⟩
    rcases List.mem_cons.mp hp with rfl | hp
    · exact e1
    rcases List.mem_cons.mp hp with rfl | hp
    · exact e2
    rcases List.mem_cons.mp hp with rfl | hp
    · exact e3
    rcases List.mem_cons.mp hp with rfl | hp
    · exact e4
    rw [List.mem_singleton.mp hp]; exact e5
  · intro b hb
    simp only [List.mem_cons, List.not_mem_nil, or_false] at hb ⊢
    rcases hb with rfl | rfl | rfl | rfl <;> simp
  · intro b hb
    simp only [List.mem_cons] at hb
    rcases hb with rfl | rfl | rfl | hb
    · exact .inl (by simp)
    · exact .inl (by simp)
    · exact .inl (by simp)
    · rcases hfp b hb with rfl | rfl | ⟨o, ho⟩
      · exact .inl (by simp)
      · exact .inl (by simp)
      · exact .inr (.inr ⟨o, ho⟩)
  · rintro i m nx ⟨dyn, rfl, _⟩ p hp
    exact List.mem_append_right _ hp
  · rintro i v m nx h tk own hi ⟨T, vals, rfl, ⟨v1, v2, hv1, hv2, rfl⟩, hT⟩ hown ⟨dyn, rfl, hoff', hJ⟩ hI F' N'
    refine assign_Tuple_tuple hh hT rfl rfl fun h₅ he => ?_
    have hne : ∀ b o, h.get? b = some o → h₅.get? b = some o := fun b o e => he b o (Nat.ne_of_lt (Heap.lt_size e)) e
    have F₅ := F'.keeps hne
    have N₅ : News h₀ env.locals h₅ (own ++ (dyn ++ led)) := fun p hp => ⟨hne _ _ (N' p hp).1, (N' p hp).2⟩
    refine assignInOrder_cons (wpAny_assign_Name (wpAny_storeName_local hkx F₅.ns (fun h₆ hn₆ hs₆ => ?_) hp))
    have F₆ := F₅.set hn₆ hs₆
    have N₆ := N₅.set hs₆
    refine assignInOrder_cons (wpAny_assign_Name (wpAny_storeName_local hkx₂ F₆.ns (fun h₇ hn₇ hs₇ => ?_) hp))
    have F₇ := F₆.set hn₇ hs₇
    have N₇ := N₆.set hs₇
    refine assignInOrder_nil ?_
    have ownk : ∀ q ∈ own, q.1 ∈ [z, TI, TO, i1, i2] := fun q hq => hown ▸ List.mem_map_of_mem hq
    have off2 : ∀ p ∈ dyn, ∀ q ∈ own ++ led, q.1 ≠ p.1 := fun p hp q hq => by
      rcases List.mem_append.mp hq with hq | hq
      · intro e
        exact hI p (List.mem_append_left _ hp) (e ▸ ownk q hq)
      · exact hoff' p hp q hq
    refine wpAny_mono (turn i v1 v2 m dyn h₇ _ (own ++ led) hi hv1 hv2 hJ (fun p hp => List.mem_append_right _ hp) off2 F₇ (news_sub N₇ fun p hp => ?_)) (fun f s₂ hT₂ => ?_) fun _ _ x => x
    · simp only [List.mem_append] at hp ⊢
      rcases hp with hp | hp | hp
      · exact .inr (.inl hp)
      · exact .inl hp
      · exact .inr (.inr hp)
    · have fin : (∃ h' tk' m' dyn', s₂ = { s with heap := h', toks := tk' } ∧ Fr h₀ env.locals h' m' ∧ News h₀ env.locals h' (dyn' ++ (own ++ led)) ∧ (∀ p ∈ dyn', ∀ q ∈ own ++ led, q.1 ≠ p.1) ∧ J (i + 1) m' dyn') →
          ∃ h' tk' m' nx', s₂ = { s with heap := h', toks := tk' } ∧ Fr h₀ env.locals h' m' ∧ News h₀ env.locals h' (own ++ nx') ∧ (∀ p ∈ nx', p.1 ∉ own.map (·.1)) ∧ ∃ dyn, nx' = dyn ++ led ∧ (∀ p ∈ dyn, ∀ q ∈ led, q.1 ≠ p.1) ∧ J (i + 1) m' dyn := by
        rintro ⟨h', tk', m', dyn', rfl, F₈, N₈, o8, J8⟩
        refine ⟨h', tk', m', dyn' ++ led, rfl, F₈, news_sub N₈ fun p hp => ?_, fun p hp he => ?_, dyn', rfl, fun p hp q hq => o8 p hp q (List.mem_append_right _ hq), J8⟩
        · simp only [List.mem_append] at hp ⊢
          rcases hp with hp | hp | hp
          · exact .inr (.inl hp)
          · exact .inl hp
          · exact .inr (.inr hp)
        · rcases List.mem_append.mp hp with hp | hp
          · obtain ⟨q, hq, e⟩ := List.mem_map.mp he
            exact o8 p hp q (List.mem_append_left _ hq) e
          · rw [hown] at he
            exact hnx p (List.mem_append_right _ hp) he
      cases f with
      | ret v => exact hT₂
      | brk => exact hT₂
      | next => exact fin hT₂
      | cont => exact fin hT₂
  · rintro m nx h tk ⟨dyn, rfl, hoff', hJ⟩ F' N'
    exact done m dyn h tk hJ hoff' F' N'
theorem zipAp_of {n : Nat} {fp1 fp2 : List Addr} (h1 : ∀ b ∈ fp1, @Eq Nat b n ∨ @LT.lt Nat _ b n) (h2 : ∀ b ∈ fp2, @Eq Nat b (n + 1) ∨ @LT.lt Nat _ b n) : ZipAp (n + 4) (n + 2) (n + 3) n (n + 1) fp1 fp2 where
  TIz := by show @Ne Nat (n + 2) (n + 4); omega
  TOz := by show @Ne Nat (n + 3) (n + 4); omega
  i1z := by show @Ne Nat n (n + 4); omega
  i2z := by show @Ne Nat (n + 1) (n + 4); omega
  TITO := by show @Ne Nat (n + 2) (n + 3); omega
  TIi1 := by show @Ne Nat (n + 2) n; omega
  TIi2 := by show @Ne Nat (n + 2) (n + 1); omega
  TOi1 := by show @Ne Nat (n + 3) n; omega
  TOi2 := by show @Ne Nat (n + 3) (n + 1); omega
  i12 := by show @Ne Nat n (n + 1); omega
  z1 := fun h => by have := h1 _ h; omega
  o1 := fun h => by have := h1 _ h; omega
  n1 := fun h => by have := h1 _ h; omega
  z2 := fun h => by have := h2 _ h; omega
  o2 := fun h => by have := h2 _ h; omega
  n2 := fun h => by have := h2 _ h; omega
theorem for_zip {x x₂ : Str} {px px₂ tp : Pos} {k : Nat} {body : List Stmt} {n : Nat} {va vb : Value} {xs ys : List Int} {m₀ : Str → Option Value} {led dyn₀ : Led} {Q : Flow → Shared → Prop}
    (J : Nat → (Str → Option Value) → Led → Prop) (src : ZipSrc led va vb xs ys) (hx : xs.length = n) (hy : ys.length = n) (hh : A.handled = none) (hL : env.locals = L) (hkx : env.kindOf x = some .local) (hkx₂ : env.kindOf x₂ = some .local) (hp : (env.scope.kind == .class || (env.scope.kind == .module && env.locals != env.globals)) = false) (hxx : x ≠ x₂)
    (F : Fr h₀ L s.heap m₀) (N : News h₀ L s.heap (dyn₀ ++ led)) (hoff : ∀ p ∈ dyn₀, ∀ q ∈ led, q.1 ≠ p.1) (h0 : J 0 m₀ dyn₀)
    (turn : ∀ i v u tv tu m dyn h tk led2, xs[i]? = some v → ys[i]? = some u → J i m dyn → (∀ p ∈ led, p ∈ led2) → (∀ p ∈ dyn, ∀ q ∈ led2, q.1 ≠ p.1) → Fr h₀ L h (fun y => if y = x₂ then some (.int u tu) else if y = x then some (.int v tv) else m y) → News h₀ L h (dyn ++ led2) →
      wpAny (model prog w) A (execs body env) (TurnZ h₀ L led2 (J (i + 1)) { s with heap := h, toks := tk } Q) nah { s with heap := h, toks := tk })
    (done : ∀ m dyn h tk, J n m dyn → (∀ p ∈ dyn, ∀ q ∈ led, q.1 ≠ p.1) → Fr h₀ L h m → News h₀ L h (dyn ++ led) → Q .next { s with heap := h, toks := tk }) :
    wpAny (model prog w) A (call (.type "zip") [va, vb]) (fun xv s₁ => wpAny (model prog w) A (pyIter xv) (fun it s₂ => codeAny (model prog w) A (.forLoop (.Tuple [.Name x px, .Name x₂ px₂] k tp) it body [] env) (fun r s' => match r with | .ok f => Q f s' | .error e => cameBackBy (model prog w) A env nah e s') s₂) nah s₁) nah s := by
  have hLs : @LT.lt Nat _ L s.heap.objs.size := F.ns.lt
  have none₀ : ∀ a : Nat, s.heap.objs.size ≤ a → h₀.get? a = none := fun a ha => by
    cases q : h₀.get? a with
    | none => rfl
    | some o => exact absurd (Heap.lt_size (F.keep a o q)) (Nat.not_lt.mpr ha)
  have hks : ∀ b ∈ [s.heap.objs.size + 4, s.heap.objs.size + 2, s.heap.objs.size + 3, s.heap.objs.size, s.heap.objs.size + 1], h₀.get? b = none ∧ b ≠ L := fun b hb => by
    have hb' : s.heap.objs.size ≤ b := by
      simp only [List.mem_cons, List.not_mem_nil, or_false] at hb
      rcases hb with rfl | rfl | rfl | rfl | rfl <;> omega
    exact ⟨none₀ b hb', Nat.ne_of_gt (Nat.lt_of_lt_of_le hLs hb')⟩
  have hnx : ∀ p ∈ dyn₀ ++ led, p.1 ∉ [s.heap.objs.size + 4, s.heap.objs.size + 2, s.heap.objs.size + 3, s.heap.objs.size, s.heap.objs.size + 1] := fun p hp hb => by
    have h1 : @LT.lt Nat _ p.1 s.heap.objs.size := Heap.lt_size (N p hp).1
    have hb' : @LE.le Nat _ s.heap.objs.size p.1 := by
      simp only [List.mem_cons, List.not_mem_nil, or_false] at hb
      rcases hb with e | e | e | e | e <;> rw [e] <;> first | exact Nat.le_refl _ | exact Nat.le_add_right _ _
    exact absurd hb' (Nat.not_le.mpr h1)
  cases src with
  | @lst a b va vb na nb _ _ ma mb ia ib =>
    have la := (N _ (List.mem_append_right _ ma)).1
    have lb := (N _ (List.mem_append_right _ mb)).1
    have hla : @LT.lt Nat _ a s.heap.objs.size := Heap.lt_size la
    have hlb : @LT.lt Nat _ b s.heap.objs.size := Heap.lt_size lb
    have ha : s.heap.IsList a va.toArray := ⟨_, la, rfl, na, rfl⟩
    have hb : s.heap.IsList b vb.toArray := ⟨_, lb, rfl, nb, rfl⟩
    refine call_zip_2 ha hb fun h' hz hTI hTO hi1 hi2 hsz hk => ?_
    have D1 := Draws.list (prog := prog) (w := w) (A := A.in1) hh s.heap.objs.size a (Nat.ne_of_lt hla) va.toArray
    have D2 := Draws.list (prog := prog) (w := w) (A := A.in1) hh (s.heap.objs.size + 1) b (Nat.ne_of_lt (Nat.lt_succ_of_lt hlb)) vb.toArray
    have e1 : va.toArray.size = n := by rw [List.size_toArray, ia.length, hx]
    have e2 : vb.toArray.size = n := by rw [List.size_toArray, ib.length, hy]
    rw [e1] at D1
    rw [e2] at D2
    refine for_zipD (s := { s with heap := h' }) J (zipAp_of (fun c hc => ?_) (fun c hc => ?_)) hh hL hkx hkx₂ hp hxx D1 D2 (.head _) (.head _) hks hnx ?_ hz hTI ⟨_, _, hTO⟩ ⟨hi1, ha.at fun o e => hk _ o e⟩ ⟨hi2, hb.at fun o e => hk _ o e⟩ (F.keeps hk) (fun p hp => ⟨hk _ _ (N p hp).1, (N p hp).2⟩) hoff h0 ?_ done
    · simp only [List.mem_cons, List.not_mem_nil, or_false] at hc
      rcases hc with rfl | rfl
      · exact .inl rfl
      · exact .inr hla
    · simp only [List.mem_cons, List.not_mem_nil, or_false] at hc
      rcases hc with rfl | rfl
      · exact .inl rfl
      · exact .inr hlb
    · intro c hc
      simp only [List.mem_append, List.mem_cons, List.not_mem_nil, or_false] at hc
      rcases hc with (rfl | rfl) | (rfl | rfl)
      · exact .inl rfl
      · exact .inr (.inr ⟨_, ma⟩)
      · exact .inr (.inl rfl)
      · exact .inr (.inr ⟨_, mb⟩)
    · intro i v u m dyn h tk led2 hi hv hu hJ
      obtain ⟨z, tz, rfl, hz'⟩ := intsAre_get ia (i := i) (u := v) (by simpa using hv)
      obtain ⟨y, ty, rfl, hy'⟩ := intsAre_get ib (i := i) (u := u) (by simpa using hu)
      exact turn i z y tz ty m dyn h tk led2 hz' hy' hJ
  | @bts b c t u =>
    refine call_zip_bytes fun h' hz hTI hTO hi1 hi2 hsz hk => ?_
    have D1 := drawsBytes (prog := prog) (w := w) (A := A.in1) hh s.heap.objs.size b.toArray t
    have D2 := drawsBytes (prog := prog) (w := w) (A := A.in1) hh (s.heap.objs.size + 1) c.toArray u
    have e1 : b.toArray.size = n := by rw [List.size_toArray, ← hx, List.length_map]
    have e2 : c.toArray.size = n := by rw [List.size_toArray, ← hy, List.length_map]
    rw [e1] at D1
    rw [e2] at D2
    refine for_zipD (s := { s with heap := h' }) J (zipAp_of (fun c hc => .inl (List.mem_singleton.mp hc)) (fun c hc => .inl (List.mem_singleton.mp hc))) hh hL hkx hkx₂ hp hxx D1 D2 (.head _) (.head _) hks hnx ?_ hz hTI ⟨_, _, hTO⟩ hi1 hi2 (F.keeps hk) (fun p hp => ⟨hk _ _ (N p hp).1, (N p hp).2⟩) hoff h0 ?_ done
    · intro c hc
      simp only [List.mem_append, List.mem_singleton] at hc
      rcases hc with rfl | rfl
      · exact .inl rfl
      · exact .inr (.inl rfl)
    · rintro i v y m dyn h tk led2 hi ⟨c1, t1, hc1, rfl⟩ ⟨c2, t2, hc2, rfl⟩ hJ
      refine turn i _ _ t1 t2 m dyn h tk led2 ?_ ?_ hJ
      · rw [List.getElem?_map, show b[i]? = some c1 by simpa using hc1]; rfl
      · rw [List.getElem?_map, show c[i]? = some c2 by simpa using hc2]; rfl
end
end Mine

namespace Mine
open LCg
theorem map_five {a b c d e : Addr} (oa ob oc od oe : Obj) : ([(a, oa), (b, ob), (c, oc), (d, od), (e, oe)] : Led).map (·.1) = [a, b, c, d, e] := rfl
section
variable {prog : Program} {w : World} {A : Around} {s : Shared} {env : Env} {h₀ : Heap} {L : Addr} {m : Str → Option Value}
/-- [.. for x, y in zip(a, b)], a and b lists of the ledger of one length; what stays of the ledger with the iterators is one letter -/
theorem comp_zip {elt iter : Expr} {ifs : List Expr} {scope : Scope} {cl : List (Str × Addr)} {pos : Pos} {x x₂ : Str} {px px₂ tp : Pos} {k : Nat} {a b : Addr} {va vb : List Value} {na nb : Nat} {n : Nat} {nx : Led} {RR : Value → Addr → Result → Shared → Prop} (J : Nat → List Value → Prop)
    (hh : A.handled = none) (F : Fr h₀ L s.heap m) (N : News h₀ L s.heap nx) (ma : (a, listOf va.toArray na) ∈ nx) (mb : (b, listOf vb.toArray nb) ∈ nx) (hva : va.length = n) (hvb : vb.length = n) (hsz : n ≤ sizeLine)
    (hcell : ∀ y ∈ scope.names, y.2 ≠ .cell) (hkind : scope.kind = .function) (hx : scope.names.lookup x = some .local) (hx₂ : scope.names.lookup x₂ = some .local) (hxx : x ≠ x₂) (j0 : J 0 [])
    (turn : ∀ i y z ys C oC D m₂ h tk nx2, va[i]? = some y → vb[i]? = some z → J i ys → NsObj oC m₂ → m₂ x = some y → m₂ x₂ = some z → (∀ p ∈ nx, p ∈ nx2) → Fr h₀ L h m → News h₀ L h ((C, oC) :: (D, lst ys) :: nx2) → (∀ p ∈ nx2, p.1 ≠ C ∧ p.1 ≠ D) → (@Ne Nat C D) →
      CompTurn prog w A h₀ L m elt ifs (compEnvC scope cl C env) { s with heap := h, toks := tk } ((C, oC) :: (D, lst ys) :: nx2) (fun y => J (i + 1) (ys ++ [y])) (J (i + 1) ys))
    (fin : ∀ h, CompDone h₀ L m nx n J { s with heap := h } RR) :
    wpAny (model prog w) A (call (.type "zip") [.ref a, .ref b]) (fun xv s₁ => wpAny (model prog w) A (pyIter xv) (CompGo prog w A env (.ListComp elt [⟨.Tuple [.Name x px, .Name x₂ px₂] k tp, iter, ifs, 0⟩] scope pos) scope cl RR) nah s₁) nah s := by
  have la := (N _ ma).1
  have lb := (N _ mb).1
  have hla : @LT.lt Nat _ a s.heap.objs.size := Heap.lt_size la
  have hlb : @LT.lt Nat _ b s.heap.objs.size := Heap.lt_size lb
  have ha : s.heap.IsList a va.toArray := ⟨_, la, rfl, na, rfl⟩
  have hb : s.heap.IsList b vb.toArray := ⟨_, lb, rfl, nb, rfl⟩
  refine call_zip_2 ha hb fun h' hz hTI hTO hi1 hi2 hsz' hk => ?_
  have D1 := Draws.list (prog := prog) (w := w) (A := A.in1) hh s.heap.objs.size a (Nat.ne_of_lt hla) va.toArray
  have D2 := Draws.list (prog := prog) (w := w) (A := A.in1) hh (s.heap.objs.size + 1) b (Nat.ne_of_lt (Nat.lt_succ_of_lt hlb)) vb.toArray
  have e1 : va.toArray.size = n := by rw [List.size_toArray, hva]
  have e2 : vb.toArray.size = n := by rw [List.size_toArray, hvb]
  rw [e1] at D1
  rw [e2] at D2
  have Z : ZipAp (s.heap.objs.size + 4) (s.heap.objs.size + 2) (s.heap.objs.size + 3) s.heap.objs.size (s.heap.objs.size + 1) [s.heap.objs.size, a] [s.heap.objs.size + 1, b] := zipAp_of (fun c hc => by
      simp only [List.mem_cons, List.not_mem_nil, or_false] at hc
      rcases hc with rfl | rfl
      · exact .inl rfl
      · exact .inr hla) (fun c hc => by
      simp only [List.mem_cons, List.not_mem_nil, or_false] at hc
      rcases hc with rfl | rfl
      · exact .inl rfl
      · exact .inr hlb)
  have hLs : @LT.lt Nat _ L s.heap.objs.size := F.ns.lt
  have none₀ : ∀ a : Nat, s.heap.objs.size ≤ a → h₀.get? a = none := fun a ha => by
    cases q : h₀.get? a with
    | none => rfl
    | some o => exact absurd (Heap.lt_size (F.keep a o q)) (Nat.not_lt.mpr ha)
  have ksz : ∀ c ∈ [s.heap.objs.size + 4, s.heap.objs.size + 2, s.heap.objs.size + 3, s.heap.objs.size, s.heap.objs.size + 1], s.heap.objs.size ≤ c ∧ c < s.heap.objs.size + 5 := fun c hc => by
    simp only [List.mem_cons, List.not_mem_nil, or_false] at hc
    rcases hc with rfl | rfl | rfl | rfl | rfl <;> constructor <;> omega
  refine wpAny_pyIter_zip hz ?_
  have W := KTurns.ofWalksU (elts := [.Name x px, .Name x₂ px₂]) (k := k) (pos := tp) (walksZip Z D1 D2 (.head _) (.head _)).toU
  refine comp_blockK (s₂ := { s with heap := h' }) (ks := [s.heap.objs.size + 4, s.heap.objs.size + 2, s.heap.objs.size + 3, s.heap.objs.size, s.heap.objs.size + 1]) (Has := fun i m₂ => ∃ y z, va[i]? = some y ∧ vb[i]? = some z ∧ m₂ x = some y ∧ m₂ x₂ = some z) J W ?_ hsz ?_ ?_ ?_ ?_ hcell hkind ⟨hz, hTI, ⟨_, _, hTO⟩, ⟨hi1, ha.at fun o e => hk _ o e⟩, ⟨hi2, hb.at fun o e => hk _ o e⟩⟩ (F.keeps hk) (fun p hp => ⟨hk _ _ (N p hp).1, (N p hp).2⟩) ?_ j0 ?_ (fin h')
  · rintro s Q ⟨h1, _⟩ hq
    exact wpAny_pyIter_zip h1 hq
  · rintro i h ⟨g1, g2, ⟨a, b, g3⟩, g4, g5⟩
    have q1 : ∃ o, h.get? (s.heap.objs.size + 4) = some o := ⟨_, g1⟩
    have q2 : ∃ o, h.get? (s.heap.objs.size + 2) = some o := ⟨_, g2⟩
    have q3 : ∃ o, h.get? (s.heap.objs.size + 3) = some o := ⟨_, g3⟩
    obtain ⟨o1, e1⟩ := q1
    obtain ⟨o2, e2⟩ := q2
    obtain ⟨o3, e3⟩ := q3
    obtain ⟨o4, e4⟩ := D1.live _ _ g4
    obtain ⟨o5, e5⟩ := D2.live _ _ g5
    refine ⟨[(s.heap.objs.size + 4, o1), (s.heap.objs.size + 2, o2), (s.heap.objs.size + 3, o3), (s.heap.objs.size, o4), (s.heap.objs.size + 1, o5)], map_five _ _ _ _ _, fun p hp => ?_⟩
    rcases List.mem_cons.mp hp with rfl | hp
    · exact e1
    rcases List.mem_cons.mp hp with rfl | hp
    · exact e2
    rcases List.mem_cons.mp hp with rfl | hp
    · exact e3
    rcases List.mem_cons.mp hp with rfl | hp
    · exact e4
    rw [List.mem_singleton.mp hp]; exact e5
  · intro c hc
    obtain ⟨k1, k2⟩ := ksz c hc
    refine ⟨none₀ c k1, Nat.ne_of_gt (Nat.lt_of_lt_of_le hLs k1), ?_, fun p hp => Nat.ne_of_lt (Nat.lt_of_lt_of_le (Heap.lt_size (N p hp).1) k1)⟩
    show c < h'.objs.size
    rw [hsz']; exact k2
  · intro c hc
    simp only [List.mem_cons, List.not_mem_nil, or_false] at hc ⊢
    rcases hc with rfl | rfl | rfl | rfl <;> simp
  · intro c hc
    simp only [List.mem_cons, List.mem_append, List.not_mem_nil, or_false] at hc
    rcases hc with rfl | rfl | rfl | (rfl | rfl) | (rfl | rfl)
    · exact .inl (by simp)
    · exact .inl (by simp)
    · exact .inl (by simp)
    · exact .inl (by simp)
    · exact .inr (.inr ⟨_, ma⟩)
    · exact .inl (by simp)
    · exact .inr (.inr ⟨_, mb⟩)
  · rintro i v C m' s' Q' hi ⟨T, vals, rfl, ⟨y, z, hy, hz, rfl⟩, hT⟩ hn h
    exact asg_pair hh hkind hx hx₂ hxx hT hn fun h' tk' m₂ hk hn' e1 e2 => h h' tk' m₂ hk hn' ⟨y, z, by simpa using hy, by simpa using hz, e1, e2⟩
  · rintro i ys own C oC D' m₂ h tk hi hown hJ hNC ⟨y, z, hy, hz, e1, e2⟩ F' N' o1 o2 o3
    have t := turn i y z ys C oC D' m₂ h tk (own ++ nx) hy hz hJ hNC e1 e2 (fun p hp => List.mem_append_right _ hp) F' (news_sub N' fun p hp => by
      simp only [List.mem_cons, List.mem_append] at hp ⊢
      rcases hp with hp | hp | hp | hp
      · exact .inr (.inl hp)
      · exact .inr (.inr (.inl hp))
      · exact .inl hp
      · exact .inr (.inr (.inr hp))) (fun p hp => by
      rcases List.mem_append.mp hp with hp | hp
      · exact o1 p hp
      · exact ⟨(o2 p hp).1, (o2 p hp).2.1⟩) o3
    have back : ∀ (post : Value → Prop) v s₂, CEnd h₀ L m { s with heap := h, toks := tk } ((C, oC) :: (D', lst ys) :: (own ++ nx)) post v s₂ → CEnd h₀ L m { s with heap := h, toks := tk } (own ++ (C, oC) :: (D', lst ys) :: nx) post v s₂ := by
      rintro post v s₂ ⟨h9, tk9, rfl, F9, N9, hp9⟩
      refine ⟨h9, tk9, rfl, F9, news_sub N9 fun p hp => ?_, hp9⟩
      simp only [List.mem_cons, List.mem_append] at hp ⊢
      rcases hp with hp | hp | hp | hp
      · exact .inr (.inr (.inl hp))
      · exact .inl hp
      · exact .inr (.inl hp)
      · exact .inr (.inr (.inr hp))
    refine wpAny_mono t (fun ok s₃ h₃ => ?_) fun _ _ x => x
    split at h₃
    · rename_i hok
      rw [if_pos hok]
      exact wpAny_mono h₃ (fun v s₄ h₄ => back _ v s₄ h₄) fun _ _ x => x
    · rename_i hok
      rw [if_neg hok]
      exact back _ _ _ h₃
end
end Mine

namespace Mine
open_top hd for PySem.Challenge.rw_wo0051_01
end Mine
theorem Mine.offTop : True := by
  w_top off
  trivial
local macro_rules | `(tactic| walk_at $s:str) => `(tactic| k_extra $s)

namespace Mine
noncomputable abbrev PP : Program := Mine.hd.view_39
noncomputable abbrev LL : List Str := looseW PP [Str.ofString "insort_right", Str.ofString "bisect_right", Str.ofString "_name_disallowed_re", Str.ofString "_value_disallowed_re"]
noncomputable abbrev MM (w : World) : Model := model PySem.Challenge.rw_wo0051_01.row.prog w
def nameCode : Array Nat := #[14, 10, 4, 1, 1, 22, 0, 31, 16, 127, 0, 13, 7, 22, 0, 31, 16, 127, 0, 1]
def valueCode : Array Nat := #[14, 14, 4, 1, 1, 9, 4294966783, 0, 0, 2147483648, 0, 0, 0, 0, 0, 13, 11, 9, 4294966783, 0, 0, 2147483648, 0, 0, 0, 0, 0, 1]
/-- a text that the names' pattern (true) or the values' one lets through -/
def clean (b : Bool) (v : Str) : Bool := noFind (if b then nameCode else valueCode) v.cps 0 && decide (v.cps.size ≤ 1000)
theorem clean_find {b : Bool} {v : Str} (h : clean b v = true) : noFind (if b then nameCode else valueCode) v.cps 0 = true := (Bool.and_eq_true_iff.mp h).1
theorem clean_size {b : Bool} {v : Str} (h : clean b v = true) : v.cps.size ≤ 1000 := of_decide_eq_true (Bool.and_eq_true_iff.mp h).2
section
variable {prog : Program} {w : World} {A : Around} {E : Value → Shared → Prop} {s : Shared} {K : Frag} {h₀ : Heap} {L : Addr} {m : Str → Option Value}
theorem search_methodK {a : Addr} {fs : Array Value} {sl : Array (Option Value)} {pl : Sem Bool} {Q : Value × List Value → Shared → Prop} (F : Fr h₀ L s.heap m) (X : K.In h₀)
    (hl : K.lookup a = some ⟨.type "re.Pattern", none, .fields fs, sl⟩) (h : Q (.builtin "re.Pattern.search", [.ref a]) s) : wpAny (model prog w) A (getMethod (.ref a) "search" pl) Q E s :=
  search_method (X.keeps F.keep _ _ hl) h
theorem search_noneK {a c : Addr} {b : Bool} {fs cs : Array Value} {sl slc : Array (Option Value)} {n : Nat} {v : Str} {t : Tok} {Q : Value → Shared → Prop} (F : Fr h₀ L s.heap m) (X : K.In h₀)
    (hl : K.lookup a = some ⟨.type "re.Pattern", none, .fields fs, sl⟩) (h5 : fs.getD 5 .none = .ref c) (hlc : K.lookup c = some ⟨.type "tuple", none, .seq cs n, slc⟩)
    (h6 : Builtin.Re.reRawNat (fs.getD 6 .none) = 0) (h2 : Builtin.Re.reRawNat (fs.getD 2 .none) = 0)
    (hc : (cs.map Builtin.Re.reRawOf).map (·.toNat) = if b then nameCode else valueCode) (hv : clean b v = true)
    (h : Q .none s) : wpAny (model prog w) A (call (.builtin "re.Pattern.search") [.ref a, .str v t]) Q E s :=
  search_none (X.keeps F.keep _ _ hl) (X.keeps F.keep _ _ hlc) h5 h6 (by rw [hc, h2]; exact clean_find hv) (by have := clean_size hv; omega) h
end
abbrev pairObj (k v : Str) (tk tv : Tok) (n : Nat) : Obj := { cls := .type "tuple", data := .seq #[.str k tk, .str v tv] n }
/-- a list's values are pairs of texts, borne by the ledger -/
inductive Pairs (led : Led) : List Value → List (Str × Str) → Prop
  | nil : Pairs led [] []
  | cons {a : Addr} {k v : Str} {tk tv : Tok} {n : Nat} {vs : List Value} {hs : List (Str × Str)} : (a, pairObj k v tk tv n) ∈ led → Pairs led vs hs → Pairs led (.ref a :: vs) ((k, v) :: hs)
theorem Pairs.length {led : Led} {vs : List Value} {hs : List (Str × Str)} (h : Pairs led vs hs) : vs.length = hs.length := by
  induction h with
  | nil => rfl
  | cons _ _ ih => simp [ih]
theorem Pairs.mono {led led' : Led} {vs : List Value} {hs : List (Str × Str)} (h : Pairs led vs hs) (hs' : ∀ p ∈ led, p ∈ led') : Pairs led' vs hs := by
  induction h with
  | nil => exact .nil
  | cons m _ ih => exact .cons (hs' _ m) ih
theorem Pairs.snoc {led : Led} {vs : List Value} {hs : List (Str × Str)} {a : Addr} {k v : Str} {tk tv : Tok} {n : Nat} (h : Pairs led vs hs) (hm : (a, pairObj k v tk tv n) ∈ led) : Pairs led (vs ++ [.ref a]) (hs ++ [(k, v)]) := by
  induction h with
  | nil => exact .cons hm .nil
  | cons m _ ih => exact .cons m ih
theorem Pairs.get {led : Led} {vs : List Value} {hs : List (Str × Str)} (h : Pairs led vs hs) : ∀ {i : Nat} {u : Value}, vs[i]? = some u → ∃ a k v tk tv n, u = .ref a ∧ hs[i]? = some (k, v) ∧ (a, pairObj k v tk tv n) ∈ led := by
  induction h with
  | nil => intro i u e; simp at e
  | @cons a k v tk tv n vs hs m _ ih =>
    intro i u e
    cases i with
    | zero => simp at e; exact ⟨a, k, v, tk, tv, n, e.symm, by simp, m⟩
    | succ i => simp at e; simpa using ih e
theorem Pairs.has {h₀ h : Heap} {L : Addr} {led more : Led} {vs : List Value} {hs : List (Str × Str)} {m₂ : Str → Option Value} {x x₂ : Str} {i : Nat} {v : Value} (hp : Pairs more vs hs) (N : News h₀ L h led) (sub : ∀ p ∈ more, p ∈ led) (hv : vs[i]? = some v)
    (hh : ∃ t v₁ v₂ n, v = .ref t ∧ (t, ({ cls := .type "tuple", data := .seq #[v₁, v₂] n } : Obj)) ∈ led ∧ m₂ x = some v₁ ∧ m₂ x₂ = some v₂) :
    ∃ k u tk tu, hs[i]? = some (k, u) ∧ m₂ x = some (.str k tk) ∧ m₂ x₂ = some (.str u tu) := by
  obtain ⟨a, k, u, tk, tu, n, rfl, hi, hm⟩ := hp.get hv
  obtain ⟨t, v₁, v₂, n', e, hm', h1, h2⟩ := hh
  cases e
  have e1 := (N _ (sub _ hm)).1
  rw [(N _ hm').1] at e1
  simp only [Option.some.injEq, Obj.mk.injEq, Data.seq.injEq, Array.mk.injEq, List.cons.injEq, true_and, and_true] at e1
  obtain ⟨⟨rfl, rfl⟩, _⟩ := e1
  exact ⟨k, u, tk, tu, hi, h1, h2⟩
/-- what the text's get finds -/
def hget (hs : List (Str × Str)) (v : Str) : Option Str := (hs.find? fun p => Txt.lower p.1 == Txt.lower v).map (·.2)
theorem hget_at {v k u : Str} : ∀ {hs : List (Str × Str)} {i : Nat}, hs[i]? = some (k, u) → (Txt.lower k == Txt.lower v) = true → (∀ p ∈ hs.take i, (Txt.lower p.1 == Txt.lower v) = false) → hget hs v = some u
  | [], _, h, _, _ => by simp at h
  | p :: r, 0, h, h1, _ => by
    simp at h; subst h
    unfold hget
    rw [List.find?_cons, h1]; rfl
  | p :: r, i + 1, h, h1, h2 => by
    have h3 := h2 p (by simp)
    have ih := hget_at (hs := r) (i := i) (by simpa using h) h1 fun q hq => h2 q (by simp [hq])
    unfold hget at ih ⊢
    rw [List.find?_cons, h3]; exact ih
theorem hget_no {v : Str} {hs : List (Str × Str)} (h : ∀ p ∈ hs, (Txt.lower p.1 == Txt.lower v) = false) : hget hs v = none := by
  unfold hget
  rw [List.find?_eq_none.mpr fun p hp => by rw [h p hp]; exact Bool.false_ne_true]; rfl
abbrev hdrDict (dh : Int) (dk : Tok) (l : Addr) (dn : Nat) : Obj := dictOf [⟨dh, .str (Str.ofString "_headers") dk, .ref l⟩] dn
end Mine
theorem Mine.say_j_1 : True := by
  k_with "ENTER" => (refine Mine.noRaise ?_; refine wpAny_call ?_; k_dflt (refine' code_def ?yk1_1 ?yk2_1 ?yk3_1 ?yk4_1 ?yk5_1 ?ykA_1 ?ykF_1 ?ykK_1 ?yk6_1 ?yk7_1 ?yk8_1 ?yk9_1 ?ykB_1 ?_ ?yc2_1 ?yc3_1 ?yc4_1 ?yc5_1; (case ykA_1 => exact rfl); (case ykF_1 => exact rfl); (case ykK_1 => assumption); (case yk1_1 => k_asm); (case yk2_1 => k_asm); (case yk3_1 => k_asm); (case yk4_1 => k_asm); (case yk5_1 => k_asm); (case yk6_1 => k_is); (case yk7_1 => k_is); (case yk8_1 => ktr_room); (case yk9_1 => first | exact BindsTo.of_eq rfl | exact binds_K (by k_in) rfl (by k_is) rfl rfl rfl); (case yc5_1 => decide); (case ykB_1 => exact locs rfl); (case yc2_1 => exact rfl); (case yc3_1 => exact rfl); (case yc4_1 => exact rfl); k_whole))
  trivial
theorem Mine.say_j_2 : True := by
  k_with "ENTERC" => (refine Mine.noRaise ?_; refine wpAny_call ?_; k_dflt (refine' code_defC ?yk1_2 ?yk2_2 ?yk3_2 ?yk4_2 ?yk5_2 ?ykA_2 ?ykF_2 ?ykK_2 ?yk6_2 ?yk7_2 ?yk8_2 ?yk9_2 ?ykB_2 ?ykD_2 ?_ ?yc2_2 ?yc3_2 ?yc4_2; (case ykA_2 => exact rfl); (case ykF_2 => exact rfl); (case ykK_2 => assumption); (case yk1_2 => k_asm); (case yk2_2 => k_asm); (case yk3_2 => k_asm); (case yk4_2 => k_asm); (case yk5_2 => k_asm); (case yk6_2 => k_is); (case yk7_2 => k_is); (case yk8_2 => ktr_room); (case yk9_2 => first | exact BindsTo.of_eq rfl | exact binds_K (by k_in) rfl (by k_is) rfl rfl rfl); (case ykB_2 => exact rfl); (case ykD_2 => decide +kernel); (case yc2_2 => exact rfl); (case yc3_2 => exact rfl); (case yc4_2 => exact rfl); k_whole))
  trivial
theorem Mine.say_j_3 : True := by
  k_with "getMethod ref" => (k_here; (with_reducible show wpAny _ _ (getMethod (Value.ref _) (Str.ofString "search") _) _ _ _); k_dflt (refine' Mine.search_methodK ?yk1_3 ?yk2_3 ?yk3_3 ?_; (case yk1_3 => k_asm); (case yk2_3 => k_asm); (case yk3_3 => k_is); k_whole))
  trivial
theorem Mine.say_j_4 : True := by
  k_with "call builtin:re.Pattern.search" => (k_here; k_dflt (refine' Mine.search_noneK ?yk1_4 ?yk2_4 ?yk3_4 ?yk4_4 ?yk5_4 ?yk6_4 ?yk7_4 ?yk8_4 ?yk9_4 ?_; (case yk1_4 => k_asm); (case yk2_4 => k_asm); (case yk3_4 => k_is); (case yk4_4 => exact rfl); (case yk5_4 => k_is); (case yk6_4 => rfl); (case yk7_4 => rfl); (case yk9_4 => assumption); (case yk8_4 => decide +kernel)))
  trivial
theorem Mine.say_j_5 : True := by
  k_with "TurnTo" => ((with_reducible show Mine.TurnTo _ _ _ _ _ _ _ (Flow.ret _) _); dsimp only [Mine.TurnTo])
  trivial
theorem Mine.say_j_6 : True := by
  k_with "COMP" => with_unfolding_all (first | (refine Mine.comp_expr (cl := []) rfl rfl (by decide) (by intro _; rfl) ?_) | (refine Mine.comp_assign (cl := []) rfl rfl rfl (by decide) (by intro _; rfl) ?_))
  trivial
theorem Mine.say_j_7 : True := by
  k_with "FOR" => (refine wpAny_For ?_ (by intro _; rfl))
  trivial
theorem Mine.say_j_8 : True := by
  k_with "call builtin:str.lower" => (k_here; (try dsimp only); (with_reducible show wpAny _ _ (call (Value.builtin "str.lower") [Value.str _ _]) _ _ _); (refine SCL.lower (by first | assumption | omega | decide +kernel) ?_; intro _))
  trivial
theorem Mine.say_j_9 : True := by
  k_with "STEPS" => repeat' (first | (k_unfold; (try dsimp only)) | ((fail_if_success (with_reducible show wpAny _ _ (pyIter _) _ _ _)); (fail_if_success (with_reducible show wpAny _ _ (exec (Stmt.While _ _ _ _) _) _ _ _)); (fail_if_success (with_reducible show wpAny _ _ (exec (Stmt.For _ _ _ _ _) _) _ _ _)); (fail_if_success (with_reducible show wpAny _ _ (eval (Expr.ListComp _ _ _ _) _) _ _ _)); (fail_if_success (with_reducible show wpAny _ _ (exec (Stmt.Assign _ (Expr.ListComp _ _ _ _) _) _) _ _ _)); first | walk1 | (dsimp only; walk1)) | fail "no step")
  trivial

namespace Mine
theorem conv_t {w : World} {mean : ExcName → Option Value} {mg mb : Str → Option Value} {dp un : Nat} {gd : Option (List Code)} {cn : Str} {cs : Scope} {a : Addr} {ccd : Value} {cl : List (Str × Addr)} {outer : List Env} {A₀ : Around} {base h₀ : Heap} {L : Addr} {m : Str → Option Value} {s : Shared} {Q E : Value → Shared → Prop} {news : Led} {x : Addr} {v : Str} {t : Tok} (B : Below A₀ base outer h₀) (F : Fr h₀ L s.heap m) (X : (Mine.hd.heap_39 w.params).In h₀) (T : Top PP LL mean mg mb h₀) (hk : cs.kind = .function) (N : News h₀ L s.heap news) (hd : dp + 1 < recursionLimit) (hu : un + 8 < cLine)
    (hv : clean true v = true) (ret : ∀ h' tk', Fr h₀ L h' m → News h₀ L h' news → Q (.str v t) { s with heap := h', toks := tk' }) :
    wpAny (MM w) (ktrTop dp un gd cn cs L a ccd cl outer) (call (.ref 95) [.ref x, .str v t] [("name", .bool true)]) Q E s := by
  walk_at "ENTER"
  intro g L' h₁ FG F' N' B' X' T'
  replace F' : Fr g L' h₁ (fun y => List.lookup y [("name", .bool true), ("value", .str v t), ("self", .ref x)]) := F'
  refine noRaise ?_
  try dsimp only
  walk_at "STEPS"
  exact ret _ _ (by k_asm) (by k_asm)
theorem conv_f {w : World} {mean : ExcName → Option Value} {mg mb : Str → Option Value} {dp un : Nat} {gd : Option (List Code)} {cn : Str} {cs : Scope} {a : Addr} {ccd : Value} {cl : List (Str × Addr)} {outer : List Env} {A₀ : Around} {base h₀ : Heap} {L : Addr} {m : Str → Option Value} {s : Shared} {Q E : Value → Shared → Prop} {news : Led} {x : Addr} {v : Str} {t : Tok} (B : Below A₀ base outer h₀) (F : Fr h₀ L s.heap m) (X : (Mine.hd.heap_39 w.params).In h₀) (T : Top PP LL mean mg mb h₀) (hk : cs.kind = .function) (N : News h₀ L s.heap news) (hd : dp + 1 < recursionLimit) (hu : un + 8 < cLine)
    (hv : clean false v = true) (ret : ∀ h' tk', Fr h₀ L h' m → News h₀ L h' news → Q (.str v t) { s with heap := h', toks := tk' }) :
    wpAny (MM w) (ktrTop dp un gd cn cs L a ccd cl outer) (call (.ref 95) [.ref x, .str v t] [("name", .bool false)]) Q E s := by
  walk_at "ENTER"
  intro g L' h₁ FG F' N' B' X' T'
  replace F' : Fr g L' h₁ (fun y => List.lookup y [("name", .bool false), ("value", .str v t), ("self", .ref x)]) := F'
  refine noRaise ?_
  try dsimp only
  walk_at "STEPS"
  exact ret _ _ (by k_asm) (by k_asm)
end Mine
theorem Mine.say_j_10 : True := by
  k_with "call ref" => (k_here; (with_reducible show wpAny _ _ (call (Value.ref 95) _ _) _ _ _); k_dflt (refine' Mine.conv_t ?yk1_10 ?yk2_10 ?yk3_10 ?yk4_10 ?yk5_10 ?yk6_10 ?yk7_10 ?yk8_10 ?yk9_10 ?_; (case yk1_10 => k_asm); (case yk2_10 => k_asm); (case yk3_10 => k_asm); (case yk4_10 => k_asm); (case yk5_10 => first | exact rfl | assumption); (case yk6_10 => k_asm); (case yk7_10 => ktr_room); (case yk8_10 => ktr_units); (case yk9_10 => first | assumption | decide +kernel); k_whole); intro h' tk' F' N')
  trivial
theorem Mine.say_j_11 : True := by
  k_with "call ref" => (k_here; (with_reducible show wpAny _ _ (call (Value.ref 95) _ _) _ _ _); k_dflt (refine' Mine.conv_f ?yk1_11 ?yk2_11 ?yk3_11 ?yk4_11 ?yk5_11 ?yk6_11 ?yk7_11 ?yk8_11 ?yk9_11 ?_; (case yk1_11 => k_asm); (case yk2_11 => k_asm); (case yk3_11 => k_asm); (case yk4_11 => k_asm); (case yk5_11 => first | exact rfl | assumption); (case yk6_11 => k_asm); (case yk7_11 => ktr_room); (case yk8_11 => ktr_units); (case yk9_11 => first | assumption | decide +kernel); k_whole); intro h' tk' F' N')
  trivial

namespace Mine
theorem get_c {w : World} {mean : ExcName → Option Value} {mg mb : Str → Option Value} {dp un : Nat} {gd : Option (List Code)} {cn : Str} {cs : Scope} {a : Addr} {ccd : Value} {cl : List (Str × Addr)} {outer : List Env} {A₀ : Around} {base h₀ : Heap} {L : Addr} {m : Str → Option Value} {s : Shared} {Q E : Value → Shared → Prop} {x dx l : Addr} {dh : Int} {dk : Tok} {dn nn : Nat} {vs : List Value} {hs : List (Str × Str)} {more : Led} {v : Str} {t : Tok} (B : Below A₀ base outer h₀) (F : Fr h₀ L s.heap m) (X : (Mine.hd.heap_39 w.params).In h₀) (T : Top PP LL mean mg mb h₀) (hk : cs.kind = .function)
    (N : News h₀ L s.heap ((x, instObj 196 dx) :: (dx, hdrDict dh dk l dn) :: (l, listOf vs.toArray nn) :: more)) (hp : Pairs more vs hs) (hd : dp + 2 < recursionLimit) (hu : un + 16 < cLine)
    (hv : v.length ≤ 5592405) (hc : clean true (Txt.lower v) = true) (hsh : ∀ p ∈ hs, p.1.length ≤ 5592405)
    (retS : ∀ u tu h' tk', hget hs v = some u → Fr h₀ L h' m → News h₀ L h' ((x, instObj 196 dx) :: (dx, hdrDict dh dk l dn) :: (l, listOf vs.toArray nn) :: more) → Q (.str u tu) { s with heap := h', toks := tk' })
    (retN : ∀ h' tk', hget hs v = none → Fr h₀ L h' m → News h₀ L h' ((x, instObj 196 dx) :: (dx, hdrDict dh dk l dn) :: (l, listOf vs.toArray nn) :: more) → Q .none { s with heap := h', toks := tk' }) :
    wpAny (MM w) (ktrTop dp un gd cn cs L a ccd cl outer) (call (.ref 143) [.ref x, .str v t] []) Q E s := by
  walk_at "ENTER"
  intro g L' h₁ FG F' N' B' X' T'
  replace F' : Fr g L' h₁ (fun y => List.lookup y [("default", .none), ("name", .str v t), ("self", .ref x)]) := F'
  refine noRaise ?_
  try dsimp only
  walk_at "STEPS"
  walk_at "FOR"
  walk_at "STEPS"
  try dsimp only
  rename News _ _ _ _ => N₂
  rename Fr _ _ _ _ => F₂
  refine for_list (L := L') (vs := vs) (nn := nn) (fun i m nx => nx = (x, instObj 196 dx) :: (dx, hdrDict dh dk l dn) :: (l, listOf vs.toArray nn) :: more ∧ (∃ tk, m (Str.ofString "name") = some (.str (Txt.lower v) tk)) ∧ m (Str.ofString "default") = some .none ∧ ∀ p ∈ hs.take i, (Txt.lower p.1 == Txt.lower v) = false) rfl rfl F₂ N₂ ?_ ?_ ?_ ?_
  · rintro i m nx ⟨rfl, _⟩
    simp
  · exact ⟨rfl, ⟨_, rfl⟩, rfl, by simp⟩
  · clear F₂ N₂
    rintro i u m₁ nx h tk I o hu ⟨rfl, ⟨tk1, hn⟩, hdf, hno⟩ hI F₃ N₃
    obtain ⟨a₁, k, v₁, t1, t2, n1, rfl, hi, hm⟩ := hp.get hu
    have N₄ : News g L' h ((a₁, pairObj k v₁ t1 t2 n1) :: (I, o) :: (x, instObj 196 dx) :: (dx, hdrDict dh dk l dn) :: (l, listOf vs.toArray nn) :: more) :=
      news_sub N₃ fun p hp => by
        rcases List.mem_cons.mp hp with rfl | hp
        · simp [hm]
        · exact hp
    have F₄ := fr_knows [(Str.ofString "name", .str (Txt.lower v) tk1), (Str.ofString "default", .none)] F₃ (by simp [hn, hdf])
    clear N₃ F₃
    have hk : k.length ≤ 5592405 := hsh _ (List.mem_of_getElem? hi)
    walk_at "STEPS"
    · rename _ = true => he
      exact retS _ _ _ _ (hget_at hi he hno) (by k_asm) (news_sub (by k_asm) fun p hp => .tail _ (.tail _ hp))
    · rename _ = false => he
      rename News _ _ _ _ => N₅
      rename Fr _ _ _ _ => F₅
      refine TurnTo.next _ F₅ (news_sub N₅ fun p hp => .tail _ hp) hI ⟨rfl, ⟨_, rfl⟩, rfl, fun p hp => ?_⟩
      rw [List.take_add_one, hi] at hp
      rcases List.mem_append.mp hp with h1 | h1
      · exact hno p h1
      · simp at h1; subst h1; exact he
  · clear F₂ N₂
    rintro m₁ nx h tk ⟨rfl, ⟨tk1, hn⟩, hdf, hno⟩ F₃ N₃
    have F₄ := fr_knows [(Str.ofString "name", .str (Txt.lower v) tk1), (Str.ofString "default", .none)] F₃ (by simp [hn, hdf])
    clear F₃
    rw [hp.length, List.take_length] at hno
    walk_at "STEPS"
    exact retN _ _ (hget_no hno) (by k_asm) (by k_asm)
theorem get_d {w : World} {mean : ExcName → Option Value} {mg mb : Str → Option Value} {dp un : Nat} {gd : Option (List Code)} {cn : Str} {cs : Scope} {a : Addr} {ccd : Value} {cl : List (Str × Addr)} {outer : List Env} {A₀ : Around} {base h₀ : Heap} {L : Addr} {m : Str → Option Value} {s : Shared} {Q E : Value → Shared → Prop} {x dx l : Addr} {dh : Int} {dk : Tok} {dn nn : Nat} {vs : List Value} {hs : List (Str × Str)} {more : Led} {v : Str} {t : Tok} {d : Str} {td : Tok} (B : Below A₀ base outer h₀) (F : Fr h₀ L s.heap m) (X : (Mine.hd.heap_39 w.params).In h₀) (T : Top PP LL mean mg mb h₀) (hk : cs.kind = .function)
    (N : News h₀ L s.heap ((x, instObj 196 dx) :: (dx, hdrDict dh dk l dn) :: (l, listOf vs.toArray nn) :: more)) (hp : Pairs more vs hs) (hd : dp + 2 < recursionLimit) (hu : un + 16 < cLine)
    (hv : v.length ≤ 5592405) (hc : clean true (Txt.lower v) = true) (hsh : ∀ p ∈ hs, p.1.length ≤ 5592405)
    (retS : ∀ u tu h' tk', hget hs v = some u → Fr h₀ L h' m → News h₀ L h' ((x, instObj 196 dx) :: (dx, hdrDict dh dk l dn) :: (l, listOf vs.toArray nn) :: more) → Q (.str u tu) { s with heap := h', toks := tk' })
    (retN : ∀ h' tk', hget hs v = none → Fr h₀ L h' m → News h₀ L h' ((x, instObj 196 dx) :: (dx, hdrDict dh dk l dn) :: (l, listOf vs.toArray nn) :: more) → Q (.str d td) { s with heap := h', toks := tk' }) :
    wpAny (MM w) (ktrTop dp un gd cn cs L a ccd cl outer) (call (.ref 143) [.ref x, .str v t, .str d td] []) Q E s := by
  walk_at "ENTER"
  intro g L' h₁ FG F' N' B' X' T'
  replace F' : Fr g L' h₁ (fun y => List.lookup y [("default", (.str d td)), ("name", .str v t), ("self", .ref x)]) := F'
  refine noRaise ?_
  try dsimp only
  walk_at "STEPS"
  walk_at "FOR"
  walk_at "STEPS"
  try dsimp only
  rename News _ _ _ _ => N₂
  rename Fr _ _ _ _ => F₂
  refine for_list (L := L') (vs := vs) (nn := nn) (fun i m nx => nx = (x, instObj 196 dx) :: (dx, hdrDict dh dk l dn) :: (l, listOf vs.toArray nn) :: more ∧ (∃ tk, m (Str.ofString "name") = some (.str (Txt.lower v) tk)) ∧ m (Str.ofString "default") = some (.str d td) ∧ ∀ p ∈ hs.take i, (Txt.lower p.1 == Txt.lower v) = false) rfl rfl F₂ N₂ ?_ ?_ ?_ ?_
  · rintro i m nx ⟨rfl, _⟩
    simp
  · exact ⟨rfl, ⟨_, rfl⟩, rfl, by simp⟩
  · clear F₂ N₂
    rintro i u m₁ nx h tk I o hu ⟨rfl, ⟨tk1, hn⟩, hdf, hno⟩ hI F₃ N₃
    obtain ⟨a₁, k, v₁, t1, t2, n1, rfl, hi, hm⟩ := hp.get hu
    have N₄ : News g L' h ((a₁, pairObj k v₁ t1 t2 n1) :: (I, o) :: (x, instObj 196 dx) :: (dx, hdrDict dh dk l dn) :: (l, listOf vs.toArray nn) :: more) :=
      news_sub N₃ fun p hp => by
        rcases List.mem_cons.mp hp with rfl | hp
        · simp [hm]
        · exact hp
    have F₄ := fr_knows [(Str.ofString "name", .str (Txt.lower v) tk1), (Str.ofString "default", (.str d td))] F₃ (by simp [hn, hdf])
    clear N₃ F₃
    have hk : k.length ≤ 5592405 := hsh _ (List.mem_of_getElem? hi)
    walk_at "STEPS"
    · rename _ = true => he
      exact retS _ _ _ _ (hget_at hi he hno) (by k_asm) (news_sub (by k_asm) fun p hp => .tail _ (.tail _ hp))
    · rename _ = false => he
      rename News _ _ _ _ => N₅
      rename Fr _ _ _ _ => F₅
      refine TurnTo.next _ F₅ (news_sub N₅ fun p hp => .tail _ hp) hI ⟨rfl, ⟨_, rfl⟩, rfl, fun p hp => ?_⟩
      rw [List.take_add_one, hi] at hp
      rcases List.mem_append.mp hp with h1 | h1
      · exact hno p h1
      · simp at h1; subst h1; exact he
  · clear F₂ N₂
    rintro m₁ nx h tk ⟨rfl, ⟨tk1, hn⟩, hdf, hno⟩ F₃ N₃
    have F₄ := fr_knows [(Str.ofString "name", .str (Txt.lower v) tk1), (Str.ofString "default", (.str d td))] F₃ (by simp [hn, hdf])
    clear F₃
    rw [hp.length, List.take_length] at hno
    walk_at "STEPS"
    exact retN _ _ (hget_no hno) (by k_asm) (by k_asm)
end Mine

namespace Mine
open LCg
theorem keys_c {w : World} {mean : ExcName → Option Value} {mg mb : Str → Option Value} {dp un : Nat} {gd : Option (List Code)} {cn : Str} {cs : Scope} {a : Addr} {ccd : Value} {cl : List (Str × Addr)} {outer : List Env} {A₀ : Around} {base h₀ : Heap} {L : Addr} {m : Str → Option Value} {s : Shared} {Q E : Value → Shared → Prop} {x dx l : Addr} {dh : Int} {dk : Tok} {dn nn : Nat} {vs : List Value} {hs : List (Str × Str)} {more : Led} (B : Below A₀ base outer h₀) (F : Fr h₀ L s.heap m) (X : (Mine.hd.heap_39 w.params).In h₀) (T : Top PP LL mean mg mb h₀) (hk : cs.kind = .function)
    (N : News h₀ L s.heap ((x, instObj 196 dx) :: (dx, hdrDict dh dk l dn) :: (l, listOf vs.toArray nn) :: more)) (hp : Pairs more vs hs) (hd : dp + 2 < recursionLimit) (hu : un + 16 < cLine) (hsz : vs.length ≤ 1000)
    (ret : ∀ D ks h' tk', StrsAre ks (hs.map (·.1)) → Fr h₀ L h' m → News h₀ L h' ((D, lst ks) :: (x, instObj 196 dx) :: (dx, hdrDict dh dk l dn) :: (l, listOf vs.toArray nn) :: more) → Q (.ref D) { s with heap := h', toks := tk' }) :
    wpAny (MM w) (ktrTop dp un gd cn cs L a ccd cl outer) (call (.ref 148) [.ref x] []) Q E s := by
  walk_at "ENTER"
  intro g L' h₁ FG F' N' B' X' T'
  replace F' : Fr g L' h₁ (fun y => List.lookup y [("self", .ref x)]) := F'
  refine noRaise ?_
  try dsimp only
  walk_at "STEPS"
  walk_at "COMP"
  walk_at "STEPS"
  try dsimp only
  rename News _ _ _ _ => N₂
  rename Fr _ _ _ _ => F₂
  refine comp_list (vs := vs) (nn := nn) (fun i ys => StrsAre ys ((hs.take i).map (·.1))) rfl F₂ N₂ (by simp) (by rw [sizeLine_eq]; omega) (by decide) rfl (Asg.pair rfl rfl rfl rfl (by decide) ?_) (by simp; exact StrsAre.nil) ?_ ?_
  · intro i v hv
    obtain ⟨a₁, k, v₁, t1, t2, n1, rfl, hi, hm⟩ := hp.get hv
    exact ⟨a₁, .str k t1, .str v₁ t2, n1, rfl, .tail _ (.tail _ (.tail _ hm))⟩
  · intro h i v ys I oI C oC D m₂ h' tk hi hv hJ hC hHas F₃ N₃ hoff hne
    obtain ⟨k, u, tk, tu, hik, hm1, hm2⟩ := hp.has (news_sub N₃ fun p hp => .tail _ (.tail _ (.tail _ hp))) (fun p hp => by simp [hp]) hv hHas
    refine CompTurn.plain ?_
    try dsimp only
    walk_at "STEPS"
    refine CEnd.intro (by k_asm) (by k_asm) ?_
    rw [take_snoc hik, List.map_append]
    exact strs_snoc hJ
  · intro h
    refine CompDone.expr ?_
    intro D h' tk ys F₃ N₃ _ _ hJ
    rw [hp.length, List.take_length] at hJ
    walk_at "STEPS"
    exact ret _ _ _ _ hJ (by k_asm) (by k_asm)
end Mine

theorem Mine.say_j_12 : True := by
  k_with "ENTERN" => (k_dflt (refine' code_def ?yk1_12 ?yk2_12 ?yk3_12 ?yk4_12 ?yk5_12 ?ykA_12 ?ykF_12 ?ykK_12 ?yk6_12 ?yk7_12 ?yk8_12 ?yk9_12 ?ykB_12 ?_ ?yc2_12 ?yc3_12 ?yc4_12 ?yc5_12; (case ykA_12 => exact rfl); (case ykF_12 => exact rfl); (case ykK_12 => assumption); (case yk1_12 => k_asm); (case yk2_12 => k_asm); (case yk3_12 => k_asm); (case yk4_12 => k_asm); (case yk5_12 => k_asm); (case yk6_12 => k_is); (case yk7_12 => k_is); (case yk8_12 => ktr_room); (case yk9_12 => first | exact BindsTo.of_eq rfl | exact binds_K (by k_in) rfl (by k_is) rfl rfl rfl); (case yc5_12 => decide); (case ykB_12 => exact locs rfl); (case yc2_12 => exact rfl); (case yc3_12 => exact rfl); (case yc4_12 => exact rfl); k_whole))
  trivial
namespace Mine
theorem news_rot2 {h₀ h : Heap} {L : Addr} {a b c : Addr × Obj} {r : Led} (N : News h₀ L h (a :: b :: c :: r)) : News h₀ L h (b :: c :: a :: r) := news_sub N fun p hp => by
  simp only [List.mem_cons] at hp ⊢
  grind
section
variable {prog : Program} {w : World} {A : Around} {s : Shared} {h₀ : Heap} {L : Addr} {env : Env}
theorem for_nil {target : Expr} {body : List Stmt} {l : Addr} {nn : Nat} {m₀ : Str → Option Value} {nx₀ : Led} {Q : Flow → Shared → Prop}
    (hh : A.handled = none) (hL : env.locals = L) (F : Fr h₀ L s.heap m₀) (N : News h₀ L s.heap nx₀) (hm : (l, listOf #[] nn) ∈ nx₀)
    (done : ∀ h tk, Fr h₀ L h m₀ → News h₀ L h nx₀ → Q .next { s with heap := h, toks := tk }) :
    wpAny (model prog w) A (pyIter (.ref l)) (fun it s₂ => codeAny (model prog w) A (.forLoop target it body [] env) (fun r s' => match r with | .ok f => Q f s' | .error e => cameBackBy (model prog w) A env nah e s') s₂) nah s :=
  for_list (vs := []) (nn := nn) (fun _ m nx => m = m₀ ∧ nx = nx₀) hh hL F N (fun _ _ _ h => h.2 ▸ hm) ⟨rfl, rfl⟩ (fun i v _ _ _ _ _ _ e => by simp at e) fun m nx h tk ⟨a, b⟩ F' N' => by subst a; subst b; exact done h tk F' N'
end
theorem new_c {w : World} {mean : ExcName → Option Value} {mg mb : Str → Option Value} {dp un : Nat} {gd : Option (List Code)} {cn : Str} {cs : Scope} {a : Addr} {ccd : Value} {cl : List (Str × Addr)} {outer : List Env} {A₀ : Around} {base h₀ : Heap} {L : Addr} {m : Str → Option Value} {s : Shared} {Q E : Value → Shared → Prop} {more : Led} (B : Below A₀ base outer h₀) (F : Fr h₀ L s.heap m) (X : (Mine.hd.heap_39 w.params).In h₀) (T : Top PP LL mean mg mb h₀) (hk : cs.kind = .function)
    (N : News h₀ L s.heap more) (hd : dp + 3 < recursionLimit) (hu : un + 16 < cLine)
    (ret : ∀ x dx l dh dk dn h' tk', AllLt dx more → (dx : Nat) < x → (x : Nat) < l → Fr h₀ L h' m → News h₀ L h' ((x, instObj 196 dx) :: (dx, hdrDict dh dk l dn) :: (l, listOf #[] 0) :: more) → Q (.ref x) { s with heap := h', toks := tk' }) :
    wpAny (MM w) (ktrTop dp un gd cn cs L a ccd cl outer) (call (.ref 196) [] []) Q E s := by
  refine noRaise ?_
  have hMk := kstMark
  refine' call_cls ?k1 ?k2 ?k3 ?k4 ?k5 ?k6 ?_
  case k1 => k_asm
  case k2 => k_asm
  case k3 => k_asm
  case k4 => k_is
  case k5 => k_is
  case k6 => k_is
  intro x dx h₂ F₂ N₂ l1 l2
  have hml : ∀ p ∈ more, p.1 ≠ dx := fun p hp => Nat.ne_of_lt (l1 p hp)
  have hxd : x ≠ dx := Nat.ne_of_gt l2
  have l0 := allLt_of l1
  replace l1 := allLt_of l1
  have hroom : dp + 1 + 1 < recursionLimit := by omega
  walk_at "ENTERN"
  intro g L' h₁ FG F' N' B' X' T'
  replace F' : Fr g L' h₁ (fun y => List.lookup y [("headers", .none), ("self", .ref x)]) := F'
  refine noRaise ?_
  try dsimp only
  walk_at "STEPS"
  walk_at "FOR"
  walk_at "STEPS"
  try dsimp only
  rename News _ _ _ _ => N₃
  rename Fr _ _ _ _ => F₃
  refine' for_nil (L := L') ?a ?b ?c ?d ?e ?_
  case a => exact rfl
  case b => exact rfl
  case c => exact F₃
  case d => exact N₃
  case e => exact .head _
  intro h₄ tk₄ F₄ N₄
  clear F₃ N₃
  walk_at "STEPS"
  rename News _ _ _ _ => N₅
  rename Fr _ _ _ _ => F₅
  rename (_ < _ ∧ _ < _ ∧ AllLt _ more) => l3
  exact ret _ _ _ _ _ _ _ _ l0 l2 l3.1 F₅ (news_rot2 N₅)
end Mine

namespace Mine
open LCg
theorem vals_c {w : World} {mean : ExcName → Option Value} {mg mb : Str → Option Value} {dp un : Nat} {gd : Option (List Code)} {cn : Str} {cs : Scope} {a : Addr} {ccd : Value} {cl : List (Str × Addr)} {outer : List Env} {A₀ : Around} {base h₀ : Heap} {L : Addr} {m : Str → Option Value} {s : Shared} {Q E : Value → Shared → Prop} {x dx l : Addr} {dh : Int} {dk : Tok} {dn nn : Nat} {vs : List Value} {hs : List (Str × Str)} {more : Led} (B : Below A₀ base outer h₀) (F : Fr h₀ L s.heap m) (X : (Mine.hd.heap_39 w.params).In h₀) (T : Top PP LL mean mg mb h₀) (hk : cs.kind = .function)
    (N : News h₀ L s.heap ((x, instObj 196 dx) :: (dx, hdrDict dh dk l dn) :: (l, listOf vs.toArray nn) :: more)) (hp : Pairs more vs hs) (hd : dp + 2 < recursionLimit) (hu : un + 16 < cLine) (hsz : vs.length ≤ 1000)
    (ret : ∀ D ks h' tk', StrsAre ks (hs.map (·.2)) → Fr h₀ L h' m → News h₀ L h' ((D, lst ks) :: (x, instObj 196 dx) :: (dx, hdrDict dh dk l dn) :: (l, listOf vs.toArray nn) :: more) → Q (.ref D) { s with heap := h', toks := tk' }) :
    wpAny (MM w) (ktrTop dp un gd cn cs L a ccd cl outer) (call (.ref 153) [.ref x] []) Q E s := by
  walk_at "ENTER"
  intro g L' h₁ FG F' N' B' X' T'
  replace F' : Fr g L' h₁ (fun y => List.lookup y [("self", .ref x)]) := F'
  refine noRaise ?_
  try dsimp only
  walk_at "STEPS"
  walk_at "COMP"
  walk_at "STEPS"
  try dsimp only
  rename News _ _ _ _ => N₂
  rename Fr _ _ _ _ => F₂
  refine comp_list (vs := vs) (nn := nn) (fun i ys => StrsAre ys ((hs.take i).map (·.2))) rfl F₂ N₂ (by simp) (by rw [sizeLine_eq]; omega) (by decide) rfl (Asg.pair rfl rfl rfl rfl (by decide) ?_) (by simp; exact StrsAre.nil) ?_ ?_
  · intro i v hv
    obtain ⟨a₁, k, v₁, t1, t2, n1, rfl, hi, hm⟩ := hp.get hv
    exact ⟨a₁, .str k t1, .str v₁ t2, n1, rfl, .tail _ (.tail _ (.tail _ hm))⟩
  · intro h i v ys I oI C oC D m₂ h' tk hi hv hJ hC hHas F₃ N₃ hoff hne
    obtain ⟨k, u, tk, tu, hik, hm1, hm2⟩ := hp.has (news_sub N₃ fun p hp => .tail _ (.tail _ (.tail _ hp))) (fun p hp => by simp [hp]) hv hHas
    refine CompTurn.plain ?_
    try dsimp only
    walk_at "STEPS"
    refine CEnd.intro (by k_asm) (by k_asm) ?_
    rw [take_snoc hik, List.map_append]
    exact strs_snoc hJ
  · intro h
    refine CompDone.expr ?_
    intro D h' tk ys F₃ N₃ _ _ hJ
    rw [hp.length, List.take_length] at hJ
    walk_at "STEPS"
    exact ret _ _ _ _ hJ (by k_asm) (by k_asm)
end Mine

local macro_rules | `(tactic| k_all) => `(tactic| with_reducible assumption)
theorem Mine.say_j_13 : True := by
  k_with "call ref" => (k_here; (with_reducible show wpAny _ _ (call (Value.ref 143) [_, _] _) _ _ _); k_dflt (refine' Mine.get_c ?yk1_13 ?yk2_13 ?yk3_13 ?yk4_13 ?yk5_13 ?yk6_13 ?yk7_13 ?yk8_13 ?yk9_13 ?ykV_13 ?ykC_13 ?ykS_13 ?_ ?_; (case yk1_13 => k_asm); (case yk2_13 => k_asm); (case yk3_13 => k_asm); (case yk4_13 => k_asm); (case yk5_13 => first | exact rfl | assumption); (case yk6_13 => k_asm); (case yk7_13 => assumption); (case yk8_13 => ktr_room); (case yk9_13 => ktr_units); (case ykV_13 => assumption); (case ykC_13 => assumption); (case ykS_13 => assumption)); (all_goals (first | (intro u' tu' h' tk' hg' F' N') | (intro h' tk' hg' F' N'))))
  trivial
namespace Mine
theorem news_rot3 {h₀ h : Heap} {L : Addr} {a b c d : Addr × Obj} {r : Led} (N : News h₀ L h (a :: b :: c :: d :: r)) : News h₀ L h (b :: c :: d :: a :: r) := news_sub N fun p hp => by
  simp only [List.mem_cons] at hp ⊢
  grind
theorem sd_c {w : World} {mean : ExcName → Option Value} {mg mb : Str → Option Value} {dp un : Nat} {gd : Option (List Code)} {cn : Str} {cs : Scope} {a : Addr} {ccd : Value} {cl : List (Str × Addr)} {outer : List Env} {A₀ : Around} {base h₀ : Heap} {L : Addr} {m : Str → Option Value} {s : Shared} {Q E : Value → Shared → Prop} {x dx l : Addr} {dh : Int} {dk : Tok} {dn nn : Nat} {vs : List Value} {hs : List (Str × Str)} {more : Led} {v u : Str} {t t' : Tok} (B : Below A₀ base outer h₀) (F : Fr h₀ L s.heap m) (X : (Mine.hd.heap_39 w.params).In h₀) (T : Top PP LL mean mg mb h₀) (hk : cs.kind = .function)
    (N : News h₀ L s.heap ((x, instObj 196 dx) :: (dx, hdrDict dh dk l dn) :: (l, listOf vs.toArray nn) :: more)) (hp : Pairs more vs hs) (hd : dp + 3 < recursionLimit) (hu : un + 24 < cLine) (hsz : vs.length ≤ 900)
    (hv : v.length ≤ 5592405) (hcl : clean true (Txt.lower v) = true) (hc : clean true v = true) (hcu : clean false u = true) (hsh : ∀ p ∈ hs, p.1.length ≤ 5592405) (hml : ∀ p ∈ more, p.1 ≠ l) (hxl : x ≠ l) (hdl : dx ≠ l)
    (retS : ∀ z tz h' tk', hget hs v = some z → Fr h₀ L h' m → News h₀ L h' ((x, instObj 196 dx) :: (dx, hdrDict dh dk l dn) :: (l, listOf vs.toArray nn) :: more) → Q (.str z tz) { s with heap := h', toks := tk' })
    (retN : ∀ T nn' tk tv h' tk', hget hs v = none → (∀ p ∈ more, p.1 ≠ T) → Fr h₀ L h' m →
      News h₀ L h' ((x, instObj 196 dx) :: (dx, hdrDict dh dk l dn) :: (l, listOf (vs ++ [Value.ref T]).toArray nn') :: (T, pairObj v u tk tv 0) :: more) → Q (.str u t') { s with heap := h', toks := tk' }) :
    wpAny (MM w) (ktrTop dp un gd cn cs L a ccd cl outer) (call (.ref 186) [.ref x, .str v t, .str u t'] []) Q E s := by
  walk_at "ENTER"
  intro g L' h₁ FG F' N' B' X' T'
  replace F' : Fr g L' h₁ (fun y => List.lookup y [("value", .str u t'), ("name", .str v t), ("self", .ref x)]) := F'
  have hMk := kstMark
  refine noRaise ?_
  try dsimp only
  walk_at "STEPS"
  · rename hget hs v = some _ => hg
    rename News _ _ _ _ => N₅
    exact retS _ _ _ _ hg (by k_asm) N₅
  · rename hget hs v = none => hg
    rename News _ _ _ _ => N₅
    rename (_ < _ ∧ _ < _ ∧ _ < _ ∧ AllLt _ more) => l9
    rw [List.push_toArray] at N₅
    exact retN _ _ _ _ _ _ hg (fun p hp => Nat.ne_of_lt (kst_ltOf l9.2.2.2 p hp)) (by k_asm) (news_rot3 N₅)
end Mine

theorem Mine.say_j_14 : True := by
  k_with "ENTERS" => (refine Mine.wpS_call ?_; k_dflt (refine' Mine.code_defS ?yk1_14 ?yk2_14 ?yk3_14 ?yk4_14 ?yk5_14 ?ykA_14 ?ykF_14 ?ykK_14 ?yk6_14 ?yk7_14 ?yk8_14 ?yk9_14 ?ykB_14 ?_ ?yc2_14 ?yc3_14 ?yc4_14 ?yc5_14; (case ykA_14 => exact rfl); (case ykF_14 => exact rfl); (case ykK_14 => assumption); (case yk1_14 => k_asm); (case yk2_14 => k_asm); (case yk3_14 => k_asm); (case yk4_14 => k_asm); (case yk5_14 => k_asm); (case yk6_14 => k_is); (case yk7_14 => k_is); (case yk8_14 => ktr_room); (case yk9_14 => first | exact BindsTo.of_eq rfl | exact binds_K (by k_in) rfl (by k_is) rfl rfl rfl); (case yc5_14 => decide); (case ykB_14 => exact locs rfl); (case yc2_14 => exact rfl); (case yc3_14 => exact rfl); (case yc4_14 => exact rfl); k_whole))
  trivial
theorem Mine.say_j_15 : True := by
  k_with "setItem ref int" => (k_here; (with_reducible show wpAny _ _ (setItem (Value.ref _) (Value.int _ _) (Value.int _ _)) _ _ _); k_dflt (refine' Mine.set_bya_led ?yk1_15 ?yk2_15 ?yk3_15 ?yk4_15 ?yk5_15 ?yk6_15 ?yk7_15 ?yk8_15 ?_; (case yk1_15 => k_asm); (case yk2_15 => k_asm); (case yk3_15 => assumption); (case yk4_15 => omega); (case yk5_15 => omega); (case yk6_15 => omega); (case yk7_15 => omega); (case yk8_15 => exact Int.ofNat_lt.mpr (UInt8.toNat_lt _)); k_whole); intro h' F' N')
  trivial
theorem Mine.say_j_16 : True := by
  k_with "call type:bytes" => (k_here; (with_reducible show wpAny _ _ (call (Value.type "bytes") [Value.ref _]) _ _ _); k_dflt (refine' Mine.bytes_bya_led ?yk1_16 ?yk2_16 ?yk3_16 ?_; (case yk1_16 => k_asm); (case yk2_16 => k_memK); (case yk3_16 => assumption); k_whole); intro tb' kb')
  trivial
namespace Mine
theorem swp_c {w : World} {mean : ExcName → Option Value} {mg mb : Str → Option Value} {dp un : Nat} {gd : Option (List Code)} {cn : Str} {cs : Scope} {a : Addr} {ccd : Value} {cl : List (Str × Addr)} {outer : List Env} {A₀ : Around} {base h₀ : Heap} {L : Addr} {m : Str → Option Value} {s : Shared} {Q E : Value → Shared → Prop} {led : Led} {ts : List UInt8} {tt t9 : Tok} (B : Below A₀ base outer h₀) (F : Fr h₀ L s.heap m) (X : (Mine.hd.heap_39 w.params).In h₀) (T : Top PP LL mean mg mb h₀) (hk : cs.kind = .function)
    (N : News h₀ L s.heap led) (hd : dp + 2 < recursionLimit) (hu : un + 16 < cLine) (htz : ts.length = 12)
    (ret : ∀ tq h' tk', Fr h₀ L h' m → News h₀ L h' led → Q (.bytes (swpI ts 6 2 (Array.replicate 12 0)) tq) { s with heap := h', toks := tk' }) :
    wpS (MM w) (ktrTop dp un gd cn cs L a ccd cl outer) (call (.ref 45) [.bytes ts.toArray tt, .int 6 t9] []) Q nah s := by
  walk_at "ENTERS"
  intro g L' h₁ FG F' N' B' X' T'
  replace F' : Fr g L' h₁ (fun y => List.lookup y [("width", .int 6 t9), ("data", .bytes ts.toArray tt)]) := F'
  have hMk := kstMark
  try dsimp only
  refine execs_consS (Assign_NameS (Call_S ?_ (by rfl)) (by rfl))
  walk_at "STEPS"
  refine callWith_type1S (args_consS (wpS_of ?_) (by rfl)) (by rfl) (by rfl)
  walk_at "STEPS"
  refine args_nilS ?_
  rename News _ _ _ _ => N₂
  rename Fr _ _ _ _ => F₂
  refine call_bya_led (n := 12) (by simp [htz]) (by decide) (by decide) F₂ N₂ ?_
  clear F₂ N₂
  intro D h2 hoff F₂ N₂
  walk_at "STEPS"
  dsimp only
  refine wpS_of ?_
  walk_at "STEPS"
  walk_at "FOR"
  walk_at "STEPS"
  try dsimp only
  rename IsRange _ _ _ _ _ _ _ _ => hr
  rename News _ _ _ _ => N₃
  rename Fr _ _ _ _ => F₃
  have esz : (ts.toArray.size : Int) = 12 := by simp [htz]
  rw [esz] at hr
  refine for_range (n := 2) (fun i m nx => nx = (D, byaObj (swpI ts 6 i (Array.replicate 12 0))) :: led ∧ m "swapped_data" = some (.ref D) ∧ m "width" = some (.int 6 t9) ∧ m "data" = some (.bytes ts.toArray tt)) rfl rfl hr (by decide) (by decide) F₃ N₃ ⟨rfl, rfl, rfl, rfl⟩ ?_ ?_
  · clear F₃ N₃
    rintro i t m₁ nx h tk I o hi ⟨rfl, e1, e2, e3⟩ hI F₃ N₃
    have F₄ := fr_knows [("swapped_data", .ref D), ("width", .int 6 t9), ("data", .bytes ts.toArray tt)] F₃ (by simp [e1, e2, e3])
    clear F₃
    walk_at "STEPS"
    walk_at "FOR"
    walk_at "STEPS"
    try dsimp only
    rename IsRange _ _ _ _ _ _ _ _ => hr2
    rename News _ _ _ _ => N₅
    rename Fr _ _ _ _ => F₅
    refine for_range (n := 6) (fun j m nx => nx = (D, byaObj (swpJ ts 6 (i * 6) j (swpI ts 6 i (Array.replicate 12 0)))) :: (I, o) :: led ∧ m "swapped_data" = some (.ref D) ∧ m "width" = some (.int 6 t9) ∧ m "data" = some (.bytes ts.toArray tt) ∧ HasI m "i" ((i : Int) * 6)) rfl rfl hr2 (by decide) (by decide) F₅ (news_swp N₅) ⟨rfl, rfl, rfl, rfl, HasI.of (k := 0 + (i : Int) * 6) (by omega) rfl⟩ ?_ ?_
    · clear F₅ N₅
      rintro j t2 m₂ nx h3 tk3 I2 o2 hj ⟨rfl, f1, f2, f3, ⟨ti, f4⟩⟩ hI2 F₅ N₅
      have hsz : (swpJ ts 6 (i * 6) j (swpI ts 6 i (Array.replicate 12 0))).size = 12 := by rw [swpJ_size, swpI_size]; simp
      have F₆ := fr_knows [("swapped_data", .ref D), ("width", .int 6 t9), ("data", .bytes ts.toArray tt), ("i", .int ((i : Int) * 6) ti)] F₅ (by simp [f1, f2, f3, f4])
      clear F₅
      have N₆ := news_swp N₅
      clear N₅
      have hoff2 : ∀ p ∈ (I2, o2) :: (I, o) :: led, p.1 ≠ D := off_cons2 (Ne.symm (hI2 _ (.head _))) (off_cons2 (Ne.symm (hI _ (.head _))) hoff)
      have hw1 : ((6 : Int)) = 6 := rfl
      walk_at "STEPS"
      rename News _ _ _ _ => N₇
      rename Fr _ _ _ _ => F₇
      refine TurnTo.next _ F₇ (news_swp N₇) ?_ ⟨?_, rfl, rfl, rfl, ⟨ti, rfl⟩⟩
      · exact off_cons2 (hI2 _ (.head _)) fun p hp => hI2 p (.tail _ hp)
      · rw [swpJ]
        congr 3
        congr 1
        · omega
        · rw [byte_of]
          congr 1
          omega
    · clear F₅ N₅
      rintro m₂ nx h3 tk3 ⟨rfl, f1, f2, f3, _⟩ F₅ N₅
      have F₆ := fr_knows [("swapped_data", .ref D), ("width", .int 6 t9), ("data", .bytes ts.toArray tt)] F₅ (by simp [f1, f2, f3])
      clear F₅
      walk_at "STEPS"
      rename News _ _ _ _ => N₇
      rename Fr _ _ _ _ => F₇
      exact TurnTo.next _ F₇ (news_swp N₇) (off_cons2 (hI _ (.head _)) fun p hp => hI p (.tail _ hp)) ⟨rfl, rfl, rfl, rfl⟩
  · clear F₃ N₃
    rintro m₁ nx h tk ⟨rfl, e1, e2, e3⟩ F₃ N₃
    have hsz : (swpI ts 6 2 (Array.replicate 12 0)).size ≤ 1000 := by rw [swpI_size]; simp
    have F₄ := fr_knows [("swapped_data", .ref D), ("width", .int 6 t9), ("data", .bytes ts.toArray tt)] F₃ (by simp [e1, e2, e3])
    clear F₃
    walk_at "STEPS"
    rename News _ _ _ _ => N₇
    exact ret _ _ _ (by k_asm) (news_sub N₇ fun p hp => .tail _ hp)
end Mine

theorem Mine.say_j_17 : True := by
  k_with "call builtin:len" => (k_here; (with_reducible show wpAny _ _ (call (Value.builtin "len") [Value.ref _]) _ _ _); k_dflt (refine' kst_len ?yk1_17 ?yk2_17 rfl ?yk4_17 ?_; (case yk1_17 => k_asm); (case yk2_17 => k_memK); (case yk4_17 => omega); k_whole))
  trivial
theorem Mine.say_j_18 : True := by
  k_with "ENTERK" => (refine Mine.noRaise ?_; refine wpAny_call ?_; k_dflt (refine' code_def ?yk1_18 ?yk2_18 ?yk3_18 ?yk4_18 ?yk5_18 ?ykA_18 ?ykF_18 ?ykK_18 ?yk6_18 ?yk7_18 ?yk8_18 ?yk9_18 ?ykB_18 ?_ ?yc2_18 ?yc3_18 ?yc4_18 ?yc5_18; (case ykA_18 => exact rfl); (case ykF_18 => exact rfl); (case ykK_18 => assumption); (case yk1_18 => k_asm); (case yk2_18 => k_asm); (case yk3_18 => k_asm); (case yk4_18 => k_asm); (case yk5_18 => k_asm); (case yk6_18 => k_is); (case yk7_18 => k_is); (case yk8_18 => ktr_room); (case yk9_18 => (refine' kp_binds ?ykx_18 ?yke_18; (case ykx_18 => k_in); (case yke_18 => exact fun _ => rfl))); (case yc5_18 => decide); (case ykB_18 => exact locs rfl); (case yc2_18 => exact rfl); (case yc3_18 => exact rfl); (case yc4_18 => exact rfl); k_whole))
  trivial
theorem Mine.say_j_19 : True := by
  k_with "WHILE" => (dsimp only [WhileStep2])
  trivial
namespace Mine
/-- a row of ints that goes up -/
def Up (ns : List Int) : Prop := ns.Pairwise (· ≤ ·)
/-- how many are at most x -/
def cle (ns : List Int) (x : Int) : Nat := ns.countP fun y => decide (y ≤ x)
theorem up_take {x : Int} : ∀ {ns : List Int} {i : Nat} {z : Int}, Up ns → ns[i]? = some z → z ≤ x → ∀ y ∈ ns.take (i + 1), y ≤ x
  | [], _, _, _, h, _, _, _ => by simp at h
  | y :: r, 0, z, _, h, hz, u, hu => by
    simp at h; subst h
    simp at hu; subst hu; exact hz
  | y :: r, i + 1, z, hp, h, hz, u, hu => by
    obtain ⟨h1, h2⟩ := List.pairwise_cons.mp hp
    have h' : r[i]? = some z := by simpa using h
    rcases List.mem_cons.mp (by simpa using hu) with rfl | hu
    · exact Int.le_trans (h1 z (List.mem_of_getElem? h')) hz
    · exact up_take (x := x) h2 h' hz u hu
theorem up_drop {x : Int} : ∀ {ns : List Int} {i : Nat} {z : Int}, Up ns → ns[i]? = some z → x < z → ∀ y ∈ ns.drop i, x < y
  | [], _, _, _, h, _, _, _ => by simp at h
  | y :: r, 0, z, hp, h, hz, u, hu => by
    simp at h; subst h
    obtain ⟨h1, h2⟩ := List.pairwise_cons.mp hp
    rcases List.mem_cons.mp (by simpa using hu) with rfl | hu
    · exact hz
    · exact Int.lt_of_lt_of_le hz (h1 u hu)
  | y :: r, i + 1, z, hp, h, hz, u, hu => by
    obtain ⟨h1, h2⟩ := List.pairwise_cons.mp hp
    exact up_drop (x := x) h2 (by simpa using h) hz u (by simpa using hu)
theorem cle_at {ns : List Int} {p : Nat} {x : Int} (hp : p ≤ ns.length) (h1 : ∀ y ∈ ns.take p, y ≤ x) (h2 : ∀ y ∈ ns.drop p, x < y) : cle ns x = p := by
  unfold cle
  rw [← List.take_append_drop p ns, List.countP_append, List.countP_eq_length.mpr (by simpa using h1), List.countP_eq_zero.mpr (by intro y hy; have := h2 y hy; simp; omega)]
  simp [Nat.min_eq_left hp]
theorem ints_get {vs : List Value} {ns : List Int} (h : IntsAre vs ns) : ∀ {i : Nat} {z : Int}, ns[i]? = some z → ∃ t, vs[i]? = some (.int z t) := by
  induction h with
  | nil => intro i z e; simp at e
  | @cons k t vs ns _ ih =>
    intro i z e
    cases i with
    | zero => simp at e; subst e; exact ⟨t, by simp⟩
    | succ i => simp at e; simpa using ih e
theorem news_at {h₀ h : Heap} {L : Addr} {p : Addr × Obj} {led : Led} (N : News h₀ L h led) (hp : p ∈ led) : News h₀ L h (p :: led) := news_sub N fun q hq => by
  rcases List.mem_cons.mp hq with rfl | hq
  · exact hp
  · exact hq
theorem news_tl {h₀ h : Heap} {L : Addr} {p : Addr × Obj} {led : Led} (N : News h₀ L h (p :: led)) : News h₀ L h led := news_sub N fun q hq => .tail _ hq
theorem bis_c {w : World} {mean : ExcName → Option Value} {mg mb : Str → Option Value} {dp un : Nat} {gd : Option (List Code)} {cn : Str} {cs : Scope} {a : Addr} {ccd : Value} {cl : List (Str × Addr)} {outer : List Env} {A₀ : Around} {base h₀ : Heap} {L : Addr} {m : Str → Option Value} {s : Shared} {Q E : Value → Shared → Prop} {l : Addr} {nn : Nat} {vs : List Value} {ns : List Int} {x : Int} {led : Led} {t0 tx : Tok} (B : Below A₀ base outer h₀) (F : Fr h₀ L s.heap m) (X : (Mine.hd.heap_39 w.params).In h₀) (T : Top PP LL mean mg mb h₀) (hk : cs.kind = .function)
    (N : News h₀ L s.heap led) (hl : (l, listOf vs.toArray nn) ∈ led) (hp : IntsAre vs ns) (hso : Up ns) (hd : dp + 2 < recursionLimit) (hu : un + 16 < cLine) (hsz : ns.length ≤ 1000)
    (ret : ∀ tp h' tk', Fr h₀ L h' m → News h₀ L h' led → Q (.int (cle ns x : Int) tp) { s with heap := h', toks := tk' }) :
    wpAny (MM w) (ktrTop dp un gd cn cs L a ccd cl outer) (call (.ref 63) [.ref l, .int x tx, .int 0 t0, .none] []) Q E s := by
  replace N := news_at N hl
  walk_at "ENTERK"
  intro g L' h₁ FG F' N' B' X' T'
  replace F' : Fr g L' h₁ (fun y => List.lookup y [("key", .none), ("hi", .none), ("lo", .int 0 t0), ("x", .int x tx), ("a", .ref l)]) := F'
  refine noRaise ?_
  try dsimp only
  have hL := hp.length
  have hvz : vs.length ≤ 1000 := by omega
  walk_at "STEPS"
  try dsimp only
  rename News _ _ _ _ => N₂
  rename Fr _ _ _ _ => F₂
  refine While_inv2 (n₀ := vs.length) (fun n m nx => nx = (l, listOf vs.toArray nn) :: led ∧ ∃ (lo hi : Nat), m "key" = some .none ∧ m "x" = some (.int x tx) ∧ m "a" = some (.ref l) ∧ HasI m "lo" (lo : Int) ∧ HasI m "hi" (hi : Int) ∧ lo ≤ hi ∧ hi ≤ vs.length ∧ n = hi - lo ∧
    (∀ y ∈ ns.take lo, y ≤ x) ∧ (∀ y ∈ ns.drop hi, x < y)) F₂ N₂ ?_ ?_ nah_passes
  · exact ⟨rfl, 0, vs.length, rfl, rfl, rfl, ⟨_, rfl⟩, ⟨_, rfl⟩, Nat.zero_le _, Nat.le_refl _, rfl, by simp, by rw [hL]; simp⟩
  · clear F₂ N₂
    rintro n m₁ nx h tk F₃ N₃ ⟨rfl, lo, hi, e1, e2, e3, ⟨tl, e4⟩, ⟨th, e5⟩, h1, h2, rfl, h4, h5⟩
    have F₄ := fr_knows [("key", .none), ("x", .int x tx), ("a", .ref l), ("lo", .int (lo : Int) tl), ("hi", .int (hi : Int) th)] F₃ (by simp [e1, e2, e3, e4, e5])
    clear F₃
    have hmid : ((lo : Int) + (hi : Int)).fdiv 2 = (((lo + hi) / 2 : Nat) : Int) := by
      rw [Int.fdiv_eq_ediv_of_nonneg _ (by decide)]; omega
    have hz' : lo < hi → ns[(lo + hi) / 2]? = some (ns.getD (((lo : Int) + (hi : Int)).fdiv 2).toNat 0) := fun hlt => by
      rw [hmid, Int.toNat_natCast, List.getD_eq_getElem?_getD, List.getElem?_eq_getElem (by omega)]; rfl
    walk_at "STEPS"
    · rename (lo : Int) < (hi : Int) => hlt
      rename x < List.getD _ _ _ => hc
      rename News _ _ _ _ => N₇
      rename Fr _ _ _ _ => F₇
      exact ⟨_, _, _, _, (lo + hi) / 2 - lo, rfl, F₇, N₇, by omega, rfl, lo, (lo + hi) / 2, rfl, rfl, rfl, ⟨tl, rfl⟩, HasI.of hmid rfl, by omega, by omega, rfl, h4, up_drop hso (hz' (by omega)) hc⟩
    · rename (lo : Int) < (hi : Int) => hlt
      rename ¬ x < List.getD _ _ _ => hc
      rename News _ _ _ _ => N₇
      rename Fr _ _ _ _ => F₇
      exact ⟨_, _, _, _, hi - ((lo + hi) / 2 + 1), rfl, F₇, N₇, by omega, rfl, (lo + hi) / 2 + 1, hi, rfl, rfl, rfl, HasI.of (by rw [hmid]; rfl) rfl, ⟨th, rfl⟩, by omega, by omega, rfl, up_take hso (hz' (by omega)) (by omega), h5⟩
    · have hlh : lo = hi := by omega
      have hr := ret tl
      rw [cle_at (by omega) h4 (by rw [hlh]; exact h5)] at hr
      rename News _ _ _ _ => N₅
      exact hr _ _ (by k_asm) (news_tl N₅)
theorem bis2_c {w : World} {mean : ExcName → Option Value} {mg mb : Str → Option Value} {dp un : Nat} {gd : Option (List Code)} {cn : Str} {cs : Scope} {a : Addr} {ccd : Value} {cl : List (Str × Addr)} {outer : List Env} {A₀ : Around} {base h₀ : Heap} {L : Addr} {m : Str → Option Value} {s : Shared} {Q E : Value → Shared → Prop} {l : Addr} {nn : Nat} {vs : List Value} {ns : List Int} {x : Int} {led : Led} {tx : Tok} (B : Below A₀ base outer h₀) (F : Fr h₀ L s.heap m) (X : (Mine.hd.heap_39 w.params).In h₀) (T : Top PP LL mean mg mb h₀) (hk : cs.kind = .function)
    (N : News h₀ L s.heap led) (hl : (l, listOf vs.toArray nn) ∈ led) (hp : IntsAre vs ns) (hso : Up ns) (hd : dp + 2 < recursionLimit) (hu : un + 16 < cLine) (hsz : ns.length ≤ 1000)
    (ret : ∀ tp h' tk', Fr h₀ L h' m → News h₀ L h' led → Q (.int (cle ns x : Int) tp) { s with heap := h', toks := tk' }) :
    wpAny (MM w) (ktrTop dp un gd cn cs L a ccd cl outer) (call (.ref 63) [.ref l, .int x tx] []) Q E s := by
  replace N := news_at N hl
  walk_at "ENTERK"
  intro g L' h₁ FG F' N' B' X' T'
  refine noRaise ?_
  try dsimp only
  have hL := hp.length
  have hvz : vs.length ≤ 1000 := by omega
  walk_at "STEPS"
  try dsimp only
  rename News _ _ _ _ => N₂
  rename Fr _ _ _ _ => F₂
  refine While_inv2 (n₀ := vs.length) (fun n m nx => nx = (l, listOf vs.toArray nn) :: led ∧ ∃ (lo hi : Nat), m "key" = some .none ∧ m "x" = some (.int x tx) ∧ m "a" = some (.ref l) ∧ HasI m "lo" (lo : Int) ∧ HasI m "hi" (hi : Int) ∧ lo ≤ hi ∧ hi ≤ vs.length ∧ n = hi - lo ∧
    (∀ y ∈ ns.take lo, y ≤ x) ∧ (∀ y ∈ ns.drop hi, x < y)) F₂ N₂ ?_ ?_ nah_passes
  · exact ⟨rfl, 0, vs.length, rfl, rfl, rfl, ⟨_, rfl⟩, ⟨_, rfl⟩, Nat.zero_le _, Nat.le_refl _, rfl, by simp, by rw [hL]; simp⟩
  · clear F₂ N₂
    rintro n m₁ nx h tk F₃ N₃ ⟨rfl, lo, hi, e1, e2, e3, ⟨tl, e4⟩, ⟨th, e5⟩, h1, h2, rfl, h4, h5⟩
    have F₄ := fr_knows [("key", .none), ("x", .int x tx), ("a", .ref l), ("lo", .int (lo : Int) tl), ("hi", .int (hi : Int) th)] F₃ (by simp [e1, e2, e3, e4, e5])
    clear F₃
    have hmid : ((lo : Int) + (hi : Int)).fdiv 2 = (((lo + hi) / 2 : Nat) : Int) := by
      rw [Int.fdiv_eq_ediv_of_nonneg _ (by decide)]; omega
    have hz' : lo < hi → ns[(lo + hi) / 2]? = some (ns.getD (((lo : Int) + (hi : Int)).fdiv 2).toNat 0) := fun hlt => by
      rw [hmid, Int.toNat_natCast, List.getD_eq_getElem?_getD, List.getElem?_eq_getElem (by omega)]; rfl
    walk_at "STEPS"
    · rename (lo : Int) < (hi : Int) => hlt
      rename x < List.getD _ _ _ => hc
      rename News _ _ _ _ => N₇
      rename Fr _ _ _ _ => F₇
      exact ⟨_, _, _, _, (lo + hi) / 2 - lo, rfl, F₇, N₇, by omega, rfl, lo, (lo + hi) / 2, rfl, rfl, rfl, ⟨tl, rfl⟩, HasI.of hmid rfl, by omega, by omega, rfl, h4, up_drop hso (hz' (by omega)) hc⟩
    · rename (lo : Int) < (hi : Int) => hlt
      rename ¬ x < List.getD _ _ _ => hc
      rename News _ _ _ _ => N₇
      rename Fr _ _ _ _ => F₇
      exact ⟨_, _, _, _, hi - ((lo + hi) / 2 + 1), rfl, F₇, N₇, by omega, rfl, (lo + hi) / 2 + 1, hi, rfl, rfl, rfl, HasI.of (by rw [hmid]; rfl) rfl, ⟨th, rfl⟩, by omega, by omega, rfl, up_take hso (hz' (by omega)) (by omega), h5⟩
    · have hlh : lo = hi := by omega
      have hr := ret tl
      rw [cle_at (by omega) h4 (by rw [hlh]; exact h5)] at hr
      rename News _ _ _ _ => N₅
      exact hr _ _ (by k_asm) (news_tl N₅)
end Mine

theorem Mine.say_j_20 : True := by
  k_with "call builtin:list.insert" => (k_here; (with_reducible show wpAny _ _ (call (Value.builtin "list.insert") [Value.ref _, Value.int _ _, _]) _ _ _); k_dflt (refine' Mine.insert_led ?yk1_20 ?yk2_20 ?yk3_20 ?yk4_20 ?yk5_20 ?_; (case yk1_20 => k_asm); (case yk2_20 => k_asm); (case yk3_20 => assumption); (case yk4_20 => omega); (case yk5_20 => assumption); k_whole); intro h' nn' F' N')
  trivial
theorem Mine.say_j_21 : True := by
  k_with "call ref" => (k_here; (with_reducible show wpAny _ _ (call (Value.ref 63) [Value.ref _, Value.int _ _, _, _] _) _ _ _); k_dflt (refine' Mine.bis_c ?yk1_21 ?yk2_21 ?yk3_21 ?yk4_21 ?yk5_21 ?yk6_21 ?yk7_21 ?ykI_21 ?ykU_21 ?yk8_21 ?yk9_21 ?ykZ_21 ?_; (case yk1_21 => k_asm); (case yk2_21 => k_asm); (case yk3_21 => k_asm); (case yk4_21 => k_asm); (case yk5_21 => first | exact rfl | assumption); (case yk6_21 => k_asm); (case yk7_21 => k_memK); (case ykI_21 => assumption); (case ykU_21 => assumption); (case yk8_21 => ktr_room); (case yk9_21 => ktr_units); (case ykZ_21 => omega); k_whole); intro tp' h' tk' F' N')
  trivial
namespace Mine
theorem cle_le {ns : List Int} {x : Int} : cle ns x ≤ ns.length := List.countP_le_length
theorem up_cle {x : Int} : ∀ {ns : List Int}, Up ns → (∀ y ∈ ns.take (cle ns x), y ≤ x) ∧ (∀ y ∈ ns.drop (cle ns x), x < y)
  | [], _ => by simp [cle]
  | z :: r, h => by
    obtain ⟨h1, h2⟩ := List.pairwise_cons.mp h
    by_cases hz : z ≤ x
    · have e : cle (z :: r) x = cle r x + 1 := by simp [cle, List.countP_cons, hz]
      obtain ⟨i1, i2⟩ := up_cle (x := x) h2
      rw [e]
      exact ⟨fun y hy => by
        rcases List.mem_cons.mp (by simpa using hy) with rfl | hy
        · exact hz
        · exact i1 y hy, fun y hy => i2 y (by simpa using hy)⟩
    · have e : cle (z :: r) x = 0 := by
        unfold cle
        rw [List.countP_eq_zero]
        intro y hy
        rcases List.mem_cons.mp hy with rfl | hy
        · simp; omega
        · have := h1 y hy; simp; omega
      rw [e]
      exact ⟨by simp, fun y hy => by
        rcases List.mem_cons.mp (by simpa using hy) with rfl | hy
        · omega
        · have := h1 y hy; omega⟩
theorem up_ins {x : Int} {ns : List Int} (h : Up ns) : Up (ns.take (cle ns x) ++ x :: ns.drop (cle ns x)) := by
  obtain ⟨h1, h2⟩ := up_cle (x := x) h
  have h' := h
  unfold Up at h' ⊢
  rw [← List.take_append_drop (cle ns x) ns] at h'
  obtain ⟨a1, a2, a3⟩ := List.pairwise_append.mp h'
  refine List.pairwise_append.mpr ⟨a1, List.pairwise_cons.mpr ⟨fun y hy => Int.le_of_lt (h2 y hy), a2⟩, fun y hy z hz => ?_⟩
  rcases List.mem_cons.mp hz with rfl | hz
  · exact h1 y hy
  · exact a3 y hy z hz
theorem perm_ins' {x : Int} {ns : List Int} {p : Nat} : (ns.take p ++ x :: ns.drop p).Perm (x :: ns) := by
  have := (List.perm_middle (a := x) (l₁ := ns.take p) (l₂ := ns.drop p))
  rw [List.take_append_drop] at this
  exact this
theorem ints_ins {vs : List Value} {ns : List Int} {x : Int} {t : Tok} (h : IntsAre vs ns) : ∀ p : Nat, IntsAre (vs.take p ++ .int x t :: vs.drop p) (ns.take p ++ x :: ns.drop p) := by
  induction h with
  | nil => intro p; simpa using IntsAre.cons x t .nil
  | @cons k u vs ns r ih =>
    intro p
    cases p with
    | zero => exact .cons x t (.cons k u r)
    | succ p => exact .cons k u (ih p)
theorem ins_c {w : World} {mean : ExcName → Option Value} {mg mb : Str → Option Value} {dp un : Nat} {gd : Option (List Code)} {cn : Str} {cs : Scope} {a : Addr} {ccd : Value} {cl : List (Str × Addr)} {outer : List Env} {A₀ : Around} {base h₀ : Heap} {L : Addr} {m : Str → Option Value} {s : Shared} {Q E : Value → Shared → Prop} {l : Addr} {nn : Nat} {vs : List Value} {ns : List Int} {x : Int} {more : Led} {tx : Tok} (B : Below A₀ base outer h₀) (F : Fr h₀ L s.heap m) (X : (Mine.hd.heap_39 w.params).In h₀) (T : Top PP LL mean mg mb h₀) (hk : cs.kind = .function)
    (N : News h₀ L s.heap ((l, listOf vs.toArray nn) :: more)) (hp : IntsAre vs ns) (hso : Up ns) (hd : dp + 4 < recursionLimit) (hu : un + 32 < cLine) (hsz : ns.length ≤ 1000) (hml : ∀ p ∈ more, p.1 ≠ l)
    (ret : ∀ vs' ns' nn' h' tk', IntsAre vs' ns' → Up ns' → ns'.Perm (x :: ns) → Fr h₀ L h' m → News h₀ L h' ((l, listOf vs'.toArray nn') :: more) → Q .none { s with heap := h', toks := tk' }) :
    wpAny (MM w) (ktrTop dp un gd cn cs L a ccd cl outer) (call (.ref 54) [.ref l, .int x tx] []) Q E s := by
  have hL := hp.length
  have hvz : vs.length ≤ 1000 := by omega
  have hcl : cle ns x ≤ vs.length := by rw [hL]; exact cle_le
  walk_at "ENTERK"
  intro g L' h₁ FG F' N' B' X' T'
  refine noRaise ?_
  try dsimp only
  walk_at "STEPS"
  refine ret _ _ _ _ _ (ints_ins hp _) (up_ins hso) perm_ins' (by k_asm) (by k_asm)
end Mine

namespace Mine
open LCg
/-- each due lies beyond its spot -/
def above : Int → List Int → Bool
  | _, [] => true
  | k, d :: r => decide (k < d) && above (k + 1) r
theorem above_snoc {d : Int} : ∀ {ns : List Int} {k : Int}, above k (ns ++ [d]) = (above k ns && decide (k + ns.length < d))
  | [], k => by simp [above]
  | z :: r, k => by
    have ih := above_snoc (d := d) (ns := r) (k := k + 1)
    simp only [List.cons_append, above, ih, Bool.and_assoc, List.length_cons]
    congr 2
    rw [decide_eq_decide, Int.natCast_succ]
    omega
theorem can_c {w : World} {mean : ExcName → Option Value} {mg mb : Str → Option Value} {dp un : Nat} {gd : Option (List Code)} {cn : Str} {cs : Scope} {a : Addr} {ccd : Value} {cl : List (Str × Addr)} {outer : List Env} {A₀ : Around} {base h₀ : Heap} {L : Addr} {m : Str → Option Value} {s : Shared} {Q E : Value → Shared → Prop} {wl dl : Addr} {wn dn : Nat} {wvs dvs : List Value} {ws ds : List Int} {led : Led} (B : Below A₀ base outer h₀) (F : Fr h₀ L s.heap m) (X : (Mine.hd.heap_39 w.params).In h₀) (T : Top PP LL mean mg mb h₀) (hk : cs.kind = .function)
    (N : News h₀ L s.heap led) (hwl : (wl, listOf wvs.toArray wn) ∈ led) (hdl : (dl, listOf dvs.toArray dn) ∈ led) (hw : IntsAre wvs ws) (hds : IntsAre dvs ds) (hws : ∀ z ∈ ws, 0 ≤ z ∧ z < ds.length) (hwz : ws.length ≤ 6) (hdz : ds.length ≤ 6)
    (hd : dp + 2 < recursionLimit) (hu : un + 120 < cLine)
    (ret : ∀ row h' tk', row.Perm (ws.map fun z => ds.getD z.toNat 0) → Up row → Fr h₀ L h' m → News h₀ L h' led → Q (.bool (above 0 row)) { s with heap := h', toks := tk' }) :
    wpAny (MM w) (ktrTop dp un gd cn cs L a ccd cl outer) (call (.ref 234) [.ref wl, .ref dl] []) Q E s := by
  replace N := news_at (news_at N hwl) (.tail _ hdl)
  walk_at "ENTERC"
  intro g L' h₁ tk₁ cells FG F' N' Y B' X' T' hlt
  obtain ⟨oc, rfl, hoc⟩ := CellsAre.one Y
  clear Y
  replace hoc : oc.data = .cell (some (.ref dl)) := hoc
  replace F' : Fr g L' h₁ (fun y => if y = "works" then some (.ref wl) else none) := F'
  replace N' : News g L' h₁ ((L' + 1, oc) :: (dl, listOf dvs.toArray dn) :: (wl, listOf wvs.toArray wn) :: led) := N'
  refine noRaise ?_
  try dsimp only
  have hwv := hw.length
  have hdv := hds.length
  walk_at "STEPS"
  with_unfolding_all refine comp_expr (cl := [(Str.ofString "dues", L' + 1)]) rfl rfl (by decide) (by intro _; rfl) ?_
  walk_at "STEPS"
  try dsimp only
  rename News _ _ _ _ => N₂
  rename Fr _ _ _ _ => F₂
  refine comp_list (vs := wvs) (nn := wn) (fun i ys => IntsAre ys ((ws.take i).map fun z => ds.getD z.toNat 0)) rfl F₂ N₂ (.tail _ (.tail _ (.head _))) (by rw [sizeLine_eq]; omega) (by decide) rfl (Asg.name rfl rfl) IntsAre.nil ?_ ?_
  · intro h i v ys I oI C oC D m₂ h' tk hi hv hJ hC hHas F₃ N₃ hoff hne
    obtain ⟨z, t, rfl, hz⟩ := intsAre_get hw hv
    have hz9 := hws z (List.mem_of_getElem? hz)
    refine CompTurn.plain ?_
    try dsimp only
    walk_at "STEPS"
    refine CEnd.intro (by k_asm) (by k_asm) ?_
    rw [take_snoc hz, List.map_append]
    exact ints_snoc hJ
  · intro h
    refine CompDone.expr ?_
    intro D h' tk ys F₃ N₃ _ _ hJ
    rw [show wvs.length = ws.length by omega, List.take_length] at hJ
    walk_at "STEPS"
    rename News _ _ _ _ => N₄
    rename Fr _ _ _ _ => F₄
    rename List.Perm _ (List.map _ ws) => hpm
    rename List.Pairwise _ _ => hup
    rename IntsAre _ _ => hr₀
    rename List Int => row
    rename (_ = (List.map _ ws).length) => hrl
    have hrl' := hr₀.length
    rw [hrl, List.length_map] at hrl'
    with_unfolding_all refine comp_expr (cl := []) rfl rfl (by decide) (by intro _; rfl) ?_
    walk_at "STEPS"
    refine comp_enum_lst (fun i ys => ∃ zs, IntsAre ys zs ∧ zs.length ≤ i ∧ decide (zs = []) = above 0 (List.take i row)) rfl F₄ N₄ (.head _) (by rw [sizeLine_eq]; omega) (by decide) rfl rfl rfl (by decide) ⟨[], .nil, Nat.le_refl _, rfl⟩ ?_ ?_
    · rintro e it i t y ys oe oi C oC D m₂ h tk hi ⟨zs, hzs, hzl, hza⟩ hNC e1 e2 F₅ N₅ hoff hoff2
      obtain ⟨d, td, rfl, hdd⟩ := intsAre_get hr₀ hi
      refine CompTurn.one ?_
      try dsimp only
      walk_at "STEPS"
      · rename d ≤ _ => hle
        refine CEnd.intro (by k_asm) (by k_asm) ⟨_, ints_snoc hzs, by simp; omega, ?_⟩
        rw [take_snoc hdd, above_snoc]
        have e : decide ((0 : Int) + ((List.take i row).length : Int) < d) = false := by
          rw [decide_eq_false_iff_not, List.length_take]
          have := (List.getElem?_eq_some_iff.mp hdd).1
          omega
        rw [e, Bool.and_false]
        simp
      · rename ¬ d ≤ _ => hle
        refine CEnd.intro (by k_asm) (by k_asm) ⟨_, hzs, by omega, ?_⟩
        rw [take_snoc hdd, above_snoc, ← hza]
        have e : decide ((0 : Int) + ((List.take i row).length : Int) < d) = true := by
          rw [decide_eq_true_iff, List.length_take]
          have := (List.getElem?_eq_some_iff.mp hdd).1
          omega
        rw [e, Bool.and_true]
    · intro h
      refine CompDone.expr ?_
      rintro D h' tk ys F₅ N₅ hoff hyl ⟨zs, hzs, hzl, hza⟩
      have hI0 : IntsAre [] [] := .nil
      walk_at "STEPS"
      rename News h₀ _ _ _ => N₉
      rw [hza, hr₀.length, List.take_length]
      exact ret row _ _ hpm hup (by k_asm) (news_sub N₉ fun p hp => by simp [hp])
end Mine

namespace Mine
section
variable {prog : Program} {w : World} {A : Around} {E : Value → Shared → Prop} {s : Shared} {h₀ : Heap} {L : Addr} {m : Str → Option Value}
theorem kl_cut_at : ∀ (p q : List Value) (y : Value), kl_cut (p ++ y :: q) p.length = some (p, y, q)
  | [], _, _ => rfl
  | z :: p, q, y => by
    simp only [List.cons_append, List.length_cons, kl_cut, kl_cut_at p q y]
end
theorem split_at {α : Type} {l : List α} {k : Nat} {x : α} (h : l[k]? = some x) : l = l.take k ++ x :: l.drop (k + 1) := by
  obtain ⟨hk, e⟩ := List.getElem?_eq_some_iff.mp h
  rw [← e, ← List.drop_eq_getElem_cons hk, List.take_append_drop]
theorem ints_cut {vs : List Value} {ns : List Int} (h : IntsAre vs ns) : ∀ k : Nat, IntsAre (vs.take k ++ vs.drop (k + 1)) (ns.take k ++ ns.drop (k + 1)) := by
  induction h with
  | nil => intro k; simp; exact .nil
  | cons z t r ih =>
    intro k
    cases k with
    | zero => exact r
    | succ k => exact .cons z t (ih k)
theorem cut_perm {ns : List Int} {k : Nat} {z : Int} (h : ns[k]? = some z) (os : List Int) : ((os ++ [z]) ++ (ns.take k ++ ns.drop (k + 1))).Perm (os ++ ns) := by
  rw [List.append_assoc]
  refine List.Perm.append_left os ?_
  have e := split_at h
  have h2 : (ns.take k ++ z :: ns.drop (k + 1)).Perm (z :: (ns.take k ++ ns.drop (k + 1))) := List.perm_middle
  rw [← e] at h2
  exact h2.symm
section
variable {prog : Program} {w : World} {A : Around} {E : Value → Shared → Prop} {s : Shared} {h₀ : Heap} {L : Addr} {m : Str → Option Value}
theorem popI_led {l : Addr} {vs : List Value} {ns : List Int} {nn : Nat} {k : Int} {t : Tok} {rest : Led} {Q : Value → Shared → Prop} (F : Fr h₀ L s.heap m) (N : News h₀ L s.heap ((l, listOf vs.toArray nn) :: rest)) (hi : IntsAre vs ns) (h0 : 0 ≤ k) (h1 : k < ns.length) (hsz : ns.length ≤ 1000) (hoff : ∀ p ∈ rest, p.1 ≠ l)
    (h : ∀ h' z tz, ns[k.toNat]? = some z → IntsAre (vs.take k.toNat ++ vs.drop (k.toNat + 1)) (ns.take k.toNat ++ ns.drop (k.toNat + 1)) → Fr h₀ L h' m → News h₀ L h' ((l, listOf (vs.take k.toNat ++ vs.drop (k.toNat + 1)).toArray (nn + 1)) :: rest) → Q (.int z tz) { s with heap := h' }) :
    wpAny (model prog w) A (call (.builtin "list.pop") [.ref l, .int k t]) Q E s := by
  have hL := hi.length
  obtain ⟨n, rfl⟩ : ∃ n : Nat, k = n := ⟨k.toNat, by omega⟩
  rw [Int.toNat_natCast] at h
  have hn : n < ns.length := by omega
  obtain ⟨tz, hv⟩ := ints_get hi (List.getElem?_eq_getElem hn)
  have e := split_at hv
  refine kl_popAt (k := n) (its := vs.toArray) (n := nn) (p := vs.take n) (q := vs.drop (n + 1)) (y := .int ns[n] tz) F N (fitsIndex_of (by omega) (by omega)) ?_ ?_ (.head hoff) (by show vs.length ≤ sizeLine; rw [sizeLine_eq]; omega) fun h' F' N' => h h' _ _ (List.getElem?_eq_getElem hn) (ints_cut hi n) F' N'
  · unfold seqIndex?
    have e1 : ¬ (n : Int) < 0 := by omega
    simp [e1]
    omega
  · show kl_cut vs n = _
    have e2 : (vs.take n).length = n := by rw [List.length_take]; omega
    have h3 := kl_cut_at (vs.take n) (vs.drop (n + 1)) (.int ns[n] tz)
    rw [e2, ← e] at h3
    exact h3
end
theorem ord_c {w : World} {mean : ExcName → Option Value} {mg mb : Str → Option Value} {dp un : Nat} {gd : Option (List Code)} {cn : Str} {cs : Scope} {a : Addr} {ccd : Value} {cl : List (Str × Addr)} {outer : List Env} {A₀ : Around} {base h₀ : Heap} {L : Addr} {m : Str → Option Value} {s : Shared} {Q E : Value → Shared → Prop} {l : Addr} {nn : Nat} {cvs : List Value} {cs' : List Int} {led : Led} (B : Below A₀ base outer h₀) (F : Fr h₀ L s.heap m) (X : (Mine.hd.heap_39 w.params).In h₀) (T : Top PP LL mean mg mb h₀) (hk : cs.kind = .function)
    (N : News h₀ L s.heap led) (hl : (l, listOf cvs.toArray nn) ∈ led) (hi : IntsAre cvs cs') (hz : cs'.length = 6) (hd : dp + 2 < recursionLimit) (hu : un + 120 < cLine)
    (ret : ∀ ol ovs os no h' tk', AllLt ol led → IntsAre ovs os → os.Perm [0, 1, 2, 3, 4, 5] → Fr h₀ L h' m → News h₀ L h' ((ol, listOf ovs.toArray no) :: led) → Q (.ref ol) { s with heap := h', toks := tk' }) :
    wpAny (MM w) (ktrTop dp un gd cn cs L a ccd cl outer) (call (.ref 207) [.ref l] []) Q E s := by
  walk_at "ENTER"
  intro g L' h₁ FG F' N' B' X' T'
  replace F' : Fr g L' h₁ (fun y => List.lookup y [("cells", .ref l)]) := F'
  have hMk := kstMark
  refine noRaise ?_
  try dsimp only
  walk_at "STEPS"
  walk_at "FOR"
  walk_at "STEPS"
  try dsimp only
  rename News _ _ _ _ => N₂
  rename Fr _ _ _ _ => F₂
  rename (∀ p ∈ led, p.1 < _) => l1
  rename (_ ∧ AllLt _ led) => l2
  have n1 : ∀ t0 t1 t2 t3 t4 t5, IntsAre [Value.int 0 t0, Value.int 1 t1, Value.int 2 t2, Value.int 3 t3, Value.int 4 t4, Value.int 5 t5] [0, 1, 2, 3, 4, 5] := fun _ _ _ _ _ _ => .cons _ _ (.cons _ _ (.cons _ _ (.cons _ _ (.cons _ _ (.cons _ _ .nil)))))
  have N₃ := news_tl N₂
  clear N₂
  refine for_list (L := L') (vs := cvs) (nn := nn) (fun i m nx => ∃ wl ol wvs ws ovs os nw no, nx = (wl, listOf wvs.toArray nw) :: (ol, listOf ovs.toArray no) :: led ∧ AllLt ol led ∧ AllLt wl led ∧ (@Ne Nat wl ol) ∧ IntsAre wvs ws ∧ IntsAre ovs os ∧ (os ++ ws).Perm [0, 1, 2, 3, 4, 5] ∧ ws.length + i = 6 ∧ m "works" = some (.ref wl) ∧ m "order" = some (.ref ol)) rfl rfl F₂ (news_swp N₃) ?_ ?_ ?_ ?_
  · rintro i m nx ⟨wl, ol, wvs, ws, ovs, os, nw, no, rfl, _⟩
    exact .tail _ (.tail _ hl)
  · exact ⟨_, _, _, _, [], [], _, _, rfl, l2.2, allLt_of l1, Nat.ne_of_lt l2.1, n1 _ _ _ _ _ _, .nil, .refl _, rfl, rfl, rfl⟩
  · clear F₂ N₃ n1
    rintro i u m₁ nx h tk I o hu ⟨wl, ol, wvs, ws, ovs, os, nw, no, rfl, a1, a2, a3, hw, ho, hp, hlen, e1, e2⟩ hI F₃ N₃
    have F₄ := fr_knows [("works", .ref wl), ("order", .ref ol)] F₃ (by simp [e1, e2])
    clear F₃
    obtain ⟨c, tc, rfl, hc⟩ := intsAre_get hi hu
    have hwl := hw.length
    have hic : i < cs'.length := (List.getElem?_eq_some_iff.mp hc).1
    have hwz : wvs.length ≤ 1000 := by omega
    walk_at "STEPS"
    rename News _ _ _ _ => N₅
    rename Fr _ _ _ _ => F₅
    have hpos : (0 : Int) < (wvs.length : Int) := by omega
    have k0 : 0 ≤ (c.fdiv 6).fmod (wvs.length : Int) := Int.fmod_nonneg_of_pos _ hpos
    have k1 : (c.fdiv 6).fmod (wvs.length : Int) < (ws.length : Int) := by
      have := Int.fmod_lt_of_pos (c.fdiv 6) hpos
      omega
    generalize (c.fdiv 6).fmod (wvs.length : Int) = k at k0 k1
    have offw : ∀ p ∈ (I, o) :: (ol, listOf ovs.toArray no) :: led, p.1 ≠ wl := off_cons2 (Ne.symm (hI _ (.head _))) (off_cons2 (Ne.symm a3) fun p hp => Nat.ne_of_lt (kst_ltOf a2 p hp))
    refine popI_led F₅ (news_swp N₅) hw k0 k1 (by omega) offw ?_
    clear F₅ N₅
    intro h' z tz hz' hw' F₅ N₅
    have offo : ∀ p ∈ led, p.1 ≠ ol := fun p hp => Nat.ne_of_lt (kst_ltOf a1 p hp)
    have hov := ho.length
    have hpl := hp.length_eq
    have hoz : ovs.length ≤ 1000 := by simp at hpl; omega
    have n2 : @Ne Nat I ol := Ne.symm (hI _ (.tail _ (.head _)))
    walk_at "STEPS"
    rename News _ _ _ _ => N₆
    rename Fr _ _ _ _ => F₆
    rw [List.push_toArray] at N₆
    refine TurnTo.next _ F₆ (news_swp N₆) ?_ ⟨wl, ol, _, _, _, _, _, _, rfl, a1, a2, a3, hw', ints_snoc ho, (cut_perm hz' os).trans hp, ?_, rfl, rfl⟩
    · exact off_cons2 (hI _ (.head _)) (off_cons2 (hI _ (.tail _ (.head _))) fun p hp => hI p (.tail _ (.tail _ hp)))
    · rw [List.length_append, List.length_take, List.length_drop]; omega
  · clear F₂ N₃ n1
    rintro m₁ nx h tk ⟨wl, ol, wvs, ws, ovs, os, nw, no, rfl, a1, a2, a3, hw, ho, hp, hlen, e1, e2⟩ F₃ N₃
    have F₄ := fr_knows [("works", .ref wl), ("order", .ref ol)] F₃ (by simp [e1, e2])
    clear F₃
    have hcl := hi.length
    have hw0 : ws = [] := List.eq_nil_of_length_eq_zero (by omega)
    rw [hw0, List.append_nil] at hp
    walk_at "STEPS"
    rename News h₀ _ _ _ => N₆
    exact ret _ _ _ _ _ _ a1 ho hp (by k_asm) (news_tl N₆)
end Mine

theorem Mine.say_j_22 : True := by
  k_with "call builtin:min" => (k_here; (with_reducible show wpAny _ _ (call (Value.builtin "min") [Value.ref _]) _ _ _); k_dflt (refine' min_list_N ?yk1_22 ?yk2_22 ?yk3_22 ?yk4_22 ?yk5_22 ?yk6_22 ?_; (case yk1_22 => exact rfl); (case yk2_22 => k_asm); (case yk3_22 => k_asm); (case yk4_22 => exact News.isList (by k_asm) (by k_memK)); (case yk5_22 => assumption); (case yk6_22 => assumption); k_whole); intro h' M' t' tk' F' N' hm' hl')
  trivial
theorem Mine.say_j_23 : True := by
  k_with "call ref" => (k_here; (with_reducible show wpAny _ _ (call (Value.ref 54) [Value.ref _, Value.int _ _] _) _ _ _); k_dflt (refine' Mine.ins_c ?yk1_23 ?yk2_23 ?yk3_23 ?yk4_23 ?yk5_23 ?yk6_23 ?ykI_23 ?ykU_23 ?yk8_23 ?yk9_23 ?ykZ_23 ?ykM_23 ?_; (case yk1_23 => k_asm); (case yk2_23 => k_asm); (case yk3_23 => k_asm); (case yk4_23 => k_asm); (case yk5_23 => first | exact rfl | assumption); (case yk6_23 => k_asm); (case ykI_23 => assumption); (case ykU_23 => assumption); (case yk8_23 => ktr_room); (case yk9_23 => ktr_units); (case ykZ_23 => omega); (case ykM_23 => assumption); k_whole); intro vs' ns' nn' h' tk' hv' hup' hpm' F' N')
  trivial
theorem Mine.say_j_24 : True := by
  k_with "call ref" => (k_here; (with_reducible show wpAny _ _ (call (Value.ref 63) [Value.ref _, Value.int _ _] _) _ _ _); k_dflt (refine' Mine.bis2_c ?yk1_24 ?yk2_24 ?yk3_24 ?yk4_24 ?yk5_24 ?yk6_24 ?yk7_24 ?ykI_24 ?ykU_24 ?yk8_24 ?yk9_24 ?ykZ_24 ?_; (case yk1_24 => k_asm); (case yk2_24 => k_asm); (case yk3_24 => k_asm); (case yk4_24 => k_asm); (case yk5_24 => first | exact rfl | assumption); (case yk6_24 => k_asm); (case yk7_24 => k_memK); (case ykI_24 => assumption); (case ykU_24 => assumption); (case yk8_24 => ktr_room); (case yk9_24 => ktr_units); (case ykZ_24 => omega); k_whole); intro tp' h' tk' F' N')
  trivial
namespace Mine
open LCg
/-- the hours' sums, the rooms -/
def sumAt (ds : List Int) (h : Nat) : Int := (h : Int) + ds.length - (cle ds h : Int)
def sumsF (ds : List Int) : List Int := (List.range 6).map (sumAt ds)
def Least (xs : List Int) (v : Int) : Prop := v ∈ xs ∧ ∀ x ∈ xs, v ≤ x
def roomsF (ds : List Int) (most : Int) : List Int := (6 - most) :: (sumsF ds).map fun z => z - most
theorem cle_perm {a b : List Int} (h : a.Perm b) (x : Int) : cle a x = cle b x := h.countP_eq _
theorem oth_c {w : World} {mean : ExcName → Option Value} {mg mb : Str → Option Value} {dp un : Nat} {gd : Option (List Code)} {cn : Str} {cs : Scope} {a : Addr} {ccd : Value} {cl : List (Str × Addr)} {outer : List Env} {A₀ : Around} {base h₀ : Heap} {L : Addr} {m : Str → Option Value} {s : Shared} {Q E : Value → Shared → Prop} {dl : Addr} {dn : Nat} {dvs : List Value} {ds : List Int} {led : Led} (B : Below A₀ base outer h₀) (F : Fr h₀ L s.heap m) (X : (Mine.hd.heap_39 w.params).In h₀) (T : Top PP LL mean mg mb h₀) (hk : cs.kind = .function)
    (N : News h₀ L s.heap led) (hdl : (dl, listOf dvs.toArray dn) ∈ led) (hds : IntsAre dvs ds) (hb : ∀ z ∈ ds, 0 ≤ z ∧ z ≤ 5) (hz : ds.length = 6)
    (hd : dp + 6 < recursionLimit) (hu : un + 240 < cLine)
    (ret : ∀ most tm t n0 ol ovs os no h' tk', (∀ p ∈ led, p.1 ≠ ol) → Least (sumsF ds) most → IntsAre ovs os → os.length = 6 → (∀ (i : Nat) (d e : Int), ds[i]? = some d → os[i]? = some e → Least ((roomsF ds most).take (d + 1 : Int).toNat) e) → Fr h₀ L h' m →
      News h₀ L h' ((t, { cls := .type "tuple", data := .seq #[.int most tm, .ref ol] n0 }) :: (ol, listOf ovs.toArray no) :: led) → Q (.ref t) { s with heap := h', toks := tk' }) :
    wpAny (MM w) (ktrTop dp un gd cn cs L a ccd cl outer) (call (.ref 229) [.ref dl] []) Q E s := by
  walk_at "ENTERC"
  intro g L' h₁ tk₁ cells FG F' N' Y B' X' T' hlt
  obtain ⟨oc1, oc2, oc3, rfl, hoc1, hoc2, hoc3⟩ := CellsAre.three Y
  clear Y
  have hMk := kstMark
  replace hoc1 : oc1.data = .cell none := hoc1
  replace hoc2 : oc2.data = .cell none := hoc2
  replace hoc3 : oc3.data = .cell none := hoc3
  replace F' : Fr g L' h₁ (fun y => if y = "dues" then some (.ref dl) else none) := F'
  replace N' : News g L' h₁ ((L' + 1 + 1 + 1, oc1) :: (L' + 1 + 1, oc2) :: (L' + 1, oc3) :: led) := N'
  have hx1 : ∀ p ∈ led, p.1 ≠ L' + 1 := fun p hp => Nat.ne_of_lt (Nat.lt_succ_of_lt (hlt p hp))
  have hx2 : ∀ p ∈ led, p.1 ≠ L' + 1 + 1 := fun p hp => Nat.ne_of_lt (Nat.lt_succ_of_lt (Nat.lt_succ_of_lt (hlt p hp)))
  have hx3 : ∀ p ∈ led, p.1 ≠ L' + 1 + 1 + 1 := fun p hp => Nat.ne_of_lt (Nat.lt_succ_of_lt (Nat.lt_succ_of_lt (Nat.lt_succ_of_lt (hlt p hp))))
  refine noRaise ?_
  try dsimp only
  walk_at "STEPS"
  walk_at "FOR"
  walk_at "STEPS"
  rename News _ _ _ _ => N₂
  rename Fr _ _ _ _ => F₂
  rename (_ ∧ _ ∧ _ ∧ AllLt _ led) => l9
  rename Obj => oc4
  rename _ = Data.cell (some _) => hoc4
  have key : ∃ rl : Addr, (@LT.lt Nat _ (L' + 1 + 1 + 1) rl ∧ @LT.lt Nat _ (L' + 1 + 1) rl ∧ @LT.lt Nat _ (L' + 1) rl ∧ AllLt rl led) ∧ News g L' _ ((rl, listOf #[] 0) :: (L' + 1 + 1 + 1, oc1) :: (L' + 1 + 1, oc2) :: (L' + 1, oc4) :: led) ∧ oc4.data = .cell (some (.ref rl)) := ⟨_, l9, N₂, hoc4⟩
  clear l9 N₂ hoc4
  obtain ⟨rl, l9, N₂, hoc4⟩ := key
  have hdv := hds.length
  have offr : ∀ p ∈ (L' + 1 + 1 + 1, oc1) :: (L' + 1 + 1, oc2) :: (L' + 1, oc4) :: led, p.1 ≠ rl := off_cons2 (Nat.ne_of_lt l9.1) (off_cons2 (Nat.ne_of_lt l9.2.1) (off_cons2 (Nat.ne_of_lt l9.2.2.1) fun p hp => Nat.ne_of_lt (kst_ltOf l9.2.2.2 p hp)))
  refine for_list (L := L') (vs := dvs) (nn := dn) (fun i m nx => ∃ vs ns no, nx = (rl, listOf vs.toArray no) :: (L' + 1 + 1 + 1, oc1) :: (L' + 1 + 1, oc2) :: (L' + 1, oc4) :: led ∧ IntsAre vs ns ∧ Up ns ∧ ns.Perm (ds.take i) ∧ m "dues" = some (.ref dl)) rfl rfl F₂ N₂ ?_ ?_ ?_ ?_
  · rintro i m nx ⟨vs, ns, no, rfl, _⟩
    exact .tail _ (.tail _ (.tail _ (.tail _ hdl)))
  · exact ⟨[], [], _, rfl, .nil, .nil, .refl _, rfl⟩
  · clear F₂ N₂
    rintro i u m₁ nx h tk I o hu ⟨vs, ns, no, rfl, hi, hup, hpm, e1⟩ hI F₃ N₃
    obtain ⟨d, td, rfl, hdd⟩ := intsAre_get hds hu
    have F₄ := fr_knows [("dues", .ref dl)] F₃ (by simp [e1])
    have N₄ := news_swp N₃
    clear F₃ N₃
    have offi := off_cons2 (o := o) (Ne.symm (hI _ (.head _))) offr
    have hpl := hpm.length_eq
    rw [List.length_take] at hpl
    walk_at "STEPS"
    rename News _ _ _ _ => N₆
    rename Fr _ _ _ _ => F₆
    rename List.Perm _ (d :: ns) => hp6
    rename Up _ => hu6
    rename IntsAre _ _ => hi6
    refine TurnTo.next _ F₆ (news_swp N₆) ?_ ⟨_, _, _, rfl, hi6, hu6, ?_, rfl⟩
    · exact off_cons2 (hI _ (.head _)) fun p hp => hI p (.tail _ hp)
    · rw [take_snoc hdd]
      exact hp6.trans ((List.Perm.cons d hpm).trans (List.perm_append_singleton d _).symm)
  · clear F₂ N₂
    rintro m₁ nx h tk ⟨vs, ns, no, rfl, hi, hup, hpm, e1⟩ F₃ N₃
    rw [hdv, List.take_length] at hpm
    have hpl := hpm.length_eq
    have hvl := hi.length
    have F₄ := fr_knows [("dues", .ref dl)] F₃ (by simp [e1])
    clear F₃
    walk_at "STEPS"
    with_unfolding_all refine comp_assign (cl := [(Str.ofString "row", L' + 1)]) rfl rfl rfl (by decide) (by intro _; rfl) ?_
    walk_at "STEPS"
    rename News _ _ _ _ => N₅
    rename Fr _ _ _ _ => F₅
    rename IsRange _ _ _ _ _ _ _ _ => hr
    refine comp_range (n := 6) (fun i ys => IntsAre ys ((List.range i).map (sumAt ds))) rfl hr (by decide) (by decide) F₅ N₅ (by decide) (by decide) rfl rfl .nil ?_ ?_
    · clear F₅ N₅
      rintro i t ys I oI C oC D m₂ h tk hi hJ hNC e2 F₅ N₅ hoff hne
      refine CompTurn.plain ?_
      try dsimp only
      walk_at "STEPS"
      rename News _ _ _ _ => N₆
      rename Fr _ _ _ _ => F₆
      refine CEnd.intro F₆ N₆ ?_
      rw [List.range_succ, List.map_append]
      have e : 0 + (i : Int) * 1 + (vs.length : Int) - (cle ns (0 + (i : Int) * 1) : Int) = sumAt ds i := by
        unfold sumAt
        have e3 : 0 + (i : Int) * 1 = (i : Int) := by omega
        rw [e3, cle_perm hpm, hvl, hpl]
      rw [e]
      exact ints_snoc hJ
    · intro h
      refine' compDone_put ?ka ?kb ?kc ?_
      case ka => exact rfl
      case kb => exact rfl
      case kc => exact rfl
      clear F₅ N₅
      rintro _ D h' tk ys F₅ N₅ hoff hyl hJ
      replace hJ : IntsAre ys (sumsF ds) := hJ
      have nD3 : @Ne Nat (L' + 1 + 1 + 1) D := hoff _ (.tail _ (.head _))
      have nD2 : @Ne Nat (L' + 1 + 1) D := hoff _ (.tail _ (.tail _ (.head _)))
      have nD1 : @Ne Nat (L' + 1) D := hoff _ (.tail _ (.tail _ (.tail _ (.head _))))
      have hsl : (sumsF ds).length = 6 := by simp [sumsF]
      have hsp : 0 < (sumsF ds).length := by omega
      have hyl' := hJ.length
      walk_at "STEPS"
      rename (_ ∈ sumsF ds) => hm6
      rename (∀ a ∈ sumsF ds, _ ≤ a) => hl6
      rename Int => most
      with_unfolding_all refine comp_expr (cl := [(Str.ofString "most", L' + 1 + 1)]) rfl rfl (by decide) (by intro _; rfl) ?_
      walk_at "STEPS"
      rename News _ _ _ _ => N₆
      rename Fr _ _ _ _ => F₆
      rename _ = Data.cell (some (Value.int most _)) => hoc5
      have hyz : ys.length ≤ 1000 := by omega
      refine comp_list (vs := ys) (nn := ys.length) (fun i zs => IntsAre zs (((sumsF ds).take i).map fun z => z - most)) rfl F₆ N₆ (.tail _ (.head _)) (by rw [sizeLine_eq]; omega) (by decide) rfl (Asg.name rfl rfl) .nil ?_ ?_
      · clear F₆ N₆
        intro h i v zs I oI C oC D m₂ h' tk hi hv hJ2 hC hHas F₃ N₃ hoff hne
        obtain ⟨z, t, rfl, hz⟩ := intsAre_get hJ hv
        refine CompTurn.plain ?_
        try dsimp only
        walk_at "STEPS"
        rename News _ _ _ _ => N₆
        rename Fr _ _ _ _ => F₆
        refine CEnd.intro F₆ N₆ ?_
        rw [take_snoc hz, List.map_append]
        exact ints_snoc hJ2
      · intro h
        refine CompDone.expr ?_
        clear F₆ N₆
        intro D2 h' tk zs F₅ N₅ hoff2 hzl hJ2
        rw [hyl', List.take_length] at hJ2
        have hzz := hJ2.length
        rw [List.length_map] at hzz
        have nE3 : @Ne Nat (L' + 1 + 1 + 1) D2 := hoff2 _ (.tail _ (.tail _ (.tail _ (.head _))))
        have nE2 : @Ne Nat (L' + 1 + 1) D2 := hoff2 _ (.tail _ (.tail _ (.tail _ (.tail _ (.head _)))))
        have nE1 : @Ne Nat (L' + 1) D2 := hoff2 _ (.tail _ (.tail _ (.tail _ (.tail _ (.tail _ (.head _))))))
        walk_at "STEPS"
        rename IntsAre _ ([6 - most] ++ _) => hR
        replace hR : IntsAre _ (roomsF ds most) := hR
        have hrl := hR.length
        have hrm : (roomsF ds most).length = 7 := by simp [roomsF, hsl]
        with_unfolding_all refine comp_expr (cl := [(Str.ofString "rooms", L' + 1 + 1 + 1)]) rfl rfl (by decide) (by intro _; rfl) ?_
        walk_at "STEPS"
        rename News _ _ _ _ => N₆
        rename Fr _ _ _ _ => F₆
        refine comp_list (vs := dvs) (nn := dn) (fun i zs => ∃ es, IntsAre zs es ∧ es.length = i ∧ ∀ (j : Nat) (d e : Int), ds[j]? = some d → es[j]? = some e → Least ((roomsF ds most).take (d + 1 : Int).toNat) e) rfl F₆ N₆ (by repeat (first | exact hdl | apply List.Mem.tail)) (by rw [sizeLine_eq]; omega) (by decide) rfl (Asg.name rfl rfl) ⟨[], .nil, rfl, fun j d e _ h => by simp at h⟩ ?_ ?_
        · clear F₆ N₆
          rintro h i v zs I oI C oC D m₂ h' tk hi hv ⟨es, hes, hel, hea⟩ hC hHas F₃ N₃ hoff hne
          obtain ⟨d, t, rfl, hdd⟩ := intsAre_get hds hv
          have hdb := hb d (List.mem_of_getElem? hdd)
          refine CompTurn.plain ?_
          try dsimp only
          walk_at "STEPS"
          rename News _ _ _ _ => N₇
          rename Fr _ _ _ _ => F₇
          rename (_ ∈ List.take _ (roomsF ds most)) => ha7
          rename (∀ a ∈ List.take _ (roomsF ds most), _ ≤ a) => hb7
          refine CEnd.intro F₇ (news_tl N₇) ⟨_, ints_snoc hes, by simp [hel], ?_⟩
          intro j d' e' q1 q2
          by_cases hj : j < es.length
          · rw [List.getElem?_append_left hj] at q2
            exact hea j d' e' q1 q2
          · rw [List.getElem?_append_right (by omega)] at q2
            have ej : j = i := by
              have := (List.getElem?_eq_some_iff.mp q2).1
              simp at this
              omega
            subst ej
            rw [hel, Nat.sub_self] at q2
            rw [hdd] at q1
            cases q1
            simp at q2
            subst q2
            exact ⟨ha7, hb7⟩
        · intro h
          refine CompDone.expr ?_
          clear F₆ N₆
          rintro D3 h' tk zs F₅ N₅ hoff2 hzl ⟨es, hes, hel, hea⟩
          walk_at "STEPS"
          rename News h₀ _ _ _ => N₆
          have hezl := hes.length
          exact ret most _ _ _ D3 zs es _ _ _ (fun p hp => hoff2 p (by repeat (first | exact hp | apply List.Mem.tail))) ⟨hm6, hl6⟩ hes (by omega) hea (by k_asm) (news_sub N₆ fun p hp => by
            rcases List.mem_cons.mp hp with rfl | hp
            · exact .head _
            · rcases List.mem_cons.mp hp with rfl | hp
              · exact .tail _ (.head _)
              · repeat (first | exact hp | apply List.Mem.tail))
end Mine

theorem Mine.say_j_25 : True := by
  k_with "call ref" => (k_here; (with_reducible show wpAny _ _ (call (Value.ref 54) [Value.ref _, Value.int _ _] _) _ _ _); k_dflt (refine' Mine.ins_c ?yk1_25 ?yk2_25 ?yk3_25 ?yk4_25 ?yk5_25 ?yk6_25 ?ykI_25 ?ykU_25 ?yk8_25 ?yk9_25 ?ykZ_25 ?ykM_25 ?_; (case yk1_25 => k_asm); (case yk2_25 => k_asm); (case yk3_25 => k_asm); (case yk4_25 => k_asm); (case yk5_25 => first | exact rfl | assumption); (case yk6_25 => k_asm); (case ykI_25 => assumption); (case ykU_25 => assumption); (case yk8_25 => ktr_room); (case yk9_25 => ktr_units); (case ykZ_25 => omega); (case ykM_25 => first | assumption | exact Mine.off_lt (by assumption)); k_whole); intro vs' ns' nn' h' tk' hv' hup' hpm' F' N')
  trivial
namespace Mine
open LCg
/-- no hour has more works due by it than so many -/
def okR (r : List Int) : Bool := (List.range 6).all fun h => decide ((cle r h : Int) ≤ h)
def cntS (s : List Int × List Int) (p : Int × Int) : List Int × List Int := if okR (p.2 :: s.2) = true then (s.1 ++ [p.1], p.2 :: s.2) else s
def cntF (ps : List (Int × Int)) : List Int × List Int := ps.foldl cntS ([], [])
theorem cntF_snoc {ps : List (Int × Int)} {p : Int × Int} : cntF (ps ++ [p]) = cntS (cntF ps) p := by
  unfold cntF
  rw [List.foldl_append]; rfl
theorem cntF_len : ∀ ps : List (Int × Int), (cntF ps).1.length ≤ ps.length ∧ (cntF ps).2.length = (cntF ps).1.length := by
  intro ps
  unfold cntF
  have : ∀ (ps : List (Int × Int)) (s : List Int × List Int), s.2.length = s.1.length → (ps.foldl cntS s).1.length ≤ s.1.length + ps.length ∧ (ps.foldl cntS s).2.length = (ps.foldl cntS s).1.length := by
    intro ps
    induction ps with
    | nil => intro s h; exact ⟨by simp, h⟩
    | cons p r ih =>
      intro s h
      rw [List.foldl_cons]
      have h' : (cntS s p).2.length = (cntS s p).1.length ∧ (cntS s p).1.length ≤ s.1.length + 1 := by
        unfold cntS
        split
        · simp [h]
        · simp [h]
      obtain ⟨a, b⟩ := ih _ h'.1
      exact ⟨by simp; omega, b⟩
  have h := this ps ([], []) rfl
  simpa using h
theorem okR_perm {a b : List Int} (h : a.Perm b) : okR a = okR b := by
  unfold okR
  congr 1
  funext x
  rw [cle_perm h]
theorem zip_at {xs ys : List Int} {i : Nat} {x y : Int} (hx : xs[i]? = some x) (hy : ys[i]? = some y) : (xs.zip ys)[i]? = some (x, y) := by
  rw [List.getElem?_zip_eq_some]; exact ⟨hx, hy⟩
theorem off_lt {T : Addr} {led : Led} (h : AllLt T led) : ∀ p ∈ led, p.1 ≠ T := fun p hp => Nat.ne_of_lt (kst_ltOf h p hp)
theorem cnt_yes {ps : List (Int × Int)} {v u : Int} {rns zs : List Int} (hr : rns.Perm (cntF ps).2) (hz : zs.Perm (u :: rns)) (h : okR zs = true) : cntF (ps ++ [(v, u)]) = ((cntF ps).1 ++ [v], u :: (cntF ps).2) := by
  rw [cntF_snoc, cntS, if_pos (by rw [← okR_perm (hz.trans (hr.cons u))]; exact h)]
theorem cnt_not {ps : List (Int × Int)} {v u : Int} {rns zs : List Int} (hr : rns.Perm (cntF ps).2) (hz : zs.Perm (u :: rns)) (h : okR zs = false) : cntF (ps ++ [(v, u)]) = cntF ps := by
  rw [cntF_snoc, cntS, if_neg (by rw [← okR_perm (hz.trans (hr.cons u)), h]; exact Bool.false_ne_true)]
theorem off_three {a b c : Addr × Obj} {led : Led} (ha : ∀ q ∈ led, q.1 ≠ a.1) (hb : ∀ q ∈ led, q.1 ≠ b.1) (hc : ∀ q ∈ led, q.1 ≠ c.1) : ∀ p ∈ [a, b, c], ∀ q ∈ led, q.1 ≠ p.1 := by
  intro p hp
  simp only [List.mem_cons, List.not_mem_nil, or_false] at hp
  rcases hp with rfl | rfl | rfl <;> assumption
theorem news_turn {h₀ h : Heap} {L : Addr} {t d x a b c : Addr × Obj} {led : Led} (N : News h₀ L h (t :: d :: x :: a :: b :: c :: led)) : News h₀ L h ([a, x, c] ++ led) ∧ News h₀ L h ([a, b, c] ++ led) := ⟨news_sub N fun p hp => by
  simp only [List.cons_append, List.nil_append, List.mem_cons] at hp ⊢
  grind, news_sub N fun p hp => by
  simp only [List.cons_append, List.nil_append, List.mem_cons] at hp ⊢
  grind⟩
theorem news_pick3 {h₀ h : Heap} {L : Addr} {t a b c : Addr × Obj} {led : Led} (N : News h₀ L h (t :: b :: a :: c :: led)) : News h₀ L h ([a, b, c] ++ led) := news_sub N fun p hp => by
  simp only [List.cons_append, List.nil_append, List.mem_cons] at hp ⊢
  grind
theorem cnt_c {w : World} {mean : ExcName → Option Value} {mg mb : Str → Option Value} {dp un : Nat} {gd : Option (List Code)} {cn : Str} {cs : Scope} {a : Addr} {ccd : Value} {cl : List (Str × Addr)} {outer : List Env} {A₀ : Around} {base h₀ : Heap} {L : Addr} {m : Str → Option Value} {s : Shared} {Q E : Value → Shared → Prop} {led : Led} {va vb : Value} {xs ys : List Int} {n : Nat} (B : Below A₀ base outer h₀) (F : Fr h₀ L s.heap m) (X : (Mine.hd.heap_39 w.params).In h₀) (T : Top PP LL mean mg mb h₀) (hk : cs.kind = .function)
    (N : News h₀ L s.heap led) (src : ZipSrc led va vb xs ys) (hx : xs.length = n) (hy : ys.length = n) (hn : n ≤ 6) (hd : dp + 6 < recursionLimit) (hu : un + 240 < cLine)
    (ret : ∀ tl tvs nt h' tk', (∀ p ∈ led, p.1 ≠ tl) → IntsAre tvs (cntF (xs.zip ys)).1 → Fr h₀ L h' m → News h₀ L h' ((tl, listOf tvs.toArray nt) :: led) → Q (.ref tl) { s with heap := h', toks := tk' }) :
    wpAny (MM w) (ktrTop dp un gd cn cs L a ccd cl outer) (call (.ref 224) [va, vb] []) Q E s := by
  walk_at "ENTERC"
  intro g L' h₁ tk₁ cells FG F' N' Y B' X' T' hlt
  obtain ⟨oc, rfl, hoc⟩ := CellsAre.one Y
  clear Y
  have hMk := kstMark
  replace hoc : oc.data = .cell none := hoc
  replace F' : Fr g L' h₁ (fun y => if y = "spans" then some vb else if y = "order" then some va else none) := F'
  replace N' : News g L' h₁ ((L' + 1, oc) :: led) := N'
  have hx1 : ∀ p ∈ led, p.1 ≠ L' + 1 := fun p hp => Nat.ne_of_lt (Nat.lt_succ_of_lt (hlt p hp))
  refine noRaise ?_
  try dsimp only
  walk_at "STEPS"
  walk_at "FOR"
  walk_at "STEPS"
  rename News _ _ _ _ => N₂
  rename Fr _ _ _ _ => F₂
  rename (_ ∧ AllLt _ led) => l1
  rename (_ ∧ _ ∧ AllLt _ led) => l2
  have key : ∃ tl rl : Addr, (@LT.lt Nat _ tl rl ∧ @LT.lt Nat _ (L' + 1) rl ∧ AllLt rl led) ∧ (@LT.lt Nat _ (L' + 1) tl ∧ AllLt tl led) ∧ News g L' _ ([(tl, listOf #[] 0), (rl, listOf #[] 0), (L' + 1, oc)] ++ led) ∧ Fr g L' _ (fun y => if y = "taken" then some (.ref tl) else if y = "row" then some (.ref rl) else if y = "spans" then some vb else if y = "order" then some va else none) :=
    ⟨_, _, l2, l1, news_pick3 N₂, F₂⟩
  clear l1 l2 N₂ F₂
  obtain ⟨tl, rl, l2, l1, N₂, F₂⟩ := key
  have hzl : (xs.zip ys).length = n := by rw [List.length_zip]; omega
  refine for_zip (L := L') (x := "work") (x₂ := "due") (fun i m dyn => ∃ tl rl tvs rvs rns nt nr oc ov, dyn = [(tl, listOf tvs.toArray nt), (rl, listOf rvs.toArray nr), (L' + 1, oc)] ∧ oc.data = .cell ov ∧ (@LT.lt Nat _ (L' + 1) tl) ∧ (@LT.lt Nat _ tl rl) ∧ IntsAre tvs (cntF ((xs.zip ys).take i)).1 ∧ IntsAre rvs rns ∧ Up rns ∧ rns.Perm (cntF ((xs.zip ys).take i)).2 ∧ m "taken" = some (.ref tl) ∧ m "row" = some (.ref rl))
    src hx hy rfl rfl rfl rfl rfl (by decide) F₂ N₂ ?_ ?_ ?_ ?_
  · intro p hp q hq
    simp only [List.mem_cons, List.not_mem_nil, or_false] at hp
    rcases hp with rfl | rfl | rfl
    · exact Nat.ne_of_lt (kst_ltOf l1.2 q hq)
    · exact Nat.ne_of_lt (kst_ltOf l2.2.2 q hq)
    · exact hx1 q hq
  · exact ⟨tl, rl, [], [], [], _, _, oc, none, rfl, hoc, l1.1, l2.1, .nil, .nil, .nil, .refl _, rfl, rfl⟩
  · clear F₂ N₂ l1 l2 tl rl
    rintro i v u tv tu m₁ dyn h tk led2 hv hu' ⟨tl, rl, tvs, rvs, rns, nt, nr, oc, ov, rfl, hoc, l1, l2, hti, hri, hru, hrp, e1, e2⟩ hsub hoff F₃ N₃
    have F₄ := fr_knows [("taken", .ref tl), ("row", .ref rl)] F₃ (by
      intro p hp
      simp only [List.mem_cons, List.not_mem_nil, or_false] at hp
      rcases hp with rfl | rfl
      · exact two_set (show Str.ofString "taken" ≠ Str.ofString "due" by decide) (show Str.ofString "taken" ≠ Str.ofString "work" by decide) e1
      · exact two_set (show Str.ofString "row" ≠ Str.ofString "due" by decide) (show Str.ofString "row" ≠ Str.ofString "work" by decide) e2)
    clear F₃
    replace N₃ : News g L' h ((tl, listOf tvs.toArray nt) :: (rl, listOf rvs.toArray nr) :: (L' + 1, oc) :: led2) := N₃
    have o1 : ∀ p ∈ led2, p.1 ≠ tl := hoff _ (.head _)
    have o2 : ∀ p ∈ led2, p.1 ≠ rl := hoff _ (.tail _ (.head _))
    have o3 : ∀ p ∈ led2, p.1 ≠ L' + 1 := hoff _ (.tail _ (.tail _ (.head _)))
    have hzi := zip_at hv hu'
    have hil : i < n := by rw [← hx]; exact (List.getElem?_eq_some_iff.mp hv).1
    have hc9 := cntF_len ((xs.zip ys).take i)
    rw [List.length_take] at hc9
    have ht9 := hti.length
    have hr9 := hri.length
    have hr8 := hrp.length_eq
    have hrz : rvs.length ≤ 1000 := by omega
    have htz : tvs.length ≤ 1000 := by omega
    walk_at "STEPS"
    rename Obj => oc2
    rename _ = Data.cell (some _) => hoc2
    rename Up _ => hup
    rename IntsAre _ _ => hvi
    rename (List.Perm _ (u :: rns)) => hpu
    rename (_ ∧ _ ∧ _ ∧ AllLt _ led2) => l3
    rename News _ _ _ _ => N₄
    rename Fr _ _ _ _ => F₄'
    have key : ∃ (T : Addr) (ws : List Value) (zs : List Int) (nw : Nat), (@LT.lt Nat _ tl T ∧ @LT.lt Nat _ rl T ∧ @LT.lt Nat _ (L' + 1) T ∧ AllLt T led2) ∧ oc2.data = .cell (some (.ref T)) ∧ Up zs ∧ IntsAre ws zs ∧ zs.Perm (u :: rns) ∧ News g L' _ ((T, listOf ws.toArray nw) :: (tl, listOf tvs.toArray nt) :: (rl, listOf rvs.toArray nr) :: (L' + 1, oc2) :: led2) := ⟨_, _, _, _, l3, hoc2, hup, hvi, hpu, N₄⟩
    clear l3 hoc2 hup hvi hpu N₄
    obtain ⟨T, ws, zs, nw, l3, hoc2, hup, hvi, hpu, N₄⟩ := key
    have hzz := hpu.length_eq
    rw [List.length_cons] at hzz
    with_unfolding_all refine comp_expr (cl := [(Str.ofString "trial", L' + 1)]) rfl rfl (by decide) (by intro _; rfl) ?_
    walk_at "STEPS"
    rename News _ _ _ _ => N₅
    rename Fr _ _ _ _ => F₅
    rename IsRange _ _ _ _ _ _ _ _ => hr
    refine comp_range (n := 6) (fun i ys => ∃ zz, IntsAre ys zz ∧ zz.length ≤ i ∧ decide (zz = []) = (List.range i).all fun h => decide ((cle zs h : Int) ≤ h)) rfl hr (by decide) (by decide) F₅ N₅ (by decide) (by decide) rfl rfl ⟨[], .nil, Nat.le_refl _, rfl⟩ ?_ ?_
    · clear F₅ N₅
      rintro j t ys9 I oI C oC D m₂ h tk hj ⟨zz, hzz1, hzz2, hzz3⟩ hNC e3 F₅ N₅ hoff hne
      refine CompTurn.one ?_
      try dsimp only
      have ec : 0 + (j : Int) * 1 = (j : Int) := by omega
      walk_at "STEPS"
      all_goals
        rename News _ _ _ _ => N₆
        rename Fr _ _ _ _ => F₆
      · rename (_ > _) => hgt
        refine CEnd.intro F₆ N₆ ⟨_, ints_snoc hzz1, by simp; omega, ?_⟩
        rw [ec] at hgt
        rw [List.range_succ, List.all_append, List.all_cons, decide_eq_false (show ¬ ((cle zs (j : Int) : Int) ≤ (j : Int)) by omega)]
        simp
      · rename ¬ (_ > _) => hgt
        refine CEnd.intro F₆ N₆ ⟨_, hzz1, by omega, ?_⟩
        rw [ec] at hgt
        rw [List.range_succ, List.all_append, List.all_cons, decide_eq_true (show ((cle zs (j : Int) : Int) ≤ (j : Int)) by omega), hzz3]
        simp
    · intro h
      refine CompDone.expr ?_
      clear F₅ N₅
      rintro D h' tk ys9 F₅ N₅ hoff hyl ⟨zz, hzz1, hzz2, hzz3⟩
      replace hzz3 : decide (zz = []) = okR zs := hzz3
      have nD1 : @Ne Nat tl D := hoff _ (.tail _ (.head _))
      have nD2 : @Ne Nat rl D := hoff _ (.tail _ (.tail _ (.head _)))
      have nD3 : @Ne Nat (L' + 1) D := hoff _ (.tail _ (.tail _ (.tail _ (.head _))))
      have oT : ∀ p ∈ led2, p.1 ≠ T := fun p hp => Nat.ne_of_lt (kst_ltOf l3.2.2.2 p hp)
      have ets := take_snoc hzi
      walk_at "STEPS"
      · rename decide (zz = []) = true => hok
        rw [hok] at hzz3
        have ey := cnt_yes (v := v) hrp hpu hzz3.symm
        rename News _ _ _ _ => N₆
        rename Fr _ _ _ _ => F₆
        rw [List.push_toArray] at N₆
        refine TurnZ.next _ F₆ (news_turn N₆).1 (off_three o1 oT o3) ⟨tl, T, _, _, _, _, _, _, _, rfl, hoc2, l1, l3.1, ?_, hvi, hup, ?_, rfl, rfl⟩
        · rw [ets, ey]; exact ints_snoc hti
        · rw [ets, ey]; exact hpu.trans (hrp.cons u)
      · rename decide (zz = []) = false => hok
        rw [hok] at hzz3
        have ey := cnt_not (v := v) hrp hpu hzz3.symm
        rename News _ _ _ _ => N₆
        rename Fr _ _ _ _ => F₆
        refine TurnZ.next _ F₆ (news_turn N₆).2 (off_three o1 o2 o3) ⟨tl, rl, _, _, _, _, _, _, _, rfl, hoc2, l1, l2, ?_, hri, hru, ?_, rfl, rfl⟩
        · rw [ets, ey]; exact hti
        · rw [ets, ey]; exact hrp
  · clear F₂ N₂ l1 l2 tl rl
    rintro m₁ dyn h tk ⟨tl, rl, tvs, rvs, rns, nt, nr, oc, ov, rfl, hoc, l1, l2, hti, hri, hru, hrp, e1, e2⟩ hoff F₃ N₃
    have F₄ := fr_knows [("taken", .ref tl)] F₃ (by simp [e1])
    clear F₃
    rw [← hzl, List.take_length] at hti
    have o1 : ∀ p ∈ led, p.1 ≠ tl := hoff _ (.head _)
    walk_at "STEPS"
    rename News h₀ _ _ _ => N₆
    exact ret tl _ _ _ _ o1 hti (by k_asm) (news_sub N₆ fun p hp => by
      simp only [List.cons_append, List.nil_append, List.mem_cons] at hp ⊢
      rcases hp with hp | hp
      · exact .inl hp
      · exact .inr (.inr (.inr hp)))
end Mine

theorem Mine.say_j_26 : True := by
  k_with "call ref" => (k_here; (with_reducible show wpAny _ _ (call (Value.ref 196) _ _) _ _ _); k_dflt (refine' Mine.new_c ?yk1_26 ?yk2_26 ?yk3_26 ?yk4_26 ?yk5_26 ?yk6_26 ?yk7_26 ?yk8_26 ?_; (case yk1_26 => k_asm); (case yk2_26 => k_asm); (case yk3_26 => k_asm); (case yk4_26 => k_asm); (case yk5_26 => first | exact rfl | assumption); (case yk6_26 => k_asm); (case yk7_26 => ktr_room); (case yk8_26 => ktr_units); k_whole); intro x' dx' l' dh' dk' dn' h' tk' hlt1 hlt2 hlt3 F' N')
  trivial
namespace Mine
open LCg
def lo (h : Nat) : Str := Txt.item (Str.ofString "abcdef") (h : Int)
def up (h : Nat) : Str := Txt.upper (lo h)
def ask (h : Nat) (w : Int) : Str := if w.fmod 2 = 1 then up h else lo h
abbrev num (k : Int) : Str := Str.ofString (toString k)
abbrev Brd := List (Nat × Int)
def hsF (B : Brd) : List (Str × Str) := B.map fun p => (ask p.1 p.2, num p.2)
/-- from an hour down: the first that no work has, or that the work itself has -/
def placeF (B : Brd) (w : Int) : Nat → Brd
  | 0 => B
  | h + 1 => match B.find? fun p => p.1 == h with
    | some p => if p.2 = w then B else placeF B w h
    | none => B ++ [(h, w)]
def brdF (ps : List (Int × Int)) : Brd := ps.foldl (fun B p => placeF B p.1 p.2.toNat) []
theorem brdF_snoc {ps : List (Int × Int)} {p : Int × Int} : brdF (ps ++ [p]) = placeF (brdF ps) p.1 p.2.toNat := by
  unfold brdF
  rw [List.foldl_append]; rfl
theorem six {P : Nat → Prop} (h0 : P 0) (h1 : P 1) (h2 : P 2) (h3 : P 3) (h4 : P 4) (h5 : P 5) : ∀ k : Nat, k < 6 → P k
  | 0, _ => h0
  | 1, _ => h1
  | 2, _ => h2
  | 3, _ => h3
  | 4, _ => h4
  | 5, _ => h5
  | k + 6, h => by omega
theorem lo_ok : ∀ k : Nat, k < 6 → ((lo k).length ≤ 5592405 ∧ clean true (lo k) = true ∧ Txt.lower (lo k) = lo k) ∧ (up k).length ≤ 5592405 ∧ clean true (up k) = true ∧ Txt.lower (up k) = lo k :=
  six (by decide +kernel) (by decide +kernel) (by decide +kernel) (by decide +kernel) (by decide +kernel) (by decide +kernel)
theorem lo_inj : ∀ k : Nat, k < 6 → ∀ j : Nat, j < 6 → ((lo k == lo j) = decide (k = j)) :=
  six (six (by decide +kernel) (by decide +kernel) (by decide +kernel) (by decide +kernel) (by decide +kernel) (by decide +kernel)) (six (by decide +kernel) (by decide +kernel) (by decide +kernel) (by decide +kernel) (by decide +kernel) (by decide +kernel))
    (six (by decide +kernel) (by decide +kernel) (by decide +kernel) (by decide +kernel) (by decide +kernel) (by decide +kernel)) (six (by decide +kernel) (by decide +kernel) (by decide +kernel) (by decide +kernel) (by decide +kernel) (by decide +kernel))
    (six (by decide +kernel) (by decide +kernel) (by decide +kernel) (by decide +kernel) (by decide +kernel) (by decide +kernel)) (six (by decide +kernel) (by decide +kernel) (by decide +kernel) (by decide +kernel) (by decide +kernel) (by decide +kernel))
theorem num_nat : ∀ k : Nat, k < 6 → clean false (num (k : Int)) = true := six (by decide +kernel) (by decide +kernel) (by decide +kernel) (by decide +kernel) (by decide +kernel) (by decide +kernel)
theorem num_clean {w : Int} (h : 0 ≤ w ∧ w < 6) : clean false (num w) = true := by
  obtain ⟨k, rfl⟩ : ∃ k : Nat, w = k := ⟨w.toNat, by omega⟩
  exact num_nat k (by omega)
theorem num_injN : ∀ k : Nat, k < 6 → ∀ j : Nat, j < 6 → ((num (k : Int) == num (j : Int)) = decide (k = j)) :=
  six (six (by decide +kernel) (by decide +kernel) (by decide +kernel) (by decide +kernel) (by decide +kernel) (by decide +kernel)) (six (by decide +kernel) (by decide +kernel) (by decide +kernel) (by decide +kernel) (by decide +kernel) (by decide +kernel))
    (six (by decide +kernel) (by decide +kernel) (by decide +kernel) (by decide +kernel) (by decide +kernel) (by decide +kernel)) (six (by decide +kernel) (by decide +kernel) (by decide +kernel) (by decide +kernel) (by decide +kernel) (by decide +kernel))
    (six (by decide +kernel) (by decide +kernel) (by decide +kernel) (by decide +kernel) (by decide +kernel) (by decide +kernel)) (six (by decide +kernel) (by decide +kernel) (by decide +kernel) (by decide +kernel) (by decide +kernel) (by decide +kernel))
theorem num_inj {w v : Int} (hw : 0 ≤ w ∧ w < 6) (hv : 0 ≤ v ∧ v < 6) : (num w == num v) = decide (w = v) := by
  obtain ⟨k, rfl⟩ : ∃ k : Nat, w = k := ⟨w.toNat, by omega⟩
  obtain ⟨j, rfl⟩ : ∃ k : Nat, v = k := ⟨v.toNat, by omega⟩
  rw [num_injN k (by omega) j (by omega), decide_eq_decide]
  omega
theorem ask_ok {k : Nat} {w : Int} (h : k < 6) : (ask k w).length ≤ 5592405 ∧ clean true (ask k w) = true ∧ Txt.lower (ask k w) = lo k ∧ clean true (Txt.lower (ask k w)) = true := by
  obtain ⟨⟨a1, a2, a3⟩, b1, b2, b3⟩ := lo_ok k h
  unfold ask
  split
  · exact ⟨b1, b2, b3, b3.symm ▸ a2⟩
  · exact ⟨a1, a2, a3, a3.symm ▸ a2⟩
/-- a board's entries are hours and works -/
def BOk (B : Brd) : Prop := ∀ p ∈ B, p.1 < 6 ∧ 0 ≤ p.2 ∧ p.2 < 6
theorem placeF_ok {w : Int} (hw : 0 ≤ w ∧ w < 6) {B : Brd} (hB : BOk B) : ∀ k : Nat, k ≤ 6 → BOk (placeF B w k)
  | 0, _ => hB
  | k + 1, h => by
    unfold placeF
    split
    · split
      · exact hB
      · exact placeF_ok hw hB k (by omega)
    · intro p hp
      rcases List.mem_append.mp hp with hp | hp
      · exact hB p hp
      · rw [List.mem_singleton.mp hp]; exact ⟨by show k < 6; omega, hw⟩
theorem brdF_ok : ∀ (ps : List (Int × Int)) (B : Brd), BOk B → (∀ p ∈ ps, (0 ≤ p.1 ∧ p.1 < 6) ∧ 0 ≤ p.2 ∧ p.2 ≤ 6) → BOk (ps.foldl (fun B p => placeF B p.1 p.2.toNat) B)
  | [], _, hB, _ => hB
  | p :: r, B, hB, h => brdF_ok r _ (placeF_ok (h p (.head _)).1 hB _ (by have := (h p (.head _)).2; omega)) fun q hq => h q (.tail _ hq)
theorem hs_get {k : Nat} {w : Int} (hk : k < 6) : ∀ {B : Brd}, BOk B → hget (hsF B) (ask k w) = (B.find? fun p => p.1 == k).map fun p => num p.2
  | [], _ => rfl
  | p :: B, h => by
    have hp := (h p (.head _)).1
    have ih := hs_get (w := w) hk (B := B) fun q hq => h q (.tail _ hq)
    unfold hget hsF at ih ⊢
    rw [List.map_cons, List.find?_cons, List.find?_cons]
    have e : (Txt.lower (ask p.1 p.2) == Txt.lower (ask k w)) = (p.1 == k) := by
      rw [(ask_ok hp).2.2.1, (ask_ok hk).2.2.1, lo_inj _ hp _ hk]
      rfl
    show Option.map _ (match Txt.lower (ask p.1 p.2) == Txt.lower (ask k w) with | true => some (ask p.1 p.2, num p.2) | false => _) = _
    rw [e]
    cases p.1 == k with
    | true => rfl
    | false => exact ih
theorem placeF_len {w : Int} {B : Brd} : ∀ k : Nat, (placeF B w k).length ≤ B.length + 1
  | 0 => Nat.le_succ _
  | k + 1 => by
    unfold placeF
    split
    · split
      · exact Nat.le_succ _
      · exact placeF_len k
    · simp
theorem brdF_len : ∀ (ps : List (Int × Int)) (B : Brd), (ps.foldl (fun B p => placeF B p.1 p.2.toNat) B).length ≤ B.length + ps.length
  | [], _ => Nat.le_refl _
  | p :: r, B => by
    have h1 := brdF_len r (placeF B p.1 p.2.toNat)
    have h2 := placeF_len (w := p.1) (B := B) p.2.toNat
    rw [List.foldl_cons, List.length_cons]
    omega
theorem place_here {B : Brd} {w : Int} {k : Nat} {p : Nat × Int} (h : (B.find? fun p => p.1 == k) = some p) (e : p.2 = w) : placeF B w (k + 1) = B := by
  rw [placeF, h]; simp [e]
theorem place_on {B : Brd} {w : Int} {k : Nat} {p : Nat × Int} (h : (B.find? fun p => p.1 == k) = some p) (e : ¬ p.2 = w) : placeF B w (k + 1) = placeF B w k := by
  rw [placeF, h]; simp [e]
theorem place_new {B : Brd} {w : Int} {k : Nat} (h : (B.find? fun p => p.1 == k) = none) : placeF B w (k + 1) = B ++ [(k, w)] := by
  rw [placeF, h]
theorem hsF_snoc {B : Brd} {w : Int} {k : Nat} : hsF (B ++ [(k, w)]) = hsF B ++ [(ask k w, num w)] := by simp [hsF]
theorem hs_short {B : Brd} (h : BOk B) : ∀ p ∈ hsF B, p.1.length ≤ 5592405 := by
  intro p hp
  obtain ⟨q, hq, rfl⟩ := List.mem_map.mp hp
  exact (ask_ok (h q hq).1).1
theorem rsz {d : Int} (h0 : 0 ≤ d) (h6 : d ≤ 6) : Builtin.Range.small d 0 (-1) = true ∧ Builtin.Range.rangeSize d 0 (-1) = (d.toNat : Int) := by
  have : d = 0 ∨ d = 1 ∨ d = 2 ∨ d = 3 ∨ d = 4 ∨ d = 5 ∨ d = 6 := by omega
  rcases this with rfl | rfl | rfl | rfl | rfl | rfl | rfl <;> decide
theorem off_brd {a b c : Addr × Obj} {prs led : Led} (ha : ∀ q ∈ led, q.1 ≠ a.1) (hb : ∀ q ∈ led, q.1 ≠ b.1) (hc : ∀ q ∈ led, q.1 ≠ c.1) (hp : ∀ p ∈ prs, ∀ q ∈ led, q.1 ≠ p.1) : ∀ p ∈ a :: b :: c :: prs, ∀ q ∈ led, q.1 ≠ p.1 := by
  intro p h
  simp only [List.mem_cons] at h
  rcases h with rfl | rfl | rfl | h
  · assumption
  · assumption
  · assumption
  · exact hp p h
theorem news_drop4 {h₀ h : Heap} {L : Addr} {a b c d : Addr × Obj} {led : Led} (N : News h₀ L h (a :: b :: c :: d :: led)) : News h₀ L h (a :: b :: c :: led) ∧ News h₀ L h (d :: a :: b :: c :: led) := ⟨news_sub N fun p hp => by
  simp only [List.mem_cons] at hp ⊢
  grind, news_sub N fun p hp => by
  simp only [List.mem_cons] at hp ⊢
  grind⟩
theorem news_drop5 {h₀ h : Heap} {L : Addr} {a b c d e : Addr × Obj} {led : Led} (N : News h₀ L h (a :: b :: c :: d :: e :: led)) : News h₀ L h (a :: b :: c :: d :: led) := news_sub N fun p hp => by
  simp only [List.mem_cons] at hp ⊢
  grind
theorem brd_c {w : World} {mean : ExcName → Option Value} {mg mb : Str → Option Value} {dp un : Nat} {gd : Option (List Code)} {cn : Str} {cs : Scope} {a : Addr} {ccd : Value} {cl : List (Str × Addr)} {outer : List Env} {A₀ : Around} {base h₀ : Heap} {L : Addr} {m : Str → Option Value} {s : Shared} {Q E : Value → Shared → Prop} {led : Led} {va vb : Value} {xs ys : List Int} {n : Nat} (B : Below A₀ base outer h₀) (F : Fr h₀ L s.heap m) (X : (Mine.hd.heap_39 w.params).In h₀) (T : Top PP LL mean mg mb h₀) (hk : cs.kind = .function)
    (N : News h₀ L s.heap led) (src : ZipSrc led va vb xs ys) (hx : xs.length = n) (hy : ys.length = n) (hn : n ≤ 6) (hxb : ∀ w ∈ xs, 0 ≤ w ∧ w < 6) (hyb : ∀ d ∈ ys, 0 ≤ d ∧ d ≤ 6) (hd : dp + 8 < recursionLimit) (hu : un + 240 < cLine)
    (ret : ∀ x dx l dh dk dn nn vs prs h' tk', (∀ p ∈ (x, instObj 196 dx) :: (dx, hdrDict dh dk l dn) :: (l, listOf vs.toArray nn) :: prs, ∀ q ∈ led, q.1 ≠ p.1) → Pairs prs vs (hsF (brdF (xs.zip ys))) → Fr h₀ L h' m → News h₀ L h' ((x, instObj 196 dx) :: (dx, hdrDict dh dk l dn) :: (l, listOf vs.toArray nn) :: (prs ++ led)) → Q (.ref x) { s with heap := h', toks := tk' }) :
    wpAny (MM w) (ktrTop dp un gd cn cs L a ccd cl outer) (call (.ref 214) [va, vb] []) Q E s := by
  walk_at "ENTER"
  intro g L' h₁ FG F' N' B' X' T'
  have hMk := kstMark
  replace F' : Fr g L' h₁ (fun y => List.lookup y [("spans", vb), ("order", va)]) := F'
  refine noRaise ?_
  try dsimp only
  walk_at "STEPS"
  walk_at "FOR"
  walk_at "STEPS"
  rename News _ _ _ _ => N₂
  rename Fr _ _ _ _ => F₂
  have hox : ∀ q ∈ led, q.1 ≠ x' := fun q hq => Nat.ne_of_lt (Nat.lt_trans (kst_ltOf hlt1 q hq) hlt2)
  have hol : ∀ q ∈ led, q.1 ≠ l' := fun q hq => Nat.ne_of_lt (Nat.lt_trans (kst_ltOf hlt1 q hq) (Nat.lt_trans hlt2 hlt3))
  have hod := off_lt hlt1
  have hzl : (xs.zip ys).length = n := by rw [List.length_zip]; omega
  have nxl : x' ≠ l' := Nat.ne_of_lt hlt3
  have ndl : dx' ≠ l' := Nat.ne_of_lt (Nat.lt_trans hlt2 hlt3)
  refine for_zip (L := L') (x := "work") (x₂ := "due") (dyn₀ := [(x', instObj 196 dx'), (dx', hdrDict dh' dk' l' dn'), (l', listOf #[] 0)]) (fun i m dyn => ∃ nn vs prs, dyn = (x', instObj 196 dx') :: (dx', hdrDict dh' dk' l' dn') :: (l', listOf vs.toArray nn) :: prs ∧ Pairs prs vs (hsF (brdF ((xs.zip ys).take i))) ∧ (∀ p ∈ prs, p.1 ≠ l') ∧ m "board" = some (.ref x'))
    src hx hy rfl rfl rfl rfl rfl (by decide) F₂ N₂ (off_three hox hod hol) ⟨_, [], [], rfl, .nil, (fun p hp => nomatch hp), rfl⟩ ?_ ?_
  · clear F₂ N₂
    rintro i w d tw td m₁ dyn h tk led2 hv hu' ⟨nn, vs, prs, rfl, hpr, hpl, e1⟩ hsub hoff F₃ N₃
    have F₄ := fr_knows [("board", .ref x')] F₃ (by
      intro p hp
      rw [List.mem_singleton.mp hp]
      exact two_set (show Str.ofString "board" ≠ Str.ofString "due" by decide) (show Str.ofString "board" ≠ Str.ofString "work" by decide) e1)
    clear F₃
    replace N₃ : News g L' h ((x', instObj 196 dx') :: (dx', hdrDict dh' dk' l' dn') :: (l', listOf vs.toArray nn) :: (prs ++ led2)) := N₃
    have hwb := hxb w (List.mem_of_getElem? hv)
    have hdb := hyb d (List.mem_of_getElem? hu')
    have hzi := zip_at hv hu'
    obtain ⟨B, hB⟩ : ∃ B, B = brdF ((xs.zip ys).take i) := ⟨_, rfl⟩
    rw [← hB] at hpr
    walk_at "STEPS"
    walk_at "FOR"
    walk_at "STEPS"
    rename News _ _ _ _ => N₅
    rename Fr _ _ _ _ => F₅
    rename IsRange _ _ _ _ _ _ _ _ => hr
    refine for_range (L := L') (n := d.toNat) (fun j m nx => nx = (x', instObj 196 dx') :: (dx', hdrDict dh' dk' l' dn') :: (l', listOf vs.toArray nn) :: (prs ++ led2) ∧ m "board" = some (.ref x') ∧ m "work" = some (.int w tw) ∧ placeF B w d.toNat = placeF B w (d.toNat - j)) rfl rfl hr (rsz hdb.1 hdb.2).1 (rsz hdb.1 hdb.2).2 F₅ N₅ ⟨rfl, rfl, rfl, rfl⟩ ?_ ?_
    · clear F₅ N₅
      rintro j t m₂ nx h3 tk3 I o hj ⟨rfl, f1, f2, f3⟩ hI F₅ N₅
      have F₆ := fr_knows [("board", .ref x'), ("work", .int w tw)] F₅ (by simp [f1, f2])
      clear F₅
      have N₆ : News g L' h3 ((x', instObj 196 dx') :: (dx', hdrDict dh' dk' l' dn') :: (l', listOf vs.toArray nn) :: (I, o) :: (prs ++ led2)) := news_sub N₅ fun p hp => by
        simp only [List.mem_cons] at hp ⊢
        rcases hp with h | h | h | h | h
        · exact .inr (.inl h)
        · exact .inr (.inr (.inl h))
        · exact .inr (.inr (.inr (.inl h)))
        · exact .inl h
        · exact .inr (.inr (.inr (.inr h)))
      clear N₅
      obtain ⟨k, hk9, hkj⟩ : ∃ k : Nat, d + j * -1 = (k : Int) + 1 ∧ d.toNat - j = k + 1 := ⟨d.toNat - j - 1, by omega, by omega⟩
      rw [hk9]
      have hk6 : k < 6 := by omega
      have hBo : BOk B := by
        rw [hB]
        refine brdF_ok _ _ (fun p hp => nomatch hp) fun p hp => ?_
        have hp' := List.of_mem_zip (List.mem_of_mem_take hp)
        exact ⟨hxb _ hp'.1, hyb _ hp'.2⟩
      have hvz : vs.length ≤ 900 := by
        have h1 := hpr.length
        have h2 := brdF_len ((xs.zip ys).take i) []
        have h3 : (hsF B).length = B.length := by simp [hsF]
        have h4 : B.length = (List.foldl (fun B p => placeF B p.1 p.2.toNat) [] ((xs.zip ys).take i)).length := by rw [hB]; rfl
        rw [List.length_take] at h2
        simp only [List.length_nil] at h2
        omega
      have hpM : Pairs ((I, o) :: (prs ++ led2)) vs (hsF B) := hpr.mono fun p hp => .tail _ (List.mem_append_left _ hp)
      have oxM : ∀ q ∈ led2, q.1 ≠ x' := hoff _ (.head _)
      have odM : ∀ q ∈ led2, q.1 ≠ dx' := hoff _ (.tail _ (.head _))
      have olM2 : ∀ q ∈ led2, q.1 ≠ l' := hoff _ (.tail _ (.tail _ (.head _)))
      have opM : ∀ p ∈ prs, ∀ q ∈ led2, q.1 ≠ p.1 := fun p hp => hoff p (.tail _ (.tail _ (.tail _ hp)))
      have olM : ∀ p ∈ (I, o) :: (prs ++ led2), p.1 ≠ l' := off_cons2 (Ne.symm (hI _ (.tail _ (.tail _ (.head _))))) fun p hp => by
        rcases List.mem_append.mp hp with hp | hp
        · exact hpl p hp
        · exact olM2 p hp
      have hak := ask_ok (k := k) (w := w) hk6
      have ekk : (k : Int) + 1 - 1 = (k : Int) := by omega
      have ets := take_snoc hzi
      have eB : brdF ((xs.zip ys).take (i + 1)) = placeF B w (k + 1) := by rw [ets, brdF_snoc, ← hB, ← hkj]; exact f3
      walk_at "STEPS"
      all_goals rw [ekk]
      all_goals (first
        | (rename w.fmod 2 = 1 => hodd; rw [show Txt.upper (Txt.item (Str.ofString "abcdef") (k : Int)) = ask k w by unfold ask; rw [if_pos hodd]; rfl])
        | (rename ¬ w.fmod 2 = 1 => hodd; rw [show Txt.item (Str.ofString "abcdef") (k : Int) = ask k w by unfold ask; rw [if_neg hodd]; rfl]))
      all_goals (
        refine' sd_c ?k1 ?k2 ?k3 ?k4 ?k5 ?k6 hpM ?k8 ?k9 hvz hak.1 hak.2.2.2 hak.2.1 (num_clean hwb) (hs_short hBo) olM nxl ndl ?_ ?_
        case k1 => k_asm
        case k2 => k_asm
        case k3 => k_asm
        case k4 => k_asm
        case k5 => exact rfl
        case k6 => k_asm
        case k8 => ktr_room
        case k9 => ktr_units
        · intro z tz h' tk' hz F' N'
          rw [hs_get hk6 hBo] at hz
          obtain ⟨p, hp, rfl⟩ := Option.map_eq_some_iff.mp hz
          have hp6 := hBo p (List.mem_of_find?_eq_some hp)
          have hpi := num_inj hp6.2 hwb
          walk_at "STEPS"
          · rename (num p.snd == _) = true => ha
            have ha' : p.2 = w := of_decide_eq_true (hpi.symm.trans ha)
            dsimp only [TurnTo]
            walk_at "STEPS"
            rename News _ _ _ _ => N₇
            rename Fr _ _ _ _ => F₇
            refine TurnZ.next ((x', instObj 196 dx') :: (dx', hdrDict dh' dk' l' dn') :: (l', listOf vs.toArray nn) :: prs) F₇ (news_drop4 N₇).1 (off_brd oxM odM olM2 opM) ⟨nn, vs, prs, rfl, ?_, hpl, rfl⟩
            rw [eB, place_here hp ha']; exact hpr
          · rename (num p.snd == _) = false => ha
            have ha' : ¬ p.2 = w := of_decide_eq_false (hpi.symm.trans ha)
            rename News _ _ _ _ => N₇
            rename Fr _ _ _ _ => F₇
            refine TurnTo.next _ F₇ (news_drop4 N₇).2 hI ⟨rfl, rfl, rfl, ?_⟩
            rw [f3, hkj, place_on hp ha', show d.toNat - (j + 1) = k by omega]
        · intro T nn' tk9 tv9 h' tk' hz hT F' N'
          rw [hs_get hk6 hBo] at hz
          have hnone := Option.map_eq_none_iff.mp hz
          walk_at "STEPS"
          · dsimp only [TurnTo]
            walk_at "STEPS"
            rename News _ _ _ _ => N₇
            rename Fr _ _ _ _ => F₇
            have hTl : T ≠ l' := news_ne (o := pairObj (ask k w) (num w) tk9 tv9 0) (o' := listOf (vs ++ [Value.ref T]).toArray nn') N₇ (.tail _ (.tail _ (.tail _ (.head _)))) (.tail _ (.tail _ (.head _))) (by show Value.type "tuple" ≠ Value.type "list"; decide)
            refine TurnZ.next ((x', instObj 196 dx') :: (dx', hdrDict dh' dk' l' dn') :: (l', listOf (vs ++ [Value.ref T]).toArray nn') :: (T, pairObj (ask k w) (num w) tk9 tv9 0) :: prs) F₇ (news_drop5 N₇) (off_brd oxM odM olM2 fun p hp q hq => ?_) ⟨nn', vs ++ [Value.ref T], (T, pairObj (ask k w) (num w) tk9 tv9 0) :: prs, rfl, ?_, off_cons2 hTl hpl, rfl⟩
            · rcases List.mem_cons.mp hp with rfl | hp
              · exact hT q (.tail _ (List.mem_append_right _ hq))
              · exact opM p hp q hq
            · rw [eB, place_new hnone, hsF_snoc]
              exact (hpr.mono fun p hp => .tail _ hp).snoc (.head _)
          · rename (_ == _) = false => ha
            simp at ha)
    · clear F₅ N₅
      rintro m₂ nx h3 tk3 ⟨rfl, f1, f2, f3⟩ F₅ N₅
      have F₆ := fr_knows [("board", .ref x'), ("work", .int w tw)] F₅ (by simp [f1, f2])
      clear F₅
      walk_at "STEPS"
      rename News _ _ _ _ => N₇
      rename Fr _ _ _ _ => F₇
      have eB : brdF ((xs.zip ys).take (i + 1)) = B := by
        rw [take_snoc hzi, brdF_snoc, ← hB]
        show placeF B w d.toNat = B
        rw [f3, Nat.sub_self]; rfl
      refine TurnZ.next ((x', instObj 196 dx') :: (dx', hdrDict dh' dk' l' dn') :: (l', listOf vs.toArray nn) :: prs) F₇ N₇ (fun p hp => hoff p hp) ⟨nn, vs, prs, rfl, ?_, hpl, rfl⟩
      rw [eB]; exact hpr
  · clear F₂ N₂
    rintro m₁ dyn h tk ⟨nn, vs, prs, rfl, hpr, hpl, e1⟩ hoff F₃ N₃
    have F₄ := fr_knows [("board", .ref x')] F₃ (by simp [e1])
    clear F₃
    rw [← hzl, List.take_length] at hpr
    replace N₃ : News g L' h ((x', instObj 196 dx') :: (dx', hdrDict dh' dk' l' dn') :: (l', listOf vs.toArray nn) :: (prs ++ led)) := N₃
    walk_at "STEPS"
    rename News h₀ _ _ _ => N₆
    exact ret x' dx' l' _ _ _ _ _ prs _ _ hoff hpr (by k_asm) N₆
end Mine

namespace Mine
/-- how many lie beyond x -/
def cgt (ns : List Int) (x : Int) : Nat := ns.countP fun y => decide (x < y)
theorem cle_cgt (ns : List Int) (x : Int) : cle ns x + cgt ns x = ns.length := by
  induction ns with
  | nil => rfl
  | cons a r ih =>
    simp only [cle, cgt, List.countP_cons, List.length_cons] at ih ⊢
    by_cases h : a ≤ x
    · rw [if_pos (decide_eq_true h), if_neg (show ¬ decide (x < a) = true by simp; omega)]; omega
    · rw [if_neg (show ¬ decide (a ≤ x) = true by simp; omega), if_pos (decide_eq_true (show x < a by omega))]; omega
theorem okR_iff {r : List Int} : okR r = true ↔ ∀ h : Nat, h < 6 → cle r h ≤ h := by
  unfold okR
  rw [List.all_eq_true]
  constructor
  · intro H h hh
    have := of_decide_eq_true (H h (List.mem_range.mpr hh))
    omega
  · intro H h hh
    exact decide_eq_true (by have := H h (List.mem_range.mp hh); omega)
theorem okR_mono {a b : List Int} (h : ∀ x, cle a x ≤ cle b x) (hb : okR b = true) : okR a = true := okR_iff.mpr fun k hk => Nat.le_trans (h k) (okR_iff.mp hb k hk)
theorem cle_app (a b : List Int) (x : Int) : cle (a ++ b) x = cle a x + cle b x := List.countP_append
theorem cgt_app (a b : List Int) (x : Int) : cgt (a ++ b) x = cgt a x + cgt b x := List.countP_append
theorem cle_one {d x : Int} : cle [d] x = if d ≤ x then 1 else 0 := by simp [cle, List.countP_cons]
theorem cgt_one {d x : Int} : cgt [d] x = if x < d then 1 else 0 := by simp [cgt, List.countP_cons]
theorem cgt_sub {a b : List Int} (h : a.Sublist b) (x : Int) : cgt a x ≤ cgt b x := h.countP_le
theorem cle_sub {a b : List Int} (h : a.Sublist b) (x : Int) : cle a x ≤ cle b x := h.countP_le
theorem cgt_perm {a b : List Int} (h : a.Perm b) (x : Int) : cgt a x = cgt b x := h.countP_eq _
theorem cgt_len (a : List Int) (x : Int) : cgt a x ≤ a.length := List.countP_le_length
theorem cle_len (a : List Int) (x : Int) : cle a x ≤ a.length := List.countP_le_length
theorem cgt_cle {S : List Int} {f g : Int → Int} {x y : Int} (h : ∀ w ∈ S, x < f w → g w ≤ y) : cgt (S.map f) x ≤ cle (S.map g) y := by
  unfold cgt cle
  rw [List.countP_map, List.countP_map]
  exact List.countP_mono_left fun w hw hx => decide_eq_true (h w hw (of_decide_eq_true hx))
theorem cle_cgt2 {S : List Int} {f g : Int → Int} {x y : Int} (h : ∀ w ∈ S, f w ≤ x → y < g w) : cle (S.map f) x ≤ cgt (S.map g) y := by
  unfold cgt cle
  rw [List.countP_map, List.countP_map]
  exact List.countP_mono_left fun w hw hx => decide_eq_true (h w hw (of_decide_eq_true hx))
/-- greedy: one by one, taken if then for no hour more are due by it than so many -/
def grS (d : Int → Int) (t : List Int) (w : Int) : List Int := if okR ((t ++ [w]).map d) = true then t ++ [w] else t
def gr (d : Int → Int) (A : List Int) : List Int := A.foldl (grS d) []
theorem gr_snoc {d : Int → Int} {A : List Int} {i : Int} : gr d (A ++ [i]) = grS d (gr d A) i := by
  unfold gr; rw [List.foldl_append]; rfl
theorem snoc_ind {P : List Int → Prop} (h0 : P []) (hs : ∀ l a, P l → P (l ++ [a])) (l : List Int) : P l := by
  have : ∀ l : List Int, P l.reverse := by
    intro l
    induction l with
    | nil => exact h0
    | cons a l ih => rw [List.reverse_cons]; exact hs _ _ ih
  have h := this l.reverse
  rwa [List.reverse_reverse] at h
theorem cnt_gr (d : Int → Int) : ∀ A : List Int, cntF (A.map fun w => (w, d w)) = (gr d A, ((gr d A).map d).reverse) := by
  refine snoc_ind rfl fun l a ih => ?_
  rw [List.map_append, List.map_cons, List.map_nil, cntF_snoc, ih, gr_snoc]
  unfold cntS grS
  have e : okR (d a :: ((gr d l).map d).reverse) = okR ((gr d l ++ [a]).map d) := okR_perm (by
    rw [List.map_append]
    exact ((List.reverse_perm _).cons _).trans (List.perm_append_singleton _ _).symm)
  dsimp only
  rw [e]
  split
  · simp
  · rfl
theorem gr_sub (d : Int → Int) : ∀ A : List Int, (gr d A).Sublist A := by
  refine snoc_ind (.refl _) fun l a ih => ?_
  rw [gr_snoc]
  unfold grS
  split
  · exact ih.append (.refl _)
  · exact ih.trans (List.sublist_append_left _ _)
theorem gr_app (d : Int → Int) (A : List Int) : ∀ B : List Int, ∃ T, gr d (A ++ B) = gr d A ++ T ∧ T.Sublist B := by
  refine snoc_ind ⟨[], by simp, .refl _⟩ fun B b ⟨T, h1, h2⟩ => ?_
  rw [← List.append_assoc, gr_snoc, h1]
  unfold grS
  split
  · exact ⟨T ++ [b], by simp, h2.append (.refl _)⟩
  · exact ⟨T, rfl, h2.trans (List.sublist_append_left _ _)⟩
theorem ok_not {r : List Int} (h : ¬ okR r = true) : ∃ k : Nat, k < 6 ∧ k < cle r k := by
  apply Classical.byContradiction
  intro hn
  exact h (okR_iff.mpr fun k hk => Nat.le_of_not_lt fun hl => hn ⟨k, hk, hl⟩)
theorem gr_inv (d : Int → Int) : ∀ A : List Int, okR ((gr d A).map d) = true ∧ ∃ H : Nat, H < 6 ∧ cle ((gr d A).map d) H = H ∧ ∀ h : Int, (H : Int) ≤ h → cgt ((gr d A).map d) h = cgt (A.map d) h := by
  refine snoc_ind ⟨show okR [] = true by decide, 0, by decide, rfl, fun h _ => rfl⟩ fun A i ⟨ok, H, hH, h1, h2⟩ => ?_
  rw [gr_snoc]
  unfold grS
  by_cases hc : okR ((gr d A ++ [i]).map d) = true
  · rw [if_pos hc]
    have h3 := okR_iff.mp hc H hH
    rw [List.map_append, cle_app] at h3
    refine ⟨hc, H, hH, ?_, fun h hh => ?_⟩
    · rw [List.map_append, cle_app]; omega
    · rw [List.map_append, cgt_app, List.map_append, cgt_app, h2 h hh]
  · rw [if_neg hc]
    refine ⟨ok, ?_⟩
    obtain ⟨h, hh, hl⟩ := ok_not hc
    have hk := okR_iff.mp ok h hh
    rw [List.map_append, cle_app, List.map_cons, List.map_nil, cle_one] at hl
    have hi : d i ≤ h := by
      apply Classical.byContradiction
      intro hn
      rw [if_neg hn] at hl
      omega
    rw [if_pos hi] at hl
    have e : ∀ x : Int, (h : Int) ≤ x → cgt ((A ++ [i]).map d) x = cgt (A.map d) x := fun x hx => by
      rw [List.map_append, cgt_app, List.map_cons, List.map_nil, cgt_one, if_neg (by omega)]
      rfl
    by_cases hle : h ≤ H
    · exact ⟨H, hH, h1, fun x hx => by rw [e x (by omega)]; exact h2 x hx⟩
    · exact ⟨h, hh, by omega, fun x hx => by rw [e x hx]; exact h2 x (by omega)⟩
theorem gr_best {d : Int → Int} {A S : List Int} (hS : S.Sublist A) (ok : okR (S.map d) = true) : S.length ≤ (gr d A).length := by
  obtain ⟨_, H, hH, h1, h2⟩ := gr_inv d A
  have e1 := cle_cgt (S.map d) H
  have e2 := cle_cgt ((gr d A).map d) H
  have e3 := okR_iff.mp ok H hH
  have e4 := cgt_sub (hS.map d) H
  have e5 := h2 H (Int.le_refl _)
  rw [List.length_map] at e1 e2
  omega
theorem fil_sub {S : List Int} : ∀ {l : List Int}, S.Sublist l → l.Nodup → l.filter (fun w => decide (w ∈ S)) = S := by
  intro l h
  induction h with
  | slnil => intro _; rfl
  | @cons l₁ l₂ a h ih =>
    intro hn
    obtain ⟨h1, h2⟩ := List.nodup_cons.mp hn
    rw [List.filter_cons, if_neg, ih h2]
    simpa using fun hm => h1 (h.subset hm)
  | @cons_cons l₁ l₂ a h ih =>
    intro hn
    obtain ⟨h1, h2⟩ := List.nodup_cons.mp hn
    rw [List.filter_cons, if_pos (by simp)]
    congr 1
    rw [← ih h2]
    apply List.filter_congr
    intro w hw
    have hwa : w ≠ a := fun e => h1 (e ▸ hw)
    rw [ih h2]
    simp [hwa]
/-- what is not in S -/
abbrev out (S l : List Int) : List Int := l.filter fun w => !decide (w ∈ S)
theorem out_perm {S l : List Int} (h : S.Sublist l) (hn : l.Nodup) : (S ++ out S l).Perm l := by
  have := List.filter_append_perm (fun w => decide (w ∈ S)) l
  rwa [fil_sub h hn] at this
theorem least {P : Nat → Prop} : ∀ n, P n → ∃ k, P k ∧ ∀ j, j < k → ¬ P j := by
  intro n
  induction n using Nat.strongRecOn with
  | _ n ih =>
    intro h
    by_cases hk : ∃ j, j < n ∧ P j
    · obtain ⟨j, hj, hp⟩ := hk
      exact ih j hj hp
    · exact ⟨n, h, fun j hj hp => hk ⟨j, hj, hp⟩⟩
/-- the dues, the other dues -/
structure Dual (os : List Int) (d e : Int → Int) (r : Nat) : Prop where
  nd : os.Nodup
  len : os.length = 6
  hd : ∀ w ∈ os, 0 ≤ d w ∧ d w ≤ 5
  low : ∀ h : Nat, h < 6 → r ≤ h + cgt (os.map d) h
  tight : ∃ h : Nat, h < 6 ∧ r = h + cgt (os.map d) h
  e1 : ∀ w ∈ os, e w ≤ 6 - (r : Int)
  e2 : ∀ w ∈ os, ∀ h : Nat, (h : Int) < d w → e w ≤ (h : Int) + cgt (os.map d) h - r
  e3 : ∀ w ∈ os, e w = 6 - (r : Int) ∨ ∃ h : Nat, (h : Int) < d w ∧ e w = (h : Int) + cgt (os.map d) h - r
section
variable {os S T : List Int} {d e : Int → Int} {r : Nat}
theorem Dual.most (D : Dual os d e r) : (gr d os).length = r := by
  obtain ⟨ok, H, hH, h1, h2⟩ := gr_inv d os
  have e2 := cle_cgt ((gr d os).map d) H
  have e5 := h2 H (Int.le_refl _)
  have e6 := D.low H hH
  rw [List.length_map] at e2
  obtain ⟨h, hh, ht⟩ := D.tight
  have e7 := okR_iff.mp ok h hh
  have e8 := cle_cgt ((gr d os).map d) h
  have e9 := cgt_sub ((gr_sub d os).map d) h
  rw [List.length_map] at e8
  omega
theorem Dual.q1 (D : Dual os d e r) (hp : (S ++ T).Perm os) (hS : S.length = r) : okR (S.map d) = okR (T.map e) := by
  have hT : S.length + T.length = 6 := by rw [← D.len, ← hp.length_eq, List.length_append]
  have hc : ∀ h : Int, cgt (S.map d) h + cgt (T.map d) h = cgt (os.map d) h := fun h => by rw [← cgt_app, ← List.map_append]; exact cgt_perm (hp.map d) h
  have hm : ∀ w ∈ T, w ∈ os := fun w hw => hp.mem_iff.mp (List.mem_append_right _ hw)
  have hiff : okR (S.map d) = true ↔ okR (T.map e) = true := by
    rw [okR_iff, okR_iff]
    constructor
    · intro H x hx
      by_cases h6 : 6 - r ≤ x
      · have := cle_len (T.map e) x
        rw [List.length_map] at this
        omega
      · by_cases hex : ∃ h : Nat, h < 6 ∧ h + cgt (os.map d) h ≤ x + r
        · obtain ⟨n, hn⟩ := hex
          obtain ⟨k, ⟨hk, hkx⟩, hl⟩ := least (P := fun h => h < 6 ∧ h + cgt (os.map d) h ≤ x + r) n hn
          have h1 : cle (T.map e) x ≤ cgt (T.map d) k := cle_cgt2 fun w hw hex => by
            have hdw := D.hd w (hm w hw)
            rcases D.e3 w (hm w hw) with h | ⟨h, hh, he⟩
            · omega
            · have hh6 : h < 6 := by omega
              have : ¬ h < k := fun hlt => hl h hlt ⟨hh6, by omega⟩
              omega
          have h2 := H k hk
          have h3 := cle_cgt (S.map d) k
          rw [List.length_map] at h3
          have h4 := hc k
          omega
        · have h1 : cle (T.map e) x = 0 := by
            unfold cle
            rw [List.countP_map, List.countP_eq_zero]
            intro w hw hex'
            have hex2 : e w ≤ x := of_decide_eq_true hex'
            have hdw := D.hd w (hm w hw)
            rcases D.e3 w (hm w hw) with h | ⟨h, hh, he⟩
            · omega
            · exact hex ⟨h, by omega, by omega⟩
          omega
    · intro H h hh
      have h3 := cle_cgt (S.map d) h
      rw [List.length_map] at h3
      have h4 := hc h
      have h5 := D.low h hh
      have h6 : cgt (T.map d) h + r ≤ h + cgt (os.map d) h := by
        by_cases hx : h + cgt (os.map d) h - r < 6
        · have h7 := H _ hx
          have h8 : cgt (T.map d) h ≤ cle (T.map e) ((h + cgt (os.map d) h - r : Nat) : Int) := cgt_cle fun w hw hdw => by
            have := D.e2 w (hm w hw) h hdw
            omega
          omega
        · have := cgt_len (T.map d) h
          rw [List.length_map] at this
          omega
      omega
  cases h1 : okR (S.map d) with
  | true => exact (hiff.mp h1).symm
  | false =>
    cases h2 : okR (T.map e) with
    | false => rfl
    | true => rw [hiff.mpr h2] at h1; cases h1
theorem Dual.rest (D : Dual os d e r) : ∀ (Z A : List Int), os = A ++ Z → gr e Z.reverse = (out (gr d os) Z).reverse := by
  intro Z
  induction Z with
  | nil => intro A _; rfl
  | cons i Z ih =>
    intro A hA
    have ih := ih (A ++ [i]) (by rw [hA, List.append_assoc]; rfl)
    obtain ⟨G, hG⟩ : ∃ G, G = gr d os := ⟨_, rfl⟩
    have hnd := D.nd
    rw [hA, List.nodup_append] at hnd
    obtain ⟨nA, nZ, nAZ⟩ := hnd
    obtain ⟨niZ, nZ⟩ := List.nodup_cons.mp nZ
    have hsub : G.Sublist os := hG ▸ gr_sub d os
    have hlen : G.length = r := hG ▸ D.most
    have hok : okR (G.map d) = true := hG ▸ (gr_inv d os).1
    have hP := out_perm hsub D.nd
    have hq := D.q1 hP hlen
    rw [hok] at hq
    rw [← hG] at ih ⊢
    rw [List.reverse_cons, gr_snoc, ih]
    unfold grS
    have hmem : ∀ w ∈ Z, w ∈ os := fun w hw => by rw [hA]; exact List.mem_append_right _ (.tail _ hw)
    have hi : i ∈ os := by rw [hA]; exact List.mem_append_right _ (.head _)
    by_cases hiG : i ∈ G
    · have e1 : out G (i :: Z) = out G Z := by unfold out; rw [List.filter_cons, if_neg (by simp [hiG])]
      rw [e1, if_neg]
      intro hc
      obtain ⟨T', hT1, hT2⟩ := gr_app d (A ++ [i]) Z
      have hG' : G = gr d (A ++ [i]) ++ T' := by rw [← hT1, hG, hA, List.append_assoc]; rfl
      have hiA : i ∉ gr d A := fun h => nAZ i ((gr_sub d A).subset h) i (.head _) rfl
      have hi1 : i ∈ gr d (A ++ [i]) := by
        rw [hG'] at hiG
        rcases List.mem_append.mp hiG with h | h
        · exact h
        · exact absurd (hT2.subset h) niZ
      have e2 : gr d (A ++ [i]) = gr d A ++ [i] := by
        rw [gr_snoc] at hi1 ⊢
        unfold grS at hi1 ⊢
        split at hi1
        · rw [if_pos (by assumption)]
        · exact absurd hi1 hiA
      have hok1 := (gr_inv d (A ++ [i])).1
      rw [e2] at hok1 hG'
      obtain ⟨_, H, hH, h1, h2⟩ := gr_inv d A
      have h3 := okR_iff.mp hok1 H hH
      rw [List.map_append, cle_app, List.map_cons, List.map_nil, cle_one] at h3
      have hdi : (H : Int) < d i := by
        apply Classical.byContradiction
        intro hn
        rw [if_pos (by omega)] at h3
        omega
      have h4 := okR_iff.mp hok H hH
      have h5 : H ≤ cle (G.map d) H := by
        rw [hG', List.map_append, List.map_append, cle_app, cle_app, h1]; omega
      have h6 := cle_cgt (G.map d) H
      rw [List.length_map, hlen] at h6
      have h7 : cgt (G.map d) H + cgt ((out G os).map d) H = cgt (os.map d) H := by rw [← cgt_app, ← List.map_append]; exact cgt_perm (hP.map d) H
      have h8 : out G os = out G A ++ out G Z := by
        rw [← e1]; unfold out; rw [← List.filter_append, ← hA]
      have h9 : cgt ((out G A).map d) H = 0 := by
        have q1 := cgt_perm ((List.filter_append_perm (fun w => decide (w ∈ G)) A).map d) H
        rw [List.map_append, cgt_app] at q1
        have q2 : ((gr d A).filter fun w => decide (w ∈ G)).Sublist (A.filter fun w => decide (w ∈ G)) := (gr_sub d A).filter _
        rw [List.filter_eq_self.mpr (fun w hw => decide_eq_true (by rw [hG']; exact List.mem_append_left _ (List.mem_append_left _ hw)))] at q2
        have q3 := cgt_sub (q2.map d) H
        rw [h2 H (Int.le_refl _)] at q3
        have q4 : cgt ((out G A).map d) H = cgt ((A.filter fun w => !decide (w ∈ G)).map d) H := rfl
        omega
      rw [h8, List.map_append, cgt_app, h9] at h7
      have hrp : 1 ≤ r := by rw [← hlen, hG']; simp; omega
      have hl : (out G Z).length + r ≤ 6 := by
        have := hP.length_eq
        rw [List.length_append, h8, List.length_append, D.len] at this
        omega
      have h10 := cgt_len ((out G Z).map d) H
      rw [List.length_map] at h10
      have h11 := okR_iff.mp hc (cgt ((out G Z).map d) H) (by omega)
      have h12 : cgt (((out G Z).reverse ++ [i]).map d) H ≤ cle (((out G Z).reverse ++ [i]).map e) (cgt ((out G Z).map d) H : Nat) := cgt_cle fun w hw hdw => by
        have hw' : w ∈ os := by
          rcases List.mem_append.mp hw with h | h
          · exact hmem w (List.mem_filter.mp (List.mem_reverse.mp h)).1
          · rw [List.mem_singleton.mp h]; exact hi
        have := D.e2 w hw' H hdw
        omega
      rw [List.map_append, cgt_app, List.map_cons, List.map_nil, cgt_one, if_pos hdi, List.map_reverse, cgt_perm (List.reverse_perm _)] at h12
      omega
    · have e1 : out G (i :: Z) = i :: out G Z := by unfold out; rw [List.filter_cons, if_pos (by simp [hiG])]
      rw [e1, List.reverse_cons, if_pos]
      refine okR_mono (fun x => ?_) hq.symm
      have s1 : (out G (i :: Z)).Sublist (out G os) := by
        unfold out
        rw [hA, List.filter_append]
        exact List.sublist_append_right _ _
      rw [e1] at s1
      refine Nat.le_trans (Nat.le_of_eq ?_) (cle_sub (s1.map e) x)
      refine cle_perm (List.Perm.map e ?_) x
      rw [← List.reverse_cons]
      exact List.reverse_perm _
theorem Dual.rest' (D : Dual os d e r) : gr e os.reverse = out (gr d os) os.reverse := by
  rw [D.rest os [] rfl]
  exact (List.filter_reverse ..).symm
theorem gale (hn : os.Nodup) (hS : S.Sublist os) (ok : okR (S.map d) = true) {k p q : Nat} {x y : Int} (h1 : S[k]? = some x) (h2 : os[p]? = some x) (h3 : (gr d os)[k]? = some y) (h4 : os[q]? = some y) : q ≤ p := by
  apply Classical.byContradiction
  intro hlt
  have hp := (List.getElem?_eq_some_iff.mp h2).1
  have hk := (List.getElem?_eq_some_iff.mp h1).1
  have s1 : (S.take (k + 1)).Sublist (os.take (p + 1)) := by
    have e1 : S = S.take k ++ S.drop k := (List.take_append_drop k S).symm
    have e2 : S.drop k = x :: S.drop (k + 1) := by
      rw [List.drop_eq_getElem_cons hk, (List.getElem?_eq_some_iff.mp h1).2]
    rw [e1] at hS
    obtain ⟨r1, r2, e3, s2, s3⟩ := List.append_sublist_iff.mp hS
    have hx2 : x ∈ r2 := s3.subset (e2 ▸ .head _)
    have hr : r1.length ≤ p := by
      apply Classical.byContradiction
      intro hn'
      have hx1 : x ∈ r1 := by
        rw [e3, List.getElem?_append_left (by omega)] at h2
        exact List.mem_of_getElem? h2
      rw [e3] at hn
      exact (List.nodup_append.mp hn).2.2 x hx1 x hx2 rfl
    have e4 : S.take (k + 1) = S.take k ++ [x] := by rw [List.take_add_one, h1]; rfl
    have e5 : os.take (p + 1) = os.take p ++ [x] := by rw [List.take_add_one, h2]; rfl
    rw [e4, e5]
    refine List.Sublist.append (s2.trans ?_) (.refl _)
    rw [e3, List.take_append, List.take_of_length_le hr]
    exact List.sublist_append_left _ _
  have b1 := gr_best s1 (okR_mono (fun z => cle_sub ((List.take_sublist _ S).map d) z) ok)
  obtain ⟨T', hT1, hT2⟩ := gr_app d (os.take (p + 1)) (os.drop (p + 1))
  rw [List.take_append_drop] at hT1
  rw [List.length_take] at b1
  rw [hT1, List.getElem?_append_left (by omega)] at h3
  have hy := (gr_sub d _).subset (List.mem_of_getElem? h3)
  obtain ⟨j, hj⟩ := List.getElem?_of_mem hy
  have hj6 := (List.getElem?_eq_some_iff.mp hj).1
  rw [List.length_take] at hj6
  rw [List.getElem?_take, if_pos (by omega)] at hj
  have hq := (List.getElem?_eq_some_iff.mp h4).1
  obtain ⟨hj1, hj2⟩ := List.getElem?_eq_some_iff.mp hj
  obtain ⟨hq1, hq2⟩ := List.getElem?_eq_some_iff.mp h4
  exact List.pairwise_iff_getElem.mp hn j q hj1 hq1 (by omega) (hj2.trans hq2.symm)
end
end Mine

namespace Mine
theorem any_ints {vs : List Value} {ns : List Int} (h : IntsAre vs ns) (k : Int) : vs.any (isInt k) = decide (k ∈ ns) := by
  induction h with
  | nil => rfl
  | @cons z t vs ns _ ih =>
    rw [List.any_cons, ih]
    show (decide (z = k) || decide (k ∈ ns)) = decide (k ∈ z :: ns)
    rw [← Bool.decide_or]
    apply decide_eq_decide.mpr
    rw [List.mem_cons]
    exact or_congr_left eq_comm
theorem ints_kf {vs : List Value} {ns : List Int} (h : IntsAre vs ns) : kf_ints vs = true := by
  induction h with
  | nil => rfl
  | cons z t _ ih => exact ih
theorem at_ints {vs : List Value} {ns : List Int} (h : IntsAre vs ns) : ∀ {k : Int} {j : Nat}, ns.Nodup → ns[j]? = some k → kf_at k vs = some j := by
  induction h with
  | nil => intro k j _ e; simp at e
  | @cons z t vs ns _ ih =>
    intro k j hn e
    obtain ⟨h1, h2⟩ := List.nodup_cons.mp hn
    unfold kf_at
    cases j with
    | zero =>
      simp at e
      subst e
      rw [show isInt z (.int z t) = true by simp [isInt]]
      rfl
    | succ j =>
      have e' : ns[j]? = some k := by simpa using e
      have hzk : z ≠ k := fun q => h1 (q ▸ List.mem_of_getElem? e')
      rw [show isInt k (.int z t) = false by simp [isInt, hzk]]
      rw [ih h2 e']
      rfl
section
variable {prog : Program} {w : World} {A : Around} {E : Value → Shared → Prop} {s : Shared} {h₀ : Heap} {L D : Addr} {m : Str → Option Value} {news : Led} {vs : List Value} {ns : List Int} {n : Nat} {k : Int} {t : Tok} {Q : Value → Shared → Prop}
theorem in_ints (N : News h₀ L s.heap news) (hm : (D, listOf vs.toArray n) ∈ news) (hi : IntsAre vs ns) (h : Q (.bool (decide (k ∈ ns))) s) : wpAny (model prog w) A (compareOp .In (.int k t) (.ref D)) Q E s :=
  kf_in N hm (ints_kf hi) (any_ints hi k) h
theorem notin_ints (N : News h₀ L s.heap news) (hm : (D, listOf vs.toArray n) ∈ news) (hi : IntsAre vs ns) (h : Q (.bool (!decide (k ∈ ns))) s) : wpAny (model prog w) A (compareOp .NotIn (.int k t) (.ref D)) Q E s :=
  kf_notin N hm (ints_kf hi) (by rw [← any_ints hi k]) h
theorem index_ints {j : Nat} (N : News h₀ L s.heap news) (hm : (D, listOf vs.toArray n) ∈ news) (hi : IntsAre vs ns) (hn : ns.Nodup) (hj : ns[j]? = some k) (hz : vs.length ≤ 1000) (h : Q (.int (j : Int) s.toks) { s with toks := s.toks + 1 }) : wpAny (model prog w) A (call (.builtin "list.index") [.ref D, .int k t]) Q E s :=
  kf_index N hm (ints_kf hi) (at_ints hi hn hj) rfl (by rw [sizeLine_eq]; show vs.length ≤ _; omega) h
end
end Mine
theorem Mine.say_j_27 : True := by
  k_with "compareOp In int ref" => (k_here; (with_reducible show wpAny _ _ (compareOp CmpOp.In (Value.int _ _) (Value.ref _)) _ _ _); k_dflt (refine' Mine.in_ints ?yk1_27 ?yk2_27 ?yk3_27 ?_; (case yk1_27 => k_asm); (case yk2_27 => k_memK); (case yk3_27 => assumption); k_whole))
  trivial
theorem Mine.say_j_28 : True := by
  k_with "compareOp NotIn int ref" => (k_here; (with_reducible show wpAny _ _ (compareOp CmpOp.NotIn (Value.int _ _) (Value.ref _)) _ _ _); k_dflt (refine' Mine.notin_ints ?yk1_28 ?yk2_28 ?yk3_28 ?_; (case yk1_28 => k_asm); (case yk2_28 => k_memK); (case yk3_28 => assumption); k_whole))
  trivial
theorem Mine.say_j_29 : True := by
  k_with "call builtin:list.index" => (k_here; (with_reducible show wpAny _ _ (call (Value.builtin "list.index") [Value.ref _, Value.int _ _]) _ _ _); k_dflt (refine' Mine.index_ints ?yk1_29 ?yk2_29 ?yk3_29 ?yk4_29 ?yk5_29 ?yk6_29 ?_; (case yk1_29 => k_asm); (case yk2_29 => k_memK); (case yk3_29 => assumption); (case yk4_29 => assumption); (case yk5_29 => assumption); (case yk6_29 => assumption); k_whole))
  trivial

theorem Mine.say_j_30 : True := by
  k_with "call ref" => (k_here; (with_reducible show wpAny _ _ (call (Value.ref 148) _ _) _ _ _); k_dflt (refine' Mine.keys_c ?yk1_30 ?yk2_30 ?yk3_30 ?yk4_30 ?yk5_30 ?yk6_30 ?yk7_30 ?yk8_30 ?yk9_30 ?ykZ_30 ?_; (case yk1_30 => k_asm); (case yk2_30 => k_asm); (case yk3_30 => k_asm); (case yk4_30 => k_asm); (case yk5_30 => first | exact rfl | assumption); (case yk6_30 => k_asm); (case yk7_30 => assumption); (case yk8_30 => ktr_room); (case yk9_30 => ktr_units); (case ykZ_30 => assumption); k_whole); intro D' ks' h' tk' hks' F' N')
  trivial
theorem Mine.say_j_31 : True := by
  k_with "call ref" => (k_here; (with_reducible show wpAny _ _ (call (Value.ref 153) _ _) _ _ _); k_dflt (refine' Mine.vals_c ?yk1_31 ?yk2_31 ?yk3_31 ?yk4_31 ?yk5_31 ?yk6_31 ?yk7_31 ?yk8_31 ?yk9_31 ?ykZ_31 ?_; (case yk1_31 => k_asm); (case yk2_31 => k_asm); (case yk3_31 => k_asm); (case yk4_31 => k_asm); (case yk5_31 => first | exact rfl | assumption); (case yk6_31 => k_asm); (case yk7_31 => assumption); (case yk8_31 => ktr_room); (case yk9_31 => ktr_units); (case ykZ_31 => assumption); k_whole); intro D' ks' h' tk' hks' F' N')
  trivial
namespace Mine
theorem int_num {prog : Program} {w : World} {A : Around} {E : Value → Shared → Prop} {s : Shared} {Q : Value → Shared → Prop} {t : Tok} {k : Int} (h : 0 ≤ k ∧ k < 6) (hq : Q (.int k s.toks) { s with toks := s.toks + 1 }) :
    wpAny (model prog w) A (call (.type "int") [.str (num k) t]) Q E s := KIN.call_num h.1 (Int.lt_of_lt_of_le h.2 (by decide)) hq
end Mine
theorem Mine.say_j_32 : True := by
  k_with "call type:int" => (k_here; (with_reducible show wpAny _ _ (call (Value.type "int") [Value.str (Mine.num _) _]) _ _ _); k_dflt (refine' Mine.int_num ?yk1_32 ?_; (case yk1_32 => assumption); k_whole))
  trivial
namespace Mine
open LCg
theorem strs_get {vs : List Value} {ss : List Str} (h : StrsAre vs ss) : ∀ {i : Nat} {u : Value}, vs[i]? = some u → ∃ y t, u = .str y t ∧ ss[i]? = some y := by
  induction h with
  | nil => intro i u e; simp at e
  | @cons y t vs ss _ ih =>
    intro i u e
    cases i with
    | zero => simp at e; exact ⟨y, t, e.symm, by simp⟩
    | succ i => simp at e; simpa using ih e
theorem hs_fst {B : Brd} {i : Nat} {y : Str} (h : ((hsF B).map (·.1))[i]? = some y) : ∃ p, B[i]? = some p ∧ y = ask p.1 p.2 := by
  rw [hsF, List.map_map, List.getElem?_map] at h
  obtain ⟨p, hp, rfl⟩ := Option.map_eq_some_iff.mp h
  exact ⟨p, hp, rfl⟩
theorem hs_snd {B : Brd} {i : Nat} {y : Str} (h : ((hsF B).map (·.2))[i]? = some y) : ∃ p, B[i]? = some p ∧ y = num p.2 := by
  rw [hsF, List.map_map, List.getElem?_map] at h
  obtain ⟨p, hp, rfl⟩ := Option.map_eq_some_iff.mp h
  exact ⟨p, hp, rfl⟩
theorem lo_find : ∀ k : Nat, k < 6 → Txt.find (Str.ofString "abcdef") (lo k) = (k : Int) ∧ (Builtin.Str.occurrences (Str.ofString "abcdef") (lo k) 0 (Str.ofString "abcdef").length 1).isEmpty = false :=
  six (by decide +kernel) (by decide +kernel) (by decide +kernel) (by decide +kernel) (by decide +kernel) (by decide +kernel)
theorem cell_apart {g h : Heap} {L' c a : Addr} {oc ob : Obj} {v : Option Value} {vs : Array Value} {n : Nat} {led : Led} (N : News g L' h led) (hc : (c, oc) ∈ led) (hd : oc.data = .cell v) (ha : (a, ob) ∈ led) (hb : ob.data = .seq vs n) : a ≠ c := by
  rintro rfl
  have h1 := (N _ hc).1
  rw [(N _ ha).1] at h1
  cases h1
  rw [hb] at hd
  cases hd
theorem news_front {h₀ h : Heap} {L : Addr} {a b c d e : Addr × Obj} {r : Led} (N : News h₀ L h (d :: e :: a :: b :: c :: r)) : News h₀ L h (a :: b :: c :: d :: e :: r) := news_sub N fun p hp => by
  simp only [List.mem_cons] at hp ⊢
  grind
theorem news_more2 {h₀ h : Heap} {L : Addr} {a b c d : Addr × Obj} {r : Led} (N : News h₀ L h (a :: b :: r)) (hc : c ∈ r) (hd : d ∈ r) : News h₀ L h (a :: b :: c :: d :: r) := news_sub N fun p hp => by
  simp only [List.mem_cons] at hp ⊢
  rcases hp with h | h | h | h | h
  · exact .inl h
  · exact .inr (.inl h)
  · exact .inr (.inr (h ▸ hc))
  · exact .inr (.inr (h ▸ hd))
  · exact .inr (.inr h)
theorem news_less2 {h₀ h : Heap} {L : Addr} {a b c d : Addr × Obj} {r : Led} (N : News h₀ L h (a :: b :: c :: d :: r)) : News h₀ L h (a :: b :: r) := news_sub N fun p hp => by
  simp only [List.mem_cons] at hp ⊢
  rcases hp with h | h | h
  · exact .inl h
  · exact .inr (.inl h)
  · exact .inr (.inr (.inr (.inr h)))
theorem nat_nodup {l : List Nat} (h : l.Nodup) : (l.map fun k : Nat => (k : Int)).Nodup := List.Pairwise.map _ (fun a b hab e => hab (Int.ofNat.inj e)) h
theorem tim_eq {B : Brd} {ns : List Int} (hno : (B.map (·.1)).Nodup) (hB : BOk B) (hup : ns.Pairwise (· ≤ ·)) (hpm : ns.Perm (B.map fun p => (p.1 : Int))) :
    ns = ((List.range 6).map fun k : Nat => (k : Int)).filter fun k => decide (k ∈ B.map fun p => (p.1 : Int)) := by
  have n1 : (B.map fun p => (p.1 : Int)).Nodup := by
    have := nat_nodup hno
    rwa [List.map_map] at this
  refine List.Perm.eq_of_pairwise (le := (· ≤ ·)) (fun a b _ _ => Int.le_antisymm) hup ?_ (hpm.trans ((List.perm_ext_iff_of_nodup n1 (List.Pairwise.filter _ (nat_nodup List.nodup_range))).mpr fun a => ?_))
  · exact List.Pairwise.filter _ (List.Pairwise.map _ (fun a b hab => Int.ofNat_le.mpr (Nat.le_of_lt hab)) List.pairwise_lt_range)
  · rw [List.mem_filter, decide_eq_true_iff]
    refine ⟨fun h => ⟨?_, h⟩, fun h => h.2⟩
    obtain ⟨p, hp, rfl⟩ := List.mem_map.mp h
    exact List.mem_map.mpr ⟨p.1, List.mem_range.mpr (hB p hp).1, rfl⟩
theorem tim_c {w : World} {mean : ExcName → Option Value} {mg mb : Str → Option Value} {dp un : Nat} {gd : Option (List Code)} {cn : Str} {cs : Scope} {a : Addr} {ccd : Value} {cl : List (Str × Addr)} {outer : List Env} {A₀ : Around} {base h₀ : Heap} {L : Addr} {m : Str → Option Value} {s : Shared} {Q E : Value → Shared → Prop} {x dx l dl : Addr} {dh : Int} {dk : Tok} {dn nn nd : Nat} {vs dvs : List Value} {ds : List Int} {B0 : Brd} {prs led : Led} (B : Below A₀ base outer h₀) (F : Fr h₀ L s.heap m) (X : (Mine.hd.heap_39 w.params).In h₀) (T : Top PP LL mean mg mb h₀) (hk : cs.kind = .function)
    (N : News h₀ L s.heap led) (hbd : ∀ p ∈ (x, instObj 196 dx) :: (dx, hdrDict dh dk l dn) :: (l, listOf vs.toArray nn) :: (dl, listOf dvs.toArray nd) :: prs, p ∈ led) (hp : Pairs prs vs (hsF B0)) (hB : BOk B0) (hBz : B0.length ≤ 6) (hds : IntsAre dvs ds) (hdz : ds.length = 6) (hno : (B0.map (·.1)).Nodup) (hin : ∀ p ∈ B0, (p.1 : Int) < ds.getD p.2.toNat 0)
    (hd : dp + 8 < recursionLimit) (hu : un + 240 < cLine)
    (ret : ∀ h' tk', Fr h₀ L h' m → News h₀ L h' led → Q (.bool true) { s with heap := h', toks := tk' }) :
    wpAny (MM w) (ktrTop dp un gd cn cs L a ccd cl outer) (call (.ref 219) [.ref x, .ref dl] []) Q E s := by
  replace N : News h₀ L s.heap ((x, instObj 196 dx) :: (dx, hdrDict dh dk l dn) :: (l, listOf vs.toArray nn) :: (dl, listOf dvs.toArray nd) :: (prs ++ led)) := news_sub N fun p hp => by
    simp only [List.mem_cons, List.mem_append] at hp
    rcases hp with h | h | h | h | h | h
    · exact hbd p (by simp [h])
    · exact hbd p (by simp [h])
    · exact hbd p (by simp [h])
    · exact hbd p (by simp [h])
    · exact hbd p (by simp [h])
    · exact h
  walk_at "ENTERC"
  intro g L' h₁ tk₁ cells FG F' N' Y B' X' T' hlt
  obtain ⟨oc1, oc2, rfl, hoc1, hoc2⟩ := CellsAre.two Y
  clear Y
  have hMk := kstMark
  replace hoc1 : oc1.data = .cell none := hoc1
  replace hoc2 : oc2.data = .cell (some (.ref dl)) := hoc2
  replace F' : Fr g L' h₁ (fun y => if y = "board" then some (.ref x) else none) := F'
  replace N' : News g L' h₁ ((L' + 1 + 1, oc1) :: (L' + 1, oc2) :: (x, instObj 196 dx) :: (dx, hdrDict dh dk l dn) :: (l, listOf vs.toArray nn) :: (dl, listOf dvs.toArray nd) :: (prs ++ led)) := N'
  have hx1 : ∀ p ∈ (x, instObj 196 dx) :: (dx, hdrDict dh dk l dn) :: (l, listOf vs.toArray nn) :: (dl, listOf dvs.toArray nd) :: (prs ++ led), p.1 ≠ L' + 1 := fun p hp => Nat.ne_of_lt (Nat.lt_succ_of_lt (hlt p hp))
  have hx2 : ∀ p ∈ (x, instObj 196 dx) :: (dx, hdrDict dh dk l dn) :: (l, listOf vs.toArray nn) :: (dl, listOf dvs.toArray nd) :: (prs ++ led), p.1 ≠ L' + 1 + 1 := fun p hp => Nat.ne_of_lt (Nat.lt_succ_of_lt (Nat.lt_succ_of_lt (hlt p hp)))
  have N'' : News g L' h₁ ((x, instObj 196 dx) :: (dx, hdrDict dh dk l dn) :: (l, listOf vs.toArray nn) :: (L' + 1 + 1, oc1) :: (L' + 1, oc2) :: (dl, listOf dvs.toArray nd) :: (prs ++ led)) := news_sub N' fun p hp => by
    simp only [List.mem_cons] at hp ⊢
    grind
  clear N'
  have hp' : Pairs ((L' + 1 + 1, oc1) :: (L' + 1, oc2) :: (dl, listOf dvs.toArray nd) :: (prs ++ led)) vs (hsF B0) := hp.mono fun p hp => .tail _ (.tail _ (.tail _ (List.mem_append_left _ hp)))
  have hvl := hp.length
  have hvz : vs.length ≤ 1000 := by
    have : (hsF B0).length = B0.length := by simp [hsF]
    omega
  refine noRaise ?_
  try dsimp only
  walk_at "STEPS"
  refine wpAny_Assign_Name ?_ (by rfl)
  with_unfolding_all refine comp_expr (cl := []) rfl rfl (by decide) (by intro _; rfl) ?_
  walk_at "STEPS"
  rename News _ _ _ _ => N₂
  rename Fr _ _ _ _ => F₂
  rename StrsAre _ _ => hks
  have hkl := hks.length
  have hk6 : ks'.length ≤ 6 := by simp [hsF] at hkl; omega
  refine comp_list (vs := ks') (nn := ks'.length) (fun i ys => IntsAre ys ((B0.take i).map fun p => (p.1 : Int))) rfl F₂ N₂ (.head _) (by rw [sizeLine_eq]; omega) (by decide) rfl (Asg.name rfl rfl) .nil ?_ ?_
  · clear F₂ N₂
    intro h i v ys I oI C oC D m₂ h' tk hi hv hJ hC hHas F₃ N₃ hoff hne
    obtain ⟨y, t, rfl, hy⟩ := strs_get hks hv
    obtain ⟨p, hp9, rfl⟩ := hs_fst hy
    have hp6 := (hB p (List.mem_of_getElem? hp9)).1
    have hak := ask_ok (k := p.1) (w := p.2) hp6
    have hak1 := hak.1
    refine CompTurn.plain ?_
    try dsimp only
    have hfi := lo_find p.1 hp6
    walk_at "STEPS"
    · rename (List.isEmpty _) = true => hem
      rw [hak.2.2.1, hfi.2] at hem
      cases hem
    · rename News _ _ _ _ => N₆
      rename Fr _ _ _ _ => F₆
      refine CEnd.intro F₆ N₆ ?_
      rw [hak.2.2.1, hfi.1, take_snoc hp9, List.map_append]
      exact ints_snoc hJ
  · intro h
    refine CompDone.expr ?_
    clear F₂ N₂
    intro D h' tk ys F₅ N₅ hoff hyl hJ
    have nD1 : @Ne Nat (L' + 1) D := hoff _ (.tail _ (.tail _ (.tail _ (.tail _ (.tail _ (.head _))))))
    have nD2 : @Ne Nat (L' + 1 + 1) D := hoff _ (.tail _ (.tail _ (.tail _ (.tail _ (.head _)))))
    have nE2 : @Ne Nat D' (L' + 1 + 1) := cell_apart N₅ (.tail _ (.tail _ (.tail _ (.tail _ (.tail _ (.head _)))))) hoc1 (.tail _ (.head _)) rfl
    have nx2 : @Ne Nat x (L' + 1 + 1) := hx2 _ (.head _)
    have ndx2 : @Ne Nat dx (L' + 1 + 1) := hx2 _ (.tail _ (.head _))
    have nl2 : @Ne Nat l (L' + 1 + 1) := hx2 _ (.tail _ (.tail _ (.head _)))
    have ndl2 : @Ne Nat dl (L' + 1 + 1) := hx2 _ (.tail _ (.tail _ (.tail _ (.head _))))
    have nled2 : ∀ p ∈ prs ++ led, p.1 ≠ L' + 1 + 1 := fun p hp => hx2 _ (.tail _ (.tail _ (.tail _ (.tail _ hp))))
    have hkB : ks'.length = B0.length := by simp [hsF] at hkl; exact hkl
    rw [hkB, List.take_length] at hJ
    walk_at "STEPS"
    with_unfolding_all refine comp_assign (cl := [(Str.ofString "dues", L' + 1)]) rfl rfl rfl (by decide) (by intro _; rfl) ?_
    walk_at "STEPS"
    dsimp only
    rename News _ _ _ _ => N₆
    rename Fr _ _ _ _ => F₆
    rename _ = Data.cell (some (Value.ref D)) => hoc3
    refine' vals_c ?k1 F₆ ?k3 ?k4 ?k5 (news_front N₆) (hp.mono fun p hp => .tail _ (.tail _ (.tail _ (.tail _ (.tail _ (List.mem_append_left _ hp)))))) ?k8 ?k9 hvz ?_
    case k1 => k_asm
    case k3 => k_asm
    case k4 => k_asm
    case k5 => exact rfl
    case k8 => ktr_room
    case k9 => ktr_units
    clear F₆ N₆
    intro V ks2 h5 tk5 hks2 F₆ N₆
    have hvl2 := hks2.length
    have hv2 : ks2.length = B0.length := by simp [hsF] at hvl2; exact hvl2
    have hyz := hJ.length
    rw [List.length_map] at hyz
    walk_at "STEPS"
    refine comp_zip (va := ys) (vb := ks2) (n := B0.length) (fun i zs => zs = []) rfl F₆ N₆ (.tail _ (.tail _ (.tail _ (.tail _ (.head _))))) (.head _) hyz hv2 (by rw [sizeLine_eq]; omega) (by decide) rfl rfl rfl (by decide) rfl ?_ ?_
    · clear F₆ N₆
      rintro i y z zs C oC D2 m₂ h tk nx2 hy hz rfl hNC e1 e2 hsub F₆ N₆ hof hne
      obtain ⟨hh, t1, rfl, hh1⟩ := intsAre_get hJ hy
      obtain ⟨zz, t2, rfl, hz1⟩ := strs_get hks2 hz
      obtain ⟨p, hp9, rfl⟩ := hs_snd hz1
      have hh2 : hh = (p.1 : Int) := by
        rw [List.getElem?_map, hp9] at hh1
        exact (Option.some.inj hh1).symm
      subst hh2
      have hp6 := (hB p (List.mem_of_getElem? hp9)).2
      have hin6 := hin p (List.mem_of_getElem? hp9)
      refine CompTurn.one ?_
      try dsimp only
      have N₇ := news_more2 N₆ (c := (L' + 1, oc2)) (d := (dl, listOf dvs.toArray nd)) (hsub _ (by repeat (first | exact .head _ | apply List.Mem.tail))) (hsub _ (by repeat (first | exact .head _ | apply List.Mem.tail)))
      clear N₆
      walk_at "STEPS"
      rename News _ _ _ _ => N₉
      rename Fr _ _ _ _ => F₉
      exact CEnd.intro F₉ (news_less2 N₉) trivial
    · intro h
      refine' compDone_put ?ka ?kb ?kc ?_
      case ka => exact rfl
      case kb => exact rfl
      case kc => exact rfl
      clear F₆ N₆
      rintro _ D2 h' tk zs F₇ N₇ hoff7 hzl rfl
      walk_at "STEPS"
      rename List.Pairwise _ _ => hup
      rename List.Perm _ (List.map (fun p : Nat × Int => (p.1 : Int)) B0) => hpm
      rename IntsAre _ _ => hI9
      with_unfolding_all refine comp_expr (cl := [(Str.ofString "hours", L' + 1 + 1)]) rfl rfl (by decide) (by intro _; rfl) ?_
      walk_at "STEPS"
      rename News _ _ _ _ => N₈
      rename Fr _ _ _ _ => F₈
      rename IsRange _ _ _ _ _ _ _ _ => hr
      refine comp_range (n := 6) (fun i ys => IntsAre ys (((List.range i).map fun k : Nat => (k : Int)).filter fun k => decide (k ∈ B0.map fun p => (p.1 : Int)))) rfl hr (by decide) (by decide) F₈ N₈ (by decide) (by decide) rfl rfl .nil ?_ ?_
      · clear F₈ N₈
        rintro i t ys9 I oI C oC D9 m₂ h tk hi hJ9 hNC e2 F₈ N₈ hoff9 hne
        refine CompTurn.one ?_
        try dsimp only
        walk_at "STEPS"
        all_goals
          rename News _ _ _ _ => N₉
          rename Fr _ _ _ _ => F₉
        · rename (_ ∈ List.map _ B0) => hin9
          refine CEnd.intro F₉ N₉ ?_
          rw [List.range_succ, List.map_append, List.filter_append, show List.map (fun k : Nat => (k : Int)) [i] = [0 + (i : Int) * 1] by simp, List.filter_cons, if_pos (decide_eq_true hin9)]
          exact ints_snoc hJ9
        · rename ¬ (_ ∈ List.map _ B0) => hin9
          refine CEnd.intro F₉ N₉ ?_
          rw [List.range_succ, List.map_append, List.filter_append, show List.map (fun k : Nat => (k : Int)) [i] = [0 + (i : Int) * 1] by simp, List.filter_cons, if_neg (by rw [decide_eq_true_iff]; exact hin9), List.filter_nil, List.append_nil]
          exact hJ9
      · intro h
        refine CompDone.expr ?_
        clear F₈ N₈
        rintro D9 h' tk ys9 F₈ N₈ hoff9 hyl9 hJ9
        walk_at "STEPS"
        rename News h₀ _ _ _ => N₉
        rename Fr h₀ _ _ _ => F₉
        rw [decide_eq_true (tim_eq hno hB hup hpm)]
        exact ret _ _ F₉ (news_sub N₉ fun p hp => by repeat (first | exact List.mem_append_right _ hp | apply List.Mem.tail))
end Mine

namespace Mine
theorem above_ok : ∀ {row : List Int} {k : Int}, Up row → (above k row = true ↔ ∀ h : Int, 0 < cle row h → (cle row h : Int) + k ≤ h)
  | [], k, _ => by simp [above, cle]
  | d :: r, k, hu => by
    obtain ⟨h1, h2⟩ := List.pairwise_cons.mp hu
    have ih := above_ok (row := r) (k := k + 1) h2
    have ec : ∀ h : Int, cle (d :: r) h = cle r h + if d ≤ h then 1 else 0 := fun h => by simp [cle, List.countP_cons]
    rw [above, Bool.and_eq_true, ih, decide_eq_true_iff]
    constructor
    · rintro ⟨hk, hr⟩ h hp
      rw [ec] at hp ⊢
      have := hr h
      by_cases hd : d ≤ h
      · rw [if_pos hd]
        omega
      · rw [if_neg hd] at hp
        have h0 : cle r h = 0 := List.countP_eq_zero.mpr fun y hy => by
          have := h1 y hy
          simp; omega
        omega
    · intro hr
      have hd := hr d (by rw [ec, if_pos (Int.le_refl _)]; omega)
      rw [ec, if_pos (Int.le_refl _)] at hd
      refine ⟨by omega, fun h hp => ?_⟩
      obtain ⟨y, hy, hyh⟩ := List.countP_pos_iff.mp hp
      have hyh' : y ≤ h := of_decide_eq_true hyh
      have h3 := hr h
      rw [ec, if_pos (Int.le_trans (h1 y hy) hyh')] at h3
      have := h3 (by omega)
      omega
theorem above_eq {row xs : List Int} (hu : Up row) (hp : row.Perm xs) (hz : xs.length ≤ 6) : above 0 row = okR xs := by
  rw [← okR_perm hp]
  have hl := hp.length_eq
  have hiff : above 0 row = true ↔ okR row = true := by
    rw [above_ok hu, okR_iff]
    constructor
    · intro H h hh
      have := H h
      omega
    · intro H h hp
      have h6 := cle_len row h
      by_cases hn : h < 0
      · have h0 := H 0 (by decide)
        have : cle row h ≤ cle row (0 : Nat) := List.countP_mono_left fun x _ hx => by
          have := of_decide_eq_true hx
          exact decide_eq_true (by omega)
        omega
      · by_cases h5 : h < 6
        · have h7 := H h.toNat (by omega)
          have e : ((h.toNat : Nat) : Int) = h := by omega
          rw [e] at h7
          omega
        · omega
  cases h1 : above 0 row with
  | true => exact (hiff.mp h1).symm
  | false =>
    cases h2 : okR row with
    | false => rfl
    | true => rw [hiff.mpr h2] at h1; cases h1
theorem out_in {S l : List Int} {z : Int} (h : z ∈ S) : out S (l ++ [z]) = out S l := by
  unfold out
  rw [List.filter_append, List.filter_cons, if_neg (by simp [h]), List.filter_nil, List.append_nil]
theorem out_no {S l : List Int} {z : Int} (h : ¬ z ∈ S) : out S (l ++ [z]) = out S l ++ [z] := by
  unfold out
  rw [List.filter_append, List.filter_cons, if_pos (by simp [h]), List.filter_nil]
/-- the works' dues -/
abbrev dueF (ds : List Int) (z : Int) : Int := ds.getD z.toNat 0
theorem can2_c {w : World} {mean : ExcName → Option Value} {mg mb : Str → Option Value} {dp un : Nat} {gd : Option (List Code)} {cn : Str} {cs : Scope} {a : Addr} {ccd : Value} {cl : List (Str × Addr)} {outer : List Env} {A₀ : Around} {base h₀ : Heap} {L : Addr} {m : Str → Option Value} {s : Shared} {Q E : Value → Shared → Prop} {wl dl : Addr} {wn dn : Nat} {wvs dvs : List Value} {ws ds : List Int} {led : Led} (B : Below A₀ base outer h₀) (F : Fr h₀ L s.heap m) (X : (Mine.hd.heap_39 w.params).In h₀) (T : Top PP LL mean mg mb h₀) (hk : cs.kind = .function)
    (N : News h₀ L s.heap led) (hwl : (wl, listOf wvs.toArray wn) ∈ led) (hdl : (dl, listOf dvs.toArray dn) ∈ led) (hw : IntsAre wvs ws) (hds : IntsAre dvs ds) (hws : ∀ z ∈ ws, 0 ≤ z ∧ z < 6) (hwz : ws.length ≤ 6) (hdz : ds.length = 6)
    (hd : dp + 2 < recursionLimit) (hu : un + 120 < cLine)
    (ret : ∀ h' tk', Fr h₀ L h' m → News h₀ L h' led → Q (.bool (okR (ws.map (dueF ds)))) { s with heap := h', toks := tk' }) :
    wpAny (MM w) (ktrTop dp un gd cn cs L a ccd cl outer) (call (.ref 234) [.ref wl, .ref dl] []) Q E s :=
  can_c B F X T hk N hwl hdl hw hds (fun z hz => ⟨(hws z hz).1, by rw [hdz]; exact (hws z hz).2⟩) hwz (by omega) hd hu fun row h' tk' hp hu' F' N' => by
    rw [above_eq hu' hp (by rw [List.length_map]; exact hwz)]
    exact ret h' tk' F' N'
end Mine
theorem Mine.say_j_33 : True := by
  k_with "call ref" => (k_here; (with_reducible show wpAny _ _ (call (Value.ref 234) _ _) _ _ _); k_dflt (refine' Mine.can2_c ?yk1_33 ?yk2_33 ?yk3_33 ?yk4_33 ?yk5_33 ?yk6_33 ?yk7_33 ?yk8_33 ?yk9_33 ?ykA_33 ?ykB_33 ?ykC_33 ?ykD_33 ?ykE_33 ?ykF_33 ?_; (case yk1_33 => k_asm); (case yk2_33 => k_asm); (case yk3_33 => k_asm); (case yk4_33 => k_asm); (case yk5_33 => first | exact rfl | assumption); (case yk6_33 => k_asm); (case yk7_33 => k_memK); (case yk8_33 => k_memK); (case yk9_33 => assumption); (case ykA_33 => assumption); (case ykB_33 => assumption); (case ykC_33 => assumption); (case ykD_33 => assumption); (case ykE_33 => ktr_room); (case ykF_33 => ktr_units); k_whole); intro h' tk' F' N')
  trivial
namespace Mine
open LCg
theorem cho_c {w : World} {mean : ExcName → Option Value} {mg mb : Str → Option Value} {dp un : Nat} {gd : Option (List Code)} {cn : Str} {cs : Scope} {a : Addr} {ccd : Value} {cl : List (Str × Addr)} {outer : List Env} {A₀ : Around} {base h₀ : Heap} {L : Addr} {m : Str → Option Value} {s : Shared} {Q E : Value → Shared → Prop} {ol dl el gl : Addr} {no nd ne ng : Nat} {ovs dvs evs gvs : List Value} {os ds es gs : List Int} {led : Led} (B : Below A₀ base outer h₀) (F : Fr h₀ L s.heap m) (X : (Mine.hd.heap_39 w.params).In h₀) (T : Top PP LL mean mg mb h₀) (hk : cs.kind = .function)
    (N : News h₀ L s.heap led) (hol : (ol, listOf ovs.toArray no) ∈ led) (hdl : (dl, listOf dvs.toArray nd) ∈ led) (hel : (el, listOf evs.toArray ne) ∈ led) (hgl : (gl, listOf gvs.toArray ng) ∈ led)
    (ho : IntsAre ovs os) (hds : IntsAre dvs ds) (hes : IntsAre evs es) (hg : IntsAre gvs gs) (hnd : os.Nodup) (hoz : os.length = 6) (hdz : ds.length = 6) (hez : es.length = 6) (hob : ∀ z ∈ os, 0 ≤ z ∧ z < 6) (hgs : gs.Sublist os)
    (hq : ∀ S : List Int, S.Sublist os → S.length = gs.length → okR (S.map (dueF ds)) = okR ((out S os).map (dueF es)))
    (hgale : ∀ S : List Int, S.Sublist os → okR (S.map (dueF ds)) = true → ∀ (k p q : Nat) (x y : Int), S[k]? = some x → os[p]? = some x → gs[k]? = some y → os[q]? = some y → q ≤ p)
    (hd : dp + 8 < recursionLimit) (hu : un + 400 < cLine)
    (ret : ∀ h' tk', Fr h₀ L h' m → News h₀ L h' led → Q (.bool true) { s with heap := h', toks := tk' }) :
    wpAny (MM w) (ktrTop dp un gd cn cs L a ccd cl outer) (call (.ref 239) [.ref ol, .ref dl, .ref el, .ref gl] []) Q E s := by
  replace N : News h₀ L s.heap ((ol, listOf ovs.toArray no) :: (dl, listOf dvs.toArray nd) :: (el, listOf evs.toArray ne) :: (gl, listOf gvs.toArray ng) :: led) := news_at (news_at (news_at (news_at N hgl) (.tail _ hel)) (.tail _ (.tail _ hdl))) (.tail _ (.tail _ (.tail _ hol)))
  walk_at "ENTERC"
  intro g L' h₁ tk₁ cells FG F' N' Y B' X' T' hlt
  obtain ⟨oc1, oc2, oc3, rfl, hoc1, hoc2, hoc3⟩ := CellsAre.three Y
  clear Y
  have hMk := kstMark
  replace hoc1 : oc1.data = .cell none := hoc1
  replace hoc2 : oc2.data = .cell none := hoc2
  replace hoc3 : oc3.data = .cell (some (.ref ol)) := hoc3
  replace F' : Fr g L' h₁ (fun y => if y = "done" then some (.ref gl) else if y = "others" then some (.ref el) else if y = "dues" then some (.ref dl) else none) := F'
  replace N' : News g L' h₁ ((L' + 1 + 1 + 1, oc1) :: (L' + 1 + 1, oc2) :: (L' + 1, oc3) :: (ol, listOf ovs.toArray no) :: (dl, listOf dvs.toArray nd) :: (el, listOf evs.toArray ne) :: (gl, listOf gvs.toArray ng) :: led) := N'
  obtain ⟨tail, htail⟩ : ∃ t, t = (ol, listOf ovs.toArray no) :: (dl, listOf dvs.toArray nd) :: (el, listOf evs.toArray ne) :: (gl, listOf gvs.toArray ng) :: led := ⟨_, rfl⟩
  have hx1 : ∀ p ∈ tail, p.1 ≠ L' + 1 := fun p hp => Nat.ne_of_lt (Nat.lt_succ_of_lt (hlt p (htail ▸ hp)))
  have hx2 : ∀ p ∈ tail, p.1 ≠ L' + 1 + 1 := fun p hp => Nat.ne_of_lt (Nat.lt_succ_of_lt (Nat.lt_succ_of_lt (hlt p (htail ▸ hp))))
  have hx3 : ∀ p ∈ tail, p.1 ≠ L' + 1 + 1 + 1 := fun p hp => Nat.ne_of_lt (Nat.lt_succ_of_lt (Nat.lt_succ_of_lt (Nat.lt_succ_of_lt (hlt p (htail ▸ hp)))))
  refine noRaise ?_
  try dsimp only
  walk_at "STEPS"
  walk_at "FOR"
  walk_at "STEPS"
  rename News _ _ _ _ => N₂
  rename Fr _ _ _ _ => F₂
  rename IsRange _ _ _ _ _ _ _ _ => hr
  refine for_range (L := L') (n := 64) (fun i m nx => ∃ o1 o2 v1 v2, nx = (L' + 1 + 1 + 1, o1) :: (L' + 1 + 1, o2) :: (L' + 1, oc3) :: tail ∧ o1.data = .cell v1 ∧ o2.data = .cell v2 ∧ m "dues" = some (.ref dl) ∧ m "others" = some (.ref el) ∧ m "done" = some (.ref gl)) rfl rfl hr (by decide) (by decide) F₂ N₂ ⟨oc1, oc2, none, none, by rw [htail], hoc1, hoc2, rfl, rfl, rfl⟩ ?_ ?_
  · clear F₂ N₂
    rintro c t m₂ nx h tk I o hc ⟨o1, o2, v1, v2, rfl, hoc1, hoc2, f1, f2, f3⟩ hI F₃ N₃
    have F₄ := fr_knows [("dues", .ref dl), ("others", .ref el), ("done", .ref gl)] F₃ (by simp [f1, f2, f3])
    clear F₃
    have n3 : @Ne Nat (L' + 1 + 1 + 1) I := hI _ (.head _)
    have n2 : @Ne Nat (L' + 1 + 1) I := hI _ (.tail _ (.head _))
    have n1 : @Ne Nat (L' + 1) I := hI _ (.tail _ (.tail _ (.head _)))
    rw [htail] at N₃
    have p1 : @Ne Nat ol (L' + 1 + 1) ∧ @Ne Nat dl (L' + 1 + 1) ∧ @Ne Nat el (L' + 1 + 1) ∧ @Ne Nat gl (L' + 1 + 1) ∧ ∀ p ∈ led, p.1 ≠ L' + 1 + 1 := by
      rw [htail] at hx2
      exact ⟨hx2 _ (.head _), hx2 _ (.tail _ (.head _)), hx2 _ (.tail _ (.tail _ (.head _))), hx2 _ (.tail _ (.tail _ (.tail _ (.head _)))), fun p hp => hx2 p (.tail _ (.tail _ (.tail _ (.tail _ hp))))⟩
    have p2 : @Ne Nat ol (L' + 1 + 1 + 1) ∧ @Ne Nat dl (L' + 1 + 1 + 1) ∧ @Ne Nat el (L' + 1 + 1 + 1) ∧ @Ne Nat gl (L' + 1 + 1 + 1) ∧ ∀ p ∈ led, p.1 ≠ L' + 1 + 1 + 1 := by
      rw [htail] at hx3
      exact ⟨hx3 _ (.head _), hx3 _ (.tail _ (.head _)), hx3 _ (.tail _ (.tail _ (.head _))), hx3 _ (.tail _ (.tail _ (.tail _ (.head _)))), fun p hp => hx3 p (.tail _ (.tail _ (.tail _ (.tail _ hp))))⟩
    obtain ⟨a1, a2, a3, a4, a5⟩ := p1
    obtain ⟨b1, b2, b3, b4, b5⟩ := p2
    walk_at "STEPS"
    rename Obj => oc9
    rename _ = Data.cell (some (Value.int _ _)) => hoc9
    have htI : ∀ p ∈ tail, p.1 ≠ I := fun p hp => hI p (.tail _ (.tail _ (.tail _ hp)))
    refine wpAny_Assign_Name ?_ (by rfl)
    with_unfolding_all refine comp_expr (cl := [(Str.ofString "code", L' + 1 + 1)]) rfl rfl (by decide) (by intro _; rfl) ?_
    have hov := ho.length
    have hgv := hg.length
    have hgz := hgs.length_le
    walk_at "STEPS"
    rename News _ _ _ _ => N₄
    rename Fr _ _ _ _ => F₄'
    refine comp_enum_lst (fun i ys => ∃ zs, IntsAre ys zs ∧ zs.Sublist (os.take i)) rfl F₄' N₄ (by repeat (first | exact .head _ | apply List.Mem.tail)) (by rw [sizeLine_eq]; omega) (by decide) rfl rfl rfl (by decide) ⟨[], .nil, List.nil_sublist _⟩ ?_ ?_
    · rintro e it i t y ys oe oi C oC D m₃ h tk hi ⟨zs, hzs, hzl⟩ hNC e1 e2 F₅ N₅ hoff hoff2
      obtain ⟨z, td, rfl, hdd⟩ := intsAre_get ho hi
      have hi6 := (List.getElem?_eq_some_iff.mp hdd).1
      refine CompTurn.one ?_
      try dsimp only
      walk_at "STEPS"
      all_goals
        rename News _ _ _ _ => N₆
        rename Fr _ _ _ _ => F₆
      · refine CEnd.intro F₆ N₆ ⟨_, ints_snoc hzs, ?_⟩
        rw [take_snoc hdd]
        exact hzl.append (.refl _)
      · refine CEnd.intro F₆ N₆ ⟨_, hzs, ?_⟩
        rw [take_snoc hdd]
        exact hzl.trans (List.sublist_append_left _ _)
    · intro h
      refine CompDone.expr ?_
      clear F₄' N₄
      rintro D h' tk ys F₅ N₅ hoff hyl ⟨S, hS, hSs⟩
      rw [hov, List.take_length] at hSs
      have nD3 : @Ne Nat (L' + 1 + 1 + 1) D := hoff _ (.tail _ (.head _))
      have nD2 : @Ne Nat (L' + 1 + 1) D := hoff _ (.tail _ (.tail _ (.head _)))
      have nD1 : @Ne Nat (L' + 1) D := hoff _ (.tail _ (.tail _ (.tail _ (.head _))))
      have hyS := hS.length
      have hSl := hSs.length_le
      have hSz : S.length ≤ 6 := by omega
      have hSb : ∀ z ∈ S, 0 ≤ z ∧ z < 6 := fun z hz => hob z (hSs.subset hz)
      have hyz : ys.length ≤ 1000 := by omega
      have hgz2 : gvs.length ≤ 1000 := by omega
      have hoz2 : ovs.length ≤ 1000 := by omega
      walk_at "STEPS"
      all_goals
        rename Obj => ow9
        rename _ = Data.cell (some (Value.ref D)) => how9
        rename News _ _ _ _ => N₆
        rename Fr _ _ _ _ => F₆
      · have hlen : S.length = gs.length := by omega
        have hqS := hq S hSs hlen
        have hT : (out S os).length ≤ 6 := by rw [← hoz]; exact List.length_filter_le _ _
        have hTb : ∀ z ∈ out S os, 0 ≤ z ∧ z < 6 := fun z hz => hob z (List.mem_filter.mp hz).1
        with_unfolding_all refine comp_expr (cl := [(Str.ofString "works", L' + 1 + 1 + 1)]) rfl rfl (by decide) (by intro _; rfl) ?_
        walk_at "STEPS"
        refine comp_list (vs := ovs) (nn := no) (fun i zs => IntsAre zs (out S (os.take i))) rfl F₆ N₆ (by repeat (first | exact .head _ | apply List.Mem.tail)) (by rw [sizeLine_eq]; omega) (by decide) rfl (Asg.name rfl rfl) .nil ?_ ?_
        · clear F₆ N₆
          intro h i v zs I2 oI2 C oC D2 m₂ h' tk hi hv hJ hC hHas F₃ N₃ hoff3 hne
          obtain ⟨z, t, rfl, hz⟩ := intsAre_get ho hv
          refine CompTurn.one ?_
          try dsimp only
          walk_at "STEPS"
          all_goals
            rename News _ _ _ _ => N₇
            rename Fr _ _ _ _ => F₇
          · rename z ∈ S => hzS
            refine CEnd.intro F₇ N₇ ?_
            rw [take_snoc hz, out_in hzS]
            exact hJ
          · rename ¬ z ∈ S => hzS
            refine CEnd.intro F₇ N₇ ?_
            rw [take_snoc hz, out_no hzS]
            exact ints_snoc hJ
        · intro h
          refine CompDone.expr ?_
          clear F₆ N₆
          intro D2 h' tk zs F₆ N₆ hoff2 hzl hJ2
          rw [hov, List.take_length] at hJ2
          walk_at "STEPS"
          · rename (_ != _) = true => hne9
            rw [hqS] at hne9
            simp at hne9
          · rename (okR _ = true) => hcan
            with_unfolding_all refine comp_expr (cl := [(Str.ofString "order", L' + 1)]) rfl rfl (by decide) (by intro _; rfl) ?_
            walk_at "STEPS"
            rename News _ _ _ _ => N₇
            rename Fr _ _ _ _ => F₇
            refine comp_zip (va := ys) (vb := gvs) (n := gs.length) (fun i zs => zs = []) rfl F₇ N₇ (by repeat (first | exact .head _ | apply List.Mem.tail)) (by repeat (first | exact .head _ | apply List.Mem.tail)) (by omega) hgv (by rw [sizeLine_eq]; omega) (by decide) rfl rfl rfl (by decide) rfl ?_ ?_
            · clear F₇ N₇
              rintro i y z zs C oC D3 m₂ h tk nx2 hy hz rfl hNC e1 e2 hsub F₆ N₆ hof hne
              obtain ⟨x, t1, rfl, hx⟩ := intsAre_get hS hy
              obtain ⟨u, t2, rfl, hu⟩ := intsAre_get hg hz
              obtain ⟨j, hj⟩ := List.getElem?_of_mem (hSs.subset (List.mem_of_getElem? hx))
              obtain ⟨q, hq⟩ := List.getElem?_of_mem (hgs.subset (List.mem_of_getElem? hu))
              have hle := hgale S hSs hcan i j q x u hx hj hu hq
              refine CompTurn.one ?_
              try dsimp only
              have N₇ := news_more2 N₆ (c := (L' + 1, oc3)) (d := (ol, listOf ovs.toArray no)) (hsub _ (by repeat (first | exact .head _ | apply List.Mem.tail))) (hsub _ (by repeat (first | exact .head _ | apply List.Mem.tail)))
              clear N₆
              walk_at "STEPS"
              rename News _ _ _ _ => N₉
              rename Fr _ _ _ _ => F₉
              exact CEnd.intro F₉ (news_less2 N₉) rfl
            · intro h
              refine CompDone.expr ?_
              clear F₇ N₇
              rintro D3 h' tk zs F₆ N₆ hoff3 hzl rfl
              walk_at "STEPS"
              rename News _ _ _ _ => N₇
              rename Fr _ _ _ _ => F₇
              refine TurnTo.next ((L' + 1 + 1 + 1, ow9) :: (L' + 1 + 1, oc9) :: (L' + 1, oc3) :: tail) F₇ (by rw [htail]; exact news_sub N₇ fun p hp => by repeat (first | exact hp | apply List.Mem.tail)) (off_cons2 n3 (off_cons2 n2 (off_cons2 n1 htI))) ⟨_, _, _, _, rfl, how9, hoc9, rfl, rfl, rfl⟩
          · rename News _ _ _ _ => N₇
            rename Fr _ _ _ _ => F₇
            refine TurnTo.next ((L' + 1 + 1 + 1, ow9) :: (L' + 1 + 1, oc9) :: (L' + 1, oc3) :: tail) F₇ (by rw [htail]; exact news_sub N₇ fun p hp => by repeat (first | exact hp | apply List.Mem.tail)) (off_cons2 n3 (off_cons2 n2 (off_cons2 n1 htI))) ⟨_, _, _, _, rfl, how9, hoc9, rfl, rfl, rfl⟩
      · refine TurnTo.next ((L' + 1 + 1 + 1, ow9) :: (L' + 1 + 1, oc9) :: (L' + 1, oc3) :: tail) F₆ (by rw [htail]; exact news_sub N₆ fun p hp => by repeat (first | exact hp | apply List.Mem.tail)) (off_cons2 n3 (off_cons2 n2 (off_cons2 n1 htI))) ⟨_, _, _, _, rfl, how9, hoc9, rfl, rfl, rfl⟩
  · clear F₂ N₂
    rintro m₂ nx h tk ⟨o1, o2, v1, v2, rfl, hoc1, hoc2, f1, f2, f3⟩ F₃ N₃
    rw [htail] at N₃
    walk_at "STEPS"
    rename News h₀ _ _ _ => N₇
    rename Fr h₀ _ _ _ => F₇
    exact ret _ _ F₇ (news_sub N₇ fun p hp => by repeat (first | exact hp | apply List.Mem.tail))
end Mine

namespace Mine
theorem sumAt_eq {ds : List Int} {h : Nat} : sumAt ds h = (h : Int) + cgt ds h := by
  unfold sumAt
  have := cle_cgt ds h
  omega
theorem sums_mem {ds : List Int} {v : Int} : v ∈ sumsF ds ↔ ∃ h : Nat, h < 6 ∧ v = (h : Int) + cgt ds h := by
  unfold sumsF
  rw [List.mem_map]
  constructor
  · rintro ⟨h, hh, rfl⟩
    exact ⟨h, List.mem_range.mp hh, sumAt_eq⟩
  · rintro ⟨h, hh, rfl⟩
    exact ⟨h, List.mem_range.mpr hh, sumAt_eq⟩
theorem rooms_at {ds : List Int} {most : Int} {h : Nat} (hh : h < 6) : (roomsF ds most)[h + 1]? = some ((h : Int) + cgt ds h - most) := by
  unfold roomsF sumsF
  rw [List.getElem?_cons_succ, List.getElem?_map, List.getElem?_map, List.getElem?_range hh]
  simp [sumAt_eq]
theorem rooms_len {ds : List Int} {most : Int} : (roomsF ds most).length = 7 := by simp [roomsF, sumsF]
theorem least_e {ds : List Int} {most d e : Int} (hd : 0 ≤ d ∧ d ≤ 5) (h : Least ((roomsF ds most).take (d + 1 : Int).toNat) e) :
    e ≤ 6 - most ∧ (∀ h : Nat, (h : Int) < d → e ≤ (h : Int) + cgt ds h - most) ∧ (e = 6 - most ∨ ∃ h : Nat, (h : Int) < d ∧ e = (h : Int) + cgt ds h - most) := by
  obtain ⟨hm, hl⟩ := h
  obtain ⟨n, hn⟩ : ∃ n : Nat, d = n := ⟨d.toNat, by omega⟩
  have en : (d + 1 : Int).toNat = n + 1 := by omega
  rw [en] at hm hl
  have r0 : (roomsF ds most)[0]? = some (6 - most) := rfl
  refine ⟨hl _ (List.mem_of_getElem? (i := 0) (by rw [List.getElem?_take, if_pos (by omega)]; exact r0)), fun h hh => hl _ (List.mem_of_getElem? (i := h + 1) (by rw [List.getElem?_take, if_pos (by omega)]; exact rooms_at (by omega))), ?_⟩
  obtain ⟨j, hj⟩ := List.getElem?_of_mem hm
  rw [List.getElem?_take] at hj
  split at hj
  · cases j with
    | zero => rw [r0] at hj; exact .inl (Option.some.inj hj).symm
    | succ j =>
      rw [rooms_at (by omega)] at hj
      exact .inr ⟨j, by omega, (Option.some.inj hj).symm⟩
  · cases hj
theorem most_nat {ds : List Int} {most : Int} (hz : ds.length = 6) (hm : Least (sumsF ds) most) : 0 ≤ most ∧ most ≤ 6 ∧ ∀ h : Nat, h < 6 → most ≤ (h : Int) + cgt ds h := by
  obtain ⟨h1, h2⟩ := hm
  obtain ⟨h, hh, rfl⟩ := sums_mem.mp h1
  have h3 := h2 _ (sums_mem.mpr ⟨0, by decide, rfl⟩)
  have h4 := cgt_len ds (0 : Nat)
  exact ⟨by omega, by omega, fun k hk => h2 _ (sums_mem.mpr ⟨k, hk, rfl⟩)⟩
theorem oth_bnd {ds es : List Int} {most : Int} (hdz : ds.length = 6) (hdb : ∀ z ∈ ds, 0 ≤ z ∧ z ≤ 5) (hez : es.length = 6) (hm : Least (sumsF ds) most)
    (hl : ∀ (i : Nat) (d e : Int), ds[i]? = some d → es[i]? = some e → Least ((roomsF ds most).take (d + 1 : Int).toNat) e) : ∀ z ∈ es, 0 ≤ z ∧ z ≤ 6 := by
  intro z hz
  obtain ⟨i, hi⟩ := List.getElem?_of_mem hz
  have hi6 := (List.getElem?_eq_some_iff.mp hi).1
  have hd := List.getElem?_eq_getElem (l := ds) (i := i) (by omega)
  have hb := hdb _ (List.mem_of_getElem? hd)
  obtain ⟨h1, h2, h3⟩ := least_e hb (hl i _ z hd hi)
  obtain ⟨m0, m6, hlow⟩ := most_nat hdz hm
  refine ⟨?_, by omega⟩
  rcases h3 with h3 | ⟨h, hh, h3⟩
  · omega
  · have := hlow h (by omega)
    omega
theorem six_map {ds : List Int} (h : ds.length = 6) : ([0, 1, 2, 3, 4, 5] : List Int).map (dueF ds) = ds := by
  match ds, h with
  | [a, b, c, d, e, f], _ => rfl
theorem due_at {ds : List Int} (h : ds.length = 6) {w : Int} (hw : 0 ≤ w ∧ w < 6) : ds[w.toNat]? = some (dueF ds w) := by
  have : w.toNat < ds.length := by omega
  rw [List.getElem?_eq_getElem this]
  show _ = some (ds.getD w.toNat 0)
  rw [List.getD_eq_getElem?_getD, List.getElem?_eq_getElem this]; rfl
theorem order_bnd {os : List Int} (hp : os.Perm [0, 1, 2, 3, 4, 5]) : os.Nodup ∧ os.length = 6 ∧ ∀ w ∈ os, 0 ≤ w ∧ w < 6 := by
  refine ⟨hp.nodup_iff.mpr (by decide), hp.length_eq, fun w hw => ?_⟩
  have h := hp.mem_iff.mp hw
  simp only [List.mem_cons, List.not_mem_nil, or_false] at h
  rcases h with rfl | rfl | rfl | rfl | rfl | rfl <;> decide
theorem dual_of {os ds es : List Int} {most : Int} (hp : os.Perm [0, 1, 2, 3, 4, 5]) (hdz : ds.length = 6) (hdb : ∀ z ∈ ds, 0 ≤ z ∧ z ≤ 5) (hez : es.length = 6) (hm : Least (sumsF ds) most)
    (hl : ∀ (i : Nat) (d e : Int), ds[i]? = some d → es[i]? = some e → Least ((roomsF ds most).take (d + 1 : Int).toNat) e) : ∃ r : Nat, most = r ∧ Dual os (dueF ds) (dueF es) r := by
  obtain ⟨nd, len, hb⟩ := order_bnd hp
  obtain ⟨m0, m6, hlow⟩ := most_nat hdz hm
  obtain ⟨r, rfl⟩ : ∃ r : Nat, most = r := ⟨most.toNat, by omega⟩
  have hpm : (os.map (dueF ds)).Perm ds := by
    have := hp.map (dueF ds)
    rwa [six_map hdz] at this
  have hc : ∀ h : Int, cgt (os.map (dueF ds)) h = cgt ds h := fun h => cgt_perm hpm h
  have hd : ∀ w ∈ os, 0 ≤ dueF ds w ∧ dueF ds w ≤ 5 := fun w hw => hdb _ (List.mem_of_getElem? (due_at hdz (hb w hw)))
  have key := fun w (hw : w ∈ os) => least_e (hd w hw) (hl w.toNat _ _ (due_at hdz (hb w hw)) (due_at hez (hb w hw)))
  refine ⟨r, rfl, nd, len, hd, fun h hh => ?_, ?_, fun w hw => (key w hw).1, fun w hw h hh => ?_, fun w hw => ?_⟩
  · have := hlow h hh
    rw [hc]; omega
  · obtain ⟨h, hh, e⟩ := sums_mem.mp hm.1
    exact ⟨h, hh, by rw [hc]; omega⟩
  · rw [hc]; exact (key w hw).2.1 h hh
  · rcases (key w hw).2.2 with h | ⟨h, hh, e⟩
    · exact .inl h
    · exact .inr ⟨h, hh, by rw [hc]; exact e⟩
end Mine

namespace Mine
theorem zip_self (f : Int → Int) : ∀ l : List Int, l.zip (l.map f) = l.map fun w => (w, f w)
  | [] => rfl
  | w :: l => by rw [List.map_cons, List.zip_cons_cons, zip_self f l]; rfl
theorem place_cases {w : Int} {B : Brd} (hw : ∀ p ∈ B, p.2 ≠ w) : ∀ n : Nat, (∃ k, k < n ∧ k ∉ B.map (·.1) ∧ (∀ j, k < j → j < n → j ∈ B.map (·.1)) ∧ placeF B w n = B ++ [(k, w)]) ∨ ((∀ j, j < n → j ∈ B.map (·.1)) ∧ placeF B w n = B)
  | 0 => .inr ⟨fun j hj => absurd hj (Nat.not_lt_zero j), rfl⟩
  | n + 1 => by
    cases hf : B.find? fun p => p.1 == n with
    | none =>
      refine .inl ⟨n, Nat.lt_succ_self n, fun hm => ?_, fun j h1 h2 => by omega, place_new hf⟩
      obtain ⟨p, hp, e⟩ := List.mem_map.mp hm
      have := List.find?_eq_none.mp hf p hp
      simp [e] at this
    | some p =>
      have hp := List.mem_of_find?_eq_some hf
      have e1 : p.1 = n := by simpa using List.find?_some hf
      have hn : n ∈ B.map (·.1) := List.mem_map.mpr ⟨p, hp, e1⟩
      rw [place_on hf (hw p hp)]
      rcases place_cases hw n with ⟨k, h1, h2, h3, h4⟩ | ⟨h1, h2⟩
      · refine .inl ⟨k, by omega, h2, fun j hj hjn => ?_, h4⟩
        by_cases e : j = n
        · rw [e]; exact hn
        · exact h3 j hj (by omega)
      · refine .inr ⟨fun j hjn => ?_, h2⟩
        by_cases e : j = n
        · rw [e]; exact hn
        · exact h1 j (by omega)
theorem board_ok {d : Int → Int} {B : Brd} (hn : (B.map (·.1)).Nodup) (hi : ∀ p ∈ B, (p.1 : Int) < d p.2) : okR ((B.map (·.2)).map d) = true := by
  refine okR_iff.mpr fun h _ => ?_
  unfold cle
  rw [List.map_map, List.countP_map]
  refine Nat.le_trans (List.countP_mono_left (q := fun p => decide (p.1 < h)) fun p hp hx => ?_) ?_
  · have h1 : d p.2 ≤ h := of_decide_eq_true hx
    have h2 := hi p hp
    exact decide_eq_true (by omega)
  · rw [List.countP_eq_length_filter]
    have h1 : ((B.filter fun p => decide (p.1 < h)).map (·.1)).Nodup := (List.filter_sublist.map _).nodup hn
    have h2 := h1.length_le_of_subset (l₂ := List.range h) fun k hk => by
      obtain ⟨p, hp, rfl⟩ := List.mem_map.mp hk
      exact List.mem_range.mpr (of_decide_eq_true (List.mem_filter.mp hp).2)
    rwa [List.length_map, List.length_range] at h2
structure Board (d : Int → Int) (T : List Int) (B : Brd) : Prop where
  works : B.map (·.2) = T
  nd : (B.map (·.1)).Nodup
  inn : ∀ p ∈ B, p.1 < 6 ∧ (p.1 : Int) < d p.2
  free : ∀ k : Nat, k < 6 → k ∉ B.map (·.1) → ∀ p ∈ B, p.1 < k → d p.2 ≤ k
theorem board_inv (d : Int → Int) : ∀ A : List Int, A.Nodup → A.length ≤ 6 → (∀ w ∈ A, 0 ≤ d w ∧ d w ≤ 6) → Board d (gr d A) (brdF (A.map fun w => (w, d w))) := by
  refine snoc_ind (fun _ _ _ => ⟨rfl, List.Pairwise.nil, (fun p hp => nomatch hp), fun k _ _ p hp => nomatch hp⟩) fun A i ih hn hl hd => ?_
  rw [List.nodup_append] at hn
  rw [List.length_append, List.length_singleton] at hl
  obtain ⟨b1, b2, b3, b4⟩ := ih hn.1 (by omega) fun w hw => hd w (List.mem_append_left _ hw)
  rw [List.map_append, List.map_cons, List.map_nil, brdF_snoc]
  have hdi := hd i (List.mem_append_right _ (.head _))
  generalize brdF (A.map fun w => (w, d w)) = B at b1 b2 b3 b4
  have hBl : B.length = (gr d A).length := by rw [← b1, List.length_map]
  have hgl := (gr_sub d A).length_le
  have hw : ∀ p ∈ B, p.2 ≠ i := fun p hp e => by
    have h1 : p.2 ∈ gr d A := by rw [← b1]; exact List.mem_map_of_mem hp
    exact hn.2.2 _ ((gr_sub d A).subset h1) i (.head _) e
  rw [gr_snoc]
  unfold grS
  rcases place_cases hw (d i).toNat with ⟨k, h1, h2, h3, h4⟩ | ⟨h1, h2⟩
  · show Board d _ (placeF B i (d i).toNat)
    rw [h4]
    have c1 : (B ++ [(k, i)]).map (·.2) = gr d A ++ [i] := by rw [List.map_append, b1]; rfl
    have c2 : ((B ++ [(k, i)]).map (·.1)).Nodup := by
      rw [List.map_append, List.nodup_append]
      refine ⟨b2, by simp, fun a ha b hb e => ?_⟩
      have : b = k := by simpa using hb
      exact h2 (by rw [← this, ← e]; exact ha)
    have c3 : ∀ p ∈ B ++ [(k, i)], p.1 < 6 ∧ (p.1 : Int) < d p.2 := fun p hp => by
      rcases List.mem_append.mp hp with hp | hp
      · exact b3 p hp
      · rw [List.mem_singleton.mp hp]
        exact ⟨by show k < 6; omega, by show (k : Int) < d i; omega⟩
    have hok := board_ok c2 fun p hp => (c3 p hp).2
    rw [c1] at hok
    rw [if_pos hok]
    refine ⟨c1, c2, c3, fun k' hk' hf p hp hlt => ?_⟩
    have hf' : k' ∉ B.map (·.1) := fun h => hf (by rw [List.map_append]; exact List.mem_append_left _ h)
    rcases List.mem_append.mp hp with hp | hp
    · exact b4 k' hk' hf' p hp hlt
    · rw [List.mem_singleton.mp hp] at hlt ⊢
      show d i ≤ k'
      have hlt' : k < k' := hlt
      have : ¬ k' < (d i).toNat := fun h => hf' (h3 k' hlt' h)
      omega
  · show Board d _ (placeF B i (d i).toNat)
    rw [h2, if_neg]
    · exact ⟨b1, b2, b3, b4⟩
    intro hok
    by_cases hex : ∃ K, K < 6 ∧ K ∉ B.map (·.1)
    · obtain ⟨n, hn'⟩ := hex
      obtain ⟨K, ⟨hK, hKf⟩, hKl⟩ := least (P := fun K => K < 6 ∧ K ∉ B.map (·.1)) n hn'
      have hge : (d i).toNat ≤ K := Nat.le_of_not_lt fun h => hKf (h1 K h)
      have q1 : K ≤ (B.filter fun p => decide (p.1 < K)).length := by
        have := (List.nodup_range (n := K)).length_le_of_subset (l₂ := (B.filter fun p => decide (p.1 < K)).map (·.1)) fun j hj => by
          have hjK := List.mem_range.mp hj
          have hj1 : j ∈ B.map (·.1) := Classical.byContradiction fun h => hKl j hjK ⟨by omega, h⟩
          obtain ⟨p, hp, rfl⟩ := List.mem_map.mp hj1
          exact List.mem_map.mpr ⟨p, List.mem_filter.mpr ⟨hp, decide_eq_true hjK⟩, rfl⟩
        rwa [List.length_range, List.length_map] at this
      have q2 : (B.filter fun p => decide (p.1 < K)).length ≤ cle ((gr d A).map d) K := by
        rw [← List.countP_eq_length_filter, ← b1]
        unfold cle
        rw [List.map_map, List.countP_map]
        exact List.countP_mono_left fun p hp hx => decide_eq_true (b4 K hK hKf p hp (of_decide_eq_true hx))
      have q3 := okR_iff.mp hok K hK
      rw [List.map_append, cle_app, List.map_cons, List.map_nil, cle_one, if_pos (by omega)] at q3
      omega
    · have q1 := (List.nodup_range (n := 6)).length_le_of_subset (l₂ := B.map (·.1)) fun j hj => Classical.byContradiction fun h => hex ⟨j, List.mem_range.mp hj, h⟩
      rw [List.length_range, List.length_map] at q1
      omega
theorem board_of {d : Int → Int} {os : List Int} {B : Brd} (hB : B = brdF (os.zip (os.map d))) (nd : os.Nodup) (hz : os.length = 6) (hb : ∀ w ∈ os, 0 ≤ w ∧ w < 6) (hd : ∀ w ∈ os, 0 ≤ d w ∧ d w ≤ 6) :
    BOk B ∧ B.length ≤ 6 ∧ (B.map (·.1)).Nodup ∧ (∀ p ∈ B, (p.1 : Int) < d p.2) ∧ B.map (·.2) = gr d os := by
  have hI := board_inv d os nd (by omega) hd
  rw [← zip_self, ← hB] at hI
  refine ⟨?_, ?_, hI.nd, fun p hp => (hI.inn p hp).2, hI.works⟩
  · rw [hB]
    refine brdF_ok _ _ (fun p hp => nomatch hp) fun p hp => ?_
    have hp' := List.of_mem_zip hp
    obtain ⟨w, hw, e⟩ := List.mem_map.mp hp'.2
    exact ⟨hb _ hp'.1, by rw [← e]; exact hd w hw⟩
  · have := congrArg List.length hI.works
    rw [List.length_map] at this
    have := (gr_sub d os).length_le
    omega
end Mine

namespace Mine
open LCg
def u8 (ns : List Int) : List UInt8 := ns.map fun n => n.toNat.toUInt8
def i8 (b : List UInt8) : List Int := b.map fun x => (x.toNat : Int)
theorem back8 {ns : List Int} (h : ∀ n ∈ ns, 0 ≤ n ∧ n < 256) : i8 (u8 ns) = ns := by
  unfold i8 u8
  rw [List.map_map]
  conv => rhs; rw [← List.map_id ns]
  exact List.map_congr_left fun n hn => byte_back (h n hn).1 (h n hn).2
def swpL (ts : List UInt8) (w i : Nat) : Nat → List UInt8 → List UInt8
  | 0, b => b
  | j + 1, b => (swpL ts w i j b).set (i + w - 1 - j) (ts.getD (i + j) 0)
theorem swpJ_list {ts : List UInt8} {w i : Nat} : ∀ {j : Nat} {b : List UInt8}, swpJ ts w i j b.toArray = (swpL ts w i j b).toArray
  | 0, _ => rfl
  | j + 1, b => by
    show (swpJ ts w i j b.toArray).setIfInBounds _ _ = _
    rw [swpJ_list, List.setIfInBounds_toArray]; rfl
theorem swp_two {xs ys : List Int} (hx : xs.length = 6) (hy : ys.length = 6) : swpI (u8 (xs ++ ys)) 6 2 (Array.replicate 12 0) = (u8 (xs.reverse ++ ys.reverse)).toArray := by
  have e : (Array.replicate 12 0 : Array UInt8) = (List.replicate 12 0).toArray := Array.toList_inj.mp (by rw [Array.toList_replicate])
  rw [e]
  show swpJ _ 6 (1 * 6) 6 (swpJ _ 6 (0 * 6) 6 _) = _
  rw [swpJ_list, swpJ_list]
  congr 1
  match xs, ys, hx, hy with
  | [a, b, c, d, e, f], [a', b', c', d', e', f'], _, _ => rfl
section
variable {prog : Program} {w : World} {A : Around} {E : Value → Shared → Prop} {s : Shared} {value slice : PySem.Expr} {h₀ : Heap} {L : Addr} {m : PySem.Str → Option Value} {news : Led} {t t6 : Tok} {xs ys : List Int} {Q : Value → Shared → Prop}
theorem bInts_u8 (ns : List Int) : KBw.bInts (u8 ns).toArray = i8 (u8 ns) := rfl
theorem cut_first (hF : Fr h₀ L s.heap m) (hN : News h₀ L s.heap news) (hx : xs.length = 6) (hy : ys.length = 6)
    (h : ∀ h' t' k, Fr h₀ L h' m → News h₀ L h' news → Q (.bytes (u8 xs).toArray t') { s with heap := h', toks := k })
    (hs : subscripted slice false (.bytes (u8 (xs ++ ys)).toArray t) (.ref s.heap.objs.size) = operate [.ref s.heap.objs.size, .bytes (u8 (xs ++ ys)).toArray t] (getItem (.bytes (u8 (xs ++ ys)).toArray t) (.ref s.heap.objs.size)) := by with_unfolding_all rfl)
    (ht : ∀ r, letTemporaryGo value (.bytes (u8 (xs ++ ys)).toArray t) r = pure () := by intro _; with_unfolding_all rfl) :
    wpAny (model prog w) A (subscriptTail value slice (.bytes (u8 (xs ++ ys)).toArray t) (.ref s.heap.objs.size)) Q E { s with heap := s.heap.push { cls := .type "slice", data := .fields #[.none, .int 6 t6, .none] } } := by
  have hl : (i8 (u8 (xs ++ ys))).length = 12 := by simp [i8, u8, hx, hy]
  refine KBc.slice_K (ks := i8 (u8 (xs ++ ys))) hF hN rfl .none (.int 6 t6) (by omega) (fun h' t' k F' N' _ => ?_) hs ht
  have e : KBy.picked (u8 (xs ++ ys)).toArray none (some 6) = (u8 xs).toArray := by
    match xs, ys, hx, hy with
    | [a, b, c, d, e, f], [a', b', c', d', e', f'], _, _ => rfl
  rw [e]
  exact h h' t' k F' N'
theorem cut_last (hF : Fr h₀ L s.heap m) (hN : News h₀ L s.heap news) (hx : xs.length = 6) (hy : ys.length = 6)
    (h : ∀ h' t' k, Fr h₀ L h' m → News h₀ L h' news → Q (.bytes (u8 ys).toArray t') { s with heap := h', toks := k })
    (hs : subscripted slice false (.bytes (u8 (xs ++ ys)).toArray t) (.ref s.heap.objs.size) = operate [.ref s.heap.objs.size, .bytes (u8 (xs ++ ys)).toArray t] (getItem (.bytes (u8 (xs ++ ys)).toArray t) (.ref s.heap.objs.size)) := by with_unfolding_all rfl)
    (ht : ∀ r, letTemporaryGo value (.bytes (u8 (xs ++ ys)).toArray t) r = pure () := by intro _; with_unfolding_all rfl) :
    wpAny (model prog w) A (subscriptTail value slice (.bytes (u8 (xs ++ ys)).toArray t) (.ref s.heap.objs.size)) Q E { s with heap := s.heap.push { cls := .type "slice", data := .fields #[.int 6 t6, .none, .none] } } := by
  have hl : (i8 (u8 (xs ++ ys))).length = 12 := by simp [i8, u8, hx, hy]
  refine KBc.slice_K (ks := i8 (u8 (xs ++ ys))) hF hN rfl (.int 6 t6) .none (by omega) (fun h' t' k F' N' _ => ?_) hs ht
  have e : KBy.picked (u8 (xs ++ ys)).toArray (some 6) none = (u8 ys).toArray := by
    match xs, ys, hx, hy with
    | [a, b, c, d, e, f], [a', b', c', d', e', f'], _, _ => rw [KBc.picked_eq]; rfl
  rw [e]
  exact h h' t' k F' N'
theorem bytes_led {l : Addr} {vs : List Value} {ns : List Int} {n : Nat} (F : Fr h₀ L s.heap m) (N : News h₀ L s.heap news) (hm : (l, listOf vs.toArray n) ∈ news) (hi : IntsAre vs ns) (hr : ∀ n ∈ ns, 0 ≤ n ∧ n < 256) (hz : ns.length ≤ 1000) (hh : A.handled = none)
    (h : ∀ h' t k, Fr h₀ L h' m → News h₀ L h' news → Q (.bytes (u8 ns).toArray t) { s with heap := h', toks := k }) : wpAny (model prog w) A (call (.type "bytes") [.ref l]) Q E s :=
  bytes_K F N (N.isList hm) hi hr (by rw [hi.length, sizeLine_eq]; omega) hh fun h' t k F' N' _ => h h' t k F' N'
theorem zipSrc_u8 {led : Led} {t u : Tok} (hx : ∀ n ∈ xs, 0 ≤ n ∧ n < 256) (hy : ∀ n ∈ ys, 0 ≤ n ∧ n < 256) : ZipSrc led (.bytes (u8 xs).toArray t) (.bytes (u8 ys).toArray u) xs ys := by
  have h := ZipSrc.bts (led := led) (b := u8 xs) (c := u8 ys) (t := t) (u := u)
  have e1 : List.map (fun x : UInt8 => (x.toNat : Int)) (u8 xs) = xs := back8 hx
  have e2 : List.map (fun x : UInt8 => (x.toNat : Int)) (u8 ys) = ys := back8 hy
  rwa [e1, e2] at h
end
/-- what holds the pairs, and nothing else -/
theorem Pairs.min {led : Led} {vs : List Value} {hs : List (Str × Str)} (h : Pairs led vs hs) : ∃ prs, Pairs prs vs hs ∧ (∀ p ∈ prs, p ∈ led) ∧ ∀ p ∈ prs, ∃ vs n, p.2.data = .seq vs n := by
  induction h with
  | nil => exact ⟨[], .nil, (fun p hp => nomatch hp), fun p hp => nomatch hp⟩
  | @cons a k v tk tv n vs hs m _ ih =>
    obtain ⟨prs, h1, h2, h3⟩ := ih
    refine ⟨(a, pairObj k v tk tv n) :: prs, .cons (.head _) (h1.mono fun p hp => .tail _ hp), fun p hp => ?_, fun p hp => ?_⟩
    · rcases List.mem_cons.mp hp with rfl | hp
      · exact m
      · exact h2 p hp
    · rcases List.mem_cons.mp hp with rfl | hp
      · exact ⟨_, _, rfl⟩
      · exact h3 p hp
end Mine

namespace Mine
theorem ints_rev {vs : List Value} {ns : List Int} (h : IntsAre vs ns) : IntsAre vs.reverse ns.reverse := by
  induction h with
  | nil => exact .nil
  | cons z t _ ih => rw [List.reverse_cons, List.reverse_cons]; exact ints_snoc ih
section
variable {prog : Program} {w : World} {A : Around} {E : Value → Shared → Prop} {s : Shared} {h₀ : Heap} {L : Addr} {m : Str → Option Value}
theorem slice_rev {value slice : PySem.Expr} {l : Addr} {vs : List Value} {ns : List Int} {n : Nat} {vl vu vk : Value} {ops : List Value} {news : Led} {Q : Value → Shared → Prop}
    (F : Fr h₀ L s.heap m) (N : News h₀ L s.heap news) (hm : (l, listOf vs.toArray n) ∈ news) (hi' : IntsAre vs ns) (hz : ns.length = 6) (pl : IsPart vl none) (pu : IsPart vu none) (pk : IsPart vk (some (-1)))
    (h : ∀ D ws h', IntsAre ws ns.reverse → (∀ p ∈ news, p.1 ≠ D) → Fr h₀ L h' m → News h₀ L h' ((D, listOf ws.toArray 0) :: news) → Q (.ref D) { s with heap := h' })
    (hs : subscripted slice false (.ref l) (.ref s.heap.objs.size) = operate ops (getItem (.ref l) (.ref s.heap.objs.size))) (ht : ∀ r, letTemporaryGo value (.ref l) r = pure ()) :
    wpAny (model prog w) A (subscriptTail value slice (.ref l) (.ref s.heap.objs.size)) Q E { s with heap := s.heap.push { cls := .type "slice", data := .fields #[vl, vu, vk] } } := by
  have hl : s.heap.IsList l vs.toArray := ⟨_, (N _ hm).1, rfl, n, rfl⟩
  have hv : vs.length = 6 := by rw [hi'.length]; exact hz
  have e : slicePick vs.toArray none none (some (-1)) = vs.reverse.toArray := by
    match vs, hv with
    | [a, b, c, d, e, f], _ =>
      have e1 : sliceRange (sliceBounds none none (some (-1)) 6).1 (sliceBounds none none (some (-1)) 6).2.1 (sliceBounds none none (some (-1)) 6).2.2 = [5, 4, 3, 2, 1, 0] := by decide +kernel
      unfold slicePick
      show ((sliceRange (sliceBounds none none (some (-1)) 6).1 (sliceBounds none none (some (-1)) 6).2.1 (sliceBounds none none (some (-1)) 6).2.2).filterMap _).toArray = _
      rw [e1]
      rfl
  refine slice_list3 F N hl pl pu pk (by decide) (fun h' F' N' => ?_) hs ht (by rw [sizeLine_eq]; simp; omega)
  rw [e] at N'
  exact h _ _ h' (ints_rev hi') (fun p hp => Nat.ne_of_lt (Nat.lt_succ_of_lt (Heap.lt_size (N p hp).1))) F' N'
end
end Mine

theorem Mine.say_j_34 : True := by
  k_with "STEPSK" => repeat' (first | (k_unfold; (try dsimp only)) | walk1 | (dsimp only; walk1) | fail "no step")
  trivial
theorem Mine.say_j_35 : True := by
  k_with "STEPSB" => repeat' (first | (k_unfold; (try dsimp only)) | ((fail_if_success (with_reducible show wpAny _ _ (pyIter _) _ _ _)); (fail_if_success (with_reducible show wpAny _ _ (exec (Stmt.For _ _ _ _ _) _) _ _ _)); (fail_if_success (with_reducible show wpAny _ _ (eval (Expr.ListComp _ _ _ _) _) _ _ _)); (fail_if_success (with_reducible show wpAny _ _ (exec (Stmt.Assign _ (Expr.ListComp _ _ _ _) _) _) _ _ _)); (fail_if_success (with_reducible show wpAny _ _ (call (Value.ref _) _ _) _ _ _)); first | walk1 | (dsimp only; walk1)) | fail "no step")
  trivial
theorem Mine.say_j_36 : True := by
  k_with "subscriptTail Name Slice ref ref" => (k_here; (with_reducible show wpAny _ _ (subscriptTail _ (PySem.Expr.Slice (some _) _ (some _) _) (Value.ref _) (Value.ref _)) _ _ _); k_dflt (refine' Mine.slice3_led (s := ⟨_, _, _, _, _⟩) ?yF_36 ?yN_36 ?yl_36 ?yi_36 ?yp_36 ?yq_36 ?yk_36 ?yo_36 ?_ ?yz_36 ?ys_36 ?yt_36; (case yF_36 => k_asm); (case yN_36 => k_asm); (case yl_36 => k_memK); (case yi_36 => assumption); (case yp_36 => kmk_part); (case yq_36 => kmk_part); (case yk_36 => kmk_part); (case yo_36 => decide); (case ys_36 => with_unfolding_all rfl); (case yt_36 => kmk_pure); (case yz_36 => assumption)); intro D' ws' ms' h' hws' hms' hml' hD' F' N')
  trivial
theorem Mine.say_j_37 : True := by
  k_with "call type:bytes" => (k_here; (with_reducible show wpAny _ _ (call (Value.type "bytes") [Value.ref _]) _ _ _); k_dflt (refine' Mine.bytes_led ?yk1_37 ?yk2_37 ?yk3_37 ?yk4_37 ?yk5_37 ?yk6_37 ?yk7_37 ?_; (case yk1_37 => k_asm); (case yk2_37 => k_asm); (case yk3_37 => k_memK); (case yk4_37 => assumption); (case yk5_37 => assumption); (case yk6_37 => assumption); (case yk7_37 => exact rfl); k_whole); intro h' tb' kb' F' N')
  trivial
theorem Mine.say_j_38 : True := by
  k_with "subscriptTail Name Slice bytes ref" => (k_here; (with_reducible show wpAny _ _ (subscriptTail _ (PySem.Expr.Slice none _ _ _) (Value.bytes _ _) (Value.ref _)) _ _ _); k_dflt (refine' Mine.cut_first (s := ⟨_, _, _, _, _⟩) ?yk1_38 ?yk2_38 ?yk3_38 ?yk4_38 ?_ ?yk5_38 ?yk6_38; (case yk1_38 => k_asm); (case yk2_38 => k_asm); (case yk3_38 => assumption); (case yk4_38 => assumption); (case yk5_38 => with_unfolding_all rfl); (case yk6_38 => intro _; with_unfolding_all rfl); k_whole); intro h' tb' kb' F' N')
  trivial
theorem Mine.say_j_39 : True := by
  k_with "subscriptTail Name Slice bytes ref" => (k_here; (with_reducible show wpAny _ _ (subscriptTail _ (PySem.Expr.Slice (some _) _ _ _) (Value.bytes _ _) (Value.ref _)) _ _ _); k_dflt (refine' Mine.cut_last (s := ⟨_, _, _, _, _⟩) ?yk1_39 ?yk2_39 ?yk3_39 ?yk4_39 ?_ ?yk5_39 ?yk6_39; (case yk1_39 => k_asm); (case yk2_39 => k_asm); (case yk3_39 => assumption); (case yk4_39 => assumption); (case yk5_39 => with_unfolding_all rfl); (case yk6_39 => intro _; with_unfolding_all rfl); k_whole); intro h' tb' kb' F' N')
  trivial
theorem Mine.say_j_40 : True := by
  k_with "subscriptTail Name Slice ref ref" => (k_here; (with_reducible show wpAny _ _ (subscriptTail _ (PySem.Expr.Slice none _ (some _) _) (Value.ref _) (Value.ref _)) _ _ _); k_dflt (refine' Mine.slice_rev (s := ⟨_, _, _, _, _⟩) ?yF_40 ?yN_40 ?yl_40 ?yi_40 ?yz_40 ?yp_40 ?yq_40 ?yk_40 ?_ ?ys_40 ?yt_40; (case yF_40 => k_asm); (case yN_40 => k_asm); (case yl_40 => k_memK); (case yi_40 => assumption); (case yp_40 => kmk_part); (case yq_40 => kmk_part); (case yk_40 => kmk_part); (case ys_40 => with_unfolding_all rfl); (case yt_40 => kmk_pure); (case yz_40 => assumption)); intro D' ws' h' hws' hD' F' N')
  trivial
namespace Mine
theorem brd_front {h₀ h : Heap} {L : Addr} {a b c : Addr × Obj} {l : Led} (N : News h₀ L h l) (hp : ∀ p ∈ [a, b, c], p ∈ l) : News h₀ L h (a :: b :: c :: l) := news_sub N fun p hq => by
  rcases List.mem_cons.mp hq with rfl | hq
  · exact hp _ (.head _)
  rcases List.mem_cons.mp hq with rfl | hq
  · exact hp _ (.tail _ (.head _))
  rcases List.mem_cons.mp hq with rfl | hq
  · exact hp _ (.tail _ (.tail _ (.head _)))
  · exact hq
theorem brd_sub {a b c p : Addr × Obj} {r : Led} (h : p ∈ [a, b, c]) : p ∈ a :: b :: c :: r := by
  simp only [List.mem_cons, List.not_mem_nil, or_false] at h ⊢
  rcases h with h | h | h <;> simp [h]
theorem news_cut {h₀ h : Heap} {L : Addr} {a b c d e : Addr × Obj} {r : Led} (N : News h₀ L h (a :: e :: b :: c :: d :: r)) : News h₀ L h (a :: r) := news_sub N fun p hp => by
  rcases List.mem_cons.mp hp with rfl | hp
  · exact .head _
  · exact .tail _ (.tail _ (.tail _ (.tail _ (.tail _ hp))))
theorem law_rest {α : Type} {a1 a2 a3 b1 b2 b3 s e d o c4 c3 c2 : α} {P1 P2 : List α} : ∀ p ∈ c4 :: c3 :: c2 :: a1 :: a2 :: a3 :: (P2 ++ b1 :: b2 :: b3 :: (P1 ++ [s, e, d, o])), p ∈ a1 :: a2 :: a3 :: (P2 ++ b1 :: b2 :: b3 :: (P1 ++ [s, e, d, o, c4, c3, c2])) := by
  intro p hp
  simp only [List.mem_cons, List.mem_append, List.not_mem_nil, or_false] at hp ⊢
  grind
theorem law_mem {α : Type} {a1 a2 a3 b1 b2 b3 s e d o : α} {P1 P2 rest : List α} (h : rest = a1 :: a2 :: a3 :: (P2 ++ b1 :: b2 :: b3 :: (P1 ++ [s, e, d, o]))) :
    (∀ p ∈ b1 :: b2 :: b3 :: d :: P1, p ∈ rest) ∧ (∀ p ∈ a1 :: a2 :: a3 :: e :: P2, p ∈ rest) ∧ o ∈ rest ∧ d ∈ rest ∧ e ∈ rest ∧ s ∈ rest := by
  subst h
  refine ⟨fun p hp => ?_, fun p hp => ?_, by simp, by simp, by simp, by simp⟩
  · simp only [List.mem_cons, List.mem_append, List.not_mem_nil, or_false] at hp ⊢
    grind
  · simp only [List.mem_cons, List.mem_append, List.not_mem_nil, or_false] at hp ⊢
    grind
theorem law_end {s₀ s₁ s' : Shared} {L : Addr} {m : Str → Option Value} {ks : List Int} (F : Fr s₁.heap L s'.heap m) (hg : s'.gens = #[]) (hos : s'.os = s₁.os) : GoodWG PySem.Challenge.rw_wo0051_01.row.claim (classAt s₀.heap) (ExcName.means s₀.heap) [ofPy (PyData.list (List.map PyData.int ks))] s₁ (Except.ok (Flow.ret (Value.bool true))) s' := by
  refine GoodW.toG ?_
  refine goodW_bool F hg (raisesW_false ?_) ?_ hos
  · wrow_none_raised
  · wrow_post
theorem hold : PySem.Challenge.rw_wo0051_01.Holds := by
  refine hd ?_
  k_fill
  intro w s₀ s₁ mg mb G Y fa o pm cd doc dV kV ho hd hcd hD hmg hg args vals as hpre hlay hrd hwl hlo
  have KX := kIn_of Y
  have X := (Ground.X G).1
  have V := (Ground.X G).2
  refine Ground.open G ?_
  intro T B D TE TW
  try (refine guard_noD D (by decide +kernel) ?_; clear D)
  obtain ⟨_, _, M⟩ := bmod_of_top T
  have TA := at_of_top T
  try (obtain ⟨_, _, he, B0⟩ := based_of_top T rfl hmg ho hd; have he' : cd = _ := he; subst he'; clear he)
  clear hmg
  wrow_args hpre hlay hrd hwl hlo
  all_goals (
    refine wpS_nah (wpS_call ?_)
    w_top on
    have K0 := below_caller (Top.heap T)
    have he := Dflts.none hD rfl
    subst he
    have he := Dflts.noKw hD
    subst he
    refine call_cellsS (by decide) ho (fd_plain hd) (Top.nolimit T) hcd rfl (kinds_of (by kinds_ok)) (by decide) fun h₁ tk₁ cells F N0 X0 => ?_
    obtain ⟨oc1, oc2, oc3, oc4, he, hoc1, hoc2, hoc3, hoc4⟩ := CellsAre.four X0
    subst he
    clear X0
    replace hoc1 : oc1.data = .cell none := hoc1
    replace hoc2 : oc2.data = .cell none := hoc2
    replace hoc3 : oc3.data = .cell none := hoc3
    replace hoc4 : oc4.data = .cell none := hoc4
    clear hd TA
    k_drop)
  have hMk := kstMark
  refine execs_stepS ?_
  walk_at "STEPSK"
  dsimp only
  refine execs_stepS ?_
  with_unfolding_all (refine Mine.comp_assign (cl := _) rfl rfl rfl (by decide) (by intro _; rfl) ?_)
  walk_at "STEPS"
  rename News _ _ _ _ => N₂
  rename Fr _ _ _ _ => F₂
  rename IntsAre _ (List.map _ _) => hI8
  rename _ = (List.map _ (List.take 60 _)).length => hL8
  refine comp_enum_tup (vs := [_, _, _, _, _, _]) (fun i ys => ∃ ns, IntsAre ys ns ∧ ns.length = i) rfl F₂ N₂ (.head _) (by rw [sizeLine_eq]; simp) (by decide) rfl rfl rfl (by decide) ⟨[], .nil, rfl⟩ ?_ ?_
  · rintro e it i t y ys oe oi C oC D m₂ h tk hi ⟨ns, hns, hnl⟩ hNC e1 e2 F₃ N₃ hoff hoff2
    obtain ⟨k, tk9, rfl⟩ : ∃ k t, y = .int k t := by
      have hm := List.mem_of_getElem? hi
      simp only [List.mem_cons, List.not_mem_nil, or_false] at hm
      rcases hm with rfl | rfl | rfl | rfl | rfl | rfl <;> exact ⟨_, _, rfl⟩
    refine CompTurn.plain ?_
    try dsimp only
    have hys := hL8
    rw [List.length_map, List.length_take] at hys
    have hys' := Nat.le_trans (Nat.le_of_eq hys) (Nat.le_trans (Nat.min_le_left _ _) (by decide : 60 ≤ 1000))
    walk_at "STEPS"
    rename News _ _ _ _ => N₄
    rename Fr _ _ _ _ => F₄
    exact CEnd.intro F₄ (news_sub N₄ fun p hp => .tail _ hp) ⟨_, ints_snoc hns, by simp [hnl]⟩
  · intro h
    refine' compDone_put ?ka ?kb ?kc ?_
    case ka => exact rfl
    case kb => exact rfl
    case kc => exact rfl
    clear F₂ N₂
    rintro _ D h' tk ys F₃ N₃ hoff hyl ⟨ns, hns, hnl⟩
    walk_at "STEPS"
    dsimp only
    refine execs_stepS ?_
    obtain ⟨m1, hm1, F₄⟩ : ∃ m1 : Str → Option Value, m1 "cells" = some (.ref D) ∧ Fr s₁.heap s₁.heap.objs.size _ m1 := ⟨_, rfl, F₃⟩
    clear F₃
    have F₅ := fr_knows [("cells", .ref D)] F₄ (by simp [hm1])
    clear F₄
    rename Obj => oD
    have N₅ : News s₁.heap s₁.heap.objs.size h' [(D, LCg.lst ys), (s₁.heap.objs.size + 1 + 1 + 1 + 1, oc1), (s₁.heap.objs.size + 1 + 1 + 1, oc2), (s₁.heap.objs.size + 1 + 1, oc3)] := news_sub N₃ fun p hp => by
      simp only [List.mem_cons, List.not_mem_nil, or_false] at hp
      rcases hp with rfl | rfl | rfl | rfl <;> repeat (first | exact .head _ | apply List.Mem.tail)
    clear N₃
    walk_at "STEPSB"
    refine' ord_c ?k1 F₅ ?k3 ?k4 ?k5 N₅ (.head _) hns hnl ?k7 ?k8 ?_
    case k1 => k_asm
    case k3 => k_asm
    case k4 => k_asm
    case k5 => exact rfl
    case k7 => ktr_room
    case k8 => ktr_units
    clear F₅ N₅
    intro ol ovs os no h4 tk4 hol ho hp F₅ N₅
    have hoz := hp.length_eq
    have hov := ho.length
    walk_at "STEPSB"
    with_unfolding_all refine comp_expr (cl := []) rfl rfl (by decide) (by intro _; rfl) ?_
    walk_at "STEPSB"
    have hys6 := hns.length
    refine comp_list (vs := ys) (nn := ys.length) (fun i zs => ∃ ms, IntsAre zs ms ∧ ms.length = i ∧ ∀ z ∈ ms, 0 ≤ z ∧ z ≤ 5) rfl F₅ N₅ (.tail _ (.head _)) (by rw [sizeLine_eq]; simp at hnl; omega) (by decide) rfl (Asg.name rfl rfl) ⟨[], .nil, rfl, fun z hz => nomatch hz⟩ ?_ ?_
    · clear F₅ N₅
      rintro h i v zs I oI C oC D2 m₂ h' tk hi hv ⟨ms, hms, hml, hmb⟩ hC hHas F₃ N₃ hoff hne
      obtain ⟨z, t, rfl, hz⟩ := intsAre_get hns hv
      refine CompTurn.plain ?_
      try dsimp only
      walk_at "STEPS"
      rename News _ _ _ _ => N₆
      rename Fr _ _ _ _ => F₆
      refine CEnd.intro F₆ N₆ ⟨_, ints_snoc hms, by simp [hml], fun y hy => ?_⟩
      rcases List.mem_append.mp hy with hy | hy
      · exact hmb y hy
      · rw [List.mem_singleton.mp hy]
        have q1 := Int.fmod_nonneg_of_pos z (show (0 : Int) < 6 by decide)
        have q2 := Int.fmod_lt_of_pos z (show (0 : Int) < 6 by decide)
        omega
    · intro h
      refine CompDone.expr ?_
      clear F₅ N₅
      rintro dl h5 tk5 dvs F₅ N₅ hoff5 hyl5 ⟨ds, hds, hdl, hdb⟩
      have hdz : ds.length = 6 := by rw [hdl, hys6, hnl]; rfl
      clear hdl
      have N₆ : News s₁.heap s₁.heap.objs.size h5 [(dl, LCg.lst dvs), (ol, listOf ovs.toArray no), (s₁.heap.objs.size + 1 + 1 + 1 + 1, oc1), (s₁.heap.objs.size + 1 + 1 + 1, oc2), (s₁.heap.objs.size + 1 + 1, oc3)] := news_sub N₅ fun p hp => by
        simp only [List.mem_cons, List.not_mem_nil, or_false] at hp
        rcases hp with rfl | rfl | rfl | rfl | rfl <;> repeat (first | exact .head _ | apply List.Mem.tail)
      have n1 : @Ne Nat dl (s₁.heap.objs.size + 1 + 1) := cell_apart N₆ (by repeat (first | exact .head _ | apply List.Mem.tail)) hoc3 (.head _) rfl
      have n2 : @Ne Nat ol (s₁.heap.objs.size + 1 + 1) := cell_apart N₆ (by repeat (first | exact .head _ | apply List.Mem.tail)) hoc3 (.tail _ (.head _)) rfl
      clear N₅
      walk_at "STEPSB"
      rename Obj => oU
      rename _ = Data.cell (some (Value.ref dl)) => hoU
      rename News _ _ _ _ => N₇
      rename Fr _ _ _ _ => F₇
      obtain ⟨m1, hm1, F₈⟩ : ∃ m1 : Str → Option Value, m1 "order" = some (.ref ol) ∧ Fr s₁.heap s₁.heap.objs.size _ m1 := ⟨_, rfl, F₇⟩
      have F₉ := fr_knows [("order", .ref ol)] F₈ (by simp [hm1])
      have N₈ : News s₁.heap s₁.heap.objs.size _ [(dl, LCg.lst dvs), (ol, listOf ovs.toArray no), (s₁.heap.objs.size + 1 + 1 + 1 + 1, oc1), (s₁.heap.objs.size + 1 + 1 + 1, oc2), (s₁.heap.objs.size + 1 + 1, oU)] := news_tl N₇
      clear F₇ F₈ N₇
      try clear N₆
      try clear F₅
      dsimp only
      refine execs_stepS ?_
      walk_at "STEPSB"
      refine' oth_c ?k1 F₉ ?k3 ?k4 ?k5 N₈ (.head _) hds hdb hdz ?k7 ?k8 ?_
      case k1 => k_asm
      case k3 => k_asm
      case k4 => k_asm
      case k5 => exact rfl
      case k7 => ktr_room
      case k8 => ktr_units
      clear F₉ N₈
      intro most tm t n0 el evs es ne h6 tk6 hel hmost hes hez hleast F₅ N₅
      have p1 : @Ne Nat el (s₁.heap.objs.size + 1 + 1 + 1) := cell_apart N₅ (by repeat (first | exact .head _ | apply List.Mem.tail)) hoc2 (.tail _ (.head _)) rfl
      have p2 : @Ne Nat dl (s₁.heap.objs.size + 1 + 1 + 1) := cell_apart N₅ (by repeat (first | exact .head _ | apply List.Mem.tail)) hoc2 (.tail _ (.tail _ (.head _))) rfl
      have p3 : @Ne Nat ol (s₁.heap.objs.size + 1 + 1 + 1) := cell_apart N₅ (by repeat (first | exact .head _ | apply List.Mem.tail)) hoc2 (.tail _ (.tail _ (.tail _ (.head _)))) rfl
      have p4 : @Ne Nat t (s₁.heap.objs.size + 1 + 1 + 1) := cell_apart N₅ (by repeat (first | exact .head _ | apply List.Mem.tail)) hoc2 (.head _) rfl
      walk_at "STEPSB"
      rename Obj => oE
      rename _ = Data.cell (some (Value.ref el)) => hoE
      rename News _ _ _ _ => N₇
      rename Fr _ _ _ _ => F₇
      obtain ⟨m1, hm1, hm2, F₈⟩ : ∃ m1 : Str → Option Value, m1 "order" = some (.ref ol) ∧ m1 "most" = some (.int most tm) ∧ Fr s₁.heap s₁.heap.objs.size _ m1 := ⟨_, rfl, rfl, F₇⟩
      have F₉ := fr_knows [("order", .ref ol), ("most", .int most tm)] F₈ (by simp [hm1, hm2])
      have N₈ : News s₁.heap s₁.heap.objs.size _ [(el, listOf evs.toArray ne), (dl, LCg.lst dvs), (ol, listOf ovs.toArray no), (s₁.heap.objs.size + 1 + 1 + 1 + 1, oc1), (s₁.heap.objs.size + 1 + 1 + 1, oE), (s₁.heap.objs.size + 1 + 1, oU)] := news_tl N₇
      clear F₇ F₈ N₇
      try clear N₅
      try clear F₅
      have heb := oth_bnd hdz hdb hez hmost hleast
      obtain ⟨hnd, hoz6, hob⟩ := order_bnd hp
      obtain ⟨r, hr, hD⟩ := dual_of hp hdz hdb hez hmost hleast
      have hev := hes.length
      have hdv := hds.length
      dsimp only
      refine execs_consS ?_
      refine Assign_NameS (Call_S ?_ (by rfl)) (by rfl)
      walk_at "STEPS"
      refine' callWith_KS KX ?kh2 (args_consS (wpS_of ?_) (by rfl)) (by rfl)
      case kh2 => k_is
      walk_at "STEPSB"
      with_unfolding_all refine comp_expr (cl := [(Str.ofString "others", s₁.heap.objs.size + 1 + 1 + 1)]) rfl rfl (by decide) (by intro _; rfl) ?_
      walk_at "STEPSB"
      refine comp_list (vs := ovs) (nn := no) (fun i zs => IntsAre zs ((os.take i).map (dueF es))) rfl F₉ N₈ (by repeat (first | exact .head _ | apply List.Mem.tail)) (by rw [sizeLine_eq]; omega) (by decide) rfl (Asg.name rfl rfl) .nil ?_ ?_
      · clear F₉ N₈
        intro h i v zs I oI C oC D2 m₂ h' tk hi hv hJ hC hHas F₃ N₃ hoff hne
        obtain ⟨z, t, rfl, hz⟩ := intsAre_get ho hv
        have hz9 := hob z (List.mem_of_getElem? hz)
        refine CompTurn.plain ?_
        try dsimp only
        walk_at "STEPS"
        rename News _ _ _ _ => N₆
        rename Fr _ _ _ _ => F₆
        refine CEnd.intro F₆ N₆ ?_
        rw [take_snoc hz, List.map_append]
        exact ints_snoc hJ
      · intro h
        refine CompDone.expr ?_
        clear F₉ N₈
        intro wl h7 tk7 wvs F₅ N₅ hoff7 hyl7 hw
        rw [hov, List.take_length] at hw
        have hwv := hw.length
        rw [List.length_map] at hwv
        have hin : ∀ n ∈ os ++ os.map (dueF es), 0 ≤ n ∧ n < 256 := fun n hn => by
          rcases List.mem_append.mp hn with hn | hn
          · have := hob n hn; omega
          · obtain ⟨w, hw, rfl⟩ := List.mem_map.mp hn
            have := heb _ (List.mem_of_getElem? (due_at hez (hob w hw)))
            omega
        have hlen12 : (os ++ os.map (dueF es)).length ≤ 1000 := by simp; omega
        walk_at "STEPSB"
        refine args_consS (wpS_of ?_) (by rfl)
        walk_at "STEPSB"
        rename News _ _ _ _ => N₆
        rename Fr _ _ _ _ => F₆
        refine args_nilS ⟨⟨_, _, F₆⟩, ?_⟩
        have N₇ : News s₁.heap s₁.heap.objs.size _ [(el, listOf evs.toArray ne), (dl, LCg.lst dvs), (ol, listOf ovs.toArray no), (s₁.heap.objs.size + 1 + 1 + 1 + 1, oc1), (s₁.heap.objs.size + 1 + 1 + 1, oE), (s₁.heap.objs.size + 1 + 1, oU)] := news_tl (news_tl N₆)
        clear N₆
        try clear F₅
        try clear N₅
        refine' swp_c (E := nah) ?k1 F₆ ?k3 ?k4 ?k5 N₇ ?k7 ?k8 (by simp [u8]; omega) ?_
        case k1 => k_asm
        case k3 => k_asm
        case k4 => k_asm
        case k5 => exact rfl
        case k7 => ktr_room
        case k8 => ktr_units
        clear F₆ N₇
        have hmz : (os.map (dueF es)).length = 6 := by rw [List.length_map]; exact hoz6
        rw [swp_two hoz6 hmz]
        intro tq h8 tk8 F₅ N₅
        have hrz : os.reverse.length = 6 := by rw [List.length_reverse]; exact hoz6
        have hsz : (os.map (dueF es)).reverse.length = 6 := by rw [List.length_reverse]; exact hmz
        obtain ⟨qs, hqs⟩ : ∃ qs, qs = os.reverse := ⟨_, rfl⟩
        obtain ⟨ss, hss⟩ : ∃ ss, ss = (os.map (dueF es)).reverse := ⟨_, rfl⟩
        rw [← hqs, ← hss]
        rw [← hqs] at hrz
        rw [← hss] at hsz
        dsimp only
        walk_at "STEPSB"
        rename News _ _ _ _ => N₈
        rename Fr _ _ _ _ => F₈
        obtain ⟨m1, hm1, hm2, hm3, F₉⟩ : ∃ m1 : Str → Option Value, m1 "order" = some (.ref ol) ∧ m1 "most" = some (.int most tm) ∧ m1 "turned" = some (.bytes (u8 (qs ++ ss)).toArray tq) ∧ Fr s₁.heap s₁.heap.objs.size _ m1 := ⟨_, rfl, rfl, rfl, F₈⟩
        have F₇ := fr_knows [("order", .ref ol), ("most", .int most tm), ("turned", .bytes (u8 (qs ++ ss)).toArray tq)] F₉ (by simp [hm1, hm2, hm3])
        clear F₈ F₉
        try clear N₅
        try clear F₅
        dsimp only
        refine wpS_of ?_
        walk_at "STEPSB"
        with_unfolding_all (refine Mine.comp_assign (cl := [(Str.ofString "dues", s₁.heap.objs.size + 1 + 1)]) rfl rfl rfl (by decide) (by intro _; rfl) ?_)
        walk_at "STEPSB"
        refine comp_list (vs := ovs) (nn := no) (fun i zs => IntsAre zs ((os.take i).map (dueF ds))) rfl F₇ N₈ (by repeat (first | exact .head _ | apply List.Mem.tail)) (by rw [sizeLine_eq]; omega) (by decide) rfl (Asg.name rfl rfl) .nil ?_ ?_
        · clear F₇ N₈
          intro h i v zs I oI C oC D2 m₂ h' tk hi hv hJ hC hHas F₃ N₃ hoff hne
          obtain ⟨z, t, rfl, hz⟩ := intsAre_get ho hv
          have hz9 := hob z (List.mem_of_getElem? hz)
          refine CompTurn.plain ?_
          try dsimp only
          walk_at "STEPS"
          rename News _ _ _ _ => N₆
          rename Fr _ _ _ _ => F₆
          refine CEnd.intro F₆ N₆ ?_
          rw [take_snoc hz, List.map_append]
          exact ints_snoc hJ
        · intro h
          refine' compDone_put ?ka ?kb ?kc ?_
          case ka => exact rfl
          case kb => exact rfl
          case kc => exact rfl
          clear F₇ N₈
          rintro _ sl h9 tk9 svs F₅ N₅ hoff9 hyl9 hsp
          rw [hov, List.take_length] at hsp
          have hspz : (os.map (dueF ds)).length = 6 := by rw [List.length_map]; exact hoz6
          have hspb : ∀ d ∈ os.map (dueF ds), 0 ≤ d ∧ d ≤ 6 := fun d hd => by
            obtain ⟨w, hw, rfl⟩ := List.mem_map.mp hd
            have := hdb _ (List.mem_of_getElem? (due_at hdz (hob w hw)))
            omega
          have hqb : ∀ w ∈ qs, 0 ≤ w ∧ w < 6 := fun w hw => hob w (by rw [hqs] at hw; exact List.mem_reverse.mp hw)
          have hsb : ∀ d ∈ ss, 0 ≤ d ∧ d ≤ 6 := fun d hd => by
            rw [hss] at hd
            obtain ⟨w, hw, rfl⟩ := List.mem_map.mp (List.mem_reverse.mp hd)
            exact heb _ (List.mem_of_getElem? (due_at hez (hob w hw)))
          walk_at "STEPSB"
          refine' brd_c ?k1 F₅ ?k3 ?k4 ?k5 N₅ (ZipSrc.lst (by repeat (first | exact .head _ | apply List.Mem.tail)) (.head _) ho hsp) hoz6 hspz (Nat.le_refl _) hob hspb ?k7 ?k8 ?_
          case k1 => k_asm
          case k3 => k_asm
          case k4 => k_asm
          case k5 => exact rfl
          case k7 => ktr_room
          case k8 => ktr_units
          clear F₅ N₅
          obtain ⟨B1, hB1⟩ : ∃ B1, B1 = brdF (os.zip (os.map (dueF ds))) := ⟨_, rfl⟩
          rw [← hB1]
          intro x1 dx1 l1 dh1 dk1 dn1 nn1 vs1 prs1 h10 tk10 hoff10 hP1 F₅ N₅
          walk_at "STEPSB"
          rename News _ _ _ _ => N₆
          rename Fr _ _ _ _ => F₆
          refine' brd_c ?k1 F₆ ?k3 ?k4 ?k5 N₆ (zipSrc_u8 (fun n hn => by have := hqb n hn; omega) fun n hn => by have := hsb n hn; omega) hrz hsz (Nat.le_refl _) hqb hsb ?k7 ?k8 ?_
          case k1 => k_asm
          case k3 => k_asm
          case k4 => k_asm
          case k5 => exact rfl
          case k7 => ktr_room
          case k8 => ktr_units
          clear F₆ N₆
          try clear F₅
          try clear N₅
          obtain ⟨B2, hB2⟩ : ∃ B2, B2 = brdF (qs.zip ss) := ⟨_, rfl⟩
          rw [← hB2]
          intro x2 dx2 l2 dh2 dk2 dn2 nn2 vs2 prs2 h11 tk11 hoff11 hP2 F₅ N₅
          obtain ⟨rest, hrest⟩ : ∃ rest, rest = (x2, instObj 196 dx2) :: (dx2, hdrDict dh2 dk2 l2 dn2) :: (l2, listOf vs2.toArray nn2) :: (prs2 ++ (x1, instObj 196 dx1) :: (dx1, hdrDict dh1 dk1 l1 dn1) :: (l1, listOf vs1.toArray nn1) :: (prs1 ++ [(sl, LCg.lst svs), (el, listOf evs.toArray ne), (dl, LCg.lst dvs), (ol, listOf ovs.toArray no)])) := ⟨_, rfl⟩
          have N₈ : News s₁.heap s₁.heap.objs.size _ ((s₁.heap.objs.size + 1 + 1 + 1 + 1, oc1) :: (s₁.heap.objs.size + 1 + 1 + 1, oE) :: (s₁.heap.objs.size + 1 + 1, oU) :: rest) := news_sub N₅ fun p hp => law_rest p (hrest ▸ hp)
          have hoffR : ∀ p ∈ rest, p.1 ≠ s₁.heap.objs.size + 1 + 1 + 1 + 1 := by
            intro p hp
            rw [hrest] at hp
            have hcell : (s₁.heap.objs.size + 1 + 1 + 1 + 1, oc1) ∈ [(sl, LCg.lst svs), (el, listOf evs.toArray ne), (dl, LCg.lst dvs), (ol, listOf ovs.toArray no), (s₁.heap.objs.size + 1 + 1 + 1 + 1, oc1), (s₁.heap.objs.size + 1 + 1 + 1, oE), (s₁.heap.objs.size + 1 + 1, oU)] := by repeat (first | exact .head _ | apply List.Mem.tail)
            have hcell2 : (s₁.heap.objs.size + 1 + 1 + 1 + 1, oc1) ∈ (x1, instObj 196 dx1) :: (dx1, hdrDict dh1 dk1 l1 dn1) :: (l1, listOf vs1.toArray nn1) :: (prs1 ++ [(sl, LCg.lst svs), (el, listOf evs.toArray ne), (dl, LCg.lst dvs), (ol, listOf ovs.toArray no), (s₁.heap.objs.size + 1 + 1 + 1 + 1, oc1), (s₁.heap.objs.size + 1 + 1 + 1, oE), (s₁.heap.objs.size + 1 + 1, oU)]) := .tail _ (.tail _ (.tail _ (List.mem_append_right _ hcell)))
            rcases List.mem_append.mp (show p ∈ ((x2, instObj 196 dx2) :: (dx2, hdrDict dh2 dk2 l2 dn2) :: (l2, listOf vs2.toArray nn2) :: prs2) ++ _ from hp) with hp | hp
            · exact Ne.symm (hoff11 p hp _ hcell2)
            · rcases List.mem_append.mp (show p ∈ ((x1, instObj 196 dx1) :: (dx1, hdrDict dh1 dk1 l1 dn1) :: (l1, listOf vs1.toArray nn1) :: prs1) ++ _ from hp) with hp | hp
              · exact Ne.symm (hoff10 p hp _ hcell)
              · have hin5 : ∀ q ∈ [(sl, LCg.lst svs), (el, listOf evs.toArray ne), (dl, LCg.lst dvs), (ol, listOf ovs.toArray no)], q ∈ (s₁.heap.objs.size + 1 + 1 + 1 + 1, oc1) :: (s₁.heap.objs.size + 1 + 1 + 1, oE) :: (s₁.heap.objs.size + 1 + 1, oU) :: rest := fun q hq => by
                  rw [hrest]
                  exact .tail _ (.tail _ (.tail _ (.tail _ (.tail _ (.tail _ (List.mem_append_right _ (.tail _ (.tail _ (.tail _ (List.mem_append_right _ hq))))))))))
                have hin6 := hin5 p hp
                simp only [List.mem_cons, List.not_mem_nil, or_false] at hp
                rcases hp with rfl | rfl | rfl | rfl <;> exact cell_apart N₈ (.head _) hoc1 hin6 rfl
          obtain ⟨hA1, hA2, iol, idl, iel, isl⟩ := law_mem hrest
          clear N₅ hoff10 hoff11 hrest
          have hd6 : ∀ w ∈ os, 0 ≤ dueF ds w ∧ dueF ds w ≤ 6 := fun w hw => by have := hD.hd w hw; omega
          obtain ⟨bo1, bz1, bn1, bi1, bw1⟩ := board_of hB1 hnd hoz6 hob hd6
          have hss' : ss = qs.map (dueF es) := by rw [hss, hqs, List.map_reverse]
          have hqn : qs.Nodup := by rw [hqs]; exact (List.reverse_perm os).nodup_iff.mpr hnd
          rw [hss'] at hB2
          obtain ⟨bo2, bz2, bn2, bi2, bw2⟩ := board_of hB2 hqn hrz hqb fun w hw => hsb _ (by rw [hss']; exact List.mem_map_of_mem hw)
          walk_at "STEPSB"
          rename News _ _ _ _ => N₆
          rename Fr _ _ _ _ => F₆
          have N₇ := news_tl N₆
          clear N₆
          try clear N₈
          refine' tim_c ?k1 F₆ ?k3 ?k4 ?k5 N₇ (fun p hp => .tail _ (.tail _ (.tail _ (hA1 p hp)))) hP1 bo1 bz1 hds hdz bn1 bi1 ?k7 ?k8 ?_
          case k1 => k_asm
          case k3 => k_asm
          case k4 => k_asm
          case k5 => exact rfl
          case k7 => ktr_room
          case k8 => ktr_units
          clear F₆ N₇
          intro h12 tk12 F₅ N₅
          walk_at "STEPSB"
          refine' tim_c ?k1 F₅ ?k3 ?k4 ?k5 N₅ (fun p hp => .tail _ (.tail _ (.tail _ (hA2 p hp)))) hP2 bo2 bz2 hes hez bn2 bi2 ?k7 ?k8 ?_
          case k1 => k_asm
          case k3 => k_asm
          case k4 => k_asm
          case k5 => exact rfl
          case k7 => ktr_room
          case k8 => ktr_units
          clear F₅ N₅
          intro h13 tk13 F₅ N₅
          walk_at "STEPSB"
          refine wpAny_Assign_Name ?_ (by rfl)
          refine' Mine.comp_expr (cl := []) ?xa ?xb ?xc ?xd ?_
          case xa => rfl
          case xb => rfl
          case xc => decide
          case xd => intro _; rfl
          have hvz1 : vs1.length ≤ 1000 := by have := hP1.length; simp [hsF] at this; omega
          have hvz2 : vs2.length ≤ 1000 := by have := hP2.length; simp [hsF] at this; omega
          obtain ⟨lw, hlw⟩ : ∃ lw, lw = (s₁.heap.objs.size + 1 + 1 + 1 + 1, oc1) :: (s₁.heap.objs.size + 1 + 1 + 1, oE) :: (s₁.heap.objs.size + 1 + 1, oU) :: rest := ⟨_, rfl⟩
          have hlr : ∀ p ∈ rest, p ∈ lw := fun p hp => by rw [hlw]; exact .tail _ (.tail _ (.tail _ hp))
          rw [← hlw] at N₅
          have N₆ := brd_front N₅ fun p hp => hlr p (hA1 p (brd_sub hp))
          clear N₅
          walk_at "STEPSB"
          refine' vals_c ?k1 F₅ ?k3 ?k4 ?k5 N₆ (hP1.mono fun p hp => hlr p (hA1 p (.tail _ (.tail _ (.tail _ (.tail _ hp)))))) ?k8 ?k9 hvz1 ?_
          case k1 => k_asm
          case k3 => k_asm
          case k4 => k_asm
          case k5 => exact rfl
          case k8 => ktr_room
          case k9 => ktr_units
          clear F₅ N₆
          intro V1 ks1 h14 tk14 hks1 F₅ N₅
          have hkl1 := hks1.length
          rw [List.length_map, hsF, List.length_map] at hkl1
          walk_at "STEPSB"
          refine comp_list (vs := ks1) (nn := ks1.length) (fun i ys => IntsAre ys ((B1.take i).map (·.2))) rfl F₅ N₅ (.head _) (by rw [sizeLine_eq]; omega) (by decide) rfl (Asg.name rfl rfl) .nil ?_ ?_
          · clear F₅ N₅
            intro h i v zs I oI C oC D2 m₂ h' tk hi hv hJ hC hHas F₃ N₃ hoff hne
            obtain ⟨y, t, rfl, hy⟩ := strs_get hks1 hv
            obtain ⟨p, hp9, rfl⟩ := hs_snd hy
            have hp6 := (bo1 p (List.mem_of_getElem? hp9)).2
            refine CompTurn.plain ?_
            try dsimp only
            walk_at "STEPS"
            rename News _ _ _ _ => N₆
            rename Fr _ _ _ _ => F₆
            refine CEnd.intro F₆ N₆ ?_
            rw [take_snoc hp9, List.map_append]
            exact ints_snoc hJ
          · intro h
            refine CompDone.expr ?_
            clear F₅ N₅
            intro dn h15 tk15 gvs F₅ N₅ hoff15 hyl15 hg
            rw [hkl1, List.take_length, bw1] at hg
            have ndn : @Ne Nat (s₁.heap.objs.size + 1 + 1 + 1 + 1) dn := hoff15 _ (.tail _ (.tail _ (.tail _ (.tail _ (by rw [hlw]; exact .head _)))))
            have N₆ : News s₁.heap s₁.heap.objs.size _ ((dn, LCg.lst gvs) :: lw) := news_cut N₅
            rw [hlw] at N₆
            clear N₅
            walk_at "STEPSB"
            rename Obj => oG
            rename _ = Data.cell (some (Value.ref dn)) => hoG
            rename News _ _ _ _ => N₇
            rename Fr _ _ _ _ => F₇
            refine' Mine.comp_assign (cl := []) ?ya ?yb ?yc ?yd ?ye ?_
            case ya => rfl
            case yb => rfl
            case yc => rfl
            case yd => decide
            case ye => intro _; rfl
            obtain ⟨lx, hlx⟩ : ∃ lx, lx = (dn, LCg.lst gvs) :: (s₁.heap.objs.size + 1 + 1 + 1 + 1, oG) :: (s₁.heap.objs.size + 1 + 1 + 1, oE) :: (s₁.heap.objs.size + 1 + 1, oU) :: rest := ⟨_, rfl⟩
            have hlr2 : ∀ p ∈ rest, p ∈ lx := fun p hp => by rw [hlx]; exact .tail _ (.tail _ (.tail _ (.tail _ hp)))
            rw [← hlx] at N₇
            have N₈ := brd_front N₇ fun p hp => hlr2 p (hA2 p (brd_sub hp))
            clear N₇
            try clear N₆
            try clear F₅
            walk_at "STEPSB"
            refine' vals_c ?k1 F₇ ?k3 ?k4 ?k5 N₈ (hP2.mono fun p hp => hlr2 p (hA2 p (.tail _ (.tail _ (.tail _ (.tail _ hp)))))) ?k8 ?k9 hvz2 ?_
            case k1 => k_asm
            case k3 => k_asm
            case k4 => k_asm
            case k5 => exact rfl
            case k8 => ktr_room
            case k9 => ktr_units
            clear F₇ N₈
            intro V2 ks2 h16 tk16 hks2 F₅ N₅
            have hkl2 := hks2.length
            rw [List.length_map, hsF, List.length_map] at hkl2
            walk_at "STEPSB"
            refine comp_list (vs := ks2) (nn := ks2.length) (fun i ys => IntsAre ys ((B2.take i).map (·.2))) rfl F₅ N₅ (.head _) (by rw [sizeLine_eq]; omega) (by decide) rfl (Asg.name rfl rfl) .nil ?_ ?_
            · clear F₅ N₅
              intro h i v zs I oI C oC D2 m₂ h' tk hi hv hJ hC hHas F₃ N₃ hoff hne
              obtain ⟨y, t, rfl, hy⟩ := strs_get hks2 hv
              obtain ⟨p, hp9, rfl⟩ := hs_snd hy
              have hp6 := (bo2 p (List.mem_of_getElem? hp9)).2
              refine CompTurn.plain ?_
              try dsimp only
              walk_at "STEPS"
              rename News _ _ _ _ => N₆
              rename Fr _ _ _ _ => F₆
              refine CEnd.intro F₆ N₆ ?_
              rw [take_snoc hp9, List.map_append]
              exact ints_snoc hJ
            · intro h
              refine' compDone_put ?ka ?kb ?kc ?_
              case ka => exact rfl
              case kb => exact rfl
              case kc => exact rfl
              clear F₅ N₅
              rintro _ rn h17 tk17 rvs F₅ N₅ hoff17 hyl17 hrr
              rw [hkl2, List.take_length, bw2] at hrr
              have N₆ : News s₁.heap s₁.heap.objs.size _ ((rn, LCg.lst rvs) :: lx) := news_cut N₅
              rw [hlx] at N₆
              clear N₅
              walk_at "STEPSB"
              rename Fr _ _ _ _ => F₆
              refine' cnt_c ?k1 F₆ ?k3 ?k4 ?k5 N₆ (ZipSrc.lst (.tail _ (.tail _ (.tail _ (.tail _ (.tail _ iol))))) (.tail _ (.tail _ (.tail _ (.tail _ (.tail _ isl))))) ho hsp) hoz6 hspz (Nat.le_refl _) ?k8 ?k9 ?_
              case k1 => k_asm
              case k3 => k_asm
              case k4 => k_asm
              case k5 => exact rfl
              case k8 => ktr_room
              case k9 => ktr_units
              rw [zip_self, cnt_gr]
              obtain ⟨G, hG⟩ : ∃ G, G = gr (dueF ds) os := ⟨_, rfl⟩
              obtain ⟨G2, hG2⟩ : ∃ G, G = gr (dueF es) qs := ⟨_, rfl⟩
              rw [← hG] at hg
              rw [← hG2] at hrr
              dsimp only
              rw [← hG]
              clear F₆ N₆
              try clear F₅
              have hGl : G.length ≤ 6 := by rw [hG, ← hoz6]; exact (gr_sub _ _).length_le
              have hG2l : G2.length ≤ 6 := by rw [hG2, ← hrz]; exact (gr_sub _ _).length_le
              have hgvl := hg.length
              have hrvl := hrr.length
              have hgvz : gvs.length ≤ 1000 := by omega
              have hrvz : rvs.length ≤ 1000 := by omega
              intro tl tvs nt h18 tk18 hoff18 ht F₅ N₅
              have htvl := ht.length
              have htvz : tvs.length ≤ 1000 := by omega
              walk_at "STEPSB"
              rename Fr _ _ _ _ => F₆
              rename News _ _ _ _ => N₆
              refine' cnt_c ?k1 F₆ ?k3 ?k4 ?k5 N₆ (zipSrc_u8 (fun n hn => by have := hqb n hn; omega) fun n hn => by have := hsb n hn; omega) hrz hsz (Nat.le_refl _) ?k8 ?k9 ?_
              case k1 => k_asm
              case k3 => k_asm
              case k4 => k_asm
              case k5 => exact rfl
              case k8 => ktr_room
              case k9 => ktr_units
              have ez : (cntF (qs.zip ss)).1 = G2 := by rw [hss', zip_self, cnt_gr, hG2]
              rw [ez]
              clear F₆ N₆
              try clear F₅
              try clear N₅
              intro ul uvs nu h19 tk19 hoff19 hu' F₅ N₅
              have huvl := hu'.length
              have huvz : uvs.length ≤ 1000 := by omega
              have hmo : (gvs.length : Int) = most := by rw [hgvl, hr, hG, hD.most]
              have hG3 : G2 = out G qs := by rw [hG2, hG, hqs]; exact hD.rest'
              have N₆ : News s₁.heap s₁.heap.objs.size _ ((ol, listOf ovs.toArray no) :: (ul, listOf uvs.toArray nu) :: (rn, LCg.lst rvs) :: (dn, LCg.lst gvs) :: (s₁.heap.objs.size + 1 + 1 + 1 + 1, oG) :: (s₁.heap.objs.size + 1 + 1 + 1, oE) :: (s₁.heap.objs.size + 1 + 1, oU) :: rest) := news_at (news_sub N₅ fun p hp => by
                rcases List.mem_cons.mp hp with rfl | hp
                · exact .head _
                · exact .tail _ (.tail _ hp)) (.tail _ (.tail _ (.tail _ (.tail _ (.tail _ (.tail _ iol))))))
              clear N₅
              rw [hG3] at hrr hu'
              walk_at "STEPSB"
              · rename (_ ≠ most) => hno
                exact absurd hmo hno
              · refine' Mine.comp_expr (cl := [(Str.ofString "done", s₁.heap.objs.size + 1 + 1 + 1 + 1)]) ?xa ?xb ?xc ?xd ?_
                case xa => rfl
                case xb => rfl
                case xc => decide
                case xd => intro _; rfl
                walk_at "STEPSB"
                rename IntsAre _ (List.reverse os) => hws
                rename News _ _ _ _ => N₇
                rename Fr _ _ _ _ => F₇
                rw [← hqs] at hws
                have hwl := hws.length
                refine comp_list (fun i zs => IntsAre zs (out G (qs.take i))) rfl F₇ N₇ (.head _) (by rw [sizeLine_eq]; omega) (by decide) rfl (Asg.name rfl rfl) .nil ?_ ?_
                · clear F₇ N₇
                  intro h i v zs I2 oI2 C oC D2 m₂ h' tk hi hv hJ hC hHas F₃ N₃ hoff3 hne
                  obtain ⟨z, t, rfl, hz⟩ := intsAre_get hws hv
                  refine CompTurn.one ?_
                  try dsimp only
                  walk_at "STEPS"
                  all_goals
                    rename News _ _ _ _ => N₇
                    rename Fr _ _ _ _ => F₇
                  · rename z ∈ G => hzS
                    refine CEnd.intro F₇ N₇ ?_
                    rw [take_snoc hz, out_in hzS]
                    exact hJ
                  · rename ¬ z ∈ G => hzS
                    refine CEnd.intro F₇ N₇ ?_
                    rw [take_snoc hz, out_no hzS]
                    exact ints_snoc hJ
                · intro h
                  refine CompDone.expr ?_
                  clear F₇ N₇
                  intro D2 h' tk zs F₆ N₆ hoff2 hzl hJ2
                  rw [hwl, List.take_length] at hJ2
                  walk_at "STEPSB"
                  rename News _ _ _ _ => N₈
                  rename Fr _ _ _ _ => F₈
                  have hGlen : G.length = r := by rw [hG]; exact hD.most
                  have hGsub : G.Sublist os := by rw [hG]; exact gr_sub _ _
                  refine' cho_c ?k1 F₈ ?k3 ?k4 ?k5 N₈ (by repeat (first | exact iol | exact .head _ | apply List.Mem.tail)) (by repeat (first | exact idl | exact .head _ | apply List.Mem.tail)) (by repeat (first | exact iel | exact .head _ | apply List.Mem.tail)) (by repeat (first | exact .head _ | apply List.Mem.tail)) ho hds hes hg hnd hoz6 hdz hez hob hGsub (fun S hS hl => hD.q1 (out_perm hS hnd) (hl.trans hGlen)) (fun S hS ok k p q x y e1 e2 e3 e4 => gale hnd hS ok e1 e2 (hG ▸ e3) e4) ?k8 ?k9 ?_
                  case k1 => k_asm
                  case k3 => k_asm
                  case k4 => k_asm
                  case k5 => exact rfl
                  case k8 => ktr_room
                  case k9 => ktr_units
                  clear F₈ N₈
                  intro h20 tk20 F₈ N₈
                  walk_at "STEPSB"
                  rename Fr s₁.heap _ _ _ => F₉
                  exact law_end F₉ (by show s₁.gens = #[]; assumption) rfl
end Mine

theorem PySem.Challenge.cw_wo0051_01_holds : PySem.Challenge.rw_wo0051_01.Holds := by
  exact Mine.hold
