import PyProof.Rows.All
import Wide.All
import OpenK.AllK
import Wide.FinOn
import PySem.Challenge.RW_wa0031_01
open PySem PySem.W PyProof.Rows
set_option Elab.async false
namespace Mine
set_option maxRecDepth 100000 in
set_option maxHeartbeats 8000000 in
open_top hd for PySem.Challenge.rw_wa0031_01
end Mine
open PySem PySem.W PySem.Calls PyProof.Rows
set_option Elab.async false
namespace Mine
def Paused (P : Prop) : Prop := P
theorem Paused.of {P : Prop} (h : Paused P) : P := h
theorem Paused.mk {P : Prop} (h : P) : Paused P := h
theorem up_self {m : Str → Option Value} {a : Str} {x : Value} (e : m a = some x) : (fun y => if y = a then some x else m y) = m := by
  funext y
  by_cases h : y = a
  · rw [if_pos h, h]; exact e.symm
  · rw [if_neg h]
theorem off {m : Str → Option Value} {x y : Str} {v u : Value} (h : m y = some u) (hne : y ≠ x) : (fun z => if z = x then some v else m z) y = some u := by
  show (if y = x then some v else m y) = some u
  rw [if_neg hne]; exact h
theorem news_ne {h₀ h : Heap} {L a b : Addr} {o o' : Obj} {led : List (Addr × Obj)} (N : News h₀ L h led) (h1 : (a, o) ∈ led) (h2 : (b, o') ∈ led) (hne : o.cls ≠ o'.cls) : a ≠ b := by
  intro e
  subst e
  have e1 := (N _ h1).1
  have e2 := (N _ h2).1
  dsimp only at e1 e2
  rw [e1] at e2
  exact hne (congrArg Obj.cls (Option.some.inj e2))
section
variable {h₀ h : Heap} {L : Addr} {m : Str → Option Value} {a b c d e f : Str} {x y z u v w : Value}
/-- a frame whose names are told one by one -/
theorem up1 (F : Fr h₀ L h m) (ha : m a = some x) : Fr h₀ L h (fun k => if k = a then some x else m k) := by rw [up_self ha]; exact F
theorem up2 (F : Fr h₀ L h m) (ha : m a = some x) (hb : m b = some y) : Fr h₀ L h (fun k => if k = a then some x else if k = b then some y else m k) := by
  have e1 : (fun k => if k = a then some x else if k = b then some y else m k) = fun k => if k = a then some x else (fun k => if k = b then some y else m k) k := rfl
  rw [e1, up_self hb, up_self ha]; exact F
theorem up3 (F : Fr h₀ L h m) (ha : m a = some x) (hb : m b = some y) (hc : m c = some z) : Fr h₀ L h (fun k => if k = a then some x else if k = b then some y else if k = c then some z else m k) := by
  have e : (fun k => if k = a then some x else if k = b then some y else if k = c then some z else m k) = m := by
    funext k
    by_cases h1 : k = a
    · rw [if_pos h1, h1]; exact ha.symm
    rw [if_neg h1]
    by_cases h2 : k = b
    · rw [if_pos h2, h2]; exact hb.symm
    rw [if_neg h2]
    by_cases h3 : k = c
    · rw [if_pos h3, h3]; exact hc.symm
    rw [if_neg h3]
  rw [e]; exact F
theorem up4 (F : Fr h₀ L h m) (ha : m a = some x) (hb : m b = some y) (hc : m c = some z) (hd : m d = some u) : Fr h₀ L h (fun k => if k = a then some x else if k = b then some y else if k = c then some z else if k = d then some u else m k) := by
  have e : (fun k => if k = a then some x else if k = b then some y else if k = c then some z else if k = d then some u else m k) = m := by
    funext k
    by_cases h1 : k = a
    · rw [if_pos h1, h1]; exact ha.symm
    rw [if_neg h1]
    by_cases h2 : k = b
    · rw [if_pos h2, h2]; exact hb.symm
    rw [if_neg h2]
    by_cases h3 : k = c
    · rw [if_pos h3, h3]; exact hc.symm
    rw [if_neg h3]
    by_cases h4 : k = d
    · rw [if_pos h4, h4]; exact hd.symm
    rw [if_neg h4]
  rw [e]; exact F
theorem up5 (F : Fr h₀ L h m) (ha : m a = some x) (hb : m b = some y) (hc : m c = some z) (hd : m d = some u) (he : m e = some v) : Fr h₀ L h (fun k => if k = a then some x else if k = b then some y else if k = c then some z else if k = d then some u else if k = e then some v else m k) := by
  have e' : (fun k => if k = a then some x else if k = b then some y else if k = c then some z else if k = d then some u else if k = e then some v else m k) = m := by
    funext k
    by_cases h1 : k = a
    · rw [if_pos h1, h1]; exact ha.symm
    rw [if_neg h1]
    by_cases h2 : k = b
    · rw [if_pos h2, h2]; exact hb.symm
    rw [if_neg h2]
    by_cases h3 : k = c
    · rw [if_pos h3, h3]; exact hc.symm
    rw [if_neg h3]
    by_cases h4 : k = d
    · rw [if_pos h4, h4]; exact hd.symm
    rw [if_neg h4]
    by_cases h5 : k = e
    · rw [if_pos h5, h5]; exact he.symm
    rw [if_neg h5]
  rw [e']; exact F
theorem up6 (F : Fr h₀ L h m) (ha : m a = some x) (hb : m b = some y) (hc : m c = some z) (hd : m d = some u) (he : m e = some v) (hf : m f = some w) : Fr h₀ L h (fun k => if k = a then some x else if k = b then some y else if k = c then some z else if k = d then some u else if k = e then some v else if k = f then some w else m k) := by
  have e' : (fun k => if k = a then some x else if k = b then some y else if k = c then some z else if k = d then some u else if k = e then some v else if k = f then some w else m k) = m := by
    funext k
    by_cases h1 : k = a
    · rw [if_pos h1, h1]; exact ha.symm
    rw [if_neg h1]
    by_cases h2 : k = b
    · rw [if_pos h2, h2]; exact hb.symm
    rw [if_neg h2]
    by_cases h3 : k = c
    · rw [if_pos h3, h3]; exact hc.symm
    rw [if_neg h3]
    by_cases h4 : k = d
    · rw [if_pos h4, h4]; exact hd.symm
    rw [if_neg h4]
    by_cases h5 : k = e
    · rw [if_pos h5, h5]; exact he.symm
    rw [if_neg h5]
    by_cases h6 : k = f
    · rw [if_pos h6, h6]; exact hf.symm
    rw [if_neg h6]
  rw [e']; exact F
end
end Mine
open PySem PySem.W PySem.Calls PyProof.Rows
set_option Elab.async false
set_option maxRecDepth 100000
set_option maxHeartbeats 8000000
namespace Mine
section
variable {prog : Program} {w : World} {A : Around} {E : Value → Shared → Prop} {s : Shared} {env : Env} {h₀ : Heap} {x : Str} {body : List Stmt} {Q : Flow → Shared → Prop}
/-- where a turn of a loop ends: the iterator stands in the ledger's head -/
def TurnR (s : Shared) (h₀ : Heap) (L I : Addr) (oI : Obj) (J : (Str → Option Value) → List (Addr × Obj) → Prop) (Q : Flow → Shared → Prop) (f : Flow) (s₂ : Shared) : Prop :=
  match f with
  | .ret v => Q (.ret v) s₂
  | .brk => Q .next s₂
  | _ => ∃ h' tk' m' news', s₂ = { s with heap := h', toks := tk' } ∧ Fr h₀ L h' m' ∧ News h₀ L h' ((I, oI) :: news') ∧ (∀ p ∈ news', p.1 ≠ I) ∧ J m' news'
theorem TurnR.next {L I : Addr} {oI : Obj} {J : (Str → Option Value) → List (Addr × Obj) → Prop} {h' : Heap} {tk' : Nat} {m' : Str → Option Value} (news' : List (Addr × Obj))
    (F : Fr h₀ L h' m') (N : News h₀ L h' ((I, oI) :: news')) (ha : ∀ p ∈ news', p.1 ≠ I) (hj : J m' news') : TurnR s h₀ L I oI J Q .next { s with heap := h', toks := tk' } :=
  ⟨h', tk', m', news', rfl, F, N, ha, hj⟩
theorem loop_range {r : Addr} {a₀ b₀ : Int} {t₀ u₀ v₀ : Tok} {n : Nat} {m₀ : Str → Option Value} {news : List (Addr × Obj)}
    (J : Nat → (Str → Option Value) → List (Addr × Obj) → Prop)
    (hh : A.handled = none) (hr : IsRange s.heap r a₀ b₀ 1 t₀ u₀ v₀) (hsmall : Builtin.Range.small a₀ b₀ 1 = true) (hn : Builtin.Range.rangeSize a₀ b₀ 1 = (n : Int)) (F : Fr h₀ env.locals s.heap m₀) (N : News h₀ env.locals s.heap news) (hJ : J 0 m₀ news)
    (turn : ∀ i t m₁ news₁ h tk I oI, i < n → J i m₁ news₁ → (∀ p ∈ news₁, p.1 ≠ I) → oI.cls = .type "range_iterator" →
      Fr h₀ env.locals h (fun y => if y = x then some (.int (a₀ + (i : Int)) t) else m₁ y) → News h₀ env.locals h ((I, oI) :: news₁) →
      wpAny (model prog w) A (execs body env) (TurnR s h₀ env.locals I oI (J (i + 1)) Q) E { s with heap := h, toks := tk })
    (done : ∀ m₁ news₁ h tk, J n m₁ news₁ → Fr h₀ env.locals h m₁ → News h₀ env.locals h news₁ → Q .next { s with heap := h, toks := tk }) :
    wpAny (model prog w) A (pyIter (.ref r)) (fun it s₂ => LoopAtV prog w A h₀ env x body Q E it s₂) E s := by
  refine wpAny_pyIter_range hr hsmall ?_
  have W : Walks prog w A s.heap.objs.size [s.heap.objs.size] [s.heap.objs.size] n (fun i v => i < n ∧ ∃ t, v = .int (a₀ + i * 1) t)
      (fun i h => IsRangeIter h s.heap.objs.size (a₀ + (i : Nat) * 1) ((n : Int) - (i : Nat)) 1) := (Walks.range hh _ a₀ 1 n).bound
  have hnI : ∀ p ∈ news, p.1 ∉ [s.heap.objs.size] := by
    intro p hp hI
    exact absurd (Heap.lt_size (N p hp).1) ((List.mem_singleton.mp hI) ▸ Nat.lt_irrefl _)
  refine ⟨_, _, _, n, _, _, m₀, news, J, rfl, W, ?_, ?_, hnI, (by show IsRangeIter _ _ _ _ _; rw [hn]; simpa using Heap.get?_push_size _ rfl), F.push _, (fun p hp => ⟨Heap.get?_push_of_some _ (N p hp).1, (N p hp).2⟩), hJ, ?_, ?_⟩
  · intro hm
    exact absurd F.ns.lt ((List.mem_singleton.mp hm) ▸ Nat.lt_irrefl _)
  · intro b hb
    rw [List.mem_singleton.mp hb]
    exact next_is_new F
  · rintro i v m₁ news₁ s₁ own ⟨h, tk, rfl⟩ hin ⟨_, t, rfl⟩ hJ₁ hoff hown _ hall hst F₁ N₁
    have hIt : IsRangeIter h s.heap.objs.size (a₀ + ((i + 1 : Nat) : Int) * 1) ((n : Int) - ((i + 1 : Nat) : Int)) 1 := hst
    have hnone : h₀.get? s.heap.objs.size = none := next_is_new F
    obtain ⟨oI, hoI, hcI⟩ : ∃ oI, h.get? s.heap.objs.size = some oI ∧ oI.cls = .type "range_iterator" := ⟨_, hIt, rfl⟩
    have hio := hall _ (.head _) hnone _ hoI
    have hone : ∀ p ∈ own, p = (s.heap.objs.size, oI) := own_one hown (fun b hb => .inl (List.mem_singleton.mp hb)) hoI N₁
    have N₂ := news_one hio N₁
    have hne : ∀ p ∈ news₁, p.1 ≠ s.heap.objs.size := fun p hp e => hoff p hp (e ▸ .head _)
    have F₂ : Fr h₀ env.locals h (fun y => if y = x then some (.int (a₀ + (i : Int)) t) else m₁ y) := by simpa using F₁
    refine wpAny_mono (turn i t m₁ news₁ h tk _ _ hin hJ₁ hne hcI F₂ N₂) (fun f s₂ q => ?_) fun _ _ e => e
    have fin : (∃ h' tk' m' news', s₂ = { s with heap := h', toks := tk' } ∧ Fr h₀ env.locals h' m' ∧ News h₀ env.locals h' ((s.heap.objs.size, oI) :: news') ∧ (∀ p ∈ news', p.1 ≠ s.heap.objs.size) ∧ J (i + 1) m' news') →
        LoopStepU h₀ env.locals [s.heap.objs.size] own (J (i + 1)) { s with heap := h, toks := tk } .next s₂ := by
      rintro ⟨h', tk', m', news', rfl, F', N', ha, hj⟩
      refine ⟨rfl, h', tk', m', news', rfl, F', ?_, fun p hp hq => ha p hp (List.mem_singleton.mp hq), hj⟩
      intro p hp
      rcases List.mem_append.mp hp with h1 | h1
      · rw [hone p h1]; exact N' _ (.head _)
      · exact N' _ (.tail _ h1)
    cases f with
    | ret v => exact .ret q
    | brk => exact .brk q
    | next => exact .next (fin q)
    | cont => exact .cont (fin q)
  · rintro h' tk m' news' F' N' _ hj
    exact done m' news' h' tk hj F' N'
end
end Mine
open PySem PySem.W PySem.Calls PyProof.Rows
set_option Elab.async false
set_option maxRecDepth 100000
set_option maxHeartbeats 8000000
namespace Mine
open PyProof.Rows.LCt PyProof.Rows.LCg
section
variable {prog : Program} {w : World} {A : Around} {s : Shared} {h₀ : Heap} {L : Addr} {m : Str → Option Value} {env : Env}
theorem compEnd_mono {s₁ s₂ : Shared} {I C D : Addr} {oI oC oD : Obj} {S : List (Addr × Obj) → Prop} {r r' : Value → List (Addr × Obj) → Prop} {y : Value} (hr : ∀ y n, r y n → r' y n) (h : CompEnd h₀ L m s₁ I oI C oC D oD S r y s₂) : CompEnd h₀ L m s₁ I oI C oC D oD S r' y s₂ := by
  obtain ⟨h', tk, news', e, F, N, off, hS, q⟩ := h
  exact ⟨h', tk, news', e, F, N, off, hS, hr _ _ q⟩
/-- a comprehension with one test, its list told by the number of items that are done -/
theorem rest_ind {ct elt : Expr} {x : Str} {scope : Scope} {cl : List (Str × Addr)} {S : List (Addr × Obj) → Prop} {P : Nat → Value → Prop} {Fin : List Value → List (Addr × Obj) → Prop} {n : Nat} {news : List (Addr × Obj)} (ys : Nat → List Value)
    (h0 : ys 0 = []) (fin : Fin (ys n) news)
    (step : ∀ i, i < n → ∀ v I oI C oC D m₂ h tk (E' : Value → Shared → Prop), P i v → NsObj oC m₂ → m₂ x = some v → Fr h₀ L h m → News h₀ L h ((I, oI) :: (C, oC) :: (D, lst (ys i)) :: news) → Off3 I C D news → ((@Ne Nat I C) ∧ (@Ne Nat I D) ∧ (@Ne Nat C D)) →
      wpAny (model prog w) A (isTrue ct (compEnvC scope cl C env) (eval ct (compEnvC scope cl C env))) (fun ok s' => if ok = true then
        wpAny (model prog w) A (eval elt (compEnvC scope cl C env)) (CompEnd h₀ L m { s with heap := h, toks := tk } I oI C oC D (lst (ys i)) S (fun y news' => news' = news ∧ ys i ++ [y] = ys (i + 1))) E' s'
        else CompEnd h₀ L m { s with heap := h, toks := tk } I oI C oC D (lst (ys i)) S (fun _ news' => news' = news ∧ ys i = ys (i + 1)) Value.none s') E' { s with heap := h, toks := tk }) :
    CompRestT prog w A h₀ L m env ct elt x scope cl s S P Fin n 0 [] news := by
  have key : ∀ k i, i + k = n → CompRestT prog w A h₀ L m env ct elt x scope cl s S P Fin k i (ys i) news := by
    intro k
    induction k with
    | zero =>
      intro i hi
      rw [Nat.add_zero] at hi
      subst hi
      exact CompRestT.zero fin
    | succ k ih =>
      intro i hi
      refine CompRestT.succ ?_
      intro v I oI C oC D m₂ h tk E' hv hC hx F N off ne
      have next := ih (i + 1) (by omega)
      refine wpAny_mono (step i (by omega) v I oI C oC D m₂ h tk E' hv hC hx F N off ne) (fun ok s' q => ?_) fun _ _ e => e
      cases ok with
      | true =>
        simp only [if_true] at q ⊢
        refine wpAny_mono q (fun y s'' q' => compEnd_mono ?_ q') fun _ _ e => e
        rintro y n' ⟨rfl, e⟩
        rw [e]; exact next
      | false =>
        simp only [Bool.false_eq_true, if_false] at q ⊢
        refine compEnd_mono ?_ q
        rintro y n' ⟨rfl, e⟩
        rw [e]; exact next
  have := key n 0 (Nat.zero_add n)
  rw [h0] at this
  exact this
end
end Mine
open PySem PySem.W PySem.Calls PyProof.Rows
set_option Elab.async false
set_option maxRecDepth 100000
set_option maxHeartbeats 8000000
namespace Mine
def epochOf (items new : Array Value) (e : Nat) : Nat := if (new.size == items.size) = true then e else e + 1
theorem mapSeq_all (items new : Array Value) (e : Nat) (f : Array Value → Array Value) (hf : f items = new) : Obj.mapSeq f (listOf items e) = listOf new (epochOf items new e) := by
  subst hf
  rfl
section
variable {prog : Program} {w : World} {A : Around} {E : Value → Shared → Prop} {s : Shared} {h₀ : Heap} {L : Addr} {m : Str → Option Value}
theorem all_kept (items new : Array Value) : items.extract 0 (0 : Int).toNat ++ new ++ items.extract (Max.max (0 : Int) (items.size : Int)).toNat items.size = new := by
  have e : (Max.max (0 : Int) (items.size : Int)).toNat = items.size := by omega
  rw [e]
  simp
open Builtin.List in
/-- xs[:] = ys -/
theorem store_slice {l D : Addr} {items new : Array Value} {e eD : Nat} {led led' : List (Addr × Obj)} {Q : Unit → Shared → Prop} (F : Fr h₀ L s.heap m) (N : News h₀ L s.heap led) (U : Upd l (listOf items e) (listOf new (epochOf items new e)) led led')
    (hD : (D, listOf new eD) ∈ led) (hne : l ≠ D) (hsz : items.size + new.size ≤ sizeLine) (h : ∀ h', Fr h₀ L h' m → News h₀ L h' led' → Q () { s with heap := h' }) :
    wpAny (model prog w) A (setItem (.ref l) (.ref s.heap.objs.size) (.ref D)) Q E { s with heap := s.heap.push { cls := .type "slice", data := .fields #[.none, .none, .none] } } := by
  have F1 : Fr h₀ L (s.heap.push { cls := .type "slice", data := .fields #[.none, .none, .none] }) m := F.push _
  have N1 : News h₀ L (s.heap.push { cls := .type "slice", data := .fields #[.none, .none, .none] }) led := fun p hp => ⟨Heap.get?_push_of_some _ (N p hp).1, (N p hp).2⟩
  have hs : (s.heap.push { cls := .type "slice", data := .fields #[.none, .none, .none] }).IsSliceOf s.heap.objs.size .none .none .none := Heap.IsSliceOf.new _ _ _ _
  generalize s.heap.push { cls := .type "slice", data := .fields #[.none, .none, .none] } = g at F1 N1 hs ⊢
  generalize s.heap.objs.size = sl at hs ⊢
  obtain ⟨pre, post, rfl, rfl, a, b⟩ := U.split
  have hl := N1 (l, listOf items e) (List.mem_append.mpr (.inr (.head _)))
  have hDg := (N1 _ hD).1
  have hli : (Shared.mk g s.gens s.drawn s.toks s.os).heap.IsList l items := ⟨_, hl.1, rfl, _, rfl⟩
  obtain ⟨os, hos, hcs, hds⟩ := id hs
  have hTs : Shared.TypeIs (Shared.mk g s.gens s.drawn s.toks s.os) (.ref sl) "slice" := ⟨os, hos, hcs⟩
  have hTD : Shared.TypeIs (Shared.mk g s.gens s.drawn s.toks s.os) (.ref D) "list" := ⟨_, hDg, rfl⟩
  unfold setItem
  refine wpAny_holding ?_
  refine wpAny_bind (wpAny_sequenceKey hli.typeIs (by decide) ?_)
  refine wpAny_bind (wpAny_callSpecial?_slot (name := Str.ofString "__setitem__") hli.typeIs slot_list_setitem
    (wpAny_call_entry slot_list_setitem hli.typeIs entry_list_setitem ?_ (args_list_setitem _ _ _)))
  show wpAny _ _ (listSubscript? (.ref sl) >>= _) _ _ _
  refine wpAny_bind ?_
  unfold listSubscript?
  refine wpAny_bind (wpAny_specialOf hTs slice_no_index ?_)
  simp only [Option.isNone_none, if_true]
  refine wpAny_pure ?_
  show wpAny _ _ (typeOf (.ref sl) >>= _) _ _ _
  refine wpAny_bind (wpAny_typeOf hTs ?_)
  rw [if_neg (by decide)]
  refine wpAny_bind ?_
  unfold listSliceParts
  refine wpAny_bind (wpAny_field hos hds rfl ?_)
  refine wpAny_bind (wpAny_pure ?_)
  rw [if_neg (show ¬ ((Value.none == rawInt 0) = true) from Bool.false_ne_true)]
  refine wpAny_bind (wpAny_field hos hds rfl ?_)
  refine wpAny_bind (wpAny_pure ?_)
  refine wpAny_bind (wpAny_field hos hds rfl ?_)
  refine wpAny_bind (wpAny_pure ?_)
  refine wpAny_pure ?_
  dsimp only
  have hnd : ¬ (listSameRef (Value.ref l) (Value.ref D) = true) := by
    show ¬ ((l == D) = true)
    simpa using hne
  rw [if_neg hnd]
  refine wpAny_bind ?_
  unfold listAllItems
  refine wpAny_bind (wpAny_typeOf hTD ?_)
  rw [if_pos (by decide)]
  have items_of : ∀ (a : Addr) (xs : Array Value) (n : Nat) (Q' : Array Value → Shared → Prop) (E' : Value → Shared → Prop) (A' : Around), g.get? a = some (listOf xs n) → Q' xs (Shared.mk g s.gens s.drawn s.toks s.os) → wpAny (model prog w) A' (listItems (.ref a)) Q' E' (Shared.mk g s.gens s.drawn s.toks s.os) := by
    intro a xs n Q' E' A' ha hq
    unfold listItems
    refine wpAny_bind ?_
    unfold seqItems?
    refine wpAny_bind (wpAny_load ha ?_)
    exact wpAny_pure (wpAny_pure hq)
  first
    | (refine items_of D new eD _ _ _ hDg ?_)
    | (refine wpAny_bind (items_of D new eD _ _ _ hDg ?_); refine wpAny_pure ?_)
  refine wpAny_bind (items_of l items e _ _ _ hl.1 ?_)
  have hind : sliceIndices Value.none Value.none Value.none items.size = pure (0, (items.size : Int), 1) := rfl
  rw [hind]
  refine wpAny_bind (wpAny_pure ?_)
  dsimp only
  rw [if_pos (by decide)]
  refine wpAny_bind (wpAny_rule ?_)
  rw [if_neg (show ¬ (listTooLong (items.size + new.size) = true) from by unfold listTooLong; simp only [decide_eq_true_eq]; omega)]
  refine wpAny_bind ?_
  show wpAny _ _ (updateSeq l _) _ _ _
  refine wpAny_updateSeq (o := listOf items e) hl.1 rfl ?_
  refine wpAny_bind (wpAny_letGo ?_)
  have hfree : (Obj.mapSeq (fun xs => xs.extract 0 (0 : Int).toNat ++ new ++ xs.extract (Max.max (0 : Int) (items.size : Int)).toNat xs.size) (listOf items e)) = listOf new (epochOf items new e) := mapSeq_all items new e _ (all_kept items new)
  have hg' : (g.update l (Obj.mapSeq (fun xs => xs.extract 0 (0 : Int).toNat ++ new ++ xs.extract (Max.max (0 : Int) (items.size : Int)).toNat xs.size))).get? l = some (listOf new (epochOf items new e)) := by
    rw [Heap.get?_update_self _ hl.1 (by rw [hfree]; rfl), hfree]
  refine wpAny_pure ⟨.none, rfl, wpAny_pure (h _ (F1.change (Heap.SameBut.update ..) hl.2.1 hl.2.2) (news_set N1 a b (Heap.SameBut.update ..) hg'))⟩
end
end Mine
open PySem PySem.W PySem.Calls PyProof.Rows
set_option Elab.async false
set_option maxRecDepth 100000
set_option maxHeartbeats 8000000
namespace Mine
section
variable {prog : Program} {w : World} {A : Around} {E : Value → Shared → Prop} {s : Shared} {env : Env} {h₀ : Heap} {target : Expr} {body : List Stmt} {Q : Flow → Shared → Prop}
/-- where a turn ends that leaves the ledger as it is -/
def TurnU (s : Shared) (h₀ : Heap) (L : Addr) (all : List (Addr × Obj)) (J : (Str → Option Value) → Prop) (Q : Flow → Shared → Prop) (f : Flow) (s₂ : Shared) : Prop :=
  match f with
  | .ret v => Q (.ret v) s₂
  | .brk => Q .next s₂
  | _ => ∃ h' tk' m', s₂ = { s with heap := h', toks := tk' } ∧ Fr h₀ L h' m' ∧ News h₀ L h' all ∧ J m'
theorem TurnU.next {L : Addr} {all : List (Addr × Obj)} {J : (Str → Option Value) → Prop} {h' : Heap} {tk' : Nat} {m' : Str → Option Value} (F : Fr h₀ L h' m') (N : News h₀ L h' all) (hj : J m') : TurnU s h₀ L all J Q .next { s with heap := h', toks := tk' } :=
  ⟨h', tk', m', rfl, F, N, hj⟩
theorem unr_ind {P : Nat → Value → Prop} {fp : List Addr} {n : Nat} {m : Str → Option Value} {led : List (Addr × Obj)} (J : Nat → (Str → Option Value) → Prop) (h0 : J 0 m)
    (turn : ∀ i, i < n → ∀ v m₁ h₁ tk₁ own, P i v → J i m₁ → Fr h₀ env.locals h₁ m₁ → News h₀ env.locals h₁ (led ++ own) →
      wpAny (model prog w) A (assign target env v) (fun _ s₂ => wpAny (model prog w) A (execs body env) (TurnU s h₀ env.locals (led ++ own) (J (i + 1)) Q) E s₂) E { s with heap := h₁, toks := tk₁ })
    (done : ∀ m₁ h' tk, J n m₁ → Fr h₀ env.locals h' m₁ → News h₀ env.locals h' led → Q .next { s with heap := h', toks := tk }) :
    Unr prog w A E h₀ env target body Q P fp s n 0 m led := by
  have key : ∀ k i m₁, i + k = n → J i m₁ → Unr prog w A E h₀ env target body Q P fp s k i m₁ led := by
    intro k
    induction k with
    | zero =>
      intro i m₁ hi hJ
      rw [Nat.add_zero] at hi
      subst hi
      exact Unr.zero fun h' tk F N => done m₁ h' tk hJ F N
    | succ k ih =>
      intro i m₁ hi hJ
      refine Unr.succ ?_
      intro v h₁ tk₁ own hP _ F N
      have N' : News h₀ env.locals h₁ (led ++ own) := fun p hp => N p ((List.mem_append.mp hp).elim (fun q => List.mem_append.mpr (.inr q)) fun q => List.mem_append.mpr (.inl q))
      refine wpAny_mono (turn i (by omega) v m₁ h₁ tk₁ own hP hJ F N') (fun _ s₂ q => wpAny_mono q (fun f s₃ q' => ?_) fun _ _ e => e) fun _ _ e => e
      have fin : (∃ h' tk' m', s₃ = { s with heap := h', toks := tk' } ∧ Fr h₀ env.locals h' m' ∧ News h₀ env.locals h' (led ++ own) ∧ J (i + 1) m') →
          LoopStep2 h₀ env.locals own led (Unr prog w A E h₀ env target body Q P fp s k (i + 1)) { s with heap := h₁, toks := tk₁ } .next s₃ := by
        rintro ⟨h', tk', m', rfl, F', N', hj⟩
        exact ⟨rfl, h', tk', m', led, rfl, F', fun p hp => N' p ((List.mem_append.mp hp).elim (fun q => List.mem_append.mpr (.inr q)) fun q => List.mem_append.mpr (.inl q)), rfl, ih (i + 1) m' (by omega) hj⟩
      cases f with
      | ret v => exact .ret q'
      | brk => exact .brk q'
      | next => exact .next (fin q')
      | cont => exact .cont (fin q')
  exact key n 0 m (Nat.zero_add n) h0
end
end Mine
open PySem PySem.W PySem.Calls PyProof.Rows
set_option Elab.async false
set_option maxRecDepth 100000
set_option maxHeartbeats 8000000
set_option pp.maxSteps 1500
set_option pp.deepTerms false
namespace Mine
open PySem.Sre PySem.Builtin PySem.Builtin.Re
def nameCode : Array Nat := #[14, 10, 4, 1, 1, 22, 0, 31, 16, 127, 0, 13, 7, 22, 0, 31, 16, 127, 0, 1]
def valueCode : Array Nat := #[14, 14, 4, 1, 1, 9, 4294966783, 0, 0, 2147483648, 0, 0, 0, 0, 0, 13, 11, 9, 4294966783, 0, 0, 2147483648, 0, 0, 0, 0, 0, 1]
def Prints (x : Str) : Prop := ∀ c ∈ x.cps, 32 ≤ c ∧ c < 127
theorem name_set {c : Nat} (h1 : 32 ≤ c) (h2 : c < 127) (seen : Sre.Seen) : ∃ seen', inSet nameCode c nameCode.size 5 true seen = .ok (false, seen') := by
  have e1 : (decide (0 ≤ c) && decide (c ≤ 31)) = false := by simp; omega
  have e2 : (c == 127) = false := beq_eq_false_iff_ne.mpr (by omega)
  have e : inSet nameCode c 20 5 true seen = if (decide (0 ≤ c) && decide (c ≤ 31)) = true then .ok (true, seen.add 22) else if (c == 127) = true then .ok (true, (seen.add 22).add 16) else .ok (!true, ((seen.add 22).add 16).add 0) := by rfl
  refine ⟨((seen.add 22).add 16).add 0, ?_⟩
  show inSet nameCode c 20 5 true seen = _
  rw [e, e1, e2]
  rfl
theorem value_set {c : Nat} (h1 : 32 ≤ c) (h2 : c < 127) (seen : Sre.Seen) : ∃ seen', inSet valueCode c valueCode.size 5 true seen = .ok (false, seen') := by
  have e1 : (decide (c < 256) && (valueCode.getD (5 + (1 + c / 32)) 0).testBit (c % 32)) = false := by
    have : ∀ u : Fin 127, 32 ≤ u.1 → (decide (u.1 < 256) && (valueCode.getD (5 + (1 + u.1 / 32)) 0).testBit (u.1 % 32)) = false := by decide +kernel
    exact this ⟨c, h2⟩ h1
  have e : inSet valueCode c 28 5 true seen = if (decide (c < 256) && (valueCode.getD (5 + (1 + c / 32)) 0).testBit (c % 32)) = true then .ok (true, seen.add 9) else .ok (!true, (seen.add 9).add 0) := by rfl
  refine ⟨(seen.add 9).add 0, ?_⟩
  show inSet valueCode c 28 5 true seen = _
  rw [e, e1]
  rfl
theorem admitted_none (m : M) (hc : ∀ i < m.lim, ∀ seen, ∃ seen', inSet m.code (m.text.getD i 0) m.code.size 5 true seen = .ok (false, seen')) :
    ∀ fuel s seen, ∃ seen', M.admitted m fuel s seen = .ok (none, seen')
  | 0, _, seen => ⟨seen, rfl⟩
  | fuel + 1, s, seen => by
    unfold M.admitted
    by_cases h : s ≥ m.lim
    · rw [if_pos h]; exact ⟨seen, rfl⟩
    · rw [if_neg h]
      obtain ⟨seen', e⟩ := hc s (by omega) seen
      rw [e]
      exact admitted_none m hc fuel (s + 1) seen'
/-- a machine that has said no, with nothing left to do -/
def SaidNo (m : M) : Prop := m.answer = some false ∧ m.frames = [] ∧ m.outcome = none
theorem attempt_no (m : M) (s : Nat) (first : Bool) (hf : m.hasFirstSet = true) (hfr : m.frames = []) (ho : m.outcome = none)
    (hc : ∀ i < m.lim, ∀ seen, ∃ seen', inSet m.code (m.text.getD i 0) m.code.size 5 true seen = .ok (false, seen')) : SaidNo (m.attemptFrom s first) := by
  unfold M.attemptFrom
  rw [hf]
  obtain ⟨seen', e⟩ := admitted_none m hc (m.lim + 1 - s) s m.seen
  rw [e]
  exact ⟨rfl, hfr, ho⟩
theorem search_no {code : Array Nat} (hcode : code = nameCode ∨ code = valueCode) {x : Str} (hx : Prints x) : SaidNo (forSearch code x.cps 0 0 x.cps.size false) := by
  have hset : ∀ i < x.cps.size, ∀ seen, ∃ seen', inSet code (x.cps.getD i 0) code.size 5 true seen = .ok (false, seen') := by
    intro i hi seen
    have hm : x.cps.getD i 0 ∈ x.cps := by
      simp [Array.getD, hi]
    obtain ⟨a, b⟩ := hx _ hm
    rcases hcode with rfl | rfl
    · exact name_set a b seen
    · exact value_set a b seen
  unfold forSearch
  dsimp only
  by_cases hcond : (decide (0 > x.cps.size) || decide (x.cps.size - 0 < (header code).1)) = true
  · rw [if_pos hcond]; exact ⟨rfl, rfl, rfl⟩
  · rw [if_neg hcond]
    refine attempt_no _ _ _ ?_ rfl rfl hset
    rcases hcode with rfl | rfl
    · rfl
    · rfl
theorem no_ends {m : M} (h : SaidNo m) : ∃ m', reDrive (2 ^ 64) m = pure m' ∧ m'.outcome = some .failed := by
  obtain ⟨a, b, c⟩ := h
  have e1 : m.step = { m with outcome := some .failed } := by
    unfold M.step
    rw [c, a, b]
    rfl
  have e2 : m.runFor reTurnSteps = { m with outcome := some .failed } := by
    show (if m.outcome.isSome then m else M.runFor 3 m.step) = _
    rw [c, e1]
    rfl
  refine ⟨{ m with outcome := some .failed }, ?_, rfl⟩
  show (if (m.runFor reTurnSteps).outcome.isSome then pure (m.runFor reTurnSteps) else do rule "sre.turn"; reDrive (2 ^ 64 - 1) (m.runFor reTurnSteps)) = _
  rw [e2]
  rfl
section
variable {MM : Model} {A : Around} {E : Value → Shared → Prop} {s : Shared}
theorem run_no {m : M} (h : SaidNo m) {Q : Option M → Shared → Prop} (hq : Q none s) : wpAny MM A (reRunToEnd m) Q E s := by
  obtain ⟨m', e, ho⟩ := no_ends h
  unfold reRunToEnd
  rw [e]
  refine wpAny_bind (wpAny_pure ?_)
  refine wpAny_bind (wpAny_forIn_list _ (fun _ _ s' => s' = s) _ (fun i rest b s' hs => ?_) (fun b s' hs => ?_) _ _ rfl)
  · subst hs
    split
    · exact wpAny_bind (wpAny_rule (wpAny_pure rfl))
    · exact wpAny_pure rfl
  · subst hs
    rw [ho]
    exact wpAny_pure hq
end
theorem pat_attrs : PlainAttrs "re.Pattern" :=
  ⟨⟨"object.__getattribute__", by rw [typeLookup_type, builtinLookup_eq_fast]; kernel_rfl, by decide +kernel⟩, by rw [typeLookup_type, builtinLookup_eq_fast]; kernel_rfl⟩
theorem pat_slot : Slot "re.Pattern" "search" "re.Pattern.search" :=
  .of (owner := "re.Pattern") (n := "search") (by rw [typeLookup_type, builtinLookup_eq_fast]; kernel_rfl) (by decide +kernel) (by decide +kernel) (by decide +kernel)
    (by first | exact .inl (by decide +kernel) | exact .inr (by decide +kernel)) (by rw [isSubtype_type]; kernel_rfl)
theorem pat_type : typeOf (.builtin "re.Pattern.search") = pure (.type "method_descriptor") := by show builtinType _ = _; rw [builtinType_eq_fast]; kernel_rfl
theorem pat_entry : entryFor table "re.Pattern.search" = some Builtin.«re.Pattern.search» := entryFor_of_tree (by kernel_rfl)
theorem pat_args (a b : Value) : argsOk "re.Pattern.search" ⟨[a, b], []⟩ := by
  unfold argsOk
  kernel_rfl
section
variable {prog : Program} {w : World} {A : Around} {E : Value → Shared → Prop} {s : Shared}
theorem pat_method {M : Model} {P : Addr} {o : Obj} {pl : Sem Bool} {Q : Value × List Value → Shared → Prop} (ho : s.heap.get? P = some o) (hc : o.cls = .type "re.Pattern") (hd : o.dict = none)
    (h : Q (.builtin "re.Pattern.search", [.ref P]) s) : wpAny M A (getMethod (.ref P) "search" pl) Q E s :=
  getMethod_builtin (T := "re.Pattern") ⟨o, ho, hc⟩ pat_attrs pat_slot pat_type (fun _ e => by cases e; exact ⟨o, ho, hd⟩) h
theorem named_eq (x : Str) (t : Tok) : reNamed "re.Pattern.search" "search" ["string", "pos", "endpos"] 1 [.str x t] [] = pure [some (.str x t), none, none] := by rfl
theorem pat_meets {P T : Addr} {v0 v1 v3 v4 : Value} {t2 t6 : Tok} {xs : Array Value} {nx : Nat} {x : Str} {t : Tok} {code : Array Nat} {d1 d2 : Option Addr} {c2 : Value} {s1 s2 : Array (Option Value)}
    (hcode : code = nameCode ∨ code = valueCode) (hxs : (xs.map reRawOf).map (·.toNat) = code) (hx : Prints x) (hxl : x.cps.size ≤ 1000) :
    Meets («re.Pattern.search» ⟨[.ref P, .str x t], []⟩) (fun _ R s => s.heap.get? P = some ⟨.type "re.Pattern", d1, .fields #[v0, v1, .int 0 t2, v3, v4, .ref T, .int 0 t6], s1⟩ ∧ s.heap.get? T = some ⟨c2, d2, .seq xs nx, s2⟩ ∧ R (.ok (.ret .none)) s) := by
  refine .of_wp fun prog w A R s hS => ?_
  obtain ⟨hP, hT, h⟩ := hS
  unfold «re.Pattern.search»
  refine wpAny_bind ?_
  unfold reTarget
  dsimp only
  rw [named_eq]
  refine wpAny_bind (wpAny_pure ?_)
  dsimp only
  refine wpAny_bind (wpAny_pure ?_)
  refine wpAny_bind (wpAny_pure ?_)
  refine wpAny_bind (wpAny_fieldsOf hP rfl ?_)
  have hk : reTextOf (.str x t) = pure (x.cps, 0) := rfl
  rw [hk]
  refine wpAny_bind (wpAny_pure ?_)
  dsimp only
  have g6 : (#[v0, v1, Value.int 0 t2, v3, v4, Value.ref T, Value.int 0 t6] : Array Value).getD 6 Value.none = .int 0 t6 := rfl
  have g5 : (#[v0, v1, Value.int 0 t2, v3, v4, Value.ref T, Value.int 0 t6] : Array Value).getD 5 Value.none = .ref T := rfl
  have g2 : (#[v0, v1, Value.int 0 t2, v3, v4, Value.ref T, Value.int 0 t6] : Array Value).getD 2 Value.none = .int 0 t2 := rfl
  rw [g6, g5, g2]
  rw [if_neg (show ¬ ((reRawNat (.int 0 t6) == 0 && (0 : Nat) == 1) = true) from Bool.false_ne_true), if_neg (show ¬ ((reRawNat (.int 0 t6) == 1 && (0 : Nat) == 0) = true) from Bool.false_ne_true)]
  have hn : reNoCollectionInside (.str x t) 0 = pure () := rfl
  rw [hn]
  refine wpAny_bind (wpAny_pure ?_)
  refine wpAny_bind ?_
  show wpAny _ _ (reRawItems (.ref T)) _ _ _
  unfold reRawItems
  refine wpAny_bind ?_
  unfold seqItems?
  refine wpAny_bind (wpAny_load hT ?_)
  refine wpAny_pure ?_
  refine wpAny_pure ?_
  refine wpAny_pure ?_
  dsimp only [Option.getD]
  rw [hxs]
  have e1 : Min.min (Int.toNat 0) x.cps.size = 0 := Nat.zero_min _
  have e2 : Min.min (2 ^ 63 - 1 : Int).toNat x.cps.size = x.cps.size := Nat.min_eq_right (Nat.le_trans hxl (by decide))
  rw [e1, e2]
  unfold reAnswer
  refine wpAny_bind (run_no (search_no hcode hx) ?_)
  exact wpAny_pure ⟨_, rfl, h⟩
theorem pat_call {P T : Addr} {v0 v1 v3 v4 : Value} {t2 t6 : Tok} {xs : Array Value} {nx : Nat} {x : Str} {t : Tok} {code : Array Nat} {d1 d2 : Option Addr} {c2 : Value} {s1 s2 : Array (Option Value)} {Q : Value → Shared → Prop}
    (hcode : code = nameCode ∨ code = valueCode) (hxs : (xs.map reRawOf).map (·.toNat) = code) (hx : Prints x) (hxl : x.cps.size ≤ 1000)
    (hP : s.heap.get? P = some ⟨.type "re.Pattern", d1, .fields #[v0, v1, .int 0 t2, v3, v4, .ref T, .int 0 t6], s1⟩) (hT : s.heap.get? T = some ⟨c2, d2, .seq xs nx, s2⟩) (hq : Q .none s) :
    wpAny (model prog w) A (call (.builtin "re.Pattern.search") [.ref P, .str x t]) Q E s :=
  call_meets pat_slot ⟨_, hP, rfl⟩ pat_entry (pat_args _ _) (pat_meets hcode hxs hx hxl) ⟨hP, hT, hq⟩
/-- both patterns as the top leaves them -/
theorem name_call {x : Str} {t : Tok} {h₀ : Heap} {L : Addr} {m : Str → Option Value} {Q : Value → Shared → Prop} (F : Fr h₀ L s.heap m) (X : (hd.heap_39 w.params).In h₀) (hx : Prints x) (hxl : x.cps.size ≤ 1000) (hq : Q .none s) :
    wpAny (model prog w) A (call (.builtin "re.Pattern.search") [.ref 43, .str x t]) Q E s :=
  pat_call (.inl rfl) (xs := #[.int 14 0, .int 10 0, .int 4 0, .int 1 0, .int 1 0, .int 22 0, .int 0 0, .int 31 0, .int 16 0, .int 127 0, .int 0 0, .int 13 0, .int 7 0, .int 22 0, .int 0 0, .int 31 0, .int 16 0, .int 127 0, .int 0 0, .int 1 0]) (by decide +kernel) hx hxl
    (F.keep _ _ (X 43 _ rfl)) (F.keep _ _ (X 42 _ rfl)) hq
theorem value_call {x : Str} {t : Tok} {h₀ : Heap} {L : Addr} {m : Str → Option Value} {Q : Value → Shared → Prop} (F : Fr h₀ L s.heap m) (X : (hd.heap_39 w.params).In h₀) (hx : Prints x) (hxl : x.cps.size ≤ 1000) (hq : Q .none s) :
    wpAny (model prog w) A (call (.builtin "re.Pattern.search") [.ref 48, .str x t]) Q E s :=
  pat_call (.inr rfl) (xs := #[.int 14 0, .int 14 0, .int 4 0, .int 1 0, .int 1 0, .int 9 0, .int 4294966783 0, .int 0 0, .int 0 0, .int 2147483648 0, .int 0 0, .int 0 0, .int 0 0, .int 0 0, .int 0 0, .int 13 0, .int 11 0, .int 9 0, .int 4294966783 0, .int 0 0, .int 0 0, .int 2147483648 0, .int 0 0, .int 0 0, .int 0 0, .int 0 0, .int 0 0, .int 1 0]) (by decide +kernel) hx hxl
    (F.keep _ _ (X 48 _ rfl)) (F.keep _ _ (X 47 _ rfl)) hq
theorem name_method {M : Model} {h₀ : Heap} {L : Addr} {m : Str → Option Value} {pl : Sem Bool} {Q : Value × List Value → Shared → Prop} {p : Params} (F : Fr h₀ L s.heap m) (X : (hd.heap_39 p).In h₀)
    (h : Q (.builtin "re.Pattern.search", [.ref 43]) s) : wpAny M A (getMethod (.ref 43) "search" pl) Q E s := pat_method (F.keep _ _ (X 43 _ rfl)) rfl rfl h
theorem value_method {M : Model} {h₀ : Heap} {L : Addr} {m : Str → Option Value} {pl : Sem Bool} {Q : Value × List Value → Shared → Prop} {p : Params} (F : Fr h₀ L s.heap m) (X : (hd.heap_39 p).In h₀)
    (h : Q (.builtin "re.Pattern.search", [.ref 48]) s) : wpAny M A (getMethod (.ref 48) "search" pl) Q E s := pat_method (F.keep _ _ (X 48 _ rfl)) rfl rfl h
end
end Mine
open PySem PySem.W PySem.Calls PyProof.Rows
set_option Elab.async false
set_option maxRecDepth 100000
set_option maxHeartbeats 8000000
set_option pp.maxSteps 1500
set_option pp.deepTerms false
namespace Mine
/-- the letters of a number below 64 -/
def apL (v : Nat) : List UInt8 := if v = 0 then [] else if v < 16 then [(65 + v).toUInt8] else [(65 + v / 16).toUInt8, (65 + v % 16).toUInt8]
theorem apL_len (v : Nat) : (apL v).length ≤ 2 := by
  unfold apL
  split
  · decide
  · split <;> exact Nat.le_of_ble_eq_true rfl
theorem apL_step {v : Nat} (h : v < 64) (h0 : v ≠ 0) : apL (v / 16) ++ [(65 + v % 16).toUInt8] = apL v := by
  have : ∀ u : Fin 64, u.1 ≠ 0 → apL (u.1 / 16) ++ [(65 + u.1 % 16).toUInt8] = apL u.1 := by decide
  exact this ⟨v, h⟩ h0
section
open KBy KBc
variable {prog : Program} {w : World} {A : Around} {E : Value → Shared → Prop} {s : Shared} {value slice : PySem.Expr} {t : Tok} {h₀ : Heap} {L : Addr} {m : PySem.Str → Option Value} {news : List (Addr × Obj)} {Q : Value → Shared → Prop}
theorem ap_cut {md : Nat} {t1 t2 : Tok} (hF : Fr h₀ L s.heap m) (hN : News h₀ L s.heap news) (hm : md < 16)
    (h : ∀ h' t' k, Fr h₀ L h' m → News h₀ L h' news → Q (.bytes [(65 + md).toUInt8].toArray t') { s with heap := h', toks := k })
    (hs : subscripted slice false (.bytes #[65, 66, 67, 68, 69, 70, 71, 72, 73, 74, 75, 76, 77, 78, 79, 80] t) (.ref s.heap.objs.size) = operate [.ref s.heap.objs.size, .bytes #[65, 66, 67, 68, 69, 70, 71, 72, 73, 74, 75, 76, 77, 78, 79, 80] t] (getItem (.bytes #[65, 66, 67, 68, 69, 70, 71, 72, 73, 74, 75, 76, 77, 78, 79, 80] t) (.ref s.heap.objs.size)) := by with_unfolding_all rfl)
    (ht : ∀ r, letTemporaryGo value (.bytes #[65, 66, 67, 68, 69, 70, 71, 72, 73, 74, 75, 76, 77, 78, 79, 80] t) r = pure () := by intro _; with_unfolding_all rfl) :
    wpAny (model prog w) A (subscriptTail value slice (.bytes #[65, 66, 67, 68, 69, 70, 71, 72, 73, 74, 75, 76, 77, 78, 79, 80] t) (.ref s.heap.objs.size)) Q E { s with heap := s.heap.push { cls := .type "slice", data := .fields #[.int (md : Int) t1, .int ((md : Int) + 1) t2, .none] } } := by
  refine KBc.slice_K hF hN (ks := _) rfl (.int _ _) (.int _ _) (by decide) (fun h' t' k F' N' _ => ?_) hs ht
  have e : ∀ u : Fin 16, KBy.picked #[65, 66, 67, 68, 69, 70, 71, 72, 73, 74, 75, 76, 77, 78, 79, 80] (some ((u.1 : Nat) : Int)) (some (((u.1 : Nat) : Int) + 1)) = [(65 + u.1).toUInt8].toArray := by decide +kernel
  rw [e ⟨md, hm⟩]
  exact h h' t' k F' N'
end
local macro_rules | `(tactic| walk_at "exec While Name cons nil") => `(tactic| (refine Paused.of ?_))
local macro_rules | `(tactic| walk_at "subscriptTail") => `(tactic| (k_here; (with_reducible show wpAny _ _ (subscriptTail _ (Expr.Slice _ _ none _) (Value.bytes _ _) (Value.ref _)) _ _ _); (with_reducible rename Fr _ _ _ _ => F'); (with_reducible rename News _ _ _ _ => N'); (refine Paused.of ?_)))
local macro_rules | `(tactic| walk_at "binaryOp Add bytes bytes") => `(tactic| (k_here; (refine KBy.add_bytes (by simp only [List.size_toArray, List.length_cons, List.length_nil]; omega) ?_); intro _ _))
def apJ (n : Nat) (news : List (Addr × Obj)) (k : Nat) (m : Str → Option Value) (news' : List (Addr × Obj)) : Prop :=
  (∀ p ∈ news, p ∈ news') ∧ ∃ (v : Nat) (b : List UInt8) (t1 t2 t3 : Tok), m (Str.ofString "num") = some (.int v t1) ∧ m (Str.ofString "val") = some (.bytes b.toArray t2) ∧
    m (Str.ofString "AP") = some (.bytes #[65, 66, 67, 68, 69, 70, 71, 72, 73, 74, 75, 76, 77, 78, 79, 80] t3) ∧ k = v ∧ v < 64 ∧ apL v ++ b = apL n
theorem int2ap_call {w : World} {mean : ExcName → Option Value} {mg mb : Str → Option Value} {dp un : Nat} {gd : Option (List Code)} {cn : Str} {cs : Scope} {a : Addr} {ccd : Value} {cl : List (Str × Addr)} {outer : List Env} {A₀ : Around} {base h₀ : Heap} {L : Addr} {m : Str → Option Value} {news : List (Addr × Obj)} {s : Shared} {Q E : Value → Shared → Prop} {n : Nat} {t : Tok}
  (B : Below A₀ base outer h₀) (F : Fr h₀ L s.heap m) (X : (hd.heap_39 w.params).In h₀) (N : News h₀ L s.heap news) (T : Top hd.view_39 (looseW hd.view_39 [Str.ofString "_name_disallowed_re", Str.ofString "_value_disallowed_re"]) mean mg mb h₀) (hk : cs.kind = .function) (hdp : dp + 1 < recursionLimit) (hu : un + 8 < cLine)
  (h2 : n < 64)
  (hret : ∀ t h' tk', Fr h₀ L h' m → News h₀ L h' news → Q (.bytes (apL n).toArray t) { s with heap := h', toks := tk' }) :
  wpAny (model Challenge.rw_wa0031_01.row.prog w) (ktrTop dp un gd cn cs L a ccd cl outer) (call (.ref 189) [.int (n : Int) t]) Q E s := by
  revert X; k_fill; intro X
  w_on
  refine wpAny_call ?_
  k_dflt (refine' code_def (binds := [(Str.ofString "num", Value.int (n : Int) t)]) ?k1 ?k2 ?k3 ?k4 ?k5 ?kA ?kF ?kK ?k6 ?k7 ?k8 ?k9 ?kB ?_ ?c2 ?c3 ?c4 ?c5; (case kA => exact rfl); (case kF => exact rfl); (case kK => assumption); (case k1 => k_asm); (case k2 => k_asm); (case k3 => k_asm); (case k4 => k_asm); (case k5 => k_asm); (case k6 => k_is); (case k7 => k_is); (case k8 => ktr_room); (case k9 => first | exact BindsTo.of_eq rfl | exact binds_K (by k_in) rfl (by k_is) rfl rfl rfl); (case c5 => decide); (case kB => exact locs rfl); (case c2 => exact rfl); (case c3 => exact rfl); (case c4 => exact rfl); k_whole; intro g' L' h' FG' F' N' B' X' T'; (try dsimp only); (try k_fold))
  k_steps
  refine Paused.mk ?_
  rename_i F1 N1
  rw [show (if (n : Int) < 0 then -(n : Int) else n) = n from by omega] at F1
  refine While_inv (apJ n news) F1 N1 (n₀ := n) ⟨fun _ h => h, n, [], _, _, _, rfl, rfl, rfl, rfl, h2, by simp⟩ ?_
  · rintro k m₁ news₁ h₁ tk₁ F₁ N₁ ⟨hsub, v, b, t1, t2, t3, e1, e2, e3, rfl, hv, hap⟩
    have F₂ := up3 F₁ e1 e2 e3
    clear F₁
    have hb : b.length ≤ 2 := by
      have h1 := congrArg List.length hap
      have h2 := apL_len n
      rw [List.length_append] at h1
      omega
    k_steps
    · refine Paused.mk ?_
      have hm : (k : Int).fmod 16 = ((k % 16 : Nat) : Int) := by
        rw [Int.fmod_eq_emod_of_nonneg _ (by decide)]; omega
      rename_i F' N'
      rw [hm]
      refine ap_cut (s := ⟨_, _, _, _, _⟩) F' N' (by omega) ?_
      intro h' t' k' F' N'
      k_steps
      (with_reducible rename Fr _ _ _ _ => F3)
      (with_reducible rename News _ _ _ _ => N3)
      rw [show (k : Int).fdiv 16 = ((k / 16 : Nat) : Int) from by rw [Int.fdiv_eq_ediv_of_nonneg _ (by decide)]; omega,
        show [(65 + k % 16).toUInt8].toArray ++ b.toArray = ((65 + k % 16).toUInt8 :: b).toArray from by simp] at F3
      refine WhileStep.intro (n' := k / 16) F3 N3 (by omega) ⟨fun p hp => List.mem_cons_of_mem _ (hsub p hp), k / 16, _, _, _, _, rfl, rfl, rfl, rfl, by omega, ?_⟩
      rw [← hap, ← apL_step hv (by omega), List.append_assoc]
      rfl
    · have e : apL k = [] := by rw [show k = 0 from by omega]; rfl
      rw [e, List.nil_append] at hap
      subst hap
      exact hret _ _ _ (by assumption) (cb_drop (by assumption) hsub)
end Mine
open PySem PySem.W PySem.Calls PyProof.Rows
set_option Elab.async false
set_option maxRecDepth 100000
set_option maxHeartbeats 8000000
set_option pp.maxSteps 1500
set_option pp.deepTerms false
namespace Mine
section
open Builtin
/-- the word of a number -/
def wd (n : Nat) : Str := ⟨((apL n).map (·.toNat)).toArray⟩
theorem wd_len (n : Nat) : (wd n).length ≤ 2 := by
  show (((apL n).map (·.toNat)).toArray).size ≤ 2
  rw [List.size_toArray, List.length_map]; exact apL_len n
theorem dec_entry (c : UInt8) (cs : List UInt8) (t t1 : Tok) : «bytes.decode» ⟨[.bytes (c :: cs).toArray t, .str (PySem.Str.ofString "ascii") t1], []⟩ =
    (mkStr (PySem.Str.ofString "utf-8") >>= fun _ => mkStr (PySem.Str.ofString "ascii") >>= fun e => mkStr (PySem.Str.ofString "bytes.decode") >>= fun d =>
    call (.builtin "_codecs.decode.text") [.bytes (c :: cs).toArray t, e, .none, d] >>= fun v => ret v) := by kernel_rfl
theorem dec_road {id : String} (n : Nat) (h : n < 64) : _codecs.decodeRoad id (apL n).toArray (PySem.Str.ofString "ascii") none [] = mkStr (wd n) := by
  have : ∀ u : Fin 64, ∀ id, _codecs.decodeRoad id (apL u.1).toArray (PySem.Str.ofString "ascii") none [] = mkStr (wd u.1) := by
    intro u
    match u with
    | ⟨0, _⟩ => intro id; kernel_rfl
    | ⟨1, _⟩ => intro id; kernel_rfl
    | ⟨2, _⟩ => intro id; kernel_rfl
    | ⟨3, _⟩ => intro id; kernel_rfl
    | ⟨4, _⟩ => intro id; kernel_rfl
    | ⟨5, _⟩ => intro id; kernel_rfl
    | ⟨6, _⟩ => intro id; kernel_rfl
    | ⟨7, _⟩ => intro id; kernel_rfl
    | ⟨8, _⟩ => intro id; kernel_rfl
    | ⟨9, _⟩ => intro id; kernel_rfl
    | ⟨10, _⟩ => intro id; kernel_rfl
    | ⟨11, _⟩ => intro id; kernel_rfl
    | ⟨12, _⟩ => intro id; kernel_rfl
    | ⟨13, _⟩ => intro id; kernel_rfl
    | ⟨14, _⟩ => intro id; kernel_rfl
    | ⟨15, _⟩ => intro id; kernel_rfl
    | ⟨16, _⟩ => intro id; kernel_rfl
    | ⟨17, _⟩ => intro id; kernel_rfl
    | ⟨18, _⟩ => intro id; kernel_rfl
    | ⟨19, _⟩ => intro id; kernel_rfl
    | ⟨20, _⟩ => intro id; kernel_rfl
    | ⟨21, _⟩ => intro id; kernel_rfl
    | ⟨22, _⟩ => intro id; kernel_rfl
    | ⟨23, _⟩ => intro id; kernel_rfl
    | ⟨24, _⟩ => intro id; kernel_rfl
    | ⟨25, _⟩ => intro id; kernel_rfl
    | ⟨26, _⟩ => intro id; kernel_rfl
    | ⟨27, _⟩ => intro id; kernel_rfl
    | ⟨28, _⟩ => intro id; kernel_rfl
    | ⟨29, _⟩ => intro id; kernel_rfl
    | ⟨30, _⟩ => intro id; kernel_rfl
    | ⟨31, _⟩ => intro id; kernel_rfl
    | ⟨32, _⟩ => intro id; kernel_rfl
    | ⟨33, _⟩ => intro id; kernel_rfl
    | ⟨34, _⟩ => intro id; kernel_rfl
    | ⟨35, _⟩ => intro id; kernel_rfl
    | ⟨36, _⟩ => intro id; kernel_rfl
    | ⟨37, _⟩ => intro id; kernel_rfl
    | ⟨38, _⟩ => intro id; kernel_rfl
    | ⟨39, _⟩ => intro id; kernel_rfl
    | ⟨40, _⟩ => intro id; kernel_rfl
    | ⟨41, _⟩ => intro id; kernel_rfl
    | ⟨42, _⟩ => intro id; kernel_rfl
    | ⟨43, _⟩ => intro id; kernel_rfl
    | ⟨44, _⟩ => intro id; kernel_rfl
    | ⟨45, _⟩ => intro id; kernel_rfl
    | ⟨46, _⟩ => intro id; kernel_rfl
    | ⟨47, _⟩ => intro id; kernel_rfl
    | ⟨48, _⟩ => intro id; kernel_rfl
    | ⟨49, _⟩ => intro id; kernel_rfl
    | ⟨50, _⟩ => intro id; kernel_rfl
    | ⟨51, _⟩ => intro id; kernel_rfl
    | ⟨52, _⟩ => intro id; kernel_rfl
    | ⟨53, _⟩ => intro id; kernel_rfl
    | ⟨54, _⟩ => intro id; kernel_rfl
    | ⟨55, _⟩ => intro id; kernel_rfl
    | ⟨56, _⟩ => intro id; kernel_rfl
    | ⟨57, _⟩ => intro id; kernel_rfl
    | ⟨58, _⟩ => intro id; kernel_rfl
    | ⟨59, _⟩ => intro id; kernel_rfl
    | ⟨60, _⟩ => intro id; kernel_rfl
    | ⟨61, _⟩ => intro id; kernel_rfl
    | ⟨62, _⟩ => intro id; kernel_rfl
    | ⟨63, _⟩ => intro id; kernel_rfl
    | ⟨k + 64, hk⟩ => exact absurd hk (by omega)
  exact this ⟨n, h⟩ id
theorem dec_text {t t1 t2 : Tok} {d : PySem.Str} {n : Nat} (h : n < 64) :
    Meets («_codecs.decode.text» ⟨[.bytes (apL n).toArray t, .str (PySem.Str.ofString "ascii") t1, .none, .str d t2], []⟩) (fun _ R s => R (.ok (.ret (.str (wd n) s.toks))) { s with toks := s.toks + 1 }) := by
  refine .of_wp fun prog w A R s hS => ?_
  show wpAny _ _ (Bytes.bytesLike _ (.bytes (apL n).toArray t) >>= fun r => _) _ _ s
  refine wpAny_bind (wpAny_of_eq KBd.like_eq ?_)
  refine wpAny_bind (wpAny_of_eq KBd.held_eq ?_)
  show wpAny _ _ (_codecs.decodeRoad _ (apL n).toArray (PySem.Str.ofString "ascii") none [] >>= fun v => _) _ _ s
  rw [dec_road n h]
  exact wpAny_bind (wpAny_mkStr (wpAny_pure ⟨_, rfl, hS⟩) (Nat.le_trans (wd_len n) (by decide)))
theorem dec_meets {n : Nat} {t t1 : Tok} (h0 : n ≠ 0) (h : n < 64) :
    Meets («bytes.decode» ⟨[.bytes (apL n).toArray t, .str (PySem.Str.ofString "ascii") t1], []⟩) (fun _ R s => ∀ t' k, R (.ok (.ret (.str (wd n) t'))) { s with toks := k }) := by
  refine .of_wp fun prog w A R s hS => ?_
  obtain ⟨c, cs, e⟩ : ∃ c cs, apL n = c :: cs := by
    unfold apL
    rw [if_neg h0]
    split <;> exact ⟨_, _, rfl⟩
  have e2 := dec_entry c cs t t1
  rw [← e] at e2
  rw [e2]
  refine wpAny_bind (wpAny_mkStr ?_ (by decide))
  refine wpAny_bind (wpAny_mkStr ?_ (by decide))
  refine wpAny_bind (wpAny_mkStr ?_ (by decide))
  exact wpAny_bind (call_function_meets KBd.kind_text KBd.plain_text KBd.entry_text (KBd.args_text _ _ _ _) (dec_text h) (wpAny_pure ⟨_, rfl, hS _ _⟩))
theorem dec_args (a b : Value) : argsOk "bytes.decode" ⟨[a, b], []⟩ := by
  unfold argsOk; rw [signature?_of (id := "bytes.decode") (n := ['e', 'd', 'o', 'c', 'e', 'd']) (o := ['s', 'e', 't', 'y', 'b']) (by kernel_rfl) FB.owner_bytes]; kernel_rfl
theorem dec_call {prog : Program} {w : World} {A : Around} {E : Value → Shared → Prop} {s : Shared} {Q : Value → Shared → Prop} {n : Nat} {t t1 : Tok} (h0 : n ≠ 0) (h : n < 64) (hq : ∀ t' k, Q (.str (wd n) t') { s with toks := k }) :
    wpAny (model prog w) A (call (.builtin "bytes.decode") [.bytes (apL n).toArray t, .str (PySem.Str.ofString "ascii") t1]) Q E s :=
  call_meets FB.slot_bytes_decode (typeIs_bytes _ _ _) FB.entry_bytes_decode (dec_args _ _) (dec_meets h0 h) hq
end
local macro_rules | `(tactic| walk_at "call ref") => `(tactic| (k_here; (with_reducible show wpAny _ _ (call (Value.ref 189) _) _ _ _); (refine' int2ap_call ?k1 ?k2 ?k3 ?k4 ?k5 ?k6 ?k7 ?k8 ?k9 ?_; (case k1 => k_asm); (case k2 => k_asm); (case k3 => k_asm); (case k4 => k_asm); (case k5 => k_asm); (case k6 => first | rfl | assumption); (case k7 => ktr_room); (case k8 => ktr_units); (case k9 => omega)); intro t9 h9 tk9 F9 N9; (try dsimp only); (try k_fold)))
local macro_rules | `(tactic| walk_at "call builtin:bytes.decode") => `(tactic| (k_here; (refine dec_call (by omega) (by omega) ?_); intro _ _))
theorem word_call {w : World} {mean : ExcName → Option Value} {mg mb : Str → Option Value} {dp un : Nat} {gd : Option (List Code)} {cn : Str} {cs : Scope} {a : Addr} {ccd : Value} {cl : List (Str × Addr)} {outer : List Env} {A₀ : Around} {base h₀ : Heap} {L : Addr} {m : Str → Option Value} {news : List (Addr × Obj)} {s : Shared} {Q E : Value → Shared → Prop} {n : Nat} {t : Tok}
  (B : Below A₀ base outer h₀) (F : Fr h₀ L s.heap m) (X : (hd.heap_39 w.params).In h₀) (N : News h₀ L s.heap news) (T : Top hd.view_39 (looseW hd.view_39 [Str.ofString "_name_disallowed_re", Str.ofString "_value_disallowed_re"]) mean mg mb h₀) (hk : cs.kind = .function) (hdp : dp + 2 < recursionLimit) (hu : un + 16 < cLine)
  (h0 : n ≠ 0) (h2 : n < 64)
  (hret : ∀ t h' tk', Fr h₀ L h' m → News h₀ L h' news → Q (.str (wd n) t) { s with heap := h', toks := tk' }) :
  wpAny (model Challenge.rw_wa0031_01.row.prog w) (ktrTop dp un gd cn cs L a ccd cl outer) (call (.ref 196) [.int (n : Int) t]) Q E s := by
  revert X; k_fill; intro X
  w_on
  refine wpAny_call ?_
  k_dflt (refine' code_def (binds := [(Str.ofString "number", Value.int (n : Int) t)]) ?k1 ?k2 ?k3 ?k4 ?k5 ?kA ?kF ?kK ?k6 ?k7 ?k8 ?k9 ?kB ?_ ?c2 ?c3 ?c4 ?c5; (case kA => exact rfl); (case kF => exact rfl); (case kK => assumption); (case k1 => k_asm); (case k2 => k_asm); (case k3 => k_asm); (case k4 => k_asm); (case k5 => k_asm); (case k6 => k_is); (case k7 => k_is); (case k8 => ktr_room); (case k9 => first | exact BindsTo.of_eq rfl | exact binds_K (by k_in) rfl (by k_is) rfl rfl rfl); (case c5 => decide); (case kB => exact locs rfl); (case c2 => exact rfl); (case c3 => exact rfl); (case c4 => exact rfl); k_whole; intro g' L' h' FG' F' N' B' X' T'; (try dsimp only); (try k_fold))
  k_steps
  exact hret _ _ _ (by assumption) (by assumption)
end Mine
open PySem PySem.W PySem.Calls PyProof.Rows
set_option Elab.async false
set_option maxRecDepth 100000
set_option maxHeartbeats 8000000
set_option pp.maxSteps 1500
set_option pp.deepTerms false
namespace Mine
local macro_rules | `(tactic| walk_at "exec While Compare cons nil") => `(tactic| (refine Paused.of ?_))
def plJ (n : Nat) (news : List (Addr × Obj)) (k : Nat) (m : Str → Option Value) (news' : List (Addr × Obj)) : Prop :=
  (∀ p ∈ news, p ∈ news') ∧ ∃ (v : Nat) (b : List UInt8) (t1 t2 : Tok), m (Str.ofString "number") = some (.int v t1) ∧ m (Str.ofString "word") = some (.str ⟨(b.map (·.toNat)).toArray⟩ t2) ∧
    k = v ∧ v < 64 ∧ apL v ++ b = apL n
theorem plain_call {w : World} {mean : ExcName → Option Value} {mg mb : Str → Option Value} {dp un : Nat} {gd : Option (List Code)} {cn : Str} {cs : Scope} {a : Addr} {ccd : Value} {cl : List (Str × Addr)} {outer : List Env} {A₀ : Around} {base h₀ : Heap} {L : Addr} {m : Str → Option Value} {news : List (Addr × Obj)} {s : Shared} {Q E : Value → Shared → Prop} {n : Nat} {t : Tok}
  (B : Below A₀ base outer h₀) (F : Fr h₀ L s.heap m) (X : (hd.heap_39 w.params).In h₀) (N : News h₀ L s.heap news) (T : Top hd.view_39 (looseW hd.view_39 [Str.ofString "_name_disallowed_re", Str.ofString "_value_disallowed_re"]) mean mg mb h₀) (hk : cs.kind = .function) (hdp : dp + 2 < recursionLimit) (hu : un + 16 < cLine)
  (h2 : n < 64)
  (hret : ∀ t h' tk', Fr h₀ L h' m → News h₀ L h' news → Q (.str (wd n) t) { s with heap := h', toks := tk' }) :
  wpAny (model Challenge.rw_wa0031_01.row.prog w) (ktrTop dp un gd cn cs L a ccd cl outer) (call (.ref 203) [.int (n : Int) t]) Q E s := by
  revert X; k_fill; intro X
  w_on
  refine wpAny_call ?_
  k_dflt (refine' code_def (binds := [(Str.ofString "number", Value.int (n : Int) t)]) ?k1 ?k2 ?k3 ?k4 ?k5 ?kA ?kF ?kK ?k6 ?k7 ?k8 ?k9 ?kB ?_ ?c2 ?c3 ?c4 ?c5; (case kA => exact rfl); (case kF => exact rfl); (case kK => assumption); (case k1 => k_asm); (case k2 => k_asm); (case k3 => k_asm); (case k4 => k_asm); (case k5 => k_asm); (case k6 => k_is); (case k7 => k_is); (case k8 => ktr_room); (case k9 => first | exact BindsTo.of_eq rfl | exact binds_K (by k_in) rfl (by k_is) rfl rfl rfl); (case c5 => decide); (case kB => exact locs rfl); (case c2 => exact rfl); (case c3 => exact rfl); (case c4 => exact rfl); k_whole; intro g' L' h' FG' F' N' B' X' T'; (try dsimp only); (try k_fold))
  k_steps
  refine Paused.mk ?_
  (with_reducible rename Fr _ _ _ _ => F1)
  (with_reducible rename News _ _ _ _ => N1)
  refine While_inv (plJ n news) F1 N1 (n₀ := n) ⟨fun _ h => h, n, [], _, _, rfl, rfl, rfl, h2, by simp⟩ ?_
  rintro k m₁ news₁ h₁ tk₁ F₁ N₁ ⟨hsub, v, b, t1, t2, e1, e2, rfl, hv, hap⟩
  have F₂ := up2 F₁ e1 e2
  clear F₁
  have hb : b.length ≤ 2 := by
    have h1 := congrArg List.length hap
    have h2 := apL_len n
    rw [List.length_append] at h1
    omega
  k_steps
  · (with_reducible rename Fr _ _ _ _ => F3)
    (with_reducible rename News _ _ _ _ => N3)
    have hm : (k : Int).fmod 16 = ((k % 16 : Nat) : Int) := by
      rw [Int.fmod_eq_emod_of_nonneg _ (by decide)]; omega
    have hi : ∀ u : Fin 16, Txt.item (Str.ofString "ABCDEFGHIJKLMNOP") ((u.1 : Nat) : Int) = ⟨[(65 + u.1).toUInt8.toNat].toArray⟩ := by decide +kernel
    rw [show (k : Int).fdiv 16 = ((k / 16 : Nat) : Int) from by rw [Int.fdiv_eq_ediv_of_nonneg _ (by decide)]; omega, hm, hi ⟨k % 16, by omega⟩,
      show (⟨[(65 + k % 16).toUInt8.toNat].toArray⟩ : Str) ++ ⟨(b.map (·.toNat)).toArray⟩ = ⟨((((65 + k % 16).toUInt8 :: b)).map (·.toNat)).toArray⟩ from by
        show Str.mk ([(65 + k % 16).toUInt8.toNat].toArray ++ (b.map (·.toNat)).toArray) = _
        simp] at F3
    refine WhileStep.intro (n' := k / 16) F3 N3 (by omega) ⟨hsub, k / 16, _, _, _, rfl, rfl, rfl, by omega, ?_⟩
    rw [← hap, ← apL_step hv (by omega), List.append_assoc]
    rfl
  · have e : apL k = [] := by rw [show k = 0 from by omega]; rfl
    rw [e, List.nil_append] at hap
    subst hap
    exact hret _ _ _ (by assumption) (cb_drop (by assumption) hsub)
end Mine
open PySem PySem.W PySem.Calls PyProof.Rows
set_option Elab.async false
set_option maxRecDepth 100000
set_option maxHeartbeats 8000000
set_option pp.maxSteps 1500
set_option pp.deepTerms false
namespace Mine
/-- the powers of a base by a prime, from the 0th to the n-th -/
def powL (b p n : Nat) : List Int := (List.range (n + 1)).map fun k => ((b ^ k % p : Nat) : Int)
theorem powL_succ (b p n : Nat) : powL b p (n + 1) = powL b p n ++ [((b ^ n % p * b % p : Nat) : Int)] := by
  unfold powL
  rw [List.range_succ, List.map_append, List.map_singleton, Nat.pow_succ, Nat.mod_mul_mod]
theorem powL_len (b p n : Nat) : (powL b p n).length = n + 1 := by simp [powL]
theorem item_last {prog : Program} {w : World} {A : Around} {E : Value → Shared → Prop} {s : Shared} {value slice : PySem.Expr} {l : Addr} {vs : List Value} {ns : List Int} {x : Int} {u : Tok} {Q : Value → Shared → Prop} (hl : s.heap.IsList l vs.toArray) (hi : IntsAre vs ns)
    (hx : ns.getLast? = some x) (h : ∀ t, Q (.int x t) s)
    (hs : subscripted slice false (.ref l) (.int (-1) u) = operate [.ref l, .int (-1) u] (getItem (.ref l) (.int (-1) u)) := by with_unfolding_all rfl) :
    wpAny (model prog w) A (subscriptTail value slice (.ref l) (.int (-1) u)) Q E s := by
  have hlen := hi.length
  have hpos : 0 < ns.length := by
    cases ns with
    | nil => cases hx
    | cons => exact Nat.succ_pos _
  obtain ⟨t, ht⟩ := hi.get (ns.length - 1) x (by rw [← List.getLast?_eq_getElem?]; exact hx)
  refine tail_any hl.typeIs slot_list_getitem.lookup (wpAny_getItem_list_neg hl (by decide) (by rw [List.size_toArray]; omega) (by decide) (x := .int x t) ?_ (h t)) hs
  rw [List.size_toArray, show ((-1 : Int) + (vs.length : Int)).toNat = ns.length - 1 from by omega]
  simpa using ht
def pwJ (b p : Nat) (tb tp : Tok) (l : Addr) (news : List (Addr × Obj)) (i : Nat) (m : Str → Option Value) (news' : List (Addr × Obj)) : Prop :=
  ∃ vs e, news' = (l, listOf vs.toArray e) :: news ∧ IntsAre vs (powL b p i) ∧ m (Str.ofString "powers") = some (.ref l) ∧ m (Str.ofString "base") = some (.int (b : Int) tb) ∧ m (Str.ofString "prime") = some (.int (p : Int) tp)
local macro_rules | `(tactic| k_all) => `(tactic| assumption)
local macro_rules | `(tactic| walk_at "pyIter ref") => `(tactic| (refine Paused.of ?_))
local macro_rules | `(tactic| walk_at "subscriptTail") => `(tactic| (k_here; (with_reducible show wpAny _ _ (subscriptTail _ (Expr.UnaryOp _ _ _) (Value.ref _) _) _ _ _); (refine item_last ⟨_, (News.get (by assumption) (by k_mem)), rfl, _, rfl⟩ (by assumption) (by assumption) ?_); intro _))
local macro_rules | `(tactic| walk_at "binaryOp Mult int int") => `(tactic| (k_here; (refine PyProof.Rows.mul_int ?_ (IntMulOk.of_right (intBits_le_64 (by omega) (by omega))))))
local macro_rules | `(tactic| walk_at "call builtin:list.append") => `(tactic| (k_here; (show wpAny _ _ (call (Value.builtin "list.append") [Value.ref _, _]) _ _ _); k_dflt (refine' append_K ?k1 ?k2 ?k3 ?_ ?z; (case k1 => k_asm); (case k2 => k_asm); (case k3 => k_upd); (case z => rw [List.size_toArray, sizeLine_eq]; omega); k_whole); intro h' F' N'; (try k_sweep)))
theorem powers_call {w : World} {mean : ExcName → Option Value} {mg mb : Str → Option Value} {dp un : Nat} {gd : Option (List Code)} {cn : Str} {cs : Scope} {a : Addr} {ccd : Value} {cl : List (Str × Addr)} {outer : List Env} {A₀ : Around} {base h₀ : Heap} {L : Addr} {m : Str → Option Value} {news : List (Addr × Obj)} {s : Shared} {Q E : Value → Shared → Prop} {b p n : Nat} {tb tp tn : Tok}
  (B : Below A₀ base outer h₀) (F : Fr h₀ L s.heap m) (X : (hd.heap_39 w.params).In h₀) (N : News h₀ L s.heap news) (T : Top hd.view_39 (looseW hd.view_39 [Str.ofString "_name_disallowed_re", Str.ofString "_value_disallowed_re"]) mean mg mb h₀) (hk : cs.kind = .function) (hdp : dp + 1 < recursionLimit)
  (hp : 1 < p) (hb : b < 64) (hn : n < 64)
  (hret : ∀ l vs e h' tk', IntsAre vs (powL b p n) → Fr h₀ L h' m → News h₀ L h' ((l, listOf vs.toArray e) :: news) → (∀ q ∈ news, q.1 < l) → Q (.ref l) { s with heap := h', toks := tk' }) :
  wpAny (model Challenge.rw_wa0031_01.row.prog w) (ktrTop dp un gd cn cs L a ccd cl outer) (call (.ref 210) [.int (b : Int) tb, .int (p : Int) tp, .int (n : Int) tn]) Q E s := by
  revert X; k_fill; intro X
  w_on
  refine wpAny_call ?_
  k_dflt (refine' code_def (binds := [(Str.ofString "base", Value.int (b : Int) tb), (Str.ofString "prime", Value.int (p : Int) tp), (Str.ofString "many", Value.int (n : Int) tn)]) ?k1 ?k2 ?k3 ?k4 ?k5 ?kA ?kF ?kK ?k6 ?k7 ?k8 ?k9 ?kB ?_ ?c2 ?c3 ?c4 ?c5; (case kA => exact rfl); (case kF => exact rfl); (case kK => assumption); (case k1 => k_asm); (case k2 => k_asm); (case k3 => k_asm); (case k4 => k_asm); (case k5 => k_asm); (case k6 => k_is); (case k7 => k_is); (case k8 => ktr_room); (case k9 => first | exact BindsTo.of_eq rfl | exact binds_K (by k_in) rfl (by k_is) rfl rfl rfl); (case c5 => decide); (case kB => exact locs rfl); (case c2 => exact rfl); (case c3 => exact rfl); (case c4 => exact rfl); k_whole; intro g' L' h' FG' F' N' B' X' T'; (try dsimp only); (try k_fold))
  k_steps
  refine Paused.mk ?_
  (with_reducible rename Fr _ _ _ _ => F1)
  (with_reducible rename News _ _ _ _ => N1)
  (with_reducible rename IsRange _ _ _ _ _ _ _ _ => R1)
  (with_reducible rename (∀ q ∈ _, _ < _) => hlt)
  rename_i lP ha hb' Fo No hc tk1 t1 u1 v1 kp
  clear Fo No kp
  refine loop_range (n := n) (pwJ b p tb tp _ news) rfl R1 ?_ ?_ F1 N1 ⟨_, _, rfl, ?_, rfl, rfl, rfl⟩ ?_ ?_
  · exact small_one (by decide) (by decide) (by omega) (by omega)
  · rw [rangeSize_nat]; omega
  · have e : powL b p 0 = [1] := by
      unfold powL
      show [((b ^ 0 % p : Nat) : Int)] = [1]
      rw [Nat.pow_zero, Nat.mod_eq_of_lt hp]
      rfl
    rw [e]
    exact .cons _ _ .nil
  · rintro i t m₁ news₁ h tk I oI hi ⟨vs, ep, rfl, hvs, e1, e2, e3⟩ hne hcl F₁ N₁
    have F₂ := up4 (d := Str.ofString "k") F₁ (off e1 (by decide)) (off e2 (by decide)) (off e3 (by decide)) rfl
    clear F₁
    have hne0 : ∀ q ∈ news, q.1 ≠ _ := fun q hq => Nat.ne_of_lt (hlt q hq)
    have hne1 := neN (hne _ (.head _))
    dsimp only at hne1
    have hx : (powL b p i).getLast? = some ((b ^ i % p : Nat) : Int) := by
      unfold powL
      rw [List.range_succ, List.map_append, List.getLast?_append]
      rfl
    have hlen : vs.length ≤ 64 := by rw [hvs.length, powL_len]; omega
    k_steps
    (with_reducible rename Fr _ _ _ _ => F3)
    (with_reducible rename News _ _ _ _ => N3)
    rw [show ((b ^ i % p : Nat) : Int) * (b : Int) = ((b ^ i % p * b : Nat) : Int) from by rw [Int.natCast_mul], Int.fmod_eq_emod_of_nonneg _ (by omega), show ((b ^ i % p * b : Nat) : Int) % (p : Int) = ((b ^ i % p * b % p : Nat) : Int) from rfl] at N3
    rw [List.push_toArray] at N3
    refine TurnR.next _ F3 N3 ?_ ⟨_, _, rfl, ?_, rfl, rfl, rfl⟩
    · intro q hq
      rcases List.mem_cons.mp hq with rfl | hq
      · exact hne1
      · exact hne _ (.tail _ hq)
    · rw [powL_succ]
      exact IntsAre.append hvs (.cons _ _ .nil)
  · rintro m₁ news₁ h tk ⟨vs, ep, rfl, hvs, e1, e2, e3⟩ F₁ N₁
    have F₂ := up3 F₁ e1 e2 e3
    clear F₁
    k_steps
    exact hret _ _ _ _ _ hvs (by assumption) (by assumption) hlt
end Mine
open PySem PySem.W PySem.Calls PyProof.Rows
set_option Elab.async false
set_option maxRecDepth 100000
set_option maxHeartbeats 8000000
set_option pp.maxSteps 1500
set_option pp.deepTerms false
namespace Mine
local macro_rules | `(tactic| walk_at "getMethod ref") => `(tactic| (k_here; first | (refine' name_method ?k1 ?k2 ?_; (case k1 => k_asm); (case k2 => k_asm)) | (refine' value_method ?k1 ?k2 ?_; (case k1 => k_asm); (case k2 => k_asm))))
local macro_rules | `(tactic| walk_at "call builtin:re.Pattern.search") => `(tactic| (k_here; first | (refine' name_call ?k1 ?k2 ?k3 ?k4 ?_; (case k1 => k_asm); (case k2 => k_asm); (case k3 => assumption); (case k4 => assumption)) | (refine' value_call ?k1 ?k2 ?k3 ?k4 ?_; (case k1 => k_asm); (case k2 => k_asm); (case k3 => assumption); (case k4 => assumption))))
theorem convert_call {w : World} {mean : ExcName → Option Value} {mg mb : Str → Option Value} {dp un : Nat} {gd : Option (List Code)} {cn : Str} {cs : Scope} {a : Addr} {ccd : Value} {cl : List (Str × Addr)} {outer : List Env} {A₀ : Around} {base h₀ : Heap} {L : Addr} {m : Str → Option Value} {news : List (Addr × Obj)} {s : Shared} {Q E : Value → Shared → Prop} {x : Addr} {v : Str} {b : Bool} {t : Tok}
  (B : Below A₀ base outer h₀) (F : Fr h₀ L s.heap m) (X : (hd.heap_39 w.params).In h₀) (N : News h₀ L s.heap news) (T : Top hd.view_39 (looseW hd.view_39 [Str.ofString "_name_disallowed_re", Str.ofString "_value_disallowed_re"]) mean mg mb h₀) (hk : cs.kind = .function) (hdp : dp + 1 < recursionLimit)
  (hv : Prints v) (hl : v.cps.size ≤ 1000)
  (hret : ∀ h' tk', Fr h₀ L h' m → News h₀ L h' news → Q (.str v t) { s with heap := h', toks := tk' }) :
  wpAny (model Challenge.rw_wa0031_01.row.prog w) (ktrTop dp un gd cn cs L a ccd cl outer) (call (.ref 70) [.ref x, .str v t] [(Str.ofString "name", .bool b)]) Q E s := by
  revert X; k_fill; intro X
  w_on
  refine wpAny_call ?_
  k_dflt (refine' code_def (binds := [(Str.ofString "self", Value.ref x), (Str.ofString "value", Value.str v t), (Str.ofString "name", Value.bool b)]) ?k1 ?k2 ?k3 ?k4 ?k5 ?kA ?kF ?kK ?k6 ?k7 ?k8 ?k9 ?kB ?_ ?c2 ?c3 ?c4 ?c5; (case kA => exact rfl); (case kF => exact rfl); (case kK => assumption); (case k1 => k_asm); (case k2 => k_asm); (case k3 => k_asm); (case k4 => k_asm); (case k5 => k_asm); (case k6 => k_is); (case k7 => k_is); (case k8 => ktr_room); (case k9 => (refine' kp_binds ?kx ?ke; (case kx => k_in); (case ke => exact fun _ => rfl))); (case c5 => decide); (case kB => exact locs rfl); (case c2 => exact rfl); (case c3 => exact rfl); (case c4 => exact rfl); k_whole; intro g' L' h' FG' F' N' B' X' T'; (try dsimp only); (try k_fold))
  k_steps
  all_goals exact hret _ _ (by assumption) (by assumption)
end Mine
open PySem PySem.W PySem.Calls PyProof.Rows
set_option Elab.async false
set_option maxRecDepth 100000
set_option maxHeartbeats 8000000
namespace Mine
theorem prints_of {x : Str} (h : x.cps.toList.all (fun c => decide (32 ≤ c) && decide (c < 127)) = true) : Prints x := by
  intro c hc
  have := List.all_eq_true.mp h c (by simpa using hc)
  simp only [Bool.and_eq_true, decide_eq_true_eq] at this
  exact this
def lowN (x : Str) : Nat := x.cps.toList.foldl (fun a c => a * 16 + (c - 97)) 0
def upN (x : Str) : Nat := x.cps.toList.foldl (fun a c => a * 16 + (c - 65)) 0
/-- the word in small letters -/
def wl (n : Nat) : Str := Txt.lower (wd n)
theorem words : ∀ u : Fin 64, (wd u.1).cps.toList.all (fun c => decide (32 ≤ c) && decide (c < 127)) = true ∧ (wl u.1).cps.toList.all (fun c => decide (32 ≤ c) && decide (c < 127)) = true ∧ lowN (wl u.1) = u.1 ∧ upN (wd u.1) = u.1 ∧ (wl u.1).cps.size ≤ 2 ∧ Txt.lower (wl u.1) = wl u.1 := by decide +kernel
section
variable {n k : Nat} (h : n < 64) (h' : k < 64)
include h
theorem wd_prints : Prints (wd n) := prints_of (words ⟨n, h⟩).1
theorem wl_prints : Prints (wl n) := prints_of (words ⟨n, h⟩).2.1
theorem wl_size : (wl n).cps.size ≤ 2 := (words ⟨n, h⟩).2.2.2.2.1
theorem wl_lower : Txt.lower (wl n) = wl n := (words ⟨n, h⟩).2.2.2.2.2
include h'
theorem wl_inj (e : wl n = wl k) : n = k := by
  have e1 := (words ⟨n, h⟩).2.2.1
  have e2 := (words ⟨k, h'⟩).2.2.1
  dsimp only at e1 e2
  rw [← e1, ← e2, e]
theorem wd_inj (e : wd n = wd k) : n = k := by
  have e1 := (words ⟨n, h⟩).2.2.2.1
  have e2 := (words ⟨k, h'⟩).2.2.2.1
  dsimp only at e1 e2
  rw [← e1, ← e2, e]
theorem wl_ne : (wl n != wl k) = decide (n ≠ k) := by
  by_cases e : n = k
  · subst e; simp
  · have : wl n ≠ wl k := fun q => e (wl_inj h h' q)
    simp [e, this]
theorem wl_eq : (wl n == wl k) = decide (n = k) := by
  by_cases e : n = k
  · subst e; simp
  · have : wl n ≠ wl k := fun q => e (wl_inj h h' q)
    simp [e, this]
end
theorem wd_size (n : Nat) : (wd n).cps.size ≤ 2 := wd_len n
section
variable {prog : Program} {w : World} {A : Around} {E : Value → Shared → Prop} {s : Shared} {Q : Value → Shared → Prop} {n : Nat} {t : Tok}
theorem lower_wd (h : ∀ t' k, Q (.str (wl n) t') { s with toks := k }) : wpAny (model prog w) A (call (.builtin "str.lower") [.str (wd n) t]) Q E s :=
  SCL.lower (Nat.le_trans (wd_len n) (by decide)) (fun _ => h _ _)
theorem lower_wl (hn : n < 64) (h : ∀ t' k, Q (.str (wl n) t') { s with toks := k }) : wpAny (model prog w) A (call (.builtin "str.lower") [.str (wl n) t]) Q E s :=
  SCL.lower (Nat.le_trans (wl_size hn) (by decide)) (fun _ => by rw [wl_lower hn]; exact h _ _)
end
theorem allLt_mem {d : Addr} {l : List (Addr × Obj)} (h : AllLt d l) : ∀ p ∈ l, p.1 < d := by
  induction l with
  | nil => intro p hp; cases hp
  | cons q r ih =>
    intro p hp
    unfold AllLt at h
    rcases List.mem_cons.mp hp with e | hp
    · rw [e]; exact h.1
    · exact ih h.2 p hp
theorem allLt_ne {d e : Addr} {l : List (Addr × Obj)} (h : AllLt d l) (hd : @LE.le Nat _ d e) : ∀ p ∈ l, p.1 ≠ e := fun p hp => Nat.ne_of_lt (Nat.lt_of_lt_of_le (allLt_mem h p hp) hd)
/-- a row of the table: where the pair lies, the number of its word, its text -/
structure TRow where
  a : Addr
  k : Nat
  v : Str
  tk : Tok
  tv : Tok
def TRow.obj (r : TRow) : Obj := { cls := .type "tuple", data := .seq #[.str (wd r.k) r.tk, .str r.v r.tv] }
/-- the rows stand in the ledger -/
def Tab (rest : List (Addr × Obj)) (tb : List TRow) : Prop := ∀ r ∈ tb, (r.a, r.obj) ∈ rest ∧ r.k < 64
abbrev refsOf (tb : List TRow) : Array Value := (tb.map fun r => Value.ref r.a).toArray
end Mine
open PySem PySem.W PySem.Calls PyProof.Rows
set_option Elab.async false
set_option maxRecDepth 100000
set_option maxHeartbeats 8000000
set_option pp.maxSteps 1500
set_option pp.deepTerms false
namespace Mine
local macro_rules | `(tactic| k_all) => `(tactic| assumption)
local macro_rules | `(tactic| walk_at "call builtin:str.lower") => `(tactic| (k_here; first | (refine lower_wd ?_; intro _ _) | (refine lower_wl (by assumption) ?_; intro _ _)))
local macro_rules | `(tactic| walk_at "call ref") => `(tactic| (k_here; (with_reducible show wpAny _ _ (call (Value.ref 70) _ _) _ _ _); (refine' convert_call ?k1 ?k2 ?k3 ?k4 ?k5 ?k6 ?k7 ?k8 ?k9 ?_; (case k1 => k_asm); (case k2 => k_asm); (case k3 => k_asm); (case k4 => k_asm); (case k5 => k_asm); (case k6 => first | rfl | assumption); (case k7 => ktr_room); (case k8 => assumption); (case k9 => assumption)); intro h9 tk9 F9 N9; (try dsimp only); (try k_fold)))
theorem filter_one {α : Type} (p : α → Bool) (tb : List α) (i : Nat) (h : i < tb.length) : (tb.take (i + 1)).filter p = (tb.take i).filter p ++ (if p tb[i] = true then [tb[i]] else []) := by
  rw [List.take_add_one, List.getElem?_eq_getElem h, Option.toList_some, List.filter_append]
  congr 1
  simp [List.filter_cons]
theorem row_key {prog : Program} {w : World} {A : Around} {E : Value → Shared → Prop} {s : Shared} {value slice : PySem.Expr} {h₀ : Heap} {L a : Addr} {led : List (Addr × Obj)} {x y : Value} {u : Tok} {Q : Value → Shared → Prop}
    (N : News h₀ L s.heap led) (hm : (a, ({ cls := .type "tuple", data := .seq #[x, y] } : Obj)) ∈ led) (h : Q x s)
    (hs : subscripted slice false (.ref a) (.int 0 u) = operate [.ref a, .int 0 u] (getItem (.ref a) (.int 0 u)) := by with_unfolding_all rfl) :
    wpAny (model prog w) A (subscriptTail value slice (.ref a) (.int 0 u)) Q E s :=
  item_tupleT (l := [x, y]) (News.isTup N hm) (by decide) (by decide) (j := 0) rfl rfl h hs
local macro_rules | `(tactic| walk_at "subscriptTail") => `(tactic| (k_here; (with_reducible show wpAny _ _ (subscriptTail _ (Expr.Constant _ _ _) (Value.ref _) (Value.int _ _)) _ _ _); k_dflt (refine' row_key ?k1 ?k2 ?_; (case k1 => k_asm); (case k2 => (repeat (first | assumption | refine' List.Mem.tail _ ?_))))))
local macro_rules | `(tactic| walk_at "eval ListComp") => `(tactic| (refine Paused.of ?_))
local macro_rules | `(tactic| walk_at "CompSrcT") => `(tactic| (refine Paused.of ?_))
theorem del_call {w : World} {mean : ExcName → Option Value} {mg mb : Str → Option Value} {dp un : Nat} {gd : Option (List Code)} {cn : Str} {cs : Scope} {a : Addr} {ccd : Value} {cl : List (Str × Addr)} {outer : List Env} {A₀ : Around} {base h₀ : Heap} {L : Addr} {m : Str → Option Value} {s : Shared} {Q E : Value → Shared → Prop} {x dx l : Addr} {hh : Int} {th : Tok} {e : Nat} {tb : List TRow} {rest : List (Addr × Obj)} {n : Nat} {t : Tok}
  (B : Below A₀ base outer h₀) (F : Fr h₀ L s.heap m) (X : (hd.heap_39 w.params).In h₀) (N : News h₀ L s.heap ((x, instObj 171 dx) :: (dx, dictOf [⟨hh, .str (Str.ofString "_headers") th, .ref l⟩] 1) :: (l, listOf (refsOf tb) e) :: rest)) (T : Top hd.view_39 (looseW hd.view_39 [Str.ofString "_name_disallowed_re", Str.ofString "_value_disallowed_re"]) mean mg mb h₀) (hk : cs.kind = .function) (hdp : dp + 2 < recursionLimit)
  (hxl : x ≠ l) (hdl : dx ≠ l) (hrl : ∀ p ∈ rest, p.1 ≠ l) (hT : Tab rest tb) (hn : n < 64) (htb : tb.length ≤ 64)
  (hret : ∀ e' h' tk', Fr h₀ L h' m → News h₀ L h' ((x, instObj 171 dx) :: (dx, dictOf [⟨hh, .str (Str.ofString "_headers") th, .ref l⟩] 1) :: (l, listOf (refsOf (tb.filter fun r => decide (r.k ≠ n))) e') :: rest) → Q .none { s with heap := h', toks := tk' }) :
  wpAny (model Challenge.rw_wa0031_01.row.prog w) (ktrTop dp un gd cn cs L a ccd cl outer) (call (.ref 89) [.ref x, .str (wd n) t]) Q E s := by
  revert X; k_fill; intro X
  w_on
  have hp := wl_prints hn
  have hp2 : (wl n).cps.size ≤ 1000 := Nat.le_trans (wl_size hn) (by decide)
  refine wpAny_call ?_
  k_dflt (refine' code_defC (binds := [(Str.ofString "self", Value.ref x), (Str.ofString "name", Value.str (wd n) t)]) ?k1 ?k2 ?k3 ?k4 ?k5 ?kA ?kF ?kK ?k6 ?k7 ?k8 ?k9 ?kB ?kD ?_ ?c2 ?c3 ?c4; (case kA => exact rfl); (case kF => exact rfl); (case kK => assumption); (case k1 => k_asm); (case k2 => k_asm); (case k3 => k_asm); (case k4 => k_asm); (case k5 => k_asm); (case k6 => k_is); (case k7 => k_is); (case k8 => ktr_room); (case k9 => exact BindsTo.of_eq rfl); (case kB => exact rfl); (case kD => decide +kernel); (case c2 => exact rfl); (case c3 => exact rfl); (case c4 => exact rfl); k_whole; intro g' L' h' tk' cells' FG' F' N' Y' B' X' T' l1; (try k_lt l1); k_cells Y'; (try simp only [List.cons_append, List.nil_append] at N'); (try dsimp only); (try k_lift B'); (try k_fold))
  have hrL := allLt_ne l1.2.2.2 (Nat.le_succ L')
  k_steps
  refine Paused.mk ?_
  k_dflt (refine LCt.ListComp_T (F₀ := by k_asm) (by with_unfolding_all rfl) (by decide) (by rfl) (by decide) (by rfl) ?_)
  k_steps
  refine Paused.mk ?_
  refine LCt.CompSrcT.ledger (by rfl) (by k_asm) (by k_asm) (by k_mem) (by rw [List.size_toArray, List.length_map, sizeLine_eq]; omega) ?_
  intro g9
  refine rest_ind (fun i => ((tb.take i).filter fun r => decide (r.k ≠ n)).map fun r => Value.ref r.a) rfl ?_ ?_
  rotate_left
  · intro i hi v I oI C oC D m₂ h tk E' hv hC hx2 F2 N2 off ne
    have hi' : i < tb.length := by simpa using hi
    have hv' : v = .ref tb[i].a := by
      have : (refsOf tb)[i]? = some v := hv
      simp [refsOf, hi'] at this
      exact this.symm
    obtain ⟨hm, hk64⟩ := hT tb[i] (List.getElem_mem hi')
    have hm' : (tb[i].a, ({ cls := .type "tuple", data := .seq #[.str (wd tb[i].k) tb[i].tk, .str tb[i].v tb[i].tv] } : Obj)) ∈ rest := hm
    subst hv'
    clear hm
    k_steps
    · rename_i hc
      refine LCg.CompEnd.intro F2 N2 _ (fun p hp => hp) off (.inr ⟨_, .tail _ (.tail _ (.tail _ (.head _))), rfl, _, rfl⟩) ⟨rfl, ?_⟩
      rw [wl_ne hk64 hn, decide_eq_true_eq] at hc
      rw [filter_one _ tb i hi', if_pos (decide_eq_true hc), List.map_append]
      rfl
    · rename_i hc
      refine LCg.CompEnd.intro F2 N2 _ (fun p hp => hp) off (.inr ⟨_, .tail _ (.tail _ (.tail _ (.head _))), rfl, _, rfl⟩) ⟨rfl, ?_⟩
      rw [wl_ne hk64 hn, decide_eq_false_iff_not] at hc
      rw [filter_one _ tb i hi', if_neg (by rw [decide_eq_true_eq]; exact hc), List.append_nil]
  · intro D h9 tk9 F9 N9 off9
    have htk : tb.take (refsOf tb).size = tb := by
      rw [List.size_toArray, List.length_map]; exact List.take_length
    rw [htk] at N9
    have hlD : l ≠ D := off9.2.2.2.1
    have hLl : @Ne Nat (L' + 1) l := by
      have := l1.2.2.1
      omega
    have hDl : @Ne Nat D l := Ne.symm hlD
    k_steps
    dsimp only
    refine' store_slice (s := ⟨h9, _, _, _, _⟩) (new := (List.map (fun r => Value.ref r.a) (tb.filter fun r => decide (r.k ≠ n))).toArray) F9 N9 ?kU (.head _) hlD ?kS ?kQ
    case kU => k_upd
    case kS =>
      rw [List.size_toArray, List.size_toArray, List.length_map, List.length_map, sizeLine_eq]
      have := List.length_filter_le (fun r => decide (r.k ≠ n)) tb
      omega
    case kQ =>
      intro h' F' N'
      k_steps
      exact hret _ _ _ (by assumption) (cb_drop (by assumption) fun p hp => .tail _ (.tail _ hp))
end Mine
open PySem PySem.W PySem.Calls PyProof.Rows
set_option Elab.async false
set_option maxRecDepth 100000
set_option maxHeartbeats 8000000
set_option pp.maxSteps 1500
set_option pp.deepTerms false
namespace Mine
theorem own_delItem {M : Model} {A : Around} {E : Value → Shared → Prop} {s : Shared} {K : Frag} {x C L f : Addr} {h₀ : Heap} {m : Str → Option Value} {ox : Obj} {od : Option Obj} {i : Value} {Q : Unit → Shared → Prop}
    (F : Fr h₀ L s.heap m) (X₀ : K.In h₀) (I : InstAt s.heap x ox C od) (hq : noSeq K C = true) (hs : findIn K (.ref C) "__delitem__" = some (some (.ref f))) (hf : isFn K (.ref f) = true)
    (h : wpAny M A (call (.ref f) [.ref x, i]) (fun _ s' => Q () s') E s) : wpAny M A (delItem (.ref x) i) Q E s := by
  have X := X₀.keeps F.keep
  unfold delItem sequenceKey
  refine wpAny_holding (wpAny_bind (wpAny_bind (I.type.here ?_)))
  refine wpAny_bind ((anyM_none X hq).here ?_)
  rw [if_pos (show (!false) = true from rfl)]
  refine wpAny_pure (wpAny_bind (special_fn X I hs (beq_iff_eq.mp hf) (wpAny_mono h (fun _ _ z => ?_) fun _ _ z => z)))
  exact wpAny_pure z
local macro_rules | `(tactic| walk_at "delItem ref") => `(tactic| (k_here; k_dflt (refine' own_delItem ?F ?X ?I ?hQ ?hS ?hF ?_; (case F => k_asm); (case X => k_asm); (case I => k_inst); (case hS => k_is); (case hF => k_is); (case hQ => k_is); k_whole)))
local macro_rules | `(tactic| k_all) => `(tactic| assumption)
local macro_rules | `(tactic| walk_at "call ref") => `(tactic| (k_here; (with_reducible show wpAny _ _ (call (Value.ref 89) _) _ _ _); (refine' del_call ?k1 ?k2 ?k3 ?k4 ?k5 ?k6 ?k7 ?k8 ?k9 ?ka ?kb ?kc ?kd ?_; (case k1 => k_asm); (case k2 => k_asm); (case k3 => k_asm); (case k4 => k_asm); (case k5 => k_asm); (case k6 => first | rfl | assumption); (case k7 => ktr_room); (case k8 => assumption); (case k9 => assumption); (case ka => assumption); (case kb => assumption); (case kc => assumption); (case kd => omega)); intro e9 h9 tk9 F9 N9; (try dsimp only); (try k_fold)))
local macro_rules | `(tactic| walk_at "call ref") => `(tactic| (k_here; (with_reducible show wpAny _ _ (call (Value.ref 70) _ _) _ _ _); (refine' convert_call ?k1 ?k2 ?k3 ?k4 ?k5 ?k6 ?k7 ?k8 ?k9 ?_; (case k1 => k_asm); (case k2 => k_asm); (case k3 => k_asm); (case k4 => k_asm); (case k5 => k_asm); (case k6 => first | rfl | assumption); (case k7 => ktr_room); (case k8 => assumption); (case k9 => assumption)); intro h9 tk9 F9 N9; (try dsimp only); (try k_fold)))
theorem set_end {h₀ h : Heap} {L D x dx l : Addr} {ox od : Obj} {tb : List TRow} {n e : Nat} {v : Str} {t tv : Tok} {rest : List (Addr × Obj)}
    (N9 : News h₀ L h ((D, { cls := .type "tuple", data := .seq #[.str (wd n) t, .str v tv] }) :: (x, ox) :: (dx, od) :: (l, listOf ((refsOf tb).push (.ref D)) e) :: rest)) :
    News h₀ L h ((x, ox) :: (dx, od) :: (l, listOf (refsOf (tb ++ [⟨D, n, v, t, tv⟩])) e) :: (D, TRow.obj ⟨D, n, v, t, tv⟩) :: rest) ∧ D ≠ l := by
  have e : refsOf (tb ++ [⟨D, n, v, t, tv⟩]) = (refsOf tb).push (.ref D) := by
    rw [List.push_toArray]
    simp [refsOf]
  refine ⟨fun q hq => ?_, news_ne N9 (.head _) (.tail _ (.tail _ (.tail _ (.head _)))) (by show Value.type "tuple" ≠ Value.type "list"; decide)⟩
  rw [e] at hq
  rcases List.mem_cons.mp hq with rfl | hq
  · exact N9 _ (.tail _ (.head _))
  rcases List.mem_cons.mp hq with rfl | hq
  · exact N9 _ (.tail _ (.tail _ (.head _)))
  rcases List.mem_cons.mp hq with rfl | hq
  · exact N9 _ (.tail _ (.tail _ (.tail _ (.head _))))
  rcases List.mem_cons.mp hq with rfl | hq
  · exact N9 _ (.head _)
  · exact N9 _ (.tail _ (.tail _ (.tail _ (.tail _ hq))))
theorem set_call {w : World} {mean : ExcName → Option Value} {mg mb : Str → Option Value} {dp un : Nat} {gd : Option (List Code)} {cn : Str} {cs : Scope} {a : Addr} {ccd : Value} {cl : List (Str × Addr)} {outer : List Env} {A₀ : Around} {base h₀ : Heap} {L : Addr} {m : Str → Option Value} {s : Shared} {Q E : Value → Shared → Prop} {x dx l : Addr} {hh : Int} {th : Tok} {e : Nat} {tb : List TRow} {rest : List (Addr × Obj)} {n : Nat} {t tv : Tok} {v : Str}
  (B : Below A₀ base outer h₀) (F : Fr h₀ L s.heap m) (X : (hd.heap_39 w.params).In h₀) (N : News h₀ L s.heap ((x, instObj 171 dx) :: (dx, dictOf [⟨hh, .str (Str.ofString "_headers") th, .ref l⟩] 1) :: (l, listOf (refsOf tb) e) :: rest)) (T : Top hd.view_39 (looseW hd.view_39 [Str.ofString "_name_disallowed_re", Str.ofString "_value_disallowed_re"]) mean mg mb h₀) (hk : cs.kind = .function) (hdp : dp + 3 < recursionLimit)
  (hxl : x ≠ l) (hdl : dx ≠ l) (hrl : ∀ p ∈ rest, p.1 ≠ l) (hT : Tab rest tb) (hn : n < 64) (htb : tb.length ≤ 63) (hv : Prints v) (hvl : v.cps.size ≤ 1000)
  (hret : ∀ a e' h' tk', Fr h₀ L h' m → News h₀ L h' ((x, instObj 171 dx) :: (dx, dictOf [⟨hh, .str (Str.ofString "_headers") th, .ref l⟩] 1) :: (l, listOf (refsOf ((tb.filter fun r => decide (r.k ≠ n)) ++ [⟨a, n, v, t, tv⟩])) e') :: (a, TRow.obj ⟨a, n, v, t, tv⟩) :: rest) → a ≠ l → Q .none { s with heap := h', toks := tk' }) :
  wpAny (model Challenge.rw_wa0031_01.row.prog w) (ktrTop dp un gd cn cs L a ccd cl outer) (call (.ref 84) [.ref x, .str (wd n) t, .str v tv]) Q E s := by
  revert X; k_fill; intro X
  w_on
  have hp := wd_prints hn
  have hp2 : (wd n).cps.size ≤ 1000 := Nat.le_trans (wd_size n) (by decide)
  refine wpAny_call ?_
  k_dflt (refine' code_def (binds := [(Str.ofString "self", Value.ref x), (Str.ofString "name", Value.str (wd n) t), (Str.ofString "val", Value.str v tv)]) ?k1 ?k2 ?k3 ?k4 ?k5 ?kA ?kF ?kK ?k6 ?k7 ?k8 ?k9 ?kB ?_ ?c2 ?c3 ?c4 ?c5; (case kA => exact rfl); (case kF => exact rfl); (case kK => assumption); (case k1 => k_asm); (case k2 => k_asm); (case k3 => k_asm); (case k4 => k_asm); (case k5 => k_asm); (case k6 => k_is); (case k7 => k_is); (case k8 => ktr_room); (case k9 => first | exact BindsTo.of_eq rfl | exact binds_K (by k_in) rfl (by k_is) rfl rfl rfl); (case c5 => decide); (case kB => exact locs rfl); (case c2 => exact rfl); (case c3 => exact rfl); (case c4 => exact rfl); k_whole; intro g' L' h' FG' F' N' B' X' T'; (try dsimp only); (try k_fold))
  k_steps
  (with_reducible rename Fr h₀ _ _ _ => F9)
  (with_reducible rename News h₀ _ _ _ => N9)
  have q9 := set_end N9
  exact hret _ _ _ _ F9 q9.1 q9.2
end Mine
open PySem PySem.W PySem.Calls PyProof.Rows
set_option Elab.async false
set_option maxRecDepth 100000
set_option maxHeartbeats 8000000
set_option pp.maxSteps 1500
set_option pp.deepTerms false
namespace Mine
local macro_rules | `(tactic| k_all) => `(tactic| assumption)
local macro_rules | `(tactic| walk_at "call builtin:str.lower") => `(tactic| (k_here; first | (refine lower_wd ?_; intro _ _) | (refine lower_wl (by assumption) ?_; intro _ _)))
local macro_rules | `(tactic| walk_at "call ref") => `(tactic| (k_here; (with_reducible show wpAny _ _ (call (Value.ref 70) _ _) _ _ _); (refine' convert_call ?k1 ?k2 ?k3 ?k4 ?k5 ?k6 ?k7 ?k8 ?k9 ?_; (case k1 => k_asm); (case k2 => k_asm); (case k3 => k_asm); (case k4 => k_asm); (case k5 => k_asm); (case k6 => first | rfl | assumption); (case k7 => ktr_room); (case k8 => assumption); (case k9 => assumption)); intro h9 tk9 F9 N9; (try dsimp only); (try k_fold)))
local macro_rules | `(tactic| walk_at "exec For Tuple Attribute nil nil") => `(tactic| (refine Paused.of ?_))
local macro_rules | `(tactic| walk_at "exec For") => `(tactic| (refine Paused.of ?_))
local macro_rules | `(tactic| walk_at "pyIter ref") => `(tactic| (refine Paused.of ?_))
/-- what get gives -/
def found (tb : List TRow) (n : Nat) (tn : Tok) : Value := match tb.find? (fun r => decide (r.k = n)) with
  | some r => .str r.v r.tv
  | none => .str (Str.ofString "none") tn
theorem find_at {α : Type} (p : α → Bool) (tb : List α) (i : Nat) (h : i < tb.length) (hf : (tb.take i).find? p = none) (hp : p tb[i] = true) : tb.find? p = some tb[i] := by
  have e : tb = tb.take i ++ tb[i] :: tb.drop (i + 1) := by rw [← List.drop_eq_getElem_cons h, List.take_append_drop]
  generalize tb[i] = r at e hp
  rw [e, List.find?_append, hf, Option.none_or, List.find?_cons, hp]
theorem get_call {w : World} {mean : ExcName → Option Value} {mg mb : Str → Option Value} {dp un : Nat} {gd : Option (List Code)} {cn : Str} {cs : Scope} {a : Addr} {ccd : Value} {cl : List (Str × Addr)} {outer : List Env} {A₀ : Around} {base h₀ : Heap} {L : Addr} {m : Str → Option Value} {s : Shared} {Q E : Value → Shared → Prop} {x dx l : Addr} {hh : Int} {th : Tok} {e : Nat} {tb : List TRow} {rest : List (Addr × Obj)} {n : Nat} {t tn : Tok}
  (B : Below A₀ base outer h₀) (F : Fr h₀ L s.heap m) (X : (hd.heap_39 w.params).In h₀) (N : News h₀ L s.heap ((x, instObj 171 dx) :: (dx, dictOf [⟨hh, .str (Str.ofString "_headers") th, .ref l⟩] 1) :: (l, listOf (refsOf tb) e) :: rest)) (T : Top hd.view_39 (looseW hd.view_39 [Str.ofString "_name_disallowed_re", Str.ofString "_value_disallowed_re"]) mean mg mb h₀) (hk : cs.kind = .function) (hdp : dp + 2 < recursionLimit)
  (hT : Tab rest tb) (hn : n < 64)
  (hret : ∀ h' tk', Fr h₀ L h' m → News h₀ L h' ((x, instObj 171 dx) :: (dx, dictOf [⟨hh, .str (Str.ofString "_headers") th, .ref l⟩] 1) :: (l, listOf (refsOf tb) e) :: rest) → Q (found tb n tn) { s with heap := h', toks := tk' }) :
  wpAny (model Challenge.rw_wa0031_01.row.prog w) (ktrTop dp un gd cn cs L a ccd cl outer) (call (.ref 118) [.ref x, .str (wl n) t, .str (Str.ofString "none") tn]) Q E s := by
  revert X; k_fill; intro X
  w_on
  have hp := wl_prints hn
  have hp2 : (wl n).cps.size ≤ 1000 := Nat.le_trans (wl_size hn) (by decide)
  refine wpAny_call ?_
  k_dflt (refine' code_def (binds := [(Str.ofString "self", Value.ref x), (Str.ofString "name", Value.str (wl n) t), (Str.ofString "default", Value.str (Str.ofString "none") tn)]) ?k1 ?k2 ?k3 ?k4 ?k5 ?kA ?kF ?kK ?k6 ?k7 ?k8 ?k9 ?kB ?_ ?c2 ?c3 ?c4 ?c5; (case kA => exact rfl); (case kF => exact rfl); (case kK => assumption); (case k1 => k_asm); (case k2 => k_asm); (case k3 => k_asm); (case k4 => k_asm); (case k5 => k_asm); (case k6 => k_is); (case k7 => k_is); (case k8 => ktr_room); (case k9 => first | exact BindsTo.of_eq rfl | exact binds_K (by k_in) rfl (by k_is) rfl rfl rfl); (case c5 => decide); (case kB => exact locs rfl); (case c2 => exact rfl); (case c3 => exact rfl); (case c4 => exact rfl); k_whole; intro g' L' h' FG' F' N' B' X' T'; (try dsimp only); (try k_fold))
  k_steps
  refine Paused.mk ?_
  refine For_unr g' ?_
  k_steps
  refine Paused.mk ?_
  dsimp only
  (with_reducible rename Fr g' _ _ _ => F1)
  (with_reducible rename News g' _ _ _ => N1)
  refine Iter_list_unr (s := ⟨_, _, _, _, _⟩) rfl (News.isList N1 (.tail _ (.tail _ (.head _)))) F1 N1 (N1 _ (.tail _ (.tail _ (.head _)))).2.1 ?_
  refine unr_ind (fun i m' => (tb.take i).find? (fun r => decide (r.k = n)) = none ∧ (∃ t', m' (Str.ofString "name") = some (.str (wl n) t')) ∧ m' (Str.ofString "default") = some (.str (Str.ofString "none") tn)) ⟨rfl, ⟨_, rfl⟩, rfl⟩ ?_ ?_
  · rintro i hi v m₁ h₁ tk₁ own hv ⟨hf, ⟨t', e1⟩, e2⟩ F₁ N₁
    have F₂ := up2 F₁ e1 e2
    clear F₁ N1
    have hi' : i < tb.length := by simpa using hi
    have hv' : v = .ref tb[i].a := by
      have : (refsOf tb)[i]? = some v := hv
      simp [refsOf, hi'] at this
      exact this.symm
    obtain ⟨hm, hk64⟩ := hT tb[i] (List.getElem_mem hi')
    have hm' : (tb[i].a, ({ cls := .type "tuple", data := .seq #[.str (wd tb[i].k) tb[i].tk, .str tb[i].v tb[i].tv] } : Obj)) ∈ rest ++ own := List.mem_append_left _ hm
    clear hm
    subst hv'
    simp only [List.cons_append] at N₁ ⊢
    have hTup : IsTup h₁ tb[i].a #[.str (wd tb[i].k) tb[i].tk, .str tb[i].v tb[i].tv] := News.isTup N₁ (.tail _ (.tail _ (.tail _ hm')))
    k_steps
    · rename_i hc
      rw [wl_eq hk64 hn, decide_eq_true_eq] at hc
      dsimp only [TurnU]
      k_steps
      have hff := find_at (fun r : TRow => decide (r.k = n)) tb i hi' hf (decide_eq_true hc)
      have hfd : found tb n tn = .str tb[i].v tb[i].tv := by unfold found; rw [hff]
      rw [hfd] at hret
      exact hret _ _ (by assumption) (cb_drop (by assumption) fun p hp => by
        have := List.mem_append_left own hp
        simpa only [List.cons_append] using this)
    · rename_i hc
      rw [wl_eq hk64 hn, decide_eq_false_iff_not] at hc
      (with_reducible rename Fr g' _ _ _ => F3)
      (with_reducible rename News g' _ _ _ => N3)
      refine TurnU.next F3 N3 ⟨?_, ⟨_, rfl⟩, rfl⟩
      rw [List.take_add_one, List.getElem?_eq_getElem hi', Option.toList_some, List.find?_append, hf, Option.none_or, List.find?_cons]
      simp [hc]
  · rintro m₁ h' tk ⟨hf, ⟨t', e1⟩, e2⟩ F₁ N₁
    have F₂ := up2 F₁ e1 e2
    clear F₁
    k_steps
    have htk : tb.take (refsOf tb).size = tb := by
      rw [List.size_toArray, List.length_map]; exact List.take_length
    rw [htk] at hf
    have hfd : found tb n tn = .str (Str.ofString "none") tn := by unfold found; rw [hf]
    rw [hfd] at hret
    exact hret _ _ (by assumption) (by assumption)
end Mine
open PySem PySem.W PySem.Calls PyProof.Rows
set_option Elab.async false
set_option maxRecDepth 100000
set_option maxHeartbeats 8000000
namespace Mine
theorem kind_pos (x : Str) : ¬ (PySem.Builtin.Str.strKind x < PySem.Builtin.Str.strKind (Str.ofString "'")) := by
  have e : PySem.Builtin.Str.strKind (Str.ofString "'") = 1 := by decide +kernel
  rw [e]
  unfold PySem.Builtin.Str.strKind
  split
  · omega
  · split <;> omega
theorem cut_of {x : Str} {l : List Nat} {ps : List Str} (hl : 1 ≤ x.length) (ho : PySem.Builtin.Str.occurrences x (Str.ofString "'") 0 x.length 2 = l) (hn : l.isEmpty = false) (hp : PySem.Builtin.Str.partsBetween x l 1 = ps) : Txt.splitMax x (Str.ofString "'") 2 = ps := by
  unfold Txt.splitMax
  have hlen : (Str.ofString "'").length = 1 := by decide +kernel
  have hlim : limitOf x 2 = 2 := rfl
  rw [if_neg, hlim, ho, if_neg, hlen, hp]
  · rw [hn]; decide
  · rw [Bool.or_eq_true, decide_eq_true_eq, decide_eq_true_eq, hlen]
    rintro (h | h)
    · omega
    · exact kind_pos x h
theorem cut11 (d a b : Nat) : Txt.splitMax ⟨#[d + 40, 39, a + 40, 39, 111, 39, b + 40]⟩ (Str.ofString "'") 2 = [⟨#[d + 40]⟩, ⟨#[a + 40]⟩, ⟨#[111, 39, b + 40]⟩] :=
  cut_of (l := [1, 3]) (Nat.le_of_ble_eq_true rfl) (by kernel_rfl) rfl (by kernel_rfl)
theorem cut12 (d a b b' : Nat) : Txt.splitMax ⟨#[d + 40, 39, a + 40, 39, 111, 39, b + 40, b' + 40]⟩ (Str.ofString "'") 2 = [⟨#[d + 40]⟩, ⟨#[a + 40]⟩, ⟨#[111, 39, b + 40, b' + 40]⟩] :=
  cut_of (l := [1, 3]) (Nat.le_of_ble_eq_true rfl) (by kernel_rfl) rfl (by kernel_rfl)
theorem cut21 (d a a' b : Nat) : Txt.splitMax ⟨#[d + 40, 39, a + 40, a' + 40, 39, 111, 39, b + 40]⟩ (Str.ofString "'") 2 = [⟨#[d + 40]⟩, ⟨#[a + 40, a' + 40]⟩, ⟨#[111, 39, b + 40]⟩] :=
  cut_of (l := [1, 4]) (Nat.le_of_ble_eq_true rfl) (by kernel_rfl) rfl (by kernel_rfl)
theorem cut22 (d a a' b b' : Nat) : Txt.splitMax ⟨#[d + 40, 39, a + 40, a' + 40, 39, 111, 39, b + 40, b' + 40]⟩ (Str.ofString "'") 2 = [⟨#[d + 40]⟩, ⟨#[a + 40, a' + 40]⟩, ⟨#[111, 39, b + 40, b' + 40]⟩] :=
  cut_of (l := [1, 4]) (Nat.le_of_ble_eq_true rfl) (by kernel_rfl) rfl (by kernel_rfl)
end Mine
namespace Mine
/-- a row's text: which power, the base's power in letters, o, the name -/
def rowT (k a b : Nat) : Str := ⟨(48 + k) :: 39 :: ((wd a).cps.toList ++ 39 :: 111 :: 39 :: (wd b).cps.toList) |>.toArray⟩
def tailT (b : Nat) : Str := ⟨(111 :: 39 :: (wd b).cps.toList).toArray⟩
def digT (k : Nat) : Str := ⟨#[48 + k]⟩
theorem wd_shape {n : Nat} (h0 : n ≠ 0) (h : n < 64) : (∃ p, wd n = ⟨#[p + 40]⟩) ∨ ∃ p q, wd n = ⟨#[p + 40, q + 40]⟩ := by
  have : ∀ u : Fin 64, u.1 ≠ 0 → (wd u.1 = ⟨#[(wd u.1).cps.getD 0 0 - 40 + 40]⟩) ∨ wd u.1 = ⟨#[(wd u.1).cps.getD 0 0 - 40 + 40, (wd u.1).cps.getD 1 0 - 40 + 40]⟩ := by decide +kernel
  rcases this ⟨n, h⟩ h0 with e | e
  · exact .inl ⟨_, e⟩
  · exact .inr ⟨_, _, e⟩
theorem row_cut {k a b : Nat} (ha0 : a ≠ 0) (ha : a < 64) (hb0 : b ≠ 0) (hb : b < 64) : Txt.splitMax (rowT k a b) (Str.ofString "'") 2 = [digT k, wd a, tailT b] := by
  have e : 48 + k = (8 + k) + 40 := by omega
  unfold rowT tailT digT
  rw [e]
  rcases wd_shape ha0 ha with ⟨p, ea⟩ | ⟨p, q, ea⟩ <;> rcases wd_shape hb0 hb with ⟨r, eb⟩ | ⟨r, t, eb⟩ <;> rw [ea, eb]
  · exact cut11 _ _ _
  · exact cut12 _ _ _ _
  · exact cut21 _ _ _ _
  · exact cut22 _ _ _ _ _
theorem none_cut : Txt.splitMax (Str.ofString "none") (Str.ofString "'") 2 = [Str.ofString "none"] := by decide +kernel
theorem row_len {k a b : Nat} : (rowT k a b).length ≤ 10 := by
  show ((48 + k) :: 39 :: ((wd a).cps.toList ++ 39 :: 111 :: 39 :: (wd b).cps.toList)).toArray.size ≤ 10
  have h1 : (wd a).cps.toList.length ≤ 2 := by have := wd_size a; simpa using this
  have h2 : (wd b).cps.toList.length ≤ 2 := by have := wd_size b; simpa using this
  simp only [List.size_toArray, List.length_cons, List.length_append]
  omega
end Mine
open PySem PySem.W PySem.Calls PyProof.Rows
set_option Elab.async false
set_option maxRecDepth 100000
set_option maxHeartbeats 8000000
set_option pp.maxSteps 1500
set_option pp.deepTerms false
namespace Mine
theorem split_row {prog : Program} {w : World} {A : Around} {E : Value → Shared → Prop} {s : Shared} {x : Str} {t u v : Tok} {h₀ : Heap} {L : Addr} {m : Str → Option Value} {news : List (Addr × Obj)} {Q : Value → Shared → Prop} {ps : List Str} (hF : Fr h₀ L s.heap m) (hN : News h₀ L s.heap news)
    (hc : Txt.splitMax x (Str.ofString "'") 2 = ps) (hx : x.length ≤ 100)
    (h : ∀ D l h' tk, l.map (·.1) = ps → Fr h₀ L h' m → News h₀ L h' ((D, listOf (strValues l).toArray 0) :: news) → (∀ q ∈ news, q.1 < D) → Q (.ref D) { s with heap := h', toks := tk }) :
    wpAny (model prog w) A (call (.builtin "str.split") [.str x t, .str (Str.ofString "'") u, .int 2 v]) Q E s :=
  splitN2A hF hN (by decide +kernel) (by decide) (fun l h' tk e _ _ _ F N => h _ l h' tk (e.trans hc) F N fun q hq => Heap.lt_size (hN q hq).1) (by rw [sizeLine_eq]; omega)
theorem three_of {α β : Type} {l : List (α × β)} {x y z : α} (h : l.map (·.1) = [x, y, z]) : ∃ a b c, l = [(x, a), (y, b), (z, c)] := by
  match l, h with
  | [(_, a), (_, b), (_, c)], h => cases h; exact ⟨a, b, c, rfl⟩
theorem one_of {α β : Type} {l : List (α × β)} {x : α} (h : l.map (·.1) = [x]) : ∃ a, l = [(x, a)] := by
  match l, h with
  | [(_, a)], h => cases h; exact ⟨a, rfl⟩
local macro_rules | `(tactic| walk_at "call builtin:str.split") => `(tactic| (k_here; (refine' split_row ?k1 ?k2 ?k3 ?k4 ?_; (case k1 => k_asm); (case k2 => k_asm); (case k3 => assumption); (case k4 => assumption)); intro _ _ _ _ _ _ _ _; (refine Paused.of ?_)))
theorem decode_row {w : World} {mean : ExcName → Option Value} {mg mb : Str → Option Value} {dp un : Nat} {gd : Option (List Code)} {cn : Str} {cs : Scope} {a : Addr} {ccd : Value} {cl : List (Str × Addr)} {outer : List Env} {A₀ : Around} {base h₀ : Heap} {L : Addr} {m : Str → Option Value} {news : List (Addr × Obj)} {s : Shared} {Q E : Value → Shared → Prop} {k ra rb : Nat} {t : Tok}
  (B : Below A₀ base outer h₀) (F : Fr h₀ L s.heap m) (X : (hd.heap_39 w.params).In h₀) (N : News h₀ L s.heap news) (T : Top hd.view_39 (looseW hd.view_39 [Str.ofString "_name_disallowed_re", Str.ofString "_value_disallowed_re"]) mean mg mb h₀) (hk : cs.kind = .function) (hdp : dp + 1 < recursionLimit)
  (ha0 : ra ≠ 0) (ha : ra < 64) (hb0 : rb ≠ 0) (hb : rb < 64)
  (hret : ∀ D t1 t2 t3 h' tk', Fr h₀ L h' m → News h₀ L h' ((D, listOf #[.str (digT k) t1, .str (wd ra) t2, .str (tailT rb) t3] 0) :: news) → (∀ q ∈ news, q.1 < D) → Q (.ref D) { s with heap := h', toks := tk' }) :
  wpAny (model Challenge.rw_wa0031_01.row.prog w) (ktrTop dp un gd cn cs L a ccd cl outer) (call (.ref 182) [.str (rowT k ra rb) t]) Q E s := by
  revert X; k_fill; intro X
  w_on
  have hcut := row_cut (k := k) ha0 ha hb0 hb
  have hlen : (rowT k ra rb).length ≤ 100 := Nat.le_trans row_len (by decide)
  refine wpAny_call ?_
  k_dflt (refine' code_def (binds := [(Str.ofString "s", Value.str (rowT k ra rb) t)]) ?k1 ?k2 ?k3 ?k4 ?k5 ?kA ?kF ?kK ?k6 ?k7 ?k8 ?k9 ?kB ?_ ?c2 ?c3 ?c4 ?c5; (case kA => exact rfl); (case kF => exact rfl); (case kK => assumption); (case k1 => k_asm); (case k2 => k_asm); (case k3 => k_asm); (case k4 => k_asm); (case k5 => k_asm); (case k6 => k_is); (case k7 => k_is); (case k8 => ktr_room); (case k9 => first | exact BindsTo.of_eq rfl | exact binds_K (by k_in) rfl (by k_is) rfl rfl rfl); (case c5 => decide); (case kB => exact locs rfl); (case c2 => exact rfl); (case c3 => exact rfl); (case c4 => exact rfl); k_whole; intro g' L' h' FG' F' N' B' X' T'; (try dsimp only); (try k_fold))
  k_steps
  refine Paused.mk ?_
  rename_i D l h9 tk9 e9 F9 N9 o9
  obtain ⟨t1, t2, t3, rfl⟩ := three_of e9
  have N8 : News g' L' h9 ((D, listOf #[.str (digT k) t1, .str (wd ra) t2, .str (tailT rb) t3] 0) :: news) := N9
  clear N9
  k_steps
  exact hret _ _ _ _ _ _ (by assumption) (by assumption) o9
theorem decode_none {w : World} {mean : ExcName → Option Value} {mg mb : Str → Option Value} {dp un : Nat} {gd : Option (List Code)} {cn : Str} {cs : Scope} {a : Addr} {ccd : Value} {cl : List (Str × Addr)} {outer : List Env} {A₀ : Around} {base h₀ : Heap} {L : Addr} {m : Str → Option Value} {news : List (Addr × Obj)} {s : Shared} {Q E : Value → Shared → Prop} {t : Tok}
  (B : Below A₀ base outer h₀) (F : Fr h₀ L s.heap m) (X : (hd.heap_39 w.params).In h₀) (N : News h₀ L s.heap news) (T : Top hd.view_39 (looseW hd.view_39 [Str.ofString "_name_disallowed_re", Str.ofString "_value_disallowed_re"]) mean mg mb h₀) (hk : cs.kind = .function) (hdp : dp + 1 < recursionLimit)
  (hret : ∀ D h' tk', Fr h₀ L h' m → News h₀ L h' ((D, { cls := .type "tuple", data := .seq #[.none, .none, .str (Str.ofString "none") t] }) :: news) → (∀ q ∈ news, q.1 < D) → Q (.ref D) { s with heap := h', toks := tk' }) :
  wpAny (model Challenge.rw_wa0031_01.row.prog w) (ktrTop dp un gd cn cs L a ccd cl outer) (call (.ref 182) [.str (Str.ofString "none") t]) Q E s := by
  revert X; k_fill; intro X
  w_on
  have hcut := none_cut
  have hlen : (Str.ofString "none").length ≤ 100 := by decide +kernel
  refine wpAny_call ?_
  k_dflt (refine' code_def (binds := [(Str.ofString "s", Value.str (Str.ofString "none") t)]) ?k1 ?k2 ?k3 ?k4 ?k5 ?kA ?kF ?kK ?k6 ?k7 ?k8 ?k9 ?kB ?_ ?c2 ?c3 ?c4 ?c5; (case kA => exact rfl); (case kF => exact rfl); (case kK => assumption); (case k1 => k_asm); (case k2 => k_asm); (case k3 => k_asm); (case k4 => k_asm); (case k5 => k_asm); (case k6 => k_is); (case k7 => k_is); (case k8 => ktr_room); (case k9 => first | exact BindsTo.of_eq rfl | exact binds_K (by k_in) rfl (by k_is) rfl rfl rfl); (case c5 => decide); (case kB => exact locs rfl); (case c2 => exact rfl); (case c3 => exact rfl); (case c4 => exact rfl); k_whole; intro g' L' h' FG' F' N' B' X' T'; (try dsimp only); (try k_fold))
  k_steps
  refine Paused.mk ?_
  rename_i D l h9 tk9 e9 F9 N9 o9
  obtain ⟨t1, rfl⟩ := one_of e9
  have N8 : News g' L' h9 ((D, listOf #[.str (Str.ofString "none") t1] 0) :: news) := N9
  clear N9
  k_steps
  refine hret _ _ _ (by assumption) (cb_drop (by assumption) ?_) ?_
  · intro p hp
    rcases List.mem_cons.mp hp with rfl | hp
    · exact .head _
    · exact .tail _ (.tail _ hp)
  · rename_i l1 _ _ _ _
    exact fun q hq => allLt_mem l1.2 q hq
end Mine
open PySem PySem.W PySem.Calls PyProof.Rows
set_option Elab.async false
set_option maxRecDepth 100000
set_option maxHeartbeats 8000000
namespace Mine
open PyProof.Rows.LCt PyProof.Rows.LCg
section
variable {prog : Program} {w : World} {A : Around} {s : Shared} {h₀ : Heap} {L : Addr} {m : Str → Option Value} {env : Env}
/-- a comprehension with one test, a word of its list at each number of items that are done -/
theorem rest_rel {ct elt : Expr} {x : Str} {scope : Scope} {cl : List (Str × Addr)} {S : List (Addr × Obj) → Prop} {P : Nat → Value → Prop} {Fin : List Value → List (Addr × Obj) → Prop} {n : Nat} {news : List (Addr × Obj)} (R : Nat → List Value → Prop)
    (h0 : R 0 []) (fin : ∀ ys, R n ys → Fin ys news)
    (step : ∀ i, i < n → ∀ ys v I oI C oC D m₂ h tk (E' : Value → Shared → Prop), R i ys → P i v → NsObj oC m₂ → m₂ x = some v → Fr h₀ L h m → News h₀ L h ((I, oI) :: (C, oC) :: (D, lst ys) :: news) → Off3 I C D news → ((@Ne Nat I C) ∧ (@Ne Nat I D) ∧ (@Ne Nat C D)) →
      wpAny (model prog w) A (isTrue ct (compEnvC scope cl C env) (eval ct (compEnvC scope cl C env))) (fun ok s' => if ok = true then
        wpAny (model prog w) A (eval elt (compEnvC scope cl C env)) (CompEnd h₀ L m { s with heap := h, toks := tk } I oI C oC D (lst ys) S (fun y news' => news' = news ∧ R (i + 1) (ys ++ [y]))) E' s'
        else CompEnd h₀ L m { s with heap := h, toks := tk } I oI C oC D (lst ys) S (fun _ news' => news' = news ∧ R (i + 1) ys) Value.none s') E' { s with heap := h, toks := tk }) :
    CompRestT prog w A h₀ L m env ct elt x scope cl s S P Fin n 0 [] news := by
  have key : ∀ k i ys, i + k = n → R i ys → CompRestT prog w A h₀ L m env ct elt x scope cl s S P Fin k i ys news := by
    intro k
    induction k with
    | zero =>
      intro i ys hi hR
      rw [Nat.add_zero] at hi
      subst hi
      exact CompRestT.zero (fin ys hR)
    | succ k ih =>
      intro i ys hi hR
      refine CompRestT.succ ?_
      intro v I oI C oC D m₂ h tk E' hv hC hx F N off ne
      refine wpAny_mono (step i (by omega) ys v I oI C oC D m₂ h tk E' hR hv hC hx F N off ne) (fun ok s' q => ?_) fun _ _ e => e
      cases ok with
      | true =>
        simp only [if_true] at q ⊢
        refine wpAny_mono q (fun y s'' q' => compEnd_mono ?_ q') fun _ _ e => e
        rintro y n' ⟨rfl, e⟩
        exact ih (i + 1) _ (by omega) e
      | false =>
        simp only [Bool.false_eq_true, if_false] at q ⊢
        refine compEnd_mono ?_ q
        rintro y n' ⟨rfl, e⟩
        exact ih (i + 1) _ (by omega) e
  exact key n 0 [] (Nat.zero_add n) h0
end
end Mine
namespace Mine
/-- the step: the least number whose square is no less than the prime less 1 -/
def sN (p : Nat) : Nat := if p ≤ 37 then 6 else if p ≤ 50 then 7 else 8
def IsP (p : Nat) : Prop := p ∈ [31, 37, 41, 43, 47, 53, 59, 61]
def squares (p : Nat) (i : Nat) : List Int := ((List.range i).map fun (j : Nat) => (1 + (j : Int))).filter fun k => decide (k * k ≥ (p : Int) - 1)
theorem squares_head {p : Nat} (h : IsP p) : (squares p 8)[0]? = some ((sN p : Nat) : Int) := by
  simp only [IsP, List.mem_cons, List.not_mem_nil, or_false] at h
  rcases h with rfl | rfl | rfl | rfl | rfl | rfl | rfl | rfl <;> decide +kernel
theorem squares_succ (p i : Nat) : squares p (i + 1) = squares p i ++ (if decide ((1 + (i : Int)) * (1 + (i : Int)) ≥ (p : Int) - 1) = true then [1 + (i : Int)] else []) := by
  unfold squares
  rw [List.range_succ, List.map_append, List.map_singleton, List.filter_append]
  congr 1
  simp [List.filter_cons]
theorem isP_bounds {p : Nat} (h : IsP p) : 31 ≤ p ∧ p ≤ 61 := by
  simp only [IsP, List.mem_cons, List.not_mem_nil, or_false] at h
  omega
theorem sN_bounds (p : Nat) : 6 ≤ sN p ∧ sN p ≤ 8 := by
  unfold sN
  split
  · omega
  · split <;> omega
theorem inv_ok : ∀ p ∈ [31, 37, 41, 43, 47, 53, 59, 61], ∀ x, x < p → x ≠ 0 → x * x ^ (p - 2) % p = 1 := by decide +kernel
theorem one_inv {p x : Nat} (h : IsP p) (hx : x < p) (h0 : x ≠ 0) : x * x ^ (p - 2) % p = 1 := inv_ok p h x hx h0
/-- cancelling -/
theorem cancel {p x y z : Nat} (h : IsP p) (hx : x < p) (h0 : x ≠ 0) (e : x * y % p = x * z % p) : y % p = z % p := by
  have e1 := one_inv h hx h0
  have key : ∀ y, x ^ (p - 2) * (x * y % p) % p = y % p := by
    intro y
    rw [Nat.mul_mod, Nat.mod_mod, ← Nat.mul_mod, ← Nat.mul_assoc, Nat.mul_comm (x ^ (p - 2)) x, Nat.mul_mod, e1, Nat.one_mul, Nat.mod_mod]
  rw [← key y, ← key z, e]
theorem mul_ne {p x y : Nat} (h : IsP p) (hx : x < p) (h0 : x ≠ 0) (hy : y < p) (hy0 : y ≠ 0) : x * y % p ≠ 0 := by
  intro e
  have e2 := cancel (z := 0) h hx h0 (by rw [e, Nat.mul_zero, Nat.zero_mod])
  rw [Nat.zero_mod, Nat.mod_eq_of_lt hy] at e2
  exact hy0 e2
theorem pow_ne {p x : Nat} (h : IsP p) (hx : x < p) (h0 : x ≠ 0) : ∀ k, x ^ k % p ≠ 0 := by
  have hp := (isP_bounds h).1
  intro k
  induction k with
  | zero => rw [Nat.pow_zero, Nat.mod_eq_of_lt (by omega)]; decide
  | succ k ih =>
    rw [Nat.pow_succ, Nat.mul_comm, Nat.mul_mod, Nat.mod_eq_of_lt hx]
    exact mul_ne h hx h0 (Nat.mod_lt _ (by omega)) ih
/-- the j-th word's number -/
def wN (b c p j : Nat) : Nat := c * (b ^ j % p) % p
theorem wN_lt {b c p j : Nat} (h : IsP p) : wN b c p j < 64 := by
  have := isP_bounds h
  exact Nat.lt_of_lt_of_le (Nat.mod_lt _ (by omega)) (by omega)
theorem wN_ne {b c p j : Nat} (h : IsP p) (hb : b < p) (hb0 : b ≠ 0) (hc : c < p) (hc0 : c ≠ 0) : wN b c p j ≠ 0 := by
  have := isP_bounds h
  exact mul_ne h hc hc0 (Nat.mod_lt _ (by omega)) (pow_ne h hb hb0 j)
/-- the great steps -/
def gN (b p s i : Nat) : Nat := b ^ (s * i) % p
/-- what the search gives -/
def IsEx (b c p s : Nat) (v : Int) : Prop :=
  (∃ i j, 1 ≤ i ∧ i ≤ s ∧ j < s ∧ wN b c p j = gN b p s i ∧ (∀ j', j < j' → j' < s → wN b c p j' ≠ gN b p s i) ∧ (∀ i', 1 ≤ i' → i' < i → ∀ j', j' < s → wN b c p j' ≠ gN b p s i') ∧ v = (i : Int) * s - j) ∨
  ((∀ i', 1 ≤ i' → i' ≤ s → ∀ j', j' < s → wN b c p j' ≠ gN b p s i') ∧ v = 0)
end Mine
open PySem PySem.W PySem.Calls PyProof.Rows
set_option Elab.async false
set_option maxRecDepth 100000
set_option maxHeartbeats 8000000
namespace Mine
/-- what the table tells after i turns -/
def TabSpec (b c p : Nat) (tb : List TRow) (i : Nat) : Prop :=
  (∀ r ∈ tb, ∃ j, j < i ∧ r.k = wN b c p j ∧ r.v = rowT j (b ^ j % p) (wN b c p j) ∧ ∀ j', j < j' → j' < i → wN b c p j' ≠ wN b c p j) ∧ (∀ j, j < i → ∃ r ∈ tb, r.k = wN b c p j)
theorem TabSpec.zero {b c p : Nat} : TabSpec b c p [] 0 := ⟨(by intro r h; cases h), fun j h => absurd h (Nat.not_lt_zero j)⟩
theorem TabSpec.succ {b c p : Nat} {tb : List TRow} {i n : Nat} (h : TabSpec b c p tb i) {a : Addr} {v : Str} {t tv : Tok} (hn : n = wN b c p i) (hv : v = rowT i (b ^ i % p) (wN b c p i)) :
    TabSpec b c p ((tb.filter fun r => decide (r.k ≠ n)) ++ [⟨a, n, v, t, tv⟩]) (i + 1) := by
  refine ⟨fun r hr => ?_, fun j hj => ?_⟩
  · rcases List.mem_append.mp hr with hr | hr
    · obtain ⟨hr1, hr2⟩ := List.mem_filter.mp hr
      obtain ⟨j, hj, e1, e2, e3⟩ := h.1 r hr1
      refine ⟨j, by omega, e1, e2, fun j' h1 h2 => ?_⟩
      by_cases e : j' = i
      · subst e
        rw [← hn, ← e1]
        exact fun q => (of_decide_eq_true hr2) q.symm
      · exact e3 j' h1 (by omega)
    · rw [List.mem_singleton.mp hr]
      exact ⟨i, by omega, hn, hv, fun j' h1 h2 => absurd h1 (by omega)⟩
  · by_cases e : wN b c p j = n
    · exact ⟨_, List.mem_append.mpr (.inr (.head _)), e.symm⟩
    · have hji : j < i := by
        rcases Nat.lt_or_eq_of_le (Nat.lt_succ_iff.mp hj) with q | q
        · exact q
        · subst q; exact absurd hn.symm e
      obtain ⟨r, hr, er⟩ := h.2 j hji
      exact ⟨r, List.mem_append.mpr (.inl (List.mem_filter.mpr ⟨hr, decide_eq_true (by rw [er]; exact e)⟩)), er⟩
theorem tab_succ {rest : List (Addr × Obj)} {tb : List TRow} {n : Nat} {a : Addr} {v : Str} {t tv : Tok} (h : Tab rest tb) (hn : n < 64) : Tab ((a, TRow.obj ⟨a, n, v, t, tv⟩) :: rest) ((tb.filter fun r => decide (r.k ≠ n)) ++ [⟨a, n, v, t, tv⟩]) := by
  intro r hr
  rcases List.mem_append.mp hr with hr | hr
  · exact ⟨.tail _ (h r (List.mem_filter.mp hr).1).1, (h r (List.mem_filter.mp hr).1).2⟩
  · rw [List.mem_singleton.mp hr]; exact ⟨.head _, hn⟩
theorem Tab.mono {rest rest' : List (Addr × Obj)} {tb : List TRow} (h : Tab rest tb) (hs : ∀ q ∈ rest, q ∈ rest') : Tab rest' tb := fun r hr => ⟨hs _ (h r hr).1, (h r hr).2⟩
theorem filter_len {tb : List TRow} {i n : Nat} {r : TRow} (h : tb.length ≤ i) : ((tb.filter fun r => decide (r.k ≠ n)) ++ [r]).length ≤ i + 1 := by
  have := List.length_filter_le (fun r : TRow => decide (r.k ≠ n)) tb
  rw [List.length_append]
  simp only [List.length_cons, List.length_nil]
  omega
/-- what the table's answer is -/
theorem tab_found {b c p : Nat} {tb : List TRow} {s g : Nat} (h : TabSpec b c p tb s) :
    (∃ r, tb.find? (fun r => decide (r.k = g)) = some r ∧ ∃ j, j < s ∧ g = wN b c p j ∧ r.v = rowT j (b ^ j % p) g ∧ ∀ j', j < j' → j' < s → wN b c p j' ≠ g) ∨ (tb.find? (fun r => decide (r.k = g)) = none ∧ ∀ j, j < s → wN b c p j ≠ g) := by
  cases hf : tb.find? (fun r => decide (r.k = g)) with
  | some r =>
    obtain ⟨j, hj, e1, e2, e3⟩ := h.1 r (List.mem_of_find?_eq_some hf)
    have eg : r.k = g := by have := List.find?_some hf; exact of_decide_eq_true this
    have e4 : wN b c p j = g := e1.symm.trans eg
    rw [e4] at e2 e3
    exact .inl ⟨r, rfl, j, hj, e4.symm, e2, e3⟩
  | none =>
    refine .inr ⟨rfl, fun j hj e => ?_⟩
    obtain ⟨r, hr, er⟩ := h.2 j hj
    have := List.find?_eq_none.mp hf r hr
    exact this (decide_eq_true (er.trans e))
theorem rowT_prints {k a b : Nat} (hk : k < 10) (ha : a < 64) (hb : b < 64) : Prints (rowT k a b) := by
  have h1 := wd_prints ha
  have h2 := wd_prints hb
  intro d hd
  have hd' : d ∈ (48 + k) :: 39 :: ((wd a).cps.toList ++ 39 :: 111 :: 39 :: (wd b).cps.toList) := List.mem_toArray.mp hd
  rcases List.mem_cons.mp hd' with rfl | hd'
  · omega
  rcases List.mem_cons.mp hd' with rfl | hd'
  · omega
  rcases List.mem_append.mp hd' with hd' | hd'
  · exact h1 d (by simpa using hd')
  rcases List.mem_cons.mp hd' with rfl | hd'
  · omega
  rcases List.mem_cons.mp hd' with rfl | hd'
  · omega
  rcases List.mem_cons.mp hd' with rfl | hd'
  · omega
  · exact h2 d (by simpa using hd')
theorem powL_get {b p n i : Nat} (h : i ≤ n) : (powL b p n)[i]? = some ((b ^ i % p : Nat) : Int) := by
  unfold powL
  rw [List.getElem?_map, List.getElem?_range (by omega)]
  rfl
theorem gN_zero {b p s : Nat} (h : 1 < p) : gN b p s 0 = 1 := by
  unfold gN
  rw [Nat.mul_zero, Nat.pow_zero, Nat.mod_eq_of_lt h]
theorem gN_succ {b p s i : Nat} : gN b p s i * (b ^ s % p) % p = gN b p s (i + 1) := by
  unfold gN
  rw [← Nat.mul_mod, Nat.mul_succ, Nat.pow_add]
theorem gN_ne {b p s i : Nat} (h : IsP p) (hb : b < p) (hb0 : b ≠ 0) : gN b p s i ≠ 0 := pow_ne h hb hb0 _
theorem gN_lt {b p s i : Nat} (h : IsP p) : gN b p s i < 64 := by
  have := isP_bounds h
  exact Nat.lt_of_lt_of_le (Nat.mod_lt _ (by omega)) (by omega)
end Mine
open PySem PySem.W PySem.Calls PyProof.Rows
set_option Elab.async false
set_option maxRecDepth 100000
set_option maxHeartbeats 8000000
namespace Mine
theorem dig_text : ∀ u : Fin 10, Str.ofString (toString ((u.1 : Nat) : Int)) = ⟨#[48 + u.1]⟩ := by decide +kernel
theorem row_text {i a n : Nat} (hi : i < 10) : Str.ofString (toString (i : Int)) ++ Str.ofString "'" ++ wd a ++ Str.ofString "'o'" ++ wd n = rowT i a n := by
  have q1 : Str.ofString "'" = ⟨#[39]⟩ := by decide +kernel
  have q2 : Str.ofString "'o'" = ⟨#[39, 111, 39]⟩ := by decide +kernel
  rw [q1, q2, dig_text ⟨i, hi⟩]
  show (⟨((#[48 + i] ++ #[39]) ++ (wd a).cps ++ #[39, 111, 39]) ++ (wd n).cps⟩ : Str) = _
  unfold rowT
  congr 1
  apply Array.toList_inj.mp
  simp
end Mine
open PySem PySem.W PySem.Calls PyProof.Rows
set_option Elab.async false
set_option maxRecDepth 100000
set_option maxHeartbeats 8000000
set_option pp.maxSteps 3000
namespace Mine
theorem fmt_row {prog : Program} {w : World} {A : Around} {E : Value → Shared → Prop} {s : Shared} {h₀ : Heap} {L b : Addr} {news : List (Addr × Obj)} {i a n : Nat} {t u1 u2 u3 : Tok} {Q : Value → Shared → Prop}
    (N : News h₀ L s.heap news) (hb : (b, ({ cls := .type "tuple", data := .seq #[.int (i : Int) u1, .str (wd a) u2, .str (wd n) u3] } : Obj)) ∈ news) (hi : i < 10)
    (h : ∀ t' k, Q (.str (rowT i a n) t') { s with toks := k }) : wpAny (model prog w) A (binaryOp .Mod (.str (Str.ofString "%d'%s'o'%s") t) (.ref b)) Q E s := by
  have h1 : (0 : Int) ≤ (i : Int) := by omega
  have h2 : (i : Int) < 10 ^ 10 := by omega
  have h3 : (wd a).length ≤ 2 := wd_len a
  have h4 : (wd n).length ≤ 2 := wd_len n
  refine' KPt.mod_tuple ?kptN ?kptb ?kptF ?kptm ?_
  case kptN => exact N
  case kptb => exact hb
  case kptF => kpt_eq
  case kptm => kpt_run
  intro t' k
  rw [row_text hi]
  exact h t' k
end Mine
open PySem PySem.W PySem.Calls PyProof.Rows
set_option Elab.async false
set_option maxRecDepth 100000
set_option maxHeartbeats 8000000
set_option pp.maxSteps 1500
set_option pp.deepTerms false
namespace Mine
local macro_rules | `(tactic| k_all) => `(tactic| assumption)
local macro_rules | `(tactic| walk_at "exec For Tuple Name nil nil") => `(tactic| (refine Paused.of ?_))
local macro_rules | `(tactic| walk_at "exec For") => `(tactic| (refine Paused.of ?_))
local macro_rules | `(tactic| walk_at "pyIter ref") => `(tactic| (refine Paused.of ?_))
theorem init_end {h₀ h : Heap} {L l x d : Addr} {ol ox od : Obj} {rest : List (Addr × Obj)} (N : News h₀ L h ((l, ol) :: (x, ox) :: (d, od) :: rest)) : News h₀ L h ((x, ox) :: (d, od) :: (l, ol) :: rest) := by
  refine cb_drop N fun p hp => ?_
  rcases List.mem_cons.mp hp with rfl | hp
  · exact .tail _ (.head _)
  rcases List.mem_cons.mp hp with rfl | hp
  · exact .tail _ (.tail _ (.head _))
  rcases List.mem_cons.mp hp with rfl | hp
  · exact .head _
  · exact .tail _ (.tail _ (.tail _ hp))
theorem headers_call {w : World} {mean : ExcName → Option Value} {mg mb : Str → Option Value} {dp un : Nat} {gd : Option (List Code)} {cn : Str} {cs : Scope} {a : Addr} {ccd : Value} {cl : List (Str × Addr)} {outer : List Env} {A₀ : Around} {base h₀ : Heap} {L : Addr} {m : Str → Option Value} {news : List (Addr × Obj)} {s : Shared} {Q E : Value → Shared → Prop}
  (B : Below A₀ base outer h₀) (F : Fr h₀ L s.heap m) (X : (hd.heap_39 w.params).In h₀) (N : News h₀ L s.heap news) (T : Top hd.view_39 (looseW hd.view_39 [Str.ofString "_name_disallowed_re", Str.ofString "_value_disallowed_re"]) mean mg mb h₀) (hk : cs.kind = .function) (hdp : dp + 1 < recursionLimit)
  (hret : ∀ x dx l (hh : Int) th e h' tk', Fr h₀ L h' m → News h₀ L h' ((x, instObj 171 dx) :: (dx, dictOf [⟨hh, .str (Str.ofString "_headers") th, .ref l⟩] 1) :: (l, listOf #[] e) :: news) →
    (∀ p ∈ news, p.1 < dx) → @LT.lt Nat _ dx x → @LT.lt Nat _ x l → Q (.ref x) { s with heap := h', toks := tk' }) :
  wpAny (model Challenge.rw_wa0031_01.row.prog w) (ktrTop dp un gd cn cs L a ccd cl outer) (call (.ref 171) []) Q E s := by
  revert X; k_fill; intro X
  w_on
  (refine' call_cls ?k1 ?k2 ?k3 ?k4 ?k5 ?k6 ?_; (case k1 => k_asm); (case k2 => k_asm); (case k3 => k_asm); (case k4 => k_is); (case k5 => k_is); (case k6 => k_is); k_whole; intro x1 d1 h1 F1 N1 l1 l2)
  have l4 := l1
  have l5 := l2
  try k_lt l1
  try k_lt2 l2
  have l3 : ∀ p ∈ news, p.1 ≠ d1 := fun p hp => Nat.ne_of_lt (l1 p hp)
  (refine' code_def ?k1 ?k2 ?k3 ?k4 ?k5 ?kA ?kF ?kK ?k6 ?k7 ?k8 ?k9 ?kB ?_ ?c2 ?c3 ?c4 ?c5; (case kA => exact rfl); (case kF => exact rfl); (case kK => first | rfl | assumption); (case k1 => k_asm); (case k2 => k_asm); (case k3 => k_asm); (case k4 => k_asm); (case k5 => k_asm); (case k6 => k_is); (case k7 => k_is); (case k8 => ktr_room); (case k9 => first | exact BindsTo.of_eq rfl | exact binds_K (by k_in) rfl (by k_is) rfl rfl rfl); (case c5 => decide); (case kB => exact locs rfl); (case c2 => exact rfl); (case c3 => exact rfl); (case c4 => exact rfl); k_whole; intro g' L' h' FG' F' N' B' X' T'; (try dsimp only); (try k_fold))
  k_steps
  refine Paused.mk ?_
  refine For_unr g' ?_
  k_steps
  refine Paused.mk ?_
  (with_reducible rename Fr g' _ _ _ => F2)
  (with_reducible rename News g' _ _ _ => N2)
  refine Iter_list_unr (s := ⟨_, _, _, _, _⟩) rfl (News.isList N2 (.head _)) F2 N2 (N2 _ (.head _)).2.1 ?_
  refine unr_ind (fun i m' => True) trivial ?_ ?_
  · rintro i hi
    exact absurd hi (by simp)
  · rintro m₁ h' tk _ F₁ N₁
    k_steps
    (with_reducible rename (x1 < _ ∧ d1 < _ ∧ _) => l9)
    exact hret x1 d1 _ _ _ _ _ _ (by assumption) (init_end (by assumption)) l4 l5 l9.1
end Mine
open PySem PySem.W PySem.Calls PyProof.Rows
set_option Elab.async false
set_option maxRecDepth 100000
set_option maxHeartbeats 8000000
set_option pp.maxSteps 1500
namespace Mine
theorem get_call2 {w : World} {mean : ExcName → Option Value} {mg mb : Str → Option Value} {dp un : Nat} {gd : Option (List Code)} {cn : Str} {cs : Scope} {a : Addr} {ccd : Value} {cl : List (Str × Addr)} {outer : List Env} {A₀ : Around} {base h₀ : Heap} {L : Addr} {m : Str → Option Value} {s : Shared} {Q E : Value → Shared → Prop} {x dx l : Addr} {hh : Int} {th : Tok} {e : Nat} {tb : List TRow} {rest : List (Addr × Obj)} {n b c p sn : Nat} {t tn : Tok}
  (B : Below A₀ base outer h₀) (F : Fr h₀ L s.heap m) (X : (hd.heap_39 w.params).In h₀) (N : News h₀ L s.heap ((x, instObj 171 dx) :: (dx, dictOf [⟨hh, .str (Str.ofString "_headers") th, .ref l⟩] 1) :: (l, listOf (refsOf tb) e) :: rest)) (T : Top hd.view_39 (looseW hd.view_39 [Str.ofString "_name_disallowed_re", Str.ofString "_value_disallowed_re"]) mean mg mb h₀) (hk : cs.kind = .function) (hdp : dp + 2 < recursionLimit)
  (hT : Tab rest tb) (hn : n < 64) (hS : TabSpec b c p tb sn) (hp : IsP p) (hb : b < p) (hb0 : b ≠ 0)
  (hret1 : ∀ j tv h' tk', j < sn → wN b c p j = n → (∀ j', j < j' → j' < sn → wN b c p j' ≠ n) → b ^ j % p ≠ 0 → b ^ j % p < 64 → Fr h₀ L h' m → News h₀ L h' ((x, instObj 171 dx) :: (dx, dictOf [⟨hh, .str (Str.ofString "_headers") th, .ref l⟩] 1) :: (l, listOf (refsOf tb) e) :: rest) → Q (.str (rowT j (b ^ j % p) n) tv) { s with heap := h', toks := tk' })
  (hret2 : ∀ h' tk', (∀ j, j < sn → wN b c p j ≠ n) → Fr h₀ L h' m → News h₀ L h' ((x, instObj 171 dx) :: (dx, dictOf [⟨hh, .str (Str.ofString "_headers") th, .ref l⟩] 1) :: (l, listOf (refsOf tb) e) :: rest) → Q (.str (Str.ofString "none") tn) { s with heap := h', toks := tk' }) :
  wpAny (model Challenge.rw_wa0031_01.row.prog w) (ktrTop dp un gd cn cs L a ccd cl outer) (call (.ref 118) [.ref x, .str (wl n) t, .str (Str.ofString "none") tn]) Q E s := by
  refine get_call B F X N T hk hdp hT hn ?_
  intro h' tk' F' N'
  rcases tab_found (g := n) hS with ⟨r, hf, j, hj, e1, e2, e3⟩ | ⟨hf, hno⟩
  · have hfd : found tb n tn = .str (rowT j (b ^ j % p) n) r.tv := by unfold found; rw [hf, ← e2]
    rw [hfd]
    have hpb := isP_bounds hp
    exact hret1 j r.tv h' tk' hj e1.symm e3 (pow_ne hp hb hb0 j) (Nat.lt_of_lt_of_le (Nat.mod_lt _ (by omega)) (by omega)) F' N'
  · have hfd : found tb n tn = .str (Str.ofString "none") tn := by unfold found; rw [hf]
    rw [hfd]
    exact hret2 h' tk' hno F' N'
section
variable {prog : Program} {w : World} {A : Around} {E : Value → Shared → Prop} {s : Shared} {Q : Value → Shared → Prop}
theorem occ_dig : ∀ u : Fin 9, PySem.Builtin.Str.occurrences (Str.ofString "0123456789") (digT u.1) 0 (Str.ofString "0123456789").length 1 = [u.1] := by decide +kernel
theorem idx_dig {j : Nat} {t u : Tok} (hj : j < 9) (h : ∀ t', Q (.int (j : Int) t') { s with toks := s.toks + 1 }) : wpAny (model prog w) A (call (.builtin "str.index") [.str (Str.ofString "0123456789") t, .str (digT j) u]) Q E s :=
  SC.index (occ_dig ⟨j, hj⟩) (h _)
theorem item_pow {value slice : PySem.Expr} {l : Addr} {vs : List Value} {b p n j : Nat} {u : Tok} (hl : s.heap.IsList l vs.toArray) (hi : IntsAre vs (powL b p n))
    (hn : n < 64) (hj : j ≤ n) (h : ∀ t, Q (.int ((b ^ j % p : Nat) : Int) t) s)
    (hs : subscripted slice false (.ref l) (.int (j : Int) u) = operate [.ref l, .int (j : Int) u] (getItem (.ref l) (.int (j : Int) u)) := by with_unfolding_all rfl) :
    wpAny (model prog w) A (subscriptTail value slice (.ref l) (.int (j : Int) u)) Q E s := by
  obtain ⟨t, ht⟩ := hi.get j _ (powL_get hj)
  exact tail_any hl.typeIs slot_list_getitem.lookup (wpAny_getItem_list hl (by omega) (by omega) (x := .int _ t) (by simpa using ht) (h t)) hs
end
theorem tail_text (n : Nat) : Str.ofString "o'" ++ wd n = tailT n := by
  have q1 : Str.ofString "o'" = ⟨#[111, 39]⟩ := by decide +kernel
  rw [q1]
  show (⟨#[111, 39] ++ (wd n).cps⟩ : Str) = _
  unfold tailT
  congr 1
  apply Array.toList_inj.mp
  simp
theorem add_tail {prog : Program} {w : World} {A : Around} {E : Value → Shared → Prop} {s : Shared} {Q : Value → Shared → Prop} {n : Nat} {t u : Tok} (h : ∀ t' tk, Q (.str (tailT n) t') { s with toks := tk }) :
    wpAny (model prog w) A (binaryOp .Add (.str (Str.ofString "o'") t) (.str (wd n) u)) Q E s := by
  have hl : (Str.ofString "o'").length = 2 := by decide +kernel
  have hw : (wd n).length ≤ 2 := wd_len n
  refine PyProof.Rows.add_str (fun t' tk => ?_) (by rw [hl, sizeLine_eq]; omega)
  rw [tail_text]
  exact h t' tk
theorem words_ok : ∀ u : Fin 64, PyData.strOk (wd u.1) = true ∧ PyData.strOk (tailT u.1) = true := by decide +kernel
theorem wd_ok {n : Nat} (h : n < 64) : PyData.strOk (wd n) = true := (words_ok ⟨n, h⟩).1
theorem tail_ok {n : Nat} (h : n < 64) : PyData.strOk (tailT n) = true := (words_ok ⟨n, h⟩).2
open PySem.Spec in
theorem ne_two {prog : Program} {w : World} {A : Around} {E : Value → Shared → Prop} {s : Shared} {Q : Value → Shared → Prop} {h₀ : Heap} {L la lb : Addr} {news : List (Addr × Obj)} {x y : Str} {t1 t2 t3 t4 : Tok}
    (N : News h₀ L s.heap news) (ha : (la, listOf #[.str x t1, .str y t2] 0) ∈ news) (hb : (lb, listOf #[.str x t3, .str y t4] 0) ∈ news) (hx : PyData.strOk x = true) (hy : PyData.strOk y = true) (hu : A.units + 64 < cLine) (h : Q (.bool false) s) :
    wpAny (model prog w) A (compareOp .NotEq (.ref la) (.ref lb)) Q E s := by
  refine ne_dataH (da := .list [.str x, .str y]) (db := .list [.str x, .str y]) (reads_list_at (News.get N ha) rfl rfl (ReadsAll.cons (Reads.str _ _) (ReadsAll.cons (Reads.str _ _) ReadsAll.nil))) (reads_list_at (News.get N hb) rfl rfl (ReadsAll.cons (Reads.str _ _) (ReadsAll.cons (Reads.str _ _) ReadsAll.nil))) (by simp [SeqAt.shaped, PyData.canLay0, PyData.depth, PyData.canLayAll0, PyData.depthAll, hx, hy]) (by simp [SeqAt.shaped, PyData.canLay0, PyData.depth, PyData.canLayAll0, PyData.depthAll, hx, hy]) hu ?_
  simp only [PyData.eqv, PyData.eqvAll, beq_self_eq_true, Bool.and_true, Bool.true_and, Bool.not_true, decide_true]
  exact h
end Mine
open PySem PySem.W PySem.Calls PyProof.Rows
set_option Elab.async false
set_option maxRecDepth 100000
set_option maxHeartbeats 8000000
set_option pp.maxSteps 1500
set_option pp.deepTerms false
namespace Mine
local macro_rules | `(tactic| k_all) => `(tactic| assumption)
local macro_rules | `(tactic| walk_at "eval ListComp") => `(tactic| (refine Paused.of ?_))
local macro_rules | `(tactic| walk_at "CompSrcT") => `(tactic| (refine Paused.of ?_))
local macro_rules | `(tactic| walk_at "pyIter ref") => `(tactic| (refine Paused.of ?_))
theorem mul_nat {prog : Program} {w : World} {A : Around} {E : Value → Shared → Prop} {s : Shared} {a b : Nat} {t u : Tok} {Q : Value → Shared → Prop} (hb : b < 64) (h : ∀ t, Q (.int ((a * b : Nat) : Int) t) { s with toks := s.toks + 1 }) :
    wpAny (model prog w) A (binaryOp .Mult (.int (a : Int) t) (.int (b : Int) u)) Q E s := by
  refine PyProof.Rows.mul_int ?_ (IntMulOk.of_right (intBits_le_64 (by omega) (by omega)))
  rw [← Int.natCast_mul]
  exact h _
theorem mod_nat {prog : Program} {w : World} {A : Around} {E : Value → Shared → Prop} {s : Shared} {a b : Nat} {t u : Tok} {Q : Value → Shared → Prop} (hb : (b : Int) ≠ 0) (h : ∀ t, Q (.int ((a % b : Nat) : Int) t) { s with toks := s.toks + 1 }) :
    wpAny (model prog w) A (binaryOp .Mod (.int (a : Int) t) (.int (b : Int) u)) Q E s := by
  refine PyProof.Rows.mod_int' hb ?_
  rw [Int.fmod_eq_emod_of_nonneg _ (by omega), show (a : Int) % (b : Int) = ((a % b : Nat) : Int) from rfl]
  exact h _
local macro_rules | `(tactic| walk_at "binaryOp Mult int int") => `(tactic| (k_here; (refine mul_nat (by omega) ?_); intro _))
local macro_rules | `(tactic| walk_at "binaryOp Mod int int") => `(tactic| (k_here; (refine mod_nat (by omega) ?_); intro _))
theorem item_nat {prog : Program} {w : World} {A : Around} {E : Value → Shared → Prop} {s : Shared} {value slice : PySem.Expr} {l : Addr} {vs : List Value} {ns : List Int} {x k : Int} {u : Tok} {Q : Value → Shared → Prop} (hl : s.heap.IsList l vs.toArray) (hi : IntsAre vs ns)
    (h0 : 0 ≤ k) (hfit : k < 2 ^ 63) (hx : ns[k.toNat]? = some x) (h : ∀ t, Q (.int x t) s)
    (hs : subscripted slice false (.ref l) (.int k u) = operate [.ref l, .int k u] (getItem (.ref l) (.int k u)) := by with_unfolding_all rfl) :
    wpAny (model prog w) A (subscriptTail value slice (.ref l) (.int k u)) Q E s := by
  obtain ⟨t, ht⟩ := hi.get k.toNat x hx
  exact tail_any hl.typeIs slot_list_getitem.lookup (wpAny_getItem_list hl h0 hfit (x := .int x t) (by simpa using ht) (h t)) hs
local macro_rules | `(tactic| walk_at "subscriptTail") => `(tactic| (k_here; (with_reducible show wpAny _ _ (subscriptTail _ _ (Value.ref _) (Value.int _ _)) _ _ _); (refine' item_nat ?k1 ?k2 ?k3 ?k4 ?k5 ?_; (case k1 => first | assumption | exact News.isList (by k_asm) (by first | assumption | k_mem)); (case k2 => assumption); (case k3 => omega); (case k4 => omega); (case k5 => assumption)); intro _))
local macro_rules | `(tactic| walk_at "call ref") => `(tactic| (k_here; (with_reducible show wpAny _ _ (call (Value.ref 210) _ _) _ _ _); (refine' powers_call ?k1 ?k2 ?k3 ?k4 ?k5 ?k6 ?k7 ?k8 ?k9 ?k10 ?_; (case k1 => k_asm); (case k2 => k_asm); (case k3 => k_asm); (case k4 => k_asm); (case k5 => k_asm); (case k6 => first | rfl | assumption); (case k7 => ktr_room); (case k8 => omega); (case k9 => omega); (case k10 => omega)); intro lP vsP eP hP tkP hvsP FP NP oP; (try dsimp only); (try k_fold)))
local macro_rules | `(tactic| walk_at "call ref") => `(tactic| (k_here; (with_reducible show wpAny _ _ (call (Value.ref 196) _ _) _ _ _); (refine' word_call ?k1 ?k2 ?k3 ?k4 ?k5 ?k6 ?k7 ?k8 ?k9 ?k10 ?_; (case k1 => k_asm); (case k2 => k_asm); (case k3 => k_asm); (case k4 => k_asm); (case k5 => k_asm); (case k6 => first | rfl | assumption); (case k7 => ktr_room); (case k8 => ktr_units); (case k9 => with_reducible assumption); (case k10 => with_reducible assumption)); intro h9 t9 tk9 F9 N9; (try dsimp only); (try k_fold)))
local macro_rules | `(tactic| walk_at "call ref") => `(tactic| (k_here; (with_reducible show wpAny _ _ (call (Value.ref 203) _ _) _ _ _); (refine' plain_call ?k1 ?k2 ?k3 ?k4 ?k5 ?k6 ?k7 ?k8 ?k9 ?_; (case k1 => k_asm); (case k2 => k_asm); (case k3 => k_asm); (case k4 => k_asm); (case k5 => k_asm); (case k6 => first | rfl | assumption); (case k7 => ktr_room); (case k8 => ktr_units); (case k9 => with_reducible assumption)); intro h9 t9 tk9 F9 N9; (try dsimp only); (try k_fold)))
local macro_rules | `(tactic| walk_at "call ref") => `(tactic| (k_here; (with_reducible show wpAny _ _ (call (Value.ref 171) _ _) _ _ _); (refine' headers_call ?k1 ?k2 ?k3 ?k4 ?k5 ?k6 ?k7 ?_; (case k1 => k_asm); (case k2 => k_asm); (case k3 => k_asm); (case k4 => k_asm); (case k5 => k_asm); (case k6 => first | rfl | assumption); (case k7 => ktr_room)); intro x9 dx9 l9 hh9 th9 el9 h9 tk9 F9 N9 o1 o2 o3; (try dsimp only); (try k_fold)))
def tabJ (b c p : Nat) (x dx l : Addr) (hh : Int) (th : Tok) (vP : Value) (tS tc : Tok) (lP : Addr) (vsP : List Value) (eP : Nat) (lC : Addr) (oC : Obj) (news : List (Addr × Obj)) (i : Nat) (m : Str → Option Value) (news' : List (Addr × Obj)) : Prop :=
  ∃ tb e rest0, news' = (x, instObj 171 dx) :: (dx, dictOf [⟨hh, .str (Str.ofString "_headers") th, .ref l⟩] 1) :: (l, listOf (refsOf tb) e) :: (lP, listOf vsP.toArray eP) :: (lC, oC) :: rest0 ∧ Tab rest0 tb ∧ (∀ q ∈ rest0, q.1 ≠ l) ∧ tb.length ≤ i ∧ TabSpec b c p tb i ∧ (∀ q ∈ news, q ∈ rest0) ∧
    m (Str.ofString "step") = some (.int (sN p : Nat) tS) ∧ m (Str.ofString "powers") = some vP ∧ m (Str.ofString "table") = some (.ref x) ∧ m (Str.ofString "number") = some (.int (c : Int) tc)
theorem tab_in {h₀ h : Heap} {L : Addr} {qI q1 q2 q3 q4 q5 : Addr × Obj} {rest : List (Addr × Obj)} (N : News h₀ L h (qI :: q1 :: q2 :: q3 :: q4 :: q5 :: rest)) : News h₀ L h (q1 :: q2 :: q3 :: q4 :: q5 :: qI :: rest) := by
  refine cb_drop N fun p hp => ?_
  simp only [List.mem_cons] at hp ⊢
  rcases hp with h | h | h | h | h | h | h
  · exact .inr (.inl h)
  · exact .inr (.inr (.inl h))
  · exact .inr (.inr (.inr (.inl h)))
  · exact .inr (.inr (.inr (.inr (.inl h))))
  · exact .inr (.inr (.inr (.inr (.inr (.inl h)))))
  · exact .inl h
  · exact .inr (.inr (.inr (.inr (.inr (.inr h)))))
theorem tab_sw {h₀ h : Heap} {L : Addr} {q1 q2 q3 q4 q5 q6 : Addr × Obj} {rest : List (Addr × Obj)} (N : News h₀ L h (q1 :: q2 :: q3 :: q4 :: q5 :: q6 :: rest)) : News h₀ L h (q1 :: q2 :: q3 :: q4 :: q6 :: q5 :: rest) := by
  refine cb_drop N fun p hp => ?_
  simp only [List.mem_cons] at hp ⊢
  rcases hp with h | h | h | h | h | h | h
  · exact .inl h
  · exact .inr (.inl h)
  · exact .inr (.inr (.inl h))
  · exact .inr (.inr (.inr (.inl h)))
  · exact .inr (.inr (.inr (.inr (.inr (.inl h)))))
  · exact .inr (.inr (.inr (.inr (.inl h))))
  · exact .inr (.inr (.inr (.inr (.inr (.inr h)))))
local macro_rules | `(tactic| walk_at "binaryOp Mod str ref") => `(tactic| (refine Paused.of ?_))
local macro_rules | `(tactic| walk_at "subscriptTail") => `(tactic| (k_here; (with_reducible show wpAny _ _ (subscriptTail _ _ (Value.ref _) (Value.int _ _)) _ _ _); (refine' item_pow ?k1 ?k2 ?k3 ?k4 ?_; (case k1 => exact News.isList (by k_asm) (by k_mem)); (case k2 => with_reducible assumption); (case k3 => omega); (case k4 => omega)); intro _))
local macro_rules | `(tactic| walk_at "call builtin:str.lower") => `(tactic| (k_here; (refine lower_wd ?_; intro _ _)))
local macro_rules | `(tactic| walk_at "call builtin:str.index") => `(tactic| (k_here; (refine idx_dig (by omega) ?_; intro _)))
local macro_rules | `(tactic| walk_at "call ref") => `(tactic| (k_here; (with_reducible show wpAny _ _ (call (Value.ref 118) _ _) _ _ _); (refine' get_call2 ?k1 ?k2 ?k3 ?k4 ?k5 ?k6 ?k7 ?k8 ?k9 ?ka ?kb ?kc ?kd ?_ ?_; (case k1 => k_asm); (case k2 => k_asm); (case k3 => k_asm); (case k4 => k_asm); (case k5 => k_asm); (case k6 => first | rfl | assumption); (case k7 => ktr_room); (case k8 => with_reducible assumption); (case k9 => with_reducible assumption); (case ka => with_reducible assumption); (case kb => with_reducible assumption); (case kc => with_reducible assumption); (case kd => with_reducible assumption)); intros; (try dsimp only); (try k_fold)))
local macro_rules | `(tactic| walk_at "call ref") => `(tactic| (k_here; (with_reducible show wpAny _ _ (call (Value.ref 182) _ _) _ _ _); (refine' decode_row ?k1 ?k2 ?k3 ?k4 ?k5 ?k6 ?k7 ?k8 ?k9 ?ka ?kb ?_; (case k1 => k_asm); (case k2 => k_asm); (case k3 => k_asm); (case k4 => k_asm); (case k5 => k_asm); (case k6 => first | rfl | assumption); (case k7 => ktr_room); (case k8 => with_reducible assumption); (case k9 => with_reducible assumption); (case ka => with_reducible assumption); (case kb => with_reducible assumption)); intros; (try dsimp only); (try k_fold)))
local macro_rules | `(tactic| walk_at "call ref") => `(tactic| (k_here; (with_reducible show wpAny _ _ (call (Value.ref 182) [Value.str (Str.ofString "none") _] _) _ _ _); (refine' decode_none ?k1 ?k2 ?k3 ?k4 ?k5 ?k6 ?k7 ?_; (case k1 => k_asm); (case k2 => k_asm); (case k3 => k_asm); (case k4 => k_asm); (case k5 => k_asm); (case k6 => first | rfl | assumption); (case k7 => ktr_room)); intros; (try dsimp only); (try k_fold)))
def seaJ (b c p : Nat) (x : Addr) (vP : Value) (tS : Tok) (led : List (Addr × Obj)) {tb : List TRow} (i : Nat) (m : Str → Option Value) (news' : List (Addr × Obj)) : Prop :=
  news' = led ∧ m (Str.ofString "step") = some (.int (sN p : Nat) tS) ∧ m (Str.ofString "powers") = some vP ∧ m (Str.ofString "table") = some (.ref x) ∧ (∃ tG, m (Str.ofString "great") = some (.int (gN b p (sN p) i : Nat) tG)) ∧ (∀ i', 1 ≤ i' → i' ≤ i → ∀ j, j < sN p → wN b c p j ≠ gN b p (sN p) i')
theorem rangeSize_one {n : Nat} : Builtin.Range.rangeSize 1 ((n : Int) + 1) 1 = (n : Int) := by
  unfold Builtin.Range.rangeSize
  rw [if_pos (by decide)]
  split
  · rw [Int.ediv_one]; omega
  · omega
local macro_rules | `(tactic| walk_at "binaryOp Add str str") => `(tactic| (k_here; (refine add_tail ?_); intro _ _))
local macro_rules | `(tactic| walk_at "compareOp NotEq ref ref") => `(tactic| (k_here; (with_reducible show wpAny _ _ (compareOp CmpOp.NotEq (Value.ref _) (Value.ref _)) _ _ _); (refine' ne_two ?k1 ?k2 ?k3 ?kx ?ky ?k4 ?_; (case k1 => k_asm); (case k2 => exact List.Mem.tail _ (List.Mem.head _)); (case k3 => exact List.Mem.head _); (case kx => exact wd_ok (by with_reducible assumption)); (case ky => exact tail_ok (by with_reducible assumption)); (case k4 => ktr_units))))
theorem tab_back {h₀ h : Heap} {L : Addr} {qI qa q1 q2 q3 q4 q5 : Addr × Obj} {rest : List (Addr × Obj)} (N : News h₀ L h (qa :: q1 :: q2 :: q3 :: q4 :: q5 :: qI :: rest)) : News h₀ L h (qI :: q1 :: q2 :: q3 :: q4 :: q5 :: rest) := by
  refine cb_drop N fun p hp => ?_
  simp only [List.mem_cons] at hp ⊢
  rcases hp with h | h | h | h | h | h | h
  · exact .inr (.inr (.inr (.inr (.inr (.inr (.inl h))))))
  · exact .inr (.inl h)
  · exact .inr (.inr (.inl h))
  · exact .inr (.inr (.inr (.inl h)))
  · exact .inr (.inr (.inr (.inr (.inl h))))
  · exact .inr (.inr (.inr (.inr (.inr (.inl h)))))
  · exact .inr (.inr (.inr (.inr (.inr (.inr (.inr h))))))
local macro_rules | `(tactic| walk_at "binaryOp Mod str ref") => `(tactic| (refine Paused.of ?_))
local macro_rules | `(tactic| walk_at "call ref") => `(tactic| (k_here; (with_reducible show wpAny _ _ (call (Value.ref 84) _ _) _ _ _); (refine' set_call ?k1 ?k2 ?k3 ?k4 ?k5 ?k6 ?k7 ?k8 ?k9 ?ka ?kb ?kc ?kd ?ke ?kf ?_; (case k1 => k_asm); (case k2 => k_asm); (case k3 => k_asm); (case k4 => k_asm); (case k5 => k_asm); (case k6 => first | rfl | assumption); (case k7 => ktr_room); (case k8 => with_reducible assumption); (case k9 => with_reducible assumption); (case ka => with_reducible assumption); (case kb => with_reducible assumption); (case kc => with_reducible assumption); (case kd => omega); (case ke => with_reducible assumption); (case kf => with_reducible assumption)); intro a9 e9 h9 tk9 F9 N9 o9; (try dsimp only); (try k_fold)))
theorem tab_out {h₀ h : Heap} {L : Addr} {qI qa q1 q2 q3 q4 q5 : Addr × Obj} {rest : List (Addr × Obj)} (N : News h₀ L h (q1 :: q2 :: q3 :: qa :: q4 :: q5 :: qI :: rest)) : News h₀ L h (qI :: q1 :: q2 :: q3 :: q4 :: q5 :: qa :: rest) := by
  refine cb_drop N fun p hp => ?_
  simp only [List.mem_cons] at hp ⊢
  rcases hp with h | h | h | h | h | h | h | h
  · exact .inr (.inr (.inr (.inr (.inr (.inr (.inl h))))))
  · exact .inl h
  · exact .inr (.inl h)
  · exact .inr (.inr (.inl h))
  · exact .inr (.inr (.inr (.inr (.inl h))))
  · exact .inr (.inr (.inr (.inr (.inr (.inl h)))))
  · exact .inr (.inr (.inr (.inl h)))
  · exact .inr (.inr (.inr (.inr (.inr (.inr (.inr h))))))
theorem exponent_call {w : World} {mean : ExcName → Option Value} {mg mb : Str → Option Value} {dp un : Nat} {gd : Option (List Code)} {cn : Str} {cs : Scope} {a : Addr} {ccd : Value} {cl : List (Str × Addr)} {outer : List Env} {A₀ : Around} {base h₀ : Heap} {L : Addr} {m : Str → Option Value} {news : List (Addr × Obj)} {s : Shared} {Q E : Value → Shared → Prop} {b c p : Nat} {tb tc tp : Tok}
  (B : Below A₀ base outer h₀) (F : Fr h₀ L s.heap m) (X : (hd.heap_39 w.params).In h₀) (N : News h₀ L s.heap news) (T : Top hd.view_39 (looseW hd.view_39 [Str.ofString "_name_disallowed_re", Str.ofString "_value_disallowed_re"]) mean mg mb h₀) (hk : cs.kind = .function) (hdp : dp + 4 < recursionLimit) (hu : un + 200 < cLine)
  (hp : IsP p) (hb : b < p) (hb0 : b ≠ 0) (hc : c < p) (hc0 : c ≠ 0)
  (hret : ∀ v t h' tk', IsEx b c p (sN p) v → Fr h₀ L h' m → News h₀ L h' news → Q (.int v t) { s with heap := h', toks := tk' }) :
  wpAny (model Challenge.rw_wa0031_01.row.prog w) (ktrTop dp un gd cn cs L a ccd cl outer) (call (.ref 215) [.int (b : Int) tb, .int (c : Int) tc, .int (p : Int) tp]) Q E s := by
  revert X; k_fill; intro X
  w_on
  have hpb := isP_bounds hp
  have hsb := sN_bounds p
  refine wpAny_call ?_
  k_dflt (refine' code_defC (binds := [(Str.ofString "base", Value.int (b : Int) tb), (Str.ofString "number", Value.int (c : Int) tc), (Str.ofString "prime", Value.int (p : Int) tp)]) ?k1 ?k2 ?k3 ?k4 ?k5 ?kA ?kF ?kK ?k6 ?k7 ?k8 ?k9 ?kB ?kD ?_ ?c2 ?c3 ?c4; (case kA => exact rfl); (case kF => exact rfl); (case kK => assumption); (case k1 => k_asm); (case k2 => k_asm); (case k3 => k_asm); (case k4 => k_asm); (case k5 => k_asm); (case k6 => k_is); (case k7 => k_is); (case k8 => ktr_room); (case k9 => exact BindsTo.of_eq rfl); (case kB => exact rfl); (case kD => decide +kernel); (case c2 => exact rfl); (case c3 => exact rfl); (case c4 => exact rfl); k_whole; intro g' L' h' tk' cells' FG' F' N' Y' B' X' T' l1; (try k_lt l1); k_cells Y'; (try simp only [List.cons_append, List.nil_append] at N'); (try dsimp only); (try k_lift B'); (try k_fold))
  rename_i oC dC
  k_steps
  refine Paused.mk ?_
  k_dflt (refine LCt.ListComp_T (F₀ := by k_asm) (by with_unfolding_all rfl) (by decide) (by rfl) (by decide) (by rfl) ?_)
  k_steps
  refine Paused.mk ?_
  refine LCt.CompSrcT.range (n := 8) (by rfl) (by k_asm) (by k_asm) (by assumption) (by first | decide | rfl) (by first | rfl | decide) (by rw [sizeLine_eq]; omega) ?_
  intro g9
  refine rest_rel (fun i ys => IntsAre ys (squares p i)) .nil ?_ ?_
  rotate_left
  · intro i hi ys v I oI C oC2 D m₂ h tk E' hR hv hC hx2 F2 N2 off ne
    obtain ⟨t, rfl⟩ := hv
    k_steps
    · rename_i hq
      refine LCg.CompEnd.intro F2 N2 _ (fun p hp => hp) off trivial ⟨rfl, ?_⟩
      rw [squares_succ, if_pos (decide_eq_true hq)]
      exact IntsAre.append hR (.cons _ _ .nil)
    · rename_i hq
      refine LCg.CompEnd.intro F2 N2 _ (fun p hp => hp) off trivial ⟨rfl, ?_⟩
      rw [squares_succ, if_neg (by rw [decide_eq_true_eq]; exact hq), List.append_nil]
      exact hR
  · intro ys hR D h9 tk9 F9 N9 off9
    have hs0 := squares_head hp
    have hys : (Shared.mk h9 s.gens s.drawn tk9 s.os).heap.IsList D ys.toArray := News.isList N9 (.head _)
    k_steps
    refine Paused.mk ?_
    (with_reducible rename Fr g' _ _ _ => F1)
    (with_reducible rename News g' _ _ _ => N1)
    (with_reducible rename IsRange _ _ _ _ _ _ _ _ => R1)
    rename_i tS _ lP vsP eP _ _ hvsP oP _ _ _ _ x dx l hh th el _ _ o1 o2 o3 _ _ _ _ _ _ _ _ _
    dsimp only at R1
    have exl : x ≠ l := fun e => by subst e; exact Nat.lt_irrefl _ o3
    have edl : dx ≠ l := fun e => by subst e; exact Nat.lt_irrefl _ (Nat.lt_trans o2 o3)
    have hall : ∀ q ∈ (lP, listOf vsP.toArray eP) :: (D, LCg.lst ys) :: (L' + 1, oC) :: news, q.1 ≠ l := fun q hq => Nat.ne_of_lt (Nat.lt_trans (o1 q hq) (Nat.lt_trans o2 o3))
    have elP : lP ≠ l := hall _ (.head _)
    have elC : L' + 1 ≠ l := hall _ (.tail _ (.tail _ (.head _)))
    refine loop_range (n := sN p) (tabJ b c p x dx l hh th (.ref lP) tS tc lP vsP eP (L' + 1) oC news) rfl R1 ?_ ?_ F1 (tab_sw N1) ⟨[], _, (D, LCg.lst ys) :: news, rfl, (by intro r hr; cases hr), ?_, Nat.le_refl _, TabSpec.zero, fun q hq => .tail _ hq, rfl, rfl, rfl, rfl⟩ ?_ ?_
    · exact small_one (by decide) (by decide) (by omega) (by omega)
    · rw [rangeSize_nat]; omega
    · intro q hq
      rcases List.mem_cons.mp hq with rfl | hq
      · exact hall _ (.tail _ (.head _))
      · exact hall _ (.tail _ (.tail _ (.tail _ hq)))
    · rintro i t m₁ news₁ h tk I oI hi ⟨tb, e, rest0, rfl, hT, hrl, htl, hspec, hsub, e1, e2, e3, e4⟩ hne hcl F₁ N₁
      rw [Int.zero_add] at F₁
      have F₂ := up5 (e := Str.ofString "k") F₁ (off e1 (by decide)) (off e2 (by decide)) (off e3 (by decide)) (off e4 (by decide)) rfl
      clear F₁ F1 N1
      have N₂ := tab_in N₁
      clear N₁
      have hbp := pow_ne hp hb hb0 i
      have hbl : b ^ i % p < 64 := Nat.lt_of_lt_of_le (Nat.mod_lt _ (by omega)) (by omega)
      have hw0 : c * (b ^ i % p) % p ≠ 0 := wN_ne hp hb hb0 hc hc0
      have hwl : c * (b ^ i % p) % p < 64 := wN_lt hp
      have hx : (powL b p (sN p))[((i : Nat) : Int).toNat]? = some ((b ^ i % p : Nat) : Int) := powL_get (Nat.le_of_lt hi)
      have hpz : (p : Int) ≠ 0 := by omega
      k_steps
      refine Paused.mk ?_
      (with_reducible rename News g' _ _ _ => N5)
      (with_reducible rename (x < _ ∧ dx < _ ∧ _) => l5)
      refine fmt_row N5 (.head _) (by omega) ?_
      intro t5 k5
      have hpr := rowT_prints (k := i) (by omega) hbl hwl
      have hps : (rowT i (b ^ i % p) (c * (b ^ i % p) % p)).cps.size ≤ 1000 := Nat.le_trans row_len (by decide)
      have N6 := cb_drop N5 fun q hq => .tail _ hq
      clear N5
      have hT2 : Tab ((lP, listOf vsP.toArray eP) :: (L' + 1, oC) :: (I, oI) :: rest0) tb := hT.mono fun q hq => .tail _ (.tail _ (.tail _ hq))
      have hrl2 : ∀ q ∈ (lP, listOf vsP.toArray eP) :: (L' + 1, oC) :: (I, oI) :: rest0, q.1 ≠ l := by
        intro q hq
        rcases List.mem_cons.mp hq with rfl | hq
        · exact elP
        rcases List.mem_cons.mp hq with rfl | hq
        · exact elC
        rcases List.mem_cons.mp hq with rfl | hq
        · exact fun e => hne _ (.tail _ (.tail _ (.head _))) e.symm
        · exact hrl q hq
      k_steps
      (with_reducible rename Fr g' _ _ _ => F9)
      (with_reducible rename News g' _ _ _ => N9)
      rename_i a9 _ _ _ o9
      have haI : a9 ≠ I := news_ne N9 (.tail _ (.tail _ (.tail _ (.head _)))) (.tail _ (.tail _ (.tail _ (.tail _ (.tail _ (.tail _ (.head _))))))) (by rw [hcl]; show Value.type "tuple" ≠ Value.type "range_iterator"; decide)
      refine TurnR.next _ F9 (tab_out N9) ?_ ⟨_, _, _ :: rest0, rfl, tab_succ hT hwl, ?_, filter_len htl, TabSpec.succ hspec rfl rfl, fun q hq => .tail _ (hsub q hq), rfl, rfl, rfl, rfl⟩
      · intro q hq
        rcases List.mem_cons.mp hq with rfl | hq
        · exact hne _ (.head _)
        rcases List.mem_cons.mp hq with rfl | hq
        · exact hne _ (.tail _ (.head _))
        rcases List.mem_cons.mp hq with rfl | hq
        · exact fun e => hne _ (.tail _ (.tail _ (.head _))) e
        rcases List.mem_cons.mp hq with rfl | hq
        · exact hne _ (.tail _ (.tail _ (.tail _ (.head _))))
        rcases List.mem_cons.mp hq with rfl | hq
        · exact hne _ (.tail _ (.tail _ (.tail _ (.tail _ (.head _)))))
        rcases List.mem_cons.mp hq with rfl | hq
        · exact haI
        · exact hne _ (.tail _ (.tail _ (.tail _ (.tail _ (.tail _ hq)))))
      · intro q hq
        rcases List.mem_cons.mp hq with rfl | hq
        · exact o9
        · exact hrl q hq
    · rintro m₁ news₁ h tk ⟨tb, e, rest0, rfl, hT, hrl, htl, hspec, hsub, e1, e2, e3, e4⟩ F₁ N₁
      have F₂ := up4 F₁ e1 e2 e3 e4
      clear F₁ F1 N1
      k_steps
      refine Paused.mk ?_
      (with_reducible rename Fr g' _ _ _ => F3)
      (with_reducible rename News g' _ _ _ => N3)
      (with_reducible rename IsRange _ _ _ _ _ _ _ _ => R3)
      dsimp only at R3
      refine loop_range (n := sN p) (seaJ b c p x (.ref lP) tS _ (tb := tb)) rfl R3 ?_ ?_ F3 N3 ⟨rfl, rfl, rfl, rfl, ?_, ?_⟩ ?_ ?_
      · exact small_one (by decide) (by decide) (by omega) (by omega)
      · rw [rangeSize_one]
      · refine' ⟨?tG, ?hG⟩
        case hG =>
          rw [gN_zero (by omega)]
          exact rfl
      · intro i' h1 h2; omega
      · rintro i t m₁ news₁ h tk I oI hi ⟨rfl, e1, e2, e3, ⟨tG, e4⟩, hno⟩ hne hcl F₁ N₁
        rw [show (1 : Int) + ((i : Nat) : Int) = ((i + 1 : Nat) : Int) from by omega] at F₁
        have F₂ := up5 (e := Str.ofString "k") F₁ (off e1 (by decide)) (off e2 (by decide)) (off e3 (by decide)) (off e4 (by decide)) rfl
        clear F₁ F3 N3
        have N₂ := tab_in N₁
        clear N₁
        have hbl : b ^ sN p % p < 64 := Nat.lt_of_lt_of_le (Nat.mod_lt _ (by omega)) (by omega)
        have hg0 : gN b p (sN p) i * (b ^ sN p % p) % p ≠ 0 := by rw [gN_succ]; exact gN_ne hp hb hb0
        have hgl : gN b p (sN p) i * (b ^ sN p % p) % p < 64 := by rw [gN_succ]; exact gN_lt hp
        have hpz : (p : Int) ≠ 0 := by omega
        have hss : sN p < 64 := by omega
        have hT2 : Tab ((lP, listOf vsP.toArray eP) :: (L' + 1, oC) :: (I, oI) :: rest0) tb := hT.mono fun q hq => .tail _ (.tail _ (.tail _ hq))
        k_steps
        · (with_reducible rename (_ < sN p) => hj9)
          (with_reducible rename (wN b c p _ = _) => hw9)
          (with_reducible rename (∀ j', _ < j' → j' < sN p → wN b c p j' ≠ _) => hq9)
          dsimp only
          dsimp only [TurnR]
          k_steps
          refine hret _ _ _ _ (.inl ⟨i + 1, _, by omega, by omega, hj9, hw9.trans gN_succ, ?_, ?_, ?_⟩) (by assumption) (cb_drop (by assumption) ?_)
          · intro j' h1 h2
            rw [← gN_succ]
            exact hq9 j' h1 h2
          · intro i' h1 h2 j' h3
            exact hno i' h1 (by omega) j' h3
          · rw [Int.natCast_mul]
          · intro q hq
            (repeat (first | exact hsub _ hq | refine List.Mem.tail _ ?_))
        · (with_reducible rename Fr g' _ _ _ => F9)
          (with_reducible rename News g' _ _ _ => N9)
          (with_reducible rename (∀ j', j' < sN p → wN b c p j' ≠ _) => hq9)
          refine TurnR.next _ F9 (tab_back N9) hne ⟨rfl, rfl, rfl, rfl, ?_, ?_⟩
          · refine' ⟨?tG2, ?hG2⟩
            case hG2 =>
              rw [← gN_succ]
              exact rfl
          · intro i' h1 h2 j' h3
            by_cases e9 : i' ≤ i
            · exact hno i' h1 e9 j' h3
            · have e8 : i' = i + 1 := by omega
              rw [e8, ← gN_succ]
              exact hq9 j' h3
      · rintro m₁ news₁ h tk ⟨rfl, e1, e2, e3, _, hno⟩ F₁ N₁
        k_steps
        refine hret _ _ _ _ (.inr ⟨hno, rfl⟩) (by assumption) (cb_drop (by assumption) ?_)
        intro q hq
        (repeat (first | exact hsub _ hq | refine List.Mem.tail _ ?_))
end Mine
namespace Mine
/-- the least exponent from 1 on, 0 where there is none -/
def LeastEx (b c p v : Nat) : Prop :=
  (1 ≤ v ∧ v ≤ p - 1 ∧ b ^ v % p = c ∧ ∀ e, 1 ≤ e → e < v → b ^ e % p ≠ c) ∨ (v = 0 ∧ ∀ e, 1 ≤ e → e ≤ p - 1 → b ^ e % p ≠ c)
theorem sq_enough {p : Nat} (h : IsP p) : p - 1 ≤ sN p * sN p := by
  simp only [IsP, List.mem_cons, List.not_mem_nil, or_false] at h
  rcases h with rfl | rfl | rfl | rfl | rfl | rfl | rfl | rfl <;> decide +kernel
theorem fermat {p b : Nat} (h : IsP p) (hb : b < p) (hb0 : b ≠ 0) : b ^ (p - 1) % p = 1 := by
  have hp := (isP_bounds h).1
  have e := one_inv h hb hb0
  rw [show p - 1 = (p - 2) + 1 from by omega, Nat.pow_succ, Nat.mul_comm]
  exact e
/-- an exponent e is asked by its great step -/
theorem meet {b c p s e : Nat} (he : 1 ≤ e) (hs : 0 < s) (hc : b ^ e % p = c) : ∃ i j, 1 ≤ i ∧ j < s ∧ i * s = e + j ∧ wN b c p j = gN b p s i := by
  refine ⟨(e + s - 1) / s, (e + s - 1) / s * s - e, ?_, ?_, ?_, ?_⟩
  · exact (Nat.le_div_iff_mul_le hs).mpr (by omega)
  · have h1 := Nat.div_add_mod (e + s - 1) s
    have h2 := Nat.mod_lt (e + s - 1) hs
    have h3 : (e + s - 1) / s * s = s * ((e + s - 1) / s) := Nat.mul_comm _ _
    omega
  · have h1 := Nat.div_add_mod (e + s - 1) s
    have h2 := Nat.mod_lt (e + s - 1) hs
    have h3 : (e + s - 1) / s * s = s * ((e + s - 1) / s) := Nat.mul_comm _ _
    omega
  · have h1 := Nat.div_add_mod (e + s - 1) s
    have h2 := Nat.mod_lt (e + s - 1) hs
    have h3 : (e + s - 1) / s * s = s * ((e + s - 1) / s) := Nat.mul_comm _ _
    unfold wN gN
    rw [← hc, ← Nat.mul_mod, ← Nat.pow_add]
    congr 2
    omega
theorem least_of {b c p : Nat} {v : Int} (h : IsP p) (hb : b < p) (hb0 : b ≠ 0) (hc : c < p) (hv : IsEx b c p (sN p) v) : ∃ n : Nat, v = (n : Int) ∧ LeastEx b c p n := by
  have hs := sN_bounds p
  have hpb := isP_bounds h
  rcases hv with ⟨i, j, hi1, hi2, hj, heq, hq, hno, rfl⟩ | ⟨hno, rfl⟩
  · have hle : j < i * sN p := Nat.lt_of_lt_of_le hj (by have := Nat.mul_le_mul_right (sN p) hi1; omega)
    have hcv : b ^ (i * sN p - j) % p = c := by
      unfold wN gN at heq
      have e1 : b ^ (sN p * i) % p = (b ^ j % p) * b ^ (i * sN p - j) % p := by
        rw [Nat.mod_mul_mod, ← Nat.pow_add]
        congr 2
        have : i * sN p = sN p * i := Nat.mul_comm _ _
        omega
      rw [e1, Nat.mul_comm c] at heq
      have e2 := cancel h (Nat.mod_lt _ (by omega)) (pow_ne h hb hb0 j) heq
      rw [Nat.mod_eq_of_lt hc] at e2
      exact e2.symm
    have hleast : ∀ e, 1 ≤ e → e < i * sN p - j → b ^ e % p ≠ c := by
      intro e he1 he2 hce
      obtain ⟨i', j', h1, h2, h3, h4⟩ := meet he1 (by omega : 0 < sN p) hce
      rcases Nat.lt_trichotomy i' i with q | q | q
      · exact hno i' h1 q j' h2 h4
      · subst q
        exact hq j' (by omega) h2 h4
      · have h5 : (i + 1) * sN p ≤ i' * sN p := Nat.mul_le_mul_right _ q
        rw [Nat.add_mul] at h5
        omega
    refine ⟨i * sN p - j, by rw [Int.ofNat_sub (Nat.le_of_lt hle), Int.natCast_mul], .inl ⟨by omega, ?_, hcv, hleast⟩⟩
    by_cases hb9 : i * sN p - j ≤ p - 1
    · exact hb9
    · exfalso
      refine hleast (i * sN p - j - (p - 1)) (by omega) (by omega) ?_
      rw [← hcv, show i * sN p - j = (p - 1) + (i * sN p - j - (p - 1)) from by omega, Nat.pow_add, Nat.mul_mod, fermat h hb hb0, Nat.one_mul, Nat.mod_mod]
      congr 2
      omega
  · refine ⟨0, rfl, .inr ⟨rfl, fun e he1 he2 hce => ?_⟩⟩
    obtain ⟨i', j', h1, h2, h3, h4⟩ := meet he1 (by omega : 0 < sN p) hce
    refine hno i' h1 ?_ j' h2 h4
    have h5 := sq_enough h
    rcases Nat.lt_or_ge (sN p) i' with q | q
    · have h6 : (sN p + 1) * sN p ≤ i' * sN p := Nat.mul_le_mul_right _ q
      rw [Nat.add_mul] at h6
      omega
    · exact q
end Mine
open PySem PySem.W PySem.Calls PyProof.Rows
set_option Elab.async false
set_option maxRecDepth 100000
set_option maxHeartbeats 8000000
namespace Mine
theorem drop_get {b p e : Nat} (h1 : 1 ≤ e) (h2 : e ≤ p - 1) : ((powL b p (p - 1)).drop 1)[e - 1]? = some ((b ^ e % p : Nat) : Int) := by
  rw [List.getElem?_drop, show 1 + (e - 1) = e from by omega]
  exact powL_get h2
theorem drop_len {b p : Nat} : ((powL b p (p - 1)).drop 1).length = p - 1 := by
  rw [List.length_drop, powL_len]; omega
theorem plain_none {b c p n : Nat} {ns : List Int} (hn : ns = powL b p (p - 1)) (hL : LeastEx b c p n) (ha : ((ns.drop 1).any fun x => x == (c : Int)) = false) : n = 0 := by
  rcases hL with ⟨h1, h2, h3, h4⟩ | ⟨h1, _⟩
  · exfalso
    rw [List.any_eq_false] at ha
    have hg := drop_get (b := b) h1 h2
    rw [← hn, h3] at hg
    exact ha _ (List.mem_of_getElem? hg) (beq_self_eq_true _)
  · exact h1
theorem plain_some {b c p n : Nat} {ns : List Int} (hn : ns = powL b p (p - 1)) (hL : LeastEx b c p n) (ha : ((ns.drop 1).any fun x => x == (c : Int)) = true) : n = (ns.drop 1).idxOf (c : Int) + 1 := by
  have hmem : (c : Int) ∈ ns.drop 1 := by
    obtain ⟨x, hx, e⟩ := List.any_eq_true.mp ha
    rw [← beq_iff_eq.mp e]; exact hx
  have hlt : (ns.drop 1).idxOf (c : Int) < (ns.drop 1).length := List.idxOf_lt_length_iff.mpr hmem
  have hge : (ns.drop 1)[(ns.drop 1).idxOf (c : Int)]? = some (c : Int) := by
    rw [List.getElem?_eq_getElem hlt, List.getElem_idxOf hlt]
  have hlt2 : (ns.drop 1).idxOf (c : Int) < p - 1 := by
    have := drop_len (b := b) (p := p)
    rw [← hn] at this
    omega
  have hk : b ^ ((ns.drop 1).idxOf (c : Int) + 1) % p = c := by
    have hg := drop_get (b := b) (p := p) (e := (ns.drop 1).idxOf (c : Int) + 1) (by omega) (by omega)
    rw [← hn, Nat.add_sub_cancel, hge] at hg
    have := Option.some.inj hg
    omega
  rcases hL with ⟨h1, h2, h3, h4⟩ | ⟨_, h2⟩
  · have hle : ¬ ((ns.drop 1).idxOf (c : Int) + 1 < n) := fun q => h4 _ (by omega) q hk
    have hge2 : ¬ (n - 1 < (ns.drop 1).idxOf (c : Int)) := by
      intro q
      have hg := drop_get (b := b) h1 h2
      rw [← hn, h3] at hg
      have q2 : n - 1 < (ns.drop 1).findIdx (· == (c : Int)) := q
      have := List.not_of_lt_findIdx q2
      have hl3 : n - 1 < (ns.drop 1).length := Nat.lt_trans q hlt
      rw [List.getElem?_eq_getElem hl3] at hg
      rw [Option.some.inj hg] at this
      simp at this
    omega
  · exact absurd hk (h2 _ (by omega) (by omega))
theorem weight_small : ∀ ns : List Int, (∀ x ∈ ns, x.natAbs < 64) → PyData.weightAll (ns.map .int) ≤ 7 * ns.length
  | [], _ => Nat.le_refl _
  | x :: r, h => by
    have h1 := weight_small r fun y hy => h y (.tail _ hy)
    have h2 := h x (.head _)
    have h3 : PyData.weight (.int x) ≤ 6 := by
      unfold PyData.weight
      split
      · omega
      · by_cases h0 : x.natAbs = 0
        · rw [h0]; decide
        · have := (Nat.log2_lt h0 (k := 6)).mpr h2
          omega
    rw [List.map_cons, PyData.weightAll, List.length_cons]
    omega
theorem lay_small {ns : List Int} (h : ∀ x ∈ ns, x.natAbs < 64) (hl : ns.length ≤ 64) : PyData.layable0 (.list (ns.map .int)) = true := by
  have h1 := weight_small ns h
  have h2 : PyData.weightAll (ns.map .int) ≤ 2 ^ 20 := by omega
  simp only [PyData.layable0, PyData.canLay0, PyData.depth, PyData.weight, ke_canLayAll0, ke_depthAll, Bool.true_and]
  rw [Bool.and_eq_true]
  exact ⟨by decide, decide_eq_true h2⟩
theorem lay_pow {b p : Nat} (h : IsP p) : PyData.layable0 (.list (((powL b p (p - 1)).drop 1).map .int)) = true := by
  have hp := isP_bounds h
  refine lay_small (fun x hx => ?_) (by rw [drop_len]; omega)
  obtain ⟨k, _, rfl⟩ := List.mem_map.mp (List.mem_of_mem_drop hx)
  rw [Int.natAbs_natCast]
  exact Nat.lt_of_lt_of_le (Nat.mod_lt _ (by omega)) (by omega)
theorem index_pow {prog : Program} {w : World} {A : Around} {E : Value → Shared → Prop} {s : Shared} {Q : Value → Shared → Prop} {h₀ : Heap} {L l : Addr} {news : List (Addr × Obj)} {vs : List Value} {ns : List Int} {b c p e : Nat} {t : Tok}
    (N : News h₀ L s.heap news) (hm : (l, listOf vs.toArray e) ∈ news) (hi : IntsAre vs (ns.drop 1)) (hn : ns = powL b p (p - 1)) (hp : IsP p) (hb : b < p) (ha : ((ns.drop 1).any fun x => x == (c : Int)) = true)
    (h : ∀ t', Q (.int (((ns.drop 1).idxOf (c : Int) : Nat) : Int) t') { s with toks := s.toks + 1 }) :
    wpAny (model prog w) A (call (.builtin "list.index") [.ref l, .int (c : Int) t]) Q E s := by
  have hmem : (c : Int) ∈ ns.drop 1 := by
    obtain ⟨x, hx, e⟩ := List.any_eq_true.mp ha
    rw [← beq_iff_eq.mp e]; exact hx
  exact index_list_ints (News.isList N hm) hi (by rw [hn]; exact lay_pow hp) hmem (h _)
end Mine
open PySem PySem.W PySem.Calls PyProof.Rows
set_option Elab.async false
set_option maxRecDepth 100000
set_option maxHeartbeats 8000000
set_option pp.maxSteps 1500
set_option pp.deepTerms false
namespace Mine
section
variable {prog : Program} {w : World} {A : Around} {E : Value → Shared → Prop} {s : Shared} {Q : Value → Shared → Prop}
theorem mod_any {X q : Int} {t u : Tok} (h0 : 0 < q) (h : ∀ (r : Nat) t', (r : Int) < q → Q (.int (r : Int) t') { s with toks := s.toks + 1 }) : wpAny (model prog w) A (binaryOp .Mod (.int X t) (.int q u)) Q E s := by
  refine PyProof.Rows.mod_int' (by omega) ?_
  rw [Int.fmod_eq_emod_of_nonneg _ (by omega)]
  have h1 := Int.emod_nonneg X (show q ≠ 0 by omega)
  have h2 := Int.emod_lt_of_pos X h0
  have e : (((X % q).toNat : Nat) : Int) = X % q := Int.toNat_of_nonneg h1
  rw [← e]
  exact h _ _ (by rw [e]; exact h2)
theorem sub_one {p : Nat} {t u : Tok} (h1 : 1 ≤ p) (h : ∀ t', Q (.int ((p - 1 : Nat) : Int) t') { s with toks := s.toks + 1 }) : wpAny (model prog w) A (binaryOp .Sub (.int (p : Int) t) (.int 1 u)) Q E s := by
  have e : ((p - 1 : Nat) : Int) = (p : Int) - 1 := by omega
  refine PyProof.Rows.sub_int ?_
  rw [← e]
  exact h _
theorem add_one {p : Nat} {t u : Tok} (h : ∀ t', Q (.int ((p + 1 : Nat) : Int) t') { s with toks := s.toks + 1 }) : wpAny (model prog w) A (binaryOp .Add (.int (p : Int) t) (.int 1 u)) Q E s := by
  refine PyProof.Rows.add_int ?_
  exact h _
theorem item_prime {value slice : PySem.Expr} {l : Addr} {r : Nat} {u t1 t2 t3 t4 t5 t6 t7 t8 : Tok} (hl : s.heap.IsList l #[.int 31 t1, .int 37 t2, .int 41 t3, .int 43 t4, .int 47 t5, .int 53 t6, .int 59 t7, .int 61 t8]) (hr : r < 8)
    (h : ∀ (p : Nat) t, IsP p → 31 ≤ p → p ≤ 61 → Q (.int (p : Int) t) s)
    (hs : subscripted slice false (.ref l) (.int (r : Int) u) = operate [.ref l, .int (r : Int) u] (getItem (.ref l) (.int (r : Int) u)) := by with_unfolding_all rfl) :
    wpAny (model prog w) A (subscriptTail value slice (.ref l) (.int (r : Int) u)) Q E s := by
  have key : ∃ p t, IsP p ∧ (#[Value.int 31 t1, .int 37 t2, .int 41 t3, .int 43 t4, .int 47 t5, .int 53 t6, .int 59 t7, .int 61 t8])[r]? = some (.int ((p : Nat) : Int) t) := by
    match r, hr with
    | 0, _ => exact ⟨31, t1, by simp [IsP], rfl⟩
    | 1, _ => exact ⟨37, t2, by simp [IsP], rfl⟩
    | 2, _ => exact ⟨41, t3, by simp [IsP], rfl⟩
    | 3, _ => exact ⟨43, t4, by simp [IsP], rfl⟩
    | 4, _ => exact ⟨47, t5, by simp [IsP], rfl⟩
    | 5, _ => exact ⟨53, t6, by simp [IsP], rfl⟩
    | 6, _ => exact ⟨59, t7, by simp [IsP], rfl⟩
    | 7, _ => exact ⟨61, t8, by simp [IsP], rfl⟩
  obtain ⟨p, t, hp, e⟩ := key
  exact tail_any hl.typeIs slot_list_getitem.lookup (wpAny_getItem_list hl (by omega) (by omega) (x := .int (p : Int) t) (by simpa using e) (h p t hp (isP_bounds hp).1 (isP_bounds hp).2)) hs
theorem item_last2 {value slice : PySem.Expr} {l : Addr} {r q : Nat} {u t1 t2 : Tok} (hl : s.heap.IsList l #[.int 1 t1, .int (q : Int) t2]) (hr : r < 2)
    (h : ∀ (c : Nat) t, c = 1 ∨ c = q → Q (.int (c : Int) t) s)
    (hs : subscripted slice false (.ref l) (.int (r : Int) u) = operate [.ref l, .int (r : Int) u] (getItem (.ref l) (.int (r : Int) u)) := by with_unfolding_all rfl) :
    wpAny (model prog w) A (subscriptTail value slice (.ref l) (.int (r : Int) u)) Q E s := by
  have key : ∃ (c : Nat) (t : Tok), (c = 1 ∨ c = q) ∧ (#[Value.int 1 t1, .int (q : Int) t2])[r]? = some (.int (c : Int) t) := by
    match r, hr with
    | 0, _ => exact ⟨1, t1, .inl rfl, rfl⟩
    | 1, _ => exact ⟨q, t2, .inr rfl, rfl⟩
  obtain ⟨c, t, hp, e⟩ := key
  exact tail_any hl.typeIs slot_list_getitem.lookup (wpAny_getItem_list hl (by omega) (by omega) (x := .int (c : Int) t) (by simpa using e) (h c t hp)) hs
end
local macro_rules | `(tactic| k_all) => `(tactic| assumption)
local macro_rules | `(tactic| walk_at "binaryOp Mod int int") => `(tactic| (k_here; k_dflt (refine mod_any (by omega) ?_); intro _ _ _))
local macro_rules | `(tactic| walk_at "binaryOp Sub int int") => `(tactic| (k_here; k_dflt (refine sub_one (by omega) ?_); intro _))
local macro_rules | `(tactic| walk_at "binaryOp Add int int") => `(tactic| (k_here; (with_reducible show wpAny _ _ (binaryOp Operator.Add (Value.int (Nat.cast _) _) (Value.int 1 _)) _ _ _); k_dflt (refine add_one ?_); intro _))
local macro_rules | `(tactic| walk_at "subscriptTail") => `(tactic| (k_here; (with_reducible show wpAny _ _ (subscriptTail _ _ (Value.ref _) (Value.int _ _)) _ _ _); k_dflt (first | ((refine' item_prime ?k1 ?k2 ?_; (case k1 => exact News.isList (by k_asm) (by (repeat (first | exact List.Mem.head _ | refine List.Mem.tail _ ?_)))); (case k2 => omega)); intro _ _ _ _ _) | ((refine' item_last2 ?k1 ?k2 ?_; (case k1 => exact News.isList (by k_asm) (by (repeat (first | exact List.Mem.head _ | refine List.Mem.tail _ ?_)))); (case k2 => omega)); intro _ _ _))))
theorem powers_call2 {w : World} {mean : ExcName → Option Value} {mg mb : Str → Option Value} {dp un : Nat} {gd : Option (List Code)} {cn : Str} {cs : Scope} {a : Addr} {ccd : Value} {cl : List (Str × Addr)} {outer : List Env} {A₀ : Around} {base h₀ : Heap} {L : Addr} {m : Str → Option Value} {news : List (Addr × Obj)} {s : Shared} {Q E : Value → Shared → Prop} {b p n : Nat} {tb tp tn : Tok}
  (B : Below A₀ base outer h₀) (F : Fr h₀ L s.heap m) (X : (hd.heap_39 w.params).In h₀) (N : News h₀ L s.heap news) (T : Top hd.view_39 (looseW hd.view_39 [Str.ofString "_name_disallowed_re", Str.ofString "_value_disallowed_re"]) mean mg mb h₀) (hk : cs.kind = .function) (hdp : dp + 1 < recursionLimit)
  (hp : 1 < p) (hb : b < 64) (hn : n < 64)
  (hret : ∀ l vs e h' tk' ns, ns = powL b p n → ns.length = n + 1 → ns.length ≤ 64 → IntsAre vs ns → Fr h₀ L h' m → News h₀ L h' ((l, listOf vs.toArray e) :: news) → (∀ q ∈ news, q.1 < l) → Q (.ref l) { s with heap := h', toks := tk' }) :
  wpAny (model Challenge.rw_wa0031_01.row.prog w) (ktrTop dp un gd cn cs L a ccd cl outer) (call (.ref 210) [.int (b : Int) tb, .int (p : Int) tp, .int (n : Int) tn]) Q E s := by
  refine powers_call B F X N T hk hdp hp hb hn ?_
  intro l vs e h' tk' hi F' N' hlt
  exact hret l vs e h' tk' _ rfl (powL_len b p n) (by rw [powL_len]; omega) hi F' N' hlt
theorem exponent_call2 {w : World} {mean : ExcName → Option Value} {mg mb : Str → Option Value} {dp un : Nat} {gd : Option (List Code)} {cn : Str} {cs : Scope} {a : Addr} {ccd : Value} {cl : List (Str × Addr)} {outer : List Env} {A₀ : Around} {base h₀ : Heap} {L : Addr} {m : Str → Option Value} {news : List (Addr × Obj)} {s : Shared} {Q E : Value → Shared → Prop} {b c p : Nat} {tb tc tp : Tok}
  (B : Below A₀ base outer h₀) (F : Fr h₀ L s.heap m) (X : (hd.heap_39 w.params).In h₀) (N : News h₀ L s.heap news) (T : Top hd.view_39 (looseW hd.view_39 [Str.ofString "_name_disallowed_re", Str.ofString "_value_disallowed_re"]) mean mg mb h₀) (hk : cs.kind = .function) (hdp : dp + 4 < recursionLimit) (hu : un + 200 < cLine)
  (hp : IsP p) (hb : b < p) (hb0 : b ≠ 0) (hc : c < p) (hc0 : c ≠ 0)
  (hret : ∀ (n : Nat) t h' tk', LeastEx b c p n → Fr h₀ L h' m → News h₀ L h' news → Q (.int (n : Int) t) { s with heap := h', toks := tk' }) :
  wpAny (model Challenge.rw_wa0031_01.row.prog w) (ktrTop dp un gd cn cs L a ccd cl outer) (call (.ref 215) [.int (b : Int) tb, .int (c : Int) tc, .int (p : Int) tp]) Q E s := by
  refine exponent_call B F X N T hk hdp hu hp hb hb0 hc hc0 ?_
  intro v t h' tk' hv F' N'
  obtain ⟨n, rfl, hn⟩ := least_of hp hb hb0 hc hv
  exact hret n t h' tk' hn F' N'
local macro_rules | `(tactic| walk_at "call ref") => `(tactic| (k_here; (with_reducible show wpAny _ _ (call (Value.ref 210) _ _) _ _ _); k_dflt (refine' powers_call2 ?k1 ?k2 ?k3 ?k4 ?k5 ?k6 ?k7 ?k8 ?k9 ?k10 ?_; (case k1 => k_asm); (case k2 => k_asm); (case k3 => k_asm); (case k4 => k_asm); (case k5 => k_asm); (case k6 => first | rfl | assumption); (case k7 => ktr_room); (case k8 => omega); (case k9 => omega); (case k10 => omega)); intro lP vsP eP hP tkP nsP hnsP hlnP hl64 hvsP FP NP oP; (try k_lt oP); (try dsimp only); (try k_fold)))
local macro_rules | `(tactic| walk_at "call ref") => `(tactic| (k_here; (with_reducible show wpAny _ _ (call (Value.ref 215) _ _) _ _ _); k_dflt (refine' exponent_call2 ?k1 ?k2 ?k3 ?k4 ?k5 ?k6 ?k7 ?k8 ?k9 ?k10 ?k11 ?k12 ?k13 ?_; (case k1 => k_asm); (case k2 => k_asm); (case k3 => k_asm); (case k4 => k_asm); (case k5 => k_asm); (case k6 => first | rfl | assumption); (case k7 => ktr_room); (case k8 => ktr_units); (case k9 => assumption); (case k10 => omega); (case k11 => omega); (case k12 => omega); (case k13 => omega)); intro n9 t9 h9 tk9 hLe F9 N9; (try dsimp only); (try k_fold)))
theorem ne_same {prog : Program} {w : World} {A : Around} {E : Value → Shared → Prop} {s : Shared} {Q : Value → Shared → Prop} {x y : Int} {t u : Tok} (e : x = y) (h : Q (.bool false) s) : wpAny (model prog w) A (compareOp .NotEq (.int x t) (.int y u)) Q E s := by
  refine PyProof.Rows.ne_int ?_
  subst e
  simpa using h
theorem plain_none' {b c p n : Nat} {ns : List Int} (hL : LeastEx b c p n) (hn : ns = powL b p (p - 1)) (ha : ((ns.drop 1).any fun x => x == (c : Int)) = false) : n = 0 := plain_none hn hL ha
theorem plain_some' {b c p n : Nat} {ns : List Int} (hL : LeastEx b c p n) (hn : ns = powL b p (p - 1)) (ha : ((ns.drop 1).any fun x => x == (c : Int)) = true) : n = (ns.drop 1).idxOf (c : Int) + 1 := plain_some hn hL ha
local macro_rules | `(tactic| walk_at "call builtin:list.index") => `(tactic| (k_here; (with_reducible show wpAny _ _ (call (Value.builtin "list.index") [Value.ref _, Value.int _ _]) _ _ _); k_dflt (refine' index_pow ?k1 ?k2 ?k3 ?k4 ?k5 ?k6 ?k7 ?_; (case k1 => k_asm); (case k2 => (repeat (first | exact List.Mem.head _ | refine List.Mem.tail _ ?_))); (case k3 => with_reducible assumption); (case k7 => with_reducible assumption); (case k4 => with_reducible assumption); (case k5 => assumption); (case k6 => omega)); intro _))
local macro_rules | `(tactic| walk_at "compareOp NotEq int int") => `(tactic| (k_here; k_dflt (refine' ne_same ?ke ?_; (case ke => first | (have e9 := plain_none' (by with_reducible assumption) (by with_reducible assumption) (by with_reducible assumption); omega) | (have e9 := plain_some' (by with_reducible assumption) (by with_reducible assumption) (by with_reducible assumption); omega)))))
theorem walked : PySem.Challenge.rw_wa0031_01.Holds := by
  refine Mine.hd ?_
  w_strict k_go0
  all_goals try k_fold
  k_steps
end Mine
theorem PySem.Challenge.cw_wa0031_01_holds : PySem.Challenge.rw_wa0031_01.Holds := by
  exact Mine.walked
