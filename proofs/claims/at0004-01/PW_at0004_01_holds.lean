import PyProof.Rows.All
import Wide.All
import OpenK.AllK
import Wide.FinOn
import PySem.Challenge.RW_at0004_01
set_option Elab.async false
section
open PySem PySem.W PyProof.Rows
set_option Elab.async false
namespace Mine
set_option maxRecDepth 100000 in
set_option maxHeartbeats 8000000 in
open_top hd for PySem.Challenge.rw_at0004_01

end Mine
end

section
open PySem PySem.W PyProof.Rows PySem.Spec PySem.Calls
set_option Elab.async false
set_option maxRecDepth 100000
namespace Mine

/-! enumerate over a tuple of the top's -/
section
open AutoSeq1 (wpAny_loadPart')
theorem meets_enum_tuple (l : Addr) (items : Array Value) (n : Nat) (dct : Option Addr) (sl : Array (Option Value)) :
    Meets (Builtin.«enumerate.__new__» ⟨[.type "enumerate", .ref l], []⟩) (fun _ R s => s.heap.get? l = some { cls := .type "tuple", dict := dct, data := .seq items n, slots := sl } ∧
      R (.ok (.ret (.ref (s.heap.push { cls := .type "tuple_iterator", data := .fields #[.ref l, .int 0 0] }).objs.size)))
        { s with heap := (s.heap.push { cls := .type "tuple_iterator", data := .fields #[.ref l, .int 0 0] }).push { cls := .type "enumerate", data := .fields #[.none, .bool false, .ref s.heap.objs.size, rawInt 0, .none, .none] } }) :=
  .of_wp fun prog w A R s h => by
    obtain ⟨hp, g, d, tk, os⟩ := s; obtain ⟨hl, h⟩ := h
    have hsub := sub_enumerate
    have hL : Heap.IsTuple (Shared.heap ⟨hp, g, d, tk, os⟩) l items := ⟨_, hl, rfl, n, rfl⟩
    wp_walk using wpAny_loadPart' hl
    refine wpAny_stack_any fun st => wpAny_pure ?_
    split
    · rename_i c _ _ _ _ _
      cases (c == Value.type "enumerate")
      · wp_walk using wpAny_loadPart' hl, wpAny_pyIter_tuple hL
        exact ⟨_, rfl, h⟩
      · wp_walk using wpAny_loadPart' hl, wpAny_pyIter_tuple hL
        exact ⟨_, rfl, h⟩
    · wp_walk using wpAny_loadPart' hl, wpAny_pyIter_tuple hL
      exact ⟨_, rfl, h⟩
end
section
variable {prog : Program} {w : World} {A : Around} {E : Value → Shared → Prop} {s : Shared}

theorem call_enum_tuple {l : Addr} {items : Array Value} {Q : Value → Shared → Prop} (hL : s.heap.IsTuple l items)
    (h : ∀ h', IsEnum h' (s.heap.objs.size + 1) s.heap.objs.size 0 .none → h'.IsTupleIter s.heap.objs.size l 0 → h'.objs.size = s.heap.objs.size + 2 →
      (∀ b o, s.heap.get? b = some o → h'.get? b = some o) → Q (.ref (s.heap.objs.size + 1)) { s with heap := h' }) :
    wpAny (model prog w) A (call (.type "enumerate") [.ref l]) Q E s := by
  obtain ⟨⟨c, dct, dt, sl⟩, hl, hc, n, hd⟩ := hL
  replace hc : c = .type "tuple" := hc
  replace hd : dt = .seq items n := hd
  subst hc hd
  refine callType_new F.called_enumerate (by decide) (F.typeCall_enumerate_1 _) (F.newCall_enumerate_1 _) (fun obj => F.args_object_init_2 obj _) F.entry_enumerate_new
    (meets_enum_tuple l items n dct sl) ⟨hl, ?_⟩
  have hz : (s.heap.push { cls := .type "tuple_iterator", data := .fields #[.ref l, .int 0 0] }).objs.size = s.heap.objs.size + 1 := Heap.size_push ..
  show _ ∧ _
  rw [hz]
  have he : IsEnum ((s.heap.push { cls := .type "tuple_iterator", data := .fields #[.ref l, .int 0 0] }).push
      { cls := .type "enumerate", data := .fields #[.none, .bool false, .ref s.heap.objs.size, rawInt 0, .none, .none] }) (s.heap.objs.size + 1) s.heap.objs.size 0 .none := by
    have := Heap.get?_push_size (s.heap.push { cls := .type "tuple_iterator", data := .fields #[.ref l, .int 0 0] })
      (o := { cls := .type "enumerate", data := .fields #[.none, .bool false, .ref s.heap.objs.size, rawInt 0, .none, .none] }) rfl
    rw [hz] at this; exact this
  exact ⟨⟨_, he, rfl⟩, h _ he ⟨_, Heap.get?_push_of_some _ (Heap.get?_push_size _ rfl), rfl, rfl⟩ (by rw [Heap.size_push, hz]) fun b o x => Heap.get?_push_of_some _ (Heap.get?_push_of_some _ x)⟩

theorem nextOf_tuple_item {it t : Addr} {i : Nat} {items : Array Value} {x : Value} {Q : Value → Shared → Prop} (hit : s.heap.IsTupleIter it t i)
    (ht : s.heap.IsTuple t items) (hx : items[i]? = some x)
    (hQ : ∀ h', h'.IsTupleIter it t (i + 1) → Heap.SameBut it s.heap h' → Q x { s with heap := h' }) :
    wpAny (model prog w) A (Builtin.SmallTypes.nextOf (.ref it)) Q E s := by
  obtain ⟨o, ho, hc, hd⟩ := id hit
  obtain ⟨ot, hot, _, nt, hdt⟩ := ht
  unfold Builtin.SmallTypes.nextOf
  refine wpAny_bind (wpAny_callSpecial?_slot (name := Str.ofString "__next__") hit.typeIs F.slot_tuple_iterator_next
    (wpAny_call_entry F.slot_tuple_iterator_next hit.typeIs F.entry_tuple_iterator_next ?_ (F.args_tuple_iterator_next_1 _)))
  show wpAny _ _ (field (.ref it) 0 >>= _) _ _ s
  refine wpAny_bind (wpAny_field ho hd (x := .ref t) rfl ?_)
  show wpAny _ _ (if (Value.ref t == Value.none) = true then _ else _) _ _ s
  rw [if_neg (show ¬ ((Value.ref t == Value.none) = true) from Bool.false_ne_true)]
  show wpAny _ _ (field (.ref it) 1 >>= _) _ _ s
  refine wpAny_bind (wpAny_field ho hd (x := .int i 0) rfl ?_)
  show wpAny _ _ (seqItems? (.ref t) >>= _) _ _ s
  refine wpAny_bind (wpAny_seqItems hot hdt ?_)
  simp only [Int.toNat_natCast, hx]
  refine wpAny_bind (wpAny_setField ho hd (by simp) (wpAny_pure ⟨x, rfl, wpAny_pure (hQ _ ?_ (Heap.SameBut.update ..))⟩))
  exact ⟨_, Heap.get?_update_self _ ho (Obj.isFreed_of_fields (Obj.data_mapFields hd _)), (Obj.cls_mapFields ..).trans hc, by
    rw [Obj.data_mapFields hd]; simp [rawInt]⟩

theorem nextOf_tuple_end {it t : Addr} {i : Nat} {items : Array Value} {Q : Value → Shared → Prop} (hh : A.handled = none)
    (hit : s.heap.IsTupleIter it t i) (ht : s.heap.IsTuple t items) (hx : items[i]? = none)
    (hE : ∀ h' e, Heap.ExtBut it s.heap h' → (∃ o, h'.get? e = some o ∧ o.cls = .type "StopIteration") → E (.ref e) { s with heap := h' }) :
    wpAny (model prog w) A (Builtin.SmallTypes.nextOf (.ref it)) Q E s := by
  obtain ⟨o, ho, hc, hd⟩ := id hit
  obtain ⟨ot, hot, _, nt, hdt⟩ := ht
  unfold Builtin.SmallTypes.nextOf
  refine wpAny_bind (wpAny_callSpecial?_slot (name := Str.ofString "__next__") hit.typeIs F.slot_tuple_iterator_next
    (wpAny_call_entry F.slot_tuple_iterator_next hit.typeIs F.entry_tuple_iterator_next ?_ (F.args_tuple_iterator_next_1 _)))
  show wpAny _ _ (field (.ref it) 0 >>= _) _ _ s
  refine wpAny_bind (wpAny_field ho hd (x := .ref t) rfl ?_)
  show wpAny _ _ (if (Value.ref t == Value.none) = true then _ else _) _ _ s
  rw [if_neg (show ¬ ((Value.ref t == Value.none) = true) from Bool.false_ne_true)]
  show wpAny _ _ (field (.ref it) 1 >>= _) _ _ s
  refine wpAny_bind (wpAny_field ho hd (x := .int i 0) rfl ?_)
  show wpAny _ _ (seqItems? (.ref t) >>= _) _ _ s
  refine wpAny_bind (wpAny_seqItems hot hdt ?_)
  simp only [Int.toNat_natCast, hx]
  refine wpAny_bind (wpAny_rule (wpAny_bind (wpAny_setField ho hd (by simp) ?_)))
  show wpAny _ _ (newExc (.type "StopIteration") [] >>= _) _ _ _
  refine wpAny_bind ?_
  simp only [newExc, newTuple]
  refine wpAny_bind (wpAny_newObj_type ?_ (by size_fits))
  refine wpAny_bind (m := firstArgMember _ _) (wpAny_of_eq (a := Value.none) (by first | rfl | (simp only [firstArgMember]; rfl)) ?_)
  refine wpAny_newObj_type ?_ (by size_fits)
  simp only [raiseNew]
  refine wpAny_bind (wpAny_handled ?_)
  first | rw [show A.in1.handled = none from hh] | rw [hh]
  refine wpAny_bind (wpAny_pure (wpAny_throw ?_))
  exact hE _ _ (((Heap.SameBut.update ..).extBut.push _).push _) ⟨_, Heap.get?_push_size _ rfl, rfl⟩
end

theorem draws_tuple {prog : Program} {w : World} {A : Around} (hh : A.handled = none) (it l : Addr) (hne : l ≠ it) (items : Array Value) :
    Draws prog w A it [it, l] items.size (fun i v => items[i]? = some v) (fun i h => h.IsTupleIter it l i ∧ h.IsTuple l items) where
  live := fun _ _ st => let ⟨o, ho, _⟩ := st.1; ⟨o, ho⟩
  frame := fun _ _ _ st hk => ⟨st.1.at fun o e => hk it (by simp) o e, st.2.at fun o e => hk l (by simp) o e⟩
  item := fun i s Q E hi st hQ => by
    refine nextOf_tuple_item st.1 st.2 (x := items[i]) (by simp [hi]) fun h' hit' hs' => ?_
    exact hQ _ h' s.toks (by simp [hi]) ⟨hit', st.2.extBut hs'.extBut hne⟩ hs'
  done := fun s Q E st hE => nextOf_tuple_end hh st.1 st.2 (by simp) hE
end Mine
end

section
open PySem PySem.W PyProof.Rows PySem.Spec PySem.Calls
set_option Elab.async false
set_option maxRecDepth 100000
namespace Mine
/-! a for with an else over a tuple of the top's, whose turns either leave by break or change no object -/
section
variable {prog : Program} {w : World} {A : Around} {E : Value → Shared → Prop} {s : Shared} {env : Env} {h₀ : Heap} {K : Frag}

def ElseEnd (h₀ : Heap) (L : Addr) (s₁ : Shared) (own : List (Addr × Obj)) (rest : (Str → Option Value) → Prop) (s₂ : Shared) : Prop :=
  ∃ h' tk m', s₂ = { s₁ with heap := h', toks := tk } ∧ Fr h₀ L h' m' ∧ News h₀ L h' own ∧ rest m'
theorem ElseEnd.intro {L : Addr} {s₁ : Shared} {own all : List (Addr × Obj)} {rest : (Str → Option Value) → Prop} {h' : Heap} {tk : Nat} {m' : Str → Option Value}
    (F : Fr h₀ L h' m') (N : News h₀ L h' all) (sub : ∀ p ∈ own, p ∈ all) (r : rest m') : ElseEnd h₀ L s₁ own rest { s₁ with heap := h', toks := tk } :=
  ⟨h', tk, m', rfl, F, fun p hp => N p (sub p hp), r⟩
def ElsePost (h₀ : Heap) (L : Addr) (s₁ : Shared) (own : List (Addr × Obj)) (rest : (Str → Option Value) → Prop) (Q : Flow → Shared → Prop) (f : Flow) (s₂ : Shared) : Prop :=
  match f with
  | .ret v => Q (.ret v) s₂
  | .brk => Q .next s₂
  | _ => ElseEnd h₀ L s₁ own rest s₂
def ElseRest (prog : Program) (w : World) (A : Around) (E : Value → Shared → Prop) (h₀ : Heap) (env : Env) (target : Expr) (body orelse : List Stmt) (Q : Flow → Shared → Prop) (s : Shared) (I : Addr) (news : List (Addr × Obj)) : List Value → (Str → Option Value) → Prop
  | [], m => ∀ h tk, Fr h₀ env.locals h m → News h₀ env.locals h news → wpAny (model prog w) A (execs orelse env) Q E { s with heap := h, toks := tk }
  | v :: r, m => ∀ h tk oI, Fr h₀ env.locals h m → News h₀ env.locals h ((I, oI) :: news) →
      wpAny (model prog w) A (assign target env v) (fun _ s₂ => wpAny (model prog w) A (execs body env)
        (ElsePost h₀ env.locals { s with heap := h, toks := tk } ((I, oI) :: news) (ElseRest prog w A E h₀ env target body orelse Q s I news r) Q) E s₂) E { s with heap := h, toks := tk }
theorem ElseRest.nil {target : Expr} {body orelse : List Stmt} {Q : Flow → Shared → Prop} {I : Addr} {news : List (Addr × Obj)} {m : Str → Option Value}
    (h : ∀ h tk, Fr h₀ env.locals h m → News h₀ env.locals h news → wpAny (model prog w) A (execs orelse env) Q E { s with heap := h, toks := tk }) : ElseRest prog w A E h₀ env target body orelse Q s I news [] m := h
theorem ElseRest.cons {target : Expr} {body orelse : List Stmt} {Q : Flow → Shared → Prop} {I : Addr} {news : List (Addr × Obj)} {m : Str → Option Value} {v : Value} {r : List Value}
    (h : ∀ h tk oI, Fr h₀ env.locals h m → News h₀ env.locals h ((I, oI) :: news) →
      wpAny (model prog w) A (assign target env v) (fun _ s₂ => wpAny (model prog w) A (execs body env)
        (ElsePost h₀ env.locals { s with heap := h, toks := tk } ((I, oI) :: news) (ElseRest prog w A E h₀ env target body orelse Q s I news r) Q) E s₂) E { s with heap := h, toks := tk }) :
    ElseRest prog w A E h₀ env target body orelse Q s I news (v :: r) m := h

theorem forElse_tupK {target iter : Expr} {body orelse : List Stmt} {pos : Pos} {Q : Flow → Shared → Prop} {ax : Addr} {lo : Obj} {vs : List Value} {n : Nat} {m₀ : Str → Option Value} {news : List (Addr × Obj)}
    (hh : A.handled = none) (F : Fr h₀ env.locals s.heap m₀) (N : News h₀ env.locals s.heap news) (X₀ : K.In h₀) (hk : K.lookup ax = some lo) (hc : lo.cls = .type "tuple") (hd : lo.data = .seq vs.toArray n)
    (hev : ∀ Q', Q' (.ref ax) s → wpAny (model prog w) A (eval iter env) Q' E s)
    (rest : ∀ I : Addr, (∀ p ∈ news, p.1 < I) → ElseRest prog w A E h₀ env target body orelse Q s I news vs m₀)
    (hs : ∀ x, foldedSetIterable iter env x = pure x)
    (hE : PassesOwn (model prog w) A env E) :
    wpAny (model prog w) A (exec (.For target iter body orelse pos) env) Q E s := by
  refine wpAny_For (hev _ ?_) hs
  have hg : h₀.get? ax = some lo := X₀ _ _ hk
  have hax : s.heap.get? ax = some lo := F.keep _ _ hg
  have hl : s.heap.IsTuple ax vs.toArray := ⟨lo, hax, hc, n, hd⟩
  have hlt : ax < s.heap.objs.size := Heap.lt_size hax
  have hne : ax ≠ s.heap.objs.size := Nat.ne_of_lt hlt
  have hI0 : h₀.get? s.heap.objs.size = none := next_is_new F
  have hIL : env.locals ≠ s.heap.objs.size := Nat.ne_of_lt F.ns.lt
  have hNI : ∀ p ∈ news, p.1 ≠ s.heap.objs.size := fun p hp => Nat.ne_of_lt (Heap.lt_size (N p hp).1)
  refine wpAny_pyIter_tuple hl ?_
  have W := Walks.tuple (prog := prog) (w := w) hh s.heap.objs.size ax hne vs.toArray
  have rest' := rest s.heap.objs.size fun p hp => Heap.lt_size (N p hp).1
  generalize hI : s.heap.objs.size = I at *
  have hsz : vs.toArray.size = vs.length := by simp
  rw [hsz] at W
  have keepF : ∀ (h h' : Heap) m, (∀ b o, b ∉ [I] → h.get? b = some o → h'.get? b = some o) → Fr h₀ env.locals h m → Fr h₀ env.locals h' m := fun h h' m hk F' =>
    ⟨F'.ns.at' fun o e => hk _ o (by simpa using hIL) e, fun b o e => hk b o (by rintro hb; rw [List.mem_singleton.mp hb, hI0] at e; cases e) (F'.keep b o e), F'.above⟩
  have keepN : ∀ (h h' : Heap), (∀ b o, b ∉ [I] → h.get? b = some o → h'.get? b = some o) → News h₀ env.locals h news → News h₀ env.locals h' news := fun h h' hk N' p hp =>
    ⟨hk _ _ (by simpa using hNI p hp) (N' p hp).1, (N' p hp).2⟩
  refine codeAny_forLoop_any (fun k s' => ∃ h' tk m' i, s' = { s with heap := h', toks := tk } ∧ (h'.IsTupleIter I ax i ∧ h'.IsTuple ax vs.toArray) ∧ Fr h₀ env.locals h' m' ∧ News h₀ env.locals h' news ∧
      ElseRest prog w A E h₀ env target body orelse Q s I news (vs.drop i) m' ∧ i ≤ vs.length ∧ k = vs.length + 1 - i) ?_ (vs.length + 1)
    ⟨_, s.toks, m₀, 0, rfl, ⟨⟨_, by rw [← hI]; exact Heap.get?_push_size _ rfl, rfl, rfl⟩, hl.at fun o e => Heap.get?_push_of_some _ e⟩, F.push _, fun p hp => ⟨Heap.get?_push_of_some _ (N p hp).1, (N p hp).2⟩, by rw [List.drop_zero]; exact rest', Nat.zero_le _, rfl⟩
  rintro k s' ⟨h', tk, m', i, rfl, hst, F', N', R', hi, rfl⟩
  by_cases hlt' : i < vs.length
  · refine W.item i _ _ _ hlt' hst fun v h₁ tk₁ hP hst₁ hk₁ => ?_
    refine letGo_tupleiter hst₁.1 ?_
    have hv : vs[i] = v := by
      have h9 : vs.toArray[i]? = some v := hP
      simpa [hlt'] using h9
    rw [List.drop_eq_getElem_cons hlt', hv] at R'
    have F₁ := keepF _ _ _ hk₁ F'
    have N₁ := keepN _ _ hk₁ N'
    obtain ⟨oI, hoI, r1⟩ := id hst₁.1
    have N₂ : News h₀ env.locals h₁ ((I, oI) :: news) := fun p hp => by
      rcases List.mem_cons.mp hp with rfl | hp
      · exact ⟨hoI, Ne.symm hIL, hI0⟩
      · exact N₁ p hp
    refine wpAny_mono (wpAny_passesOwn hE (R' h₁ tk₁ oI F₁ N₂)) (fun _ s₂ h₂ => wpAny_mono (wpAny_passesOwn hE h₂) (fun f s₃ h₃ => ?_) fun _ _ e => e) fun _ _ e => e
    have fin : ElseEnd h₀ env.locals { s with heap := h₁, toks := tk₁ } ((I, oI) :: news) (ElseRest prog w A E h₀ env target body orelse Q s I news (vs.drop (i + 1))) s₃ →
        ∃ m, m < vs.length + 1 - i ∧ ∃ h' tk m' j, s₃ = { s with heap := h', toks := tk } ∧ (h'.IsTupleIter I ax j ∧ h'.IsTuple ax vs.toArray) ∧ Fr h₀ env.locals h' m' ∧ News h₀ env.locals h' news ∧
          ElseRest prog w A E h₀ env target body orelse Q s I news (vs.drop j) m' ∧ j ≤ vs.length ∧ m = vs.length + 1 - j := by
      rintro ⟨h₄, tk₄, m₄, rfl, F₄, N₄, R₄⟩
      exact ⟨vs.length + 1 - (i + 1), by omega, h₄, tk₄, m₄, i + 1, rfl, ⟨⟨oI, (N₄ _ List.mem_cons_self).1, r1⟩, ⟨lo, F₄.keep _ _ hg, hc, n, hd⟩⟩, F₄, fun p hp => N₄ p (List.mem_cons_of_mem _ hp), R₄, hlt', rfl⟩
    cases f with
    | ret v => exact h₃
    | brk => exact h₃
    | cont => exact fin h₃
    | next => exact fin h₃
  · obtain rfl : i = vs.length := by omega
    refine W.done _ _ _ hst fun h₁ tk₁ hk₁ => ?_
    rw [List.drop_length] at R'
    exact wpAny_passesOwn hE (R' h₁ tk₁ (keepF _ _ _ hk₁ F') (keepN _ _ hk₁ N'))
end
end Mine
end

section
open PySem PySem.W PyProof.Rows PySem.Spec PySem.Calls
set_option Elab.async false
set_option maxRecDepth 100000
namespace Mine
section
variable {prog : Program} {w : World} {A : Around} {E : Value → Shared → Prop} {s : Shared} {env : Env} {h₀ : Heap} {K : Frag}
theorem enum_tupK {xi xc : Str} {body : List Stmt} {Q : Flow → Shared → Prop} {l : Addr} {lo : Obj} {vs : List Value} {n : Nat} {m₀ : Str → Option Value} {news : List (Addr × Obj)}
    (J : Nat → (Str → Option Value) → List (Addr × Obj) → Prop)
    (hh : A.handled = none) (F : Fr h₀ env.locals s.heap m₀) (N : News h₀ env.locals s.heap news) (X₀ : K.In h₀) (hk : K.lookup l = some lo) (hc : lo.cls = .type "tuple") (hd : lo.data = .seq vs.toArray n) (h0 : J 0 m₀ news)
    (step : ∀ (i : Nat) v t m₁ nx h tk own, vs[i]? = some v → J i m₁ nx → nx.map (·.1) = news.map (·.1) → OwnOff own (news.map (·.1)) →
      Fr h₀ env.locals h (fun y => if y = xc then some v else if y = xi then some (.int (i : Int) t) else m₁ y) → News h₀ env.locals h (nx ++ own) →
      wpAny (model prog w) A (execs body env) (InvPostN h₀ env.locals (J (i + 1)) own (news.map (·.1)) { s with heap := h, toks := tk } Q) E { s with heap := h, toks := tk })
    (done : ∀ h tk m₁ nx, Fr h₀ env.locals h m₁ → News h₀ env.locals h nx → J vs.length m₁ nx → Q .next { s with heap := h, toks := tk }) :
    wpAny (model prog w) A (call (.type "enumerate") [.ref l]) (fun xv s₁ => wpAny (model prog w) A (pyIter xv) (fun it s₂ => PairAt3 prog w A h₀ env xi xc body Q E it s₂) E s₁) E s := by
  have hg : h₀.get? l = some lo := X₀ _ _ hk
  have hax : s.heap.get? l = some lo := F.keep _ _ hg
  have hl : s.heap.IsTuple l vs.toArray := ⟨lo, hax, hc, n, hd⟩
  have hlt : l < s.heap.objs.size := Heap.lt_size hax
  have hLs : env.locals < s.heap.objs.size := F.ns.lt
  refine call_enum_tuple hl fun h' hE hI hsz hk' => ?_
  refine wpAny_pyIter_enum hE ?_
  have hne : l ≠ s.heap.objs.size := Nat.ne_of_lt hlt
  have hI0 : h₀.get? s.heap.objs.size = none := ktu_new F (Nat.le_refl _)
  have hI1 : h₀.get? (s.heap.objs.size + 1) = none := ktu_new F (Nat.le_add_right _ _)
  have hNI : ∀ p ∈ news, p.1 ≠ s.heap.objs.size ∧ p.1 ≠ s.heap.objs.size + 1 := fun p hp =>
    ⟨Nat.ne_of_lt (Heap.lt_size (N p hp).1), ktu_ne 1 (Heap.lt_size (N p hp).1)⟩
  have D := draws_tuple (prog := prog) (w := w) (A := A.in1) hh s.heap.objs.size l hne vs.toArray
  have W := WalksT.enumerateD D (s.heap.objs.size + 1) (Nat.succ_ne_self _) (by
    intro hm
    rcases List.mem_cons.mp hm with e | hm
    · exact Nat.succ_ne_self _ e
    · exact ktu_ne 1 hlt (List.mem_singleton.mp hm).symm) List.mem_cons_self
  have hsz' : vs.toArray.size = vs.length := by simp
  rw [hsz'] at W
  refine ⟨_, _, _, _, _, _, _, fun i v0 v1 => ∃ t, v0 = .int (i : Int) t ∧ vs[i]? = some v1, m₀, news, fun i m₁ nx => nx.map (·.1) = news.map (·.1) ∧ J i m₁ nx, rfl, W, ?_, ?_, ?_, ?_, ⟨⟨_, hE⟩, hI, hl.at fun o e => hk' l o e⟩, F.keeps hk', N.grown hk', ⟨rfl, h0⟩, ?_, ?_⟩
  · rintro i vals ⟨t, x, hx, rfl⟩
    exact ⟨_, _, rfl, t, rfl, by simpa using hx⟩
  · intro hm
    rcases List.mem_cons.mp hm with e | hm
    · exact ktu_ne 1 hLs e
    rcases List.mem_cons.mp hm with e | hm
    · exact Nat.ne_of_lt hLs e
    · rw [List.mem_singleton] at hm
      exact absurd (Heap.lt_size hg) (Nat.not_lt.mpr (hm ▸ F.above))
  · intro b hb
    rcases List.mem_cons.mp hb with rfl | hb
    · exact hI1
    · rw [List.mem_singleton.mp hb]; exact hI0
  · intro p hp hb
    rcases List.mem_cons.mp hb with e | hb
    · exact (hNI p hp).2 e
    · exact (hNI p hp).1 (List.mem_singleton.mp hb)
  · rintro i v0 v1 m₁ nx s₁ own ⟨h₁, tk₁, rfl⟩ hin ⟨t, rfl, hv⟩ ⟨hadr, hJ⟩ _ hown F₁ N₁
    have off : OwnOff own (news.map (·.1)) := by
      intro p hp b hb e
      obtain ⟨q, hq, rfl⟩ := List.mem_map.mp hb
      rcases List.mem_cons.mp (hown p hp) with e' | hm
      · exact (hNI q hq).2 (e.symm.trans e')
      rcases List.mem_cons.mp hm with e' | hm
      · exact (hNI q hq).1 (e.symm.trans e')
      · rw [List.mem_singleton] at hm
        have h3 : h₀.get? p.1 = none := (N₁ p (List.mem_append_left _ hp)).2.2
        rw [hm, hg] at h3
        cases h3
    refine wpAny_mono (step i v1 t m₁ nx h₁ tk₁ own hv hJ hadr off F₁ fun p hp => N₁ p ((List.mem_append.mp hp).elim (List.mem_append_right _) (List.mem_append_left _))) (fun f s₃ h₃ => ?_) fun _ _ e => e
    have fin : InvEndN h₀ env.locals (J (i + 1)) own (news.map (·.1)) { s with heap := h₁, toks := tk₁ } s₃ → LoopStep2 h₀ env.locals own nx (fun m₂ n₂ => n₂.map (·.1) = news.map (·.1) ∧ J (i + 1) m₂ n₂) { s with heap := h₁, toks := tk₁ } .next s₃ := by
      rintro ⟨h₄, tk₄, m₄, all, n₄, rfl, F₄, N₄, sub, osub, ha, hJ₄⟩
      exact ⟨rfl, h₄, tk₄, m₄, n₄, rfl, F₄, fun p hp => N₄ p ((List.mem_append.mp hp).elim (osub p) (sub p)), ha.trans hadr.symm, ha, hJ₄⟩
    cases f with
    | ret v => exact h₃
    | brk => exact h₃
    | next => exact fin h₃
    | cont => exact fin h₃
  · rintro h₁ tk₁ m₁ nx F₁ N₁ _ ⟨_, hJ⟩
    exact done h₁ tk₁ m₁ nx F₁ N₁ hJ
end
end Mine
end

section
open PySem PySem.W PyProof.Rows PySem.Spec PySem.Calls
set_option Elab.async false
set_option maxRecDepth 100000
namespace Mine
abbrev Rt (h₀ : Heap) (L : Addr) (m : Str → Option Value) (news : List (Addr × Obj)) (s : Shared) (Q : Value → Shared → Prop) (R : Tok → Value) : Prop :=
  ∀ (t : Tok) (h' : Heap) (tk' : Nat), Fr h₀ L h' m → News h₀ L h' news → Q (R t) { s with heap := h', toks := tk' }
def sgn3 (n a b c : Int) (x y z : Nat) : Nat := if Builtin.bitAnd n a = a then x else if Builtin.bitAnd n b = b then y else if Builtin.bitAnd n c = c then z else 45
def sgn1 (n a : Int) (x : Nat) : Nat := if Builtin.bitAnd n a = a then x else 45
def sgn0 (n : Int) : Nat :=
  if Builtin.bitAnd n 61440 = 40960 then 108 else if Builtin.bitAnd n 61440 = 49152 then 115 else if Builtin.bitAnd n 61440 = 32768 then 45 else if Builtin.bitAnd n 61440 = 24576 then 98
  else if Builtin.bitAnd n 61440 = 16384 then 100 else if Builtin.bitAnd n 61440 = 8192 then 99 else if Builtin.bitAnd n 61440 = 4096 then 112 else 63
def signs (n : Int) : List Nat := [sgn0 n, sgn1 n 256 114, sgn1 n 128 119, sgn3 n 2112 2048 64 115 83 120, sgn1 n 32 114, sgn1 n 16 119, sgn3 n 1032 1024 8 115 83 120, sgn1 n 4 114, sgn1 n 2 119, sgn3 n 513 512 1 116 84 120]
def fmS (n : Int) : Str := ⟨(signs n).toArray⟩
def one (c : Nat) : Str := ⟨#[c]⟩
def fmStored : List Str := [Str.ofString "index", Str.ofString "table", Str.ofString "bit", Str.ofString "char"]
def FmJ (n : Int) (lp : Addr) (tl : List (Addr × Obj)) (m₀ : Str → Option Value) (i : Nat) (m : Str → Option Value) (nx : List (Addr × Obj)) : Prop :=
  ∃ vals k, nx = (lp, W.listOf vals.toArray k) :: tl ∧ StrsAre vals (((signs n).take i).map one) ∧ ∀ y, fmStored.contains y = false → m y = m₀ y

theorem fr_stored {h₀ h : Heap} {L : Addr} {m₁ m₀ : Str → Option Value} {stored : List Str} (F : Fr h₀ L h m₁) (hm : ∀ y, stored.contains y = false → m₁ y = m₀ y) : Fr h₀ L h (fun y => if stored.contains y = true then m₁ y else m₀ y) := by
  have e : (fun y => if stored.contains y = true then m₁ y else m₀ y) = m₁ := by
    funext y
    cases h1 : stored.contains y with
    | true => simp
    | false => simp only [Bool.false_eq_true, if_false]; exact (hm y h1).symm
  rw [e]; exact F

theorem fr_stored2 {h₀ h : Heap} {L : Addr} {m₁ m₀ : Str → Option Value} {stored : List Str} {a b : Str} {u v : Option Value} (F : Fr h₀ L h (fun y => if y = a then u else if y = b then v else m₁ y)) (hm : ∀ y, stored.contains y = false → m₁ y = m₀ y) :
    Fr h₀ L h (fun y => if y = a then u else if y = b then v else if stored.contains y = true then m₁ y else m₀ y) := by
  have e : (fun y => if stored.contains y = true then m₁ y else m₀ y) = m₁ := by
    funext y
    cases h1 : stored.contains y with
    | true => simp
    | false => simp only [Bool.false_eq_true, if_false]; exact (hm y h1).symm
  have e2 : (fun y => if y = a then u else if y = b then v else if stored.contains y = true then m₁ y else m₀ y) = fun y => if y = a then u else if y = b then v else m₁ y := by
    funext y
    rw [show (if stored.contains y = true then m₁ y else m₀ y) = m₁ y from congrFun e y]
  rw [e2]; exact F
theorem join_fm (n : Int) : Txt.join (Str.ofString "") ((signs n).map one) = fmS n := by
  have h := eq_of_beq (join_closes (sep := Str.ofString "") (sep' := ⟨#[]⟩) (ys := (signs n).map one) rfl)
  rw [h]
  exact join_ones (signs n)
structure TlIs (news own tl : List (Addr × Obj)) : Prop where
  h : news ++ own = tl
theorem fm_end {n : Int} {lp : Addr} {news own news' : List (Addr × Obj)} {m₀ m' : Str → Option Value} {i : Nat} {o : Obj} {s₁ : Shared} {h₀ h' : Heap} {L : Addr} {tk : Nat} {vals : List Value} {k : Nat} {y : Str} {t : Tok}
    (F : Fr h₀ L h' m') (N : News h₀ L h' news') (hS : StrsAre vals (((signs n).take i).map one)) (hsub : ∀ p ∈ (lp, W.listOf (vals.toArray.push (Value.str y t)) (k + 1)) :: (news ++ own), p ∈ news') (hi : i < 10)
    (hy : y = one ((signs n).getD i 0)) (hm : ∀ z, fmStored.contains z = false → m' z = m₀ z) :
    InvEndN h₀ L (FmJ n lp news m₀ (i + 1)) own (List.map (fun x => x.fst) ((lp, o) :: news)) s₁ { s₁ with heap := h', toks := tk } := by
  refine InvEndN.intro F N (nx := (lp, W.listOf (vals ++ [Value.str y t]).toArray (k + 1)) :: news) ⟨vals ++ [Value.str y t], k + 1, rfl, ?_, hm⟩ rfl ?_ ?_
  · have hl : i < (signs n).length := hi
    have e : ((signs n).take (i + 1)).map one = ((signs n).take i).map one ++ [y] := by
      rw [hy, List.getD_eq_getElem?_getD, List.take_add_one, List.map_append, List.getElem?_eq_getElem hl]
      rfl
    rw [e]
    exact kct_snoc hS
  · intro p hp
    rw [← List.push_toArray] at hp
    rcases List.mem_cons.mp hp with rfl | hp
    · exact hsub _ List.mem_cons_self
    · exact hsub _ (List.mem_cons_of_mem _ (List.mem_append_left _ hp))
  · intro p hp
    exact hsub _ (List.mem_cons_of_mem _ (List.mem_append_right _ hp))
theorem fmSt_ne {z : Str} (hz : fmStored.contains z = false) : z ≠ Str.ofString "index" ∧ z ≠ Str.ofString "table" ∧ z ≠ Str.ofString "bit" ∧ z ≠ Str.ofString "char" := by
  refine ⟨?_, ?_, ?_, ?_⟩ <;> (intro e; rw [e] at hz; revert hz; decide)
local macro_rules | `(tactic| walk_at "InvEndN") => `(tactic| k_dflt (refine fm_end (by assumption) (by assumption) (by assumption) (by (intro p hp; (rename TlIs _ _ _ => htl9); (rw [htl9.h] at hp); first | exact hp | exact List.mem_cons_of_mem _ hp)) (by decide) (by ((simp only [signs, List.getD_cons_succ, List.getD_cons_zero, sgn0, sgn1, sgn3]); (repeat' split) <;> first | rfl | contradiction | omega)) (by (intro z hz; obtain ⟨hz1, hz2, hz3, hz4⟩ := fmSt_ne hz; simp only [hz1, hz2, hz3, hz4, hz, if_false, Bool.false_eq_true]))))
local macro_rules | `(tactic| walk_at "exec For Tuple Name cons cons") => `(tactic| (k_here; (rename Fr _ _ _ _ => lF'); (rename News _ _ _ _ => lN'); (with_unfolding_all refine' forElse_tupK ?fe1 lF' lN' ?fe2 ?fe3 ?fe4 ?fe5 ?fe6 ?_ ?fe8 ?fe9); (case fe1 => with_unfolding_all rfl); (case fe6 => (intro Q9 h9; with_unfolding_all exact ld lF' rfl h9)); (case fe2 => k_asm); (case fe3 => k_dflt k_is); (case fe4 => exact rfl); (case fe5 => exact rfl); (case fe8 => intro _; with_unfolding_all rfl); (case fe9 => with_unfolding_all passes_own); intro I9 l9; (try k_lt l9)))
local macro_rules | `(tactic| walk_at "call builtin:list.append") => `(tactic| (k_here; k_dflt (refine' append_K ?ap1 ?ap2 ?ap3 ?_ ?ap5; (case ap1 => k_asm); (case ap2 => k_asm); (case ap3 => k_upd); (case ap5 => (rw [sizeLine_eq]; simp only [List.size_toArray]; omega)); k_whole); intro h' F' N'; (try k_sweep)))
local macro_rules | `(tactic| k_room) => `(tactic| ktr_room)
local macro_rules | `(tactic| walk_at "ElseRest") => `(tactic| first
  | (refine ElseRest.cons ?_; intro h' tk' oI' F' N'; (try k_fold))
  | (refine ElseRest.nil ?_; intro h' tk' F' N'; (try k_fold)))
local macro_rules | `(tactic| walk_at "ElsePost") => `(tactic| (dsimp only [ElsePost]))
local macro_rules | `(tactic| walk_at "ElseEnd") => `(tactic| (refine ElseEnd.intro (by assumption) (by assumption) (fun _ hp => hp) ?_))

set_option maxHeartbeats 40000000 in
theorem fm_call {w : World} {loose : List Str} {mean : ExcName → Option Value} {mg mb : Str → Option Value}
    {dp un : Nat} {gd : Option (List Code)} {cn : Str} {cs : Scope} {a : Addr} {ccd : Value} {cl : List (Str × Addr)} {outer : List Env} {A₀ : Around} {base h₀ : Heap} {L : Addr} {m : Str → Option Value} {news : List (Addr × Obj)} {s : Shared} {n : Int} {t₀ : Tok} {Q E : Value → Shared → Prop}
    (B : Below A₀ base outer h₀) (F : Fr h₀ L s.heap m) (X : (hd.heap_39 w.params).In h₀) (N : News h₀ L s.heap news) (T : Top hd.view_39 loose mean mg mb h₀) (hk : cs.kind = .function)
    (hd' : dp + 2 < recursionLimit) (hu : un + 30 < cLine)
    (hret : Rt h₀ L m news s Q (fun t => .str (fmS n) t)) :
    wpAny (model PySem.Challenge.rw_at0004_01.row.prog w) (ktrTop dp un gd cn cs L a ccd cl outer) (call (.ref 117) [.int n t₀]) Q E s := by
  revert X; k_fill; intro X
  refine wpAny_call ?_
  k_dflt cell_enter
  k_steps

  (with_reducible rename Fr _ _ _ _ => F')
  (with_reducible rename News _ _ _ _ => N')
  rename ∀ (p : Addr × Obj), p ∈ news → p.fst < _ => hlt
  rename_i g1 L1 h1 FG1 B1 X1 T1 lp h2 h3
  have F1 : Fr g1 L1 h3 (fun y => if y = Str.ofString "perm" then some (.ref lp) else List.lookup y [(Str.ofString "mode", .int n t₀)]) := by with_unfolding_all exact F'
  clear F'
  with_unfolding_all refine' enum_tupK (FmJ n lp news (fun y => if y = Str.ofString "perm" then some (.ref lp) else List.lookup y [(Str.ofString "mode", .int n t₀)])) ?hh F1 N' ?X ?hk ?hc ?hd ?h0 ?step ?done
  case hh => with_unfolding_all rfl
  case X => k_asm
  case hk => k_dflt k_is
  case hc => exact rfl
  case hd => exact rfl
  case h0 => exact ⟨[], 0, rfl, StrsAre.nil, fun _ _ => rfl⟩
  case done =>
    rintro h4 tk4 m4 nx4 F4 N4 ⟨vals, k, rfl, hS, hm⟩
    have F5 := fr_stored F4 hm
    clear F4 hm
    dsimp only
    k_steps
    refine join_list (News.isList N4 (List.mem_cons_self ..)) (ys := (signs n).map one) hS (Nat.le_of_ble_eq_true rfl) fun t' k' => ?_
    refine leaveK_ F5 N4 fun F6 N6 => ?_
    show Q (.str (Txt.join (Str.ofString "") ((signs n).map one)) t') _
    rw [join_fm]
    exact hret t' _ _ F6 fun p hp => N6 p (List.mem_cons_of_mem _ hp)
  case step =>
    rintro i v t m4 nx4 h4 tk4 own hv ⟨vals, k, rfl, hS, hm⟩ _ hoff F4 N4
    have F5 := fr_stored2 F4 hm
    clear F4 hm
    have hlen : vals.length ≤ 10 := by rw [hS.length, List.length_map, List.length_take]; exact Nat.min_le_right _ _
    have hOff : OwnOff (news ++ own) [lp] := by
      intro p hp b hb
      rw [List.mem_singleton.mp hb]
      rcases List.mem_append.mp hp with hp | hp
      · exact Nat.ne_of_lt (hlt p hp)
      · exact hoff p hp lp (by simp)
    rw [List.cons_append] at N4
    generalize htl : news ++ own = tl at N4 hOff
    replace htl := TlIs.mk htl
    rcases i with _ | i
    · obtain rfl : Value.ref 85 = v := by simpa using hv
      k_steps
    rcases i with _ | i
    · obtain rfl : Value.ref 87 = v := by simpa using hv
      k_steps
    rcases i with _ | i
    · obtain rfl : Value.ref 89 = v := by simpa using hv
      k_steps
    rcases i with _ | i
    · obtain rfl : Value.ref 93 = v := by simpa using hv
      k_steps
    rcases i with _ | i
    · obtain rfl : Value.ref 95 = v := by simpa using hv
      k_steps
    rcases i with _ | i
    · obtain rfl : Value.ref 97 = v := by simpa using hv
      k_steps
    rcases i with _ | i
    · obtain rfl : Value.ref 101 = v := by simpa using hv
      k_steps
    rcases i with _ | i
    · obtain rfl : Value.ref 103 = v := by simpa using hv
      k_steps
    rcases i with _ | i
    · obtain rfl : Value.ref 105 = v := by simpa using hv
      k_steps
    rcases i with _ | i
    · obtain rfl : Value.ref 109 = v := by simpa using hv
      k_steps
    · simp at hv
end Mine
end

section
open PySem PySem.W PyProof.Rows PySem.Spec PySem.Calls
set_option Elab.async false
set_option maxRecDepth 100000
namespace Mine
def kinds (n : Int) : List Int :=
  if Builtin.bitAnd n 61440 = 4096 then [0] else if Builtin.bitAnd n 61440 = 8192 then [1] else if Builtin.bitAnd n 61440 = 16384 then [2] else if Builtin.bitAnd n 61440 = 24576 then [3]
  else if Builtin.bitAnd n 61440 = 32768 then [4] else if Builtin.bitAnd n 61440 = 40960 then [5] else if Builtin.bitAnd n 61440 = 49152 then [6] else []
structure KindN (n : Int) : Prop where
  h : True
def toldB (n : Int) : List Bool := [Builtin.bitAnd n 61440 == 4096, Builtin.bitAnd n 61440 == 8192, Builtin.bitAnd n 61440 == 16384, Builtin.bitAnd n 61440 == 24576, Builtin.bitAnd n 61440 == 32768, Builtin.bitAnd n 61440 == 40960, Builtin.bitAnd n 61440 == 49152]
def isTold (n k : Int) : Bool := (toldB n).getD k.toNat false
def Gk (n : Int) (l : List Int) (k : Int) : List Int := if isTold n k = true then l ++ [k] else l
theorem fold_kinds (n : Int) : (rangeKs 0 7).foldl (Gk n) [] = kinds n := by
  have e : rangeKs 0 7 = [0, 1, 2, 3, 4, 5, 6] := by decide
  rw [e]
  simp only [List.foldl_cons, List.foldl_nil, Gk, isTold, toldB, kinds, List.getD_cons_zero, List.getD_cons_succ, beq_iff_eq]
  by_cases h1 : Builtin.bitAnd n 61440 = 4096
  · simp [h1]
  by_cases h2 : Builtin.bitAnd n 61440 = 8192
  · simp [h2]
  by_cases h3 : Builtin.bitAnd n 61440 = 16384
  · simp [h3]
  by_cases h4 : Builtin.bitAnd n 61440 = 24576
  · simp [h4]
  by_cases h5 : Builtin.bitAnd n 61440 = 32768
  · simp [h5]
  by_cases h6 : Builtin.bitAnd n 61440 = 40960
  · simp [h6]
  by_cases h7 : Builtin.bitAnd n 61440 = 49152
  · simp [h7]
  simp [h1, h2, h3, h4, h5, h6, h7]
section
variable {prog : Program} {w : World} {A : Around} {E : Value → Shared → Prop} {h₀ : Heap} {L : Addr} {m : Str → Option Value} {env : Env} {ct elt : PySem.Expr} {x : Str} {scope : Scope} {cl : List (Str × Addr)} {s : Shared} {S : List (Addr × Obj) → Prop} {Fin : List Value → List (Addr × Obj) → Prop} {news : List (Addr × Obj)}
theorem lk_rest {n : Int} (_M : KindN n)
    (turn : ∀ k t I oI C oC D m₂ ys l h tk (E' : Value → Shared → Prop), 0 ≤ k → k < 7 → IntsAre ys l → LCg.NsObj oC m₂ → m₂ x = some (.int k t) → Fr h₀ L h m → News h₀ L h ((I, oI) :: (C, oC) :: (D, LCg.lst ys) :: news) → LCg.Off3 I C D news → ((@Ne Nat I C) ∧ (@Ne Nat I D) ∧ (@Ne Nat C D)) →
      wpAny (model prog w) A (isTrue ct (compEnvC scope cl C env) (eval ct (compEnvC scope cl C env))) (fun b s' => if b = true then wpAny (model prog w) A (eval elt (compEnvC scope cl C env)) (LCg.CompEnd h₀ L m { s with heap := h, toks := tk } I oI C oC D (LCg.lst ys) S (fun y news' => KCiEl news l (Gk n l k) y news')) E' s'
        else LCg.CompEnd h₀ L m { s with heap := h, toks := tk } I oI C oC D (LCg.lst ys) S (fun _ news' => KCiNo news l (Gk n l k) news') Value.none s') E' { s with heap := h, toks := tk })
    (fin : ∀ ys, IntsAre ys (kinds n) → Fin ys news) : LCt.CompRestT prog w A h₀ L m env ct elt x scope cl s S (fun i v => ∃ t, v = .int (0 + (i : Int)) t) Fin 7 0 [] news := by
  refine kci_rest (ks := rangeKs 0 7) (Gk n) (rangeKs_length 0 7) (fun i v hi hv => ?_) (fun k t I oI C oC D m₂ ys l h tk E' hk hy hC hx F N off ne _ => ?_) ?_ ?_
  · obtain ⟨t, e⟩ := hv
    exact ⟨0 + (i : Int), t, by simp [rangeKs, hi], e⟩
  · have hb := mem_rangeKs hk
    exact turn k t I oI C oC D m₂ ys l h tk E' hb.1 (by have := hb.2; omega) hy hC hx F N off ne
  · unfold KPfDone
    intro ys hy _
    rw [fold_kinds] at hy
    exact fin ys hy
  · intro l k
    unfold Gk
    split <;> simp
theorem item_told {n : Int} (_M : KindN n) {value slice : PySem.Expr} {l : Addr} {kk : Nat} {k : Int} {u : Tok} {Q : Value → Shared → Prop} (N : News h₀ L s.heap news) (hm : (l, W.listOf ((toldB n).map Value.bool).toArray kk) ∈ news) (h0 : 0 ≤ k) (h1 : k < 7)
    (h : Q (.bool (isTold n k)) s)
    (hs : subscripted slice false (.ref l) (.int k u) = operate [.ref l, .int k u] (getItem (.ref l) (.int k u)) := by with_unfolding_all rfl) :
    wpAny (model prog w) A (subscriptTail value slice (.ref l) (.int k u)) Q E s := by
  have hl : s.heap.IsList l ((toldB n).map Value.bool).toArray := News.isList N hm
  refine tail_any hl.typeIs slot_list_getitem.lookup (wpAny_getItem_list hl h0 (by omega) ?_ h) hs
  have hk : k.toNat < (toldB n).length := by show k.toNat < 7; omega
  simp [isTold, List.getD_eq_getElem?_getD, List.getElem?_eq_getElem hk]
end
local macro_rules | `(tactic| walk_at "CompSrcT") => `(tactic| (k_here; k_dflt (refine LCt.CompSrcT.range (by rfl) (by k_asm) (by k_asm) (by assumption) (by decide) (n := 7) (by rfl) (by exact Nat.le_of_ble_eq_true rfl) ?_; intro g'; (refine lk_rest (by assumption) (fun k' t' I' oI' C' oC' D' m' ys' l' h' tk' E' hlo' hhi' hI' hC' hx' F' N' off' ne' => ?_) (fun ys' hy' => ?_)); (all_goals (try k_fold)))))
local macro_rules | `(tactic| walk_at "subscriptTail Name Name ref int") => `(tactic| (k_here; k_dflt (refine item_told (by assumption) (by k_asm) (by k_mem) (by assumption) (by assumption) ?_)))
local macro_rules | `(tactic| walk_at "CompEnd") => `(tactic| k_dflt (refine LCg.CompEnd.intro (by assumption) (by assumption) _ (fun _ hp => hp) (by assumption) (by first | trivial | assumption) ?_))
local macro_rules | `(tactic| walk_at "KCiEl") => `(tactic| k_dflt (exact kci_el (by (unfold Gk; simp_all)) rfl rfl))
local macro_rules | `(tactic| walk_at "KCiNo") => `(tactic| k_dflt (exact kci_no (by (unfold Gk; simp_all)) rfl))
theorem off1_ne {D : Addr} : ∀ {l : List (Addr × Obj)}, LCg.Off1 D l → ∀ p ∈ l, p.1 ≠ D
  | [], _, _, h => nomatch h
  | _ :: _, x, p, h => by
    rcases List.mem_cons.mp h with rfl | h
    · exact x.1
    · exact off1_ne x.2 p h
structure NewsLt (news : List (Addr × Obj)) (b : Nat) : Prop where
  h : ∀ p ∈ news, @LT.lt Nat _ p.1 b
theorem NewsLt.ne {news : List (Addr × Obj)} {b d : Nat} (x : NewsLt news b) (hd : b ≤ d) : ∀ p ∈ news, p.1 ≠ d := fun p hp => Nat.ne_of_lt (Nat.lt_of_lt_of_le (x.h p hp) hd)
local macro_rules | `(tactic| k_all) => `(tactic| exact NewsLt.ne (by assumption) (by omega))
theorem lk_fin {h₀ h : Heap} {L D : Addr} {m : Str → Option Value} {x y : Addr × Obj} {ys : List Value} {news : List (Addr × Obj)} {s : Shared} {Q : Value → Shared → Prop} {n : Int} {tk : Nat} {P R : Prop}
    (hret : ∀ l vs k h' tk', Fr h₀ L h' m → News h₀ L h' ((l, W.listOf vs.toArray k) :: news) → (∀ p ∈ news, p.1 ≠ l) → IntsAre vs (kinds n) → Q (.ref l) { s with heap := h', toks := tk' })
    (F : Fr h₀ L h m) (N : News h₀ L h ((D, LCg.lst ys) :: x :: y :: news)) (hI : IntsAre ys (kinds n)) (o : P ∧ R ∧ LCg.Off1 D news) : Q (.ref D) { s with heap := h, toks := tk } := by
  refine hret D ys ys.length h tk F (fun p hp => N p ?_) (off1_ne o.2.2) hI
  rcases List.mem_cons.mp hp with rfl | hp
  · exact List.mem_cons_self
  · exact List.mem_cons_of_mem _ (List.mem_cons_of_mem _ (List.mem_cons_of_mem _ hp))
local macro_rules | `(tactic| k_room) => `(tactic| ktr_room)
set_option maxHeartbeats 40000000 in
theorem lk_call {w : World} {loose : List Str} {mean : ExcName → Option Value} {mg mb : Str → Option Value}
    {dp un : Nat} {gd : Option (List Code)} {cn : Str} {cs : Scope} {a : Addr} {ccd : Value} {cl : List (Str × Addr)} {outer : List Env} {A₀ : Around} {base h₀ : Heap} {L : Addr} {m : Str → Option Value} {news : List (Addr × Obj)} {s : Shared} {n : Int} {t₀ : Tok} {Q E : Value → Shared → Prop}
    (B : Below A₀ base outer h₀) (F : Fr h₀ L s.heap m) (X : (hd.heap_39 w.params).In h₀) (N : News h₀ L s.heap news) (T : Top hd.view_39 loose mean mg mb h₀) (hk : cs.kind = .function)
    (hd' : dp + 3 < recursionLimit) (hu : un + 30 < cLine)
    (hret : ∀ l vs k h' tk', Fr h₀ L h' m → News h₀ L h' ((l, W.listOf vs.toArray k) :: news) → (∀ p ∈ news, p.1 ≠ l) → IntsAre vs (kinds n) → Q (.ref l) { s with heap := h', toks := tk' }) :
    wpAny (model PySem.Challenge.rw_at0004_01.row.prog w) (ktrTop dp un gd cn cs L a ccd cl outer) (call (.ref 122) [.int n t₀]) Q E s := by
  revert X; k_fill; intro X
  have mark : KindN n := ⟨trivial⟩
  refine wpAny_call ?_
  k_dflt (refine' code_defC ?k1 ?k2 ?k3 ?k4 ?k5 ?kA ?kF ?kK ?k6 ?k7 ?k8 ?k9 ?kB ?kD ?_ ?c2 ?c3 ?c4; (case kA => exact rfl); (case kF => exact rfl); (case kK => assumption); (case k1 => k_asm); (case k2 => k_asm); (case k3 => k_asm); (case k4 => k_asm); (case k5 => k_asm); (case k6 => k_is); (case k7 => k_is); (case k8 => ktr_room); (case k9 => exact BindsTo.of_eq rfl); (case kB => exact rfl); (case kD => decide +kernel); (case c2 => exact rfl); (case c3 => exact rfl); (case c4 => exact rfl); k_whole; intro g' L' h' tk' cells' FG' F' N' Y' B' X' T' l1; (have nl9 := NewsLt.mk l1); k_cells Y'; (try simp only [List.cons_append, List.nil_append] at N'); (try dsimp only); (try k_lift B'); (try k_fold))
  k_steps
  (with_reducible rename Fr h₀ L _ m => kF9)
  rename News h₀ L _ ((_, LCg.lst _) :: _) => kN9
  rename IntsAre _ (kinds n) => kI9
  rename _ ∧ _ ∧ LCg.Off1 _ _ => o9
  exact lk_fin hret kF9 kN9 kI9 o9
end Mine
end

section
open PySem PySem.W PyProof.Rows PySem.Spec PySem.Calls
set_option Elab.async false
set_option maxRecDepth 100000
namespace Mine
def kindIx (c : Nat) : Int := if c = 63 then 0 else if c = 112 then 1 else if c = 99 then 2 else if c = 100 then 4 else if c = 98 then 6 else if c = 45 then 8 else if c = 108 then 10 else 12
def rB (c : Nat) : Int := if c = 114 then 1 else 0
def wB (c : Nat) : Int := if c = 119 then 1 else 0
def xB (c : Nat) : Int := if c = 120 ∨ c = 115 ∨ c = 116 then 1 else 0
def sB (c : Nat) : Int := if c = 115 ∨ c = 83 ∨ c = 116 ∨ c = 84 then 1 else 0
def kindC : List Nat := [63, 112, 99, 100, 98, 45, 108, 115]
def exeC : List Nat := [120, 115, 83, 116, 84, 45]
def leastC (c0 c1 c2 c3 c4 c5 c6 c7 c8 c9 : Nat) : Int :=
  4096 * kindIx c0 + 4 * 64 * rB c1 + 2 * 64 * wB c2 + 64 * xB c3 + 2048 * sB c3 + 4 * 8 * rB c4 + 2 * 8 * wB c5 + 8 * xB c6 + 1024 * sB c6 + 4 * 1 * rB c7 + 2 * 1 * wB c8 + 1 * xB c9 + 512 * sB c9
section
variable {c0 c1 c2 c3 c4 c5 c6 c7 c8 c9 : Nat}
theorem mem_all {P : Nat → Prop} {l : List Nat} (h : ∀ c ∈ l, P c) {c : Nat} (hc : c ∈ l) : P c := h c hc
theorem find_ix (h : c0 ∈ kindC) : Txt.find (Str.ofString "?pc?d?b?-?l?s") (Txt.item ⟨#[c0, c1, c2, c3, c4, c5, c6, c7, c8, c9]⟩ 0) = kindIx c0 := by
  show Txt.find (Str.ofString "?pc?d?b?-?l?s") ⟨#[c0]⟩ = kindIx c0
  revert c0
  simp only [kindC, List.mem_cons, List.not_mem_nil, or_false]
  rintro c0 (rfl | rfl | rfl | rfl | rfl | rfl | rfl | rfl) <;> decide +kernel
theorem kindIx_nn (c : Nat) : 0 ≤ kindIx c := by unfold kindIx; repeat' split <;> first | omega | skip
theorem r_ix : (if (Txt.item ⟨#[c0, c1, c2]⟩ 0 == Str.ofString "r") = true then (1 : Int) else 0) = rB c0 := by
  show (if ((⟨#[c0]⟩ : Str) == Str.ofString "r") = true then (1 : Int) else 0) = rB c0
  have e : Str.ofString "r" = ⟨#[114]⟩ := by decide +kernel
  rw [e]
  unfold rB
  by_cases h : c0 = 114
  · subst h; simp
  · rw [if_neg h, if_neg]
    intro h'
    have := eq_of_beq h'
    injection this with h2
    simp at h2
    exact h h2
theorem w_ix : (if (Txt.item ⟨#[c0, c1, c2]⟩ 1 == Str.ofString "w") = true then (1 : Int) else 0) = wB c1 := by
  show (if ((⟨#[c1]⟩ : Str) == Str.ofString "w") = true then (1 : Int) else 0) = wB c1
  have e : Str.ofString "w" = ⟨#[119]⟩ := by decide +kernel
  rw [e]
  unfold wB
  by_cases h : c1 = 119
  · subst h; simp
  · rw [if_neg h, if_neg]
    intro h'
    have := eq_of_beq h'
    injection this with h2
    simp at h2
    exact h h2
theorem x_ix (h : c2 ∈ exeC) : (if (!(Builtin.Str.occurrences (Str.ofString "xst") (Txt.item ⟨#[c0, c1, c2]⟩ 2) 0 (Str.ofString "xst").length 1).isEmpty) = true then (1 : Int) else 0) = xB c2 := by
  show (if (!(Builtin.Str.occurrences (Str.ofString "xst") ⟨#[c2]⟩ 0 (Str.ofString "xst").length 1).isEmpty) = true then (1 : Int) else 0) = xB c2
  revert c2
  simp only [exeC, List.mem_cons, List.not_mem_nil, or_false]
  rintro c2 (rfl | rfl | rfl | rfl | rfl | rfl) <;> decide +kernel
theorem s_ix (h : c2 ∈ exeC) : (if (!(Builtin.Str.occurrences (Str.ofString "sStT") (Txt.item ⟨#[c0, c1, c2]⟩ 2) 0 (Str.ofString "sStT").length 1).isEmpty) = true then (1 : Int) else 0) = sB c2 := by
  show (if (!(Builtin.Str.occurrences (Str.ofString "sStT") ⟨#[c2]⟩ 0 (Str.ofString "sStT").length 1).isEmpty) = true then (1 : Int) else 0) = sB c2
  revert c2
  simp only [exeC, List.mem_cons, List.not_mem_nil, or_false]
  rintro c2 (rfl | rfl | rfl | rfl | rfl | rfl) <;> decide +kernel
end
section
variable {c0 c1 c2 c3 c4 c5 c6 c7 c8 c9 : Nat}
theorem sl0 : Txt.slice ⟨#[c0, c1, c2, c3, c4, c5, c6, c7, c8, c9]⟩ (some (1 + 3 * (0 + ((0 : Nat) : Int)))) (some (4 + 3 * (0 + ((0 : Nat) : Int)))) = ⟨#[c1, c2, c3]⟩ := by rfl
theorem sl1 : Txt.slice ⟨#[c0, c1, c2, c3, c4, c5, c6, c7, c8, c9]⟩ (some (1 + 3 * (0 + ((0 + 1 : Nat) : Int)))) (some (4 + 3 * (0 + ((0 + 1 : Nat) : Int)))) = ⟨#[c4, c5, c6]⟩ := by rfl
theorem sl2 : Txt.slice ⟨#[c0, c1, c2, c3, c4, c5, c6, c7, c8, c9]⟩ (some (1 + 3 * (0 + ((0 + 1 + 1 : Nat) : Int)))) (some (4 + 3 * (0 + ((0 + 1 + 1 : Nat) : Int)))) = ⟨#[c7, c8, c9]⟩ := by rfl
theorem it0 : Txt.item ⟨#[c0, c1, c2, c3, c4, c5, c6, c7, c8, c9]⟩ 0 = ⟨#[c0]⟩ := by rfl
theorem itA : Txt.item ⟨#[c0, c1, c2]⟩ 0 = ⟨#[c0]⟩ := by rfl
theorem itB : Txt.item ⟨#[c0, c1, c2]⟩ 1 = ⟨#[c1]⟩ := by rfl
theorem itC : Txt.item ⟨#[c0, c1, c2]⟩ 2 = ⟨#[c2]⟩ := by rfl
end
local macro_rules | `(tactic| walk_at "storeName") => `(tactic| ((first | simp only [sl0] | simp only [sl1] | simp only [sl2]); walk_at "storeName"))
theorem unrEnd_news {h₀ : Heap} {L I : Addr} {it : Obj} {rest : (Str → Option Value) → List (Addr × Obj) → Prop} {s₁ : Shared} {h' : Heap} {tk : Nat} {m' : Str → Option Value} {all news' : List (Addr × Obj)} (F : Fr h₀ L h' m') (N : News h₀ L h' all) (hlt : ∀ p ∈ news', p.1 < I)
    (sub : ∀ p ∈ (I, it) :: news', p ∈ all) (r : rest m' news') : UnrEnd h₀ L s₁ I it rest { s₁ with heap := h', toks := tk } := UnrEnd.intro F N news' sub (fun p hp => Nat.ne_of_lt (hlt p hp)) r
local macro_rules | `(tactic| walk_at "UnrEnd") => `(tactic| k_dflt (refine unrEnd_news (by assumption) (by assumption) (by assumption) (by (intro p9 hp9; first | exact hp9 | exact List.mem_cons_of_mem _ hp9 | exact List.mem_cons_of_mem _ (List.mem_cons_of_mem _ hp9) | exact List.mem_cons_of_mem _ (List.mem_cons_of_mem _ (List.mem_cons_of_mem _ hp9)))) ?_))
local macro_rules | `(tactic| k_room) => `(tactic| ktr_room)
set_option maxHeartbeats 40000000 in
theorem ll_call {w : World} {loose : List Str} {mean : ExcName → Option Value} {mg mb : Str → Option Value}
    {dp un : Nat} {gd : Option (List Code)} {cn : Str} {cs : Scope} {a : Addr} {ccd : Value} {cl : List (Str × Addr)} {outer : List Env} {A₀ : Around} {base h₀ : Heap} {L : Addr} {m : Str → Option Value} {news : List (Addr × Obj)} {s : Shared} {t₀ : Tok} {Q E : Value → Shared → Prop}
    {c0 c1 c2 c3 c4 c5 c6 c7 c8 c9 : Nat}
    (B : Below A₀ base outer h₀) (F : Fr h₀ L s.heap m) (X : (hd.heap_39 w.params).In h₀) (N : News h₀ L s.heap news) (T : Top hd.view_39 loose mean mg mb h₀) (hk : cs.kind = .function)
    (hd' : dp + 3 < recursionLimit) (hu : un + 30 < cLine)
    (i0 : c0 ∈ kindC) (i3 : c3 ∈ exeC) (i6 : c6 ∈ exeC) (i9 : c9 ∈ exeC)
    (hret : ∀ t h' tk', Fr h₀ L h' m → News h₀ L h' news → Q (.int (leastC c0 c1 c2 c3 c4 c5 c6 c7 c8 c9) t) { s with heap := h', toks := tk' }) :
    wpAny (model PySem.Challenge.rw_at0004_01.row.prog w) (ktrTop dp un gd cn cs L a ccd cl outer) (call (.ref 129) [.str ⟨#[c0, c1, c2, c3, c4, c5, c6, c7, c8, c9]⟩ t₀]) Q E s := by
  revert X; k_fill; intro X
  refine wpAny_call ?_
  k_dflt cell_enter
  k_steps
  · exfalso
    rename Txt.find _ _ = -1 => e9
    rw [find_ix i0] at e9
    have := kindIx_nn c0
    omega
  · rename Fr h₀ L _ m => kF9
    rename News h₀ L _ _ => kN9
    simp only [find_ix i0, r_ix, w_ix, x_ix i3, s_ix i3, x_ix i6, s_ix i6, x_ix i9, s_ix i9]
    refine hret _ _ _ kF9 (fun p hp => kN9 p ?_)
    first | exact hp | exact List.mem_cons_of_mem _ hp | exact List.mem_cons_of_mem _ (List.mem_cons_of_mem _ hp)
end Mine
end

section
open PySem PySem.W PyProof.Rows PySem.Spec PySem.Calls
set_option Elab.async false
set_option maxRecDepth 100000
namespace Mine
section
variable {prog : Program} {w : World} {A : Around} {h₀ : Heap} {L : Addr} {m : Str → Option Value} {env : Env} {elt : PySem.Expr} {x : Str} {scope : Scope} {cl : List (Str × Addr)} {s : Shared} {S : List (Addr × Obj) → Prop} {Fin : List Value → List (Addr × Obj) → Prop} {news : List (Addr × Obj)}

/-- a comprehension over a made list of ints whose element hands back a text, a function of the item -/
theorem texts_rest {vs : List Value} {ns : List Int} (g : Int → Str) (hi : IntsAre vs ns)
    (turn : ∀ k t I oI C oC D m₂ ys h tk (E' : Value → Shared → Prop), k ∈ ns → LCg.NsObj oC m₂ → m₂ x = some (.int k t) → Fr h₀ L h m → News h₀ L h ((I, oI) :: (C, oC) :: (D, LCg.lst ys) :: news) → LCg.Off3 I C D news → ((@Ne Nat I C) ∧ (@Ne Nat I D) ∧ (@Ne Nat C D)) →
      wpAny (model prog w) A (eval elt (compEnvC scope cl C env)) (LCg.CompEnd h₀ L m { s with heap := h, toks := tk } I oI C oC D (LCg.lst ys) S (fun y news' => KCtEl news (g k) y news')) E' { s with heap := h, toks := tk })
    (fin : ∀ ys, StrsAre ys (ns.map g) → Fin ys news) : LCg.CompRest prog w A h₀ L m env elt x scope cl s S (fun i v => vs.toArray[i]? = some v) Fin vs.toArray.size 0 [] news := by
  have key : ∀ (j i : Nat) (ys : List Value), i + j = ns.length → StrsAre ys ((ns.take i).map g) → LCg.CompRest prog w A h₀ L m env elt x scope cl s S (fun i v => vs.toArray[i]? = some v) Fin j i ys news := by
    intro j
    induction j with
    | zero =>
      intro i ys hi' hy
      obtain rfl : i = ns.length := by omega
      rw [List.take_length] at hy
      exact LCg.CompRest.zero (fin ys hy)
    | succ j ih =>
      intro i ys hi' hy
      refine LCg.CompRest.succ ?_
      intro v I oI C oC D m₂ h tk E' hv hC hx F N off ne
      obtain ⟨k, t, e, hk⟩ := IntsAre.at hi i v (by simpa using hv)
      subst e
      refine wpAny_mono (turn k t I oI C oC D m₂ ys h tk E' (List.mem_of_getElem? hk) hC hx F N off ne) (fun y s₂ hq => ?_) fun _ _ e => e
      obtain ⟨h', tk', nw, e, F', N', off', hS, hn, t', hy'⟩ := hq
      subst hn hy'
      refine ⟨h', tk', _, e, F', N', off', hS, ?_⟩
      refine ih (i + 1) _ (by omega) ?_
      rw [List.take_add_one, hk]
      simpa using kct_snoc hy
  have hsz : vs.toArray.size = ns.length := by rw [List.size_toArray]; exact hi.length
  rw [hsz]
  exact key ns.length 0 [] (by omega) (by simp only [List.take_zero, List.map_nil]; exact .nil)

def knD (n : Int) : Dat := Dat.list ((kinds n).map Dat.int)
theorem dat_ints {L' : List (Addr × Obj)} : ∀ {vs : List Value} {ns : List Int}, IntsAre vs ns → DatAll L' vs (ns.map Dat.int)
  | _, _, .nil => .nil
  | _, _, .cons n t r => .cons (.int n t) (dat_ints r)
def KnEl (news tl : List (Addr × Obj)) (n : Int) (y : Value) (news' : List (Addr × Obj)) : Prop := ∃ a vs k, y = .ref a ∧ news' = news ++ (tl ++ [(a, W.listOf vs.toArray k)]) ∧ IntsAre vs (kinds n)

/-- a comprehension over a made list of ints whose element hands back a new list of ints each -/
theorem lists_rest {vs : List Value} {ns : List Int} (hi : IntsAre vs ns)
    (turn : ∀ tl k t I oI C oC D m₂ ys h tk (E' : Value → Shared → Prop), k ∈ ns → LCg.NsObj oC m₂ → m₂ x = some (.int k t) → Fr h₀ L h m → News h₀ L h ((I, oI) :: (C, oC) :: (D, LCg.lst ys) :: (news ++ tl)) → LCg.Off3 I C D (news ++ tl) → ((@Ne Nat I C) ∧ (@Ne Nat I D) ∧ (@Ne Nat C D)) →
      wpAny (model prog w) A (eval elt (compEnvC scope cl C env)) (LCg.CompEnd h₀ L m { s with heap := h, toks := tk } I oI C oC D (LCg.lst ys) S (fun y news' => KnEl news tl k y news')) E' { s with heap := h, toks := tk })
    (fin : ∀ ys tl, DatAll tl ys (ns.map knD) → Fin ys (news ++ tl)) : LCg.CompRest prog w A h₀ L m env elt x scope cl s S (fun i v => vs.toArray[i]? = some v) Fin vs.toArray.size 0 [] news := by
  have key : ∀ (j i : Nat) (ys : List Value) (tl : List (Addr × Obj)), i + j = ns.length → DatAll tl ys ((ns.take i).map knD) → LCg.CompRest prog w A h₀ L m env elt x scope cl s S (fun i v => vs.toArray[i]? = some v) Fin j i ys (news ++ tl) := by
    intro j
    induction j with
    | zero =>
      intro i ys tl hi' hy
      obtain rfl : i = ns.length := by omega
      rw [List.take_length] at hy
      exact LCg.CompRest.zero (fin ys tl hy)
    | succ j ih =>
      intro i ys tl hi' hy
      refine LCg.CompRest.succ ?_
      intro v I oI C oC D m₂ h tk E' hv hC hx F N off ne
      obtain ⟨k, t, e, hk⟩ := IntsAre.at hi i v (by simpa using hv)
      subst e
      refine wpAny_mono (turn tl k t I oI C oC D m₂ ys h tk E' (List.mem_of_getElem? hk) hC hx F N off ne) (fun y s₂ hq => ?_) fun _ _ e => e
      obtain ⟨h', tk', nw, e, F', N', off', hS, a, us, kk, rfl, rfl, hu⟩ := hq
      refine ⟨h', tk', _, e, F', N', off', hS, ?_⟩
      refine ih (i + 1) _ _ (by omega) ?_
      rw [List.take_add_one, hk, List.map_append]
      refine DatAll.append (DatAll.mono (fun p hp => List.mem_append_left _ hp) hy) (DatAll.one ?_)
      exact DatIn.list (n := kk) (List.mem_append_right _ (List.mem_singleton.mpr rfl)) (dat_ints hu)
  have hsz : vs.toArray.size = ns.length := by rw [List.size_toArray]; exact hi.length
  rw [hsz]
  have h9 := key ns.length 0 [] [] (by omega) (by simp only [List.take_zero, List.map_nil]; exact .nil)
  rwa [List.append_nil] at h9

theorem comp_end {s₁ : Shared} {I C D : Addr} {oI oC oD : Obj} {rest : Value → List (Addr × Obj) → Prop} {y : Value} {h' : Heap} {tk : Nat}
    (F : Fr h₀ L h' m) (N : News h₀ L h' ((I, oI) :: (C, oC) :: (D, oD) :: news)) (off : LCg.Off3 I C D news) (hS : S news) (r : rest y news) :
    LCg.CompEnd h₀ L m s₁ I oI C oC D oD S rest y { s₁ with heap := h', toks := tk } := LCg.CompEnd.intro F N news (fun _ h => h) off hS r
theorem off3_append {I C D : Addr} {l r : List (Addr × Obj)} (h1 : LCg.Off3 I C D l) (h2 : LCg.Off3 I C D r) : LCg.Off3 I C D (l ++ r) :=
  LCg.Off3.of fun p hp => (List.mem_append.mp hp).elim (h1.mem p) (h2.mem p)
theorem off3_split {I C D : Addr} {l r : List (Addr × Obj)} (h1 : LCg.Off3 I C D (l ++ r)) : LCg.Off3 I C D l ∧ LCg.Off3 I C D r :=
  ⟨LCg.Off3.of fun p hp => h1.mem p (List.mem_append_left _ hp), LCg.Off3.of fun p hp => h1.mem p (List.mem_append_right _ hp)⟩

/-- the end of a turn that makes one list -/
theorem comp_endK {s₁ : Shared} {I C D a : Addr} {oI oC oD : Obj} {tl : List (Addr × Obj)} {us : List Value} {kk : Nat} {n : Int} {h' : Heap} {tk : Nat}
    (F : Fr h₀ L h' m) (N : News h₀ L h' ((a, W.listOf us.toArray kk) :: (I, oI) :: (C, oC) :: (D, oD) :: (news ++ tl))) (off : LCg.Off3 I C D (news ++ tl))
    (hne : ∀ p ∈ (I, oI) :: (C, oC) :: (D, oD) :: (news ++ tl), p.1 ≠ a) (hS : S (news ++ (tl ++ [(a, W.listOf us.toArray kk)]))) (hu : IntsAre us (kinds n)) :
    LCg.CompEnd h₀ L m s₁ I oI C oC D oD S (fun y news' => KnEl news tl n y news') (.ref a) { s₁ with heap := h', toks := tk } := by
  refine LCg.CompEnd.intro F N (news ++ (tl ++ [(a, W.listOf us.toArray kk)])) (fun p hp => ?_) ?_ hS ⟨a, us, kk, rfl, rfl, hu⟩
  · simp only [List.mem_cons, List.mem_append, List.not_mem_nil, or_false] at hp ⊢
    rcases hp with hp | hp | hp | hp | hp | hp
    · exact .inr (.inl hp)
    · exact .inr (.inr (.inl hp))
    · exact .inr (.inr (.inr (.inl hp)))
    · exact .inr (.inr (.inr (.inr (.inl hp))))
    · exact .inr (.inr (.inr (.inr (.inr hp))))
    · exact .inl hp
  · refine off3_append (off3_split off).1 (off3_append (off3_split off).2 ?_)
    refine LCg.Off3.of fun p hp => ?_
    rw [List.mem_singleton.mp hp]
    exact ⟨fun e => hne (I, oI) (by simp) e.symm, fun e => hne (C, oC) (by simp) e.symm, fun e => hne (D, oD) (by simp) e.symm⟩
end
end Mine
end

section
open PySem PySem.W PyProof.Rows PySem.Spec PySem.Calls
set_option Elab.async false
set_option maxRecDepth 100000
namespace Mine
theorem strs_at : ∀ {vs : List Value} {ts : List Str}, StrsAre vs ts → ∀ (i : Nat) (v : Value), vs[i]? = some v → ∃ x t, v = .str x t ∧ ts[i]? = some x
  | _, _, .nil, i, v, h => by simp at h
  | _, _, .cons y t r, 0, v, h => by
    have e : Value.str y t = v := by simpa using h
    exact ⟨y, t, e.symm, rfl⟩
  | _, _, .cons y t r, i + 1, v, h => by
    have h' := strs_at r i v (by simpa using h)
    simpa using h'
section
variable {prog : Program} {w : World} {A : Around} {h₀ : Heap} {L : Addr} {m : Str → Option Value} {env : Env} {elt : PySem.Expr} {x : Str} {scope : Scope} {cl : List (Str × Addr)} {s : Shared} {S : List (Addr × Obj) → Prop} {Fin : List Value → List (Addr × Obj) → Prop} {news : List (Addr × Obj)}
/-- a comprehension over a made list of texts whose element hands back an int -/
theorem lens_rest {vs : List Value} {ts : List Str} (hi : StrsAre vs ts)
    (turn : ∀ k t I oI C oC D m₂ ys h tk (E' : Value → Shared → Prop), k ∈ ts → LCg.NsObj oC m₂ → m₂ x = some (.str k t) → Fr h₀ L h m → News h₀ L h ((I, oI) :: (C, oC) :: (D, LCg.lst ys) :: news) → LCg.Off3 I C D news → ((@Ne Nat I C) ∧ (@Ne Nat I D) ∧ (@Ne Nat C D)) →
      wpAny (model prog w) A (eval elt (compEnvC scope cl C env)) (LCg.CompEnd h₀ L m { s with heap := h, toks := tk } I oI C oC D (LCg.lst ys) S (fun y news' => KCfEl news (k.length : Int) y news')) E' { s with heap := h, toks := tk })
    (fin : ∀ ys, IntsAre ys (ts.map fun k => (k.length : Int)) → Fin ys news) : LCg.CompRest prog w A h₀ L m env elt x scope cl s S (fun i v => vs.toArray[i]? = some v) Fin vs.toArray.size 0 [] news := by
  have key : ∀ (j i : Nat) (ys : List Value), i + j = ts.length → IntsAre ys ((ts.take i).map fun k => (k.length : Int)) → LCg.CompRest prog w A h₀ L m env elt x scope cl s S (fun i v => vs.toArray[i]? = some v) Fin j i ys news := by
    intro j
    induction j with
    | zero =>
      intro i ys hi' hy
      obtain rfl : i = ts.length := by omega
      rw [List.take_length] at hy
      exact LCg.CompRest.zero (fin ys hy)
    | succ j ih =>
      intro i ys hi' hy
      refine LCg.CompRest.succ ?_
      intro v I oI C oC D m₂ h tk E' hv hC hx F N off ne
      obtain ⟨k, t, e, hk⟩ := strs_at hi i v (by simpa using hv)
      subst e
      refine wpAny_mono (turn k t I oI C oC D m₂ ys h tk E' (List.mem_of_getElem? hk) hC hx F N off ne) (fun y s₂ hq => ?_) fun _ _ e => e
      obtain ⟨h', tk', nw, e, F', N', off', hS, hn, t', hy'⟩ := hq
      subst hn hy'
      refine ⟨h', tk', _, e, F', N', off', hS, ?_⟩
      refine ih (i + 1) _ (by omega) ?_
      rw [List.take_add_one, hk]
      simpa using IntsAre.append hy (.cons (k.length : Int) t' .nil)
  have hsz : vs.toArray.size = ts.length := by rw [List.size_toArray]; exact hi.length
  rw [hsz]
  exact key ts.length 0 [] (by omega) (by simp only [List.take_zero, List.map_nil]; exact .nil)
end
end Mine
end

section
open PySem PySem.W PyProof.Rows PySem.Spec PySem.Calls
set_option Elab.async false
set_option maxRecDepth 100000
namespace Mine
theorem nat_field (n s w : Nat) : n &&& ((2 ^ w - 1) * 2 ^ s) = (n / 2 ^ s % 2 ^ w) * 2 ^ s := by
  apply Nat.eq_of_testBit_eq
  intro j
  rw [Nat.testBit_and, Nat.testBit_mul_two_pow, Nat.testBit_mul_two_pow]
  by_cases h : s ≤ j
  · rw [Nat.testBit_mod_two_pow, Nat.testBit_two_pow_sub_one, Nat.testBit_div_two_pow]
    have e : s + (j - s) = j := by omega
    have e' : j - s + s = j := by omega
    simp only [h, decide_true, Bool.true_and, e, e']
    exact Bool.and_comm _ _
  · simp [h]
theorem band_field (x : Int) (s w : Nat) (m : Int) (hm : m = (((2 ^ w - 1) * 2 ^ s : Nat) : Int)) : Builtin.bitAnd x m = (x / (2 ^ s : Nat) % (2 ^ w : Nat)) * (2 ^ s : Nat) := by
  subst hm
  have hp : 0 < 2 ^ s := Nat.two_pow_pos s
  have hw : 0 < 2 ^ w := Nat.two_pow_pos w
  by_cases hx : 0 ≤ x
  · rw [bitAnd_pp hx (Int.natCast_nonneg _), Int.toNat_natCast, nat_field]
    obtain ⟨n, rfl⟩ := Int.eq_ofNat_of_zero_le hx
    simp
  · rw [bitAnd_np hx (Int.natCast_nonneg _), Int.toNat_natCast, Nat.and_comm, nat_field]
    have hy : 0 ≤ Builtin.bitNot x := by unfold Builtin.bitNot; omega
    obtain ⟨n, hn⟩ := Int.eq_ofNat_of_zero_le hy
    rw [hn]
    have ex : x = -(n : Int) - 1 := by unfold Builtin.bitNot at hn; omega
    rw [Int.toNat_natCast]
    have hd : x / ((2 ^ s : Nat) : Int) = -((n / 2 ^ s : Nat) : Int) - 1 := by
      rw [ex]
      have h1 := Nat.div_add_mod n (2 ^ s)
      have h2 := Nat.mod_lt n hp
      have : (-(n : Int) - 1) = ((2 ^ s - 1 - n % 2 ^ s : Nat) : Int) + ((2 ^ s : Nat) : Int) * (-((n / 2 ^ s : Nat) : Int) - 1) := by
        have e1 : (n : Int) = ((2 ^ s : Nat) : Int) * ((n / 2 ^ s : Nat) : Int) + ((n % 2 ^ s : Nat) : Int) := by
          rw [← Int.natCast_mul, ← Int.natCast_add, h1]
        have e2 : ((2 ^ s - 1 - n % 2 ^ s : Nat) : Int) = ((2 ^ s : Nat) : Int) - 1 - ((n % 2 ^ s : Nat) : Int) := by omega
        rw [e2, Int.mul_sub, Int.mul_neg]
        omega
      rw [this, Int.add_mul_ediv_left _ _ (by omega)]
      rw [Int.ediv_eq_zero_of_lt (by omega) (by omega)]
      omega
    rw [hd]
    generalize hq : n / 2 ^ s = q
    have hmod : (-(q : Int) - 1) % ((2 ^ w : Nat) : Int) = ((2 ^ w : Nat) : Int) - 1 - ((q % 2 ^ w : Nat) : Int) := by
      have h1 := Nat.div_add_mod q (2 ^ w)
      have h2 := Nat.mod_lt q hw
      have : (-(q : Int) - 1) = (((2 ^ w : Nat) : Int) - 1 - ((q % 2 ^ w : Nat) : Int)) + ((2 ^ w : Nat) : Int) * (-((q / 2 ^ w : Nat) : Int) - 1) := by
        have e1 : (q : Int) = ((2 ^ w : Nat) : Int) * ((q / 2 ^ w : Nat) : Int) + ((q % 2 ^ w : Nat) : Int) := by
          rw [← Int.natCast_mul, ← Int.natCast_add, h1]
        rw [Int.mul_sub, Int.mul_neg]
        omega
      rw [this, Int.add_mul_emod_self_left, Int.emod_eq_of_lt (by omega) (by omega)]
    rw [hmod]
    have e3 : (((2 ^ w - 1) * 2 ^ s : Nat) : Int) = (((2 ^ w : Nat) : Int) - 1) * ((2 ^ s : Nat) : Int) := by
      rw [Int.natCast_mul]
      congr 1
      omega
    rw [e3, Int.natCast_mul, ← Int.sub_mul]
end Mine
end

section
open PySem PySem.W PyProof.Rows PySem.Spec PySem.Calls
set_option Elab.async false
set_option maxRecDepth 100000
namespace Mine
theorem nat_two (n i j : Nat) (h : 2 ^ i ||| 2 ^ j = 2 ^ i + 2 ^ j) : n &&& (2 ^ i + 2 ^ j) = (n &&& 2 ^ i) + (n &&& 2 ^ j) := by
  have hi := nat_field n i 1
  have hj := nat_field n j 1
  simp only [Nat.pow_one, Nat.add_one_sub_one, Nat.one_mul] at hi hj
  rw [← h, Nat.and_or_distrib_left, hi, hj]
  rcases Nat.mod_two_eq_zero_or_one (n / 2 ^ i) with a | a <;> rcases Nat.mod_two_eq_zero_or_one (n / 2 ^ j) with b | b <;> rw [a, b] <;> simp [h]
theorem band_two (x : Int) (i j : Nat) (m : Int) (hm : m = ((2 ^ i + 2 ^ j : Nat) : Int)) (h : 2 ^ i ||| 2 ^ j = 2 ^ i + 2 ^ j) :
    Builtin.bitAnd x m = Builtin.bitAnd x (2 ^ i : Nat) + Builtin.bitAnd x (2 ^ j : Nat) := by
  subst hm
  by_cases hx : 0 ≤ x
  · rw [bitAnd_pp hx (Int.natCast_nonneg _), bitAnd_pp hx (Int.natCast_nonneg _), bitAnd_pp hx (Int.natCast_nonneg _), Int.toNat_natCast, Int.toNat_natCast, Int.toNat_natCast, nat_two _ _ _ h]
    exact Int.natCast_add _ _
  · rw [bitAnd_np hx (Int.natCast_nonneg _), bitAnd_np hx (Int.natCast_nonneg _), bitAnd_np hx (Int.natCast_nonneg _), Int.toNat_natCast, Int.toNat_natCast, Int.toNat_natCast, Nat.and_comm, nat_two _ _ _ h,
      Nat.and_comm (2 ^ i), Nat.and_comm (2 ^ j), Int.natCast_add, Int.natCast_add]
    omega
theorem band_bit (x : Int) (s : Nat) (m : Int) (hm : m = ((2 ^ s : Nat) : Int)) : Builtin.bitAnd x m = (x / m % 2) * m := by
  have h := band_field x s 1 m (by rw [hm]; simp)
  rw [h, hm]
  simp
theorem band_low (x : Int) : Builtin.bitAnd x 4095 = x % 4096 := by
  have h := band_field x 0 12 4095 (by decide)
  simpa using h
theorem band_top (x : Int) : Builtin.bitAnd x 61440 = (x / 4096 % 16) * 4096 := by
  have h := band_field x 12 4 61440 (by decide)
  simpa using h

/-- a bit of an int -/
def bt (x m : Int) : Int := x / m % 2
theorem bt01 (x m : Int) : bt x m = 0 ∨ bt x m = 1 := by
  unfold bt
  omega
theorem band_is (x : Int) (s : Nat) (m : Int) (hm : m = ((2 ^ s : Nat) : Int)) : Builtin.bitAnd x m = m ↔ bt x m = 1 := by
  rw [band_bit x s m hm]
  have hp : 0 < m := by rw [hm]; exact_mod_cast Nat.two_pow_pos s
  rcases bt01 x m with h | h <;> unfold bt at h ⊢ <;> rw [h]
  · simp
    omega
  · simp
theorem band_is2 (x : Int) (i j : Nat) (a b m : Int) (ha : a = ((2 ^ i : Nat) : Int)) (hb : b = ((2 ^ j : Nat) : Int)) (hm : m = a + b) (h : 2 ^ i ||| 2 ^ j = 2 ^ i + 2 ^ j) : Builtin.bitAnd x m = m ↔ bt x a = 1 ∧ bt x b = 1 := by
  have e := band_two x i j m (by rw [hm, ha, hb]; exact (Int.natCast_add _ _).symm) h
  rw [e, ← ha, ← hb, band_bit x i a ha, band_bit x j b hb, hm]
  have hpa : 0 < a := by rw [ha]; exact_mod_cast Nat.two_pow_pos i
  have hpb : 0 < b := by rw [hb]; exact_mod_cast Nat.two_pow_pos j
  rcases bt01 x a with h1 | h1 <;> rcases bt01 x b with h2 | h2 <;> (unfold bt at h1 h2 ⊢) <;> rw [h1, h2] <;> simp <;> omega
end Mine
end

section
open PySem PySem.W PyProof.Rows PySem.Spec PySem.Calls
set_option Elab.async false
set_option maxRecDepth 100000
namespace Mine
def top (n : Int) : Int := n / 4096 % 16
def s0 (t : Int) : Nat := if t = 10 then 108 else if t = 12 then 115 else if t = 8 then 45 else if t = 6 then 98 else if t = 4 then 100 else if t = 2 then 99 else if t = 1 then 112 else 63
theorem top_is (n k v : Int) (h : v = k * 4096) : Builtin.bitAnd n 61440 = v ↔ top n = k := by
  rw [band_top, h]
  unfold top
  omega
theorem sgn0_eq (n : Int) : sgn0 n = s0 (top n) := by
  unfold sgn0 s0
  simp only [top_is n 10 40960 (by decide), top_is n 12 49152 (by decide), top_is n 8 32768 (by decide), top_is n 6 24576 (by decide), top_is n 4 16384 (by decide), top_is n 2 8192 (by decide), top_is n 1 4096 (by decide)]
theorem kinds_eq (n : Int) : kinds n = if top n = 1 then [0] else if top n = 2 then [1] else if top n = 4 then [2] else if top n = 6 then [3] else if top n = 8 then [4] else if top n = 10 then [5] else if top n = 12 then [6] else [] := by
  unfold kinds
  simp only [top_is n 10 40960 (by decide), top_is n 12 49152 (by decide), top_is n 8 32768 (by decide), top_is n 6 24576 (by decide), top_is n 4 16384 (by decide), top_is n 2 8192 (by decide), top_is n 1 4096 (by decide)]
theorem kinds_len (n : Int) : (kinds n).length ≤ 1 := by
  rw [kinds_eq]
  repeat' split
  all_goals simp
theorem kinds_nil (n : Int) : kinds n = [] ↔ s0 (top n) = 63 := by
  rw [kinds_eq]
  unfold s0
  generalize top n = t
  by_cases h1 : t = 1
  · simp [h1]
  by_cases h2 : t = 2
  · simp [h2]
  by_cases h3 : t = 4
  · simp [h3]
  by_cases h4 : t = 6
  · simp [h4]
  by_cases h5 : t = 8
  · simp [h5]
  by_cases h6 : t = 10
  · simp [h6]
  by_cases h7 : t = 12
  · simp [h7]
  simp [h1, h2, h3, h4, h5, h6, h7]
theorem kx_top (t : Int) (h : s0 t ≠ 63) : kindIx (s0 t) = t := by
  revert h
  unfold s0
  by_cases h1 : t = 1
  · simp [h1, kindIx]
  by_cases h2 : t = 2
  · simp [h2, kindIx]
  by_cases h3 : t = 4
  · simp [h3, kindIx]
  by_cases h4 : t = 6
  · simp [h4, kindIx]
  by_cases h5 : t = 8
  · simp [h5, kindIx]
  by_cases h6 : t = 10
  · simp [h6, kindIx]
  by_cases h7 : t = 12
  · simp [h7, kindIx]
  simp [h1, h2, h3, h4, h5, h6, h7]
theorem kx_nil : kindIx 63 = 0 := by decide
theorem s0_kx (t : Int) : s0 (kindIx (s0 t)) = s0 t := by
  by_cases h : s0 t = 63
  · rw [h]; decide
  · rw [kx_top t h]
theorem kx_range (t : Int) : 0 ≤ kindIx (s0 t) ∧ kindIx (s0 t) ≤ 12 := by
  unfold kindIx
  repeat' split
  all_goals omega

def leastOf (n : Int) : Int := leastC (sgn0 n) (sgn1 n 256 114) (sgn1 n 128 119) (sgn3 n 2112 2048 64 115 83 120) (sgn1 n 32 114) (sgn1 n 16 119) (sgn3 n 1032 1024 8 115 83 120) (sgn1 n 4 114) (sgn1 n 2 119) (sgn3 n 513 512 1 116 84 120)
theorem sgn1_eq (n a : Int) (x i : Nat) (ha : a = ((2 ^ i : Nat) : Int)) : sgn1 n a x = if bt n a = 1 then x else 45 := by
  unfold sgn1
  simp only [band_is n i a ha]
theorem sgn3_eq (n a b m : Int) (x y z i j : Nat) (ha : a = ((2 ^ i : Nat) : Int)) (hb : b = ((2 ^ j : Nat) : Int)) (hm : m = a + b) (h : 2 ^ i ||| 2 ^ j = 2 ^ i + 2 ^ j) :
    sgn3 n m a b x y z = if bt n a = 1 ∧ bt n b = 1 then x else if bt n a = 1 then y else if bt n b = 1 then z else 45 := by
  unfold sgn3
  simp only [band_is2 n i j a b m ha hb hm h, band_is n i a ha, band_is n j b hb]
theorem rB_eq (n a : Int) (i : Nat) (ha : a = ((2 ^ i : Nat) : Int)) : rB (sgn1 n a 114) = bt n a := by
  rw [sgn1_eq n a 114 i ha]
  rcases bt01 n a with h | h <;> rw [h] <;> decide
theorem wB_eq (n a : Int) (i : Nat) (ha : a = ((2 ^ i : Nat) : Int)) : wB (sgn1 n a 119) = bt n a := by
  rw [sgn1_eq n a 119 i ha]
  rcases bt01 n a with h | h <;> rw [h] <;> decide
theorem xsB_eq (n a b m : Int) (x y : Nat) (i j : Nat) (hxy : (x = 115 ∧ y = 83) ∨ (x = 116 ∧ y = 84)) (ha : a = ((2 ^ i : Nat) : Int)) (hb : b = ((2 ^ j : Nat) : Int)) (hm : m = a + b) (h : 2 ^ i ||| 2 ^ j = 2 ^ i + 2 ^ j) :
    xB (sgn3 n m a b x y 120) = bt n b ∧ sB (sgn3 n m a b x y 120) = bt n a := by
  rw [sgn3_eq n a b m x y 120 i j ha hb hm h]
  rcases hxy with ⟨rfl, rfl⟩ | ⟨rfl, rfl⟩ <;> rcases bt01 n a with h1 | h1 <;> rcases bt01 n b with h2 | h2 <;> rw [h1, h2] <;> decide
theorem low_sum (n : Int) : n % 4096 = 2048 * bt n 2048 + 1024 * bt n 1024 + 512 * bt n 512 + 256 * bt n 256 + 128 * bt n 128 + 64 * bt n 64 + 32 * bt n 32 + 16 * bt n 16 + 8 * bt n 8 + 4 * bt n 4 + 2 * bt n 2 + bt n 1 := by
  unfold bt
  have h11 : n % 4096 = 2048 * (n / 2048 % 2) + n % 2048 := by omega
  have h10 : n % 2048 = 1024 * (n / 1024 % 2) + n % 1024 := by omega
  have h9 : n % 1024 = 512 * (n / 512 % 2) + n % 512 := by omega
  have h8 : n % 512 = 256 * (n / 256 % 2) + n % 256 := by omega
  have h7 : n % 256 = 128 * (n / 128 % 2) + n % 128 := by omega
  have h6 : n % 128 = 64 * (n / 64 % 2) + n % 64 := by omega
  have h5 : n % 64 = 32 * (n / 32 % 2) + n % 32 := by omega
  have h4 : n % 32 = 16 * (n / 16 % 2) + n % 16 := by omega
  have h3 : n % 16 = 8 * (n / 8 % 2) + n % 8 := by omega
  have h2 : n % 8 = 4 * (n / 4 % 2) + n % 4 := by omega
  have h1 : n % 4 = 2 * (n / 2 % 2) + n % 2 := by omega
  have h0 : n / 1 % 2 = n % 2 := by rw [Int.ediv_one]
  rw [h11, h10, h9, h8, h7, h6, h5, h4, h3, h2, h1, h0]
  simp only [Int.add_assoc]
theorem least_eq (n : Int) : leastOf n = 4096 * kindIx (s0 (top n)) + n % 4096 := by
  unfold leastOf leastC
  rw [sgn0_eq, rB_eq n 256 8 (by decide), wB_eq n 128 7 (by decide), rB_eq n 32 5 (by decide), wB_eq n 16 4 (by decide), rB_eq n 4 2 (by decide), wB_eq n 2 1 (by decide),
    (xsB_eq n 2048 64 2112 115 83 11 6 (by decide) (by decide) (by decide) (by decide) (by decide)).1, (xsB_eq n 2048 64 2112 115 83 11 6 (by decide) (by decide) (by decide) (by decide) (by decide)).2,
    (xsB_eq n 1024 8 1032 115 83 10 3 (by decide) (by decide) (by decide) (by decide) (by decide)).1, (xsB_eq n 1024 8 1032 115 83 10 3 (by decide) (by decide) (by decide) (by decide) (by decide)).2,
    (xsB_eq n 512 1 513 116 84 9 0 (by decide) (by decide) (by decide) (by decide) (by decide)).1, (xsB_eq n 512 1 513 116 84 9 0 (by decide) (by decide) (by decide) (by decide) (by decide)).2, low_sum]
  omega
theorem least_low (n : Int) : leastOf n % 4096 = n % 4096 := by rw [least_eq]; omega
theorem least_top (n : Int) : top (leastOf n) = kindIx (s0 (top n)) := by
  have := kx_range (top n)
  rw [least_eq]
  unfold top at *
  omega
theorem mode_least (n : Int) : Builtin.bitAnd (leastOf n) 4095 = Builtin.bitAnd n 4095 := by rw [band_low, band_low, least_low]
theorem bt_low (a b m : Int) (h : a % 4096 = b % 4096) (hm : m = 1 ∨ m = 2 ∨ m = 4 ∨ m = 8 ∨ m = 16 ∨ m = 32 ∨ m = 64 ∨ m = 128 ∨ m = 256 ∨ m = 512 ∨ m = 1024 ∨ m = 2048) : bt a m = bt b m := by
  unfold bt
  rcases hm with rfl | rfl | rfl | rfl | rfl | rfl | rfl | rfl | rfl | rfl | rfl | rfl <;> omega
theorem signs_low (a b : Int) (h : a % 4096 = b % 4096) (h0 : s0 (top a) = s0 (top b)) : signs a = signs b := by
  unfold signs
  rw [sgn0_eq, sgn0_eq, h0]
  rw [sgn1_eq a 256 114 8 (by decide), sgn1_eq a 128 119 7 (by decide), sgn1_eq a 32 114 5 (by decide), sgn1_eq a 16 119 4 (by decide), sgn1_eq a 4 114 2 (by decide), sgn1_eq a 2 119 1 (by decide),
    sgn3_eq a 2048 64 2112 115 83 120 11 6 (by decide) (by decide) (by decide) (by decide), sgn3_eq a 1024 8 1032 115 83 120 10 3 (by decide) (by decide) (by decide) (by decide), sgn3_eq a 512 1 513 116 84 120 9 0 (by decide) (by decide) (by decide) (by decide)]
  rw [sgn1_eq b 256 114 8 (by decide), sgn1_eq b 128 119 7 (by decide), sgn1_eq b 32 114 5 (by decide), sgn1_eq b 16 119 4 (by decide), sgn1_eq b 4 114 2 (by decide), sgn1_eq b 2 119 1 (by decide),
    sgn3_eq b 2048 64 2112 115 83 120 11 6 (by decide) (by decide) (by decide) (by decide), sgn3_eq b 1024 8 1032 115 83 120 10 3 (by decide) (by decide) (by decide) (by decide), sgn3_eq b 512 1 513 116 84 120 9 0 (by decide) (by decide) (by decide) (by decide)]
  rw [bt_low a b 256 h (by decide), bt_low a b 128 h (by decide), bt_low a b 32 h (by decide), bt_low a b 16 h (by decide), bt_low a b 4 h (by decide), bt_low a b 2 h (by decide), bt_low a b 2048 h (by decide), bt_low a b 64 h (by decide),
    bt_low a b 1024 h (by decide), bt_low a b 8 h (by decide), bt_low a b 512 h (by decide), bt_low a b 1 h (by decide)]
theorem fm_least (n : Int) : fmS (leastOf n) = fmS n := by
  unfold fmS
  rw [signs_low (leastOf n) n (least_low n) (by rw [least_top, s0_kx])]
theorem least_mod (n : Int) (h : kinds n ≠ []) : leastOf n = n % 65536 := by
  have h' : s0 (top n) ≠ 63 := fun e => h ((kinds_nil n).mpr e)
  rw [least_eq, kx_top _ h']
  unfold top
  omega
theorem least_small (n : Int) (h : kinds n = []) : leastOf n < 4096 := by
  rw [least_eq, (kinds_nil n).mp h, kx_nil]
  omega
theorem least_of_fm (a b : Int) (h : fmS a = fmS b) : leastOf a = leastOf b ∧ s0 (top a) = s0 (top b) := by
  have h1 : signs a = signs b := by
    have h2 := congrArg (fun x : Str => x.cps.toList) h
    simpa [fmS] using h2
  unfold signs at h1
  simp only [List.cons.injEq, and_true] at h1
  obtain ⟨e0, e1, e2, e3, e4, e5, e6, e7, e8, e9⟩ := h1
  unfold leastOf
  rw [e0, e1, e2, e3, e4, e5, e6, e7, e8, e9]
  refine ⟨rfl, ?_⟩
  rw [← sgn0_eq, ← sgn0_eq, e0]
theorem fm_iff (a b : Int) : fmS a = fmS b ↔ (Builtin.bitAnd a 4095 = Builtin.bitAnd b 4095 ∧ (Builtin.bitAnd a 61440 = Builtin.bitAnd b 61440 ∨ (kinds a = [] ∧ kinds b = []))) := by
  rw [band_low, band_low, band_top, band_top]
  constructor
  · intro h
    obtain ⟨h1, h2⟩ := least_of_fm a b h
    refine ⟨by rw [← least_low a, ← least_low b, h1], ?_⟩
    by_cases hk : kinds a = []
    · exact .inr ⟨hk, (kinds_nil b).mpr (h2 ▸ (kinds_nil a).mp hk)⟩
    · have ha : s0 (top a) ≠ 63 := fun e => hk ((kinds_nil a).mpr e)
      have h3 := kx_top _ ha
      have h4 := kx_top (top b) (h2 ▸ ha)
      have h5 : top a = top b := by rw [← h3, h2, h4]
      left
      unfold top at h5
      rw [h5]
  · rintro ⟨h1, h2⟩
    unfold fmS
    rw [signs_low a b h1]
    rcases h2 with h2 | ⟨h2, h3⟩
    · have : top a = top b := by unfold top; omega
      rw [this]
    · rw [(kinds_nil a).mp h2, (kinds_nil b).mp h3]
end Mine
end

section
open PySem PySem.W PyProof.Rows PySem.Spec PySem.Calls
set_option Elab.async false
set_option maxRecDepth 100000
namespace Mine
theorem ints_of_dat {L' : List (Addr × Obj)} : ∀ {ns : List Int} {vs : List Value}, DatAll L' vs (ns.map Dat.int) → IntsAre vs ns
  | [], _, h => by cases h; exact .nil
  | n :: r, _, h => by
    cases h with
    | cons h1 h2 =>
      cases h1
      exact .cons n _ (ints_of_dat h2)
theorem known_at {tl : List (Addr × Obj)} {vs : List Value} {ms : List Int} (hd : DatAll tl vs (ms.map knD)) {i : Nat} (hi : i < ms.length) :
    ∃ a us kk, vs[i]? = some (.ref a) ∧ (a, W.listOf us.toArray kk) ∈ tl ∧ IntsAre us (kinds (ms.getD i 0)) := by
  obtain ⟨v, hv, hD⟩ := hd.get (k := i) (by simpa using hi)
  have e : (ms.map knD)[i]'(by simpa using hi) = knD (ms.getD i 0) := by
    rw [List.getElem_map, List.getD_eq_getElem?_getD, List.getElem?_eq_getElem hi]
    rfl
  rw [e] at hD
  unfold knD at hD
  cases hD with
  | list hm h2 => exact ⟨_, _, _, hv, hm, ints_of_dat h2⟩
section
variable {prog : Program} {w : World} {A : Around} {E : Value → Shared → Prop} {s : Shared} {h₀ : Heap} {L l : Addr} {news tl : List (Addr × Obj)} {vs : List Value} {ms : List Int} {nn : Nat} {k : Int} {u : Tok} {value slice : PySem.Expr} {Q : Value → Shared → Prop}
theorem item_sign (hi : StrsAre vs (ms.map fmS)) (N : News h₀ L s.heap news) (hm : (l, W.listOf vs.toArray nn) ∈ news) (h0 : 0 ≤ k) (h1 : k < (ms.length : Int)) (hf : ms.length ≤ 100) (h : ∀ t, Q (.str (fmS (ms.getD k.toNat 0)) t) s)
    (hs : subscripted slice false (.ref l) (.int k u) = operate [.ref l, .int k u] (getItem (.ref l) (.int k u)) := by with_unfolding_all rfl) :
    wpAny (model prog w) A (subscriptTail value slice (.ref l) (.int k u)) Q E s := by
  have hk : k.toNat < ms.length := by omega
  have hlen := hi.length
  have hk' : k.toNat < vs.length := by rw [hlen, List.length_map]; exact hk
  obtain ⟨x, t, hv, hx⟩ := strs_at hi k.toNat _ (List.getElem?_eq_getElem hk')
  have ex : x = fmS (ms.getD k.toNat 0) := by
    rw [List.getElem?_map, List.getElem?_eq_getElem hk] at hx
    rw [List.getD_eq_getElem?_getD, List.getElem?_eq_getElem hk]
    exact (Option.some.inj hx).symm
  subst ex
  have hl : s.heap.IsList l vs.toArray := News.isList N hm
  refine tail_any hl.typeIs slot_list_getitem.lookup (wpAny_getItem_list hl h0 (by omega) ?_ (h t)) hs
  rw [← hv]
  simpa using List.getElem?_eq_getElem hk'
theorem item_mode (hi : IntsAre vs ms) (N : News h₀ L s.heap news) (hm : (l, W.listOf vs.toArray nn) ∈ news) (h0 : 0 ≤ k) (h1 : k < (ms.length : Int)) (hf : ms.length ≤ 100) (h : ∀ t, Q (.int (ms.getD k.toNat 0) t) s)
    (hs : subscripted slice false (.ref l) (.int k u) = operate [.ref l, .int k u] (getItem (.ref l) (.int k u)) := by with_unfolding_all rfl) :
    wpAny (model prog w) A (subscriptTail value slice (.ref l) (.int k u)) Q E s := by
  have hk : k.toNat < ms.length := by omega
  obtain ⟨t, hv⟩ := hi.get k.toNat (ms.getD k.toNat 0) (by rw [List.getD_eq_getElem?_getD, List.getElem?_eq_getElem hk]; rfl)
  have hl : s.heap.IsList l vs.toArray := News.isList N hm
  exact tail_any hl.typeIs slot_list_getitem.lookup (wpAny_getItem_list hl h0 (by omega) (by simpa using hv) (h t)) hs
theorem item_known (hd : DatAll tl vs (ms.map knD)) (N : News h₀ L s.heap news) (hm : (l, W.listOf vs.toArray nn) ∈ news) (h0 : 0 ≤ k) (h1 : k < (ms.length : Int)) (hf : ms.length ≤ 100)
    (h : ∀ a us kk, (a, W.listOf us.toArray kk) ∈ tl → IntsAre us (kinds (ms.getD k.toNat 0)) → Q (.ref a) s)
    (hs : subscripted slice false (.ref l) (.int k u) = operate [.ref l, .int k u] (getItem (.ref l) (.int k u)) := by with_unfolding_all rfl) :
    wpAny (model prog w) A (subscriptTail value slice (.ref l) (.int k u)) Q E s := by
  have hk : k.toNat < ms.length := by omega
  obtain ⟨a, us, kk, hv, ht, hI⟩ := known_at hd hk
  have hl : s.heap.IsList l vs.toArray := News.isList N hm
  exact tail_any hl.typeIs slot_list_getitem.lookup (wpAny_getItem_list hl h0 (by omega) (by simpa using hv) (h a us kk ht hI)) hs
theorem len_known {a : Addr} {us : List Value} {kk : Nat} {n : Int} (N : News h₀ L s.heap news) (hm : (a, W.listOf us.toArray kk) ∈ news) (hI : IntsAre us (kinds n))
    (h : Q (.int ((kinds n).length : Int) (s.toks + 1)) { s with toks := s.toks + 1 + 1 }) : wpAny (model prog w) A (call (.builtin "len") [.ref a]) Q E s := by
  have hl : s.heap.IsList a us.toArray := News.isList N hm
  have e : us.toArray.size = (kinds n).length := by rw [List.size_toArray, hI.length]
  have hk := kinds_len n
  exact len_list hl (by rw [e]; omega) (by rw [e]; exact h)
end
theorem sgn0_mem (n : Int) : sgn0 n ∈ kindC := by
  rw [sgn0_eq]
  unfold s0
  repeat' split
  all_goals decide
theorem sgn3_mem (n a b c : Int) (x y z : Nat) (hx : x ∈ exeC) (hy : y ∈ exeC) (hz : z ∈ exeC) : sgn3 n a b c x y z ∈ exeC := by
  unfold sgn3
  repeat' split
  · exact hx
  · exact hy
  · exact hz
  · decide
theorem least_call {w : World} {loose : List Str} {mean : ExcName → Option Value} {mg mb : Str → Option Value}
    {dp un : Nat} {gd : Option (List Code)} {cn : Str} {cs : Scope} {a : Addr} {ccd : Value} {cl : List (Str × Addr)} {outer : List Env} {A₀ : Around} {base h₀ : Heap} {L : Addr} {m : Str → Option Value} {news : List (Addr × Obj)} {s : Shared} {n : Int} {t₀ : Tok} {Q E : Value → Shared → Prop}
    (B : Below A₀ base outer h₀) (F : Fr h₀ L s.heap m) (X : (hd.heap_39 w.params).In h₀) (N : News h₀ L s.heap news) (T : Top hd.view_39 loose mean mg mb h₀) (hk : cs.kind = .function)
    (hd' : dp + 3 < recursionLimit) (hu : un + 30 < cLine)
    (hret : ∀ t h' tk', Fr h₀ L h' m → News h₀ L h' news → Q (.int (leastOf n) t) { s with heap := h', toks := tk' }) :
    wpAny (model PySem.Challenge.rw_at0004_01.row.prog w) (ktrTop dp un gd cn cs L a ccd cl outer) (call (.ref 129) [.str (fmS n) t₀]) Q E s :=
  ll_call B F X N T hk hd' hu (sgn0_mem n) (sgn3_mem _ _ _ _ _ _ _ (by decide) (by decide) (by decide)) (sgn3_mem _ _ _ _ _ _ _ (by decide) (by decide) (by decide)) (sgn3_mem _ _ _ _ _ _ _ (by decide) (by decide) (by decide)) hret
theorem fm_call_least {w : World} {loose : List Str} {mean : ExcName → Option Value} {mg mb : Str → Option Value}
    {dp un : Nat} {gd : Option (List Code)} {cn : Str} {cs : Scope} {a : Addr} {ccd : Value} {cl : List (Str × Addr)} {outer : List Env} {A₀ : Around} {base h₀ : Heap} {L : Addr} {m : Str → Option Value} {news : List (Addr × Obj)} {s : Shared} {n : Int} {t₀ : Tok} {Q E : Value → Shared → Prop}
    (B : Below A₀ base outer h₀) (F : Fr h₀ L s.heap m) (X : (hd.heap_39 w.params).In h₀) (N : News h₀ L s.heap news) (T : Top hd.view_39 loose mean mg mb h₀) (hk : cs.kind = .function)
    (hd' : dp + 2 < recursionLimit) (hu : un + 30 < cLine)
    (hret : Rt h₀ L m news s Q (fun t => .str (fmS n) t)) :
    wpAny (model PySem.Challenge.rw_at0004_01.row.prog w) (ktrTop dp un gd cn cs L a ccd cl outer) (call (.ref 117) [.int (leastOf n) t₀]) Q E s :=
  fm_call B F X N T hk hd' hu (by rw [fm_least]; exact hret)
structure TurnFacts (n : Int) : Prop where
  mode : Builtin.bitAnd (leastOf n) 4095 = Builtin.bitAnd n 4095
  one : (kinds n).length ≤ 1
  some : kinds n ≠ [] → leastOf n = n.fmod 65536
  none : kinds n = [] → leastOf n < 4096
theorem turnFacts (n : Int) : TurnFacts n :=
  ⟨mode_least n, kinds_len n, fun h => by rw [least_mod n h, Int.fmod_eq_emod_of_nonneg _ (by decide)], least_small n⟩
theorem turn_of {vs : List Value} {ms : List Int} (_h : StrsAre vs (ms.map fmS)) (k : Int) : TurnFacts (ms.getD k.toNat 0) := turnFacts _
theorem all_snoc {l : List Bool} {b : Bool} (h : ∀ x ∈ l, x = true) (hb : b = true) : ∀ x ∈ l ++ [b], x = true := fun x hx => by
  rcases List.mem_append.mp hx with hx | hx
  · exact h x hx
  · rw [List.mem_singleton.mp hx]; exact hb
end Mine
end

section
open PySem PySem.W PyProof.Rows PySem.Spec PySem.Calls
set_option Elab.async false
set_option maxRecDepth 100000
namespace Mine
structure Stop (P : Prop) : Prop where
  out : P
local macro_rules | `(tactic| walk_at "call ref") => `(tactic| (k_here; (with_reducible show wpAny _ _ (call (Value.ref 117) [Value.int _ _]) _ _ _); k_dflt (refine fm_call (by k_asm) (by k_asm) (by k_asm) (by k_asm) (by k_asm) (by first | exact rfl | assumption) (by ktr_room) (by ktr_units) ?_; intro t9 h9 tk9 F9 N9; (try dsimp only); (try k_fold))))
local macro_rules | `(tactic| walk_at "call ref") => `(tactic| (k_here; (with_reducible show wpAny _ _ (call (Value.ref 122) [Value.int _ _]) _ _ _); k_dflt (refine lk_call (by k_asm) (by k_asm) (by k_asm) (by k_asm) (by k_asm) (by first | exact rfl | assumption) (by ktr_room) (by ktr_units) ?_; intro l9 us9 k9 h9 tk9 F9 N9 ne9 hI9; (try dsimp only); (try k_fold))))
local macro_rules | `(tactic| walk_at "exec Assign cons ListComp") => `(tactic| (k_here; (with_reducible show wpAny _ _ (exec (Stmt.Assign _ (PySem.Expr.ListComp (PySem.Expr.Call (PySem.Expr.Name _ _) [PySem.Expr.Name _ _] _ _) _ _ _) _) _) _ _ _); k_dflt (refine LCg.Assign_ListComp_U (F₀ := by k_asm) (by rfl) (by with_unfolding_all rfl) (by with_unfolding_all rfl) (by decide) (by rfl) (by decide) (by rfl) (by rfl) (by rfl) ?_)))
local macro_rules | `(tactic| walk_at "CompSrc") => `(tactic| (k_here; (with_reducible show LCg.CompSrc _ _ _ _ _ _ _ (PySem.Expr.Call (PySem.Expr.Name (Str.ofString "filemode") _) _ _ _) _ _ _ _ _ _); k_dflt (refine LCg.CompSrc.ledger (by rfl) (by k_asm) (by k_asm) (by k_mem) (by (rw [sizeLine_eq]; simp only [List.size_toArray]; omega)) ?_; intro g'; (refine texts_rest fmS (by assumption) (fun k' t' I' oI' C' oC' D' m' ys' h' tk' E' hk' hC' hx' F' N' off' ne' => ?_) (fun ys' hy' => ?_)); (all_goals (try k_fold)))))
local macro_rules | `(tactic| walk_at "CompSrc") => `(tactic| (k_here; (with_reducible show LCg.CompSrc _ _ _ _ _ _ _ (PySem.Expr.Call (PySem.Expr.Name (Str.ofString "_law_kind") _) _ _ _) _ _ _ _ _ _); k_dflt (refine LCg.CompSrc.ledger (by rfl) (by k_asm) (by k_asm) (by k_mem) (by (rw [sizeLine_eq]; simp only [List.size_toArray]; omega)) ?_; intro g'; (refine lists_rest (by assumption) (fun tl' k' t' I' oI' C' oC' D' m' ys' h' tk' E' hk' hC' hx' F' N' off' ne' => ?_) (fun ys' tl' hy' => ?_)); (all_goals (try k_fold)))))
local macro_rules | `(tactic| walk_at "eval ListComp") => `(tactic| (k_here; (with_reducible show wpAny _ _ (eval (PySem.Expr.ListComp (PySem.Expr.Call (PySem.Expr.Name (Str.ofString "len") _) [PySem.Expr.Name _ _] _ _) _ _ _) _) _ _ _); k_dflt (refine LCg.ListComp_U (F₀ := by k_asm) (by rfl) (by decide) (by rfl) (by decide) (by rfl) ?_)))
local macro_rules | `(tactic| walk_at "CompSrc") => `(tactic| (k_here; (with_reducible show LCg.CompSrc _ _ _ _ _ _ _ (PySem.Expr.Call (PySem.Expr.Name (Str.ofString "len") _) _ _ _) _ _ _ _ _ _); k_dflt (refine LCg.CompSrc.ledger (by rfl) (by k_asm) (by k_asm) (by k_mem) (by (rw [sizeLine_eq]; simp only [List.size_toArray]; have hsl9 := StrsAre.length (by assumption); simp only [List.length_map] at hsl9; omega)) ?_; intro g'; (refine lens_rest (by assumption) (fun k' t' I' oI' C' oC' D' m' ys' h' tk' E' hk' hC' hx' F' N' off' ne' => ?_) (fun ys' hy' => ?_)); (all_goals (try k_fold)))))
theorem fmS_len (n : Int) : (fmS n).length = 10 := rfl
theorem sign_fit {x : Str} {ns : List Int} (h : x ∈ ns.map fmS) : ¬ (x.length : Int) ≥ 2 ^ 63 := by
  obtain ⟨n, _, rfl⟩ := List.mem_map.mp h
  rw [fmS_len]
  omega
local macro_rules | `(tactic| walk_at "call builtin:len") => `(tactic| ((with_reducible show wpAny _ _ (call (Value.builtin "len") [Value.str _ _]) _ _ _); k_dflt (refine len_str (sign_fit (by assumption)) ?_)))
local macro_rules | `(tactic| walk_at "KCfEl") => `(tactic| k_dflt (exact kcf_el rfl rfl rfl))
local macro_rules | `(tactic| walk_at "CompEnd") => `(tactic| k_dflt (refine comp_end (by assumption) (by assumption) (by assumption) ?_ ?_; focus lcg_src))
local macro_rules | `(tactic| walk_at "CompEnd") => `(tactic| k_dflt (refine comp_endK (by assumption) (by assumption) (by assumption) (by assumption) (Or.inr ⟨_, List.mem_append_left _ (by k_mem), rfl, _, rfl⟩) (by assumption)))
local macro_rules | `(tactic| walk_at "KCtEl") => `(tactic| k_dflt (exact kct_el rfl rfl rfl))
local macro_rules | `(tactic| k_mem) => `(tactic| first | assumption | exact List.mem_append_left _ (by assumption))
local macro_rules | `(tactic| walk_at "call ref") => `(tactic| (k_here; (with_reducible show wpAny _ _ (call (Value.ref 117) [Value.int (leastOf _) _]) _ _ _); k_dflt (refine fm_call_least (by k_asm) (by k_asm) (by k_asm) (by k_asm) (by k_asm) (by first | exact rfl | assumption) (by ktr_room) (by ktr_units) ?_; intro t9 h9 tk9 F9 N9; (try dsimp only); (try k_fold))))
local macro_rules | `(tactic| walk_at "call ref") => `(tactic| (k_here; (with_reducible show wpAny _ _ (call (Value.ref 129) [Value.str (fmS _) _]) _ _ _); k_dflt (refine least_call (by k_asm) (by k_asm) (by k_asm) (by k_asm) (by k_asm) (by first | exact rfl | assumption) (by ktr_room) (by ktr_units) ?_; intro t9 h9 tk9 F9 N9; (try dsimp only); (try k_fold))))
structure IdxAt (k : Int) (ms : List Int) : Prop where
  lo : 0 ≤ k
  hi : k < (ms.length : Int)
local macro_rules | `(tactic| walk_at "subscriptTail") => `(tactic| (k_here; (with_reducible show wpAny _ _ (subscriptTail _ _ (Value.ref _) (Value.int _ _)) _ _ _); k_dflt (first
  | (refine item_sign (by assumption) (by k_asm) (by k_mem) (IdxAt.lo (by assumption)) (IdxAt.hi (by assumption)) (by omega) ?_; intro t9)
  | (refine item_known (by assumption) (by k_asm) (by k_mem) (IdxAt.lo (by assumption)) (IdxAt.hi (by assumption)) (by omega) ?_; intro a9 us9 kk9 hm9 hI9)
  | (refine item_mode (by assumption) (by k_asm) (by k_mem) (IdxAt.lo (by assumption)) (IdxAt.hi (by assumption)) (by omega) ?_; intro t9))))
local macro_rules | `(tactic| walk_at "call builtin:len") => `(tactic| (k_here; (with_reducible show wpAny _ _ (call (Value.builtin "len") [Value.ref _]) _ _ _); k_dflt (refine len_known (by k_asm) (by k_mem) (by assumption) ?_)))
theorem idx_of {vs : List Value} {ms : List Int} {k : Int} {p : Nat} (_h : StrsAre vs (ms.map fmS)) (e : k = 0 + (p : Int)) (h : p < ((ms.length : Int) - 0).toNat) : IdxAt k ms := ⟨by omega, by omega⟩
theorem idx_in {ms : List Int} {k j : Int} {p : Nat} (ix : IdxAt k ms) (e : j = 0 + (p : Int)) (h : p < (k - 0).toNat) : IdxAt j ms := ⟨by omega, by have := ix.hi; omega⟩
structure Past : Prop where
  h : True
section
variable {prog : Program} {w : World} {A : Around} {E : Value → Shared → Prop} {s : Shared} {h₀ : Heap} {L a b : Addr} {news : List (Addr × Obj)} {us : List Value} {kk : Nat} {n : Int} {Q : Value → Shared → Prop}
theorem ne_empty (N : News h₀ L s.heap news) (hm : (a, W.listOf us.toArray kk) ∈ news) (hI : IntsAre us (kinds n)) (hb : (b, W.listOf #[] 0) ∈ news) (hu : A.units + 64 < cLine) (h : Q (.bool (!decide (kinds n = []))) s) :
    wpAny (model prog w) A (compareOp .NotEq (.ref a) (.ref b)) Q E s := ne_intsK (News.isList N hm) hI (us := []) (News.isList N hb) .nil hu h
theorem eq_empty (N : News h₀ L s.heap news) (hm : (a, W.listOf us.toArray kk) ∈ news) (hI : IntsAre us (kinds n)) (hb : (b, W.listOf #[] 0) ∈ news) (hu : A.units + 64 < cLine) (h : Q (.bool (decide (kinds n = []))) s) :
    wpAny (model prog w) A (compareOp .Eq (.ref a) (.ref b)) Q E s := eq_intsK (News.isList N hm) hI (us := []) (News.isList N hb) .nil hu h
end
local macro_rules | `(tactic| walk_at "compareOp NotEq ref ref") => `(tactic| (k_here; k_dflt (refine ne_empty (by k_asm) (by k_mem) (by assumption) (by k_mem) (by units_room) ?_)))
local macro_rules | `(tactic| walk_at "compareOp Eq ref ref") => `(tactic| (k_here; k_dflt (refine eq_empty (by k_asm) (by k_mem) (by assumption) (by k_mem) (by units_room) ?_)))
structure KNil (n : Int) : Prop where
  h : kinds n = []
structure KNo (n : Int) : Prop where
  h : kinds n ≠ []
theorem kq1 {n : Int} (x : KNo n) : (!decide (kinds n = [])) = true := by simp [x.h]
theorem kq2 {n : Int} (x : KNil n) : ¬ ((!decide (kinds n = [])) = true) := by simp [x.h]
theorem kq3 {n : Int} (x : KNil n) : decide (kinds n = []) = true := by simp [x.h]
theorem kq4 {n : Int} (x : KNo n) : ¬ (decide (kinds n = []) = true) := by simp [x.h]
theorem kq5 {n : Int} (x : KNo n) : ¬ ((leastOf n != n.fmod 65536) = true) := by rw [(turnFacts n).some x.h]; simp
theorem kq6 {n : Int} (x : KNil n) : ¬ (decide (4096 ≤ leastOf n) = true) := by
  have := (turnFacts n).none x.h
  simp
  omega
theorem ite_kindsN {n : Int} {P R : Prop} (h1 : KNo n → P) (h2 : KNil n → R) : if (!decide (kinds n = [])) = true then P else R := by
  by_cases h : kinds n = []
  · rw [if_neg (kq2 ⟨h⟩)]; exact h2 ⟨h⟩
  · rw [if_pos (kq1 ⟨h⟩)]; exact h1 ⟨h⟩
theorem ite_kindsE {n : Int} {P R : Prop} (h1 : KNil n → P) (h2 : KNo n → R) : if decide (kinds n = []) = true then P else R := by
  by_cases h : kinds n = []
  · rw [if_pos (kq3 ⟨h⟩)]; exact h1 ⟨h⟩
  · rw [if_neg (kq4 ⟨h⟩)]; exact h2 ⟨h⟩
structure Joined : Prop where
  h : True
def JoinPost (h₀ : Heap) (L : Addr) (m : Str → Option Value) (news : List (Addr × Obj)) (s : Shared) (f : Flow) (s' : Shared) : Prop :=
  f = .next ∧ ∃ h' tk, s' = { s with heap := h', toks := tk } ∧ Fr h₀ L h' m ∧ News h₀ L h' news
theorem join_next {M : Model} {A : Around} {E : Value → Shared → Prop} {s : Shared} {h₀ : Heap} {L : Addr} {m : Str → Option Value} {news : List (Addr × Obj)} {t : Sem Flow} {Q : Flow → Shared → Prop} (_F : Fr h₀ L s.heap m) (_N : News h₀ L s.heap news)
    (h1 : Joined → wpAny M A t (JoinPost h₀ L m news s) E s) (h2 : ∀ h tk, Fr h₀ L h m → News h₀ L h news → Q .next { s with heap := h, toks := tk }) : wpAny M A t Q E s :=
  wpAny_mono (h1 ⟨trivial⟩) (fun f s' hq => by obtain ⟨rfl, h', tk, rfl, F', N'⟩ := hq; exact h2 h' tk F' N') fun _ _ e => e
theorem join_end {h₀ h' : Heap} {L : Addr} {m : Str → Option Value} {news all : List (Addr × Obj)} {s : Shared} {tk : Nat} (F : Fr h₀ L h' m) (N : News h₀ L h' all) (hs : ∀ p ∈ news, p ∈ all) : JoinPost h₀ L m news s .next { s with heap := h', toks := tk } :=
  ⟨rfl, h', tk, rfl, F, fun p hp => N p (hs p hp)⟩
local macro_rules | `(tactic| walk_at "JoinPost") => `(tactic| k_dflt (refine join_end (by assumption) (by assumption) (by (intro p9 hp9; first | exact hp9 | exact List.mem_cons_of_mem _ hp9 | exact List.mem_cons_of_mem _ (List.mem_cons_of_mem _ hp9) | exact List.mem_cons_of_mem _ (List.mem_cons_of_mem _ (List.mem_cons_of_mem _ hp9))))))
theorem kinds_dec (n : Int) : ¬ (decide (1 < ((kinds n).length : Int)) = true) := by
  have := kinds_len n
  simp
  omega
local macro_rules | `(tactic| walk_at "exec If") => `(tactic| (rename Past => hPast9; (with_reducible show wpAny _ _ (exec (Stmt.If (PySem.Expr.BoolOp _ (PySem.Expr.BoolOp _ _ _ :: _) _) _ _ _) _) _ _ _); (fail_if_success (rename Joined => hJ9)); k_dflt (refine join_next (by k_asm) (by k_asm) (fun hJ9 => ?_) (fun h9 tk9 F9 N9 => ?_)); (all_goals (try dsimp only)); (all_goals (try k_fold))))
structure JTurn : Prop where
  h : True
local macro_rules | `(tactic| walk_at "ite") => `(tactic| (rename Past => hPast9; (fail_if_success (rename JTurn => hJT9)); refine Stop.out ?_))
local macro_rules | `(tactic| walk_at "ite") => `(tactic| (k_closed; k_dflt (first | refine ite_pos (by decide) ?_ | refine ite_neg (by decide) ?_)))
theorem ne_self (x : Str) : ¬ ((x != x) = true) := by simp
theorem md1 (n : Int) : ¬ ((Builtin.bitAnd (leastOf n) 4095 != Builtin.bitAnd n 4095) = true) := by rw [mode_least]; simp
local macro_rules | `(tactic| walk_at "ite") => `(tactic| k_dflt (first | refine ite_neg (kinds_dec _) ?_ | refine ite_neg (ne_self _) ?_ | refine ite_neg (md1 _) ?_ | refine ite_pos (kq1 (by assumption)) ?_ | refine ite_neg (kq2 (by assumption)) ?_ | refine ite_pos (kq3 (by assumption)) ?_ | refine ite_neg (kq4 (by assumption)) ?_ | refine ite_neg (kq5 (by assumption)) ?_ | refine ite_neg (kq6 (by assumption)) ?_ | refine ite_kindsN (fun hk9 => ?_) (fun hk9 => ?_) | refine ite_kindsE (fun hk9 => ?_) (fun hk9 => ?_)))
local macro_rules | `(tactic| walk_at "exec For Name Call cons nil") => `(tactic| ((with_reducible show wpAny _ _ (exec (Stmt.For _ _ (_ :: _ :: _ :: _ :: _) _ _) _) _ _ _); (fail_if_success (rename Past => hPast9)); refine Stop.out ?_))
theorem good0 (ms : List Int) : decide (List.map (fun k : Str => (k.length : Int)) (List.map fmS ms) = (List.replicate ((ms.length : Int)).toNat [10]).flatten) = true := by
  apply decide_eq_true
  rw [Int.toNat_natCast]
  induction ms with
  | nil => rfl
  | cons n r ih =>
    rw [List.map_cons, List.map_cons, ih, List.length_cons, List.replicate_succ, List.flatten_cons, fmS_len]
    rfl
theorem all_one {b : Bool} (h : b = true) : ∀ x ∈ [b], x = true := fun x hx => by rw [List.mem_singleton.mp hx]; exact h
structure GoodK (n : Nat) (l : List Bool) : Prop where
  len : l.length ≤ n
  all : ∀ b ∈ l, b = true
theorem GoodK.one {n : Nat} {b : Bool} (h : b = true) : GoodK (1 + n) [b] := ⟨by simp, fun x hx => by rw [List.mem_singleton.mp hx]; exact h⟩
theorem GoodK.weak {n m : Nat} {l : List Bool} (g : GoodK n l) (h : n ≤ m) : GoodK m l := ⟨Nat.le_trans g.len h, g.all⟩
theorem GoodK.snoc {n : Nat} {pre : List Int} {j : Int} {l : List Bool} {b : Bool} (g : GoodK (n + pre.length) l) (h : b = true) : GoodK (n + (pre ++ [j]).length) (l ++ [b]) :=
  ⟨by have := g.len; simp only [List.length_append, List.length_cons, List.length_nil]; omega, all_snoc g.all h⟩
theorem GoodK.allId {n : Nat} {l : List Bool} (g : GoodK n l) : l.all id = true := List.all_eq_true.mpr fun b hb => g.all b hb
theorem good_fits {vs : List Value} {l : List Bool} {n : Nat} (h : LSm.BoolsAre vs l) (g : GoodK n l) (hn : n ≤ 1000) : vs.toArray.size ≤ sizeLine := by
  have h1 := h.length
  have h2 := g.len
  rw [sizeLine_eq, List.size_toArray]
  omega
structure Yes (b : Bool) : Prop where
  h : b = true
structure Nay (b : Bool) : Prop where
  h : ¬ (b = true)
theorem ite_beq {α : Type} [BEq α] {x y : α} {P R : Prop} (h1 : Yes (x == y) → P) (h2 : Nay (x == y) → R) : if (x == y) = true then P else R := by
  by_cases h : (x == y) = true
  · rw [if_pos h]; exact h1 ⟨h⟩
  · rw [if_neg h]; exact h2 ⟨h⟩
theorem vb {a b : Int} {q : Bool} (h : (fmS a = fmS b) ↔ q = true) : ((fmS a == fmS b) == q) = true := by
  by_cases e : fmS a = fmS b
  · have := h.mp e
    rw [this, e]
    simp
  · have : ¬ q = true := fun x => e (h.mpr x)
    have h2 : (fmS a == fmS b) = false := by rw [beq_eq_false_iff_ne]; exact e
    rw [h2]
    cases q
    · rfl
    · exact absurd rfl this
theorem v1 {a b : Int} (h1 : Yes (Builtin.bitAnd a 4095 == Builtin.bitAnd b 4095)) (h2 : Yes (Builtin.bitAnd a 61440 == Builtin.bitAnd b 61440)) : ((fmS a == fmS b) == (Builtin.bitAnd a 61440 == Builtin.bitAnd b 61440)) = true :=
  vb ⟨fun _ => h2.h, fun _ => (fm_iff a b).mpr ⟨beq_iff_eq.mp h1.h, .inl (beq_iff_eq.mp h2.h)⟩⟩
theorem v2 {a b : Int} (h1 : Yes (Builtin.bitAnd a 4095 == Builtin.bitAnd b 4095)) (h2 : Nay (Builtin.bitAnd a 61440 == Builtin.bitAnd b 61440)) (h3 : KNil a) : ((fmS a == fmS b) == decide (kinds b = [])) = true :=
  vb ⟨fun e => decide_eq_true (((fm_iff a b).mp e).2.elim (fun x => absurd (beq_iff_eq.mpr x) h2.h) fun x => x.2), fun e => (fm_iff a b).mpr ⟨beq_iff_eq.mp h1.h, .inr ⟨h3.h, of_decide_eq_true e⟩⟩⟩
theorem v3 {a b : Int} (h2 : Nay (Builtin.bitAnd a 61440 == Builtin.bitAnd b 61440)) (h3 : KNo a) : ((fmS a == fmS b) == decide (kinds a = [])) = true :=
  vb ⟨fun e => ((fm_iff a b).mp e).2.elim (fun x => absurd (beq_iff_eq.mpr x) h2.h) fun x => absurd x.1 h3.h, fun e => absurd (of_decide_eq_true e) h3.h⟩
theorem v4 {a b : Int} (h1 : Nay (Builtin.bitAnd a 4095 == Builtin.bitAnd b 4095)) : ((fmS a == fmS b) == (Builtin.bitAnd a 4095 == Builtin.bitAnd b 4095)) = true :=
  vb ⟨fun e => absurd (beq_iff_eq.mpr ((fm_iff a b).mp e).1) h1.h, fun e => absurd e h1.h⟩
local macro_rules | `(tactic| walk_at "ite") => `(tactic| ((rename JTurn => hJT9); k_dflt (refine ite_beq (fun hb9 => ?_) (fun hb9 => ?_))))
local macro_rules | `(tactic| walk_at "call builtin:list.append") => `(tactic| ((rename JTurn => hJT9); (with_reducible show wpAny _ _ (call (Value.builtin _) [Value.ref _, _]) _ _ _); k_dflt (refine' append_K ?k1 ?k2 ?k3 ?_ ?z; (case k1 => k_asm); (case k2 => k_asm); (case k3 => k_upd); (case z => exact good_fits (by assumption) (by assumption) (by omega)); k_whole); intro h' F' N'; (try k_sweep)))
theorem all_goodK {prog : Program} {w : World} {A : Around} {E : Value → Shared → Prop} {s : Shared} {h₀ : Heap} {L l : Addr} {m : Str → Option Value} {news : List (Addr × Obj)} {vs : List Value} {bs : List Bool} {k : Nat} {Q : Value → Shared → Prop} (F : Fr h₀ L s.heap m) (N : News h₀ L s.heap news) (hh : A.handled = none) (hl : s.heap.IsList l vs.toArray) (hb : LSm.BoolsAre vs bs) (g : GoodK k bs)
    (h : ∀ h' tk, Fr h₀ L h' m → News h₀ L h' news → Q (.bool true) { s with heap := h', toks := tk }) : wpAny (model prog w) A (call (.builtin "all") [.ref l]) Q E s :=
  LSm.all_bools F N hh hl hb fun h' tk F' N' => by rw [g.allId]; exact h h' tk F' N'
local macro_rules | `(tactic| walk_at "call builtin:all") => `(tactic| ((with_reducible show wpAny _ _ (call (Value.builtin "all") [Value.ref _]) _ _ _); k_dflt (refine all_goodK (by k_asm) (by k_asm) (by rfl) (News.isList (by k_asm) (by k_mem)) (by assumption) (by assumption) ?_); intro h' tk' F' N'))
theorem out_end {τ : Type} {l : Addr} {vs : List Value} {bs : List Bool} {n : Nat} {cst R : List (Addr × Obj)} {stored : List Str} {m₀ : Str → Option Value} {P : τ → (List Value × List Bool × Nat) → Prop} {adr : List Addr} {pre : τ} {x : Str} {tl : List (Addr × Obj)} {h₀ : Heap} {L : Addr} {m' : Str → Option Value} {own : List (Addr × Obj)} {s₁ : Shared} {h' : Heap} {tk : Nat}
    (h0 : KdSep own tl adr) (F : Fr h₀ L h' m') (N : News h₀ L h' ((l, W.listOf vs.toArray n) :: R)) (hf : LSm.BoolsAre vs bs) (hn : ∀ p ∈ cst ++ tl, p ∈ R) (ho : ∀ p ∈ own, p ∈ R) (hadr : l :: cst.map (·.1) = adr)
    (hr : ∀ z, z ≠ x → (∀ p ∈ ([] : List (Str × Value)), z ≠ p.1) → stored.contains z = false → m' z = m₀ z) (hp : P pre (vs, bs, n)) :
    InvEndG h₀ L (KdS (fun c : List Value × List Bool × Nat => [(l, W.listOf c.1.toArray c.2.2)]) cst (fun _ => []) (fun _ c => LSm.BoolsAre c.1 c.2.1) x stored m₀ P adr pre) own s₁ { s₁ with heap := h', toks := tk } :=
  kd_end (vs, bs, n) [] h0 F N (fun p hp => by
      rcases List.mem_cons.mp hp with rfl | hp
      · exact .head _
      · exact .tail _ (hn p hp)) (fun p hp => .tail _ (ho p hp)) hadr (fun _ h => nomatch h) (fun _ h => nomatch h) (fun _ h => nomatch h) hr hf hp
theorem sub_cons {α : Type} {a : α} {l l' : List α} (h : ∀ p ∈ l, p ∈ l') : ∀ p ∈ a :: l, p ∈ a :: l' := fun p hp => by
  rcases List.mem_cons.mp hp with rfl | hp
  · exact .head _
  · exact .tail _ (h p hp)
theorem sub_tail {α : Type} {a b c d : List α} : ∀ p ∈ a ++ b, p ∈ a ++ (b ++ c) ++ d := fun p hp => by
  simp only [List.mem_append] at hp ⊢
  rcases hp with h | h
  · exact .inl (.inl h)
  · exact .inl (.inr (.inl h))
theorem sub_own {α : Type} {a b c d : List α} : ∀ p ∈ c, p ∈ a ++ (b ++ c) ++ d := fun p hp => by
  simp only [List.mem_append]
  exact .inl (.inr (.inr hp))
theorem sub_skip {α : Type} {a : α} {l l' : List α} (h : ∀ p ∈ l, p ∈ l') : ∀ p ∈ l, p ∈ a :: l' := fun p hp => .tail _ (h p hp)
structure JDone : Prop where
  h : True
local macro_rules | `(tactic| walk_at "InvEndG") => `(tactic| (rename JDone => hJD9; refine Stop.out ?_))
local macro_rules | `(tactic| walk_at "InvEndG") => `(tactic| (rename JTurn => hJT9; refine Stop.out ?_))
theorem in_end {τ : Type} {l : Addr} {vs : List Value} {bs : List Bool} {v : Bool} {n : Nat} {cst ns : List (Addr × Obj)} {stored : List Str} {m₀ : Str → Option Value} {P : τ → (List Value × List Bool × Nat) → Prop} {adr : List Addr} {pre : τ} {x : Str} {tl : List (Addr × Obj)} {h₀ : Heap} {L : Addr} {m' : Str → Option Value} {own : List (Addr × Obj)} {s₁ : Shared} {h' : Heap} {tk : Nat}
    (h0 : KdSep own tl adr) (F : Fr h₀ L h' m') (N : News h₀ L h' ns) (hl : (l, W.listOf (vs.toArray.push (.bool v)) n) ∈ ns) (hf : LSm.BoolsAre vs bs) (hn : ∀ p ∈ cst ++ tl, p ∈ ns) (ho : ∀ p ∈ own, p ∈ ns) (hadr : l :: cst.map (·.1) = adr)
    (hr : ∀ z, z ≠ x → (∀ p ∈ ([] : List (Str × Value)), z ≠ p.1) → stored.contains z = false → m' z = m₀ z) (hp : P pre (vs ++ [.bool v], bs ++ [v], n)) :
    InvEndG h₀ L (KdS (fun c : List Value × List Bool × Nat => [(l, W.listOf c.1.toArray c.2.2)]) cst (fun _ => []) (fun _ c => LSm.BoolsAre c.1 c.2.1) x stored m₀ P adr pre) own s₁ { s₁ with heap := h', toks := tk } :=
  kd_end (vs ++ [.bool v], bs ++ [v], n) [] h0 F N (fun p hp => by
      rcases List.mem_cons.mp hp with rfl | hp
      · rw [← List.push_toArray]; exact hl
      · exact hn p hp) ho hadr (fun _ h => nomatch h) (fun _ h => nomatch h) (fun _ h => nomatch h) hr (kbo_app hf (.cons v .nil)) hp
theorem sub_tail2 {α : Type} {a b c : List α} : ∀ p ∈ a ++ b, p ∈ a ++ (b ++ c) := fun p hp => by
  simp only [List.mem_append] at hp ⊢
  rcases hp with h | h
  · exact .inl h
  · exact .inr (.inl h)
theorem sub_own2 {α : Type} {a b c : List α} : ∀ p ∈ c, p ∈ a ++ (b ++ c) := fun p hp => by
  simp only [List.mem_append]
  exact .inr (.inr hp)
set_option maxHeartbeats 40000000 in
theorem tt : PySem.Challenge.rw_at0004_01.Holds := by
  k_with "pyIter ref" => (k_of "x" => (k_state (fun pre modes => modes.length = 2 + 2 * pre.length) "modes"; all_goals (refine Stop.out ?_)))
  k_with "pyIter ref" => (k_of "k" => (k_state (fun pre bit => 0 < bit) "bit"; all_goals (refine Stop.out ?_)))
  refine hd ?_
  k_go0
  all_goals try k_fold
  k_steps
  · refine Stop.mk ?_
    k_steps
    · refine Stop.mk ?_
      k_steps
      all_goals w_report
    · refine Stop.mk ?_
      k_steps
      all_goals w_report
  · refine Stop.mk ?_
    k_with_none
    k_steps
    refine Stop.mk ?_
    have hPast : Past := ⟨trivial⟩
    k_with "state" => first
      | exact GoodK.one (good0 _)
      | exact GoodK.snoc (by assumption) (v1 (by assumption) (by assumption))
      | exact GoodK.snoc (by assumption) (v2 (by assumption) (by assumption) (by assumption))
      | exact GoodK.snoc (by assumption) (v3 (by assumption) (by assumption))
      | exact GoodK.snoc (by assumption) (v4 (by assumption))
      | exact GoodK.weak (by assumption) (by simp only [List.length_nil]; omega)
    k_with "pyIter ref" => (k_of "k" => (k_dat (fun (pre : List Int) good => GoodK (1 + 18 * pre.length) good) "good"; all_goals (refine Stop.out ?_)))
    k_with "pyIter ref" => (k_of "j" => (k_dat (fun (pre : List Int) good => GoodK (1 + 18 * kPre.length + pre.length) good) "good"; all_goals (refine Stop.out ?_)))
    k_steps
    · refine Stop.mk ?_
      rename StrsAre _ (List.map fmS _) => hS9
      rename _ = 0 + _ => kEq9
      rename _ < ((List.length _ : Int) - 0).toNat => kLt9
      have tf := turn_of hS9 (0 + (kPre.length : Int))
      have ix := idx_of hS9 kEq9 kLt9
      k_steps
      · refine Stop.mk ?_
        have hJT : JTurn := ⟨trivial⟩
        have jx := idx_in ix (by assumption) (by assumption)
        k_steps
        all_goals (refine Stop.mk ?_)
        all_goals (rename News _ _ _ _ => kNews9)
        all_goals (rename Fr _ _ _ _ => kFr9)
        all_goals (k_dflt (refine in_end kSep kFr9 kNews9 (by k_mem) kFacts ?_ ?_ rfl ?_ ?_))
        all_goals first
          | kst_same
          | k_dflt (exact sub_skip (sub_cons (sub_cons (sub_cons (sub_cons (sub_cons (sub_cons (sub_cons sub_tail2))))))))
          | k_dflt (exact sub_skip (sub_skip (sub_cons (sub_cons (sub_cons (sub_cons (sub_cons (sub_cons (sub_cons sub_tail2)))))))))
          | k_dflt (exact sub_skip (sub_skip (sub_skip (sub_skip (sub_skip (sub_skip (sub_skip (sub_skip (sub_skip sub_own2)))))))))
          | k_dflt (exact sub_skip (sub_skip (sub_skip (sub_cons (sub_cons (sub_cons (sub_cons (sub_cons (sub_cons (sub_cons sub_tail2))))))))))
          | k_dflt (exact sub_skip (sub_skip (sub_skip (sub_skip (sub_skip (sub_skip (sub_skip (sub_skip sub_own2))))))))
          | k_dflt (exact sub_skip (sub_skip (sub_skip (sub_skip (sub_skip (sub_skip (sub_skip (sub_skip (sub_skip (sub_skip sub_own2))))))))))
          | exact GoodK.snoc kInv (v1 (by assumption) (by assumption))
          | exact GoodK.snoc kInv (v2 (by assumption) (by assumption) (by assumption))
          | exact GoodK.snoc kInv (v3 (by assumption) (by assumption))
          | exact GoodK.snoc kInv (v4 (by assumption))
      · refine Stop.mk ?_
        have hJD : JDone := ⟨trivial⟩
        k_steps
        refine Stop.mk ?_
        k_dflt (refine out_end (by assumption) kFr kNews kFacts ?_ ?_ rfl ?_ ?_)
        · k_dflt (refine sub_cons (sub_cons (sub_cons (sub_cons (sub_cons (sub_cons (sub_cons sub_tail)))))))
        · k_dflt (refine sub_skip (sub_skip (sub_skip (sub_skip (sub_skip (sub_skip (sub_skip sub_own)))))))
        · kst_same
        · k_dflt (exact GoodK.weak kInv (by simp only [rangeKs_length, List.length_append, List.length_cons, List.length_nil]; omega))
    · refine Stop.mk ?_
      k_steps
end Mine
end

theorem PySem.Challenge.cw_at0004_01_holds : PySem.Challenge.rw_at0004_01.Holds :=
  Mine.tt
